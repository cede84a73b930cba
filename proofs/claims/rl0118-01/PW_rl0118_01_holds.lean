import PyProof.Rows.All
import Wide.All
import Wide.Closed
import Wide.TopOf
import KE.IntBitsLaws
import KE.TryLedger
import KE.RegMulBits
import KE.KTabExpr
import KE.KDictLaws
import KE.KMathGB
import KE.RegTryInHelper
import KE.KUnpackStar
import KE.LcSums
import KE.KFinally
import KE.TopReadKeeps
import KE.IntTextText
import KE.RegFinNonlin
import KE.BitLaws
import KE.KMathGC
import KE.KWords
import KE.KDictOf
import KE.KPassesOwn
import KE.HeadEqs
import KE.LcTurns
import Open.Fors
import Open.TopsExt
import Open.Script
import Open.FastT9
import Open.Dig
import OpenK.KCell
import OpenK.XOpen
import Wide.FinOn
import KE.KxPercentT
import KE.KIntText
import OpenK.AllK
import PySem.Challenge.RW_rl0118_01
set_option Elab.async false
set_option maxRecDepth 100000
namespace Mine
section
open PySem PySem.W PySem.Calls PyProof.Rows
set_option genSizeOf false
set_option genSizeOfSpec false
set_option genInjectivity false

/-- plain values -/
inductive At where
  | none
  | bool (b : Bool)
  | int (i : Int)
  | flt (x : UInt64)
  | str (s : Str)

/-- abstract data: tuples hold plain values; lists are numbered cells -/
inductive D where
  | at (a : At)
  | tup (l : List At)
  | lst (k : Nat)
  | frz (l : List At)
  | arg (l : List At)
  | fn (f : Addr)
  | dct

abbrev Cs := List (List D)

inductive All2 {α β : Type} (R : α → β → Prop) : List α → List β → Prop where
  | nil : All2 R [] []
  | cons {a b as bs} : R a b → All2 R as bs → All2 R (a :: as) (b :: bs)

namespace All2
variable {α β γ : Type} {R S : α → β → Prop}
theorem imp (f : ∀ a b, R a b → S a b) : ∀ {as bs}, All2 R as bs → All2 S as bs
  | _, _, .nil => .nil
  | _, _, .cons h t => .cons (f _ _ h) (imp f t)
theorem length : ∀ {as : List α} {bs : List β}, All2 R as bs → as.length = bs.length
  | _, _, .nil => rfl
  | _, _, .cons _ t => by simp [length t]
theorem get : ∀ {as : List α} {bs : List β}, All2 R as bs → ∀ {i : Nat} {b}, bs[i]? = some b → ∃ a, as[i]? = some a ∧ R a b
  | _, _, .nil, i, b, h => by simp at h
  | _, _, .cons h t, 0, b, e => by simp at e; subst e; exact ⟨_, rfl, h⟩
  | _, _, .cons h t, i + 1, b, e => by simp at e; obtain ⟨a, ha, hr⟩ := get t e; exact ⟨a, by simpa using ha, hr⟩
theorem getl : ∀ {as : List α} {bs : List β}, All2 R as bs → ∀ {i : Nat} {a}, as[i]? = some a → ∃ b, bs[i]? = some b ∧ R a b
  | _, _, .nil, i, b, h => by simp at h
  | _, _, .cons h t, 0, b, e => by simp at e; subst e; exact ⟨_, rfl, h⟩
  | _, _, .cons h t, i + 1, b, e => by simp at e; obtain ⟨a, ha, hr⟩ := getl t e; exact ⟨a, by simpa using ha, hr⟩
theorem append : ∀ {as as' : List α} {bs bs' : List β}, All2 R as bs → All2 R as' bs' → All2 R (as ++ as') (bs ++ bs')
  | _, _, _, _, .nil, h => h
  | _, _, _, _, .cons h t, h' => .cons h (append t h')
theorem take : ∀ {as : List α} {bs : List β} (n : Nat), All2 R as bs → All2 R (as.take n) (bs.take n)
  | _, _, 0, _ => by simpa using All2.nil
  | _, _, _ + 1, .nil => .nil
  | _, _, n + 1, .cons h t => .cons h (take n t)
theorem drop : ∀ {as : List α} {bs : List β} (n : Nat), All2 R as bs → All2 R (as.drop n) (bs.drop n)
  | _, _, 0, h => by simpa using h
  | _, _, _ + 1, .nil => .nil
  | _, _, n + 1, .cons _ t => drop n t
theorem map_l {f : γ → α} {g : γ → β} (h : ∀ c, R (f c) (g c)) : ∀ l : List γ, All2 R (l.map f) (l.map g)
  | [] => .nil
  | _ :: l => .cons (h _) (map_l h l)
theorem set : ∀ {as : List α} {bs : List β} (n : Nat) {a b}, All2 R as bs → R a b → All2 R (as.set n a) (bs.set n b)
  | _, _, _, _, _, .nil, _ => .nil
  | _, _, 0, _, _, .cons _ t, h => .cons h t
  | _, _, n + 1, _, _, .cons h0 t, h => .cons h0 (set n t h)
theorem eraseIdx : ∀ {as : List α} {bs : List β} (n : Nat), All2 R as bs → All2 R (as.eraseIdx n) (bs.eraseIdx n)
  | _, _, _, .nil => .nil
  | _, _, 0, .cons _ t => t
  | _, _, n + 1, .cons h0 t => .cons h0 (eraseIdx n t)
end All2

/-- what is kept beside the run: the cells' addresses; the floats by their tokens -/
structure Gh where
  ad : List Addr
  fl : Tok → Option UInt64
structure Gh.Le (g g' : Gh) : Prop where
  ad : g.ad <+: g'.ad
  fl : ∀ t x, g.fl t = some x → g'.fl t = some x
theorem Gh.Le.refl (g : Gh) : g.Le g := ⟨List.prefix_refl _, fun _ _ h => h⟩
theorem Gh.Le.trans {a b c : Gh} (x : a.Le b) (y : b.Le c) : a.Le c := ⟨x.ad.trans y.ad, fun t z h => y.fl t z (x.fl t z h)⟩
noncomputable def Gh.addL (g : Gh) (a : Addr) : Gh := ⟨g.ad ++ [a], g.fl⟩
theorem Gh.Le.addL (g : Gh) (a : Addr) : g.Le (g.addL a) := ⟨List.prefix_append _ _, fun _ _ h => h⟩

inductive RepA (fl : Tok → Option UInt64) : Value → At → Prop where
  | none : RepA fl .none .none
  | bool (b : Bool) : RepA fl (.bool b) (.bool b)
  | int (i : Int) (t : Tok) : RepA fl (.int i t) (.int i)
  | flt {x : UInt64} {t : Tok} : fl t = some x → RepA fl (.float x t) (.flt x)
  | str (s : Str) (t : Tok) : RepA fl (.str s t) (.str s)
theorem RepA.mono {fl fl' : Tok → Option UInt64} (h : ∀ t x, fl t = some x → fl' t = some x) {v a} (r : RepA fl v a) : RepA fl' v a := by
  cases r with
  | none => exact .none
  | bool b => exact .bool b
  | int i t => exact .int i t
  | flt e => exact .flt (h _ _ e)
  | str s t => exact .str s t
abbrev noFl : Tok → Option UInt64 := fun _ => .none

/-- the value v stands for d: base heap B, the cells' addresses σ, the heap h -/
inductive RepV (B : Heap) (σ : Gh) (h : Heap) : Value → D → Prop where
  | at {v a} : RepA σ.fl v a → RepV B σ h v (.at a)
  | tup {a vs l} : h.IsTuple a (List.toArray vs) → All2 (RepA σ.fl) vs l → RepV B σ h (.ref a) (.tup l)
  | lst {k a} : σ.ad[k]? = some a → RepV B σ h (.ref a) (.lst k)
  | frz {a vs l} : B.PlainList a (List.toArray vs) → All2 (RepA noFl) vs l → RepV B σ h (.ref a) (.frz l)
  | arg {a vs l} : B.IsList a (List.toArray vs) → All2 (RepA noFl) vs l → RepV B σ h (.ref a) (.arg l)
  | fn (f) : RepV B σ h (.ref f) (.fn f)
  | dct : RepV B σ h (.ref 58) .dct

abbrev RepVs (B : Heap) (σ : Gh) (h : Heap) := All2 (RepV B σ h)

/-- an object whose data is a sequence (a list, a tuple) -/
noncomputable def seqy (o : Obj) : Bool := match o.data with
  | .seq .. => true
  | _ => false
theorem seqy_seq {o : Obj} {vs : Array Value} {n : Nat} (h : o.data = .seq vs n) : seqy o = true := by unfold seqy; rw [h]
theorem seqy_dict {o : Obj} {es : Array DictEntry} {n : Nat} (h : o.data = .dict es n) : seqy o = false := by unfold seqy; rw [h]
theorem seqy_fields {o : Obj} {vs : Array Value} (h : o.data = .fields vs) : seqy o = false := by unfold seqy; rw [h]
theorem seqy_cell {o : Obj} {v : Option Value} (h : o.data = .cell v) : seqy o = false := by unfold seqy; rw [h]

/-- what a stretch of the run leaves as it was: all but lists and the frame's own -/
structure Ext (own : List Addr) (h h' : Heap) : Prop where
  keep : ∀ b o, h.get? b = some o → b ∉ own → seqy o = false → h'.get? b = some o
  tup : ∀ b vs, h.IsTuple b vs → h'.IsTuple b vs
  live : ∀ b o, h.get? b = some o → ∃ o', h'.get? b = some o'

theorem Ext.refl (own : List Addr) (h : Heap) : Ext own h h := ⟨fun _ _ e _ _ => e, fun _ _ e => e, fun _ o e => ⟨o, e⟩⟩
theorem Ext.trans {own : List Addr} {h h' h'' : Heap} (a : Ext own h h') (b : Ext own h' h'') : Ext own h h'' :=
  ⟨fun x o e n c => b.keep x o (a.keep x o e n c) n c, fun x vs e => b.tup x vs (a.tup x vs e), fun x o e => let ⟨o', e'⟩ := a.live x o e; b.live x o' e'⟩
theorem Ext.wide {own : List Addr} {h h' : Heap} (a : Ext [] h h') : Ext own h h' := ⟨fun x o e _ c => a.keep x o e (by simp) c, a.tup, a.live⟩
theorem Ext.grow {own : List Addr} {h h' : Heap} (k : ∀ b o, h.get? b = some o → h'.get? b = some o) : Ext own h h' :=
  ⟨fun b o e _ _ => k b o e, fun _ _ ⟨o, ho, r⟩ => ⟨o, k _ _ ho, r⟩, fun b o e => ⟨o, k b o e⟩⟩
/-- one object alone may change: a list, or one of the frame's own that is no tuple -/
theorem Ext.but {own : List Addr} {h h' : Heap} {x : Addr} (e : Heap.ExtBut x h h') (hx : x ∈ own ∨ ∀ o, h.get? x = some o → seqy o = true) (ht : ∀ vs, ¬ h.IsTuple x vs) (hl : ∃ o', h'.get? x = some o') : Ext own h h' := by
  refine ⟨fun b o q n c => e b o ?_ q, fun b vs t => ?_, fun b o q => ?_⟩
  · rintro rfl
    rcases hx with hx | hx
    · exact n hx
    · rw [hx o q] at c; cases c
  · obtain ⟨o, ho, r⟩ := id t
    exact ⟨o, e b o (by rintro rfl; exact ht _ t) ho, r⟩
  · by_cases hb : b = x
    · subst hb; exact hl
    · exact ⟨o, e b o hb q⟩
theorem plain_no_tuple {h : Heap} {x : Addr} {ws : Array Value} (p : h.PlainList x ws) (vs : Array Value) : ¬ h.IsTuple x vs := by
  rintro ⟨o, ho, hc, _⟩
  obtain ⟨n, p⟩ := p
  rw [p] at ho; cases ho; simp at hc
theorem ns_no_tuple {h : Heap} {x : Addr} {m : Str → Option Value} (p : h.Ns x m) (vs : Array Value) : ¬ h.IsTuple x vs := by
  rintro ⟨o, ho, _, n, hd⟩
  obtain ⟨o', es, ep, ho', hd', _⟩ := p
  rw [ho'] at ho; cases ho; rw [hd] at hd'; cases hd'
theorem ns_no_list {h : Heap} {x : Addr} {m : Str → Option Value} (p : h.Ns x m) (vs : Array Value) : ¬ h.PlainList x vs := by
  rintro ⟨n, q⟩
  obtain ⟨o', es, ep, ho', hd', _⟩ := p
  rw [ho'] at q; cases q; cases hd'
theorem cell_no_tuple {h : Heap} {x : Addr} {m : Option Value} (p : h.IsCell x m) (vs : Array Value) : ¬ h.IsTuple x vs := by
  rintro ⟨o, ho, _, n, hd⟩
  obtain ⟨o', ho', hd'⟩ := p
  rw [ho'] at ho; cases ho; rw [hd] at hd'; cases hd'
theorem cell_no_list {h : Heap} {x : Addr} {m : Option Value} (p : h.IsCell x m) (vs : Array Value) : ¬ h.PlainList x vs := by
  rintro ⟨n, q⟩
  obtain ⟨o', ho', hd'⟩ := p
  rw [ho'] at q; cases q; cases hd'
theorem Ext.ns {h h' : Heap} (e : Ext [] h h') {L : Addr} {m : Str → Option Value} (n : h.Ns L m) : h'.Ns L m := by
  obtain ⟨o, es, ep, ho, hd, r⟩ := n
  exact ⟨o, es, ep, e.keep L o ho (by simp) (seqy_dict hd), hd, r⟩
theorem Ext.isCell {h h' : Heap} (e : Ext [] h h') {L : Addr} {m : Option Value} (n : h.IsCell L m) : h'.IsCell L m := by
  obtain ⟨o, ho, hd⟩ := n
  exact ⟨o, e.keep L o ho (by simp) (seqy_cell hd), hd⟩

theorem RepV.mono {B : Heap} {σ σ' : Gh} {h h' : Heap} (ht : ∀ b vs, h.IsTuple b vs → h'.IsTuple b vs) (hσ : σ.Le σ') {v : Value} {d : D} (r : RepV B σ h v d) : RepV B σ' h' v d := by
  cases r with
  | «at» a => exact .at (a.mono hσ.fl)
  | tup a b => exact .tup (ht _ _ a) (b.imp fun _ _ r => r.mono hσ.fl)
  | lst a =>
    obtain ⟨t, ht⟩ := hσ.ad
    refine .lst ?_
    rw [← ht, List.getElem?_append_left (List.getElem?_eq_some_iff.mp a).1]; exact a
  | frz a b => exact .frz a b
  | arg a b => exact .arg a b
  | fn f => exact .fn f
  | dct => exact .dct

/-- the heap bears the cells C at σ, over the base heap B -/
structure Rep (B : Heap) (σ : Gh) (h : Heap) (C : Cs) : Prop where
  base : ∀ b o, B.get? b = some o → h.get? b = some o
  len : σ.ad.length = C.length
  cell : ∀ (k : Nat) (a : Addr) (ds : List D), σ.ad[k]? = some a → C[k]? = some ds → ∃ vs : List Value, h.PlainList a vs.toArray ∧ RepVs B σ h vs ds
  new : ∀ a ∈ σ.ad, B.get? a = none
  inj : σ.ad.Nodup

theorem Rep.at {B : Heap} {σ : Gh} {h : Heap} {C : Cs} (R : Rep B σ h C) {k : Nat} {ds : List D} (e : C[k]? = some ds) : ∃ a vs, σ.ad[k]? = some a ∧ h.PlainList a (List.toArray vs) ∧ RepVs B σ h vs ds := by
  have hk : k < σ.ad.length := by rw [R.len]; exact (List.getElem?_eq_some_iff.mp e).1
  obtain ⟨vs, p, r⟩ := R.cell k _ ds (List.getElem?_eq_getElem hk) e
  exact ⟨_, vs, List.getElem?_eq_getElem hk, p, r⟩
theorem Rep.list {B : Heap} {σ : Gh} {h : Heap} {C : Cs} (R : Rep B σ h C) {k : Nat} {a : Addr} (e : σ.ad[k]? = some a) : ∃ vs, h.PlainList a (List.toArray vs) := by
  have hk : k < C.length := by rw [← R.len]; exact (List.getElem?_eq_some_iff.mp e).1
  obtain ⟨vs, p, _⟩ := R.cell k a _ e (List.getElem?_eq_getElem hk)
  exact ⟨vs, p⟩

/-- nothing that Rep speaks of is changed -/
theorem Rep.extBut {B : Heap} {σ : Gh} {h h' : Heap} {C : Cs} {x : Addr} (R : Rep B σ h C) (e : Heap.ExtBut x h h') (hB : B.get? x = none) (hl : ∀ vs, ¬ h.PlainList x vs) (ht : ∀ vs, ¬ h.IsTuple x vs) : Rep B σ h' C := by
  have tu : ∀ b vs, h.IsTuple b vs → h'.IsTuple b vs := fun b vs t => by
    obtain ⟨o, ho, r⟩ := id t
    exact ⟨o, e b o (by rintro rfl; exact ht _ t) ho, r⟩
  refine ⟨fun b o q => e b o (by rintro rfl; rw [hB] at q; cases q) (R.base b o q), R.len, fun k a ds p q => ?_, R.new, R.inj⟩
  obtain ⟨vs, pl, rv⟩ := R.cell k a ds p q
  exact ⟨vs, pl.extBut e (by rintro rfl; exact hl _ pl), rv.imp fun _ _ r => r.mono tu (.refl _)⟩
theorem Rep.grow {B : Heap} {σ : Gh} {h h' : Heap} {C : Cs} (R : Rep B σ h C) (e : ∀ b o, h.get? b = some o → h'.get? b = some o) : Rep B σ h' C := by
  refine ⟨fun b o q => e b o (R.base b o q), R.len, fun k a ds p q => ?_, R.new, R.inj⟩
  obtain ⟨vs, pl, rv⟩ := R.cell k a ds p q
  exact ⟨vs, pl.at fun o q => e _ o q, rv.imp fun _ _ r => r.mono (fun b vs ⟨o, ho, r⟩ => ⟨o, e _ _ ho, r⟩) (.refl _)⟩
theorem Rep.freshAt {B : Heap} {σ : Gh} {h : Heap} {C : Cs} (R : Rep B σ h C) {a : Addr} (ha : h.get? a = none) : B.get? a = none ∧ a ∉ σ.ad := by
  constructor
  · cases q : B.get? a with
    | none => rfl
    | some o => rw [R.base a o q] at ha; cases ha
  · intro hm
    obtain ⟨k, hk, rfl⟩ := List.mem_iff_getElem.mp hm
    obtain ⟨vs, n, p⟩ := R.list (List.getElem?_eq_getElem hk)
    rw [p] at ha; cases ha
theorem get?_size (h : Heap) : h.get? h.objs.size = none := by
  cases q : h.get? h.objs.size with
  | none => rfl
  | some o => exact absurd (Heap.lt_size q) (Nat.lt_irrefl _)

/-- a new list is a new cell -/
theorem Rep.alloc {B : Heap} {σ : Gh} {h h' : Heap} {C : Cs} {a : Addr} {vs : List Value} {ds : List D} (R : Rep B σ h C) (ha : h.get? a = none) (e : ∀ b o, h.get? b = some o → h'.get? b = some o) (p : h'.PlainList a vs.toArray) (r : RepVs B σ h vs ds) : Rep B (σ.addL a) h' (C ++ [ds]) := by
  obtain ⟨hB, hσ⟩ := R.freshAt ha
  have R' := R.grow e
  have tu : ∀ b vs, h.IsTuple b vs → h'.IsTuple b vs := fun b vs ⟨o, ho, r⟩ => ⟨o, e _ _ ho, r⟩
  have ead : (σ.addL a).ad = σ.ad ++ [a] := rfl
  refine ⟨R'.base, by rw [ead]; simp [R.len], fun k b es p1 q1 => ?_, fun b hb => ?_, ?_⟩
  · rw [ead] at p1
    by_cases hk : k < σ.ad.length
    · rw [List.getElem?_append_left hk] at p1
      rw [List.getElem?_append_left (by rw [← R.len]; exact hk)] at q1
      obtain ⟨ws, pl, rv⟩ := R'.cell k b es p1 q1
      exact ⟨ws, pl, rv.imp fun _ _ r => r.mono (fun _ _ t => t) (.addL _ _)⟩
    · have hk' : k = σ.ad.length := by
        have := (List.getElem?_eq_some_iff.mp p1).1
        simp at this; omega
      subst hk'
      rw [List.getElem?_append_right (Nat.le_refl _)] at p1
      rw [R.len, List.getElem?_append_right (Nat.le_refl _)] at q1
      simp at p1 q1
      subst p1 q1
      exact ⟨vs, p, r.imp fun _ _ r => r.mono tu (.addL _ _)⟩
  · rw [ead] at hb
    rcases List.mem_append.mp hb with hb | hb
    · exact R.new b hb
    · simp at hb; subst hb; exact hB
  · rw [ead, List.nodup_append]
    refine ⟨R.inj, by simp, fun x hx y hy => ?_⟩
    simp at hy; subst hy; rintro rfl; exact hσ hx
/-- more is kept beside the run -/
theorem Rep.fl {B : Heap} {σ : Gh} {h : Heap} {C : Cs} {fl : Tok → Option UInt64} (R : Rep B σ h C) (hf : ∀ t x, σ.fl t = some x → fl t = some x) : Rep B ⟨σ.ad, fl⟩ h C :=
  ⟨R.base, R.len, fun k a ds p q => by
    obtain ⟨vs, pl, rv⟩ := R.cell k a ds p q
    exact ⟨vs, pl, All2.imp (R := RepV B σ h) (S := RepV B ⟨σ.ad, fl⟩ h) (fun _ _ r => RepV.mono (σ := σ) (σ' := ⟨σ.ad, fl⟩) (fun _ _ t => t) ⟨List.prefix_refl _, hf⟩ r) rv⟩, R.new, R.inj⟩

theorem nodup_at {α : Type} : ∀ {l : List α}, l.Nodup → ∀ {i j : Nat} {a : α}, l[i]? = some a → l[j]? = some a → i = j
  | [], _, _, _, _, h, _ => by simp at h
  | x :: l, n, 0, 0, a, _, _ => rfl
  | x :: l, n, 0, j + 1, a, h1, h2 => by
    simp at h1 h2; subst h1
    exact absurd (List.mem_of_getElem? h2) (List.nodup_cons.mp n).1
  | x :: l, n, i + 1, 0, a, h1, h2 => by
    simp at h1 h2; subst h2
    exact absurd (List.mem_of_getElem? h1) (List.nodup_cons.mp n).1
  | x :: l, n, i + 1, j + 1, a, h1, h2 => by
    simp at h1 h2
    rw [nodup_at (List.nodup_cons.mp n).2 h1 h2]

/-- one cell is written anew -/
theorem Rep.write {B : Heap} {σ : Gh} {h h' : Heap} {C : Cs} {k : Nat} {a : Addr} {vs : List Value} {ds : List D} (R : Rep B σ h C) (hk : σ.ad[k]? = some a) (e : Heap.ExtBut a h h') (p : h'.PlainList a vs.toArray) (r : RepVs B σ h vs ds) : Rep B σ h' (C.set k ds) := by
  obtain ⟨ws, n, pa⟩ := R.list hk
  have nt : ∀ vs, ¬ h.IsTuple a vs := fun vs t => by
    obtain ⟨o, ho, hc, _⟩ := t
    rw [pa] at ho; cases ho; simp at hc
  have tu : ∀ b vs, h.IsTuple b vs → h'.IsTuple b vs := fun b vs t => by
    obtain ⟨o, ho, r⟩ := id t
    exact ⟨o, e b o (by rintro rfl; exact nt _ t) ho, r⟩
  have hB := R.new a (List.mem_of_getElem? hk)
  refine ⟨fun b o q => e b o (by rintro rfl; rw [hB] at q; cases q) (R.base b o q), by simp [R.len], fun j b es p1 q1 => ?_, R.new, R.inj⟩
  by_cases hj : j = k
  · subst hj
    rw [hk] at p1; cases p1
    rw [List.getElem?_set_self (by rw [← R.len]; exact (List.getElem?_eq_some_iff.mp hk).1)] at q1
    cases q1
    exact ⟨vs, p, r.imp fun _ _ r => r.mono tu (.refl _)⟩
  · rw [List.getElem?_set_ne (Ne.symm hj)] at q1
    obtain ⟨us, pl, rv⟩ := R.cell j b es p1 q1
    refine ⟨us, pl.extBut e ?_, rv.imp fun _ _ r => r.mono tu (.refl _)⟩
    rintro rfl
    exact hj (nodup_at R.inj p1 hk)
end
section
open PySem PySem.W PySem.Calls PyProof.Rows
set_option genSizeOf false
set_option genSizeOfSpec false
set_option genInjectivity false

inductive Blt where
  | len | sum | int | max | min | sorted | tuple

inductive Mth where
  | append | insert | pop | index | split | endswith | lower | upper | find | startswith | isdigit


/-- expressions, names resolved -/
inductive ME where
  | cst (a : At)
  | var (i : Nat)
  | glb (d : D)
  | bin (op : Operator) (l r : ME)
  | neg (e : ME)
  | cmp (op : CmpOp) (l r : ME)
  | not (e : ME)
  | and (l : List ME)
  | or (l : List ME)
  | ite (t b o : ME)
  | idx (v i : ME)
  | slc (v : ME) (lo hi st : Option ME)
  | tup (es : List ME)
  | lst (es : List ME)
  | comp (elt : ME) (fv : List Nat) (rng : Bool) (src : List ME) (ifs : List ME)
  | bcall (f : Blt) (args : List ME)
  | call (f : ME) (args : List ME) (kws : List (Str × ME))
  | meth (m : Mth) (o : ME) (args : List ME)
  | bad

inductive MS where
  | asg (i : Nat) (e : ME)
  | unp (is : List Nat) (e : ME)
  | unp2 (i j : Nat) (a b : ME)
  | seti (o i v : ME)
  | deli (o i : ME)
  | ifs (t : ME) (a b : List MS)
  | for (is : List Nat) (rng : Bool) (src : List ME) (body : List MS)
  | whl (t : ME) (body : List MS)
  | ret (e : Option ME)
  | exp (e : ME)
  | try (body : List MS)
  | bad

abbrev Loc := List (Option D)
abbrev KE := D → Cs → Prop

abbrev dint (i : Int) : D := .at (.int i)
abbrev dflt (x : UInt64) : D := .at (.flt x)
abbrev dstr (x : Str) : D := .at (.str x)
abbrev dbool (b : Bool) : D := .at (.bool b)

noncomputable def atoms : List D → Option (List At)
  | [] => some []
  | .at a :: r => (atoms r).map (a :: ·)
  | _ :: _ => none
noncomputable def intsA : List At → Option (List Int)
  | [] => some []
  | .int a :: r => (intsA r).map (a :: ·)
  | _ :: _ => none
noncomputable def fltsA : List At → Option (List UInt64)
  | [] => some []
  | .flt a :: r => (fltsA r).map (a :: ·)
  | _ :: _ => none
noncomputable def strsA : List At → Option (List Str)
  | [] => some []
  | .str a :: r => (strsA r).map (a :: ·)
  | _ :: _ => none

/-- what the model's division of two ints by / gives -/
noncomputable def fdivII (a b : Int) : UInt64 := Float64.ofFrac (decide (a < 0) != decide (b < 0)) a.natAbs b.natAbs

noncomputable def feq (a b : UInt64) : Bool := Float64.cmp a b == some Ordering.eq
noncomputable def flt? (a b : UInt64) : Bool := Float64.cmp a b == some Ordering.lt

noncomputable def pick {α : Type} (l : List α) (lo hi st : Option Int) : List α :=
  (sliceRange (sliceBounds lo hi st l.length).1 (sliceBounds lo hi st l.length).2.1 (sliceBounds lo hi st l.length).2.2).filterMap (l[·]?)
noncomputable def pickS (x : Str) (lo hi : Option Int) : Str := ⟨(pick x.cps.toList lo hi none).toArray⟩

noncomputable def atEq : At → At → Option Bool
  | .int a, .int b => some (decide (a = b))
  | .str a, .str b => some (decide (a = b))
  | .flt a, .flt b => match Float64.isNaN a with
    | true => none
    | false => some (feq a b)
  | .none, .none => some true
  | _, _ => none
/-- two rows: equal, item by item (none: not said) -/
noncomputable def lEq {α : Type} (f : α → α → Option Bool) : List α → List α → Option Bool
  | [], [] => some true
  | [], _ :: _ => some false
  | _ :: _, [] => some false
  | a :: r, b :: s => (f a b).bind fun x => (lEq f r s).map fun y => x && y
noncomputable abbrev atsEq : List At → List At → Option Bool := lEq atEq
noncomputable def dEq : D → D → Option Bool
  | .at a, .at b => atEq a b
  | .tup a, .tup b => atsEq a b
  | _, _ => none
noncomputable abbrev dsEq : List D → List D → Option Bool := lEq dEq

noncomputable def constInt : Expr → Int
  | .Constant (.int i) _ _ => i
  | .UnaryOp .USub (.Constant (.int i) _ _) _ => -i
  | _ => 0
noncomputable def constStr : Expr → Str
  | .Constant (.str s) _ _ => s
  | _ => Str.empty
noncomputable def dictIn (nm : Str) : List Stmt → List (Str × Int)
  | .Assign [.Name n _] (.Dict ks vs _) _ :: r => if n = nm then ((ks.filterMap id).map constStr).zip (vs.map constInt) else dictIn nm r
  | _ :: r => dictIn nm r
  | [] => []
noncomputable def listIn (nm : Str) : List Stmt → List Str
  | .Assign [.Name n _] (.List es _) _ :: r => if n = nm then es.map constStr else listIn nm r
  | _ :: r => listIn nm r
  | [] => []
noncomputable def tzTab : List (Str × Int) := dictIn "_timezones" PySem.Challenge.pw_rl0118_01.main.body
noncomputable def months : List Str := listIn "_monthnames" PySem.Challenge.pw_rl0118_01.main.body
noncomputable def days : List Str := listIn "_daynames" PySem.Challenge.pw_rl0118_01.main.body

/-- a condition that is met -/
noncomputable def want (b : Bool) (p : Prop) : Prop := Bool.casesOn (motive := fun _ => Prop) b False p
/-- where the condition comes out by computation -/
noncomputable def wantC (b : Bool) (p : Prop) : Prop := want b p
/-- two ways -/
noncomputable def br (b : Bool) (p q : Prop) : Prop := Bool.casesOn (motive := fun _ => Prop) b q p
/-- a value that is there -/
noncomputable def optK {α : Type} (o : Option α) (f : α → Prop) : Prop := Option.casesOn (motive := fun _ => Prop) o False f
theorem want.el {b : Bool} {p P : Prop} (h : want b p) (g : b = true → p → P) : P := by
  cases b with
  | false => exact h.elim
  | true => exact g rfl h
theorem optK.el {α : Type} {o : Option α} {f : α → Prop} {P : Prop} (h : optK o f) (g : ∀ a, o = some a → f a → P) : P := by
  cases o with
  | none => exact h.elim
  | some a => exact g a rfl h
/-- the same, where it comes out by computation -/
noncomputable def optC {α : Type} (o : Option α) (f : α → Prop) : Prop := optK o f
abbrev no {α : Type} (_ : α) : Prop := False
noncomputable def atK (d : D) (f : At → Prop) : Prop := D.casesOn (motive := fun _ => Prop) d f no no no no no False
noncomputable def tupK (d : D) (f : List At → Prop) : Prop := D.casesOn (motive := fun _ => Prop) d no f no no no no False
noncomputable def lstK (d : D) (f : Nat → Prop) : Prop := D.casesOn (motive := fun _ => Prop) d no no f no no no False
noncomputable def fnK (d : D) (f : Addr → Prop) : Prop := D.casesOn (motive := fun _ => Prop) d no no no no no f False
noncomputable def AintK (a : At) (f : Int → Prop) : Prop := At.casesOn (motive := fun _ => Prop) a False no f no no
noncomputable def intK (d : D) (f : Int → Prop) : Prop := atK d fun a => At.casesOn (motive := fun _ => Prop) a False no f no no
noncomputable def fltK (d : D) (f : UInt64 → Prop) : Prop := atK d fun a => At.casesOn (motive := fun _ => Prop) a False no no f no
noncomputable def strK (d : D) (f : Str → Prop) : Prop := atK d fun a => At.casesOn (motive := fun _ => Prop) a False no no no f
@[elab_as_elim] theorem atK.el {d : D} {f : At → Prop} {P : D → Prop} (h : atK d f) (g : ∀ a, f a → P (D.at a)) : P d := by
  cases d with
  | «at» a => exact g a h
  | _ => exact False.elim h
@[elab_as_elim] theorem tupK.el {d : D} {f : List At → Prop} {P : D → Prop} (h : tupK d f) (g : ∀ a, f a → P (D.tup a)) : P d := by
  cases d with
  | tup a => exact g a h
  | _ => exact False.elim h
@[elab_as_elim] theorem lstK.el {d : D} {f : Nat → Prop} {P : D → Prop} (h : lstK d f) (g : ∀ a, f a → P (D.lst a)) : P d := by
  cases d with
  | lst a => exact g a h
  | _ => exact False.elim h
@[elab_as_elim] theorem fnK.el {d : D} {f : Addr → Prop} {P : D → Prop} (h : fnK d f) (g : ∀ a, f a → P (D.fn a)) : P d := by
  cases d with
  | fn a => exact g a h
  | _ => exact False.elim h
@[elab_as_elim] theorem intK.el {d : D} {f : Int → Prop} {P : D → Prop} (h : intK d f) (g : ∀ a, f a → P (dint a)) : P d := by
  refine atK.el h fun a h => ?_
  cases a with
  | int a => exact g a h
  | _ => exact False.elim h
@[elab_as_elim] theorem fltK.el {d : D} {f : UInt64 → Prop} {P : D → Prop} (h : fltK d f) (g : ∀ a, f a → P (dflt a)) : P d := by
  refine atK.el h fun a h => ?_
  cases a with
  | flt a => exact g a h
  | _ => exact False.elim h
@[elab_as_elim] theorem strK.el {d : D} {f : Str → Prop} {P : D → Prop} (h : strK d f) (g : ∀ a, f a → P (dstr a)) : P d := by
  refine atK.el h fun a h => ?_
  cases a with
  | str a => exact g a h
  | _ => exact False.elim h
noncomputable def one (l : List D) (f : D → Prop) : Prop := List.casesOn (motive := fun _ => Prop) l False fun a r => List.casesOn (motive := fun _ => Prop) r (f a) fun _ _ => False
noncomputable def two (l : List D) (f : D → D → Prop) : Prop := List.casesOn (motive := fun _ => Prop) l False fun a r => one r (f a)
noncomputable def fl3 (l : List D) (f : UInt64 → UInt64 → UInt64 → Prop) : Prop := List.casesOn (motive := fun _ => Prop) l False fun a r => two r fun b c => fltK a fun x => fltK b fun y => fltK c fun z => f x y z
@[elab_as_elim] theorem one.el {l : List D} {f : D → Prop} {P : List D → Prop} (h : one l f) (g : ∀ a, f a → P [a]) : P l := by
  cases l with
  | nil => exact h.elim
  | cons a r =>
    cases r with
    | nil => exact g a h
    | cons b r => exact False.elim h
@[elab_as_elim] theorem two.el {l : List D} {f : D → D → Prop} {P : List D → Prop} (h : two l f) (g : ∀ a b, f a b → P [a, b]) : P l := by
  cases l with
  | nil => exact h.elim
  | cons a r => exact one.el (P := fun r => P (a :: r)) (show one r (f a) from h) fun b h => g a b h
@[elab_as_elim] theorem fl3.el {l : List D} {f : UInt64 → UInt64 → UInt64 → Prop} {P : List D → Prop} (h : fl3 l f) (g : ∀ a b c, f a b c → P [dflt a, dflt b, dflt c]) : P l := by
  cases l with
  | nil => exact h.elim
  | cons a r => exact two.el (P := fun r => P (a :: r)) (h : two r _) fun b c h => fltK.el h fun x h => fltK.el h fun y h => fltK.el h fun z h => g x y z h
theorem intK.use {d : D} {f : Int → Prop} (h : intK d f) : ∃ a, d = dint a ∧ f a := intK.el h fun a h => ⟨a, rfl, h⟩
theorem atK.use {d : D} {f : At → Prop} (h : atK d f) : ∃ a, d = .at a ∧ f a := atK.el h fun a h => ⟨a, rfl, h⟩
theorem two.use {l : List D} {f : D → D → Prop} (h : two l f) : ∃ a b, l = [a, b] ∧ f a b := two.el h fun a b h => ⟨a, b, rfl, h⟩
noncomputable def atomK (ds : List D) (f : List At → Prop) : Prop := optC (atoms ds) f
noncomputable def varK : Loc → Nat → (D → Prop) → Prop := fun l => List.rec (motive := fun _ => Nat → (D → Prop) → Prop) (fun _ _ => False) (fun o _ ih i f => Nat.casesOn (motive := fun _ => Prop) i (Option.casesOn (motive := fun _ => Prop) o False f) fun i => ih i f) l
theorem varK.use {f : D → Prop} {l : Loc} : ∀ {i : Nat}, varK l i f → ∃ d, l[i]? = some (some d) ∧ f d := by
  induction l with
  | nil => exact fun h => False.elim h
  | cons o l ih =>
    intro i
    cases i with
    | zero => exact fun h => optK.el (o := o) (show optK o f from h) fun d e h => ⟨d, congrArg some e, h⟩
    | succ i => exact fun h => ih h
/-- the words of a formatted date -/
noncomputable def digs (n : Nat) : List Nat := (Nat.toDigits 10 n).map Char.toNat
noncomputable def pad (w : Nat) (i : Int) : List Nat := List.replicate (w - (digs i.toNat).length) 48 ++ digs i.toNat
noncomputable def fmtDate (a : Str) (d : Int) (b : Str) (y h m s : Int) (z : Str) : Str :=
  ⟨(a.cps.toList ++ (44 :: 32 :: (pad 2 d ++ (32 :: (b.cps.toList ++ (32 :: (pad 4 y ++ (32 :: (pad 2 h ++ (58 :: (pad 2 m ++ (58 :: (pad 2 s ++ (32 :: z.cps.toList)))))))))))))).toArray⟩
noncomputable def fmtText : Str := Str.ofString "%s, %02d %s %04d %02d:%02d:%02d %s"
noncomputable def small (i : Int) : Bool := decide (0 ≤ i) && decide (i < 10 ^ 6)

noncomputable def addOp (a b : D) (C : Cs) (k : KE) : Prop := D.casesOn (motive := fun _ => Prop) a
  (fun a => At.casesOn (motive := fun _ => Prop) a False no (fun x => intK b fun y => k (dint (x + y)) C)
    (fun x => atK b fun b => At.casesOn (motive := fun _ => Prop) b False no (fun y => want (!Float64.isInf (Float64.ofInt y)) (k (dflt (Float64.add x (Float64.ofInt y))) C)) (fun y => k (dflt (Float64.add x y)) C) no)
    (fun x => strK b fun y => want (Nat.ble (x.length + y.length) sizeLine) (k (dstr (x ++ y)) C)))
  (fun x => tupK b fun y => want (Nat.ble (x.length + y.length) sizeLine) (k (.tup (x ++ y)) C))
  (fun x => lstK b fun y => optK (C[x]?) fun l => optK (C[y]?) fun m => want (Nat.ble (l.length + m.length) sizeLine) (k (.lst C.length) (C ++ [l ++ m])))
  no no no False
noncomputable def subOp (a b : D) (C : Cs) (k : KE) : Prop := atK a fun a => At.casesOn (motive := fun _ => Prop) a False no (fun x => intK b fun y => k (dint (x - y)) C)
    (fun x => atK b fun b => At.casesOn (motive := fun _ => Prop) b False no (fun y => want (!Float64.isInf (Float64.ofInt y)) (k (dflt (Float64.sub x (Float64.ofInt y))) C)) (fun y => k (dflt (Float64.sub x y)) C) no) no
noncomputable def mulOp (a b : D) (C : Cs) (k : KE) : Prop := atK a fun a => At.casesOn (motive := fun _ => Prop) a False no (fun x => intK b fun y => want (Nat.blt x.natAbs (2 ^ 40)) (k (dint (x * y)) C)) (fun x => fltK b fun y => k (dflt (Float64.mul x y)) C) no
/-- a divisor above nought -/
noncomputable def divr (y : Int) : Bool := decide (0 < y) && decide (y < 2 ^ 60)
noncomputable def fdvOp (a b : D) (C : Cs) (k : KE) : Prop := intK a fun x => intK b fun y => want (divr y) (k (dint (x / y)) C)
noncomputable def fmtArgs (l : List At) (k : Str → Prop) : Prop := ∃ a d b y h m s z, l = [.str a, .int d, .str b, .int y, .int h, .int m, .int s, .str z] ∧ (small d = true ∧ small y = true ∧ small h = true ∧ small m = true ∧ small s = true) ∧ (a.length ≤ 100 ∧ b.length ≤ 100 ∧ z.length ≤ 100) ∧ k (fmtDate a d b y h m s z)
noncomputable def modOp (a b : D) (C : Cs) (k : KE) : Prop := atK a fun a => At.casesOn (motive := fun _ => Prop) a False no (fun x => intK b fun y => want (divr y) (k (dint (x % y)) C)) (fun x => fltK b fun y => want (!Float64.isZero y) (k (dflt (Float64.divmod x y).2) C))
  (fun x => tupK b fun l => x = fmtText ∧ fmtArgs l fun s => k (dstr s) C)
noncomputable def powOp (a b : D) (C : Cs) (k : KE) : Prop := intK a fun x => intK b fun y => x = 10 ∧ (0 ≤ y ∧ y < 20) ∧ k (dint (10 ^ y.toNat)) C
noncomputable def tdvOp (a b : D) (C : Cs) (k : KE) : Prop := atK a fun a => At.casesOn (motive := fun _ => Prop) a False no (fun x => intK b fun y => (y ≠ 0 ∧ Float64.isInf (fdivII x y) = false) ∧ k (dflt (fdivII x y)) C) (fun x => fltK b fun y => want (!Float64.isZero y) (k (dflt (Float64.div x y)) C)) no
noncomputable def binOp (op : Operator) (a b : D) (C : Cs) (k : KE) : Prop := match op with
  | .Add => addOp a b C k
  | .Sub => subOp a b C k
  | .Mult => mulOp a b C k
  | .FloorDiv => fdvOp a b C k
  | .Mod => modOp a b C k
  | .Pow => powOp a b C k
  | .Div => tdvOp a b C k
  | _ => False
theorem not_t {b : Bool} (h : (!b) = true) : b = false := by
  cases b with
  | false => rfl
  | true => cases h
theorem divr_use {y : Int} (h : divr y = true) : 0 < y ∧ y < 2 ^ 60 := (Bool.and_eq_true_iff.mp h).imp of_decide_eq_true of_decide_eq_true
theorem pos_ne {y : Int} (c : 0 < y) : y ≠ 0 := (Int.ne_of_lt c).symm
theorem pos_abs {y : Int} (c : 0 < y) (c2 : y < 2 ^ 60) : y.natAbs < 2 ^ 60 := by omega
noncomputable def eqOp (a b : D) (C : Cs) (k : Bool → Prop) : Prop := D.casesOn (motive := fun _ => Prop) a
  (fun a => At.casesOn (motive := fun _ => Prop) a False no (fun x => intK b fun y => k (decide (x = y))) (fun x => fltK b fun y => k (feq x y)) (fun x => strK b fun y => k (decide (x = y))))
  (fun x => tupK b fun y => optC (atsEq x y) k)
  (fun x => lstK b fun y => optK (C[x]?) fun l => optK (C[y]?) fun m => optK (dsEq l m) k)
  no no no False
noncomputable def neOp (a b : D) (C : Cs) (k : Bool → Prop) : Prop := D.casesOn (motive := fun _ => Prop) a
  (fun a => At.casesOn (motive := fun _ => Prop) a False no (fun x => intK b fun y => k (!decide (x = y))) no (fun x => strK b fun y => k (!decide (x = y))))
  (fun x => tupK b fun y => optC (atsEq x y) fun r => k (!r))
  (fun x => lstK b fun y => optK (C[x]?) fun l => optK (C[y]?) fun m => optK (dsEq l m) fun r => k (!r))
  no no no False
noncomputable def ltOp (a b : D) (k : Bool → Prop) : Prop := atK a fun a => At.casesOn (motive := fun _ => Prop) a False no (fun x => intK b fun y => k (decide (x < y))) (fun x => fltK b fun y => k (flt? x y)) no
noncomputable def isOp (a b : D) (k : Bool → Prop) : Prop := atK b fun b => At.casesOn (motive := fun _ => Prop) b
  (D.casesOn (motive := fun _ => Prop) a (fun a => At.casesOn (motive := fun _ => Prop) a (k true) no (fun _ => k false) no no) no no no no (fun _ => k false) False) no no no no
noncomputable def inOp (a b : D) (k : Bool → Prop) : Prop := D.casesOn (motive := fun _ => Prop) b no
  (fun l => intK a fun x => optC (intsA l) fun m => k (m.any fun y => decide (y = x))) no
  (fun l => strK a fun x => optC (strsA l) fun m => k (m.any fun y => decide (y = x))) no no
  (strK a fun x => k (tzTab.lookup x).isSome)
noncomputable def niOp (a b : D) (k : Bool → Prop) : Prop := D.casesOn (motive := fun _ => Prop) b no no no
  (fun l => strK a fun x => optC (strsA l) fun m => k (!m.any fun y => decide (y = x))) no no False
noncomputable def cmpOp (op : CmpOp) (a b : D) (C : Cs) (k : Bool → Cs → Prop) : Prop := match op with
  | .Eq => eqOp a b C fun r => k r C
  | .NotEq => neOp a b C fun r => k r C
  | .Lt => ltOp a b fun r => k r C
  | .Gt => intK a fun x => intK b fun y => k (decide (y < x)) C
  | .GtE => intK a fun x => intK b fun y => k (decide (y ≤ x)) C
  | .Is => isOp a b fun r => k r C
  | .In => inOp a b fun r => k r C
  | .NotIn => niOp a b fun r => k r C
  | _ => False
noncomputable def truth (d : D) (C : Cs) (k : Bool → Prop) : Prop := D.casesOn (motive := fun _ => Prop) d
  (fun a => At.casesOn (motive := fun _ => Prop) a (k false) k (fun i => k (!decide (i = 0))) no (fun s => want (Nat.blt s.length (2 ^ 60)) (k (!decide (s.length = 0)))))
  no (fun x => optK (C[x]?) fun l => want (Nat.blt l.length (2 ^ 60)) (k (!l.isEmpty))) no no no False
noncomputable def seqAt {α : Type} (l : List α) (i : Int) (k : α → Prop) : Prop := optC (seqIndex? i l.length) fun j => optC (l[j]?) fun d => wantC (Nat.blt l.length (2 ^ 60)) (k d)
noncomputable def idxOp (a b : D) (C : Cs) (k : KE) : Prop := D.casesOn (motive := fun _ => Prop) a
  (fun a => At.casesOn (motive := fun _ => Prop) a False no no no fun s => intK b fun i => seqAt s.cps.toList i fun c => k (dstr ⟨#[c]⟩) C)
  (fun l => intK b fun i => seqAt l i fun d => k (.at d) C)
  (fun x => intK b fun i => optK (C[x]?) fun l => seqAt l i fun d => k d C)
  (fun l => intK b fun i => seqAt l i fun d => k (.at d) C) no no
  (strK b fun x => optK (tzTab.lookup x) fun i => k (dint i) C)
/-- a slice's part: absent, or an int -/
noncomputable def part : Option D → Option (Option Int)
  | none => some none
  | some (.at (.int i)) => some (some i)
  | some _ => none

noncomputable def stOk (t : Option Int) : Bool := decide (t ≠ some 0)
noncomputable def noO {α : Type} (o : Option α) (p : Prop) : Prop := Option.casesOn (motive := fun _ => Prop) o p no
noncomputable def slcV (a : D) (lo hi st : Option Int) (C : Cs) (k : KE) : Prop := D.casesOn (motive := fun _ => Prop) a
  (fun a => At.casesOn (motive := fun _ => Prop) a False no no no fun s => noO st ((pickS s lo hi).length ≤ sizeLine ∧ k (dstr (pickS s lo hi)) C))
  (fun l => optK lo fun i => noO hi (noO st (want (decide (1 ≤ i)) (want (Nat.ble i.toNat l.length) (want (Nat.ble l.length 1000) (k (.tup (l.drop i.toNat)) C))))))
  (fun x => optK (C[x]?) fun l => want (Nat.ble l.length sizeLine) (want (stOk st) (k (.lst C.length) (C ++ [pick l lo hi st]))))
  (fun l => want (Nat.ble l.length sizeLine) (want (stOk st) (k (.lst C.length) (C ++ [(pick l lo hi st).map D.at]))))
  (fun l => want (Nat.ble l.length sizeLine) (want (stOk st) (k (.lst C.length) (C ++ [(pick l lo hi st).map D.at]))))
  no False
structure slcOp (a : D) (lo hi st : Option D) (C : Cs) (k : KE) : Prop where
  ok : optK (part lo) fun l => optK (part hi) fun h => optK (part st) fun t => slcV a l h t C k
/-- insertion by a test (the sorted lists are short) -/
noncomputable def insBy {α : Type} (lt : α → α → Bool) (x : α) : List α → List α
  | [] => [x]
  | y :: r => match lt x y with
    | true => x :: y :: r
    | false => y :: insBy lt x r
noncomputable def sortBy {α : Type} (lt : α → α → Bool) (l : List α) : List α := l.foldl (fun acc x => insBy lt x acc) []

/-- the 64ths below one -/
noncomputable def sixty : List UInt64 := (List.range 64).map fun k => fdivII (k : Nat) 64
noncomputable def sixtyOf (x : UInt64) : Option Nat := sixty.idxOf? x
noncomputable def maxF (a b : UInt64) : UInt64 := if (Float64.cmp b a == some Ordering.gt) = true then b else a
noncomputable def minF (a b : UInt64) : UInt64 := if (Float64.cmp b a == some Ordering.lt) = true then b else a

noncomputable def lenOp (a : D) (C : Cs) (k : KE) : Prop := D.casesOn (motive := fun _ => Prop) a no no
  (fun x => optK (C[x]?) fun l => want (Nat.blt l.length (2 ^ 60)) (k (dint l.length) C)) (fun l => want (Nat.blt l.length (2 ^ 60)) (k (dint l.length) C)) (fun l => want (Nat.blt l.length (2 ^ 60)) (k (dint l.length) C)) no False
noncomputable def intOp (a : D) (C : Cs) (k : KE) : Prop := atK a fun a => At.casesOn (motive := fun _ => Prop) a False no no
  (fun x => want (Float64.isFinite x) (k (dint (PySem.Flt.toInt Float64.truncOf x)) C)) fun s => optK (PySem.intText? s) fun n => want (Nat.ble s.length 640) (k (dint n) C)
noncomputable def sum2 (a b : Int) : List D := if b < a then [dint b, dint a] else [dint a, dint b]
/-- two ints, or two 64ths, in order -/
noncomputable def srtOp (a : D) (C : Cs) (k : KE) : Prop := D.casesOn (motive := fun _ => Prop) a no
  (fun l => ∃ a b, l = [.int a, .int b] ∧ k (.lst C.length) (C ++ [if b < a then [dint b, dint a] else [dint a, dint b]]))
  (fun x => optK (C[x]?) fun l => (∃ a b, l = [dint a, dint b] ∧ k (.lst C.length) (C ++ [if b < a then [dint b, dint a] else [dint a, dint b]])) ∨
    (∃ a b, l = [dflt a, dflt b] ∧ ((sixtyOf a).isSome = true ∧ (sixtyOf b).isSome = true) ∧ k (.lst C.length) (C ++ [if flt? b a = true then [dflt b, dflt a] else [dflt a, dflt b]])))
  no no no False
noncomputable def bltOp (f : Blt) (args : List D) (C : Cs) (k : KE) : Prop := Blt.casesOn (motive := fun _ => Prop) f
  (one args fun a => lenOp a C k)
  (one args fun a => lstK a fun x => optK (C[x]?) fun l => optK (atoms l) fun b => optK (intsA b) fun m => ((∀ i ∈ m, 0 ≤ i ∧ i < 10 ^ 9) ∧ m.length < 2 ^ 20) ∧ k (dint m.sum) C)
  (one args fun a => intOp a C k)
  (fl3 args fun a b c => k (dflt (maxF (maxF a b) c)) C)
  (fl3 args fun a b c => k (dflt (minF (minF a b) c)) C)
  (one args fun a => srtOp a C k)
  (one args fun a => lstK a fun x => optK (C[x]?) fun l => optK (atoms l) fun b => want (Nat.ble b.length sizeLine) (k (.tup b) C))
noncomputable def str1 (args : List D) (f : Str → Prop) : Prop := one args fun a => strK a f
noncomputable def nil0 (args : List D) (p : Prop) : Prop := List.casesOn (motive := fun _ => Prop) args p fun _ _ => False
@[elab_as_elim] theorem str1.el {l : List D} {f : Str → Prop} {P : List D → Prop} (h : str1 l f) (g : ∀ a, f a → P [dstr a]) : P l :=
  one.el (show one l (fun a => strK a f) from h) fun a h => strK.el (P := fun a => P [a]) h g
@[elab_as_elim] theorem nil0.el {l : List D} {p : Prop} {P : List D → Prop} (h : nil0 l p) (g : p → P []) : P l := by
  cases l with
  | nil => exact g h
  | cons a r => exact False.elim h
noncomputable def methOp (m : Mth) (o : D) (args : List D) (C : Cs) (k : KE) : Prop := Mth.casesOn (motive := fun _ => Prop) m
  (lstK o fun x => one args fun d => optK (C[x]?) fun l => want (Nat.ble l.length sizeLine) (k (.at .none) (C.set x (l ++ [d]))))
  (lstK o fun x => two args fun a d => intK a fun i => optK (C[x]?) fun l => (0 ≤ i ∧ i ≤ l.length ∧ l.length < 2 ^ 20) ∧ k (.at .none) (C.set x (l.take i.toNat ++ d :: l.drop i.toNat)))
  (lstK o fun x => one args fun a => intK a fun i => optK (C[x]?) fun l => optK (l[i.toNat]?) fun d => (0 ≤ i ∧ l.length < 2 ^ 20) ∧ k d (C.set x (l.eraseIdx i.toNat)))
  (D.casesOn (motive := fun _ => Prop) o no no no (fun l => str1 args fun s => optC (strsA l) fun m => (m.idxOf s < m.length ∧ m.length < 2 ^ 20) ∧ k (dint (m.idxOf s)) C) no no False)
  (strK o fun s => List.casesOn (motive := fun _ => Prop) args (want (Nat.ble (s.length + 2) sizeLine) (k (.lst C.length) (C ++ [(Txt.words s).map dstr])))
    fun _ _ => str1 args fun y => want (Nat.ble (s.length + 2) sizeLine) (want (!Nat.beq y.length 0) (k (.lst C.length) (C ++ [(Txt.split s y).map dstr]))))
  (strK o fun s => str1 args fun y => k (dbool (Txt.endswith s y)) C)
  (strK o fun s => nil0 args ((Txt.lower s).length ≤ 1000 ∧ k (dstr (Txt.lower s)) C))
  (strK o fun s => nil0 args ((Txt.upper s).length ≤ 1000 ∧ k (dstr (Txt.upper s)) C))
  (strK o fun s => str1 args fun y => k (dint (Txt.find s y)) C)
  (strK o fun s => str1 args fun y => k (dbool (Txt.startswith s y)) C)
  (strK o fun s => nil0 args (k (dbool (Txt.isdigit s)) C))
/-- a method's own type -/
noncomputable def oTy (m : Mth) (d : D) : Bool := match d with
  | .lst _ => match m with
    | .append | .insert | .pop => true
    | _ => false
  | .frz _ => match m with
    | .index => true
    | _ => false
  | .at (.str _) => match m with
    | .append | .insert | .pop | .index => false
    | _ => true
  | _ => false

/-- what a def's call may be asked: arguments, named arguments, cells, what is wanted behind it -/
abbrev Spec := List D → List (Str × D) → Cs → KE → Prop
abbrev Tab := List (Addr × Spec)

noncomputable def callOp (T : Tab) (f : D) (args : List D) (kws : List (Str × D)) (C : Cs) (k : KE) : Prop := fnK f fun a => optK (T.lookup a) fun sp => sp args kws C k
theorem callOp.use {T : Tab} {f : D} {args : List D} {kws : List (Str × D)} {C : Cs} {k : KE} (h : callOp T f args kws C k) : ∃ a sp, f = .fn a ∧ T.lookup a = some sp ∧ sp args kws C k :=
  fnK.el h fun a h => optK.el h fun sp e h => ⟨a, sp, rfl, e, h⟩

inductive Src where
  | d (x : D)
  | rng (lo hi : Int)
/-- the item at a place: none: no such source; some none: the end -/
noncomputable def itemAt : Src → Nat → Cs → Option (Option D)
  | .d (.lst x), i, C => (C[x]?).map fun l => l[i]?
  | .d (.tup l), i, _ => some ((l[i]?).map D.at)
  | .rng lo hi, i, _ => some (if lo + (i : Int) < hi then some (dint (lo + i)) else none)
  | _, _, _ => none

noncomputable def srcOf (rng : Bool) (ds : List D) (k : Src → Prop) : Prop := Bool.casesOn (motive := fun _ => Prop) rng
  (one ds fun a => D.casesOn (motive := fun _ => Prop) a no (fun l => k (.d (.tup l))) (fun x => k (.d (.lst x))) no no no False)
  (List.casesOn (motive := fun _ => Prop) ds False fun a r => intK a fun lo => List.casesOn (motive := fun _ => Prop) r ((-(2 ^ 40) < lo ∧ lo < 2 ^ 40) ∧ k (.rng 0 lo)) fun _ _ =>
    one r fun b => intK b fun hi => ((-(2 ^ 40) < hi ∧ hi < 2 ^ 40) ∧ (-(2 ^ 40) < lo ∧ lo < 2 ^ 40)) ∧ k (.rng lo hi))
inductive Out where
  | next
  | ret (d : D)
abbrev KX := Out → Loc → Cs → Prop

noncomputable def itemsOf (d : D) (C : Cs) : Option (List D) := match d with
  | .tup l => some (l.map D.at)
  | .lst x => C[x]?
  | _ => none
noncomputable def setMany : Loc → List Nat → List D → Loc
  | loc, i :: is, d :: ds => setMany (loc.set i (some d)) is ds
  | loc, _, _ => loc
/-- a turn's target: one name, or a row of names -/
noncomputable def bindMany (is : List Nat) (d : D) (C : Cs) (loc : Loc) (k : Loc → Prop) : Prop := optK (itemsOf d C) fun ds => wantC (Nat.beq ds.length is.length) (k (setMany loc is ds))
noncomputable def bindTo (is : List Nat) (d : D) (C : Cs) (loc : Loc) (k : Loc → Prop) : Prop :=
  List.casesOn (motive := fun _ => Prop) is (bindMany is d C loc k) fun i r => List.casesOn (motive := fun _ => Prop) r (k (loc.set i (some d))) fun _ _ => bindMany is d C loc k
theorem bindMany.el {is : List Nat} {d : D} {C : Cs} {loc : Loc} {k : Loc → Prop} {P : Prop} (h : bindMany is d C loc k) (g : ∀ ds, itemsOf d C = some ds → ds.length = is.length → k (setMany loc is ds) → P) : P :=
  optK.el h fun ds e h => want.el h fun e2 h => g ds e (Nat.eq_of_beq_eq_true e2) h
/-- lists that are named below m alone -/
noncomputable def closedD (m : Nat) : D → Prop
  | .lst j => j < m
  | _ => True
noncomputable def Closed (m : Nat) (C : Cs) : Prop := ∀ l ∈ C, ∀ d ∈ l, closedD m d
/-- cells from m on are let go -/
noncomputable def TrimL (n : Nat) (loc : Loc) (C : Cs) (loc' : Loc) (C' : Cs) : Prop :=
  ∃ m, n ≤ m ∧ C' = C.take m ∧ (m < C.length → Closed m (C.take m)) ∧ loc'.length = loc.length ∧ ∀ (i : Nat) d, loc'[i]? = some (some d) → loc[i]? = some (some d) ∧ (m < C.length → closedD m d)

/-- one step of the evaluator of expressions, over what is told of the steps behind it -/
structure EFns where
  e : ME → Loc → Cs → KE → Prop
  t : ME → Loc → Cs → (Bool → Cs → Prop) → Prop
  s : List ME → Loc → Cs → (List D → Cs → Prop) → Prop
  o : Option ME → Loc → Cs → (Option D → Cs → Prop) → Prop
  k : List (Str × ME) → Loc → Cs → (List (Str × D) → Cs → Prop) → Prop
/-- a comprehension's loop: N turns at most, from the i-th on -/
noncomputable def compL (F : EFns) (elt : ME) (ifs : List ME) (fvs : Loc) (s : Src) (j : Nat) (k : KE) (N : Nat) : Nat → Cs → Prop :=
  Nat.rec (motive := fun _ => Nat → Cs → Prop) (fun _ _ => False) (fun _ ih i C => optK (itemAt s i C) fun o => Option.casesOn (motive := fun _ => Prop) o (k (.lst j) C) fun d => F.t (.and ifs) (some d :: fvs) C fun b C =>
        br b (F.e elt (some d :: fvs) C fun e C => methOp .append (.lst j) [e] C fun _ C => ih (i + 1) C) (ih (i + 1) C)) N
noncomputable def eStep (T : Tab) (F : EFns) : EFns where
  e := fun e loc C k => ME.casesOn (motive_1 := fun _ => Prop) e
    (fun a => k (.at a) C)
    (fun i => varK loc i fun d => k d C)
    (fun d => k d C)
    (fun op l r => F.e l loc C fun a C => F.e r loc C fun b C => binOp op a b C k)
    (fun e => F.e e loc C fun a C => intK a fun i => k (dint (-i)) C)
    (fun op l r => F.e l loc C fun a C => F.e r loc C fun b C => cmpOp op a b C fun c C => k (dbool c) C)
    (fun e => F.e e loc C fun d C => truth d C fun b => k (dbool (!b)) C)
    (fun _ => False)
    (fun _ => False)
    (fun t b o => F.t t loc C fun c C => br c (F.e b loc C k) (F.e o loc C k))
    (fun v i => F.e v loc C fun a C => F.e i loc C fun b C => idxOp a b C k)
    (fun v lo hi st => F.e v loc C fun a C => F.o lo loc C fun l C => F.o hi loc C fun u C => F.o st loc C fun t C => slcOp a l u t C k)
    (fun es => F.s es loc C fun ds C => atomK ds fun l => wantC (Nat.ble l.length 100) (k (.tup l) C))
    (fun es => F.s es loc C fun ds C => wantC (Nat.ble ds.length 100) (k (.lst C.length) (C ++ [ds])))
    (fun elt fv rng src ifs => F.s src loc C fun ds C => srcOf rng ds fun s => ∃ N, compL F elt ifs (fv.map fun i => (loc[i]?).getD none) s C.length k N 0 (C ++ [[]]))
    (fun f args => F.s args loc C fun ds C => bltOp f ds C k)
    (fun f args kws => F.e f loc C fun fd C => F.s args loc C fun ds C => F.k kws loc C fun ks C => callOp T fd ds ks C k)
    (fun m o args => F.e o loc C fun od C => wantC (oTy m od) (F.s args loc C fun ds C => methOp m od ds C k))
    False
  t := fun e loc C k => (fun dv : Prop => ME.casesOn (motive_1 := fun _ => Prop) e (fun _ => dv) (fun _ => dv) (fun _ => dv) (fun _ _ _ => dv) (fun _ => dv)
    (fun op l r => F.e l loc C fun a C => F.e r loc C fun b C => cmpOp op a b C k)
    (fun e => F.t e loc C fun b C => k (!b) C)
    (fun l => List.casesOn (motive := fun _ => Prop) l (k true C) fun x r => F.t x loc C fun b C => br b (F.t (.and r) loc C k) (k false C))
    (fun l => List.casesOn (motive := fun _ => Prop) l (k false C) fun x r => F.t x loc C fun b C => br b (k true C) (F.t (.or r) loc C k))
    (fun _ _ _ => dv) (fun _ _ => dv) (fun _ _ _ _ => dv) (fun _ => dv) (fun _ => dv) (fun _ _ _ _ _ => dv) (fun _ _ => dv) (fun _ _ _ => dv) (fun _ _ _ => dv) dv)
    (F.e e loc C fun d C => truth d C fun b => k b C)
  s := fun l loc C k => List.casesOn (motive := fun _ => Prop) l (k [] C) fun e r => F.e e loc C fun d C => F.s r loc C fun ds C => k (d :: ds) C
  o := fun l loc C k => Option.casesOn (motive := fun _ => Prop) l (k none C) fun e => F.e e loc C fun d C => k (some d) C
  k := fun l loc C k => List.casesOn (motive := fun _ => Prop) l (k [] C) fun p r => F.e p.2 loc C fun d C => F.k r loc C fun ds C => k ((p.1, d) :: ds) C
noncomputable def EF (T : Tab) (n : Nat) : EFns := Nat.rec (motive := fun _ => EFns) ⟨fun _ _ _ _ => False, fun _ _ _ _ => False, fun _ _ _ _ => False, fun _ _ _ _ => False, fun _ _ _ _ => False⟩ (fun _ F => eStep T F) n
noncomputable def E (T : Tab) (n : Nat) := (EF T n).e
noncomputable def TE (T : Tab) (n : Nat) := (EF T n).t
noncomputable def Es (T : Tab) (n : Nat) := (EF T n).s
noncomputable def Eo (T : Tab) (n : Nat) := (EF T n).o
noncomputable def Ek (T : Tab) (n : Nat) := (EF T n).k

noncomputable def setK (a b d : D) (C : Cs) (f : Cs → Prop) : Prop := lstK a fun x => intK b fun j => optK (C[x]?) fun l => want (decide (0 ≤ j)) (want (decide (j < l.length)) (want (Nat.blt l.length (2 ^ 20)) (f (C.set x (l.set j.toNat d)))))
noncomputable def delK (a b : D) (C : Cs) (f : Cs → Prop) : Prop := lstK a fun x => intK b fun j => optK (C[x]?) fun l => want (decide (0 ≤ j)) (want (decide (j < l.length)) (want (Nat.blt l.length (2 ^ 20)) (f (C.set x (l.eraseIdx j.toNat)))))
@[elab_as_elim] theorem setK.el {a b d : D} {C : Cs} {f : Cs → Prop} {P : D → D → Prop} (h : setK a b d C f) (g : ∀ x j l, C[x]? = some l → 0 ≤ j → j < l.length → l.length < 2 ^ 20 → f (C.set x (l.set j.toNat d)) → P (.lst x) (dint j)) : P a b :=
  lstK.el h fun x h => intK.el h fun j h => optK.el h fun l e h => want.el h fun c1 h => want.el h fun c2 h => want.el h fun c3 h => g x j l e (of_decide_eq_true c1) (of_decide_eq_true c2) (Nat.le_of_ble_eq_true c3) h
@[elab_as_elim] theorem delK.el {a b : D} {C : Cs} {f : Cs → Prop} {P : D → D → Prop} (h : delK a b C f) (g : ∀ x j l, C[x]? = some l → 0 ≤ j → j < l.length → l.length < 2 ^ 20 → f (C.set x (l.eraseIdx j.toNat)) → P (.lst x) (dint j)) : P a b :=
  lstK.el h fun x h => intK.el h fun j h => optK.el h fun l e h => want.el h fun c1 h => want.el h fun c2 h => want.el h fun c3 h => g x j l e (of_decide_eq_true c1) (of_decide_eq_true c2) (Nat.le_of_ble_eq_true c3) h
/-- what stands behind a statement -/
noncomputable def goK (f : Loc → Cs → Prop) (k : KX) : KX := fun o loc C => Out.casesOn (motive := fun _ => Prop) o (f loc C) fun d => k (.ret d) loc C
structure XFns where
  x : MS → Loc → Cs → KX → Prop
  s : List MS → Loc → Cs → KX → Prop
/-- a for: N turns at most, from the i-th on -/
noncomputable def forL (F : List MS → Loc → Cs → KX → Prop) (m0 : Nat) (is : List Nat) (s : Src) (body : List MS) (k : KX) (N : Nat) : Nat → Loc → Cs → Prop :=
  Nat.rec (motive := fun _ => Nat → Loc → Cs → Prop) (fun _ _ _ => False) (fun _ ih i loc C => optK (itemAt s i C) fun o => Option.casesOn (motive := fun _ => Prop) o (k .next loc C) fun d => bindTo is d C loc fun loc =>
      F body loc C (goK (fun loc C => ∃ loc' C', TrimL m0 loc C loc' C' ∧ ih (i + 1) loc' C') k)) N
/-- a while: N tests at most -/
noncomputable def whlL (H : EFns) (F : List MS → Loc → Cs → KX → Prop) (t : ME) (body : List MS) (k : KX) (N : Nat) : Loc → Cs → Prop :=
  Nat.rec (motive := fun _ => Loc → Cs → Prop) (fun _ _ => False) (fun _ ih loc C => H.t t loc C fun c C => br c (F body loc C (goK ih k)) (k .next loc C)) N
noncomputable def xStep (F : EFns) (G : XFns) : XFns where
  x := fun st loc C k => MS.casesOn (motive_1 := fun _ => Prop) st
    (fun i e => F.e e loc C fun d C => k .next (loc.set i (some d)) C)
    (fun is e => F.e e loc C fun d C => bindMany is d C loc fun loc => k .next loc C)
    (fun i j a b => F.s [a, b] loc C fun ds C => two ds fun d1 d2 => k .next ((loc.set j (some d2)).set i (some d1)) C)
    (fun o i v => F.e v loc C fun d C => F.e o loc C fun a C => F.e i loc C fun b C => setK a b d C (k .next loc))
    (fun o i => F.e o loc C fun a C => F.e i loc C fun b C => delK a b C (k .next loc))
    (fun t a b => F.t t loc C fun c C => br c (G.s a loc C k) (G.s b loc C k))
    (fun is rng src body => F.s src loc C fun ds C => srcOf rng ds fun s => ∃ N, forL G.s C.length is s body k N 0 loc C)
    (fun t body => ∃ N, whlL F G.s t body k N loc C)
    (fun e => Option.casesOn (motive := fun _ => Prop) e (k (.ret (.at .none)) loc C) fun e => F.e e loc C fun d C => k (.ret d) loc C)
    (fun e => F.e e loc C fun d C => atK d fun _ => k .next loc C)
    (fun body => G.s body loc C k)
    False
  s := fun l loc C k => List.casesOn (motive := fun _ => Prop) l (k .next loc C) fun s r => G.x s loc C (goK (fun loc C => G.s r loc C k) k)
noncomputable def XF (T : Tab) (n : Nat) : XFns := Nat.rec (motive := fun _ => XFns) ⟨fun _ _ _ _ => False, fun _ _ _ _ => False⟩ (fun n G => xStep (EF T n) G) n
noncomputable def X (T : Tab) (n : Nat) := (XF T n).x
noncomputable def Xs (T : Tab) (n : Nat) := (XF T n).s
section
variable {T : Tab} {n : Nat} {loc : Loc} {C : Cs} {k : KE} {kx : KX} {kb : Bool → Cs → Prop}
theorem E_var {i : Nat} (h : E T (n + 1) (.var i) loc C k) : ∃ d, loc[i]? = some (some d) ∧ k d C := varK.use h
theorem E_bad (h : E T n .bad loc C k) : False := by cases n <;> exact h
theorem X_bad (h : X T n .bad loc C kx) : False := by cases n <;> exact h
end
end
section
open PySem PySem.W PySem.Calls PyProof.Rows

structure Room (n : Nat) (A : Around) : Prop where
  hd : A.handled = none
  dp : A.depth + n < recursionLimit
  un : A.units + 8 * n + 100 < cLine

noncomputable def Same (s s' : Shared) : Prop := s'.gens = s.gens ∧ s'.drawn = s.drawn ∧ s'.os = s.os
theorem Same.refl (s : Shared) : Same s s := ⟨rfl, rfl, rfl⟩
theorem Same.trans {a b c : Shared} (x : Same a b) (y : Same b c) : Same a c := ⟨y.1.trans x.1, y.2.1.trans x.2.1, y.2.2.trans x.2.2⟩

/-- the floats' tokens lie below the next one -/
structure Tk (g : Gh) (s : Shared) : Prop where
  pos : 0 < s.toks
  lt : ∀ t x, g.fl t = some x → 0 < t ∧ t < s.toks
theorem Tk.up {g : Gh} {s s' : Shared} (h : Tk g s) (le : s.toks ≤ s'.toks) : Tk g s' := ⟨Nat.lt_of_lt_of_le h.pos le, fun t x e => ⟨(h.lt t x e).1, Nat.lt_of_lt_of_le (h.lt t x e).2 le⟩⟩
noncomputable def Gh.addF (g : Gh) (t : Tok) (x : UInt64) : Gh := ⟨g.ad, fun u => if u = t then some x else g.fl u⟩
theorem Tk.le_addF {g : Gh} {s : Shared} (h : Tk g s) (x : UInt64) : g.Le (g.addF s.toks x) := ⟨List.prefix_refl _, fun t y e => by
  show (if t = s.toks then some x else g.fl t) = some y
  rw [if_neg (Nat.ne_of_lt (h.lt t y e).2)]; exact e⟩
theorem Tk.addF {g : Gh} {s s' : Shared} (h : Tk g s) (x : UInt64) (le : s.toks < s'.toks) : Tk (g.addF s.toks x) s' := ⟨Nat.lt_trans h.pos le, fun t y e => by
  have e : (if t = s.toks then some x else g.fl t) = some y := e
  by_cases q : t = s.toks
  · subst q; exact ⟨h.pos, le⟩
  · rw [if_neg q] at e; exact ⟨(h.lt t y e).1, Nat.lt_trans (h.lt t y e).2 le⟩⟩
theorem Gh.addF_at (g : Gh) (t : Tok) (x : UInt64) : (g.addF t x).fl t = some x := if_pos rfl

structure Step (own : List Addr) (σ : Gh) (s : Shared) (σ' : Gh) (s' : Shared) : Prop where
  pre : σ.Le σ'
  ext : Ext own s.heap s'.heap
  same : Same s s'
  tk : Tk σ' s'
theorem Step.refl {own σ s} (t : Tk σ s) : Step own σ s σ s := ⟨.refl _, .refl _ _, .refl _, t⟩
theorem Step.trans {own σ s σ' s' σ'' s''} (a : Step own σ s σ' s') (b : Step own σ' s' σ'' s'') : Step own σ s σ'' s'' := ⟨a.pre.trans b.pre, a.ext.trans b.ext, a.same.trans b.same, b.tk⟩
theorem Step.wide {own σ s σ' s'} (a : Step [] σ s σ' s') : Step own σ s σ' s' := ⟨a.pre, a.ext.wide, a.same, a.tk⟩
theorem Step.grow {own : List Addr} {σ : Gh} {s : Shared} {h' : Heap} {tk : Nat} (t : Tk σ s) (le : s.toks ≤ tk) (k : ∀ b o, s.heap.get? b = some o → h'.get? b = some o) : Step own σ s σ { s with heap := h', toks := tk } := ⟨.refl _, .grow k, ⟨rfl, rfl, rfl⟩, t.up le⟩
theorem RepV.step {B own σ s σ' s'} (a : Step own σ s σ' s') {v d} (r : RepV B σ s.heap v d) : RepV B σ' s'.heap v d := r.mono a.ext.tup a.pre
theorem RepVs.step {B own σ s σ' s'} (a : Step own σ s σ' s') {v d} (r : RepVs B σ s.heap v d) : RepVs B σ' s'.heap v d := r.imp fun _ _ r => r.step a

/-- behind an expression: its datum, the cells -/
noncomputable def Post (B : Heap) (σ : Gh) (s : Shared) (k : KE) (v : Value) (s' : Shared) : Prop :=
  ∃ d C' σ', k d C' ∧ RepV B σ' s'.heap v d ∧ Rep B σ' s'.heap C' ∧ Step [] σ s σ' s'
noncomputable def PostB (B : Heap) (σ : Gh) (s : Shared) (k : Bool → Cs → Prop) (b : Bool) (s' : Shared) : Prop :=
  ∃ C' σ', k b C' ∧ Rep B σ' s'.heap C' ∧ Step [] σ s σ' s'
noncomputable def PostL (B : Heap) (σ : Gh) (s : Shared) (k : List D → Cs → Prop) (vs : List Value) (s' : Shared) : Prop :=
  ∃ ds C' σ', k ds C' ∧ RepVs B σ' s'.heap vs ds ∧ Rep B σ' s'.heap C' ∧ Step [] σ s σ' s'
theorem Post.use {B σ s k v s'} {Q : Prop} (p : Post B σ s k v s') (f : ∀ d C' σ', k d C' → RepV B σ' s'.heap v d → Rep B σ' s'.heap C' → Step [] σ s σ' s' → Q) : Q :=
  p.elim fun d p => p.elim fun C' p => p.elim fun σ' p => f d C' σ' p.1 p.2.1 p.2.2.1 p.2.2.2
theorem PostB.use {B σ s k b s'} {Q : Prop} (p : PostB B σ s k b s') (f : ∀ C' σ', k b C' → Rep B σ' s'.heap C' → Step [] σ s σ' s' → Q) : Q :=
  p.elim fun C' p => p.elim fun σ' p => f C' σ' p.1 p.2.1 p.2.2
theorem PostL.use {B σ s k vs s'} {Q : Prop} (p : PostL B σ s k vs s') (f : ∀ ds C' σ', k ds C' → RepVs B σ' s'.heap vs ds → Rep B σ' s'.heap C' → Step [] σ s σ' s' → Q) : Q :=
  p.elim fun d p => p.elim fun C' p => p.elim fun σ' p => f d C' σ' p.1 p.2.1 p.2.2.1 p.2.2.2
theorem Post.from {B σ s k σ' s' v s''} (st : Step [] σ s σ' s') (p : Post B σ' s' k v s'') : Post B σ s k v s'' := by
  obtain ⟨d, C, τ, h1, h2, h3, h4⟩ := p; exact ⟨d, C, τ, h1, h2, h3, st.trans h4⟩
theorem PostB.from {B σ s k σ' s' v s''} (st : Step [] σ s σ' s') (p : PostB B σ' s' k v s'') : PostB B σ s k v s'' := by
  obtain ⟨C, τ, h1, h3, h4⟩ := p; exact ⟨C, τ, h1, h3, st.trans h4⟩
theorem PostL.from {B σ s k σ' s' v s''} (st : Step [] σ s σ' s') (p : PostL B σ' s' k v s'') : PostL B σ s k v s'' := by
  obtain ⟨d, C, τ, h1, h2, h3, h4⟩ := p; exact ⟨d, C, τ, h1, h2, h3, st.trans h4⟩
/-- a plain value, nothing changed but the tokens -/
theorem Post.atom {B σ s k v tk C} {a : At} (t : Tk σ s) (le : s.toks ≤ tk) (h : k (.at a) C) (r : RepA σ.fl v a) (R : Rep B σ s.heap C) : Post B σ s k v { s with toks := tk } := ⟨_, C, σ, h, .at r, R, .grow t le fun _ _ e => e⟩
theorem Post.flt {B σ s k C} {x : UInt64} (t : Tk σ s) (h : k (dflt x) C) (R : Rep B σ s.heap C) : Post B σ s k (.float x s.toks) { s with toks := s.toks + 1 } :=
  ⟨_, C, σ.addF s.toks x, h, .at (.flt (Gh.addF_at _ _ _)), R.fl (t.le_addF x).fl, t.le_addF x, .refl _ _, ⟨rfl, rfl, rfl⟩, t.addF x (Nat.lt_succ_self _)⟩
theorem Post.same {B σ s k v tk C d} (t : Tk σ s) (le : s.toks ≤ tk) (h : k d C) (r : RepV B σ s.heap v d) (R : Rep B σ s.heap C) : Post B σ s k v { s with toks := tk } := ⟨d, C, σ, h, r, R, .grow t le fun _ _ e => e⟩

/-- the names of a frame -/
structure EnvOk (sc : Scope) (vs : List Str) (env : Env) : Prop where
  sc : env.scope = sc
  kind : env.scope.kind = .function
  gl : env.globals = mainGlobals
  bl : env.builtins = builtinsNs
  nodup : vs.Nodup
  inj : ∀ x y c, env.cells.lookup x = some c → env.cells.lookup y = some c → x = y

/-- the frame bears the locals -/
structure Frm (B : Heap) (env : Env) (vs : List Str) (σ : Gh) (h : Heap) (loc : Loc) : Prop where
  ns : ∃ m, h.Ns env.locals m ∧ ∀ (i : Nat) x d, vs[i]? = some x → env.kindOf x = some .local → loc[i]? = some (some d) → ∃ v, m x = some v ∧ RepV B σ h v d
  newL : B.get? env.locals = none
  cl : ∀ (i : Nat) x, vs[i]? = some x → env.kindOf x = some .cell → ∃ c o, env.cells.lookup x = some c ∧ h.IsCell c o ∧ B.get? c = none ∧ ∀ d, loc[i]? = some (some d) → ∃ v, o = some v ∧ RepV B σ h v d
  len : loc.length = vs.length
theorem Frm.step {B env vs σ s loc σ' s'} (F : Frm B env vs σ s.heap loc) (st : Step [] σ s σ' s') : Frm B env vs σ' s'.heap loc := by
  obtain ⟨m, hn, hm⟩ := F.ns
  refine ⟨⟨m, st.ext.ns hn, fun i x d h1 h2 h3 => ?_⟩, F.newL, fun i x h1 h2 => ?_, F.len⟩
  · obtain ⟨v, hv, rv⟩ := hm i x d h1 h2 h3
    exact ⟨v, hv, rv.step st⟩
  · obtain ⟨c, o, hc, ho, hB, hd⟩ := F.cl i x h1 h2
    refine ⟨c, o, hc, st.ext.isCell ho, hB, fun d h3 => ?_⟩
    obtain ⟨v, hv, rv⟩ := hd d h3
    exact ⟨v, hv, rv.step st⟩

noncomputable def Blt.name : Blt → Str
  | .len => "len" | .sum => "sum" | .int => "int" | .max => "max" | .min => "min" | .sorted => "sorted" | .tuple => "tuple"
noncomputable def Blt.val : Blt → Value
  | .len => .builtin "len" | .sum => .builtin "sum" | .int => .type "int" | .max => .builtin "max" | .min => .builtin "min" | .sorted => .builtin "sorted" | .tuple => .type "tuple"

/-- what stands at the top: the defs, the tables, the built-in names -/
structure GF (prog : Program) (w : World) (B : Heap) (gl : List (Str × D)) : Prop where
  top : ∃ mg mb, B.Ns mainGlobals mg ∧ B.Ns builtinsNs mb ∧ (∀ x d, gl.lookup x = some d → ∃ v, mg x = some v ∧ ∀ σ h, RepV B σ h v d) ∧
    (∀ b : Blt, mg b.name = none ∧ mb b.name = some b.val) ∧ mg "range" = none ∧ mb "range" = some (.type "range")
  nolimit : B.NoLimit
  booked : NoneBooked B
  tz : ∃ f : Str → Option Value, B.MapOf (strKind prog w) 58 f ∧ ∀ k, match tzTab.lookup k with | some i => ∃ t, f k = some (.int i t) | none => f k = none

section
variable (prog : Program) (w : World) (B : Heap) (r : Nat)
abbrev No : Value → Shared → Prop := fun _ _ => False

noncomputable def WE (env : Env) (vs : List Str) (e : Expr) (loc : Loc) (C : Cs) (k : KE) : Prop :=
  ∀ A σ s, Room r A → Tk σ s → Rep B σ s.heap C → Frm B env vs σ s.heap loc → wpAny (model prog w) A (eval e env) (Post B σ s k) No s
noncomputable def WT (env : Env) (vs : List Str) (e : Expr) (loc : Loc) (C : Cs) (k : Bool → Cs → Prop) : Prop :=
  ∀ A σ s, Room r A → Tk σ s → Rep B σ s.heap C → Frm B env vs σ s.heap loc → wpAny (model prog w) A (isTrue e env (eval e env)) (PostB B σ s k) No s

noncomputable def BinOk (op : Operator) (a b : D) (C : Cs) (k : KE) : Prop := ∀ A σ s va vb, Room r A → Tk σ s → Rep B σ s.heap C → RepV B σ s.heap va a → RepV B σ s.heap vb b → wpAny (model prog w) A (binaryOp op va vb) (Post B σ s k) No s
noncomputable def CmpOk (op : CmpOp) (a b : D) (C : Cs) (k : Bool → Cs → Prop) : Prop := ∀ A σ s va vb, Room r A → Tk σ s → Rep B σ s.heap C → RepV B σ s.heap va a → RepV B σ s.heap vb b →
  wpAny (model prog w) A (compareOp op va vb) (fun v s' => ∃ c, v = .bool c ∧ PostB B σ s k c s') No s

/-- a def's call keeps what its spec says -/
noncomputable def SpecOk (f : Addr) (sp : Spec) : Prop := ∀ A σ s vals kvals args kws C k, Room r A → Tk σ s → Rep B σ s.heap C → RepVs B σ s.heap vals args →
  All2 (fun (p : Str × Value) (q : Str × D) => p.1 = q.1 ∧ RepV B σ s.heap p.2 q.2) kvals kws → sp args kws C k → wpAny (model prog w) A (call (.ref f) vals kvals) (Post B σ s k) No s
noncomputable def TabOk (T : Tab) : Prop := ∀ f sp, T.lookup f = some sp → (∃ o fd, B.get? f = some o ∧ o.data = .func fd) ∧ SpecOk prog w B r f sp
end

theorem wp_le {α : Type} {M : Model} {A : Around} {t : Sem α} {Q : α → Shared → Prop} {s : Shared} (h : wpAny M A t (fun a s' => s.toks ≤ s'.toks → Q a s') No s) : wpAny M A t Q No s :=
  wpAny_with_toks (Nat.le_refl _) (wpAny_mono h (fun _ _ x => x) fun _ _ x => x.elim)
theorem wp_no {α : Type} {M : Model} {A : Around} {t : Sem α} {Q Q' : α → Shared → Prop} {E' : Value → Shared → Prop} {s : Shared} (h : wpAny M A t Q No s) (hQ : ∀ a s, Q a s → Q' a s) : wpAny M A t Q' E' s :=
  wpAny_mono h hQ fun _ _ x => x.elim
end
section
open PySem PySem.W PySem.Calls PyProof.Rows
open PySem.Builtin PySem.Builtin.Str
set_option maxHeartbeats 4000000
noncomputable def fmtLit : Str := ⟨#[37, 115, 44, 32, 37, 48, 50, 100, 32, 37, 115, 32, 37, 48, 52, 100, 32, 37, 48, 50, 100, 58, 37, 48, 50, 100, 58, 37, 48, 50, 100, 32, 37, 115]⟩
theorem fmt_lit : fmtText = fmtLit := by decide +kernel

theorem digs_text {n : Int} (hn : 0 ≤ n) : (Str.ofString (toString ((n.natAbs : Nat) : Int))).cps.toList = digs n.toNat := by
  have e : ((n.natAbs : Nat) : Int) = n := Int.natAbs_of_nonneg hn
  obtain ⟨k, rfl⟩ : ∃ k : Nat, n = (k : Int) := ⟨n.toNat, (Int.toNat_of_nonneg hn).symm⟩
  rw [e, Str.ofString_eq_toList]
  have e2 : toString ((k : Nat) : Int) = k.repr := rfl
  rw [e2, Nat.toList_repr]
  rfl
theorem digs_len {n : Int} (h0 : 0 ≤ n) (h : n < 10 ^ 6) : (digs n.toNat).length ≤ 6 := by
  unfold digs
  rw [List.length_map]
  refine (Nat.length_toDigits_le_iff (by decide) (by decide)).mpr ?_
  omega
theorem digs_head {n : Nat} {c : Nat} {r : List Nat} (h : digs n = c :: r) : c ≠ 45 ∧ c ≠ 43 := by
  unfold digs at h
  have hm : c ∈ (Nat.toDigits 10 n).map Char.toNat := by rw [h]; simp
  obtain ⟨x, hx, rfl⟩ := List.mem_map.mp hm
  have hd := Nat.isDigit_of_mem_toDigits (by decide) (by decide) hx
  constructor
  · intro e
    have : x = Char.ofNat 45 := by rw [← e]; exact (Char.ofNat_toNat x).symm
    subst this
    revert hd; decide
  · intro e
    have : x = Char.ofNat 43 := by rw [← e]; exact (Char.ofNat_toNat x).symm
    subst this
    revert hd; decide
theorem pad_len {wd : Nat} {n : Int} (h0 : 0 ≤ n) (h : n < 10 ^ 6) (hw : wd ≤ 6) : (pad wd n).length ≤ 6 := by
  unfold pad
  have := digs_len h0 h
  simp; omega
theorem field_pad {cc : Percent} {wd : Nat} {n : Int} (ec : cc = ⟨false, false, false, false, true, some wd, none, 100⟩) :
    (percentField cc true (digs n.toNat) = none ∧ digs n.toNat = pad wd n) ∨ percentField cc true (digs n.toNat) = some (pad wd n) := by
  subst ec
  by_cases c : wd ≤ (digs n.toNat).length
  · left
    refine ⟨?_, ?_⟩
    · unfold percentField
      simp [c]
    · unfold pad
      rw [show wd - (digs n.toNat).length = 0 by omega]; rfl
  · right
    unfold percentField pad
    have hd := @digs_head n.toNat
    generalize digs n.toNat = D at *
    simp only [Option.all_some, Option.all_none, Bool.and_true, Bool.not_false, decide_eq_true_eq, c, if_false]
    cases D with
    | nil => simp
    | cons x r =>
      obtain ⟨q1, q2⟩ := hd rfl
      simp
      split
      · rename_i h; simp at h; exact absurd h.1 q1
      · rename_i h; simp at h; exact absurd h.1 q2
      · simp
theorem pad_piece {M : Model} {A : Around} {E : Value → Shared → Prop} {s : Shared} {β : Type} {Qb : β → Shared → Prop} {w : Writer} {T : Str} {N wd : Nat} {n : Int} {d : List Nat} {cc : Percent} {o : Option Value} (K : Writer → Sem β)
    (g : KPc.Good w T N) (h0 : 0 ≤ n) (h1 : n < 10 ^ 6) (hw : wd ≤ 6) (ec : cc = ⟨false, false, false, false, true, some wd, none, 100⟩) (hd : d = (Str.ofString (toString ((n.natAbs : Nat) : Int))).cps.toList) (ho : o = none)
    (h : ∀ w', KPc.Good w' (T ++ ⟨(pad wd n).toArray⟩) (N + 10) → wpAny M A (K w') Qb E s) :
    wpAny M A (match percentField cc true (percentInt cc (decide (n < 0)) d) with
      | none => K (w.add ⟨(percentInt cc (decide (n < 0)) d).toArray⟩ o)
      | some laid => K (w.add ⟨laid.toArray⟩ none)) Qb E s := by
  rw [KPc.int_text cc (by rw [ec]) (by rw [ec]; exact .inl rfl) (by rw [ec]) h0, hd, digs_text h0, ho]
  have hl : (⟨(pad wd n).toArray⟩ : Str).length ≤ 10 := by
    have := pad_len (wd := wd) h0 h1 hw
    show (pad wd n).toArray.size ≤ 10
    simp; omega
  have h2 := fun w' g' => h w' (KPc.good_mono g' (Nat.add_le_add_left hl N))
  rcases field_pad (n := n) ec with ⟨e1, e2⟩ | e1
  · rw [e1]
    dsimp only
    rw [e2]
    exact h2 _ (KPc.good_add g (KPc.obj_none rfl))
  · rw [e1]
    exact h2 _ (KPc.good_add g (KPc.obj_none rfl))
theorem lg {n : Int} (h : 0 ≤ n ∧ n < 10 ^ 6) : n.natAbs.log2 < 1920 := by
  by_cases h0 : n.natAbs = 0
  · rw [h0]; decide
  · refine (Nat.log2_lt h0).mpr ?_
    have h2 : n.natAbs < 2 ^ 20 := by have := h.1; have := h.2; omega
    exact Nat.lt_of_lt_of_le h2 (Nat.pow_le_pow_right (by decide) (by decide))
theorem app_str (x y : Str) : x ++ y = ⟨(x.cps.toList ++ y.cps.toList).toArray⟩ := by
  have : (x ++ y).cps = (x.cps.toList ++ y.cps.toList).toArray := by rw [Str.cps_append]; simp
  exact congrArg Str.mk this
theorem fmt_text_eq {x1 x3 x8 : Str} {d y h m c : Int} : x1 ++ Str.ofString ", " ++ ⟨(pad 2 d).toArray⟩ ++ Str.ofString " " ++ x3 ++ Str.ofString " " ++ ⟨(pad 4 y).toArray⟩ ++ Str.ofString " " ++ ⟨(pad 2 h).toArray⟩ ++ Str.ofString ":" ++ ⟨(pad 2 m).toArray⟩ ++ Str.ofString ":" ++ ⟨(pad 2 c).toArray⟩ ++ Str.ofString " " ++ x8 = fmtDate x1 d x3 y h m c x8 := by
  have e1 : Str.ofString ", " = ⟨#[44, 32]⟩ := by decide +kernel
  have e2 : Str.ofString " " = ⟨#[32]⟩ := by decide +kernel
  have e3 : Str.ofString ":" = ⟨#[58]⟩ := by decide +kernel
  rw [e1, e2, e3]
  unfold fmtDate
  simp only [app_str, List.append_assoc, List.cons_append, List.nil_append]
theorem fmt_meets {x1 x3 x8 : Str} {d y h m c : Int} {t t1 t2 t3 t4 t5 t6 t7 t8 : Tok} {b : Addr} 
   (h1 : x1.length ≤ 100) (h3 : x3.length ≤ 100) (h8 : x8.length ≤ 100) (b2 : 0 ≤ d ∧ d < 10 ^ 6) (b4 : 0 ≤ y ∧ y < 10 ^ 6) (b5 : 0 ≤ h ∧ h < 10 ^ 6) (b6 : 0 ≤ m ∧ m < 10 ^ 6) (b7 : 0 ≤ c ∧ c < 10 ^ 6) :
   Meets («str.__mod__» ⟨[.str ⟨#[37, 115, 44, 32, 37, 48, 50, 100, 32, 37, 115, 32, 37, 48, 52, 100, 32, 37, 48, 50, 100, 58, 37, 48, 50, 100, 58, 37, 48, 50, 100, 32, 37, 115]⟩ t, .ref b], []⟩) (fun _ R s => IsTup s.heap b #[.str x1 t1, .int d t2, .str x3 t3, .int y t4, .int h t5, .int m t6, .int c t7, .str x8 t8] ∧ ∀ t' k, R (.ok (.ret (.str (fmtDate x1 d x3 y h m c x8) t'))) { s with toks := k }) := by
  apply KPt.meets_tup
  intro _ _ _ _ _ _ kptH kptQ
  obtain ⟨kptO, kptG, kptC, kptN, kptD⟩ := kptH
  rw [KPt.entry_is_r]
  unfold Builtin.Str.percentFormat
  refine wpAny_bind (wpAny_isInstance (T := "tuple") ⟨kptO, kptG, kptC⟩ KPt.sub_tt ?_)
  refine wpAny_bind (KPt.asStr_ref kptG kptD ?_)
  refine wpAny_bind (KPt.fills_ref ⟨kptO, kptG, kptC⟩ ?_)
  intro _
  kpc_if
  refine wpAny_bind (wpAny_seqItems kptG kptD ?_)
  refine wpAny_bind (wpAny_pure ?_)
  refine wpAny_bind ?_
  rw [KPc.range_list]
  refine KPc.start ?_
  intro _ _
  refine KPc.turn ?_; kpc_check; (repeat kpc_if)
  refine wpAny_bind ?_; refine wpAny_holding ?_; (repeat kpc_if); kpt_conv; refine wpAny_pure ?_; refine wpAny_pure ?_
  refine KPc.after_str0 (by kpc_g) h1 (by kpc_obj) ?_; intro _ _
  refine KPc.turn ?_; kpc_check; (repeat kpc_if); refine wpAny_pure ?_; kpt_piece
  refine KPc.turn ?_; kpc_check; (repeat kpc_if)
  refine wpAny_bind ?_; refine wpAny_holding ?_; (repeat kpc_if)
  refine wpAny_bind (wpAny_of_eq (a := _) rfl ?_); (repeat kpc_if)
  refine wpAny_bind (wpAny_mkInt ?_)
  refine wpAny_bind (call_gives F.slot_int_repr (typeIs_int _ _ _) F.entry_int_repr (F.args_int_repr_1 _) (gives_int_repr _ _ (KPt.hd2 (lg b2))) ⟨int_text_fits (KPt.hd2 (lg b2)), ?_⟩)
  refine wpAny_bind (wpAny_of_eq (a := some _) rfl ?_)
  refine wpAny_pure ?_
  refine pad_piece (wd := 2) (K := fun w' => pure (ForInStep.yield (_, w', _))) (by kpc_g) b2.1 b2.2 (by decide) rfl rfl rfl ?_
  intro _ _
  refine wpAny_pure ?_
  refine KPc.turn ?_; kpc_check; (repeat kpc_if); refine wpAny_pure ?_; kpt_piece
  refine KPc.turn ?_; kpc_check; (repeat kpc_if)
  refine wpAny_bind ?_; refine wpAny_holding ?_; (repeat kpc_if); kpt_conv; refine wpAny_pure ?_; refine wpAny_pure ?_
  refine KPc.after_str (by kpc_g) h3 (by kpc_obj) ?_; intro _ _
  refine KPc.turn ?_; kpc_check; (repeat kpc_if); refine wpAny_pure ?_; kpt_piece
  refine KPc.turn ?_; kpc_check; (repeat kpc_if)
  refine wpAny_bind ?_; refine wpAny_holding ?_; (repeat kpc_if)
  refine wpAny_bind (wpAny_of_eq (a := _) rfl ?_); (repeat kpc_if)
  refine wpAny_bind (wpAny_mkInt ?_)
  refine wpAny_bind (call_gives F.slot_int_repr (typeIs_int _ _ _) F.entry_int_repr (F.args_int_repr_1 _) (gives_int_repr _ _ (KPt.hd2 (lg b4))) ⟨int_text_fits (KPt.hd2 (lg b4)), ?_⟩)
  refine wpAny_bind (wpAny_of_eq (a := some _) rfl ?_)
  refine wpAny_pure ?_
  refine pad_piece (wd := 4) (K := fun w' => pure (ForInStep.yield (_, w', _))) (by kpc_g) b4.1 b4.2 (by decide) rfl rfl rfl ?_
  intro _ _
  refine wpAny_pure ?_
  refine KPc.turn ?_; kpc_check; (repeat kpc_if); refine wpAny_pure ?_; kpt_piece
  refine KPc.turn ?_; kpc_check; (repeat kpc_if)
  refine wpAny_bind ?_; refine wpAny_holding ?_; (repeat kpc_if)
  refine wpAny_bind (wpAny_of_eq (a := _) rfl ?_); (repeat kpc_if)
  refine wpAny_bind (wpAny_mkInt ?_)
  refine wpAny_bind (call_gives F.slot_int_repr (typeIs_int _ _ _) F.entry_int_repr (F.args_int_repr_1 _) (gives_int_repr _ _ (KPt.hd2 (lg b5))) ⟨int_text_fits (KPt.hd2 (lg b5)), ?_⟩)
  refine wpAny_bind (wpAny_of_eq (a := some _) rfl ?_)
  refine wpAny_pure ?_
  refine pad_piece (wd := 2) (K := fun w' => pure (ForInStep.yield (_, w', _))) (by kpc_g) b5.1 b5.2 (by decide) rfl rfl rfl ?_
  intro _ _
  refine wpAny_pure ?_
  refine KPc.turn ?_; kpc_check; (repeat kpc_if); refine wpAny_pure ?_; kpt_piece
  refine KPc.turn ?_; kpc_check; (repeat kpc_if)
  refine wpAny_bind ?_; refine wpAny_holding ?_; (repeat kpc_if)
  refine wpAny_bind (wpAny_of_eq (a := _) rfl ?_); (repeat kpc_if)
  refine wpAny_bind (wpAny_mkInt ?_)
  refine wpAny_bind (call_gives F.slot_int_repr (typeIs_int _ _ _) F.entry_int_repr (F.args_int_repr_1 _) (gives_int_repr _ _ (KPt.hd2 (lg b6))) ⟨int_text_fits (KPt.hd2 (lg b6)), ?_⟩)
  refine wpAny_bind (wpAny_of_eq (a := some _) rfl ?_)
  refine wpAny_pure ?_
  refine pad_piece (wd := 2) (K := fun w' => pure (ForInStep.yield (_, w', _))) (by kpc_g) b6.1 b6.2 (by decide) rfl rfl rfl ?_
  intro _ _
  refine wpAny_pure ?_
  refine KPc.turn ?_; kpc_check; (repeat kpc_if); refine wpAny_pure ?_; kpt_piece
  refine KPc.turn ?_; kpc_check; (repeat kpc_if)
  refine wpAny_bind ?_; refine wpAny_holding ?_; (repeat kpc_if)
  refine wpAny_bind (wpAny_of_eq (a := _) rfl ?_); (repeat kpc_if)
  refine wpAny_bind (wpAny_mkInt ?_)
  refine wpAny_bind (call_gives F.slot_int_repr (typeIs_int _ _ _) F.entry_int_repr (F.args_int_repr_1 _) (gives_int_repr _ _ (KPt.hd2 (lg b7))) ⟨int_text_fits (KPt.hd2 (lg b7)), ?_⟩)
  refine wpAny_bind (wpAny_of_eq (a := some _) rfl ?_)
  refine wpAny_pure ?_
  refine pad_piece (wd := 2) (K := fun w' => pure (ForInStep.yield (_, w', _))) (by kpc_g) b7.1 b7.2 (by decide) rfl rfl rfl ?_
  intro _ _
  refine wpAny_pure ?_
  refine KPc.turn ?_; kpc_check; (repeat kpc_if); refine wpAny_pure ?_; kpt_piece
  refine KPc.turn ?_; kpc_check; (repeat kpc_if)
  refine wpAny_bind ?_; refine wpAny_holding ?_; (repeat kpc_if); kpt_conv; refine wpAny_pure ?_; refine wpAny_pure ?_
  refine KPc.after_str (by kpc_g) h8 (by kpc_obj) ?_; intro _ _
  refine KPc.turn ?_; kpc_check; (repeat kpc_if)
  refine wpAny_pure ?_; kpc_if; refine KPc.finish_ok (by kpc_g) (by decide +kernel) fmt_text_eq ?_
  exact kptQ
theorem fmt_run {prog : Program} {w : World} {A E s t b} {vs : List Value} {x1 x3 x8 : Str} {d y h m c : Int} {Q : Value → Shared → Prop} (ht : s.heap.IsTuple b vs.toArray)
    {fl : Tok → Option UInt64} (hv : All2 (RepA fl) vs [.str x1, .int d, .str x3, .int y, .int h, .int m, .int c, .str x8]) (hd : small d = true) (hy : small y = true) (hh : small h = true) (hm : small m = true) (hc : small c = true)
    (h1 : x1.length ≤ 100) (h3 : x3.length ≤ 100) (h8 : x8.length ≤ 100) (hq : ∀ t' k, Q (.str (fmtDate x1 d x3 y h m c x8) t') { s with toks := k }) : wpAny (model prog w) A (binaryOp .Mod (.str fmtText t) (.ref b)) Q E s := by
  have sm : ∀ {i : Int}, small i = true → 0 ≤ i ∧ i < 10 ^ 6 := fun h => by
    unfold small at h
    rw [Bool.and_eq_true] at h
    exact ⟨of_decide_eq_true h.1, of_decide_eq_true h.2⟩
  rw [fmt_lit]
  cases hv with | cons r1 hv => cases hv with | cons r2 hv => cases hv with | cons r3 hv => cases hv with | cons r4 hv => cases hv with | cons r5 hv => cases hv with | cons r6 hv => cases hv with | cons r7 hv => cases hv with | cons r8 hv => cases hv with | nil =>
  cases r1; cases r2; cases r3; cases r4; cases r5; cases r6; cases r7; cases r8
  have hT : s.TypeIs (.ref b) "tuple" := by
    obtain ⟨o, ho, hc, _⟩ := ht
    exact ⟨o, ho, hc⟩
  exact KPt.bin_left (T := "str") (U := "tuple") (op := .Mod) (by decide) (typeIs_str s _ t) hT F.fills_str_mod KPt.fills_tuple F.slot_str_mod
    (call_meets F.slot_str_mod (typeIs_str s _ t) F.entry_str_mod (F.args_str_mod_2 _ _) (fmt_meets h1 h3 h8 (sm hd) (sm hy) (sm hh) (sm hm) (sm hc)) ⟨ht, fun t' k => ⟨(fun e => nomatch e), hq t' k⟩⟩)
end
section
open PySem PySem.W PySem.Calls PyProof.Rows

theorem want_iff {b : Bool} {p : Prop} (h : want b p) : b = true ∧ p := by
  cases b with
  | true => exact ⟨rfl, h⟩
  | false => exact h.elim
theorem and_iff {a b : Bool} (h : (a && b) = true) : a = true ∧ b = true := by simpa using h
theorem dec_iff {p : Prop} [Decidable p] (h : decide p = true) : p := of_decide_eq_true h
theorem nodec_iff {p : Prop} [Decidable p] (h : (!decide p) = true) : ¬ p := by simpa using h
theorem not_iff' {b : Bool} (h : (!b) = true) : ¬ b = true := by simpa using h

/-- a new object on the heap, nothing else -/
theorem grow_push (h : Heap) (o : Obj) : ∀ b x, h.get? b = some x → (h.push o).get? b = some x := fun _ _ e => Heap.get?_push_of_some _ e

theorem plain_push (h : Heap) (vs : Array Value) : (h.push { cls := .type "list", data := .seq vs }).PlainList h.objs.size vs := ⟨0, Heap.get?_push_size _ rfl⟩
theorem tuple_push (h : Heap) (vs : Array Value) : (h.push { cls := .type "tuple", data := .seq vs }).IsTuple h.objs.size vs := ⟨_, Heap.get?_push_size _ rfl, rfl, 0, rfl⟩

/-- a new list is handed back -/
theorem Post.list {B σ s k C tk} {vs : List Value} {ds : List D} (t : Tk σ s) (le : s.toks ≤ tk) (R : Rep B σ s.heap C) (r : RepVs B σ s.heap vs ds) (h : k (.lst C.length) (C ++ [ds])) {h' : Heap}
    (g : ∀ b x, s.heap.get? b = some x → h'.get? b = some x) {a : Addr} (ha : s.heap.get? a = none) (p : h'.PlainList a vs.toArray) : Post B σ s k (.ref a) { s with heap := h', toks := tk } := by
  refine ⟨_, _, σ.addL a, h, .lst ?_, R.alloc ha g p r, .addL _ _, .grow g, ⟨rfl, rfl, rfl⟩, Tk.up (g := σ.addL a) (s := s) ⟨t.pos, t.lt⟩ le⟩
  show (σ.ad ++ [a])[C.length]? = some a
  rw [← R.len]; simp
theorem Post.tuple {B σ s k C tk} {vs : List Value} {l : List At} (t : Tk σ s) (le : s.toks ≤ tk) (R : Rep B σ s.heap C) (r : All2 (RepA σ.fl) vs l) (h : k (.tup l) C) {h' : Heap}
    (g : ∀ b x, s.heap.get? b = some x → h'.get? b = some x) {a : Addr} (p : h'.IsTuple a vs.toArray) : Post B σ s k (.ref a) { s with heap := h', toks := tk } :=
  ⟨_, _, σ, h, .tup p r, R.grow g, .grow t le g⟩

variable {prog : Program} {w : World} {B : Heap} {r : Nat}
/-! what stands for a datum, read backwards -/
section
variable {σ : Gh} {h : Heap} {v : Value}
/-- what each datum asks of its value -/
noncomputable def RepV.Inv (B : Heap) (σ : Gh) (h : Heap) (v : Value) (d : D) : Prop := match d with
  | .at a => RepA σ.fl v a
  | .tup l => ∃ a vs, v = .ref a ∧ h.IsTuple a (List.toArray vs) ∧ All2 (RepA σ.fl) vs l
  | .lst k => ∃ a, v = .ref a ∧ σ.ad[k]? = some a
  | .frz l => ∃ a vs, v = .ref a ∧ B.PlainList a (List.toArray vs) ∧ All2 (RepA noFl) vs l
  | .arg l => ∃ a vs, v = .ref a ∧ B.IsList a (List.toArray vs) ∧ All2 (RepA noFl) vs l
  | .fn f => v = .ref f
  | .dct => v = .ref 58
theorem RepV.inv {d : D} (x : RepV B σ h v d) : RepV.Inv B σ h v d := by
  induction x with
  | «at» a => exact a
  | tup a b => exact ⟨_, _, rfl, a, b⟩
  | lst a => exact ⟨_, rfl, a⟩
  | frz a b => exact ⟨_, _, rfl, a, b⟩
  | arg a b => exact ⟨_, _, rfl, a, b⟩
  | fn => rfl
  | dct => rfl
noncomputable def RepA.Inv (fl : Tok → Option UInt64) (v : Value) (a : At) : Prop := match a with
  | .int i => ∃ t, v = .int i t
  | .flt i => ∃ t, fl t = some i ∧ v = .float i t
  | .str i => ∃ t, v = .str i t
  | .bool i => v = .bool i
  | .none => v = .none
theorem RepA.inv {fl : Tok → Option UInt64} {a : At} (x : RepA fl v a) : RepA.Inv fl v a := by
  induction x with
  | none => rfl
  | bool => rfl
  | int i t => exact ⟨t, rfl⟩
  | flt e => exact ⟨_, e, rfl⟩
  | str i t => exact ⟨t, rfl⟩
theorem RepV.a {a : At} (x : RepV B σ h v (.at a)) : RepA σ.fl v a := x.inv
theorem RepA.i {fl : Tok → Option UInt64} {i : Int} (x : RepA fl v (.int i)) : ∃ t, v = .int i t := x.inv
theorem RepA.f {fl : Tok → Option UInt64} {i : UInt64} (x : RepA fl v (.flt i)) : ∃ t, fl t = some i ∧ v = .float i t := x.inv
theorem RepA.s {fl : Tok → Option UInt64} {i : Str} (x : RepA fl v (.str i)) : ∃ t, v = .str i t := x.inv
theorem RepA.b {fl : Tok → Option UInt64} {i : Bool} (x : RepA fl v (.bool i)) : v = .bool i := x.inv
theorem RepA.n {fl : Tok → Option UInt64} (x : RepA fl v .none) : v = .none := x.inv
theorem RepV.i {i : Int} (x : RepV B σ h v (dint i)) : ∃ t, v = .int i t := x.a.i
theorem RepV.f {i : UInt64} (x : RepV B σ h v (dflt i)) : ∃ t, σ.fl t = some i ∧ v = .float i t := x.a.f
theorem RepV.s {i : Str} (x : RepV B σ h v (dstr i)) : ∃ t, v = .str i t := x.a.s
theorem RepV.t {l : List At} (x : RepV B σ h v (.tup l)) : ∃ a vs, v = .ref a ∧ h.IsTuple a (List.toArray vs) ∧ All2 (RepA σ.fl) vs l := x.inv
theorem RepV.l {k : Nat} (x : RepV B σ h v (.lst k)) : ∃ a, v = .ref a ∧ σ.ad[k]? = some a := x.inv
theorem RepV.z {l : List At} (x : RepV B σ h v (.frz l)) : ∃ a vs, v = .ref a ∧ B.PlainList a (List.toArray vs) ∧ All2 (RepA noFl) vs l := x.inv
theorem RepV.g {l : List At} (x : RepV B σ h v (.arg l)) : ∃ a vs, v = .ref a ∧ B.IsList a (List.toArray vs) ∧ All2 (RepA noFl) vs l := x.inv
theorem RepV.u {f : Addr} (x : RepV B σ h v (.fn f)) : v = .ref f := x.inv
theorem RepV.d (x : RepV B σ h v .dct) : v = .ref 58 := x.inv
/-- a cell that a value stands for -/
theorem RepV.c {k : Nat} {C : Cs} {l : List D} (x : RepV B σ h v (.lst k)) (R : Rep B σ h C) (e : C[k]? = some l) : ∃ a us, v = .ref a ∧ σ.ad[k]? = some a ∧ h.PlainList a (List.toArray us) ∧ RepVs B σ h us l :=
  let ⟨a, ev, p⟩ := x.l
  let ⟨us, pl, ru⟩ := R.cell k a l p e
  ⟨a, us, ev, p, pl, ru⟩
end

theorem mulOk {x y : Int} (h : x.natAbs < 2 ^ 40) : IntMulOk x y := by
  unfold IntMulOk
  have : ¬ Builtin.Int.intBits x > shortFactorBits := by
    unfold Builtin.Int.intBits shortFactorBits
    split
    · omega
    · have : x.natAbs.log2 < 40 := by
        by_cases h0 : x.natAbs = 0
        · rw [h0]; decide
        · exact (Nat.log2_lt h0).mpr h
      omega
  simp [this]
theorem notPylong {x y : Int} (h : y.natAbs < 2 ^ 60) : ¬ Builtin.divisionGoesByPylong x y = true := by
  unfold Builtin.divisionGoesByPylong
  simp only [Bool.and_eq_true, decide_eq_true_eq, not_and]
  intro h1
  exfalso
  split at h1
  · omega
  · have : y.natAbs.log2 < 60 := by
      by_cases h0 : y.natAbs = 0
      · rw [h0]; decide
      · exact (Nat.log2_lt h0).mpr h
    omega

theorem list_add {A E s l b} {its its2 : List Value} {Q : Value → Shared → Prop} (hl : s.heap.IsList l its.toArray) (hb : s.heap.IsList b its2.toArray) (hsz : its.length + its2.length ≤ sizeLine)
    (h : Q (.ref s.heap.objs.size) { s with heap := s.heap.push { cls := .type "list", data := .seq (its ++ its2).toArray } }) : wpAny (model prog w) A (binaryOp .Add (.ref l) (.ref b)) Q E s := by
  obtain ⟨⟨cls, dd, data, sl⟩, ho, hc, n, hd⟩ := id hl
  obtain ⟨⟨cls2, dd2, data2, sl2⟩, ho2, hc2, n2, hd2⟩ := id hb
  simp only at hc hd hc2 hd2
  subst hc hd hc2 hd2
  have e : its.toArray ++ its2.toArray = (its ++ its2).toArray := by simp
  refine concat_meets ⟨_, ho, rfl⟩ ⟨_, ho2, rfl⟩ noFill_list_add seq_list_add PySem.F.slot_list_add PySem.F.entry_list_add (PySem.F.args_list_add_2 _ _) (list_addW l b its.toArray its2.toArray n n2 dd dd2 sl sl2 (by simpa using hsz)) ⟨ho, ho2, ?_⟩
  rw [e]; exact h

theorem tuple_add {A E s t b} {vs ws : List Value} {Q : Value → Shared → Prop} (ht : s.heap.IsTuple t vs.toArray) (hb : s.heap.IsTuple b ws.toArray) (hsz : vs.length + ws.length ≤ sizeLine)
    (h0 : vs = [] → Q (.ref b) s) (h1 : ws = [] → Q (.ref t) s)
    (h2 : Q (.ref s.heap.objs.size) { s with heap := s.heap.push { cls := .type "tuple", data := .seq (vs ++ ws).toArray } }) : wpAny (model prog w) A (binaryOp .Add (.ref t) (.ref b)) Q E s := by
  obtain ⟨⟨cls, dd, data, sl⟩, ho, hc, n, hd⟩ := id ht
  obtain ⟨⟨cls2, dd2, data2, sl2⟩, ho2, hc2, n2, hd2⟩ := id hb
  simp only at hc hd hc2 hd2
  subst hc hd hc2 hd2
  have e : vs.toArray ++ ws.toArray = (vs ++ ws).toArray := by simp
  by_cases hv : vs = []
  · exact concat_meets ⟨_, ho, rfl⟩ ⟨_, ho2, rfl⟩ noFill_tuple_add seq_tuple_add PySem.F.slot_tuple_add PySem.F.entry_tuple_add (PySem.F.args_tuple_add_2 _ _)
      (tuple_addW0 t b vs.toArray ws.toArray n n2 dd dd2 sl sl2 (by simp [hv])) ⟨ho, ho2, h0 hv⟩
  · by_cases hw : ws = []
    · exact concat_meets ⟨_, ho, rfl⟩ ⟨_, ho2, rfl⟩ noFill_tuple_add seq_tuple_add PySem.F.slot_tuple_add PySem.F.entry_tuple_add (PySem.F.args_tuple_add_2 _ _)
        (tuple_addW1 t b vs.toArray ws.toArray n n2 dd dd2 sl sl2 (by simpa using hv) (by simp [hw])) ⟨ho, ho2, h1 hw⟩
    · refine concat_meets ⟨_, ho, rfl⟩ ⟨_, ho2, rfl⟩ noFill_tuple_add seq_tuple_add PySem.F.slot_tuple_add PySem.F.entry_tuple_add (PySem.F.args_tuple_add_2 _ _)
        (tuple_addW2 t b vs.toArray ws.toArray n n2 dd dd2 sl sl2 (by simpa using hv) (by simpa using hw) (by rw [List.size_toArray, List.size_toArray]; exact hsz)) ⟨ho, ho2, ?_⟩
      rw [e]; exact h2


section
variable {A : Around} {σ : Gh} {s : Shared} {C : Cs} {k : KE} {va vb : Value}
/-- an operator's one row -/
noncomputable def BinH (prog : Program) (w : World) (B : Heap) (r : Nat) (op : Operator) (a b : D) (C : Cs) (d : D) (C' : Cs) : Prop := ∀ k : KE, k d C' → BinOk prog w B r op a b C k
theorem bk_add {x y : Int} : BinH prog w B r .Add (dint x) (dint y) C (dint (x + y)) C := fun k h A σ s va vb _ tk R a b => wp_le <| by
  obtain ⟨t, rfl⟩ := a.i; obtain ⟨u, rfl⟩ := b.i
  exact add_int fun le => .atom tk le h (.int _ _) R
theorem bk_sub {x y : Int} : BinH prog w B r .Sub (dint x) (dint y) C (dint (x - y)) C := fun k h A σ s va vb _ tk R a b => wp_le <| by
  obtain ⟨t, rfl⟩ := a.i; obtain ⟨u, rfl⟩ := b.i
  exact AutoIntOps.sub_0 (show _ ≤ _ → Post _ _ _ _ _ _ from fun le => Post.atom tk le h (.int _ _) R)
theorem bk_mul {x y : Int} (c : x.natAbs < 2 ^ 40) : BinH prog w B r .Mult (dint x) (dint y) C (dint (x * y)) C := fun k h A σ s va vb _ tk R a b => wp_le <| by
  obtain ⟨t, rfl⟩ := a.i; obtain ⟨u, rfl⟩ := b.i
  exact mul_int (show _ ≤ _ → Post _ _ _ _ _ _ from fun le => Post.atom tk le h (.int _ _) R) (mulOk c)
theorem bk_fdiv {x y : Int} (c : y ≠ 0) (c2 : y.natAbs < 2 ^ 60) : BinH prog w B r .FloorDiv (dint x) (dint y) C (dint (Int.fdiv x y)) C := fun k h A σ s va vb _ tk R a b => wp_le <| by
  obtain ⟨t, rfl⟩ := a.i; obtain ⟨u, rfl⟩ := b.i
  exact AutoIntOps.floordiv_1 (by simpa using c) (notPylong c2) (show _ ≤ _ → Post _ _ _ _ _ _ from fun le => Post.atom tk le h (.int _ _) R)
theorem bk_fmod {x y : Int} (c : y ≠ 0) : BinH prog w B r .Mod (dint x) (dint y) C (dint (Int.fmod x y)) C := fun k h A σ s va vb _ tk R a b => wp_le <| by
  obtain ⟨t, rfl⟩ := a.i; obtain ⟨u, rfl⟩ := b.i
  exact mod_int' c (show _ ≤ _ → Post _ _ _ _ _ _ from fun le => Post.atom tk le h (.int _ _) R)
theorem bk_pow {y : Int} (c : 0 ≤ y) (c2 : y < 20) : BinH prog w B r .Pow (dint 10) (dint y) C (dint (10 ^ y.toNat)) C := fun k h A σ s va vb _ tk R a b => wp_le <| by
  obtain ⟨t, rfl⟩ := a.i; obtain ⟨u, rfl⟩ := b.i
  obtain ⟨n, rfl⟩ : ∃ n : Nat, y = (n : Int) := ⟨y.toNat, (Int.toNat_of_nonneg c).symm⟩
  by_cases hy : n = 0
  · subst hy
    exact AutoIntOps.pow_0 (by decide) (by decide) (show _ ≤ _ → Post _ _ _ _ _ _ from fun le => Post.atom tk le h (.int _ _) R)
  · refine AutoIntOps.pow_4 c (by simpa using hy) (by decide) (by decide) ?_ (show _ ≤ _ → Post _ _ _ _ _ _ from fun le => Post.atom tk le h (.int _ _) R)
    have : ∀ n : Nat, n < 20 → ¬ Builtin.Int.intTooBig (((Builtin.Int.intBits 10 : Nat) : Int) * (n : Int)) = true := by decide
    exact this n (by omega)

theorem bk_div {x y : Int} (c : y ≠ 0) (c2 : Float64.isInf (fdivII x y) = false) : BinH prog w B r .Div (dint x) (dint y) C (dflt (fdivII x y)) C := fun k h A σ s va vb _ tk R a b => wp_le <| by
  obtain ⟨t, rfl⟩ := a.i; obtain ⟨u, rfl⟩ := b.i
  exact AutoIntOps.truediv_2 (by simpa using c) (ne_true_of_eq_false c2) (show _ ≤ _ → Post _ _ _ _ _ _ from fun _ => Post.flt tk h R)
theorem bk_addF {x y : UInt64} : BinH prog w B r .Add (dflt x) (dflt y) C (dflt (Float64.add x y)) C := fun k h A σ s va vb _ tk R a b => wp_le <| by
  obtain ⟨t, _, rfl⟩ := a.f; obtain ⟨u, _, rfl⟩ := b.f
  exact AutoFloatOps.add_0 (show _ ≤ _ → Post _ _ _ _ _ _ from fun _ => Post.flt tk h R)
theorem bk_subF {x y : UInt64} : BinH prog w B r .Sub (dflt x) (dflt y) C (dflt (Float64.sub x y)) C := fun k h A σ s va vb _ tk R a b => wp_le <| by
  obtain ⟨t, _, rfl⟩ := a.f; obtain ⟨u, _, rfl⟩ := b.f
  exact AutoFloatOps.sub_0 (show _ ≤ _ → Post _ _ _ _ _ _ from fun _ => Post.flt tk h R)
theorem bk_mulF {x y : UInt64} : BinH prog w B r .Mult (dflt x) (dflt y) C (dflt (Float64.mul x y)) C := fun k h A σ s va vb _ tk R a b => wp_le <| by
  obtain ⟨t, _, rfl⟩ := a.f; obtain ⟨u, _, rfl⟩ := b.f
  exact AutoFloatOps.mul_0 (show _ ≤ _ → Post _ _ _ _ _ _ from fun _ => Post.flt tk h R)
theorem bk_divF {x y : UInt64} (c : Float64.isZero y = false) : BinH prog w B r .Div (dflt x) (dflt y) C (dflt (Float64.div x y)) C := fun k h A σ s va vb _ tk R a b => wp_le <| by
  obtain ⟨t, _, rfl⟩ := a.f; obtain ⟨u, _, rfl⟩ := b.f
  exact AutoFloatOps.truediv_1 (ne_true_of_eq_false c) (show _ ≤ _ → Post _ _ _ _ _ _ from fun _ => Post.flt tk h R)
theorem bk_modF {x y : UInt64} (c : Float64.isZero y = false) : BinH prog w B r .Mod (dflt x) (dflt y) C (dflt (Float64.divmod x y).2) C := fun k h A σ s va vb _ tk R a b => wp_le <| by
  obtain ⟨t, _, rfl⟩ := a.f; obtain ⟨u, _, rfl⟩ := b.f
  exact AutoFloatOps.mod_1 (ne_true_of_eq_false c) (show _ ≤ _ → Post _ _ _ _ _ _ from fun _ => Post.flt tk h R)
theorem bk_addFI {x : UInt64} {y : Int} (c : Float64.isInf (Float64.ofInt y) = false) : BinH prog w B r .Add (dflt x) (dint y) C (dflt (Float64.add x (Float64.ofInt y))) C := fun k h A σ s va vb _ tk R a b => wp_le <| by
  obtain ⟨t, _, rfl⟩ := a.f; obtain ⟨u, rfl⟩ := b.i
  exact AutoFloatOps.add_fi_1 (ne_true_of_eq_false c) (show _ ≤ _ → Post _ _ _ _ _ _ from fun _ => Post.flt tk h R)
theorem bk_subFI {x : UInt64} {y : Int} (c : Float64.isInf (Float64.ofInt y) = false) : BinH prog w B r .Sub (dflt x) (dint y) C (dflt (Float64.sub x (Float64.ofInt y))) C := fun k h A σ s va vb _ tk R a b => wp_le <| by
  obtain ⟨t, _, rfl⟩ := a.f; obtain ⟨u, rfl⟩ := b.i
  exact AutoFloatOps.sub_fi_1 (ne_true_of_eq_false c) (show _ ≤ _ → Post _ _ _ _ _ _ from fun _ => Post.flt tk h R)
theorem bk_addS {x y : Str} (c : x.length + y.length ≤ sizeLine) : BinH prog w B r .Add (dstr x) (dstr y) C (dstr (x ++ y)) C := fun k h A σ s va vb _ tk R a b => wp_le <| by
  obtain ⟨t, rfl⟩ := a.s; obtain ⟨u, rfl⟩ := b.s
  exact add_str (fun _ _ le => Post.atom tk le h (.str _ _) R) c
theorem bk_addT {x y : List At} (c : x.length + y.length ≤ sizeLine) : BinH prog w B r .Add (.tup x) (.tup y) C (.tup (x ++ y)) C := fun k h A σ s va vb _ tk R a b => wp_le <| by
  obtain ⟨t, us, rfl, t1, t2⟩ := a.t; obtain ⟨u, ws, rfl, u1, u2⟩ := b.t
  refine tuple_add t1 u1 (by rw [t2.length, u2.length]; exact c) (fun e le => ?_) (fun e le => ?_) (fun le => Post.tuple (tk := s.toks) tk le R (t2.append u2) h (grow_push _ _) (tuple_push _ _))
  · subst e; cases t2; exact Post.same (tk := s.toks) tk le h (.tup u1 u2) R
  · subst e; cases u2; rw [List.append_nil] at h; exact Post.same (tk := s.toks) tk le h (.tup t1 t2) R
theorem bk_addL {x y : Nat} {l m : List D} (e1 : C[x]? = some l) (e2 : C[y]? = some m) (c : l.length + m.length ≤ sizeLine) : BinH prog w B r .Add (.lst x) (.lst y) C (.lst C.length) (C ++ [l ++ m]) := fun k h A σ s va vb _ tk R a b => wp_le <| by
  obtain ⟨t, us, rfl, _, pl, ru⟩ := a.c R e1
  obtain ⟨u, ws, rfl, _, pm, rv⟩ := b.c R e2
  exact list_add pl.isList pm.isList (by rw [ru.length, rv.length]; exact c) (fun le => Post.list (tk := s.toks) tk le R (ru.append rv) h (grow_push _ _) (get?_size _) (plain_push _ _))
end
theorem add_ok {a b : D} {C : Cs} {k : KE} (h : addOp a b C k) : BinOk prog w B r .Add a b C k := by
  cases a with
  | «at» a =>
    cases a with
    | int x => exact intK.el (d := b) h fun y h => bk_add k h
    | flt x =>
      refine atK.el (d := b) h fun b h => ?_
      cases b with
      | int y => exact want.el h fun e h => bk_addFI (not_t e) k h
      | flt y => exact bk_addF k h
      | _ => exact False.elim h
    | str x => exact strK.el (d := b) h fun y h => want.el h fun e h => bk_addS (Nat.le_of_ble_eq_true e) k h
    | _ => exact False.elim h
  | tup x => exact tupK.el (d := b) h fun y h => want.el h fun e h => bk_addT (Nat.le_of_ble_eq_true e) k h
  | lst x => exact lstK.el (d := b) h fun y h => optK.el h fun l e1 h => optK.el h fun m e2 h => want.el h fun e h => bk_addL e1 e2 (Nat.le_of_ble_eq_true e) k h
  | _ => exact False.elim h
theorem sub_ok {a b : D} {C : Cs} {k : KE} (h : subOp a b C k) : BinOk prog w B r .Sub a b C k := by
  refine atK.el (d := a) h fun a h => ?_
  cases a with
  | int x => exact intK.el (d := b) h fun y h => bk_sub k h
  | flt x =>
    refine atK.el (d := b) h fun b h => ?_
    cases b with
    | int y => exact want.el h fun e h => bk_subFI (not_t e) k h
    | flt y => exact bk_subF k h
    | _ => exact False.elim h
  | _ => exact False.elim h
theorem mul_ok {a b : D} {C : Cs} {k : KE} (h : mulOp a b C k) : BinOk prog w B r .Mult a b C k := by
  refine atK.el (d := a) h fun a h => ?_
  cases a with
  | int x => exact intK.el (d := b) h fun y h => want.el h fun e h => bk_mul (Nat.le_of_ble_eq_true e) k h
  | flt x => exact fltK.el (d := b) h fun y h => bk_mulF k h
  | _ => exact False.elim h
theorem fdv_ok {a b : D} {C : Cs} {k : KE} (h : fdvOp a b C k) : BinOk prog w B r .FloorDiv a b C k :=
  intK.el (P := fun a => BinOk prog w B r .FloorDiv a b C k) h fun x h => intK.el (d := b) h fun y h => want.el h fun e h =>
    bk_fdiv (pos_ne (divr_use e).1) (pos_abs (divr_use e).1 (divr_use e).2) k ((Int.fdiv_eq_ediv_of_nonneg x (Int.le_of_lt (divr_use e).1)).symm ▸ h)
theorem bk_fmt {x1 x3 x8 : Str} {d y hh m c : Int} (c1 : small d = true) (c2 : small y = true) (c3 : small hh = true) (c4 : small m = true) (c5 : small c = true) (c6 : x1.length ≤ 100) (c7 : x3.length ≤ 100) (c8 : x8.length ≤ 100) :
    BinH prog w B r .Mod (dstr fmtText) (.tup [.str x1, .int d, .str x3, .int y, .int hh, .int m, .int c, .str x8]) C (dstr (fmtDate x1 d x3 y hh m c x8)) C := fun k h A σ s va vb _ tk R a b => wp_le <| by
  obtain ⟨t, rfl⟩ := a.s; obtain ⟨_, us, rfl, ht, ru⟩ := b.t
  exact fmt_run ht ru c1 c2 c3 c4 c5 c6 c7 c8 fun t' k => (show _ ≤ _ → Post _ _ _ _ _ _ from fun le => Post.atom tk le h (.str _ _) R)
theorem mod_ok {a b : D} {C : Cs} {k : KE} (h : modOp a b C k) : BinOk prog w B r .Mod a b C k := by
  refine atK.el (d := a) h fun a h => ?_
  cases a with
  | int x => exact intK.el (d := b) h fun y h => want.el h fun e h => bk_fmod (pos_ne (divr_use e).1) k ((Int.fmod_eq_emod_of_nonneg x (Int.le_of_lt (divr_use e).1)).symm ▸ h)
  | flt x => exact fltK.el (d := b) h fun y h => want.el h fun e h => bk_modF (not_t e) k h
  | str x =>
    refine tupK.el (d := b) h fun l h => ?_
    obtain ⟨rfl, a, d, b, y, hh, m, s, z, rfl, ⟨c1, c2, c3, c4, c5⟩, ⟨c6, c7, c8⟩, h⟩ := h
    exact bk_fmt c1 c2 c3 c4 c5 c6 c7 c8 k h
  | _ => exact False.elim h
theorem pow_ok {a b : D} {C : Cs} {k : KE} (h : powOp a b C k) : BinOk prog w B r .Pow a b C k :=
  intK.el (P := fun a => BinOk prog w B r .Pow a b C k) h fun x h => intK.el (d := b) h fun y h => h.1 ▸ bk_pow h.2.1.1 h.2.1.2 k h.2.2
theorem tdv_ok {a b : D} {C : Cs} {k : KE} (h : tdvOp a b C k) : BinOk prog w B r .Div a b C k := by
  refine atK.el (d := a) h fun a h => ?_
  cases a with
  | int x => exact intK.el (d := b) h fun y h => bk_div h.1.1 h.1.2 k h.2
  | flt x => exact fltK.el (d := b) h fun y h => want.el h fun e h => bk_divF (not_t e) k h
  | _ => exact False.elim h
theorem bin_ok {op : Operator} {a b : D} {C : Cs} {k : KE} (h : binOp op a b C k) : BinOk prog w B r op a b C k := by
  cases op with
  | Add => exact add_ok h
  | Sub => exact sub_ok h
  | Mult => exact mul_ok h
  | FloorDiv => exact fdv_ok h
  | Mod => exact mod_ok h
  | Pow => exact pow_ok h
  | Div => exact tdv_ok h
  | _ => exact False.elim h
end
section
open PySem PySem.W PySem.Calls PyProof.Rows PySem.SeqAt
variable {prog : Program} {w : World} {B : Heap} {r : Nat}

theorem PostB.same {B σ s k tk C b} (t : Tk σ s) (le : s.toks ≤ tk) (h : k b C) (R : Rep B σ s.heap C) : PostB B σ s k b { s with toks := tk } := ⟨C, σ, h, R, .grow t le fun _ _ e => e⟩

theorem feq_self {x : UInt64} (h : Float64.isNaN x = false) : feq x x = true := by
  have := PySem.Flt.cmp_self x
  unfold feq; rw [this, h]; rfl

/-- two floats the way a container asks -/
theorem eqAt_flt {A : Around} {s : Shared} {fl : Tok → Option UInt64} {x y : UInt64} {t u : Tok} (ht : fl t = some x) (hu : fl u = some y) (pt : 0 < t) (pu : 0 < u) (hn : Float64.isNaN x = false) (nb : NoneBooked s.heap) : EqAt A s (.float x t) (.float y u) (feq x y) := by
  intro prog w E Q h
  unfold eqBool
  refine wpAny_holding ?_
  refine wpAny_ite_split (fun hab => ?_) fun hab => ?_
  · have e := eq_of_beq hab
    injection e with e1 e2
    subst e1
    rw [feq_self hn] at h
    exact wpAny_bind (wpAny_rule (wpAny_pure h))
  · dsimp only
    refine wpAny_bind ?_
    show wpAny _ _ (isSame.created (x == y && !Float64.isNaN x) t u) _ _ _
    have go : wpAny (model prog w) A (truthOfDropped =<< richCompare .Eq (.float x t) (.float y u)) Q E s := by
      refine wpAny_bind ?_
      exact AutoFloatOps.eq_0 (wpAny_truthy_bool h)
    unfold isSame.created
    refine wpAny_ite ?_
    rw [if_neg (by have h1 : t ≠ 0 := Nat.ne_of_gt pt; have h2 : u ≠ 0 := Nat.ne_of_gt pu; simp [h1, h2])]
    refine wpAny_ite ?_
    by_cases htu : t = u
    · subst htu
      rw [ht] at hu; cases hu
      exact absurd (beq_self_eq_true _) hab
    · rw [if_neg (by simpa using htu)]
      refine wpAny_ite ?_
      by_cases hxy : x = y
      · subst hxy
        rw [feq_self hn] at h
        rw [hn]
        simp only [beq_self_eq_true, Bool.not_false, Bool.and_self, Bool.not_true, Bool.false_eq_true, if_false]
        refine wpAny_bind (wpAny_sharingNotTold_none nb ?_)
        simp only [Bool.false_eq_true, if_false]
        refine wpAny_bind (wpAny_sharingNotTold_none nb ?_)
        simp only [Bool.false_eq_true, if_false]
        refine wpAny_bind (wpAny_rule (wpAny_bind (wpAny_askSetting (wpAny_pure ?_))))
        split
        · exact wpAny_pure h
        · exact go
      · rw [if_pos (by simp [hxy])]
        refine wpAny_pure ?_
        simp only [Bool.false_eq_true, if_false]
        exact go

theorem atEq_flt {x y : UInt64} {c : Bool} (h : atEq (.flt x) (.flt y) = some c) : Float64.isNaN x = false ∧ feq x y = c := by
  have h : (match Float64.isNaN x with | true => none | false => some (feq x y)) = some c := h
  cases q : Float64.isNaN x with
  | true => rw [q] at h; cases h
  | false => rw [q] at h; exact ⟨rfl, Option.some.inj h⟩
theorem eqAt_atom {A : Around} {s : Shared} {g : Gh} (t : Tk g s) (nb : NoneBooked s.heap) {va vb : Value} {a b : At} {c : Bool} (ra : RepA g.fl va a) (rb : RepA g.fl vb b) (h : atEq a b = some c) : EqAt A s va vb c := by
  cases a with
  | none =>
    obtain rfl := ra.n
    cases b with
    | none => obtain rfl := rb.n; obtain rfl := Option.some.inj h; exact EqAt.same _
    | _ => exact nomatch h
  | bool x => cases b <;> exact nomatch h
  | int i =>
    cases b with
    | int j => obtain ⟨_, rfl⟩ := ra.i; obtain ⟨_, rfl⟩ := rb.i; obtain rfl := Option.some.inj h; exact EqAt.int_int _ _ _ _
    | _ => exact nomatch h
  | str i =>
    cases b with
    | str j => obtain ⟨_, rfl⟩ := ra.s; obtain ⟨_, rfl⟩ := rb.s; obtain rfl := Option.some.inj h; exact EqAt.str_str _ _ _ _
    | _ => exact nomatch h
  | flt x =>
    cases b with
    | flt y =>
      obtain ⟨_, e, rfl⟩ := ra.f; obtain ⟨_, e', rfl⟩ := rb.f
      obtain ⟨hn, rfl⟩ := atEq_flt h
      exact eqAt_flt e e' (t.lt _ _ e).1 (t.lt _ _ e').1 hn nb
    | _ => exact nomatch h

theorem lEq_range {α : Type} {f : α → α → Option Bool} {l : List α} : ∀ {m : List α} {c : Bool}, lEq f l m = some c → ∃ e : Nat → Bool, (∀ j a b, l[j]? = some a → m[j]? = some b → f a b = some (e j)) ∧ c = ((List.range (min l.length m.length)).all e && l.length == m.length) := by
  induction l with
  | nil =>
    intro m c h
    cases m with
    | nil => exact ⟨fun _ => true, fun j a b p _ => (nomatch p), (Option.some.inj h).symm⟩
    | cons b s => exact ⟨fun _ => true, fun j a b p _ => (nomatch p), (Option.some.inj h).symm⟩
  | cons a r ih =>
    intro m c h
    cases m with
    | nil => exact ⟨fun _ => true, fun j a b _ p => (nomatch p), (Option.some.inj h).symm⟩
    | cons b s =>
      obtain ⟨x, h1, h⟩ := Option.bind_eq_some_iff.mp h
      obtain ⟨y, h2, rfl⟩ := Option.map_eq_some_iff.mp h
      obtain ⟨e, he, rfl⟩ := ih h2
      refine ⟨fun j => Nat.casesOn j x e, fun j a' b' p q => ?_, ?_⟩
      · cases j with
        | zero => rw [← Option.some.inj p, ← Option.some.inj q]; exact h1
        | succ j => exact he j a' b' p q
      · rw [List.length_cons, List.length_cons, Nat.succ_min_succ, List.range_succ_eq_map, List.all_cons, List.all_map, Bool.and_assoc]
        rw [show (r.length + 1 == s.length + 1) = (r.length == s.length) by simp]
        rfl

theorem eqAt_ats {A : Around} {s : Shared} {g : Gh} (t : Tk g s) (nb : NoneBooked s.heap) {vs ws : List Value} {l m : List At} (rl : All2 (RepA g.fl) vs l) (rm : All2 (RepA g.fl) ws m) {e : Nat → Bool}
    (he : ∀ j a b, l[j]? = some a → m[j]? = some b → atEq a b = some (e j)) : ∀ j (h1 : j < vs.toArray.size) (h2 : j < ws.toArray.size), EqAt A s vs.toArray[j] ws.toArray[j] (e j) := by
  intro j h1 h2
  have h1' : j < vs.length := by simpa using h1
  have h2' : j < ws.length := by simpa using h2
  obtain ⟨a, ha, ra⟩ := rl.getl (List.getElem?_eq_getElem h1')
  obtain ⟨b, hb, rb⟩ := rm.getl (List.getElem?_eq_getElem h2')
  have := eqAt_atom (A := A) t nb ra rb (he j a b ha hb)
  simpa using this

theorem rc_tup {A : Around} {s : Shared} {g : Gh} (t : Tk g s) (nb : NoneBooked s.heap) (hu : A.units < cLine) {x y : Addr} {vs ws : List Value} {l m : List At} (tl : s.heap.IsTuple x vs.toArray) (tm : s.heap.IsTuple y ws.toArray)
    (rl : All2 (RepA g.fl) vs l) (rm : All2 (RepA g.fl) ws m) {c : Bool} (h : atsEq l m = some c) : RcAt A s (.ref x) (.ref y) c ∧ RcNeAt A s (.ref x) (.ref y) (!c) := by
  obtain ⟨e, he, hc⟩ := lEq_range h
  have := RcAt.tuples tl tm hu (e := e) (eqAt_ats t nb rl rm he)
  have h2 := RcNeAt.tuples tl tm hu (e := e) (eqAt_ats t nb rl rm he)
  simp only [List.size_toArray, rl.length, rm.length] at this h2
  rw [hc]; exact ⟨this, h2⟩

theorem RepA.fn {fl : Tok → Option UInt64} {v : Value} {a b : At} (x : RepA fl v a) (y : RepA fl v b) : a = b := by
  induction x <;> (cases y; rfl)
theorem atEq_self {a : At} {c : Bool} (h : atEq a a = some c) : c = true := by
  cases a with
  | none => exact (Option.some.inj h).symm
  | bool => exact nomatch h
  | int i => rw [← Option.some.inj h]; exact decide_eq_true rfl
  | str i => rw [← Option.some.inj h]; exact decide_eq_true rfl
  | flt x => obtain ⟨hn, rfl⟩ := atEq_flt h; exact feq_self hn
theorem atsEq_self {l : List At} : ∀ {c : Bool}, atsEq l l = some c → c = true := by
  induction l with
  | nil => exact fun h => (Option.some.inj h).symm
  | cons a r ih =>
    intro c h
    obtain ⟨x, h1, h⟩ := Option.bind_eq_some_iff.mp h
    obtain ⟨y, h2, rfl⟩ := Option.map_eq_some_iff.mp h
    rw [atEq_self h1, ih h2]; rfl
theorem All2.fn {α β : Type} {R : α → β → Prop} (hR : ∀ a b c, R a b → R a c → b = c) {as : List α} {bs : List β} (x : All2 R as bs) : ∀ {cs : List β}, All2 R as cs → bs = cs := by
  induction x with
  | nil => exact fun y => (List.length_eq_zero_iff.mp y.length.symm).symm
  | cons r t ih =>
    intro cs y
    cases y with | cons r2 t2 => rw [hR _ _ _ r r2, ih t2]
theorem eqAt_d {A : Around} {s : Shared} {g : Gh} (t : Tk g s) (nb : NoneBooked s.heap) (hu : A.units < cLine) {va vb : Value} {a b : D} {c : Bool} (ra : RepV B g s.heap va a) (rb : RepV B g s.heap vb b) (h : dEq a b = some c) : EqAt A s va vb c := by
  cases a with
  | «at» a =>
    cases b with
    | «at» b => exact eqAt_atom t nb ra.a rb.a h
    | _ => exact nomatch h
  | tup l =>
    cases b with
    | tup m =>
      obtain ⟨x, vs, rfl, t1, r1⟩ := ra.t
      obtain ⟨y, ws, rfl, t2, r2⟩ := rb.t
      by_cases hxy : x = y
      · subst hxy
        have e : vs = ws := by
          obtain ⟨o, ho, _, n, hd⟩ := t1
          obtain ⟨o', ho', _, n', hd'⟩ := t2
          rw [ho] at ho'; cases ho'; rw [hd] at hd'; injection hd' with e; injection e
        subst e
        obtain rfl := All2.fn (R := RepA g.fl) (fun _ _ _ => RepA.fn) r1 r2
        obtain rfl := atsEq_self h
        exact EqAt.same _
      · exact EqAt.of_refs hxy (rc_tup t nb hu t1 t2 r1 r2 h).1
    | _ => exact nomatch h
  | _ => exact nomatch h

theorem rc_list {A : Around} {s : Shared} {g : Gh} (t : Tk g s) (nb : NoneBooked s.heap) (hu : A.units + 1 < cLine) {x y : Addr} {vs ws : List Value} {l m : List D} (tl : s.heap.IsList x vs.toArray) (tm : s.heap.IsList y ws.toArray)
    (rl : RepVs B g s.heap vs l) (rm : RepVs B g s.heap ws m) {c : Bool} (h : dsEq l m = some c) : RcAt A s (.ref x) (.ref y) c ∧ RcNeAt A s (.ref x) (.ref y) (!c) := by
  obtain ⟨e, he, hc⟩ := lEq_range h
  have hu' : A.units < cLine := by omega
  by_cases hsz : vs.length = ws.length
  · have key : ∀ j (h1 : j < vs.toArray.size) (h2 : j < ws.toArray.size), EqAt A.in1 s vs.toArray[j] ws.toArray[j] (e j) := by
      intro j h1 h2
      have h1' : j < vs.length := by simpa using h1
      have h2' : j < ws.length := by simpa using h2
      obtain ⟨a, ha, ra⟩ := rl.getl (List.getElem?_eq_getElem h1')
      obtain ⟨b, hb, rb⟩ := rm.getl (List.getElem?_eq_getElem h2')
      have := eqAt_d (A := A.in1) t nb (by show A.units + 1 < cLine; exact hu) ra rb (he j a b ha hb)
      simpa using this
    have q1 := RcAt.lists tl tm (by simpa using hsz) hu' key
    have q2 := RcNeAt.lists tl tm (by simpa using hsz) hu' key
    have : c = (List.range vs.toArray.size).all e := by
      rw [hc, ← rl.length, ← rm.length, ← hsz]; simp
    rw [this]; exact ⟨q1, q2⟩
  · have q1 := RcAt.lists_lengths tl tm (by simpa using hsz) hu'
    have q2 := RcNeAt.lists_lengths tl tm (by simpa using hsz) hu'
    have : c = false := by
      rw [hc, ← rl.length, ← rm.length]; simp [hsz]
    rw [this]; exact ⟨q1, q2⟩
end
section
open PySem PySem.W PySem.Calls PyProof.Rows PySem.SeqAt
variable {prog : Program} {w : World} {B : Heap} {r : Nat}

theorem intsA_all {fl : Tok → Option UInt64} : ∀ {vs : List Value} {l : List At} {ns : List Int}, All2 (RepA fl) vs l → intsA l = some ns → All2 (fun v n => ∃ t, v = Value.int n t) vs ns
  | _, _, _, .nil, h => by cases h; exact .nil
  | _, _, _, .cons r t, h => by
    cases r <;> simp [intsA] at h
    obtain ⟨m, hm, rfl⟩ := h
    exact .cons ⟨_, rfl⟩ (intsA_all t hm)
theorem strsA_all {fl : Tok → Option UInt64} : ∀ {vs : List Value} {l : List At} {ns : List Str}, All2 (RepA fl) vs l → strsA l = some ns → All2 (fun v n => ∃ t, v = Value.str n t) vs ns
  | _, _, _, .nil, h => by cases h; exact .nil
  | _, _, _, .cons r t, h => by
    cases r <;> simp [strsA] at h
    obtain ⟨m, hm, rfl⟩ := h
    exact .cons ⟨_, rfl⟩ (strsA_all t hm)

noncomputable def isIntV (x : Int) : Value → Bool
  | .int y _ => y == x
  | _ => false
noncomputable def isStrV (x : Str) : Value → Bool
  | .str y _ => y == x
  | _ => false
theorem any_int {x : Int} : ∀ {vs : List Value} {ns : List Int}, All2 (fun v n => ∃ t, v = Value.int n t) vs ns → vs.any (isIntV x) = ns.any fun y => decide (y = x)
  | _, _, .nil => rfl
  | _, _, .cons ⟨_, e⟩ t => by subst e; rw [List.any_cons, List.any_cons, any_int t]; rfl
theorem any_str {x : Str} : ∀ {vs : List Value} {ns : List Str}, All2 (fun v n => ∃ t, v = Value.str n t) vs ns → vs.any (isStrV x) = ns.any fun y => decide (y = x)
  | _, _, .nil => rfl
  | _, _, .cons ⟨_, e⟩ t => by subst e; rw [List.any_cons, List.any_cons, any_str t]; rfl
theorem All2.memL {α β : Type} {R : α → β → Prop} : ∀ {as : List α} {bs : List β}, All2 R as bs → ∀ a ∈ as, ∃ b, R a b
  | _, _, .nil, _, h => (nomatch h)
  | _, _, .cons r t, a, h => by
    rcases List.mem_cons.mp h with rfl | h
    · exact ⟨_, r⟩
    · exact memL t a h

section
variable {A : Around} {σ : Gh} {s : Shared} {C : Cs} {k : Bool → Cs → Prop} {va vb : Value}
noncomputable def CmpH (prog : Program) (w : World) (B : Heap) (r : Nat) (op : CmpOp) (a b : D) (C : Cs) (c : Bool) : Prop := ∀ k : Bool → Cs → Prop, k c C → CmpOk prog w B r op a b C k
theorem ck_fin {c : Bool} (tk : Tk σ s) (R : Rep B σ s.heap C) (h : k c C) : ∃ c', (Value.bool c) = .bool c' ∧ PostB B σ s k c' s := ⟨c, rfl, PostB.same (tk := s.toks) tk (Nat.le_refl _) h R⟩
theorem ck_eqI {x y : Int} : CmpH prog w B r .Eq (dint x) (dint y) C (decide (x = y)) := fun k h A σ s va vb room tk R a b => by
  obtain ⟨t, rfl⟩ := a.i; obtain ⟨u, rfl⟩ := b.i; exact eq_int (ck_fin tk R h)
theorem ck_ltI {x y : Int} : CmpH prog w B r .Lt (dint x) (dint y) C (decide (x < y)) := fun k h A σ s va vb room tk R a b => by
  obtain ⟨t, rfl⟩ := a.i; obtain ⟨u, rfl⟩ := b.i; exact lt_int (ck_fin tk R h)
theorem ck_gtI {x y : Int} : CmpH prog w B r .Gt (dint x) (dint y) C (decide (y < x)) := fun k h A σ s va vb room tk R a b => by
  obtain ⟨t, rfl⟩ := a.i; obtain ⟨u, rfl⟩ := b.i; exact gt_int (ck_fin tk R h)
theorem ck_geI {x y : Int} : CmpH prog w B r .GtE (dint x) (dint y) C (decide (y ≤ x)) := fun k h A σ s va vb room tk R a b => by
  obtain ⟨t, rfl⟩ := a.i; obtain ⟨u, rfl⟩ := b.i; exact ge_int (ck_fin tk R h)
theorem ck_neI {x y : Int} : CmpH prog w B r .NotEq (dint x) (dint y) C (!decide (x = y)) := fun k h A σ s va vb room tk R a b => by
  obtain ⟨t, rfl⟩ := a.i; obtain ⟨u, rfl⟩ := b.i; exact ne_int (ck_fin tk R h)
theorem ck_eqF {x y : UInt64} : CmpH prog w B r .Eq (dflt x) (dflt y) C (feq x y) := fun k h A σ s va vb room tk R a b => by
  obtain ⟨t, _, rfl⟩ := a.f; obtain ⟨u, _, rfl⟩ := b.f; exact AutoFloatOps.eq_0 (ck_fin tk R h)
theorem ck_ltF {x y : UInt64} : CmpH prog w B r .Lt (dflt x) (dflt y) C (flt? x y) := fun k h A σ s va vb room tk R a b => by
  obtain ⟨t, _, rfl⟩ := a.f; obtain ⟨u, _, rfl⟩ := b.f; exact AutoFloatOps.lt_0 (ck_fin tk R h)
theorem ck_eqS {x y : Str} : CmpH prog w B r .Eq (dstr x) (dstr y) C (decide (x = y)) := fun k h A σ s va vb room tk R a b => by
  obtain ⟨t, rfl⟩ := a.s; obtain ⟨u, rfl⟩ := b.s; exact eq_str (ck_fin tk R h)
theorem ck_neS {x y : Str} : CmpH prog w B r .NotEq (dstr x) (dstr y) C (!decide (x = y)) := fun k h A σ s va vb room tk R a b => by
  obtain ⟨t, rfl⟩ := a.s; obtain ⟨u, rfl⟩ := b.s; exact ne_str (ck_fin tk R h)
theorem ck_isNN  : CmpH prog w B r .Is (.at .none) (.at .none) C true := fun k h A σ s va vb room tk R a b => by
  cases a.a.n; cases b.a.n; exact wpAny_is_self rfl (ck_fin tk R h)
theorem ck_isIN {x : Int} : CmpH prog w B r .Is (dint x) (.at .none) C false := fun k h A σ s va vb room tk R a b => by
  obtain ⟨t, rfl⟩ := a.i; cases b.a.n; exact wpAny_is_other rfl (fun e => Value.noConfusion e) (ck_fin tk R h)
theorem ck_isFN {f : Addr} : CmpH prog w B r .Is (.fn f) (.at .none) C false := fun k h A σ s va vb room tk R a b => by
  cases a.u; cases b.a.n; exact wpAny_is_other rfl (fun e => Value.noConfusion e) (ck_fin tk R h)
theorem ck_inT {x : Int} {l : List At} {m : List Int} (e : intsA l = some m) : CmpH prog w B r .In (dint x) (.tup l) C (m.any fun y => decide (y = x)) := fun k h A σ s va vb room tk R a b => by
  obtain ⟨t, rfl⟩ := a.i; obtain ⟨u, ws, rfl, t1, r1⟩ := b.t
  have ia := intsA_all r1 e
  refine in_tupleAt (isIntV x) t1 (fun y hy => ?_) ?_
  · obtain ⟨n, t, rfl⟩ := ia.memL y (List.mem_toArray.mp hy)
    exact EqAt.int_int _ _ _ _
  · rw [List.any_toArray, any_int ia]; exact ck_fin tk R h
theorem ck_inZ {x : Str} {l : List At} {m : List Str} (e : strsA l = some m) : CmpH prog w B r .In (dstr x) (.frz l) C (m.any fun y => decide (y = x)) := fun k h A σ s va vb room tk R a b => by
  obtain ⟨t, rfl⟩ := a.s; obtain ⟨u, ws, rfl, t1, r1⟩ := b.z
  have ia := strsA_all r1 e
  refine in_listAt (isStrV x) (t1.isList.at fun o q => R.base _ o q) (fun y hy => ?_) ?_
  · obtain ⟨n, t, rfl⟩ := ia.memL y (List.mem_toArray.mp hy)
    exact EqAt.str_str _ _ _ _
  · rw [List.any_toArray, any_str ia]; exact ck_fin tk R h
theorem ck_niZ {x : Str} {l : List At} {m : List Str} (e : strsA l = some m) : CmpH prog w B r .NotIn (dstr x) (.frz l) C (!m.any fun y => decide (y = x)) := fun k h A σ s va vb room tk R a b => by
  obtain ⟨t, rfl⟩ := a.s; obtain ⟨u, ws, rfl, t1, r1⟩ := b.z
  have ia := strsA_all r1 e
  refine notIn_listAt (isStrV x) (t1.isList.at fun o q => R.base _ o q) (fun y hy => ?_) ?_
  · obtain ⟨n, t, rfl⟩ := ia.memL y (List.mem_toArray.mp hy)
    exact EqAt.str_str _ _ _ _
  · rw [List.any_toArray, any_str ia]; exact ck_fin tk R h
theorem ck_inD {gl : List (Str × D)} (G : GF prog w B gl) {x : Str} : CmpH prog w B r .In (dstr x) .dct C (tzTab.lookup x).isSome := fun k h A σ s va vb room tk R a b => by
  obtain ⟨t, rfl⟩ := a.s; cases b.d
  obtain ⟨f, hm, hf⟩ := G.tz
  have hf := hf x
  refine wp_le (wpAny_in_of (strKind_is prog w x t) (by decide) (let ⟨o, es, ep, ho, q⟩ := hm; ⟨o, es, ep, R.base _ _ ho, q⟩) fun le => ?_)
  have e : (f x).isSome = (tzTab.lookup x).isSome := by
    cases e : tzTab.lookup x with
    | some i => rw [e] at hf; obtain ⟨t, q⟩ := hf; rw [q]; rfl
    | none => rw [e] at hf; rw [hf]; rfl
  rw [e]
  exact ⟨_, rfl, PostB.same tk le h R⟩
theorem nb_of {gl : List (Str × D)} (G : GF prog w B gl) (R : Rep B σ s.heap C) : NoneBooked s.heap := let ⟨mc, h1, h2⟩ := G.booked; ⟨mc, h1.keeps R.base, h2⟩
theorem un_of (room : Room r A) : A.units + 1 < cLine := Nat.lt_of_le_of_lt (Nat.add_le_add (Nat.le_add_right _ _) (by decide : 1 ≤ 100)) room.un
theorem ck_T {gl : List (Str × D)} (G : GF prog w B gl) {x y : List At} {c : Bool} (e : atsEq x y = some c) (tk : Tk σ s) (R : Rep B σ s.heap C) (room : Room r A) (ra : RepV B σ s.heap va (.tup x)) (rb : RepV B σ s.heap vb (.tup y)) : RcAt A s va vb c ∧ RcNeAt A s va vb (!c) := by
  obtain ⟨_, _, rfl, t1, r1⟩ := ra.t; obtain ⟨_, _, rfl, t2, r2⟩ := rb.t
  exact rc_tup tk (nb_of G R) (Nat.lt_of_succ_lt (un_of room)) t1 t2 r1 r2 e
theorem ck_L {gl : List (Str × D)} (G : GF prog w B gl) {x y : Nat} {l m : List D} {c : Bool} (e1 : C[x]? = some l) (e2 : C[y]? = some m) (e : dsEq l m = some c) (tk : Tk σ s) (R : Rep B σ s.heap C) (room : Room r A) (ra : RepV B σ s.heap va (.lst x)) (rb : RepV B σ s.heap vb (.lst y)) : RcAt A s va vb c ∧ RcNeAt A s va vb (!c) := by
  obtain ⟨_, _, rfl, _, p1, r1⟩ := ra.c R e1; obtain ⟨_, _, rfl, _, p2, r2⟩ := rb.c R e2
  exact rc_list tk (nb_of G R) (un_of room) p1.isList p2.isList r1 r2 e
end
section
variable {gl : List (Str × D)} (G : GF prog w B gl) {a b : D} {C : Cs} {k : Bool → Cs → Prop}
include G
theorem eq_ok (h : eqOp a b C fun r => k r C) : CmpOk prog w B r .Eq a b C k := by
  cases a with
  | «at» a =>
    cases a with
    | int x => exact intK.el (d := b) h fun y h => ck_eqI k h
    | flt x => exact fltK.el (d := b) h fun y h => ck_eqF k h
    | str x => exact strK.el (d := b) h fun y h => ck_eqS k h
    | _ => exact False.elim h
  | tup x => exact tupK.el (d := b) h fun y h => optK.el h fun r e h A σ s va vb room tk R a b => (ck_T G e tk R room a b).1 prog w _ _ (ck_fin tk R h)
  | lst x => exact lstK.el (d := b) h fun y h => optK.el h fun l e1 h => optK.el h fun m e2 h => optK.el h fun r e h A σ s va vb room tk R a b => (ck_L G e1 e2 e tk R room a b).1 prog w _ _ (ck_fin tk R h)
  | _ => exact False.elim h
theorem ne_ok (h : neOp a b C fun r => k r C) : CmpOk prog w B r .NotEq a b C k := by
  cases a with
  | «at» a =>
    cases a with
    | int x => exact intK.el (d := b) h fun y h => ck_neI k h
    | str x => exact strK.el (d := b) h fun y h => ck_neS k h
    | _ => exact False.elim h
  | tup x => exact tupK.el (d := b) h fun y h => optK.el h fun r e h A σ s va vb room tk R a b => (ck_T G e tk R room a b).2 prog w _ _ (ck_fin tk R h)
  | lst x => exact lstK.el (d := b) h fun y h => optK.el h fun l e1 h => optK.el h fun m e2 h => optK.el h fun r e h A σ s va vb room tk R a b => (ck_L G e1 e2 e tk R room a b).2 prog w _ _ (ck_fin tk R h)
  | _ => exact False.elim h
omit G in
theorem lt_ok (h : ltOp a b fun r => k r C) : CmpOk prog w B r .Lt a b C k := by
  refine atK.el (d := a) h fun a h => ?_
  cases a with
  | int x => exact intK.el (d := b) h fun y h => ck_ltI k h
  | flt x => exact fltK.el (d := b) h fun y h => ck_ltF k h
  | _ => exact False.elim h
omit G in
theorem is_ok (h : isOp a b fun r => k r C) : CmpOk prog w B r .Is a b C k := by
  refine atK.el (d := b) h fun b h => ?_
  cases b with
  | none =>
    cases a with
    | «at» a =>
      cases a with
      | none => exact ck_isNN k h
      | int x => exact ck_isIN k h
      | _ => exact False.elim h
    | fn f => exact ck_isFN k h
    | _ => exact False.elim h
  | _ => exact False.elim h
theorem in_ok (h : inOp a b fun r => k r C) : CmpOk prog w B r .In a b C k := by
  cases b with
  | tup l => exact intK.el (d := a) h fun x h => optK.el h fun m e h => ck_inT e k h
  | frz l => exact strK.el (d := a) h fun x h => optK.el h fun m e h => ck_inZ e k h
  | dct => exact strK.el (d := a) h fun x h => ck_inD G k h
  | _ => exact False.elim h
omit G in
theorem ni_ok (h : niOp a b fun r => k r C) : CmpOk prog w B r .NotIn a b C k := by
  cases b with
  | frz l => exact strK.el (d := a) h fun x h => optK.el h fun m e h => ck_niZ e k h
  | _ => exact False.elim h
theorem cmp_ok {op : CmpOp} (h : cmpOp op a b C k) : CmpOk prog w B r op a b C k := by
  cases op with
  | Eq => exact eq_ok G h
  | NotEq => exact ne_ok G h
  | Lt => exact lt_ok h
  | Gt => exact intK.el (d := a) h fun x h => intK.el (d := b) h fun y h => ck_gtI k h
  | GtE => exact intK.el (d := a) h fun x h => intK.el (d := b) h fun y h => ck_geI k h
  | Is => exact is_ok h
  | In => exact in_ok G h
  | NotIn => exact ni_ok h
  | _ => exact False.elim h
end
end
section
open PySem PySem.W PySem.Calls PyProof.Rows PySem.SeqAt
variable {prog : Program} {w : World} {B : Heap} {r : Nat}

section
variable {A : Around} {σ : Gh} {s : Shared} {C : Cs} {k : Bool → Prop} {v : Value}
abbrev TruW (prog : Program) (w : World) (B : Heap) (A : Around) (σ : Gh) (s : Shared) (C : Cs) (k : Bool → Prop) (v : Value) : Prop := wpAny (model prog w) A (truthy v) (fun b s' => s.toks ≤ s'.toks → PostB B σ s (fun b C' => k b ∧ C' = C) b s') No s
theorem tk_fin {b : Bool} (tk : Tk σ s) (R : Rep B σ s.heap C) (h : k b) : s.toks ≤ s.toks → PostB B σ s (fun b C' => k b ∧ C' = C) b s := fun le => PostB.same (tk := s.toks) tk le ⟨h, rfl⟩ R
theorem small_of {n : Nat} (c : n < 2 ^ 60) : (n : Int) < 2 ^ 63 := Int.ofNat_lt.mpr (Nat.lt_trans c (by decide : 2 ^ 60 < 2 ^ 63))
theorem noFl_up {fl : Tok → Option UInt64} {v : Value} {a : At} (x : RepA noFl v a) : RepA fl v a := x.mono fun _ _ q => by cases q
theorem nz_len (n : Nat) : ((n : Int) != 0) = !decide (n = 0) := by cases n <;> rfl
theorem tk_str {x : Str} (tk : Tk σ s) (R : Rep B σ s.heap C) (a : RepV B σ s.heap v (dstr x)) (c : x.length < 2 ^ 60) (h : k (!decide (x.length = 0))) : TruW prog w B A σ s C k v := by
  obtain ⟨t, rfl⟩ := a.s
  refine P.truthy_str (Int.not_le.mpr (small_of c)) ?_
  rw [nz_len]; exact fun le => PostB.same tk le ⟨h, rfl⟩ R
theorem tk_lst {x : Nat} {l : List D} (tk : Tk σ s) (R : Rep B σ s.heap C) (a : RepV B σ s.heap v (.lst x)) (e : C[x]? = some l) (c : l.length < 2 ^ 60) (h : k (!l.isEmpty)) : TruW prog w B A σ s C k v := by
  obtain ⟨_, us, rfl, _, pl, ru⟩ := a.c R e
  refine wpAny_truthy_list pl.isList (by rw [List.size_toArray, ru.length]; exact small_of c) ?_
  have e : (!us.toArray.isEmpty) = !l.isEmpty := by cases ru <;> rfl
  rw [e]; exact fun le => PostB.same tk le ⟨h, rfl⟩ R
end
theorem truth_ok {d : D} {C : Cs} {k : Bool → Prop} (h : truth d C k) {A σ s v} (tk : Tk σ s) (R : Rep B σ s.heap C) (rv : RepV B σ s.heap v d) :
    wpAny (model prog w) A (truthy v) (PostB B σ s fun b C' => k b ∧ C' = C) No s := by
  refine wp_le (?_ : TruW prog w B A σ s C k v)
  cases d with
  | «at» a =>
    cases a with
    | none => obtain rfl := rv.a.n; exact truthy_none (tk_fin tk R h)
    | bool b => obtain rfl := rv.a.b; exact wpAny_truthy_bool (tk_fin tk R h)
    | int i => obtain ⟨t, rfl⟩ := rv.i; exact truthy_int (tk_fin tk R h)
    | str s => exact want.el h fun e h => tk_str tk R rv (Nat.le_of_ble_eq_true e) h
    | flt x => exact False.elim h
  | lst x => exact optK.el h fun l e1 h => want.el h fun e h => tk_lst tk R rv e1 (Nat.le_of_ble_eq_true e) h
  | _ => exact False.elim h

theorem subs_of (slice : Expr) (o i : Value) : ∃ ops, subscripted slice false o i = operate ops (getItem o i) := by
  cases slice <;> first | exact ⟨_, rfl⟩ | skip
  rename_i a b c p
  cases c <;> exact ⟨_, rfl⟩
theorem tail_of {A : Around} {E : Value → Shared → Prop} {s : Shared} {value slice : Expr} {o i : Value} {T id : String} {Q : Value → Shared → Prop} (hT : s.TypeIs o T)
    (hl : typeLookup (.type T) "__getitem__" = pure (some (.builtin id))) (h : wpAny (model prog w) A (getItem o i) Q E s) : wpAny (model prog w) A (subscriptTail value slice o i) Q E s :=
  let ⟨_, e⟩ := subs_of slice o i
  tail_any hT hl h e

theorem plain_typeIs {s : Shared} {a : Addr} {vs : Array Value} (p : s.heap.IsList a vs) : s.TypeIs (.ref a) "list" := by
  obtain ⟨o, ho, hc, _⟩ := p; exact ⟨o, ho, hc⟩
theorem tuple_typeIs {s : Shared} {a : Addr} {vs : Array Value} (p : s.heap.IsTuple a vs) : s.TypeIs (.ref a) "tuple" := by
  obtain ⟨o, ho, hc, _⟩ := p; exact ⟨o, ho, hc⟩

theorem seqIdx_lt {i : Int} {n j : Nat} (h : seqIndex? i n = some j) : j < n ∧ ((0 ≤ i ∧ i.toNat = j) ∨ (i < 0 ∧ -(n : Int) ≤ i ∧ (i + n).toNat = j)) := by
  unfold seqIndex? at h
  split at h
  · dsimp only at h
    split at h
    · rename_i h1 h2
      simp at h2 h
      omega
    · cases h
  · dsimp only at h
    split at h
    · rename_i h1 h2
      simp at h2 h
      omega
    · cases h

theorem seqIdx_b {i : Int} {n j : Nat} (h : seqIndex? i n = some j) (c : n < 2 ^ 60) : -(2 ^ 63) ≤ i ∧ i < 2 ^ 63 := by
  have := seqIdx_lt h
  omega

theorem list_item {A E s l} {its : List Value} {i : Int} {t : Tok} {j : Nat} {x : Value} {Q : Value → Shared → Prop} (hl : s.heap.IsList l its.toArray) (hj : seqIndex? i its.length = some j) (hs : its.length < 2 ^ 60) (hx : its[j]? = some x) (h : Q x s) :
    wpAny (model prog w) A (getItem (.ref l) (.int i t)) Q E s := by
  obtain ⟨h1, h2⟩ := seqIdx_lt hj
  rcases h2 with ⟨h2, h3⟩ | ⟨h2, h4, h3⟩
  · exact wpAny_getItem_list hl h2 (by omega) (by rw [h3]; simpa using hx) h
  · exact wpAny_getItem_list_neg hl h2 (by simpa using h4) (by omega) (by simp only [List.size_toArray, h3]; simpa using hx) h

/-- an item of what stands at v -/
noncomputable def IdxOk (prog : Program) (w : World) (B : Heap) (a b : D) (C : Cs) (k : KE) : Prop := ∀ A σ s va vb value slice, Tk σ s → Rep B σ s.heap C → RepV B σ s.heap va a → RepV B σ s.heap vb b →
  wpAny (model prog w) A (subscriptTail value slice va vb) (Post B σ s k) No s

section
variable {A : Around} {σ : Gh} {s : Shared} {C : Cs} {k : KE} {va vb : Value} {value slice : Expr}
abbrev IdxW (prog : Program) (w : World) (B : Heap) (A : Around) (σ : Gh) (s : Shared) (value slice : Expr) (k : KE) (va vb : Value) : Prop := wpAny (model prog w) A (subscriptTail value slice va vb) (fun v s' => s.toks ≤ s'.toks → Post B σ s k v s') No s
theorem ik_lst {x : Nat} {i : Int} {l : List D} {j : Nat} {d : D} (tk : Tk σ s) (R : Rep B σ s.heap C) (a : RepV B σ s.heap va (.lst x)) (b : RepV B σ s.heap vb (dint i)) (e : C[x]? = some l) (ej : seqIndex? i l.length = some j) (ed : l[j]? = some d) (c : l.length < 2 ^ 60) (h : k d C) : IdxW prog w B A σ s value slice k va vb := by
  obtain ⟨t, rfl⟩ := b.i
  obtain ⟨_, us, rfl, _, pl, ru⟩ := a.c R e
  obtain ⟨v, hv, rv⟩ := ru.get ed
  rw [← ru.length] at ej c
  exact tail_of (plain_typeIs pl.isList) slot_list_getitem.lookup (list_item pl.isList ej c hv fun le => Post.same (tk := s.toks) tk le h rv R)
theorem ik_tup {l : List At} {i : Int} {j : Nat} {d : At} (tk : Tk σ s) (R : Rep B σ s.heap C) (a : RepV B σ s.heap va (.tup l)) (b : RepV B σ s.heap vb (dint i)) (ej : seqIndex? i l.length = some j) (ed : l[j]? = some d) (c : l.length < 2 ^ 60) (h : k (.at d) C) : IdxW prog w B A σ s value slice k va vb := by
  obtain ⟨t, rfl⟩ := b.i
  obtain ⟨_, us, rfl, t1, r1⟩ := a.t
  obtain ⟨v, hv, rv⟩ := r1.get ed
  obtain ⟨b1, b2⟩ := seqIdx_b ej c
  exact tail_of (tuple_typeIs t1) slot_tuple_getitem.lookup (getItem_tuple t1 b1 b2 (by rw [List.size_toArray, r1.length]; exact ej) ((List.getElem?_toArray ..).trans hv) fun le => Post.same (tk := s.toks) tk le h (.at rv) R)
theorem ik_frz {l : List At} {i : Int} {j : Nat} {d : At} (tk : Tk σ s) (R : Rep B σ s.heap C) (a : RepV B σ s.heap va (.frz l)) (b : RepV B σ s.heap vb (dint i)) (ej : seqIndex? i l.length = some j) (ed : l[j]? = some d) (c : l.length < 2 ^ 60) (h : k (.at d) C) : IdxW prog w B A σ s value slice k va vb := by
  obtain ⟨t, rfl⟩ := b.i
  obtain ⟨_, us, rfl, t0, r1⟩ := a.z
  obtain ⟨v, hv, rv⟩ := r1.get ed
  have t1 := t0.isList.at fun o q => R.base _ o q
  rw [← r1.length] at ej c
  exact tail_of (plain_typeIs t1) slot_list_getitem.lookup (list_item t1 ej c hv fun le => Post.same (tk := s.toks) tk le h (.at (noFl_up rv)) R)
theorem ik_dct {gl : List (Str × D)} (G : GF prog w B gl) {x : Str} {i : Int} (tk : Tk σ s) (R : Rep B σ s.heap C) (a : RepV B σ s.heap va .dct) (b : RepV B σ s.heap vb (dstr x)) (e : tzTab.lookup x = some i) (h : k (dint i) C) : IdxW prog w B A σ s value slice k va vb := by
  obtain ⟨t, rfl⟩ := b.s
  cases a.d
  obtain ⟨f, hm, hf⟩ := G.tz
  have hf := hf x
  rw [e] at hf
  obtain ⟨u, hf⟩ := hf
  have hm' : s.heap.MapOf (strKind prog w) 58 f := let ⟨o, es, ep, ho, q⟩ := hm; ⟨o, es, ep, R.base _ _ ho, q⟩
  exact tail_of hm'.typeIs slot_dict_getitem.lookup (wpAny_getItem_of (strKind_is prog w x t) hm' hf fun le => Post.atom tk le h (.int _ _) R)
theorem ik_str {x : Str} {i : Int} {j c : Nat} (tk : Tk σ s) (R : Rep B σ s.heap C) (a : RepV B σ s.heap va (dstr x)) (b : RepV B σ s.heap vb (dint i)) (ej : seqIndex? i x.length = some j) (ec : x.cps.toList[j]? = some c) (c1 : x.length < 2 ^ 60) (h : k (dstr ⟨#[c]⟩) C) : IdxW prog w B A σ s value slice k va vb := by
  obtain ⟨t, rfl⟩ := b.i
  obtain ⟨u, rfl⟩ := a.s
  obtain ⟨b1, b2⟩ := seqIdx_b ej c1
  exact tail_of (typeIs_str s x u) PySem.F.slot_str_getitem.lookup (getItem_str (by rw [decide_eq_false (Int.not_lt.mpr b1), decide_eq_false (Int.not_le.mpr b2)]; rfl) (by rw [ej]; exact (Array.getElem?_toList ..).symm.trans ec) fun le => Post.atom tk le h (.str _ _) R)
end
theorem seqAt.el {α : Type} {l : List α} {i : Int} {k : α → Prop} {P : Prop} (h : seqAt l i k) (g : ∀ j d, seqIndex? i l.length = some j → l[j]? = some d → l.length < 2 ^ 60 → k d → P) : P :=
  optK.el h fun j e1 h => optK.el h fun d e2 h => want.el h fun e h => g j d e1 e2 (Nat.le_of_ble_eq_true e) h
theorem idx_ok {gl : List (Str × D)} (G : GF prog w B gl) {a b : D} {C : Cs} {k : KE} (h : idxOp a b C k) : IdxOk prog w B a b C k := by
  cases a with
  | «at» a =>
    cases a with
    | str s => exact intK.el (d := b) h fun i h => seqAt.el h fun j c e1 e2 e3 h A σ s va vb value slice tk R ra rb => wp_le (ik_str tk R ra rb e1 e2 e3 h)
    | _ => exact False.elim h
  | tup l => exact intK.el (d := b) h fun i h => seqAt.el h fun j d e1 e2 e3 h A σ s va vb value slice tk R ra rb => wp_le (ik_tup tk R ra rb e1 e2 e3 h)
  | frz l => exact intK.el (d := b) h fun i h => seqAt.el h fun j d e1 e2 e3 h A σ s va vb value slice tk R ra rb => wp_le (ik_frz tk R ra rb e1 e2 e3 h)
  | lst x => exact intK.el (d := b) h fun i h => optK.el h fun l e0 h => seqAt.el h fun j d e1 e2 e3 h A σ s va vb value slice tk R ra rb => wp_le (ik_lst tk R ra rb e0 e1 e2 e3 h)
  | dct => exact strK.el (d := b) h fun x h => optK.el h fun i e h A σ s va vb value slice tk R ra rb => wp_le (ik_dct G tk R ra rb e h)
  | _ => exact False.elim h
end
section
open PySem PySem.W PySem.Calls PyProof.Rows PySem.SeqAt
variable {prog : Program} {w : World} {B : Heap} {r : Nat}

theorem All2.filterMap {α β : Type} {R : α → β → Prop} {as : List α} {bs : List β} (h : All2 R as bs) : ∀ is : List Nat, All2 R (is.filterMap (as[·]?)) (is.filterMap (bs[·]?))
  | [] => .nil
  | i :: is => by
    have ih := filterMap h is
    cases e : as[i]? with
    | none =>
      have e2 : bs[i]? = none := by
        rw [List.getElem?_eq_none_iff] at e ⊢
        rw [← h.length]; exact e
      rw [List.filterMap_cons_none e, List.filterMap_cons_none e2]; exact ih
    | some a =>
      obtain ⟨b, hb, hr⟩ := h.getl e
      rw [List.filterMap_cons_some e, List.filterMap_cons_some hb]; exact .cons hr ih
theorem All2.pick {α β : Type} {R : α → β → Prop} {as : List α} {bs : List β} (h : All2 R as bs) (lo hi st : Option Int) : All2 R (pick as lo hi st) (pick bs lo hi st) := by
  unfold Mine.pick
  rw [h.length]
  exact h.filterMap _
theorem slicePick_eq (vs : List Value) (lo hi st : Option Int) : slicePick vs.toArray lo hi st = (pick vs lo hi st).toArray := by
  unfold slicePick pick
  simp

theorem range_pick {α : Type} (l : List α) : (List.range l.length).filterMap (l[·]?) = l := by
  induction l with
  | nil => rfl
  | cons a l ih =>
    rw [List.length_cons, List.range_succ_eq_map, List.filterMap_cons_some (show (a :: l)[0]? = some a from rfl), List.filterMap_map]
    exact congrArg (a :: ·) ih
theorem bnd1 (lo hi : Option Int) (n : Nat) : ∃ a b : Int, sliceBounds lo hi none n = (a, b, 1) ∧ 0 ≤ a ∧ b ≤ n := by
  cases lo <;> cases hi <;> exact ⟨_, _, rfl, by simp; try omega, by simp; try omega⟩
theorem pick_all {α : Type} (l : List α) (lo hi : Option Int) (h : (sliceRange (sliceBounds lo hi none l.length).1 (sliceBounds lo hi none l.length).2.1 (sliceBounds lo hi none l.length).2.2).length = l.length) : pick l lo hi none = l := by
  obtain ⟨a, b, e, h1, h4⟩ := bnd1 lo hi l.length
  unfold pick
  rw [e] at h ⊢
  have e1 : sliceRange a b 1 = (List.range (if a < b then (b - a + 1 - 1) / 1 else 0).toNat).map fun k : Nat => (a + 1 * (k : Int)).toNat := rfl
  have h : (sliceRange a b 1).length = l.length := h
  show (sliceRange a b 1).filterMap (l[·]?) = l
  rw [e1] at h ⊢
  rw [List.length_map, List.length_range] at h
  rw [h]
  rcases Nat.eq_zero_or_pos l.length with q | q
  · rw [q, List.length_eq_zero_iff.mp q]; rfl
  · have ha : a = 0 := by
      split at h <;> omega
    subst ha
    have : (fun (k : Nat) => ((0 : Int) + 1 * (k : Int)).toNat) = id := by funext k; rw [Int.zero_add, Int.one_mul]; rfl
    rw [this, List.map_id]; exact range_pick l

/-- a slice's part stands at v -/
noncomputable def PartR (B : Heap) (σ : Gh) (h : Heap) (v : Value) : Option D → Prop
  | none => v = .none
  | some d => RepV B σ h v d
theorem part_of {σ : Gh} {h : Heap} {v : Value} {o : Option D} {p : Option Int} (x : PartR B σ h v o) (e : part o = some p) : IsPart v p := by
  cases o with
  | none => cases e; cases x; exact .none
  | some d =>
    cases d with
    | «at» a => cases a <;> first | cases e | skip
                cases x with | «at» x => cases x; exact .int _ _
    | _ => cases e

noncomputable def SlcOk (prog : Program) (w : World) (B : Heap) (a : D) (lo hi st : Option D) (C : Cs) (k : KE) : Prop := ∀ A σ s va vl vu vt sl value slice, Tk σ s → Rep B σ s.heap C → RepV B σ s.heap va a →
  s.heap.IsSliceOf sl vl vu vt → PartR B σ s.heap vl lo → PartR B σ s.heap vu hi → PartR B σ s.heap vt st → wpAny (model prog w) A (subscriptTail value slice va (.ref sl)) (Post B σ s k) No s

theorem noFl_ups {σ : Gh} {h : Heap} {vs : List Value} {l : List At} (x : All2 (RepA noFl) vs l) : RepVs B σ h vs (l.map D.at) := by
  induction x with
  | nil => exact .nil
  | cons a _ ih => exact .cons (.at (noFl_up a)) ih
section
variable {A : Around} {σ : Gh} {s : Shared} {C : Cs} {k : KE} {va vl vu vt : Value} {sl : Addr} {value slice : Expr} {lo hi st : Option Int}
theorem sk_list {a : Addr} {us : List Value} {l : List D} (tk : Tk σ s) (R : Rep B σ s.heap C) (hsl : s.heap.IsSliceOf sl vl vu vt) (q1 : IsPart vl lo) (q2 : IsPart vu hi) (q3 : IsPart vt st) (t : s.heap.IsList a us.toArray) (r : RepVs B σ s.heap (pick us lo hi st) l) (c : us.length ≤ sizeLine) (c2 : st ≠ some 0)
    (h : k (.lst C.length) (C ++ [l])) : IdxW prog w B A σ s value slice k (.ref a) (.ref sl) := by
  refine tail_of (plain_typeIs t) slot_list_getitem.lookup (wpAny_getItem_list_slice t hsl q1 q2 q3 c2 ?_ c)
  rw [slicePick_eq]
  exact fun le => Post.list (tk := s.toks) tk le R r h (grow_push _ _) (get?_size _) (plain_push _ _)
theorem sk_tup {l : List At} {a : Nat} (tk : Tk σ s) (R : Rep B σ s.heap C) (hsl : s.heap.IsSliceOf sl vl vu vt) (q1 : IsPart vl (some (a : Int))) (q2 : IsPart vu none) (q3 : IsPart vt none) (ra : RepV B σ s.heap va (.tup l)) (c1 : 1 ≤ a) (c2 : a ≤ l.length) (c3 : l.length ≤ 1000) (h : k (.tup (l.drop a)) C) : IdxW prog w B A σ s value slice k va (.ref sl) := by
  obtain ⟨x, us, rfl, t1, r1⟩ := ra.t
  cases q1; cases q2; cases q3
  rw [← r1.length] at c2 c3
  refine tail_of (tuple_typeIs t1) slot_tuple_getitem.lookup (getItem_tuple_from t1 hsl c1 c2 ?_ (Nat.le_trans c3 (by decide)))
  exact fun le => Post.tuple (tk := s.toks) tk le R (r1.drop _) h (grow_push _ _) (tuple_push _ _)
theorem is_slice (hsl : s.heap.IsSliceOf sl vl vu vt) (q1 : IsPart vl lo) (q2 : IsPart vu hi) (q3 : IsPart vt none) : ∃ l u, s.heap.IsSlice sl l u none ∧ l.map (·.1) = lo ∧ u.map (·.1) = hi := by
  cases q3
  obtain ⟨o, ho, hc, hd⟩ := hsl
  have e1 : ∃ l : Option (Int × Tok), vl = (match l with | some p => .int p.1 p.2 | none => .none) ∧ l.map (·.1) = lo := by
    cases q1
    · exact ⟨none, rfl, rfl⟩
    · exact ⟨some (_, _), rfl, rfl⟩
  have e2 : ∃ l : Option (Int × Tok), vu = (match l with | some p => .int p.1 p.2 | none => .none) ∧ l.map (·.1) = hi := by
    cases q2
    · exact ⟨none, rfl, rfl⟩
    · exact ⟨some (_, _), rfl, rfl⟩
  obtain ⟨l, rfl, f1⟩ := e1
  obtain ⟨u, rfl, f2⟩ := e2
  exact ⟨l, u, ⟨o, ho, hc, by cases l <;> cases u <;> exact hd⟩, f1, f2⟩
theorem sk_str {x : Str} (tk : Tk σ s) (R : Rep B σ s.heap C) (hsl : s.heap.IsSliceOf sl vl vu vt) (q1 : IsPart vl lo) (q2 : IsPart vu hi) (q3 : IsPart vt none) (ra : RepV B σ s.heap va (dstr x)) (c : (pickS x lo hi).length ≤ sizeLine) (hk : k (dstr (pickS x lo hi)) C) : IdxW prog w B A σ s value slice k va (.ref sl) := by
  obtain ⟨t, rfl⟩ := ra.s
  obtain ⟨l, u, hs, el, eu⟩ := is_slice hsl q1 q2 q3
  refine tail_of (typeIs_str s x t) PySem.F.slot_str_getitem.lookup (wpAny_getItem_str_slice hs rfl ?_)
  have ep : slicePicked x l u none = sliceRange (sliceBounds lo hi none x.length).1 (sliceBounds lo hi none x.length).2.1 (sliceBounds lo hi none x.length).2.2 := by
    unfold slicePicked; rw [el, eu]; rfl
  have hx : x.cps.toList.length = x.length := rfl
  have hg : (fun i => x.cps.toList[i]?) = fun i => x.cps[i]? := funext fun i => Array.getElem?_toList ..
  have epk : (⟨((slicePicked x l u none).filterMap (x.cps[·]?)).toArray⟩ : Str) = pickS x lo hi := by
    unfold pickS pick; rw [ep, hx, hg]
  unfold sliceMade
  split
  · rename_i hw
    have hw : (slicePicked x l u none).length = x.length := eq_of_beq hw
    rw [ep] at hw
    have e2 : pickS x lo hi = x := by unfold pickS; rw [pick_all x.cps.toList lo hi hw]
    rw [e2] at hk
    exact fun le => Post.atom (tk := s.toks) tk le hk (.str _ _) R
  · rw [epk]
    exact ⟨c, fun le => Post.atom tk le hk (.str _ _) R⟩
end
@[elab_as_elim] theorem noO.el {α : Type} {o : Option α} {p : Prop} {P : Option α → Prop} (h : noO o p) (g : p → P none) : P o := by
  cases o with
  | none => exact g h
  | some a => exact False.elim h
abbrev SlcV (prog : Program) (w : World) (B : Heap) (a : D) (lo hi st : Option Int) (C : Cs) (k : KE) : Prop := ∀ A σ s va vl vu vt sl value slice, Tk σ s → Rep B σ s.heap C → RepV B σ s.heap va a →
  s.heap.IsSliceOf sl vl vu vt → IsPart vl lo → IsPart vu hi → IsPart vt st → IdxW prog w B A σ s value slice k va (.ref sl)
theorem slv_ok {a : D} {lo hi st : Option Int} {C : Cs} {k : KE} (h : slcV a lo hi st C k) : SlcV prog w B a lo hi st C k := by
  cases a with
  | «at» a =>
    cases a with
    | str x => exact noO.el (o := st) h fun h A σ s va vl vu vt sl value slice tk R ra hsl q1 q2 q3 => sk_str tk R hsl q1 q2 q3 ra h.1 h.2
    | _ => exact False.elim h
  | tup m =>
    refine optK.el h fun i e h => ?_
    subst e
    refine noO.el (o := hi) h fun h => noO.el (o := st) h fun h => want.el h fun e1 h => want.el h fun e2 h => want.el h fun e3 h => ?_
    have e1 := of_decide_eq_true e1
    obtain ⟨n, rfl⟩ : ∃ n : Nat, i = (n : Int) := ⟨i.toNat, (Int.toNat_of_nonneg (Int.le_trans (by decide) e1)).symm⟩
    exact fun A σ s va vl vu vt sl value slice tk R ra hsl q1 q2 q3 => sk_tup tk R hsl q1 q2 q3 ra (Int.ofNat_le.mp e1) (Nat.le_of_ble_eq_true e2) (Nat.le_of_ble_eq_true e3) h
  | lst x =>
    exact optK.el h fun m e0 h => want.el h fun e1 h => want.el h fun e2 h A σ s va vl vu vt sl value slice tk R ra hsl q1 q2 q3 => by
      obtain ⟨_, us, rfl, _, t, r⟩ := ra.c R e0
      exact sk_list tk R hsl q1 q2 q3 t.isList (r.pick _ _ _) (by rw [r.length]; exact Nat.le_of_ble_eq_true e1) (of_decide_eq_true e2) h
  | frz m =>
    exact want.el h fun e1 h => want.el h fun e2 h A σ s va vl vu vt sl value slice tk R ra hsl q1 q2 q3 => by
      obtain ⟨_, us, rfl, t, r⟩ := ra.z
      exact sk_list tk R hsl q1 q2 q3 (t.isList.at fun o q => R.base _ o q) (noFl_ups (r.pick _ _ _)) (by rw [r.length]; exact Nat.le_of_ble_eq_true e1) (of_decide_eq_true e2) h
  | arg m =>
    exact want.el h fun e1 h => want.el h fun e2 h A σ s va vl vu vt sl value slice tk R ra hsl q1 q2 q3 => by
      obtain ⟨_, us, rfl, t, r⟩ := ra.g
      exact sk_list tk R hsl q1 q2 q3 (t.at fun o q => R.base _ o q) (noFl_ups (r.pick _ _ _)) (by rw [r.length]; exact Nat.le_of_ble_eq_true e1) (of_decide_eq_true e2) h
  | _ => exact False.elim h
theorem slc_ok {a : D} {lo hi st : Option D} {C : Cs} {k : KE} (h : slcOp a lo hi st C k) : SlcOk prog w B a lo hi st C k := by
  exact optK.el h.ok fun _ e1 h => optK.el h fun _ e2 h => optK.el h fun _ e3 h A σ s va vl vu vt sl value slice tk R ra hsl pl pu pt =>
    wp_le (slv_ok h A σ s va vl vu vt sl value slice tk R ra hsl (part_of pl e1) (part_of pu e2) (part_of pt e3))
end
section
open PySem PySem.W PySem.Calls PyProof.Rows PySem.SeqAt
variable {prog : Program} {w : World} {B : Heap} {r : Nat}

@[reducible] noncomputable def kkI : PyProof.Rows.KeyKind where
  α := Int
  blt a b := decide (a < b)
  irrefl a := by simp
  trans a b c h1 h2 := by simp only [decide_eq_true_eq] at *; omega
  negTrans a b c h := by simp only [decide_eq_true_eq] at *; omega
  total a b h1 h2 := by simp only [decide_eq_false_iff_not] at *; omega
  keyOf v := match v with | .int x _ => some x | _ => none
  dflt := 0
theorem intK_lt : kkI.OneLt := by
  intro prog w A E s x y a b Q ha hb h
  cases x <;> simp only [kkI, reduceCtorEq, Option.some.injEq] at ha
  cases y <;> simp only [kkI, reduceCtorEq, Option.some.injEq] at hb
  cases ha; cases hb
  exact oneLt_int h

@[reducible] noncomputable def kkF : PyProof.Rows.KeyKind where
  α := Int
  blt a b := decide (a < b)
  irrefl a := by simp
  trans a b c h1 h2 := by simp only [decide_eq_true_eq] at *; omega
  negTrans a b c h := by simp only [decide_eq_true_eq] at *; omega
  total a b h1 h2 := by simp only [decide_eq_false_iff_not] at *; omega
  keyOf v := match v with | .float x _ => Option.map Int.ofNat (sixtyOf x) | _ => none
  dflt := 0
theorem sixty_cmp : (List.range 64).all (fun i => (List.range 64).all fun j => flt? (fdivII (i : Nat) 64) (fdivII (j : Nat) 64) == decide (i < j)) = true := by decide +kernel
theorem sixty_at {x : UInt64} {n : Nat} (h : sixtyOf x = some n) : n < 64 ∧ x = fdivII (n : Nat) 64 := by
  unfold sixtyOf at h
  rw [List.idxOf?_eq_some_iff] at h
  obtain ⟨hn, hx, _⟩ := h
  have h64 : n < 64 := by simpa [sixty] using hn
  refine ⟨h64, ?_⟩
  have hx : sixty[n]? = some x := by
    rw [List.getElem?_eq_getElem hn]; exact congrArg some (by simpa using hx)
  have h2 : sixty[n]? = some (fdivII (n : Nat) 64) := by simp [sixty, h64]
  rw [h2] at hx
  exact (Option.some.inj hx).symm
theorem sixty_lt {x y : UInt64} {a b : Nat} (h1 : sixtyOf x = some a) (h2 : sixtyOf y = some b) : flt? x y = decide (a < b) := by
  obtain ⟨ha, rfl⟩ := sixty_at h1
  obtain ⟨hb, rfl⟩ := sixty_at h2
  have := List.all_eq_true.mp (List.all_eq_true.mp sixty_cmp a (List.mem_range.mpr ha)) b (List.mem_range.mpr hb)
  simpa using this
theorem oneLt_flt {a b : UInt64} {t u : Tok} {A E s} {Q : Bool → Shared → Prop} (h : Q (flt? a b) s) : wpAny (model prog w) A (oneLt' true (.float a t) (.float b u)) Q E s := by
  rw [oneLt'_eq]
  simp only [if_true]
  refine wpAny_bind (wpAny_cRoomFor_byValue rfl ?_)
  refine wpAny_bind (wpAny_callSpecialIfBound?_slot (AutoFloatOps.typeIs_float s a t) PySem.F.slot_float_lt ?_)
  refine call_gives PySem.F.slot_float_lt (AutoFloatOps.typeIs_float s a t) PySem.F.entry_float_lt (PySem.F.args_float_lt_2 _ _) (AutoFloatG5.float___lt___float_float_0 a t b u) ?_
  exact wpAny_truthy_bool h
theorem fltK_lt : kkF.OneLt := by
  intro prog w A E s x y a b Q ha hb h
  cases x <;> simp only [kkF, reduceCtorEq, Option.map_eq_some_iff] at ha
  cases y <;> simp only [kkF, reduceCtorEq, Option.map_eq_some_iff] at hb
  obtain ⟨n, e1, rfl⟩ := ha
  obtain ⟨m, e2, rfl⟩ := hb
  refine oneLt_flt ?_
  rw [sixty_lt e1 e2]
  have : decide (n < m) = decide ((n : Int) < (m : Int)) := by
    by_cases q : n < m
    · rw [decide_eq_true q, decide_eq_true (by omega)]
    · rw [decide_eq_false q, decide_eq_false (by omega)]
  rw [this]; exact h
theorem keyKind_flts (x y : UInt64) (t u : Tok) : keyKind' #[.float x t, .float y u] = pure oneType' := by
  have h1 : List.mapM firstOfTuple' [Value.float x t, .float y u] = pure [none, none] := by
    rw [List.mapM_cons, List.mapM_cons, List.mapM_nil]; rfl
  have h2 : List.mapM typeOf [Value.float x t, .float y u] = pure [Value.type "float", Value.type "float"] := by
    rw [List.mapM_cons, List.mapM_cons, List.mapM_nil]; rfl
  rw [keyKind'_eq, List.mapM_toArray, h1]
  simp only [map_pure, pure_bind]
  rw [if_neg (by simp), if_neg (by simp)]
  rw [oneTypeOnly'_eq, List.mapM_toArray, h2]
  simp only [map_pure, pure_bind]
  have hall : (#[Value.type "float", Value.type "float"].all fun x => x == Value.type "float") = true := by decide +kernel
  have h0 : #[Value.type "float", Value.type "float"][0]? = some (Value.type "float") := by simp
  rw [h0]
  simp only [hall, if_true, pure_bind, Option.isSome_some]

theorem len2 {α : Type} {l : List α} (h : l.length = 2) : ∃ p q, l = [p, q] := match l, h with
  | [p, q], _ => ⟨p, q, rfl⟩
theorem perm2 {α : Type} {l : List α} {a b : α} (h : l.Perm [a, b]) : l = [a, b] ∨ l = [b, a] := by
  obtain ⟨p, q, rfl⟩ := len2 h.length_eq
  have hm : p ∈ [a, b] := h.subset (.head _)
  rcases List.mem_cons.mp hm with rfl | hm
  · left; rw [List.singleton_inj.mp (List.perm_singleton.mp ((List.perm_cons _).mp h))]
  · obtain rfl := List.mem_singleton.mp hm
    right; rw [List.singleton_inj.mp (List.perm_singleton.mp ((List.perm_cons _).mp (h.trans (.swap ..))))]
/-- two values, sorted -/
theorem sorted2 {κ : PyProof.Rows.KeyKind} (hO : κ.OneLt) {A E s} {T : String} {src : Addr} {o : Obj} {n : Nat} {v1 v2 : Value} {k1 k2 : κ.α} {Q : Value → Shared → Prop} (e1 : κ.keyOf v1 = some k1) (e2 : κ.keyOf v2 = some k2) (hkk : keyKind' #[v1, v2] = pure oneType')
    (hT : T = "list" ∨ T = "tuple") (ho : s.heap.get? src = some o) (hc : o.cls = .type T) (hd : o.data = .seq #[v1, v2] n)
    (h : ∀ h' a out, s.heap.get? a = none → (∀ b o', s.heap.get? b = some o' → h'.get? b = some o') → h'.PlainList a (List.toArray out) → ((out = [v1, v2] ∧ κ.blt k2 k1 = false) ∨ (out = [v2, v1] ∧ κ.blt k1 k2 = false)) → Q (.ref a) { s with heap := h' }) :
    wpAny (model prog w) A (call (.builtin "sorted") [.ref src]) Q E s := by
  refine Calls.call_function_entry kind_sorted plain_sorted entry_sorted (args_sorted1 _) ?_
  unfold Builtin.«sorted»
  refine wpAny_bind (m := checkCount "sorted" 1 1 _) (wpAny_pure ?_)
  refine wpAny_bind (wpAny_collect_seq src hT ho hc hd (fun h1 hk => ?_) (by rw [sizeLine_eq]; simp))
  refine wpAny_bind (wpAny_newList ?_ (by rw [sizeLine_eq]; simp))
  have hoL : (h1.push (seqObj "list" #[v1, v2] 0)).get? h1.objs.size = some (seqObj "list" [v1, v2].toArray 0) := Heap.get?_push_size _ rfl
  show wpAny _ _ _ _ _ { s with heap := h1.push (seqObj "list" #[v1, v2] 0) }
  refine wpAny_bind (wpAny_holding (wpAny_call_entry slot_list_sort ⟨_, hoL, rfl⟩ entry_list_sort (list_sort_treeK hO hoL ?_ ?_ (by simp) fun st' a1 a2 => ⟨_, rfl, ?_⟩) (args_list_sort _)))
  · intro p hp
    rw [pairsOf_toList] at hp
    simp at hp
    rcases hp with rfl | rfl
    · exact ⟨_, e1⟩
    · exact ⟨_, e2⟩
  · intro u1 u2 rest e
    cases e
    exact hkk
  · refine wpAny_pure ⟨_, rfl, ?_⟩
    have hne : ∀ b x, s.heap.get? b = some x → b ≠ h1.objs.size := fun b x q => Nat.ne_of_lt (Heap.lt_size (hk b x q))
    have hperm : (arrOf st').toList.Perm [(v1, v1), (v2, v2)] := by
      have := a1
      have e : (pairsOf [v1, v2]).toList = [(v1, v1), (v2, v2)] := by rw [pairsOf_toList]; rfl
      rw [← e]; exact Array.perm_iff_toList_perm.mp this
    have hout := perm2 hperm
    have hsz : (pairsOf [v1, v2]).size = 2 := by rw [pairsOf_size]; rfl
    have hle := a2 0 1 (by decide) (by rw [hsz]; decide)
    have hget : ∀ i, (arrOf st')[i]? = (arrOf st').toList[i]? := fun i => (Array.getElem?_toList ..).symm
    refine h _ h1.objs.size ((arrOf st').map (·.2)).toList ?_ ?_ ?_ ?_
    · cases q : s.heap.get? h1.objs.size with
      | none => rfl
      | some x => exact absurd rfl (hne _ _ q)
    · intro b x q
      have hb := hne b x q
      have q1 : (h1.push (seqObj "list" #[v1, v2] 0)).get? b = some x := Heap.get?_push_of_some _ (hk b x q)
      unfold sortedHeap
      rw [Heap.get?_update_ne _ _ _ _ hb]
      exact Heap.get?_push_of_some _ (Heap.get?_push_of_some _ ((Heap.get?_update_ne _ _ _ _ hb).trans q1))
    · unfold sortedHeap
      have q1 := get?_update_seq hoL (fun _ => (#[] : Array Value))
      have q2 := Heap.get?_push_of_some (seqObj "list" #[] 0) (Heap.get?_push_of_some (seqObj "tuple" [v1, v2].toArray 0) q1)
      have q3 := get?_update_seq q2 (fun _ => (arrOf st').map (·.2))
      have e : List.toArray ((arrOf st').map (·.2)).toList = (arrOf st').map (·.2) := Array.toArray_toList ..
      rw [e]
      exact ⟨_, q3⟩
    · unfold KK at hle
      rw [hget, hget] at hle
      rcases hout with e | e
      · left
        rw [e] at hle
        refine ⟨by rw [Array.toList_map, e]; rfl, ?_⟩
        have : κ.kle k1 k2 := by simpa [e1, e2] using hle
        exact this
      · right
        rw [e] at hle
        refine ⟨by rw [Array.toList_map, e]; rfl, ?_⟩
        have : κ.kle k2 k1 := by simpa [e1, e2] using hle
        exact this
end
section
open PySem PySem.W PySem.Calls PyProof.Rows PySem.SeqAt
variable {prog : Program} {w : World} {B : Heap} {r : Nat}

noncomputable def fAt (x y z : UInt64) : Nat → UInt64
  | 0 => x
  | 1 => y
  | _ => z
section
variable {fl : Tok → Option UInt64} {x y z : UInt64} {t u v : Tok}
theorem fAt_of (e1 : fl t = some x) (e2 : fl u = some y) (e3 : fl v = some z) {i : Nat} {a : Value} (h : #[Value.float x t, .float y u, .float z v][i]? = some a) : RepA fl a (.flt (fAt x y z i)) := by
  have h := (Array.getElem?_toList ..).trans h
  match i, h with
  | 0, h => cases h; exact .flt e1
  | 1, h => cases h; exact .flt e2
  | 2, h => cases h; exact .flt e3

theorem best3 (c : UInt64 → UInt64 → Bool) (x y z : UInt64) : fAt x y z (argBest (fun i j => c (fAt x y z i) (fAt x y z j)) 2) = (if c z (if c y x = true then y else x) = true then z else (if c y x = true then y else x)) := by
  have e : argBest (fun i j => c (fAt x y z i) (fAt x y z j)) 2 = if c z (fAt x y z (if c y x = true then 1 else 0)) = true then 2 else if c y x = true then 1 else 0 := rfl
  rw [e, apply_ite (fAt x y z), apply_ite (fAt x y z)]
  rfl
noncomputable def three (x y z : UInt64) (t u v : Tok) : Array Value := #[.float x t, .float y u, .float z v]
theorem three_lt {h : Heap} {d : Addr} (o : Obj) (hd : d ∈ [(h.push o).objs.size, h.objs.size]) (p : Obj) : d < ((h.push o).push p).objs.size := by
  rw [Heap.size_push]
  rcases List.mem_cons.mp hd with rfl | hd
  · exact Nat.lt_succ_self _
  · obtain rfl := List.mem_singleton.mp hd
    rw [Heap.size_push]; exact Nat.lt_succ_of_lt (Nat.lt_succ_self _)
theorem three_old {h h' : Heap} {o p : Obj} (hk : ∀ d x, d ∉ [(h.push o).objs.size] → ((h.push o).push p).get? d = some x → h'.get? d = some x) {d : Addr} {x : Obj} (e : h.get? d = some x) : h'.get? d = some x :=
  hk d x (fun hm => by
    obtain rfl := List.mem_singleton.mp hm
    have := Heap.lt_size e; rw [Heap.size_push] at this; exact Nat.lt_irrefl _ (Nat.lt_of_succ_lt this)) (Heap.get?_push_of_some _ (Heap.get?_push_of_some _ e))

/-- the greatest and the least of three floats -/
theorem max3 {A E s} {Q : Value → Shared → Prop} (e1 : fl t = some x) (e2 : fl u = some y) (e3 : fl v = some z) (hh : A.handled = none)
    (h : ∀ h' tk q, (∀ d o, s.heap.get? d = some o → h'.get? d = some o) → RepA fl q (.flt (maxF (maxF x y) z)) → Q q { s with heap := h', toks := tk }) :
    wpAny (model prog w) A (call (.builtin "max") [.float x t, .float y u, .float z v]) Q E s := by
  have hT : (s.heap.push { cls := .type "tuple", data := .seq (three x y z t u v) }).IsTuple s.heap.objs.size (three x y z t u v) := ⟨_, Heap.get?_push_size _ rfl, rfl, 0, rfl⟩
  refine call_max_three (wpAny_pyIter_tuple hT ?_)
  refine ⟨_, [_, s.heap.objs.size], [_], _, _, _, fun i j => (Float64.cmp (fAt x y z i) (fAt x y z j) == some Ordering.gt), rfl, Walks.tuple (A := A.in1) hh _ s.heap.objs.size (by rw [Heap.size_push]; exact Nat.ne_of_lt (Nat.lt_succ_self _)) (three x y z t u v),
    ⟨⟨_, Heap.get?_push_size _ rfl, rfl, rfl⟩, hT.push _⟩, fun d hd => three_lt _ hd _, Nat.succ_pos _, ?_, fun q h' tk hP hk => ?_⟩
  · intro i j vi vj s Q E hi hj h
    obtain ⟨t1, _, rfl⟩ := (fAt_of e1 e2 e3 hi).f
    obtain ⟨t2, _, rfl⟩ := (fAt_of e1 e2 e3 hj).f
    exact AutoFloatOps.gt_0 h
  · have := fAt_of e1 e2 e3 (i := argBest (fun i j => (Float64.cmp (fAt x y z i) (fAt x y z j) == some Ordering.gt)) 2) hP
    rw [best3 (fun a b => Float64.cmp a b == some Ordering.gt) x y z] at this
    exact h h' tk q (fun d o e => three_old hk e) this
theorem min3 {A E s} {Q : Value → Shared → Prop} (e1 : fl t = some x) (e2 : fl u = some y) (e3 : fl v = some z) (hh : A.handled = none)
    (h : ∀ h' tk q, (∀ d o, s.heap.get? d = some o → h'.get? d = some o) → RepA fl q (.flt (minF (minF x y) z)) → Q q { s with heap := h', toks := tk }) :
    wpAny (model prog w) A (call (.builtin "min") [.float x t, .float y u, .float z v]) Q E s := by
  have hT : (s.heap.push { cls := .type "tuple", data := .seq (three x y z t u v) }).IsTuple s.heap.objs.size (three x y z t u v) := ⟨_, Heap.get?_push_size _ rfl, rfl, 0, rfl⟩
  refine call_min_three (wpAny_pyIter_tuple hT ?_)
  refine ⟨_, [_, s.heap.objs.size], [_], _, _, _, fun i j => (Float64.cmp (fAt x y z i) (fAt x y z j) == some Ordering.lt), rfl, Walks.tuple (A := A.in1) hh _ s.heap.objs.size (by rw [Heap.size_push]; exact Nat.ne_of_lt (Nat.lt_succ_self _)) (three x y z t u v),
    ⟨⟨_, Heap.get?_push_size _ rfl, rfl, rfl⟩, hT.push _⟩, fun d hd => three_lt _ hd _, Nat.succ_pos _, ?_, fun q h' tk hP hk => ?_⟩
  · intro i j vi vj s Q E hi hj h
    obtain ⟨t1, _, rfl⟩ := (fAt_of e1 e2 e3 hi).f
    obtain ⟨t2, _, rfl⟩ := (fAt_of e1 e2 e3 hj).f
    exact AutoFloatOps.lt_0 h
  · have := fAt_of e1 e2 e3 (i := argBest (fun i j => (Float64.cmp (fAt x y z i) (fAt x y z j) == some Ordering.lt)) 2) hP
    rw [best3 (fun a b => Float64.cmp a b == some Ordering.lt) x y z] at this
    exact h h' tk q (fun d o e => three_old hk e) this
end

/-- the sum of a list of ints -/
theorem preSum_take (ns : List Int) : ∀ j, preSum (fun i => ns.getD i 0) j = (ns.take j).sum
  | 0 => by simp [preSum]
  | j + 1 => by
    show preSum _ j + ns.getD j 0 = _
    rw [preSum_take ns j, PySem.sum_take_succ]
theorem sum_ints {A E s} {l : Addr} {vs : List Value} {ns : List Int} {Q : Value → Shared → Prop} (hh : A.handled = none) (hl : s.heap.IsList l vs.toArray) (hi : All2 (fun v n => ∃ t, v = Value.int n t) vs ns)
    (hb : ∀ n ∈ ns, 0 ≤ n ∧ n < 10 ^ 9) (hn : ns.length < 2 ^ 20)
    (h : ∀ h' tk t', (∀ b o, s.heap.get? b = some o → h'.get? b = some o) → Q (.int ns.sum t') { s with heap := h', toks := tk }) : wpAny (model prog w) A (call (.builtin "sum") [.ref l]) Q E s := by
  have hlt : l < s.heap.objs.size := by obtain ⟨_, e, _⟩ := hl; exact Heap.lt_size e
  have hsum : ∀ j, 0 ≤ (ns.take j).sum ∧ (ns.take j).sum ≤ j * 10 ^ 9 := by
    intro j
    induction j with
    | zero => simp
    | succ j ih =>
      rw [PySem.sum_take_succ]
      have : 0 ≤ ns.getD j 0 ∧ ns.getD j 0 < 10 ^ 9 := by
        by_cases q : j < ns.length
        · have e : ns.getD j 0 = ns[j] := by simp [q]
          rw [e]; exact hb _ (List.getElem_mem q)
        · have e : ns.getD j 0 = 0 := by simp [List.getElem?_eq_none (Nat.not_lt.mp q)]
          rw [e]; decide
      omega
  refine call_sum_walk (wpAny_pyIter_list hl ?_)
  refine ⟨_, [_, l], [_], _, _, _, fun i => ns.getD i 0, rfl, Walks.list (A := A.in1) hh _ l (Nat.ne_of_lt hlt) vs.toArray, ⟨⟨_, Heap.get?_push_size _ rfl, rfl, rfl⟩, hl.push _⟩, fun b hb => ?_, ?_, ?_, ?_⟩
  · show b < (s.heap.push _).objs.size
    rw [Heap.size_push]
    rcases List.mem_cons.mp hb with rfl | hb
    · exact Nat.lt_succ_self _
    · rcases List.mem_cons.mp hb with rfl | hb
      · exact Nat.lt_succ_of_lt hlt
      · cases hb
  · intro i v hv
    obtain ⟨n, hn, t, e⟩ := hi.getl (by simpa using hv)
    exact ⟨t, by rw [e]; simp [hn]⟩
  · intro j hj
    have hj : j < ns.length := by simpa [hi.length] using hj
    have e : ns.getD j 0 = ns[j] := by simp [hj]
    have h1 := hb _ (List.getElem_mem hj)
    have h2 := hsum (j + 1)
    rw [preSum_take]
    unfold InLong
    dsimp only
    rw [e]
    constructor <;> constructor <;> omega
  · intro h' tk t' hk
    rw [show vs.toArray.size = ns.length by simp [hi.length], preSum_take, List.take_of_length_le (Nat.le_refl _)]
    refine h h' tk t' fun b o e => hk b o (fun hm => ?_) (Heap.get?_push_of_some _ e)
    rcases List.mem_cons.mp hm with e1 | hm
    · exact absurd (e1 ▸ Heap.lt_size e) (Nat.lt_irrefl _)
    · cases hm

theorem atoms_all {σ : Gh} {h : Heap} : ∀ {vs : List Value} {ds : List D} {l : List At}, RepVs B σ h vs ds → atoms ds = some l → All2 (RepA σ.fl) vs l
  | _, _, _, .nil, e => by cases e; exact .nil
  | _, _, _, .cons r t, e => by
    rename_i b _ _
    cases b with
    | «at» a =>
      simp [atoms] at e
      obtain ⟨m, hm, rfl⟩ := e
      cases r with | «at» r => exact .cons r (atoms_all t hm)
    | _ => cases e

noncomputable def BltOk (prog : Program) (w : World) (B : Heap) (r : Nat) (f : Blt) (args : List D) (C : Cs) (k : KE) : Prop := ∀ A σ s vals, Room r A → Tk σ s → Rep B σ s.heap C → RepVs B σ s.heap vals args →
  wpAny (model prog w) A (call f.val vals) (Post B σ s k) No s

section
variable {σ : Gh} {h : Heap} {us : List Value}
theorem All2.uncons {α β : Type} {R : α → β → Prop} {us : List α} {b : β} {l : List β} (x : All2 R us (b :: l)) : ∃ u vs, us = u :: vs ∧ R u b ∧ All2 R vs l := by
  generalize e : b :: l = bs at x
  induction x with
  | nil => cases e
  | cons r t => cases e; exact ⟨_, _, rfl, r, t⟩
theorem RepVs.zero (ru : RepVs B σ h us []) : us = [] := List.length_eq_zero_iff.mp ru.length
theorem RepVs.one {a : D} (ru : RepVs B σ h us [a]) : ∃ u, us = [u] ∧ RepV B σ h u a :=
  let ⟨u, _, e, r, t⟩ := ru.uncons
  ⟨u, by rw [e, RepVs.zero t], r⟩
theorem RepVs.two {a b : D} (ru : RepVs B σ h us [a, b]) : ∃ u v, us = [u, v] ∧ RepV B σ h u a ∧ RepV B σ h v b :=
  let ⟨u, _, e, r, t⟩ := ru.uncons
  let ⟨v, e2, q⟩ := RepVs.one t
  ⟨u, v, by rw [e, e2], r, q⟩
theorem RepVs.three {a b c : D} (ru : RepVs B σ h us [a, b, c]) : ∃ u v w, us = [u, v, w] ∧ RepV B σ h u a ∧ RepV B σ h v b ∧ RepV B σ h w c :=
  let ⟨u, _, e, r, t⟩ := ru.uncons
  let ⟨v, w, e2, q⟩ := RepVs.two t
  ⟨u, v, w, by rw [e, e2], r, q⟩
theorem ats2 {fl : Tok → Option UInt64} {a b : At} (ru : All2 (RepA fl) us [a, b]) : ∃ u v, us = [u, v] ∧ RepA fl u a ∧ RepA fl v b :=
  let ⟨u, _, e, r, t⟩ := ru.uncons
  let ⟨v, _, e2, q, t2⟩ := t.uncons
  ⟨u, v, by rw [e, e2, List.length_eq_zero_iff.mp t2.length], r, q⟩
end

section
variable {A : Around} {σ : Gh} {s : Shared} {C : Cs} {k : KE} {va vb vc : Value}
abbrev ValW (prog : Program) (w : World) (B : Heap) (A : Around) (σ : Gh) (s : Shared) (k : KE) (f : Value) (vs : List Value) : Prop := wpAny (model prog w) A (call f vs) (fun v s' => s.toks ≤ s'.toks → Post B σ s k v s') No s
theorem vk_len {a : Addr} {us : List Value} {n : Nat} (tk : Tk σ s) (R : Rep B σ s.heap C) (t : s.heap.IsList a us.toArray) (e : us.length = n) (c : n < 2 ^ 60) (h : k (dint n) C) : ValW prog w B A σ s k (.builtin "len") [.ref a] := by
  subst e
  exact call_len_list t (small_of c) fun le => Post.atom tk le h (.int _ _) R
theorem vk_sum {x : Nat} {l : List D} {a : List At} {m : List Int} (hd : A.handled = none) (tk : Tk σ s) (R : Rep B σ s.heap C) (r : RepV B σ s.heap va (.lst x)) (e : C[x]? = some l) (e1 : atoms l = some a) (e2 : intsA a = some m) (c : ∀ i ∈ m, 0 ≤ i ∧ i < 10 ^ 9) (c2 : m.length < 2 ^ 20) (h : k (dint m.sum) C) : ValW prog w B A σ s k (.builtin "sum") [va] := by
  obtain ⟨_, us, rfl, _, pl, ru⟩ := r.c R e
  exact sum_ints hd pl.isList (intsA_all (atoms_all ru e1) e2) c c2 fun h' tk' t' g le => ⟨_, C, σ, h, .at (.int _ _), R.grow g, .grow tk le g⟩
theorem fin_not {x : UInt64} (c : Float64.isFinite x = true) : Float64.isNaN x = false ∧ Float64.isInf x = false := by
  unfold Float64.isFinite at c; unfold Float64.isNaN Float64.isInf
  split at c <;> simp_all
theorem vk_intF {x : UInt64} (hd : A.handled = none) (tk : Tk σ s) (R : Rep B σ s.heap C) (r : RepV B σ s.heap va (dflt x)) (c : Float64.isFinite x = true) (h : k (dint (PySem.Flt.toInt Float64.truncOf x)) C) : ValW prog w B A σ s k (.type "int") [va] := by
  obtain ⟨t, _, rfl⟩ := r.f
  obtain ⟨c1, c2⟩ := fin_not c
  exact Flt.call_int_float3 hd (fun q => absurd (c1.symm.trans q) Bool.false_ne_true) (fun q => absurd (c2.symm.trans q) Bool.false_ne_true) fun _ le => Post.atom tk le h (.int _ _) R
theorem vk_tuple {x : Nat} {l : List D} {a : List At} (tk : Tk σ s) (R : Rep B σ s.heap C) (r : RepV B σ s.heap va (.lst x)) (e : C[x]? = some l) (e1 : atoms l = some a) (c : a.length ≤ sizeLine) (h : k (.tup a) C) : ValW prog w B A σ s k (.type "tuple") [va] := by
  obtain ⟨_, us, rfl, _, pl, ru⟩ := r.c R e
  have ra := atoms_all ru e1
  refine call_tuple_list pl.isList (fun h' g le => ?_) (by rw [List.size_toArray, ra.length]; exact c)
  exact Post.tuple (tk := s.toks) tk le R ra h (fun b o q => Heap.get?_push_of_some _ (g b o q)) (tuple_push _ _)
theorem srt_int {σ : Gh} {h : Heap} {out : List Value} {v1 v2 : Value} {a b : Int} (q1 : RepV B σ h v1 (dint a)) (q2 : RepV B σ h v2 (dint b)) (ho : (out = [v1, v2] ∧ decide (b < a) = false) ∨ (out = [v2, v1] ∧ decide (a < b) = false)) : RepVs B σ h out (if b < a then [dint b, dint a] else [dint a, dint b]) := by
  rcases ho with ⟨rfl, q⟩ | ⟨rfl, q⟩
  · rw [if_neg (of_decide_eq_false q)]; exact .cons q1 (.cons q2 .nil)
  · by_cases q' : b < a
    · rw [if_pos q']; exact .cons q2 (.cons q1 .nil)
    · obtain rfl : a = b := Int.le_antisymm (Int.not_lt.mp q') (Int.not_lt.mp (of_decide_eq_false q))
      rw [if_neg q']; exact .cons q2 (.cons q1 .nil)
theorem srt_flt {σ : Gh} {h : Heap} {out : List Value} {v1 v2 : Value} {a b : UInt64} {n1 n2 : Nat} (s1 : sixtyOf a = some n1) (s2 : sixtyOf b = some n2) (q1 : RepV B σ h v1 (dflt a)) (q2 : RepV B σ h v2 (dflt b)) (ho : (out = [v1, v2] ∧ decide ((n2 : Int) < n1) = false) ∨ (out = [v2, v1] ∧ decide ((n1 : Int) < n2) = false)) : RepVs B σ h out (if flt? b a = true then [dflt b, dflt a] else [dflt a, dflt b]) := by
  rw [sixty_lt s2 s1]
  rcases ho with ⟨rfl, q⟩ | ⟨rfl, q⟩
  · rw [if_neg (fun h => of_decide_eq_false q (Int.ofNat_lt.mpr (of_decide_eq_true h)))]; exact .cons q1 (.cons q2 .nil)
  · by_cases q' : n2 < n1
    · rw [if_pos (decide_eq_true q')]; exact .cons q2 (.cons q1 .nil)
    · obtain rfl : n1 = n2 := Nat.le_antisymm (Nat.not_lt.mp q') (Nat.not_lt.mp fun h => of_decide_eq_false q (Int.ofNat_lt.mpr h))
      obtain rfl : a = b := (sixty_at s1).2.trans (sixty_at s2).2.symm
      rw [ite_self]; exact .cons q2 (.cons q1 .nil)
theorem vk_sortI {x : Nat} {a b : Int} (tk : Tk σ s) (R : Rep B σ s.heap C) (r : RepV B σ s.heap va (.lst x)) (e : C[x]? = some [dint a, dint b]) (h : k (.lst C.length) (C ++ [if b < a then [dint b, dint a] else [dint a, dint b]])) : ValW prog w B A σ s k (.builtin "sorted") [va] := by
  obtain ⟨_, us, rfl, _, ⟨n, pl⟩, ru⟩ := r.c R e
  obtain ⟨u, v, rfl, q1, q2⟩ := ru.two
  obtain ⟨t1, rfl⟩ := q1.i; obtain ⟨t2, rfl⟩ := q2.i
  exact sorted2 intK_lt (k1 := a) (k2 := b) rfl rfl (keyKind_ints (.cons _ _ (.cons _ _ .nil))) (.inl rfl) pl rfl rfl fun h' a' out ha g p' ho le => Post.list (tk := s.toks) tk le R (srt_int q1 q2 ho) h g ha p'
theorem vk_sortF {x : Nat} {a b : UInt64} (tk : Tk σ s) (R : Rep B σ s.heap C) (r : RepV B σ s.heap va (.lst x)) (e : C[x]? = some [dflt a, dflt b]) (c1 : (sixtyOf a).isSome = true) (c2 : (sixtyOf b).isSome = true) (h : k (.lst C.length) (C ++ [if flt? b a = true then [dflt b, dflt a] else [dflt a, dflt b]])) : ValW prog w B A σ s k (.builtin "sorted") [va] := by
  obtain ⟨_, us, rfl, _, ⟨n, pl⟩, ru⟩ := r.c R e
  obtain ⟨u, v, rfl, q1, q2⟩ := ru.two
  obtain ⟨t1, _, rfl⟩ := q1.f; obtain ⟨t2, _, rfl⟩ := q2.f
  obtain ⟨n1, s1⟩ := Option.isSome_iff_exists.mp c1
  obtain ⟨n2, s2⟩ := Option.isSome_iff_exists.mp c2
  exact sorted2 fltK_lt (k1 := (n1 : Int)) (k2 := (n2 : Int)) (show kkF.keyOf (.float a t1) = some (n1 : Int) from congrArg (Option.map Int.ofNat) s1) (show kkF.keyOf (.float b t2) = some (n2 : Int) from congrArg (Option.map Int.ofNat) s2) (keyKind_flts _ _ _ _) (.inl rfl) pl rfl rfl fun h' a' out ha g p' ho le => Post.list (tk := s.toks) tk le R (srt_flt s1 s2 q1 q2 ho) h g ha p'
theorem vk_sortT {a b : Int} (tk : Tk σ s) (R : Rep B σ s.heap C) (r : RepV B σ s.heap va (.tup [.int a, .int b])) (h : k (.lst C.length) (C ++ [if b < a then [dint b, dint a] else [dint a, dint b]])) : ValW prog w B A σ s k (.builtin "sorted") [va] := by
  obtain ⟨_, us, rfl, ⟨o, ho, hc, n, hd⟩, ru⟩ := r.t
  obtain ⟨u, v, rfl, q1, q2⟩ := ats2 ru
  obtain ⟨t1, rfl⟩ := q1.i; obtain ⟨t2, rfl⟩ := q2.i
  exact sorted2 intK_lt (k1 := a) (k2 := b) rfl rfl (keyKind_ints (.cons _ _ (.cons _ _ .nil))) (.inr rfl) ho hc hd fun h' a' out ha g p' ho le => Post.list (tk := s.toks) tk le R (srt_int (.at q1) (.at q2) ho) h g ha p'
end
theorem len_ok {a : D} {C : Cs} {k : KE} (h : lenOp a C k) : BltOk prog w B r .len [a] C k := by
  cases a with
  | lst x => exact optK.el h fun l e h => want.el h fun c h A σ s vals room tk R ra => wp_le <| by obtain ⟨v, rfl, q⟩ := ra.one; obtain ⟨_, us, rfl, _, pl, ru⟩ := q.c R e; exact vk_len tk R pl.isList ru.length (Nat.le_of_ble_eq_true c) h
  | frz l => exact want.el h fun c h A σ s vals room tk R ra => wp_le <| by obtain ⟨v, rfl, q⟩ := ra.one; obtain ⟨_, us, rfl, pl, ru⟩ := q.z; exact vk_len tk R (pl.isList.at fun o q => R.base _ o q) ru.length (Nat.le_of_ble_eq_true c) h
  | arg l => exact want.el h fun c h A σ s vals room tk R ra => wp_le <| by obtain ⟨v, rfl, q⟩ := ra.one; obtain ⟨_, us, rfl, pl, ru⟩ := q.g; exact vk_len tk R (pl.at fun o q => R.base _ o q) ru.length (Nat.le_of_ble_eq_true c) h
  | _ => exact False.elim h
theorem int_ok {a : D} {C : Cs} {k : KE} (h : intOp a C k) : BltOk prog w B r .int [a] C k := by
  refine atK.el (d := a) h fun a h => ?_
  cases a with
  | flt x => exact want.el h fun c h A σ s vals room tk R ra => wp_le <| by obtain ⟨v, rfl, q⟩ := ra.one; exact vk_intF room.hd tk R q c h
  | str x => exact optK.el h fun n e h => want.el h fun c h A σ s vals room tk R ra => wp_le <| by obtain ⟨v, rfl, q⟩ := ra.one; obtain ⟨t, rfl⟩ := q.s; exact KIN.call_text e (Nat.le_of_ble_eq_true c) (show _ ≤ _ → Post _ _ _ _ _ _ from fun le => Post.atom tk le h (.int _ _) R)
  | _ => exact False.elim h
theorem srt_ok {a : D} {C : Cs} {k : KE} (h : srtOp a C k) : BltOk prog w B r .sorted [a] C k := by
  cases a with
  | tup l => exact h.elim fun a h => h.elim fun b h A σ s vals room tk R ra => wp_le <| by obtain ⟨v, rfl, q⟩ := ra.one; rw [h.1] at q; exact vk_sortT tk R q h.2
  | lst x =>
    refine optK.el h fun l e h => h.elim (fun h => ?_) fun h => ?_
    · exact h.elim fun a h => h.elim fun b h A σ s vals room tk R ra => wp_le <| by obtain ⟨v, rfl, q⟩ := ra.one; rw [h.1] at e; exact vk_sortI tk R q e h.2
    · exact h.elim fun a h => h.elim fun b h A σ s vals room tk R ra => wp_le <| by obtain ⟨v, rfl, q⟩ := ra.one; rw [h.1] at e; exact vk_sortF tk R q e h.2.1.1 h.2.1.2 h.2.2
  | _ => exact False.elim h
theorem blt_ok {f : Blt} {args : List D} {C : Cs} {k : KE} (h : bltOp f args C k) : BltOk prog w B r f args C k := by
  cases f with
  | len => exact one.el (l := args) h fun a h => len_ok h
  | sum =>
    exact one.el (l := args) h fun a h => lstK.el (d := a) h fun x h => optK.el h fun l e0 h => optK.el h fun b e1 h => optK.el h fun m e2 h A σ s vals room tk R ra => wp_le <| by
      obtain ⟨v, rfl, q⟩ := ra.one; exact vk_sum room.hd tk R q e0 e1 e2 h.1.1 h.1.2 h.2
  | int => exact one.el (l := args) h fun a h => int_ok h
  | max =>
    exact fl3.el (l := args) h fun a b c h A σ s vals room tk R ra => wp_le <| by
      obtain ⟨u, v, w, rfl, q1, q2, q3⟩ := ra.three; obtain ⟨_, e1, rfl⟩ := q1.f; obtain ⟨_, e2, rfl⟩ := q2.f; obtain ⟨_, e3, rfl⟩ := q3.f; exact max3 e1 e2 e3 room.hd fun h' tk' q g rq le => ⟨_, _, σ, h, .at rq, R.grow g, .grow tk le g⟩
  | min =>
    exact fl3.el (l := args) h fun a b c h A σ s vals room tk R ra => wp_le <| by
      obtain ⟨u, v, w, rfl, q1, q2, q3⟩ := ra.three; obtain ⟨_, e1, rfl⟩ := q1.f; obtain ⟨_, e2, rfl⟩ := q2.f; obtain ⟨_, e3, rfl⟩ := q3.f; exact min3 e1 e2 e3 room.hd fun h' tk' q g rq le => ⟨_, _, σ, h, .at rq, R.grow g, .grow tk le g⟩
  | sorted => exact one.el (l := args) h fun a h => srt_ok h
  | tuple =>
    exact one.el (l := args) h fun a h => lstK.el (d := a) h fun x h => optK.el h fun l e h => optK.el h fun b e1 h => want.el h fun c h A σ s vals room tk R ra => wp_le <| by
      obtain ⟨v, rfl, q⟩ := ra.one; exact vk_tuple tk R q e e1 (Nat.le_of_ble_eq_true c) h
end
section
open PySem PySem.W PySem.Calls PyProof.Rows PySem.SeqAt
open PySem.Builtin PySem.Builtin.Str
variable {prog : Program} {w : World} {B : Heap} {r : Nat}

/-- a list is written anew -/
theorem Post.write {σ : Gh} {s : Shared} {k : KE} {C : Cs} {x : Nat} {a : Addr} {vs : List Value} {ds : List D} {tk : Nat} {h' : Heap} {v : Value} {d : D} (t : Tk σ s) (le : s.toks ≤ tk) (R : Rep B σ s.heap C) (hk : σ.ad[x]? = some a)
    (e : Heap.SameBut a s.heap h') (p : h'.PlainList a vs.toArray) (q : RepVs B σ s.heap vs ds) (rv : RepV B σ s.heap v d) (h : k d (C.set x ds)) : Post B σ s k v { s with heap := h', toks := tk } := by
  obtain ⟨ws, n, pa⟩ := R.list hk
  have X : Ext [] s.heap h' := Ext.but e.extBut (.inr fun o ho => by rw [pa] at ho; cases ho; rfl) (plain_no_tuple ⟨n, pa⟩) (let ⟨_, q⟩ := p; ⟨_, q⟩)
  exact ⟨d, _, σ, h, rv.mono X.tup (.refl _), R.write hk e.extBut p q, .refl _, X, ⟨rfl, rfl, rfl⟩, t.up le⟩

theorem upd_plain {h : Heap} {a : Addr} {its its' : Array Value} {n : Nat} (p : h.get? a = some { cls := .type "list", data := .seq its n }) (f : Array Value → Array Value) (e : f its = its') : (h.update a (Obj.mapSeq f)).PlainList a its' := by
  subst e; exact ⟨_, IsL.update (n := n) p f⟩

theorem idxOf_at {s : Str} : ∀ {l : List Str} , l.idxOf s < l.length → ∀ {vs : List Value}, All2 (fun v n => ∃ t, v = Value.str n t) vs l → (∀ (h : l.idxOf s < vs.length), isStrV s vs[l.idxOf s] = true) ∧ ∀ m (h : m < vs.length), m < l.idxOf s → isStrV s vs[m] = false := by
  intro l
  induction l with
  | nil => intro h; simp at h
  | cons a l ih =>
    intro hlt vs hv
    cases hv with
    | cons h1 t =>
      obtain ⟨u, rfl⟩ := h1
      by_cases e : a = s
      · subst e
        simp [isStrV]
      · rw [List.idxOf_cons] at hlt
        have e' : (a == s) = false := by simpa using e
        simp only [e', cond_false] at hlt
        have := ih (by simpa using hlt) t
        refine ⟨fun h => ?_, fun m h1 h2 => ?_⟩
        · simp only [List.idxOf_cons, e', cond_false, List.getElem_cons_succ]
          exact this.1 _
        · rw [List.idxOf_cons] at h2
          simp only [e', cond_false] at h2
          cases m with
          | zero => simp [isStrV, e]
          | succ m => simp only [List.getElem_cons_succ]; exact this.2 m _ (by omega)

theorem str_vals {σ : Gh} {h : Heap} : ∀ l : List (Str × Tok), RepVs B σ h (strValues l) ((l.map (·.1)).map dstr)
  | [] => .nil
  | _ :: l => .cons (.at (.str _ _)) (str_vals l)

theorem fits_of {n : Nat} (h : n ≤ 1000) : tooLong n = false := by
  unfold tooLong
  have : (1000 : Nat) ≤ sizeLine := by decide
  simp; omega
theorem fitsIdx {i : Int} {n : Nat} (h0 : 0 ≤ i) (h : i ≤ n) (hn : n < 2 ^ 20) : Builtin.List.listFitsIndex i = true := by
  unfold Builtin.List.listFitsIndex; simp; omega
theorem big_line : (2 ^ 20 : Nat) ≤ sizeLine := by decide
theorem line_of {n : Nat} (c : n < 2 ^ 20) : n ≤ sizeLine := Nat.le_of_lt (Nat.lt_of_lt_of_le c big_line)
theorem long_of {n m : Nat} (c : n < m) (c2 : m < 2 ^ 20) : (n : Int) < 2 ^ 63 - 1 := by omega

noncomputable def Mth.ty : Mth → String
  | .append | .insert | .pop | .index => "list"
  | _ => "str"
noncomputable def Mth.id : Mth → String
  | .append => "list.append" | .insert => "list.insert" | .pop => "list.pop" | .index => "list.index" | .split => "str.split" | .endswith => "str.endswith"
  | .lower => "str.lower" | .upper => "str.upper" | .find => "str.find" | .startswith => "str.startswith" | .isdigit => "str.isdigit"

noncomputable def MethOk (prog : Program) (w : World) (B : Heap) (m : Mth) (o : D) (args : List D) (C : Cs) (k : KE) : Prop := ∀ A σ s vo vals, Tk σ s → Rep B σ s.heap C → RepV B σ s.heap vo o → RepVs B σ s.heap vals args →
  wpAny (model prog w) A (call (.builtin m.id) (vo :: vals)) (Post B σ s k) No s

section
variable {A : Around} {σ : Gh} {s : Shared} {C : Cs} {k : KE} {vo va vb : Value}
theorem mk_append {x : Nat} {d : D} {l : List D} (tk : Tk σ s) (R : Rep B σ s.heap C) (ro : RepV B σ s.heap vo (.lst x)) (ra : RepV B σ s.heap va d) (e : C[x]? = some l) (c : l.length ≤ sizeLine) (h : k (.at .none) (C.set x (l ++ [d]))) : ValW prog w B A σ s k (.builtin "list.append") [vo, va] := by
  obtain ⟨_, us, rfl, p, pl, ru⟩ := ro.c R e
  refine wpAny_list_append_plain pl (fun h' pl' sb le => ?_) (by rw [List.size_toArray, ru.length]; exact c)
  rw [List.push_toArray] at pl'
  exact Post.write (tk := s.toks) tk le R p sb pl' (ru.append (.cons ra .nil)) (.at .none) h
theorem ins_eq (us : List Value) (v : Value) (i : Nat) (c : i ≤ us.length) {z : Int} (hz : z = i) : ((us.toArray.extract 0 (if z < 0 then (z + (us.toArray.size : Int)).toNat else min z.toNat us.toArray.size)).push v ++ us.toArray.extract (if z < 0 then (z + (us.toArray.size : Int)).toNat else min z.toNat us.toArray.size)) = (us.take i ++ v :: us.drop i).toArray := by
  subst hz
  have e : (if (i : Int) < 0 then ((i : Int) + (us.toArray.size : Int)).toNat else min (i : Int).toNat us.toArray.size) = i := by
    rw [if_neg (Int.not_lt.mpr (Int.natCast_nonneg i))]; exact Nat.min_eq_left c
  rw [e]
  apply Array.toList_inj.mp
  simp
  exact List.take_of_length_le (by simp)
theorem fits_nat {z : Int} {i n : Nat} (hz : z = i) (c : i ≤ n) (c2 : n < 2 ^ 20) : Builtin.List.listFitsIndex z = true := by subst hz; exact fitsIdx (Int.natCast_nonneg i) (Int.ofNat_le.mpr c) c2
theorem mk_insert {x i : Nat} {z : Int} (hz : z = i) {d : D} {l : List D} (tk : Tk σ s) (R : Rep B σ s.heap C) (ro : RepV B σ s.heap vo (.lst x)) (ra : RepV B σ s.heap va (dint z)) (rb : RepV B σ s.heap vb d) (e : C[x]? = some l) (c : i ≤ l.length) (c2 : l.length < 2 ^ 20) (h : k (.at .none) (C.set x (l.take i ++ d :: l.drop i))) : ValW prog w B A σ s k (.builtin "list.insert") [vo, va, vb] := by
  obtain ⟨_, us, rfl, p, ⟨n, pl⟩, ru⟩ := ro.c R e
  obtain ⟨u, rfl⟩ := ra.i
  have hl := ru.length
  rw [← hl] at c c2
  refine call_meets PySem.F.slot_list_insert ⟨_, pl, rfl⟩ PySem.F.entry_list_insert (PySem.F.args_list_insert_3 _ _ _) (PySem.AutoSeq1.list_insert_list_int_val_1 _ _ n z u _ (by rw [fits_nat hz c c2]; decide) (line_of c2)) ⟨pl, fun le => ?_⟩
  exact Post.write (tk := s.toks) (vs := us.take i ++ _ :: us.drop i) tk le R p (Heap.SameBut.update ..) (upd_plain pl _ (ins_eq us _ i c hz)) ((ru.take _).append (.cons rb (ru.drop _))) (.at .none) h
theorem nat_idx {i n : Nat} (c : i < n) : seqIndex? (i : Int) n = some i := by
  unfold seqIndex?
  rw [if_neg (Int.not_lt.mpr (Int.natCast_nonneg i))]
  exact if_pos (by rw [decide_eq_true (Int.natCast_nonneg i), decide_eq_true (Int.ofNat_lt.mpr c)]; rfl)
theorem mk_pop {x i : Nat} {z : Int} (hz : z = i) {d : D} {l : List D} (tk : Tk σ s) (R : Rep B σ s.heap C) (ro : RepV B σ s.heap vo (.lst x)) (ra : RepV B σ s.heap va (dint z)) (e : C[x]? = some l) (ed : l[i]? = some d) (c2 : l.length < 2 ^ 20) (h : k d (C.set x (l.eraseIdx i))) : ValW prog w B A σ s k (.builtin "list.pop") [vo, va] := by
  obtain ⟨_, us, rfl, p, ⟨n, pl⟩, ru⟩ := ro.c R e
  obtain ⟨u, rfl⟩ := ra.i
  obtain ⟨y, hy, ry⟩ := ru.get ed
  have c := (List.getElem?_eq_some_iff.mp hy).1
  rw [← ru.length] at c2
  refine call_meets PySem.F.slot_list_pop ⟨_, pl, rfl⟩ PySem.F.entry_list_pop (PySem.F.args_list_pop_2 _ _) (PySem.MeetsSeq.list_pop_at _ _ n z u i y (fits_nat hz (Nat.le_of_lt c) c2) (by rw [hz]; exact nat_idx c) ((List.getElem?_toArray ..).trans hy) (line_of c2)) ⟨pl, fun le => ?_⟩
  exact Post.write (tk := s.toks) (vs := us.eraseIdx i) tk le R p (Heap.SameBut.update ..) (upd_plain pl _ (List.eraseIdxIfInBounds_toArray ..)) (ru.eraseIdx _) ry h
theorem mk_index {l : List At} {m : List Str} {x : Str} (tk : Tk σ s) (R : Rep B σ s.heap C) (ro : RepV B σ s.heap vo (.frz l)) (ra : RepV B σ s.heap va (dstr x)) (e : strsA l = some m) (c : m.idxOf x < m.length) (c2 : m.length < 2 ^ 20) (h : k (dint (m.idxOf x)) C) : ValW prog w B A σ s k (.builtin "list.index") [vo, va] := by
  obtain ⟨_, us, rfl, ⟨n, t0⟩, r0⟩ := ro.z
  obtain ⟨u, rfl⟩ := ra.s
  have ia := strsA_all r0 e
  obtain ⟨q1, q2⟩ := idxOf_at c ia
  have t1 := R.base _ _ t0
  rw [← ia.length] at c c2
  refine call_meets PySem.F.slot_list_index ⟨_, t1, rfl⟩ PySem.F.entry_list_index (PySem.F.args_list_index_2 _ _) (list_indexAt _ _ n none #[] _ (isStrV x) (m.idxOf x) c (long_of c c2) (q1 c) q2) ⟨t1, fun y hy => ?_, fun le => Post.atom tk le h (.int _ _) R⟩
  obtain ⟨n, t, rfl⟩ := ia.memL y (List.mem_toArray.mp hy)
  exact EqAt.str_str _ _ _ _
theorem mk_fin {l : List (Str × Tok)} {l2 : List Str} {tk' : Nat} (tk : Tk σ s) (R : Rep B σ s.heap C) (e : l.map (·.1) = l2) (h : k (.lst C.length) (C ++ [l2.map dstr])) (le : s.toks ≤ tk') : Post B σ s k (.ref s.heap.objs.size) { s with heap := s.heap.push { cls := .type "list", data := .seq (strValues l).toArray }, toks := tk' } :=
  Post.list tk le R (str_vals l) (by rw [e]; exact h) (fun b o q => Heap.get?_push_of_some _ q) (get?_size _) ⟨_, Heap.get?_push_size _ rfl⟩
theorem mk_split0 {x : Str} (tk : Tk σ s) (R : Rep B σ s.heap C) (ro : RepV B σ s.heap vo (dstr x)) (c : x.length + 2 ≤ sizeLine) (h : k (.lst C.length) (C ++ [(Txt.words x).map dstr])) : ValW prog w B A σ s k (.builtin "str.split") [vo] := by
  obtain ⟨t, rfl⟩ := ro.s
  have hn : (spaceWords x (x.length + 1)).length ≤ sizeLine := Nat.le_trans (Nat.le_trans (StrLaws.len_le_wsum _) (Nat.le_trans (StrLaws.sw_weight x).1 (Nat.le_succ _))) c
  refine call_meets F.slot_str_split (typeIs_str _ _ _) F.entry_str_split (F.args_str_split_1 _) (meets_str_split_space x t (Nat.le_trans (Nat.le_add_right _ 2) c) hn) ?_
  cases hw : spaceWords x (x.length + 1) == [(0, x.length)]
  · rw [if_neg Bool.false_ne_true, strsFrom_eq]
    exact fun le => mk_fin tk R ((numbered_texts _ _).trans (if_neg (ne_true_of_eq_false hw)).symm) h le
  · rw [if_pos rfl]
    exact fun le => mk_fin (l := [(x, t)]) tk R (if_pos hw).symm h le
theorem mk_split1 {x y : Str} (tk : Tk σ s) (R : Rep B σ s.heap C) (ro : RepV B σ s.heap vo (dstr x)) (ra : RepV B σ s.heap va (dstr y)) (c : x.length + 2 ≤ sizeLine) (c2 : y.length ≠ 0) (h : k (.lst C.length) (C ++ [(Txt.split x y).map dstr])) : ValW prog w B A σ s k (.builtin "str.split") [vo, va] := by
  obtain ⟨t, rfl⟩ := ro.s
  obtain ⟨u, rfl⟩ := ra.s
  have hy : (y.length == 0) = false := beq_false_of_ne c2
  have hn : (partsBetween x (occurrences x y 0 x.length (x.length + 1)) y.length).length ≤ sizeLine := by
    have e1 := StrLaws.occ_length_le x y 0 x.length (x.length + 1)
    rw [length_partsBetween]; omega
  cases h1 : (decide (x.length < y.length) || decide (strKind x < strKind y))
  · cases hf : (occurrences x y 0 x.length (x.length + 1)).isEmpty
    · refine call_meets F.slot_str_split (typeIs_str _ _ _) F.entry_str_split (F.args_str_split_2 _ _) (meets_str_split_sep x y t u h1 hy hf (Nat.le_trans (Nat.le_add_right _ 2) c) hn) ?_
      rw [strsFrom_eq]
      exact fun le => mk_fin tk R ((numbered_texts _ _).trans ((if_neg (ne_true_of_eq_false h1)).trans (if_neg (ne_true_of_eq_false hf))).symm) h le
    · exact call_meets F.slot_str_split (typeIs_str _ _ _) F.entry_str_split (F.args_str_split_2 _ _) (meets_str_split_not_found x y t u h1 hy hf)
        (fun le => mk_fin (l := [(x, t)]) tk R ((if_neg (ne_true_of_eq_false h1)).trans (if_pos hf)).symm h le)
  · exact call_meets F.slot_str_split (typeIs_str _ _ _) F.entry_str_split (F.args_str_split_2 _ _) (meets_str_split_cannot_occur x y t u h1)
      (fun le => mk_fin (l := [(x, t)]) tk R (if_pos h1).symm h le)
end
theorem spl_ok {s0 : Str} {args : List D} {C : Cs} {k : KE} (h : methOp .split (dstr s0) args C k) : MethOk prog w B .split (dstr s0) args C k := by
  cases args with
  | nil => exact want.el h fun c h A σ s vo vals tk R ro ra => wp_le <| by obtain rfl := ra.zero; exact mk_split0 tk R ro (Nat.le_of_ble_eq_true c) h
  | cons a l =>
    exact str1.el (l := a :: l) h fun y h => want.el h fun c h => want.el h fun c2 h A σ s vo vals tk R ro ra => wp_le <| by
      obtain ⟨v, rfl, q⟩ := ra.one; exact mk_split1 tk R ro q (Nat.le_of_ble_eq_true c) (Nat.ne_of_beq_eq_false (not_t c2)) h
theorem meth_ok {m : Mth} {o : D} {args : List D} {C : Cs} {k : KE} (h : methOp m o args C k) : MethOk prog w B m o args C k := by
  cases m with
  | append => exact lstK.el (d := o) h fun x h => one.el (l := args) h fun d h => optK.el h fun l e h => want.el h fun c h A σ s vo vals tk R ro ra => wp_le <| by obtain ⟨v, rfl, q⟩ := ra.one; exact mk_append tk R ro q e (Nat.le_of_ble_eq_true c) h
  | insert =>
    exact lstK.el (d := o) h fun x h => two.el (l := args) h fun a d h => intK.el (d := a) h fun i h => optK.el h fun l e h A σ s vo vals tk R ro ra => wp_le <| by
      obtain ⟨v, u, rfl, q1, q2⟩ := ra.two; exact mk_insert (Int.toNat_of_nonneg h.1.1).symm tk R ro q1 q2 e (Int.toNat_le.mpr h.1.2.1) h.1.2.2 h.2
  | pop =>
    exact lstK.el (d := o) h fun x h => one.el (l := args) h fun a h => intK.el (d := a) h fun i h => optK.el h fun l e h => optK.el h fun d e2 h A σ s vo vals tk R ro ra => wp_le <| by
      obtain ⟨v, rfl, q⟩ := ra.one; exact mk_pop (Int.toNat_of_nonneg h.1.1).symm tk R ro q e e2 h.1.2 h.2
  | index =>
    cases o with
    | frz l => exact str1.el (l := args) h fun x h => optK.el h fun m e h A σ s vo vals tk R ro ra => wp_le <| by obtain ⟨v, rfl, q⟩ := ra.one; exact mk_index tk R ro q e h.1.1 h.1.2 h.2
    | _ => exact False.elim h
  | split => exact strK.el (d := o) (P := fun o => MethOk prog w B .split o args C k) h fun x h => spl_ok h
  | endswith => exact strK.el (d := o) h fun x h => str1.el (l := args) h fun y h A σ s vo vals tk R ro ra => wp_le <| by obtain ⟨v, rfl, q⟩ := ra.one; obtain ⟨_, rfl⟩ := q.s; obtain ⟨_, rfl⟩ := ro.s; exact SC.endswith fun le => Post.atom (tk := s.toks) tk le h (.bool _) R
  | startswith => exact strK.el (d := o) h fun x h => str1.el (l := args) h fun y h A σ s vo vals tk R ro ra => wp_le <| by obtain ⟨v, rfl, q⟩ := ra.one; obtain ⟨_, rfl⟩ := q.s; obtain ⟨_, rfl⟩ := ro.s; exact SC.startswith fun le => Post.atom (tk := s.toks) tk le h (.bool _) R
  | find => exact strK.el (d := o) h fun x h => str1.el (l := args) h fun y h A σ s vo vals tk R ro ra => wp_le <| by obtain ⟨v, rfl, q⟩ := ra.one; obtain ⟨_, rfl⟩ := q.s; obtain ⟨_, rfl⟩ := ro.s; exact SC.find fun le => Post.atom tk le h (.int _ _) R
  | lower => exact strK.el (d := o) h fun x h => nil0.el (l := args) h fun h A σ s vo vals tk R ro ra => wp_le <| by obtain rfl := ra.zero; obtain ⟨_, rfl⟩ := ro.s; exact SC.lower (fits_of h.1) fun le => Post.atom tk le h.2 (.str _ _) R
  | upper => exact strK.el (d := o) h fun x h => nil0.el (l := args) h fun h A σ s vo vals tk R ro ra => wp_le <| by obtain rfl := ra.zero; obtain ⟨_, rfl⟩ := ro.s; exact SC.upper (fits_of h.1) fun le => Post.atom tk le h.2 (.str _ _) R
  | isdigit => exact strK.el (d := o) h fun x h => nil0.el (l := args) h fun h A σ s vo vals tk R ro ra => wp_le <| by obtain rfl := ra.zero; obtain ⟨_, rfl⟩ := ro.s; exact SC.isdigit fun le => Post.atom (tk := s.toks) tk le h (.bool _) R
end
section
open PySem PySem.W PySem.Calls PyProof.Rows PySem.SeqAt
variable {Q : Prop} {prog : Program} {w : World} {B : Heap} {r : Nat} {gl : List (Str × D)} {T : Tab} {sc : Scope} {vs : List Str}

/-- the expression keeps what the abstract one says -/
noncomputable def SE (prog : Program) (w : World) (B : Heap) (r : Nat) (T : Tab) (sc : Scope) (vs : List Str) (e : Expr) (me : ME) : Prop :=
  ∀ env, EnvOk sc vs env → ∀ n loc C k, E T n me loc C k → WE prog w B r env vs e loc C k
noncomputable def ST (prog : Program) (w : World) (B : Heap) (r : Nat) (T : Tab) (sc : Scope) (vs : List Str) (e : Expr) (me : ME) : Prop :=
  ∀ env, EnvOk sc vs env → ∀ n loc C k, TE T n me loc C k → WT prog w B r env vs e loc C k
/-- a row of arguments, or of items -/
structure SL (prog : Program) (w : World) (B : Heap) (r : Nat) (T : Tab) (sc : Scope) (vs : List Str) (es : List Expr) (mes : List ME) : Prop where
  plain : ∀ env pos, (backTo pos (starEach es env)).any (·.1) = false
  len : mes.length = es.length
  run : ∀ env, EnvOk sc vs env → ∀ pos n loc C k, Es T n mes loc C k → ∀ A σ s, Room r A → Tk σ s → Rep B σ s.heap C → Frm B env vs σ s.heap loc → wpAny (model prog w) A (spliced (backTo pos (starEach es env))) (PostL B σ s k) No s
noncomputable def PostO (B : Heap) (σ : Gh) (s : Shared) (k : Option D → Cs → Prop) (v : Value) (s' : Shared) : Prop :=
  ∃ d C' σ', k d C' ∧ PartR B σ' s'.heap v d ∧ Rep B σ' s'.heap C' ∧ Step [] σ s σ' s'
theorem PostO.use {B σ s k v s'} {Q : Prop} (p : PostO B σ s k v s') (f : ∀ d C' σ', k d C' → PartR B σ' s'.heap v d → Rep B σ' s'.heap C' → Step [] σ s σ' s' → Q) : Q :=
  p.elim fun d p => p.elim fun C' p => p.elim fun σ' p => f d C' σ' p.1 p.2.1 p.2.2.1 p.2.2.2
noncomputable def SO (prog : Program) (w : World) (B : Heap) (r : Nat) (T : Tab) (sc : Scope) (vs : List Str) (o : Option Expr) (mo : Option ME) : Prop :=
  ∀ env, EnvOk sc vs env → ∀ n loc C k, Eo T n mo loc C k → ∀ A σ s, Room r A → Tk σ s → Rep B σ s.heap C → Frm B env vs σ s.heap loc → wpAny (model prog w) A (evalPart o env) (PostO B σ s k) No s

theorem PartR.step {own σ s σ' s'} (a : Step own σ s σ' s') {v : Value} {o : Option D} (p : PartR B σ s.heap v o) : PartR B σ' s'.heap v o := by
  cases o with
  | none => exact p
  | some d => exact RepV.step a p

theorem Ex.z {P : Nat → Prop} (h0 : ¬ P 0) (h : ∀ n, P (n + 1) → Q) : ∀ n, P n → Q
  | 0, q => (h0 q).elim
  | n + 1, q => h n q
theorem SE.of {e : Expr} {me : ME} (h : ∀ env, EnvOk sc vs env → ∀ n loc C k, E T (n + 1) me loc C k → WE prog w B r env vs e loc C k) : SE prog w B r T sc vs e me :=
  fun env ok n loc C k => Ex.z (P := fun n => E T n me loc C k) (fun q => q) (fun n => h env ok n loc C k) n
theorem ST.of {e : Expr} {me : ME} (h : ∀ env, EnvOk sc vs env → ∀ n loc C k, TE T (n + 1) me loc C k → WT prog w B r env vs e loc C k) : ST prog w B r T sc vs e me :=
  fun env ok n loc C k => Ex.z (P := fun n => TE T n me loc C k) (fun q => q) (fun n => h env ok n loc C k) n
theorem star_plain {e : Expr} (h : ∀ x p, e ≠ .Starred x p) (rest : List Expr) (env : Env) : starEach (e :: rest) env = (false, eval e env) :: starEach rest env := by
  cases e <;> first | rfl | exact absurd rfl (h _ _)

theorem SL.nil : SL prog w B r T sc vs [] [] :=
  ⟨fun _ _ => rfl, rfl, fun env ok pos n loc C k => Ex.z (P := fun n => Es T n [] loc C k) (fun q => q) (fun n h A σ s room tk R F => wpAny_items_nil ⟨[], C, σ, h, .nil, R, .refl tk⟩) n⟩
theorem SL.cons {e : Expr} {es : List Expr} {me : ME} {mes : List ME} (hp : ∀ x p, e ≠ .Starred x p) (he : SE prog w B r T sc vs e me) (hs : SL prog w B r T sc vs es mes) : SL prog w B r T sc vs (e :: es) (me :: mes) := by
  refine ⟨fun env pos => by rw [star_plain hp]; exact hs.plain env pos, congrArg (· + 1) hs.len, fun env ok pos n loc C k => Ex.z (P := fun n => Es T n (me :: mes) loc C k) (fun q => q) (fun n h A σ s room tk R F => ?_) n⟩
  refine wpAny_items_cons (wp_no (he env ok n loc C _ h A σ s room tk R F) fun v s1 h1 => ?_) (star_plain hp es env)
  refine h1.use fun d C1 σ1 h1 rv R1 st => ?_
  refine wp_no (hs.run env ok pos n loc C1 _ h1 A σ1 s1 room st.tk R1 (F.step st)) fun us s2 h2 => ?_
  exact h2.use fun ds C2 σ2 h2 ru R2 st2 => ⟨d :: ds, C2, σ2, h2, .cons (rv.step st2) ru, R2, st.trans st2⟩

theorem SO.none : SO prog w B r T sc vs none none :=
  fun env ok n loc C k => Ex.z (P := fun n => Eo T n Option.none loc C k) (fun q => q) (fun n h A σ s room tk R F => wpAny_pure ⟨.none, C, σ, h, rfl, R, .refl tk⟩) n
theorem SO.some {e : Expr} {me : ME} (he : SE prog w B r T sc vs e me) : SO prog w B r T sc vs (some e) (some me) :=
  fun env ok n loc C k => Ex.z (P := fun n => Eo T n (Option.some me) loc C k) (fun q => q) (fun n h A σ s room tk R F => wp_no (he env ok n loc C _ h A σ s room tk R F) fun v s1 h1 => h1.use fun d C1 σ1 h1 rv R1 st => ⟨_, C1, σ1, h1, rv, R1, st⟩) n

theorem SE.bad (e : Expr) : SE prog w B r T sc vs e .bad := fun env ok n loc C k h => (E_bad h).elim
theorem ST.bad (e : Expr) : ST prog w B r T sc vs e .bad := ST.of fun env ok n loc C k h => (E_bad (k := fun d C => truth d C fun b => k b C) h).elim

theorem SE.cInt (i : Int) (kd pos) : SE prog w B r T sc vs (.Constant (.int i) kd pos) (.cst (.int i)) := by
  refine SE.of fun env ok n loc C k h A σ s room tk R F => ?_
  exact wpAny_Constant_int (Post.atom tk (Nat.le_succ _) h (.int _ _) R)
theorem SE.cStr (x : Str) (kd pos) : SE prog w B r T sc vs (.Constant (.str x) kd pos) (.cst (.str x)) := by
  refine SE.of fun env ok n loc C k h A σ s room tk R F => ?_
  exact wpAny_Constant_str (Post.atom tk (Nat.le_succ _) h (.str _ _) R)
theorem SE.cNone (kd pos) : SE prog w B r T sc vs (.Constant .none kd pos) (.cst .none) := by
  refine SE.of fun env ok n loc C k h A σ s room tk R F => ?_
  exact wpAny_Constant_none (Post.atom (tk := s.toks) tk (Nat.le_refl _) h .none R)
theorem SE.cBool (b : Bool) (kd pos) : SE prog w B r T sc vs (.Constant (.bool b) kd pos) (.cst (.bool b)) := by
  refine SE.of fun env ok n loc C k h A σ s room tk R F => ?_
  exact wpAny_Constant_bool (Post.atom (tk := s.toks) tk (Nat.le_refl _) h (.bool _) R)
theorem SE.cFlt (x : UInt64) (kd pos) : SE prog w B r T sc vs (.Constant (.float x) kd pos) (.cst (.flt x)) := by
  refine SE.of fun env ok n loc C k h A σ s room tk R F => ?_
  exact wpAny_Constant_float (Post.flt tk h R)

theorem EnvOk.kindOf {env : Env} (ok : EnvOk sc vs env) (x : Str) : env.kindOf x = sc.names.lookup x := by
  show env.scope.names.lookup x = _; rw [ok.sc]

theorem SE.local {x : Str} {i : Nat} (pos : Pos) (hd : (x == ("__debug__" : Str)) = false) (hi : vs[i]? = some x) (hk : sc.names.lookup x = some .local) : SE prog w B r T sc vs (.Name x pos) (.var i) := by
  refine SE.of fun env ok n loc C k h A σ s room tk R F => ?_
  replace h := E_var h
  obtain ⟨d, e, h⟩ := h
  have kd := (ok.kindOf x).trans hk
  obtain ⟨m, hn, hm⟩ := F.ns
  obtain ⟨v, hv, rv⟩ := hm i x d hi kd e
  exact wpAny_Name (wpAny_loadName_local ok.kind kd hn hv (Post.same (tk := s.toks) tk (Nat.le_refl _) h rv R)) hd
theorem SE.cell {x : Str} {i : Nat} (pos : Pos) (hd : (x == ("__debug__" : Str)) = false) (hi : vs[i]? = some x) (hk : sc.names.lookup x = some .cell) : SE prog w B r T sc vs (.Name x pos) (.var i) := by
  refine SE.of fun env ok n loc C k h A σ s room tk R F => ?_
  replace h := E_var h
  obtain ⟨d, e, h⟩ := h
  have kd := (ok.kindOf x).trans hk
  obtain ⟨c, o, hc, ho, hB, hd'⟩ := F.cl i x hi kd
  obtain ⟨v, rfl, rv⟩ := hd' d e
  exact wpAny_Name (wpAny_loadName_cell ok.kind kd hc ho (Post.same (tk := s.toks) tk (Nat.le_refl _) h rv R)) hd

theorem ns_base {s : Shared} {σ : Gh} {C : Cs} (R : Rep B σ s.heap C) {a : Addr} {m : Str → Option Value} (n : B.Ns a m) : s.heap.Ns a m := n.at' fun o q => R.base _ o q

theorem SE.global (G : GF prog w B gl) {x : Str} {d : D} (pos : Pos) (hd : (x == ("__debug__" : Str)) = false) (hk : sc.names.lookup x = some .globalImplicit) (hg : gl.lookup x = some d) : SE prog w B r T sc vs (.Name x pos) (.glb d) := by
  refine SE.of fun env ok n loc C k h A σ s room tk R F => ?_
  obtain ⟨mg, mb, n1, n2, hgl, _⟩ := G.top
  obtain ⟨v, hv, rv⟩ := hgl x d hg
  refine Name_function_global ok.kind (by rw [ok.kindOf, hk]) (loadGlobal_global (mg := mg) (by rw [ok.gl]; exact ns_base R n1) hv ?_) hd
  exact Post.same (tk := s.toks) tk (Nat.le_refl _) h (rv _ _) R

theorem SE.bin {op : Operator} {l r' : Expr} {ml mr : ME} (pos : Pos) (hl : SE prog w B r T sc vs l ml) (hr : SE prog w B r T sc vs r' mr) : SE prog w B r T sc vs (.BinOp l op r' pos) (.bin op ml mr) := by
  refine SE.of fun env ok n loc C k h A σ s room tk R F => ?_
  refine wpAny_BinOp (wp_no (hl env ok n loc C _ h A σ s room tk R F) fun v s1 h1 => ?_)
  refine h1.use fun d C1 σ1 h1 rv R1 st => ?_
  refine wp_no (hr env ok n loc C1 _ h1 A σ1 s1 room st.tk R1 (F.step st)) fun v2 s2 h2 => ?_
  refine h2.use fun d2 C2 σ2 h2 rv2 R2 st2 => ?_
  exact wp_no (bin_ok h2 A σ2 s2 _ _ room st2.tk R2 (rv.step st2) rv2) fun v3 s3 h3 => h3.from (st.trans st2)

theorem SE.neg {e : Expr} {me : ME} (pos : Pos) (he : SE prog w B r T sc vs e me) : SE prog w B r T sc vs (.UnaryOp .USub e pos) (.neg me) := by
  refine SE.of fun env ok n loc C k h A σ s room tk R F => ?_
  refine UnaryOp_ (wp_no (he env ok n loc C _ h A σ s room tk R F) fun v s1 h1 => ?_)
  refine h1.use fun d C1 σ1 q1 rv R1 st => ?_
  obtain ⟨i, rfl, q1⟩ := intK.use q1
  obtain ⟨t, rfl⟩ := rv.i
  exact wp_no (wp_le (Q := Post B σ1 s1 k) (neg_int fun le => Post.atom st.tk le q1 (.int _ _) R1)) fun v3 s3 h3 => h3.from st

theorem SE.not {e : Expr} {me : ME} (pos : Pos) (he : SE prog w B r T sc vs e me) : SE prog w B r T sc vs (.UnaryOp .Not e pos) (.not me) := by
  refine SE.of fun env ok n loc C k h A σ s room tk R F => ?_
  refine UnaryOp_ (wp_no (he env ok n loc C _ h A σ s room tk R F) fun v s1 h1 => ?_)
  refine h1.use fun d C1 σ1 h1 rv R1 st => ?_
  refine not_of (wp_no (truth_ok h1 st.tk R1 rv) fun c s2 h2 => ?_)
  refine h2.use fun C2 σ2 h2 R2 st2 => ?_
  obtain ⟨h2, e⟩ := h2
  subst e
  exact ⟨_, _, σ2, h2, .at (.bool _), R2, st.trans st2⟩

theorem SE.cmp (G : GF prog w B gl) {op : CmpOp} {l r' : Expr} {ml mr : ME} (pos : Pos) (hm : behindInMarks op r' = false) (hl : SE prog w B r T sc vs l ml) (hr : SE prog w B r T sc vs r' mr) : SE prog w B r T sc vs (.Compare l [op] [r'] pos) (.cmp op ml mr) := by
  refine SE.of fun env ok n loc C k h A σ s room tk R F => ?_
  refine wpAny_Compare1 (wp_no (hl env ok n loc C _ h A σ s room tk R F) fun v s1 h1 => ?_) hm
  refine h1.use fun d C1 σ1 h1 rv R1 st => ?_
  refine wp_no (hr env ok n loc C1 _ h1 A σ1 s1 room st.tk R1 (F.step st)) fun v2 s2 h2 => ?_
  refine h2.use fun d2 C2 σ2 h2 rv2 R2 st2 => ?_
  refine wp_no (cmp_ok G h2 A σ2 s2 _ _ room st2.tk R2 (rv.step st2) rv2) fun v3 s3 h3 => ?_
  obtain ⟨c, rfl, h3⟩ := h3
  exact h3.use fun C3 σ3 h3 R3 st3 => ⟨_, C3, σ3, h3, .at (.bool _), R3, (st.trans st2).trans st3⟩
theorem ST.cmp (G : GF prog w B gl) {op : CmpOp} {l r' : Expr} {ml mr : ME} (pos : Pos) (hm : behindInMarks op r' = false) (hl : SE prog w B r T sc vs l ml) (hr : SE prog w B r T sc vs r' mr) : ST prog w B r T sc vs (.Compare l [op] [r'] pos) (.cmp op ml mr) := by
  refine ST.of fun env ok n loc C k h A σ s room tk R F => ?_
  refine wpAny_isTrue_Compare1 (wp_no (hl env ok n loc C _ h A σ s room tk R F) fun v s1 h1 => ?_) hm
  refine h1.use fun d C1 σ1 h1 rv R1 st => ?_
  refine wp_no (hr env ok n loc C1 _ h1 A σ1 s1 room st.tk R1 (F.step st)) fun v2 s2 h2 => ?_
  refine h2.use fun d2 C2 σ2 h2 rv2 R2 st2 => ?_
  refine wp_no (cmp_ok G h2 A σ2 s2 _ _ room st2.tk R2 (rv.step st2) rv2) fun v3 s3 h3 => ?_
  obtain ⟨c, rfl, h3⟩ := h3
  exact wpAny_truthy_bool (h3.from (st.trans st2))

theorem ST.not {e : Expr} {me : ME} (pos : Pos) (he : ST prog w B r T sc vs e me) : ST prog w B r T sc vs (.UnaryOp .Not e pos) (.not me) := by
  refine ST.of fun env ok n loc C k h A σ s room tk R F => ?_
  refine isTrue_not (wp_no (he env ok n loc C _ h A σ s room tk R F) fun c s1 h1 => ?_)
  exact h1
theorem ST.andNil (pos : Pos) : ST prog w B r T sc vs (.BoolOp .And [] pos) (.and []) := by
  refine ST.of fun env ok n loc C k h A σ s room tk R F => ?_
  exact isTrue_and_nil ⟨C, σ, h, R, .refl tk⟩
theorem ST.andCons {e : Expr} {es : List Expr} {me : ME} {mes : List ME} (pos : Pos) (he : ST prog w B r T sc vs e me) (hs : ST prog w B r T sc vs (.BoolOp .And es pos) (.and mes)) : ST prog w B r T sc vs (.BoolOp .And (e :: es) pos) (.and (me :: mes)) := by
  refine ST.of fun env ok n loc C k h A σ s room tk R F => ?_
  refine isTrue_and (wp_no (he env ok n loc C _ h A σ s room tk R F) fun c s1 h1 => ?_)
  refine h1.use fun C1 σ1 h1 R1 st => ?_
  cases c with
  | false => exact ⟨C1, σ1, h1, R1, st⟩
  | true => exact wp_no (hs env ok n loc C1 _ h1 A σ1 s1 room st.tk R1 (F.step st)) fun c s2 h2 => h2.from st
theorem ST.orNil (pos : Pos) : ST prog w B r T sc vs (.BoolOp .Or [] pos) (.or []) := by
  refine ST.of fun env ok n loc C k h A σ s room tk R F => ?_
  exact isTrue_or_nil ⟨C, σ, h, R, .refl tk⟩
theorem ST.orCons {e : Expr} {es : List Expr} {me : ME} {mes : List ME} (pos : Pos) (he : ST prog w B r T sc vs e me) (hs : ST prog w B r T sc vs (.BoolOp .Or es pos) (.or mes)) : ST prog w B r T sc vs (.BoolOp .Or (e :: es) pos) (.or (me :: mes)) := by
  refine ST.of fun env ok n loc C k h A σ s room tk R F => ?_
  refine isTrue_or (wp_no (he env ok n loc C _ h A σ s room tk R F) fun c s1 h1 => ?_)
  refine h1.use fun C1 σ1 h1 R1 st => ?_
  cases c with
  | true => exact ⟨C1, σ1, h1, R1, st⟩
  | false => exact wp_no (hs env ok n loc C1 _ h1 A σ1 s1 room st.tk R1 (F.step st)) fun c s2 h2 => h2.from st

/-- an expression of which the truth is asked as it stands -/
noncomputable def plainTest : Expr → Bool
  | .UnaryOp .Not _ _ => false
  | .BoolOp _ _ _ => false
  | .IfExp _ _ _ _ => false
  | .Compare _ _ _ _ => false
  | _ => true
noncomputable def plainME : ME → Bool
  | .not _ | .and _ | .or _ | .cmp _ _ _ => false
  | _ => true
theorem isTrue_of {e : Expr} (h : plainTest e = true) (env : Env) (whole : Sem Value) : isTrue e env whole = (do let v ← whole; standAt e.pos; holding [v] (truthy v)) := by
  cases e <;> first | rfl | cases h | skip
  rename_i op _ _
  cases op <;> first | rfl | cases h
theorem TE_plain {me : ME} (h : plainME me = true) (n : Nat) (loc : Loc) (C : Cs) (k : Bool → Cs → Prop) : TE T (n + 1) me loc C k = E T n me loc C fun d C => truth d C fun b => k b C := by
  cases me <;> first | rfl | cases h
theorem ST.val {e : Expr} {me : ME} (hp : plainTest e = true) (hm : plainME me = true) (he : SE prog w B r T sc vs e me) : ST prog w B r T sc vs e me := by
  refine ST.of fun env ok n loc C k h A σ s room tk R F => ?_
  rw [TE_plain hm] at h
  refine isTrue_plain (wp_no (he env ok n loc C _ h A σ s room tk R F) fun v s1 h1 => ?_) (isTrue_of hp env _)
  refine h1.use fun d C1 σ1 h1 rv R1 st => ?_
  refine wp_no (truth_ok h1 st.tk R1 rv) fun c s2 h2 => ?_
  refine h2.use fun C2 σ2 h2 R2 st2 => ?_
  exact ⟨C2, σ2, by rw [h2.2]; exact h2.1, R2, st.trans st2⟩

theorem SE.ite {t b o : Expr} {mt mb mo : ME} (pos : Pos) (ht : ST prog w B r T sc vs t mt) (hb : SE prog w B r T sc vs b mb) (ho : SE prog w B r T sc vs o mo) : SE prog w B r T sc vs (.IfExp t b o pos) (.ite mt mb mo) := by
  refine SE.of fun env ok n loc C k h A σ s room tk R F => ?_
  refine IfExp_ (wp_no (ht env ok n loc C _ h A σ s room tk R F) fun c s1 h1 => ?_)
  refine h1.use fun C1 σ1 h1 R1 st => ?_
  cases c with
  | true => exact wp_no (hb env ok n loc C1 _ h1 A σ1 s1 room st.tk R1 (F.step st)) fun c s2 h2 => h2.from st
  | false => exact wp_no (ho env ok n loc C1 _ h1 A σ1 s1 room st.tk R1 (F.step st)) fun c s2 h2 => h2.from st

theorem SE.idx (G : GF prog w B gl) {v i : Expr} {mv mi : ME} (pos : Pos) (hv : SE prog w B r T sc vs v mv) (hi : SE prog w B r T sc vs i mi) : SE prog w B r T sc vs (.Subscript v i pos) (.idx mv mi) := by
  refine SE.of fun env ok n loc C k h A σ s room tk R F => ?_
  refine Subscript_ (wp_no (hv env ok n loc C _ h A σ s room tk R F) fun v s1 h1 => ?_)
  refine h1.use fun d C1 σ1 h1 rv R1 st => ?_
  refine wp_no (hi env ok n loc C1 _ h1 A σ1 s1 room st.tk R1 (F.step st)) fun v2 s2 h2 => ?_
  refine h2.use fun d2 C2 σ2 h2 rv2 R2 st2 => ?_
  exact wp_no (idx_ok G h2 A σ2 s2 _ _ _ _ st2.tk R2 (rv.step st2) rv2) fun v3 s3 h3 => h3.from (st.trans st2)

theorem SE.slc {v : Expr} {lo hi sp : Option Expr} {mv : ME} {ml mh ms : Option ME} (p pos : Pos) (hv : SE prog w B r T sc vs v mv) (hl : SO prog w B r T sc vs lo ml) (hh : SO prog w B r T sc vs hi mh) (hs : SO prog w B r T sc vs sp ms) :
    SE prog w B r T sc vs (.Subscript v (.Slice lo hi sp p) pos) (.slc mv ml mh ms) := by
  refine SE.of fun env ok n loc C k h A σ s room tk R F => ?_
  refine Subscript_ (wp_no (hv env ok n loc C _ h A σ s room tk R F) fun v s1 h1 => ?_)
  refine h1.use fun d C1 σ1 h1 rv R1 st1 => ?_
  refine wpAny_Slice (wp_no (hl env ok n loc C1 _ h1 A σ1 s1 room st1.tk R1 (F.step st1)) fun v2 s2 h2 => ?_)
  refine h2.use fun d2 C2 σ2 h2 p2 R2 st2 => ?_
  refine wp_no (hh env ok n loc C2 _ h2 A σ2 s2 room st2.tk R2 (F.step (st1.trans st2))) fun v3 s3 h3 => ?_
  refine h3.use fun d3 C3 σ3 h3 p3 R3 st3 => ?_
  refine wp_no (hs env ok n loc C3 _ h3 A σ3 s3 room st3.tk R3 (F.step ((st1.trans st2).trans st3))) fun v4 s4 h4 => ?_
  refine h4.use fun d4 C4 σ4 h4 p4 R4 st4 => ?_
  have g : ∀ b o, s4.heap.get? b = some o → (s4.heap.push { cls := .type "slice", data := .fields #[v2, v3, v4] }).get? b = some o := fun b o q => Heap.get?_push_of_some _ q
  have st5 : Step [] σ4 s4 σ4 { s4 with heap := s4.heap.push { cls := .type "slice", data := .fields #[v2, v3, v4] } } := Step.grow (tk := s4.toks) st4.tk (Nat.le_refl _) g
  refine wp_no (slc_ok h4 A σ4 _ _ v2 v3 v4 s4.heap.objs.size _ _ st5.tk (R4.grow g) (((rv.step st2).step st3).step (st4.trans st5)) ⟨_, Heap.get?_push_size _ rfl, rfl, rfl⟩ (p2.step (st3.trans (st4.trans st5))) (p3.step (st4.trans st5)) (p4.step st5)) fun v5 s6 h5 => ?_
  exact h5.from ((((st1.trans st2).trans st3).trans st4).trans st5)

theorem SE.tup {es : List Expr} {mes : List ME} (kd : Nat) (pos : Pos) (hs : SL prog w B r T sc vs es mes) : SE prog w B r T sc vs (.Tuple es kd pos) (.tup mes) := by
  refine SE.of fun env ok n loc C k h A σ s room tk R F => ?_
  refine wpAny_Tuple (wp_no (hs.run env ok pos n loc C _ h A σ s room tk R F) fun us s1 h1 => ?_)
  refine h1.use fun ds C1 σ1 h1 ru R1 st => ?_
  refine optK.el h1 fun l e h1 => want.el h1 fun c h1 => ?_
  have ra := atoms_all ru e
  refine ⟨by rw [ra.length]; exact Nat.le_trans (Nat.le_of_ble_eq_true c) (by decide), ?_⟩
  exact (Post.tuple (tk := s1.toks) st.tk (Nat.le_refl _) R1 ra h1 (grow_push _ _) (tuple_push _ _)).from st
theorem SE.lst {es : List Expr} {mes : List ME} (pos : Pos) (hs : SL prog w B r T sc vs es mes) : SE prog w B r T sc vs (.List es pos) (.lst mes) := by
  refine SE.of fun env ok n loc C k h A σ s room tk R F => ?_
  refine wpAny_List (wp_no (hs.run env ok pos n loc C _ h A σ s room tk R F) fun us s1 h1 => ?_)
  refine h1.use fun ds C1 σ1 h1 ru R1 st => ?_
  refine want.el h1 fun c h1 => ⟨by rw [ru.length]; exact Nat.le_trans (Nat.le_of_ble_eq_true c) (by decide), ?_⟩
  exact (Post.list (tk := s1.toks) st.tk (Nat.le_refl _) R1 ru h1 (grow_push _ _) (get?_size _) (plain_push _ _)).from st
end
section
open PySem PySem.W PySem.Calls PyProof.Rows PySem.SeqAt
variable {prog : Program} {w : World} {B : Heap} {r : Nat} {gl : List (Str × D)} {T : Tab} {sc : Scope} {vs : List Str}

noncomputable def KwR (B : Heap) (σ : Gh) (h : Heap) : List (Str × Value) → List (Str × D) → Prop := All2 fun p q => p.1 = q.1 ∧ RepV B σ h p.2 q.2
theorem KwR.step {own σ s σ' s'} (a : Step own σ s σ' s') {p : List (Str × Value)} {q : List (Str × D)} (x : KwR B σ s.heap p q) : KwR B σ' s'.heap p q := All2.imp (fun _ _ y => ⟨y.1, y.2.step a⟩) x

noncomputable def PostK (B : Heap) (σ : Gh) (s : Shared) (k : List (Str × D) → Cs → Prop) (vs : List (Str × Value)) (s' : Shared) : Prop := ∃ ks C' σ', k ks C' ∧ KwR B σ' s'.heap vs ks ∧ Rep B σ' s'.heap C' ∧ Step [] σ s σ' s'
theorem PostK.use {B σ s k vs s'} {Q : Prop} (p : PostK B σ s k vs s') (f : ∀ ds C' σ', k ds C' → KwR B σ' s'.heap vs ds → Rep B σ' s'.heap C' → Step [] σ s σ' s' → Q) : Q :=
  p.elim fun d p => p.elim fun C' p => p.elim fun σ' p => f d C' σ' p.1 p.2.1 p.2.2.1 p.2.2.2
structure SK (prog : Program) (w : World) (B : Heap) (r : Nat) (T : Tab) (sc : Scope) (vs : List Str) (kws : List Keyword) (mks : List (Str × ME)) : Prop where
  all : ∀ env pos, (backToKw pos (keywordEach kws env)).all (·.1.isSome) = true
  plain : ∀ env pos, (backToKw pos (keywordEach kws env)).any (·.1.isNone) = false
  run : ∀ env, EnvOk sc vs env → ∀ pos n loc C k, Ek T n mks loc C k → ∀ A σ s, Room r A → Tk σ s → Rep B σ s.heap C → Frm B env vs σ s.heap loc →
    wpAny (model prog w) A (evalAll ((backToKw pos (keywordEach kws env)).map (·.2))) (fun vals s' => PostK B σ s k (((backToKw pos (keywordEach kws env)).filterMap (·.1)).zip vals) s') No s

theorem SK.nil : SK prog w B r T sc vs [] [] :=
  ⟨fun _ _ => rfl, fun _ _ => rfl, fun env ok pos n loc C k => Ex.z (P := fun n => Ek T n [] loc C k) (fun q => q) (fun n h A σ s room tk R F => wpAny_pure ⟨[], C, σ, h, .nil, R, .refl tk⟩) n⟩
theorem SK.cons {x : Str} {e : Expr} {kp : Pos} {kws : List Keyword} {me : ME} {mks : List (Str × ME)} (he : SE prog w B r T sc vs e me) (hs : SK prog w B r T sc vs kws mks) : SK prog w B r T sc vs (⟨some x, e, kp⟩ :: kws) ((x, me) :: mks) := by
  refine ⟨fun env pos => hs.all env pos, fun env pos => hs.plain env pos, fun env ok pos n loc C k => Ex.z (P := fun n => Ek T n ((x, me) :: mks) loc C k) (fun q => q) (fun n h A σ s room tk R F => ?_) n⟩
  refine evalAll_cons (wpAny_bind (wp_no (he env ok n loc C _ h A σ s room tk R F) fun v s1 h1 => wpAny_bind (wpAny_standAt (wpAny_pure ?_))))
  refine h1.use fun d C1 σ1 h1 rv R1 st => ?_
  refine wp_no (hs.run env ok pos n loc C1 _ h1 A σ1 s1 room st.tk R1 (F.step st)) fun us s2 h2 => ?_
  exact h2.use fun ds C2 σ2 h2 ru R2 st2 => ⟨(x, d) :: ds, C2, σ2, h2, .cons ⟨rfl, rv.step st2⟩ ru, R2, st.trans st2⟩

theorem evalArgs_all {M : Model} {A : Around} {E : Value → Shared → Prop} {s : Shared} {f : Value} {trees : List (Bool × Sem Value)} {kws : List (Option Str × Sem Value)} {Q : Args → Shared → Prop} (hp : trees.any (·.1) = false) (hall : kws.all (·.1.isSome) = true)
    (h : wpAny M A (spliced trees) (fun us s₁ => wpAny M A (evalAll (kws.map (·.2))) (fun ks s₂ => Q ⟨us, (kws.filterMap (·.1)).zip ks⟩ s₂) E s₁) E s) : wpAny M A (evalArgs f true trees kws) Q E s := by
  cases trees with
  | nil =>
    refine evalArgs_kw_nil hall ?_
    exact fun Γ p hΓ => h Γ p hΓ Γ p hΓ
  | cons t rest =>
    obtain ⟨b, x⟩ := t
    cases b with
    | true => simp at hp
    | false => exact evalArgs_kw hall h

theorem Blt.with {A : Around} {pos : Pos} {E : Value → Shared → Prop} {s : Shared} {Q : Value → Shared → Prop} (f : Blt) {trees : List (Bool × Sem Value)} (hp : trees.any (·.1) = false)
    (h : wpAny (model prog w) A (spliced trees) (fun us s₁ => wpAny (model prog w) A (call f.val us) Q E s₁) E s) : wpAny (model prog w) A (callWith pos f.val [] trees []) Q E s := by
  have key : ∀ fv : Value, wpAny (model prog w) A (evalArgs fv true trees []) (fun a s₁ => wpAny (model prog w) A (call f.val ([] ++ a.pos) a.kw) Q E s₁) E s := fun fv =>
    evalArgs_all hp rfl (wpAny_mono h (fun us s1 h1 => wpAny_evalAll_nil h1) fun _ _ x => x)
  cases f with
  | int | tuple => exact PySem.callWith_type hp (key _)
  | _ => exact callWith_builtin hp (key _)
theorem SE.bcall (G : GF prog w B gl) {f : Blt} {args : List Expr} {mas : List ME} (p pos : Pos) (hd : (f.name == ("__debug__" : Str)) = false) (hk : sc.names.lookup f.name = some .globalImplicit) (hs : SL prog w B r T sc vs args mas) :
    SE prog w B r T sc vs (.Call (.Name f.name p) args [] pos) (.bcall f mas) := by
  refine SE.of fun env ok n loc C k h A σ s room tk R F => ?_
  obtain ⟨mg, mb, n1, n2, hgl, hb, _⟩ := G.top
  refine wpAny_Call_Name_kw (Name_function_global ok.kind ((ok.kindOf _).trans hk) (loadGlobal_builtin (mg := mg) (mb := mb) (by rw [ok.gl]; exact ns_base R n1) (hb f).1 (by rw [ok.bl]; exact ns_base R n2) (hb f).2 ?_) hd)
  refine Blt.with f (hs.plain env pos) (wp_no (hs.run env ok pos n loc C _ h A σ s room tk R F) fun us s1 h1 => ?_)
  exact h1.use fun ds C1 σ1 h1 ru R1 st => wp_no (blt_ok h1 A σ1 s1 us room st.tk R1 ru) fun v s2 h2 => h2.from st

/-- the arguments stand ready for a def of the table -/
noncomputable def CallIn (B : Heap) (T : Tab) (fd : D) (σ : Gh) (s : Shared) (k : KE) (x : Args) (s3 : Shared) : Prop :=
  ∃ a sp ds ks C3 σ3, fd = .fn a ∧ T.lookup a = some sp ∧ sp ds ks C3 k ∧ RepVs B σ3 s3.heap x.pos ds ∧ KwR B σ3 s3.heap x.kw ks ∧ Rep B σ3 s3.heap C3 ∧ Step [] σ s σ3 s3
theorem call_args {args : List Expr} {mas : List ME} {kws : List Keyword} {mks : List (Str × ME)} (hs : SL prog w B r T sc vs args mas) (hk : SK prog w B r T sc vs kws mks) {env : Env} (ok : EnvOk sc vs env) {pos : Pos} {n : Nat} {loc : Loc} {C : Cs} {k : KE} {fd : D}
    (h : Es T n mas loc C fun ds C => Ek T n mks loc C fun ks C => callOp T fd ds ks C k) {A : Around} {σ : Gh} {s : Shared} (room : Room r A) (tk : Tk σ s) (R : Rep B σ s.heap C) (F : Frm B env vs σ s.heap loc) (fv : Value) :
    wpAny (model prog w) A (evalArgs fv true (backTo pos (starEach args env)) (backToKw pos (keywordEach kws env))) (CallIn B T fd σ s k) No s := by
  refine evalArgs_all (hs.plain env pos) (hk.all env pos) (wp_no (hs.run env ok pos n loc C _ h A σ s room tk R F) fun us s2 h2 => ?_)
  refine h2.use fun ds C2 σ2 h2 ru R2 st2 => wp_no (hk.run env ok pos n loc C2 _ h2 A σ2 s2 room st2.tk R2 (F.step st2)) fun kv s3 h3 => ?_
  refine h3.use fun ks C3 σ3 h3 rk R3 st3 => ?_
  obtain ⟨a, sp, e1, e2, h3⟩ := callOp.use h3
  exact ⟨a, sp, ds, ks, C3, σ3, e1, e2, h3, ru.step st3, rk, R3, st2.trans st3⟩
theorem call_go (HT : TabOk prog w B r T) {A : Around} {σ : Gh} {s : Shared} {k : KE} {a : Addr} {sp : Spec} (room : Room r A) (e : T.lookup a = some sp) {o : Obj} (ho : B.get? a = some o) {x : Args} {s3 : Shared} (h : CallIn B T (.fn a) σ s k x s3) :
    s3.heap.get? a = some o ∧ wpAny (model prog w) A (call (.ref a) ([] ++ x.pos) x.kw) (Post B σ s k) No s3 := by
  obtain ⟨a', sp', ds, ks, C3, σ3, e1, e2, h3, ru, rk, R3, st3⟩ := h
  injection e1 with e1
  subst e1
  exact ⟨R3.base _ _ ho, wp_no ((HT a sp' e2).2 A σ3 s3 _ _ ds ks C3 k room st3.tk R3 ru rk h3) fun v s4 h4 => h4.from st3⟩
theorem call_fn (HT : TabOk prog w B r T) {A : Around} {σ : Gh} {s : Shared} {k : KE} {fd : D} {fv : Value} {pos : Pos} {trees : List (Bool × Sem Value)} {kws : List (Option Str × Sem Value)} (room : Room r A) (rv : RepV B σ s.heap fv fd)
    (h : wpAny (model prog w) A (evalArgs fv true trees kws) (CallIn B T fd σ s k) No s) : wpAny (model prog w) A (callWith pos fv [] trees kws) (Post B σ s k) No s := by
  by_cases hh : ∃ a sp, fd = .fn a ∧ T.lookup a = some sp
  · obtain ⟨a, sp, rfl, e⟩ := hh
    obtain rfl := rv.u
    obtain ⟨o, fdat, ho, hdat⟩ := (HT a sp e).1
    exact callWith_function_kw (o := o) (fd := fdat) (wp_no h fun x s3 h3 => ⟨⟨(call_go HT room e ho h3).1, hdat⟩, (call_go HT room e ho h3).2⟩)
  · refine wpAny_mono (Q := fun _ _ => False) ?_ (fun _ _ h => h.elim) fun _ _ h => h
    unfold callWith
    refine wpAny_bind (wpAny_holding (wp_no h fun x s3 h3 => ?_))
    obtain ⟨a, sp, _, _, _, _, e1, e2, _⟩ := h3
    exact (hh ⟨a, sp, e1, e2⟩).elim
theorem SE.call (HT : TabOk prog w B r T) {x : Str} {p : Pos} {mf : ME} {args : List Expr} {mas : List ME} {kws : List Keyword} {mks : List (Str × ME)} (pos : Pos) (hf : SE prog w B r T sc vs (.Name x p) mf) (hs : SL prog w B r T sc vs args mas) (hk : SK prog w B r T sc vs kws mks) :
    SE prog w B r T sc vs (.Call (.Name x p) args kws pos) (.call mf mas mks) := by
  refine SE.of fun env ok n loc C k h A σ s room tk R F => ?_
  refine wpAny_Call_Name_kw (wp_no (hf env ok n loc C _ h A σ s room tk R F) fun v s1 h1 => ?_)
  exact h1.use fun fd C1 σ1 h1 rv R1 st1 => wp_no (call_fn HT room rv (call_args hs hk ok h1 room st1.tk R1 (F.step st1) v)) fun v s4 h4 => h4.from st1

noncomputable def Mth.name : Mth → Str
  | .append => "append" | .insert => "insert" | .pop => "pop" | .index => "index" | .split => "split" | .endswith => "endswith"
  | .lower => "lower" | .upper => "upper" | .find => "find" | .startswith => "startswith" | .isdigit => "isdigit"
theorem Mth.slot (m : Mth) : Slot m.ty m.name m.id := by
  cases m
  · exact PySem.F.slot_list_append
  · exact PySem.F.slot_list_insert
  · exact PySem.F.slot_list_pop
  · exact PySem.F.slot_list_index
  · exact PySem.F.slot_str_split
  · exact PySem.F.slot_str_endswith
  · exact PySem.F.slot_str_lower
  · exact PySem.F.slot_str_upper
  · exact PySem.F.slot_str_find
  · exact PySem.F.slot_str_startswith
  · exact PySem.F.slot_str_isdigit
theorem Mth.typ (m : Mth) : typeOf (.builtin m.id) = pure (.type "method_descriptor") := by
  cases m
  · exact PySem.F.type_list_append
  · exact PySem.F.type_list_insert
  · exact PySem.F.type_list_pop
  · exact PySem.F.type_list_index
  · exact PySem.F.type_str_split
  · exact PySem.F.type_str_endswith
  · exact PySem.F.type_str_lower
  · exact PySem.F.type_str_upper
  · exact PySem.F.type_str_find
  · exact PySem.F.type_str_startswith
  · exact PySem.F.type_str_isdigit
theorem Mth.attrs (m : Mth) : PlainAttrs m.ty := by
  cases m <;> first | exact PySem.F.plainAttrs_list | exact PySem.F.plainAttrs_str
theorem Mth.list {m : Mth} {k : Nat} (h : oTy m (.lst k) = true) : m.ty = "list" := by cases m <;> first | rfl | cases h
theorem Mth.frz {m : Mth} {l : List At} (h : oTy m (.frz l) = true) : m.ty = "list" := by cases m <;> first | rfl | cases h
theorem Mth.str {m : Mth} {x : Str} (h : oTy m (dstr x) = true) : m.ty = "str" := by cases m <;> first | rfl | cases h
theorem Mth.on {m : Mth} {σ : Gh} {s : Shared} {C : Cs} {v : Value} {d : D} (R : Rep B σ s.heap C) (rv : RepV B σ s.heap v d) (h : oTy m d = true) : s.TypeIs v m.ty ∧ ∀ a, v = .ref a → ∃ ob, s.heap.get? a = some ob ∧ ob.dict = none := by
  cases d with
  | lst k =>
    obtain ⟨a, rfl, p⟩ := rv.l
    obtain ⟨us, n, pl⟩ := R.list p
    rw [Mth.list h]
    exact ⟨⟨_, pl, rfl⟩, fun a e => by injection e with e; subst e; exact ⟨_, pl, rfl⟩⟩
  | frz l =>
    obtain ⟨a, us, rfl, ⟨n, pl⟩, _⟩ := rv.z
    have pl := R.base _ _ pl
    rw [Mth.frz h]
    exact ⟨⟨_, pl, rfl⟩, fun a e => by injection e with e; subst e; exact ⟨_, pl, rfl⟩⟩
  | «at» x =>
    cases x with
    | str x =>
      obtain ⟨t, rfl⟩ := rv.s
      rw [Mth.str h]
      exact ⟨typeIs_str _ _ _, fun a e => nomatch e⟩
    | _ => exact Bool.noConfusion h
  | _ => exact Bool.noConfusion h

/-- no call of super -/
noncomputable def plainBase : Expr → Bool
  | .Call _ [] [] _ => false
  | _ => true
theorem base_of {o : Expr} (h : plainBase o = true) (name : Str) (env : Env) : attributeBase o name env (eval o env) = eval o env := by
  cases o <;> first | rfl | skip
  rename_i f as ks p
  cases as with
  | cons a as => cases f <;> rfl
  | nil =>
    cases ks with
    | cons k ks => cases f <;> rfl
    | nil => cases h

theorem SE.meth {m : Mth} {o : Expr} {mo : ME} {args : List Expr} {mas : List ME} (apos pos : Pos) (hb : plainBase o = true) (hline : (apos.endLine == pos.line) = true) (hlen : args.length < 30) (ho : SE prog w B r T sc vs o mo) (hs : SL prog w B r T sc vs args mas) :
    SE prog w B r T sc vs (.Call (.Attribute o m.name apos) args [] pos) (.meth m mo mas) := by
  refine SE.of fun env ok n loc C k h A σ s room tk R F => ?_
  refine wpAny_Call_method_lateS (base_of hb _ _) ?_ hline (wp_no (ho env ok n loc C _ h A σ s room tk R F) fun v s1 h1 => ?_)
  · have e : (backTo pos (starEach args env)).all (fun x => !x.1) = true := by
      have := hs.plain env pos
      rw [List.any_eq_false] at this
      exact List.all_eq_true.mpr fun x hx => by have := this x hx; simpa using this
    rw [e]
    exact decide_eq_true hlen
  · refine h1.use fun d C1 σ1 h1 rv R1 st => want.el h1 fun hty h1 => ?_
    obtain ⟨t1, t2⟩ := Mth.on R1 rv hty
    refine ⟨m.ty, m.id, m.attrs, m.slot, m.typ, t1, t2, callWith_builtin (hs.plain env pos) (evalArgs_all (hs.plain env pos) rfl (wp_no (hs.run env ok pos n loc C1 _ h1 A σ1 s1 room st.tk R1 (F.step st)) fun us s2 h2 => wpAny_evalAll_nil ?_))⟩
    exact h2.use fun ds C2 σ2 h2 ru R2 st2 => wp_no (meth_ok h2 A σ2 s2 v us st2.tk R2 (rv.step st2) ru) fun v s3 h3 => h3.from (st.trans st2)
end
section
open PySem PySem.W PySem.Calls PyProof.Rows PySem.SeqAt
variable {prog : Program} {w : World} {B : Heap} {r : Nat} {gl : List (Str × D)} {T : Tab} {sc : Scope} {vs : List Str}

/-- an iterator at a place of its source -/
inductive ItAt (σ : Gh) (h : Heap) (it : Addr) : Src → Nat → Prop where
  | lst {x l i} : σ.ad[x]? = some l → h.IsListIter it l i → ItAt σ h it (.d (.lst x)) i
  | tup {t us l i} : h.IsTuple t (List.toArray us) → All2 (RepA σ.fl) us l → h.IsTupleIter it t i → ItAt σ h it (.d (.tup l)) i
  | rng {lo hi left : Int} {i : Nat} : IsRangeIter h it (lo + i) left 1 → (0 < left → left = hi - (lo + i)) → (left ≤ 0 → hi ≤ lo + i) → ItAt σ h it (.rng lo hi) i

theorem ItAt.obj {σ : Gh} {h : Heap} {it : Addr} {src : Src} {i : Nat} (I : ItAt σ h it src i) : ∃ o us, h.get? it = some o ∧ o.data = .fields us := by
  induction I with
  | lst _ q => exact let ⟨o, ho, _, hd⟩ := q; ⟨o, _, ho, hd⟩
  | tup _ _ q => exact let ⟨o, ho, _, hd⟩ := q; ⟨o, _, ho, hd⟩
  | rng q _ _ => exact ⟨_, _, q, rfl⟩
theorem ItAt.mono {σ σ' : Gh} {h h' : Heap} {it : Addr} {src : Src} {i : Nat} (I : ItAt σ h it src i) (hk : ∀ o, h.get? it = some o → h'.get? it = some o) (ht : ∀ b us, h.IsTuple b us → h'.IsTuple b us) (hs : σ.Le σ') : ItAt σ' h' it src i := by
  induction I with
  | lst p q => exact .lst (let ⟨t, e⟩ := hs.ad; by rw [← e, List.getElem?_append_left (List.getElem?_eq_some_iff.mp p).1]; exact p) (q.at hk)
  | tup p a q => exact .tup (ht _ _ p) (a.imp fun _ _ r => r.mono hs.fl) (let ⟨o, ho, r⟩ := q; ⟨o, hk o ho, r⟩)
  | rng q a b => exact .rng (hk _ q) a b
theorem ItAt.step {own : List Addr} {σ σ' : Gh} {s s' : Shared} {it : Addr} {src : Src} {i : Nat} (I : ItAt σ s.heap it src i) (st : Step own σ s σ' s') (hn : it ∉ own) : ItAt σ' s'.heap it src i := by
  obtain ⟨o, us, ho, hd⟩ := I.obj
  exact I.mono (fun o' h => by rw [ho] at h; cases h; exact st.ext.keep _ _ ho hn (seqy_fields hd)) st.ext.tup st.pre

theorem fields_no_tuple {h : Heap} {x : Addr} {o : Obj} {us : Array Value} (ho : h.get? x = some o) (hd : o.data = .fields us) (ws : Array Value) : ¬ h.IsTuple x ws := by
  rintro ⟨o', ho', _, n, hd'⟩
  rw [ho] at ho'; cases ho'; rw [hd] at hd'; cases hd'
theorem fields_no_list {h : Heap} {x : Addr} {o : Obj} {us : Array Value} (ho : h.get? x = some o) (hd : o.data = .fields us) (ws : Array Value) : ¬ h.PlainList x ws := by
  rintro ⟨n, q⟩
  rw [ho] at q; cases q; cases hd
theorem fields_no_ns {h : Heap} {x : Addr} {o : Obj} {us : Array Value} (ho : h.get? x = some o) (hd : o.data = .fields us) {m : Str → Option Value} : ¬ h.Ns x m := by
  rintro ⟨o', es, ep, ho', hd', _⟩
  rw [ho] at ho'; cases ho'; rw [hd] at hd'; cases hd'
theorem fields_no_cell {h : Heap} {x : Addr} {o : Obj} {us : Array Value} (ho : h.get? x = some o) (hd : o.data = .fields us) {m : Option Value} : ¬ h.IsCell x m := by
  rintro ⟨o', ho', hd'⟩
  rw [ho] at ho'; cases ho'; rw [hd] at hd'; cases hd'
theorem tup_but {h h' : Heap} {x : Addr} (e : Heap.ExtBut x h h') (ht : ∀ us, ¬ h.IsTuple x us) : ∀ b us, h.IsTuple b us → h'.IsTuple b us := fun b us t => by
  obtain ⟨o, ho, r⟩ := id t
  exact ⟨o, e b o (by rintro rfl; exact ht _ t) ho, r⟩
theorem ns_lt {h : Heap} {x : Addr} {m : Str → Option Value} (n : h.Ns x m) : ∃ o, h.get? x = some o := by obtain ⟨o, _, _, ho, _⟩ := n; exact ⟨o, ho⟩

/-- what is new may change -/
theorem Step.but {own : List Addr} {σ0 σ : Gh} {s0 s : Shared} {x : Addr} {h' : Heap} {tk' : Nat} (st : Step own σ0 s0 σ s) (hx : s0.heap.get? x = none) (e : Heap.ExtBut x s.heap h') (le : s.toks ≤ tk') : Step own σ0 s0 σ { s with heap := h', toks := tk' } := by
  refine ⟨st.pre, ⟨fun b o q n c => e b o (by rintro rfl; rw [hx] at q; cases q) (st.ext.keep b o q n c), fun b us t => ?_, fun b o q => ?_⟩, st.same, st.tk.up le⟩
  · obtain ⟨o, ho, _⟩ := id t
    obtain ⟨o', ho', r⟩ := st.ext.tup b us t
    exact ⟨o', e b o' (by rintro rfl; rw [hx] at ho; cases ho) ho', r⟩
  · obtain ⟨o', ho'⟩ := st.ext.live b o q
    exact ⟨o', e b o' (by rintro rfl; rw [hx] at q; cases q) ho'⟩

/-- a turn: the next item, or the end -/
noncomputable def NextR (B : Heap) (σ : Gh) (h' : Heap) (it : Addr) (src : Src) (i : Nat) (rv : Option Value) (o : Option D) : Prop := match rv, o with
  | some v, some d => RepV B σ h' v d ∧ ItAt σ h' it src (i + 1)
  | none, none => True
  | _, _ => False
noncomputable def NextP (B : Heap) (σ : Gh) (s : Shared) (it : Addr) (src : Src) (i : Nat) (o : Option D) (rv : Option Value) (s' : Shared) : Prop :=
  ∃ h' tk', s' = { s with heap := h', toks := tk' } ∧ s.toks ≤ tk' ∧ Heap.ExtBut it s.heap h' ∧ NextR B σ h' it src i rv o
section
variable {A : Around} {σ : Gh} {s : Shared} {it : Addr} {i : Nat} {C : Cs} {o : Option D}
theorem nx_lst {x : Nat} {l : Addr} {ds : List D} (hh : A.handled = none) (R : Rep B σ s.heap C) (nt : ∀ us, ¬ s.heap.IsTuple it us) (p : σ.ad[x]? = some l) (q : s.heap.IsListIter it l i) (el : C[x]? = some ds) (e : ds[i]? = o) : wpAny (model prog w) A (pyNext (.ref it)) (NextP B σ s it (.d (.lst x)) i o) No s := by
  obtain ⟨ws, pl, rw'⟩ := R.cell _ _ _ p el
  cases o with
  | some d =>
    obtain ⟨v, hv, rv⟩ := rw'.get e
    exact wpAny_pyNext_list_item q pl.isList ((List.getElem?_toArray ..).trans hv) fun h' q' sb => ⟨h', s.toks, rfl, Nat.le_refl _, sb.extBut, rv.mono (tup_but sb.extBut nt) (.refl _), .lst p q'⟩
  | none =>
    have e := List.getElem?_eq_none_iff.mp e
    rw [← rw'.length] at e
    exact wpAny_pyNext_list_end hh q pl.isList ((List.getElem?_toArray ..).trans (List.getElem?_eq_none e)) fun h' eb => ⟨h', s.toks, rfl, Nat.le_refl _, eb, trivial⟩
theorem nx_tup {t : Addr} {us : List Value} {l : List At} (hh : A.handled = none) (nt : ∀ us, ¬ s.heap.IsTuple it us) (p : s.heap.IsTuple t us.toArray) (a : All2 (RepA σ.fl) us l) (q : s.heap.IsTupleIter it t i) (e : (l[i]?).map D.at = o) : wpAny (model prog w) A (pyNext (.ref it)) (NextP B σ s it (.d (.tup l)) i o) No s := by
  cases o with
  | some d =>
    obtain ⟨a0, ha, rfl⟩ := Option.map_eq_some_iff.mp e
    obtain ⟨v, hv, rv⟩ := a.get ha
    exact wpAny_pyNext_tuple_item q p ((List.getElem?_toArray ..).trans hv) fun h' q' sb => ⟨h', s.toks, rfl, Nat.le_refl _, sb.extBut, .at rv, .tup (tup_but sb.extBut nt _ _ p) a q'⟩
  | none =>
    have e := List.getElem?_eq_none_iff.mp (Option.map_eq_none_iff.mp e)
    rw [← a.length] at e
    exact wpAny_pyNext_tuple_end hh q p ((List.getElem?_toArray ..).trans (List.getElem?_eq_none e)) fun h' eb => ⟨h', s.toks, rfl, Nat.le_refl _, eb, trivial⟩
theorem nx_item {lo hi left : Int} (q : IsRangeIter s.heap it (lo + i) left 1) (a : 0 < left → left = hi - (lo + i)) (hl : 0 < left) : wpAny (model prog w) A (pyNext (.ref it)) (NextP B σ s it (.rng lo hi) i (some (dint (lo + i)))) No s := by
  refine wpAny_pyNext_range_item q hl fun h' q' sb => ⟨h', s.toks + 1, rfl, Nat.le_succ _, sb.extBut, .at (.int _ _), .rng (left := left - 1) ?_ (fun _ => ?_) (fun _ => ?_)⟩
  · rw [show lo + ((i + 1 : Nat) : Int) = lo + i + 1 by omega]; exact q'
  · have := a hl; omega
  · have := a hl; omega
theorem nx_rng {lo hi left : Int} (hh : A.handled = none) (q : IsRangeIter s.heap it (lo + i) left 1) (a : 0 < left → left = hi - (lo + i)) (b : left ≤ 0 → hi ≤ lo + i) (e : (if lo + (i : Int) < hi then some (dint (lo + i)) else none) = o) : wpAny (model prog w) A (pyNext (.ref it)) (NextP B σ s it (.rng lo hi) i o) No s := by
  subst e
  by_cases hl : 0 < left
  · rw [if_pos (Int.lt_of_sub_pos (a hl ▸ hl))]
    exact nx_item q a hl
  · have hl := Int.not_lt.mp hl
    rw [if_neg (Int.not_lt.mpr (b hl))]
    exact wpAny_pyNext_range_end hh q hl fun h' eb => ⟨h', s.toks, rfl, Nat.le_refl _, eb, trivial⟩
theorem next_ok {src : Src} (hh : A.handled = none) (R : Rep B σ s.heap C) (I : ItAt σ s.heap it src i) (e : itemAt src i C = some o) : wpAny (model prog w) A (pyNext (.ref it)) (NextP B σ s it src i o) No s := by
  obtain ⟨ob, us, ho, hd⟩ := I.obj
  have nt := fields_no_tuple ho hd
  clear ho hd
  revert e
  induction I with
  | lst p q => exact fun e => let ⟨l, el, e⟩ := Option.map_eq_some_iff.mp e; nx_lst hh R nt p q el e
  | tup p a q => exact fun e => nx_tup hh nt p a q (Option.some.inj e)
  | rng q a b => exact fun e => nx_rng hh q a b (Option.some.inj e)
end

noncomputable def notSet : Expr → Bool
  | .Set _ _ _ => false
  | _ => true
theorem fold_of {e : Expr} (h : notSet e = true) (env : Env) (x : Value) : foldedSetIterable e env x = pure x := by
  cases e <;> first | rfl | cases h

/-- a source of a loop -/
noncomputable def PostI (B : Heap) (σ : Gh) (s : Shared) (k : Src → Cs → Prop) (it : Value) (s2 : Shared) : Prop := ∃ I src C' σ', it = .ref I ∧ k src C' ∧ ItAt σ' s2.heap I src 0 ∧ s.heap.get? I = none ∧ Rep B σ' s2.heap C' ∧ Step [] σ s σ' s2
structure SI (prog : Program) (w : World) (B : Heap) (r : Nat) (T : Tab) (sc : Scope) (vs : List Str) (iter : Expr) (rng : Bool) (src : List ME) : Prop where
  fold : ∀ env x, foldedSetIterable iter env x = pure x
  run : ∀ env, EnvOk sc vs env → ∀ n loc C (k : Src → Cs → Prop), (Es T n src loc C fun ds C => srcOf rng ds fun s => k s C) → ∀ A σ s, Room r A → Tk σ s → Rep B σ s.heap C → Frm B env vs σ s.heap loc →
    wpAny (model prog w) A (eval iter env) (fun x s1 => wpAny (model prog w) A (pyIter x) (PostI B σ s k) No s1) No s

theorem Step.none {own : List Addr} {σ σ' : Gh} {s s' : Shared} (st : Step own σ s σ' s') {a : Addr} (h : s'.heap.get? a = none) : s.heap.get? a = none := by
  cases q : s.heap.get? a with
  | none => rfl
  | some o => obtain ⟨o', h'⟩ := st.ext.live _ o q; rw [h] at h'; cases h'

theorem iter_val {A : Around} {σ σ1 : Gh} {s s1 : Shared} {v : Value} {d : D} {C1 : Cs} {k : Src → Cs → Prop} (h1 : srcOf false [d] fun s => k s C1) (rv : RepV B σ1 s1.heap v d) (R1 : Rep B σ1 s1.heap C1) (st : Step [] σ s σ1 s1) : wpAny (model prog w) A (pyIter v) (PostI B σ s k) No s1 := by
  have g : ∀ (o : Obj) b x, s1.heap.get? b = some x → (s1.heap.push o).get? b = some x := fun o b x q => Heap.get?_push_of_some _ q
  cases d with
  | lst x =>
    obtain ⟨a, rfl, p⟩ := rv.l
    obtain ⟨us, pl⟩ := R1.list p
    exact wpAny_pyIter_list pl.isList ⟨_, _, C1, σ1, rfl, h1, .lst p ⟨_, Heap.get?_push_size _ rfl, rfl, rfl⟩, st.none (get?_size _), R1.grow (g _), st.trans (Step.grow (tk := s1.toks) st.tk (Nat.le_refl _) (g _))⟩
  | tup l =>
    obtain ⟨a, us, rfl, p, q⟩ := rv.t
    exact wpAny_pyIter_tuple p ⟨_, _, C1, σ1, rfl, h1, .tup (p.push _) q ⟨_, Heap.get?_push_size _ rfl, rfl, rfl⟩, st.none (get?_size _), R1.grow (g _), st.trans (Step.grow (tk := s1.toks) st.tk (Nat.le_refl _) (g _))⟩
  | _ => exact False.elim h1
theorem SI.val {e : Expr} {me : ME} (hs : notSet e = true) (he : SE prog w B r T sc vs e me) : SI prog w B r T sc vs e false [me] := by
  refine ⟨fold_of hs, fun env ok n loc C k => Ex.z (P := fun n => Es T n [me] loc C _) (fun q => q) (fun n h A σ s room tk R F => ?_) n⟩
  refine wp_no (he env ok n loc C _ h A σ s room tk R F) fun v s1 h1 => h1.use fun d C1 σ1 h1 rv R1 st => ?_
  have h1 : srcOf false [d] fun s => k s C1 := by
    cases n with
    | zero => exact False.elim h1
    | succ n => exact h1
  exact iter_val h1 rv R1 st

theorem above_none (h : Heap) (a : Addr) (ha : h.objs.size ≤ a) : h.get? a = none := by
  cases q : h.get? a with
  | none => rfl
  | some o => exact absurd (Heap.lt_size q) (Nat.not_lt.mpr ha)
theorem range_fin {σ σ1 : Gh} {s s1 : Shared} {C1 : Cs} {k : Src → Cs → Prop} {lo hi : Int} {h' : Heap} {tk' : Nat} {I : Addr} (h1 : k (.rng lo hi) C1) (R1 : Rep B σ1 s1.heap C1) (st : Step [] σ s σ1 s1) (g : ∀ b o, s1.heap.get? b = some o → h'.get? b = some o) (le : s1.toks ≤ tk') (hI : s1.heap.get? I = none)
    (q : IsRangeIter h' I lo (Builtin.Range.rangeSize lo hi 1) 1) : PostI B σ s k (.ref I) { s1 with heap := h', toks := tk' } := by
  refine ⟨I, _, C1, σ1, rfl, h1, .rng (left := Builtin.Range.rangeSize lo hi 1) ?_ (fun h => ?_) (fun h => ?_), st.none hI, R1.grow g, st.trans (Step.grow st.tk le g)⟩
  · rw [show lo + ((0 : Nat) : Int) = lo from Int.add_zero lo]; exact q
  · rw [rangeSize_one] at h ⊢; split at h <;> simp_all
  · rw [rangeSize_one] at h; split at h <;> simp_all; omega
theorem push1_none' (h : Heap) (o p : Obj) : h.get? ((h.push o).push p).objs.size = none := above_none h _ (by rw [Heap.size_push, Heap.size_push]; exact Nat.le_add_right _ 2)
theorem push2 (h : Heap) (o p : Obj) : ∀ b x, h.get? b = some x → ((h.push o).push p).get? b = some x := fun _ _ q => Heap.get?_push_of_some _ (Heap.get?_push_of_some _ q)
theorem push1_none (h : Heap) (o : Obj) : h.get? (h.push o).objs.size = none := above_none h _ (by rw [Heap.size_push]; exact Nat.le_succ _)
theorem rk_1 {A : Around} {σ σ1 : Gh} {s s1 : Shared} {C1 : Cs} {k : Src → Cs → Prop} {hi : Int} {v : Value} (c1 : -(2 ^ 40) < hi) (c2 : hi < 2 ^ 40) (h1 : k (.rng 0 hi) C1) (rv : RepV B σ1 s1.heap v (dint hi)) (R1 : Rep B σ1 s1.heap C1) (st : Step [] σ s σ1 s1) :
    wpAny (model prog w) A (call (.type "range") [v]) (fun x s2 => wpAny (model prog w) A (pyIter x) (PostI B σ s k) No s2) No s1 := by
  obtain ⟨u, rfl⟩ := rv.i
  refine call_range_1 (wpAny_pyIter_range (IsRange.new ..) (small_one (by decide) (by decide) (by omega) (by omega)) ?_)
  exact range_fin (s1 := s1) (tk' := s1.toks + 1 + 1) h1 R1 st (push2 _ _ _) (Nat.le_add_right _ 2) (push1_none ..) (Heap.get?_push_size _ rfl)
theorem rk_2 {A : Around} {σ σ1 : Gh} {s s1 : Shared} {C1 : Cs} {k : Src → Cs → Prop} {lo hi : Int} {v v2 : Value} (c1 : -(2 ^ 40) < hi) (c2 : hi < 2 ^ 40) (c3 : -(2 ^ 40) < lo) (c4 : lo < 2 ^ 40) (h1 : k (.rng lo hi) C1) (rv : RepV B σ1 s1.heap v (dint lo)) (rv2 : RepV B σ1 s1.heap v2 (dint hi)) (R1 : Rep B σ1 s1.heap C1) (st : Step [] σ s σ1 s1) :
    wpAny (model prog w) A (call (.type "range") [v, v2]) (fun x s2 => wpAny (model prog w) A (pyIter x) (PostI B σ s k) No s2) No s1 := by
  obtain ⟨u, rfl⟩ := rv.i
  obtain ⟨u2, rfl⟩ := rv2.i
  refine call_range_2 (wpAny_pyIter_range (IsRange.new ..) (small_one (by omega) (by omega) (by omega) (by omega)) ?_)
  exact range_fin (s1 := s1) (tk' := s1.toks + 1) h1 R1 st (push2 _ _ _) (Nat.le_succ _) (push1_none ..) (Heap.get?_push_size _ rfl)
theorem rk_ok {A : Around} {σ σ1 : Gh} {s s1 : Shared} {C1 : Cs} {k : Src → Cs → Prop} {us : List Value} {ds : List D} (h1 : srcOf true ds fun s => k s C1) (ru : RepVs B σ1 s1.heap us ds) (R1 : Rep B σ1 s1.heap C1) (st : Step [] σ s σ1 s1) :
    wpAny (model prog w) A (call (.type "range") us) (fun x s2 => wpAny (model prog w) A (pyIter x) (PostI B σ s k) No s2) No s1 := by
  cases ds with
  | nil => exact h1.elim
  | cons a l =>
    obtain ⟨lo, rfl, h2⟩ := intK.use h1
    cases l with
    | nil => obtain ⟨v, rfl, q⟩ := ru.one; exact rk_1 h2.1.1 h2.1.2 h2.2 q R1 st
    | cons b l =>
      cases l with
      | nil =>
        obtain ⟨hi, rfl, h3⟩ := intK.use h2
        obtain ⟨v, v2, rfl, q, q2⟩ := ru.two; exact rk_2 h3.1.1.1 h3.1.1.2 h3.1.2.1 h3.1.2.2 h3.2 q q2 R1 st
      | cons c l => exact False.elim h1
theorem SI.range (G : GF prog w B gl) {args : List Expr} {mas : List ME} (p pos : Pos) (hk : sc.names.lookup ("range" : Str) = some .globalImplicit) (hs : SL prog w B r T sc vs args mas) :
    SI prog w B r T sc vs (.Call (.Name "range" p) args [] pos) true mas := by
  refine ⟨fun _ _ => rfl, fun env ok n loc C k h A σ s room tk R F => ?_⟩
  obtain ⟨mg, mb, n1, n2, hgl, hb, hr1, hr2⟩ := G.top
  refine wpAny_Call_NameR (Name_function_global ok.kind ((ok.kindOf _).trans hk) (loadGlobal_builtin (mg := mg) (mb := mb) (by rw [ok.gl]; exact ns_base R n1) hr1 (by rw [ok.bl]; exact ns_base R n2) hr2 ?_) (by decide))
  refine PySem.callWith_type (hs.plain env pos) (evalArgs_all (hs.plain env pos) rfl (wp_no (hs.run env ok pos n loc C _ h A σ s room tk R F) fun us s1 h1 => wpAny_evalAll_nil ?_))
  refine h1.use fun ds C1 σ1 h1 ru R1 st => ?_
  exact rk_ok (k := k) h1 ru R1 st
end
section
open PySem PySem.W PySem.Calls PyProof.Rows PySem.SeqAt
variable {prog : Program} {w : World} {B : Heap} {r : Nat} {gl : List (Str × D)} {T : Tab} {sc : Scope} {vs : List Str}

noncomputable def relabelS (scope sc : Scope) : Scope :=
  { scope with names := scope.names.map fun (n, k) => if (k == .free && sc.kind == .function && sc.names.lookup n == some .cell) then (n, .cell) else (n, k) }

noncomputable def testsOf (ifs : List Expr) (env : Env) : Sem Bool := forIn ifs true fun c r => if r = true then do let ok ← isTrue c env (eval c env); pure (ForInStep.yield ok) else pure (ForInStep.yield r)
noncomputable def SIf (prog : Program) (w : World) (B : Heap) (r : Nat) (T : Tab) (sc : Scope) (vs : List Str) (ifs : List Expr) (mifs : List ME) : Prop :=
  ∀ env, EnvOk sc vs env → ∀ n loc C k, TE T n (.and mifs) loc C k → ∀ A σ s, Room r A → Tk σ s → Rep B σ s.heap C → Frm B env vs σ s.heap loc →
    wpAny (model prog w) A (testsOf ifs env) (PostB B σ s k) No s
theorem SIf.nil : SIf prog w B r T sc vs [] [] :=
  fun env ok n loc C k => Ex.z (P := fun n => TE T n (.and []) loc C k) (fun q => q) (fun n h A σ s room tk R F => wpAny_tests_nil ⟨C, σ, h, R, .refl tk⟩) n
theorem SIf.one {c : Expr} {mc : ME} (hc : ST prog w B r T sc vs c mc) : SIf prog w B r T sc vs [c] [mc] := by
  refine fun env ok n loc C k => Ex.z (P := fun n => TE T n (.and [mc]) loc C k) (fun q => q) (fun n h A σ s room tk R F => ?_) n
  refine wpAny_tests_one (wp_no (hc env ok n loc C _ h A σ s room tk R F) fun b s1 h1 => h1.use fun C1 σ1 h1 R1 st => ?_)
  refine ⟨C1, σ1, ?_, R1, st⟩
  cases b with
  | false => exact h1
  | true =>
    cases n with
    | zero => exact False.elim h1
    | succ n => exact h1

theorem closure_loop {env : Env} : ∀ (names : List (Str × NameKind)) (acc : List (Str × Addr)), (∀ y ∈ names, y.2 = .free → ∃ c, env.cells.lookup y.1 = some c) →
    ∃ cl, (forIn names acc (fun (x : Str × NameKind) (r : List (Str × Addr)) => (if (x.2 == .free) = true then do let a ← cellOf env x.1; pure (ForInStep.yield ((x.1, a) :: r)) else pure (ForInStep.yield r) : Sem (ForInStep (List (Str × Addr))))) : Sem (List (Str × Addr))) = pure cl ∧
      ∀ y c, (cl.lookup y = some c → acc.lookup y = some c ∨ env.cells.lookup y = some c) ∧ (((y, NameKind.free) ∈ names ∨ acc.lookup y = env.cells.lookup y) → (∀ z, acc.lookup y = some z → env.cells.lookup y = some z) → cl.lookup y = env.cells.lookup y)
  | [], acc, _ => ⟨acc, rfl, fun y c => ⟨.inl, fun h _ => by
      rcases h with h | h
      · simp at h
      · exact h⟩⟩
  | (n, kd) :: names, acc, h => by
    by_cases hf : kd = .free
    · subst hf
      obtain ⟨c0, hc0⟩ := h (n, .free) (by simp) rfl
      obtain ⟨cl, e, q⟩ := closure_loop names ((n, c0) :: acc) fun y hy => h y (List.mem_cons_of_mem _ hy)
      refine ⟨cl, ?_, fun y c => ⟨fun hl => ?_, fun hm ha => ?_⟩⟩
      · rw [List.forIn_cons]
        have : cellOf env n = pure c0 := by unfold cellOf; rw [hc0]
        simp only [beq_self_eq_true, if_true, this, pure_bind]
        exact e
      · rcases (q y c).1 hl with h1 | h1
        · rw [List.lookup_cons] at h1
          by_cases hy : y = n
          · subst hy; simp at h1; subst h1; exact .inr hc0
          · have : (y == n) = false := by simpa using hy
            rw [this] at h1; exact .inl h1
        · exact .inr h1
      · by_cases hy : y = n
        · subst hy
          refine (q y c).2 (.inr (by simp [hc0])) fun z hz => ?_
          simp at hz; subst hz; exact hc0
        · have hb : (y == n) = false := by simpa using hy
          refine (q y c).2 ?_ fun z hz => ha z (by rw [List.lookup_cons, hb] at hz; exact hz)
          rcases hm with hm | hm
          · rcases List.mem_cons.mp hm with h1 | h1
            · cases h1; exact absurd rfl hy
            · exact .inl h1
          · exact .inr (by rw [List.lookup_cons, hb]; exact hm)
    · obtain ⟨cl, e, q⟩ := closure_loop names acc fun y hy => h y (List.mem_cons_of_mem _ hy)
      refine ⟨cl, ?_, fun y c => ⟨(q y c).1, fun hm ha => (q y c).2 ?_ ha⟩⟩
      · rw [List.forIn_cons]
        have : (kd == NameKind.free) = false := by simpa using hf
        simp only [this, Bool.false_eq_true, if_false, pure_bind]
        exact e
      · rcases hm with hm | hm
        · rcases List.mem_cons.mp hm with h1 | h1
          · cases h1; exact absurd rfl hf
          · exact .inl h1
        · exact .inr hm

theorem closure_ok {env : Env} {scope : Scope} (h : ∀ y ∈ scope.names, y.2 = .free → ∃ c, env.cells.lookup y.1 = some c) :
    ∃ cl, closureFor scope env = pure cl ∧ (∀ y c, cl.lookup y = some c → env.cells.lookup y = some c) ∧ ∀ y, (y, NameKind.free) ∈ scope.names → cl.lookup y = env.cells.lookup y := by
  obtain ⟨cl, e, q⟩ := closure_loop (env := env) scope.names [] h
  refine ⟨cl, ?_, fun y c hl => ?_, fun y hy => (q y 0).2 (.inl hy) (fun z hz => by simp at hz)⟩
  · unfold closureFor
    rw [← bind_pure (forIn scope.names [] _)] at e
    exact e
  · rcases (q y c).1 hl with h1 | h1
    · simp at h1
    · exact h1

theorem Step.at {own : List Addr} {σ σ' : Gh} {s s' : Shared} (st : Step own σ s σ' s') {i : Nat} {a : Addr} (h : σ.ad[i]? = some a) : σ'.ad[i]? = some a := by
  obtain ⟨t, e⟩ := st.pre.ad
  rw [← e, List.getElem?_append_left (List.getElem?_eq_some_iff.mp h).1]; exact h
/-- what a comprehension's parts must be -/
structure CompOk (prog : Program) (w : World) (B : Heap) (r : Nat) (T : Tab) (sc : Scope) (vs : List Str) (elt iter : Expr) (x : Str) (ifs : List Expr) (scope : Scope) (melt : ME) (fv : List Nat) (fvn : List Str) (rng : Bool) (src mifs : List ME) : Prop where
  si : SI prog w B r T sc vs iter rng src
  selt : SE prog w B r T (relabelS scope sc) (x :: fvn) elt melt
  sifs : SIf prog w B r T (relabelS scope sc) (x :: fvn) ifs mifs
  kind : scope.kind = .function
  isx : scope.names.lookup x = some .local
  nocell : ∀ y ∈ scope.names, y.2 ≠ .cell
  names : ∀ y ∈ scope.names, y.2 = .local → scope.names.lookup y.1 = some .local
  sfv : All2 (fun (i : Nat) (y : Str) => vs[i]? = some y ∧ sc.names.lookup y = some .cell ∧ (y, NameKind.free) ∈ scope.names ∧ (relabelS scope sc).names.lookup y = some .cell) fv fvn
  free : ∀ y ∈ scope.names, y.2 = .free → y.1 ∈ fvn
  nodup : (x :: fvn).Nodup

theorem All2.ofIdx {α β : Type} {R : α → β → Prop} {as : List α} {bs : List β} (h : All2 R as bs) {b : β} (hb : b ∈ bs) : ∃ a, R a b := by
  obtain ⟨i, hi, rfl⟩ := List.mem_iff_getElem.mp hb
  obtain ⟨a, _, r⟩ := h.get (List.getElem?_eq_getElem hi)
  exact ⟨a, r⟩

theorem pyIter_self {A : Around} {σ : Gh} {s : Shared} {it : Addr} {src : Src} {i : Nat} {Q : Value → Shared → Prop} {E : Value → Shared → Prop} (I : ItAt σ s.heap it src i) (h : Q (.ref it) s) : wpAny (model prog w) A (pyIter (.ref it)) Q E s := by
  induction I with
  | lst _ q => exact wpAny_pyIter_listiter q h
  | tup _ _ q => exact wpAny_pyIter_tupleiter q h
  | rng q _ _ => exact wpAny_pyIter_rangeiter q h

/-- what a comprehension's turns lean on -/
structure CompCtx (prog : Program) (w : World) (B : Heap) (r : Nat) (T : Tab) (sc' : Scope) (vs' : List Str) (x : Str) (env' : Env) (elt : Expr) (ifs : List Expr) (melt : ME) (mifs : List ME) (fvs : Loc) (σ : Gh) (s : Shared) (C0 I : Addr) : Prop where
  ok : EnvOk sc' vs' env'
  lo : env'.locals = C0
  kx : env'.kindOf x = some .local
  frm : ∀ (σ' : Gh) (s' : Shared) (m : Str → Option Value) (v : Value) (d : D), Step [] σ s σ' s' → s'.heap.Ns C0 m → m x = some v → RepV B σ' s'.heap v d → Frm B env' vs' σ' s'.heap (some d :: fvs)
  selt : SE prog w B r T sc' vs' elt melt
  sifs : SIf prog w B r T sc' vs' ifs mifs
  newI : s.heap.get? I = none
  newC : s.heap.get? C0 = none
  newB : B.get? C0 = none
  base : ∀ b o, B.get? b = some o → s.heap.get? b = some o
/-- what holds ahead of a turn -/
structure CompIn (B : Heap) (sr : Src) (j : Nat) (acc I C0 : Addr) (σ : Gh) (s s' : Shared) (i : Nat) (C' : Cs) (σ' : Gh) (m : Str → Option Value) : Prop where
  it : ItAt σ' s'.heap I sr i
  rep : Rep B σ' s'.heap C'
  st : Step [] σ s σ' s'
  ns : s'.heap.Ns C0 m
  acc : σ'.ad[j]? = some acc
noncomputable def CompInv (B : Heap) (T : Tab) (q : Nat) (melt : ME) (mifs : List ME) (fvs : Loc) (sr : Src) (j : Nat) (k : KE) (acc I C0 : Addr) (σ : Gh) (s : Shared) (n : Nat) (s' : Shared) : Prop :=
  ∃ i C' σ' m, compL (EF T q) melt mifs fvs sr j k n i C' ∧ CompIn B sr j acc I C0 σ s s' i C' σ' m
theorem CompIn.step {sr : Src} {j : Nat} {acc I C0 : Addr} {σ σ' σ7 : Gh} {s s' s7 : Shared} {i : Nat} {C' C7 : Cs} {m : Str → Option Value} (h : CompIn B sr j acc I C0 σ s s' i C' σ' m) (R7 : Rep B σ7 s7.heap C7) (st7 : Step [] σ' s' σ7 s7) : CompIn B sr j acc I C0 σ s s7 i C7 σ7 m :=
  ⟨h.it.step st7 (fun h => nomatch h), R7, h.st.trans st7, st7.ext.ns h.ns, st7.at h.acc⟩
section
variable {sc' : Scope} {vs' : List Str} {x : Str} {env' : Env} {elt : Expr} {ifs : List Expr} {melt : ME} {mifs : List ME} {fvs : Loc} {σ : Gh} {s : Shared} {C0 I acc : Addr} {j : Nat} {sr : Src} {k : KE} {A : Around} {E' : Value → Shared → Prop}
  {i n q : Nat} {C' : Cs} {σ' : Gh} {s' : Shared} {m : Str → Option Value} {v : Value} {d : D}
theorem comp_elt (c : CompCtx prog w B r T sc' vs' x env' elt ifs melt mifs fvs σ s C0 I) (room : Room r A) (h : CompIn B sr j acc I C0 σ s s' i C' σ' m) (hm : m x = some v) (rv : RepV B σ' s'.heap v d)
    (hk : E T q melt (some d :: fvs) C' fun e C => methOp .append (.lst j) [e] C fun _ C => compL (EF T q) melt mifs fvs sr j k n i C) :
    wpAny (model prog w) A (eval elt env') (fun y s4 => wpAny (model prog w) A (call (.builtin "list.append") [.ref acc, y]) (fun _ s5 => ∃ m, m < n + 1 ∧ CompInv B T q melt mifs fvs sr j k acc I C0 σ s m s5) E' s4) E' s' := by
  refine wp_no (c.selt _ c.ok q _ C' _ hk A σ' _ room h.st.tk h.rep (c.frm σ' _ m v d h.st h.ns hm rv)) fun y s8 h8 => ?_
  refine h8.use fun e8 C8 σ8 h8 ry R8 st8 => ?_
  have H8 := h.step R8 st8
  refine wp_no (meth_ok h8 A σ8 s8 (.ref acc) [y] st8.tk R8 (.lst H8.acc) (.cons ry .nil)) fun _ s9 h9 => ?_
  exact h9.use fun _ C9 σ9 h9 _ R9 st9 => ⟨n, Nat.lt_succ_self _, i, C9, σ9, m, h9, H8.step R9 st9⟩
theorem comp_test (c : CompCtx prog w B r T sc' vs' x env' elt ifs melt mifs fvs σ s C0 I) (room : Room r A) (h : CompIn B sr j acc I C0 σ s s' i C' σ' m) (hm : m x = some v) (rv : RepV B σ' s'.heap v d)
    (hk : TE T q (.and mifs) (some d :: fvs) C' fun b C => br b (E T q melt (some d :: fvs) C fun e C => methOp .append (.lst j) [e] C fun _ C => compL (EF T q) melt mifs fvs sr j k n i C) (compL (EF T q) melt mifs fvs sr j k n i C)) :
    wpAny (model prog w) A (testsOf ifs env') (fun ok s3 => if ok = true then wpAny (model prog w) A (eval elt env') (fun y s4 => wpAny (model prog w) A (call (.builtin "list.append") [.ref acc, y]) (fun _ s5 => ∃ m, m < n + 1 ∧ CompInv B T q melt mifs fvs sr j k acc I C0 σ s m s5) E' s4) E' s3
      else ∃ m, m < n + 1 ∧ CompInv B T q melt mifs fvs sr j k acc I C0 σ s m s3) E' s' := by
  refine wp_no (c.sifs _ c.ok q _ C' _ hk A σ' _ room h.st.tk h.rep (c.frm σ' _ m v d h.st h.ns hm rv)) fun b s7 h7 => ?_
  refine h7.use fun C7 σ7 h7 R7 st7 => ?_
  cases b with
  | false => exact ⟨n, Nat.lt_succ_self _, i, C7, σ7, m, h7, h.step R7 st7⟩
  | true => exact comp_elt c room (h.step R7 st7) hm (rv.step st7) h7
theorem comp_store (c : CompCtx prog w B r T sc' vs' x env' elt ifs melt mifs fvs σ s C0 I) {px : Pos} {Q : Unit → Shared → Prop} (hn : I ≠ C0) (h : CompIn B sr j acc I C0 σ s s' i C' σ' m) (rv : RepV B σ' s'.heap v d)
    (hQ : ∀ s6 m6, CompIn B sr j acc I C0 σ s s6 i C' σ' m6 → m6 x = some v → RepV B σ' s6.heap v d → Q () s6) : wpAny (model prog w) A (assign (.Name x px) env' v) Q E' s' := by
  obtain ⟨hI, hR, hst, hns, hac⟩ := h
  rw [← c.lo] at hns
  refine wpAny_assign_Name (wpAny_storeName_local c.kx hns (fun h6 hn6 sb6 => ?_) (by rw [show env'.scope.kind = .function from c.ok.kind]; rfl))
  rw [c.lo] at hns hn6 sb6
  have tu6 := tup_but sb6.extBut (ns_no_tuple hns)
  exact hQ _ _ ⟨hI.mono (fun o q => sb6.extBut _ o hn q) tu6 (.refl _), hR.extBut sb6.extBut c.newB (ns_no_list hns) (ns_no_tuple hns), hst.but c.newC sb6.extBut (Nat.le_succ _), hn6, hac⟩ (if_pos rfl) (rv.mono tu6 (.refl _))
theorem comp_turn (c : CompCtx prog w B r T sc' vs' x env' elt ifs melt mifs fvs σ s C0 I) {px : Pos} {Rn : Shared → Prop} (room : Room r A) (hR : ∀ s5 m, Post B σ s k (.ref acc) s5 → s5.heap.Ns C0 m → Rn s5) (h : CompInv B T q melt mifs fvs sr j k acc I C0 σ s n s') :
    wpAny (model prog w) A (pyNext (.ref I)) (fun rv s1 => match rv with
      | none => Rn s1
      | some v => wpAny (model prog w) A (assign (.Name x px) env' v) (fun _ s2 => wpAny (model prog w) A (testsOf ifs env') (fun ok s3 => if ok = true then wpAny (model prog w) A (eval elt env') (fun y s4 => wpAny (model prog w) A (call (.builtin "list.append") [.ref acc, y]) (fun _ s5 => ∃ m, m < n ∧ CompInv B T q melt mifs fvs sr j k acc I C0 σ s m s5) E' s4) E' s3
        else ∃ m, m < n ∧ CompInv B T q melt mifs fvs sr j k acc I C0 σ s m s3) E' s2) E' s1) E' s' := by
  obtain ⟨i, C', σ', m, hL, h⟩ := h
  cases n with
  | zero => exact False.elim hL
  | succ n =>
    obtain ⟨ob, us, ho, hd⟩ := h.it.obj
    have nI : I ≠ C0 := by rintro e; have hn' := h.ns; rw [← e] at hn'; exact fields_no_ns ho hd hn'
    have hB : B.get? I = none := by
      cases q : B.get? I with
      | none => rfl
      | some o => have := c.base _ _ q; rw [c.newI] at this; cases this
    have go : ∀ h5 tk5, Heap.ExtBut I s'.heap h5 → s'.toks ≤ tk5 → Rep B σ' h5 C' ∧ Step [] σ s σ' { s' with heap := h5, toks := tk5 } ∧ h5.Ns C0 m := fun h5 tk5 eb le =>
      ⟨h.rep.extBut eb hB (fields_no_list ho hd) (fields_no_tuple ho hd), h.st.but c.newI eb le, h.ns.extBut eb (Ne.symm nI)⟩
    refine optK.el hL fun o ei hL => ?_
    cases o with
    | some d =>
      refine wp_no (next_ok room.hd h.rep h.it ei) fun rv s5 h5 => ?_
      obtain ⟨h5', tk5, rfl, le5, eb, q5⟩ := h5
      cases rv with
      | none => exact q5.elim
      | some v =>
        obtain ⟨R5, st5, ns5⟩ := go _ tk5 eb le5
        exact comp_store (s' := { s' with heap := h5', toks := tk5 }) c nI ⟨q5.2, R5, st5, ns5, h.acc⟩ q5.1 fun s6 m6 H6 hm6 rv6 => comp_test c room H6 hm6 rv6 hL
    | none =>
      refine wp_no (next_ok room.hd h.rep h.it ei) fun rv s5 h5 => ?_
      obtain ⟨h5', tk5, rfl, le5, eb, q5⟩ := h5
      cases rv with
      | some v => exact q5.elim
      | none =>
        obtain ⟨R5, st5, ns5⟩ := go _ tk5 eb le5
        exact hR _ m ⟨.lst j, C', σ', hL, .lst h.acc, R5, st5⟩ ns5
end
theorem comp_frm {elt iter : Expr} {x : Str} {ifs : List Expr} {scope : Scope} {melt : ME} {fv : List Nat} {fvn : List Str} {rng : Bool} {src mifs : List ME} (K : CompOk prog w B r T sc vs elt iter x ifs scope melt fv fvn rng src mifs) {env : Env} (ok : EnvOk sc vs env) {cl : List (Str × Addr)} {C0 : Addr}
    (ok' : EnvOk (relabelS scope sc) (x :: fvn) (compEnvC scope cl C0 env)) (kx : (compEnvC scope cl C0 env).kindOf x = some .local) (hcl2 : ∀ y, (y, NameKind.free) ∈ scope.names → cl.lookup y = env.cells.lookup y) (hBC : B.get? C0 = none) {loc : Loc}
    {σ' : Gh} {s' : Shared} {m : Str → Option Value} {v : Value} {d : D} (F' : Frm B env vs σ' s'.heap loc) (hn : s'.heap.Ns C0 m) (hm : m x = some v) (rv : RepV B σ' s'.heap v d) : Frm B (compEnvC scope cl C0 env) (x :: fvn) σ' s'.heap (some d :: fv.map fun i => (loc[i]?).getD none) := by
  refine ⟨⟨m, hn, fun i y d' h1 h2 h3 => ?_⟩, hBC, fun i y h1 h2 => ?_, congrArg (· + 1) ((List.length_map ..).trans K.sfv.length)⟩
  · cases i with
    | zero => cases h1; cases h3; exact ⟨v, hm, rv⟩
    | succ i =>
      obtain ⟨j, hj, q1, q2, q3, q4⟩ := K.sfv.get (b := y) (i := i) h1
      rw [ok'.kindOf, q4] at h2; cases h2
  · cases i with
    | zero => cases h1; rw [kx] at h2; cases h2
    | succ i =>
      obtain ⟨j, hj, q1, q2, q3, q4⟩ := K.sfv.get (b := y) (i := i) h1
      obtain ⟨c, o, h3, h4, h5, h6⟩ := F'.cl j y q1 ((ok.kindOf y).trans q2)
      refine ⟨c, o, (hcl2 y q3).trans h3, h4, h5, fun d' h7 => h6 d' ?_⟩
      have h7 : (fv.map fun i => (loc[i]?).getD none)[i]? = some (some d') := h7
      rw [List.getElem?_map, hj] at h7
      have h7 : (loc[j]?).getD none = some d' := Option.some.inj h7
      cases hl : loc[j]? with
      | none => rw [hl] at h7; cases h7
      | some o => rw [hl] at h7; exact congrArg some h7

/-- the run of a comprehension -/
theorem comp_run {elt iter : Expr} {x : Str} {px : Pos} {ifs : List Expr} {scope : Scope} {pos pos' : Pos} {melt : ME} {fv : List Nat} {fvn : List Str} {rng : Bool} {src mifs : List ME} {use : Option (Value → Sem Unit)} {Q : Value → Shared → Prop} {E' : Value → Shared → Prop}
    (K : CompOk prog w B r T sc vs elt iter x ifs scope melt fv fvn rng src mifs) {env : Env} (ok : EnvOk sc vs env) {n : Nat} {loc : Loc} {C : Cs} {k : KE} (h : E T (n + 1) (.comp melt fv rng src mifs) loc C k) {A : Around} {σ : Gh} {s : Shared} (room : Room r A) (tk : Tk σ s) (R : Rep B σ s.heap C) (F : Frm B env vs σ s.heap loc)
    (hQ : ∀ (acc C0 : Addr) (s' : Shared) (m : Str → Option Value), Post B σ s k (.ref acc) s' → s'.heap.Ns C0 m → s.heap.get? C0 = none → B.get? C0 = none → compPost (model prog w) A E' use Q (.ref acc) C0 (.ok .next) s') :
    wpAny (model prog w) A (comprehension (.ListComp elt [⟨.Name x px, iter, ifs, 0⟩] scope pos) scope env pos' (newList []) false (eval iter env) use) Q E' s := by
  obtain ⟨cl, ecl, hcl1, hcl2⟩ := closure_ok (env := env) (scope := scope) fun y hy hf => by
    obtain ⟨i, h1, h2, _⟩ := K.sfv.ofIdx (K.free y hy hf)
    obtain ⟨c, o, h3, _⟩ := F.cl i y.1 h1 ((ok.kindOf _).trans h2)
    exact ⟨c, h3⟩
  refine wpAny_comprehension_free rfl (K.si.fold env) ecl K.kind K.names (wp_no (K.si.run env ok n loc C _ h A σ s room tk R F) fun xv s1 h1 => wp_no h1 fun it s2 h2 => ?_)
  obtain ⟨I, sr, C2, σ2, rfl, ⟨N, h2⟩, I2, hI0, R2, st2⟩ := h2
  refine wpAny_newObj_type (wpAny_newFunctionEnv K.nocell (by intro y hy; simp at hy) (fun h4 hns hsb => ?_) K.kind)
  -- the new list, the new frame
  have hsz : (s2.heap.push { cls := .type "list", data := .seq ([] : List Value).toArray }).objs.size = s2.heap.objs.size + 1 := Heap.size_push ..
  have g4 : ∀ b o, s2.heap.get? b = some o → h4.get? b = some o := fun b o q => hsb.extBut b o (by rintro rfl; have := Heap.lt_size q; rw [hsz] at this; exact Nat.lt_irrefl _ (Nat.lt_of_succ_lt this)) (Heap.get?_push_of_some _ (Heap.get?_push_of_some _ q))
  have p4 : h4.PlainList s2.heap.objs.size ([] : List Value).toArray := ⟨_, hsb.extBut _ _ (by rw [hsz]; exact Nat.ne_of_lt (Nat.lt_succ_self _)) (Heap.get?_push_of_some _ (Heap.get?_push_size _ rfl))⟩
  have R4 : Rep B (σ2.addL s2.heap.objs.size) h4 (C2 ++ [[]]) := R2.alloc (get?_size _) g4 (vs := []) p4 .nil
  have hC0 : s2.heap.get? (s2.heap.push { cls := .type "list", data := .seq ([] : List Value).toArray }).objs.size = none := above_none _ _ (by rw [hsz]; exact Nat.le_succ _)
  have hBC := (R2.freshAt hC0).1
  have st4 : Step [] σ2 s2 (σ2.addL s2.heap.objs.size) { s2 with heap := h4 } := ⟨.addL _ _, .grow g4, ⟨rfl, rfl, rfl⟩, Tk.up (g := σ2.addL s2.heap.objs.size) (s := s2) ⟨st2.tk.pos, st2.tk.lt⟩ (Nat.le_refl _)⟩
  have hacc : (σ2.addL s2.heap.objs.size).ad[C2.length]? = some s2.heap.objs.size := by
    show (σ2.ad ++ [s2.heap.objs.size])[C2.length]? = _
    rw [← R2.len]; exact List.getElem?_concat_length ..
  generalize (s2.heap.push { cls := .type "list", data := .seq ([] : List Value).toArray }).objs.size = C0 at hns hC0 hBC ⊢
  generalize s2.heap.objs.size = acc at hns R4 st4 hacc ⊢
  have ok' : EnvOk (relabelS scope sc) (x :: fvn) (compEnvC scope cl C0 env) := by
    refine ⟨?_, K.kind, ok.gl, ok.bl, K.nodup, fun a b c h1 h2 => ok.inj a b c (hcl1 _ _ h1) (hcl1 _ _ h2)⟩
    show relabel scope env = relabelS scope sc
    unfold relabel relabelS
    simp only [ok.sc, ok.kindOf]
  have kx : (compEnvC scope cl C0 env).kindOf x = some .local := lookup_relabel_local K.isx
  have c : CompCtx prog w B r T (relabelS scope sc) (x :: fvn) x (compEnvC scope cl C0 env) elt ifs melt mifs (fv.map fun i => (loc[i]?).getD none) σ s C0 I :=
    ⟨ok', rfl, kx, fun σ' s' m v d st hn hm rv => comp_frm K ok ok' kx hcl2 hBC (F.step st) hn hm rv, K.selt, K.sifs, hI0, st2.none hC0, hBC, R.base⟩
  have loop : codeAny (model prog w) A (.compLoop (.ListComp elt [⟨.Name x px, iter, ifs, 0⟩] scope pos) 0 (.ref I) (.ref acc) (compEnvC scope cl C0 env)) (compPost (model prog w) A E' use Q (.ref acc) C0) { s2 with heap := h4 } :=
    codeAny_compLoop_tests (CompInv B T n melt mifs (fv.map fun i => (loc[i]?).getD none) sr C2.length k acc I C0 σ s) (fun n' s' h' => comp_turn c room (fun s5 m p hn => hQ acc C0 s5 m p hn c.newC hBC) h') N
      ⟨0, C2 ++ [[]], _, _, h2, I2.step st4 (fun h => nomatch h), R4, st2.trans st4, hns, hacc⟩
  exact codeAny_compStart_list loop (pyIter_self (I2.step st4 (fun h => nomatch h)) loop)

theorem SE.comp {elt iter : Expr} {x : Str} {px : Pos} {ifs : List Expr} {scope : Scope} {melt : ME} {fv : List Nat} {fvn : List Str} {rng : Bool} {src mifs : List ME} (pos : Pos)
    (K : CompOk prog w B r T sc vs elt iter x ifs scope melt fv fvn rng src mifs) : SE prog w B r T sc vs (.ListComp elt [⟨.Name x px, iter, ifs, 0⟩] scope pos) (.comp melt fv rng src mifs) := by
  refine SE.of fun env ok n loc C k h A σ s room tk R F => ?_
  rw [eval_ListComp]
  refine comp_run K ok h room tk R F fun acc C0 s' m p hn h0 hB => ⟨m, hn, fun h' sb => ?_⟩
  exact p.use fun d C' σ' hk rv R' st => ⟨d, C', σ', hk, rv.mono (tup_but sb.extBut (ns_no_tuple hn)) (.refl _), R'.extBut sb.extBut hB (ns_no_list hn) (ns_no_tuple hn), st.but h0 sb.extBut (Nat.le_refl _)⟩
end
section
open PySem PySem.W PySem.Calls PyProof.Rows PySem.SeqAt
variable {prog : Program} {w : World} {B : Heap} {r : Nat} {gl : List (Str × D)} {T : Tab} {sc : Scope} {vs : List Str}

/-- what the frame itself may write -/
noncomputable def ownOf (env : Env) (vs : List Str) : List Addr := env.locals :: (vs.filter fun x => env.kindOf x == some .cell).filterMap fun x => env.cells.lookup x

inductive FlowR (B : Heap) (σ : Gh) (h : Heap) : Flow → Out → Prop where
  | next : FlowR B σ h .next .next
  | ret {v d} : RepV B σ h v d → FlowR B σ h (.ret v) (.ret d)

noncomputable def PostX (B : Heap) (env : Env) (vs : List Str) (σ : Gh) (s : Shared) (k : KX) (f : Flow) (s' : Shared) : Prop :=
  ∃ o loc' C' σ', k o loc' C' ∧ FlowR B σ' s'.heap f o ∧ Rep B σ' s'.heap C' ∧ Frm B env vs σ' s'.heap loc' ∧ Step (ownOf env vs) σ s σ' s'
theorem PostX.use {env σ s k f s'} {Q : Prop} (p : PostX B env vs σ s k f s') (h : ∀ o loc' C' σ', k o loc' C' → FlowR B σ' s'.heap f o → Rep B σ' s'.heap C' → Frm B env vs σ' s'.heap loc' → Step (ownOf env vs) σ s σ' s' → Q) : Q :=
  p.elim fun o p => p.elim fun l p => p.elim fun C p => p.elim fun σ' p => h o l C σ' p.1 p.2.1 p.2.2.1 p.2.2.2.1 p.2.2.2.2
theorem PostX.from {env σ s k σ' s' f s''} (st : Step (ownOf env vs) σ s σ' s') (p : PostX B env vs σ' s' k f s'') : PostX B env vs σ s k f s'' := by
  obtain ⟨d, l, C, τ, h1, h2, h3, h5, h4⟩ := p; exact ⟨d, l, C, τ, h1, h2, h3, h5, st.trans h4⟩

theorem cells_own {env : Env} {i : Nat} {x : Str} {c : Addr} (hi : vs[i]? = some x) (hk : env.kindOf x = some .cell) (h : env.cells.lookup x = some c) : c ∈ ownOf env vs := by
  refine List.mem_cons_of_mem _ (List.mem_filterMap.mpr ⟨x, List.mem_filter.mpr ⟨List.mem_of_getElem? hi, ?_⟩, h⟩)
  simp [hk]
theorem own_live {env : Env} {σ : Gh} {h : Heap} {loc : Loc} (F : Frm B env vs σ h loc) {a : Addr} (ha : a ∈ ownOf env vs) : ∃ o, h.get? a = some o := by
  rcases List.mem_cons.mp ha with e | ha
  · subst e
    obtain ⟨m, ⟨o, _, _, ho, _⟩, _⟩ := F.ns
    exact ⟨o, ho⟩
  · obtain ⟨x, hx, e⟩ := List.mem_filterMap.mp ha
    obtain ⟨hx, hk⟩ := List.mem_filter.mp hx
    obtain ⟨i, hi, rfl⟩ := List.mem_iff_getElem.mp hx
    obtain ⟨c, o, h1, ⟨ob, ho, _⟩, _⟩ := F.cl i _ (List.getElem?_eq_getElem hi) (by simpa using hk)
    rw [h1] at e; cases e
    exact ⟨ob, ho⟩
theorem own_new {env : Env} {σ : Gh} {h : Heap} {loc : Loc} (F : Frm B env vs σ h loc) {a : Addr} (ha : h.get? a = none) : a ∉ ownOf env vs := fun hm => by
  obtain ⟨o, q⟩ := own_live F hm
  rw [ha] at q; cases q
/-- the frame stands when something else changes -/
theorem Frm.but {env : Env} {σ : Gh} {h h' : Heap} {loc : Loc} {x : Addr} (F : Frm B env vs σ h loc) (e : Heap.ExtBut x h h') (ht : ∀ us, ¬ h.IsTuple x us) (hx : x ∉ ownOf env vs) : Frm B env vs σ h' loc := by
  obtain ⟨m, hm, hv⟩ := F.ns
  have tu := tup_but e ht
  refine ⟨⟨m, hm.extBut e (by rintro rfl; exact hx (List.mem_cons_self ..)), fun i y d h1 h2 h3 => ?_⟩, F.newL, fun i y h1 h2 => ?_, F.len⟩
  · obtain ⟨v, q, rv⟩ := hv i y d h1 h2 h3
    exact ⟨v, q, rv.mono tu (.refl _)⟩
  · obtain ⟨c, o, h3, h4, h5, h6⟩ := F.cl i y h1 h2
    refine ⟨c, o, h3, ?_, h5, fun d h7 => ?_⟩
    · obtain ⟨ob, ho, hd⟩ := id h4
      exact ⟨ob, e c ob (by rintro rfl; exact hx (cells_own h1 h2 h3)) ho, hd⟩
    · obtain ⟨v, q, rv⟩ := h6 d h7
      exact ⟨v, q, rv.mono tu (.refl _)⟩

theorem ns_ne_cell {h : Heap} {a c : Addr} {m : Str → Option Value} {o : Option Value} (n : h.Ns a m) (q : h.IsCell c o) : c ≠ a := by
  rintro rfl
  obtain ⟨o1, es, ep, h1, d1, _⟩ := n
  obtain ⟨o2, h2, d2⟩ := q
  rw [h1] at h2; cases h2; rw [d1] at d2; cases d2

theorem nodup_idx {l : List Str} (h : l.Nodup) {i j : Nat} {x : Str} (hi : l[i]? = some x) (hj : l[j]? = some x) : i = j := nodup_at h hi hj

/-- a name is bound -/
theorem store_ok {env : Env} (ok : EnvOk sc vs env) {σ : Gh} {s : Shared} {loc : Loc} {C : Cs} {i : Nat} {x : Str} {v : Value} {d : D} {A : Around} (tk : Tk σ s) (R : Rep B σ s.heap C) (F : Frm B env vs σ s.heap loc) (hi : vs[i]? = some x)
    (hk : sc.names.lookup x = some .local ∨ sc.names.lookup x = some .cell) (rv : RepV B σ s.heap v d) :
    wpAny (model prog w) A (storeName env x v) (fun _ s' => Rep B σ s'.heap C ∧ Frm B env vs σ s'.heap (loc.set i (some d)) ∧ Step (ownOf env vs) σ s σ s') No s := by
  obtain ⟨m, hm, hv⟩ := F.ns
  have hil : i < loc.length := by rw [F.len]; exact (List.getElem?_eq_some_iff.mp hi).1
  rcases hk with hk | hk
  · refine wpAny_storeName_local (by rw [ok.kindOf, hk]) hm (fun h' hn' sb => ?_) (by simp [ok.kind])
    have nt := ns_no_tuple hm
    have tu := tup_but sb.extBut nt
    have X : Ext (ownOf env vs) s.heap h' := Ext.but sb.extBut (.inl (List.mem_cons_self ..)) nt (let ⟨o, q⟩ := ns_lt hn'; ⟨o, q⟩)
    refine ⟨R.extBut sb.extBut F.newL (ns_no_list hm) nt, ⟨⟨_, hn', fun j y d' h1 h2 h3 => ?_⟩, F.newL, fun j y h1 h2 => ?_, by simp [F.len]⟩, .refl _, X, ⟨rfl, rfl, rfl⟩, tk.up (Nat.le_succ _)⟩
    · by_cases e : y = x
      · subst e
        have := nodup_idx ok.nodup h1 hi
        subst this
        rw [List.getElem?_set_self hil] at h3
        cases h3
        exact ⟨v, by simp, rv.mono tu (.refl _)⟩
      · have hne : i ≠ j := by rintro rfl; rw [hi] at h1; cases h1; exact e rfl
        rw [List.getElem?_set_ne hne] at h3
        obtain ⟨v', q, rv'⟩ := hv j y d' h1 h2 h3
        exact ⟨v', by simp [e, q], rv'.mono tu (.refl _)⟩
    · obtain ⟨c, o, h3, h4, h5, h6⟩ := F.cl j y h1 h2
      have hne : i ≠ j := by
        rintro rfl; rw [hi] at h1; cases h1
        rw [ok.kindOf, hk] at h2; cases h2
      refine ⟨c, o, h3, ?_, h5, fun d' h7 => ?_⟩
      · obtain ⟨ob, ho, hd⟩ := id h4
        exact ⟨ob, sb.extBut c ob (ns_ne_cell hm h4) ho, hd⟩
      · rw [List.getElem?_set_ne hne] at h7
        obtain ⟨v', q, rv'⟩ := h6 d' h7
        exact ⟨v', q, rv'.mono tu (.refl _)⟩
  · obtain ⟨c, o, h3, h4, h5, h6⟩ := F.cl i x hi (by rw [ok.kindOf, hk])
    refine wpAny_storeName_cell ok.kind (by rw [ok.kindOf, hk]) h3 h4 fun h' hc' sb => ?_
    have nt := cell_no_tuple h4
    have tu := tup_but sb.extBut nt
    have X : Ext (ownOf env vs) s.heap h' := Ext.but sb.extBut (.inl (cells_own hi (by rw [ok.kindOf, hk]) h3)) nt (let ⟨o, q, _⟩ := hc'; ⟨o, q⟩)
    refine ⟨R.extBut sb.extBut h5 (cell_no_list h4) nt, ⟨⟨m, hm.extBut sb.extBut (Ne.symm (ns_ne_cell hm h4)), fun j y d' h1 h2 h7 => ?_⟩, F.newL, fun j y h1 h2 => ?_, by simp [F.len]⟩, .refl _, X, ⟨rfl, rfl, rfl⟩, tk.up (Nat.le_refl _)⟩
    · have hne : i ≠ j := by
        rintro rfl; rw [hi] at h1; cases h1
        rw [ok.kindOf, hk] at h2; cases h2
      rw [List.getElem?_set_ne hne] at h7
      obtain ⟨v', q, rv'⟩ := hv j y d' h1 h2 h7
      exact ⟨v', q, rv'.mono tu (.refl _)⟩
    · by_cases e : y = x
      · subst e
        have := nodup_idx ok.nodup h1 hi
        subst this
        refine ⟨c, some v, h3, hc', h5, fun d' h7 => ?_⟩
        rw [List.getElem?_set_self hil] at h7
        cases h7
        exact ⟨v, rfl, rv.mono tu (.refl _)⟩
      · obtain ⟨c2, o2, g3, g4, g5, g6⟩ := F.cl j y h1 h2
        have hne : i ≠ j := by rintro rfl; rw [hi] at h1; cases h1; exact e rfl
        have hcc : c2 ≠ c := by rintro rfl; exact e (ok.inj _ _ _ g3 h3)
        refine ⟨c2, o2, g3, ?_, g5, fun d' h7 => ?_⟩
        · obtain ⟨ob, ho, hd⟩ := id g4
          exact ⟨ob, sb.extBut c2 ob hcc ho, hd⟩
        · rw [List.getElem?_set_ne hne] at h7
          obtain ⟨v', q, rv'⟩ := g6 d' h7
          exact ⟨v', q, rv'.mono tu (.refl _)⟩

theorem draw_list {A : Around} {E : Value → Shared → Prop} {it l : Addr} {items : Array Value} (hne : l ≠ it) : ∀ (n i : Nat) (s : Shared) (Q : List Value → Shared → Prop), s.heap.IsListIter it l i → s.heap.IsList l items → i + n ≤ items.size →
    (∀ h', h'.IsListIter it l (i + n) → Heap.SameBut it s.heap h' → Q ((items.toList.drop i).take n) { s with heap := h' }) → wpAny (model prog w) A (draw (.ref it) n) Q E s
  | 0, i, s, Q, hit, _, _, hQ => by
    show wpAny _ _ (pure []) Q E s
    exact wpAny_pure (by simpa using hQ s.heap hit (Heap.SameBut.refl ..))
  | n + 1, i, s, Q, hit, ht, hle, hQ => by
    have hlt : i < items.size := by omega
    show wpAny _ _ (pyNext (.ref it) >>= _) Q E s
    refine wpAny_bind (wpAny_pyNext_list_item hit ht (x := items[i]) (by simp [hlt]) fun h₁ hit₁ hs₁ => ?_)
    refine wpAny_bind (wpAny_holding (draw_list hne n (i + 1) _ _ hit₁ (ht.extBut hs₁.extBut hne) (by omega) fun h₂ hit₂ hs₂ => wpAny_pure ?_))
    have hd : items.toList.drop i = items[i] :: items.toList.drop (i + 1) := by simp [List.drop_eq_getElem_cons, hlt]
    have := hQ h₂ (by rw [show i + (n + 1) = i + 1 + n by omega]; exact hit₂) (hs₁.trans hs₂)
    rw [hd, List.take_succ_cons] at this
    exact this

theorem unpackItems_list {A : Around} {E : Value → Shared → Prop} {s : Shared} {t : Addr} {items : Array Value} {Q : List Value → Shared → Prop} (hh : A.handled = none) (ht : s.heap.IsList t items)
    (hQ : ∀ h', Heap.ExtBut s.heap.objs.size s.heap h' → Q items.toList { s with heap := h' }) : wpAny (model prog w) A (unpackItems (.ref t) items.size none) Q E s := by
  have hlt : t ≠ s.heap.objs.size := by obtain ⟨o, ho, _⟩ := ht; exact Nat.ne_of_lt (Heap.lt_size ho)
  unfold unpackItems
  refine wpAny_bind ?_
  unfold notIterableAtAll
  refine wpAny_bind (wpAny_specialOf ht.typeIs slot_list_iter.lookup ?_)
  refine wpAny_pure ?_
  simp only [Bool.false_eq_true, if_false]
  refine wpAny_bind (wpAny_holding (wpAny_pyIter_list ht ?_))
  refine wpAny_bind (wpAny_holding (draw_list hlt items.size 0 _ _ ⟨_, Heap.get?_push_size _ rfl, rfl, rfl⟩ (ht.push _) (by omega) fun h₁ hit₁ hs₁ => ?_))
  have hall : List.take items.size (List.drop 0 items.toList) = items.toList := by
    rw [List.drop_zero]; exact List.take_of_length_le (by simp)
  rw [hall]
  rw [if_neg (by simp)]
  have ht₁ : h₁.IsList t items := (ht.push _).extBut hs₁.extBut hlt
  refine wpAny_bind (wpAny_holding (wpAny_pyNext_list_end hh hit₁ ht₁ (by simp) fun h₂ he₂ => ?_))
  simp only [Option.isSome_none, Bool.false_eq_true, if_false]
  exact wpAny_pure (hQ h₂ fun b o hb e => he₂ b o hb (hs₁.extBut b o hb (Heap.get?_push_of_some _ e)))

theorem unpack_ok {A : Around} {σ : Gh} {s : Shared} {C : Cs} {v : Value} {d : D} {ds : List D} (hh : A.handled = none) (R : Rep B σ s.heap C) (rv : RepV B σ s.heap v d) (e : itemsOf d C = some ds) :
    wpAny (model prog w) A (unpackItems v ds.length none) (fun us s' => ∃ h', s' = { s with heap := h' } ∧ Heap.ExtBut s.heap.objs.size s.heap h' ∧ RepVs B σ h' us ds) No s := by
  have nt : ∀ us, ¬ s.heap.IsTuple s.heap.objs.size us := fun us ⟨o, ho, _⟩ => by rw [get?_size] at ho; cases ho
  unfold itemsOf at e
  split at e
  · rename_i l
    cases e
    cases rv with | @tup _ us _ t a =>
      have : (List.map D.at l).length = us.toArray.size := by simpa using a.length.symm
      rw [this]
      refine wpAny_unpackItems_tuple hh t fun h' eb => ⟨h', rfl, eb, ?_⟩
      simp only
      clear this t
      induction a with
      | nil => exact .nil
      | cons h _ ih => exact .cons (.at h) ih
  · cases rv with | lst p =>
      obtain ⟨us, pl, ru⟩ := R.cell _ _ _ p e
      have : ds.length = us.toArray.size := by simp [ru.length]
      rw [this]
      refine unpackItems_list hh pl.isList fun h' eb => ⟨h', rfl, eb, ?_⟩
      exact ru.imp fun _ _ r => r.mono (tup_but eb nt) (.refl _)
  · cases e

/-- targets that are names of the frame -/
noncomputable def Tgts (sc : Scope) (vs : List Str) (elts : List Expr) (is : List Nat) : Prop := All2 (fun e i => ∃ x p, e = Expr.Name x p ∧ vs[i]? = some x ∧ (sc.names.lookup x = some .local ∨ sc.names.lookup x = some .cell)) elts is

theorem each_names {env : Env} : ∀ {elts : List Expr} {is : List Nat}, Tgts sc vs elts is → assignEach elts env = elts.map fun e => (false, assign e env)
  | _, _, .nil => rfl
  | _, _, .cons ⟨x, p, e, _, _⟩ t => by
    subst e
    show (false, assign (.Name x p) env) :: assignEach _ env = _
    rw [each_names t]; rfl

theorem assignMany_ok {env : Env} (ok : EnvOk sc vs env) {A : Around} {C : Cs} {σ : Gh} : ∀ {elts : List Expr} {is : List Nat} {us : List Value} {ds : List D} {s : Shared} {loc : Loc}, Tgts sc vs elts is → Tk σ s → Rep B σ s.heap C → Frm B env vs σ s.heap loc → RepVs B σ s.heap us ds → ds.length = is.length →
    wpAny (model prog w) A (assignInOrder (elts.map fun e => assign e env) us) (fun _ s' => Rep B σ s'.heap C ∧ Frm B env vs σ s'.heap (setMany loc is ds) ∧ Step (ownOf env vs) σ s σ s') No s
  | _, _, _, _, s, loc, .nil, tk, R, F, ru, hl => by
    cases ru with
    | nil => exact wpAny_pure ⟨R, F, .refl tk⟩
    | cons _ _ => simp at hl
  | _, _, _, _, s, loc, .cons ⟨x, p, e, hi, hk⟩ t, tk, R, F, ru, hl => by
    subst e
    cases ru with
    | nil => simp at hl
    | cons rv ru =>
      show wpAny _ _ (holding _ (assign (.Name x p) env _) >>= fun _ => assignInOrder _ _) _ _ s
      refine wpAny_bind (wpAny_holding (wpAny_assign_Name (wp_no (store_ok ok tk R F hi hk rv) fun _ s1 h1 => ?_)))
      obtain ⟨R1, F1, st1⟩ := h1
      refine wp_no (assignMany_ok ok t st1.tk R1 F1 (RepVs.step st1 ru) (by simpa using hl)) fun _ s2 h2 => ?_
      exact ⟨h2.1, h2.2.1, st1.trans h2.2.2⟩
end
section
open PySem PySem.W PySem.Calls PyProof.Rows PySem.SeqAt
variable {prog : Program} {w : World} {B : Heap} {r : Nat} {gl : List (Str × D)} {T : Tab} {sc : Scope} {vs : List Str}

noncomputable def WX (prog : Program) (w : World) (B : Heap) (r : Nat) (env : Env) (vs : List Str) (t : Sem Flow) (loc : Loc) (C : Cs) (k : KX) : Prop :=
  ∀ A σ s, Room r A → Tk σ s → Rep B σ s.heap C → Frm B env vs σ s.heap loc → wpAny (model prog w) A t (PostX B env vs σ s k) No s
noncomputable def SX (prog : Program) (w : World) (B : Heap) (r : Nat) (T : Tab) (sc : Scope) (vs : List Str) (st : Stmt) (ms : MS) : Prop :=
  ∀ env, EnvOk sc vs env → ∀ n loc C k, X T n ms loc C k → WX prog w B r env vs (exec st env) loc C k
noncomputable def SXs (prog : Program) (w : World) (B : Heap) (r : Nat) (T : Tab) (sc : Scope) (vs : List Str) (l : List Stmt) (ml : List MS) : Prop :=
  ∀ env, EnvOk sc vs env → ∀ n loc C k, Xs T n ml loc C k → WX prog w B r env vs (execs l env) loc C k

theorem SX.of {st : Stmt} {ms : MS} (h : ∀ env, EnvOk sc vs env → ∀ n loc C k, X T (n + 1) ms loc C k → WX prog w B r env vs (exec st env) loc C k) : SX prog w B r T sc vs st ms :=
  fun env ok n loc C k => Ex.z (P := fun n => X T n ms loc C k) (fun q => q) (fun n => h env ok n loc C k) n
theorem SXs.of {st : List Stmt} {ms : List MS} (h : ∀ env, EnvOk sc vs env → ∀ n loc C k, Xs T (n + 1) ms loc C k → WX prog w B r env vs (execs st env) loc C k) : SXs prog w B r T sc vs st ms :=
  fun env ok n loc C k => Ex.z (P := fun n => Xs T n ms loc C k) (fun q => q) (fun n => h env ok n loc C k) n
theorem SX.bad (st : Stmt) : SX prog w B r T sc vs st .bad := fun env ok n loc C k h => (X_bad h).elim
theorem SXs.nil : SXs prog w B r T sc vs [] [] := SXs.of fun env ok n loc C k h A σ s room tk R F => wpAny_execs_nil ⟨.next, loc, C, σ, h, .next, R, F, .refl tk⟩
theorem SXs.cons {st : Stmt} {l : List Stmt} {ms : MS} {ml : List MS} (h1 : SX prog w B r T sc vs st ms) (h2 : SXs prog w B r T sc vs l ml) : SXs prog w B r T sc vs (st :: l) (ms :: ml) := by
  refine SXs.of fun env ok n loc C k h A σ s room tk R F => ?_
  refine wpAny_execs_cons (wp_no (h1 env ok n loc C _ h A σ s room tk R F) fun f s1 p => ?_)
  refine p.use fun o loc1 C1 σ1 hk fr R1 F1 st1 => ?_
  revert hk
  induction fr with
  | next => exact fun hk => wp_no (h2 env ok n loc1 C1 _ hk A σ1 s1 room st1.tk R1 F1) fun f s2 p => p.from st1
  | ret rv => exact fun hk => ⟨_, loc1, C1, σ1, hk, .ret rv, R1, F1, st1⟩

noncomputable def noComp : Expr → Bool
  | .ListComp _ _ _ _ | .SetComp _ _ _ _ | .DictComp _ _ _ _ _ => false
  | _ => true
theorem swaps_no {value : Expr} (h : noComp value = true) (t : Option Expr) (line : Nat) (env : Env) : swapsWith value t line env = pure false := by
  cases value <;> first | rfl | cases h

theorem Step.own {own σ s σ' s'} (a : Step [] σ s σ' s') : Step own σ s σ' s' := a.wide

theorem SX.asg {x : Str} {p' : Pos} {value : Expr} {me : ME} {i : Nat} (pos : Pos) (hc : noComp value = true) (hi : vs[i]? = some x) (hk : sc.names.lookup x = some .local ∨ sc.names.lookup x = some .cell) (he : SE prog w B r T sc vs value me) :
    SX prog w B r T sc vs (.Assign [.Name x p'] value pos) (.asg i me) := by
  refine SX.of fun env ok n loc C k h A σ s room tk R F => ?_
  refine wpAny_Assign_Name (wp_no (he env ok n loc C _ h A σ s room tk R F) fun v s1 h1 => ?_) (swaps_no hc _ _ _)
  refine h1.use fun d C1 σ1 h1 rv R1 st => wp_no (store_ok ok st.tk R1 (F.step st) hi hk rv) fun _ s2 h2 => ?_
  exact ⟨.next, _, C1, σ1, h1, .next, h2.1, h2.2.1, st.own.trans h2.2.2⟩

theorem SX.asgComp {y : Str} {py : Pos} {elt iter : Expr} {x : Str} {px : Pos} {ifs : List Expr} {scope : Scope} {melt : ME} {fv : List Nat} {fvn : List Str} {rng : Bool} {src mifs : List ME} {i : Nat} (pos spos : Pos)
    (hsw : ∀ env, EnvOk sc vs env → swapsWith (.ListComp elt [⟨.Name x px, iter, ifs, 0⟩] scope pos) (some (.Name y py)) spos.line env = pure true) (hi : vs[i]? = some y) (hk : sc.names.lookup y = some .local ∨ sc.names.lookup y = some .cell)
    (K : CompOk prog w B r T sc vs elt iter x ifs scope melt fv fvn rng src mifs) : SX prog w B r T sc vs (.Assign [.Name y py] (.ListComp elt [⟨.Name x px, iter, ifs, 0⟩] scope pos) spos) (.asg i (.comp melt fv rng src mifs)) := by
  refine SX.of fun env ok n loc C k h A σ s room tk R F => ?_
  have h := h
  cases n with
  | zero => exact False.elim h
  | succ n =>
    rw [exec_Assign_Name_used _ _ _ _ (hsw env ok)]
    refine wpAny_bind (wpAny_standAt (wpAny_bind ?_))
    show wpAny _ A (do let _ ← comprehension (.ListComp elt [⟨.Name x px, iter, ifs, 0⟩] scope pos) scope env _ (newList []) false (eval iter env) (some (assign (.Name y py) env))) _ _ s
    refine wpAny_bind (wpAny_mono (comp_run (Q := fun _ s' => PostX B env vs σ s k .next s') (E' := No) K ok h room tk R F fun acc C0 s1 m p hn h0 hB => ?_) (fun _ s' hq => wpAny_pure (wpAny_pure hq)) fun _ _ e => e)
    show wpAny _ A (assign (.Name y py) env (.ref acc)) _ _ _
    refine p.use fun d C1 σ1 h1 rv R1 st => wpAny_assign_Name (wp_no (store_ok ok st.tk R1 (F.step st) hi hk rv) fun _ s2 h2 => ?_)
    have hno : C0 ∉ ownOf env vs := own_new F h0
    have hn2 : s2.heap.Ns C0 m := let ⟨o, es, ep, ho, hd, q⟩ := hn; ⟨o, es, ep, h2.2.2.ext.keep _ _ ho hno (seqy_dict hd), hd, q⟩
    exact ⟨m, hn2, fun h' sb => ⟨.next, _, C1, σ1, h1, .next, h2.1.extBut sb.extBut hB (ns_no_list hn2) (ns_no_tuple hn2), h2.2.1.but sb.extBut (ns_no_tuple hn2) hno, (st.own.trans h2.2.2).but h0 sb.extBut (Nat.le_refl _)⟩⟩
end
section
open PySem PySem.W PySem.Calls PyProof.Rows PySem.SeqAt
variable {prog : Program} {w : World} {B : Heap} {r : Nat} {gl : List (Str × D)} {T : Tab} {sc : Scope} {vs : List Str}

theorem SX.ret {e : Expr} {me : ME} (pos : Pos) (he : SE prog w B r T sc vs e me) : SX prog w B r T sc vs (.Return (some e) pos) (.ret (some me)) :=
  SX.of fun env ok n loc C k h A σ s room tk R F => wpAny_Return_some (wp_no (he env ok n loc C _ h A σ s room tk R F) fun v s1 h1 =>
    h1.use fun d C1 σ1 h1 rv R1 st => ⟨.ret d, loc, C1, σ1, h1, .ret rv, R1, F.step st, st.own⟩)
theorem SX.ret0 (pos : Pos) : SX prog w B r T sc vs (.Return none pos) (.ret none) :=
  SX.of fun env ok n loc C k h A σ s room tk R F => wpAny_Return_none ⟨.ret (.at .none), loc, C, σ, h, .ret (.at .none), R, F, .refl tk⟩
theorem RepA.any {fl : Tok → Option UInt64} {v : Value} {a : At} (x : RepA fl v a) : ∀ b, v ≠ .ref b := by
  induction x <;> exact fun b e => Value.noConfusion e
theorem SX.exp {e : Expr} {me : ME} (pos : Pos) (hc : noComp e = true) (he : SE prog w B r T sc vs e me) : SX prog w B r T sc vs (.Expr e pos) (.exp me) := by
  refine SX.of fun env ok n loc C k h A σ s room tk R F => ?_
  refine wpAny_Expr (wp_no (he env ok n loc C _ h A σ s room tk R F) fun v s1 h1 => ?_) (by unfold interactive; rw [ok.kind]; rfl) (swaps_no hc _ _ _)
  refine h1.use fun d C1 σ1 h1 rv R1 st => ?_
  obtain ⟨a, rfl, h1⟩ := atK.use h1
  have p : PostX B env vs σ s k .next s1 := ⟨.next, loc, C1, σ1, h1, .next, R1, F.step st, st.own⟩
  have ra := rv.a
  clear rv h1 R1 st
  revert p
  induction ra <;> exact fun p => p
theorem SX.ifs {t : Expr} {mt : ME} {a b : List Stmt} {ma mb : List MS} (pos : Pos) (ht : ST prog w B r T sc vs t mt) (ha : SXs prog w B r T sc vs a ma) (hb : SXs prog w B r T sc vs b mb) : SX prog w B r T sc vs (.If t a b pos) (.ifs mt ma mb) := by
  refine SX.of fun env ok n loc C k h A σ s room tk R F => ?_
  refine wpAny_If (wp_no (ht env ok n loc C _ h A σ s room tk R F) fun c s1 h1 => ?_)
  refine h1.use fun C1 σ1 h1 R1 st => ?_
  cases c with
  | true => exact wp_no (ha env ok n loc C1 _ h1 A σ1 s1 room st.tk R1 (F.step st)) fun f s2 p => p.from st.own
  | false => exact wp_no (hb env ok n loc C1 _ h1 A σ1 s1 room st.tk R1 (F.step st)) fun f s2 p => p.from st.own
theorem SX.try {body : List Stmt} {mb : List MS} {h0 : ExceptHandler} {hs : List ExceptHandler} (pos : Pos) (hb : SXs prog w B r T sc vs body mb) : SX prog w B r T sc vs (.Try body (h0 :: hs) [] [] pos) (.try mb) := by
  refine SX.of fun env ok n loc C k h A σ s room tk R F => ?_
  refine wpAny_Try_except (wp_no (hb env ok n loc C _ h A σ s room tk R F) fun f s1 h1 => ?_)
  refine h1.use fun o loc1 C1 σ1 hk fr R1 F1 st1 => ?_
  clear h1
  revert hk
  induction fr with
  | next => exact fun hk => wpAny_execs_nil ⟨_, loc1, C1, σ1, hk, .next, R1, F1, st1⟩
  | ret rv => exact fun hk => ⟨_, loc1, C1, σ1, hk, .ret rv, R1, F1, st1⟩

/-- what holds ahead of a turn of while -/
noncomputable def WhlInv (B : Heap) (T : Tab) (q : Nat) (env : Env) (vs : List Str) (mt : ME) (ma : List MS) (k : KX) (σ : Gh) (s : Shared) (n : Nat) (s' : Shared) : Prop :=
  ∃ loc' C' σ', whlL (EF T q) (Xs T q) mt ma k n loc' C' ∧ Rep B σ' s'.heap C' ∧ Frm B env vs σ' s'.heap loc' ∧ Step (ownOf env vs) σ s σ' s'
theorem whl_body {env : Env} (ok : EnvOk sc vs env) {A : Around} (room : Room r A) {mt : ME} {ma : List MS} {a : List Stmt} (ha : SXs prog w B r T sc vs a ma) {k : KX} {σ σ' : Gh} {s s' : Shared} {n q : Nat} {loc' : Loc} {C' : Cs} {Rn : Flow → Shared → Prop} {E' : Value → Shared → Prop}
    (h : Xs T q ma loc' C' (goK (whlL (EF T q) (Xs T q) mt ma k n) k)) (R' : Rep B σ' s'.heap C') (F' : Frm B env vs σ' s'.heap loc') (st' : Step (ownOf env vs) σ s σ' s') (hn : ∀ s2, WhlInv B T q env vs mt ma k σ s n s2 → Rn .next s2) (hr : ∀ v s2, PostX B env vs σ s k (.ret v) s2 → Rn (.ret v) s2) :
    wpAny (model prog w) A (execs a env) Rn E' s' := by
  refine wp_no (ha env ok q loc' C' _ h A σ' s' room st'.tk R' F') fun f s2 p => ?_
  refine p.use fun o loc2 C2 σ2 hk fr R2 F2 st2 => ?_
  clear p
  revert hk
  induction fr with
  | next => exact fun hk => hn _ ⟨loc2, C2, σ2, hk, R2, F2, st'.trans st2⟩
  | ret rv => exact fun hk => hr _ _ ⟨_, loc2, C2, σ2, hk, .ret rv, R2, F2, st'.trans st2⟩
theorem SX.whl {t : Expr} {mt : ME} {a : List Stmt} {ma : List MS} (pos : Pos) (ht : ST prog w B r T sc vs t mt) (ha : SXs prog w B r T sc vs a ma) : SX prog w B r T sc vs (.While t a [] pos) (.whl mt ma) := by
  refine SX.of fun env ok n loc C k h A σ s room tk R F => ?_
  obtain ⟨N, h⟩ := h
  refine wpAny_While (codeAny_whileLoop (WhlInv B T n env vs mt ma k σ s) (fun n' s' h => ?_) N ⟨loc, C, σ, h, R, F, .refl tk⟩)
  obtain ⟨loc', C', σ', hL, R', F', st'⟩ := h
  cases n' with
  | zero => exact False.elim hL
  | succ n' =>
    refine wp_no (ht env ok n loc' C' _ hL A σ' s' room st'.tk R' F') fun c s1 h1 => ?_
    refine h1.use fun C1 σ1 h1 R1 st1 => ?_
    cases c with
    | true => exact whl_body ok room ha h1 R1 (F'.step st1) (st'.trans st1.own) (fun s2 h => ⟨n', Nat.lt_succ_self _, h⟩) (fun v s2 h => h)
    | false => exact wpAny_execs_nil ⟨.next, loc', C1, σ1, h1, .next, R1, F'.step st1, st'.trans st1.own⟩

/-- a loop's target -/
inductive TgtOk (sc : Scope) (vs : List Str) : Expr → List Nat → Prop where
  | one {x p i} : vs[i]? = some x → (sc.names.lookup x = some .local ∨ sc.names.lookup x = some .cell) → TgtOk sc vs (.Name x p) [i]
  | many {elts kd p is} : Tgts sc vs elts is → (∀ i, is ≠ [i]) → TgtOk sc vs (.Tuple elts kd p) is

theorem go_ok {A : Around} {E : Value → Shared → Prop} {σ : Gh} {s : Shared} {I : Addr} {src : Src} {i : Nat} {target : Expr} {v : Value} {Q : Unit → Shared → Prop} (It : ItAt σ s.heap I src i) (h : Q () s) : wpAny (model prog w) A (letOwnedTupleGo target (.ref I) v) Q E s := by
  have key : ∀ (o : Obj) (n : String) (us : Array Value), s.heap.get? I = some o → o.cls = .type n → o.data = .fields us → ["enumerate", "zip", "dict_itemiterator", "dict_reverseitemiterator", "odict_iterator", "itertools.zip_longest", "itertools.pairwise"].contains n = false →
      wpAny (model prog w) A (letOwnedTupleGo target (.ref I) v) Q E s := by
    intro o n us ho hc hd hn
    unfold letOwnedTupleGo
    have fin : wpAny (model prog w) A (match (Value.ref I, v) with
        | (.ref r, .ref a) => do
          let o ← load r
          match o.cls, o.data with
          | .type n, .fields vs =>
            if (["enumerate", "zip", "dict_itemiterator", "dict_reverseitemiterator", "odict_iterator", "itertools.zip_longest", "itertools.pairwise"].contains n && vs[0]? == some (rawInt a)) = true then do
              rule "for.unpacks-the-owned-tuple"
              updateField r 0 .none
            else pure ()
          | _, _ => pure ()
        | _ => pure () : Sem Unit) Q E s := by
      cases v <;> first | exact wpAny_pure h | skip
      refine wpAny_bind (wpAny_load ho ?_)
      rw [hc, hd]
      dsimp only
      rw [hn, Bool.false_and]
      exact wpAny_pure h
    cases target <;> first | exact wpAny_pure h | exact fin
  clear h
  induction It with
  | lst _ q => obtain ⟨o, ho, hc, hd⟩ := q; exact key o _ _ ho hc hd (by decide)
  | tup _ _ q => obtain ⟨o, ho, hc, hd⟩ := q; exact key o _ _ ho hc hd (by decide)
  | rng q _ _ => exact key _ _ _ q rfl rfl (by decide)

theorem findIdx_none {env : Env} : ∀ {elts : List Expr}, (elts.map fun e => (false, assign e env)).findIdx? (fun x => x.1) = none
  | [] => rfl
  | _ :: l => by
    rw [List.map_cons, List.findIdx?_cons]
    simp only [Bool.false_eq_true, if_false]
    rw [findIdx_none]; rfl

/-- a row of names is bound to the items -/
theorem unpackTo_ok {env : Env} (ok : EnvOk sc vs env) {A : Around} {σ : Gh} {s : Shared} {loc : Loc} {C : Cs} {elts : List Expr} {is : List Nat} {v : Value} {d : D} {ds : List D} (room : Room r A) (tk : Tk σ s) (R : Rep B σ s.heap C) (F : Frm B env vs σ s.heap loc) (ht : Tgts sc vs elts is)
    (rv : RepV B σ s.heap v d) (e : itemsOf d C = some ds) (hl : ds.length = is.length) :
    wpAny (model prog w) A (unpack v (assignEach elts env)) (fun _ s' => Rep B σ s'.heap C ∧ Frm B env vs σ s'.heap (setMany loc is ds) ∧ Step (ownOf env vs) σ s σ s') No s := by
  unfold unpack
  rw [each_names ht, findIdx_none]
  have hn : (elts.map fun e => (false, assign e env)).length = ds.length := by
    have := All2.length ht
    simp [this, hl]
  rw [hn]
  refine wpAny_bind (wpAny_holding (wp_no (unpack_ok room.hd R rv e) fun us s1 h1 => ?_))
  obtain ⟨h', rfl, eb, ru⟩ := h1
  have nt : ∀ us, ¬ s.heap.IsTuple s.heap.objs.size us := fun us ⟨o, ho, _⟩ => by rw [get?_size] at ho; cases ho
  have nl : ∀ us, ¬ s.heap.PlainList s.heap.objs.size us := fun us ⟨o, ho⟩ => by rw [get?_size] at ho; cases ho
  have R1 : Rep B σ h' C := R.extBut eb (R.freshAt (get?_size _)).1 nl nt
  have F1 : Frm B env vs σ h' loc := F.but eb nt (own_new F (get?_size _))
  have st1 : Step (ownOf env vs) σ s σ { s with heap := h' } := (Step.refl tk).but (get?_size _) eb (Nat.le_refl _)
  have em : (elts.map fun e => (false, assign e env)).map (·.2) = elts.map fun e => assign e env := by simp
  rw [em]
  refine wp_no (assignMany_ok (s := { s with heap := h' }) ok ht st1.tk R1 F1 ru hl) fun _ s2 h2 => ?_
  exact ⟨h2.1, h2.2.1, st1.trans h2.2.2⟩

/-- behind a target's binding -/
noncomputable def PostT (B : Heap) (env : Env) (vs : List Str) (C : Cs) (σ : Gh) (s : Shared) (K : Loc → Prop) (s' : Shared) : Prop := ∃ loc', K loc' ∧ Rep B σ s'.heap C ∧ Frm B env vs σ s'.heap loc' ∧ Step (ownOf env vs) σ s σ s'
theorem many_of {is : List Nat} (hne : ∀ i, is ≠ [i]) {d : D} {C : Cs} {loc : Loc} {K : Loc → Prop} (h : bindTo is d C loc K) : bindMany is d C loc K := by
  cases is with
  | nil => exact h
  | cons i l =>
    cases l with
    | nil => exact absurd rfl (hne i)
    | cons j l => exact h
theorem bind_ok {env : Env} (ok : EnvOk sc vs env) {A : Around} {σ : Gh} {s : Shared} {loc : Loc} {C : Cs} {target : Expr} {is : List Nat} {v : Value} {d : D} {K : Loc → Prop} (room : Room r A) (tk : Tk σ s) (R : Rep B σ s.heap C) (F : Frm B env vs σ s.heap loc) (ht : TgtOk sc vs target is)
    (rv : RepV B σ s.heap v d) (h : bindTo is d C loc K) : wpAny (model prog w) A (assign target env v) (fun _ => PostT B env vs C σ s K) No s := by
  revert h
  induction ht with
  | one hi hk =>
    exact fun h => wpAny_assign_Name (wp_no (store_ok ok tk R F hi hk rv) fun _ s1 h1 => ⟨_, h, h1⟩)
  | many ht hne =>
    exact fun h => bindMany.el (many_of hne h) fun ds e hl h => by
      rw [arm_assign_Tuple]
      exact wpAny_bind (wpAny_standAt (wp_no (unpackTo_ok ok room tk R F ht rv e hl) fun _ s1 h1 => ⟨_, h, h1⟩))

theorem RepV.cut {σ : Gh} {h : Heap} {v : Value} {d : D} {m : Nat} (q : RepV B σ h v d) (c : closedD m d) : RepV B ⟨σ.ad.take m, σ.fl⟩ h v d := by
  induction q with
  | «at» a => exact .at a
  | tup a b => exact .tup a b
  | lst a => exact .lst ((List.getElem?_take_of_lt c).trans a)
  | frz a b => exact .frz a b
  | arg a b => exact .arg a b
  | fn f => exact .fn f
  | dct => exact .dct
theorem Rep.cut {σ : Gh} {h : Heap} {C : Cs} {m : Nat} (R : Rep B σ h C) (c : Closed m (C.take m)) : Rep B ⟨σ.ad.take m, σ.fl⟩ h (C.take m) := by
  refine ⟨R.base, by simp [R.len], fun k a ds h1 h2 => ?_, fun a ha => R.new a (List.mem_of_mem_take ha), R.inj.sublist (List.take_sublist _ _)⟩
  have hk : k < m := by
    have := (List.getElem?_eq_some_iff.mp h2).1
    simp at this; omega
  have h1 : (σ.ad.take m)[k]? = some a := h1
  rw [List.getElem?_take_of_lt hk] at h1
  have hm : ds ∈ C.take m := List.mem_of_getElem? h2
  rw [List.getElem?_take_of_lt hk] at h2
  obtain ⟨us, pl, ru⟩ := R.cell k a ds h1 h2
  refine ⟨us, pl, ?_⟩
  have cl := c ds hm
  clear pl h1 h2 hm
  induction ru with
  | nil => exact .nil
  | cons a b ih => exact .cons (a.cut (cl _ (by simp))) (ih fun d hd => cl d (List.mem_cons_of_mem _ hd))
theorem take_prefix {α : Type} {a b : List α} {m : Nat} (p : a <+: b) (h : a.length ≤ m) : a <+: b.take m := by
  obtain ⟨t, e⟩ := p
  refine ⟨t.take (m - a.length), ?_⟩
  rw [← e, List.take_append, List.take_of_length_le h]

theorem trim_ok {env : Env} {σ0 σ : Gh} {s : Shared} {loc loc' : Loc} {C C' : Cs} {n : Nat} (tk : Tk σ s) (R : Rep B σ s.heap C) (F : Frm B env vs σ s.heap loc) (le : σ0.Le σ) (hn : σ0.ad.length ≤ n) (h : TrimL n loc C loc' C') :
    ∃ σ', Rep B σ' s.heap C' ∧ Frm B env vs σ' s.heap loc' ∧ σ0.Le σ' ∧ Tk σ' s := by
  obtain ⟨m, h1, rfl, h2, h3, h4⟩ := h
  have rv : ∀ (σ' : Gh), (∀ v d, RepV B σ s.heap v d → (m < C.length → closedD m d) → RepV B σ' s.heap v d) → Frm B env vs σ' s.heap loc' := by
    intro σ' up
    obtain ⟨mm, hm, hv⟩ := F.ns
    refine ⟨⟨mm, hm, fun i x d q1 q2 q3 => ?_⟩, F.newL, fun i x q1 q2 => ?_, by rw [h3, F.len]⟩
    · obtain ⟨q3, q4⟩ := h4 i d q3
      obtain ⟨v, q5, q6⟩ := hv i x d q1 q2 q3
      exact ⟨v, q5, up v d q6 q4⟩
    · obtain ⟨c, o, g1, g2, g3, g4⟩ := F.cl i x q1 q2
      refine ⟨c, o, g1, g2, g3, fun d q3 => ?_⟩
      obtain ⟨q3, q4⟩ := h4 i d q3
      obtain ⟨v, q5, q6⟩ := g4 d q3
      exact ⟨v, q5, up v d q6 q4⟩
  by_cases hm : m < C.length
  · refine ⟨⟨σ.ad.take m, σ.fl⟩, R.cut (h2 hm), rv _ fun v d q c => q.cut (c hm), ⟨take_prefix le.ad (Nat.le_trans hn h1), le.fl⟩, ⟨tk.pos, tk.lt⟩⟩
  · rw [List.take_of_length_le (by omega)]
    exact ⟨σ, R, rv _ fun v d q _ => q, le, tk⟩

theorem ItAt.lower {σ σ2 : Gh} {h : Heap} {it : Addr} {src : Src} {i : Nat} (I : ItAt σ h it src i) (le : σ2.ad <+: σ.ad) (hx : ∀ x, src = .d (.lst x) → x < σ2.ad.length) : ItAt ⟨σ2.ad, σ.fl⟩ h it src i := by
  revert hx
  induction I with
  | lst p q =>
    intro hx
    obtain ⟨t, e⟩ := le
    rw [← e, List.getElem?_append_left (hx _ rfl)] at p
    exact .lst p q
  | tup p a q => exact fun _ => .tup p a q
  | rng q a b => exact fun _ => .rng q a b
theorem ItAt.top {σ : Gh} {h : Heap} {it : Addr} {src : Src} {i : Nat} (I : ItAt σ h it src i) : ∀ x, src = .d (.lst x) → x < σ.ad.length := by
  induction I with
  | lst p q => exact fun x e => by injection e with e; injection e with e; subst e; exact (List.getElem?_eq_some_iff.mp p).1
  | tup p a q => exact fun x e => by injection e with e; cases e
  | rng q a b => exact fun x e => nomatch e

/-- what holds ahead of a turn of for -/
structure ForIn (B : Heap) (env : Env) (vs : List Str) (sr : Src) (I : Addr) (σ2 : Gh) (σ : Gh) (s s' : Shared) (i : Nat) (loc' : Loc) (C' : Cs) (σ' : Gh) : Prop where
  it : ItAt ⟨σ2.ad, σ'.fl⟩ s'.heap I sr i
  le : σ2.Le σ'
  rep : Rep B σ' s'.heap C'
  frm : Frm B env vs σ' s'.heap loc'
  st : Step (ownOf env vs) σ s σ' s'
noncomputable def ForInv (B : Heap) (T : Tab) (q : Nat) (env : Env) (vs : List Str) (m0 : Nat) (is : List Nat) (sr : Src) (mb : List MS) (k : KX) (I : Addr) (σ2 : Gh) (σ : Gh) (s : Shared) (n : Nat) (s' : Shared) : Prop :=
  ∃ i loc' C' σ', forL (Xs T q) m0 is sr mb k n i loc' C' ∧ ForIn B env vs sr I σ2 σ s s' i loc' C' σ'
section
variable {env : Env} {A : Around} {is : List Nat} {sr : Src} {mb : List MS} {body : List Stmt} {target : Expr} {k : KX} {I : Addr} {m0 n q i : Nat} {σ σ2 σ' : Gh} {s s' : Shared} {loc' : Loc} {C' : Cs} {E' : Value → Shared → Prop} {v : Value} {d : D} {Rn : Flow → Shared → Prop}
theorem for_body (ok : EnvOk sc vs env) (room : Room r A) (hb : SXs prog w B r T sc vs body mb) (hm : σ2.ad.length ≤ m0) (hIo : I ∉ ownOf env vs) (hp : σ.Le σ2) (hx : ∀ x, sr = .d (.lst x) → x < σ2.ad.length) (I6 : ItAt σ' s'.heap I sr i) (le2 : σ2.Le σ') (R6 : Rep B σ' s'.heap C') (F6 : Frm B env vs σ' s'.heap loc') (st6 : Step (ownOf env vs) σ s σ' s')
    (h6 : Xs T q mb loc' C' (goK (fun loc C => ∃ loc' C', TrimL m0 loc C loc' C' ∧ forL (Xs T q) m0 is sr mb k n i loc' C') k))
    (hn : ∀ s7, ForInv B T q env vs m0 is sr mb k I σ2 σ s n s7 → Rn .next s7) (hr : ∀ v s7, PostX B env vs σ s k (.ret v) s7 → Rn (.ret v) s7) : wpAny (model prog w) A (execs body env) Rn E' s' := by
  refine wp_no (hb env ok q loc' C' _ h6 A σ' s' room st6.tk R6 F6) fun f s7 p => ?_
  refine p.use fun o loc7 C7 σ7 hk fr R7 F7 st7 => ?_
  clear p h6
  revert hk
  induction fr with
  | next =>
    intro hk
    obtain ⟨loc8, C8, htr, hk⟩ := hk
    have le7 : σ2.Le σ7 := le2.trans st7.pre
    obtain ⟨σ8, R8, F8, le8, tk8⟩ := trim_ok (σ0 := ⟨σ2.ad, σ7.fl⟩) st7.tk R7 F7 ⟨le7.ad, fun _ _ q => q⟩ hm htr
    have le28 : σ2.Le σ8 := ⟨le8.ad, fun t x q => le8.fl t x (le7.fl t x q)⟩
    exact hn _ ⟨i, loc8, C8, σ8, hk, ((I6.step st7 hIo).lower le7.ad hx).mono (fun _ q => q) (fun _ _ q => q) ⟨List.prefix_refl _, le8.fl⟩, le28, R8, F8, ⟨hp.trans le28, (st6.trans st7).ext, (st6.trans st7).same, tk8⟩⟩
  | ret rv => exact fun hk => hr _ _ ⟨_, loc7, C7, σ7, hk, .ret rv, R7, F7, st6.trans st7⟩
theorem for_bind (ok : EnvOk sc vs env) (room : Room r A) (ht : TgtOk sc vs target is) (hIo : I ∉ ownOf env vs) (I5 : ItAt σ' s'.heap I sr i) (R5 : Rep B σ' s'.heap C') (F5 : Frm B env vs σ' s'.heap loc') (st5 : Step (ownOf env vs) σ s σ' s') (rv : RepV B σ' s'.heap v d) {K : Loc → Prop} (h : bindTo is d C' loc' K) {Q : Shared → Prop}
    (hQ : ∀ s6 loc6, K loc6 → ItAt σ' s6.heap I sr i → Rep B σ' s6.heap C' → Frm B env vs σ' s6.heap loc6 → Step (ownOf env vs) σ s σ' s6 → Q s6) : wpAny (model prog w) A (assign target env v) (fun _ => Q) E' s' := by
  refine wp_no (bind_ok ok room st5.tk R5 F5 ht rv h) fun _ s6 h6 => ?_
  obtain ⟨loc6, h6, R6, F6, st6⟩ := h6
  exact hQ s6 loc6 h6 (I5.step st6 hIo) R6 F6 (st5.trans st6)
end
theorem SX.for {target iter : Expr} {is : List Nat} {rng : Bool} {src : List ME} {body : List Stmt} {mb : List MS} (pos : Pos) (ht : TgtOk sc vs target is) (hi : SI prog w B r T sc vs iter rng src) (hb : SXs prog w B r T sc vs body mb) :
    SX prog w B r T sc vs (.For target iter body [] pos) (.for is rng src mb) := by
  refine SX.of fun env ok n loc C k h A σ s room tk R F => ?_
  refine wpAny_For (wp_no (hi.run env ok n loc C _ h A σ s room tk R F) fun x s1 h1 => wp_no h1 fun it s2 h2 => ?_) (hi.fold env)
  obtain ⟨I, sr, C2, σ2, rfl, ⟨N, h2⟩, I2, hI0, R2, st2⟩ := h2
  have hIo : I ∉ ownOf env vs := own_new F hI0
  have hIB : B.get? I = none := by
    cases q : B.get? I with
    | none => rfl
    | some o => rw [R.base _ _ q] at hI0; cases hI0
  have hx := I2.top
  refine codeAny_forLoop_any (ForInv B T n env vs C2.length is sr mb k I σ2 σ s) (fun n' s' h => ?_) N ⟨0, loc, C2, σ2, h2, I2, .refl _, R2, F.step st2, st2.own⟩
  obtain ⟨i, loc', C', σ', hL, I0, le2, R', F', st'⟩ := h
  have I' : ItAt σ' s'.heap I sr i := I0.mono (fun _ q => q) (fun _ _ q => q) ⟨le2.ad, fun _ _ q => q⟩
  clear I0
  cases n' with
  | zero => exact False.elim hL
  | succ n' =>
    obtain ⟨ob, us, ho, hd⟩ := I'.obj
    have nt := fields_no_tuple ho hd
    have go : ∀ h5 tk5, Heap.ExtBut I s'.heap h5 → s'.toks ≤ tk5 → Rep B σ' h5 C' ∧ Frm B env vs σ' h5 loc' ∧ Step (ownOf env vs) σ s σ' { s' with heap := h5, toks := tk5 } := fun h5 tk5 eb le =>
      ⟨R'.extBut eb hIB (fields_no_list ho hd) nt, F'.but eb nt hIo, st'.but hI0 eb le⟩
    refine optK.el hL fun o ei hL => ?_
    cases o with
    | some d =>
      refine wp_no (next_ok room.hd R' I' ei) fun rv s5 h5 => ?_
      obtain ⟨h5', tk5, rfl, le5, eb, q5⟩ := h5
      cases rv with
      | none => exact q5.elim
      | some v =>
        obtain ⟨R5, F5, st5⟩ := go _ tk5 eb le5
        refine go_ok (s := { s' with heap := h5', toks := tk5 }) q5.2 ?_
        exact for_bind (s' := { s' with heap := h5', toks := tk5 }) ok room ht hIo q5.2 R5 F5 st5 q5.1 hL fun s6 loc6 h6 I6 R6 F6 st6 =>
          for_body ok room hb (Nat.le_of_eq R2.len) hIo st2.pre hx I6 le2 R6 F6 st6 h6 (fun s7 h => ⟨n', Nat.lt_succ_self _, h⟩) (fun v s7 h => h)
    | none =>
      refine wp_no (next_ok room.hd R' I' ei) fun rv s5 h5 => ?_
      obtain ⟨h5', tk5, rfl, le5, eb, q5⟩ := h5
      cases rv with
      | some v => exact q5.elim
      | none =>
        obtain ⟨R5, F5, st5⟩ := go _ tk5 eb le5
        exact wpAny_execs_nil ⟨.next, loc', C', σ', hL, .next, R5, F5, st5⟩
end
section
open PySem PySem.W PySem.Calls PyProof.Rows PySem.SeqAt
variable {prog : Program} {w : World} {B : Heap} {r : Nat} {gl : List (Str × D)} {T : Tab} {sc : Scope} {vs : List Str}

noncomputable def notTuple : Expr → Bool
  | .Tuple _ _ _ => false
  | _ => true

inductive RowTgt : Expr → List Expr → Prop where
  | tup (elts kd p) : RowTgt (.Tuple elts kd p) elts
  | lst (elts p) : RowTgt (.List elts p) elts

theorem swapped_no {t value : Expr} {elts : List Expr} (ht : RowTgt t elts) (h : notTuple value = true) (env : Env) : swappedStores [t] value env = pure none := by
  induction ht with
  | tup => cases value <;> first | rfl | exact Bool.noConfusion h
  | lst => cases value <;> first | rfl | exact Bool.noConfusion h
theorem row_bind {A : Around} {env : Env} {s : Shared} {t : Expr} {elts : List Expr} {v : Value} {Q : Unit → Shared → Prop} {E' : Value → Shared → Prop} (hr : RowTgt t elts) (h : wpAny (model prog w) A (unpack v (assignEach elts env)) Q E' s) : wpAny (model prog w) A (assignAll v (List.map (fun x => x.snd) (assignEach [t] env))) Q E' s := by
  induction hr with
  | tup elts kd p => show wpAny _ _ (assign (.Tuple elts kd p) env v) _ _ _; rw [arm_assign_Tuple]; exact wpAny_bind (wpAny_standAt h)
  | lst elts p => show wpAny _ _ (assign (.List elts p) env v) _ _ _; rw [arm_assign_List]; exact wpAny_bind (wpAny_standAt h)

theorem SX.unp {t value : Expr} {elts : List Expr} {is : List Nat} {me : ME} (pos : Pos) (hr : RowTgt t elts) (hc : noComp value = true) (hnt : notTuple value = true) (ht : Tgts sc vs elts is) (he : SE prog w B r T sc vs value me) :
    SX prog w B r T sc vs (.Assign [t] value pos) (.unp is me) := by
  refine SX.of fun env ok n loc C k h A σ s room tk R F => ?_
  refine wpAny_Assign_stores (wp_no (he env ok n loc C _ h A σ s room tk R F) fun v s1 h1 => ?_) (swaps_no hc _ _ _) (swapped_no hr hnt env)
  refine h1.use fun d C1 σ1 h1 rv R1 st => ?_
  refine bindMany.el h1 fun ds e hl h1 => ?_
  exact row_bind hr (wp_no (unpackTo_ok ok room st.tk R1 (F.step st) ht rv e hl) fun _ s2 h2 => ⟨.next, _, C1, σ1, h1, .next, h2.1, h2.2.1, st.own.trans h2.2.2⟩)

/-- two names, two values -/
noncomputable def swTest (sc : Scope) (a b : Str) (pa pb : Pos) (v1 v2 : Expr) : Bool :=
  (sc.names.lookup a == some .local) && (sc.names.lookup b == some .local) && (pa.line == pb.line) && !(a == b) && !([v1, v2].all (foldedForSure 8)) && !([v1, v2].all (constantsAlone 8)) &&
    !([v1, v2].any fun | .Starred .. => true | _ => false)
theorem swapped_two {env : Env} (ok : EnvOk sc vs env) {a b : Str} {pa pb : Pos} {v1 v2 : Expr} {kd kd' : Nat} {p p' : Pos} (h : swTest sc a b pa pb v1 v2 = true) :
    swappedStores [.Tuple [.Name a pa, .Name b pb] kd p] (.Tuple [v1, v2] kd' p') env = pure (some [a, b]) := by
  unfold swTest at h
  simp only [Bool.and_eq_true, Bool.not_eq_true', beq_iff_eq] at h
  obtain ⟨⟨⟨⟨⟨⟨h1, h2⟩, h3⟩, h4⟩, h5⟩, h6⟩, h7⟩ := h
  have hab : a ≠ b := by simpa using h4
  have k1 : env.kindOf a = some .local := by rw [ok.kindOf]; exact h1
  have k2 : env.kindOf b = some .local := by rw [ok.kindOf]; exact h2
  have bk : env.blockKind = .function := by unfold Env.blockKind; rw [ok.kind]; rfl
  unfold swappedStores
  simp only [bk, h5, h6]
  have ep : ∀ (x : Str) (q : Pos), (Expr.Name x q).pos = q := fun _ _ => rfl
  simp [k1, k2, h3, ep, List.eraseDups_cons, Ne.symm hab]
  intro hs
  simp only [List.any_cons, List.any_nil, Bool.or_false, Bool.or_eq_false_iff] at h7
  rcases hs with hs | hs
  · exact absurd (hs.symm.trans h7.1) (by decide)
  · exact absurd (hs.symm.trans h7.2) (by decide)

theorem swap_go {env : Env} (ok : EnvOk sc vs env) {A : Around} {σ : Gh} {s : Shared} {loc : Loc} {C : Cs} {a b : Str} {i j : Nat} {u1 u2 : Value} {d1 d2 : D} (hh : A.handled = none) (tk : Tk σ s) (R : Rep B σ s.heap C) (F : Frm B env vs σ s.heap loc) (hi : vs[i]? = some a) (hj : vs[j]? = some b)
    (h1 : sc.names.lookup a = some .local) (h2 : sc.names.lookup b = some .local) (r1 : RepV B σ s.heap u1 d1) (r2 : RepV B σ s.heap u2 d2) {t : Addr} (ht : s.heap.IsTuple t #[u1, u2]) :
    wpAny (model prog w) A (do rule "assign.swapped-stores"; let items ← unpackItems (.ref t) 2 none; assignInOrder ([b, a].map fun n => bindName env n) items.reverse; pure Flow.next) (fun f s' => f = .next ∧ Rep B σ s'.heap C ∧ Frm B env vs σ s'.heap ((loc.set j (some d2)).set i (some d1)) ∧ Step (ownOf env vs) σ s σ s') No s := by
  refine wpAny_bind (wpAny_rule (wpAny_bind ?_))
  refine wpAny_unpackItems_tuple (items := #[u1, u2]) hh ht fun h3 eb => ?_
  have hI : s.heap.get? s.heap.objs.size = none := get?_size _
  have nt : ∀ us, ¬ s.heap.IsTuple s.heap.objs.size us := fun us ⟨o, ho, _⟩ => by rw [hI] at ho; cases ho
  have nl : ∀ us, ¬ s.heap.PlainList s.heap.objs.size us := fun us ⟨o, ho⟩ => by rw [hI] at ho; cases ho
  have st3 : Step (ownOf env vs) σ s σ { s with heap := h3 } := (Step.refl tk).but hI eb (Nat.le_refl _)
  show wpAny _ _ (do assignInOrder [bindName env b, bindName env a] [u2, u1]; pure Flow.next) _ _ { s with heap := h3 }
  refine wpAny_bind ?_
  show wpAny _ _ (holding [u1] (bindName env b u2) >>= fun _ => holding [] (bindName env a u1) >>= fun _ => pure ()) _ _ _
  refine wpAny_bind (wpAny_holding (wpAny_bindName (wp_no (store_ok (s := { s with heap := h3 }) ok st3.tk (R.extBut eb (R.freshAt hI).1 nl nt) (F.but eb nt (own_new F hI)) hj (.inl h2) (r2.step st3)) fun _ s4 p4 => ?_)))
  refine wpAny_bind (wpAny_holding (wpAny_bindName (wp_no (store_ok ok p4.2.2.tk p4.1 p4.2.1 hi (.inl h1) ((r1.step st3).step p4.2.2)) fun _ s5 p5 => wpAny_pure (wpAny_pure ?_))))
  exact ⟨rfl, p5.1, p5.2.1, (st3.trans p4.2.2).trans p5.2.2⟩
theorem sw_names {a b : Str} {pa pb : Pos} {v1 v2 : Expr} (h : swTest sc a b pa pb v1 v2 = true) : sc.names.lookup a = some .local ∧ sc.names.lookup b = some .local := by
  unfold swTest at h
  have h := (and_iff (and_iff (and_iff (and_iff (and_iff (and_iff h).1).1).1).1).1)
  exact ⟨eq_of_beq h.1, eq_of_beq h.2⟩
theorem SX.swap {a b : Str} {pa pb : Pos} {v1 v2 : Expr} {kd kd' : Nat} {p p' : Pos} {i j : Nat} {m1 m2 : ME} (pos : Pos) (h : swTest sc a b pa pb v1 v2 = true) (hi : vs[i]? = some a) (hj : vs[j]? = some b)
    (he : SL prog w B r T sc vs [v1, v2] [m1, m2]) : SX prog w B r T sc vs (.Assign [.Tuple [.Name a pa, .Name b pb] kd p] (.Tuple [v1, v2] kd' p') pos) (.unp2 i j m1 m2) := by
  refine SX.of fun env ok n loc C k hX A σ s room tk R F => ?_
  rw [exec_Assign_arm]
  refine wpAny_bind (wpAny_standAt ?_)
  have hs : swapsWithSole [.Tuple [.Name a pa, .Name b pb] kd p] (.Tuple [v1, v2] kd' p') pos.line env = pure false := rfl
  rw [hs]
  refine wpAny_bind (wpAny_pure ?_)
  rw [if_neg (by decide)]
  refine wpAny_bind (wpAny_Tuple (wp_no (he.run env ok p' n loc C _ hX A σ s room tk R F) fun us s1 q1 => ?_))
  refine q1.use fun ds C1 σ1 qk ru R1 st => ?_
  obtain ⟨d1, d2, rfl, qk⟩ := two.use qk
  obtain ⟨u1, u2, rfl, r1, r2⟩ := ru.two
  refine ⟨(by decide : 2 ≤ sizeLine), ?_⟩
  rw [swapped_two ok h]
  refine wpAny_bind (wpAny_pure ?_)
  have st2 : Step [] σ1 s1 σ1 { s1 with heap := s1.heap.push { cls := .type "tuple", data := .seq [u1, u2].toArray } } := Step.grow (tk := s1.toks) st.tk (Nat.le_refl _) (grow_push _ _)
  refine wp_no (swap_go (s := { s1 with heap := s1.heap.push { cls := .type "tuple", data := .seq [u1, u2].toArray } }) ok room.hd st2.tk (R1.grow (grow_push _ _)) (F.step (st.trans st2)) hi hj (sw_names h).1 (sw_names h).2 (r1.step st2) (r2.step st2) (tuple_push _ _)) fun f s5 p5 => ?_
  exact ⟨.next, _, C1, σ1, qk, p5.1 ▸ .next, p5.2.1, p5.2.2.1, (st.trans st2).own.trans p5.2.2.2⟩

theorem setItem_plain {A : Around} {E : Value → Shared → Prop} {s : Shared} {l : Addr} {items : Array Value} {k : Int} {t : Tok} {v : Value} {Q : Unit → Shared → Prop} (hl : s.heap.PlainList l items)
    (h0 : 0 ≤ k) (hfit : k < 2 ^ 63) (hn : k < items.size)
    (hQ : ∀ h', h'.PlainList l (items.setIfInBounds k.toNat v) → Heap.SameBut l s.heap h' → Q () { s with heap := h' }) :
    wpAny (model prog w) A (setItem (.ref l) (.int k t) v) Q E s := by
  have hL := hl.isList
  obtain ⟨ne, ho⟩ := hl
  unfold setItem
  try with_reducible refine wpAny_holding ?_
  first | refine wpAny_bind (wpAny_pure ?_) | skip
  refine wpAny_bind (wpAny_sequenceKey hL.typeIs (by decide) ?_)
  refine wpAny_bind (wpAny_callSpecial?_slot (name := Str.ofString "__setitem__") hL.typeIs slot_list_setitem
    (wpAny_call_entry slot_list_setitem hL.typeIs entry_list_setitem ?_ (args_list_setitem _ _ _)))
  show wpAny _ _ (Builtin.List.listSubscript? (.int k t) >>= _) _ _ s
  refine wpAny_bind (wpAny_listSubscript_int (fitsIndex_of h0 hfit) ?_)
  clear hfit
  obtain ⟨j, rfl⟩ := Int.eq_ofNat_of_zero_le h0
  have hj : j < items.size := by omega
  have hx' : items[j]? = some items[j] := Array.getElem?_eq_getElem hj
  show wpAny _ _ ((seqItemAt l j >>= fun r => pure (r.map (j, ·))) >>= _) _ _ s
  refine wpAny_bind (wpAny_bind (wpAny_seqItemAt ho rfl (wpAny_pure ?_)))
  rw [hx']
  show wpAny _ _ (setSeqItemAt l j v >>= _) _ _ s
  have hfin : (s.heap.update l (Obj.mapSeq (·.setIfInBounds j v))).PlainList l (items.setIfInBounds j v) := upd_plain ho _ rfl
  refine wpAny_bind (wpAny_setSeqItemAt ho rfl ?_)
  first
    | exact wpAny_bind (wpAny_pure (wpAny_pure ⟨.none, rfl, wpAny_pure (hQ _ hfin (Heap.SameBut.update ..))⟩))
    | exact wpAny_pure ⟨.none, rfl, wpAny_pure (hQ _ hfin (Heap.SameBut.update ..))⟩

theorem seti_go {A : Around} {env : Env} {σ : Gh} {s : Shared} {loc : Loc} {C : Cs} {k : KX} {vo vi v : Value} {a b d : D} (tk : Tk σ s) (R : Rep B σ s.heap C) (F : Frm B env vs σ s.heap loc) (ro : RepV B σ s.heap vo a) (ri : RepV B σ s.heap vi b) (rv : RepV B σ s.heap v d) (h : setK a b d C (k .next loc)) :
    wpAny (model prog w) A (setItem vo vi v) (fun _ s' => PostX B env vs σ s k .next s') No s := by
  revert ro ri
  refine setK.el (a := a) (b := b) h fun x j l e q1 q2 q3 h ro ri => ?_
  obtain ⟨u, rfl⟩ := ri.i
  obtain ⟨_, us, rfl, p, pl, ru⟩ := ro.c R e
  rw [← ru.length] at q2 q3
  refine setItem_plain pl q1 (by omega) q2 fun h' pl' sb => ?_
  have pst : Post B σ s (fun _ C' => k .next loc C') .none { s with heap := h' } := Post.write (tk := s.toks) (vs := us.set j.toNat v) tk (Nat.le_refl _) R p sb (by rw [List.setIfInBounds_toArray] at pl'; exact pl') (ru.set _ rv) (.at .none) h
  exact pst.use fun _ C4 σ4 h4 _ R4 st4 => ⟨.next, loc, C4, σ4, h4, .next, R4, F.step st4, st4.own⟩
theorem SX.seti {o i value : Expr} {mo mi mv : ME} (p' pos : Pos) (hc : noComp value = true) (hv : SE prog w B r T sc vs value mv) (ho : SE prog w B r T sc vs o mo) (hi : SE prog w B r T sc vs i mi) :
    SX prog w B r T sc vs (.Assign [.Subscript o i p'] value pos) (.seti mo mi mv) := by
  refine SX.of fun env ok n loc C k h A σ s room tk R F => ?_
  refine wpAny_Assign_Subscript (wp_no (hv env ok n loc C _ h A σ s room tk R F) fun v s1 h1 => ?_) (swaps_no hc _ _ _)
  refine h1.use fun d C1 σ1 h1 rv R1 st1 => ?_
  refine wp_no (ho env ok n loc C1 _ h1 A σ1 s1 room st1.tk R1 (F.step st1)) fun vo s2 h2 => ?_
  refine h2.use fun d2 C2 σ2 h2 ro R2 st2 => ?_
  refine wp_no (hi env ok n loc C2 _ h2 A σ2 s2 room st2.tk R2 (F.step (st1.trans st2))) fun vi s3 h3 => ?_
  refine h3.use fun d3 C3 σ3 h3 ri R3 st3 => ?_
  have st := (st1.trans st2).trans st3
  exact wp_no (seti_go st3.tk R3 (F.step st) (ro.step st3) ri (rv.step (st2.trans st3)) h3) fun _ s4 p => p.from st.own

theorem deli_go {A : Around} {env : Env} {σ : Gh} {s : Shared} {loc : Loc} {C : Cs} {k : KX} {vo vi : Value} {a b : D} (tk : Tk σ s) (R : Rep B σ s.heap C) (F : Frm B env vs σ s.heap loc) (ro : RepV B σ s.heap vo a) (ri : RepV B σ s.heap vi b) (h : delK a b C (k .next loc)) :
    wpAny (model prog w) A (delItem vo vi) (fun _ s' => PostX B env vs σ s k .next s') No s := by
  revert ro ri
  refine delK.el (a := a) (b := b) h fun x j l e q1 q2 q3 h ro ri => ?_
  obtain ⟨u, rfl⟩ := ri.i
  obtain ⟨_, us, rfl, p, pl, ru⟩ := ro.c R e
  rw [← ru.length] at q2 q3
  have hj : j.toNat < us.length := by omega
  refine wpAny_delItem_plain (k := j.toNat) pl (fits_nat (Int.toNat_of_nonneg q1).symm (Nat.le_of_lt hj) q3) (by rw [← Int.toNat_of_nonneg q1]; exact nat_idx hj) (fun h' pl' sb => ?_) (line_of q3)
  have pst : Post B σ s (fun _ C' => k .next loc C') .none { s with heap := h' } := Post.write (tk := s.toks) (vs := us.eraseIdx j.toNat) tk (Nat.le_refl _) R p sb (by rw [List.eraseIdxIfInBounds_toArray] at pl'; exact pl') (ru.eraseIdx _) (.at .none) h
  exact pst.use fun _ C4 σ4 h4 _ R4 st4 => ⟨.next, loc, C4, σ4, h4, .next, R4, F.step st4, st4.own⟩
theorem SX.deli {o i : Expr} {mo mi : ME} (p' pos : Pos) (ho : SE prog w B r T sc vs o mo) (hi : SE prog w B r T sc vs i mi) :
    SX prog w B r T sc vs (.Delete [.Subscript o i p'] pos) (.deli mo mi) := by
  refine SX.of fun env ok n loc C k h A σ s room tk R F => ?_
  refine wpAny_Delete (wpAny_deleteEach_cons (wpAny_delete_Subscript (wp_no (ho env ok n loc C _ h A σ s room tk R F) fun vo s2 h2 => ?_)))
  refine h2.use fun d2 C2 σ2 h2 ro R2 st2 => ?_
  refine wp_no (hi env ok n loc C2 _ h2 A σ2 s2 room st2.tk R2 (F.step st2)) fun vi s3 h3 => ?_
  refine h3.use fun d3 C3 σ3 h3 ri R3 st3 => ?_
  have st := st2.trans st3
  exact wp_no (deli_go st3.tk R3 (F.step st) (ro.step st3) ri h3) fun _ s4 p => wpAny_deleteEach_nil (p.from st.own)
end
section
open PySem PySem.W PySem.Calls PyProof.Rows PySem.SeqAt
set_option genSizeOf false
set_option genSizeOfSpec false
set_option genInjectivity false

structure Ctx where
  sc : Scope
  vs : List Str
  gl : List (Str × D)
noncomputable def nIdx : List Str → Str → Option Nat
  | [], _ => none
  | y :: r, x => if y = x then some 0 else (nIdx r x).map (· + 1)
theorem nIdx_ok : ∀ {l : List Str} {x : Str} {i : Nat}, nIdx l x = some i → l[i]? = some x
  | [], _, _, h => by simp [nIdx] at h
  | y :: r, x, i, h => by
    unfold nIdx at h
    split at h
    · rename_i e; cases h; simp [e]
    · obtain ⟨j, hj, rfl⟩ := Option.map_eq_some_iff.mp h
      simpa using nIdx_ok hj

inductive J where
  | E (c : Ctx) (e : Expr) (me : ME)
  | T (c : Ctx) (e : Expr) (me : ME)
  | L (c : Ctx) (es : List Expr) (mes : List ME)
  | K (c : Ctx) (kws : List Keyword) (mks : List (Str × ME))
  | O (c : Ctx) (o : Option Expr) (mo : Option ME)
  | I (c : Ctx) (iter : Expr) (rng : Bool) (src : List ME)
  | F (c : Ctx) (ifs : List Expr) (mifs : List ME)
  | C (c : Ctx) (elt iter : Expr) (x : Str) (ifs : List Expr) (scope : Scope) (melt : ME) (fv : List Nat) (fvn : List Str) (rng : Bool) (src mifs : List ME)
  | X (c : Ctx) (st : Stmt) (ms : MS)
  | Xs (c : Ctx) (l : List Stmt) (ml : List MS)

noncomputable def notStar : Expr → Bool
  | .Starred _ _ => false
  | _ => true
noncomputable def own? (sc : Scope) (x : Str) : Bool := sc.names.lookup x == some .local || sc.names.lookup x == some .cell
noncomputable def inner (c : Ctx) (x : Str) (fvn : List Str) (scope : Scope) : Ctx := ⟨relabelS scope c.sc, x :: fvn, c.gl⟩
noncomputable def swComp (sc : Scope) (y : Str) (py pos : Pos) (scope : Scope) : Bool :=
  (sc.names.lookup y == some .local) && (py.line == pos.line) && !(scope.names.any fun (n, k) => n == y && (k == .local || k == .cell))

section
variable (prog : Program) (w : World) (B : Heap) (r : Nat) (T : Tab) (gl : List (Str × D))
noncomputable def Sem' : J → Prop
  | .E c e me => c.gl = gl → SE prog w B r T c.sc c.vs e me
  | .T c e me => c.gl = gl → ST prog w B r T c.sc c.vs e me
  | .L c es mes => c.gl = gl → SL prog w B r T c.sc c.vs es mes
  | .K c kws mks => c.gl = gl → SK prog w B r T c.sc c.vs kws mks
  | .O c o mo => c.gl = gl → SO prog w B r T c.sc c.vs o mo
  | .I c iter rng src => c.gl = gl → SI prog w B r T c.sc c.vs iter rng src
  | .F c ifs mifs => c.gl = gl → SIf prog w B r T c.sc c.vs ifs mifs
  | .C c elt iter x ifs scope melt fv fvn rng src mifs => c.gl = gl → CompOk prog w B r T c.sc c.vs elt iter x ifs scope melt fv fvn rng src mifs
  | .X c st ms => c.gl = gl → SX prog w B r T c.sc c.vs st ms
  | .Xs c l ml => c.gl = gl → SXs prog w B r T c.sc c.vs l ml
end
theorem own_or {sc : Scope} {x : Str} (h : own? sc x = true) : sc.names.lookup x = some .local ∨ sc.names.lookup x = some .cell := by
  unfold own? at h
  simpa using h

theorem swComp_ok {sc : Scope} {vs : List Str} {env : Env} (ok : EnvOk sc vs env) {y : Str} {py pos : Pos} {scope : Scope} (h : swComp sc y py pos scope = true) {elt iter : Expr} {x : Str} {px : Pos} {ifs : List Expr} (line : Nat) :
    swapsWith (.ListComp elt [⟨.Name x px, iter, ifs, 0⟩] scope pos) (some (.Name y py)) line env = pure true := by
  unfold swComp at h
  simp only [Bool.and_eq_true, beq_iff_eq] at h
  obtain ⟨⟨h1, h2⟩, h3⟩ := h
  have bk : env.blockKind = .function := by unfold Env.blockKind; rw [ok.kind]; rfl
  show (pure (env.blockKind == .function && env.kindOf y == some .local && py.line == pos.line && !(scope.names.any fun (n, k) => n == y && (k == .local || k == .cell))) : PySem.Sem Bool) = pure true
  rw [bk, ok.kindOf, h1, h2, h3]
  simp

/-- how the program's text is read -/
structure Tr (j : J) : Prop where
  go : ∀ {prog : Program} {w : World} {B : Heap} {r : Nat} {T : Tab} {gl : List (Str × D)}, GF prog w B gl → TabOk prog w B r T → Sem' prog w B r T gl j
theorem Tr.cInt {c} (i : Int) (kd pos)  : Tr (.E c (.Constant (.int i) kd pos) (.cst (.int i))) := ⟨fun G HT => fun _ => .cInt i kd pos⟩
theorem Tr.cStr {c} (x : Str) (kd pos)  : Tr (.E c (.Constant (.str x) kd pos) (.cst (.str x))) := ⟨fun G HT => fun _ => .cStr x kd pos⟩
theorem Tr.cNone {c} (kd pos)  : Tr (.E c (.Constant .none kd pos) (.cst .none)) := ⟨fun G HT => fun _ => .cNone kd pos⟩
theorem Tr.cBool {c} (b : Bool) (kd pos)  : Tr (.E c (.Constant (.bool b) kd pos) (.cst (.bool b))) := ⟨fun G HT => fun _ => .cBool b kd pos⟩
theorem Tr.cFlt {c} (x : UInt64) (kd pos)  : Tr (.E c (.Constant (.float x) kd pos) (.cst (.flt x))) := ⟨fun G HT => fun _ => .cFlt x kd pos⟩
theorem Tr.loc {c : Ctx} {x i} (pos) (h1 : (x == ("__debug__" : Str)) = false) (h2 : nIdx c.vs x = some i) (h3 : c.sc.names.lookup x = some .local) : Tr (.E c (.Name x pos) (.var i)) := ⟨fun G HT => fun _ => .local pos h1 (nIdx_ok h2) h3⟩
theorem Tr.cell {c : Ctx} {x i} (pos) (h1 : (x == ("__debug__" : Str)) = false) (h2 : nIdx c.vs x = some i) (h3 : c.sc.names.lookup x = some .cell) : Tr (.E c (.Name x pos) (.var i)) := ⟨fun G HT => fun _ => .cell pos h1 (nIdx_ok h2) h3⟩
theorem Tr.glob {c : Ctx} {x d} (pos) (h1 : (x == ("__debug__" : Str)) = false) (h2 : c.sc.names.lookup x = some .globalImplicit) (h3 : c.gl.lookup x = some d) : Tr (.E c (.Name x pos) (.glb d)) := ⟨fun G HT => fun e => .global G pos h1 h2 (by rw [← e]; exact h3)⟩
theorem Tr.bin {c op l r ml mr} (pos) (qa : Tr (.E c l ml)) (qb : Tr (.E c r mr)) : Tr (.E c (.BinOp l op r pos) (.bin op ml mr)) := ⟨fun G HT => fun e => .bin pos (qa.go G HT e) (qb.go G HT e)⟩
theorem Tr.neg {c e me} (pos) (qa : Tr (.E c e me)) : Tr (.E c (.UnaryOp .USub e pos) (.neg me)) := ⟨fun G HT => fun e => .neg pos (qa.go G HT e)⟩
theorem Tr.vnot {c e me} (pos) (qa : Tr (.E c e me)) : Tr (.E c (.UnaryOp .Not e pos) (.not me)) := ⟨fun G HT => fun e => .not pos (qa.go G HT e)⟩
theorem Tr.cmp {c op l r ml mr} (pos) (h1 : behindInMarks op r = false) (qa : Tr (.E c l ml)) (qb : Tr (.E c r mr)) : Tr (.E c (.Compare l [op] [r] pos) (.cmp op ml mr)) := ⟨fun G HT => fun e => .cmp G pos h1 (qa.go G HT e) (qb.go G HT e)⟩
theorem Tr.ite {c t b o mt mb mo} (pos) (qa : Tr (.T c t mt)) (qb : Tr (.E c b mb)) (qd : Tr (.E c o mo)) : Tr (.E c (.IfExp t b o pos) (.ite mt mb mo)) := ⟨fun G HT => fun e => .ite pos (qa.go G HT e) (qb.go G HT e) (qd.go G HT e)⟩
theorem Tr.idx {c v i mv mi} (pos) (qa : Tr (.E c v mv)) (qb : Tr (.E c i mi)) : Tr (.E c (.Subscript v i pos) (.idx mv mi)) := ⟨fun G HT => fun e => .idx G pos (qa.go G HT e) (qb.go G HT e)⟩
theorem Tr.slc {c v lo hi sp mv ml mh ms} (p pos) (qa : Tr (.E c v mv)) (qb : Tr (.O c lo ml)) (qd : Tr (.O c hi mh)) (qf : Tr (.O c sp ms)) : Tr (.E c (.Subscript v (.Slice lo hi sp p) pos) (.slc mv ml mh ms)) := ⟨fun G HT => fun e => .slc p pos (qa.go G HT e) (qb.go G HT e) (qd.go G HT e) (qf.go G HT e)⟩
theorem Tr.tup {c es mes} (kd pos) (qa : Tr (.L c es mes)) : Tr (.E c (.Tuple es kd pos) (.tup mes)) := ⟨fun G HT => fun e => .tup kd pos (qa.go G HT e)⟩
theorem Tr.lst {c es mes} (pos) (qa : Tr (.L c es mes)) : Tr (.E c (.List es pos) (.lst mes)) := ⟨fun G HT => fun e => .lst pos (qa.go G HT e)⟩
theorem Tr.comp {c elt iter x px ifs scope melt fv fvn rng src mifs} (pos) (qa : Tr (.C c elt iter x ifs scope melt fv fvn rng src mifs)) : Tr (.E c (.ListComp elt [⟨.Name x px, iter, ifs, 0⟩] scope pos) (.comp melt fv rng src mifs)) := ⟨fun G HT => fun e => .comp pos (qa.go G HT e)⟩
theorem Tr.bcall {c : Ctx} {f : Blt} {args mas} (p pos) (h1 : (f.name == ("__debug__" : Str)) = false) (h2 : c.sc.names.lookup f.name = some .globalImplicit) (qa : Tr (.L c args mas)) : Tr (.E c (.Call (.Name f.name p) args [] pos) (.bcall f mas)) := ⟨fun G HT => fun e => .bcall G p pos h1 h2 (qa.go G HT e)⟩
theorem Tr.call {c x p mf args mas kws mks} (pos) (qa : Tr (.E c (.Name x p) mf)) (qb : Tr (.L c args mas)) (qd : Tr (.K c kws mks)) : Tr (.E c (.Call (.Name x p) args kws pos) (.call mf mas mks)) := ⟨fun G HT => fun e => .call HT pos (qa.go G HT e) (qb.go G HT e) (qd.go G HT e)⟩
theorem Tr.meth {c} {m : Mth} {o mo args mas} (apos pos : Pos) (h1 : plainBase o = true) (h2 : (apos.endLine == pos.line) = true) (h3 : args.length < 30) (qa : Tr (.E c o mo)) (qb : Tr (.L c args mas)) : Tr (.E c (.Call (.Attribute o m.name apos) args [] pos) (.meth m mo mas)) := ⟨fun G HT => fun e => .meth apos pos h1 h2 h3 (qa.go G HT e) (qb.go G HT e)⟩
theorem Tr.tcmp {c op l r ml mr} (pos) (h1 : behindInMarks op r = false) (qa : Tr (.E c l ml)) (qb : Tr (.E c r mr)) : Tr (.T c (.Compare l [op] [r] pos) (.cmp op ml mr)) := ⟨fun G HT => fun e => .cmp G pos h1 (qa.go G HT e) (qb.go G HT e)⟩
theorem Tr.tnot {c e me} (pos) (qa : Tr (.T c e me)) : Tr (.T c (.UnaryOp .Not e pos) (.not me)) := ⟨fun G HT => fun e => .not pos (qa.go G HT e)⟩
theorem Tr.tand0 {c} (pos)  : Tr (.T c (.BoolOp .And [] pos) (.and [])) := ⟨fun G HT => fun _ => .andNil pos⟩
theorem Tr.tand {c e es me mes} (pos) (qa : Tr (.T c e me)) (qb : Tr (.T c (.BoolOp .And es pos) (.and mes))) : Tr (.T c (.BoolOp .And (e :: es) pos) (.and (me :: mes))) := ⟨fun G HT => fun e => .andCons pos (qa.go G HT e) (qb.go G HT e)⟩
theorem Tr.tor0 {c} (pos)  : Tr (.T c (.BoolOp .Or [] pos) (.or [])) := ⟨fun G HT => fun _ => .orNil pos⟩
theorem Tr.tor {c e es me mes} (pos) (qa : Tr (.T c e me)) (qb : Tr (.T c (.BoolOp .Or es pos) (.or mes))) : Tr (.T c (.BoolOp .Or (e :: es) pos) (.or (me :: mes))) := ⟨fun G HT => fun e => .orCons pos (qa.go G HT e) (qb.go G HT e)⟩
theorem Tr.tval {c e me} (h1 : plainTest e = true) (h2 : plainME me = true) (qa : Tr (.E c e me)) : Tr (.T c e me) := ⟨fun G HT => fun e => .val h1 h2 (qa.go G HT e)⟩
theorem Tr.lnil {c}  : Tr (.L c [] []) := ⟨fun G HT => fun _ => .nil⟩
theorem Tr.lcons {c e es me mes} (h1 : notStar e = true) (qa : Tr (.E c e me)) (qb : Tr (.L c es mes)) : Tr (.L c (e :: es) (me :: mes)) := ⟨fun G HT => fun e => .cons (fun x p q => by subst q; cases h1) (qa.go G HT e) (qb.go G HT e)⟩
theorem Tr.knil {c}  : Tr (.K c [] []) := ⟨fun G HT => fun _ => .nil⟩
theorem Tr.kcons {c x e kp kws me mks} (qa : Tr (.E c e me)) (qb : Tr (.K c kws mks)) : Tr (.K c (⟨some x, e, kp⟩ :: kws) ((x, me) :: mks)) := ⟨fun G HT => fun e => .cons (qa.go G HT e) (qb.go G HT e)⟩
theorem Tr.onone {c}  : Tr (.O c none none) := ⟨fun G HT => fun _ => .none⟩
theorem Tr.osome {c e me} (qa : Tr (.E c e me)) : Tr (.O c (some e) (some me)) := ⟨fun G HT => fun e => .some (qa.go G HT e)⟩
theorem Tr.ival {c e me} (h1 : notSet e = true) (qa : Tr (.E c e me)) : Tr (.I c e false [me]) := ⟨fun G HT => fun e => .val h1 (qa.go G HT e)⟩
theorem Tr.irng {c : Ctx} {args mas} (p pos) (h1 : c.sc.names.lookup ("range" : Str) = some .globalImplicit) (qa : Tr (.L c args mas)) : Tr (.I c (.Call (.Name "range" p) args [] pos) true mas) := ⟨fun G HT => fun e => .range G p pos h1 (qa.go G HT e)⟩
theorem Tr.fnil {c}  : Tr (.F c [] []) := ⟨fun G HT => fun _ => .nil⟩
theorem Tr.fone {c e me} (qa : Tr (.T c e me)) : Tr (.F c [e] [me]) := ⟨fun G HT => fun e => .one (qa.go G HT e)⟩
theorem Tr.cmk {c : Ctx} {elt iter x ifs scope melt fv fvn rng src mifs} (qa : Tr (.I c iter rng src)) (qb : Tr (.E (inner c x fvn scope) elt melt)) (qd : Tr (.F (inner c x fvn scope) ifs mifs)) (h1 : scope.kind = .function) (h2 : scope.names.lookup x = some .local) (h3 : (∀ y ∈ scope.names, y.2 ≠ .cell)) (h4 : (∀ y ∈ scope.names, y.2 = .local → scope.names.lookup y.1 = some .local)) (h5 : All2 (fun (i : Nat) (y : Str) => c.vs[i]? = some y ∧ c.sc.names.lookup y = some .cell ∧ (y, NameKind.free) ∈ scope.names ∧ (relabelS scope c.sc).names.lookup y = some .cell) fv fvn) (h6 : (∀ y ∈ scope.names, y.2 = .free → y.1 ∈ fvn)) (h7 : (x :: fvn).Nodup) : Tr (.C c elt iter x ifs scope melt fv fvn rng src mifs) := ⟨fun G HT => fun e => ⟨(qa.go G HT e), (qb.go G HT e), (qd.go G HT e), h1, h2, h3, h4, h5, h6, h7⟩⟩
theorem Tr.sbad {c st}  : Tr (.X c st .bad) := ⟨fun G HT => fun _ => .bad _⟩
theorem Tr.sasg {c : Ctx} {x p' value me i} (pos) (h1 : noComp value = true) (h2 : nIdx c.vs x = some i) (h3 : own? c.sc x = true) (qa : Tr (.E c value me)) : Tr (.X c (.Assign [.Name x p'] value pos) (.asg i me)) := ⟨fun G HT => fun e => .asg pos h1 (nIdx_ok h2) (own_or h3) (qa.go G HT e)⟩
theorem Tr.scmp {c : Ctx} {y py elt iter x px ifs scope melt fv fvn rng src mifs i} (pos spos : Pos) (h1 : swComp c.sc y py pos scope = true) (h2 : nIdx c.vs y = some i) (qa : Tr (.C c elt iter x ifs scope melt fv fvn rng src mifs)) : Tr (.X c (.Assign [.Name y py] (.ListComp elt [⟨.Name x px, iter, ifs, 0⟩] scope pos) spos) (.asg i (.comp melt fv rng src mifs))) := ⟨fun G HT => fun e => .asgComp pos spos (fun env ok => swComp_ok ok h1 _) (nIdx_ok h2) (.inl (by unfold swComp at h1; simp only [Bool.and_eq_true, beq_iff_eq] at h1; exact h1.1.1)) (qa.go G HT e)⟩
theorem Tr.sunp {c : Ctx} {t value elts is me} (pos) (h1 : RowTgt t elts) (h2 : noComp value = true) (h3 : notTuple value = true) (h4 : Tgts c.sc c.vs elts is) (qa : Tr (.E c value me)) : Tr (.X c (.Assign [t] value pos) (.unp is me)) := ⟨fun G HT => fun e => .unp pos h1 h2 h3 h4 (qa.go G HT e)⟩
theorem Tr.sswap {c : Ctx} {a b pa pb v1 v2 kd kd' p p' i j m1 m2} (pos) (h1 : swTest c.sc a b pa pb v1 v2 = true) (h2 : nIdx c.vs a = some i) (h3 : nIdx c.vs b = some j) (qa : Tr (.L c [v1, v2] [m1, m2])) : Tr (.X c (.Assign [.Tuple [.Name a pa, .Name b pb] kd p] (.Tuple [v1, v2] kd' p') pos) (.unp2 i j m1 m2)) := ⟨fun G HT => fun e => .swap pos h1 (nIdx_ok h2) (nIdx_ok h3) (qa.go G HT e)⟩
theorem Tr.sset {c o i value mo mi mv} (p' pos) (h1 : noComp value = true) (qa : Tr (.E c value mv)) (qb : Tr (.E c o mo)) (qd : Tr (.E c i mi)) : Tr (.X c (.Assign [.Subscript o i p'] value pos) (.seti mo mi mv)) := ⟨fun G HT => fun e => .seti p' pos h1 (qa.go G HT e) (qb.go G HT e) (qd.go G HT e)⟩
theorem Tr.sdel {c o i mo mi} (p' pos) (qa : Tr (.E c o mo)) (qb : Tr (.E c i mi)) : Tr (.X c (.Delete [.Subscript o i p'] pos) (.deli mo mi)) := ⟨fun G HT => fun e => .deli p' pos (qa.go G HT e) (qb.go G HT e)⟩
theorem Tr.sif {c t mt a b ma mb} (pos) (qa : Tr (.T c t mt)) (qb : Tr (.Xs c a ma)) (qd : Tr (.Xs c b mb)) : Tr (.X c (.If t a b pos) (.ifs mt ma mb)) := ⟨fun G HT => fun e => .ifs pos (qa.go G HT e) (qb.go G HT e) (qd.go G HT e)⟩
theorem Tr.sfor {c : Ctx} {target iter is rng src body mb} (pos) (h1 : TgtOk c.sc c.vs target is) (qa : Tr (.I c iter rng src)) (qb : Tr (.Xs c body mb)) : Tr (.X c (.For target iter body [] pos) (.for is rng src mb)) := ⟨fun G HT => fun e => .for pos h1 (qa.go G HT e) (qb.go G HT e)⟩
theorem Tr.swhl {c t mt a ma} (pos) (qa : Tr (.T c t mt)) (qb : Tr (.Xs c a ma)) : Tr (.X c (.While t a [] pos) (.whl mt ma)) := ⟨fun G HT => fun e => .whl pos (qa.go G HT e) (qb.go G HT e)⟩
theorem Tr.sret {c e me} (pos) (qa : Tr (.E c e me)) : Tr (.X c (.Return (some e) pos) (.ret (some me))) := ⟨fun G HT => fun e => .ret pos (qa.go G HT e)⟩
theorem Tr.sret0 {c} (pos)  : Tr (.X c (.Return none pos) (.ret none)) := ⟨fun G HT => fun _ => .ret0 pos⟩
theorem Tr.sexp {c e me} (pos) (h1 : noComp e = true) (qa : Tr (.E c e me)) : Tr (.X c (.Expr e pos) (.exp me)) := ⟨fun G HT => fun e => .exp pos h1 (qa.go G HT e)⟩
theorem Tr.stry {c body mb h0 hs} (pos) (qa : Tr (.Xs c body mb)) : Tr (.X c (.Try body (h0 :: hs) [] [] pos) (.try mb)) := ⟨fun G HT => fun e => .try pos (qa.go G HT e)⟩
theorem Tr.xnil {c}  : Tr (.Xs c [] []) := ⟨fun G HT => fun _ => .nil⟩
theorem Tr.xcons {c st l ms ml} (qa : Tr (.X c st ms)) (qb : Tr (.Xs c l ml)) : Tr (.Xs c (st :: l) (ms :: ml)) := ⟨fun G HT => fun e => .cons (qa.go G HT e) (qb.go G HT e)⟩
theorem Tr.sound {prog : Program} {w : World} {B : Heap} {r : Nat} {T : Tab} {gl : List (Str × D)} (G : GF prog w B gl) (HT : TabOk prog w B r T) {j : J} (h : Tr j) : Sem' prog w B r T gl j := h.go G HT
end
section
open PySem PySem.W PySem.Calls PyProof.Rows PySem.SeqAt

noncomputable def cBlt (x : Str) : Option { f : Blt // f.name = x } :=
  if h : Blt.len.name = x then some ⟨_, h⟩ else if h : Blt.sum.name = x then some ⟨_, h⟩ else if h : Blt.int.name = x then some ⟨_, h⟩ else if h : Blt.max.name = x then some ⟨_, h⟩
  else if h : Blt.min.name = x then some ⟨_, h⟩ else if h : Blt.sorted.name = x then some ⟨_, h⟩ else if h : Blt.tuple.name = x then some ⟨_, h⟩ else none
noncomputable def cMth (x : Str) : Option { m : Mth // m.name = x } :=
  if h : Mth.append.name = x then some ⟨_, h⟩ else if h : Mth.insert.name = x then some ⟨_, h⟩ else if h : Mth.pop.name = x then some ⟨_, h⟩ else if h : Mth.index.name = x then some ⟨_, h⟩
  else if h : Mth.split.name = x then some ⟨_, h⟩ else if h : Mth.endswith.name = x then some ⟨_, h⟩ else if h : Mth.lower.name = x then some ⟨_, h⟩ else if h : Mth.upper.name = x then some ⟨_, h⟩
  else if h : Mth.find.name = x then some ⟨_, h⟩ else if h : Mth.startswith.name = x then some ⟨_, h⟩ else if h : Mth.isdigit.name = x then some ⟨_, h⟩ else none

abbrev RE (c : Ctx) (e : Expr) := Option { me : ME // Tr (.E c e me) }
abbrev RT (c : Ctx) (e : Expr) := Option { me : ME // Tr (.T c e me) }
abbrev RL (c : Ctx) (e : List Expr) := Option { me : List ME // Tr (.L c e me) }
abbrev RK (c : Ctx) (e : List Keyword) := Option { me : List (Str × ME) // Tr (.K c e me) }
abbrev RO (c : Ctx) (e : Option Expr) := Option { me : Option ME // Tr (.O c e me) }
structure RI' (c : Ctx) (e : Expr) where
  rng : Bool
  src : List ME
  ok : Tr (.I c e rng src)
abbrev RF (c : Ctx) (e : List Expr) := Option { me : List ME // Tr (.F c e me) }
structure RC' (c : Ctx) (elt iter : Expr) (x : Str) (ifs : List Expr) (scope : Scope) where
  melt : ME
  fv : List Nat
  fvn : List Str
  rng : Bool
  src : List ME
  mifs : List ME
  ok : Tr (.C c elt iter x ifs scope melt fv fvn rng src mifs)

noncomputable def cN (c : Ctx) (x : Str) (p : Pos) : RE c (.Name x p) :=
  if hd : (x == ("__debug__" : Str)) = false then
    match hk : c.sc.names.lookup x with
    | some .local => match hi : nIdx c.vs x with
      | some _ => some ⟨_, .loc p hd hi hk⟩
      | none => none
    | some .cell => match hi : nIdx c.vs x with
      | some _ => some ⟨_, .cell p hd hi hk⟩
      | none => none
    | some .globalImplicit => match hg : c.gl.lookup x with
      | some _ => some ⟨_, .glob p hd hk hg⟩
      | none => none
    | _ => none
  else none

noncomputable def cFv (c : Ctx) (scope : Scope) : (l : List Str) → Option { fv : List Nat // All2 (fun (i : Nat) (y : Str) => c.vs[i]? = some y ∧ c.sc.names.lookup y = some .cell ∧ (y, NameKind.free) ∈ scope.names ∧ (relabelS scope c.sc).names.lookup y = some .cell) fv l }
  | [] => some ⟨[], .nil⟩
  | y :: r => match cFv c scope r, hi : nIdx c.vs y with
    | some ⟨fv, hf⟩, some i => if h : c.sc.names.lookup y = some .cell ∧ (y, NameKind.free) ∈ scope.names ∧ (relabelS scope c.sc).names.lookup y = some .cell then some ⟨i :: fv, .cons ⟨nIdx_ok hi, h⟩ hf⟩ else none
    | _, _ => none

noncomputable def cTg (c : Ctx) : (l : List Expr) → Option { is : List Nat // Tgts c.sc c.vs l is }
  | [] => some ⟨[], .nil⟩
  | e :: r => match e with
    | .Name x p => match cTg c r, hi : nIdx c.vs x with
      | some ⟨is, hf⟩, some i => if h : own? c.sc x = true then some ⟨i :: is, .cons ⟨x, p, rfl, nIdx_ok hi, own_or h⟩ hf⟩ else none
      | _, _ => none
    | _ => none

noncomputable def cTgt (c : Ctx) (e : Expr) : Option { is : List Nat // TgtOk c.sc c.vs e is } := match e with
  | .Name x p => match hi : nIdx c.vs x with
    | some i => if h : own? c.sc x = true then some ⟨[i], .one (nIdx_ok hi) (own_or h)⟩ else none
    | none => none
  | .Tuple elts kd p => match cTg c elts with
    | some ⟨i :: j :: is, h⟩ => some ⟨i :: j :: is, .many h (fun _ q => by cases q)⟩
    | _ => none
  | _ => none

mutual
noncomputable def cE : Nat → (c : Ctx) → (e : Expr) → RE c e
  | 0, _, _ => none
  | n + 1, c, e => match e with
    | .Constant (.int i) kd pos => some ⟨_, .cInt i kd pos⟩
    | .Constant (.str i) kd pos => some ⟨_, .cStr i kd pos⟩
    | .Constant .none kd pos => some ⟨_, .cNone kd pos⟩
    | .Constant (.bool i) kd pos => some ⟨_, .cBool i kd pos⟩
    | .Constant (.float i) kd pos => some ⟨_, .cFlt i kd pos⟩
    | .Name x p => cN c x p
    | .BinOp l op r pos => match cE n c l, cE n c r with
      | some ⟨_, a⟩, some ⟨_, b⟩ => some ⟨_, .bin (op := op) pos a b⟩
      | _, _ => none
    | .UnaryOp .USub e pos => match cE n c e with
      | some ⟨_, a⟩ => some ⟨_, .neg pos a⟩
      | none => none
    | .UnaryOp .Not e pos => match cE n c e with
      | some ⟨_, a⟩ => some ⟨_, .vnot pos a⟩
      | none => none
    | .Compare l [op] [r] pos => if h : behindInMarks op r = false then match cE n c l, cE n c r with
      | some ⟨_, a⟩, some ⟨_, b⟩ => some ⟨_, .cmp pos h a b⟩
      | _, _ => none else none
    | .IfExp t b o pos => match cT n c t, cE n c b, cE n c o with
      | some ⟨_, a⟩, some ⟨_, b⟩, some ⟨_, d⟩ => some ⟨_, .ite pos a b d⟩
      | _, _, _ => none
    | .Subscript v (.Slice lo hi sp p) pos => match cE n c v, cO n c lo, cO n c hi, cO n c sp with
      | some ⟨_, a⟩, some ⟨_, b⟩, some ⟨_, d⟩, some ⟨_, f⟩ => some ⟨_, .slc p pos a b d f⟩
      | _, _, _, _ => none
    | .Subscript v i pos => match cE n c v, cE n c i with
      | some ⟨_, a⟩, some ⟨_, b⟩ => some ⟨_, .idx pos a b⟩
      | _, _ => none
    | .Tuple es kd pos => match cL n c es with
      | some ⟨_, a⟩ => some ⟨_, .tup kd pos a⟩
      | none => none
    | .List es pos => match cL n c es with
      | some ⟨_, a⟩ => some ⟨_, .lst pos a⟩
      | none => none
    | .ListComp elt [⟨.Name x px, iter, ifs, 0⟩] scope pos => match cC n c elt iter x ifs scope with
      | some k => some ⟨_, .comp pos k.ok⟩
      | none => none
    | .Call (.Name x p) args kws pos =>
      match kws, cBlt x, c.gl.lookup x, cL n c args with
      | [], some ⟨f, h⟩, none, some ⟨mas, a⟩ => if h2 : (f.name == ("__debug__" : Str)) = false ∧ c.sc.names.lookup f.name = some .globalImplicit then some ⟨.bcall f mas, h ▸ .bcall p pos h2.1 h2.2 a⟩ else none
      | kws, _, _, some ⟨_, a⟩ => match cN c x p, cK n c kws with
        | some ⟨_, b⟩, some ⟨_, d⟩ => some ⟨_, .call pos b a d⟩
        | _, _ => none
      | _, _, _, _ => none
    | .Call (.Attribute o m apos) args [] pos => match cMth m, cE n c o, cL n c args with
      | some ⟨m', hm⟩, some ⟨mo, a⟩, some ⟨mas, b⟩ => if h : plainBase o = true ∧ (apos.endLine == pos.line) = true ∧ args.length < 30 then some ⟨.meth m' mo mas, hm ▸ .meth apos pos h.1 h.2.1 h.2.2 a b⟩ else none
      | _, _, _ => none
    | _ => none
noncomputable def cT : Nat → (c : Ctx) → (e : Expr) → RT c e
  | 0, _, _ => none
  | n + 1, c, e => match e with
    | .Compare l [op] [r] pos => if h : behindInMarks op r = false then match cE n c l, cE n c r with
      | some ⟨_, a⟩, some ⟨_, b⟩ => some ⟨_, .tcmp pos h a b⟩
      | _, _ => none else none
    | .UnaryOp .Not e pos => match cT n c e with
      | some ⟨_, a⟩ => some ⟨_, .tnot pos a⟩
      | none => none
    | .BoolOp .And l pos => match cA n c l pos with
      | some ⟨l', a⟩ => some ⟨.and l', a⟩
      | none => none
    | .BoolOp .Or l pos => match cB n c l pos with
      | some ⟨l', a⟩ => some ⟨.or l', a⟩
      | none => none
    | e => match cE n c e with
      | some ⟨me, a⟩ => if h : plainTest e = true ∧ plainME me = true then some ⟨me, .tval h.1 h.2 a⟩ else none
      | none => none
noncomputable def cA : Nat → (c : Ctx) → (l : List Expr) → (pos : Pos) → Option { l' : List ME // Tr (.T c (.BoolOp .And l pos) (.and l')) }
  | 0, _, _, _ => none
  | n + 1, c, l, pos => match l with
    | [] => some ⟨[], .tand0 pos⟩
    | x :: r => match cT n c x, cA n c r pos with
      | some ⟨_, a⟩, some ⟨_, b⟩ => some ⟨_, .tand pos a b⟩
      | _, _ => none
noncomputable def cB : Nat → (c : Ctx) → (l : List Expr) → (pos : Pos) → Option { l' : List ME // Tr (.T c (.BoolOp .Or l pos) (.or l')) }
  | 0, _, _, _ => none
  | n + 1, c, l, pos => match l with
    | [] => some ⟨[], .tor0 pos⟩
    | x :: r => match cT n c x, cB n c r pos with
      | some ⟨_, a⟩, some ⟨_, b⟩ => some ⟨_, .tor pos a b⟩
      | _, _ => none
noncomputable def cL : Nat → (c : Ctx) → (l : List Expr) → RL c l
  | 0, _, _ => none
  | n + 1, c, l => match l with
    | [] => some ⟨[], .lnil⟩
    | e :: r => match cE n c e, cL n c r with
      | some ⟨_, a⟩, some ⟨_, b⟩ => if h : notStar e = true then some ⟨_, .lcons h a b⟩ else none
      | _, _ => none
noncomputable def cK : Nat → (c : Ctx) → (l : List Keyword) → RK c l
  | 0, _, _ => none
  | n + 1, c, l => match l with
    | [] => some ⟨[], .knil⟩
    | ⟨some _, e, _⟩ :: r => match cE n c e, cK n c r with
      | some ⟨_, a⟩, some ⟨_, b⟩ => some ⟨_, .kcons a b⟩
      | _, _ => none
    | _ => none
noncomputable def cO : Nat → (c : Ctx) → (o : Option Expr) → RO c o
  | 0, _, _ => none
  | n + 1, c, o => match o with
    | none => some ⟨none, .onone⟩
    | some e => match cE n c e with
      | some ⟨_, a⟩ => some ⟨_, .osome a⟩
      | none => none
noncomputable def cC : Nat → (c : Ctx) → (elt iter : Expr) → (x : Str) → (ifs : List Expr) → (scope : Scope) → Option (RC' c elt iter x ifs scope)
  | 0, _, _, _, _, _, _ => none
  | n + 1, c, elt, iter, x, ifs, scope =>
    match cFv c scope ((scope.names.filter fun y => y.2 == .free).map (·.1)), cI n c iter, cE n (inner c x ((scope.names.filter fun y => y.2 == .free).map (·.1)) scope) elt, cF n (inner c x ((scope.names.filter fun y => y.2 == .free).map (·.1)) scope) ifs with
    | some ⟨_, f⟩, some k, some ⟨_, a⟩, some ⟨_, b⟩ =>
      if h : scope.kind = .function ∧ scope.names.lookup x = some .local ∧ (∀ y ∈ scope.names, y.2 ≠ .cell) ∧ (∀ y ∈ scope.names, y.2 = .local → scope.names.lookup y.1 = some .local) ∧ (x :: (scope.names.filter fun y => y.2 == .free).map (·.1)).Nodup then
        some ⟨_, _, _, _, _, _, .cmk k.ok a b h.1 h.2.1 h.2.2.1 h.2.2.2.1 f (fun y hy hf => List.mem_map.mpr ⟨y, List.mem_filter.mpr ⟨hy, by simp [hf]⟩, rfl⟩) h.2.2.2.2⟩
      else none
    | _, _, _, _ => none
noncomputable def cI : Nat → (c : Ctx) → (e : Expr) → Option (RI' c e)
  | 0, _, _ => none
  | n + 1, c, e => match e with
    | .Call (.Name x p) args [] pos => if hx : x = ("range" : Str) then match cL n c args with
        | some ⟨mas, a⟩ => if h : c.sc.names.lookup ("range" : Str) = some .globalImplicit then some ⟨true, mas, hx ▸ .irng p pos h a⟩ else none
        | none => none
      else match cE n c (.Call (.Name x p) args [] pos) with
        | some ⟨_, a⟩ => some ⟨_, _, .ival rfl a⟩
        | none => none
    | e => match cE n c e with
      | some ⟨_, a⟩ => if h : notSet e = true then some ⟨_, _, .ival h a⟩ else none
      | none => none
noncomputable def cF : Nat → (c : Ctx) → (l : List Expr) → RF c l
  | 0, _, _ => none
  | n + 1, c, l => match l with
    | [] => some ⟨[], .fnil⟩
    | [e] => match cT n c e with
      | some ⟨_, a⟩ => some ⟨_, .fone a⟩
      | none => none
    | _ => none
end

noncomputable def orBad {c : Ctx} {st : Stmt} : Option { ms : MS // Tr (.X c st ms) } → { ms : MS // Tr (.X c st ms) }
  | some x => x
  | none => ⟨.bad, .sbad⟩

mutual
noncomputable def cX : Nat → (c : Ctx) → (st : Stmt) → { ms : MS // Tr (.X c st ms) }
  | 0, _, _ => ⟨.bad, .sbad⟩
  | n + 1, c, st => orBad (match st with
    | .Assign [.Name y py] (.ListComp elt [⟨.Name x px, iter, ifs, 0⟩] scope pos) spos => match cC n c elt iter x ifs scope, hi : nIdx c.vs y with
      | some k, some _ => if h : swComp c.sc y py pos scope = true then some ⟨_, .scmp pos spos h hi k.ok⟩ else none
      | _, _ => none
    | .Assign [.Name x p'] value pos => match cE n c value, hi : nIdx c.vs x with
      | some ⟨_, a⟩, some _ => if h : noComp value = true ∧ own? c.sc x = true then some ⟨_, .sasg pos h.1 hi h.2 a⟩ else none
      | _, _ => none
    | .Assign [.Tuple [.Name a pa, .Name b pb] kd p] (.Tuple [v1, v2] kd' p') pos => match cL n c [v1, v2], hi : nIdx c.vs a, hj : nIdx c.vs b with
      | some ⟨[_, _], q⟩, some _, some _ => if h : swTest c.sc a b pa pb v1 v2 = true then some ⟨_, .sswap pos h hi hj q⟩ else none
      | _, _, _ => none
    | .Assign [.Tuple elts kd p] value pos => match cE n c value, cTg c elts with
      | some ⟨_, a⟩, some ⟨_, t⟩ => if h : noComp value = true ∧ notTuple value = true then some ⟨_, .sunp pos (.tup elts kd p) h.1 h.2 t a⟩ else none
      | _, _ => none
    | .Assign [.List elts p] value pos => match cE n c value, cTg c elts with
      | some ⟨_, a⟩, some ⟨_, t⟩ => if h : noComp value = true ∧ notTuple value = true then some ⟨_, .sunp pos (.lst elts p) h.1 h.2 t a⟩ else none
      | _, _ => none
    | .Assign [.Subscript o i p'] value pos => match cE n c value, cE n c o, cE n c i with
      | some ⟨_, a⟩, some ⟨_, b⟩, some ⟨_, d⟩ => if h : noComp value = true then some ⟨_, .sset p' pos h a b d⟩ else none
      | _, _, _ => none
    | .Delete [.Subscript o i p'] pos => match cE n c o, cE n c i with
      | some ⟨_, b⟩, some ⟨_, d⟩ => some ⟨_, .sdel p' pos b d⟩
      | _, _ => none
    | .If t a b pos => match cT n c t with
      | some ⟨_, k⟩ => some ⟨_, .sif pos k (cXs n c a).2 (cXs n c b).2⟩
      | none => none
    | .For target iter body [] pos => match cTgt c target, cI n c iter with
      | some ⟨_, t⟩, some k => some ⟨_, .sfor pos t k.ok (cXs n c body).2⟩
      | _, _ => none
    | .While t a [] pos => match cT n c t with
      | some ⟨_, k⟩ => some ⟨_, .swhl pos k (cXs n c a).2⟩
      | none => none
    | .Return (some e) pos => match cE n c e with
      | some ⟨_, a⟩ => some ⟨_, .sret pos a⟩
      | none => none
    | .Return none pos => some ⟨_, .sret0 pos⟩
    | .Expr e pos => match cE n c e with
      | some ⟨_, a⟩ => if h : noComp e = true then some ⟨_, .sexp pos h a⟩ else none
      | none => none
    | .Try body (_ :: _) [] [] pos => some ⟨_, .stry pos (cXs n c body).2⟩
    | _ => none)
noncomputable def cXs : Nat → (c : Ctx) → (l : List Stmt) → { ml : List MS // Tr (.Xs c l ml) }
  | 0, _, [] => ⟨[], .xnil⟩
  | 0, _, st :: l => ⟨.bad :: (List.map (fun _ => MS.bad) l), .xcons .sbad (allBad _ l)⟩
  | n + 1, c, l => match l with
    | [] => ⟨[], .xnil⟩
    | st :: l => ⟨(cX n c st).1 :: (cXs n c l).1, .xcons (cX n c st).2 (cXs n c l).2⟩
where allBad (c : Ctx) : (l : List Stmt) → Tr (.Xs c l (List.map (fun _ => MS.bad) l))
  | [] => .xnil
  | _ :: l => .xcons .sbad (allBad c l)
end
end
section
open PySem PySem.W PySem.Calls PyProof.Rows PySem.SeqAt
/-- what the top names stand for -/
noncomputable def glob : List (Str × D) := [("insort_right", .fn 23), ("bisect_right", .fn 32), ("bisect_left", .fn 41), ("rgb_to_hsv", .fn 48), ("hsv_to_rgb", .fn 55),
  ("_monthnames", .frz (months.map .str)), ("_daynames", .frz (days.map .str)), ("_timezones", .dct), ("parsedate_tz", .fn 65), ("_parsedate_tz", .fn 72), ("_format_timetuple_and_zone", .fn 79),
  ("_law_when", .fn 86), ("_law_image", .fn 93), ("_law_moved", .fn 100), ("_law_exchanges", .fn 105), ("_law_told", .fn 112), ("law", .fn 117)]
noncomputable def scopeOf : Option Stmt → Scope
  | some (.FunctionDef _ _ _ _ _ _ scope _ _ _) => scope
  | _ => ⟨.function, [], false, false, []⟩
noncomputable def bodyOf : Option Stmt → List Stmt
  | some (.FunctionDef _ _ body _ _ _ _ _ _ _) => body
  | _ => []
noncomputable def stmtAt (i : Nat) : Option Stmt := PySem.Challenge.pw_rl0118_01.main.body[i]?
noncomputable def scAt (i : Nat) : Scope := scopeOf (stmtAt i)
noncomputable def bdAt (i : Nat) : List Stmt := bodyOf (stmtAt i)
noncomputable def vsAt (i : Nat) : List Str := ((scAt i).names.filter fun y => y.2 == .local || y.2 == .cell).map (·.1)
noncomputable def ctxAt (i : Nat) : Ctx := ⟨scAt i, vsAt i, glob⟩
noncomputable def mbAt (i : Nat) : List MS := (cXs 60 (ctxAt i) (bdAt i)).1
end
section
open PySem PySem.W PySem.Calls PyProof.Rows PySem.SeqAt
variable {prog : Program} {w : World} {B : Heap} {r : Nat} {gl : List (Str × D)} {T : Tab} {sc : Scope} {vs : List Str}

/-- what is handed back, the callee's own lists let go -/
inductive RetT (n : Nat) : D → Cs → D → Cs → Prop where
  | keep {d : D} {C : Cs} : closedD n d → Closed n (C.take n) → RetT n d C d (C.take n)
  | list {j : Nat} {l : List D} {C : Cs} : n ≤ j → C[j]? = some l → (∀ d ∈ l, closedD n d) → Closed n (C.take n) → RetT n (.lst j) C (.lst n) (C.take n ++ [l])

theorem take_app {n : Nat} {σ : Gh} {a : Addr} : (⟨σ.ad.take n, σ.fl⟩ : Gh).Le ⟨σ.ad.take n ++ [a], σ.fl⟩ := ⟨List.prefix_append _ _, fun _ _ t => t⟩
theorem RepVs.cut {σ : Gh} {h : Heap} {us : List Value} {l : List D} {m : Nat} (q : RepVs B σ h us l) (c : ∀ d ∈ l, closedD m d) : RepVs B ⟨σ.ad.take m, σ.fl⟩ h us l := by
  induction q with
  | nil => exact .nil
  | cons x _ ih => exact .cons (x.cut (c _ (.head _))) (ih fun d hd => c d (.tail _ hd))
theorem at_last {α : Type} {l : List α} {n k : Nat} {a b : α} (hl : l.length = n) (h : (l ++ [a])[k]? = some b) : k < n ∨ (k = n ∧ b = a) := by
  rcases Nat.lt_or_ge k n with q | q
  · exact .inl q
  · rw [List.getElem?_append_right (by rw [hl]; exact q), hl] at h
    have := (List.getElem?_eq_some_iff.mp h).1
    have e : k - n = 0 := Nat.lt_one_iff.mp this
    rw [e] at h
    exact .inr ⟨Nat.le_antisymm (Nat.le_of_sub_eq_zero e) q, (Option.some.inj h).symm⟩
theorem ret_list {σ : Gh} {s : Shared} {C : Cs} {n j : Nat} {a : Addr} {l : List D} (R : Rep B σ s.heap C) (hle : n ≤ C.length) (p : σ.ad[j]? = some a) (h1 : n ≤ j) (h2 : C[j]? = some l) (h3 : ∀ d ∈ l, closedD n d) (h4 : Closed n (C.take n)) :
    Rep B ⟨σ.ad.take n ++ [a], σ.fl⟩ s.heap (C.take n ++ [l]) ∧ (σ.ad.take n ++ [a])[n]? = some a := by
  have R0 := R.cut h4
  have lc : (C.take n).length = n := List.length_take_of_le hle
  have len : (σ.ad.take n).length = n := List.length_take_of_le (by rw [R.len]; exact hle)
  have up : ∀ {us : List Value} {es : List D}, RepVs B ⟨σ.ad.take n, σ.fl⟩ s.heap us es → RepVs B ⟨σ.ad.take n ++ [a], σ.fl⟩ s.heap us es := fun x => x.imp fun _ _ q => q.mono (fun _ _ t => t) take_app
  have hlast : (σ.ad.take n ++ [a])[n]? = some a := by rw [List.getElem?_append_right (Nat.le_of_eq len), len, Nat.sub_self]; rfl
  refine ⟨⟨R.base, by show (σ.ad.take n ++ [a]).length = _; rw [List.length_append, List.length_append, len, lc]; rfl, fun k b ds q1 q2 => ?_, fun b hb => ?_, ?_⟩, hlast⟩
  · have q1 : (σ.ad.take n ++ [a])[k]? = some b := q1
    rcases at_last len q1 with hk | ⟨rfl, rfl⟩
    · rw [List.getElem?_append_left (by rw [lc]; exact hk)] at q2
      rw [List.getElem?_append_left (by rw [len]; exact hk)] at q1
      obtain ⟨us, pl, ru⟩ := R0.cell k b ds q1 q2
      exact ⟨us, pl, up ru⟩
    · rcases at_last lc q2 with hk | ⟨_, rfl⟩
      · exact absurd hk (Nat.lt_irrefl _)
      · obtain ⟨us, pl, ru⟩ := R.cell j _ _ p h2
        exact ⟨us, pl, up (ru.cut h3)⟩
  · rcases List.mem_append.mp hb with hb | hb
    · exact R0.new b hb
    · rw [List.mem_singleton.mp hb]; exact R.new _ (List.mem_of_getElem? p)
  · show (σ.ad.take n ++ [a]).Nodup
    refine List.nodup_append.mpr ⟨R0.inj, List.nodup_cons.mpr ⟨List.not_mem_nil, List.nodup_nil⟩, fun x hx y hy => ?_⟩
    rw [List.mem_singleton.mp hy]
    rintro rfl
    obtain ⟨i, hi, e⟩ := List.mem_iff_getElem.mp hx
    have hi' : i < n := Nat.lt_of_lt_of_eq hi len
    have q : σ.ad[i]? = some x := by rw [← List.getElem?_take_of_lt hi', List.getElem?_eq_getElem hi, e]
    exact absurd (Nat.lt_of_lt_of_le hi' h1) (by rw [nodup_at R.inj q p]; exact Nat.lt_irrefl _)
noncomputable def RetP (B : Heap) (σ0 : Gh) (s : Shared) (v : Value) (d' : D) (C' : Cs) : Prop := ∃ σ', Rep B σ' s.heap C' ∧ RepV B σ' s.heap v d' ∧ σ0.Le σ' ∧ Tk σ' s
theorem ret_ok {σ0 σ : Gh} {s : Shared} {C C' : Cs} {v : Value} {d d' : D} {n : Nat} (tk : Tk σ s) (R : Rep B σ s.heap C) (rv : RepV B σ s.heap v d) (le : σ0.Le σ) (hn : σ0.ad.length = n) (h : RetT n d C d' C') : RetP B σ0 s v d' C' := by
  have hle : n ≤ C.length := by rw [← hn, ← R.len]; exact le.ad.length_le
  have pre : σ0.ad <+: σ.ad.take n := take_prefix le.ad (Nat.le_of_eq hn)
  revert R rv hle
  induction h with
  | keep h1 h2 => exact fun R rv hle => ⟨_, R.cut h2, rv.cut h1, ⟨pre, le.fl⟩, ⟨tk.pos, tk.lt⟩⟩
  | list h1 h2 h3 h4 =>
    intro R rv hle
    obtain ⟨a, rfl, p⟩ := rv.l
    have q := ret_list R hle p h1 h2 h3 h4
    exact ⟨_, q.1, .lst q.2, ⟨pre.trans (List.prefix_append _ _), le.fl⟩, ⟨tk.pos, tk.lt⟩⟩

noncomputable def outD : Out → D
  | .next => .at .none
  | .ret d => d
noncomputable def RetK (n : Nat) (k : KE) : KX := fun o _ C' => ∃ d C'', RetT n (outD o) C' d C'' ∧ k d C''

structure FnAt (B : Heap) (f : Addr) (fd : FuncData) : Prop where
  obj : ∃ o, B.get? f = some o ∧ o.data = .func fd
  code : B.CodeRec fd.code fd.qualname
  clo : fd.closure = []
  gl : fd.globals = mainGlobals
  bl : fd.builtins = builtinsNs
  co : fd.scope.isCoroutine = false
  gen : fd.scope.isGenerator = false
  kind : fd.scope.kind = .function
  nocell : ∀ x ∈ fd.scope.names, x.2 ≠ .cell

theorem closed_val {σ : Gh} {h : Heap} {C : Cs} {v : Value} {d : D} (R : Rep B σ h C) (q : RepV B σ h v d) : closedD C.length d := by
  cases d with
  | lst k => obtain ⟨a, _, p⟩ := q.l; rw [← R.len]; exact (List.getElem?_eq_some_iff.mp p).1
  | _ => trivial
theorem closed_rep {σ : Gh} {h : Heap} {C : Cs} (R : Rep B σ h C) : Closed C.length C := by
  intro l hl d hd
  obtain ⟨k, hk, rfl⟩ := List.mem_iff_getElem.mp hl
  obtain ⟨a, us, _, _, ru⟩ := R.at (List.getElem?_eq_getElem hk)
  obtain ⟨v, q⟩ := ru.ofIdx hd
  exact closed_val R q
theorem closed_vals {σ : Gh} {h : Heap} {C : Cs} {us : List Value} {ds : List D} (R : Rep B σ h C) (q : RepVs B σ h us ds) : ∀ d ∈ ds, closedD C.length d := by
  intro d hd
  obtain ⟨v, hv⟩ := q.ofIdx hd
  exact closed_val R hv

/-- the frame's locals at the start of a call -/
noncomputable def LocR (B : Heap) (σ : Gh) (h : Heap) (vs : List Str) (binds : List (Str × Value)) (loc : Loc) : Prop :=
  loc.length = vs.length ∧ ∀ (i : Nat) x d, vs[i]? = some x → loc[i]? = some (some d) → ∃ v, binds.reverse.lookup x = some v ∧ RepV B σ h v d

theorem lookup_mem {α : Type} : ∀ {l : List (Str × α)} {x : Str} {a : α}, l.lookup x = some a → (x, a) ∈ l
  | [], _, _, h => by simp at h
  | (y, b) :: l, x, a, h => by
    rw [List.lookup_cons] at h
    by_cases e : x = y
    · subst e; simp at h; subst h; simp
    · have : (x == y) = false := by simpa using e
      rw [this] at h
      exact List.mem_cons_of_mem _ (lookup_mem h)

theorem spec_of (G : GF prog w B gl) {f : Addr} {fd : FuncData} {body : List Stmt} {mb : List MS} (Fa : FnAt B f fd) (hb : fd.body = .stmts body) (hs : SXs prog w B r T fd.scope vs body mb) (nd : vs.Nodup) {sp : Spec}
    (h : ∀ (s : Shared) σ C vals kvals args kws k, Rep B σ s.heap C → RepVs B σ s.heap vals args → KwR B σ s.heap kvals kws → sp args kws C k → Closed C.length C → (∀ d ∈ args, closedD C.length d) →
      ∃ binds loc n, BindsTo s fd ⟨vals, kvals⟩ binds ∧ (∀ x ∈ binds, fd.scope.names.lookup x.1 = some .local) ∧ LocR B σ s.heap vs binds loc ∧ Xs T n mb loc C (RetK C.length k)) :
    SpecOk prog w B (r + 1) f sp := by
  intro A σ s vals kvals args kws C k room tk R ra rk hsp
  obtain ⟨binds, loc, n, hbi, hlo, hlr, hX⟩ := h s σ C vals kvals args kws k R ra rk hsp (closed_rep R) (closed_vals R ra)
  obtain ⟨o, ho, hdat⟩ := Fa.obj
  have hk : ∀ b o, B.get? b = some o → s.heap.get? b = some o := R.base
  have hlim : s.heap.NoLimit := let ⟨mc, p, q⟩ := G.nolimit; ⟨mc, ns_base R p, q⟩
  refine wpAny_call (codeAny_call_def (by have := room.dp; omega) (hk _ _ ho) hdat hlim (Fa.code.keeps hk) hb hbi Fa.nocell hlo (fun h0 hns g => ?_) Fa.co Fa.gen Fa.kind)
  have room' : Room r (A.deeper (callEnv fd s.heap.objs.size f)) := ⟨room.hd, by show A.depth + 1 + r < _; have := room.dp; omega, by show A.units + 3 + 8 * r + 100 < _; have := room.un; omega⟩
  have R0 : Rep B σ h0 C := R.grow g
  have st0 : Step [] σ s σ { s with heap := h0, toks := s.toks + binds.length } := Step.grow tk (Nat.le_add_right _ _) g
  have hB : B.get? s.heap.objs.size = none := (R.freshAt (get?_size _)).1
  have ok : EnvOk fd.scope vs (callEnv fd s.heap.objs.size f) := ⟨rfl, Fa.kind, Fa.gl, Fa.bl, nd, fun x y c h1 h2 => by
    have h1 : fd.closure.lookup x = some c := h1
    rw [Fa.clo] at h1; cases h1⟩
  have nocell : ∀ x, (callEnv fd s.heap.objs.size f).kindOf x ≠ some .cell := fun x h1 => by
    have h1 : fd.scope.names.lookup x = some .cell := h1
    exact Fa.nocell _ (lookup_mem h1) rfl
  have F0 : Frm B (callEnv fd s.heap.objs.size f) vs σ h0 loc := by
    refine ⟨⟨_, hns, fun i x d h1 h2 h3 => ?_⟩, hB, fun i x h1 h2 => absurd h2 (nocell x), hlr.1⟩
    obtain ⟨v, q1, q2⟩ := hlr.2 i x d h1 h3
    exact ⟨v, q1, q2.mono (fun b us ⟨o, ho, q⟩ => ⟨o, g _ _ ho, q⟩) (.refl _)⟩
  refine wp_no (hs _ ok n loc C _ hX _ σ _ room' st0.tk R0 F0) fun fl s1 p => ?_
  refine p.use fun o1 loc1 C1 σ1 hk2 fr R1 F1 st1 => ?_
  obtain ⟨d, C2, hrt, hk2⟩ := hk2
  have own : ownOf (callEnv fd s.heap.objs.size f) vs = [s.heap.objs.size] := by
    have : (vs.filter fun x => (callEnv fd s.heap.objs.size f).kindOf x == some .cell) = [] := List.filter_eq_nil_iff.mpr fun x _ h1 => nocell x (eq_of_beq h1)
    unfold ownOf
    rw [this]; rfl
  have X1 := st1.ext
  rw [own] at X1
  have X : Ext [] s.heap s1.heap := ⟨fun b ob q1 _ q3 => X1.keep b ob (g _ _ q1) (fun hm => by rw [List.mem_singleton.mp hm] at q1; exact Nat.lt_irrefl _ (Heap.lt_size q1)) q3, fun b us q => X1.tup b us (st0.ext.tup b us q), fun b ob q => X1.live b ob (g _ _ q)⟩
  have fin : ∀ v, RepV B σ1 s1.heap v (outD o1) → Post B σ s k v s1 := fun v rv => by
    obtain ⟨σ2, R2, rv2, le2, tk2⟩ := ret_ok st1.tk R1 rv (st0.pre.trans st1.pre) R.len hrt
    exact ⟨d, C2, σ2, hk2, rv2, R2, le2, X, st0.same.trans st1.same, tk2⟩
  clear p hrt
  revert fin
  induction fr with
  | next => exact fun fin => fin _ (.at .none)
  | ret q => exact fun fin => fin _ q
end
section
open PySem PySem.W PySem.Calls PyProof.Rows PySem.SeqAt
set_option maxHeartbeats 4000000
/-- the bodies, worked out -/
noncomputable def lit1 : { mb // mbAt 1 = mb } := by
  refine ⟨?mb, ?e⟩
  case e => conv => lhs; reduce
noncomputable def lit2 : { mb // mbAt 2 = mb } := by
  refine ⟨?mb, ?e⟩
  case e => conv => lhs; reduce
noncomputable def lit3 : { mb // mbAt 3 = mb } := by
  refine ⟨?mb, ?e⟩
  case e => conv => lhs; reduce
noncomputable def lit5 : { mb // mbAt 5 = mb } := by
  refine ⟨?mb, ?e⟩
  case e => conv => lhs; reduce
noncomputable def lit6 : { mb // mbAt 6 = mb } := by
  refine ⟨?mb, ?e⟩
  case e => conv => lhs; reduce
noncomputable def lit11 : { mb // mbAt 11 = mb } := by
  refine ⟨?mb, ?e⟩
  case e => conv => lhs; reduce
noncomputable def lit12 : { mb // mbAt 12 = mb } := by
  refine ⟨?mb, ?e⟩
  case e => conv => lhs; reduce
noncomputable def lit14 : { mb // mbAt 14 = mb } := by
  refine ⟨?mb, ?e⟩
  case e => conv => lhs; reduce
noncomputable def lit16 : { mb // mbAt 16 = mb } := by
  refine ⟨?mb, ?e⟩
  case e => conv => lhs; reduce
noncomputable def lit17 : { mb // mbAt 17 = mb } := by
  refine ⟨?mb, ?e⟩
  case e => conv => lhs; reduce
noncomputable def lit18 : { mb // mbAt 18 = mb } := by
  refine ⟨?mb, ?e⟩
  case e => conv => lhs; reduce
noncomputable def lit19 : { mb // mbAt 19 = mb } := by
  refine ⟨?mb, ?e⟩
  case e => conv => lhs; reduce
noncomputable def lit20 : { mb // mbAt 20 = mb } := by
  refine ⟨?mb, ?e⟩
  case e => conv => lhs; reduce
noncomputable def lit21 : { mb // mbAt 21 = mb } := by
  refine ⟨?mb, ?e⟩
  case e => conv => lhs; reduce
end
section
open PySem PySem.W PySem.Calls PyProof.Rows PySem.SeqAt
set_option maxHeartbeats 4000000
variable {T : Tab} {n : Nat} {loc loc' : Loc} {C C' : Cs} {k : KE} {kx : KX} {kb : Bool → Cs → Prop} {p q : Prop}

/-! where a walk by computation stops: a test, a value that is there, a bound -/
theorem br_t {b : Bool} (e : b = true) (h : p) : br b p q := by subst e; exact h
theorem br_f {b : Bool} (e : b = false) (h : q) : br b p q := by subst e; exact h
theorem br_2 {b : Bool} (h : b = true → p) (h2 : b = false → q) : br b p q := by
  cases b with
  | false => exact h2 rfl
  | true => exact h rfl
theorem wn {b : Bool} (e : b = true) (h : p) : want b p := by subst e; exact h
theorem wn_le {a b : Nat} (e : a ≤ b) (h : p) : want (Nat.ble a b) p := wn (Nat.ble_eq_true_of_le e) h
theorem wn_lt {a b : Nat} (e : a < b) (h : p) : want (Nat.blt a b) p := wn (Nat.ble_eq_true_of_le e) h
theorem op {α : Type} {o : Option α} {a : α} {f : α → Prop} (e : o = some a) (h : f a) : optK o f := by subst e; exact h
theorem seqIdx_nat {i : Int} {j n : Nat} (e : i = j) (h : j < n) : seqIndex? i n = some j := by
  subst e
  unfold seqIndex?
  have h1 : ¬ ((j : Int) < 0) := by omega
  simp [h1, h]
theorem sq {α : Type} {l : List α} {j : Nat} {i : Int} {d : α} {f : α → Prop} (e : i = j) (hd : l[j]? = some d) (hl : l.length < 2 ^ 60) (h : f d) : seqAt l i f :=
  op (seqIdx_nat e (List.getElem?_eq_some_iff.mp hd).1) (op hd (wn_lt hl h))
theorem dv {y : Int} (c1 : 0 < y) (c2 : y < 2 ^ 60) : divr y = true := Bool.and_eq_true_iff.mpr ⟨decide_eq_true c1, decide_eq_true c2⟩

theorem lk_last {l : List D} : (C ++ [l])[C.length]? = some l := by simp
theorem lk_old {t : Cs} {x : Nat} {l : List D} (h : C[x]? = some l) : (C ++ t)[x]? = some l := by
  rw [List.getElem?_append_left (List.getElem?_eq_some_iff.mp h).1]; exact h
theorem lk_set {x : Nat} {l l' : List D} (h : C[x]? = some l) : (C.set x l')[x]? = some l' := List.getElem?_set_self (List.getElem?_eq_some_iff.mp h).1
theorem lk_set' {x y : Nat} {l l' : List D} (hn : x ≠ y) (h : C[y]? = some l) : (C.set x l')[y]? = some l := by rw [List.getElem?_set_ne hn]; exact h
end
section
open PySem PySem.W PySem.Calls PyProof.Rows PySem.SeqAt
set_option maxHeartbeats 4000000
variable {T : Tab} {n : Nat} {loc loc' : Loc} {C C' : Cs} {k : KE} {kx : KX}

theorem closed_take (h : Closed C.length C) : C.take C.length = C := List.take_of_length_le (Nat.le_refl _)
theorem rk_same {d : D} (hC : Closed C.length C) (hd : closedD C.length d) (h : k d C) : RetK C.length k (.ret d) [] C :=
  ⟨d, C.take C.length, .keep hd (by rw [closed_take hC]; exact hC), by rw [closed_take hC]; exact h⟩
theorem rk_none (hC : Closed C.length C) (h : k (.at .none) C) : RetK C.length k .next [] C :=
  ⟨.at .none, C.take C.length, .keep trivial (by rw [closed_take hC]; exact hC), by rw [closed_take hC]; exact h⟩
theorem rk_junk {d : D} {J : Cs} (hC : Closed C.length C) (hd : closedD C.length d) (h : k d C) : RetK C.length k (.ret d) [] (C ++ J) := by
  have e : (C ++ J).take C.length = C := by simp
  exact ⟨d, (C ++ J).take C.length, .keep hd (by rw [e]; exact hC), by rw [e]; exact h⟩
theorem rk_list {j : Nat} {l : List D} {J : Cs} (hC : Closed C.length C) (hj : C.length ≤ j) (e1 : (C ++ J)[j]? = some l) (hl : ∀ d ∈ l, closedD C.length d) (h : k (.lst C.length) (C ++ [l])) : RetK C.length k (.ret (.lst j)) [] (C ++ J) := by
  have e : (C ++ J).take C.length = C := by simp
  exact ⟨.lst C.length, (C ++ J).take C.length ++ [l], .list hj e1 hl (by rw [e]; exact hC), by rw [e]; exact h⟩

-- _law_when
noncomputable def spWhen : Spec := fun args kws C k => ∃ a l, args = [.tup (a :: l)] ∧ kws = [] ∧ l.length < 100 ∧ k (.at a) C
theorem ev16 {a : At} {l : List At} (hC : Closed C.length C) (hl : l.length < 100) (h : k (.at a) C) : Xs T 20 lit16.1 [some (.tup (a :: l))] C (RetK C.length k) := by
  refine sq (j := 0) rfl rfl (by simp; omega) ?_
  exact rk_same hC trivial h

-- _law_image
noncomputable def img (a b s : Int) : Int := if a = s ∨ b = s then a + b - s else s
noncomputable def spImage : Spec := fun args kws C k => ∃ a b s, args = [.tup [.int a, .int b], dint s] ∧ kws = [] ∧ k (dint (img a b s)) C
theorem ev17 {a b s : Int} (hC : Closed C.length C) (h : k (dint (img a b s)) C) : Xs T 20 lit17.1 [some (.tup [.int a, .int b]), some (dint s)] C (RetK C.length k) := by
  unfold img at h
  refine br_2 (fun c => ?_) (fun c => ?_)
  · rw [if_pos (by simpa using c)] at h
    exact rk_same hC trivial h
  · rw [if_neg (by simpa using c)] at h
    exact rk_same hC trivial h
end
section
open PySem PySem.W PySem.Calls PyProof.Rows PySem.SeqAt
set_option maxHeartbeats 4000000
variable {T : Tab} {n : Nat} {loc loc' : Loc} {C C' : Cs} {k : KE} {kx : KX}

/-- binary search: right and left -/
noncomputable def bsR (lt : Nat → Bool) : Nat → Nat → Nat → Nat
  | 0, lo, _ => lo
  | f + 1, lo, hi => if lo < hi then (if lt ((lo + hi) / 2) = true then bsR lt f lo ((lo + hi) / 2) else bsR lt f ((lo + hi) / 2 + 1) hi) else lo
noncomputable def bsL (lt : Nat → Bool) : Nat → Nat → Nat → Nat
  | 0, lo, _ => lo
  | f + 1, lo, hi => if lo < hi then (if lt ((lo + hi) / 2) = true then bsL lt f ((lo + hi) / 2 + 1) hi else bsL lt f lo ((lo + hi) / 2)) else lo
noncomputable abbrev md (lo hi : Nat) : Int := ((lo : Int) + (hi : Int)) / Int.ofNat 2
theorem mid_eq (lo hi : Nat) : md lo hi = (((lo + hi) / 2 : Nat) : Int) := (Int.natCast_ediv (lo + hi) 2).symm
theorem mid_eq1 (lo hi : Nat) : md lo hi + Int.ofNat 1 = (((lo + hi) / 2 + 1 : Nat) : Int) := congrArg (· + 1) (mid_eq lo hi)
theorem mid_lt {lo hi : Nat} (c : lo < hi) : (lo + hi) / 2 < hi := by omega
theorem mid_l {lo hi fu : Nat} (c : lo < hi) (h : hi - lo ≤ fu + 1) : (lo + hi) / 2 - lo ≤ fu := by omega
theorem mid_r {lo hi fu : Nat} (c : lo < hi) (h : hi - lo ≤ fu + 1) : hi - ((lo + hi) / 2 + 1) ≤ fu := by omega
theorem nat_lt {lo hi : Nat} {p q : Prop} (c : lo < hi) (h : p) : br (decide ((lo : Int) < (hi : Int))) p q := br_t (decide_eq_true (Int.ofNat_lt.mpr c)) h
theorem nat_ge {lo hi : Nat} {p q : Prop} (c : ¬ lo < hi) (h : q) : br (decide ((lo : Int) < (hi : Int))) p q := br_f (decide_eq_false fun e => c (Int.ofNat_lt.mp e)) h
theorem no_lt {lo hi : Nat} (h : hi - lo ≤ 0) : ¬ lo < hi := Nat.not_lt.mpr (Nat.le_of_sub_eq_zero (Nat.le_zero.mp h))
theorem lt60 {a : Nat} (h : a < 2 ^ 40) : a < 2 ^ 60 := Nat.lt_trans h (by decide)
/-- an item of a list of images -/
theorem sqm {α : Type} {g : α → D} {l : List α} {j : Nat} {i : Int} {a : α} {f : D → Prop} (e : i = j) (hj : j < l.length) (hl : l.length < 2 ^ 40) (h : f (g (l.getD j a))) : seqAt (l.map g) i f :=
  sq e (by rw [List.getElem?_map, List.getElem?_eq_getElem hj, List.getD_eq_getElem?_getD, List.getElem?_eq_getElem hj]; rfl) (by rw [List.length_map]; exact lt60 hl) h

-- the loops: test and body
noncomputable def whlOf : List MS → ME × List MS
  | .whl t b :: _ => (t, b)
  | _ :: r => whlOf r
  | [] => (.bad, [])
noncomputable def brOf (b : Bool) : List MS → List MS
  | .ifs _ l r :: s => brOf b s ++ (match b with | true => l | false => r)
  | _ :: s => brOf b s
  | [] => []
noncomputable abbrev w2a := whlOf (brOf true lit2.1)
noncomputable abbrev w2b := whlOf (brOf false lit2.1)
noncomputable abbrev w3a := whlOf (brOf true lit3.1)
theorem whl2F {fs : List UInt64} {f : UInt64} {x : Nat} (hx : C[x]? = some (fs.map dflt)) (hlen : fs.length < 2 ^ 40) : ∀ (fu lo hi N : Nat) (mid : Option D) (zl zh : Int), zl = lo → zh = hi → hi - lo ≤ fu → hi ≤ fs.length → fu < N →
    (∀ hi' mid', kx .next [some (.lst x), some (dflt f), some (dint (bsR (fun i => flt? f (fs.getD i 0)) fu lo hi : Nat)), hi', some (.at .none), mid'] C) →
    whlL (EF T (n + 30)) (Xs T (n + 30)) w2a.1 w2a.2 kx N [some (.lst x), some (dflt f), some (dint zl), some (dint zh), some (.at .none), mid] C := by
  intro fu
  induction fu with
  | zero =>
    rintro lo hi N mid _ _ rfl rfl h1 h2 h3 h
    obtain ⟨N, rfl⟩ := Nat.exists_eq_succ_of_ne_zero (Nat.ne_zero_of_lt h3)
    exact nat_ge (no_lt h1) (h _ _)
  | succ fu ih =>
    rintro lo hi N mid _ _ rfl rfl h1 h2 h3 h
    obtain ⟨N, rfl⟩ := Nat.exists_eq_succ_of_ne_zero (Nat.ne_zero_of_lt h3)
    unfold bsR at h
    by_cases c : lo < hi
    · rw [if_pos c] at h
      have hm := mid_lt c
      refine nat_lt c (op hx (sqm (mid_eq lo hi) (a := 0) (Nat.lt_of_lt_of_le hm h2) hlen (br_2 (fun c2 => ?_) (fun c2 => ?_))))
      · rw [if_pos c2] at h
        exact ih lo _ N (some (dint (md lo hi))) lo (md lo hi) rfl (mid_eq lo hi) (mid_l c h1) (Nat.le_trans (Nat.le_of_lt hm) h2) (Nat.lt_of_succ_lt_succ h3) h
      · rw [if_neg (ne_true_of_eq_false c2)] at h
        exact ih _ hi N (some (dint (md lo hi))) (md lo hi + Int.ofNat 1) hi (mid_eq1 lo hi) rfl (mid_r c h1) h2 (Nat.lt_of_succ_lt_succ h3) h
    · rw [if_neg c] at h
      exact nat_ge c (h _ _)
/-- keys of letters -/
noncomputable def keyed (ts : List (Int × List At)) : List D := ts.map fun p => .tup (.int p.1 :: p.2)
theorem keyed_len (ts : List (Int × List At)) : (keyed ts).length = ts.length := by simp [keyed]
theorem getD_mem {α : Type} {l : List α} {j : Nat} {a : α} (h : j < l.length) : l.getD j a ∈ l := by
  rw [List.getD_eq_getElem?_getD, List.getElem?_eq_getElem h]; exact List.getElem_mem h
theorem whl2K {ts : List (Int × List At)} {f : Int} {x : Nat} (hT : T.lookup 86 = some spWhen) (hx : C[x]? = some (keyed ts)) (hs : ∀ p ∈ ts, p.2.length < 100) (hlen : ts.length < 2 ^ 40) : ∀ (fu lo hi N : Nat) (mid : Option D) (zl zh : Int), zl = lo → zh = hi → hi - lo ≤ fu → hi ≤ ts.length → fu < N →
    (∀ hi' mid', kx .next [some (.lst x), some (dint f), some (dint (bsR (fun i => decide (f < (ts.getD i (0, [])).1)) fu lo hi : Nat)), hi', some (.fn 86), mid'] C) →
    whlL (EF T (n + 30)) (Xs T (n + 30)) w2b.1 w2b.2 kx N [some (.lst x), some (dint f), some (dint zl), some (dint zh), some (.fn 86), mid] C := by
  intro fu
  induction fu with
  | zero =>
    rintro lo hi N mid _ _ rfl rfl h1 h2 h3 h
    obtain ⟨N, rfl⟩ := Nat.exists_eq_succ_of_ne_zero (Nat.ne_zero_of_lt h3)
    exact nat_ge (no_lt h1) (h _ _)
  | succ fu ih =>
    rintro lo hi N mid _ _ rfl rfl h1 h2 h3 h
    obtain ⟨N, rfl⟩ := Nat.exists_eq_succ_of_ne_zero (Nat.ne_zero_of_lt h3)
    unfold bsR at h
    by_cases c : lo < hi
    · rw [if_pos c] at h
      have hm := mid_lt c
      have hm2 := Nat.lt_of_lt_of_le hm h2
      refine nat_lt c (op hx (sqm (mid_eq lo hi) (a := (0, [])) hm2 hlen (op hT ⟨_, _, rfl, rfl, hs _ (getD_mem hm2), br_2 (fun c2 => ?_) (fun c2 => ?_)⟩)))
      · rw [if_pos c2] at h
        exact ih lo _ N (some (dint (md lo hi))) lo (md lo hi) rfl (mid_eq lo hi) (mid_l c h1) (Nat.le_trans (Nat.le_of_lt hm) h2) (Nat.lt_of_succ_lt_succ h3) h
      · rw [if_neg (ne_true_of_eq_false c2)] at h
        exact ih _ hi N (some (dint (md lo hi))) (md lo hi + Int.ofNat 1) hi (mid_eq1 lo hi) rfl (mid_r c h1) h2 (Nat.lt_of_succ_lt_succ h3) h
    · rw [if_neg c] at h
      exact nat_ge c (h _ _)
theorem whl3F {fs : List UInt64} {f : UInt64} {x : Nat} (hx : C[x]? = some (fs.map dflt)) (hlen : fs.length < 2 ^ 40) : ∀ (fu lo hi N : Nat) (mid : Option D) (zl zh : Int), zl = lo → zh = hi → hi - lo ≤ fu → hi ≤ fs.length → fu < N →
    (∀ hi' mid', kx .next [some (.lst x), some (dflt f), some (dint (bsL (fun i => flt? (fs.getD i 0) f) fu lo hi : Nat)), hi', some (.at .none), mid'] C) →
    whlL (EF T (n + 30)) (Xs T (n + 30)) w3a.1 w3a.2 kx N [some (.lst x), some (dflt f), some (dint zl), some (dint zh), some (.at .none), mid] C := by
  intro fu
  induction fu with
  | zero =>
    rintro lo hi N mid _ _ rfl rfl h1 h2 h3 h
    obtain ⟨N, rfl⟩ := Nat.exists_eq_succ_of_ne_zero (Nat.ne_zero_of_lt h3)
    exact nat_ge (no_lt h1) (h _ _)
  | succ fu ih =>
    rintro lo hi N mid _ _ rfl rfl h1 h2 h3 h
    obtain ⟨N, rfl⟩ := Nat.exists_eq_succ_of_ne_zero (Nat.ne_zero_of_lt h3)
    unfold bsL at h
    by_cases c : lo < hi
    · rw [if_pos c] at h
      have hm := mid_lt c
      refine nat_lt c (op hx (sqm (mid_eq lo hi) (a := 0) (Nat.lt_of_lt_of_le hm h2) hlen (br_2 (fun c2 => ?_) (fun c2 => ?_))))
      · rw [if_pos c2] at h
        exact ih _ hi N (some (dint (md lo hi))) (md lo hi + Int.ofNat 1) hi (mid_eq1 lo hi) rfl (mid_r c h1) h2 (Nat.lt_of_succ_lt_succ h3) h
      · rw [if_neg (ne_true_of_eq_false c2)] at h
        exact ih lo _ N (some (dint (md lo hi))) lo (md lo hi) rfl (mid_eq lo hi) (mid_l c h1) (Nat.le_trans (Nat.le_of_lt hm) h2) (Nat.lt_of_succ_lt_succ h3) h
    · rw [if_neg c] at h
      exact nat_ge c (h _ _)

-- the three searches
theorem lt40 {a : Nat} (h : a < 900) : a < 2 ^ 40 := Nat.lt_trans h (by decide)
theorem ev2F {fs : List UInt64} {f : UInt64} {x : Nat} (hx : C[x]? = some (fs.map dflt)) (hlen : fs.length < 900) (hC : Closed C.length C) (h : k (dint (bsR (fun i => flt? f (fs.getD i 0)) fs.length 0 fs.length : Nat)) C) :
    Xs T 60 lit2.1 [some (.lst x), some (dflt f), some (dint 0), some (.at .none), some (.at .none), none] C (RetK C.length k) := by
  refine op hx (wn_lt (by rw [List.length_map]; exact lt60 (lt40 hlen)) ?_)
  refine ⟨_, whl2F hx (lt40 hlen) fs.length 0 fs.length (fs.length + 1) none 0 ((fs.map dflt).length : Nat) rfl (congrArg _ (List.length_map _)) (Nat.le_refl _) (Nat.le_refl _) (Nat.lt_succ_self _) fun hi' mid' => ?_⟩
  exact rk_same hC trivial h
theorem ev3F {fs : List UInt64} {f : UInt64} {x : Nat} (hx : C[x]? = some (fs.map dflt)) (hlen : fs.length < 900) (hC : Closed C.length C) (h : k (dint (bsL (fun i => flt? (fs.getD i 0) f) fs.length 0 fs.length : Nat)) C) :
    Xs T 60 lit3.1 [some (.lst x), some (dflt f), some (dint 0), some (.at .none), some (.at .none), none] C (RetK C.length k) := by
  refine op hx (wn_lt (by rw [List.length_map]; exact lt60 (lt40 hlen)) ?_)
  refine ⟨_, whl3F hx (lt40 hlen) fs.length 0 fs.length (fs.length + 1) none 0 ((fs.map dflt).length : Nat) rfl (congrArg _ (List.length_map _)) (Nat.le_refl _) (Nat.le_refl _) (Nat.lt_succ_self _) fun hi' mid' => ?_⟩
  exact rk_same hC trivial h
theorem ev2K {ts : List (Int × List At)} {f : Int} {x : Nat} (hT : T.lookup 86 = some spWhen) (hx : C[x]? = some (keyed ts)) (hs : ∀ p ∈ ts, p.2.length < 100) (hlen : ts.length < 900) (hC : Closed C.length C)
    (h : k (dint (bsR (fun i => decide (f < (ts.getD i (0, [])).1)) ts.length 0 ts.length : Nat)) C) :
    Xs T 60 lit2.1 [some (.lst x), some (dint f), some (dint 0), some (.at .none), some (.fn 86), none] C (RetK C.length k) := by
  refine op hx (wn_lt (by rw [keyed_len]; exact lt60 (lt40 hlen)) ?_)
  refine ⟨_, whl2K hT hx hs (lt40 hlen) ts.length 0 ts.length (ts.length + 1) none 0 ((keyed ts).length : Nat) rfl (congrArg _ (keyed_len _)) (Nat.le_refl _) (Nat.le_refl _) (Nat.lt_succ_self _) fun hi' mid' => ?_⟩
  exact rk_same hC trivial h

noncomputable abbrev rightF (fs : List UInt64) (f : UInt64) : Nat := bsR (fun i => flt? f (fs.getD i 0)) fs.length 0 fs.length
noncomputable abbrev rightK (ts : List (Int × List At)) (f : Int) : Nat := bsR (fun i => decide (f < (ts.getD i (0, [])).1)) ts.length 0 ts.length
noncomputable abbrev leftF (fs : List UInt64) (f : UInt64) : Nat := bsL (fun i => flt? (fs.getD i 0) f) fs.length 0 fs.length
noncomputable def spBR : Spec := fun args kws C k =>
  (∃ x f r fs q, args = .lst x :: dflt f :: r ∧ kws = [] ∧ (r = [] ∨ r = [dint 0, .at .none]) ∧ C[x]? = some (fs.map dflt) ∧ fs.length < 900 ∧ rightF fs f = q ∧ k (dint (q : Nat)) C) ∨
  (∃ x f ts, args = [.lst x, dint f, dint 0, .at .none] ∧ kws = [(Str.ofString "key", .fn 86)] ∧ C[x]? = some (keyed ts) ∧ (∀ p ∈ ts, p.2.length < 100) ∧ ts.length < 900 ∧ k (dint (rightK ts f)) C)
noncomputable def spBL : Spec := fun args kws C k => ∃ x f fs q, args = [.lst x, dflt f] ∧ kws = [] ∧ C[x]? = some (fs.map dflt) ∧ fs.length < 900 ∧ leftF fs f = q ∧ k (dint (q : Nat)) C

-- insort_right
theorem bsR_le (lt : Nat → Bool) : ∀ (fu lo hi : Nat), lo ≤ hi → bsR lt fu lo hi ≤ hi := by
  intro fu
  induction fu with
  | zero => exact fun lo hi h => h
  | succ fu ih =>
    intro lo hi h
    unfold bsR
    by_cases c : lo < hi
    · rw [if_pos c]
      have hm := mid_lt c
      by_cases c2 : lt ((lo + hi) / 2) = true
      · rw [if_pos c2]; exact Nat.le_trans (ih _ _ (by omega)) (Nat.le_of_lt hm)
      · rw [if_neg c2]; exact ih _ _ hm
    · rw [if_neg c]; exact h
noncomputable def insAt (l : List D) (i : Nat) (d : D) : List D := l.take i ++ d :: l.drop i
theorem rk_set {x : Nat} {l : List D} (hC : Closed C.length C) (hl : ∀ d ∈ l, closedD C.length d) (h : k (.at .none) (C.set x l)) : RetK C.length k .next [] (C.set x l) := by
  have e : (C.set x l).take C.length = C.set x l := List.take_of_length_le (by simp)
  refine ⟨.at .none, (C.set x l).take C.length, .keep trivial ?_, by rw [e]; exact h⟩
  rw [e]
  intro m hm d hd
  rcases List.mem_or_eq_of_mem_set hm with hm | rfl
  · exact hC m hm d hd
  · exact hl d hd
theorem closed_ins {m i : Nat} {l : List D} {d : D} (hl : ∀ d ∈ l, closedD m d) (hd : closedD m d) : ∀ e ∈ insAt l i d, closedD m e := by
  intro e he
  unfold insAt at he
  rcases List.mem_append.mp he with he | he
  · exact hl e (List.mem_of_mem_take he)
  · rcases List.mem_cons.mp he with rfl | he
    · exact hd
    · exact hl e (List.mem_of_mem_drop he)
theorem closed_flts {m : Nat} (fs : List UInt64) : ∀ d ∈ fs.map dflt, closedD m d := fun d hd => let ⟨_, _, e⟩ := List.mem_map.mp hd; e ▸ trivial
theorem closed_keyed {m : Nat} (ts : List (Int × List At)) : ∀ d ∈ keyed ts, closedD m d := fun d hd => let ⟨_, _, e⟩ := List.mem_map.mp hd; e ▸ trivial
theorem ev1F {fs : List UInt64} {f : UInt64} {x : Nat} (hT : T.lookup 32 = some spBR) (hx : C[x]? = some (fs.map dflt)) (hlen : fs.length < 900) (hC : Closed C.length C)
    (h : k (.at .none) (C.set x (insAt (fs.map dflt) (rightF fs f) (dflt f)))) :
    Xs T 60 lit1.1 [some (.lst x), some (dflt f), some (dint 0), some (.at .none), some (.at .none)] C (RetK C.length k) := by
  refine op hT (.inl ⟨_, _, _, fs, _, rfl, rfl, .inr rfl, hx, hlen, rfl, ?_⟩)
  have hb : rightF fs f ≤ (fs.map dflt).length := by rw [List.length_map]; exact bsR_le _ _ _ _ (Nat.zero_le _)
  refine op hx ⟨⟨Int.natCast_nonneg _, Int.ofNat_le.mpr hb, by rw [List.length_map]; exact Nat.lt_trans hlen (by decide)⟩, ?_⟩
  exact rk_set hC (closed_ins (i := rightF fs f) (d := dflt f) (closed_flts fs) trivial) h
theorem ev1K {ts : List (Int × List At)} {f : Int} {l : List At} {x : Nat} (hT : T.lookup 32 = some spBR) (hT2 : T.lookup 86 = some spWhen) (hx : C[x]? = some (keyed ts)) (hs : ∀ p ∈ ts, p.2.length < 100) (hlen : ts.length < 900) (hl : l.length < 100) (hC : Closed C.length C)
    (h : k (.at .none) (C.set x (insAt (keyed ts) (rightK ts f) (.tup (.int f :: l))))) :
    Xs T 60 lit1.1 [some (.lst x), some (.tup (.int f :: l)), some (dint 0), some (.at .none), some (.fn 86)] C (RetK C.length k) := by
  refine op hT2 ⟨_, _, rfl, rfl, hl, op hT (.inr ⟨_, _, ts, rfl, rfl, hx, hs, hlen, ?_⟩)⟩
  have hb : rightK ts f ≤ (keyed ts).length := by rw [keyed_len]; exact bsR_le _ _ _ _ (Nat.zero_le _)
  refine op hx ⟨⟨Int.natCast_nonneg _, Int.ofNat_le.mpr hb, by rw [keyed_len]; exact Nat.lt_trans hlen (by decide)⟩, ?_⟩
  exact rk_set hC (closed_ins (i := rightK ts f) (d := .tup (.int f :: l)) (closed_keyed ts) trivial) h
noncomputable def spIns : Spec := fun args kws C k =>
  (∃ x f fs l', args = [.lst x, dflt f] ∧ kws = [] ∧ C[x]? = some (fs.map dflt) ∧ fs.length < 900 ∧ insAt (fs.map dflt) (rightF fs f) (dflt f) = l' ∧ k (.at .none) (C.set x l')) ∨
  (∃ x f l ts l', args = [.lst x, .tup (.int f :: l)] ∧ kws = [(Str.ofString "key", .fn 86)] ∧ l.length < 100 ∧ C[x]? = some (keyed ts) ∧ (∀ p ∈ ts, p.2.length < 100) ∧ ts.length < 900 ∧
      insAt (keyed ts) (rightK ts f) (.tup (.int f :: l)) = l' ∧ k (.at .none) (C.set x l'))
end
section
open PySem PySem.W PySem.Calls PyProof.Rows PySem.SeqAt
set_option maxHeartbeats 4000000
variable {T : Tab} {n : Nat} {loc loc' : Loc} {C C' : Cs} {k : KE} {kx : KX}

theorem run_pick {α : Type} (l : List α) (a : Nat) (m : Nat) : ((List.range m).map (a + ·)).filterMap (l[·]?) = (l.drop a).take m := by
  have := pick_run l.toArray a m
  simpa using this
theorem pick_of {α : Type} {l : List α} {lo hi : Option Int} {a b : Nat} (e : sliceBounds lo hi none l.length = ((a : Int), (b : Int), 1)) : pick l lo hi none = (l.drop a).take (b - a) := by
  unfold pick
  rw [e]
  simp only [sliceRange_one, run_pick]
theorem bnd_from {a n : Nat} (ha : a ≤ n) : sliceBounds (some (a : Int)) none none n = ((a : Int), (n : Int), 1) := by
  have h1 : ¬ ((a : Int) < 0) := Int.not_lt.mpr (Int.natCast_nonneg a)
  simp only [sliceBounds, Option.getD_none, h1, if_false, show (1 : Int) > 0 by decide, if_true, Int.min_eq_left (Int.ofNat_le.mpr ha), Int.max_eq_right (Int.natCast_nonneg a)]
theorem bnd_to (b n : Nat) : sliceBounds none (some (b : Int)) none n = (((0 : Nat) : Int), ((min b n : Nat) : Int), 1) := by
  have h1 : ¬ ((b : Int) < 0) := Int.not_lt.mpr (Int.natCast_nonneg b)
  simp only [sliceBounds, Option.getD_none, h1, if_false, show (1 : Int) > 0 by decide, if_true]
  exact congrArg (fun z => ((0 : Int), z, (1 : Int))) (by omega)
theorem bnd_full (n : Nat) : sliceBounds none none none n = (((0 : Nat) : Int), (n : Int), 1) := by
  simp only [sliceBounds, Option.getD_none, show (1 : Int) > 0 by decide, if_true]
  rfl
theorem bnd_sub {a b n : Nat} (hb : b ≤ n) (hab : a ≤ b) : sliceBounds (some (a : Int)) (some (b : Int)) none n = ((a : Int), (b : Int), 1) := by
  have h1 : ¬ ((a : Int) < 0) := Int.not_lt.mpr (Int.natCast_nonneg a)
  have h2 : ¬ ((b : Int) < 0) := Int.not_lt.mpr (Int.natCast_nonneg b)
  simp only [sliceBounds, Option.getD_none, h1, h2, if_false, show (1 : Int) > 0 by decide, if_true, Int.min_eq_left (Int.ofNat_le.mpr hb), Int.min_eq_left (Int.ofNat_le.mpr (Nat.le_trans hab hb)), Int.max_eq_right (Int.natCast_nonneg a), Int.max_eq_right (Int.natCast_nonneg b)]
theorem pick_from {α : Type} (l : List α) (a : Nat) (ha : a ≤ l.length) : pick l (some (a : Int)) none none = l.drop a :=
  (pick_of (bnd_from ha)).trans (List.take_of_length_le (by rw [List.length_drop]; exact Nat.le_refl _))
theorem pick_to {α : Type} (l : List α) (b : Nat) : pick l none (some (b : Int)) none = l.take b := by
  rw [pick_of (bnd_to b l.length), List.drop_zero, Nat.sub_zero, ← List.take_take, List.take_of_length_le (Nat.le_refl l.length)]
theorem pick_full {α : Type} (l : List α) : pick l none none none = l := by
  rw [pick_of (bnd_full l.length), List.drop_zero, Nat.sub_zero, List.take_of_length_le (Nat.le_refl l.length)]
theorem pick_sub {α : Type} (l : List α) (a b : Nat) (hb : b ≤ l.length) (hab : a ≤ b) : pick l (some (a : Int)) (some (b : Int)) none = (l.drop a).take (b - a) :=
  pick_of (bnd_sub hb hab)
theorem sl_any {x : Nat} {l m : List D} {lo hi : Option D} {a b : Option Int} (e1 : part lo = some a) (e2 : part hi = some b) (e : C[x]? = some l) (hl : l.length ≤ sizeLine) (ep : pick l a b none = m) (h : k (.lst C.length) (C ++ [m])) : slcOp (.lst x) lo hi none C k := by
  exact ⟨op e1 (op e2 (op rfl (op e (wn_le hl (wn rfl (by rw [ep]; exact h))))))⟩
theorem sl_to {x b : Nat} {l : List D} {i : Int} (hi : i = b) (e : C[x]? = some l) (hl : l.length ≤ sizeLine) (h : k (.lst C.length) (C ++ [l.take b])) : slcOp (.lst x) none (some (dint i)) none C k :=
  sl_any rfl rfl e hl (hi ▸ pick_to l b) h
theorem sl_from {x a : Nat} {l : List D} {i : Int} (hi : i = a) (e : C[x]? = some l) (ha : a ≤ l.length) (hl : l.length ≤ sizeLine) (h : k (.lst C.length) (C ++ [l.drop a])) : slcOp (.lst x) (some (dint i)) none none C k :=
  sl_any rfl rfl e hl (hi ▸ pick_from l a ha) h
/-- two lists, one behind the other -/
theorem ad {l m : List D} {p : Prop} (hl : l.length ≤ 1000) (hm : m.length ≤ 1000) (h : p) : want (Nat.ble (l.length + m.length) sizeLine) p := wn_le (Nat.le_trans (Nat.add_le_add hl hm) (by decide)) h
theorem line9 {a : Nat} (h : a ≤ 1000) : a ≤ sizeLine := Nat.le_trans h (by decide)

-- _law_moved
abbrev Pr := Int × Int
noncomputable def pr (p : Pr) : D := .tup [.int p.1, .int p.2]
noncomputable def movedTwo (one other : Pr) (ahead : Bool) : List Pr := match ahead with
  | true => [other, (img other.1 other.2 one.1, img other.1 other.2 one.2)]
  | false => [(img one.1 one.2 other.1, img one.1 one.2 other.2), one]
noncomputable def moved (row : List Pr) (at' : Nat) (ahead : Bool) : List Pr :=
  row.take at' ++ movedTwo (row.getD at' (0, 0)) (row.getD (at' + 1) (0, 0)) ahead ++ row.drop (at' + 2)
theorem pr_closed {m : Nat} (row : List Pr) : ∀ d ∈ row.map pr, closedD m d := fun d hd => let ⟨_, _, e⟩ := List.mem_map.mp hd; e ▸ trivial
theorem rk_lst {j : Nat} {l : List D} {Cf : Cs} (hC : Closed C.length C) (e : Cf.take C.length = C) (hj : C.length ≤ j) (e1 : Cf[j]? = some l) (hl : ∀ d ∈ l, closedD C.length d) (h : k (.lst C.length) (C ++ [l])) : RetK C.length k (.ret (.lst j)) [] Cf :=
  ⟨.lst C.length, Cf.take C.length ++ [l], .list hj e1 hl (by rw [e]; exact hC), by rw [e]; exact h⟩
theorem rk_val {d : D} {Cf : Cs} (hC : Closed C.length C) (e : Cf.take C.length = C) (hd : closedD C.length d) (h : k d C) : RetK C.length k (.ret d) [] Cf :=
  ⟨d, Cf.take C.length, .keep hd (by rw [e]; exact hC), by rw [e]; exact h⟩
theorem call_img (hT : T.lookup 93 = some spImage) {a b s : Int} (h : k (dint (img a b s)) C) : callOp T (.fn 93) [.tup [.int a, .int b], dint s] [] C k := op hT ⟨_, _, _, rfl, rfl, h⟩
theorem movedTwo_len (one other : Pr) (ahead : Bool) : (movedTwo one other ahead).length = 2 := by cases ahead <;> rfl
/-- the tail of _law_moved -/
theorem moved_tail {row two : List Pr} {at' x : Nat} (a b c : Option D) (hx : C[x]? = some (row.map pr)) (ha : at' + 2 ≤ row.length) (hlen : row.length < 900) (h2 : two.length = 2) (hC : Closed C.length C) (h : k (.lst C.length) (C ++ [(row.take at' ++ two ++ row.drop (at' + 2)).map pr])) :
    Xs T 98 (lit18.1.drop 2) [some (.lst x), some (dint (at' : Nat)), a, b, c, some (.lst C.length)] (C ++ [two.map pr]) (RetK C.length k) := by
  have e0 : (row.map pr).length ≤ 1000 := by rw [List.length_map]; exact Nat.le_of_lt (Nat.lt_trans hlen (by decide))
  have e2 : (two.map pr).length = 2 := (List.length_map _).trans h2
  refine sl_to (b := at') rfl (lk_old hx) (line9 e0) ?_
  have l1 : ((row.map pr).take at' ++ two.map pr).length ≤ 902 := by rw [List.length_append, e2]; exact Nat.add_le_add_right (Nat.le_trans (List.length_take_le' ..) (by rw [List.length_map]; exact Nat.le_of_lt hlen)) 2
  refine op lk_last (op (lk_old lk_last) (ad (Nat.le_trans (List.length_take_le' ..) e0) (by rw [e2]; decide) ?_))
  refine sl_from (a := at' + 2) rfl (lk_old (lk_old (lk_old hx))) (by rw [List.length_map]; exact ha) (line9 e0) ?_
  refine op (lk_old lk_last) (op lk_last (ad (Nat.le_trans l1 (by decide)) (by rw [List.length_drop]; exact Nat.le_trans (Nat.sub_le ..) e0) ?_))
  have q : (row.map pr).take at' ++ two.map pr ++ (row.map pr).drop (at' + 2) = (row.take at' ++ two ++ row.drop (at' + 2)).map pr := by rw [List.map_append, List.map_append, List.map_take, List.map_drop]
  exact rk_lst hC (by simp [List.append_assoc]) (by simp) lk_last (by rw [q]; exact pr_closed _) (by rw [q]; exact h)
theorem ev18 {row : List Pr} {at' : Nat} {ahead : Bool} {x : Nat} (hT : T.lookup 93 = some spImage) (hx : C[x]? = some (row.map pr)) (ha : at' + 1 < row.length) (hlen : row.length < 900) (hC : Closed C.length C)
    (h : k (.lst C.length) (C ++ [(moved row at' ahead).map pr])) :
    Xs T 100 lit18.1 [some (.lst x), some (dint (at' : Nat)), some (dbool ahead), none, none, none] C (RetK C.length k) := by
  have h9 := lt40 hlen
  refine op hx (sqm (a := (0, 0)) rfl (Nat.lt_of_succ_lt ha) h9 (op hx (sqm (j := at' + 1) (a := (0, 0)) rfl ha h9 ?_)))
  unfold moved at h
  generalize row.getD at' (0, 0) = one at *
  generalize row.getD (at' + 1) (0, 0) = other at *
  cases ahead with
  | true =>
    refine op hT ⟨_, _, _, rfl, rfl, op hT ⟨_, _, _, rfl, rfl, ?_⟩⟩
    exact (moved_tail (T := T) (two := [other, (img other.1 other.2 one.1, img other.1 other.2 one.2)]) (some (dbool true)) (some (pr one)) (some (pr other)) hx ha hlen rfl hC h :)
  | false =>
    refine op hT ⟨_, _, _, rfl, rfl, op hT ⟨_, _, _, rfl, rfl, ?_⟩⟩
    exact (moved_tail (T := T) (two := [(img one.1 one.2 other.1, img one.1 one.2 other.2), one]) (some (dbool false)) (some (pr one)) (some (pr other)) hx ha hlen rfl hC h :)
end
section
open PySem PySem.W PySem.Calls PyProof.Rows PySem.SeqAt
set_option maxHeartbeats 400000
variable {T : Tab} {n : Nat} {loc loc' : Loc} {C C' : Cs} {k : KE} {kx : KX}

-- loops: what stands at the i-th place
theorem trim_id {m0 : Nat} (h : m0 ≤ C.length) : TrimL m0 loc C loc C := ⟨C.length, h, (List.take_of_length_le (Nat.le_refl _)).symm, fun q => absurd q (Nat.lt_irrefl _), rfl, fun _ _ q => ⟨q, fun q => absurd q (Nat.lt_irrefl _)⟩⟩
theorem it_lst {x i : Nat} {l : List D} {o : Option D} (e : C[x]? = some l) (e2 : l[i]? = o) : itemAt (.d (.lst x)) i C = some o := Option.map_eq_some_iff.mpr ⟨l, e, e2⟩
theorem it_tup {i : Nat} {l : List At} {o : Option D} (e : (l[i]?).map D.at = o) : itemAt (.d (.tup l)) i C = some o := congrArg some e
theorem it_rng {lo hi : Int} {i : Nat} (h : lo + (i : Int) < hi) : itemAt (.rng lo hi) i [] = some (some (dint (lo + i))) := congrArg some (if_pos h)
theorem it_rngE {lo hi : Int} {i : Nat} (h : ¬ lo + (i : Int) < hi) : itemAt (.rng lo hi) i [] = some none := congrArg some (if_neg h)
theorem set_last {l l' : List D} : (C ++ [l]).set C.length l' = C ++ [l'] := by
  rw [List.set_append_right _ _ (Nat.le_refl _), Nat.sub_self]; rfl
theorem take_next {α : Type} {l : List α} {i : Nat} {d : α} (h : l[i]? = some d) : l.take i ++ [d] = l.take (i + 1) := by
  rw [List.take_add_one, h]; rfl
theorem succ_of {a b : Nat} (h : a < b) : ∃ c, b = c + 1 := Nat.exists_eq_succ_of_ne_zero (Nat.ne_zero_of_lt h)

noncomputable def compOf : List MS → ME
  | .asg _ (.comp e _ _ _ _) :: _ => e
  | _ :: r => compOf r
  | [] => .bad
noncomputable def forOf : List MS → List MS
  | .for _ _ _ b :: _ => b
  | _ :: r => forOf r
  | [] => []
noncomputable def row0 (m : Nat) : List Pr := (List.range m).map fun i => (0, ((i + 1 : Nat) : Int))
theorem row0_len (m : Nat) : (row0 m).length = m := by simp [row0]
theorem row0_get {m i : Nat} (h : i < m) : ((row0 m).map pr)[i]? = some (.tup [.int (Int.ofNat 0), .int (Int.ofNat 1 + (i : Int))]) := by
  rw [List.getElem?_map, show (row0 m)[i]? = some (0, ((i + 1 : Nat) : Int)) by simp [row0, h], Nat.add_comm i 1]; rfl
theorem lt_of_add {i r m : Nat} (h : i + (r + 1) = m) : i < m := Nat.lt_of_lt_of_eq (Nat.lt_add_of_pos_right (Nat.succ_pos r)) h
theorem add_succ_of {i r m : Nat} (h : i + (r + 1) = m) : i + 1 + r = m := (Nat.add_right_comm i 1 r).trans h
theorem r1_in {i m : Nat} (h : i < m) : Int.ofNat 1 + (i : Int) < ((m + 1 : Nat) : Int) := Int.ofNat_lt.mpr (by omega : 1 + i < m + 1)
theorem r1_out {i m : Nat} (h : m ≤ i) : ¬ Int.ofNat 1 + (i : Int) < ((m + 1 : Nat) : Int) := Int.not_lt.mpr (Int.ofNat_le.mpr (by omega : m + 1 ≤ 1 + i))
theorem comp19_ok {fvs : Loc} {m : Nat} {z : Int} (hz : z = ((m + 1 : Nat) : Int)) (hm : m < 900) (h : k (.lst C.length) (C ++ [(row0 m).map pr])) : ∀ (r i N : Nat) (C1 : Cs), i + r = m → r < N → C1 = C ++ [((row0 m).map pr).take i] →
    compL (EF T (n + 20)) (compOf lit19.1) [] fvs (.rng (Int.ofNat 1) z) C.length k N i C1 := by
  subst hz
  intro r
  induction r with
  | zero =>
    rintro i N _ h1 h2 rfl
    obtain ⟨N, rfl⟩ := succ_of h2
    refine op (it_rngE (r1_out (Nat.le_of_eq h1.symm))) ?_
    have e : ((row0 m).map pr).take i = (row0 m).map pr := List.take_of_length_le (by rw [List.length_map, row0_len]; exact Nat.le_of_eq h1.symm)
    exact e.symm ▸ h
  | succ r ih =>
    rintro i N _ h1 h2 rfl
    obtain ⟨N, rfl⟩ := succ_of h2
    refine op (it_rng (r1_in (lt_of_add h1))) ?_
    refine op lk_last (wn_le (line9 (Nat.le_trans (List.length_take_le' ..) (by rw [List.length_map, row0_len]; exact Nat.le_of_lt (Nat.lt_trans hm (by decide))))) ?_)
    exact ih (i + 1) N _ (add_succ_of h1) (Nat.lt_of_succ_lt_succ h2) (set_last.trans (congrArg (fun l => C ++ [l]) (take_next (row0_get (lt_of_add h1)))))

noncomputable def movedZ (many : Nat) (row : List Pr) (z : Int) : List Pr := moved row (z % ((many : Int) - 2)).toNat (decide (z / 12 % 2 = 1))
theorem moved_len (row : List Pr) (a : Nat) (b : Bool) (h : a + 1 < row.length) : (moved row a b).length = row.length := by
  unfold moved
  rw [List.length_append, List.length_append, movedTwo_len, List.length_take, List.length_drop]
  omega
noncomputable def spMoved : Spec := fun args kws C k => ∃ x a b row, args = [.lst x, dint a, dbool b] ∧ kws = [] ∧ C[x]? = some (List.map pr row) ∧ 0 ≤ a ∧ a + 1 < row.length ∧ row.length < 900 ∧ k (.lst C.length) (C ++ [(moved row a.toNat b).map pr])
theorem tk_le {Cf : Cs} (h : Cf.take C.length = C) : C.length ≤ Cf.length :=
  h ▸ List.length_take_le' _ _
theorem tk_app {Cf t : Cs} (h : Cf.take C.length = C) : (Cf ++ t).take C.length = C := by
  rw [List.take_append_of_le_length (tk_le h)]; exact h
theorem tk_self : C.take C.length = C := List.take_of_length_le (Nat.le_refl _)
theorem lk_take {Cf : Cs} (h : Cf.take C.length = C) {x : Nat} {l : List D} (hx : C[x]? = some l) : Cf[x]? = some l := by
  exact (List.getElem?_take_of_lt (List.getElem?_eq_some_iff.mp hx).1).symm.trans ((congrArg (·[x]?) h).trans hx)
theorem go1 {m0 : Nat} {P : Loc → Cs → Prop} (hm : m0 ≤ C.length) (h : P loc C) : ∃ loc' C', TrimL m0 loc C loc' C' ∧ P loc' C' := ⟨_, _, trim_id hm, h⟩
theorem md_ge {a m : Int} (h : 0 < m) : 0 ≤ a % m := Int.emod_nonneg a (Int.ne_of_gt h)
/-- the loop over the numbers -/
theorem for19_ok {zs : List Int} {w M : Int} {x m0 : Nat} {sp0 at0 : Option D} (hT : T.lookup 100 = some spMoved) (hx : C[x]? = some (zs.map dint)) (hM : M = ((zs.length + 1 : Nat) : Int)) (h3 : 3 ≤ zs.length) (h9 : zs.length < 900) (hm0 : m0 ≤ C.length + 1) :
    ∀ (r i N : Nat) (row : List Pr) (Cf : Cs) (j : Nat) (z : Option D), i + r = zs.length → r < N → row.length = zs.length → Cf.take C.length = C → C.length ≤ j → Cf[j]? = some (row.map pr) → m0 ≤ Cf.length →
      (∀ (Cf : Cs) (j : Nat) (z : Option D), Cf.take C.length = C → C.length ≤ j → Cf[j]? = some (((zs.drop i).foldl (movedZ (zs.length + 1)) row).map pr) → kx .next [some (dint w), some (.lst x), some (dint M), sp0, some (.lst j), z, at0] Cf) →
      forL (Xs T (n + 40)) m0 [5] (.d (.lst x)) (forOf lit19.1) kx N i [some (dint w), some (.lst x), some (dint M), sp0, some (.lst j), z, at0] Cf := by
  have hM2 : 0 < M - Int.ofNat 2 := by subst hM; show 0 < ((zs.length + 1 : Nat) : Int) - 2; omega
  have hM3 : M - Int.ofNat 2 < 2 ^ 60 := by subst hM; show ((zs.length + 1 : Nat) : Int) - 2 < 2 ^ 60; omega
  have hM4 : ∀ z : Int, (z % (M - Int.ofNat 2)) + 1 < zs.length := fun z => by
    have := Int.emod_lt_of_pos z hM2
    have e : M - Int.ofNat 2 = (zs.length : Int) - 1 := by subst hM; show ((zs.length + 1 : Nat) : Int) - 2 = (zs.length : Int) - 1; omega
    omega
  intro r
  induction r with
  | zero =>
    intro i N row Cf j z h1 h2 hr h4 h5 h6 h7 h
    obtain ⟨N, rfl⟩ := succ_of h2
    refine op (it_lst (lk_take h4 hx) (List.getElem?_eq_none (by rw [List.length_map]; exact Nat.le_of_eq h1.symm))) ?_
    have ed : zs.drop i = [] := List.drop_of_length_le (Nat.le_of_eq h1.symm)
    rw [ed] at h
    exact h Cf j z h4 h5 h6
  | succ r ih =>
    intro i N row Cf j z h1 h2 hr h4 h5 h6 h7 h
    obtain ⟨N, rfl⟩ := succ_of h2
    have hi := lt_of_add h1
    rw [List.drop_eq_getElem_cons hi, List.foldl_cons] at h
    have ei : (zs.map dint)[i]? = some (dint zs[i]) := by rw [List.getElem?_map, List.getElem?_eq_getElem hi]; rfl
    generalize zs[i] = zi at h ei
    refine op (it_lst (lk_take h4 hx) ei) ?_
    refine wn (dv hM2 hM3) ?_
    have hz := hM4 zi
    have hz0 := md_ge (a := zi) hM2
    refine op hT ⟨_, _, _, row, rfl, rfl, h6, hz0, hr.symm ▸ hz, hr.symm ▸ h9, ?_⟩
    refine go1 (Nat.le_trans h7 (by rw [List.length_append]; exact Nat.le_add_right _ _)) ?_
    have hl : (movedZ (zs.length + 1) row zi).length = zs.length := (moved_len _ _ _ (by subst hM; rw [hr]; show (zi % (((zs.length + 1 : Nat) : Int) - 2)).toNat + 1 < _; have : zi % (((zs.length + 1 : Nat) : Int) - 2) + 1 < zs.length := hz; have : 0 ≤ zi % (((zs.length + 1 : Nat) : Int) - 2) := hz0; omega)).trans hr
    subst hM
    exact ih (i + 1) N (movedZ (zs.length + 1) row zi) _ Cf.length (some (dint zi)) (add_succ_of h1) (Nat.lt_of_succ_lt_succ h2) hl (tk_app h4) (tk_le h4) lk_last (Nat.le_trans h7 (by rw [List.length_append]; exact Nat.le_add_right _ _)) h
end
section
open PySem PySem.W PySem.Calls PyProof.Rows PySem.SeqAt
set_option maxHeartbeats 400000
variable {T : Tab} {n : Nat} {loc loc' : Loc} {C C' : Cs} {k : KE} {kx : KX}

noncomputable def swapAt (row : List Pr) (p : Nat) : List Pr := row.take p ++ [row.getD (p + 1) (0, 0), row.getD p (0, 0)] ++ row.drop (p + 2)
noncomputable def putAt (row : List Pr) (p : Nat) (q : Pr) : List Pr := row.take p ++ [q] ++ row.drop (p + 1)
noncomputable def exchSwap (w : Int) (many : Nat) (row : List Pr) : List Pr := if w % 3 = 1 then swapAt row (w / 3 % ((many : Int) - 2)).toNat else row
noncomputable def putPair (w : Int) (many : Nat) : Pr := (w / 12 % (many : Int), (w / 12 % (many : Int) + 1 + w / 72 % ((many : Int) - 1)) % (many : Int))
noncomputable def exchPut (w : Int) (many : Nat) (row : List Pr) : List Pr := if w % 3 = 2 then putAt row (w / 3 % ((many : Int) - 1)).toNat (putPair w many) else row
noncomputable def exch (w : Int) (zs : List Int) : List Pr := exchPut w (zs.length + 1) (exchSwap w (zs.length + 1) (zs.foldl (movedZ (zs.length + 1)) (row0 zs.length)))

theorem md_nat {a m : Int} (h : 0 < m) : a % m = ((a % m).toNat : Int) := (Int.toNat_of_nonneg (md_ge h)).symm
theorem md_lt {a m : Int} {b : Nat} (h : 0 < m) (hb : m ≤ b) : (a % m).toNat < b := by
  have := Int.emod_lt_of_pos a h
  have := md_ge (a := a) h
  omega
theorem swap_len (row : List Pr) (p : Nat) (h : p + 1 < row.length) : (swapAt row p).length = row.length := by
  unfold swapAt
  rw [List.length_append, List.length_append, List.length_take, List.length_drop]
  show min p row.length + 2 + _ = _
  omega
theorem map_len {row : List Pr} {b : Nat} (h : row.length ≤ b) : (row.map pr).length ≤ b := by rw [List.length_map]; exact h
theorem take_map {row : List Pr} {p b : Nat} (h : row.length ≤ b) : ((row.map pr).take p).length ≤ b := Nat.le_trans (List.length_take_le' ..) (map_len h)
theorem drop_map {row : List Pr} {p b : Nat} (h : row.length ≤ b) : ((row.map pr).drop p).length ≤ b := by rw [List.length_drop]; exact Nat.le_trans (Nat.sub_le ..) (map_len h)
theorem tk4 {a b c d : List D} {Cf : Cs} (h : Cf.take C.length = C) : (Cf ++ [a] ++ [b] ++ [c] ++ [d]).take C.length = C := tk_app (tk_app (tk_app (tk_app h)))
theorem rk_new {l : List D} {Cf : Cs} (hC : Closed C.length C) (e : Cf.take C.length = C) (row : List Pr) (el : l = row.map pr) (h : k (.lst C.length) (C ++ [row.map pr])) : RetK C.length k (.ret (.lst Cf.length)) [] (Cf ++ [l]) := by
  subst el
  exact rk_lst hC (tk_app e) (tk_le e) lk_last (pr_closed _) h
/-- from the second test on -/
theorem ev19_4 {w M : Int} {m x j : Nat} {row : List Pr} {Cf : Cs} (a b c : Option D) (hM : M = ((m + 1 : Nat) : Int)) (h3 : 3 ≤ m) (h9 : m < 50) (hr : row.length = m) (hC : Closed C.length C) (h4 : Cf.take C.length = C) (h5 : C.length ≤ j) (h6 : Cf[j]? = some (row.map pr))
    (h : k (.lst C.length) (C ++ [(exchPut w (m + 1) row).map pr])) : Xs T (n + 80) (lit19.1.drop 4) [some (dint w), some (.lst x), some (dint M), a, some (.lst j), b, c] Cf (RetK C.length k) := by
  subst hM
  unfold exchPut at h
  refine br_2 (fun c1 => ?_) (fun c1 => ?_)
  · rw [if_pos (show w % 3 = 2 from of_decide_eq_true c1)] at h
    have m1 : (0 : Int) < ((m + 1 : Nat) : Int) - Int.ofNat 1 := by show (0 : Int) < ((m + 1 : Nat) : Int) - 1; omega
    have m0 : (0 : Int) < ((m + 1 : Nat) : Int) := by omega
    have d1 : divr (((m + 1 : Nat) : Int) - Int.ofNat 1) = true := dv m1 (by show ((m + 1 : Nat) : Int) - 1 < 2 ^ 60; omega)
    have d0 : divr ((m + 1 : Nat) : Int) = true := dv m0 (by omega)
    refine wn d1 ?_
    refine wn d0 ?_
    have hp : (w / Int.ofNat 3 % (((m + 1 : Nat) : Int) - Int.ofNat 1)).toNat < m := md_lt m1 (by show ((m + 1 : Nat) : Int) - 1 ≤ m; omega)
    have hr1 : row.length ≤ 60 := by omega
    have hl := line9 (map_len (Nat.le_trans hr1 (by decide : 60 ≤ 1000)))
    refine sl_to (md_nat m1) h6 hl ?_
    refine wn d1 ?_
    refine wn d0 ?_
    refine op (lk_old lk_last) ?_
    refine op lk_last (ad (take_map (Nat.le_trans hr1 (by decide))) (by decide : 1 ≤ 1000) ?_)
    refine sl_from (congrArg (· + Int.ofNat 1) (md_nat m1)) (lk_old (lk_old (lk_old h6))) (by rw [List.length_map, hr]; exact hp) hl ?_
    refine op (lk_old lk_last) ?_
    refine op lk_last (ad (by rw [List.length_append]; exact Nat.le_trans (Nat.add_le_add (take_map hr1) (Nat.le_refl _)) (by decide : 60 + 1 ≤ 1000)) (drop_map (Nat.le_trans hr1 (by decide))) ?_)
    exact (rk_new (l := _) hC (tk4 h4) (putAt row _ (putPair w (m + 1))) (by unfold putAt; rw [List.map_append, List.map_append, List.map_take, List.map_drop]) h :)
  · rw [if_neg (show ¬ w % 3 = 2 from of_decide_eq_false c1)] at h
    exact rk_lst hC h4 h5 h6 (pr_closed _) h
/-- from the first test on -/
theorem ev19_3 {w M : Int} {m x j : Nat} {row : List Pr} {Cf : Cs} (a b c : Option D) (hM : M = ((m + 1 : Nat) : Int)) (h3 : 3 ≤ m) (h9 : m < 50) (hr : row.length = m) (hC : Closed C.length C) (h4 : Cf.take C.length = C) (h5 : C.length ≤ j) (h6 : Cf[j]? = some (row.map pr))
    (h : k (.lst C.length) (C ++ [(exchPut w (m + 1) (exchSwap w (m + 1) row)).map pr])) : Xs T (n + 81) (lit19.1.drop 3) [some (dint w), some (.lst x), some (dint M), a, some (.lst j), b, c] Cf (RetK C.length k) := by
  unfold exchSwap at h
  refine br_2 (fun c1 => ?_) (fun c1 => ?_)
  · rw [if_pos (show w % 3 = 1 from of_decide_eq_true c1)] at h
    have m2 : (0 : Int) < M - Int.ofNat 2 := by subst hM; show (0 : Int) < ((m + 1 : Nat) : Int) - 2; omega
    have d2 : divr (M - Int.ofNat 2) = true := dv m2 (by subst hM; show ((m + 1 : Nat) : Int) - 2 < 2 ^ 60; omega)
    refine wn d2 ?_
    have hp : (w / Int.ofNat 3 % (M - Int.ofNat 2)).toNat < m - 1 := md_lt m2 (by subst hM; show ((m + 1 : Nat) : Int) - 2 ≤ (m - 1 : Nat); omega)
    have hr1 : row.length ≤ 60 := by omega
    have hl := line9 (map_len (Nat.le_trans hr1 (by decide : 60 ≤ 1000)))
    have hr4 : row.length < 2 ^ 40 := Nat.lt_of_le_of_lt hr1 (by decide)
    have hp1 : (w / Int.ofNat 3 % (M - Int.ofNat 2)).toNat + 1 < row.length := by omega
    refine sl_to (md_nat m2) h6 hl ?_
    refine op (lk_old h6) ?_
    refine sqm (a := (0, 0)) (congrArg (· + Int.ofNat 1) (md_nat m2)) hp1 hr4 ?_
    refine op (lk_old h6) ?_
    refine sqm (a := (0, 0)) (md_nat m2) (Nat.lt_of_succ_lt hp1) hr4 ?_
    refine op (lk_old lk_last) ?_
    refine op lk_last (ad (take_map (Nat.le_trans hr1 (by decide))) (by decide : 2 ≤ 1000) ?_)
    refine sl_from (congrArg (· + Int.ofNat 2) (md_nat m2)) (lk_old (lk_old (lk_old h6))) (by rw [List.length_map]; exact hp1) hl ?_
    refine op (lk_old lk_last) ?_
    refine op lk_last (ad (by rw [List.length_append]; exact Nat.le_trans (Nat.add_le_add (take_map hr1) (Nat.le_refl _)) (by decide : 60 + 2 ≤ 1000)) (drop_map (Nat.le_trans hr1 (by decide))) ?_)
    have e : (swapAt row (w / Int.ofNat 3 % (M - Int.ofNat 2)).toNat).length = m := (swap_len _ _ hp1).trans hr
    have eM : M - Int.ofNat 2 = ((m + 1 : Nat) : Int) - 2 := by subst hM; rfl
    exact (ev19_4 (T := T) (n := n) (w := w) (x := x) (row := swapAt row (w / Int.ofNat 3 % (M - Int.ofNat 2)).toNat) a b (some (dint (w / Int.ofNat 3 % (M - Int.ofNat 2)))) hM h3 h9 e hC (tk_app (tk4 h4)) (tk_le (tk4 h4)) (lk_last.trans (congrArg some (by unfold swapAt; rw [List.map_append, List.map_append, List.map_take, List.map_drop]))) (eM ▸ h) :)
  · rw [if_neg (show ¬ w % 3 = 1 from of_decide_eq_false c1)] at h
    exact (ev19_4 (T := T) (n := n) (x := x) a b c hM h3 h9 hr hC h4 h5 h6 h :)
theorem fold_len {many : Nat} (h2 : 3 ≤ many) (zs : List Int) : ∀ (row : List Pr), row.length = many - 1 → (zs.foldl (movedZ many) row).length = many - 1 := by
  induction zs with
  | nil => exact fun row h => h
  | cons z zs ih =>
    intro row h
    refine ih _ ((moved_len _ _ _ ?_).trans h)
    rw [h]
    have q : (z % ((many : Int) - 2)).toNat < many - 2 := md_lt (by omega) (by omega)
    omega
theorem ev19 {zs : List Int} {w : Int} {x : Nat} (hT : T.lookup 100 = some spMoved) (hx : C[x]? = some (zs.map dint)) (hlen : 3 ≤ zs.length) (hlen2 : zs.length < 50) (hC : Closed C.length C)
    (h : k (.lst C.length) (C ++ [(exch w zs).map pr])) :
    Xs T 84 lit19.1 [some (dint w), some (.lst x), none, none, none, none, none] C (RetK C.length k) := by
  have hz : (zs.map dint).length = zs.length := List.length_map _
  have hM : ((zs.map dint).length : Int) + Int.ofNat 1 = ((zs.length + 1 : Nat) : Int) := congrArg (fun n : Nat => ((n + 1 : Nat) : Int)) hz
  refine op hx ?_
  refine wn_lt (by rw [hz]; exact Nat.lt_trans hlen2 (by decide)) ?_
  refine And.intro ?_ ?_
  · rw [hM]
    exact ⟨⟨by omega, by omega⟩, by decide⟩
  refine Exists.intro (zs.length + 1) ?_
  have hf : (zs.foldl (movedZ (zs.length + 1)) (row0 zs.length)).length = zs.length := fold_len (Nat.le_succ_of_le hlen) zs (row0 zs.length) (row0_len _)
  refine comp19_ok (n := 60) (T := T) (C := C) hM (Nat.lt_trans hlen2 (by decide)) ?_ zs.length 0 (zs.length + 1) _ (Nat.zero_add _) (Nat.lt_succ_self _) rfl
  refine Exists.intro (zs.length + 1) ?_
  refine for19_ok (n := 40) (T := T) (C := C) (w := w) (sp0 := none) (at0 := none) hT hx hM hlen (Nat.lt_trans hlen2 (by decide)) (Nat.le_of_eq List.length_append) zs.length 0 (zs.length + 1) (row0 zs.length) (C ++ [(row0 zs.length).map pr]) C.length none (Nat.zero_add _) (Nat.lt_succ_self _) (row0_len _) (tk_app tk_self) (Nat.le_refl _) lk_last (Nat.le_refl _) fun Cf j z h4 h5 h6 => ?_
  exact (ev19_3 (T := T) (n := 0) (w := w) (x := x) none z none hM hlen hlen2 hf hC h4 h5 h6 h :)
noncomputable def spExch : Spec := fun args kws C k => ∃ w x zs, args = [dint w, .lst x] ∧ kws = [] ∧ C[x]? = some (zs.map dint) ∧ 3 ≤ zs.length ∧ zs.length < 50 ∧ k (.lst C.length) (C ++ [(exch w zs).map pr])
end
section
open PySem PySem.W PySem.Calls PyProof.Rows PySem.SeqAt
set_option maxHeartbeats 400000
variable {T : Tab} {n : Nat} {loc loc' : Loc} {C C' : Cs} {k : KE} {kx : KX}

noncomputable abbrev F0 : UInt64 := .ofBitVec ⟨⟨0, by decide⟩⟩
noncomputable abbrev F1 : UInt64 := .ofBitVec ⟨⟨4607182418800017408, by decide⟩⟩
noncomputable abbrev F2 : UInt64 := .ofBitVec ⟨⟨4611686018427387904, by decide⟩⟩
noncomputable abbrev F4 : UInt64 := .ofBitVec ⟨⟨4616189618054758400, by decide⟩⟩
noncomputable abbrev F6 : UInt64 := .ofBitVec ⟨⟨4618441417868443648, by decide⟩⟩
abbrev T3 := UInt64 × UInt64 × UInt64
noncomputable def t3 (t : T3) : D := .tup [.flt t.1, .flt t.2.1, .flt t.2.2]
noncomputable def six (r : Nat) (v p q t : UInt64) : T3 := match r with
  | 0 => (v, t, p)
  | 1 => (q, v, p)
  | 2 => (p, v, t)
  | 3 => (p, q, v)
  | 4 => (t, p, v)
  | _ => (v, p, q)
noncomputable def hsvI (h : UInt64) : Int := PySem.Flt.toInt Float64.truncOf (Float64.mul h F6)
noncomputable def hsvFr (h : UInt64) : UInt64 := Float64.sub (Float64.mul h F6) (Float64.ofInt (hsvI h))
/-- if the one holds: the one; if not: where the other holds -/
noncomputable def sel {α : Type} (c d : Bool) (a b : α) : Option α := match c with
  | true => some a
  | false => match d with
    | true => some b
    | false => none
theorem sel_of {α : Type} {c d : Bool} {a b t : α} (e : sel c d a b = some t) : (c = true ∧ a = t) ∨ (c = false ∧ d = true ∧ b = t) := by
  cases c with
  | true => exact .inl ⟨rfl, Option.some.inj e⟩
  | false =>
    cases d with
    | true => exact .inr ⟨rfl, rfl, Option.some.inj e⟩
    | false => cases e
noncomputable def hsvF (h s v : UInt64) : Option T3 := sel (feq s F0) (Float64.isFinite (Float64.mul h F6) && !Float64.isInf (Float64.ofInt (hsvI h))) (v, v, v)
  (six (hsvI h % 6).toNat v (Float64.mul v (Float64.sub F1 s)) (Float64.mul v (Float64.sub F1 (Float64.mul s (hsvFr h)))) (Float64.mul v (Float64.sub F1 (Float64.mul s (Float64.sub F1 (hsvFr h))))))
theorem six_br {r : Int} {v p q t : UInt64} {P : T3 → Prop} {Q : Prop} (hr : r = (r.toNat : Int)) (h6 : r.toNat < 6) (h : P (six r.toNat v p q t)) : br (decide (r = Int.ofNat 0)) (P (v, t, p)) (br (decide (r = Int.ofNat 1)) (P (q, v, p))
    (br (decide (r = Int.ofNat 2)) (P (p, v, t)) (br (decide (r = Int.ofNat 3)) (P (p, q, v)) (br (decide (r = Int.ofNat 4)) (P (t, p, v)) (br (decide (r = Int.ofNat 5)) (P (v, p, q)) Q))))) := by
  rw [hr]
  exact match r.toNat, h6, h with
  | 0, _, h => h
  | 1, _, h => h
  | 2, _, h => h
  | 3, _, h => h
  | 4, _, h => h
  | 5, _, h => h
  | n + 6, h6, _ => absurd h6 (Nat.not_lt.mpr (Nat.le_add_left 6 n))
theorem ev6 {h s v : UInt64} {t : T3} (e : hsvF h s v = some t) (hC : Closed C.length C) (hk : k (t3 t) C) :
    Xs T 60 lit6.1 [some (dflt h), some (dflt s), some (dflt v), none, none, none, none, none] C (RetK C.length k) := by
  have h2 : RetK C.length k (.ret (t3 t)) [] C := rk_same hC trivial hk
  rcases sel_of e with ⟨c, rfl⟩ | ⟨c, c1, rfl⟩
  · exact br_t c h2
  · have c1 := Bool.and_eq_true_iff.mp c1
    refine br_f c ?_
    refine wn c1.1 ?_
    refine wn c1.2 ?_
    exact six_br (P := fun t => RetK C.length k (.ret (t3 t)) [] C) (md_nat (by decide)) (md_lt (by decide) (by decide)) h2
noncomputable def spF3 (f : UInt64 → UInt64 → UInt64 → Option T3) : Spec := fun args kws C k => ∃ x y z t, args = [dflt x, dflt y, dflt z] ∧ kws = [] ∧ f x y z = some t ∧ k (t3 t) C
noncomputable def spHsv : Spec := spF3 hsvF

-- rgb_to_hsv
noncomputable def rgbH (r g b mx : UInt64) (rg : UInt64) : UInt64 := match feq r mx with
  | true => Float64.sub (Float64.div (Float64.sub mx b) rg) (Float64.div (Float64.sub mx g) rg)
  | false => match feq g mx with
    | true => Float64.sub (Float64.add F2 (Float64.div (Float64.sub mx r) rg)) (Float64.div (Float64.sub mx b) rg)
    | false => Float64.sub (Float64.add F4 (Float64.div (Float64.sub mx g) rg)) (Float64.div (Float64.sub mx r) rg)
noncomputable def rgbG (r g b mx mn : UInt64) : Option T3 := sel (feq mn mx) (!Float64.isZero mx && !Float64.isZero (Float64.sub mx mn)) (F0, F0, mx)
  ((Float64.divmod (Float64.div (rgbH r g b mx (Float64.sub mx mn)) F6) F1).2, Float64.div (Float64.sub mx mn) mx, mx)
noncomputable def rgbF (r g b : UInt64) : Option T3 := rgbG r g b (maxF (maxF r g) b) (minF (minF r g) b)
theorem rgbH_br {r g b mx rg : UInt64} {P : UInt64 → Prop} (h : P (rgbH r g b mx rg)) : br (feq r mx) (P (Float64.sub (Float64.div (Float64.sub mx b) rg) (Float64.div (Float64.sub mx g) rg)))
    (br (feq g mx) (P (Float64.sub (Float64.add F2 (Float64.div (Float64.sub mx r) rg)) (Float64.div (Float64.sub mx b) rg))) (P (Float64.sub (Float64.add F4 (Float64.div (Float64.sub mx g) rg)) (Float64.div (Float64.sub mx r) rg)))) := by
  unfold rgbH at h
  refine br_2 (fun c => ?_) (fun c => ?_)
  · rw [c] at h; exact h
  · rw [c] at h
    refine br_2 (fun c => ?_) (fun c => ?_)
    · rw [c] at h; exact h
    · rw [c] at h; exact h
theorem ev5 {r g b : UInt64} {t : T3} (e : rgbF r g b = some t) (hC : Closed C.length C) (hk : k (t3 t) C) :
    Xs T 60 lit5.1 [some (dflt r), some (dflt g), some (dflt b), none, none, none, none, none, none, none, none, none] C (RetK C.length k) := by
  have h2 : RetK C.length k (.ret (t3 t)) [] C := rk_same hC trivial hk
  rcases sel_of e with ⟨c, rfl⟩ | ⟨c, c1, rfl⟩
  · exact br_t c h2
  · have c1 := Bool.and_eq_true_iff.mp c1
    refine br_f c ?_
    refine wn c1.1 ?_
    refine wn c1.2 ?_
    refine wn c1.2 ?_
    refine wn c1.2 ?_
    have n6 : (!Float64.isZero F6) = true := by decide +kernel
    have n1 : (!Float64.isZero F1) = true := by decide +kernel
    exact rgbH_br (P := fun x => want (!Float64.isZero F6) (want (!Float64.isZero F1) (RetK C.length k (.ret (t3 ((Float64.divmod (Float64.div x F6) F1).2, _, _))) [] C))) (wn n6 (wn n1 h2))
noncomputable def spRgb : Spec := spF3 rgbF

-- _law_told
noncomputable def toldF (h s v : UInt64) : Option T3 := (hsvF h s v).bind fun t => rgbF t.1 t.2.1 t.2.2
theorem ev20 {h s v : UInt64} {t : T3} (hT1 : T.lookup 55 = some spHsv) (hT2 : T.lookup 48 = some spRgb) (e : toldF h s v = some t) (hC : Closed C.length C) (hk : k (t3 t) C) :
    Xs T 60 lit20.1 [some (dflt h), some (dflt s), some (dflt v), none] C (RetK C.length k) := by
  obtain ⟨p, ep, e⟩ := Option.bind_eq_some_iff.mp e
  refine op hT1 ⟨_, _, _, p, rfl, rfl, ep, ?_⟩
  refine op hT2 ⟨_, _, _, t, rfl, rfl, e, ?_⟩
  exact rk_same hC trivial hk
noncomputable def spTold : Spec := spF3 toldF
end
section
open PySem PySem.W PySem.Calls PyProof.Rows PySem.SeqAt
set_option maxHeartbeats 400000
variable {T : Tab} {n : Nat} {loc loc' : Loc} {C C' : Cs} {k : KE} {kx : KX}

noncomputable def cstS : ME → Str
  | .cst (.str s) => s
  | _ => Str.empty
noncomputable def lists14 : List MS → List Str × List Str
  | [.ret (some (.bin _ _ (.tup (.idx (.lst ds) _ :: _ :: .idx (.lst ms) _ :: _))))] => (ds.map cstS, ms.map cstS)
  | _ => ([], [])
/-- the short names of the days and of the months -/
noncomputable def dayMon : { p : List Str × List Str // lists14 (mbAt 14) = p } := by
  refine ⟨(?p, ?q), ?e⟩
  case e => conv => lhs; reduce
noncomputable abbrev dayN : List Str := dayMon.1.1
noncomputable abbrev monN : List Str := dayMon.1.2
theorem dayN_len : dayN.length = 7 := rfl
theorem monN_len : monN.length = 12 := rfl
theorem dayN_100 {m : Nat} (h : m < 7) : (dayN.getD m Str.empty).length ≤ 100 := (by decide : ∀ i : Nat, i < 7 → (dayN.getD i Str.empty).length ≤ 100) m h
theorem monN_100 {m : Nat} (h : m < 12) : (monN.getD m Str.empty).length ≤ 100 := (by decide : ∀ i : Nat, i < 12 → (monN.getD i Str.empty).length ≤ 100) m h
theorem ev14 {y d hh mi ss nd mo : Int} {m p : Nat} {z : Str} (h1 : nd = m) (h2 : m < 7) (h3 : mo = ((p + 1 : Nat) : Int)) (h4 : p < 12) (c : small d = true ∧ small y = true ∧ small hh = true ∧ small mi = true ∧ small ss = true) (c6 : z.length ≤ 100) (hC : Closed C.length C)
    (hk : k (dstr (fmtDate (dayN.getD m Str.empty) d (monN.getD p Str.empty) y hh mi ss z)) C) :
    Xs T 60 lit14.1 [some (.tup [.int y, .int mo, .int d, .int hh, .int mi, .int ss, .int nd]), some (dstr z)] C (RetK C.length k) := by
  refine op (lk_last (l := dayN.map dstr)) ?_
  refine sqm (a := Str.empty) h1 h2 (by decide) ?_
  refine op (lk_last (l := monN.map dstr)) ?_
  refine sqm (a := Str.empty) (i := mo - Int.ofNat 1) (j := p) (by subst h3; exact Int.add_sub_cancel (p : Int) 1) h4 (by decide) ?_
  refine And.intro rfl ?_
  refine Exists.intro _ (Exists.intro _ (Exists.intro _ (Exists.intro _ (Exists.intro _ (Exists.intro _ (Exists.intro _ (Exists.intro _ (And.intro rfl (And.intro c (And.intro ⟨dayN_100 h2, monN_100 h4, c6⟩ ?_))))))))))
  exact rk_val hC (tk_app (tk_app tk_self)) trivial hk
noncomputable def spFmt : Spec := fun args kws C k => ∃ y mo d hh mi ss nd z m p t, args = [.tup [.int y, .int mo, .int d, .int hh, .int mi, .int ss, .int nd], dstr z] ∧ kws = [] ∧ nd = (m : Nat) ∧ m < 7 ∧ mo = ((p + 1 : Nat) : Int) ∧ p < 12 ∧
  (small d = true ∧ small y = true ∧ small hh = true ∧ small mi = true ∧ small ss = true) ∧ z.length ≤ 100 ∧ fmtDate (dayN.getD m Str.empty) d (monN.getD p Str.empty) y hh mi ss z = t ∧ k (dstr t) C
end
section
open PySem PySem.W PySem.Calls PyProof.Rows PySem.SeqAt
open PySem.Builtin PySem.Builtin.Str
set_option maxHeartbeats 4000000

/-! words and parts of a text -/
theorem sw_mask {s s' : Str} (hl : s.length = s'.length) (hm : ∀ i, Unicode.isSpace (s.cps.getD i 0) = Unicode.isSpace (s'.cps.getD i 0)) (limit : Nat) : spaceWords s limit = spaceWords s' limit := by
  rw [StrLaws.sw_eq, StrLaws.sw_eq, hl]
  have e : StrLaws.swBody s limit = StrLaws.swBody s' limit := by
    funext i st
    unfold StrLaws.swBody
    rw [hm i, hl]
  rw [e]
  unfold StrLaws.swEnd
  rw [hl]

/-- the mask of a text: a sign for a sign, blanks for blanks -/
noncomputable def maskOf (l : List Nat) : List Nat := l.map fun c => if Unicode.isSpace c then 32 else 48
theorem mask_sw (l : List Nat) (limit : Nat) : spaceWords ⟨l.toArray⟩ limit = spaceWords ⟨(maskOf l).toArray⟩ limit := by
  refine sw_mask (by simp [maskOf, Str.length]) (fun i => ?_) limit
  by_cases h : i < l.length
  · simp only [Array.getD_eq_getD_getElem?, List.getElem?_toArray, maskOf, List.getElem?_map, List.getElem?_eq_getElem h, Option.map_some, Option.getD_some]
    cases q : Unicode.isSpace l[i] with
    | true => simp only [if_true]; decide +kernel
    | false => simp only [Bool.false_eq_true, if_false]; decide +kernel
  · have h1 : l[i]? = none := List.getElem?_eq_none (by omega)
    simp only [Array.getD_eq_getD_getElem?, List.getElem?_toArray, maskOf, List.getElem?_map, h1, Option.map_none, Option.getD_none]

/-- a row of parts, a sign between any two -/
noncomputable def glue (c : Nat) : List (List Nat) → List Nat
  | [] => []
  | [p] => p
  | p :: q :: r => p ++ c :: glue c (q :: r)
theorem glue_inj (c : Nat) : ∀ {a b : List (List Nat)}, a ≠ [] → b ≠ [] → (∀ p ∈ a, c ∉ p) → (∀ p ∈ b, c ∉ p) → glue c a = glue c b → a = b := by
  have cut : ∀ {p q r s : List Nat}, c ∉ p → c ∉ q → p ++ c :: r = q ++ c :: s → p = q ∧ r = s := by
    intro p
    induction p with
    | nil =>
      intro q r s h1 h2 e
      cases q with
      | nil => simp at e; exact ⟨rfl, e⟩
      | cons x q => simp at e; exact absurd (by simp [e.1]) h2
    | cons x p ih =>
      intro q r s h1 h2 e
      cases q with
      | nil => simp at e; exact absurd (by simp [e.1]) h1
      | cons y q =>
        simp at e
        obtain ⟨e1, e2⟩ := e
        obtain ⟨e3, e4⟩ := ih (fun h => h1 (List.mem_cons_of_mem _ h)) (fun h => h2 (List.mem_cons_of_mem _ h)) e2
        exact ⟨by rw [e1, e3], e4⟩
  have nocut : ∀ {p q r : List Nat}, c ∉ p → p ≠ q ++ c :: r := fun h e => h (by rw [e]; simp)
  intro a
  induction a with
  | nil => intro b h; exact absurd rfl h
  | cons p a ih =>
    intro b _ hb h1 h2 e
    cases b with
    | nil => exact absurd rfl hb
    | cons q b =>
      cases a with
      | nil =>
        cases b with
        | nil => simp [glue] at e; rw [e]
        | cons q2 b => exact absurd e (nocut (h1 p (by simp)))
      | cons p2 a =>
        cases b with
        | nil => exact absurd e.symm (nocut (h2 q (by simp)))
        | cons q2 b =>
          obtain ⟨e1, e2⟩ := cut (h1 p (by simp)) (h2 q (by simp)) e
          rw [e1, ih (by simp) (by simp) (fun x hx => h1 x (List.mem_cons_of_mem _ hx)) (fun x hx => h2 x (List.mem_cons_of_mem _ hx)) e2]

theorem join_cps (c : Nat) : ∀ L : List Str, (Str.join ⟨#[c]⟩ L).cps.toList = glue c (L.map (·.cps.toList))
  | [] => rfl
  | [x] => rfl
  | x :: y :: r => by
    show (x ++ (⟨#[c]⟩ : Str) ++ Str.join ⟨#[c]⟩ (y :: r)).cps.toList = x.cps.toList ++ c :: glue c ((y :: r).map (·.cps.toList))
    rw [← join_cps c (y :: r)]
    show (x.cps ++ #[c] ++ (Str.join ⟨#[c]⟩ (y :: r)).cps).toList = _
    simp
theorem cnt_nn (c : Nat) : ∀ l : List Nat, 0 ≤ cnt c l
  | [] => by rw [cnt_nil]; decide
  | a :: l => by
    rw [cnt_cons]
    have := cnt_nn c l
    split <;> omega
theorem split_glue {c : Nat} {ps : List (List Nat)} (h : ps ≠ []) (hf : ∀ p ∈ ps, c ∉ p) : Txt.split ⟨(glue c ps).toArray⟩ ⟨#[c]⟩ = ps.map fun p => (⟨p.toArray⟩ : Str) := by
  have e1 := StrLaws.join_split ⟨(glue c ps).toArray⟩ ⟨#[c]⟩
  have e2 := StrLaws.split_free ⟨(glue c ps).toArray⟩ c
  have e3 := split_len ⟨(glue c ps).toArray⟩ c
  generalize Txt.split ⟨(glue c ps).toArray⟩ ⟨#[c]⟩ = L at e1 e2 e3 ⊢
  have e4 := congrArg (fun s : Str => s.cps.toList) e1
  simp only [join_cps] at e4
  have hL : L ≠ [] := by
    rintro rfl
    simp at e3
    have := cnt_nn c (glue c ps)
    omega
  have e5 : L.map (·.cps.toList) = ps := glue_inj c (by simpa using hL) h (fun p hp => by
    obtain ⟨q, hq, rfl⟩ := List.mem_map.mp hp
    exact e2 q hq) hf e4
  rw [← e5, List.map_map]
  have : ((fun p => (⟨p.toArray⟩ : Str)) ∘ fun s : Str => s.cps.toList) = _root_.id := by
    funext s; simp
  rw [this, List.map_id]

/-- words by the mask -/
theorem words_of {l : List Nat} {ws : List (Nat × Nat)} (h : spaceWords ⟨(maskOf l).toArray⟩ (l.length + 1) = ws) (h2 : ws.length ≠ 1) : Txt.words ⟨l.toArray⟩ = ws.map fun p => (⟨((l.drop p.1).take (p.2 - p.1)).toArray⟩ : Str) := by
  have e : spaceWords ⟨l.toArray⟩ ((⟨l.toArray⟩ : Str).length + 1) = ws := by
    rw [mask_sw]; simpa [Str.length] using h
  unfold Txt.words
  rw [e]
  have : (ws == [(0, (⟨l.toArray⟩ : Str).length)]) = false := by
    cases q : ws == [(0, (⟨l.toArray⟩ : Str).length)] with
    | false => rfl
    | true => exact absurd (by rw [beq_iff_eq.mp q]; rfl) h2
  rw [this]
  simp only [Bool.false_eq_true, if_false]
  unfold PySem.wordsOf
  rw [e]
  apply List.map_congr_left
  intro p _
  unfold strSub
  congr 1
  simp
end
section
open PySem PySem.W PySem.Calls PyProof.Rows PySem.SeqAt
open PySem.Builtin PySem.Builtin.Str
set_option maxHeartbeats 4000000
variable {T : Tab} {n : Nat} {loc loc' : Loc} {C C' : Cs} {k : KE} {kx : KX}

theorem pad2_all : ∀ d < 100, pad 2 ((d : Nat) : Int) = [48 + d / 10, 48 + d % 10] := by decide +kernel
theorem digC : ∀ d < 10, (Nat.digitChar d).toNat = 48 + d := by decide
theorem digs_step {n : Nat} (h : 10 ≤ n) : digs n = digs (n / 10) ++ [48 + n % 10] := by
  unfold digs
  rw [Nat.toDigits_of_base_le (by decide) h, List.map_append]
  exact congrArg (fun c => _ ++ [c]) (digC _ (Nat.mod_lt _ (by decide)))
theorem digs1 {n : Nat} (h : n < 10) : digs n = [48 + n] := by
  unfold digs
  rw [Nat.toDigits_of_lt_base h]
  exact congrArg (fun c => [c]) (digC _ h)
theorem digs4 {y : Nat} (h1 : 1000 ≤ y) (h2 : y < 10000) : digs y = [48 + y / 1000, 48 + y / 100 % 10, 48 + y / 10 % 10, 48 + y % 10] := by
  have a : y / 10 / 10 = y / 100 := Nat.div_div_eq_div_mul y 10 10
  have b : y / 100 / 10 = y / 1000 := Nat.div_div_eq_div_mul y 100 10
  rw [digs_step (Nat.le_trans (by decide) h1), digs_step ((Nat.le_div_iff_mul_le (by decide)).mpr (Nat.le_trans (by decide) h1)), a,
    digs_step ((Nat.le_div_iff_mul_le (by decide)).mpr h1), b, digs1 ((Nat.div_lt_iff_lt_mul (by decide)).mpr h2)]
  rfl
theorem pad4 {y : Nat} (h1 : 1000 ≤ y) (h2 : y < 10000) : pad 4 (y : Int) = [48 + y / 1000, 48 + y / 100 % 10, 48 + y / 10 % 10, 48 + y % 10] := by
  unfold pad
  rw [Int.toNat_natCast, digs4 h1 h2]; rfl
theorem pad2 {d : Nat} (h : d < 100) : pad 2 (d : Int) = [48 + d / 10, 48 + d % 10] := pad2_all d h

theorem find_no {l : List Nat} {c : Nat} (h : c ∉ l) : Txt.find ⟨l.toArray⟩ ⟨#[c]⟩ = -1 := by
  rcases find_spec ⟨l.toArray⟩ ⟨#[c]⟩ with e | ⟨i, e, h1, h2⟩
  · exact e
  · exfalso
    have h1 : i + 1 ≤ l.length := h1
    have h2 : (strSub ⟨l.toArray⟩ i (i + 1)) = ⟨#[c]⟩ := h2
    unfold strSub at h2
    have h3 := congrArg (fun s : Str => s.cps.toList) h2
    simp at h3
    have : c ∈ (List.drop i l).take 1 := by rw [h3]; simp
    exact h (List.mem_of_mem_drop (List.mem_of_mem_take this))
end
section
open PySem PySem.W PySem.Calls PyProof.Rows PySem.SeqAt
open PySem.Builtin PySem.Builtin.Str
set_option maxHeartbeats 4000000
variable {T : Tab} {n : Nat} {loc loc' : Loc} {C C' : Cs} {k : KE} {kx : KX}

noncomputable def dateL (a1 a2 a3 d1 d2 b1 b2 b3 y1 y2 y3 y4 h1 h2 m1 m2 s1 s2 : Nat) (z : List Nat) : List Nat :=
  a1 :: a2 :: a3 :: 44 :: 32 :: d1 :: d2 :: 32 :: b1 :: b2 :: b3 :: 32 :: y1 :: y2 :: y3 :: y4 :: 32 :: h1 :: h2 :: 58 :: m1 :: m2 :: 58 :: s1 :: s2 :: 32 :: z
noncomputable def noSp (c : Nat) : Prop := Unicode.isSpace c = false
theorem sp32 : Unicode.isSpace 32 = true := by decide +kernel
theorem sp44 : Unicode.isSpace 44 = false := by decide +kernel
theorem sp58 : Unicode.isSpace 58 = false := by decide +kernel
theorem date_words3 {a1 a2 a3 d1 d2 b1 b2 b3 y1 y2 y3 y4 h1 h2 m1 m2 s1 s2 z1 z2 z3 : Nat} (h : ∀ c ∈ [a1, a2, a3, d1, d2, b1, b2, b3, y1, y2, y3, y4, h1, h2, m1, m2, s1, s2, z1, z2, z3], Unicode.isSpace c = false) :
    Txt.words ⟨(dateL a1 a2 a3 d1 d2 b1 b2 b3 y1 y2 y3 y4 h1 h2 m1 m2 s1 s2 [z1, z2, z3]).toArray⟩ = [⟨#[a1, a2, a3, 44]⟩, ⟨#[d1, d2]⟩, ⟨#[b1, b2, b3]⟩, ⟨#[y1, y2, y3, y4]⟩, ⟨#[h1, h2, 58, m1, m2, 58, s1, s2]⟩, ⟨#[z1, z2, z3]⟩] := by
  simp only [List.mem_cons, List.not_mem_nil, or_false, forall_eq_or_imp, forall_eq] at h
  have e : spaceWords ⟨(maskOf (dateL a1 a2 a3 d1 d2 b1 b2 b3 y1 y2 y3 y4 h1 h2 m1 m2 s1 s2 [z1, z2, z3])).toArray⟩ ((dateL a1 a2 a3 d1 d2 b1 b2 b3 y1 y2 y3 y4 h1 h2 m1 m2 s1 s2 [z1, z2, z3]).length + 1) = [(0, 4), (5, 7), (8, 11), (12, 16), (17, 25), (26, 29)] := by
    have e1 : maskOf (dateL a1 a2 a3 d1 d2 b1 b2 b3 y1 y2 y3 y4 h1 h2 m1 m2 s1 s2 [z1, z2, z3]) = [48, 48, 48, 48, 32, 48, 48, 32, 48, 48, 48, 32, 48, 48, 48, 48, 32, 48, 48, 48, 48, 48, 48, 48, 48, 32, 48, 48, 48] := by
      simp only [maskOf, dateL, List.map_cons, List.map_nil, h, sp32, sp44, sp58, if_true, Bool.false_eq_true, if_false]
    rw [e1]
    show spaceWords _ 30 = _
    decide +kernel
  rw [words_of e (by decide)]
  rfl
theorem date_words5 {a1 a2 a3 d1 d2 b1 b2 b3 y1 y2 y3 y4 h1 h2 m1 m2 s1 s2 z1 z2 z3 z4 z5 : Nat} (h : ∀ c ∈ [a1, a2, a3, d1, d2, b1, b2, b3, y1, y2, y3, y4, h1, h2, m1, m2, s1, s2, z1, z2, z3, z4, z5], Unicode.isSpace c = false) :
    Txt.words ⟨(dateL a1 a2 a3 d1 d2 b1 b2 b3 y1 y2 y3 y4 h1 h2 m1 m2 s1 s2 [z1, z2, z3, z4, z5]).toArray⟩ = [⟨#[a1, a2, a3, 44]⟩, ⟨#[d1, d2]⟩, ⟨#[b1, b2, b3]⟩, ⟨#[y1, y2, y3, y4]⟩, ⟨#[h1, h2, 58, m1, m2, 58, s1, s2]⟩, ⟨#[z1, z2, z3, z4, z5]⟩] := by
  simp only [List.mem_cons, List.not_mem_nil, or_false, forall_eq_or_imp, forall_eq] at h
  have e : spaceWords ⟨(maskOf (dateL a1 a2 a3 d1 d2 b1 b2 b3 y1 y2 y3 y4 h1 h2 m1 m2 s1 s2 [z1, z2, z3, z4, z5])).toArray⟩ ((dateL a1 a2 a3 d1 d2 b1 b2 b3 y1 y2 y3 y4 h1 h2 m1 m2 s1 s2 [z1, z2, z3, z4, z5]).length + 1) = [(0, 4), (5, 7), (8, 11), (12, 16), (17, 25), (26, 31)] := by
    have e1 : maskOf (dateL a1 a2 a3 d1 d2 b1 b2 b3 y1 y2 y3 y4 h1 h2 m1 m2 s1 s2 [z1, z2, z3, z4, z5]) = [48, 48, 48, 48, 32, 48, 48, 32, 48, 48, 48, 32, 48, 48, 48, 48, 32, 48, 48, 48, 48, 48, 48, 48, 48, 32, 48, 48, 48, 48, 48] := by
      simp only [maskOf, dateL, List.map_cons, List.map_nil, h, sp32, sp44, sp58, if_true, Bool.false_eq_true, if_false]
    rw [e1]
    show spaceWords _ 32 = _
    decide +kernel
  rw [words_of e (by decide)]
  rfl
theorem split_time {h1 h2 m1 m2 s1 s2 : Nat} (h : ∀ c ∈ [h1, h2, m1, m2, s1, s2], c ≠ 58) : Txt.split ⟨#[h1, h2, 58, m1, m2, 58, s1, s2]⟩ ⟨#[58]⟩ = [⟨#[h1, h2]⟩, ⟨#[m1, m2]⟩, ⟨#[s1, s2]⟩] := by
  have := split_glue (c := 58) (ps := [[h1, h2], [m1, m2], [s1, s2]]) (by simp) (by
    intro p hp hc
    simp at hp
    rcases hp with rfl | rfl | rfl <;> simp at hc <;> rcases hc with hc | hc <;> exact h 58 (by simp [hc]) rfl)
  exact this
end
section
open PySem PySem.W PySem.Calls PyProof.Rows PySem.SeqAt
open PySem.Builtin PySem.Builtin.Str
set_option maxHeartbeats 400000
variable {T : Tab} {n : Nat} {loc loc' : Loc} {C C' : Cs} {k : KE} {kx : KX}
theorem isdigit_all : ∀ c < 10, Txt.isdigit ⟨#[48 + c]⟩ = true := by decide +kernel
theorem isdigit_of {c : Nat} (h : 48 ≤ c ∧ c ≤ 57) : Txt.isdigit ⟨#[c]⟩ = true := by
  have := isdigit_all (c - 48) (by omega)
  rwa [show 48 + (c - 48) = c by omega] at this
theorem int2 {a b : Nat} (ha : 48 ≤ a ∧ a ≤ 57) (hb : 48 ≤ b ∧ b ≤ 57) : PySem.intText? ⟨#[a, b]⟩ = some (((a - 48) * 10 + (b - 48) : Nat) : Int) := by
  have := intText_digits (x := ⟨#[a, b]⟩) (by intro c hc; simp at hc; rcases hc with rfl | rfl <;> assumption) (by simp) (by simp [Str.length])
  rw [this]
  refine congrArg (fun n : Nat => some (n : Int)) ?_
  show (0 * 10 + (a - 48)) * 10 + (b - 48) = _
  rw [Nat.zero_mul, Nat.zero_add]
theorem int4 {a b c d : Nat} (ha : 48 ≤ a ∧ a ≤ 57) (hb : 48 ≤ b ∧ b ≤ 57) (hc : 48 ≤ c ∧ c ≤ 57) (hd : 48 ≤ d ∧ d ≤ 57) : PySem.intText? ⟨#[a, b, c, d]⟩ = some (((((a - 48) * 10 + (b - 48)) * 10 + (c - 48)) * 10 + (d - 48) : Nat) : Int) := by
  have := intText_digits (x := ⟨#[a, b, c, d]⟩) (by intro c hc; simp at hc; rcases hc with rfl | rfl | rfl | rfl <;> assumption) (by simp) (by simp [Str.length])
  rw [this]
  refine congrArg (fun n : Nat => some (n : Int)) ?_
  show (((0 * 10 + (a - 48)) * 10 + (b - 48)) * 10 + (c - 48)) * 10 + (d - 48) = _
  rw [Nat.zero_mul, Nat.zero_add]
theorem y100 {a b c d : Nat} (h : 1 ≤ a) : 100 ≤ ((a * 10 + b) * 10 + c) * 10 + d := by omega
theorem ch_ne {a b : Nat} (h : a ≠ b) : decide ((⟨#[a]⟩ : Str) = ⟨#[b]⟩) = false := decide_eq_false fun e => h (by injection e with e; simpa using e)
theorem dig_ne {c d : Nat} (h : 48 ≤ c ∧ c ≤ 57) (hd : d < 48) : c ≠ d := fun e => Nat.not_lt.mpr h.1 (e ▸ hd)
/-- the words are told apart: the second part -/
theorem ev12b {d1 d2 y1 y2 y3 y4 h1 h2 m1 m2 s1 s2 : Nat} {z : Str} {P : Int} {a b : Option D} {Cf : Cs} (h4 : Cf.take C.length = C)
    (hd1 : 48 ≤ d1 ∧ d1 ≤ 57) (hd2 : 48 ≤ d2 ∧ d2 ≤ 57) (hy : ∀ c ∈ [y1, y2, y3, y4], 48 ≤ c ∧ c ≤ 57) (ht : ∀ c ∈ [h1, h2, m1, m2, s1, s2], 48 ≤ c ∧ c ≤ 57) (hy1 : y1 ≠ 48)
    (tail : ∀ (Cf : Cs) (a b c : Option D), Cf.take C.length = C → Xs T 100 (lit12.1.drop 24) [a, b, none, none, some (dint (((d1 - 48) * 10 + (d2 - 48) : Nat) : Int)), some (dint P), some (dint (((((y1 - 48) * 10 + (y2 - 48)) * 10 + (y3 - 48)) * 10 + (y4 - 48) : Nat) : Int)), c, some (dstr z),
      some (dint (((h1 - 48) * 10 + (h2 - 48) : Nat) : Int)), some (dint (((m1 - 48) * 10 + (m2 - 48) : Nat) : Int)), some (dint (((s1 - 48) * 10 + (s2 - 48) : Nat) : Int)), none, none] Cf (RetK C.length k)) :
    Xs T 109 (lit12.1.drop 15) [a, b, none, none, some (dstr ⟨#[d1, d2]⟩), some (dint P), some (dstr ⟨#[y1, y2, y3, y4]⟩), some (dstr ⟨#[h1, h2, 58, m1, m2, 58, s1, s2]⟩), some (dstr z), none, none, none, none, none] Cf (RetK C.length k) := by
  have ht0 := ht
  have hy' := hy
  simp only [List.mem_cons, List.not_mem_nil, or_false, forall_eq_or_imp, forall_eq] at hy' ht
  have n3 : decide (Int.ofNat 0 < Txt.find ⟨#[y1, y2, y3, y4]⟩ ⟨#[58]⟩) = false := by
    rw [show Txt.find ⟨#[y1, y2, y3, y4]⟩ ⟨#[58]⟩ = -1 from find_no (l := [y1, y2, y3, y4]) (c := 58) fun h => absurd (hy 58 h).2 (by decide)]
    decide
  refine br_f n3 ?_
  refine br_f (ch_ne (dig_ne hy'.2.2.2 (by decide : 44 < 48))) ?_
  have n4 : (!Txt.isdigit ⟨#[y1]⟩) = false := by rw [isdigit_of hy'.1]; rfl
  refine br_f n4 ?_
  refine br_f (ch_ne (dig_ne ht.2.2.2.2.2 (by decide : 44 < 48))) ?_
  have e2 : ∀ Cf : Cs, (Cf ++ [(Txt.split ⟨#[h1, h2, 58, m1, m2, 58, s1, s2]⟩ ⟨#[58]⟩).map dstr])[Cf.length]? = some [dstr ⟨#[h1, h2]⟩, dstr ⟨#[m1, m2]⟩, dstr ⟨#[s1, s2]⟩] := fun Cf => lk_last.trans (congrArg (fun w => some (w.map dstr)) (split_time fun c hc => Nat.ne_of_lt (Nat.lt_succ_of_le (ht0 c hc).2)))
  refine op (e2 _) ?_
  refine op (e2 _) ?_
  refine op (e2 _) ?_
  refine op (int4 hy'.1 hy'.2.1 hy'.2.2.1 hy'.2.2.2) ?_
  refine op (int2 hd1 hd2) ?_
  refine op (int2 ht.1 ht.2.1) ?_
  refine op (int2 ht.2.2.1 ht.2.2.2.1) ?_
  refine op (int2 ht.2.2.2.2.1 ht.2.2.2.2.2) ?_
  refine br_f (decide_eq_false (Int.not_lt.mpr (Int.ofNat_le.mpr (y100 (Nat.sub_pos_of_lt (Nat.lt_of_le_of_ne hy'.1.1 hy1.symm)))))) ?_
  exact (tail (Cf ++ [(Txt.split ⟨#[h1, h2, 58, m1, m2, 58, s1, s2]⟩ ⟨#[58]⟩).map dstr]) a (some (dint (Txt.find ⟨#[y1, y2, y3, y4]⟩ ⟨#[58]⟩))) (some (.lst Cf.length)) (tk_app h4) :)
/-- the first half: the words are told apart -/
theorem ev12a {data : Str} {a1 a2 a3 d1 d2 b1 b2 b3 y1 y2 y3 y4 h1 h2 m1 m2 s1 s2 : Nat} {z : Str} (hdata : 0 < data.length) (hdl : data.length < 1000)
    (hw : Txt.words data = [⟨#[a1, a2, a3, 44]⟩, ⟨#[d1, d2]⟩, ⟨#[b1, b2, b3]⟩, ⟨#[y1, y2, y3, y4]⟩, ⟨#[h1, h2, 58, m1, m2, 58, s1, s2]⟩, z])
    {p : Nat} (hlm : (Txt.lower ⟨#[b1, b2, b3]⟩).length ≤ 1000) (hin : (months.any fun y => decide (y = Txt.lower ⟨#[b1, b2, b3]⟩)) = true) (hix : months.idxOf (Txt.lower ⟨#[b1, b2, b3]⟩) = p) (hp : p < 12)
    (hd1 : 48 ≤ d1 ∧ d1 ≤ 57) (hd2 : 48 ≤ d2 ∧ d2 ≤ 57) (hy : ∀ c ∈ [y1, y2, y3, y4], 48 ≤ c ∧ c ≤ 57) (ht : ∀ c ∈ [h1, h2, m1, m2, s1, s2], 48 ≤ c ∧ c ≤ 57) (hy1 : y1 ≠ 48)
    (tail : ∀ (Cf : Cs) (a b c : Option D), Cf.take C.length = C → Xs T 100 (lit12.1.drop 24) [a, b, none, none, some (dint (((d1 - 48) * 10 + (d2 - 48) : Nat) : Int)), some (dint ((p : Int) + 1)), some (dint (((((y1 - 48) * 10 + (y2 - 48)) * 10 + (y3 - 48)) * 10 + (y4 - 48) : Nat) : Int)), c, some (dstr z),
      some (dint (((h1 - 48) * 10 + (h2 - 48) : Nat) : Int)), some (dint (((m1 - 48) * 10 + (m2 - 48) : Nat) : Int)), some (dint (((s1 - 48) * 10 + (s2 - 48) : Nat) : Int)), none, none] Cf (RetK C.length k)) :
    Xs T 124 lit12.1 [some (dstr data), none, none, none, none, none, none, none, none, none, none, none, none, none] C (RetK C.length k) := by
  subst hix
  have e0 : (C ++ [(Txt.words data).map dstr])[C.length]? = some [dstr ⟨#[a1, a2, a3, 44]⟩, dstr ⟨#[d1, d2]⟩, dstr ⟨#[b1, b2, b3]⟩, dstr ⟨#[y1, y2, y3, y4]⟩, dstr ⟨#[h1, h2, 58, m1, m2, 58, s1, s2]⟩, dstr z] := lk_last.trans (congrArg (fun w => some (w.map dstr)) hw)
  refine wn_lt (Nat.lt_trans hdl (by decide)) ?_
  refine br_f (by rw [decide_eq_false (Nat.ne_of_gt hdata)]; rfl) ?_
  refine wn_le (Nat.le_trans (Nat.add_le_add_right (Nat.le_of_lt hdl) 2) (by decide)) ?_
  refine op e0 ?_
  refine op e0 ?_
  refine op e0 ?_
  have e1 : ((C ++ [(Txt.words data).map dstr]).set C.length [dstr ⟨#[d1, d2]⟩, dstr ⟨#[b1, b2, b3]⟩, dstr ⟨#[y1, y2, y3, y4]⟩, dstr ⟨#[h1, h2, 58, m1, m2, 58, s1, s2]⟩, dstr z])[C.length]? = some [dstr ⟨#[d1, d2]⟩, dstr ⟨#[b1, b2, b3]⟩, dstr ⟨#[y1, y2, y3, y4]⟩, dstr ⟨#[h1, h2, 58, m1, m2, 58, s1, s2]⟩, dstr z] := lk_set e0
  refine op e1 ?_
  refine op e1 ?_
  refine op e1 ?_
  refine sl_to (b := 5) rfl e1 (by decide : 5 ≤ sizeLine) ?_
  refine op lk_last ?_
  refine And.intro hlm ?_
  have n1 : (!months.any fun y => decide (y = Txt.lower ⟨#[b1, b2, b3]⟩)) = false := by rw [hin]; rfl
  refine br_f n1 ?_
  refine And.intro (show months.idxOf (Txt.lower ⟨#[b1, b2, b3]⟩) < months.length ∧ months.length < 2 ^ 20 from ⟨Nat.lt_of_lt_of_le hp (by decide +kernel), by decide +kernel⟩) ?_
  have n2 : decide (Int.ofNat 12 < (months.idxOf (Txt.lower ⟨#[b1, b2, b3]⟩) : Int) + Int.ofNat 1) = false := decide_eq_false (Int.not_lt.mpr (Int.ofNat_le.mpr hp))
  refine br_f n2 ?_
  refine br_f (ch_ne (dig_ne hd2 (by decide : 44 < 48))) ?_
  have h4 : (((C ++ [(Txt.words data).map dstr]).set C.length [dstr ⟨#[d1, d2]⟩, dstr ⟨#[b1, b2, b3]⟩, dstr ⟨#[y1, y2, y3, y4]⟩, dstr ⟨#[h1, h2, 58, m1, m2, 58, s1, s2]⟩, dstr z]) ++ [[dstr ⟨#[d1, d2]⟩, dstr ⟨#[b1, b2, b3]⟩, dstr ⟨#[y1, y2, y3, y4]⟩, dstr ⟨#[h1, h2, 58, m1, m2, 58, s1, s2]⟩, dstr z]]).take C.length = C := by
    rw [set_last]; exact tk_app (tk_app tk_self)
  exact (ev12b (a := some (.lst ((C ++ [(Txt.words data).map dstr]).set C.length [dstr ⟨#[d1, d2]⟩, dstr ⟨#[b1, b2, b3]⟩, dstr ⟨#[y1, y2, y3, y4]⟩, dstr ⟨#[h1, h2, 58, m1, m2, 58, s1, s2]⟩, dstr z]).length)) (b := none) h4 hd1 hd2 hy ht hy1 tail :)
end
section
open PySem PySem.W PySem.Calls PyProof.Rows PySem.SeqAt
set_option maxHeartbeats 400000
variable {T : Tab} {n : Nat} {loc loc' : Loc} {C C' : Cs} {k : KE} {kx : KX}
noncomputable def offOf (v : Int) : Int := if v = 0 then 0 else if v < 0 then -1 * (-v / 100 * 3600 + -v % 100 * 60) else 1 * (v / 100 * 3600 + v % 100 * 60)
noncomputable def parsed (yy mm dd hh mi ss : Int) (off : At) : List D := [dint yy, dint mm, dint dd, dint hh, dint mi, dint ss, dint 0, dint 1, dint (-1), .at off]
theorem closed_at {m : Nat} (l : List At) : ∀ d ∈ l.map D.at, closedD m d := fun d hd => let ⟨_, _, e⟩ := List.mem_map.mp hd; e ▸ trivial
theorem parsed_cl {m : Nat} {yy mm dd hh mi ss : Int} {off : At} : ∀ d ∈ parsed yy mm dd hh mi ss off, closedD m d :=
  closed_at [.int yy, .int mm, .int dd, .int hh, .int mi, .int ss, .int 0, .int 1, .int (-1), off]
theorem div100 {v : Int} (h : v.natAbs < 10 ^ 6) : (v / Int.ofNat 100).natAbs < 2 ^ 40 := by
  show (v / 100).natAbs < 2 ^ 40
  omega
theorem mod100 (v : Int) : (v % Int.ofNat 100).natAbs < 2 ^ 40 := by
  show (v % 100).natAbs < 2 ^ 40
  omega
/-- statements from `if tzoffset` on -/
theorem ev12c {yy mm dd hh mi ss v : Int} {Cf : Cs} (a b c e f g : Option D) (hC : Closed C.length C) (hcf : Cf.take C.length = C) (hv : v.natAbs < 10 ^ 6) (h : k (.lst C.length) (C ++ [parsed yy mm dd hh mi ss (.int (offOf v))])) :
    Xs T 97 (lit12.1.drop 27) [a, b, c, e, some (dint dd), some (dint mm), some (dint yy), f, g, some (dint hh), some (dint mi), some (dint ss), some (dint v), none] Cf (RetK C.length k) := by
  have fin := rk_lst hC (tk_app (t := [parsed yy mm dd hh mi ss (.int (offOf v))]) hcf) (tk_le hcf) lk_last parsed_cl h
  unfold offOf at fin
  by_cases c1 : v = 0
  · rw [if_pos c1] at fin
    refine br_f (by rw [decide_eq_true c1]; rfl) ?_
    subst c1
    exact fin
  · rw [if_neg c1] at fin
    refine br_t (by rw [decide_eq_false c1]; rfl) ?_
    by_cases c2 : v < 0
    · rw [if_pos c2] at fin
      have hv2 : (-v).natAbs < 10 ^ 6 := by rw [Int.natAbs_neg]; exact hv
      refine br_t (decide_eq_true c2) ?_
      refine wn_lt (div100 hv2) ?_
      refine wn_lt (mod100 _) ?_
      exact fin
    · rw [if_neg c2] at fin
      refine br_f (decide_eq_false c2) ?_
      refine wn_lt (div100 hv) ?_
      refine wn_lt (mod100 _) ?_
      exact fin
theorem ev12d {yy mm dd hh mi ss : Int} {Cf : Cs} (a b c e f g : Option D) (hC : Closed C.length C) (hcf : Cf.take C.length = C) (h : k (.lst C.length) (C ++ [parsed yy mm dd hh mi ss .none])) :
    Xs T 97 (lit12.1.drop 27) [a, b, c, e, some (dint dd), some (dint mm), some (dint yy), f, g, some (dint hh), some (dint mi), some (dint ss), some (.at .none), none] Cf (RetK C.length k) :=
  rk_lst hC (tk_app (t := [parsed yy mm dd hh mi ss .none]) hcf) (tk_le hcf) lk_last parsed_cl h
/-- a zone of the table -/
theorem ev12t {yy mm dd hh mi ss v : Int} {z : Str} {Cf : Cs} (a b f : Option D) (hC : Closed C.length C) (hcf : Cf.take C.length = C) (hul : (Txt.upper z).length ≤ 640) (hz : tzTab.lookup (Txt.upper z) = some v) (hv : v.natAbs < 10 ^ 6)
    (h : k (.lst C.length) (C ++ [parsed yy mm dd hh mi ss (.int (offOf v))])) :
    Xs T 100 (lit12.1.drop 24) [a, b, none, none, some (dint dd), some (dint mm), some (dint yy), f, some (dstr z), some (dint hh), some (dint mi), some (dint ss), none, none] Cf (RetK C.length k) := by
  refine And.intro (Nat.le_trans hul (by decide)) ?_
  refine br_t (by rw [hz]; rfl) ?_
  refine op hz ?_
  exact (ev12c (T := T) a b none none f (some (dstr (Txt.upper z))) hC hcf hv h :)
/-- a zone of figures -/
theorem ev12n {yy mm dd hh mi ss v : Int} {z : Str} {Cf : Cs} (a b f : Option D) (hC : Closed C.length C) (hcf : Cf.take C.length = C) (hul : (Txt.upper z).length ≤ 640) (hz : tzTab.lookup (Txt.upper z) = none) (hi : PySem.intText? (Txt.upper z) = some v) (hv : v.natAbs < 10 ^ 6)
    (h : k (.lst C.length) (C ++ [parsed yy mm dd hh mi ss (if v = 0 ∧ Txt.startswith (Txt.upper z) ⟨#[45]⟩ = true then .none else .int (offOf v))])) :
    Xs T 100 (lit12.1.drop 24) [a, b, none, none, some (dint dd), some (dint mm), some (dint yy), f, some (dstr z), some (dint hh), some (dint mi), some (dint ss), none, none] Cf (RetK C.length k) := by
  refine And.intro (Nat.le_trans hul (by decide)) ?_
  refine br_f (by rw [hz]; rfl) ?_
  refine op hi ?_
  refine wn_le hul ?_
  by_cases c1 : v = 0
  · refine br_t (decide_eq_true c1) ?_
    cases c2 : Txt.startswith (Txt.upper z) ⟨#[45]⟩ with
    | true =>
      rw [if_pos ⟨c1, c2⟩] at h
      refine br_t c2 ?_
      exact (ev12d (T := T) a b none none f (some (dstr (Txt.upper z))) hC hcf h :)
    | false =>
      rw [if_neg (fun q => by rw [c2] at q; cases q.2)] at h
      refine br_f c2 ?_
      exact (ev12c (T := T) a b none none f (some (dstr (Txt.upper z))) hC hcf hv h :)
  · rw [if_neg (fun q => c1 q.1)] at h
    refine br_f (decide_eq_false c1) ?_
    exact (ev12c (T := T) a b none none f (some (dstr (Txt.upper z))) hC hcf hv h :)
end
section
open PySem PySem.W PySem.Calls PyProof.Rows PySem.SeqAt
set_option maxHeartbeats 400000
variable {T : Tab} {n : Nat} {loc loc' : Loc} {C C' : Cs} {k : KE} {kx : KX}
noncomputable def read10 (yy mm dd hh mi ss off : Int) : List At := [.int yy, .int mm, .int dd, .int hh, .int mi, .int ss, .int 0, .int 1, .int (-1), .int off]
/-- what parsedate_tz makes of the zone -/
noncomputable def zoneN : At → Int
  | .int i => i
  | _ => 0
theorem ev11 {data : Str} {yy mm dd hh mi ss : Int} {off : At} {sp : Spec} (hT : T.lookup 72 = some sp) (hsp : ∀ k' : KE, k' (.lst C.length) (C ++ [parsed yy mm dd hh mi ss off]) → sp [dstr data] [] C k') (ho : off = .none ∨ ∃ i, off = .int i) (hC : Closed C.length C) (h : k (.tup (read10 yy mm dd hh mi ss (zoneN off))) C) :
    Xs T 60 lit11.1 [some (dstr data), none] C (RetK C.length k) := by
  refine op hT ?_
  refine hsp _ ?_
  refine op lk_last ?_
  refine op lk_last ?_
  rcases ho with rfl | ⟨i, rfl⟩
  · refine op lk_last ?_
    refine op (lk_set lk_last) ?_
    exact rk_val hC (by rw [set_last]; exact tk_app tk_self) trivial h
  · refine op lk_last ?_
    exact rk_val hC (tk_app tk_self) trivial h
end
section
open PySem PySem.W PySem.Calls PyProof.Rows PySem.SeqAt
noncomputable def ent (P : Params) (x : Str) (t : Nat) (v : Value) : DictEntry := ⟨PyData.keyHash P x, .str x t, v⟩
noncomputable def dicO (es : Array DictEntry) (n : Nat) : Obj := { cls := .type "dict", data := .dict es n }
noncomputable def strO (xs : List (Str × Nat)) : Obj := { cls := .type "list", data := .seq (xs.map fun p => Value.str p.1 p.2).toArray }
noncomputable def parOf : Option Stmt → Arguments
  | some (.FunctionDef _ p _ _ _ _ _ _ _ _) => p
  | _ => ⟨[], [], none, [], [], none, []⟩
noncomputable def fnD (nm : Str) (i : Nat) (dv kv : Value) (pm : Str) (pt : Nat) (c : Addr) : FuncData :=
  { name := nm, qualname := nm, params := parOf (stmtAt i), body := .stmts (bdAt i), scope := scAt i, globals := 3, closure := [], defaults := dv, kwdefaults := kv, pyModule := .str pm pt, code := .ref c }
noncomputable def fnO (nm : Str) (i : Nat) (dv kv : Value) (pm : Str) (pt : Nat) (c : Addr) : Obj := { cls := .type "function", data := .func (fnD nm i dv kv pm pt c) }
/-- the part of the heap that law leans on -/
noncomputable def KK (P : Params) : Frag := [
  (2, { cls := .none, data := .dict #[] }),
  (3, dicO #[ent P "__name__" 165 (.str "law_rl0118_01" 390), ent P "__doc__" 166 (.none), ent P "__package__" 167 (.none), ent P "__loader__" 168 (.builtin "__main__.__loader__#opaque"), ent P "__spec__" 169 (.none), ent P "__annotations__" 170 (.ref 6), ent P "__builtins__" 171 (.ref 4), ent P "__file__" 173 (.str "/claim/cut.py" 172), ent P "__cached__" 174 (.none), ent P "insort_right" 201 (.ref 23), ent P "bisect_right" 215 (.ref 32), ent P "bisect_left" 229 (.ref 41), ent P "rgb_to_hsv" 249 (.ref 48), ent P "hsv_to_rgb" 263 (.ref 55), ent P "_monthnames" 290 (.ref 56), ent P "_daynames" 298 (.ref 57), ent P "_timezones" 351 (.ref 58), ent P "parsedate_tz" 359 (.ref 65), ent P "_parsedate_tz" 379 (.ref 72), ent P "_format_timetuple_and_zone" 389 (.ref 79), ent P "_law_when" 398 (.ref 86), ent P "_law_image" 406 (.ref 93), ent P "_law_moved" 418 (.ref 100), ent P "_law_exchanges" 424 (.ref 105), ent P "_law_told" 434 (.ref 112), ent P "law" 440 (.ref 117)] 26),
  (15, { cls := .type "tuple", data := .seq #[.int 0 189, .none] }),
  (24, { cls := .type "tuple", data := .seq #[.int 0 202, .none] }),
  (33, { cls := .type "tuple", data := .seq #[.int 0 216, .none] }),
  (16, dicO #[ent P "key" 190 .none] 1),
  (25, dicO #[ent P "key" 203 .none] 1),
  (34, dicO #[ent P "key" 217 .none] 1),
  (56, strO [("jan", 266), ("feb", 267), ("mar", 268), ("apr", 269), ("may", 270), ("jun", 271), ("jul", 272), ("aug", 273), ("sep", 274), ("oct", 275), ("nov", 276), ("dec", 277), ("january", 278), ("february", 279), ("march", 280), ("april", 281), ("may", 282), ("june", 283), ("july", 284), ("august", 285), ("september", 286), ("october", 287), ("november", 288), ("december", 289)]),
  (57, strO [("mon", 291), ("tue", 292), ("wed", 293), ("thu", 294), ("fri", 295), ("sat", 296), ("sun", 297)]),
  (58, dicO #[ent P "UT" 299 (.int 0 300), ent P "UTC" 301 (.int 0 302), ent P "GMT" 303 (.int 0 304), ent P "Z" 305 (.int 0 306), ent P "AST" 307 (.int (-400) 309), ent P "ADT" 310 (.int (-300) 312), ent P "EST" 313 (.int (-500) 315), ent P "EDT" 316 (.int (-400) 318), ent P "CST" 319 (.int (-600) 321), ent P "CDT" 322 (.int (-500) 324), ent P "MST" 325 (.int (-700) 327), ent P "MDT" 328 (.int (-600) 330), ent P "PST" 331 (.int (-800) 333), ent P "PDT" 334 (.int (-700) 336)] 14),
  (23, fnO "insort_right" 1 (.ref 15) (.ref 16) "cpy313.bisect" 187 22),
  (32, fnO "bisect_right" 2 (.ref 24) (.ref 25) "cpy313.bisect" 187 31),
  (41, fnO "bisect_left" 3 (.ref 33) (.ref 34) "cpy313.bisect" 187 40),
  (48, fnO "rgb_to_hsv" 5 (.none) (.none) "cpy313.colorsys" 230 47),
  (55, fnO "hsv_to_rgb" 6 (.none) (.none) "cpy313.colorsys" 230 54),
  (65, fnO "parsedate_tz" 11 (.none) (.none) "cpy313.email._parseaddr" 264 64),
  (72, fnO "_parsedate_tz" 12 (.none) (.none) "cpy313.email._parseaddr" 264 71),
  (79, fnO "_format_timetuple_and_zone" 14 (.none) (.none) "cpy313.email.utils" 380 78),
  (86, fnO "_law_when" 16 (.none) (.none) "law_rl0118_01" 390 85),
  (93, fnO "_law_image" 17 (.none) (.none) "law_rl0118_01" 390 92),
  (100, fnO "_law_moved" 18 (.none) (.none) "law_rl0118_01" 390 99),
  (105, fnO "_law_exchanges" 19 (.none) (.none) "law_rl0118_01" 390 104),
  (112, fnO "_law_told" 20 (.none) (.none) "law_rl0118_01" 390 111)]
noncomputable def codesK : List (Addr × Str) := [(22, "insort_right"), (31, "bisect_right"), (40, "bisect_left"), (47, "rgb_to_hsv"), (54, "hsv_to_rgb"), (64, "parsedate_tz"), (71, "_parsedate_tz"), (78, "_format_timetuple_and_zone"), (85, "_law_when"), (92, "_law_image"), (99, "_law_moved"), (104, "_law_exchanges"), (111, "_law_told")]
noncomputable def asK : List Addr := [2, 3, 15, 24, 33, 16, 25, 34, 56, 57, 58, 23, 32, 41, 48, 55, 65, 72, 79, 86, 93, 100, 105, 112]
noncomputable def qualOf : Option Obj → Option Str
  | some ⟨_, _, .fields us, _⟩ => (match (us[1]? : Option Value) with
    | some (.str q _) => some q
    | _ => none)
  | _ => none
theorem codeRec_of {h : Heap} {c : Addr} {q : Str} (e : qualOf (h.get? c) = some q) : h.CodeRec (.ref c) q := by
  unfold qualOf at e
  split at e
  · rename_i eo
    split at e
    · rename_i e1
      cases e
      exact ⟨c, _, _, _, rfl, eo, rfl, e1⟩
    · cases e
  · cases e
/-- K holds in a heap, and the defs' code objects tell their names -/
def KIn (w : World) (h : Heap) : Prop := (KK w.params).In h ∧ ∀ p ∈ codesK, h.CodeRec (.ref p.1) p.2
theorem KIn.keeps (w : World) (h h' : Heap) (x : KIn w h) (k : ∀ b o, h.get? b = some o → h'.get? b = some o) : KIn w h' := ⟨x.1.keeps k, fun p q => (x.2 p q).keeps k⟩
noncomputable def obsK (s : Shared) : List (Option Obj) × List (Option Str) := (asK.map s.heap.get?, codesK.map fun p => qualOf (s.heap.get? p.1))
noncomputable def valK (w : World) : List (Option Obj) × List (Option Str) := ((KK w.params).map fun p => some p.2, codesK.map fun p => some p.2)
theorem KIn.of (w : World) (s : Shared) (x : obsK s = valK w) : KIn w s.heap :=
  ⟨Frag.in_of (K := KK w.params) (as := asK) rfl (congrArg Prod.fst x), fun p hp => codeRec_of (List.map_inj_left.mp (show codesK.map (fun p => qualOf (s.heap.get? p.1)) = codesK.map (fun p => some p.2) from congrArg Prod.snd x) p hp)⟩
noncomputable def hookK : Hook := ⟨_, obsK, valK, KIn, KIn.of, KIn.keeps⟩
variable {prog : Program} {w : World} {B : Heap} {r : Nat} {T : Tab}
theorem kIn {K : Frag} {σ : Gh} {s : Shared} {C : Cs} (X : K.In B) (R : Rep B σ s.heap C) : K.In s.heap := X.keeps R.base
theorem binds_peek {K : Frag} {s : Shared} {fd : FuncData} {a : Args} {bs : List (Str × Value)} (X : K.In s.heap) (e : ∀ S, peek K S (bindArgs fd a) = some bs) : BindsTo s fd a bs :=
  fun M _ _ _ q => (Looks.of_peek (M := M) X (e _)).here q
noncomputable def psAt (i n : Nat) : List Str := (vsAt i).take n
noncomputable def isLocal : Option NameKind → Bool
  | some .local => true
  | _ => false
noncomputable def isCell : NameKind → Bool
  | .cell => true
  | _ => false
noncomputable def isFun : ScopeKind → Bool
  | .function => true
  | _ => false
noncomputable def noDup : List Str → Bool
  | [] => true
  | x :: l => !(l.any fun y => decide (x = y)) && noDup l
theorem noDup_ok : ∀ {l : List Str}, noDup l = true → l.Nodup
  | [], _ => List.nodup_nil
  | x :: l, h => by
    have h := Bool.and_eq_true_iff.mp h
    refine List.nodup_cons.mpr ⟨fun hm => ?_, noDup_ok h.2⟩
    have q : (l.any fun y => decide (x = y)) = true := List.any_eq_true.mpr ⟨x, hm, decide_eq_true rfl⟩
    have h1 := h.1
    rw [q] at h1; cases h1
/-- the def's scope is as it must be; its first n locals are its parameters, m more follow -/
noncomputable def okSc (i n m : Nat) : Bool := (!(scAt i).isCoroutine && !(scAt i).isGenerator) && (isFun (scAt i).kind && (scAt i).names.all fun x => !isCell x.2) && (noDup (vsAt i) && ((psAt i n).all fun x => isLocal ((scAt i).names.lookup x)) && (Nat.beq (psAt i n).length n && Nat.beq (vsAt i).length (n + m)))
structure OkD (i n m : Nat) : Prop where
  co : (scAt i).isCoroutine = false
  gen : (scAt i).isGenerator = false
  kind : (scAt i).kind = .function
  nocell : ∀ x ∈ (scAt i).names, x.2 ≠ .cell
  nd : (vsAt i).Nodup
  lo : ∀ x ∈ psAt i n, (scAt i).names.lookup x = some .local
  len : (psAt i n).length = n
  all : (vsAt i).length = n + m
theorem okSc_ok {i n m : Nat} (h : okSc i n m = true) : OkD i n m := by
  unfold okSc at h
  simp only [Bool.and_eq_true, List.all_eq_true, Bool.not_eq_true'] at h
  obtain ⟨⟨⟨h1, h2⟩, h3, h4⟩, ⟨h5, h6⟩, h7, h8⟩ := h
  refine ⟨h1, h2, ?_, fun x hx e => ?_, noDup_ok h5, fun x hx => ?_, Nat.eq_of_beq_eq_true h7, Nat.eq_of_beq_eq_true h8⟩
  · revert h3; cases (scAt i).kind <;> intro h3 <;> first | rfl | cases h3
  · have := h4 x hx; rw [e] at this; cases this
  · have := h6 x hx
    revert this
    generalize (scAt i).names.lookup x = o
    intro h
    unfold isLocal at h
    split at h
    · rfl
    · cases h
theorem lookup_zip {α : Type} : ∀ {l : List (Str × α)} {x : Str} {v : α}, (l.map Prod.fst).Nodup → (x, v) ∈ l → l.lookup x = some v
  | (y, u) :: l, x, v, nd, h => by
    have nd := List.nodup_cons.mp nd
    rcases List.mem_cons.mp h with e | h
    · cases e; simp
    · have : x ≠ y := fun e => nd.1 (e ▸ List.mem_map.mpr ⟨_, h, rfl⟩)
      rw [List.lookup_cons, show (x == y) = false from beq_eq_false_iff_ne.mpr this]
      exact lookup_zip nd.2 h
theorem locR_zip {σ : Gh} {h : Heap} {i n m : Nat} (O : OkD i n m) {us : List Value} {ds : List D} (hl : us.length = n) (R : RepVs B σ h us ds) : LocR B σ h (vsAt i) ((psAt i n).zip us) (ds.map some ++ List.replicate m none) := by
  have hd : ds.length = n := R.length ▸ hl
  refine ⟨by rw [List.length_append, List.length_map, List.length_replicate, hd, O.all], fun j x d h1 h2 => ?_⟩
  rcases Nat.lt_or_ge j n with hj | hj
  · rw [List.getElem?_append_left (by rw [List.length_map, hd]; exact hj), List.getElem?_map] at h2
    obtain ⟨d', h3, h4⟩ := Option.map_eq_some_iff.mp h2
    cases h4
    have hv : us[j]? = some _ := List.getElem?_eq_getElem (hl ▸ hj)
    obtain ⟨d2, h5, q⟩ := R.getl hv
    rw [h3] at h5; cases h5
    refine ⟨_, lookup_zip ?_ (List.mem_reverse.mpr (List.mem_iff_getElem?.mpr ⟨j, ?_⟩)), q⟩
    · rw [List.map_reverse, List.map_fst_zip (by rw [O.len, hl]; exact Nat.le_refl _)]
      exact List.pairwise_reverse.mpr ((O.nd.sublist (List.take_sublist _ _)).imp Ne.symm)
    · rw [List.getElem?_zip_eq_some]
      exact ⟨by show ((vsAt i).take n)[j]? = _; rw [List.getElem?_take_of_lt hj]; exact h1, hv⟩
  · rw [List.getElem?_append_right (by rw [List.length_map, hd]; exact hj), List.getElem?_replicate] at h2
    split at h2 <;> cases h2
/-- a def stands at f and keeps its spec -/
noncomputable def OkAt (prog : Program) (w : World) (B : Heap) (r : Nat) (f : Addr) (sp : Spec) : Prop := (∃ o fd, B.get? f = some o ∧ o.data = .func fd) ∧ SpecOk prog w B r f sp
theorem OkAt.up {f : Addr} {sp : Spec} {r' : Nat} (h : OkAt prog w B r f sp) (le : r ≤ r') : OkAt prog w B r' f sp :=
  ⟨h.1, fun A σ s vals kvals args kws C k room tk R ra rk hsp => h.2 A σ s vals kvals args kws C k ⟨room.hd, Nat.lt_of_le_of_lt (Nat.add_le_add_left le _) room.dp, Nat.lt_of_le_of_lt (by omega) room.un⟩ tk R ra rk hsp⟩
theorem tab_nil : TabOk prog w B r [] := fun f sp h => nomatch h
theorem tab_cons {f : Addr} {sp : Spec} (h : OkAt prog w B r f sp) (t : TabOk prog w B r T) : TabOk prog w B r ((f, sp) :: T) := by
  intro g sq e
  rw [List.lookup_cons] at e
  by_cases q : g = f
  · subst q; simp at e; subst e; exact h
  · rw [show (g == f) = false from beq_eq_false_iff_ne.mpr q] at e
    exact t g sq e
/-- a def keeps its spec: by its body -/
theorem def_ok (X : KIn w B) (G : GF prog w B glob) (HT : TabOk prog w B r T) {i n m : Nat} {f : Addr} {nm pm : Str} {dv kv : Value} {pt c j : Nat} {lit : { mb // mbAt i = mb }} (e : (KK w.params).lookup f = some (fnO nm i dv kv pm pt c)) (hj : codesK[j]? = some (c, nm)) (ok : okSc i n m = true) {sp : Spec}
    (h : ∀ (s : Shared) σ C vals kvals args kws k, RepVs B σ s.heap vals args → KwR B σ s.heap kvals kws → sp args kws C k → Closed C.length C →
      ∃ us ds N, (∀ S, peek (KK w.params) S (bindArgs (fnD nm i dv kv pm pt c) ⟨vals, kvals⟩) = some ((psAt i n).zip us)) ∧ RepVs B σ s.heap us ds ∧ us.length = n ∧ Xs T N lit.1 (ds.map some ++ List.replicate m none) C (RetK C.length k)) :
    OkAt prog w B (r + 1) f sp := by
  have O := okSc_ok ok
  have S := Tr.sound G HT (cXs 60 (ctxAt i) (bdAt i)).2 rfl
  have S : SXs prog w B r T (scAt i) (vsAt i) (bdAt i) (mbAt i) := S
  rw [lit.2] at S
  have Fa : FnAt B f (fnD nm i dv kv pm pt c) := ⟨⟨_, X.1 _ _ e, rfl⟩, X.2 _ (List.mem_of_getElem? hj), rfl, rfl, rfl, O.co, O.gen, O.kind, O.nocell⟩
  refine ⟨⟨_, _, X.1 _ _ e, rfl⟩, spec_of (fd := fnD nm i dv kv pm pt c) G Fa rfl S O.nd fun s σ C vals kvals args kws k R ra rk hsp hC _ => ?_⟩
  obtain ⟨us, ds, N, h1, h2, h3, h4⟩ := h s σ C vals kvals args kws k ra rk hsp hC
  exact ⟨_, _, N, binds_peek (kIn X.1 R) h1, fun x hx => O.lo _ (List.of_mem_zip hx).1, locR_zip O h3 h2, h4⟩
/-- one whose arguments all come by place -/
theorem def_pos (X : KIn w B) (G : GF prog w B glob) (HT : TabOk prog w B r T) {i n m : Nat} {f : Addr} {nm pm : Str} {dv kv : Value} {pt c j : Nat} {lit : { mb // mbAt i = mb }} (e : (KK w.params).lookup f = some (fnO nm i dv kv pm pt c)) (hj : codesK[j]? = some (c, nm)) (ok : okSc i n m = true) {sp : Spec}
    (hb : ∀ S vals, vals.length = n → peek (KK w.params) S (bindArgs (fnD nm i dv kv pm pt c) ⟨vals, []⟩) = some ((psAt i n).zip vals))
    (h : ∀ C args kws k, sp args kws C k → Closed C.length C → args.length = n ∧ kws = [] ∧ ∃ N, Xs T N lit.1 (args.map some ++ List.replicate m none) C (RetK C.length k)) :
    OkAt prog w B (r + 1) f sp :=
  def_ok X G HT e hj ok fun s σ C vals kvals args kws k ra rk hsp hC => by
    obtain ⟨h1, h2, N, h3⟩ := h C args kws k hsp hC
    subst h2
    cases rk
    exact ⟨vals, args, N, fun S => hb S vals (ra.length.trans h1), ra, ra.length.trans h1, h3⟩
theorem lenA {α : Type} {P : List α → Prop} (h : ∀ a, P [a]) : ∀ l, l.length = 1 → P l
  | [a], _ => h a
theorem lenB {α : Type} {P : List α → Prop} (h : ∀ a b, P [a, b]) : ∀ l, l.length = 2 → P l
  | [a, b], _ => h a b
theorem lenC {α : Type} {P : List α → Prop} (h : ∀ a b c, P [a, b, c]) : ∀ l, l.length = 3 → P l
  | [a, b, c], _ => h a b c
end
section
open PySem PySem.W PySem.Calls PyProof.Rows PySem.SeqAt
set_option maxHeartbeats 400000
variable {prog : Program} {w : World} {B : Heap} {r : Nat} {T : Tab}
theorem ok_when (X : KIn w B) (G : GF prog w B glob) : OkAt prog w B 1 86 spWhen := by
  refine def_pos (i := 16) (n := 1) (m := 0) (lit := lit16) (j := 8) X G tab_nil rfl rfl (by kernel_rfl) (fun S => lenA fun _ => by kernel_rfl) fun C args kws k h hC => ?_
  obtain ⟨a, l, rfl, e2, hl, hk⟩ := h
  exact ⟨rfl, e2, 20, ev16 hC hl hk⟩
theorem ok_image (X : KIn w B) (G : GF prog w B glob) : OkAt prog w B 1 93 spImage := by
  refine def_pos (i := 17) (n := 2) (m := 0) (lit := lit17) (j := 9) X G tab_nil rfl rfl (by kernel_rfl) (fun S => lenB fun _ _ => by kernel_rfl) fun C args kws k h hC => ?_
  obtain ⟨a, b, s, rfl, e2, hk⟩ := h
  exact ⟨rfl, e2, 20, ev17 hC hk⟩
theorem ok_hsv (X : KIn w B) (G : GF prog w B glob) : OkAt prog w B 1 55 spHsv := by
  refine def_pos (i := 6) (n := 3) (m := 5) (lit := lit6) (j := 4) X G tab_nil rfl rfl (by kernel_rfl) (fun S => lenC fun _ _ _ => by kernel_rfl) fun C args kws k h hC => ?_
  obtain ⟨x, y, z, t, rfl, e2, e, hk⟩ := h
  exact ⟨rfl, e2, 60, ev6 e hC hk⟩
theorem ok_rgb (X : KIn w B) (G : GF prog w B glob) : OkAt prog w B 1 48 spRgb := by
  refine def_pos (i := 5) (n := 3) (m := 9) (lit := lit5) (j := 3) X G tab_nil rfl rfl (by kernel_rfl) (fun S => lenC fun _ _ _ => by kernel_rfl) fun C args kws k h hC => ?_
  obtain ⟨x, y, z, t, rfl, e2, e, hk⟩ := h
  exact ⟨rfl, e2, 60, ev5 e hC hk⟩
theorem ok_told (X : KIn w B) (G : GF prog w B glob) : OkAt prog w B 2 112 spTold := by
  refine def_pos (i := 20) (n := 3) (m := 1) (lit := lit20) (j := 12) X G (tab_cons (ok_hsv X G) (tab_cons (ok_rgb X G) tab_nil)) rfl rfl (by kernel_rfl) (fun S => lenC fun _ _ _ => by kernel_rfl) fun C args kws k h hC => ?_
  obtain ⟨x, y, z, t, rfl, e2, e, hk⟩ := h
  exact ⟨rfl, e2, 60, ev20 rfl rfl e hC hk⟩
theorem ok_moved (X : KIn w B) (G : GF prog w B glob) : OkAt prog w B 2 100 spMoved := by
  refine def_pos (i := 18) (n := 3) (m := 3) (lit := lit18) (j := 10) X G (tab_cons (ok_image X G) tab_nil) rfl rfl (by kernel_rfl) (fun S => lenC fun _ _ _ => by kernel_rfl) fun C args kws k h hC => ?_
  obtain ⟨x, a, b, row, rfl, e2, hx, h0, h1, h9, hk⟩ := h
  obtain ⟨p, rfl⟩ : ∃ p : Nat, a = (p : Int) := ⟨_, (Int.toNat_of_nonneg h0).symm⟩
  exact ⟨rfl, e2, 100, ev18 rfl hx (Int.ofNat_lt.mp h1) h9 hC hk⟩
theorem ok_exch (X : KIn w B) (G : GF prog w B glob) : OkAt prog w B 3 105 spExch := by
  refine def_pos (i := 19) (n := 2) (m := 5) (lit := lit19) (j := 11) X G (tab_cons (ok_moved X G) tab_nil) rfl rfl (by kernel_rfl) (fun S => lenB fun _ _ => by kernel_rfl) fun C args kws k h hC => ?_
  obtain ⟨w, x, zs, rfl, e2, hx, h3, h5, hk⟩ := h
  exact ⟨rfl, e2, 84, ev19 rfl hx h3 h5 hC hk⟩
theorem ok_fmt (X : KIn w B) (G : GF prog w B glob) : OkAt prog w B 1 79 spFmt := by
  refine def_pos (i := 14) (n := 2) (m := 0) (lit := lit14) (j := 7) X G tab_nil rfl rfl (by kernel_rfl) (fun S => lenB fun _ _ => by kernel_rfl) fun C args kws k h hC => ?_
  obtain ⟨y, mo, d, hh, mi, ss, nd, z, m, p, t, rfl, e2, h1, h2, h3, h4, c, c6, rfl, hk⟩ := h
  exact ⟨rfl, e2, 60, ev14 h1 h2 h3 h4 c c6 hC hk⟩
end
section
open PySem PySem.W PySem.Calls PyProof.Rows PySem.SeqAt
set_option maxHeartbeats 400000
variable {prog : Program} {w : World} {B : Heap} {r : Nat} {T : Tab} {σ : Gh} {h : Heap}
theorem vals2 {vals : List Value} {a b : D} (x : RepVs B σ h vals [a, b]) : ∃ v u, vals = [v, u] ∧ RepV B σ h v a ∧ RepV B σ h u b := by
  cases x with | cons r t => cases t with | cons r2 t => cases t; exact ⟨_, _, rfl, r, r2⟩
theorem vals4 {vals : List Value} {a b c d : D} (x : RepVs B σ h vals [a, b, c, d]) : ∃ v u t q, vals = [v, u, t, q] ∧ RepV B σ h v a ∧ RepV B σ h u b ∧ RepV B σ h t c ∧ RepV B σ h q d := by
  cases x with | cons r t => cases t with | cons r2 t => cases t with | cons r3 t => cases t with | cons r4 t => cases t; exact ⟨_, _, _, _, rfl, r, r2, r3, r4⟩
theorem kw1 {kvals : List (Str × Value)} {y : Str} {d : D} (x : KwR B σ h kvals [(y, d)]) : ∃ u, kvals = [(y, u)] ∧ RepV B σ h u d := by
  cases x with | @cons a _ _ _ q t => cases t; obtain ⟨z, v⟩ := a; obtain ⟨e, q⟩ := q; cases e; exact ⟨v, rfl, q⟩
theorem rep5 {v1 v2 v3 v4 v5 : Value} {a b c d e : D} (r1 : RepV B σ h v1 a) (r2 : RepV B σ h v2 b) (r3 : RepV B σ h v3 c) (r4 : RepV B σ h v4 d) (r5 : RepV B σ h v5 e) : RepVs B σ h [v1, v2, v3, v4, v5] [a, b, c, d, e] :=
  .cons r1 (.cons r2 (.cons r3 (.cons r4 (.cons r5 .nil))))
theorem ok_BL (X : KIn w B) (G : GF prog w B glob) : OkAt prog w B 1 41 spBL := by
  refine def_ok (i := 3) (n := 5) (m := 1) (lit := lit3) (j := 2) X G tab_nil rfl rfl (by kernel_rfl) fun s σ C vals kvals args kws k ra rk hsp hC => ?_
  obtain ⟨x, f, fs, q, rfl, rfl, hx, hl, rfl, hk⟩ := hsp
  obtain ⟨v1, v2, rfl, r1, r2⟩ := vals2 ra
  cases rk
  exact ⟨[v1, v2, .int 0 216, .none, .none], _, 60, fun _ => by kernel_rfl, rep5 r1 r2 (.at (.int _ _)) (.at .none) (.at .none), rfl, ev3F hx hl hC hk⟩
theorem ok_BR (X : KIn w B) (G : GF prog w B glob) : OkAt prog w B 2 32 spBR := by
  refine def_ok (i := 2) (n := 5) (m := 1) (lit := lit2) (j := 1) X G (tab_cons (ok_when X G) tab_nil) rfl rfl (by kernel_rfl) fun s σ C vals kvals args kws k ra rk hsp hC => ?_
  rcases hsp with ⟨x, f, r, fs, q, rfl, rfl, hr, hx, hl, rfl, hk⟩ | ⟨x, f, ts, rfl, rfl, hx, hs, hl, hk⟩
  · cases rk
    rcases hr with rfl | rfl
    · obtain ⟨v1, v2, rfl, r1, r2⟩ := vals2 ra
      exact ⟨[v1, v2, .int 0 202, .none, .none], _, 60, fun _ => by kernel_rfl, rep5 r1 r2 (.at (.int _ _)) (.at .none) (.at .none), rfl, ev2F hx hl hC hk⟩
    · obtain ⟨v1, v2, v3, v4, rfl, r1, r2, r3, r4⟩ := vals4 ra
      exact ⟨[v1, v2, v3, v4, .none], _, 60, fun _ => by kernel_rfl, rep5 r1 r2 r3 r4 (.at .none), rfl, ev2F hx hl hC hk⟩
  · obtain ⟨v1, v2, v3, v4, rfl, r1, r2, r3, r4⟩ := vals4 ra
    obtain ⟨u, rfl, r5⟩ := kw1 rk
    exact ⟨[v1, v2, v3, v4, u], _, 60, fun _ => by kernel_rfl, rep5 r1 r2 r3 r4 r5, rfl, ev2K rfl hx hs hl hC hk⟩
theorem ok_Ins (X : KIn w B) (G : GF prog w B glob) : OkAt prog w B 3 23 spIns := by
  refine def_ok (i := 1) (n := 5) (m := 0) (lit := lit1) (j := 0) X G (tab_cons (ok_BR X G) (tab_cons ((ok_when X G).up (Nat.le_succ _)) tab_nil)) rfl rfl (by kernel_rfl) fun s σ C vals kvals args kws k ra rk hsp hC => ?_
  rcases hsp with ⟨x, f, fs, l2, rfl, rfl, hx, hl, rfl, hk⟩ | ⟨x, f, l, ts, l2, rfl, rfl, hll, hx, hs, hl, rfl, hk⟩
  · obtain ⟨v1, v2, rfl, r1, r2⟩ := vals2 ra
    cases rk
    exact ⟨[v1, v2, .int 0 189, .none, .none], _, 60, fun _ => by kernel_rfl, rep5 r1 r2 (.at (.int _ _)) (.at .none) (.at .none), rfl, ev1F rfl hx hl hC hk⟩
  · obtain ⟨v1, v2, rfl, r1, r2⟩ := vals2 ra
    obtain ⟨u, rfl, r5⟩ := kw1 rk
    exact ⟨[v1, v2, .int 0 189, .none, u], _, 60, fun _ => by kernel_rfl, rep5 r1 r2 (.at (.int _ _)) (.at .none) r5, rfl, ev1K rfl rfl hx hs hl hll hC hk⟩
end
section
open PySem PySem.W PySem.Calls PyProof.Rows PySem.SeqAt
set_option maxHeartbeats 4000000
variable {prog : Program} {w : World} {B : Heap} {r : Nat} {T : Tab}
theorem ns_of {K : Frag} {h : Heap} {N : Addr} {mg : Str → Option Value} {n : Str} {v : Option Value} (X : K.In h) (G : h.Ns N mg) (e : nsIn K N n = some v) : mg n = v := by
  obtain ⟨o, es, ep, ho, hd, _, hf⟩ := G
  unfold nsIn at e
  split at e
  · rename_i c d es' n' sl q
    have := X _ _ q
    rw [ho] at this
    cases this
    cases hd
    refine (hf n).symm.trans ?_
    unfold nsFind findBy
    rw [← Array.find?_toList]
    split at e
    · rename_i x he
      exact (congrArg _ he).trans (Option.some.inj e)
    · rename_i he
      split at e
      · cases e
      · exact (congrArg _ he).trans (Option.some.inj e)
  · cases e

noncomputable def tzEnt (es : List DictEntry) (tab : List (Str × Int)) : Prop := All2 (fun (e : DictEntry) (p : Str × Int) => (∃ t, e.key = .str p.1 t) ∧ ∃ u, e.val = .int p.2 u) es tab
theorem tz_find {es : List DictEntry} {tab : List (Str × Int)} (h : tzEnt es tab) (k : Str) :
    match tab.lookup k with
    | some i => ∃ t, (es.find? fun e => (strKind prog w).is k e.key).map (·.val) = some (.int i t)
    | none => (es.find? fun e => (strKind prog w).is k e.key).map (·.val) = none := by
  unfold tzEnt at h
  induction h with
  | nil => simp
  | @cons e p es tab h1 h2 ih =>
    obtain ⟨⟨t, ht⟩, ⟨u, hu⟩⟩ := h1
    obtain ⟨x, i⟩ := p
    have hk : (strKind prog w).is k e.key = decide (k = x) := by
      rw [ht]; exact (strKind prog w).is_eq_decide (strKind_is prog w x t) k
    rw [List.lookup_cons]
    by_cases q : k = x
    · subst q
      simp only [beq_self_eq_true]
      exact ⟨u, by rw [List.find?_cons, hk]; simp [hu]⟩
    · have q' : (k == x) = false := by simpa using q
      rw [q']
      simp only
      rw [List.find?_cons, hk]
      simp only [q, decide_false]
      exact ih

theorem forall_nil {α : Type} {P : α → Prop} : ∀ x ∈ ([] : List α), P x := fun x h => by simp at h
theorem forall_cons {α : Type} {P : α → Prop} {a : α} {l : List α} (h1 : P a) (h2 : ∀ x ∈ l, P x) : ∀ x ∈ a :: l, P x := fun x h => by
  rcases List.mem_cons.mp h with rfl | h
  · exact h1
  · exact h2 x h

inductive All {α : Type} (P : α → Prop) : List α → Prop where
  | nil : All P []
  | cons {a l} : P a → All P l → All P (a :: l)
theorem tz_keys {l : List DictEntry} (h : All (fun e => ∃ k, (strKind prog w).is k e.key = true ∧ e.hash = (strKind prog w).hash k) l) : ∀ e ∈ l, ∃ k, (strKind prog w).is k e.key = true ∧ e.hash = (strKind prog w).hash k := by
  induction h with
  | nil => exact forall_nil
  | cons h1 _ ih => exact forall_cons h1 ih

theorem gf_of {p : Program} {loose : List Str} {mg mb : Str → Option Value} (KX : (KK w.params).In B) (T : TopRead p loose mg mb B) : GF prog w B glob := by
  refine ⟨⟨mg, mb, T.g, T.b, ?_, ?_, ?_, ?_⟩, T.nolimit, ?_, ?_⟩
  · intro x d h
    have h := lookup_mem h
    revert h
    generalize hp : (x, d) = pq
    intro h
    have key : ∀ pq ∈ glob, ∃ v, mg pq.1 = some v ∧ ∀ σ h, RepV B σ h v pq.2 := by
      unfold glob
      refine forall_cons ⟨_, ns_of KX T.g (by kernel_rfl), fun σ h => .fn _⟩ ?_
      refine forall_cons ⟨_, ns_of KX T.g (by kernel_rfl), fun σ h => .fn _⟩ ?_
      refine forall_cons ⟨_, ns_of KX T.g (by kernel_rfl), fun σ h => .fn _⟩ ?_
      refine forall_cons ⟨_, ns_of KX T.g (by kernel_rfl), fun σ h => .fn _⟩ ?_
      refine forall_cons ⟨_, ns_of KX T.g (by kernel_rfl), fun σ h => .fn _⟩ ?_
      refine forall_cons ⟨_, ns_of KX T.g (by kernel_rfl), fun σ h => .frz (vs := ?vs) ⟨?n, KX 56 _ ?e⟩ ?a⟩ ?_
      case e => rfl
      case a => 
        show All2 _ _ (months.map At.str)
        repeat (first | exact All2.nil | refine All2.cons (RepA.str _ _) ?_)
      refine forall_cons ⟨_, ns_of KX T.g (by kernel_rfl), fun σ h => .frz (vs := ?vs2) ⟨?n2, KX 57 _ ?e2⟩ ?a2⟩ ?_
      case e2 => rfl
      case a2 => 
        show All2 _ _ (days.map At.str)
        repeat (first | exact All2.nil | refine All2.cons (RepA.str _ _) ?_)
      refine forall_cons ⟨_, ns_of KX T.g (by kernel_rfl), fun σ h => .dct⟩ ?_
      iterate 9 refine forall_cons ⟨_, ns_of KX T.g (by kernel_rfl), fun σ h => .fn _⟩ ?_
      exact forall_nil
    have := key pq h
    subst hp
    exact this
  · intro b
    refine ⟨?_, ?_⟩
    · cases b <;> exact ns_of KX T.g rfl
    · rw [T.builtins _ (by cases b <;> decide)]
      cases b <;> rfl
  · exact ns_of KX T.g rfl
  · rw [T.builtins _ (by decide)]; rfl
  · obtain ⟨mc, h1, h2⟩ := T.nolimit
    exact ⟨mc, h1, ns_of KX h1 rfl⟩
  · refine ⟨_, ⟨?o, ?es, ?ep, KX 58 _ ?e, ?h1, ?h2, ?h3, fun k => rfl⟩, ?_⟩
    case e => rfl
    case h1 => exact ⟨rfl, rfl, rfl⟩
    case h2 => rfl
    case h3 =>
      intro e he
      refine tz_keys (prog := prog) (w := w) ?_ e (Array.mem_toList_iff.mpr he)
      iterate 14 (refine All.cons ?_ ?_; exact ⟨_, strKind_is prog w _ _, rfl⟩)
      exact All.nil
    · intro k
      unfold findBy
      rw [← Array.find?_toList]
      refine tz_find (prog := prog) (w := w) (tab := tzTab) ?_ k
      unfold tzEnt
      iterate 14 (refine All2.cons ?_ ?_; exact ⟨⟨_, rfl⟩, ⟨_, rfl⟩⟩)
      exact All2.nil
end
section
open PySem PySem.W PySem.Calls PyProof.Rows PySem.SeqAt
open PySem.Builtin PySem.Builtin.Str
set_option maxHeartbeats 400000
variable {T : Tab} {n : Nat} {loc loc' : Loc} {C C' : Cs} {k : KE} {kx : KX}

noncomputable def zoneS : Nat → Str
  | 0 => ⟨#[43, 48, 53, 51, 48]⟩
  | 1 => ⟨#[45, 48, 56, 48, 48]⟩
  | 2 => ⟨#[43, 49, 51, 52, 53]⟩
  | 3 => ⟨#[71, 77, 84]⟩
  | 4 => ⟨#[69, 83, 84]⟩
  | 5 => ⟨#[45, 48, 48, 48, 48]⟩
  | 6 => ⟨#[43, 48, 48, 48, 48]⟩
  | _ => ⟨#[80, 68, 84]⟩
noncomputable def zoneV : Nat → Int
  | 0 => 530
  | 1 => -800
  | 2 => 1345
  | 4 => -500
  | 7 => -700
  | _ => 0
noncomputable def zoneA : Nat → At
  | 5 => .none
  | i => .int (offOf (zoneV i))
theorem lt8 {P : Nat → Prop} (h0 : P 0) (h1 : P 1) (h2 : P 2) (h3 : P 3) (h4 : P 4) (h5 : P 5) (h6 : P 6) (h7 : P 7) : ∀ i, i < 8 → P i
  | 0, _ => h0 | 1, _ => h1 | 2, _ => h2 | 3, _ => h3 | 4, _ => h4 | 5, _ => h5 | 6, _ => h6 | 7, _ => h7
  | n + 8, h => absurd h (Nat.not_lt.mpr (Nat.le_add_left _ _))
theorem lt12 {P : Nat → Prop} (h : ∀ i, i < 8 → P i) (h8 : P 8) (h9 : P 9) (h10 : P 10) (h11 : P 11) : ∀ i, i < 12 → P i
  | 8, _ => h8 | 9, _ => h9 | 10, _ => h10 | 11, _ => h11
  | 0, _ => h 0 (by decide) | 1, _ => h 1 (by decide) | 2, _ => h 2 (by decide) | 3, _ => h 3 (by decide) | 4, _ => h 4 (by decide) | 5, _ => h 5 (by decide) | 6, _ => h 6 (by decide) | 7, _ => h 7 (by decide)
  | n + 12, h => absurd h (Nat.not_lt.mpr (Nat.le_add_left _ _))
noncomputable def Day3 (i : Nat) : Prop := i = 7 ∨ ∃ a1 a2 a3 : Nat, dayN.getD i Str.empty = ⟨#[a1, a2, a3]⟩ ∧ Unicode.isSpace a1 = false ∧ Unicode.isSpace a2 = false ∧ Unicode.isSpace a3 = false
theorem day3 : ∀ i, i < 8 → Day3 i := by
  apply lt8 <;> first | exact .inl rfl | exact .inr ⟨_, _, _, rfl, by kernel_rfl, by kernel_rfl, by kernel_rfl⟩
noncomputable def Mon3 (i : Nat) : Prop := ∃ (b1 b2 b3 : Nat), monN.getD i Str.empty = ⟨#[b1, b2, b3]⟩ ∧ Unicode.isSpace b1 = false ∧ Unicode.isSpace b2 = false ∧ Unicode.isSpace b3 = false ∧
  (Txt.lower ⟨#[b1, b2, b3]⟩).length ≤ 1000 ∧ (months.any fun y => decide (y = Txt.lower ⟨#[b1, b2, b3]⟩)) = true ∧ months.idxOf (Txt.lower ⟨#[b1, b2, b3]⟩) = i
theorem mon3 : ∀ i, i < 12 → Mon3 i := by
  apply lt12
  · apply lt8 <;> exact ⟨_, _, _, rfl, by kernel_rfl, by kernel_rfl, by kernel_rfl, by decide +kernel, by kernel_rfl, by kernel_rfl⟩
  all_goals exact ⟨_, _, _, rfl, by kernel_rfl, by kernel_rfl, by kernel_rfl, by decide +kernel, by kernel_rfl, by kernel_rfl⟩
noncomputable def Zone (i : Nat) : Prop := (zoneS i).cps.toList.all (fun c => !Unicode.isSpace c) = true ∧ ((zoneS i).cps.toList.length = 3 ∨ (zoneS i).cps.toList.length = 5) ∧ (Txt.upper (zoneS i)).length ≤ 640 ∧ (zoneV i).natAbs < 10 ^ 6 ∧
  ((tzTab.lookup (Txt.upper (zoneS i)) = some (zoneV i) ∧ zoneA i = .int (offOf (zoneV i))) ∨
    (tzTab.lookup (Txt.upper (zoneS i)) = none ∧ PySem.intText? (Txt.upper (zoneS i)) = some (zoneV i) ∧ zoneA i = if zoneV i = 0 ∧ Txt.startswith (Txt.upper (zoneS i)) ⟨#[45]⟩ = true then .none else .int (offOf (zoneV i))))
theorem zones : ∀ i, i < 8 → Zone i := by
  apply lt8 <;> refine ⟨by kernel_rfl, ?_, by decide +kernel, by decide +kernel, ?_⟩
  all_goals first | exact .inl rfl | exact .inr rfl | exact .inl ⟨by decide +kernel, rfl⟩ | exact .inr ⟨by kernel_rfl, by kernel_rfl, by kernel_rfl⟩
theorem dig9 {c : Nat} (h : c < 10) : 48 ≤ 48 + c ∧ 48 + c ≤ 57 := ⟨Nat.le_add_right _ _, Nat.add_le_add_left (Nat.le_of_lt_succ h) 48⟩
theorem q10 {n : Nat} (h : n < 100) : n / 10 < 10 := Nat.div_lt_of_lt_mul h
theorem r10 {n : Nat} : n % 10 < 10 := Nat.mod_lt _ (by decide)
theorem spDig : ∀ c < 10, Unicode.isSpace (48 + c) = false := by decide +kernel
theorem val2 (n : Nat) : (48 + n / 10 - 48) * 10 + (48 + n % 10 - 48) = n := by
  rw [Nat.add_sub_cancel_left, Nat.add_sub_cancel_left]; exact Nat.div_add_mod' n 10
theorem val4 (y : Nat) : (((48 + y / 1000 - 48) * 10 + (48 + y / 100 % 10 - 48)) * 10 + (48 + y / 10 % 10 - 48)) * 10 + (48 + y % 10 - 48) = y := by
  have e1 : y / 1000 = y / 100 / 10 := (Nat.div_div_eq_div_mul y 100 10).symm
  have e2 : y / 100 = y / 10 / 10 := (Nat.div_div_eq_div_mul y 10 10).symm
  rw [e1, val2 (y / 100), e2]
  have h := val2 (y / 10)
  rw [Nat.add_sub_cancel_left] at h
  rw [h, Nat.add_sub_cancel_left]
  exact Nat.div_add_mod' y 10
end
section
open PySem PySem.W PySem.Calls PyProof.Rows PySem.SeqAt
open PySem.Builtin PySem.Builtin.Str
set_option maxHeartbeats 400000
variable {T : Tab} {n : Nat} {loc loc' : Loc} {C C' : Cs} {k : KE} {kx : KX}
theorem fmt_dateL {a1 a2 a3 b1 b2 b3 y d h m s : Nat} {z : Str} (hd : d < 100) (hy1 : 1000 ≤ y) (hy2 : y < 10000) (hh : h < 100) (hm : m < 100) (hs : s < 100) :
    fmtDate ⟨#[a1, a2, a3]⟩ (d : Int) ⟨#[b1, b2, b3]⟩ (y : Int) (h : Int) (m : Int) (s : Int) z =
      ⟨(dateL a1 a2 a3 (48 + d / 10) (48 + d % 10) b1 b2 b3 (48 + y / 1000) (48 + y / 100 % 10) (48 + y / 10 % 10) (48 + y % 10) (48 + h / 10) (48 + h % 10) (48 + m / 10) (48 + m % 10) (48 + s / 10) (48 + s % 10) z.cps.toList).toArray⟩ := by
  unfold fmtDate dateL
  rw [pad2 hd, pad4 hy1 hy2, pad2 hh, pad2 hm, pad2 hs]
  rfl
theorem shape35 {P : List Nat → Prop} (h3 : ∀ a b c, P [a, b, c]) (h5 : ∀ a b c d e, P [a, b, c, d, e]) : ∀ l, (l.length = 3 ∨ l.length = 5) → P l
  | [a, b, c], _ => h3 a b c
  | [a, b, c, d, e], _ => h5 a b c d e
  | [], .inl h | [], .inr h | [_], .inl h | [_], .inr h | [_, _], .inl h | [_, _], .inr h | [_, _, _, _], .inl h | [_, _, _, _], .inr h => nomatch h
  | _ :: _ :: _ :: _ :: _ :: _ :: _, .inl h | _ :: _ :: _ :: _ :: _ :: _ :: _, .inr h => nomatch h
theorem words_z {a1 a2 a3 d1 d2 b1 b2 b3 y1 y2 y3 y4 h1 h2 m1 m2 s1 s2 : Nat} (h : ∀ c ∈ [a1, a2, a3, d1, d2, b1, b2, b3, y1, y2, y3, y4, h1, h2, m1, m2, s1, s2], Unicode.isSpace c = false) :
    ∀ l : List Nat, (l.length = 3 ∨ l.length = 5) → l.all (fun c => !Unicode.isSpace c) = true →
      Txt.words ⟨(dateL a1 a2 a3 d1 d2 b1 b2 b3 y1 y2 y3 y4 h1 h2 m1 m2 s1 s2 l).toArray⟩ = [⟨#[a1, a2, a3, 44]⟩, ⟨#[d1, d2]⟩, ⟨#[b1, b2, b3]⟩, ⟨#[y1, y2, y3, y4]⟩, ⟨#[h1, h2, 58, m1, m2, 58, s1, s2]⟩, ⟨l.toArray⟩] := by
  have key : ∀ l : List Nat, l.all (fun c => !Unicode.isSpace c) = true → ∀ c ∈ [a1, a2, a3, d1, d2, b1, b2, b3, y1, y2, y3, y4, h1, h2, m1, m2, s1, s2] ++ l, Unicode.isSpace c = false := fun l q c hc =>
    (List.mem_append.mp hc).elim (h c) fun hc => by have := List.all_eq_true.mp q c hc; revert this; cases Unicode.isSpace c <;> intro this <;> first | rfl | cases this
  exact shape35 (fun a b c q => date_words3 (key _ q)) (fun a b c d e q => date_words5 (key _ q))
structure DateOk (nd mo d y h m s zi : Nat) : Prop where
  nd : nd < 7
  mo : mo < 12
  d : d < 100
  y1 : 1000 ≤ y
  y2 : y < 10000
  h : h < 100
  m : m < 100
  s : s < 100
  z : zi < 8
noncomputable def dateT (nd mo d y h m s zi : Nat) : Str := fmtDate (dayN.getD nd Str.empty) (d : Int) (monN.getD mo Str.empty) (y : Int) (h : Int) (m : Int) (s : Int) (zoneS zi)
theorem allD {P : Nat → Prop} {a b c d : Nat} (h1 : P a) (h2 : P b) (h3 : P c) (h4 : P d) : ∀ x ∈ [a, b, c, d], P x := forall_cons h1 (forall_cons h2 (forall_cons h3 (forall_cons h4 forall_nil)))
theorem app_all {P : Nat → Prop} {l m : List Nat} (h1 : ∀ x ∈ l, P x) (h2 : ∀ x ∈ m, P x) : ∀ x ∈ l ++ m, P x := fun x h => (List.mem_append.mp h).elim (h1 x) (h2 x)
theorem allB {P : Nat → Prop} {a b : Nat} (h1 : P a) (h2 : P b) : ∀ x ∈ [a, b], P x := forall_cons h1 (forall_cons h2 forall_nil)
theorem allC {P : Nat → Prop} {a b c : Nat} (h1 : P a) (h2 : P b) (h3 : P c) : ∀ x ∈ [a, b, c], P x := forall_cons h1 (allB h2 h3)
theorem dig2 {P : Nat → Prop} (p : ∀ c, c < 10 → P (48 + c)) {d : Nat} (h : d < 100) : ∀ x ∈ [48 + d / 10, 48 + d % 10], P x := allB (p _ (q10 h)) (p _ r10)
theorem dig4 {P : Nat → Prop} (p : ∀ c, c < 10 → P (48 + c)) {y : Nat} (h : y < 10000) : ∀ x ∈ [48 + y / 1000, 48 + y / 100 % 10, 48 + y / 10 % 10, 48 + y % 10], P x := allD (p _ (Nat.div_lt_of_lt_mul h)) (p _ r10) (p _ r10) (p _ r10)
/-- the date that was written is read -/
theorem ev12 {nd mo d y h m s zi : Nat} (H : DateOk nd mo d y h m s zi)
    (hC : Closed C.length C) (hk : k (.lst C.length) (C ++ [parsed (y : Int) ((mo : Int) + 1) (d : Int) (h : Int) (m : Int) (s : Int) (zoneA zi)])) :
    Xs T 124 lit12.1 [some (dstr (dateT nd mo d y h m s zi)), none, none, none, none, none, none, none, none, none, none, none, none, none] C (RetK C.length k) := by
  rcases day3 nd (Nat.lt_succ_of_lt H.nd) with q | ⟨a1, a2, a3, ea, sa⟩
  · exact absurd q (Nat.ne_of_lt H.nd)
  obtain ⟨b1, b2, b3, eb, sb1, sb2, sb3, hlm, hin, hix⟩ := mon3 mo H.mo
  obtain ⟨z1, z2, z3, z4, z5⟩ := zones zi H.z
  have e : dateT nd mo d y h m s zi = _ := (congrArg (fun x => fmtDate x _ (monN.getD mo Str.empty) _ _ _ _ _) ea).trans ((congrArg (fun x => fmtDate _ _ x _ _ _ _ _) eb).trans (fmt_dateL (z := zoneS zi) H.d H.y1 H.y2 H.h H.m H.s))
  have sp : ∀ c < 10, Unicode.isSpace (48 + c) = false := spDig
  have hw : Txt.words (dateT nd mo d y h m s zi) = _ := (congrArg Txt.words e).trans (words_z (app_all (allC sa.1 sa.2.1 sa.2.2) (app_all (dig2 sp H.d) (app_all (allC sb1 sb2 sb3) (app_all (dig4 sp H.y2) (app_all (dig2 sp H.h) (app_all (dig2 sp H.m) (dig2 sp H.s))))))) _ z2 z1)
  have hl : (dateT nd mo d y h m s zi).length = 26 + (zoneS zi).cps.toList.length := by
    rw [e]
    exact Nat.add_comm _ 26
  have hl3 : (zoneS zi).cps.toList.length ≤ 5 := by
    rcases z2 with q | q <;> rw [q] <;> decide
  refine ev12a (hl ▸ Nat.lt_of_lt_of_le (by decide) (Nat.le_add_right 26 _)) (hl ▸ Nat.lt_of_le_of_lt (Nat.add_le_add_left hl3 26) (by decide)) hw hlm hin hix H.mo (dig9 (q10 H.d)) (dig9 r10) (dig4 (fun c => dig9) H.y2) (app_all (dig2 (fun c => dig9) H.h) (app_all (dig2 (fun c => dig9) H.m) (dig2 (fun c => dig9) H.s))) ?_ ?_
  · exact Nat.ne_of_gt (Nat.lt_add_of_pos_right (Nat.div_pos H.y1 (by decide)))
  · intro Cf a b c hcf
    rw [val2, val2, val2, val2, val4]
    rcases z5 with ⟨q1, q2⟩ | ⟨q1, q2, q3⟩
    · rw [q2] at hk
      exact ev12t a b c hC hcf z3 q1 z4 hk
    · rw [q3] at hk
      exact ev12n a b c hC hcf z3 q1 q2 z4 hk
end
section
open PySem PySem.W PySem.Calls PyProof.Rows PySem.SeqAt
set_option maxHeartbeats 400000
variable {prog : Program} {w : World} {B : Heap} {r : Nat} {T : Tab}
noncomputable def spP12 : Spec := fun args kws C k => ∃ nd mo d y h m s zi : Nat, args = [dstr (dateT nd mo d y h m s zi)] ∧ kws = [] ∧ DateOk nd mo d y h m s zi ∧ k (.lst C.length) (C ++ [parsed (y : Int) ((mo : Int) + 1) (d : Int) (h : Int) (m : Int) (s : Int) (zoneA zi)])
noncomputable def zoneO (zi : Nat) : Int := zoneN (zoneA zi)
noncomputable def spP11 : Spec := fun args kws C k => ∃ nd mo d y h m s zi : Nat, args = [dstr (dateT nd mo d y h m s zi)] ∧ kws = [] ∧ DateOk nd mo d y h m s zi ∧ k (.tup (read10 (y : Int) ((mo : Int) + 1) (d : Int) (h : Int) (m : Int) (s : Int) (zoneO zi))) C
theorem zoneA_or : ∀ i, i < 8 → zoneA i = .none ∨ ∃ v, zoneA i = .int v := by
  apply lt8 <;> first | exact .inl rfl | exact .inr ⟨_, rfl⟩
theorem ok_P12 (X : KIn w B) (G : GF prog w B glob) : OkAt prog w B 1 72 spP12 := by
  refine def_pos (i := 12) (n := 1) (m := 13) (lit := lit12) (j := 6) X G tab_nil rfl rfl (by kernel_rfl) (fun S => lenA fun _ => by kernel_rfl) fun C args kws k h hC => ?_
  obtain ⟨nd, mo, d, y, h, m, s, zi, rfl, e2, H, hk⟩ := h
  exact ⟨rfl, e2, 124, ev12 H hC hk⟩
theorem ok_P11 (X : KIn w B) (G : GF prog w B glob) : OkAt prog w B 2 65 spP11 := by
  refine def_pos (i := 11) (n := 1) (m := 1) (lit := lit11) (j := 5) X G (tab_cons (ok_P12 X G) tab_nil) rfl rfl (by kernel_rfl) (fun S => lenA fun _ => by kernel_rfl) fun C args kws k h hC => ?_
  obtain ⟨nd, mo, d, y, h, m, s, zi, rfl, e2, H, hk⟩ := h
  exact ⟨rfl, e2, 60, ev11 (sp := spP12) rfl (fun k' q => ⟨nd, mo, d, y, h, m, s, zi, rfl, rfl, H, q⟩) (zoneA_or zi H.z) hC hk⟩
end
section
open PySem PySem.W PySem.Calls PyProof.Rows PySem.SeqAt
set_option maxHeartbeats 8000000
/-- what law may call -/
noncomputable def TT : Tab := [(105, spExch), (79, spFmt), (65, spP11), (23, spIns), (112, spTold), (41, spBL), (32, spBR), (93, spImage)]
theorem tt_ok {prog : Program} {w : World} {B : Heap} (X : KIn w B) (G : GF prog w B glob) : TabOk prog w B 3 TT :=
  tab_cons (ok_exch X G) (tab_cons ((ok_fmt X G).up (by decide)) (tab_cons ((ok_P11 X G).up (by decide)) (tab_cons (ok_Ins X G) (tab_cons ((ok_told X G).up (by decide)) (tab_cons ((ok_BL X G).up (by decide)) (tab_cons ((ok_BR X G).up (by decide)) (tab_cons ((ok_image X G).up (by decide)) tab_nil)))))))
/-- law's body behind its first statement -/
noncomputable def lit21t : { mb // (cXs 60 (ctxAt 21) ((bdAt 21).drop 1)).1 = mb } := by
  refine ⟨?mb, ?e⟩
  case e => conv => lhs; reduce
noncomputable def manyOf (ns : List Int) : Int := if 3 < ns.length then 6 else 5
noncomputable def loc0 (ns : List Int) : Loc := some (.arg (ns.map At.int)) :: none :: List.replicate 33 none
noncomputable def loc1 (ns : List Int) : Loc := some (.arg (ns.map At.int)) :: some (dint (manyOf ns)) :: List.replicate 33 none
/-- what is left to show of law -/
noncomputable def LawRuns : Prop := ∀ ns : List Int, ns.length ≤ 63 → ∃ n, Xs TT n lit21t.1 (loc1 ns) [] (fun o _ _ => o = .ret (dbool true))

theorem ints_rep {vs : List Value} {ns : List Int} (h : IntsAre vs ns) : All2 (RepA noFl) vs (ns.map At.int) := by
  induction h with
  | nil => exact .nil
  | cons n t _ ih => exact .cons (.int n t) ih

variable {prog : Program} {w : World} {B : Heap}
noncomputable abbrev G0 : Gh := ⟨[], noFl⟩
theorem first_ok (GG : GF prog w B glob) {ns : List Int} (hns : ns.length ≤ 63) {env : Env} (ok : EnvOk (scAt 21) (vsAt 21) env) {A : Around} {s : Shared} {pos p1 p2 p3 p4 p5 p6 p7 p8 : Pos}
    (R : Rep B G0 s.heap []) (F : Frm B env (vsAt 21) G0 s.heap (loc0 ns)) {Q : Flow → Shared → Prop}
    (hQ : ∀ h' tk, 0 < tk → Rep B G0 h' [] → Frm B env (vsAt 21) G0 h' (loc1 ns) → Q .next { s with heap := h', toks := tk }) :
    wpAny (model prog w) A (exec (.Assign [.Name "many" p1] (.IfExp (.Compare (.Call (.Name "len" p2) [.Name "script" p3] [] p4) [.Gt] [.Constant (.int 3) 0 p5] p6) (.Constant (.int 6) 0 p7) (.Constant (.int 5) 0 p8) pos) pos) env) Q No s := by
  have tk0 : ∀ {s' : Shared}, 0 < s'.toks → Tk G0 s' := fun h => ⟨h, fun t x e => by cases e⟩
  obtain ⟨m, hm, hv⟩ := F.ns
  have ks : env.kindOf "script" = some .local := by rw [ok.kindOf]; rfl
  obtain ⟨v, hv1, hv2⟩ := hv 0 "script" (.arg (ns.map At.int)) rfl ks rfl
  cases hv2 with
  | @arg a us _ hl ha =>
  have hlen : us.length = ns.length := by rw [ha.length]; simp
  have store : ∀ (i : Int) (t tk : Nat), 0 < tk → i = manyOf ns → wpAny (model prog w) A (storeName env "many" (.int i t)) (fun _ s' => Q .next s') No { s with toks := tk } := by
    intro i t tk htk hi
    refine wpAny_storeName_local (by rw [ok.kindOf]; rfl) hm (fun h' hn' sb => ?_) (by simp [ok.kind])
    have nt := ns_no_tuple hm
    have tu := tup_but sb.extBut nt
    refine hQ h' (tk + 1) (Nat.succ_pos _) (R.extBut sb.extBut F.newL (ns_no_list hm) nt) ⟨⟨_, hn', fun j y d' h1 h2 h3 => ?_⟩, F.newL, fun j y h1 h2 => ?_, rfl⟩
    · cases j with
      | zero =>
        have h1 : some (Str.ofString "script") = some y := h1
        have h3 : some (some (D.arg (ns.map At.int))) = some (some d') := h3
        cases h1; cases h3
        exact ⟨_, hv1, .arg hl ha⟩
      | succ j =>
        cases j with
        | zero =>
          have h1 : some (Str.ofString "many") = some y := h1
          have h3 : some (some (dint (manyOf ns))) = some (some d') := h3
          cases h1; cases h3
          exact ⟨.int i t, by simp, by rw [hi]; exact .at (.int _ _)⟩
        | succ j =>
          have h3 : (List.replicate 33 none)[j]? = some (some d') := h3
          rw [List.getElem?_replicate] at h3
          split at h3 <;> cases h3
    · obtain ⟨c, o, h3, h4, h5, h6⟩ := F.cl j y h1 h2
      refine ⟨c, o, h3, ?_, h5, fun d' h7 => ?_⟩
      · obtain ⟨ob, ho, hd⟩ := id h4
        exact ⟨ob, sb.extBut c ob (ns_ne_cell hm h4) ho, hd⟩
      · cases j with
        | zero =>
          have h1 : some (Str.ofString "script") = some y := h1
          cases h1
          rw [ks] at h2; cases h2
        | succ j =>
          cases j with
          | zero =>
            have h1 : some (Str.ofString "many") = some y := h1
            cases h1
            have : env.kindOf "many" = some .local := by rw [ok.kindOf]; rfl
            rw [this] at h2; cases h2
          | succ j =>
            have h7 : (List.replicate 33 none)[j]? = some (some d') := h7
            rw [List.getElem?_replicate] at h7
            split at h7 <;> cases h7
  refine wpAny_Assign_Name (IfExp_ (wpAny_isTrue_Compare1 (op := .Gt) (r := .Constant (.int 3) 0 p5) ?_ rfl)) (swaps_no rfl _ _ _)
  obtain ⟨mg, mb, n1, n2, hgl, hb, _⟩ := GG.top
  refine wpAny_Call_Name_kw (Name_function_global ok.kind (by rw [ok.kindOf]; rfl) (loadGlobal_builtin (mg := mg) (mb := mb) (by rw [ok.gl]; exact ns_base R n1) (hb .len).1 (by rw [ok.bl]; exact ns_base R n2) (hb .len).2 ?_) (by decide))
  refine callWith_builtin rfl (evalArgs_all rfl rfl ?_)
  refine wpAny_items_cons (e := .Name "script" p3) (wpAny_Name (wpAny_loadName_local ok.kind ks hm hv1 ?_) (by decide)) rfl
  refine wpAny_items_nil (wpAny_evalAll_nil ?_)
  refine call_len_list (hl.at fun o q => R.base _ o q) (by simp [hlen]; omega) ?_
  refine wpAny_Constant_int ?_
  refine gt_int (wpAny_truthy_bool ?_)
  have hsz : ((us.toArray.size : Nat) : Int) = (ns.length : Int) := by simp [hlen]
  by_cases c : 3 < ns.length
  · rw [show decide ((3 : Int) < (us.toArray.size : Int)) = true by rw [hsz]; exact decide_eq_true (by omega)]
    exact wpAny_Constant_int (store _ _ _ (Nat.succ_pos _) (by unfold manyOf; rw [if_pos c]))
  · rw [show decide ((3 : Int) < (us.toArray.size : Int)) = false by rw [hsz]; exact decide_eq_false (by omega)]
    exact wpAny_Constant_int (store _ _ _ (Nat.succ_pos _) (by unfold manyOf; rw [if_neg c]))
end
section
open PySem PySem.W PySem.Calls PyProof.Rows PySem.SeqAt
set_option maxHeartbeats 8000000
variable {prog : Program} {w : World} {B : Heap}
theorem law_body (KX : KIn w B) (G : GF prog w B glob) (H : LawRuns) {ns : List Int} (hns : ns.length ≤ 63) {env : Env} (ok : EnvOk (scAt 21) (vsAt 21) env)
    {A : Around} {s : Shared} (room : Room 3 A) (hB : ∀ b o, B.get? b = some o → s.heap.get? b = some o) (F : Frm B env (vsAt 21) ⟨[], noFl⟩ s.heap (loc0 ns)) :
    wpAny (model prog w) A (execs (bdAt 21) env) (fun f s' => f = .ret (.bool true) ∧ (∀ b o, B.get? b = some o → s'.heap.get? b = some o) ∧ (∃ m, s'.heap.Ns env.locals m) ∧ Same s s') No s := by
  have R0 : Rep B G0 s.heap [] := ⟨hB, rfl, fun k a ds p q => (nomatch q), fun a ha => (nomatch ha), List.nodup_nil⟩
  have S := Tr.sound G (tt_ok KX G) (cXs 60 (ctxAt 21) ((bdAt 21).drop 1)).2 rfl
  have S : SXs prog w B 3 TT (scAt 21) (vsAt 21) ((bdAt 21).drop 1) (cXs 60 (ctxAt 21) ((bdAt 21).drop 1)).1 := S
  rw [lit21t.2] at S
  have e : bdAt 21 = (bdAt 21).head! :: (bdAt 21).drop 1 := rfl
  rw [e]
  refine wpAny_execs_cons (first_ok G hns ok R0 F fun h' tk htk R1 F1 => ?_)
  obtain ⟨n, hX⟩ := H ns hns
  refine wp_no (S env ok n (loc1 ns) [] _ hX A G0 { s with heap := h', toks := tk } room ⟨htk, fun t x e => by cases e⟩ R1 F1) fun f s' h => ?_
  obtain ⟨o, loc', C', σ', rfl, hf, R, F', st⟩ := h
  cases hf with
  | ret rv =>
    cases rv with
    | «at» ra => cases ra; exact ⟨rfl, R.base, let ⟨m, hm, _⟩ := F'.ns; ⟨m, hm⟩, st.same⟩

theorem loc0_none {ns : List Int} {i : Nat} {d : D} (h : (loc0 ns)[i]? = some (some d)) : i = 0 ∧ d = .arg (ns.map At.int) := by
  cases i with
  | zero => exact ⟨rfl, by simp [loc0] at h; exact h.symm⟩
  | succ i =>
    cases i with
    | zero => simp [loc0] at h
    | succ i =>
      simp only [loc0, List.getElem?_cons_succ, List.getElem?_replicate] at h
      split at h <;> cases h
theorem vs21_0 {x : Str} (h : (vsAt 21)[0]? = some x) : x = "script" := by
  have : (vsAt 21)[0]? = some (Str.ofString "script") := rfl
  rw [this] at h; cases h; rfl
theorem cells21 {x : Str} (h : (scAt 21).names.lookup x = some .cell) : x = "ends" ∨ x = "hues" ∨ x = "line" ∨ x = "k" := by
  have h := lookup_mem h
  have e : (x, NameKind.cell) ∈ (scAt 21).names.filter (fun p => p.2 == .cell) := List.mem_filter.mpr ⟨h, rfl⟩
  have q : (scAt 21).names.filter (fun p => p.2 == .cell) = [(Str.ofString "k", NameKind.cell), (Str.ofString "line", NameKind.cell), (Str.ofString "hues", NameKind.cell), (Str.ofString "ends", NameKind.cell)] := rfl
  rw [q] at e
  rcases List.mem_cons.mp e with e | e
  · cases e; exact .inr (.inr (.inr rfl))
  rcases List.mem_cons.mp e with e | e
  · cases e; exact .inr (.inr (.inl rfl))
  rcases List.mem_cons.mp e with e | e
  · cases e; exact .inr (.inl rfl)
  rcases List.mem_cons.mp e with e | e
  · cases e; exact .inl rfl
  · cases e

theorem cells_inj {L : Nat} {x y : Str} {c : Nat} (h1 : (x, c) ∈ cellsFrom (L + 1) (scAt 21).names []) (h2 : (y, c) ∈ cellsFrom (L + 1) (scAt 21).names []) : x = y := by
  have q : cellsFrom (L + 1) (scAt 21).names [] = [(Str.ofString "ends", L + 1 + 1 + 1 + 1), (Str.ofString "hues", L + 1 + 1 + 1), (Str.ofString "line", L + 1 + 1), (Str.ofString "k", L + 1)] := rfl
  rw [q] at h1 h2
  simp only [List.mem_cons, Prod.mk.injEq, List.not_mem_nil, or_false] at h1 h2
  rcases h1 with ⟨rfl, h1⟩ | ⟨rfl, h1⟩ | ⟨rfl, h1⟩ | ⟨rfl, h1⟩ <;> rcases h2 with ⟨rfl, h2⟩ | ⟨rfl, h2⟩ | ⟨rfl, h2⟩ | ⟨rfl, h2⟩ <;> first | rfl | (exfalso; omega)

noncomputable def keepI : List Nat := [5, 6, 8, 9, 10, 11, 12, 14, 16, 17, 18, 19, 20, 21]
noncomputable def viewQ : Program := { PySem.Challenge.pw_rl0118_01 with main := { PySem.Challenge.pw_rl0118_01.main with body := keepI.filterMap stmtAt } }
noncomputable def looseQ : List Str := ["insort_right", "bisect_right", "bisect_left", "_monthnames", "_daynames", "_timezones"]
noncomputable def posOf : Option Stmt → Pos
  | some (.FunctionDef _ _ _ _ _ _ _ _ _ p) => p
  | _ => ⟨0, 0, 0, 0⟩
noncomputable def dLaw : DefRec := ⟨"law", parOf (stmtAt 21), bdAt 21, scAt 21, posOf (stmtAt 21)⟩
theorem law_call (H : LawRuns) : WalkO viewQ looseQ (XL viewQ []) KIn PySem.Challenge.rw_rl0118_01.row.toRowW dLaw [] fun f vs => PySem.call f vs := by
  w_on
  w_strict (
    intro w s₀ s₁ mg mb G Y fa o pm cd doc dV kV ho hd hcd hD hmg hg args vals as hpre hlay hrd hwl hlo
    refine Ground.open G ?_
    intro T B D TE TW
    obtain ⟨_, _, he, B0⟩ := based_of_top T rfl hmg ho hd
    have he' : cd = _ := he
    subst he'
    clear he hmg D TE TW B
    wrow_args hpre hlay hrd hwl hlo
    refine enter_call ?_
    w_top on
    refine codeAny_mono ?_ (fun _ _ g => GoodW.toG g)
    have K0 := below_caller (Top.heap T)
    w_call any ho hd hcd hD T F
    clear hd)
  rename_i w11 w10 ns hs hlay0 hL1 hr1 hl2 w8 w7 w6 vs w4 hL ra w1 r0 hI hr hcond1 hcond h1 tk1 o3 o2 o1 o0 l2 l1 l0 r00 N0 X0
  have GG := gf_of (prog := PySem.Challenge.rw_rl0118_01.row.prog) Y.1 (topRead_of T)
  have hns : ns.length ≤ 63 := by omega
  refine wpAny_mono (law_body (prog := PySem.Challenge.rw_rl0118_01.row.prog) Y GG H hns ?ok ?room F.keep ?F) (fun f s' h => ?_) (fun _ _ h => h.elim)
  case ok =>
    refine ⟨rfl, rfl, rfl, rfl, by decide, ?_⟩
    intro x y c h1 h2
    have h1 := lookup_mem h1
    have h2 := lookup_mem h2
    exact cells_inj h1 h2
  case room => exact ⟨rfl, (by decide : 1 + claimMargin + 1 + 3 < recursionLimit), (by decide : 4 + 3 + 8 * 3 + 100 < cLine)⟩
  case F =>
    refine ⟨⟨_, F.ns, ?_⟩, get?_size _, ?_, rfl⟩
    · intro i x d e1 e2 e3
      obtain ⟨rfl, rfl⟩ := loc0_none e3
      obtain rfl := vs21_0 e1
      exact ⟨_, rfl, .arg hL (ints_rep hI)⟩
    · intro i x e1 e2
      have e2' : (scAt 21).names.lookup x = some .cell := e2
      have none0 : ∀ d, (loc0 ns)[i]? = some (some d) → False := by
        intro d e3
        obtain ⟨rfl, rfl⟩ := loc0_none e3
        obtain rfl := vs21_0 e1
        revert e2'; decide
      rcases cells21 e2' with rfl | rfl | rfl | rfl
      · exact ⟨_, none, rfl, ⟨o3, (N0 (_, o3) (by simp)).1, l2⟩, (N0 (_, o3) (by simp)).2.2, fun d e => (none0 d e).elim⟩
      · exact ⟨_, none, rfl, ⟨o2, (N0 (_, o2) (by simp)).1, l1⟩, (N0 (_, o2) (by simp)).2.2, fun d e => (none0 d e).elim⟩
      · exact ⟨_, none, rfl, ⟨o1, (N0 (_, o1) (by simp)).1, l0⟩, (N0 (_, o1) (by simp)).2.2, fun d e => (none0 d e).elim⟩
      · exact ⟨_, none, rfl, ⟨o0, (N0 (_, o0) (by simp)).1, r00⟩, (N0 (_, o0) (by simp)).2.2, fun d e => (none0 d e).elim⟩
  · obtain ⟨rfl, hkeep, ⟨m, hm⟩, same⟩ := h
    refine goodW_bool ⟨hm, hkeep, F.above⟩ (same.1.trans hg) (raisesW_false ?_) ?_ same.2.2
    · wrow_none_raised
    · wrow_post
end
section
open PySem PySem.W PySem.Calls PyProof.Rows
set_option maxHeartbeats 2000000
theorem left : LeftO PySem.Challenge.rw_rl0118_01.row.prog viewQ looseQ (fun s => xlAt viewQ [] s && recOk PySem.Challenge.rw_rl0118_01.row.records s) obsK valK 1812 :=
  LeftO.of_split "special-get-raises" fun w => by kernel_rfl
theorem law_holds (H : LawRuns) : PySem.Challenge.rw_rl0118_01.Holds := by
  w_on
  refine holds_law (by kernel_rfl) fun said => ?_
  refine PySem.W.holds_open (d := dLaw) (kwd := []) left KIn.of KIn.keeps (fun s e => xl_of s (Bool.and_eq_true_iff.mp e).1) XL.keeps (by kernel_rfl) (by kernel_rfl) (by kernel_rfl) (fun s e => recFacts_of (Bool.and_eq_true_iff.mp e).2) (by kernel_rfl) (by assumption) (by kernel_rfl) ⟨rfl, rfl, rfl, rfl, rfl, by decide +kernel⟩ ?hw ?hc
  case hw => w_witness2
  case hc => exact law_call H
end
section
open PySem PySem.W PySem.Calls PyProof.Rows PySem.SeqAt
set_option maxHeartbeats 400000
noncomputable def f64 (k : Nat) : UInt64 := fdivII (k : Int) 64
noncomputable def qrt (i : Nat) : UInt64 := fdivII ((1 + i % 4 : Nat) : Int) 4
/-- a float, worked out first -/
noncomputable def fN {β : Type} (x : UInt64) (k : UInt64 → β) : β := Nat.rec (motive := fun _ => β) (k (UInt64.ofNat 0)) (fun n _ => k (UInt64.ofNat (n + 1))) x.toNat
theorem fN_eq {β : Type} (x : UInt64) (k : UInt64 → β) : fN x k = k x := by
  have h : UInt64.ofNat x.toNat = x := UInt64.ofNat_toNat
  unfold fN
  generalize x.toNat = n at h
  cases n with
  | zero => show k (UInt64.ofNat 0) = k x; rw [h]
  | succ n => show k (UInt64.ofNat (n + 1)) = k x; rw [h]
noncomputable def iN {β : Type} (x : Nat) (k : Nat → β) : β := Nat.rec (motive := fun _ => β) (k 0) (fun n _ => k (n + 1)) x
theorem iN_eq {β : Type} (x : Nat) (k : Nat → β) : iN x k = k x := by
  cases x <;> rfl
noncomputable def maxG (a b : UInt64) : UInt64 := match Float64.cmp b a with
  | some .gt => b
  | _ => a
noncomputable def minG (a b : UInt64) : UInt64 := match Float64.cmp b a with
  | some .lt => b
  | _ => a
theorem maxG_eq (a b : UInt64) : maxG a b = maxF a b := by
  unfold maxG maxF
  cases Float64.cmp b a with
  | none => rfl
  | some o => cases o <;> rfl
theorem minG_eq (a b : UInt64) : minG a b = minF a b := by
  unfold minG minF
  cases Float64.cmp b a with
  | none => rfl
  | some o => cases o <;> rfl

/-! the round trip of a colour, step by step; each float is worked out first -/
noncomputable def beqU (a b : UInt64) : Bool := Nat.beq a.toNat b.toNat
theorem beqU_eq {a b : UInt64} (h : beqU a b = true) : a = b := UInt64.toNat_inj.mp (Nat.eq_of_beq_eq_true h)
noncomputable def r9 (ea s es mx ev h1 : UInt64) : Bool := beqU h1 ea && (beqU s es && beqU mx ev)
noncomputable def r8 (ea s es mx ev h6 : UInt64) : Bool := fN (Float64.divmod h6 F1).2 (r9 ea s es mx ev)
noncomputable def r7 (ea s es mx ev h : UInt64) : Bool := fN (Float64.div h F6) (r8 ea s es mx ev)
noncomputable def rH (r g mx rc gc bc : UInt64) : UInt64 := match feq r mx with
  | true => Float64.sub bc gc
  | false => match feq g mx with
    | true => Float64.sub (Float64.add F2 rc) bc
    | false => Float64.sub (Float64.add F4 gc) rc
noncomputable def r6 (ea s es mx ev r g rc gc bc : UInt64) : Bool := fN (rH r g mx rc gc bc) (r7 ea s es mx ev)
noncomputable def r5b (ea s es mx ev r g rg rc gc bc : UInt64) : Bool := fN (Float64.div bc rg) (r6 ea s es mx ev r g rc gc)
noncomputable def r5 (ea s es mx ev r g b rg rc gc : UInt64) : Bool := fN (Float64.sub mx b) (r5b ea s es mx ev r g rg rc gc)
noncomputable def r4b (ea s es mx ev r g b rg rc gc : UInt64) : Bool := fN (Float64.div gc rg) (r5 ea s es mx ev r g b rg rc)
noncomputable def r4 (ea s es mx ev r g b rg rc : UInt64) : Bool := fN (Float64.sub mx g) (r4b ea s es mx ev r g b rg rc)
noncomputable def r3b (ea s es mx ev r g b rg rc : UInt64) : Bool := fN (Float64.div rc rg) (r4 ea s es mx ev r g b rg)
noncomputable def r3 (ea es mx ev r g b rg s : UInt64) : Bool := fN (Float64.sub mx r) (r3b ea s es mx ev r g b rg)
noncomputable def r2 (ea es ev r g b mx rg : UInt64) : Bool := (!Float64.isZero mx && !Float64.isZero rg) && fN (Float64.div rg mx) (r3 ea es mx ev r g b rg)
noncomputable def r1 (ea es ev r g b mx mn : UInt64) : Bool := !feq mn mx && fN (Float64.sub mx mn) (r2 ea es ev r g b mx)
noncomputable def r0d (ea es ev r g b mx n1 : UInt64) : Bool := fN (minG n1 b) (r1 ea es ev r g b mx)
noncomputable def r0c (ea es ev r g b mx : UInt64) : Bool := fN (minG r g) (r0d ea es ev r g b mx)
noncomputable def r0b (ea es ev r g b m1 : UInt64) : Bool := fN (maxG m1 b) (r0c ea es ev r g b)
noncomputable def r0 (ea es ev r g b : UInt64) : Bool := fN (maxG r g) (r0b ea es ev r g b)
theorem fN_go {x : UInt64} {k : UInt64 → Bool} (h : fN x k = true) : k x = true := (fN_eq x k).symm.trans h
theorem iN_go {x : Nat} {k : Nat → Bool} (h : iN x k = true) : k x = true := (iN_eq x k).symm.trans h
theorem sel_no {α : Type} {c d : Bool} {a b : α} (h1 : c = false) (h2 : d = true) : sel c d a b = some b := by subst h1; subst h2; rfl
theorem r1_eq {ea es ev r g b mx mn : UInt64} (h : r1 ea es ev r g b mx mn = true) : rgbG r g b mx mn = some (ea, es, ev) := by
  have h1 := and_iff h
  have h2 := and_iff (fN_go h1.2)
  have h3 : r9 ea _ es mx ev _ = true := fN_go (fN_go (fN_go (fN_go (fN_go (fN_go (fN_go (fN_go (fN_go (fN_go h2.2)))))))))
  have h3 := and_iff h3
  have h4 := and_iff h3.2
  rw [← beqU_eq h3.1, ← beqU_eq h4.1, ← beqU_eq h4.2]
  exact sel_no (not_t h1.1) h2.1
theorem r0_eq {ea es ev r g b : UInt64} (h : r0 ea es ev r g b = true) : rgbF r g b = some (ea, es, ev) := by
  have h := r1_eq (fN_go (fN_go (fN_go (fN_go h))))
  rw [maxG_eq, maxG_eq, minG_eq, minG_eq] at h
  exact h
noncomputable def sixB (ea es ev : UInt64) (r : Nat) (v p q t : UInt64) : Bool := match r with
  | 0 => r0 ea es ev v t p
  | 1 => r0 ea es ev q v p
  | 2 => r0 ea es ev p v t
  | 3 => r0 ea es ev p q v
  | 4 => r0 ea es ev t p v
  | _ => r0 ea es ev v p q
theorem sixB_eq {ea es ev v p q t : UInt64} {r : Nat} (h : sixB ea es ev r v p q t = true) : rgbF (six r v p q t).1 (six r v p q t).2.1 (six r v p q t).2.2 = some (ea, es, ev) := by
  unfold sixB at h
  split at h
  · exact r0_eq h
  · exact r0_eq h
  · exact r0_eq h
  · exact r0_eq h
  · exact r0_eq h
  · rename_i n0 n1 n2 n3 n4
    have : six r v p q t = (v, p, q) := by
      unfold six; split <;> first | rfl | contradiction
    rw [this]
    exact r0_eq h
noncomputable def s9 (ea : UInt64) (i : Nat) (s v p q t : UInt64) : Bool := iN (i % 6) fun r => sixB ea s v r v p q t
noncomputable def s8 (ea : UInt64) (i : Nat) (s v p q x : UInt64) : Bool := fN (Float64.mul v x) (s9 ea i s v p q)
noncomputable def s7c (ea : UInt64) (i : Nat) (s v p q x : UInt64) : Bool := fN (Float64.sub F1 x) (s8 ea i s v p q)
noncomputable def s7b (ea : UInt64) (i : Nat) (s v p q x : UInt64) : Bool := fN (Float64.mul s x) (s7c ea i s v p q)
noncomputable def s7 (ea : UInt64) (i : Nat) (s v f p q : UInt64) : Bool := fN (Float64.sub F1 f) (s7b ea i s v p q)
noncomputable def s6' (ea : UInt64) (i : Nat) (s v f p x : UInt64) : Bool := fN (Float64.mul v x) (s7 ea i s v f p)
noncomputable def s5' (ea : UInt64) (i : Nat) (s v f p x : UInt64) : Bool := fN (Float64.sub F1 x) (s6' ea i s v f p)
noncomputable def s4 (ea : UInt64) (i : Nat) (s v f p : UInt64) : Bool := fN (Float64.mul s f) (s5' ea i s v f p)
noncomputable def s3b (ea : UInt64) (i : Nat) (s v f x : UInt64) : Bool := fN (Float64.mul v x) (s4 ea i s v f)
noncomputable def s3 (ea : UInt64) (i : Nat) (s v f : UInt64) : Bool := fN (Float64.sub F1 s) (s3b ea i s v f)
noncomputable def s2b (ea : UInt64) (i : Nat) (s v h6 fi : UInt64) : Bool := fN (Float64.sub h6 fi) (s3 ea i s v)
noncomputable def s2 (ea s v h6 : UInt64) (i : Nat) : Bool := (Int.decEq (PySem.Flt.toInt Float64.truncOf h6) (i : Int)).decide && (!Float64.isInf (Float64.ofInt i) && fN (Float64.ofInt i) (s2b ea i s v h6))
noncomputable def s1 (ea s v h6 : UInt64) : Bool := Float64.isFinite h6 && iN (PySem.Flt.toInt Float64.truncOf h6).toNat (s2 ea s v h6)
noncomputable def s0 (ea s v h : UInt64) : Bool := !feq s F0 && fN (Float64.mul h F6) (s1 ea s v)
theorem told_of {ea h s v : UInt64} (e : s0 ea s v h = true) : toldF h s v = some (ea, s, v) := by
  have h1 := and_iff e
  have h2 := and_iff (fN_go h1.2)
  have h3 := and_iff (iN_go h2.2)
  have h4 := and_iff h3.2
  have e4 : hsvI h = ((PySem.Flt.toInt Float64.truncOf (Float64.mul h F6)).toNat : Int) := of_decide_eq_true h3.1
  have h5 := fN_go (fN_go (fN_go (fN_go (fN_go (fN_go (fN_go (fN_go (fN_go (fN_go (fN_go h4.2))))))))))
  have h6 := sixB_eq (iN_go h5)
  have hh := sel_no (a := (v, v, v)) (b := six (hsvI h % 6).toNat v (Float64.mul v (Float64.sub F1 s)) (Float64.mul v (Float64.sub F1 (Float64.mul s (hsvFr h)))) (Float64.mul v (Float64.sub F1 (Float64.mul s (Float64.sub F1 (hsvFr h)))))) (not_t h1.1) (show (Float64.isFinite (Float64.mul h F6) && !Float64.isInf (Float64.ofInt (hsvI h))) = true by rw [h2.1, e4, h4.1]; rfl)
  refine (congrArg (fun o => Option.bind o _) hh).trans ?_
  unfold hsvFr
  rw [e4]
  exact h6
noncomputable def t1 (s v : UInt64) (j : Nat) (ea : UInt64) : Bool := fN (f64 j) (s0 ea s v)
noncomputable def tellD (o i : Nat) (s v : UInt64) : Nat → Bool
  | 0 => true
  | d + 1 => fN (f64 ((55 + 10 * o + d - 10 * i) % 64)) (t1 s v (55 + 10 * o + d - 10 * i)) && tellD o i s v d
noncomputable def tellO (o : Nat) (s : UInt64) : Nat → Bool
  | 0 => true
  | i + 1 => (Nat.beq o i || fN (qrt i) fun v => tellD o i s v 19) && tellO o s i
theorem tellD_all {o i : Nat} {s v : UInt64} : ∀ {n : Nat}, tellD o i s v n = true → ∀ d, d < n → toldF (f64 (55 + 10 * o + d - 10 * i)) s v = some (f64 ((55 + 10 * o + d - 10 * i) % 64), s, v)
  | 0, _, d, hd => absurd hd (by omega)
  | n + 1, h, d, hd => by
    have h1 := and_iff h
    by_cases e : d = n
    · subst e
      have h2 := h1.1
      rw [fN_eq] at h2
      unfold t1 at h2
      rw [fN_eq] at h2
      exact told_of h2
    · exact tellD_all h1.2 d (by omega)
theorem tellO_all {o : Nat} {s : UInt64} : ∀ {n : Nat}, tellO o s n = true → ∀ i, i < n → i ≠ o → ∀ d, d < 19 → toldF (f64 (55 + 10 * o + d - 10 * i)) s (qrt i) = some (f64 ((55 + 10 * o + d - 10 * i) % 64), s, qrt i)
  | 0, _, i, hi => absurd hi (by omega)
  | n + 1, h, i, hi => fun hne d hd => by
    have h1 := and_iff h
    by_cases e : i = n
    · subst e
      have h2 := h1.1
      rw [fN_eq, show Nat.beq o i = false by cases q : Nat.beq o i with | false => rfl | true => exact absurd (Nat.eq_of_beq_eq_true q).symm hne] at h2
      exact tellD_all h2 d hd
    · exact tellO_all h1.2 i (by omega) hne d hd
theorem to0 : fN (qrt 0) (fun s => tellO 0 s 6) = true := by decide +kernel
theorem to1 : fN (qrt 1) (fun s => tellO 1 s 6) = true := by decide +kernel
theorem to2 : fN (qrt 2) (fun s => tellO 2 s 6) = true := by decide +kernel
theorem to3 : fN (qrt 3) (fun s => tellO 3 s 6) = true := by decide +kernel
theorem to4 : fN (qrt 4) (fun s => tellO 4 s 6) = true := by decide +kernel
theorem to5 : fN (qrt 5) (fun s => tellO 5 s 6) = true := by decide +kernel
theorem tellAll {o i d : Nat} (ho : o < 6) (hi : i < 6) (hne : i ≠ o) (hd : d < 19) : toldF (f64 (55 + 10 * o + d - 10 * i)) (qrt o) (qrt i) = some (f64 ((55 + 10 * o + d - 10 * i) % 64), qrt o, qrt i) := by
  obtain rfl | rfl | rfl | rfl | rfl | rfl : o = 0 ∨ o = 1 ∨ o = 2 ∨ o = 3 ∨ o = 4 ∨ o = 5 := by omega
  · have h := to0; rw [fN_eq] at h; exact tellO_all h i hi hne d hd
  · have h := to1; rw [fN_eq] at h; exact tellO_all h i hi hne d hd
  · have h := to2; rw [fN_eq] at h; exact tellO_all h i hi hne d hd
  · have h := to3; rw [fN_eq] at h; exact tellO_all h i hi hne d hd
  · have h := to4; rw [fN_eq] at h; exact tellO_all h i hi hne d hd
  · have h := to5; rw [fN_eq] at h; exact tellO_all h i hi hne d hd
/-- the spots' own paint -/
noncomputable def lvl (s : Nat) : UInt64 := Float64.sub F1 (fdivII (s : Int) 8)
noncomputable def own (s : Nat) (q v : UInt64) : Nat → Bool
  | 0 => true
  | d + 1 => fN (f64 (10 * s + d)) (fun x => fN (Float64.add x (Float64.ofInt ((s % 2 : Nat) : Int))) fun h => s0 x q v h) && own s q v d
theorem own_all {s : Nat} {q v : UInt64} : ∀ {n : Nat}, own s q v n = true → ∀ d, d < n → toldF (Float64.add (f64 (10 * s + d)) (Float64.ofInt ((s % 2 : Nat) : Int))) q v = some (f64 (10 * s + d), q, v)
  | 0, _, d, hd => absurd hd (by omega)
  | n + 1, h, d, hd => by
    have h1 := and_iff h
    by_cases e : d = n
    · subst e
      have h2 := h1.1
      rw [fN_eq, fN_eq] at h2
      exact told_of h2
    · exact own_all h1.2 d (by omega)
noncomputable def ownS : Nat → Bool
  | 0 => true
  | s + 1 => (fN (qrt s) fun q => fN (lvl s) fun v => own s q v 10) && ownS s
theorem ow : ownS 6 = true := by decide +kernel
theorem ownS_all : ∀ {n : Nat}, ownS n = true → ∀ s, s < n → ∀ d, d < 10 → toldF (Float64.add (f64 (10 * s + d)) (Float64.ofInt ((s % 2 : Nat) : Int))) (qrt s) (lvl s) = some (f64 (10 * s + d), qrt s, lvl s)
  | 0, _, d, hd => absurd hd (by omega)
  | n + 1, h, s, hs => fun d hd => by
    have h1 := and_iff h
    by_cases e : s = n
    · subst e
      have h2 := h1.1
      rw [fN_eq, fN_eq] at h2
      exact own_all h2 d hd
    · exact ownS_all h1.2 s (by omega) d hd
theorem ownAll {s d : Nat} (hs : s < 6) (hd : d < 10) : toldF (Float64.add (f64 (10 * s + d)) (Float64.ofInt ((s % 2 : Nat) : Int))) (qrt s) (lvl s) = some (f64 (10 * s + d), qrt s, lvl s) := ownS_all ow s hs d hd
end
section
open PySem PySem.W PySem.Calls PyProof.Rows PySem.SeqAt
set_option maxHeartbeats 4000000
open Float64 in
noncomputable def isFin (x : UInt64) (s : Bool) (m : Nat) (e : Int) : Bool := match Float64.decode x with
  | .fin s' m' e' => (s' == s) && Nat.beq m' m && decide (e' = e)
  | _ => false
theorem isFin_eq {x : UInt64} {s : Bool} {m : Nat} {e : Int} (h : isFin x s m e = true) : Float64.decode x = .fin s m e := by
  unfold isFin at h
  split at h
  · rename_i s' m' e' q
    simp only [Bool.and_eq_true, beq_iff_eq, decide_eq_true_eq] at h
    obtain ⟨⟨rfl, h2⟩, rfl⟩ := h
    rw [q, Nat.eq_of_beq_eq_true h2]
  · cases h
noncomputable def allN (f : Nat → Bool) : Nat → Bool
  | 0 => true
  | n + 1 => f n && allN f n
theorem allN_all {f : Nat → Bool} : ∀ {n : Nat}, allN f n = true → ∀ k, k < n → f k = true
  | 0, _, k, hk => absurd hk (by omega)
  | n + 1, h, k, hk => by
    have h1 := and_iff h
    by_cases e : k = n
    · subst e; exact h1.1
    · exact allN_all h1.2 k (by omega)
noncomputable def lg2 (k : Nat) : Nat := Nat.log2 k
theorem dec_tab : allN (fun k => isFin (f64 (k + 1)) false ((k + 1) * 2 ^ (52 - lg2 (k + 1))) ((lg2 (k + 1) : Int) - 58)) 127 = true := by decide +kernel
theorem neg_tab : allN (fun k => isFin (Float64.neg (f64 (k + 1))) true ((k + 1) * 2 ^ (52 - lg2 (k + 1))) ((lg2 (k + 1) : Int) - 58)) 63 = true := by decide +kernel
theorem ofb_tab : allN (fun M => allN (fun L => beqU (Float64.ofBin false ((M + 1) * 2 ^ (52 - L)) ((L : Int) - 58)) (f64 (M + 1))) 6) 127 = true := by decide +kernel
theorem add1_tab : allN (fun k => beqU (Float64.add F1 (f64 k)) (f64 (64 + k))) 64 = true := by decide +kernel
theorem sub0_tab : allN (fun k => beqU (Float64.sub (f64 k) (f64 0)) (f64 k)) 128 = true := by decide +kernel
theorem inf_tab : allN (fun k => !Float64.isInf (f64 k) && !Float64.isNaN (f64 k)) 128 = true := by decide +kernel
theorem cmp0_tab : allN (fun k => (Float64.cmp (f64 0) (f64 (k + 1)) == some .lt) && (Float64.cmp (f64 (k + 1)) (f64 0) == some .gt)) 64 = true := by decide +kernel
theorem cmp00 : Float64.cmp (f64 0) (f64 0) = some .eq := by decide +kernel

theorem f64_dec {k : Nat} (h0 : 0 < k) (h : k < 128) : Float64.decode (f64 k) = .fin false (k * 2 ^ (52 - lg2 k)) ((lg2 k : Int) - 58) := by
  obtain ⟨k, rfl⟩ : ∃ j, k = j + 1 := ⟨k - 1, by omega⟩
  exact isFin_eq (allN_all dec_tab k (by omega))
theorem f64_neg {k : Nat} (h0 : 0 < k) (h : k < 64) : Float64.decode (Float64.neg (f64 k)) = .fin true (k * 2 ^ (52 - lg2 k)) ((lg2 k : Int) - 58) := by
  obtain ⟨k, rfl⟩ : ∃ j, k = j + 1 := ⟨k - 1, by omega⟩
  exact isFin_eq (allN_all neg_tab k (by omega))
theorem f64_ofb {M L : Nat} (h0 : 0 < M) (h : M < 128) (hL : L < 6) : Float64.ofBin false (M * 2 ^ (52 - L)) ((L : Int) - 58) = f64 M := by
  obtain ⟨M, rfl⟩ : ∃ j, M = j + 1 := ⟨M - 1, by omega⟩
  exact beqU_eq (allN_all (allN_all ofb_tab M (by omega)) L hL)
theorem lg_lt {k : Nat} (h : k < 64) : lg2 k < 6 := by
  have : ∀ k < 64, lg2 k < 6 := by decide
  exact this k h
theorem lg_6 {k : Nat} (h1 : 64 ≤ k) (h : k < 128) : lg2 k = 6 := by
  have : ∀ k < 128, 64 ≤ k → lg2 k = 6 := by decide
  exact this k h h1
/-- a hue, a turn on, less another -/
theorem hue_sum {a b : Nat} (ha : a < 64) (hb : b < 64) : Float64.sub (Float64.add F1 (f64 a)) (f64 b) = f64 (64 + a - b) := by
  rw [beqU_eq (allN_all add1_tab a ha)]
  by_cases h0 : b = 0
  · subst h0
    exact beqU_eq (allN_all sub0_tab (64 + a) (by omega))
  · have d1 := f64_dec (k := 64 + a) (by omega) (by omega)
    have d2 := f64_neg (k := b) (by omega) hb
    have hl := lg_lt hb
    rw [lg_6 (by omega) (by omega)] at d1
    unfold Float64.sub Float64.add
    rw [d1, d2]
    generalize lg2 b = L at *
    have eg : min (((6 : Nat) : Int) - 58) ((L : Int) - 58) = (L : Int) - 58 := by omega
    have e1 : ((((6 : Nat) : Int) - 58) - ((L : Int) - 58)).toNat = 6 - L := by omega
    have e2 : (((L : Int) - 58) - ((L : Int) - 58)).toNat = 0 := by omega
    have ep : (2 : Nat) ^ (52 - 6) * 2 ^ (6 - L) = 2 ^ (52 - L) := by rw [← Nat.pow_add]; congr 1; omega
    unfold Float64.align
    dsimp only
    rw [eg, e1, e2]
    have e3 : Float64.sgn false ((64 + a) * 2 ^ (52 - 6) * 2 ^ (6 - L)) = (((64 + a) * 2 ^ (52 - L) : Nat) : Int) := by
      unfold Float64.sgn
      rw [Nat.mul_assoc, ep]; rfl
    have e4 : Float64.sgn true (b * 2 ^ (52 - L) * 2 ^ 0) = -((b * 2 ^ (52 - L) : Nat) : Int) := by
      unfold Float64.sgn
      rw [Nat.pow_zero, Nat.mul_one]; rfl
    rw [e3, e4]
    have e5 : ((((64 + a) * 2 ^ (52 - L) : Nat) : Int) + -((b * 2 ^ (52 - L) : Nat) : Int)) = (((64 + a - b) * 2 ^ (52 - L) : Nat) : Int) := by
      rw [Nat.sub_mul]
      have : b * 2 ^ (52 - L) ≤ (64 + a) * 2 ^ (52 - L) := Nat.mul_le_mul_right _ (by omega)
      omega
    rw [e5]
    have hp : 0 < (64 + a - b) * 2 ^ (52 - L) := Nat.mul_pos (by omega) (Nat.two_pow_pos _)
    have e6 : (((((64 + a - b) * 2 ^ (52 - L) : Nat) : Int)) == 0) = false := by
      rw [beq_eq_false_iff_ne]; omega
    have e7 : decide (((((64 + a - b) * 2 ^ (52 - L) : Nat) : Int)) < 0) = false := decide_eq_false (by omega)
    rw [if_neg (by rw [e6]; simp), e7, Int.natAbs_natCast]
    exact f64_ofb (by omega) (by omega) hl
/-- 64ths compare as their numbers -/
theorem cmp64 {a b : Nat} (ha : a < 64) (hb : b < 64) : Float64.cmp (f64 a) (f64 b) = some (compare a b) := by
  by_cases a0 : a = 0
  · subst a0
    by_cases b0 : b = 0
    · subst b0; exact cmp00
    · obtain ⟨b, rfl⟩ : ∃ j, b = j + 1 := ⟨b - 1, by omega⟩
      have := and_iff (allN_all cmp0_tab b (by omega))
      rw [eq_of_beq this.1]
      exact congrArg some (Nat.compare_eq_lt.mpr (by omega)).symm
  · by_cases b0 : b = 0
    · subst b0
      obtain ⟨a, rfl⟩ : ∃ j, a = j + 1 := ⟨a - 1, by omega⟩
      have := and_iff (allN_all cmp0_tab a (by omega))
      rw [eq_of_beq this.2]
      exact congrArg some (Nat.compare_eq_gt.mpr (by omega)).symm
    · have d1 := f64_dec (k := a) (by omega) (by omega)
      have d2 := f64_dec (k := b) (by omega) (by omega)
      have l1 := lg_lt ha
      have l2 := lg_lt hb
      unfold Float64.cmp Float64.align
      rw [d1, d2]
      dsimp only
      generalize lg2 a = L at *
      generalize lg2 b = K at *
      have key : ∀ (x N : Nat), N ≤ 6 → ∀ m : Nat, m ≤ N → Float64.sgn false (x * 2 ^ (52 - N) * 2 ^ (((N : Int) - 58) - ((m : Int) - 58)).toNat) = ((x * 2 ^ (52 - m) : Nat) : Int) := by
        intro x N hN m hm
        unfold Float64.sgn
        rw [show (((N : Int) - 58) - ((m : Int) - 58)).toNat = N - m by omega, Nat.mul_assoc, ← Nat.pow_add, show 52 - N + (N - m) = 52 - m by omega]; rfl
      have fin : ∀ m : Nat, compare ((a * 2 ^ (52 - m) : Nat) : Int) ((b * 2 ^ (52 - m) : Nat) : Int) = compare a b := by
        intro m
        have hp := Nat.two_pow_pos (52 - m)
        generalize 2 ^ (52 - m) = P at hp
        rcases Nat.lt_trichotomy a b with h | h | h
        · rw [Nat.compare_eq_lt.mpr h]
          refine Int.compare_eq_lt.mpr ?_
          have := Nat.mul_lt_mul_of_pos_right h hp
          omega
        · subst h
          rw [Nat.compare_eq_eq.mpr rfl]
          exact Int.compare_eq_eq.mpr rfl
        · rw [Nat.compare_eq_gt.mpr h]
          refine Int.compare_eq_gt.mpr ?_
          have := Nat.mul_lt_mul_of_pos_right h hp
          omega
      by_cases hLK : L ≤ K
      · rw [show min ((L : Int) - 58) ((K : Int) - 58) = (L : Int) - 58 by omega, key a L (by omega) L (Nat.le_refl _), key b K (by omega) L hLK, fin]
      · rw [show min ((L : Int) - 58) ((K : Int) - 58) = (K : Int) - 58 by omega, key a L (by omega) K (by omega), key b K (by omega) K (Nat.le_refl _), fin]
theorem flt64 {a b : Nat} (ha : a < 64) (hb : b < 64) : flt? (f64 a) (f64 b) = decide (a < b) := by
  unfold flt?
  rw [cmp64 ha hb]
  by_cases h : a < b
  · rw [Nat.compare_eq_lt.mpr h]; simp [h]
  · have : compare a b ≠ .lt := fun e => h (Nat.compare_eq_lt.mp e)
    simp [h]
    revert this
    cases compare a b <;> simp
theorem inf64 {k : Nat} (h : k < 128) : Float64.isInf (f64 k) = false := by
  have := and_iff (allN_all inf_tab k h)
  simpa using this.1
theorem nan64 {k : Nat} (h : k < 128) : Float64.isNaN (f64 k) = false := by
  have := and_iff (allN_all inf_tab k h)
  simpa using this.2
theorem sixty_tab : allN (fun k => (sixtyOf (f64 k)).isSome) 64 = true := by decide +kernel
theorem sixty64 {k : Nat} (h : k < 64) : (sixtyOf (f64 k)).isSome = true := allN_all sixty_tab k h
theorem other_tab : allN (fun s => !Float64.isInf (fdivII (s : Int) 8) && (!Float64.isNaN (lvl s) && (!Float64.isInf (qrt s) && (!Float64.isNaN (qrt s) && !Float64.isInf (Float64.ofInt ((s % 2 : Nat) : Int)))))) 6 = true := by decide +kernel
end
section
/-! Goulden and Yong's theorem for five and six spots, by a pruned search -/
noncomputable def rk (n v o : Nat) : Nat := (o + n - v) % n
noncomputable def code1 (c x : Nat) : Nat := match Nat.blt x c with
  | true => 0
  | false => match Nat.beq x c with
    | true => 1
    | false => 2
/-- where a spot lies about two spots -/
noncomputable def code (c d x : Nat) : Nat := code1 c x + code1 d x
/-- an earlier pair (a, b) beside a later one (c, d) -/
noncomputable def okB (n a b c d : Nat) : Bool :=
  (!Nat.beq a c || Nat.blt (rk n a b) (rk n c d)) && ((!Nat.beq a d || Nat.blt (rk n a b) (rk n d c)) &&
  ((!Nat.beq b c || Nat.blt (rk n b a) (rk n c d)) && ((!Nat.beq b d || Nat.blt (rk n b a) (rk n d c)) &&
  (!(Nat.beq (code c d a) 0 && Nat.beq (code c d b) 2) && (!(Nat.beq (code c d a) 2 && Nat.beq (code c d b) 0) &&
  (!(Nat.beq (code c d a) 2 && Nat.beq (code c d b) 4) && !(Nat.beq (code c d a) 4 && Nat.beq (code c d b) 2)))))))
noncomputable abbrev NP := Nat × Nat
noncomputable def okP (n : Nat) (p q : NP) : Bool := okB n p.1 p.2 q.1 q.2

noncomputable def dg (ρ i : Nat) : Nat := Nat.mod (Nat.div ρ (Nat.pow 8 i)) 8
noncomputable def swp (ρ : Nat) (p : NP) : Nat :=
  Nat.sub (Nat.sub (Nat.add (Nat.add ρ (Nat.mul (dg ρ p.2) (Nat.pow 8 p.1))) (Nat.mul (dg ρ p.1) (Nat.pow 8 p.2))) (Nat.mul (dg ρ p.1) (Nat.pow 8 p.1))) (Nat.mul (dg ρ p.2) (Nat.pow 8 p.2))
noncomputable def mvd : Nat → Nat → Nat → Nat
  | 0, _, c => c
  | i + 1, ρ, c => mvd i ρ (match Nat.beq (dg ρ i) i with | true => c | false => Nat.succ c)
noncomputable def invol (ρ : Nat) : Nat → Bool
  | 0 => true
  | i + 1 => Nat.beq (dg ρ (dg ρ i)) i && invol ρ i
/-- no r pairs undo ρ -/
noncomputable def dead (n e r : Nat) (ρ : Nat) : Bool := match r with
  | 0 => !Nat.beq ρ e
  | 1 => Nat.blt 2 (mvd n ρ 0)
  | 2 => Nat.blt 4 (mvd n ρ 0)
  | 3 => Nat.beq (mvd n ρ 0) 6 && !invol ρ n
  | _ => false
noncomputable def eachOf (f : NP → Bool) : List NP → Bool
  | [] => true
  | p :: l => match f p with
    | true => eachOf f l
    | false => false
/-- the pairs that may follow p, and those that may not -/
noncomputable def split (n : Nat) (p : NP) : List NP → List NP → List NP → List NP × List NP
  | [], g, b => (g, b)
  | q :: l, g, b => match okP n p q with
    | true => split n p l (q :: g) b
    | false => split n p l g (q :: b)
noncomputable def search (n e : Nat) : Nat → Nat → List NP → List NP → Bool
  | 0, ρ, _, _ => Nat.beq ρ e
  | r + 1, ρ, g, b => match eachOf (fun p => search n e r (swp ρ p) (split n p g [] b).1 (split n p g [] b).2) g with
    | true => eachOf (fun p => dead n e r (swp ρ p)) b
    | false => false
noncomputable def ps5 : List NP := [(0, 1), (0, 2), (0, 3), (0, 4), (1, 2), (1, 3), (1, 4), (2, 3), (2, 4), (3, 4)]
noncomputable def ps6 : List NP := [(0, 1), (0, 2), (0, 3), (0, 4), (0, 5), (1, 2), (1, 3), (1, 4), (1, 5), (2, 3), (2, 4), (2, 5), (3, 4), (3, 5), (4, 5)]
set_option maxRecDepth 100000
noncomputable def enc : List Nat → Nat
  | [] => 0
  | x :: l => x + 8 * enc l
noncomputable def allRows (ps : List NP) (f : Nat → Bool) : Nat → Nat → Bool
  | 0, ρ => f ρ
  | r + 1, ρ => eachOf (fun p => allRows ps f r (swp ρ p)) ps
theorem s5 : search 5 18056 4 2257 ps5 [] = true := by decide +kernel
theorem s6 : search 6 181896 5 22737 ps6 [] = true := by decide +kernel
theorem r51 : allRows ps5 (fun ρ => !dead 5 18056 1 ρ) 1 18056 = true := by decide +kernel
theorem r52 : allRows ps5 (fun ρ => !dead 5 18056 2 ρ) 2 18056 = true := by decide +kernel
theorem r53 : allRows ps5 (fun ρ => !dead 5 18056 3 ρ) 3 18056 = true := by decide +kernel
theorem r61 : allRows ps6 (fun ρ => !dead 6 181896 1 ρ) 1 181896 = true := by decide +kernel
theorem r62 : allRows ps6 (fun ρ => !dead 6 181896 2 ρ) 2 181896 = true := by decide +kernel
theorem r63 : allRows ps6 (fun ρ => !dead 6 181896 3 ρ) 3 181896 = true := by decide +kernel
end
section
/-- what a pair does to a spot -/
noncomputable def stp (p : NP) (x : Nat) : Nat := if x = p.1 then p.2 else if x = p.2 then p.1 else x
noncomputable def swL (l : List Nat) (p : NP) : List Nat := (l.set p.1 (l.getD p.2 0)).set p.2 (l.getD p.1 0)
noncomputable def runL (l : List Nat) (row : List NP) : List Nat := row.foldl swL l
noncomputable def Vp (n : Nat) (p : NP) : Prop := p.1 < n ∧ p.2 < n ∧ p.1 ≠ p.2

theorem swL_len (l : List Nat) (p : NP) : (swL l p).length = l.length := by simp [swL]
theorem swL_get {l : List Nat} {p : NP} (h : Vp l.length p) {x : Nat} (hx : x < l.length) : (swL l p).getD x 0 = l.getD (stp p x) 0 := by
  obtain ⟨h1, h2, h3⟩ := h
  unfold swL stp
  simp only [List.getD_eq_getElem?_getD, List.getElem?_set, List.length_set]
  by_cases e1 : x = p.2
  · subst e1
    simp [h2, Ne.symm h3]
  · by_cases e2 : x = p.1
    · subst e2
      simp [h1, Ne.symm h3, h3]
    · simp [e1, e2, Ne.symm e1, Ne.symm e2]
theorem stp_lt {n : Nat} {p : NP} (h : Vp n p) {x : Nat} (hx : x < n) : stp p x < n := by
  unfold stp; obtain ⟨h1, h2, h3⟩ := h
  split
  · exact h2
  · split
    · exact h1
    · exact hx
theorem stp_stp {p : NP} (h : p.1 ≠ p.2) (x : Nat) : stp p (stp p x) = x := by
  unfold stp
  by_cases e1 : x = p.1
  · subst e1; simp [Ne.symm h]
  · by_cases e2 : x = p.2
    · subst e2; simp [e1]
    · simp [e1, e2]
theorem ext_getD {l m : List Nat} (hl : l.length = m.length) (h : ∀ x, x < l.length → l.getD x 0 = m.getD x 0) : l = m := by
  refine List.ext_getElem hl fun i h1 h2 => ?_
  have := h i h1
  simpa [List.getD_eq_getElem?_getD, h1, h2] using this
theorem swL_swL {l : List Nat} {p : NP} (h : Vp l.length p) : swL (swL l p) p = l := by
  refine ext_getD (by rw [swL_len, swL_len]) fun x hx => ?_
  rw [swL_len, swL_len] at hx
  rw [swL_get (by rw [swL_len]; exact h) (by rw [swL_len]; exact hx), swL_get h (stp_lt h hx), stp_stp h.2.2]
theorem runL_len (l : List Nat) (row : List NP) : (runL l row).length = l.length := by
  induction row generalizing l with
  | nil => rfl
  | cons p row ih => unfold runL at ih ⊢; rw [List.foldl_cons, ih, swL_len]
theorem runL_app (l : List Nat) (a b : List NP) : runL l (a ++ b) = runL (runL l a) b := by unfold runL; rw [List.foldl_append]
theorem runL_back {l m : List Nat} : ∀ {row : List NP}, (∀ p ∈ row, Vp l.length p) → runL l row = m → l = runL m row.reverse := by
  intro row
  induction row generalizing l with
  | nil => intro _ h; exact h
  | cons p row ih =>
    intro hv h
    have h : runL (swL l p) row = m := h
    have := ih (l := swL l p) (fun q hq => by rw [swL_len]; exact hv q (List.mem_cons_of_mem _ hq)) h
    rw [List.reverse_cons, runL_app, ← this]
    exact (swL_swL (hv p (by simp))).symm

theorem enc_dg : ∀ {l : List Nat}, (∀ x ∈ l, x < 8) → ∀ i, dg (enc l) i = l.getD i 0
  | [], _, i => by
    show Nat.mod (Nat.div 0 (Nat.pow 8 i)) 8 = 0
    show (0 / 8 ^ i) % 8 = 0
    simp
  | x :: l, h, 0 => by
    show ((x + 8 * enc l) / 8 ^ 0) % 8 = x
    have := h x (by simp)
    simp; lia
  | x :: l, h, i + 1 => by
    have ih := enc_dg (l := l) (fun y hy => h y (List.mem_cons_of_mem _ hy)) i
    have ih : (enc l / 8 ^ i) % 8 = l.getD i 0 := ih
    show ((x + 8 * enc l) / 8 ^ (i + 1)) % 8 = _
    have hx := h x (by simp)
    rw [Nat.pow_succ, Nat.mul_comm (8 ^ i) 8, ← Nat.div_div_eq_div_mul, show (x + 8 * enc l) / 8 = enc l by lia, ih]
    simp
theorem enc_set : ∀ {l : List Nat} {a : Nat} (y : Nat), a < l.length → enc (l.set a y) + l.getD a 0 * 8 ^ a = enc l + y * 8 ^ a
  | x :: l, 0, y, _ => by simp [enc]; lia
  | x :: l, a + 1, y, h => by
    have ih := enc_set (l := l) (a := a) y (by simpa using h)
    simp only [List.set_cons_succ, enc, List.getD_cons_succ, Nat.pow_succ]
    have e1 : l.getD a 0 * (8 ^ a * 8) = 8 * (l.getD a 0 * 8 ^ a) := by rw [← Nat.mul_assoc, Nat.mul_comm]
    have e2 : y * (8 ^ a * 8) = 8 * (y * 8 ^ a) := by rw [← Nat.mul_assoc, Nat.mul_comm]
    rw [e1, e2]; lia
theorem enc_swp {l : List Nat} {p : NP} (h8 : ∀ x ∈ l, x < 8) (h : Vp l.length p) : swp (enc l) p = enc (swL l p) := by
  obtain ⟨h1, h2, h3⟩ := h
  unfold swp swL
  rw [enc_dg h8, enc_dg h8]
  have e1 := enc_set (l := l) (l.getD p.2 0) h1
  have e2 := enc_set (l := l.set p.1 (l.getD p.2 0)) (a := p.2) (l.getD p.1 0) (by simpa using h2)
  have e3 : (l.set p.1 (l.getD p.2 0)).getD p.2 0 = l.getD p.2 0 := by
    simp only [List.getD_eq_getElem?_getD, List.getElem?_set, h3, if_false]
  rw [e3] at e2
  show enc l + l.getD p.2 0 * 8 ^ p.1 + l.getD p.1 0 * 8 ^ p.2 - l.getD p.1 0 * 8 ^ p.1 - l.getD p.2 0 * 8 ^ p.2 = _
  lia
theorem enc_inj : ∀ {l m : List Nat}, l.length = m.length → (∀ x ∈ l, x < 8) → (∀ x ∈ m, x < 8) → enc l = enc m → l = m
  | [], [], _, _, _, _ => rfl
  | x :: l, y :: m, hl, h1, h2, e => by
    have a := h1 x (by simp)
    have b := h2 y (by simp)
    have e : x + 8 * enc l = y + 8 * enc m := e
    obtain rfl : x = y := by lia
    rw [enc_inj (l := l) (m := m) (by simpa using hl) (fun z hz => h1 z (List.mem_cons_of_mem _ hz)) (fun z hz => h2 z (List.mem_cons_of_mem _ hz)) (by lia)]
theorem swL_lt {l : List Nat} {p : NP} {k : Nat} (hk : 0 < k) (h8 : ∀ x ∈ l, x < k) : ∀ x ∈ swL l p, x < k := by
  have g : ∀ i, l.getD i 0 < k := fun i => by
    rw [List.getD_eq_getElem?_getD]
    by_cases hi : i < l.length
    · simp [hi]; exact h8 _ (List.getElem_mem hi)
    · simp [hi]; exact hk
  intro x hx
  unfold swL at hx
  rcases List.mem_or_eq_of_mem_set hx with hx | rfl
  · rcases List.mem_or_eq_of_mem_set hx with hx | rfl
    · exact h8 x hx
    · exact g _
  · exact g _

theorem eachOf_all {f : NP → Bool} : ∀ {l : List NP}, eachOf f l = true → ∀ p ∈ l, f p = true
  | [], _, p, hp => by simp at hp
  | q :: l, h, p, hp => by
    unfold eachOf at h
    split at h
    · rename_i e
      rcases List.mem_cons.mp hp with rfl | hp
      · exact e
      · exact eachOf_all h p hp
    · cases h
theorem allRows_all {ps : List NP} {f : Nat → Bool} {n : Nat} (hps : ∀ p ∈ ps, Vp n p) : ∀ {r : Nat} {l : List Nat}, l.length = n → (∀ x ∈ l, x < 8) → allRows ps f r (enc l) = true → ∀ row : List NP, row.length = r → (∀ p ∈ row, p ∈ ps) → f (enc (runL l row)) = true
  | 0, l, _, _, h, row, hr, _ => by
    cases row with
    | nil => exact h
    | cons p row => simp at hr
  | r + 1, l, hl, h8, h, row, hr, hv => by
    cases row with
    | nil => simp at hr
    | cons p row =>
      have h := eachOf_all h p (hv p (by simp))
      rw [enc_swp h8 (by rw [hl]; exact hps p (hv p (by simp)))] at h
      exact allRows_all hps (by rw [swL_len]; exact hl) (swL_lt (by decide) h8) h row (by simpa using hr) fun q hq => hv q (List.mem_cons_of_mem _ hq)

theorem split_spec (n : Nat) (p : NP) : ∀ (l g b : List NP), (∀ q, q ∈ (split n p l g b).1 ↔ q ∈ g ∨ (q ∈ l ∧ okP n p q = true)) ∧ (∀ q, q ∈ (split n p l g b).2 ↔ q ∈ b ∨ (q ∈ l ∧ okP n p q = false))
  | [], g, b => by simp [split]
  | x :: l, g, b => by
    unfold split
    split
    · rename_i e
      have ih := split_spec n p l (x :: g) b
      refine ⟨fun q => ?_, fun q => ?_⟩
      · rw [ih.1]
        constructor
        · rintro (h | ⟨h, h'⟩)
          · rcases List.mem_cons.mp h with rfl | h
            · exact .inr ⟨by simp, e⟩
            · exact .inl h
          · exact .inr ⟨List.mem_cons_of_mem _ h, h'⟩
        · rintro (h | ⟨h, h'⟩)
          · exact .inl (List.mem_cons_of_mem _ h)
          · rcases List.mem_cons.mp h with rfl | h
            · exact .inl (by simp)
            · exact .inr ⟨h, h'⟩
      · rw [ih.2]
        constructor
        · rintro (h | ⟨h, h'⟩)
          · exact .inl h
          · exact .inr ⟨List.mem_cons_of_mem _ h, h'⟩
        · rintro (h | ⟨h, h'⟩)
          · exact .inl h
          · rcases List.mem_cons.mp h with rfl | h
            · rw [e] at h'; cases h'
            · exact .inr ⟨h, h'⟩
    · rename_i e
      have ih := split_spec n p l g (x :: b)
      refine ⟨fun q => ?_, fun q => ?_⟩
      · rw [ih.1]
        constructor
        · rintro (h | ⟨h, h'⟩)
          · exact .inl h
          · exact .inr ⟨List.mem_cons_of_mem _ h, h'⟩
        · rintro (h | ⟨h, h'⟩)
          · exact .inl h
          · rcases List.mem_cons.mp h with rfl | h
            · rw [e] at h'; cases h'
            · exact .inr ⟨h, h'⟩
      · rw [ih.2]
        constructor
        · rintro (h | ⟨h, h'⟩)
          · rcases List.mem_cons.mp h with rfl | h
            · exact .inr ⟨by simp, e⟩
            · exact .inl h
          · exact .inr ⟨List.mem_cons_of_mem _ h, h'⟩
        · rintro (h | ⟨h, h'⟩)
          · exact .inl (List.mem_cons_of_mem _ h)
          · rcases List.mem_cons.mp h with rfl | h
            · exact .inl (by simp)
            · exact .inr ⟨h, h'⟩

theorem dead_sound {n : Nat} {ps : List NP} {idl : List Nat} (hps : ∀ p ∈ ps, Vp n p) (hi : idl.length = n) (hi8 : ∀ x ∈ idl, x < 8)
    (hr : ∀ r, 1 ≤ r → r ≤ 3 → allRows ps (fun ρ => !dead n (enc idl) r ρ) r (enc idl) = true) {r : Nat} {l : List Nat} (hl : l.length = n) (h8 : ∀ x ∈ l, x < 8) (h : dead n (enc idl) r (enc l) = true)
    {row : List NP} (hrow : row.length = r) (hv : ∀ p ∈ row, p ∈ ps) : runL l row ≠ idl := by
  intro e
  have e2 := runL_back (fun p hp => by rw [hl]; exact hps p (hv p hp)) e
  by_cases h0 : r = 0
  · subst h0
    have : row = [] := List.length_eq_zero_iff.mp hrow
    subst this
    have e : l = idl := e
    subst e
    unfold dead at h
    simp at h
  · by_cases h3 : r ≤ 3
    · have := allRows_all hps hi hi8 (hr r (by lia) h3) row.reverse (by simpa using hrow) (fun p hp => hv p (by simpa using hp))
      rw [← e2, h] at this
      cases this
    · unfold dead at h
      split at h
      · lia
      · lia
      · lia
      · lia
      · cases h

theorem search_sound {n : Nat} {ps : List NP} {idl : List Nat} (hps : ∀ p ∈ ps, Vp n p) (hi : idl.length = n) (hi8 : ∀ x ∈ idl, x < 8)
    (hr : ∀ r, 1 ≤ r → r ≤ 3 → allRows ps (fun ρ => !dead n (enc idl) r ρ) r (enc idl) = true) : ∀ {r : Nat} {l : List Nat} {g b prev : List NP}, l.length = n → (∀ x ∈ l, x < 8) →
    (∀ p ∈ ps, p ∈ g ∨ p ∈ b) → (∀ p ∈ g, p ∈ ps ∧ ∀ q ∈ prev, okP n q p = true) → (∀ p ∈ b, ∃ q ∈ prev, okP n q p = false) → search n (enc idl) r (enc l) g b = true →
    ∀ row : List NP, row.length = r → (∀ p ∈ row, p ∈ ps) → (((∀ p ∈ row, ∀ q ∈ prev, okP n q p = true) ∧ row.Pairwise fun p q => okP n p q = true) ↔ runL l row = idl)
  | 0, l, g, b, prev, hl, h8, hcov, hg, hb, h, row, hrow, hv => by
    have : row = [] := List.length_eq_zero_iff.mp hrow
    subst this
    have h : Nat.beq (enc l) (enc idl) = true := h
    have e := enc_inj (by rw [hl, hi]) h8 hi8 (Nat.eq_of_beq_eq_true h)
    subst e
    simp [runL]
  | r + 1, l, g, b, prev, hl, h8, hcov, hg, hb, h, row, hrow, hv => by
    cases row with
    | nil => simp at hrow
    | cons p row =>
      have hp := hv p (by simp)
      have hv' : ∀ q ∈ row, q ∈ ps := fun q hq => hv q (List.mem_cons_of_mem _ hq)
      have hrow' : row.length = r := by simpa using hrow
      have hl' : (swL l p).length = n := by rw [swL_len]; exact hl
      have h8' : ∀ x ∈ swL l p, x < 8 := swL_lt (by decide) h8
      have esw := enc_swp h8 (p := p) (by rw [hl]; exact hps p hp)
      unfold search at h
      split at h
      · rename_i hgood
        rcases hcov p hp with q | q
        · have hs := eachOf_all hgood p q
          rw [esw] at hs
          obtain ⟨sp1, sp2⟩ := split_spec n p g [] b
          have ih := search_sound hps hi hi8 hr (prev := p :: prev) hl' h8' (fun x hx => ?_) (fun x hx => ?_) (fun x hx => ?_) hs row hrow' hv'
          · rw [show runL l (p :: row) = runL (swL l p) row from rfl, ← ih]
            rw [List.pairwise_cons]
            constructor
            · rintro ⟨a, b1, c⟩
              refine ⟨fun x hx y hy => ?_, c⟩
              rcases List.mem_cons.mp hy with rfl | hy
              · exact b1 x hx
              · exact a x (List.mem_cons_of_mem _ hx) y hy
            · rintro ⟨a, c⟩
              refine ⟨fun x hx y hy => ?_, fun x hx => a x hx p (by simp), c⟩
              rcases List.mem_cons.mp hx with rfl | hx
              · exact (hg x q).2 y hy
              · exact a x hx y (List.mem_cons_of_mem _ hy)
          · rw [sp1, sp2]
            rcases hcov x hx with q2 | q2
            · cases e : okP n p x with
              | true => exact .inl (.inr ⟨q2, rfl⟩)
              | false => exact .inr (.inr ⟨q2, rfl⟩)
            · exact .inr (.inl q2)
          · rw [sp1] at hx
            rcases hx with hx | ⟨hx, e⟩
            · simp at hx
            · refine ⟨(hg x hx).1, fun y hy => ?_⟩
              rcases List.mem_cons.mp hy with rfl | hy
              · exact e
              · exact (hg x hx).2 y hy
          · rw [sp2] at hx
            rcases hx with hx | ⟨hx, e⟩
            · obtain ⟨y, hy, e⟩ := hb x hx
              exact ⟨y, List.mem_cons_of_mem _ hy, e⟩
            · exact ⟨p, by simp, e⟩
        · have hd := eachOf_all h p q
          rw [esw] at hd
          have no := dead_sound hps hi hi8 hr hl' h8' hd hrow' hv'
          obtain ⟨y, hy, e⟩ := hb p q
          constructor
          · rintro ⟨a, _⟩
            rw [a p (by simp) y hy] at e; cases e
          · intro e2; exact absurd e2 no
      · cases h

/-! any pairs -/
noncomputable def canon (p : NP) : NP := if p.1 < p.2 then p else (p.2, p.1)
noncomputable def swap' (p : NP) : NP := (p.2, p.1)
theorem code_comm (c d x : Nat) : code d c x = code c d x := by unfold code; lia
theorem okP_l (n : Nat) (p q : NP) : okP n (swap' p) q = okP n p q := by
  unfold okP swap' okB
  dsimp only
  ac_rfl
theorem okP_r (n : Nat) (p q : NP) : okP n p (swap' q) = okP n p q := by
  unfold okP swap' okB
  dsimp only
  rw [code_comm q.1 q.2, code_comm q.1 q.2]
  ac_rfl
theorem okP_canon (n : Nat) (p q : NP) : okP n (canon p) (canon q) = okP n p q := by
  have e1 : ∀ p q, okP n (canon p) q = okP n p q := fun p q => by
    unfold canon; split
    · rfl
    · exact okP_l n p q
  have e2 : ∀ p q, okP n p (canon q) = okP n p q := fun p q => by
    unfold canon; split
    · rfl
    · exact okP_r n p q
  rw [e1, e2]
theorem stp_swap {p : NP} (h : p.1 ≠ p.2) (x : Nat) : stp (swap' p) x = stp p x := by
  unfold stp swap'
  by_cases e1 : x = p.1
  · subst e1; simp [h]
  · by_cases e2 : x = p.2
    · subst e2; simp [e1]
    · simp [e1, e2]
theorem stp_canon {p : NP} (h : p.1 ≠ p.2) (x : Nat) : stp (canon p) x = stp p x := by
  unfold canon; split
  · rfl
  · exact stp_swap h x
theorem canon_v {n : Nat} {p : NP} (h : Vp n p) : Vp n (canon p) ∧ (canon p).1 < (canon p).2 := by
  unfold canon Vp at *; split
  · exact ⟨h, by assumption⟩
  · exact ⟨⟨h.2.1, h.1, Ne.symm h.2.2⟩, by simp; lia⟩
noncomputable def walk (row : List NP) (x : Nat) : Nat := row.foldl (fun x p => stp p x) x
noncomputable def back (row : List NP) (x : Nat) : Nat := row.foldr stp x
theorem walk_canon : ∀ {row : List NP}, (∀ p ∈ row, p.1 ≠ p.2) → ∀ x, walk (row.map canon) x = walk row x
  | [], _, x => rfl
  | p :: row, h, x => by
    have ih := walk_canon (row := row) (fun q hq => h q (List.mem_cons_of_mem _ hq)) (stp p x)
    unfold walk at ih ⊢
    rw [List.map_cons, List.foldl_cons, List.foldl_cons, stp_canon (h p (by simp)), ih]
theorem walk_back : ∀ {row : List NP}, (∀ p ∈ row, p.1 ≠ p.2) → ∀ x, walk row (back row x) = x
  | [], _, x => rfl
  | p :: row, h, x => by
    have ih := walk_back (row := row) (fun q hq => h q (List.mem_cons_of_mem _ hq)) x
    unfold walk back at ih ⊢
    rw [List.foldl_cons, List.foldr_cons, stp_stp (h p (by simp)), ih]
theorem back_walk : ∀ {row : List NP}, (∀ p ∈ row, p.1 ≠ p.2) → ∀ x, back row (walk row x) = x
  | [], _, x => rfl
  | p :: row, h, x => by
    have ih := back_walk (row := row) (fun q hq => h q (List.mem_cons_of_mem _ hq)) (stp p x)
    unfold walk back at ih ⊢
    rw [List.foldl_cons, List.foldr_cons, ih, stp_stp (h p (by simp))]
theorem walk_lt {n : Nat} : ∀ {row : List NP}, (∀ p ∈ row, Vp n p) → ∀ {x}, x < n → walk row x < n
  | [], _, x, hx => hx
  | p :: row, h, x, hx => by
    have ih := walk_lt (row := row) (fun q hq => h q (List.mem_cons_of_mem _ hq)) (stp_lt (h p (by simp)) hx)
    exact ih
theorem back_lt {n : Nat} : ∀ {row : List NP}, (∀ p ∈ row, Vp n p) → ∀ {x}, x < n → back row x < n
  | [], _, x, hx => hx
  | p :: row, h, x, hx => by
    have ih := back_lt (row := row) (fun q hq => h q (List.mem_cons_of_mem _ hq)) hx
    exact stp_lt (h p (by simp)) ih
theorem runL_get : ∀ {row : List NP} {l : List Nat}, (∀ p ∈ row, Vp l.length p) → ∀ {x}, x < l.length → (runL l row).getD x 0 = l.getD (back row x) 0
  | [], l, _, x, _ => rfl
  | p :: row, l, h, x, hx => by
    have h' : ∀ q ∈ row, Vp (swL l p).length q := fun q hq => by rw [swL_len]; exact h q (List.mem_cons_of_mem _ hq)
    have ih := runL_get h' (x := x) (by rw [swL_len]; exact hx)
    show (runL (swL l p) row).getD x 0 = l.getD (stp p (back row x)) 0
    rw [ih, swL_get (h p (by simp)) (back_lt (fun q hq => h q (List.mem_cons_of_mem _ hq)) hx)]
theorem run_cycle {n : Nat} {cyc idl : List Nat} {f : Nat → Nat} (hc : cyc.length = n) (hi : idl.length = n) (ei : ∀ x, x < n → idl.getD x 0 = x) (ec : ∀ x, x < n → cyc.getD x 0 = f x) {row : List NP} (h : ∀ p ∈ row, Vp n p) :
    runL cyc row = idl ↔ ∀ s, s < n → walk row s = f s := by
  have hne : ∀ p ∈ row, p.1 ≠ p.2 := fun p hp => (h p hp).2.2
  have hv : ∀ p ∈ row, Vp cyc.length p := fun p hp => by rw [hc]; exact h p hp
  constructor
  · intro e s hs
    have hw := walk_lt h hs
    have q := runL_get hv (x := walk row s) (by rw [hc]; exact hw)
    rw [e, ei _ hw, back_walk hne, ec _ hs] at q
    exact q
  · intro e
    refine ext_getD (by rw [runL_len, hc, hi]) fun x hx => ?_
    rw [runL_len, hc] at hx
    have hb := back_lt h hx
    rw [runL_get hv (by rw [hc]; exact hx), ec _ hb, ← e _ hb, walk_back hne, ei _ hx]
theorem gy_of {n : Nat} {ps : List NP} {cyc idl : List Nat} (hps : ∀ p ∈ ps, Vp n p) (hall : ∀ p, Vp n p → p.1 < p.2 → p ∈ ps) (hi : idl.length = n) (hi8 : ∀ x ∈ idl, x < 8) (hc : cyc.length = n) (hc8 : ∀ x ∈ cyc, x < 8)
    (ei : ∀ x, x < n → idl.getD x 0 = x) (ec : ∀ x, x < n → cyc.getD x 0 = (x + 1) % n)
    (hr : ∀ r, 1 ≤ r → r ≤ 3 → allRows ps (fun ρ => !dead n (enc idl) r ρ) r (enc idl) = true) {m : Nat} (hs : search n (enc idl) m (enc cyc) ps [] = true)
    {row : List NP} (hm : row.length = m) (h : ∀ p ∈ row, Vp n p) : (row.Pairwise fun p q => okP n p q = true) ↔ ∀ s, s < n → walk row s = (s + 1) % n := by
  have hv : ∀ p ∈ row.map canon, Vp n p := fun p hp => by
    obtain ⟨q, hq, rfl⟩ := List.mem_map.mp hp
    exact (canon_v (h q hq)).1
  have k := search_sound (prev := []) hps hi hi8 hr hc hc8 (fun p hp => .inl hp) (fun p hp => ⟨hp, fun q hq => by simp at hq⟩) (fun p hp => by simp at hp) hs (row.map canon) (by simpa using hm) (fun p hp => by
    obtain ⟨q, hq, rfl⟩ := List.mem_map.mp hp
    exact hall _ (canon_v (h q hq)).1 (canon_v (h q hq)).2)
  rw [run_cycle hc hi ei ec hv] at k
  simp only [walk_canon (fun p hp => (h p hp).2.2)] at k
  rw [← k, List.pairwise_map]
  simp only [okP_canon, List.not_mem_nil, false_imp_iff, implies_true, true_and]
theorem gy5 {row : List NP} (hm : row.length = 4) (h : ∀ p ∈ row, Vp 5 p) : (row.Pairwise fun p q => okP 5 p q = true) ↔ ∀ s, s < 5 → walk row s = (s + 1) % 5 := by
  refine gy_of (n := 5) (ps := ps5) (cyc := [1, 2, 3, 4, 0]) (idl := [0, 1, 2, 3, 4]) (by unfold Vp; decide) ?_ rfl (by decide) rfl (by decide) (by decide) (by decide) ?_ s5 hm h
  · rintro ⟨a, b⟩ ⟨h1, h2, _⟩ h3
    have : ∀ a < 5, ∀ b < 5, a < b → ps5.contains (a, b) = true := by decide
    exact List.contains_iff_mem.mp (this a h1 b h2 h3)
  · intro r h1 h2
    obtain rfl | rfl | rfl : r = 1 ∨ r = 2 ∨ r = 3 := by lia
    · exact r51
    · exact r52
    · exact r53
theorem gy6 {row : List NP} (hm : row.length = 5) (h : ∀ p ∈ row, Vp 6 p) : (row.Pairwise fun p q => okP 6 p q = true) ↔ ∀ s, s < 6 → walk row s = (s + 1) % 6 := by
  refine gy_of (n := 6) (ps := ps6) (cyc := [1, 2, 3, 4, 5, 0]) (idl := [0, 1, 2, 3, 4, 5]) (by unfold Vp; decide) ?_ rfl (by decide) rfl (by decide) (by decide) (by decide) ?_ s6 hm h
  · rintro ⟨a, b⟩ ⟨h1, h2, _⟩ h3
    have : ∀ a < 6, ∀ b < 6, a < b → ps6.contains (a, b) = true := by decide
    exact List.contains_iff_mem.mp (this a h1 b h2 h3)
  · intro r h1 h2
    obtain rfl | rfl | rfl : r = 1 ∨ r = 2 ∨ r = 3 := by lia
    · exact r61
    · exact r62
    · exact r63
end
section
open PySem PySem.W PySem.Calls PyProof.Rows PySem.SeqAt
set_option maxHeartbeats 400000
variable {T : Tab} {n : Nat} {loc loc' : Loc} {C C' : Cs} {k : KE} {kx : KX}

/-- names kept behind a turn, or dropped -/
inductive SubL (m : Nat) : Loc → Loc → Prop where
  | nil : SubL m [] []
  | keep {o : Option D} {l l' : Loc} : (∀ d, o = some d → closedD m d) → SubL m l l' → SubL m (o :: l) (o :: l')
  | drop {o : Option D} {l l' : Loc} : SubL m l l' → SubL m (o :: l) (none :: l')
theorem SubL.len {m : Nat} {l l' : Loc} (h : SubL m l l') : l'.length = l.length := by
  induction h with
  | nil => rfl
  | keep _ _ ih => simp [ih]
  | drop _ ih => simp [ih]
theorem SubL.at {m : Nat} {l l' : Loc} (h : SubL m l l') : ∀ (i : Nat) d, l'[i]? = some (some d) → l[i]? = some (some d) ∧ closedD m d := by
  induction h with
  | nil => intro i d h; simp at h
  | @keep o l l' hc _ ih =>
    intro i d h
    cases i with
    | zero => simp at h; subst h; exact ⟨rfl, hc d rfl⟩
    | succ i => exact ih i d (by simpa using h)
  | @drop o l l' _ ih =>
    intro i d h
    cases i with
    | zero => simp at h
    | succ i => exact ih i d (by simpa using h)
theorem SubL.same {m : Nat} : ∀ {l : Loc}, (∀ o ∈ l, ∀ d, o = some d → closedD m d) → SubL m l l
  | [], _ => .nil
  | _ :: _, h => .keep (h _ (.head _)) (SubL.same fun o ho => h o (.tail _ ho))
theorem SubL.tail {m k : Nat} : SubL m (List.replicate k none) (List.replicate k none) := .same fun _ ho _ e => by cases (List.eq_of_mem_replicate ho).symm.trans e
/-- a turn's end: the cells made in the turn are let go -/
theorem goT {m0 : Nat} {Cm J : Cs} {P : Loc → Cs → Prop} (h0 : Cm.length = m0) (hC : Closed m0 Cm) (hs : SubL m0 loc loc') (h : P loc' Cm) : ∃ loc2 C2, TrimL m0 loc (Cm ++ J) loc2 C2 ∧ P loc2 C2 := by
  subst h0
  have e : Cm = (Cm ++ J).take Cm.length := by rw [List.take_append_of_le_length (Nat.le_refl _), List.take_of_length_le (Nat.le_refl _)]
  exact ⟨loc', Cm, ⟨Cm.length, Nat.le_refl _, e, fun _ => e ▸ hC, hs.len, fun i d q => ⟨(hs.at i d q).1, fun _ => (hs.at i d q).2⟩⟩, h⟩
theorem clo_none {m : Nat} : ∀ d, (none : Option D) = some d → closedD m d := fun d e => nomatch e
theorem clo_at {m : Nat} {a : At} : ∀ d, some (D.at a) = some d → closedD m d := fun d e => by cases e; trivial
theorem clo_tup {m : Nat} {a : List At} : ∀ d, some (D.tup a) = some d → closedD m d := fun d e => by cases e; trivial
theorem clo_arg {m : Nat} {a : List At} : ∀ d, some (D.arg a) = some d → closedD m d := fun d e => by cases e; trivial
theorem clo_lst {m j : Nat} (h : j < m) : ∀ d, some (D.lst j) = some d → closedD m d := fun d e => by cases e; exact h
theorem closed_nil {m : Nat} : Closed m [] := fun l h => by simp at h
theorem closed_cons {m : Nat} {l : List D} {C : Cs} (h1 : ∀ d ∈ l, closedD m d) (h2 : Closed m C) : Closed m (l :: C) := fun x h => by
  rcases List.mem_cons.mp h with rfl | h
  · exact h1
  · exact h2 x h
theorem closed_app {m : Nat} {C C' : Cs} (h1 : Closed m C) (h2 : Closed m C') : Closed m (C ++ C') := fun x h => by
  rcases List.mem_append.mp h with h | h
  · exact h1 x h
  · exact h2 x h
theorem cl_ints {m : Nat} (l : List Int) : ∀ d ∈ l.map dint, closedD m d := fun d h => by
  obtain ⟨x, _, rfl⟩ := List.mem_map.mp h; trivial
theorem cl_flts {m : Nat} (l : List UInt64) : ∀ d ∈ l.map dflt, closedD m d := fun d h => by
  obtain ⟨x, _, rfl⟩ := List.mem_map.mp h; trivial
theorem cl_keyed {m : Nat} (l : List (Int × List At)) : ∀ d ∈ keyed l, closedD m d := fun d h => by
  obtain ⟨x, _, rfl⟩ := List.mem_map.mp h; trivial
theorem cl_nil {m : Nat} : ∀ d ∈ ([] : List D), closedD m d := fun d h => by simp at h

theorem pick_sublist {α : Type} (l : List α) (a b c : Option Int) : ∀ x ∈ pick l a b c, x ∈ l := by
  intro x hx
  unfold pick at hx
  obtain ⟨i, _, e⟩ := List.mem_filterMap.mp hx
  exact List.mem_of_getElem? e
theorem pick_step_len {α : Type} (l : List α) (a m : Nat) (hm : 0 < m) : (pick l (some (a : Int)) none (some (m : Int))).length ≤ l.length := by
  unfold pick
  refine Nat.le_trans (List.length_filterMap_le _ _) ?_
  have e : sliceBounds (some (a : Int)) none (some (m : Int)) l.length = (((min a l.length : Nat) : Int), (l.length : Int), (m : Int)) := by
    simp only [sliceBounds, Option.getD_some]
    have h1 : ¬ ((a : Int) < 0) := by omega
    have h2 : (m : Int) > 0 := by omega
    simp only [h1, h2, if_false, if_true]
    congr 1
    omega
  rw [e]
  dsimp only
  refine Nat.le_trans (PySem.sliceRange_length_le _ _ _ l.length (fun _ => ⟨by omega, by omega⟩) (fun h => absurd (by omega) h)) (Nat.le_refl _)

/-! the numbers -/
noncomputable def restOf (ns : List Int) : List Int := ns.map (· % 10 ^ 9)
noncomputable def wOf (ns : List Int) : Int := 730515 + (restOf ns).sum
noncomputable def base5 : List Int := [59520001, 17856038, 30720048, 96109, 36930411]
noncomputable def numOf (m : Nat) (ns : List Int) (k : Nat) : Int := base5.getD k 0 + (pick (restOf ns) (some (k : Int)) none (some (m : Int))).sum
noncomputable def numsOf (m : Nat) (ns : List Int) : List Int := (List.range m).map (numOf m ns)
theorem rest_bd {ns : List Int} : ∀ i ∈ restOf ns, 0 ≤ i ∧ i < 10 ^ 9 := by
  intro i hi
  obtain ⟨x, _, rfl⟩ := List.mem_map.mp hi
  omega
theorem atoms_ints (l : List Int) : atoms (l.map dint) = some (l.map At.int) := by
  induction l with
  | nil => rfl
  | cons x l ih => simp [atoms, ih]
theorem intsA_ints (l : List Int) : intsA (l.map At.int) = some l := by
  induction l with
  | nil => rfl
  | cons x l ih => simp [intsA, ih]
end
section
open PySem PySem.W PySem.Calls PyProof.Rows PySem.SeqAt
set_option maxHeartbeats 400000
variable {T : Tab} {n : Nat} {loc loc' : Loc} {C C' : Cs} {k : KE} {kx : KX}

theorem pick_map {α β : Type} (f : α → β) (l : List α) (a b c : Option Int) : pick (l.map f) a b c = (pick l a b c).map f := by
  unfold pick
  rw [List.length_map, List.map_filterMap]
  congr 1
  funext i
  simp
theorem rest_len (ns : List Int) : (restOf ns).length = ns.length := List.length_map _
theorem rest_at {ns : List Int} {i : Nat} (h : i < ns.length) : ((restOf ns).map dint)[i]? = some (dint (ns[i] % 10 ^ 9)) := by
  rw [List.getElem?_map, restOf, List.getElem?_map, List.getElem?_eq_getElem h]; rfl
theorem arg_at {ns : List Int} {i : Nat} (h : i < ns.length) : ((ns.map At.int).map D.at)[i]? = some (dint ns[i]) := by
  rw [List.getElem?_map, List.getElem?_map, List.getElem?_eq_getElem h]; rfl
theorem set_1 {a b c : List D} : ([a, b] : Cs).set 1 c = [a, c] := rfl
theorem rest_ok {fvs : Loc} {ns : List Int} (hns : ns.length ≤ 63) (hk : k (.lst 1) [(ns.map At.int).map D.at, (restOf ns).map dint]) : ∀ (r i N : Nat) (C1 : Cs), i + r = ns.length → r < N → C1 = [(ns.map At.int).map D.at, ((restOf ns).map dint).take i] →
    compL (EF T (n + 20)) (compOf lit21t.1) [] fvs (.d (.lst 0)) 1 k N i C1 := by
  intro r
  induction r with
  | zero =>
    rintro i N _ h1 h2 rfl
    obtain ⟨N, rfl⟩ := succ_of h2
    refine op (congrArg some (List.getElem?_eq_none (l := (ns.map At.int).map D.at) (by rw [List.length_map, List.length_map]; exact Nat.le_of_eq h1.symm))) ?_
    rw [List.take_of_length_le (by rw [List.length_map, rest_len]; exact Nat.le_of_eq h1.symm)]
    exact hk
  | succ r ih =>
    rintro i N _ h1 h2 rfl
    obtain ⟨N, rfl⟩ := succ_of h2
    refine op (congrArg some (arg_at (lt_of_add h1))) ?_
    refine And.intro rfl (And.intro ⟨by decide, by decide⟩ ?_)
    refine wn_le (line9 (Nat.le_trans (List.length_take_le' i _) (by rw [List.length_map, rest_len]; exact Nat.le_trans hns (by decide)))) ?_
    exact ih (i + 1) N _ (add_succ_of h1) (Nat.lt_of_succ_lt_succ h2) (set_1.trans (congrArg (fun l => [_, l]) (take_next (rest_at (lt_of_add h1)))))

theorem sl_step {x p : Nat} {l m : List D} {a s : Int} (h0 : 0 < p) (hs : s = (p : Int)) (e : C[x]? = some l) (hl : l.length ≤ sizeLine) (ep : pick l (some a) none (some (p : Int)) = m) (h : k (.lst C.length) (C ++ [m])) : slcOp (.lst x) (some (dint a)) none (some (dint s)) C k :=
  ⟨op rfl (op rfl (op rfl (op e (wn_le hl (wn (decide_eq_true fun q => absurd (Int.ofNat.inj (hs.symm.trans (Option.some.inj q))) (Nat.ne_of_gt h0)) (by rw [hs, ep]; exact h))))))⟩
noncomputable abbrev bodyA := forOf lit21t.1
theorem base_at {i : Nat} (h : i < 5) : (base5.map dint)[i]? = some (dint (base5.getD i 0)) := by
  rw [List.getElem?_map, List.getD_eq_getElem?_getD, List.getElem?_eq_getElem (show i < base5.length from h)]; rfl
theorem nums_at {m i : Nat} {ns : List Int} (h : i < m) : ((numsOf m ns).map dint)[i]? = some (dint (numOf m ns i)) := by
  rw [List.getElem?_map, numsOf, List.getElem?_map, List.getElem?_eq_getElem (by rw [List.length_range]; exact h), List.getElem_range]; rfl
theorem nums_len (m : Nat) (ns : List Int) : (numsOf m ns).length = m := (List.length_map _).trans List.length_range
theorem rngE0 {m i : Nat} (h : m ≤ i) : itemAt (.rng 0 (m : Int)) i [] = some none := it_rngE (by rw [Int.zero_add]; exact Int.not_lt.mpr (Int.ofNat_le.mpr h))
theorem rng0 {m i : Nat} (h : i < m) : itemAt (.rng 0 (m : Int)) i [] = some (some (dint (i : Int))) := (it_rng (by rw [Int.zero_add]; exact Int.ofNat_lt.mpr h)).trans (congrArg (fun z => some (some (dint z))) (Int.zero_add _))
theorem forA_ok {ns : List Int} {m : Nat} (hm1 : 0 < m) (hm5 : m ≤ 5) (hns : ns.length ≤ 63) {Cr : List D} (hCr : ∀ d ∈ Cr, closedD 3 d) (h : kx .next (some (.arg (ns.map At.int)) :: some (dint ((m : Int) + 1)) :: some (.lst 1) :: some (dint (wOf ns)) :: some (.lst 2) :: List.replicate 30 none) [Cr, (restOf ns).map dint, (numsOf m ns).map dint]) :
    ∀ (r i N : Nat) (z : Int) (C1 : Cs), i + r = m → r < N → z = (m : Int) → C1 = [Cr, (restOf ns).map dint, ((numsOf m ns).map dint).take i] →
      forL (Xs T (n + 30)) 3 [5] (.rng 0 z) bodyA kx N i (some (.arg (ns.map At.int)) :: some (dint ((m : Int) + 1)) :: some (.lst 1) :: some (dint (wOf ns)) :: some (.lst 2) :: List.replicate 30 none) C1 := by
  intro r
  induction r with
  | zero =>
    rintro i N _ _ h1 h2 rfl rfl
    obtain ⟨N, rfl⟩ := succ_of h2
    refine op (rngE0 (Nat.le_of_eq h1.symm)) ?_
    rw [List.take_of_length_le (by rw [List.length_map, nums_len]; exact Nat.le_of_eq h1.symm)]
    exact h
  | succ r ih =>
    rintro i N _ _ h1 h2 rfl rfl
    obtain ⟨N, rfl⟩ := succ_of h2
    have hi : i < m := lt_of_add h1
    refine op (rng0 hi) ?_
    refine sq (j := i) (l := base5.map dint) rfl (base_at (Nat.lt_of_lt_of_le hi hm5)) (by decide) ?_
    refine sl_step (p := m) (l := (restOf ns).map dint) (m := (pick (restOf ns) (some (i : Int)) none (some (m : Int))).map dint) hm1 (Int.add_sub_cancel (m : Int) 1) rfl (line9 (by rw [List.length_map, rest_len]; exact Nat.le_trans hns (by decide))) (pick_map _ _ _ _ _) ?_
    refine op (atoms_ints _) ?_
    refine op (intsA_ints _) ?_
    refine And.intro ⟨fun x hx => rest_bd x (pick_sublist _ _ _ _ x hx), Nat.lt_of_le_of_lt (pick_step_len (restOf ns) i m hm1) (by rw [rest_len]; exact Nat.lt_of_le_of_lt hns (by decide))⟩ ?_
    refine wn_le (line9 (Nat.le_trans (List.length_take_le' i _) (by rw [List.length_map, nums_len]; exact Nat.le_trans hm5 (by decide)))) ?_
    have e : ([Cr, (restOf ns).map dint, ((numsOf m ns).map dint).take i ++ [dint (numOf m ns i)]] : Cs) = [Cr, (restOf ns).map dint, ((numsOf m ns).map dint).take (i + 1)] := congrArg (fun l => [Cr, (restOf ns).map dint, l]) (take_next (nums_at hi))
    exact goT (Cm := [Cr, (restOf ns).map dint, ((numsOf m ns).map dint).take i ++ [dint (numOf m ns i)]]) (J := [base5.map dint, (pick (restOf ns) (some (i : Int)) none (some (m : Int))).map dint]) (loc' := (some (.arg (ns.map At.int)) :: some (dint ((m : Int) + 1)) :: some (.lst 1) :: some (dint (wOf ns)) :: some (.lst 2) :: List.replicate 30 none)) rfl (e ▸ closed_cons hCr (closed_cons (cl_ints _) (closed_cons (fun d hd => cl_ints _ d (List.mem_of_mem_take hd)) closed_nil)))
      (.keep clo_arg (.keep clo_at (.keep (clo_lst (by decide)) (.keep clo_at (.keep (clo_lst (by decide)) (.drop .tail)))))) (ih (i + 1) N _ _ (add_succ_of h1) (Nat.lt_of_succ_lt_succ h2) rfl e)
end
section
open PySem PySem.W PySem.Calls PyProof.Rows PySem.SeqAt
set_option maxHeartbeats 400000
variable {T : Tab} {n : Nat} {loc loc' : Loc} {C C' : Cs} {k : KE} {kx : KX}

theorem sl_arg {l : List At} {b : Nat} (hl : l.length ≤ b) (h9 : l.length ≤ sizeLine) (h : k (.lst C.length) (C ++ [l.map D.at])) : slcOp (.arg l) none (some (dint (b : Nat))) none C k :=
  ⟨wn_le h9 (by rw [pick_to, List.take_of_length_le hl]; exact h)⟩
theorem m40 {m : Nat} (h : m ≤ 5) : -(2 ^ 40) < (m : Int) ∧ (m : Int) < 2 ^ 40 := ⟨Int.lt_of_lt_of_le (by decide) (Int.natCast_nonneg m), Int.lt_of_le_of_lt (Int.ofNat_le.mpr h) (by decide)⟩
theorem segA {ns : List Int} {m : Nat} (hm : manyOf ns = (m : Int) + 1) (hm4 : m = 4 ∨ m = 5) (hns : ns.length ≤ 63)
    (h : Xs TT 393 (lit21t.1.drop 7) (some (.arg (ns.map At.int)) :: some (dint ((m : Int) + 1)) :: some (.lst 1) :: some (dint (wOf ns)) :: some (.lst 2) :: none :: some (.lst 3) :: some (dint (Int.ofNat 864000)) :: some (.lst 4) :: List.replicate 26 none) [ns.map dint, (restOf ns).map dint, (numsOf m ns).map dint, (exch (wOf ns) (numsOf m ns)).map pr, []] kx) :
    Xs TT 400 lit21t.1 (loc1 ns) [] kx := by
  unfold loc1
  rw [hm]
  have hl : (ns.map At.int).length = ns.length := List.length_map _
  refine sl_arg (b := 63) (hl ▸ hns) (line9 (hl ▸ Nat.le_trans hns (by decide))) ?_
  refine Exists.intro (ns.length + 1) ?_
  refine rest_ok (n := 377) (T := TT) hns ?_ ns.length 0 (ns.length + 1) _ (Nat.zero_add _) (Nat.lt_succ_self _) rfl
  refine op (atoms_ints _) ?_
  refine op (intsA_ints _) ?_
  refine And.intro ⟨rest_bd, by rw [rest_len]; exact Nat.lt_of_le_of_lt hns (by decide)⟩ ?_
  have hm5 : m ≤ 5 := by rcases hm4 with rfl | rfl <;> decide
  have hm3 : 3 ≤ m := by rcases hm4 with rfl | rfl <;> decide
  have em : ((m : Int) + 1 - Int.ofNat 1) = (m : Int) := Int.add_sub_cancel (m : Int) 1
  refine And.intro ?_ ?_
  · rw [em]; exact m40 hm5
  refine Exists.intro (m + 1) ?_
  refine forA_ok (n := 365) (T := TT) (Nat.lt_of_lt_of_le (by decide) hm3) hm5 hns (Cr := (ns.map At.int).map D.at) (closed_at _) ?_ m 0 (m + 1) _ _ (Nat.zero_add _) (Nat.lt_succ_self _) em rfl
  have e0 : (ns.map At.int).map D.at = ns.map dint := List.map_map
  refine Exists.intro (wOf ns) (Exists.intro 2 (Exists.intro (numsOf m ns) (And.intro rfl (And.intro rfl (And.intro rfl (And.intro ((nums_len m ns).symm ▸ hm3) (And.intro ((nums_len m ns).symm ▸ Nat.lt_of_le_of_lt hm5 (by decide)) ?_)))))))
  rw [e0]
  exact h
end
section
open PySem PySem.W PySem.Calls PyProof.Rows PySem.SeqAt
set_option maxHeartbeats 400000
variable {T : Tab} {n : Nat} {loc loc' : Loc} {C C' : Cs} {k : KE} {kx : KX}

noncomputable abbrev bodyB := forOf (lit21t.1.drop 7)
noncomputable def zonesL : List D := [.tup [.str (zoneS 0), .int 19800], .tup [.str (zoneS 1), .int (-28800)], .tup [.str (zoneS 2), .int 49500], .tup [.str (zoneS 3), .int 0], .tup [.str (zoneS 4), .int (-18000)], .tup [.str (zoneS 5), .int 0], .tup [.str (zoneS 6), .int 0], .tup [.str (zoneS 7), .int (-25200)]]
theorem zonesL_at : ∀ i, i < 8 → zonesL[i]? = some (.tup [.str (zoneS i), .int (zoneO i)]) := lt8 (by kernel_rfl) (by kernel_rfl) (by kernel_rfl) (by kernel_rfl) (by kernel_rfl) (by kernel_rfl) (by kernel_rfl) (by kernel_rfl)
/-- a letter's numbers -/
structure LetOk (W Z N : Int) (i : Nat) (zi nd mo d y h mi s : Nat) : Prop where
  e_z : Z / 24 % 8 = (zi : Int)
  e_y : 1000 + W / 5 % 9000 = (y : Int)
  e_mo : 1 + W / 11 % 12 = ((mo + 1 : Nat) : Int)
  e_d : (N + zoneO zi) / 86400 + 1 = (d : Int)
  e_h : (N + zoneO zi) % 86400 / 3600 = (h : Int)
  e_mi : (N + zoneO zi) % 86400 / 60 % 60 = (mi : Int)
  e_s : (N + zoneO zi) % 86400 % 60 = (s : Int)
  e_nd : ((i : Int) + ((N + zoneO zi) / 86400 + 1)) % 7 = (nd : Int)
  e_t : (d : Int) * 86400 + (h : Int) * 3600 + (mi : Int) * 60 + (s : Int) - zoneO zi = N + 86400
theorem small_nat {z : Int} {d : Nat} (e : z = (d : Int)) (h : d < 10000) : small z = true := by
  subst e
  exact Bool.and_eq_true_iff.mpr ⟨decide_eq_true (Int.natCast_nonneg d), decide_eq_true (Int.ofNat_lt.mpr (Nat.lt_trans h (by decide)))⟩
theorem zoneS_len {i : Nat} (h : i < 8) : (zoneS i).length ≤ 100 := by
  show (zoneS i).cps.toList.length ≤ 100
  rcases (zones i h).2.1 with q | q <;> rw [q] <;> decide
theorem lt_100 {d : Nat} (h : d < 100) : d < 10000 := Nat.lt_trans h (by decide)
theorem date_eq {Y D' H' I S' : Int} {nd mo d y h mi s zi : Nat} (e1 : Y = (y : Int)) (e3 : D' = (d : Int)) (e4 : H' = (h : Int)) (e5 : I = (mi : Int)) (e6 : S' = (s : Int)) :
    fmtDate (dayN.getD nd Str.empty) D' (monN.getD mo Str.empty) Y H' I S' (zoneS zi) = dateT nd mo d y h mi s zi := by
  subst e1; subst e3; subst e4; subst e5; subst e6; rfl
theorem sl_str {x y : Str} {lo hi : Option D} {a b : Option Int} (e1 : part lo = some a) (e2 : part hi = some b) (e : pickS x a b = y) (hl : y.length ≤ 1000) (h : k (dstr y) C) : slcOp (dstr x) lo hi none C k :=
  ⟨op e1 (op e2 (by subst e; exact And.intro (line9 hl) h))⟩
noncomputable def week : Str := ⟨#[77, 111, 110, 84, 117, 101, 87, 101, 100, 84, 104, 117, 70, 114, 105, 83, 97, 116, 83, 117, 110]⟩
theorem week_all : ∀ nd : Nat, nd < 7 → pickS week (some (Int.ofNat 3 * (nd : Int))) (some (Int.ofNat 3 * (nd : Int) + Int.ofNat 3)) = dayN.getD nd Str.empty := by decide +kernel
theorem week_at {z : Int} {nd : Nat} (e : z = (nd : Int)) (h : nd < 7) : pickS week (some (Int.ofNat 3 * z)) (some (Int.ofNat 3 * z + Int.ofNat 3)) = dayN.getD nd Str.empty := by
  subst e; exact week_all nd h
theorem dayN_3 : ∀ nd < 7, (dayN.getD nd Str.empty).cps.toList.length = 3 := by decide +kernel
theorem date_head {nd mo d y h mi s zi : Nat} (hnd : nd < 7) : pickS (dateT nd mo d y h mi s zi) none (some (Int.ofNat 4)) = dayN.getD nd Str.empty ++ ⟨#[44]⟩ := by
  have e := dayN_3 nd hnd
  unfold pickS dateT fmtDate
  rw [List.toList_toArray, show ∀ l : List Nat, pick l none (some (Int.ofNat 4)) none = l.take 4 from fun l => pick_to l 4]
  generalize dayN.getD nd Str.empty = D at *
  obtain ⟨⟨l⟩⟩ := D
  exact lenC (P := fun l => (⟨(List.take 4 (l ++ _)).toArray⟩ : Str) = ⟨⟨l⟩⟩ ++ ⟨#[44]⟩) (fun a b c => rfl) l e
theorem ats_eq : ∀ {l m : List Int}, l = m → atsEq (l.map At.int) (m.map At.int) = some true
  | [], _, rfl => rfl
  | x :: l, _, rfl => by
    have ih : lEq atEq (l.map At.int) (l.map At.int) = some true := ats_eq (l := l) rfl
    show (lEq atEq (l.map At.int) (l.map At.int)).map (fun y => decide (x = x) && y) = some true
    rw [ih, decide_eq_true (rfl : x = x)]
    rfl
theorem ten_eq {Y M D' H' I S' z : Int} {y mo d h mi s : Nat} (e1 : Y = (y : Int)) (e2 : M = ((mo + 1 : Nat) : Int)) (e3 : D' = (d : Int)) (e4 : H' = (h : Int)) (e5 : I = (mi : Int)) (e6 : S' = (s : Int)) :
    ([(y : Int), (mo : Int) + 1, d, h, mi, s, 0, 1, -1, z] : List Int) = [Y, M, D', H', I, S', 0, 1, -1, z] := by
  subst e1; subst e2; subst e3; subst e4; subst e5; subst e6; rfl
theorem nat40 {d : Nat} (h : d < 10000) : (d : Int).natAbs < 2 ^ 40 := Nat.lt_trans h (by decide)
theorem let_end {a b c d ls : List D} {J : Cs} {t t' p q : Int} (e : t = t') (h : kx .next loc ([a, b, c, d, ls ++ [.tup [.int t', .int p, .int q]]] ++ J)) : kx .next loc ([a, b, c, d, ls ++ [.tup [.int t, .int p, .int q]]] ++ J) := by
  subst e; exact h
theorem let_ok {S : List At} {W : Int} {m i : Nat} {zs : List Int} {row : List Pr} {Cr Cq ls : List D} {nw Z N : Int} {zi nd mo d y h mi s : Nat} (hm : m ≤ 5) (hi : i < m) (hzl : zs.length = m) (hrl : row.length = m) (hZ : zs[i]? = some Z) {p : Pr} (hp : row[i]? = some p)
    (hN : nw + 1 + Z / 192 % 90000 = N) (H : LetOk W Z N i zi nd mo d y h mi s) (DO : DateOk nd mo d y h mi s zi) (hls : ls.length ≤ 100)
    (hk : ∀ loc', SubL 5 loc' (some (.arg S) :: some (dint ((m : Int) + 1)) :: some (.lst 1) :: some (dint W) :: some (.lst 2) :: none :: some (.lst 3) :: some (dint N) :: some (.lst 4) :: List.replicate 26 none) → ∀ J, kx .next loc' ([Cr, Cq, zs.map dint, row.map pr, ls ++ [.tup [.int (N + 86400), .int p.1, .int p.2]]] ++ J)) :
    Xs TT (n + 100) bodyB (some (.arg S) :: some (dint ((m : Int) + 1)) :: some (.lst 1) :: some (dint W) :: some (.lst 2) :: some (dint (i : Nat)) :: some (.lst 3) :: some (dint nw) :: some (.lst 4) :: List.replicate 26 none) [Cr, Cq, zs.map dint, row.map pr, ls] kx := by
  subst hN
  have hz : (zs.map dint)[i]? = some (dint Z) := by rw [List.getElem?_map, hZ]; rfl
  have hz9 : (zs.map dint).length < 2 ^ 60 := by rw [List.length_map, hzl]; exact Nat.lt_of_le_of_lt hm (by decide)
  refine sq (j := i) rfl hz hz9 ?_
  refine sq (j := zi) (l := zonesL) H.e_z (zonesL_at zi DO.z) (by decide) ?_
  refine sq (j := i) rfl hz hz9 ?_
  refine Exists.intro _ (Exists.intro _ (Exists.intro _ (Exists.intro _ (Exists.intro _ (Exists.intro _ (Exists.intro _ (Exists.intro _ (Exists.intro nd (Exists.intro mo (Exists.intro (dateT nd mo d y h mi s zi) (And.intro rfl (And.intro rfl (And.intro H.e_nd (And.intro DO.nd (And.intro H.e_mo (And.intro DO.mo
    (And.intro ⟨small_nat H.e_d (lt_100 DO.d), small_nat H.e_y DO.y2, small_nat H.e_h (lt_100 DO.h), small_nat H.e_mi (lt_100 DO.m), small_nat H.e_s (lt_100 DO.s)⟩ (And.intro (zoneS_len DO.z) (And.intro (date_eq H.e_y H.e_d H.e_h H.e_mi H.e_s) ?_)))))))))))))))))))
  have lenD : (dayN.getD nd Str.empty).length = 3 := dayN_3 nd DO.nd
  have lenC : (dayN.getD nd Str.empty ++ ⟨#[44]⟩ : Str).length = 4 := by rw [Str.length_append, lenD]; rfl
  refine sl_str (a := none) (b := some (Int.ofNat 4)) rfl rfl (date_head DO.nd) (by rw [lenC]; decide) ?_
  refine sl_str (x := week) rfl rfl (week_at H.e_nd DO.nd) (by rw [lenD]; decide) ?_
  refine wn_le (line9 (by rw [lenD]; decide)) ?_
  refine br_f (by rw [decide_eq_true rfl]; rfl) ?_
  refine Exists.intro nd (Exists.intro mo (Exists.intro d (Exists.intro y (Exists.intro h (Exists.intro mi (Exists.intro s (Exists.intro zi (And.intro rfl (And.intro rfl (And.intro DO ?_))))))))))
  have q1 : ([(y : Int), (mo : Int) + 1, d, h, mi, s, 0, 1, -1, zoneO zi] : List Int) = [Int.ofNat 1000 + W / Int.ofNat 5 % Int.ofNat 9000, Int.ofNat 1 + W / Int.ofNat 11 % Int.ofNat 12, ((nw + Int.ofNat 1 + Z / Int.ofNat 192 % Int.ofNat 90000) + zoneO zi) / Int.ofNat 86400 + Int.ofNat 1,
     ((nw + Int.ofNat 1 + Z / Int.ofNat 192 % Int.ofNat 90000) + zoneO zi) % Int.ofNat 86400 / Int.ofNat 3600, ((nw + Int.ofNat 1 + Z / Int.ofNat 192 % Int.ofNat 90000) + zoneO zi) % Int.ofNat 86400 / Int.ofNat 60 % Int.ofNat 60, ((nw + Int.ofNat 1 + Z / Int.ofNat 192 % Int.ofNat 90000) + zoneO zi) % Int.ofNat 86400 % Int.ofNat 60, 0, 1, -1, zoneO zi] :=
    ten_eq H.e_y H.e_mo H.e_d H.e_h H.e_mi H.e_s
  refine br_f (congrArg (fun o : Option Bool => !(o.getD false)) (ats_eq q1)) ?_
  refine wn_lt (nat40 (lt_100 DO.d)) ?_
  refine wn_lt (nat40 (lt_100 DO.h)) ?_
  refine wn_lt (nat40 (lt_100 DO.m)) ?_
  have hr : (row.map pr)[i]? = some (pr p) := by rw [List.getElem?_map, hp]; rfl
  have hr9 : (row.map pr).length < 2 ^ 60 := by rw [List.length_map, hrl]; exact Nat.lt_of_le_of_lt hm (by decide)
  refine sq (j := i) rfl hr hr9 ?_
  refine sq (j := i) rfl hr hr9 ?_
  refine wn_le (line9 (Nat.le_trans hls (by decide))) ?_
  exact let_end (J := [zonesL]) H.e_t (hk _ (.keep clo_arg (.keep clo_at (.keep (clo_lst (by decide)) (.keep clo_at (.keep (clo_lst (by decide)) (.drop (.keep (clo_lst (by decide)) (.keep clo_at (.keep (clo_lst (by decide)) (.drop (.drop (.drop (.drop (.drop (.drop (.drop (.drop (.drop .tail)))))))))))))))))) _)
end
section
open PySem PySem.W PySem.Calls PyProof.Rows PySem.SeqAt
set_option maxHeartbeats 400000
variable {T : Tab} {n : Nat} {loc loc' : Loc} {C C' : Cs} {k : KE} {kx : KX}

theorem zoneO_bd : ∀ i : Nat, i < 8 → -28800 ≤ zoneO i ∧ zoneO i ≤ 49500 := by apply lt8 <;> exact ⟨by decide +kernel, by decide +kernel⟩
theorem mod_nat (z : Int) (m : Nat) (h : 0 < m) : ∃ k : Nat, z % (m : Int) = k ∧ k < m := by
  have h0 : (0 : Int) < m := Int.ofNat_lt.mpr h
  obtain ⟨k, e⟩ := Int.eq_ofNat_of_zero_le (Int.emod_nonneg z (Int.ne_of_gt h0))
  exact ⟨k, e, Int.ofNat_lt.mp (e ▸ Int.emod_lt_of_pos z h0)⟩
theorem clock (R : Nat) : R / 3600 * 3600 + R / 60 % 60 * 60 + R % 60 = R := by
  have a := Nat.div_add_mod' (R / 60) 60
  have b := Nat.div_add_mod' R 60
  have e1 : R / 3600 = R / 60 / 60 := (Nat.div_div_eq_div_mul R 60 60).symm
  have e2 : R / 60 / 60 * 3600 = R / 60 / 60 * 60 * 60 := (Nat.mul_assoc _ 60 60).symm
  rw [e1, e2, ← Nat.add_mul, a]
  exact b
theorem stamp (D : Nat) : (D / 86400 + 1) * 86400 + D % 86400 / 3600 * 3600 + D % 86400 / 60 % 60 * 60 + D % 86400 % 60 = D + 86400 := by
  have h := clock (D % 86400)
  have a := Nat.div_add_mod' D 86400
  rw [Nat.add_assoc, Nat.add_assoc, ← Nat.add_assoc (D % 86400 / 3600 * 3600), h, Nat.succ_mul, Nat.add_right_comm, a]
theorem fin_t {X N o D : Int} (h : X = D + 86400) (e : N + o = D) : X - o = N + 86400 := by omega
theorem now_step {a i k : Int} (h1 : 864000 + i ≤ a ∧ a ≤ 864000 + 90000 * i) (k0 : 0 ≤ k) (k1 : k < 90000) : 864000 + (i + 1) ≤ a + 1 + k ∧ a + 1 + k ≤ 864000 + 90000 * (i + 1) := by omega
theorem let_num {W Z N : Int} {i : Nat} (h1 : 864000 ≤ N) (h2 : N ≤ 2000000) : ∃ zi nd mo d y h mi s : Nat, LetOk W Z N i zi nd mo d y h mi s ∧ DateOk nd mo d y h mi s zi := by
  obtain ⟨zi, ez, hz⟩ := mod_nat (Z / 24) 8 (by decide)
  obtain ⟨b1, b2⟩ := zoneO_bd _ hz
  obtain ⟨a, ea, ha⟩ := mod_nat (W / 5) 9000 (by decide)
  obtain ⟨mo, em, hm⟩ := mod_nat (W / 11) 12 (by decide)
  have hD : (0 : Int) ≤ N + zoneO zi := Int.le_trans (by decide) (Int.add_le_add h1 b1)
  have hD2 : N + zoneO zi ≤ 2000000 + 49500 := Int.add_le_add h2 b2
  obtain ⟨D, eD⟩ := Int.eq_ofNat_of_zero_le hD
  have hd : D < 86400 * 30 := Int.ofNat_lt.mp (Int.lt_of_le_of_lt (eD ▸ hD2) (by decide))
  refine ⟨zi, (i + (D / 86400 + 1)) % 7, mo, D / 86400 + 1, 1000 + a, D % 86400 / 3600, D % 86400 / 60 % 60, D % 86400 % 60, ⟨ez, ?_, ?_, ?_, ?_, ?_, ?_, ?_, ?_⟩, ⟨Nat.mod_lt _ (by decide), hm, ?_, Nat.le_add_right _ _, Nat.add_lt_add_left ha 1000, ?_, ?_, ?_, hz⟩⟩
  · exact congrArg (1000 + ·) ea
  · exact (congrArg (1 + ·) em).trans (Int.add_comm _ _)
  · rw [eD]; rfl
  · rw [eD]; rfl
  · rw [eD]; rfl
  · rw [eD]; rfl
  · rw [eD]; rfl
  · have h := congrArg (Nat.cast (R := Int)) (stamp D)
    exact fin_t (D := (D : Int)) h eD
  · exact Nat.lt_of_lt_of_le (Nat.succ_lt_succ (Nat.div_lt_of_lt_mul hd)) (by decide)
  · exact Nat.lt_trans (Nat.div_lt_of_lt_mul (show D % 86400 < 3600 * 24 from Nat.mod_lt D (by decide)) : _ < 24) (by decide : 24 < 100)
  · exact Nat.lt_trans (Nat.mod_lt _ (by decide) : _ < 60) (by decide)
  · exact Nat.lt_trans (Nat.mod_lt _ (by decide) : _ < 60) (by decide)
noncomputable def nowAt (zs : List Int) : Nat → Int
  | 0 => 864000
  | i + 1 => nowAt zs i + 1 + zs.getD i 0 / 192 % 90000
theorem nowAt_bd (zs : List Int) : ∀ i : Nat, 864000 + (i : Int) ≤ nowAt zs i ∧ nowAt zs i ≤ 864000 + 90000 * (i : Int)
  | 0 => ⟨Int.le_refl _, Int.le_refl _⟩
  | i + 1 => now_step (nowAt_bd zs i) (Int.emod_nonneg _ (by decide)) (Int.emod_lt_of_pos _ (by decide))
theorem nowAt_lt (zs : List Int) {i j : Nat} (h : i < j) : nowAt zs i < nowAt zs j := by
  induction j with
  | zero => exact absurd h (Nat.not_lt_zero _)
  | succ j ih =>
    have : nowAt zs j < nowAt zs (j + 1) := by
      show nowAt zs j < nowAt zs j + 1 + zs.getD j 0 / 192 % 90000
      exact Int.lt_of_lt_of_le (Int.lt_succ _) (Int.le_add_of_nonneg_right (Int.emod_nonneg _ (by decide)))
    rcases Nat.lt_succ_iff_lt_or_eq.mp h with e | e
    · exact Int.lt_trans (ih e) this
    · subst e; exact this
noncomputable def letAt (zs : List Int) (row : List Pr) (i : Nat) : Int × List At := (nowAt zs (i + 1) + 86400, [.int (row.getD i (0, 0)).1, .int (row.getD i (0, 0)).2])
noncomputable def letters (m : Nat) (zs : List Int) (row : List Pr) : List (Int × List At) := (List.range m).map (letAt zs row)
theorem letters_len (m : Nat) (zs : List Int) (row : List Pr) : (letters m zs row).length = m := (List.length_map _).trans List.length_range
theorem letters_at {m i : Nat} {zs : List Int} {row : List Pr} (h : i < m) : (letters m zs row)[i]? = some (letAt zs row i) := by
  rw [letters, List.getElem?_map, List.getElem?_eq_getElem (by rw [List.length_range]; exact h), List.getElem_range]; rfl
theorem keyed_take {m i : Nat} {zs : List Int} {row : List Pr} (h : i < m) : (keyed (letters m zs row)).take i ++ [.tup [.int (nowAt zs (i + 1) + 86400), .int (row.getD i (0, 0)).1, .int (row.getD i (0, 0)).2]] = (keyed (letters m zs row)).take (i + 1) :=
  take_next (by rw [keyed, List.getElem?_map, letters_at h]; rfl)
theorem getD_some {α : Type} {l : List α} {i : Nat} {a : α} (h : i < l.length) : l[i]? = some (l.getD i a) := by
  rw [List.getD_eq_getElem?_getD, List.getElem?_eq_getElem h]; rfl
theorem forB_ok {S : List At} {W : Int} {m : Nat} {zs : List Int} {row : List Pr} {Cr Cq : List D} (hm : m ≤ 5) (hzl : zs.length = m) (hrl : row.length = m) (c1 : ∀ d ∈ Cr, closedD 5 d) (c2 : ∀ d ∈ Cq, closedD 5 d)
    (h : kx .next (some (.arg S) :: some (dint ((m : Int) + 1)) :: some (.lst 1) :: some (dint W) :: some (.lst 2) :: none :: some (.lst 3) :: some (dint (nowAt zs m)) :: some (.lst 4) :: List.replicate 26 none) [Cr, Cq, zs.map dint, row.map pr, keyed (letters m zs row)]) :
    ∀ (r i N : Nat) (z nw : Int) (C1 : Cs), i + r = m → r < N → z = (m : Int) → nw = nowAt zs i → C1 = [Cr, Cq, zs.map dint, row.map pr, (keyed (letters m zs row)).take i] →
      forL (Xs TT (n + 100)) 5 [5] (.rng 0 z) bodyB kx N i (some (.arg S) :: some (dint ((m : Int) + 1)) :: some (.lst 1) :: some (dint W) :: some (.lst 2) :: none :: some (.lst 3) :: some (dint nw) :: some (.lst 4) :: List.replicate 26 none) C1 := by
  intro r
  induction r with
  | zero =>
    rintro i N _ _ _ h1 h2 rfl rfl rfl
    obtain ⟨N, rfl⟩ := succ_of h2
    obtain rfl : i = m := h1
    refine op (rngE0 (Nat.le_refl _)) ?_
    rw [List.take_of_length_le (by rw [keyed_len, letters_len]; exact Nat.le_refl _)]
    exact h
  | succ r ih =>
    rintro i N _ _ _ h1 h2 rfl rfl rfl
    obtain ⟨N, rfl⟩ := succ_of h2
    have hi := lt_of_add h1
    refine op (rng0 hi) ?_
    have bd := nowAt_bd zs (i + 1)
    obtain ⟨zi, nd, mo, d, y, hh, mi, s, H, DO⟩ := let_num (W := W) (Z := zs.getD i 0) (N := nowAt zs (i + 1)) (i := i) (Int.le_trans (Int.le_add_of_nonneg_right (Int.natCast_nonneg _)) bd.1) (Int.le_trans bd.2 (Int.le_trans (Int.add_le_add_left (Int.mul_le_mul_of_nonneg_left (Int.ofNat_le.mpr (Nat.le_trans hi hm)) (by decide)) _) (by decide : (864000 : Int) + 90000 * ((5 : Nat) : Int) ≤ 2000000)))
    refine let_ok (n := n) (N := nowAt zs (i + 1)) (Z := zs.getD i 0) (p := row.getD i (0, 0)) hm hi hzl hrl (getD_some (hzl ▸ hi)) (getD_some (hrl ▸ hi)) rfl H DO (Nat.le_trans (List.length_take_le' ..) (by rw [keyed_len, letters_len]; exact Nat.le_trans hm (by decide))) ?_
    intro loc' hs J
    exact goT (Cm := [Cr, Cq, zs.map dint, row.map pr, _]) rfl (closed_cons c1 (closed_cons c2 (closed_cons (cl_ints _) (closed_cons (pr_closed _) (closed_cons (keyed_take hi ▸ fun d hd => cl_keyed _ d (List.mem_of_mem_take hd)) closed_nil))))) hs (ih (i + 1) N _ _ _ (add_succ_of h1) (Nat.lt_of_succ_lt_succ h2) rfl rfl (congrArg (fun l => [Cr, Cq, zs.map dint, row.map pr, l]) (keyed_take hi)))
end
section
open PySem PySem.W PySem.Calls PyProof.Rows PySem.SeqAt
set_option maxHeartbeats 400000
variable {T : Tab} {n : Nat} {loc loc' : Loc} {C C' : Cs} {k : KE} {kx : KX}

/-- where a binary search ends -/
theorem bs_inv {lt : Nat → Bool} {n : Nat} (mono : ∀ i j, i ≤ j → j < n → lt i = true → lt j = true) : ∀ fu lo hi, hi - lo ≤ fu → hi ≤ n → (∀ i, i < lo → lt i = false) → (∀ i, hi ≤ i → i < n → lt i = true) →
    (∀ i, i < bsR lt fu lo hi → lt i = false) ∧ (∀ i, bsR lt fu lo hi ≤ i → i < n → lt i = true) := by
  intro fu
  induction fu with
  | zero => exact fun lo hi h1 h2 h3 h4 => ⟨h3, fun i q => h4 i (Nat.le_trans (Nat.le_of_sub_eq_zero (Nat.le_zero.mp h1)) q)⟩
  | succ fu ih =>
    intro lo hi h1 h2 h3 h4
    unfold bsR
    by_cases c : lo < hi
    · rw [if_pos c]
      have hm := mid_lt c
      by_cases c2 : lt ((lo + hi) / 2) = true
      · rw [if_pos c2]
        exact ih _ _ (mid_l c h1) (Nat.le_trans (Nat.le_of_lt hm) h2) h3 fun i q1 q2 => mono _ _ q1 q2 c2
      · rw [if_neg c2]
        exact ih _ _ (mid_r c h1) h2 (fun i q => Bool.eq_false_iff.mpr fun e => c2 (mono i _ (Nat.le_of_lt_succ q) (Nat.lt_of_lt_of_le hm h2) e)) h4
    · rw [if_neg c]
      exact ⟨h3, fun i q => h4 i (Nat.le_trans (Nat.le_of_not_lt c) q)⟩
noncomputable def posB {α : Type} (q : α → Bool) (d : α) (l : List α) : Nat := bsR (fun i => q (l.getD i d)) l.length 0 l.length
theorem getD_at {α : Type} {l : List α} {i : Nat} {d : α} (h : i < l.length) : l.getD i d = l[i] := by
  rw [List.getD_eq_getElem?_getD, List.getElem?_eq_getElem h]; rfl
theorem bs_split {α : Type} {q : α → Bool} {l : List α} {d : α} (mono : l.Pairwise fun a b => q a = true → q b = true) : (∀ a ∈ l.take (posB q d l), q a = false) ∧ ∀ a ∈ l.drop (posB q d l), q a = true := by
  have h := bs_inv (lt := fun i => q (l.getD i d)) (n := l.length) (fun i j h1 h2 => by
    rcases Nat.eq_or_lt_of_le h1 with rfl | h3
    · exact id
    · rw [getD_at h2, getD_at (Nat.lt_trans h3 h2)]
      exact List.pairwise_iff_getElem.mp mono i j _ h2 h3) l.length 0 l.length (Nat.sub_le _ _) (Nat.le_refl _) (fun i h => absurd h (Nat.not_lt_zero i)) (fun i h1 h2 => absurd h2 (Nat.not_lt.mpr h1))
  refine ⟨fun a ha => ?_, fun a ha => ?_⟩
  · obtain ⟨i, hi, e⟩ := List.mem_take_iff_getElem.mp ha
    have hl := Nat.lt_of_lt_of_le hi (Nat.min_le_right _ _)
    have := h.1 i (Nat.lt_of_lt_of_le hi (Nat.min_le_left _ _))
    rw [getD_at hl, e] at this
    exact this
  · obtain ⟨i, hi, e⟩ := List.mem_drop_iff_getElem.mp ha
    have hi : posB q d l + i < l.length := Nat.add_comm i (posB q d l) ▸ hi
    have := h.2 (posB q d l + i) (Nat.le_add_right _ _) hi
    rw [getD_at hi, e] at this
    exact this
theorem ins_pw {α : Type} {R : α → α → Prop} {q : α → Bool} {l : List α} {d x : α} (h : l.Pairwise R) (mono : ∀ a b, R a b → q a = true → q b = true) (tr : ∀ a b, R a x → R x b → R a b) (hf : ∀ a ∈ l, q a = false → R a x) (ht : ∀ a ∈ l, q a = true → R x a) :
    (l.take (posB q d l) ++ x :: l.drop (posB q d l)).Pairwise R := by
  have s := bs_split (d := d) (h.imp fun {a b} r => mono a b r)
  have h1 : ∀ a ∈ l.take (posB q d l), R a x := fun a ha => hf a (List.mem_of_mem_take ha) (s.1 a ha)
  have h2 : ∀ a ∈ l.drop (posB q d l), R x a := fun a ha => ht a (List.mem_of_mem_drop ha) (s.2 a ha)
  refine List.pairwise_append.mpr ⟨h.sublist (List.take_sublist _ _), List.pairwise_cons.mpr ⟨h2, h.sublist (List.drop_sublist _ _)⟩, fun a ha b hb => ?_⟩
  rcases List.mem_cons.mp hb with rfl | hb
  · exact h1 a ha
  · exact tr a b (h1 a ha) (h2 b hb)
abbrev Lt := Int × List At
noncomputable def posK (l : List Lt) (x : Lt) : Nat := posB (fun y : Lt => decide (x.1 < y.1)) (0, []) l
noncomputable def insK (l : List Lt) (x : Lt) : List Lt := l.take (posK l x) ++ x :: l.drop (posK l x)
theorem insK_keyed (l : List Lt) (x : Lt) : insAt (keyed l) (rightK l x.1) (.tup (.int x.1 :: x.2)) = keyed (insK l x) := by
  show (keyed l).take (posK l x) ++ (.tup (.int x.1 :: x.2)) :: (keyed l).drop (posK l x) = _
  unfold insK keyed
  rw [List.map_append, List.map_take, List.map_cons, List.map_drop]
theorem ins_perm {α : Type} (l : List α) (x : α) (p : Nat) : (l.take p ++ x :: l.drop p).Perm (x :: l) := by
  refine List.perm_middle.trans ?_
  rw [List.take_append_drop]
theorem insK_sorted {l : List Lt} {x : Lt} (h : l.Pairwise fun a b => a.1 < b.1) (hx : ∀ a ∈ l, a.1 ≠ x.1) : (insK l x).Pairwise fun a b => a.1 < b.1 :=
  ins_pw h (fun a b r e => decide_eq_true (Int.lt_trans (of_decide_eq_true e) r)) (fun _ _ => Int.lt_trans)
    (fun a ha e => Int.lt_iff_le_and_ne.mpr ⟨Int.not_lt.mp (of_decide_eq_false e), hx a ha⟩) fun a _ e => of_decide_eq_true e
theorem perm_erase {α : Type} {l : List α} {p : Nat} (h : p < l.length) : (l[p] :: l.eraseIdx p).Perm l := by
  have e : l = l.take p ++ l[p] :: l.drop (p + 1) := by rw [← List.drop_eq_getElem_cons h, List.take_append_drop]
  have e2 : l.eraseIdx p = l.take p ++ l.drop (p + 1) := List.eraseIdx_eq_take_drop_succ ..
  rw [e2]
  conv => rhs; rw [e]
  exact List.perm_middle.symm
theorem keyed_erase (l : List Lt) (p : Nat) : (keyed l).eraseIdx p = keyed (l.eraseIdx p) := by
  unfold keyed
  rw [List.eraseIdx_eq_take_drop_succ, List.eraseIdx_eq_take_drop_succ, List.map_append, List.map_take, List.map_drop]
end
section
open PySem PySem.W PySem.Calls PyProof.Rows PySem.SeqAt
set_option maxHeartbeats 400000
variable {T : Tab} {n : Nat} {loc loc' : Loc} {C C' : Cs} {k : KE} {kx : KX}

noncomputable abbrev bodyC := forOf (lit21t.1.drop 10)
theorem erase_len {α : Type} {l : List α} {p r : Nat} (h : p < l.length) (e : l.length = r + 1) : (l.eraseIdx p).length = r := by
  rw [List.length_eraseIdx_of_lt h, e]; rfl
structure OneL (ltr left line : List Lt) (p r : Nat) (x : Lt) (left' line' : List Lt) : Prop where
  here : (keyed left)[p]? = some (.tup (.int x.1 :: x.2))
  er : (keyed left).eraseIdx p = keyed left'
  ll : left'.length = r
  perm : (line' ++ left').Perm ltr
  pw : line'.Pairwise fun a b => a.1 < b.1
  x2 : x.2.length < 100
  l2 : ∀ y ∈ line, y.2.length < 100
  len : line.length + left.length = ltr.length
  ins : insAt (keyed line) (rightK line x.1) (.tup (.int x.1 :: x.2)) = keyed line'
theorem one_letter {ltr left line : List Lt} {p r : Nat} (hpl : p < left.length) (e3 : left.length = r + 1) (e4 : (line ++ left).Perm ltr) (e5 : line.Pairwise fun a b => a.1 < b.1) (hsort : ltr.Pairwise fun a b => a.1 < b.1) (hs2 : ∀ x ∈ ltr, x.2.length < 100) :
    ∃ x left' line', OneL ltr left line p r x left' line' := by
  have hperm : (line ++ left[p] :: left.eraseIdx p).Perm ltr := (List.Perm.append_left line (perm_erase hpl)).trans e4
  have hd2 : (line ++ left[p] :: left.eraseIdx p).Pairwise fun a b => a.1 ≠ b.1 := (hsort.imp fun h => Int.ne_of_lt h).perm hperm.symm (fun h => Ne.symm h)
  have hne : ∀ a ∈ line, a.1 ≠ left[p].1 := fun a ha => (List.pairwise_append.mp hd2).2.2 a ha _ (List.mem_cons_self ..)
  exact ⟨left[p], left.eraseIdx p, insK line left[p], by rw [keyed, List.getElem?_map, List.getElem?_eq_getElem hpl]; rfl, keyed_erase left p, erase_len hpl e3,
    (((ins_perm line left[p] _).append_right _).trans List.perm_middle.symm).trans hperm, insK_sorted e5 hne, hs2 _ (e4.subset (List.mem_append_right _ (List.getElem_mem hpl))),
    fun x hx => hs2 x (e4.subset (List.mem_append_left _ hx)), List.length_append.symm.trans e4.length_eq, insK_keyed line left[p]⟩
theorem forC_ok {S : List At} {W : Int} {m : Nat} {zs : List Int} {row : List Pr} {Cr Cq : List D} {nw : Option D} {ltr : List Lt} (hnw : ∀ d, nw = some d → closedD 7 d) (hm : m ≤ 5) (hzl : zs.length = m) (hll : ltr.length = m) (hs2 : ∀ x ∈ ltr, x.2.length < 100) (hsort : ltr.Pairwise fun a b => a.1 < b.1)
    (c1 : ∀ d ∈ Cr, closedD 7 d) (c2 : ∀ d ∈ Cq, closedD 7 d) (h : kx .next (some (.arg S) :: some (dint ((m : Int) + 1)) :: some (.lst 1) :: some (dint W) :: some (.lst 2) :: none :: some (.lst 3) :: nw :: some (.lst 4) :: none :: none :: none :: none :: none :: none :: none :: none :: none :: some (.lst 5) :: some (.lst 6) :: List.replicate 15 none) [Cr, Cq, zs.map dint, row.map pr, keyed ltr, keyed [], keyed ltr]) :
    ∀ (r i N : Nat) (left line : List Lt) (C1 : Cs), C1 = [Cr, Cq, zs.map dint, row.map pr, keyed ltr, keyed left, keyed line] → i + r = m → r < N → left.length = r → (line ++ left).Perm ltr → (line.Pairwise fun a b => a.1 < b.1) →
      forL (Xs TT (n + 40)) 7 [20] (.d (.lst 2)) bodyC kx N i (some (.arg S) :: some (dint ((m : Int) + 1)) :: some (.lst 1) :: some (dint W) :: some (.lst 2) :: none :: some (.lst 3) :: nw :: some (.lst 4) :: none :: none :: none :: none :: none :: none :: none :: none :: none :: some (.lst 5) :: some (.lst 6) :: List.replicate 15 none) C1 := by
  intro r
  induction r with
  | zero =>
    rintro i N left line _ rfl h1 h2 e3 e4 e5
    obtain ⟨N, rfl⟩ := succ_of h2
    obtain rfl : left = [] := List.length_eq_zero_iff.mp e3
    rw [List.append_nil] at e4
    have e := List.Perm.eq_of_pairwise (le := fun a b : Lt => a.1 < b.1) (fun a b _ _ q1 q2 => absurd q1 (Int.lt_asymm q2)) e5 hsort e4
    subst e
    refine op (congrArg some (List.getElem?_eq_none (l := zs.map dint) (by rw [List.length_map, hzl]; exact Nat.le_of_eq h1.symm))) ?_
    exact h
  | succ r ih =>
    rintro i N left line _ rfl h1 h2 e3 e4 e5
    obtain ⟨N, rfl⟩ := succ_of h2
    have hi := lt_of_add h1
    have hz : (zs.map dint)[i]? = some (dint (zs.getD i 0)) := by rw [List.getElem?_map, getD_some (a := (0 : Int)) (hzl ▸ hi)]; rfl
    generalize zs.getD i 0 = Z at hz
    refine op (congrArg some hz) ?_
    have kl : (keyed left).length = r + 1 := (keyed_len left).trans e3
    have hr5 : r + 1 ≤ 5 := Nat.le_trans (Nat.le_trans (Nat.le_add_left _ _) (Nat.le_of_eq h1)) hm
    refine wn_lt (by rw [kl]; exact Nat.lt_of_le_of_lt hr5 (by decide)) ?_
    have kz : (((keyed left).length : Nat) : Int) = ((r + 1 : Nat) : Int) := congrArg _ kl
    refine wn (dv (kz ▸ Int.ofNat_lt.mpr (Nat.succ_pos r)) (kz ▸ Int.lt_of_le_of_lt (Int.ofNat_le.mpr hr5) (by decide))) ?_
    obtain ⟨p, hp, hpl⟩ := mod_nat (Z / Int.ofNat 17280000) (keyed left).length (kl ▸ Nat.succ_pos r)
    rw [kl] at hpl
    obtain ⟨x, left', line', o⟩ := one_letter (p := p) (e3 ▸ hpl) e3 e4 e5 hsort hs2
    have hpt : (Z / Int.ofNat 17280000 % (((keyed left).length : Nat) : Int)).toNat = p := congrArg Int.toNat hp
    refine op ((congrArg (fun j => (keyed left)[j]?) hpt).trans o.here) ?_
    refine And.intro ⟨hp ▸ Int.natCast_nonneg p, by rw [kl]; exact Nat.lt_of_le_of_lt hr5 (by decide)⟩ ?_
    refine Or.inr (Exists.intro 6 (Exists.intro x.1 (Exists.intro x.2 (Exists.intro line (Exists.intro (keyed line') (And.intro rfl (And.intro rfl (And.intro o.x2 (And.intro rfl (And.intro o.l2 (And.intro (Nat.lt_of_le_of_lt (o.len.trans hll ▸ Nat.le_add_right _ _ : line.length ≤ m) (Nat.lt_of_le_of_lt hm (by decide))) (And.intro o.ins ?_))))))))))))
    exact goT (Cm := [Cr, Cq, zs.map dint, row.map pr, keyed ltr, _, keyed line']) (J := []) rfl (closed_cons c1 (closed_cons c2 (closed_cons (cl_ints _) (closed_cons (pr_closed _) (closed_cons (cl_keyed _) (closed_cons ((congrArg (keyed left).eraseIdx hpt).trans o.er ▸ cl_keyed _) (closed_cons (cl_keyed _) closed_nil)))))))
      (.keep clo_arg (.keep clo_at (.keep (clo_lst (by decide)) (.keep clo_at (.keep (clo_lst (by decide)) (.keep clo_none (.keep (clo_lst (by decide)) (.keep hnw (.keep (clo_lst (by decide)) (.keep clo_none (.keep clo_none (.keep clo_none (.keep clo_none (.keep clo_none (.keep clo_none (.keep clo_none (.keep clo_none (.keep clo_none (.keep (clo_lst (by decide)) (.keep (clo_lst (by decide)) (.drop .tail))))))))))))))))))))) (ih (i + 1) N left' line' _ (congrArg (fun l => [Cr, Cq, zs.map dint, row.map pr, keyed ltr, l, keyed line']) ((congrArg (keyed left).eraseIdx hpt).trans o.er)) (add_succ_of h1) (Nat.lt_of_succ_lt_succ h2) o.ll o.perm o.pw)
end
section
open PySem PySem.W PySem.Calls PyProof.Rows PySem.SeqAt
set_option maxHeartbeats 400000
variable {T : Tab} {n : Nat} {loc loc' : Loc} {C C' : Cs} {k : KE} {kx : KX}

theorem ds_cons {a b : D} {l r : List D} (h1 : dEq a b = some true) (h2 : dsEq l r = some true) : dsEq (a :: l) (b :: r) = some true := by
  show (dEq a b).bind (fun x => (dsEq l r).map fun y => x && y) = some true
  rw [h1, h2]; rfl
theorem dsEq_keyed : ∀ {l : List Lt}, (∀ x ∈ l, ∃ js : List Int, x.2 = js.map At.int ∧ js.length = 2) → dsEq (keyed l) (keyed l) = some true
  | [], _ => rfl
  | x :: l, h => ds_cons (by
    obtain ⟨js, e, _⟩ := h x (.head _)
    show atsEq (.int x.1 :: x.2) (.int x.1 :: x.2) = some true
    rw [e]; exact ats_eq (l := x.1 :: js) rfl) (dsEq_keyed (l := l) fun y hy => h y (.tail _ hy))
theorem letters_sorted (m : Nat) (zs : List Int) (row : List Pr) : (letters m zs row).Pairwise fun a b => a.1 < b.1 :=
  List.pairwise_map.mpr (List.pairwise_lt_range.imp fun {a b} h => Int.add_lt_add_right (nowAt_lt zs (Nat.succ_lt_succ h)) 86400)
theorem letters_two {m : Nat} {zs : List Int} {row : List Pr} : ∀ x ∈ letters m zs row, ∃ js : List Int, x.2 = js.map At.int ∧ js.length = 2 := by
  intro x hx
  obtain ⟨i, _, rfl⟩ := List.mem_map.mp hx
  exact ⟨[(row.getD i (0, 0)).1, (row.getD i (0, 0)).2], rfl, rfl⟩
theorem segB {S : List At} {W : Int} {m : Nat} {zs : List Int} {row : List Pr} {Cr Cq : List D} (hm : m ≤ 5) (hzl : zs.length = m) (hrl : row.length = m) (c1 : ∀ k, ∀ d ∈ Cr, closedD k d) (c2 : ∀ k, ∀ d ∈ Cq, closedD k d)
    (h : Xs TT 388 (lit21t.1.drop 12) (some (.arg S) :: some (dint ((m : Int) + 1)) :: some (.lst 1) :: some (dint W) :: some (.lst 2) :: none :: some (.lst 3) :: some (dint (nowAt zs m)) :: some (.lst 4) :: none :: none :: none :: none :: none :: none :: none :: none :: none :: some (.lst 5) :: some (.lst 6) :: List.replicate 15 none) [Cr, Cq, zs.map dint, row.map pr, keyed (letters m zs row), keyed [], keyed (letters m zs row)] kx) :
    Xs TT 393 (lit21t.1.drop 7) (some (.arg S) :: some (dint ((m : Int) + 1)) :: some (.lst 1) :: some (dint W) :: some (.lst 2) :: none :: some (.lst 3) :: some (dint (Int.ofNat 864000)) :: some (.lst 4) :: List.replicate 26 none) [Cr, Cq, zs.map dint, row.map pr, []] kx := by
  have hll := letters_len m zs row
  have em : ((m : Int) + 1 - Int.ofNat 1) = (m : Int) := Int.add_sub_cancel (m : Int) 1
  refine And.intro ?_ ?_
  · rw [em]; exact m40 hm
  refine Exists.intro (m + 1) ?_
  refine forB_ok (n := 291) hm hzl hrl (c1 5) (c2 5) ?_ m 0 (m + 1) _ _ _ (Nat.zero_add _) (Nat.lt_succ_self _) em rfl rfl
  refine sl_any (l := keyed (letters m zs row)) rfl rfl rfl (line9 (by rw [keyed_len, hll]; exact Nat.le_trans hm (by decide))) (pick_full _) ?_
  refine Exists.intro (m + 1) ?_
  refine forC_ok (n := 348) (nw := some (dint (nowAt zs m))) (ltr := letters m zs row) clo_at hm hzl hll (fun x hx => ?_) (letters_sorted m zs row) (c1 7) (c2 7) ?_ m 0 (m + 1) (letters m zs row) [] _ rfl (Nat.zero_add _) (Nat.lt_succ_self _) hll (List.Perm.refl _) List.Pairwise.nil
  · obtain ⟨js, e, e2⟩ := letters_two x hx
    rw [e, List.length_map, e2]; decide
  refine op (dsEq_keyed letters_two) ?_
  exact h
end
section
open PySem PySem.W PySem.Calls PyProof.Rows PySem.SeqAt
set_option maxHeartbeats 400000
variable {T : Tab} {n : Nat} {loc loc' : Loc} {C C' : Cs} {k : KE} {kx : KX}

/-- a spot's place -/
noncomputable def plc (W : Int) (s : Nat) : Nat := 10 * s + (W / 10 ^ s % 10).toNat
theorem dig_lt (W : Int) (s : Nat) : (W / 10 ^ s % 10).toNat < 10 := by
  obtain ⟨k, e, h⟩ := mod_nat (W / 10 ^ s) 10 (by decide)
  rw [show W / 10 ^ s % 10 = (k : Int) from e]; exact h
theorem plc_bd (W : Int) (s : Nat) : 10 * s ≤ plc W s ∧ plc W s < 10 * s + 10 := ⟨Nat.le_add_right _ _, Nat.add_lt_add_left (dig_lt W s) _⟩
theorem plc_64 {W : Int} {s : Nat} (h : s < 6) : plc W s < 64 := Nat.lt_of_lt_of_le (plc_bd W s).2 (Nat.le_trans (Nat.add_le_add_right (Nat.mul_le_mul_left 10 (Nat.le_of_lt_succ h)) 10) (by decide))
theorem plc_int (W : Int) (s : Nat) : Int.ofNat 10 * (s : Int) + W / 10 ^ (s : Int).toNat % Int.ofNat 10 = (plc W s : Int) := by
  obtain ⟨k, e, h⟩ := mod_nat (W / 10 ^ s) 10 (by decide)
  have e : W / 10 ^ s % 10 = (k : Int) := e
  show (10 : Int) * (s : Int) + W / 10 ^ s % 10 = _
  unfold plc
  rw [e]; rfl
noncomputable def plcL (W : Int) (N : Nat) : List D := (List.range N).map fun s => dint (plc W s : Int)
noncomputable def hueL (W : Int) (N : Nat) : List D := (List.range N).map fun s => dflt (f64 (plc W s))
theorem rng_at {f : Nat → D} {N s : Nat} (h : s < N) : ((List.range N).map f)[s]? = some (f s) := by
  rw [List.getElem?_map, List.getElem?_eq_getElem (by rw [List.length_range]; exact h), List.getElem_range]; rfl
theorem rng_len {f : Nat → D} {N : Nat} : ((List.range N).map f).length = N := (List.length_map _).trans List.length_range
theorem rng_cl {k : Nat} {f : Nat → D} {N : Nat} (h : ∀ s, s < N → closedD k (f s)) : ∀ d ∈ (List.range N).map f, closedD k d := fun d hd => by
  obtain ⟨x, hx, rfl⟩ := List.mem_map.mp hd; exact h x (List.mem_range.mp hx)
theorem plcL_at {W : Int} {N s : Nat} (h : s < N) : (plcL W N)[s]? = some (dint (plc W s : Int)) := rng_at h
theorem hueL_at {W : Int} {N s : Nat} (h : s < N) : (hueL W N)[s]? = some (dflt (f64 (plc W s))) := rng_at h
theorem plcL_len (W : Int) (N : Nat) : (plcL W N).length = N := rng_len
theorem hueL_len (W : Int) (N : Nat) : (hueL W N).length = N := rng_len
theorem plcL_cl {k : Nat} {W : Int} {N : Nat} : ∀ d ∈ plcL W N, closedD k d := rng_cl fun _ _ => trivial
theorem hueL_cl {k : Nat} {W : Int} {N : Nat} : ∀ d ∈ hueL W N, closedD k d := rng_cl fun _ _ => trivial
theorem take_cl {k i : Nat} {l : List D} (h : ∀ d ∈ l, closedD k d) : ∀ d ∈ l.take i, closedD k d := fun d hd => h d (List.mem_of_mem_take hd)
theorem take_ble {l : List D} {i n : Nat} (h : l.length = n) (hn : n ≤ 1000) : (l.take i).length ≤ sizeLine := line9 (Nat.le_trans (List.length_take_le' ..) (h ▸ hn))
theorem l_cons {α : Type} {f : α → α → Option Bool} {a b : α} {l r : List α} (h1 : f a b = some true) (h2 : lEq f l r = some true) : lEq f (a :: l) (b :: r) = some true := by
  show (f a b).bind (fun x => (lEq f l r).map fun y => x && y) = some true
  rw [h1, h2]; rfl
theorem at_flt {a : UInt64} (h : Float64.isNaN a = false) : atEq (.flt a) (.flt a) = some true := by
  show (match Float64.isNaN a with | true => none | false => some (feq a a)) = some true
  rw [h, feq_self h]
theorem ats_flt3 {a b c : UInt64} (h1 : Float64.isNaN a = false) (h2 : Float64.isNaN b = false) (h3 : Float64.isNaN c = false) : atsEq [.flt a, .flt b, .flt c] [.flt a, .flt b, .flt c] = some true :=
  l_cons (at_flt h1) (l_cons (at_flt h2) (l_cons (at_flt h3) rfl))
noncomputable abbrev bodyD := forOf (lit21t.1.drop 14)
theorem pow_6 : ∀ j : Nat, j < 6 → divr ((10 : Int) ^ j) = true := by decide +kernel
theorem cells9 {a0 a1 a2 a3 a4 a5 a6 a b a' b' : List D} (e1 : a = a') (e2 : b = b') : [a0, a1, a2, a3, a4, a5, a6, a, b] = [a0, a1, a2, a3, a4, a5, a6, a', b'] := by subst e1; subst e2; rfl
structure SpotOk (i : Nat) : Prop where
  q_inf : Float64.isInf (qrt i) = false
  l_inf : Float64.isInf (fdivII (i : Int) 8) = false
  o_inf : (!Float64.isInf (Float64.ofInt ((i % 2 : Nat) : Int))) = true
  q_nan : Float64.isNaN (qrt i) = false
  l_nan : Float64.isNaN (lvl i) = false
theorem spot_ok {i : Nat} (h : i < 6) : SpotOk i := by
  have o1 := and_iff (allN_all other_tab i h)
  have o2 := and_iff o1.2
  have o3 := and_iff o2.2
  have o4 := and_iff o3.2
  exact ⟨not_t o3.1, not_t o1.1, o4.2, not_t o4.1, not_t o2.1⟩
theorem forD_ok {S : List At} {W : Int} {m : Nat} {nw : Option D} {a0 a1 a2 a3 a4 a5 a6 : List D} (hm : m ≤ 5) (hnw : ∀ d, nw = some d → closedD 9 d) (hb : Closed 9 [a0, a1, a2, a3, a4, a5, a6])
    (h : kx .next (some (.arg S) :: some (dint ((m : Int) + 1)) :: some (.lst 1) :: some (dint W) :: some (.lst 2) :: none :: some (.lst 3) :: nw :: some (.lst 4) :: none :: none :: none :: none :: none :: none :: none :: none :: none :: some (.lst 5) :: some (.lst 6) :: none :: some (.lst 7) :: some (.lst 8) :: List.replicate 12 none) [a0, a1, a2, a3, a4, a5, a6, plcL W (m + 1), hueL W (m + 1)]) :
    ∀ (r i N : Nat) (z : Int) (C1 : Cs), i + r = m + 1 → r < N → z = ((m + 1 : Nat) : Int) → C1 = [a0, a1, a2, a3, a4, a5, a6, (plcL W (m + 1)).take i, (hueL W (m + 1)).take i] →
      forL (Xs TT (n + 50)) 9 [23] (.rng 0 z) bodyD kx N i (some (.arg S) :: some (dint ((m : Int) + 1)) :: some (.lst 1) :: some (dint W) :: some (.lst 2) :: none :: some (.lst 3) :: nw :: some (.lst 4) :: none :: none :: none :: none :: none :: none :: none :: none :: none :: some (.lst 5) :: some (.lst 6) :: none :: some (.lst 7) :: some (.lst 8) :: List.replicate 12 none) C1 := by
  intro r
  induction r with
  | zero =>
    rintro i N _ _ h1 h2 rfl rfl
    obtain ⟨N, rfl⟩ := succ_of h2
    obtain rfl : i = m + 1 := h1
    refine op (rngE0 (Nat.le_refl _)) ?_
    rw [List.take_of_length_le (Nat.le_of_eq (plcL_len _ _)), List.take_of_length_le (Nat.le_of_eq (hueL_len _ _))]
    exact h
  | succ r ih =>
    rintro i N _ _ h1 h2 rfl rfl
    obtain ⟨N, rfl⟩ := succ_of h2
    have hi := lt_of_add h1
    have hi6 : i < 6 := Nat.lt_of_lt_of_le hi (Nat.succ_le_succ hm)
    refine op (rng0 hi) ?_
    refine And.intro rfl (And.intro ⟨Int.natCast_nonneg i, Int.lt_of_lt_of_le (Int.ofNat_lt.mpr hi6) (by decide)⟩ ?_)
    refine wn (pow_6 i hi6) ?_
    refine wn_le (take_ble (plcL_len _ _) (Nat.le_trans (Nat.succ_le_succ hm) (by decide))) ?_
    have et : (plcL W (m + 1)).take i ++ [dint (Int.ofNat 10 * (i : Int) + W / 10 ^ (i : Int).toNat % Int.ofNat 10)] = (plcL W (m + 1)).take (i + 1) := (congrArg (fun z => (plcL W (m + 1)).take i ++ [dint z]) (plc_int W i)).trans (take_next (plcL_at hi))
    have o := spot_ok hi6
    refine sq (j := i) (d := dint (plc W i : Int)) rfl ((congrArg (·[i]?) et).trans ((List.getElem?_take_of_lt (Nat.lt_succ_self i)).trans (plcL_at hi))) ?_ ?_
    · rw [et]; exact Nat.lt_of_le_of_lt (take_ble (plcL_len _ _) (Nat.le_trans (Nat.succ_le_succ hm) (by decide))) (by decide)
    refine And.intro ⟨by decide, inf64 (Nat.lt_trans (plc_64 hi6) (by decide))⟩ ?_
    refine And.intro ⟨by decide, o.q_inf⟩ ?_
    refine And.intro ⟨by decide, o.l_inf⟩ ?_
    refine wn (o.o_inf) ?_
    refine Exists.intro _ (Exists.intro _ (Exists.intro _ (Exists.intro (f64 (plc W i), qrt i, lvl i) (And.intro rfl (And.intro rfl (And.intro (ownAll hi6 (dig_lt W i)) ?_))))))
    refine op (ats_flt3 (nan64 (Nat.lt_trans (plc_64 (W := W) hi6) (by decide))) o.q_nan o.l_nan) ?_
    refine wn_le (take_ble (hueL_len _ _) (Nat.le_trans (Nat.succ_le_succ hm) (by decide))) ?_
    have eh : (hueL W (m + 1)).take i ++ [dflt (f64 (plc W i))] = (hueL W (m + 1)).take (i + 1) := take_next (hueL_at hi)
    exact goT (Cm := [a0, a1, a2, a3, a4, a5, a6, _, _]) (J := []) rfl (closed_app (C := [a0, a1, a2, a3, a4, a5, a6]) hb (closed_cons (et ▸ take_cl plcL_cl) (closed_cons (eh ▸ take_cl hueL_cl) closed_nil)))
      (.keep clo_arg (.keep clo_at (.keep (clo_lst (by decide)) (.keep clo_at (.keep (clo_lst (by decide)) (.keep clo_none (.keep (clo_lst (by decide)) (.keep hnw (.keep (clo_lst (by decide)) (.keep clo_none (.keep clo_none (.keep clo_none (.keep clo_none (.keep clo_none (.keep clo_none (.keep clo_none (.keep clo_none (.keep clo_none (.keep (clo_lst (by decide)) (.keep (clo_lst (by decide)) (.keep clo_none (.keep (clo_lst (by decide)) (.keep (clo_lst (by decide)) (.drop (.drop (.drop .tail)))))))))))))))))))))))))) (ih (i + 1) N _ _ (add_succ_of h1) (Nat.lt_of_succ_lt_succ h2) rfl (cells9 et eh))
end
section
open PySem PySem.W PySem.Calls PyProof.Rows PySem.SeqAt
set_option maxHeartbeats 400000
variable {T : Tab} {n : Nat} {loc loc' : Loc} {C C' : Cs} {k : KE} {kx : KX}

noncomputable def refs (N : Nat) : List D := (List.range N).map fun q => .lst (10 + q)
theorem refs_at {N s : Nat} (h : s < N) : (refs N)[s]? = some (.lst (10 + s)) := rng_at h
theorem refs_len (N : Nat) : (refs N).length = N := rng_len
theorem rep_succ {P : Cs} {l : List D} {i : Nat} : (P ++ [l] ++ List.replicate i []) ++ [[]] = P ++ [l] ++ List.replicate (i + 1) [] := by
  rw [List.append_assoc, List.replicate_succ']
theorem reach_ok {fvs : Loc} {W : Int} {N0 : Nat} {a0 a1 a2 a3 a4 a5 a6 : List D} {pl : List D} (hN : N0 ≤ 6) (hk : k (.lst 9) ([a0, a1, a2, a3, a4, a5, a6, pl, hueL W N0, refs N0] ++ List.replicate N0 [])) :
    ∀ (r i N : Nat) (C1 : Cs), i + r = N0 → r < N → C1 = [a0, a1, a2, a3, a4, a5, a6, pl, hueL W N0, (refs N0).take i] ++ List.replicate i [] →
    compL (EF T (n + 20)) (compOf (lit21t.1.drop 15)) [] fvs (.d (.lst 8)) 9 k N i C1 := by
  intro r
  induction r with
  | zero =>
    rintro i N _ h1 h2 rfl
    obtain ⟨N, rfl⟩ := succ_of h2
    obtain rfl : i = N0 := h1
    refine op (congrArg some (List.getElem?_eq_none (Nat.le_of_eq (hueL_len W i)))) ?_
    rw [List.take_of_length_le (Nat.le_of_eq (refs_len i))]
    exact hk
  | succ r ih =>
    rintro i N _ h1 h2 rfl
    obtain ⟨N, rfl⟩ := succ_of h2
    have hi := lt_of_add h1
    refine op (congrArg some (hueL_at hi)) ?_
    refine wn_le (take_ble (refs_len _) (Nat.le_trans hN (by decide))) ?_
    have el : ([a0, a1, a2, a3, a4, a5, a6, pl, hueL W N0, (refs N0).take i] ++ List.replicate i [] : Cs).length = 10 + i := by rw [List.length_append, List.length_replicate]; rfl
    exact ih (i + 1) N _ (add_succ_of h1) (Nat.lt_of_succ_lt_succ h2) ((congrArg (fun (j : Nat) => ([a0, a1, a2, a3, a4, a5, a6, pl, hueL W N0, (refs N0).take i ++ [D.lst j]] ++ List.replicate i [] ++ [[]] : Cs)) el).trans (rep_succ (P := [a0, a1, a2, a3, a4, a5, a6, pl, hueL W N0]) |>.trans (congrArg (fun l => [a0, a1, a2, a3, a4, a5, a6, pl, hueL W N0, l] ++ List.replicate (i + 1) []) (take_next (refs_at hi)))))
theorem m41 {m : Nat} (h : m ≤ 5) : -(2 ^ 40) < (m : Int) + 1 ∧ (m : Int) + 1 < 2 ^ 40 := ⟨Int.lt_of_lt_of_le (by decide) (Int.natCast_nonneg (m + 1)), Int.lt_of_le_of_lt (Int.ofNat_le.mpr (Nat.succ_le_succ h)) (by decide)⟩
theorem segD {S : List At} {W : Int} {m : Nat} {nw : Option D} {a0 a1 a2 a3 a4 a5 a6 : List D} (hm : m ≤ 5) (hnw : ∀ d, nw = some d → closedD 9 d) (hb : Closed 9 [a0, a1, a2, a3, a4, a5, a6])
    (h : Xs TT 383 (lit21t.1.drop 17) (some (.arg S) :: some (dint ((m : Int) + 1)) :: some (.lst 1) :: some (dint W) :: some (.lst 2) :: none :: some (.lst 3) :: nw :: some (.lst 4) :: none :: none :: none :: none :: none :: none :: none :: none :: none :: some (.lst 5) :: some (.lst 6) :: none :: some (.lst 7) :: some (.lst 8) :: none :: none :: none :: some (.lst 9) :: some (dbool true) :: List.replicate 7 none) ([a0, a1, a2, a3, a4, a5, a6, plcL W (m + 1), hueL W (m + 1), refs (m + 1)] ++ List.replicate (m + 1) []) kx) :
    Xs TT 388 (lit21t.1.drop 12) (some (.arg S) :: some (dint ((m : Int) + 1)) :: some (.lst 1) :: some (dint W) :: some (.lst 2) :: none :: some (.lst 3) :: nw :: some (.lst 4) :: none :: none :: none :: none :: none :: none :: none :: none :: none :: some (.lst 5) :: some (.lst 6) :: List.replicate 15 none) [a0, a1, a2, a3, a4, a5, a6] kx := by
  refine And.intro (m41 hm) ?_
  refine Exists.intro (m + 2) ?_
  refine forD_ok (n := 334) (W := W) hm hnw hb ?_ (m + 1) 0 (m + 2) _ _ (Nat.zero_add _) (Nat.lt_succ_self _) rfl rfl
  refine Exists.intro (m + 2) ?_
  refine reach_ok (n := 362) (T := TT) (N0 := m + 1) (Nat.succ_le_succ hm) ?_ (m + 1) 0 (m + 2) _ (Nat.zero_add _) (Nat.lt_succ_self _) rfl
  exact h
end
section
open PySem PySem.W PySem.Calls PyProof.Rows PySem.SeqAt
set_option maxHeartbeats 400000
variable {T : Tab} {n : Nat} {loc loc' : Loc} {C C' : Cs} {k : KE} {kx : KX}

theorem bsR_congr {lt lt' : Nat → Bool} {n : Nat} (h : ∀ i, i < n → lt i = lt' i) : ∀ fu lo hi, hi ≤ n → bsR lt fu lo hi = bsR lt' fu lo hi := by
  intro fu
  induction fu with
  | zero => intro lo hi _; rfl
  | succ fu ih =>
    intro lo hi hh
    unfold bsR
    by_cases c : lo < hi
    · have hm := Nat.lt_of_lt_of_le (mid_lt c) hh
      rw [if_pos c, if_pos c, h _ hm, ih _ _ (Nat.le_of_lt hm), ih _ _ hh]
    · rw [if_neg c, if_neg c]
theorem bsL_eq {lt lt' : Nat → Bool} {n : Nat} (h : ∀ i, i < n → lt i = !lt' i) : ∀ fu lo hi, hi ≤ n → bsL lt fu lo hi = bsR lt' fu lo hi := by
  intro fu
  induction fu with
  | zero => intro lo hi _; rfl
  | succ fu ih =>
    intro lo hi hh
    unfold bsL bsR
    by_cases c : lo < hi
    · have hm := Nat.lt_of_lt_of_le (mid_lt c) hh
      rw [if_pos c, if_pos c, h _ hm, ih _ _ (Nat.le_of_lt hm), ih _ _ hh]
      cases lt' ((lo + hi) / 2) with
      | true => rfl
      | false => rfl
    · rw [if_neg c, if_neg c]
/-- where a number goes, to the right of its equals; to the left -/
noncomputable def posR (l : List Nat) (x : Nat) : Nat := posB (fun y => decide (x < y)) 0 l
noncomputable def posL (l : List Nat) (x : Nat) : Nat := posB (fun y => !decide (y < x)) 0 l
noncomputable def insN (l : List Nat) (x : Nat) : List Nat := l.take (posR l x) ++ x :: l.drop (posR l x)
theorem insN_perm (l : List Nat) (x : Nat) : (insN l x).Perm (x :: l) := ins_perm l x _
theorem insN_mem {l : List Nat} {x y : Nat} : y ∈ insN l x ↔ y = x ∨ y ∈ l := (insN_perm l x).mem_iff.trans List.mem_cons
theorem insN_len (l : List Nat) (x : Nat) : (insN l x).length = l.length + 1 := (insN_perm l x).length_eq
theorem insN_sorted {l : List Nat} (hs : l.Pairwise (· ≤ ·)) (x : Nat) : (insN l x).Pairwise (· ≤ ·) :=
  ins_pw hs (fun a b r e => decide_eq_true (Nat.lt_of_lt_of_le (of_decide_eq_true e) r)) (fun _ _ => Nat.le_trans) (fun a _ e => Nat.not_lt.mp (of_decide_eq_false e)) fun a _ e => Nat.le_of_lt (of_decide_eq_true e)
theorem not_lt_iff {x y : Nat} : (!decide (y < x)) = true ↔ x ≤ y := ⟨fun e => Nat.not_lt.mp (of_decide_eq_false (not_t e)), fun h => by rw [decide_eq_false (Nat.not_lt.mpr h)]; rfl⟩
theorem posL_lt {l : List Nat} (hs : l.Pairwise (· ≤ ·)) (x : Nat) : posL l x < l.length ↔ ∃ y ∈ l, x ≤ y := by
  have s := bs_split (q := fun y => !decide (y < x)) (d := 0) (hs.imp fun {a b} r e => not_lt_iff.mpr (Nat.le_trans (not_lt_iff.mp e) r))
  refine ⟨fun h => ?_, fun ⟨y, hy, hxy⟩ => Nat.lt_of_not_le fun hle => ?_⟩
  · have hm : l[posL l x] ∈ l.drop (posL l x) := List.mem_drop_iff_getElem.mpr ⟨0, (Nat.zero_add _).symm ▸ h, rfl⟩
    exact ⟨_, List.mem_of_mem_drop hm, not_lt_iff.mp (s.2 _ hm)⟩
  · have := s.1 y (by show y ∈ l.take (posL l x); rw [List.take_of_length_le hle]; exact hy)
    rw [not_lt_iff.mpr hxy] at this
    cases this
/-- reached hues as cells -/
noncomputable def fcell (l : List Nat) : List D := (l.map f64).map dflt
theorem fcell_cl {k : Nat} (l : List Nat) : ∀ d ∈ fcell l, closedD k d := cl_flts _
theorem fcell_len (l : List Nat) : (fcell l).length = l.length := (List.length_map _).trans (List.length_map _)
theorem f64_get {l : List Nat} {i : Nat} (h : i < l.length) : (l.map f64).getD i 0 = f64 (l.getD i 0) := by
  rw [getD_at h, getD_at (by rw [List.length_map]; exact h), List.getElem_map]
theorem posR_f {l : List Nat} {x : Nat} (hl : ∀ y ∈ l, y < 64) (hx : x < 64) : rightF (l.map f64) (f64 x) = posR l x := by
  unfold rightF
  rw [List.length_map]
  exact bsR_congr (n := l.length) (fun i hi => by rw [f64_get hi, flt64 hx (hl _ (getD_mem hi))]) _ _ _ (Nat.le_refl _)
theorem posL_f {l : List Nat} {x : Nat} (hl : ∀ y ∈ l, y < 64) (hx : x < 64) : leftF (l.map f64) (f64 x) = posL l x := by
  unfold leftF
  rw [List.length_map]
  exact bsL_eq (n := l.length) (fun i hi => by rw [f64_get hi, flt64 (hl _ (getD_mem hi)) hx, Bool.not_not]) _ _ _ (Nat.le_refl _)
theorem insN_f {l : List Nat} {x : Nat} (hl : ∀ y ∈ l, y < 64) (hx : x < 64) : insAt ((l.map f64).map dflt) (rightF (l.map f64) (f64 x)) (dflt (f64 x)) = fcell (insN l x) := by
  rw [posR_f hl hx]
  unfold insAt insN fcell
  rw [List.map_append, List.map_append, List.map_cons, List.map_cons, List.map_take, List.map_take, List.map_drop, List.map_drop]
/-- how far round from a to b -/
noncomputable def dst (W : Int) (a b : Nat) : Nat := (plc W b + 64 - plc W a) % 64
theorem dst_lt (W : Int) (a b : Nat) : dst W a b < 64 := Nat.mod_lt _ (by decide)
theorem sub_64 {p q : Nat} (h : p < 64) : (q : Int) - (p : Int) + 64 = ((q + 64 - p : Nat) : Int) := by omega
theorem dst_int {W : Int} {a b : Nat} (ha : plc W a < 64) : ((plc W b : Int) - (plc W a : Int)) % Int.ofNat 64 = (dst W a b : Int) :=
  (Int.add_emod_right _ 64).symm.trans (congrArg (· % (64 : Int)) (sub_64 ha))
theorem d19 {α β : Nat} (h : β < 10) : 9 + β - α < 19 := by omega
theorem d64 {a b α β : Nat} (h : α < 10) : 55 + 10 * b + (9 + β - α) - 10 * a = 10 * b + β + 64 - (10 * a + α) := by
  obtain ⟨γ, e⟩ := Nat.le.dest (Nat.le_of_lt_succ h)
  have e1 : 9 + β - α = γ + β := by rw [← e, Nat.add_assoc, Nat.add_sub_cancel_left]
  have e2 : 10 * b + β + 64 = 55 + 10 * b + (γ + β) + α := by omega
  rw [e1, e2, Nat.add_sub_add_right]
theorem tell_dst {W : Int} {a b : Nat} (ha : a < 6) (hb : b < 6) (hne : a ≠ b) : toldF (Float64.sub (Float64.add F1 (f64 (plc W b))) (f64 (plc W a))) (qrt b) (qrt a) = some (f64 (dst W a b), qrt b, qrt a) := by
  rw [hue_sum (plc_64 hb) (plc_64 ha), Nat.add_comm 64]
  have := tellAll (o := b) (i := a) hb ha hne (d19 (α := (W / 10 ^ a % 10).toNat) (dig_lt W b))
  rw [d64 (dig_lt W a)] at this
  exact this
end
section
open PySem PySem.W PySem.Calls PyProof.Rows PySem.SeqAt
set_option maxHeartbeats 400000
variable {T : Tab} {n : Nat} {loc loc' : Loc} {C C' : Cs} {k : KE} {kx : KX}

noncomputable abbrev bodyM := forOf (lit21t.1.drop 17)
noncomputable abbrev bodyT := forOf bodyM
noncomputable abbrev bodyE := forOf (bodyM.drop 2)
noncomputable abbrev bodyG := forOf (lit21t.1.drop 18)
noncomputable abbrev bodyP := forOf bodyG
theorem ats_flt3e {a a' b c : UInt64} (e : a = a') (h1 : Float64.isNaN a = false) (h2 : Float64.isNaN b = false) (h3 : Float64.isNaN c = false) : atsEq [.flt a, .flt b, .flt c] [.flt a', .flt b, .flt c] = some true := e ▸ ats_flt3 h1 h2 h3
theorem len60 {f : Nat → D} {N : Nat} (h : N ≤ 6) : ((List.range N).map f).length < 2 ^ 60 := by rw [rng_len]; exact Nat.lt_of_le_of_lt h (by decide)
theorem turn_tail {S : List At} {W : Int} {m M a b x : Nat} {nw kv du : Option D} {g : Bool} {l : List Nat} {y z : UInt64} (hm : m ≤ 5) (hM : 9 < M) (hnw : ∀ d, nw = some d → closedD M d) (hkv : ∀ d, kv = some d → closedD M d) (ha : a < m + 1)
    (c9 : C[9]? = some (refs (m + 1))) (cl : C[10 + a]? = some (fcell l)) (hl : ∀ y ∈ l, y < 64) (hll : l.length < 100) (hx : x < 64)
    (hk : ∀ loc', SubL M loc' (some (.arg S) :: some (dint ((m : Int) + 1)) :: some (.lst 1) :: some (dint W) :: some (.lst 2) :: kv :: some (.lst 3) :: nw :: some (.lst 4) :: none :: none :: none :: none :: none :: none :: none :: none :: none :: some (.lst 5) :: some (.lst 6) :: none :: some (.lst 7) :: some (.lst 8) :: none :: none :: none :: some (.lst 9) :: some (dbool g) :: List.replicate 7 none) → kx .next loc' (C.set (10 + a) (fcell (insN l x)))) :
    Xs TT (n + 60) (bodyT.drop 4) (some (.arg S) :: some (dint ((m : Int) + 1)) :: some (.lst 1) :: some (dint W) :: some (.lst 2) :: kv :: some (.lst 3) :: nw :: some (.lst 4) :: none :: none :: none :: none :: none :: none :: none :: none :: none :: some (.lst 5) :: some (.lst 6) :: none :: some (.lst 7) :: some (.lst 8) :: none :: du :: some (.tup [.flt (f64 x), .flt y, .flt z]) :: some (.lst 9) :: some (dbool g) :: some (dint (a : Nat)) :: some (dint (b : Nat)) :: List.replicate 5 none) C kx := by
  refine op c9 ?_
  refine sq (j := a) rfl (refs_at ha) (len60 (Nat.succ_le_succ hm)) ?_
  refine Or.inl ?_
  refine (Exists.intro (10 + a) (Exists.intro (f64 x) (Exists.intro (l.map f64) (Exists.intro (fcell (insN l x)) (And.intro rfl (And.intro rfl (And.intro cl (And.intro (by rw [List.length_map]; exact Nat.lt_trans hll (by decide)) (And.intro (insN_f hl hx) ?_)))))))))
  exact hk _ (.keep clo_arg (.keep clo_at (.keep (clo_lst (Nat.lt_trans (by decide) hM)) (.keep clo_at (.keep (clo_lst (Nat.lt_trans (by decide) hM)) (.keep hkv (.keep (clo_lst (Nat.lt_trans (by decide) hM)) (.keep hnw (.keep (clo_lst (Nat.lt_trans (by decide) hM)) (.keep clo_none (.keep clo_none (.keep clo_none (.keep clo_none (.keep clo_none (.keep clo_none (.keep clo_none (.keep clo_none (.keep clo_none (.keep (clo_lst (Nat.lt_trans (by decide) hM)) (.keep (clo_lst (Nat.lt_trans (by decide) hM)) (.keep clo_none (.keep (clo_lst (Nat.lt_trans (by decide) hM)) (.keep (clo_lst (Nat.lt_trans (by decide) hM)) (.keep clo_none (.drop (.drop (.keep (clo_lst hM) (.keep clo_at (.drop (.drop .tail))))))))))))))))))))))))))))))
/-- one spot looks at the other -/
theorem turn_ok {S : List At} {W : Int} {m M a b : Nat} {nw kv : Option D} {f : Bool} {l : List Nat} (hm : m ≤ 5) (hM : 9 < M) (hnw : ∀ d, nw = some d → closedD M d) (hkv : ∀ d, kv = some d → closedD M d) (ha : a < m + 1) (hb : b < m + 1) (hne : a ≠ b)
    (c7 : C[7]? = some (plcL W (m + 1))) (c8 : C[8]? = some (hueL W (m + 1))) (c9 : C[9]? = some (refs (m + 1))) (cl : C[10 + a]? = some (fcell l)) (hl : ∀ y ∈ l, y < 64) (hll : l.length < 100)
    (hk : ∀ loc', SubL M loc' (some (.arg S) :: some (dint ((m : Int) + 1)) :: some (.lst 1) :: some (dint W) :: some (.lst 2) :: kv :: some (.lst 3) :: nw :: some (.lst 4) :: none :: none :: none :: none :: none :: none :: none :: none :: none :: some (.lst 5) :: some (.lst 6) :: none :: some (.lst 7) :: some (.lst 8) :: none :: none :: none :: some (.lst 9) :: some (dbool (f && !decide (posL l (dst W a b) < l.length))) :: List.replicate 7 none) → kx .next loc' (C.set (10 + a) (fcell (insN l (dst W a b))))) :
    Xs TT (n + 64) bodyT (some (.arg S) :: some (dint ((m : Int) + 1)) :: some (.lst 1) :: some (dint W) :: some (.lst 2) :: kv :: some (.lst 3) :: nw :: some (.lst 4) :: none :: none :: none :: none :: none :: none :: none :: none :: none :: some (.lst 5) :: some (.lst 6) :: none :: some (.lst 7) :: some (.lst 8) :: none :: none :: none :: some (.lst 9) :: some (dbool f) :: some (dint (a : Nat)) :: some (dint (b : Nat)) :: List.replicate 5 none) C kx := by
  have a6 : a < 6 := Nat.lt_of_lt_of_le ha (Nat.succ_le_succ hm)
  have b6 : b < 6 := Nat.lt_of_lt_of_le hb (Nat.succ_le_succ hm)
  have hd := dst_lt W a b
  have oa := spot_ok a6
  have ob := spot_ok b6
  have l60 : m + 1 ≤ 6 := Nat.succ_le_succ hm
  have ed : fdivII (((plc W b : Int) - (plc W a : Int)) % Int.ofNat 64) (Int.ofNat 64) = f64 (dst W a b) := congrArg (fun z => fdivII z 64) (dst_int (plc_64 a6))
  refine op c7 ?_
  refine sq (j := b) rfl (plcL_at hb) (len60 l60) ?_
  refine op c7 ?_
  refine sq (j := a) rfl (plcL_at ha) (len60 l60) ?_
  refine And.intro ⟨by decide, by rw [ed]; exact inf64 (Nat.lt_trans hd (by decide))⟩ ?_
  refine And.intro ⟨by decide, ob.q_inf⟩ ?_
  refine And.intro ⟨by decide, oa.q_inf⟩ ?_
  refine op c8 ?_
  refine sq (j := b) rfl (hueL_at hb) (len60 l60) ?_
  refine op c8 ?_
  refine sq (j := a) rfl (hueL_at ha) (len60 l60) ?_
  refine Exists.intro _ (Exists.intro _ (Exists.intro _ (Exists.intro (f64 (dst W a b), qrt b, qrt a) (And.intro rfl (And.intro rfl (And.intro (tell_dst a6 b6 hne) ?_))))))
  refine op (ats_flt3e ed.symm (nan64 (Nat.lt_trans hd (by decide))) ob.q_nan oa.q_nan) ?_
  refine op c9 ?_
  refine sq (j := a) rfl (refs_at ha) (len60 l60) ?_
  refine Exists.intro (10 + a) (Exists.intro (f64 (dst W a b)) (Exists.intro (l.map f64) (Exists.intro (posL l (dst W a b)) (And.intro rfl (And.intro rfl (And.intro cl (And.intro (by rw [List.length_map]; exact Nat.lt_trans hll (by decide)) (And.intro (posL_f hl hd) ?_))))))))
  refine op c9 ?_
  refine sq (j := a) rfl (refs_at ha) (len60 l60) ?_
  refine op cl ?_
  refine wn_lt (by rw [fcell_len]; exact Nat.lt_trans hll (by decide)) ?_
  refine br_2 (fun c => ?_) (fun c => ?_)
  · have hc : posL l (dst W a b) < l.length := fcell_len l ▸ Int.ofNat_lt.mp (of_decide_eq_true c)
    rw [decide_eq_true hc, show (f && !true) = false from Bool.and_false f] at hk
    exact (turn_tail (n := n) (M := M) (x := dst W a b) hm hM hnw hkv ha c9 cl hl hll hd hk :)
  · have hc : ¬ posL l (dst W a b) < l.length := fun q => of_decide_eq_false c (Int.ofNat_lt.mpr (fcell_len l ▸ q))
    rw [decide_eq_false hc, show (f && !false) = f from Bool.and_true f] at hk
    exact (turn_tail (n := n) (M := M) (x := dst W a b) hm hM hnw hkv ha c9 cl hl hll hd hk :)
end
section
open PySem PySem.W PySem.Calls PyProof.Rows PySem.SeqAt
set_option maxHeartbeats 400000
variable {T : Tab} {n : Nat} {loc loc' : Loc} {C C' : Cs} {k : KE} {kx : KX}

theorem goT0 {m0 : Nat} {C C' : Cs} {P : Loc → Cs → Prop} (e : C = C') (h0 : C'.length = m0) (hC : Closed m0 C') (hs : SubL m0 loc loc') (h : P loc' C') : ∃ loc2 C2, TrimL m0 loc C loc2 C2 ∧ P loc2 C2 := by
  subst e
  have := goT (J := []) h0 hC hs h
  rwa [List.append_nil] at this
noncomputable def rsC (rs : List (List Nat)) : Cs := rs.map fcell
/-- the cells of the main loop -/
noncomputable def CC (a0 a1 a2 a3 a4 a5 a6 : List D) (W : Int) (m : Nat) (rs : List (List Nat)) : Cs := [a0, a1, a2, a3, a4, a5, a6, plcL W (m + 1), hueL W (m + 1), refs (m + 1)] ++ rsC rs
section
variable {a0 a1 a2 a3 a4 a5 a6 : List D} {W : Int} {m : Nat} {rs : List (List Nat)}
theorem cc_len (h : rs.length = m + 1) : (CC a0 a1 a2 a3 a4 a5 a6 W m rs).length = 11 + m := by
  unfold CC rsC
  rw [List.length_append, List.length_map, h]
  show 10 + (m + 1) = 11 + m
  rw [Nat.add_comm m 1]; exact (Nat.add_assoc 10 1 m).symm
theorem cc_at {a : Nat} {l : List Nat} (h : rs[a]? = some l) : (CC a0 a1 a2 a3 a4 a5 a6 W m rs)[10 + a]? = some (fcell l) := by
  unfold CC rsC
  rw [List.getElem?_append_right (Nat.le_add_right 10 a)]
  show (rs.map fcell)[10 + a - 10]? = _
  rw [Nat.add_sub_cancel_left, List.getElem?_map, h]; rfl
theorem cc_set {a : Nat} (l : List Nat) : (CC a0 a1 a2 a3 a4 a5 a6 W m rs).set (10 + a) (fcell l) = CC a0 a1 a2 a3 a4 a5 a6 W m (rs.set a l) := by
  unfold CC rsC
  rw [List.set_append_right _ _ (Nat.le_add_right 10 a), List.map_set]
  show _ ++ (rs.map fcell).set (10 + a - 10) _ = _
  rw [Nat.add_sub_cancel_left]
theorem cc_set_app {a : Nat} {J : Cs} {l : List Nat} (h : rs.length = m + 1) (ha : a < m + 1) : (CC a0 a1 a2 a3 a4 a5 a6 W m rs ++ J).set (10 + a) (fcell l) = CC a0 a1 a2 a3 a4 a5 a6 W m (rs.set a l) ++ J := by
  rw [List.set_append_left _ _ (by rw [cc_len h]; exact Nat.lt_of_lt_of_eq (Nat.add_lt_add_left ha 10) (Nat.add_left_comm 10 m 1 ▸ Nat.add_comm m 11)), cc_set]
theorem cc_7 : (CC a0 a1 a2 a3 a4 a5 a6 W m rs)[7]? = some (plcL W (m + 1)) := rfl
theorem cc_8 : (CC a0 a1 a2 a3 a4 a5 a6 W m rs)[8]? = some (hueL W (m + 1)) := rfl
theorem cc_9 : (CC a0 a1 a2 a3 a4 a5 a6 W m rs)[9]? = some (refs (m + 1)) := rfl
theorem cc_6 : (CC a0 a1 a2 a3 a4 a5 a6 W m rs)[6]? = some a6 := rfl
theorem cc_3 : (CC a0 a1 a2 a3 a4 a5 a6 W m rs)[3]? = some a3 := rfl
theorem cc_closed {k : Nat} (hk : 11 + m ≤ k) (hb : Closed k [a0, a1, a2, a3, a4, a5, a6]) : Closed k (CC a0 a1 a2 a3 a4 a5 a6 W m rs) := by
  refine closed_app (C := [a0, a1, a2, a3, a4, a5, a6] ++ [plcL W (m + 1), hueL W (m + 1), refs (m + 1)]) (closed_app hb (closed_cons plcL_cl (closed_cons hueL_cl (closed_cons (rng_cl fun s hs => ?_) closed_nil)))) ?_
  · exact Nat.lt_of_lt_of_le (Nat.add_lt_add_left hs 10) (Nat.le_trans (Nat.le_of_eq (Nat.add_left_comm 10 m 1 ▸ Nat.add_comm m 11)) hk)
  · intro l hl d hd
    obtain ⟨x, _, rfl⟩ := List.mem_map.mp hl
    exact fcell_cl x d hd
end
noncomputable def twoD (a b : Nat) : List D := [.tup [.int (a : Int), .int (b : Int)], .tup [.int (b : Int), .int (a : Int)]]
theorem twoD_cl {k a b : Nat} : ∀ d ∈ twoD a b, closedD k d := forall_cons trivial (forall_cons trivial forall_nil)
/-- both kept small -/
structure RsOk (m : Nat) (rs : List (List Nat)) (b : Nat) : Prop where
  len : rs.length = m + 1
  all : ∀ l ∈ rs, (∀ y ∈ l, y < 64) ∧ l.length ≤ b
noncomputable def turnR (W : Int) (st : List (List Nat) × Bool) (a b : Nat) : List (List Nat) × Bool :=
  (st.1.set a (insN (st.1.getD a []) (dst W a b)), st.2 && !decide (posL (st.1.getD a []) (dst W a b) < (st.1.getD a []).length))
theorem turnR_ok {W : Int} {m b a c : Nat} {st : List (List Nat) × Bool} (h : RsOk m st.1 b) (ha : a < m + 1) : RsOk m (turnR W st a c).1 (b + 1) := by
  have hg := h.all _ (getD_mem (a := []) (h.len.symm ▸ ha))
  refine ⟨(List.length_set ..).trans h.len, fun l hl => ?_⟩
  rcases List.mem_or_eq_of_mem_set hl with hl | rfl
  · exact (h.all l hl).imp id Nat.le_succ_of_le
  · exact ⟨fun y hy => (insN_mem.mp hy).elim (fun e => e ▸ dst_lt W a c) (hg.1 y), insN_len _ _ ▸ Nat.succ_le_succ hg.2⟩
/-- both spots of a letter -/
theorem pair_ok {S : List At} {W : Int} {m a b x m0 : Nat} {nw kv : Option D} {f : Bool} {rs : List (List Nat)} {a0 a1 a2 a3 a4 a5 a6 : List D} (ex : x = 11 + m) (e0 : m0 = 12 + m) (hm : m ≤ 5) (hnw : ∀ d, nw = some d → closedD (12 + m) d) (hkv : ∀ d, kv = some d → closedD (12 + m) d) (hb : Closed (12 + m) [a0, a1, a2, a3, a4, a5, a6]) (ha : a < m + 1) (hbm : b < m + 1) (hne : a ≠ b)
    (hrs : RsOk m rs 50)
    (hk : kx .next (some (.arg S) :: some (dint ((m : Int) + 1)) :: some (.lst 1) :: some (dint W) :: some (.lst 2) :: kv :: some (.lst 3) :: nw :: some (.lst 4) :: none :: none :: none :: none :: none :: none :: none :: none :: none :: some (.lst 5) :: some (.lst 6) :: none :: some (.lst 7) :: some (.lst 8) :: none :: none :: none :: some (.lst 9) :: some (dbool (turnR W (turnR W (rs, f) a b) b a).2) :: List.replicate 7 none) (CC a0 a1 a2 a3 a4 a5 a6 W m (turnR W (turnR W (rs, f) a b) b a).1 ++ [twoD a b])) :
    forL (Xs TT (n + 64)) m0 [28, 29] (.d (.lst x)) bodyT kx 3 0 (some (.arg S) :: some (dint ((m : Int) + 1)) :: some (.lst 1) :: some (dint W) :: some (.lst 2) :: kv :: some (.lst 3) :: nw :: some (.lst 4) :: none :: none :: none :: none :: none :: none :: none :: none :: none :: some (.lst 5) :: some (.lst 6) :: none :: some (.lst 7) :: some (.lst 8) :: none :: none :: none :: some (.lst 9) :: some (dbool f) :: List.replicate 7 none) (CC a0 a1 a2 a3 a4 a5 a6 W m rs ++ [twoD a b]) := by
  subst ex; subst e0
  have hs : ∀ (rs : List (List Nat)), rs.length = m + 1 → ∀ J : List D, (CC a0 a1 a2 a3 a4 a5 a6 W m rs ++ [J])[11 + m]? = some J := fun rs h J => by
    rw [← cc_len (a0 := a0) (a1 := a1) (a2 := a2) (a3 := a3) (a4 := a4) (a5 := a5) (a6 := a6) (W := W) h]; exact lk_last
  have h1 := turnR_ok (W := W) (c := b) (st := (rs, f)) hrs ha
  have h2 := turnR_ok (W := W) (c := a) (st := turnR W (rs, f) a b) h1 hbm
  have cl : ∀ (rs : List (List Nat)), Closed (12 + m) (CC a0 a1 a2 a3 a4 a5 a6 W m rs ++ [twoD a b]) := fun rs => closed_app (cc_closed (Nat.add_le_add_right (by decide) m) hb) (closed_cons twoD_cl closed_nil)
  have ln : ∀ (rs : List (List Nat)), rs.length = m + 1 → (CC a0 a1 a2 a3 a4 a5 a6 W m rs ++ [twoD a b]).length = 12 + m := fun rs h => by
    rw [List.length_append, cc_len h]; exact Nat.add_right_comm 11 m 1
  have hM : 9 < 12 + m := Nat.lt_of_lt_of_le (by decide) (Nat.le_add_right 12 m)
  have ga := getD_some (l := rs) (a := []) (hrs.len.symm ▸ ha)
  have ma := hrs.all _ (List.mem_of_getElem? ga)
  have gb := getD_some (l := (turnR W (rs, f) a b).1) (a := []) (h1.len.symm ▸ hbm)
  have mb := h1.all _ (List.mem_of_getElem? gb)
  refine op (it_lst (hs rs hrs.len _) rfl) ?_
  refine turn_ok (n := n) (M := 12 + m) (l := rs.getD a []) hm hM hnw hkv ha hbm hne (lk_old cc_7) (lk_old cc_8) (lk_old cc_9) (lk_old (cc_at ga)) ma.1 (Nat.lt_of_le_of_lt ma.2 (by decide)) ?_
  intro loc1 hsub1
  refine goT0 (cc_set_app hrs.len ha) (ln _ h1.len) (cl _) hsub1 ?_
  refine op (it_lst (hs _ h1.len _) rfl) ?_
  refine turn_ok (n := n) (M := 12 + m) (l := (turnR W (rs, f) a b).1.getD b []) hm hM hnw hkv hbm ha (Ne.symm hne) (lk_old cc_7) (lk_old cc_8) (lk_old cc_9) (lk_old (cc_at gb)) mb.1 (Nat.lt_of_le_of_lt mb.2 (by decide)) ?_
  intro loc2 hsub2
  refine goT0 (cc_set_app h1.len hbm) (ln _ h2.len) (cl _) hsub2 ?_
  refine op (it_lst (hs _ h2.len _) rfl) ?_
  exact hk
end
section
open PySem PySem.W PySem.Calls PyProof.Rows PySem.SeqAt
set_option maxHeartbeats 400000
variable {T : Tab} {n : Nat} {loc loc' : Loc} {C C' : Cs} {k : KE} {kx : KX}

/-- a letter of the line -/
noncomputable def lt3 (T : Int) (p : NP) : D := .tup [.int T, .int (p.1 : Int), .int (p.2 : Int)]
noncomputable def lineL (Ts : Nat → Int) (rn : List NP) (m : Nat) : List D := (List.range m).map fun j => lt3 (Ts j) (rn.getD j (0, 0))
theorem lineL_at {Ts : Nat → Int} {rn : List NP} {m j : Nat} (h : j < m) : (lineL Ts rn m)[j]? = some (lt3 (Ts j) (rn.getD j (0, 0))) := rng_at h
theorem lineL_len (Ts : Nat → Int) (rn : List NP) (m : Nat) : (lineL Ts rn m).length = m := rng_len
theorem lineL_cl {k : Nat} {Ts : Nat → Int} {rn : List NP} {m : Nat} : ∀ d ∈ lineL Ts rn m, closedD k d := rng_cl fun _ _ => trivial
noncomputable def srt (x y : Int) : List D := if y < x then [dint y, dint x] else [dint x, dint y]
noncomputable def sameP (p q : NP) : Bool := (Nat.beq p.1 q.1 && Nat.beq p.2 q.2) || (Nat.beq p.1 q.2 && Nat.beq p.2 q.1)
theorem ds_all : ∀ a < 6, ∀ b < 6, ∀ c < 6, ∀ d < 6, dsEq (srt (a : Nat) (b : Nat)) (srt (c : Nat) (d : Nat)) = some (sameP (a, b) (c, d)) := by decide +kernel
/-- both numbers are below six -/
noncomputable def Lo6 (p : NP) : Prop := p.1 < 6 ∧ p.2 < 6
theorem ds_srt {p q : NP} (hp : Lo6 p) (hq : Lo6 q) : dsEq (srt (p.1 : Int) (p.2 : Int)) (srt (q.1 : Int) (q.2 : Int)) = some (sameP p q) := ds_all _ hp.1 _ hp.2 _ hq.1 _ hq.2
noncomputable def earlyL (Ts : Nat → Int) (rn : List NP) (q : NP) (i : Nat) : List D := ((List.range i).filter fun j => !sameP (rn.getD j (0, 0)) q).map fun j => lt3 (Ts j) (rn.getD j (0, 0))
theorem earlyL_t {Ts : Nat → Int} {rn : List NP} {q : NP} {i : Nat} (h : sameP (rn.getD i (0, 0)) q = true) : earlyL Ts rn q (i + 1) = earlyL Ts rn q i := by
  unfold earlyL
  rw [List.range_succ, List.filter_append, List.map_append, List.filter_cons_of_neg (by rw [h]; decide), List.filter_nil, List.map_nil, List.append_nil]
theorem earlyL_f {Ts : Nat → Int} {rn : List NP} {q : NP} {i : Nat} (h : sameP (rn.getD i (0, 0)) q = false) : earlyL Ts rn q (i + 1) = earlyL Ts rn q i ++ [lt3 (Ts i) (rn.getD i (0, 0))] := by
  unfold earlyL
  rw [List.range_succ, List.filter_append, List.map_append, List.filter_cons_of_pos (by rw [h]; rfl), List.filter_nil]; rfl
theorem set_pre {Pre X : Cs} {a b : List D} : (Pre ++ [a] ++ X).set Pre.length b = Pre ++ [b] ++ X := by
  rw [List.append_assoc, List.set_append_right _ _ (Nat.le_refl _), Nat.sub_self, List.append_assoc]; rfl
theorem early_len (Ts : Nat → Int) (rn : List NP) (q : NP) (i : Nat) : (earlyL Ts rn q i).length ≤ i :=
  Nat.le_trans (Nat.le_of_eq (List.length_map _)) (Nat.le_trans (List.length_filter_le ..) (Nat.le_of_eq List.length_range))
theorem srt_cl {k : Nat} (x y : Int) : ∀ d ∈ srt x y, closedD k d := by
  unfold srt
  by_cases h : y < x
  · rw [if_pos h]; exact forall_cons trivial (forall_cons trivial forall_nil)
  · rw [if_neg h]; exact forall_cons trivial (forall_cons trivial forall_nil)
theorem two_closed {J : Cs} {x y u v : Int} (hJ : ∀ k, Closed k J) : ∀ k, Closed k (J ++ [srt x y] ++ [srt u v]) := fun k => closed_app (closed_app (hJ k) (closed_cons (srt_cl _ _) closed_nil)) (closed_cons (srt_cl _ _) closed_nil)
theorem sl_tail {a : At} {l : List At} (hl : l.length < 1000) (h : k (.tup l) C) : slcOp (.tup (a :: l)) (some (dint (Int.ofNat 1))) none none C k :=
  ⟨op rfl (op rfl (op rfl (op rfl (wn_le hl h))))⟩
theorem asc {X J A B : Cs} : X ++ J ++ A ++ B = X ++ (J ++ A ++ B) := by rw [← List.append_assoc, ← List.append_assoc]
theorem not_f {b : Bool} (h : (!b) = false) : b = true := by cases b with | true => rfl | false => cases h
theorem compE_ok {Pre : Cs} {Ts : Nat → Int} {rn : List NP} {m kk s x : Nat} {q : NP} (ex : x = Pre.length) (hm : m ≤ 5) (hkm : kk < m) (hv : ∀ j, j < m → Lo6 (rn.getD j (0, 0))) (hq : rn.getD kk (0, 0) = q) (h6 : Pre[6]? = some (lineL Ts rn m)) (hs : Pre[s]? = some ((lineL Ts rn m).take kk))
    (hk : ∀ J, (∀ k, Closed k J) → k (.lst x) (Pre ++ [earlyL Ts rn q kk] ++ J)) :
    ∀ (r i N : Nat) (J C1 : Cs), (∀ k, Closed k J) → i + r = kk → r < N → C1 = Pre ++ [earlyL Ts rn q i] ++ J →
    compL (EF T (n + 20)) (.var 0) [.cmp .NotEq (.bcall .sorted [.slc (.var 0) (some (.cst (.int (Int.ofNat 1)))) none none]) (.bcall .sorted [.slc (.idx (.var 2) (.var 1)) (some (.cst (.int (Int.ofNat 1)))) none none])] [some (dint (kk : Int)), some (.lst 6)] (.d (.lst s)) x k N i C1 := by
  subst ex
  have hq6 : Lo6 q := hq ▸ hv kk hkm
  intro r
  induction r with
  | zero =>
    rintro i N J _ hJ h1 h2 rfl
    obtain ⟨N, rfl⟩ := succ_of h2
    obtain rfl : i = kk := h1
    refine op (it_lst (lk_old (lk_old hs)) (List.getElem?_eq_none (List.length_take_le ..))) ?_
    exact hk J hJ
  | succ r ih =>
    rintro i N J _ hJ h1 h2 rfl
    obtain ⟨N, rfl⟩ := succ_of h2
    have hi := lt_of_add h1
    have hx : ((lineL Ts rn m).take kk)[i]? = some (lt3 (Ts i) (rn.getD i (0, 0))) := (List.getElem?_take_of_lt hi).trans (lineL_at (Nat.lt_trans hi hkm))
    have hp6 := hv i (Nat.lt_trans hi hkm)
    refine op (it_lst (lk_old (lk_old hs)) hx) ?_
    have ef := earlyL_f (Ts := Ts) (rn := rn) (q := q) (i := i)
    have et := earlyL_t (Ts := Ts) (rn := rn) (q := q) (i := i)
    generalize rn.getD i (0, 0) = p at *
    refine sl_tail (by decide : 2 < 1000) ?_
    refine Exists.intro _ (Exists.intro _ (And.intro rfl ?_))
    refine op (lk_old (lk_old (lk_old h6))) ?_
    refine sq (j := kk) (d := lt3 (Ts kk) q) rfl (hq ▸ lineL_at hkm) (by rw [lineL_len]; exact Nat.lt_of_le_of_lt hm (by decide)) ?_
    refine sl_tail (by decide : 2 < 1000) ?_
    refine Exists.intro _ (Exists.intro _ (And.intro rfl ?_))
    refine op ((lk_old lk_last : _ = some (srt (p.1 : Int) (p.2 : Int)))) ?_
    refine op ((lk_last : _ = some (srt (q.1 : Int) (q.2 : Int)))) ?_
    refine op (ds_srt hp6 hq6) ?_
    refine br_2 (fun c => ?_) (fun c => ?_)
    · refine op (lk_old (lk_old (lk_old lk_last))) ?_
      refine wn_le (line9 (Nat.le_trans (early_len Ts rn q i) (Nat.le_trans (Nat.le_of_lt (Nat.lt_trans hi hkm)) (Nat.le_trans hm (by decide))))) ?_
      exact ih (i + 1) N (J ++ [srt (p.1 : Int) (p.2 : Int)] ++ [srt (q.1 : Int) (q.2 : Int)]) _ (two_closed hJ) (add_succ_of h1) (Nat.lt_of_succ_lt_succ h2) (((congrArg (fun C => List.set C Pre.length _) asc).trans set_pre).trans (congrArg (fun l => Pre ++ [l] ++ _) (ef (not_t c)).symm))
    · exact ih (i + 1) N (J ++ [srt (p.1 : Int) (p.2 : Int)] ++ [srt (q.1 : Int) (q.2 : Int)]) _ (two_closed hJ) (add_succ_of h1) (Nat.lt_of_succ_lt_succ h2) (asc.trans (congrArg (fun l => Pre ++ [l] ++ _) (et (not_f c)).symm))
theorem compE0 {Pre : Cs} {Ts : Nat → Int} {rn : List NP} {m kk s x : Nat} {q : NP} (ex : x = Pre.length) (hm : m ≤ 5) (hkm : kk < m) (hv : ∀ j, j < m → Lo6 (rn.getD j (0, 0))) (hq : rn.getD kk (0, 0) = q) (h6 : Pre[6]? = some (lineL Ts rn m)) (hs : Pre[s]? = some ((lineL Ts rn m).take kk))
    (hk : ∀ J, (∀ k, Closed k J) → k (.lst x) (Pre ++ [earlyL Ts rn q kk] ++ J)) :
    compL (EF T (n + 20)) (.var 0) [.cmp .NotEq (.bcall .sorted [.slc (.var 0) (some (.cst (.int (Int.ofNat 1)))) none none]) (.bcall .sorted [.slc (.idx (.var 2) (.var 1)) (some (.cst (.int (Int.ofNat 1)))) none none])] [some (dint (kk : Int)), some (.lst 6)] (.d (.lst s)) x k (kk + 1) 0 (Pre ++ [[]]) :=
  compE_ok ex hm hkm hv hq h6 hs hk kk 0 (kk + 1) [] _ (fun _ => closed_nil) (Nat.zero_add _) (Nat.lt_succ_self _) (List.append_nil _).symm
end
section
open PySem PySem.W PySem.Calls PyProof.Rows PySem.SeqAt
set_option maxHeartbeats 400000
variable {T : Tab} {n : Nat} {loc loc' : Loc} {C C' : Cs} {k : KE} {kx : KX}

/-- where a spot lies about the ends, by the two searches -/
noncomputable def sd (W : Int) (es : List Nat) (x : Nat) : Nat := posL es (plc W x) + posR es (plc W x)
theorem posB_le {α : Type} {q : α → Bool} {d : α} {l : List α} : posB q d l ≤ l.length := bsR_le _ _ _ _ (Nat.zero_le _)
theorem sd_6 {W : Int} {es : List Nat} {x : Nat} (h : es.length ≤ 2) : sd W es x < 6 := Nat.lt_of_le_of_lt (Nat.add_le_add (Nat.le_trans posB_le h) (Nat.le_trans posB_le h)) (by decide)
theorem elt_ok {W : Int} {m x je : Nat} {es : List Nat} (hm : m ≤ 5) (hx : x < m + 1) (c8 : C[8]? = some (hueL W (m + 1))) (ce : C[je]? = some (fcell es)) (he : ∀ y ∈ es, y < 64) (hel : es.length ≤ 2) (hk : k (dint (sd W es x : Nat)) C) :
    (EF TT (n + 20)).e (.bin .Add (.call (.glb (.fn 41)) [.var 1, .idx (.var 2) (.var 0)] []) (.call (.glb (.fn 32)) [.var 1, .idx (.var 2) (.var 0)] [])) [some (dint (x : Nat)), some (.lst je), some (.lst 8)] C k := by
  have h64 : plc W x < 64 := plc_64 (Nat.lt_of_lt_of_le hx (Nat.succ_le_succ hm))
  have h9 : (es.map f64).length < 900 := by rw [List.length_map]; exact Nat.lt_of_le_of_lt hel (by decide)
  refine op c8 ?_
  refine sq (j := x) rfl (hueL_at hx) (len60 (Nat.succ_le_succ hm)) ?_
  refine Exists.intro je (Exists.intro (f64 (plc W x)) (Exists.intro (es.map f64) (Exists.intro (posL es (plc W x)) (And.intro rfl (And.intro rfl (And.intro ce (And.intro h9 (And.intro (posL_f he h64) ?_))))))))
  refine op c8 ?_
  refine sq (j := x) rfl (hueL_at hx) (len60 (Nat.succ_le_succ hm)) ?_
  refine Or.inl ?_
  refine Exists.intro je (Exists.intro (f64 (plc W x)) (Exists.intro [] (Exists.intro (es.map f64) (Exists.intro (posR es (plc W x)) (And.intro rfl (And.intro rfl (And.intro (Or.inl rfl) (And.intro ce (And.intro h9 (And.intro (posR_f he h64) ?_))))))))))
  exact hk
theorem cl_one {F : EFns} {elt : ME} {fvs : Loc} {s : Src} {j N i : Nat} {d : D} (ht : ∀ loc C k, F.t (.and []) loc C k = k true C) (e : itemAt s i C = some (some d)) (h : F.e elt (some d :: fvs) C fun e C => methOp .append (.lst j) [e] C fun _ C => compL F elt [] fvs s j k N (i + 1) C) :
    compL F elt [] fvs s j k (N + 1) i C := by
  refine op e ?_
  show F.t (.and []) (some d :: fvs) C _
  rw [ht]
  exact h
theorem cl_fin {F : EFns} {elt : ME} {fvs : Loc} {s : Src} {j N i : Nat} (e : itemAt s i C = some none) (h : k (.lst j) C) : compL F elt [] fvs s j k (N + 1) i C := op e h
theorem cl_C {F : EFns} {elt : ME} {fvs : Loc} {s : Src} {j N i : Nat} {C2 : Cs} (e : C = C2) (h : compL F elt [] fvs s j k N i C2) : compL F elt [] fvs s j k N i C := e ▸ h
theorem asc4 {X J A B D0 : Cs} : X ++ J ++ A ++ B ++ D0 = X ++ (J ++ A ++ B ++ D0) := by rw [← List.append_assoc, ← List.append_assoc, ← List.append_assoc]
theorem add1 {a : List D} {b : D} : (C ++ [a]).set C.length (a ++ [b]) = C ++ [a ++ [b]] := set_last
/-- an earlier letter -/
theorem early_ok {S : List At} {W T0 : Int} {m M c d je : Nat} {nw kv : Option D} {f : Bool} {es : List Nat} (hm : m ≤ 5) (hM : 9 < M) (hje : je < M) (hnw : ∀ d, nw = some d → closedD M d) (hkv : ∀ d, kv = some d → closedD M d) (hc : c < m + 1) (hd : d < m + 1)
    (c8 : C[8]? = some (hueL W (m + 1))) (ce : C[je]? = some (fcell es)) (he : ∀ y ∈ es, y < 64) (hel : es.length ≤ 2)
    (hk : ∀ loc' C' J, C' = C ++ J → SubL M loc' (some (.arg S) :: some (dint ((m : Int) + 1)) :: some (.lst 1) :: some (dint W) :: some (.lst 2) :: kv :: some (.lst 3) :: nw :: some (.lst 4) :: none :: none :: none :: none :: none :: none :: none :: none :: none :: some (.lst 5) :: some (.lst 6) :: none :: some (.lst 7) :: some (.lst 8) :: none :: none :: none :: some (.lst 9) :: some (dbool (f && !(sameP (sd W es c, sd W es d) (0, 2) || sameP (sd W es c, sd W es d) (2, 4)))) :: none :: none :: some (.lst je) :: List.replicate 4 none) → kx .next loc' C') :
    Xs TT (n + 60) bodyE (some (.arg S) :: some (dint ((m : Int) + 1)) :: some (.lst 1) :: some (dint W) :: some (.lst 2) :: kv :: some (.lst 3) :: nw :: some (.lst 4) :: none :: none :: none :: none :: none :: none :: none :: none :: none :: some (.lst 5) :: some (.lst 6) :: none :: some (.lst 7) :: some (.lst 8) :: none :: none :: none :: some (.lst 9) :: some (dbool f) :: none :: none :: some (.lst je) :: some (.tup [.int T0, .int (c : Nat), .int (d : Nat)]) :: List.replicate 3 none) C kx := by
  have hs : ∀ (g : Bool) (a b : Option D), SubL M (some (.arg S) :: some (dint ((m : Int) + 1)) :: some (.lst 1) :: some (dint W) :: some (.lst 2) :: kv :: some (.lst 3) :: nw :: some (.lst 4) :: none :: none :: none :: none :: none :: none :: none :: none :: none :: some (.lst 5) :: some (.lst 6) :: none :: some (.lst 7) :: some (.lst 8) :: none :: none :: none :: some (.lst 9) :: some (dbool g) :: none :: none :: some (.lst je) :: a :: b :: List.replicate 2 none) (some (.arg S) :: some (dint ((m : Int) + 1)) :: some (.lst 1) :: some (dint W) :: some (.lst 2) :: kv :: some (.lst 3) :: nw :: some (.lst 4) :: none :: none :: none :: none :: none :: none :: none :: none :: none :: some (.lst 5) :: some (.lst 6) :: none :: some (.lst 7) :: some (.lst 8) :: none :: none :: none :: some (.lst 9) :: some (dbool g) :: none :: none :: some (.lst je) :: List.replicate 4 none) := fun g a b => (.keep clo_arg (.keep clo_at (.keep (clo_lst (Nat.lt_trans (by decide) hM)) (.keep clo_at (.keep (clo_lst (Nat.lt_trans (by decide) hM)) (.keep hkv (.keep (clo_lst (Nat.lt_trans (by decide) hM)) (.keep hnw (.keep (clo_lst (Nat.lt_trans (by decide) hM)) (.keep clo_none (.keep clo_none (.keep clo_none (.keep clo_none (.keep clo_none (.keep clo_none (.keep clo_none (.keep clo_none (.keep clo_none (.keep (clo_lst (Nat.lt_trans (by decide) hM)) (.keep (clo_lst (Nat.lt_trans (by decide) hM)) (.keep clo_none (.keep (clo_lst (Nat.lt_trans (by decide) hM)) (.keep (clo_lst (Nat.lt_trans (by decide) hM)) (.keep clo_none (.keep clo_none (.keep clo_none (.keep (clo_lst hM) (.keep clo_at (.keep clo_none (.keep clo_none (.keep (clo_lst hje) (.drop (.drop .tail)))))))))))))))))))))))))))))))))
  refine sl_tail (by decide : 2 < 1000) ?_
  refine Exists.intro 3 ?_
  have ht : ∀ loc C k, (EF TT (n + 55)).t (.and []) loc C k = k true C := fun _ _ _ => rfl
  refine cl_one (N := 2) (F := EF TT (n + 55)) (d := dint (c : Nat)) ht rfl ?_
  refine elt_ok (n := n + 35) hm hc (lk_old c8) (lk_old ce) he hel ?_
  refine op lk_last ?_
  refine wn_le (Nat.zero_le _) ?_
  refine cl_C add1 ?_
  refine cl_one (N := 1) (F := EF TT (n + 55)) (d := dint (d : Nat)) ht rfl ?_
  refine elt_ok (n := n + 35) hm hd (lk_old c8) (lk_old ce) he hel ?_
  refine op lk_last ?_
  refine wn_le (line9 (by decide : 1 ≤ 1000)) ?_
  refine cl_C add1 ?_
  refine cl_fin (N := 0) rfl ?_
  refine op (lk_last (l := [dint (sd W es c : Nat), dint (sd W es d : Nat)])) ?_
  refine Or.inl ?_
  refine Exists.intro _ (Exists.intro _ (And.intro rfl ?_))
  have d1 := ds_srt (p := (sd W es c, sd W es d)) (q := (0, 2)) ⟨sd_6 hel, sd_6 hel⟩ ⟨by decide, by decide⟩
  have d2 := ds_srt (p := (sd W es c, sd W es d)) (q := (2, 4)) ⟨sd_6 hel, sd_6 hel⟩ ⟨by decide, by decide⟩
  refine op (lk_old (lk_last (l := srt (sd W es c : Nat) (sd W es d : Nat)))) ?_
  refine op (lk_last (l := srt ((0 : Nat) : Int) ((2 : Nat) : Int))) ?_
  refine op d1 ?_
  generalize sameP (sd W es c, sd W es d) (0, 2) = s1 at *
  generalize sameP (sd W es c, sd W es d) (2, 4) = s2 at *
  refine br_2 (fun e1 => ?_) (fun e1 => ?_)
  · rw [e1, show (f && !(true || s2)) = false from Bool.and_false f] at hk
    exact hk _ _ _ asc (hs false _ _)
  · refine op (lk_old (lk_old (lk_last (l := srt (sd W es c : Nat) (sd W es d : Nat))))) ?_
    refine op (lk_last (l := srt ((2 : Nat) : Int) ((4 : Nat) : Int))) ?_
    refine op d2 ?_
    refine br_2 (fun e2 => ?_) (fun e2 => ?_)
    · rw [e1, e2, show (f && !(false || true)) = false from Bool.and_false f] at hk
      exact hk _ _ _ asc4 (hs false _ _)
    · rw [e1, e2, show (f && !(false || false)) = f from Bool.and_true f] at hk
      exact hk _ _ _ asc4 (hs f _ _)
end
section
open PySem PySem.W PySem.Calls PyProof.Rows PySem.SeqAt
set_option maxHeartbeats 400000
variable {T : Tab} {n : Nat} {loc loc' : Loc} {C C' : Cs} {k : KE} {kx : KX}

noncomputable def crossP (W : Int) (es : List Nat) (p : NP) : Bool := sameP (sd W es p.1, sd W es p.2) (0, 2) || sameP (sd W es p.1, sd W es p.2) (2, 4)
noncomputable def itsL (its : List (Int × NP)) : List D := its.map fun x => lt3 x.1 x.2
/-- the earlier letters, one after the other -/
theorem forE_ok {S : List At} {W : Int} {m M j je : Nat} {nw kv : Option D} {es : List Nat} {its : List (Int × NP)} (hm : m ≤ 5) (hM : 9 < M) (hje : je < M) (hnw : ∀ d, nw = some d → closedD M d) (hkv : ∀ d, kv = some d → closedD M d)
    (hv : ∀ x ∈ its, x.2.1 < m + 1 ∧ x.2.2 < m + 1) (hlen : C.length = M) (hcl : Closed M C) (cj : C[j]? = some (itsL its)) (c8 : C[8]? = some (hueL W (m + 1))) (ce : C[je]? = some (fcell es)) (he : ∀ y ∈ es, y < 64) (hel : es.length ≤ 2) {f0 : Bool}
    (hk : kx .next (some (.arg S) :: some (dint ((m : Int) + 1)) :: some (.lst 1) :: some (dint W) :: some (.lst 2) :: kv :: some (.lst 3) :: nw :: some (.lst 4) :: none :: none :: none :: none :: none :: none :: none :: none :: none :: some (.lst 5) :: some (.lst 6) :: none :: some (.lst 7) :: some (.lst 8) :: none :: none :: none :: some (.lst 9) :: some (dbool (f0 && its.all fun x => !crossP W es x.2)) :: none :: none :: some (.lst je) :: List.replicate 4 none) C) :
    ∀ (r i N : Nat) (f : Bool), i + r = its.length → r < N → (f && (its.drop i).all fun x => !crossP W es x.2) = (f0 && its.all fun x => !crossP W es x.2) →
      forL (Xs TT (n + 62)) M [31] (.d (.lst j)) bodyE kx N i (some (.arg S) :: some (dint ((m : Int) + 1)) :: some (.lst 1) :: some (dint W) :: some (.lst 2) :: kv :: some (.lst 3) :: nw :: some (.lst 4) :: none :: none :: none :: none :: none :: none :: none :: none :: none :: some (.lst 5) :: some (.lst 6) :: none :: some (.lst 7) :: some (.lst 8) :: none :: none :: none :: some (.lst 9) :: some (dbool f) :: none :: none :: some (.lst je) :: List.replicate 4 none) C := by
  intro r
  induction r with
  | zero =>
    intro i N f h1 h2 h3
    obtain ⟨N, rfl⟩ := succ_of h2
    obtain rfl : i = its.length := h1
    refine op (it_lst cj (List.getElem?_eq_none (Nat.le_of_eq (List.length_map _)))) ?_
    rw [List.drop_length, show (f && ([] : List (Int × NP)).all fun x => !crossP W es x.2) = f from Bool.and_true f] at h3
    rw [h3]
    exact hk
  | succ r ih =>
    intro i N f h1 h2 h3
    obtain ⟨N, rfl⟩ := succ_of h2
    have hi := lt_of_add h1
    have hx : (itsL its)[i]? = some (lt3 its[i].1 its[i].2) := by rw [itsL, List.getElem?_map, List.getElem?_eq_getElem hi]; rfl
    have hvi := hv _ (List.getElem_mem hi)
    rw [List.drop_eq_getElem_cons hi, List.all_cons, ← Bool.and_assoc] at h3
    generalize its[i] = x at *
    refine op (it_lst cj hx) ?_
    refine early_ok (n := n + 2) (M := M) hm hM hje hnw hkv hvi.1 hvi.2 c8 ce he hel ?_
    rintro loc' _ J rfl hs
    exact goT hlen hcl hs (ih (i + 1) N _ (add_succ_of h1) (Nat.lt_of_succ_lt_succ h2) h3)
/-- the two ends in order -/
noncomputable def endsL (W : Int) (a b : Nat) : List Nat := if plc W b < plc W a then [plc W b, plc W a] else [plc W a, plc W b]
theorem ends_P {W : Int} {a b : Nat} {P : List Nat → Prop} (h1 : P [plc W b, plc W a]) (h2 : P [plc W a, plc W b]) : P (endsL W a b) := by
  unfold endsL
  split
  · exact h1
  · exact h2
theorem endsL_lt {W : Int} {a b : Nat} (ha : a < 6) (hb : b < 6) : ∀ y ∈ endsL W a b, y < 64 :=
  ends_P (P := fun l => ∀ y ∈ l, y < 64) (forall_cons (plc_64 hb) (forall_cons (plc_64 ha) forall_nil)) (forall_cons (plc_64 ha) (forall_cons (plc_64 hb) forall_nil))
theorem endsL_len (W : Int) (a b : Nat) : (endsL W a b).length = 2 := ends_P (P := fun l => l.length = 2) rfl rfl
theorem ends_cell {W : Int} {a b : Nat} (ha : a < 6) (hb : b < 6) : (if flt? (f64 (plc W b)) (f64 (plc W a)) = true then [dflt (f64 (plc W b)), dflt (f64 (plc W a))] else [dflt (f64 (plc W a)), dflt (f64 (plc W b))]) = fcell (endsL W a b) := by
  rw [flt64 (plc_64 hb) (plc_64 ha)]
  unfold endsL
  by_cases h : plc W b < plc W a
  · rw [if_pos h, if_pos (decide_eq_true h)]; rfl
  · rw [if_neg h, if_neg (by rw [decide_eq_false h]; exact Bool.false_ne_true)]; rfl
noncomputable def stepM (W : Int) (rn : List NP) (i : Nat) (st : List (List Nat) × Bool) : List (List Nat) × Bool :=
  ((turnR W (turnR W st (rn.getD i (0, 0)).1 (rn.getD i (0, 0)).2) (rn.getD i (0, 0)).2 (rn.getD i (0, 0)).1).1, (turnR W (turnR W st (rn.getD i (0, 0)).1 (rn.getD i (0, 0)).2) (rn.getD i (0, 0)).2 (rn.getD i (0, 0)).1).2 && (List.range i).all fun j => sameP (rn.getD j (0, 0)) (rn.getD i (0, 0)) || !crossP W (endsL W (rn.getD i (0, 0)).1 (rn.getD i (0, 0)).2) (rn.getD j (0, 0)))
noncomputable def earlyI (Ts : Nat → Int) (rn : List NP) (q : NP) (i : Nat) : List (Int × NP) := ((List.range i).filter fun j => !sameP (rn.getD j (0, 0)) q).map fun j => (Ts j, rn.getD j (0, 0))
theorem early_its (Ts : Nat → Int) (rn : List NP) (q : NP) (i : Nat) : earlyL Ts rn q i = itsL (earlyI Ts rn q i) := by
  unfold earlyL itsL earlyI; rw [List.map_map]; rfl
theorem early_all (Ts : Nat → Int) (rn : List NP) (q : NP) (i : Nat) (g : NP → Bool) : (earlyI Ts rn q i).all (fun x => !g x.2) = (List.range i).all fun j => sameP (rn.getD j (0, 0)) q || !g (rn.getD j (0, 0)) := by
  unfold earlyI
  rw [List.all_map, List.all_filter]
  refine congrArg (List.all (List.range i)) (funext fun j => ?_)
  show (!(!sameP _ q) || _) = _
  rw [Bool.not_not]; rfl
theorem earlyI_mem {Ts : Nat → Int} {rn : List NP} {q : NP} {i : Nat} {P : Int × NP → Prop} (h : ∀ j, j < i → P (Ts j, rn.getD j (0, 0))) : ∀ x ∈ earlyI Ts rn q i, P x := fun x hx => by
  obtain ⟨j, hj, rfl⟩ := List.mem_map.mp hx
  exact h j (List.mem_range.mp (List.mem_filter.mp hj).1)
end
section
open PySem PySem.W PySem.Calls PyProof.Rows PySem.SeqAt
set_option maxHeartbeats 400000
variable {T : Tab} {n : Nat} {loc loc' : Loc} {C C' : Cs} {k : KE} {kx : KX}

variable {a0 a1 a2 a3 a4 a5 : List D}
theorem earlyL_cl {k : Nat} (Ts : Nat → Int) (rn : List NP) (q : NP) (i : Nat) : ∀ d ∈ earlyL Ts rn q i, closedD k d := fun d hd => by
  obtain ⟨x, _, rfl⟩ := List.mem_map.mp hd; trivial
theorem len_le {A B D0 : Cs} {k : Nat} (h : k ≤ C.length) : k ≤ (C ++ A ++ B ++ D0).length := by
  rw [List.append_assoc, List.append_assoc, List.length_append]; exact Nat.le_add_right_of_le h
theorem len_le2 {A B : Cs} {k : Nat} (h : k ≤ C.length) : k ≤ (C ++ A ++ B).length := by
  rw [List.append_assoc, List.length_append]; exact Nat.le_add_right_of_le h
/-- the letters before this one -/
theorem tailM_ok {S : List At} {W : Int} {m kk je : Nat} {nw : Option D} {f g : Bool} {Ts : Nat → Int} {rn : List NP} {q : NP} {rs : List (List Nat)} {es : List Nat} {P0 J0 : Cs} (hm : m ≤ 5) (hnw : ∀ k d, nw = some d → closedD k d) (hkm : kk < m) (hv : ∀ j, j < m → Vp (m + 1) (rn.getD j (0, 0))) (hq : rn.getD kk (0, 0) = q)
    (e0 : P0 = CC a0 a1 a2 a3 a4 a5 (lineL Ts rn m) W m rs ++ J0) (hP : 11 + m ≤ P0.length) (p6 : P0[6]? = some (lineL Ts rn m)) (p8 : P0[8]? = some (hueL W (m + 1))) (pe : P0[je]? = some (fcell es)) (pcl : ∀ k, 11 + m ≤ k → Closed k P0) (he : ∀ y ∈ es, y < 64) (hel : es.length ≤ 2)
    (hg : (f && (earlyI Ts rn q kk).all fun x => !crossP W es x.2) = g)
    (hk : ∀ loc' C' J, C' = CC a0 a1 a2 a3 a4 a5 (lineL Ts rn m) W m rs ++ J → SubL (11 + m) loc' (some (.arg S) :: some (dint ((m : Int) + 1)) :: some (.lst 1) :: some (dint W) :: some (.lst 2) :: none :: some (.lst 3) :: nw :: some (.lst 4) :: none :: none :: none :: none :: none :: none :: none :: none :: none :: some (.lst 5) :: some (.lst 6) :: none :: some (.lst 7) :: some (.lst 8) :: none :: none :: none :: some (.lst 9) :: some (dbool g) :: List.replicate 7 none) → kx .next loc' C') :
    Xs TT (n + 64) (bodyM.drop 2) (some (.arg S) :: some (dint ((m : Int) + 1)) :: some (.lst 1) :: some (dint W) :: some (.lst 2) :: some (dint (kk : Int)) :: some (.lst 3) :: nw :: some (.lst 4) :: none :: none :: none :: none :: none :: none :: none :: none :: none :: some (.lst 5) :: some (.lst 6) :: none :: some (.lst 7) :: some (.lst 8) :: none :: none :: none :: some (.lst 9) :: some (dbool f) :: none :: none :: some (.lst je) :: List.replicate 4 none) P0 kx := by
  subst hg
  have hM : 9 < 11 + m := Nat.lt_of_lt_of_le (by decide) (Nat.le_add_right 11 m)
  have v6 : ∀ j, j < m → Lo6 (rn.getD j (0, 0)) := fun j hj => ⟨Nat.lt_of_lt_of_le (hv j hj).1 (Nat.succ_le_succ hm), Nat.lt_of_lt_of_le (hv j hj).2.1 (Nat.succ_le_succ hm)⟩
  refine sl_to (b := kk) rfl p6 (line9 (by rw [lineL_len]; exact Nat.le_trans hm (by decide))) ?_
  refine Exists.intro (kk + 1) ?_
  refine compE0 (n := n + 40) (T := TT) (Pre := P0 ++ [(lineL Ts rn m).take kk]) (Ts := Ts) (rn := rn) (m := m) (kk := kk) (s := P0.length) (q := q) rfl hm hkm v6 hq (lk_old p6) lk_last ?_
  intro J hJ
  have hl : 11 + m ≤ (P0 ++ [(lineL Ts rn m).take kk] ++ [earlyL Ts rn q kk] ++ J).length := len_le hP
  refine Exists.intro ((earlyI Ts rn q kk).length + 1) ?_
  refine forE_ok (n := n) (M := (P0 ++ [(lineL Ts rn m).take kk] ++ [earlyL Ts rn q kk] ++ J).length) (j := (P0 ++ [(lineL Ts rn m).take kk]).length) (f0 := f) (es := es) (its := earlyI Ts rn q kk) (kv := some (dint (kk : Int))) hm (Nat.lt_of_lt_of_le hM hl) (Nat.lt_of_lt_of_le (List.getElem?_eq_some_iff.mp pe).1 (len_le (Nat.le_refl _))) (hnw _) clo_at
    (earlyI_mem fun j hj => have h := hv j (Nat.lt_trans hj hkm); ⟨h.1, h.2.1⟩) rfl (closed_app (closed_app (closed_app (pcl _ hl) (closed_cons (take_cl lineL_cl) closed_nil)) (closed_cons (earlyL_cl Ts rn q kk) closed_nil)) (hJ _)) ((lk_old lk_last).trans (congrArg some (early_its Ts rn q kk))) (lk_old (lk_old (lk_old p8))) (lk_old (lk_old (lk_old pe))) he hel ?_
    (earlyI Ts rn q kk).length 0 _ f (Nat.zero_add _) (Nat.lt_succ_self _) rfl
  have hnw := hnw (11 + m)
  exact hk _ _ _ ((congrArg (fun X => X ++ [(lineL Ts rn m).take kk] ++ [earlyL Ts rn q kk] ++ J) e0).trans asc4) (.keep clo_arg (.keep clo_at (.keep (clo_lst (Nat.lt_trans (by decide) hM)) (.keep clo_at (.keep (clo_lst (Nat.lt_trans (by decide) hM)) (.drop (.keep (clo_lst (Nat.lt_trans (by decide) hM)) (.keep hnw (.keep (clo_lst (Nat.lt_trans (by decide) hM)) (.keep clo_none (.keep clo_none (.keep clo_none (.keep clo_none (.keep clo_none (.keep clo_none (.keep clo_none (.keep clo_none (.keep clo_none (.keep (clo_lst (Nat.lt_trans (by decide) hM)) (.keep (clo_lst (Nat.lt_trans (by decide) hM)) (.keep clo_none (.keep (clo_lst (Nat.lt_trans (by decide) hM)) (.keep (clo_lst (Nat.lt_trans (by decide) hM)) (.keep clo_none (.keep clo_none (.keep clo_none (.keep (clo_lst hM) (.keep clo_at (.keep clo_none (.keep clo_none (.drop .tail)))))))))))))))))))))))))))))))
/-- the ends in order, then the letters before -/
theorem endM_ok {S : List At} {W : Int} {m kk a b : Nat} {nw : Option D} {f g : Bool} {Ts : Nat → Int} {rn : List NP} {rs : List (List Nat)} {P1 J0 : Cs} (hm : m ≤ 5) (hnw : ∀ k d, nw = some d → closedD k d) (hkm : kk < m) (hv : ∀ j, j < m → Vp (m + 1) (rn.getD j (0, 0))) (hq : rn.getD kk (0, 0) = (a, b))
    (e0 : P1 = CC a0 a1 a2 a3 a4 a5 (lineL Ts rn m) W m rs ++ J0) (hP : 11 + m ≤ P1.length) (p6 : P1[6]? = some (lineL Ts rn m)) (p8 : P1[8]? = some (hueL W (m + 1))) (pcl : ∀ k, 11 + m ≤ k → Closed k P1)
    (hg : (f && (earlyI Ts rn (a, b) kk).all fun x => !crossP W (endsL W a b) x.2) = g)
    (hk : ∀ loc' C' J, C' = CC a0 a1 a2 a3 a4 a5 (lineL Ts rn m) W m rs ++ J → SubL (11 + m) loc' (some (.arg S) :: some (dint ((m : Int) + 1)) :: some (.lst 1) :: some (dint W) :: some (.lst 2) :: none :: some (.lst 3) :: nw :: some (.lst 4) :: none :: none :: none :: none :: none :: none :: none :: none :: none :: some (.lst 5) :: some (.lst 6) :: none :: some (.lst 7) :: some (.lst 8) :: none :: none :: none :: some (.lst 9) :: some (dbool g) :: List.replicate 7 none) → kx .next loc' C') :
    Xs TT (n + 65) (bodyM.drop 1) (some (.arg S) :: some (dint ((m : Int) + 1)) :: some (.lst 1) :: some (dint W) :: some (.lst 2) :: some (dint (kk : Int)) :: some (.lst 3) :: nw :: some (.lst 4) :: none :: none :: none :: none :: none :: none :: none :: none :: none :: some (.lst 5) :: some (.lst 6) :: none :: some (.lst 7) :: some (.lst 8) :: none :: none :: none :: some (.lst 9) :: some (dbool f) :: List.replicate 7 none) P1 kx := by
  have hvk := hv kk hkm
  rw [hq] at hvk
  have a6 : a < 6 := Nat.lt_of_lt_of_le hvk.1 (Nat.succ_le_succ hm)
  have b6 : b < 6 := Nat.lt_of_lt_of_le hvk.2.1 (Nat.succ_le_succ hm)
  have l9 : (lineL Ts rn m).length < 2 ^ 60 := by rw [lineL_len]; exact Nat.lt_of_le_of_lt hm (by decide)
  have hlk : (lineL Ts rn m)[kk]? = some (.tup [.int (Ts kk), .int (a : Int), .int (b : Int)]) := (lineL_at hkm).trans (by rw [hq]; rfl)
  refine op p6 ?_
  refine sq (j := kk) rfl hlk l9 ?_
  refine op p8 ?_
  refine sq (j := a) rfl (hueL_at hvk.1) (len60 (Nat.succ_le_succ hm)) ?_
  refine op p6 ?_
  refine sq (j := kk) rfl hlk l9 ?_
  refine op p8 ?_
  refine sq (j := b) rfl (hueL_at hvk.2.1) (len60 (Nat.succ_le_succ hm)) ?_
  refine op lk_last ?_
  refine Or.inr (Exists.intro _ (Exists.intro _ (And.intro rfl (And.intro ⟨sixty64 (plc_64 a6), sixty64 (plc_64 b6)⟩ ?_)))) 
  exact tailM_ok (n := n) (Ts := Ts) (q := (a, b)) (es := endsL W a b) (je := (P1 ++ [[dflt (f64 (plc W a)), dflt (f64 (plc W b))]]).length) hm hnw hkm hv hq ((congrArg (fun X => X ++ _ ++ _) e0).trans asc) (len_le2 hP) (lk_old (lk_old p6)) (lk_old (lk_old p8)) (lk_last.trans (congrArg some (ends_cell a6 b6)))
    (fun k hk => closed_app (closed_app (pcl k hk) (closed_cons (forall_cons trivial (forall_cons trivial forall_nil)) closed_nil)) (closed_cons (ends_cell a6 b6 ▸ fcell_cl _) closed_nil)) (endsL_lt a6 b6) (Nat.le_of_eq (endsL_len W a b)) hg hk
end
section
open PySem PySem.W PySem.Calls PyProof.Rows PySem.SeqAt
set_option maxHeartbeats 400000
variable {T : Tab} {n : Nat} {loc loc' : Loc} {C C' : Cs} {k : KE} {kx : KX}

variable {a0 a1 a2 a3 a4 a5 : List D}
theorem cl7 {Ts : Nat → Int} {rn : List NP} {m k : Nat} (hb : Closed k [a0, a1, a2, a3, a4, a5]) : Closed k [a0, a1, a2, a3, a4, a5, lineL Ts rn m] := closed_app (C := [a0, a1, a2, a3, a4, a5]) hb (closed_cons lineL_cl closed_nil)
theorem pair_len {A : List D} {rs : List (List Nat)} {W : Int} {m : Nat} {a6 : List D} (h : rs.length = m + 1) : ((CC a0 a1 a2 a3 a4 a5 a6 W m rs) ++ [A]).length = 12 + m := by
  rw [List.length_append, cc_len h]; exact Nat.add_right_comm 11 m 1
theorem stepM_eq {W : Int} {Ts : Nat → Int} {rn : List NP} {i a b : Nat} {st : List (List Nat) × Bool} (hq : rn.getD i (0, 0) = (a, b)) : stepM W rn i st = ((turnR W (turnR W st a b) b a).1, (turnR W (turnR W st a b) b a).2 && (earlyI Ts rn (a, b) i).all fun x => !crossP W (endsL W a b) x.2) := by
  unfold stepM
  rw [early_all, hq]
theorem body_ok {S : List At} {W : Int} {m kk : Nat} {nw : Option D} {f : Bool} {Ts : Nat → Int} {rn : List NP} {rs : List (List Nat)} (hm : m ≤ 5) (hnw : ∀ k d, nw = some d → closedD k d) (hb : ∀ k, Closed k [a0, a1, a2, a3, a4, a5]) (hkm : kk < m) (hv : ∀ j, j < m → Vp (m + 1) (rn.getD j (0, 0))) (hrs : RsOk m rs 50)
    (hk : ∀ loc' C' J, C' = CC a0 a1 a2 a3 a4 a5 (lineL Ts rn m) W m (stepM W rn kk (rs, f)).1 ++ J → SubL (11 + m) loc' (some (.arg S) :: some (dint ((m : Int) + 1)) :: some (.lst 1) :: some (dint W) :: some (.lst 2) :: none :: some (.lst 3) :: nw :: some (.lst 4) :: none :: none :: none :: none :: none :: none :: none :: none :: none :: some (.lst 5) :: some (.lst 6) :: none :: some (.lst 7) :: some (.lst 8) :: none :: none :: none :: some (.lst 9) :: some (dbool (stepM W rn kk (rs, f)).2) :: List.replicate 7 none) → kx .next loc' C') :
    Xs TT (n + 66) bodyM (some (.arg S) :: some (dint ((m : Int) + 1)) :: some (.lst 1) :: some (dint W) :: some (.lst 2) :: some (dint (kk : Int)) :: some (.lst 3) :: nw :: some (.lst 4) :: none :: none :: none :: none :: none :: none :: none :: none :: none :: some (.lst 5) :: some (.lst 6) :: none :: some (.lst 7) :: some (.lst 8) :: none :: none :: none :: some (.lst 9) :: some (dbool f) :: List.replicate 7 none) (CC a0 a1 a2 a3 a4 a5 (lineL Ts rn m) W m rs) kx := by
  have hvk := hv kk hkm
  obtain ⟨a, b, hq⟩ : ∃ a b, rn.getD kk (0, 0) = (a, b) := ⟨_, _, rfl⟩
  rw [stepM_eq (Ts := Ts) hq] at hk
  rw [hq] at hvk
  have h2 := turnR_ok (W := W) (c := a) (turnR_ok (W := W) (c := b) (st := (rs, f)) hrs hvk.1) hvk.2.1
  have l9 : (lineL Ts rn m).length < 2 ^ 60 := by rw [lineL_len]; exact Nat.lt_of_le_of_lt hm (by decide)
  have hlk : (lineL Ts rn m)[kk]? = some (.tup [.int (Ts kk), .int (a : Int), .int (b : Int)]) := (lineL_at hkm).trans (by rw [hq]; rfl)
  refine sq (j := kk) rfl hlk l9 ?_
  refine sq (j := kk) rfl hlk l9 ?_
  refine sq (j := kk) rfl hlk l9 ?_
  refine sq (j := kk) rfl hlk l9 ?_
  refine Exists.intro 3 ?_
  refine pair_ok (n := n) (W := W) (S := S) (m := m) (nw := nw) (kv := some (dint (kk : Int))) (rs := rs) (f := f) (a := a) (b := b) (a0 := a0) (a1 := a1) (a2 := a2) (a3 := a3) (a4 := a4) (a5 := a5) (a6 := lineL Ts rn m) (cc_len hrs.len) (pair_len hrs.len) hm (hnw _) clo_at (cl7 (hb _)) hvk.1 hvk.2.1 hvk.2.2 hrs ?_
  exact endM_ok (n := n) (W := W) (S := S) (m := m) (nw := nw) (Ts := Ts) (rn := rn) (a := a) (b := b) (kk := kk) (J0 := [twoD a b]) hm hnw hkm hv hq rfl (by rw [pair_len h2.len]; exact Nat.add_le_add_right (by decide) m) (lk_old cc_6) (lk_old cc_8) (fun k hk => closed_app (cc_closed hk (cl7 (hb _))) (closed_cons twoD_cl closed_nil)) rfl hk
noncomputable def stM (W : Int) (m : Nat) (rn : List NP) : Nat → List (List Nat) × Bool
  | 0 => (List.replicate (m + 1) [], true)
  | i + 1 => stepM W rn i (stM W m rn i)
theorem RsOk.up {m b b' : Nat} {rs : List (List Nat)} (h : RsOk m rs b) (le : b ≤ b') : RsOk m rs b' := ⟨h.1, fun l hl => ⟨(h.2 l hl).1, Nat.le_trans (h.2 l hl).2 le⟩⟩
theorem stM_ok {W : Int} {m : Nat} {rn : List NP} (hv : ∀ j, j < m → Vp (m + 1) (rn.getD j (0, 0))) : ∀ i, i ≤ m → RsOk m (stM W m rn i).1 (2 * i)
  | 0, _ => ⟨List.length_replicate .., fun l hl => by
      rw [List.eq_of_mem_replicate hl]
      exact ⟨forall_nil, Nat.le_refl _⟩⟩
  | i + 1, h => turnR_ok (W := W) (turnR_ok (W := W) (stM_ok hv i (Nat.le_of_succ_le h)) (hv i h).1) (hv i h).2.1
theorem forM_ok {S : List At} {W : Int} {m M : Nat} {nw : Option D} {Ts : Nat → Int} {rn : List NP} (eM : M = 11 + m) (hm : m ≤ 5) (hnw : ∀ k d, nw = some d → closedD k d) (hb : ∀ k, Closed k [a0, a1, a2, a3, a4, a5]) (hv : ∀ j, j < m → Vp (m + 1) (rn.getD j (0, 0)))
    (hk : kx .next (some (.arg S) :: some (dint ((m : Int) + 1)) :: some (.lst 1) :: some (dint W) :: some (.lst 2) :: none :: some (.lst 3) :: nw :: some (.lst 4) :: none :: none :: none :: none :: none :: none :: none :: none :: none :: some (.lst 5) :: some (.lst 6) :: none :: some (.lst 7) :: some (.lst 8) :: none :: none :: none :: some (.lst 9) :: some (dbool (stM W m rn m).2) :: List.replicate 7 none) (CC a0 a1 a2 a3 a4 a5 (lineL Ts rn m) W m (stM W m rn m).1)) :
    ∀ (r i N : Nat) (z : Int), i + r = m → r < N → z = (m : Int) →
      forL (Xs TT (n + 66)) M [5] (.rng 0 z) bodyM kx N i (some (.arg S) :: some (dint ((m : Int) + 1)) :: some (.lst 1) :: some (dint W) :: some (.lst 2) :: none :: some (.lst 3) :: nw :: some (.lst 4) :: none :: none :: none :: none :: none :: none :: none :: none :: none :: some (.lst 5) :: some (.lst 6) :: none :: some (.lst 7) :: some (.lst 8) :: none :: none :: none :: some (.lst 9) :: some (dbool (stM W m rn i).2) :: List.replicate 7 none) (CC a0 a1 a2 a3 a4 a5 (lineL Ts rn m) W m (stM W m rn i).1) := by
  subst eM
  intro r
  induction r with
  | zero =>
    rintro i N _ h1 h2 rfl
    obtain ⟨N, rfl⟩ := succ_of h2
    obtain rfl : i = m := h1
    exact op (rngE0 (Nat.le_refl _)) hk
  | succ r ih =>
    rintro i N _ h1 h2 rfl
    obtain ⟨N, rfl⟩ := succ_of h2
    have hi := lt_of_add h1
    refine op (rng0 hi) ?_
    have ho := stM_ok (W := W) hv i (Nat.le_of_lt hi)
    have ho1 := stM_ok (W := W) hv (i + 1) hi
    refine body_ok (n := n) (W := W) (S := S) (m := m) (nw := nw) (Ts := Ts) (rn := rn) (kk := i) hm hnw hb hi hv (ho.up (Nat.le_trans (Nat.mul_le_mul_left 2 (Nat.le_trans (Nat.le_of_lt hi) hm)) (by decide))) ?_
    rintro loc' _ J rfl hs
    exact goT (cc_len ho1.len) (cc_closed (Nat.le_refl _) (cl7 (hb _))) hs (ih (i + 1) N _ (add_succ_of h1) (Nat.lt_of_succ_lt_succ h2) rfl)
end
section
open PySem PySem.W PySem.Calls PyProof.Rows PySem.SeqAt
set_option maxHeartbeats 400000
variable {T : Tab} {n : Nat} {loc loc' : Loc} {C C' : Cs} {k : KE} {kx : KX}

theorem cast_ne {x y : Nat} (h : x ≠ y) : (x : Int) ≠ (y : Int) := fun e => h (Int.ofNat.inj e)
theorem img_stp (p : NP) (x : Nat) (h : p.1 ≠ p.2) : img (p.1 : Int) (p.2 : Int) (x : Int) = (stp p x : Int) := by
  unfold img stp
  by_cases e1 : x = p.1
  · subst e1
    rw [if_pos rfl, if_pos (Or.inl rfl), Int.add_comm, Int.add_sub_cancel]
  · by_cases e2 : x = p.2
    · subst e2
      rw [if_neg e1, if_pos rfl, if_pos (Or.inr rfl), Int.add_sub_cancel]
    · rw [if_neg e1, if_neg e2, if_neg (not_or.mpr ⟨(cast_ne e1).symm, (cast_ne e2).symm⟩)]
noncomputable def toPr (p : NP) : Pr := ((p.1 : Int), (p.2 : Int))
theorem walk_take {rn : List NP} {i : Nat} (h : i < rn.length) (s : Nat) : walk (rn.take (i + 1)) s = stp rn[i] (walk (rn.take i) s) := by
  unfold walk
  rw [List.take_add_one, List.getElem?_eq_getElem h, Option.toList_some, List.foldl_append]
  rfl
theorem forP_ok {S : List At} {W : Int} {m s M : Nat} {nw : Option D} {f : Bool} {rn : List NP} (hM : 9 < M) (hnw : ∀ d, nw = some d → closedD M d) (hv : ∀ p ∈ rn, Vp (m + 1) p) (hlen : C.length = M) (hcl : Closed M C) (c3 : C[3]? = some ((rn.map toPr).map pr))
    (hk : kx .next (some (.arg S) :: some (dint ((m : Int) + 1)) :: some (.lst 1) :: some (dint W) :: some (.lst 2) :: none :: some (.lst 3) :: nw :: some (.lst 4) :: none :: none :: none :: none :: none :: none :: none :: none :: none :: some (.lst 5) :: some (.lst 6) :: none :: some (.lst 7) :: some (.lst 8) :: some (dint (s : Int)) :: none :: none :: some (.lst 9) :: some (dbool f) :: none :: none :: none :: none :: none :: some (dint (walk rn s : Int)) :: List.replicate 1 none) C) :
    ∀ (r i N : Nat) (z : Int), i + r = rn.length → r < N → z = (walk (rn.take i) s : Int) →
      forL (Xs TT (n + 40)) M [34] (.d (.lst 3)) bodyP kx N i (some (.arg S) :: some (dint ((m : Int) + 1)) :: some (.lst 1) :: some (dint W) :: some (.lst 2) :: none :: some (.lst 3) :: nw :: some (.lst 4) :: none :: none :: none :: none :: none :: none :: none :: none :: none :: some (.lst 5) :: some (.lst 6) :: none :: some (.lst 7) :: some (.lst 8) :: some (dint (s : Int)) :: none :: none :: some (.lst 9) :: some (dbool f) :: none :: none :: none :: none :: none :: some (dint z) :: List.replicate 1 none) C := by
  intro r
  induction r with
  | zero =>
    intro i N z h1 h2 h3
    obtain ⟨N, rfl⟩ := succ_of h2
    have h1 : i = rn.length := h1
    rw [List.take_of_length_le (Nat.le_of_eq h1.symm)] at h3
    subst h3
    exact op (it_lst c3 (List.getElem?_eq_none (by rw [List.length_map, List.length_map]; exact Nat.le_of_eq h1.symm))) hk
  | succ r ih =>
    rintro i N _ h1 h2 rfl
    obtain ⟨N, rfl⟩ := succ_of h2
    have hi := lt_of_add h1
    have hx : ((rn.map toPr).map pr)[i]? = some (.tup [.int (rn[i].1 : Int), .int (rn[i].2 : Int)]) := by rw [List.getElem?_map, List.getElem?_map, List.getElem?_eq_getElem hi]; rfl
    have hvi := (hv _ (List.getElem_mem hi)).2.2
    refine op (it_lst c3 hx) ?_
    refine Exists.intro _ (Exists.intro _ (Exists.intro _ (And.intro rfl (And.intro rfl ?_))))
    exact goT0 rfl hlen hcl (.keep clo_arg (.keep clo_at (.keep (clo_lst (Nat.lt_trans (by decide) hM)) (.keep clo_at (.keep (clo_lst (Nat.lt_trans (by decide) hM)) (.keep clo_none (.keep (clo_lst (Nat.lt_trans (by decide) hM)) (.keep hnw (.keep (clo_lst (Nat.lt_trans (by decide) hM)) (.keep clo_none (.keep clo_none (.keep clo_none (.keep clo_none (.keep clo_none (.keep clo_none (.keep clo_none (.keep clo_none (.keep clo_none (.keep (clo_lst (Nat.lt_trans (by decide) hM)) (.keep (clo_lst (Nat.lt_trans (by decide) hM)) (.keep clo_none (.keep (clo_lst (Nat.lt_trans (by decide) hM)) (.keep (clo_lst (Nat.lt_trans (by decide) hM)) (.keep clo_at (.keep clo_none (.keep clo_none (.keep (clo_lst hM) (.keep clo_at (.keep clo_none (.keep clo_none (.keep clo_none (.keep clo_none (.keep clo_none (.keep clo_at (.drop .tail))))))))))))))))))))))))))))))))))) (ih (i + 1) N _ (add_succ_of h1) (Nat.lt_of_succ_lt_succ h2) ((img_stp _ _ hvi).trans (congrArg Nat.cast (walk_take hi s).symm)))
theorem forG_ok {S : List At} {W : Int} {m M : Nat} {nw : Option D} {f : Bool} {rn : List NP} (hm : m ≤ 5) (hM : 9 < M) (hnw : ∀ d, nw = some d → closedD M d) (hv : ∀ p ∈ rn, Vp (m + 1) p) (hlen : C.length = M) (hcl : Closed M C) (c3 : C[3]? = some ((rn.map toPr).map pr))
    (hret : (¬ ∀ s, s < m + 1 → walk rn s = (s + 1) % (m + 1)) → ∀ loc C, kx (.ret (dbool (!f))) loc C)
    (hnext : (∀ s, s < m + 1 → walk rn s = (s + 1) % (m + 1)) → kx .next (some (.arg S) :: some (dint ((m : Int) + 1)) :: some (.lst 1) :: some (dint W) :: some (.lst 2) :: none :: some (.lst 3) :: nw :: some (.lst 4) :: none :: none :: none :: none :: none :: none :: none :: none :: none :: some (.lst 5) :: some (.lst 6) :: none :: some (.lst 7) :: some (.lst 8) :: none :: none :: none :: some (.lst 9) :: some (dbool f) :: List.replicate 7 none) C) :
    ∀ (r i N : Nat) (z : Int), i + r = m + 1 → r < N → (∀ s, s < i → walk rn s = (s + 1) % (m + 1)) → z = ((m + 1 : Nat) : Int) →
      forL (Xs TT (n + 43)) M [23] (.rng 0 z) bodyG kx N i (some (.arg S) :: some (dint ((m : Int) + 1)) :: some (.lst 1) :: some (dint W) :: some (.lst 2) :: none :: some (.lst 3) :: nw :: some (.lst 4) :: none :: none :: none :: none :: none :: none :: none :: none :: none :: some (.lst 5) :: some (.lst 6) :: none :: some (.lst 7) :: some (.lst 8) :: none :: none :: none :: some (.lst 9) :: some (dbool f) :: List.replicate 7 none) C := by
  intro r
  induction r with
  | zero =>
    rintro i N _ h1 h2 e3 rfl
    obtain ⟨N, rfl⟩ := succ_of h2
    obtain rfl : i = m + 1 := h1
    exact op (rngE0 (Nat.le_refl _)) (hnext e3)
  | succ r ih =>
    rintro i N _ h1 h2 e3 rfl
    obtain ⟨N, rfl⟩ := succ_of h2
    have hi := lt_of_add h1
    refine op (rng0 hi) ?_
    refine Exists.intro (rn.length + 1) ?_
    subst hlen
    refine forP_ok (n := n) (W := W) (S := S) (m := m) (nw := nw) (f := f) (s := i) (rn := rn) hM hnw hv rfl hcl c3 ?_ rn.length 0 _ _ (Nat.zero_add _) (Nat.lt_succ_self _) rfl
    refine wn (dv (Int.ofNat_lt.mpr (Nat.succ_pos m)) (Int.lt_of_le_of_lt (Int.ofNat_le.mpr (Nat.succ_le_succ hm)) (by decide))) ?_
    refine br_2 (fun c => ?_) (fun c => ?_)
    · refine hret (fun q => ?_) _ _
      exact of_decide_eq_false (not_t c) (congrArg Nat.cast (q i hi))
    · have c' : walk rn i = (i + 1) % (m + 1) := Int.ofNat.inj (of_decide_eq_true (not_f c))
      exact goT0 rfl rfl hcl (.keep clo_arg (.keep clo_at (.keep (clo_lst (Nat.lt_trans (by decide) hM)) (.keep clo_at (.keep (clo_lst (Nat.lt_trans (by decide) hM)) (.keep clo_none (.keep (clo_lst (Nat.lt_trans (by decide) hM)) (.keep hnw (.keep (clo_lst (Nat.lt_trans (by decide) hM)) (.keep clo_none (.keep clo_none (.keep clo_none (.keep clo_none (.keep clo_none (.keep clo_none (.keep clo_none (.keep clo_none (.keep clo_none (.keep (clo_lst (Nat.lt_trans (by decide) hM)) (.keep (clo_lst (Nat.lt_trans (by decide) hM)) (.keep clo_none (.keep (clo_lst (Nat.lt_trans (by decide) hM)) (.keep (clo_lst (Nat.lt_trans (by decide) hM)) (.drop (.keep clo_none (.keep clo_none (.keep (clo_lst hM) (.keep clo_at (.keep clo_none (.keep clo_none (.keep clo_none (.keep clo_none (.keep clo_none (.drop (.drop .tail))))))))))))))))))))))))))))))))))) (ih (i + 1) N _ (add_succ_of h1) (Nat.lt_of_succ_lt_succ h2) (fun s hs => (Nat.lt_succ_iff_lt_or_eq.mp hs).elim (e3 s) fun q => q ▸ c') rfl)
end
section
open PySem PySem.W PySem.Calls PyProof.Rows PySem.SeqAt
set_option maxHeartbeats 400000
variable {T : Tab} {n : Nat} {loc loc' : Loc} {C C' : Cs} {k : KE} {kx : KX}

variable {a0 a1 a2 a4 a5 : List D}
noncomputable def Rt : KX := fun o _ _ => o = .ret (dbool true)
/-- the end of law, from the main loop on -/
theorem segF {S : List At} {W : Int} {m : Nat} {nw : Option D} {Ts : Nat → Int} {rn : List NP} (hm : m ≤ 5) (hnw : ∀ k d, nw = some d → closedD k d) (hb : ∀ k, Closed k [a0, a1, a2, (rn.map toPr).map pr, a4, a5])
    (hv : ∀ p ∈ rn, Vp (m + 1) p) (hrn : rn.length = m) (hfin : (stM W m rn m).2 = true ↔ ∀ s, s < m + 1 → walk rn s = (s + 1) % (m + 1)) :
    Xs TT 383 (lit21t.1.drop 17) (some (.arg S) :: some (dint ((m : Int) + 1)) :: some (.lst 1) :: some (dint W) :: some (.lst 2) :: none :: some (.lst 3) :: nw :: some (.lst 4) :: none :: none :: none :: none :: none :: none :: none :: none :: none :: some (.lst 5) :: some (.lst 6) :: none :: some (.lst 7) :: some (.lst 8) :: none :: none :: none :: some (.lst 9) :: some (dbool true) :: List.replicate 7 none) ([a0, a1, a2, (rn.map toPr).map pr, a4, a5, lineL Ts rn m, plcL W (m + 1), hueL W (m + 1), refs (m + 1)] ++ List.replicate (m + 1) []) Rt := by
  have e0 : ([a0, a1, a2, (rn.map toPr).map pr, a4, a5, lineL Ts rn m, plcL W (m + 1), hueL W (m + 1), refs (m + 1)] ++ List.replicate (m + 1) [] : Cs) = CC a0 a1 a2 ((rn.map toPr).map pr) a4 a5 (lineL Ts rn m) W m (stM W m rn 0).1 :=
    congrArg ([a0, a1, a2, (rn.map toPr).map pr, a4, a5, lineL Ts rn m, plcL W (m + 1), hueL W (m + 1), refs (m + 1)] ++ ·) ((List.map_replicate (f := fcell) (a := ([] : List Nat)) (n := m + 1)).symm : List.replicate (m + 1) ([] : List D) = _)
  have hv' : ∀ j, j < m → Vp (m + 1) (rn.getD j (0, 0)) := fun j hj => hv _ (getD_mem (hrn.symm ▸ hj))
  have hl := cc_len (a0 := a0) (a1 := a1) (a2 := a2) (a3 := (rn.map toPr).map pr) (a4 := a4) (a5 := a5) (a6 := lineL Ts rn m) (W := W) (stM_ok (W := W) hv' m (Nat.le_refl _)).len
  have em : ((m : Int) + 1 - Int.ofNat 1) = (m : Int) := Int.add_sub_cancel (m : Int) 1
  rw [e0]
  refine And.intro ?_ ?_
  · rw [em]; exact m40 hm
  refine Exists.intro (m + 1) ?_
  refine forM_ok (n := 315) (W := W) (S := S) (m := m) (nw := nw) (Ts := Ts) (rn := rn) (cc_len (stM_ok (W := W) hv' 0 (Nat.zero_le _)).len) hm hnw hb hv' ?_ m 0 (m + 1) _ (Nat.zero_add _) (Nat.lt_succ_self _) em
  refine And.intro (m41 hm) ?_
  refine Exists.intro (m + 2) ?_
  refine forG_ok (n := 337) (W := W) (S := S) (m := m) (nw := nw) (f := (stM W m rn m).2) (rn := rn) hm (hl ▸ Nat.lt_of_lt_of_le (by decide) (Nat.le_add_right 11 m)) (hnw _) hv rfl (cc_closed (Nat.le_of_eq hl.symm) (cl7 (hb _))) cc_3 ?_ ?_ (m + 1) 0 (m + 2) _ (Nat.zero_add _) (Nat.lt_succ_self _) (fun s hs => absurd hs (Nat.not_lt_zero s)) rfl
  · intro hno loc C
    have hf : (stM W m rn m).2 = false := Bool.eq_false_iff.mpr fun e => hno (hfin.mp e)
    show Out.ret (dbool (!(stM W m rn m).2)) = .ret (dbool true)
    rw [hf]; rfl
  · intro hyes
    show Out.ret (dbool (stM W m rn m).2) = .ret (dbool true)
    rw [hfin.mpr hyes]
end
section
open PySem PySem.W PySem.Calls PyProof.Rows PySem.SeqAt
set_option maxHeartbeats 400000
variable {T : Tab} {n : Nat} {loc loc' : Loc} {C C' : Cs} {k : KE} {kx : KX}

/-! who lies where: the places stand in the order of the spots -/
theorem plc_mono {W : Int} {x y : Nat} (h : x < y) : plc W x < plc W y := Nat.lt_of_lt_of_le (plc_bd W x).2 (Nat.le_trans (Nat.mul_le_mul_left 10 h) (plc_bd W y).1)
theorem plc_lt {W : Int} {x y : Nat} : plc W x < plc W y ↔ x < y :=
  ⟨fun h => Nat.lt_of_not_le fun q => (Nat.lt_or_eq_of_le q).elim (fun q => Nat.lt_asymm h (plc_mono q)) fun q => Nat.lt_irrefl _ (q ▸ h : plc W y < plc W y), plc_mono⟩
theorem mod_up {a b N : Nat} (h : a < b) (hb : b < N) : (b + N - a) % N = b - a := by
  rw [Nat.sub_add_comm (Nat.le_of_lt h), Nat.add_mod_right, Nat.mod_eq_of_lt (Nat.lt_of_le_of_lt (Nat.sub_le _ _) hb)]
theorem mod_dn {a b N : Nat} (h : b < a) (ha : a < N) : (b + N - a) % N = b + N - a :=
  Nat.mod_eq_of_lt (Nat.sub_lt_left_of_lt_add (Nat.le_trans (Nat.le_of_lt ha) (Nat.le_add_left _ _)) (Nat.add_lt_add_right h N))
theorem turn_cmp {a b c N : Nat} (ha : a < N) (hb : b < N) (hc : c < N) (nb : b ≠ a) (nc : c ≠ a) : (b + N - a) % N < (c + N - a) % N ↔ (a < b ∧ ¬ a < c) ∨ ((a < b ↔ a < c) ∧ b < c) := by
  have aN : ∀ z, a ≤ z + N := fun z => Nat.le_trans (Nat.le_of_lt ha) (Nat.le_add_left N z)
  by_cases h1 : a < b
  · by_cases h2 : a < c
    · rw [mod_up h1 hb, mod_up h2 hc]
      exact ⟨fun h => .inr ⟨iff_of_true h1 h2, (Nat.sub_lt_sub_iff_right (Nat.le_of_lt h1)).mp h⟩, fun h => h.elim (fun q => absurd h2 q.2) fun q => (Nat.sub_lt_sub_iff_right (Nat.le_of_lt h1)).mpr q.2⟩
    · rw [mod_up h1 hb, mod_dn (Nat.lt_of_le_of_ne (Nat.le_of_not_lt h2) nc) ha]
      exact iff_of_true (Nat.sub_lt_sub_right (Nat.le_of_lt h1) (Nat.lt_of_lt_of_le hb (Nat.le_add_left _ _))) (.inl ⟨h1, h2⟩)
  · have h1' := Nat.lt_of_le_of_ne (Nat.le_of_not_lt h1) nb
    by_cases h2 : a < c
    · rw [mod_dn h1' ha, mod_up h2 hc]
      exact iff_of_false (Nat.not_lt.mpr (Nat.sub_le_sub_right (Nat.le_trans (Nat.le_of_lt hc) (Nat.le_add_left _ _)) a)) fun h => h.elim (fun q => h1 q.1) fun q => h1 (q.1.mpr h2)
    · rw [mod_dn h1' ha, mod_dn (Nat.lt_of_le_of_ne (Nat.le_of_not_lt h2) nc) ha]
      exact ⟨fun h => .inr ⟨iff_of_false h1 h2, Nat.lt_of_add_lt_add_right ((Nat.sub_lt_sub_iff_right (aN b)).mp h)⟩, fun h => h.elim (fun q => absurd q.1 h1) fun q => (Nat.sub_lt_sub_iff_right (aN b)).mpr (Nat.add_lt_add_right q.2 N)⟩
theorem dst_rk {W : Int} {n v x y : Nat} (hn : n ≤ 6) (hv : v < n) (hx : x < n) (hy : y < n) (hxv : x ≠ v) (hyv : y ≠ v) : dst W v x < dst W v y ↔ rk n v x < rk n v y := by
  have ne : ∀ {z}, z ≠ v → plc W z ≠ plc W v := fun {z} h e => h (Nat.le_antisymm (Nat.le_of_not_lt fun q => Nat.lt_irrefl _ (e ▸ plc_lt.mpr q)) (Nat.le_of_not_lt fun q => Nat.lt_irrefl _ (e ▸ plc_lt.mpr q)))
  refine (turn_cmp (plc_64 (Nat.lt_of_lt_of_le hv hn)) (plc_64 (Nat.lt_of_lt_of_le hx hn)) (plc_64 (Nat.lt_of_lt_of_le hy hn)) (ne hxv) (ne hyv)).trans (Iff.trans ?_ (turn_cmp hv hx hy hxv hyv).symm)
  rw [plc_lt, plc_lt, plc_lt]
/-! the codes of the ends -/
theorem posB2 {α : Type} {q : α → Bool} {d x y : α} : posB q d [x, y] = if q y = true then (if q x = true then 0 else 1) else 2 := by
  unfold posB
  cases h1 : q y <;> cases h2 : q x <;> simp [bsR, h1, h2]
theorem dec_plc {W : Int} {x y : Nat} : decide (plc W x < plc W y) = decide (x < y) := decide_eq_decide.mpr plc_lt
theorem sd2 {W : Int} {p q x : Nat} : sd W [plc W p, plc W q] x = posL [p, q] x + posR [p, q] x := by
  unfold sd posL posR
  rw [posB2, posB2, posB2, posB2, dec_plc, dec_plc, dec_plc, dec_plc]
noncomputable def sdN (a b x : Nat) : Nat := if b < a then posL [b, a] x + posR [b, a] x else posL [a, b] x + posR [a, b] x
theorem sdN_code : ∀ a < 6, ∀ b < 6, ∀ x < 6, sdN a b x = code a b x := by
  unfold sdN posL posR
  simp only [posB2]
  decide +kernel
theorem sd_code {W : Int} {a b x : Nat} (ha : a < 6) (hb : b < 6) (hx : x < 6) : sd W (endsL W a b) x = code a b x := by
  refine Eq.trans ?_ (sdN_code a ha b hb x hx)
  unfold endsL sdN
  by_cases h : b < a
  · rw [if_pos h, if_pos (plc_lt.mpr h), sd2]
  · rw [if_neg h, if_neg fun q => h (plc_lt.mp q), sd2]
/-- by the codes: the two cross -/
noncomputable def crossC (u v : Nat) : Bool := sameP (u, v) (0, 2) || sameP (u, v) (2, 4)
theorem crossP_eq {W : Int} {a b : Nat} {p : NP} (ha : a < 6) (hb : b < 6) (hp : Lo6 p) : crossP W (endsL W a b) p = crossC (code a b p.1) (code a b p.2) := by
  unfold crossP crossC
  rw [sd_code ha hb hp.1, sd_code ha hb hp.2]
theorem same_all : ∀ a < 6, ∀ b < 6, ∀ c < 6, ∀ d < 6, (Nat.beq a b || (!sameP (c, d) (a, b) || !crossC (code a b c) (code a b d))) = true := by decide +kernel
theorem same_no {a b c d : Nat} (ha : a < 6) (hb : b < 6) (hc : c < 6) (hd : d < 6) (hn : a ≠ b) (h : sameP (c, d) (a, b) = true) : crossC (code a b c) (code a b d) = false := by
  have q := same_all a ha b hb c hc d hd
  rw [h, show Nat.beq a b = false from Bool.eq_false_iff.mpr fun e => hn (Nat.eq_of_beq_eq_true e)] at q
  exact not_t q
theorem imp_b {a c x y : Nat} : (!Nat.beq a c || Nat.blt x y) = true ↔ (a = c → x < y) := by
  by_cases h : a = c
  · subst h
    rw [Nat.beq_refl]
    exact ⟨fun q _ => Nat.le_of_ble_eq_true q, fun q => Nat.ble_eq_true_of_le (q rfl)⟩
  · rw [show Nat.beq a c = false from Bool.eq_false_iff.mpr fun e => h (Nat.eq_of_beq_eq_true e)]
    exact iff_of_true rfl fun e => absurd e h
theorem not4 (A B E F : Bool) : (!A && (!B && (!E && !F))) = !((A || B) || (E || F)) := by cases A <;> cases B <;> cases E <;> rfl
theorem and_iff2 {a b : Bool} {p q : Prop} (h1 : a = true ↔ p) (h2 : b = true ↔ q) : (a && b) = true ↔ p ∧ q := Bool.and_eq_true_iff.trans (and_congr h1 h2)
theorem okP_iff {n : Nat} {p q : NP} : okP n p q = true ↔ (p.1 = q.1 → rk n p.1 p.2 < rk n q.1 q.2) ∧ (p.1 = q.2 → rk n p.1 p.2 < rk n q.2 q.1) ∧ (p.2 = q.1 → rk n p.2 p.1 < rk n q.1 q.2) ∧ (p.2 = q.2 → rk n p.2 p.1 < rk n q.2 q.1) ∧ crossC (code q.1 q.2 p.1) (code q.1 q.2 p.2) = false := by
  refine and_iff2 imp_b (and_iff2 imp_b (and_iff2 imp_b (and_iff2 imp_b ?_)))
  rw [not4]
  exact Iff.of_eq (Bool.not_eq_true' _)
/-- one letter beside an earlier one -/
theorem one_iff {W : Int} {n a b : Nat} {p : NP} (hn : n ≤ 6) (hq : Vp n (a, b)) (hp : Vp n p) :
    (((p.1 = a → dst W a p.2 < dst W a b) ∧ (p.2 = a → dst W a p.1 < dst W a b)) ∧ ((p.1 = b → dst W b p.2 < dst W b a) ∧ (p.2 = b → dst W b p.1 < dst W b a)) ∧ (sameP p (a, b) = true ∨ crossP W (endsL W a b) p = false)) ↔ okP n p (a, b) = true := by
  have a6 := Nat.lt_of_lt_of_le hq.1 hn
  have b6 := Nat.lt_of_lt_of_le hq.2.1 hn
  have p6 : Lo6 p := ⟨Nat.lt_of_lt_of_le hp.1 hn, Nat.lt_of_lt_of_le hp.2.1 hn⟩
  have d1 : ∀ {v w : Nat}, v < n → w < n → w ≠ v → ∀ {x y : Nat}, y < n → x ≠ y → ((x = v → dst W v y < dst W v w) ↔ (x = v → rk n x y < rk n v w)) := fun {v w} hv hw hwv {x y} hy hxy => imp_congr_right fun e => by
    subst e; exact dst_rk hn hv hy hw hxy.symm hwv
  have e1 := d1 hq.1 hq.2.1 hq.2.2.symm hp.2.1 hp.2.2
  have e2 := d1 hq.1 hq.2.1 hq.2.2.symm hp.1 hp.2.2.symm
  have e3 := d1 hq.2.1 hq.1 hq.2.2 hp.2.1 hp.2.2
  have e4 := d1 hq.2.1 hq.1 hq.2.2 hp.1 hp.2.2.symm
  rw [okP_iff, crossP_eq a6 b6 p6]
  exact ⟨fun h => ⟨e1.mp h.1.1, e3.mp h.2.1.1, e2.mp h.1.2, e4.mp h.2.1.2, h.2.2.elim (same_no a6 b6 p6.1 p6.2 hq.2.2) id⟩, fun h => ⟨⟨e1.mpr h.1, e2.mpr h.2.2.1⟩, ⟨e3.mpr h.2.1, e4.mpr h.2.2.2.1⟩, .inr h.2.2.2.2⟩⟩
end
section
open PySem PySem.W PySem.Calls PyProof.Rows PySem.SeqAt
set_option maxHeartbeats 400000
variable {T : Tab} {n : Nat} {loc loc' : Loc} {C C' : Cs} {k : KE} {kx : KX}

theorem getD_set {rs : List (List Nat)} {a v : Nat} {X : List Nat} (ha : a < rs.length) : (rs.set a X).getD v [] = if v = a then X else rs.getD v [] := by
  rw [List.getD_eq_getElem?_getD, List.getElem?_set]
  by_cases h : v = a
  · subst h; rw [if_pos rfl, if_pos rfl, if_pos ha]; rfl
  · rw [if_neg (Ne.symm h), if_neg h, List.getD_eq_getElem?_getD]
theorem turn_len {W : Int} {st : List (List Nat) × Bool} {a b : Nat} : (turnR W st a b).1.length = st.1.length := List.length_set ..
theorem turn_mem {W : Int} {st : List (List Nat) × Bool} {a b v x : Nat} (ha : a < st.1.length) : x ∈ (turnR W st a b).1.getD v [] ↔ (a = v ∧ x = dst W v b) ∨ x ∈ st.1.getD v [] := by
  show x ∈ (st.1.set a _).getD v [] ↔ _
  rw [getD_set ha]
  by_cases h : v = a
  · subst h
    rw [if_pos rfl, insN_mem]
    exact or_congr ⟨fun e => ⟨rfl, e⟩, fun e => e.2⟩ Iff.rfl
  · rw [if_neg h]
    exact ⟨.inr, fun q => q.elim (fun e => absurd e.1.symm h) id⟩
theorem turn_so {W : Int} {st : List (List Nat) × Bool} {a b : Nat} (ha : a < st.1.length) (so : ∀ v, (st.1.getD v []).Pairwise (· ≤ ·)) (v : Nat) : ((turnR W st a b).1.getD v []).Pairwise (· ≤ ·) := by
  show ((st.1.set a _).getD v []).Pairwise _
  rw [getD_set ha]
  by_cases h : v = a
  · rw [if_pos h]; exact insN_sorted (so a) _
  · rw [if_neg h]; exact so v
theorem turn_fl {W : Int} {st : List (List Nat) × Bool} {a b : Nat} (so : ∀ v, (st.1.getD v []).Pairwise (· ≤ ·)) : (turnR W st a b).2 = true ↔ st.2 = true ∧ ¬ ∃ y ∈ st.1.getD a [], dst W a b ≤ y :=
  and_iff2 Iff.rfl ((Iff.of_eq (Bool.not_eq_true' _)).trans (decide_eq_false_iff_not.trans (not_congr (posL_lt (so a) _))))
/-- a hue that the earlier letters brought to a spot -/
noncomputable def Told (W : Int) (rn : List NP) (v x j : Nat) : Prop := ((rn.getD j (0, 0)).1 = v ∧ x = dst W v (rn.getD j (0, 0)).2) ∨ ((rn.getD j (0, 0)).2 = v ∧ x = dst W v (rn.getD j (0, 0)).1)
theorem clear_iff {W : Int} {rn : List NP} {i v t : Nat} {l : List Nat} (me : ∀ x, x ∈ l ↔ ∃ j, j < i ∧ Told W rn v x j) : (¬ ∃ y ∈ l, t ≤ y) ↔ ∀ j, j < i → ((rn.getD j (0, 0)).1 = v → dst W v (rn.getD j (0, 0)).2 < t) ∧ ((rn.getD j (0, 0)).2 = v → dst W v (rn.getD j (0, 0)).1 < t) := by
  refine ⟨fun h j hj => ⟨fun e => Nat.lt_of_not_le fun q => h ⟨_, (me _).mpr ⟨j, hj, .inl ⟨e, rfl⟩⟩, q⟩, fun e => Nat.lt_of_not_le fun q => h ⟨_, (me _).mpr ⟨j, hj, .inr ⟨e, rfl⟩⟩, q⟩⟩, fun h ⟨y, hy, q⟩ => ?_⟩
  obtain ⟨j, hj, hc⟩ := (me y).mp hy
  exact hc.elim (fun e => Nat.not_le_of_lt ((h j hj).1 e.1) (e.2 ▸ q)) fun e => Nat.not_le_of_lt ((h j hj).2 e.1) (e.2 ▸ q)
structure Inv (W : Int) (m : Nat) (rn : List NP) (i : Nat) (st : List (List Nat) × Bool) : Prop where
  ln : st.1.length = m + 1
  so : ∀ v, (st.1.getD v []).Pairwise (· ≤ ·)
  me : ∀ v x, x ∈ st.1.getD v [] ↔ ∃ j, j < i ∧ Told W rn v x j
  fi : st.2 = true ↔ ∀ l, l < i → ∀ j, j < l → okP (m + 1) (rn.getD j (0, 0)) (rn.getD l (0, 0)) = true
theorem all_range {i : Nat} {f : Nat → Bool} {P : Nat → Prop} (h : ∀ j, j < i → (f j = true ↔ P j)) : (List.range i).all f = true ↔ ∀ j, j < i → P j :=
  List.all_eq_true.trans ⟨fun g j hj => (h j hj).mp (g j (List.mem_range.mpr hj)), fun g j hj => (h j (List.mem_range.mp hj)).mpr (g j (List.mem_range.mp hj))⟩
theorem or_not {a b : Bool} : (a || !b) = true ↔ a = true ∨ b = false := (Iff.of_eq (Bool.or_eq_true _ _)).trans (or_congr Iff.rfl (Iff.of_eq (Bool.not_eq_true' _)))
theorem all3 {i : Nat} {P Q R S : Nat → Prop} (h : ∀ j, j < i → (P j ∧ Q j ∧ R j ↔ S j)) : ((∀ j, j < i → P j) ∧ (∀ j, j < i → Q j) ∧ ∀ j, j < i → R j) ↔ ∀ j, j < i → S j :=
  ⟨fun q j hj => (h j hj).mp ⟨q.1 j hj, q.2.1 j hj, q.2.2 j hj⟩, fun q => ⟨fun j hj => ((h j hj).mpr (q j hj)).1, fun j hj => ((h j hj).mpr (q j hj)).2.1, fun j hj => ((h j hj).mpr (q j hj)).2.2⟩⟩
theorem inv_step {W : Int} {m i : Nat} {rn : List NP} {st : List (List Nat) × Bool} (hm : m ≤ 5) (hi : i < m) (hv : ∀ j, j < m → Vp (m + 1) (rn.getD j (0, 0))) (I : Inv W m rn i st) : Inv W m rn (i + 1) (stepM W rn i st) := by
  have hvi := hv i hi
  obtain ⟨a, b, hq⟩ : ∃ a b, rn.getD i (0, 0) = (a, b) := ⟨_, _, rfl⟩
  have es : stepM W rn i st = ((turnR W (turnR W st a b) b a).1, (turnR W (turnR W st a b) b a).2 && (List.range i).all fun j => sameP (rn.getD j (0, 0)) (a, b) || !crossP W (endsL W a b) (rn.getD j (0, 0))) := by
    unfold stepM; rw [hq]
  rw [hq] at hvi
  rw [es]
  have ha : a < st.1.length := I.ln.symm ▸ hvi.1
  have hb : b < (turnR W st a b).1.length := turn_len.trans I.ln ▸ hvi.2.1
  have so1 := turn_so (W := W) (b := b) ha I.so
  have me1 : ∀ x, x ∈ (turnR W st a b).1.getD b [] ↔ ∃ j, j < i ∧ Told W rn b x j := fun x => (turn_mem ha).trans (Iff.trans ⟨fun h => h.elim (fun q => absurd q.1 hvi.2.2) id, .inr⟩ (I.me b x))
  refine ⟨turn_len.trans (turn_len.trans I.ln), turn_so hb so1, fun v x => ?_, ?_⟩
  · refine (turn_mem hb).trans ((or_congr Iff.rfl (turn_mem ha)).trans ?_)
    rw [I.me, Nat.exists_lt_succ_right]
    unfold Told
    rw [hq, ← or_assoc, or_comm, or_comm (a := b = v ∧ _)]
  · refine (and_iff2 ((turn_fl so1).trans (and_congr (turn_fl I.so) Iff.rfl)) (all_range fun j _ => or_not)).trans ?_
    rw [clear_iff (I.me a), clear_iff me1, I.fi, Nat.forall_lt_succ_right, and_assoc, and_assoc, hq]
    exact and_congr Iff.rfl (all3 fun j hj => one_iff (Nat.succ_le_succ hm) hvi (hv j (Nat.lt_trans hj hi)))
theorem rep_nil {n v : Nat} : (List.replicate n ([] : List Nat)).getD v [] = [] := by
  rw [List.getD_eq_getElem?_getD, List.getElem?_replicate]
  split
  · rfl
  · rfl
theorem inv_all {W : Int} {m : Nat} {rn : List NP} (hm : m ≤ 5) (hv : ∀ j, j < m → Vp (m + 1) (rn.getD j (0, 0))) : ∀ i, i ≤ m → Inv W m rn i (stM W m rn i)
  | 0, _ => ⟨List.length_replicate .., fun v => (rep_nil (n := m + 1) (v := v)).symm ▸ List.Pairwise.nil, fun v x => iff_of_false (fun h => absurd ((rep_nil (n := m + 1) (v := v)) ▸ h) List.not_mem_nil) (fun ⟨j, hj, _⟩ => Nat.not_lt_zero j hj), iff_of_true rfl fun l hl => absurd hl (Nat.not_lt_zero l)⟩
  | i + 1, h => inv_step hm h hv (inv_all hm hv i (Nat.le_of_succ_le h))
/-- the law of Goulden and Yong, as law asks it -/
theorem fits_iff {W : Int} {m : Nat} {rn : List NP} (hm : m = 4 ∨ m = 5) (hrn : rn.length = m) (hv : ∀ p ∈ rn, Vp (m + 1) p) : (stM W m rn m).2 = true ↔ ∀ s, s < m + 1 → walk rn s = (s + 1) % (m + 1) := by
  have I := inv_all (W := W) (m := m) (rn := rn) (by rcases hm with rfl | rfl <;> decide) (fun j hj => hv _ (getD_mem (hrn.symm ▸ hj))) m (Nat.le_refl _)
  have hp : (∀ l, l < m → ∀ j, j < l → okP (m + 1) (rn.getD j (0, 0)) (rn.getD l (0, 0)) = true) ↔ rn.Pairwise fun p q => okP (m + 1) p q = true := by
    subst hrn
    rw [List.pairwise_iff_getElem]
    exact ⟨fun h i j h1 h2 h3 => getD_at (d := ((0, 0) : NP)) h1 ▸ getD_at (d := ((0, 0) : NP)) h2 ▸ h j h2 i h3, fun h l hl j hj => (getD_at (d := ((0, 0) : NP)) hl).symm ▸ (getD_at (d := ((0, 0) : NP)) (Nat.lt_trans hj hl)).symm ▸ h j l (Nat.lt_trans hj hl) hl hj⟩
  refine (I.fi.trans hp).trans ?_
  rcases hm with rfl | rfl
  · exact gy5 hrn hv
  · exact gy6 hrn hv
end
section
open PySem PySem.W PySem.Calls PyProof.Rows PySem.SeqAt
set_option maxHeartbeats 400000
variable {T : Tab} {n : Nat} {loc loc' : Loc} {C C' : Cs} {k : KE} {kx : KX}

/-- a true pair of spots -/
noncomputable def VPr (n : Nat) (p : Pr) : Prop := ∃ q : NP, p = toPr q ∧ Vp n q
theorem stp_inj {p : NP} (h : p.1 ≠ p.2) {x y : Nat} (e : stp p x = stp p y) : x = y := by
  have := congrArg (stp p) e
  rwa [stp_stp h, stp_stp h] at this
theorem img_v {n : Nat} {p q : Pr} (hp : VPr n p) (hq : VPr n q) : VPr n (img p.1 p.2 q.1, img p.1 p.2 q.2) := by
  obtain ⟨p, rfl, hp⟩ := hp
  obtain ⟨q, rfl, hq⟩ := hq
  exact ⟨(stp p q.1, stp p q.2), Prod.ext (img_stp p q.1 hp.2.2) (img_stp p q.2 hp.2.2), stp_lt hp hq.1, stp_lt hp hq.2.1, fun e => hq.2.2 (stp_inj hp.2.2 e)⟩
theorem getD_v {n : Nat} {row : List Pr} (h : ∀ p ∈ row, VPr n p) {i : Nat} (hi : i < row.length) : VPr n (row.getD i (0, 0)) := h _ (getD_mem hi)
theorem cut_v {P : Pr → Prop} {row mid : List Pr} (h : ∀ p ∈ row, P p) (hm : ∀ p ∈ mid, P p) (i j : Nat) : ∀ p ∈ row.take i ++ mid ++ row.drop j, P p := fun p hp =>
  (List.mem_append.mp hp).elim (fun hp => (List.mem_append.mp hp).elim (fun hp => h p (List.mem_of_mem_take hp)) (hm p)) fun hp => h p (List.mem_of_mem_drop hp)
theorem moved_v {n : Nat} {row : List Pr} (h : ∀ p ∈ row, VPr n p) {i : Nat} (hi : i + 1 < row.length) (b : Bool) : ∀ p ∈ moved row i b, VPr n p := by
  have h1 := getD_v h (Nat.lt_of_succ_lt hi)
  have h2 := getD_v h hi
  refine cut_v h ?_ _ _
  cases b with
  | true => exact forall_cons h2 (forall_cons (img_v h2 h1) forall_nil)
  | false => exact forall_cons (img_v h1 h2) (forall_cons h1 forall_nil)
theorem two_of {m : Nat} (h : 3 ≤ m) : 0 < ((m + 1 : Nat) : Int) - 2 ∧ ((m + 1 : Nat) : Int) - 2 ≤ ((m - 1 : Nat) : Int) := by omega
theorem ix_2 {m : Nat} (h : 3 ≤ m) (z : Int) : (z % (((m + 1 : Nat) : Int) - 2)).toNat + 1 < m := Nat.add_lt_of_lt_sub (md_lt (two_of h).1 (two_of h).2)
theorem fold_v {m : Nat} (hm : 3 ≤ m) : ∀ (zs : List Int) (row : List Pr), row.length = m → (∀ p ∈ row, VPr (m + 1) p) → ∀ p ∈ zs.foldl (movedZ (m + 1)) row, VPr (m + 1) p
  | [], _, _, h => h
  | z :: zs, row, hl, h => fold_v hm zs (movedZ (m + 1) row z) ((moved_len _ _ _ (hl.symm ▸ ix_2 hm z)).trans hl) (moved_v h (hl.symm ▸ ix_2 hm z) _)
theorem swap_v {m : Nat} (hm : 3 ≤ m) (w : Int) {row : List Pr} (hl : row.length = m) (h : ∀ p ∈ row, VPr (m + 1) p) : (∀ p ∈ exchSwap w (m + 1) row, VPr (m + 1) p) ∧ (exchSwap w (m + 1) row).length = m := by
  have hi : (w / 3 % (((m + 1 : Nat) : Int) - 2)).toNat + 1 < row.length := hl.symm ▸ ix_2 hm _
  unfold exchSwap
  split
  · exact ⟨cut_v h (forall_cons (getD_v h hi) (forall_cons (getD_v h (Nat.lt_of_succ_lt hi)) forall_nil)) _ _, (swap_len row _ hi).trans hl⟩
  · exact ⟨h, hl⟩
theorem other_ne {a c m : Nat} (hc : c < m) : a ≠ (a + 1 + c) % (m + 1) := by
  intro e
  by_cases h : a + 1 + c < m + 1
  · rw [Nat.mod_eq_of_lt h, Nat.add_assoc] at e
    exact Nat.lt_irrefl a (Nat.lt_of_lt_of_eq (Nat.lt_add_of_pos_right (Nat.add_comm 1 c ▸ Nat.succ_pos c)) e.symm)
  · have h1 := Nat.mod_le (a + 1 + c - (m + 1)) (m + 1)
    rw [← Nat.mod_eq_sub_mod (Nat.le_of_not_lt h), ← e] at h1
    omega
theorem putPair_v {m : Nat} (hm : 0 < m) (w : Int) : VPr (m + 1) (putPair w (m + 1)) := by
  obtain ⟨a, ea, ha⟩ := mod_nat (w / 12) (m + 1) (Nat.succ_pos m)
  obtain ⟨c, ec, hc⟩ := mod_nat (w / 72) m hm
  refine ⟨(a, (a + 1 + c) % (m + 1)), ?_, ha, Nat.mod_lt _ (Nat.succ_pos m), other_ne hc⟩
  unfold putPair toPr
  rw [show (((m + 1 : Nat) : Int) - 1) = (m : Int) from Int.add_sub_cancel (m : Int) 1, ea, ec]
  rfl
theorem cut_len {row : List Pr} {q : Pr} {i : Nat} (h : i < row.length) : (row.take i ++ [q] ++ row.drop (i + 1)).length = row.length := by
  rw [List.append_assoc, List.length_append, List.length_take, Nat.min_eq_left (Nat.le_of_lt h)]
  show i + ((row.drop (i + 1)).length + 1) = _
  rw [List.length_drop, Nat.add_left_comm, Nat.sub_add_cancel h]
theorem put_v {m : Nat} (hm : 0 < m) (w : Int) {row : List Pr} (hl : row.length = m) (h : ∀ p ∈ row, VPr (m + 1) p) : (∀ p ∈ exchPut w (m + 1) row, VPr (m + 1) p) ∧ (exchPut w (m + 1) row).length = m := by
  have e1 : (((m + 1 : Nat) : Int) - 1) = (m : Int) := Int.add_sub_cancel (m : Int) 1
  have hi : (w / 3 % (((m + 1 : Nat) : Int) - 1)).toNat < row.length := by rw [e1, hl]; exact md_lt (Int.ofNat_lt.mpr hm) (Int.le_refl _)
  unfold exchPut
  split
  · exact ⟨cut_v h (forall_cons (putPair_v hm w) forall_nil) _ _, (cut_len hi).trans hl⟩
  · exact ⟨h, hl⟩
theorem exch_v {m : Nat} (hm : 3 ≤ m) (w : Int) {zs : List Int} (hz : zs.length = m) : (∀ p ∈ exch w zs, VPr (m + 1) p) ∧ (exch w zs).length = m := by
  unfold exch
  rw [hz]
  have h0 : ∀ p ∈ row0 m, VPr (m + 1) p := fun p hp => by
    obtain ⟨i, hi, rfl⟩ := List.mem_map.mp hp
    exact ⟨(0, i + 1), rfl, Nat.succ_pos m, Nat.succ_lt_succ (List.mem_range.mp hi), (Nat.succ_ne_zero i).symm⟩
  have h1 := swap_v hm w (fold_len (Nat.le_succ_of_le hm) zs (row0 m) (row0_len m)) (fold_v hm zs _ (row0_len m) h0)
  exact put_v (Nat.lt_of_lt_of_le (by decide) hm) w h1.2 h1.1
theorem pr_nat {n : Nat} : ∀ {row : List Pr}, (∀ p ∈ row, VPr n p) → ∃ rn : List NP, row = rn.map toPr ∧ ∀ p ∈ rn, Vp n p
  | [], _ => ⟨[], rfl, forall_nil⟩
  | p :: row, h => by
    obtain ⟨q, hq, vq⟩ := h p (List.mem_cons_self ..)
    obtain ⟨rn, e, hv⟩ := pr_nat (row := row) fun x hx => h x (List.mem_cons_of_mem _ hx)
    exact ⟨q :: rn, congr (congrArg List.cons hq) e, forall_cons vq hv⟩
theorem getD_toPr (rn : List NP) (j : Nat) : (rn.map toPr).getD j (0, 0) = toPr (rn.getD j (0, 0)) := by
  rw [List.getD_eq_getElem?_getD, List.getD_eq_getElem?_getD, List.getElem?_map]
  cases rn[j]? with
  | none => rfl
  | some p => rfl
theorem line_eq (m : Nat) (zs : List Int) (rn : List NP) : keyed (letters m zs (rn.map toPr)) = lineL (fun j => nowAt zs (j + 1) + 86400) rn m := by
  unfold keyed letters lineL
  rw [List.map_map]
  refine congrArg (fun f => List.map f (List.range m)) (funext fun j => ?_)
  show D.tup (.int (nowAt zs (j + 1) + 86400) :: [.int ((rn.map toPr).getD j (0, 0)).1, .int ((rn.map toPr).getD j (0, 0)).2]) = _
  rw [getD_toPr]; rfl
theorem many_m (ns : List Int) : ∃ m : Nat, manyOf ns = (m : Int) + 1 ∧ (m = 4 ∨ m = 5) := by
  unfold manyOf
  split
  · exact ⟨5, rfl, .inr rfl⟩
  · exact ⟨4, rfl, .inl rfl⟩
theorem law_runs : LawRuns := by
  intro ns hns
  obtain ⟨m, hmany, hm⟩ := many_m ns
  have h3 : 3 ≤ m := by rcases hm with rfl | rfl <;> decide
  have h5 : m ≤ 5 := by rcases hm with rfl | rfl <;> decide
  have hzl := nums_len m ns
  obtain ⟨hrow, hrl⟩ := exch_v h3 (wOf ns) hzl
  obtain ⟨rn, hrn, hv⟩ := pr_nat hrow
  have hrnl : rn.length = m := (List.length_map toPr).symm.trans (hrn ▸ hrl)
  refine ⟨400, ?_⟩
  refine segA (kx := Rt) hmany hm hns ?_
  refine segB (kx := Rt) (S := ns.map At.int) (W := wOf ns) (m := m) (zs := numsOf m ns) (row := exch (wOf ns) (numsOf m ns)) (Cr := ns.map dint) (Cq := (restOf ns).map dint) h5 hzl hrl (fun k => cl_ints _) (fun k => cl_ints _) ?_
  have hb : ∀ k, Closed k [ns.map dint, (restOf ns).map dint, (numsOf m ns).map dint, (rn.map toPr).map pr, lineL (fun j => nowAt (numsOf m ns) (j + 1) + 86400) rn m, keyed []] := fun k =>
    closed_cons (cl_ints _) (closed_cons (cl_ints _) (closed_cons (cl_ints _) (closed_cons (pr_closed _) (closed_cons lineL_cl (closed_cons (cl_keyed _) closed_nil)))))
  rw [hrn, line_eq]
  refine segD (kx := Rt) (S := ns.map At.int) (W := wOf ns) (m := m) (nw := some (dint (nowAt (numsOf m ns) m))) h5 clo_at (cl7 (hb 9)) ?_
  exact segF h5 (fun k => clo_at) hb hv hrnl (fits_iff hm hrnl hv)
end
end Mine
theorem PySem.Challenge.cw_rl0118_01_holds : PySem.Challenge.rw_rl0118_01.Holds :=
  Mine.law_holds Mine.law_runs
