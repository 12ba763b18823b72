import PyProof.Rows.All
import Wide.All
import OpenK.AllK
import Wide.FinOn
import PySem.Challenge.RW_rt0037_01
open PySem PySem.W PyProof.Rows
open PySem.Calls
set_option Elab.async false
set_option maxRecDepth 100000
set_option linter.all false
set_option compiler.extract_closed false

noncomputable section
namespace Mine
noncomputable abbrev PT : Addr := 173
noncomputable abbrev lamQ : Str := Str.ofString "_law_orbit.<locals>.<lambda>"
noncomputable abbrev lamRow (c : Addr) : Array Value := #[rawInt 167, rawInt 18, .ref c]
noncomputable def TabOk (h : Heap) : Prop := ∃ ps, h.get? PT = some (tabObj ps) ∧ (ps = #[] ∨ ∃ c, ps = lamRow c ∧ h.CodeRec (.ref c) lamQ)
theorem TabOk.keeps {h h' : Heap} (x : TabOk h) (hk : ∀ b o, h.get? b = some o → h'.get? b = some o) : TabOk h' := by
  obtain ⟨ps, hp, hr⟩ := x
  exact ⟨ps, hk _ _ hp, hr.imp id fun ⟨c, e, hc⟩ => ⟨c, e, hc.keeps hk⟩⟩
theorem TabOk.live {h : Heap} (x : TabOk h) : ∃ o, h.get? PT = some o := let ⟨_, hp, _⟩ := x; ⟨_, hp⟩
noncomputable def Dull (o : Obj) : Prop := ∀ vs, o.data = .fields vs → o.cls ≠ .none ∧ ∀ q t, vs[1]? ≠ some (.str q t)
theorem Dull.seq {c : String} {d : Option Addr} {vs : Array Value} {n : Nat} {sl : Array (Option Value)} : Dull ⟨.type c, d, .seq vs n, sl⟩ := fun _ e => nomatch e
theorem TabOk.keepsBut {h h' : Heap} {Z : List Addr} (x : TabOk h) (hk : ∀ b o, b ∉ Z → h.get? b = some o → h'.get? b = some o)
    (hz : ∀ a ∈ Z, ∃ o, h.get? a = some o ∧ Dull o) : TabOk h' := by
  obtain ⟨ps, hp, hr⟩ := x
  have hne : PT ∉ Z := fun q => by obtain ⟨o, ho, hd⟩ := hz _ q; rw [hp] at ho; cases ho; exact (hd _ rfl).1 rfl
  refine ⟨ps, hk _ _ hne hp, hr.imp id fun ⟨c, e, hc⟩ => ⟨c, e, ?_⟩⟩
  obtain ⟨c', o, vs, t, e', ho, hd, hv⟩ := hc
  cases e'
  exact ⟨c, o, vs, t, rfl, hk _ _ (fun q => by obtain ⟨o', ho', hd'⟩ := hz _ q; rw [ho] at ho'; cases ho'; exact (hd' _ hd).2 _ _ hv) ho, hd, hv⟩
structure Up (Z : List Addr) (s s' : Shared) : Prop where
  same : ∃ h' tk, s' = { s with heap := h', toks := tk }
  keep : ∀ b o, b ∉ Z → s.heap.get? b = some o → s'.heap.get? b = some o
  tab : TabOk s.heap → TabOk s'.heap
noncomputable abbrev Ex : Shared → Shared → Prop := Up [PT]
section
variable {Z Z' : List Addr} {s s' s'' : Shared}
theorem Up.refl : Up Z s s := ⟨⟨s.heap, s.toks, rfl⟩, fun _ _ _ e => e, id⟩
theorem Up.trans (x : Up Z s s') (y : Up Z s' s'') : Up Z s s'' := by
  obtain ⟨h', tk, rfl⟩ := x.same
  obtain ⟨h'', tk', rfl⟩ := y.same
  exact ⟨⟨h'', tk', rfl⟩, fun b o hb e => y.keep b o hb (x.keep b o hb e), fun t => y.tab (x.tab t)⟩
theorem Up.mono (x : Up Z s s') (h : ∀ z ∈ Z, z ∈ Z') : Up Z' s s' := ⟨x.same, fun b o hb e => x.keep b o (fun q => hb (h b q)) e, x.tab⟩
theorem Up.of_keeps (x : Keeps s s') : Up Z s s' := by
  obtain ⟨h', tk, rfl, hk⟩ := x
  exact ⟨⟨h', tk, rfl⟩, fun b o _ e => hk b o e, fun t => t.keeps hk⟩
theorem Up.heap {h' : Heap} {tk : Nat} (hk : ∀ b o, s.heap.get? b = some o → h'.get? b = some o) : Up Z s { s with heap := h', toks := tk } := Up.of_keeps ⟨h', tk, rfl, hk⟩
theorem Up.tok {tk : Nat} : Up Z s { s with toks := tk } := Up.of_keeps ⟨s.heap, tk, rfl, fun _ _ e => e⟩
theorem Up.push {o : Obj} {tk : Nat} : Up Z s { s with heap := s.heap.push o, toks := tk } := Up.heap fun _ _ e => Heap.get?_push_of_some _ e
theorem Up.push' {o : Obj} : Up Z s { s with heap := s.heap.push o } := Up.heap (tk := s.toks) fun _ _ e => Heap.get?_push_of_some _ e
theorem Up.but {h' : Heap} {tk : Nat} (hk : ∀ b o, b ∉ Z → s.heap.get? b = some o → h'.get? b = some o) (hz : ∀ a ∈ Z, ∃ o, s.heap.get? a = some o ∧ Dull o) : Up Z s { s with heap := h', toks := tk } :=
  ⟨⟨h', tk, rfl⟩, hk, fun t => t.keepsBut hk hz⟩
theorem Up.but1 {a : Addr} {oa : Obj} {h' : Heap} {tk : Nat} (hs : Heap.ExtBut a s.heap h') (ha : s.heap.get? a = some oa) (hd : Dull oa) : Up [a] s { s with heap := h', toks := tk } :=
  Up.but (fun b o hb e => hs b o (fun q => hb (by rw [q]; exact .head _)) e) fun z hz => by rw [List.mem_singleton.mp hz]; exact ⟨oa, ha, hd⟩
theorem Up.gens (x : Up Z s s') : s'.gens = s.gens := by obtain ⟨_, _, rfl⟩ := x.same; rfl
theorem Up.os (x : Up Z s s') : s'.os = s.os := by obtain ⟨_, _, rfl⟩ := x.same; rfl
theorem Up.from {Y : List Addr} (x : Up Z s s') (y : Up Y s' s'') (h : ∀ a ∈ Y, a ∈ Z ∨ s.heap.get? a = none) : Up Z s s'' := by
  obtain ⟨h', tk, rfl⟩ := x.same
  obtain ⟨h'', tk', rfl⟩ := y.same
  refine ⟨⟨h'', tk', rfl⟩, fun b o hb e => y.keep b o (fun q => ?_) (x.keep b o hb e), fun t => y.tab (x.tab t)⟩
  rcases h b q with q | q
  · exact hb q
  · rw [e] at q; cases q
end
noncomputable abbrev listO (vs : List Value) (n : Nat) : Obj := { cls := .type "list", data := .seq vs.toArray n }
noncomputable abbrev tupO (vs : List Value) (n : Nat) : Obj := { cls := .type "tuple", data := .seq vs.toArray n }
mutual
inductive Rep (X : List Addr) (h : Heap) : Value → PyData → Prop
  | none : Rep X h .none .none
  | bool (b : Bool) : Rep X h (.bool b) (.bool b)
  | int (i : Int) (t : Tok) : Rep X h (.int i t) (.int i)
  | str (x : Str) (t : Tok) : Rep X h (.str x t) (.str x)
  | list {a : Addr} {vs : List Value} {n : Nat} {ds : List PyData} : a ∉ X → h.get? a = some (listO vs n) → RepAll X h vs ds → Rep X h (.ref a) (.list ds)
  | tuple {a : Addr} {vs : List Value} {n : Nat} {ds : List PyData} : a ∉ X → h.get? a = some (tupO vs n) → RepAll X h vs ds → Rep X h (.ref a) (.tuple ds)
inductive RepAll (X : List Addr) (h : Heap) : List Value → List PyData → Prop
  | nil : RepAll X h [] []
  | cons {v : Value} {d : PyData} {vs : List Value} {ds : List PyData} : Rep X h v d → RepAll X h vs ds → RepAll X h (v :: vs) (d :: ds)
end
section
variable {X Y : List Addr} {h h' : Heap}
mutual
theorem Rep.to (hk : ∀ a o, a ∉ X → h.get? a = some o → a ∉ Y ∧ h'.get? a = some o) : ∀ {v : Value} {d : PyData}, Rep X h v d → Rep Y h' v d
  | _, _, .none => .none
  | _, _, .bool b => .bool b
  | _, _, .int i t => .int i t
  | _, _, .str x t => .str x t
  | _, _, .list ha ho hr => .list (hk _ _ ha ho).1 (hk _ _ ha ho).2 (RepAll.to hk hr)
  | _, _, .tuple ha ho hr => .tuple (hk _ _ ha ho).1 (hk _ _ ha ho).2 (RepAll.to hk hr)
theorem RepAll.to (hk : ∀ a o, a ∉ X → h.get? a = some o → a ∉ Y ∧ h'.get? a = some o) : ∀ {vs : List Value} {ds : List PyData}, RepAll X h vs ds → RepAll Y h' vs ds
  | _, _, .nil => .nil
  | _, _, .cons h1 h2 => .cons (Rep.to hk h1) (RepAll.to hk h2)
end
theorem Rep.less {v : Value} {d : PyData} (x : Rep X h v d) (hs : ∀ a ∈ Y, a ∈ X) : Rep Y h v d := x.to fun a _ ha e => ⟨fun q => ha (hs a q), e⟩
theorem Rep.more {v : Value} {d : PyData} (x : Rep X h v d) (hs : ∀ a ∈ Y, a ∈ X ∨ h.get? a = Option.none) : Rep Y h v d :=
  x.to fun a _ ha e => ⟨fun q => (hs a q).elim ha fun n => (by rw [e] at n; cases n), e⟩
theorem RepAll.less {vs : List Value} {ds : List PyData} (x : RepAll X h vs ds) (hs : ∀ a ∈ Y, a ∈ X) : RepAll Y h vs ds := x.to fun a _ ha e => ⟨fun q => ha (hs a q), e⟩
theorem RepAll.more {vs : List Value} {ds : List PyData} (x : RepAll X h vs ds) (hs : ∀ a ∈ Y, a ∈ X ∨ h.get? a = none) : RepAll Y h vs ds :=
  x.to fun a _ ha e => ⟨fun q => (hs a q).elim ha fun n => (by rw [e] at n; cases n), e⟩
end
section
variable {X Z : List Addr} {s s' : Shared}
theorem Rep.up {v : Value} {d : PyData} (x : Rep X s.heap v d) (u : Up Z s s') (hz : ∀ z ∈ Z, z ∈ X) : Rep X s'.heap v d :=
  x.to fun a o ha e => ⟨ha, u.keep a o (fun q => ha (hz a q)) e⟩
theorem RepAll.up {vs : List Value} {ds : List PyData} (x : RepAll X s.heap vs ds) (u : Up Z s s') (hz : ∀ z ∈ Z, z ∈ X) : RepAll X s'.heap vs ds :=
  x.to fun a o ha e => ⟨ha, u.keep a o (fun q => ha (hz a q)) e⟩
theorem RepAll.length {h : Heap} : ∀ {vs : List Value} {ds : List PyData}, RepAll X h vs ds → vs.length = ds.length
  | _, _, .nil => rfl
  | _, _, .cons _ r => by rw [List.length_cons, List.length_cons, RepAll.length r]
theorem RepAll.append {h : Heap} {ws : List Value} {es : List PyData} (y : RepAll X h ws es) : ∀ {vs : List Value} {ds : List PyData}, RepAll X h vs ds → RepAll X h (vs ++ ws) (ds ++ es)
  | _, _, .nil => y
  | _, _, .cons h1 r => .cons h1 (RepAll.append y r)
theorem RepAll.get {h : Heap} : ∀ {vs : List Value} {ds : List PyData}, RepAll X h vs ds → ∀ {k : Nat} {d : PyData}, ds[k]? = some d → ∃ v, vs[k]? = some v ∧ Rep X h v d
  | _, _, .nil, k, d, e => by simp at e
  | _, _, .cons h1 r, 0, d, e => by simp at e; subst e; exact ⟨_, rfl, h1⟩
  | _, _, .cons h1 r, k + 1, d, e => by simpa using RepAll.get r (by simpa using e)
theorem RepAll.get' {h : Heap} : ∀ {vs : List Value} {ds : List PyData}, RepAll X h vs ds → ∀ {k : Nat} {v : Value}, vs[k]? = some v → ∃ d, ds[k]? = some d ∧ Rep X h v d
  | _, _, .nil, k, d, e => by simp at e
  | _, _, .cons h1 r, 0, d, e => by simp at e; subst e; exact ⟨_, rfl, h1⟩
  | _, _, .cons h1 r, k + 1, d, e => by simpa using RepAll.get' r (by simpa using e)
theorem RepAll.take {h : Heap} : ∀ {vs : List Value} {ds : List PyData}, RepAll X h vs ds → ∀ k : Nat, RepAll X h (vs.take k) (ds.take k)
  | _, _, .nil, k => by simpa using RepAll.nil
  | _, _, .cons h1 r, 0 => by simpa using RepAll.nil
  | _, _, .cons h1 r, k + 1 => by simpa using RepAll.cons h1 (r.take k)
theorem RepAll.drop {h : Heap} : ∀ {vs : List Value} {ds : List PyData}, RepAll X h vs ds → ∀ k : Nat, RepAll X h (vs.drop k) (ds.drop k)
  | _, _, .nil, k => by simpa using RepAll.nil
  | _, _, .cons h1 r, 0 => by simpa using RepAll.cons h1 r
  | _, _, .cons h1 r, k + 1 => by simpa using r.drop k
theorem RepAll.reverse {h : Heap} : ∀ {vs : List Value} {ds : List PyData}, RepAll X h vs ds → RepAll X h vs.reverse ds.reverse
  | _, _, .nil => by simpa using RepAll.nil
  | _, _, .cons h1 r => by simpa using RepAll.append (.cons h1 .nil) r.reverse
theorem RepAll.one {h : Heap} {v : Value} {d : PyData} (x : Rep X h v d) : RepAll X h [v] [d] := .cons x .nil
theorem RepAll.set {h : Heap} {v : Value} {d : PyData} (x : Rep X h v d) : ∀ {vs : List Value} {ds : List PyData}, RepAll X h vs ds → ∀ k : Nat, RepAll X h (vs.set k v) (ds.set k d)
  | _, _, .nil, k => by simpa using RepAll.nil
  | _, _, .cons h1 r, 0 => by simpa using RepAll.cons x r
  | _, _, .cons h1 r, k + 1 => by simpa using RepAll.cons h1 (r.set x k)
theorem RepAll.eraseIdx {h : Heap} : ∀ {vs : List Value} {ds : List PyData}, RepAll X h vs ds → ∀ k : Nat, RepAll X h (vs.eraseIdx k) (ds.eraseIdx k)
  | _, _, .nil, k => by simpa using RepAll.nil
  | _, _, .cons h1 r, 0 => by simpa using r
  | _, _, .cons h1 r, k + 1 => by simpa using RepAll.cons h1 (r.eraseIdx k)
mutual
theorem Rep.reads {h : Heap} : ∀ {v : Value} {d : PyData}, Rep X h v d → ∃ as, Reads h v d as
  | _, _, .none => ⟨_, .none⟩
  | _, _, .bool b => ⟨_, .bool b⟩
  | _, _, .int i t => ⟨_, .int i t⟩
  | _, _, .str x t => ⟨_, .str x t⟩
  | _, _, .list _ ho hr => by obtain ⟨as, r⟩ := RepAll.reads hr; exact ⟨_, .list ho rfl rfl (by simpa using r)⟩
  | _, _, .tuple _ ho hr => by obtain ⟨as, r⟩ := RepAll.reads hr; exact ⟨_, .tuple ho rfl rfl (by simpa using r)⟩
theorem RepAll.reads {h : Heap} : ∀ {vs : List Value} {ds : List PyData}, RepAll X h vs ds → ∃ as, ReadsAll h vs ds as
  | _, _, .nil => ⟨_, .nil⟩
  | _, _, .cons h1 r => by obtain ⟨as, r1⟩ := Rep.reads h1; obtain ⟨bs, r2⟩ := RepAll.reads r; exact ⟨_, .cons r1 r2⟩
end
theorem Rep.inv_int {h : Heap} {v : Value} {i : Int} (x : Rep X h v (.int i)) : ∃ t, v = .int i t := by cases x; exact ⟨_, rfl⟩
theorem Rep.inv_str {h : Heap} {v : Value} {i : Str} (x : Rep X h v (.str i)) : ∃ t, v = .str i t := by cases x; exact ⟨_, rfl⟩
theorem Rep.inv_bool {h : Heap} {v : Value} {b : Bool} (x : Rep X h v (.bool b)) : v = .bool b := by cases x; rfl
theorem Rep.inv_list {h : Heap} {v : Value} {ds : List PyData} (x : Rep X h v (.list ds)) : ∃ a vs n, v = .ref a ∧ a ∉ X ∧ h.get? a = some (listO vs n) ∧ RepAll X h vs ds := by
  cases x with | list a b c => exact ⟨_, _, _, rfl, a, b, c⟩
theorem Rep.inv_tuple {h : Heap} {v : Value} {ds : List PyData} (x : Rep X h v (.tuple ds)) : ∃ a vs n, v = .ref a ∧ a ∉ X ∧ h.get? a = some (tupO vs n) ∧ RepAll X h vs ds := by
  cases x with | tuple a b c => exact ⟨_, _, _, rfl, a, b, c⟩
end
noncomputable def upI (x : Int) : Nat → List PyData
  | 0 => []
  | n + 1 => .int x :: upI (x + 1) n
inductive ItAt (X : List Addr) (h : Heap) (a : Addr) : List PyData → Prop
  | list {l : Addr} {i : Nat} {vs : List Value} {n : Nat} {ds : List PyData} : h.IsListIter a l i → l ∉ X → h.get? l = some (listO vs n) → RepAll X h (vs.drop i) ds → ItAt X h a ds
  | tup {l : Addr} {i : Nat} {vs : List Value} {n : Nat} {ds : List PyData} : h.IsTupleIter a l i → l ∉ X → h.get? l = some (tupO vs n) → RepAll X h (vs.drop i) ds → ItAt X h a ds
  | rng {x : Int} {n : Nat} : IsRangeIter h a x n 1 → ItAt X h a (upI x n)
inductive Lv where
  | dat (d : PyData)
  | val (v : Value)
  | rng (a b : Int)
  | mut (a : Addr) (ds : List PyData)
  | itr (a : Addr) (ds : List PyData)
  | tvs (vs : List Value)
  | lit (a : Addr) (ds : List PyData)
noncomputable def ItL (X : List Addr) (h : Heap) (a : Addr) (ds : List PyData) : Prop := ∃ l i vs n, h.IsListIter a l i ∧ l ∉ X ∧ h.get? l = some (listO vs n) ∧ RepAll X h (vs.drop i) ds
theorem ItL.at {X : List Addr} {h : Heap} {a : Addr} {ds : List PyData} (x : ItL X h a ds) : ItAt X h a ds := let ⟨_, _, _, _, h1, h2, h3, h4⟩ := x; .list h1 h2 h3 h4
theorem ItL.to {X Y : List Addr} {h h' : Heap} {a : Addr} {ds : List PyData} (hk : ∀ a o, a ∉ X → h.get? a = some o → a ∉ Y ∧ h'.get? a = some o) (ha : ∀ o, h.get? a = some o → h'.get? a = some o) (x : ItL X h a ds) : ItL Y h' a ds :=
  let ⟨l, i, vs, n, ⟨o, e, r⟩, h2, h3, h4⟩ := x; ⟨l, i, vs, n, ⟨o, ha o e, r⟩, (hk _ _ h2 h3).1, (hk _ _ h2 h3).2, h4.to hk⟩
noncomputable def Lv.is (X : List Addr) (h : Heap) (v : Value) : Lv → Prop
  | .dat d => Rep X h v d
  | .val u => v = u
  | .rng a b => ∃ r t u t', v = .ref r ∧ r ∉ X ∧ IsRange h r a b 1 t u t'
  | .mut a ds => v = .ref a ∧ a ∈ X ∧ ∃ vs n, h.get? a = some (listO vs n) ∧ RepAll X h vs ds
  | .itr a ds => v = .ref a ∧ a ∈ X ∧ ItAt X h a ds
  | .tvs vs => ∃ a n, v = .ref a ∧ a ∉ X ∧ h.get? a = some (tupO vs n)
  | .lit a ds => v = .ref a ∧ a ∈ X ∧ ItL X h a ds
noncomputable def Lv.own : Lv → Option Addr
  | .mut a _ => some a
  | .itr a _ => some a
  | .lit a _ => some a
  | _ => none
theorem ItAt.to {X Y : List Addr} {h h' : Heap} {a : Addr} (hk : ∀ a o, a ∉ X → h.get? a = some o → a ∉ Y ∧ h'.get? a = some o) (ha : ∀ o, h.get? a = some o → h'.get? a = some o) : ∀ {ds : List PyData}, ItAt X h a ds → ItAt Y h' a ds
  | _, .list hi hl ho hr => .list (let ⟨o, e, r⟩ := hi; ⟨o, ha o e, r⟩) (hk _ _ hl ho).1 (hk _ _ hl ho).2 (hr.to hk)
  | _, .tup hi hl ho hr => .tup (let ⟨o, e, r⟩ := hi; ⟨o, ha o e, r⟩) (hk _ _ hl ho).1 (hk _ _ hl ho).2 (hr.to hk)
  | _, .rng hi => .rng (ha _ hi)
theorem Lv.is.to {X Y : List Addr} {h h' : Heap} (hk : ∀ a o, a ∉ X → h.get? a = some o → a ∉ Y ∧ h'.get? a = some o) {v : Value} :
    ∀ {l : Lv}, (∀ a, l.own = some a → a ∈ X → a ∈ Y ∧ ∀ o, h.get? a = some o → h'.get? a = some o) → l.is X h v → l.is Y h' v
  | .dat _, _, x => Rep.to hk x
  | .val _, _, x => x
  | .rng _ _, _, ⟨r, t, u, t', e, hx, hr⟩ => ⟨r, t, u, t', e, (hk _ _ hx hr).1, (hk _ _ hx hr).2⟩
  | .mut a _, hm, ⟨e, ha, vs, n, ho, hr⟩ => ⟨e, (hm a rfl ha).1, vs, n, (hm a rfl ha).2 _ ho, hr.to hk⟩
  | .itr a _, hm, ⟨e, ha, hi⟩ => ⟨e, (hm a rfl ha).1, hi.to hk (hm a rfl ha).2⟩
  | .tvs _, _, ⟨a, n, e, ha, ho⟩ => ⟨a, n, e, (hk _ _ ha ho).1, (hk _ _ ha ho).2⟩
  | .lit a _, hm, ⟨e, ha, hi⟩ => ⟨e, (hm a rfl ha).1, hi.to hk (hm a rfl ha).2⟩
theorem Lv.is.up {X Z : List Addr} {s s' : Shared} {v : Value} {l : Lv} (x : l.is X s.heap v) (u : Up Z s s') (hz : ∀ z ∈ Z, z ∈ X) (hm : ∀ a, l.own = some a → a ∉ Z) : l.is X s'.heap v :=
  x.to (fun a o ha e => ⟨ha, u.keep a o (fun q => ha (hz a q)) e⟩) fun a ha hx => ⟨hx, fun o e => u.keep a o (hm a ha) e⟩
theorem Lv.is.more {X Y : List Addr} {h : Heap} {v : Value} {l : Lv} (x : l.is X h v) (hl : ∀ a ∈ X, a ∈ Y) (hs : ∀ a ∈ Y, a ∈ X ∨ h.get? a = none) : l.is Y h v :=
  x.to (fun a _ ha e => ⟨fun q => (hs a q).elim ha fun n => (by rw [e] at n; cases n), e⟩) fun a _ hx => ⟨hl a hx, fun _ e => e⟩
theorem ItAt.cls {X : List Addr} {h : Heap} {a : Addr} : ∀ {ds : List PyData}, ItAt X h a ds → ∃ o, h.get? a = some o ∧ Dull o
  | _, .list ⟨o, e, c, d⟩ _ _ _ => ⟨o, e, fun vs q => by rw [d] at q; cases q; exact ⟨by rw [c]; exact nofun, nofun⟩⟩
  | _, .tup ⟨o, e, c, d⟩ _ _ _ => ⟨o, e, fun vs q => by rw [d] at q; cases q; exact ⟨by rw [c]; exact nofun, nofun⟩⟩
  | _, .rng hi => ⟨_, hi, fun vs q => by cases q; exact ⟨nofun, nofun⟩⟩
theorem ItAt.shape {X : List Addr} {h : Heap} {a : Addr} {ds : List PyData} (x : ItAt X h a ds) : ∃ o, h.get? a = some o ∧ (∀ es ep, o.data ≠ .dict es ep) ∧ ∀ c, o.data ≠ .cell c := by
  cases x with
  | list hi _ _ _ => obtain ⟨o, e, c, d⟩ := hi; exact ⟨o, e, by rw [d]; exact nofun, by rw [d]; exact nofun⟩
  | tup hi _ _ _ => obtain ⟨o, e, c, d⟩ := hi; exact ⟨o, e, by rw [d]; exact nofun, by rw [d]; exact nofun⟩
  | rng hi => exact ⟨_, hi, nofun, nofun⟩
theorem Lv.is.owned {X : List Addr} {h : Heap} {v : Value} {l : Lv} (x : l.is X h v) {a : Addr} (e : l.own = some a) : a ∈ X ∧ ∃ o, h.get? a = some o ∧ Dull o ∧ (∀ es ep, o.data ≠ .dict es ep) ∧ ∀ c, o.data ≠ .cell c := by
  have it : ∀ {ds}, ItAt X h a ds → ∃ o, h.get? a = some o ∧ Dull o ∧ (∀ es ep, o.data ≠ .dict es ep) ∧ ∀ c, o.data ≠ .cell c := fun hi => by
    obtain ⟨o, e, d⟩ := hi.cls
    obtain ⟨o', e', r⟩ := hi.shape
    rw [e] at e'; cases e'; exact ⟨o, e, d, r⟩
  cases l <;> simp only [Lv.own] at e <;> cases e
  · obtain ⟨_, ha, _, _, ho, _⟩ := x; exact ⟨ha, _, ho, Dull.seq, nofun, nofun⟩
  · obtain ⟨_, ha, hi⟩ := x; exact ⟨ha, it hi⟩
  · obtain ⟨_, ha, hi⟩ := x; exact ⟨ha, it hi.at⟩
theorem Lv.is.dull {X : List Addr} {h : Heap} {v : Value} {l : Lv} (x : l.is X h v) (a : Addr) (e : l.own = some a) : ∃ o, h.get? a = some o ∧ Dull o := let ⟨_, o, ho, hd, _⟩ := x.owned e; ⟨o, ho, hd⟩
theorem Lv.is.ownPT {X : List Addr} {h : Heap} {v : Value} {l : Lv} (x : l.is X h v) (t : TabOk h) (a : Addr) (ha : l.own = some a) : a ≠ PT := by
  rintro rfl
  obtain ⟨o, ho, hd⟩ := x.dull _ ha
  obtain ⟨ps, hp, _⟩ := t
  rw [hp] at ho; cases ho; exact (hd _ rfl).1 rfl
theorem Lv.is.ex {X : List Addr} {s s' : Shared} {v : Value} {l : Lv} (x : l.is X s.heap v) (t : TabOk s.heap) (hx : PT ∈ X) (u : Ex s s') : l.is X s'.heap v :=
  x.up u (fun z hz => by rw [List.mem_singleton.mp hz]; exact hx) fun a ha q => x.ownPT t a ha (List.mem_singleton.mp q)
inductive LvAll (X : List Addr) (h : Heap) : List Value → List Lv → Prop
  | nil : LvAll X h [] []
  | cons {v : Value} {l : Lv} {vs : List Value} {ls : List Lv} : l.is X h v → LvAll X h vs ls → LvAll X h (v :: vs) (l :: ls)
theorem LvAll.more {X Y : List Addr} {h : Heap} (hl : ∀ a ∈ X, a ∈ Y) (hs : ∀ a ∈ Y, a ∈ X ∨ h.get? a = none) : ∀ {vs : List Value} {ls : List Lv}, LvAll X h vs ls → LvAll Y h vs ls
  | _, _, .nil => .nil
  | _, _, .cons x r => .cons (x.more hl hs) (LvAll.more hl hs r)
theorem LvAll.dats {X : List Addr} {h : Heap} : ∀ {vs : List Value} {ds : List PyData}, LvAll X h vs (ds.map Lv.dat) → RepAll X h vs ds
  | _, [], .nil => .nil
  | _, _ :: _, .cons x r => .cons x (LvAll.dats r)
theorem LvAll.of {X : List Addr} {h : Heap} : ∀ {vs : List Value} {ds : List PyData}, RepAll X h vs ds → LvAll X h vs (ds.map Lv.dat)
  | _, _, .nil => .nil
  | _, _, .cons x r => .cons x (LvAll.of r)
theorem LvAll.length {X : List Addr} {h : Heap} : ∀ {vs : List Value} {ls : List Lv}, LvAll X h vs ls → vs.length = ls.length
  | _, _, .nil => rfl
  | _, _, .cons _ r => by rw [List.length_cons, List.length_cons, LvAll.length r]
theorem LvAll.get {X : List Addr} {h : Heap} : ∀ {vs : List Value} {ls : List Lv}, LvAll X h vs ls → ∀ {k : Nat} {v : Value} {l : Lv}, vs[k]? = some v → ls[k]? = some l → l.is X h v
  | _, _, .nil, k, _, _, e, _ => by simp at e
  | _, _, .cons x r, 0, _, _, e, e' => by simp at e e'; subst e e'; exact x
  | _, _, .cons x r, k + 1, _, _, e, e' => LvAll.get r (by simpa using e) (by simpa using e')
noncomputable def Var (env : Env) (h : Heap) (x : Str) (v : Value) : Prop :=
  (env.kindOf x = some .local ∧ ∃ m, h.Ns env.locals m ∧ m x = some v) ∨
  ((env.kindOf x = some .cell ∨ env.kindOf x = some .free) ∧ ∃ c, env.cells.lookup x = some c ∧ h.IsCell c (some v))
structure Tp (K : Frag) (h : Heap) : Prop where
  k : K.In h
  g : ∃ mg, h.Ns mainGlobals mg
  b : ∃ mb, h.Ns builtinsNs mb ∧ ∀ x : Str, x ≠ "__name__" → mb x = bootBuiltins x
  lim : h.NoLimit
  kPT : K.lookup PT = none
theorem IsTab_ne {h : Heap} {a : Addr} {o : Obj} (t : TabOk h) (ha : h.get? a = some o) (hn : ∀ vs, o.data ≠ .fields vs) : a ≠ PT := by
  rintro rfl; obtain ⟨ps, hp, _⟩ := t; rw [hp] at ha; cases ha; exact hn _ rfl
theorem Ns_ne {h : Heap} {a : Addr} {m : Str → Option Value} (t : TabOk h) (hn : h.Ns a m) : a ≠ PT := by
  obtain ⟨o, es, ep, ho, hd, _⟩ := hn
  exact IsTab_ne t ho fun vs e => by rw [hd] at e; cases e
theorem Cell_ne {h : Heap} {a : Addr} {v : Option Value} (t : TabOk h) (hn : h.IsCell a v) : a ≠ PT := by
  obtain ⟨o, ho, hd⟩ := hn
  exact IsTab_ne t ho fun vs e => by rw [hd] at e; cases e
theorem Heap.Ns.to {h h' : Heap} {a : Addr} {m : Str → Option Value} (hn : h.Ns a m) (e : ∀ o, h.get? a = some o → h'.get? a = some o) : h'.Ns a m :=
  let ⟨o, es, ep, x, r⟩ := hn; ⟨o, es, ep, e _ x, r⟩
theorem Heap.IsCell.to {h h' : Heap} {a : Addr} {v : Option Value} (hn : h.IsCell a v) (e : ∀ o, h.get? a = some o → h'.get? a = some o) : h'.IsCell a v :=
  let ⟨o, x, r⟩ := hn; ⟨o, e _ x, r⟩
theorem Tp.up {K : Frag} {s s' : Shared} (x : Tp K s.heap) (t : TabOk s.heap) (u : Ex s s') : Tp K s'.heap where
  k := fun a o e => u.keep a o (fun q => by rw [List.mem_singleton.mp q, x.kPT] at e; cases e) (x.k a o e)
  g := let ⟨mg, h⟩ := x.g; ⟨mg, Heap.Ns.to h fun o e => u.keep _ o (by rw [List.mem_singleton]; exact Ns_ne t h) e⟩
  b := let ⟨mb, h, r⟩ := x.b; ⟨mb, Heap.Ns.to h fun o e => u.keep _ o (by rw [List.mem_singleton]; exact Ns_ne t h) e, r⟩
  lim := let ⟨mc, h, r⟩ := x.lim; ⟨mc, Heap.Ns.to h fun o e => u.keep _ o (by rw [List.mem_singleton]; exact Ns_ne t h) e, r⟩
  kPT := x.kPT
noncomputable def Lives (K : Frag) (X : List Addr) (h : Heap) : Prop := ∀ a ∈ X, (∃ o, h.get? a = some o) ∧ K.lookup a = none ∧ a ≠ mainGlobals ∧ a ≠ builtinsNs ∧ a ≠ cStatics
theorem Lives.fresh {K : Frag} {X : List Addr} {h : Heap} (x : Lives K X h) : h.objs.size ∉ X := fun q => by
  obtain ⟨⟨o, ho⟩, _⟩ := x _ q; exact Nat.lt_irrefl _ (Heap.lt_size ho)
theorem Lives.get {K : Frag} {X : List Addr} {h : Heap} {a : Addr} (x : Lives K X h) (ha : h.get? a = none) : a ∉ X := fun q => by
  obtain ⟨⟨o, ho⟩, _⟩ := x _ q; rw [ha] at ho; cases ho
theorem Lives.up {K : Frag} {X Z : List Addr} {s s' : Shared} (x : Lives K X s.heap) (u : Up Z s s') (hz : ∀ a ∈ Z, ∃ o, s'.heap.get? a = some o) : Lives K X s'.heap := fun a ha => by
  refine ⟨?_, (x a ha).2⟩
  by_cases e : a ∈ Z
  · exact hz a e
  · obtain ⟨⟨o, ho⟩, _⟩ := x a ha; exact ⟨o, u.keep a o e ho⟩
theorem Tp.new {K : Frag} {h : Heap} {a : Addr} (x : Tp K h) (ha : h.get? a = none) : K.lookup a = none ∧ a ≠ mainGlobals ∧ a ≠ builtinsNs ∧ a ≠ cStatics := by
  refine ⟨?_, ?_, ?_, ?_⟩
  · cases e : K.lookup a with
    | none => rfl
    | some o => have := x.k a o e; rw [ha] at this; cases this
  · rintro rfl; obtain ⟨_, o, _, _, ho, _⟩ := x.g; rw [ha] at ho; cases ho
  · rintro rfl; obtain ⟨_, ⟨o, _, _, ho, _⟩, _⟩ := x.b; rw [ha] at ho; cases ho
  · rintro rfl; obtain ⟨_, ⟨o, _, _, ho, _⟩, _⟩ := x.lim; rw [ha] at ho; cases ho
structure Cx (K : Frag) (env : Env) (X : List Addr) (ρ : List (Str × Lv)) (s : Shared) : Prop where
  fn : env.scope.kind = .function
  gl : env.globals = mainGlobals
  bt : env.builtins = builtinsNs
  top : Tp K s.heap
  tab : TabOk s.heap
  tabX : PT ∈ X
  live : Lives K X s.heap
  ns : ∃ m, s.heap.Ns env.locals m
  has : ∀ y, env.scope.names.lookup y = some .free ∨ env.scope.names.lookup y = some .cell → ∃ c, env.cells.lookup y = some c
  cel : ∀ x c, env.cells.lookup x = some c → ∃ v, s.heap.IsCell c v
  inj : ∀ x y c, env.cells.lookup x = some c → env.cells.lookup y = some c → x = y
  own : env.locals ∈ X ∧ ∀ x c, env.cells.lookup x = some c → c ∈ X
  vars : ∀ p ∈ ρ, ∃ v, Var env s.heap p.1 v ∧ p.2.is X s.heap v
theorem Var.up {env : Env} {s s' : Shared} {x : Str} {v : Value} (h : Var env s.heap x v) (t : TabOk s.heap) (u : Ex s s') : Var env s'.heap x v := by
  rcases h with ⟨hk, m, hn, hv⟩ | ⟨hk, c, hc, hv⟩
  · exact .inl ⟨hk, m, Heap.Ns.to hn fun o e => u.keep _ o (by rw [List.mem_singleton]; exact Ns_ne t hn) e, hv⟩
  · exact .inr ⟨hk, c, hc, Heap.IsCell.to hv fun o e => u.keep _ o (by rw [List.mem_singleton]; exact Cell_ne t hv) e⟩
theorem Cx.up {K : Frag} {env : Env} {X : List Addr} {ρ : List (Str × Lv)} {s s' : Shared} (x : Cx K env X ρ s) (u : Ex s s') : Cx K env X ρ s' where
  fn := x.fn
  gl := x.gl
  bt := x.bt
  top := x.top.up x.tab u
  tab := u.tab x.tab
  tabX := x.tabX
  live := x.live.up u fun a ha => by rw [List.mem_singleton.mp ha]; exact (u.tab x.tab).live
  ns := let ⟨m, h⟩ := x.ns; ⟨m, Heap.Ns.to h fun o e => u.keep _ o (by rw [List.mem_singleton]; exact Ns_ne x.tab h) e⟩
  cel := fun n c hc => let ⟨v, h⟩ := x.cel n c hc; ⟨v, Heap.IsCell.to h fun o e => u.keep _ o (by rw [List.mem_singleton]; exact Cell_ne x.tab h) e⟩
  inj := x.inj
  has := x.has
  own := x.own
  vars := fun p hp => let ⟨v, h1, h2⟩ := x.vars p hp; ⟨v, h1.up x.tab u, h2.ex x.tab x.tabX u⟩
theorem Cx.sub {K : Frag} {env : Env} {X : List Addr} {ρ ρ' : List (Str × Lv)} {s : Shared} (x : Cx K env X ρ s) (h : ∀ p ∈ ρ', p ∈ ρ) : Cx K env X ρ' s :=
  { x with vars := fun p hp => x.vars p (h p hp) }
theorem Cx.fresh {K : Frag} {env : Env} {X : List Addr} {ρ : List (Str × Lv)} {s : Shared} (x : Cx K env X ρ s) : s.heap.objs.size ∉ X := x.live.fresh
structure Bd (n : Nat) (A : Around) : Prop where
  hd : A.handled = none
  dp : A.depth + n ≤ 900
  un : A.units + 8 * n + 200 ≤ 9900
theorem Bd.deeper {n : Nat} {A : Around} (x : Bd (n + 1) A) (env : Env) : Bd n (A.deeper env) := ⟨x.hd, by have := x.dp; simp only [Around.deeper]; omega, by have := x.un; simp only [Around.deeper_units]; omega⟩
theorem Bd.in1 {n : Nat} {A : Around} (x : Bd (n + 1) A) : Bd n A.in1 := ⟨x.hd, by have := x.dp; show A.depth + n ≤ 900; omega, by have := x.un; show A.units + 1 + 8 * n + 200 ≤ 9900; omega⟩
theorem Bd.less {n m : Nat} {A : Around} (x : Bd n A) (h : m ≤ n) : Bd m A := ⟨x.hd, by have := x.dp; omega, by have := x.un; omega⟩
theorem Bd.room {n : Nat} {A : Around} (x : Bd n A) : A.depth < recursionLimit := by have := x.dp; show A.depth < 1000; omega
theorem Bd.units {n : Nat} {A : Around} (x : Bd n A) : A.units + 64 < cLine := by have := x.un; show A.units + 64 < 9900; omega
end Mine
end

noncomputable section
namespace Mine
structure Gl where
  prog : Program
  w : World
  K : Frag
noncomputable abbrev Gl.M (g : Gl) : Model := model g.prog g.w
structure Ok (g : Gl) (n : Nat) (sc : Scope) (ρ : List (Str × Lv)) (A : Around) (env : Env) (X : List Addr) (s : Shared) : Prop where
  bd : Bd n A
  sc : env.scope = sc
  cx : Cx g.K env X ρ s
theorem Ok.up {g : Gl} {n : Nat} {sc : Scope} {ρ : List (Str × Lv)} {A : Around} {env : Env} {X : List Addr} {s s' : Shared} (o : Ok g n sc ρ A env X s) (u : Ex s s') : Ok g n sc ρ A env X s' := ⟨o.bd, o.sc, o.cx.up u⟩
theorem memPT {X : List Addr} (h : PT ∈ X) : ∀ z ∈ [PT], z ∈ X := fun z hz => by rw [List.mem_singleton.mp hz]; exact h
section
variable {g : Gl} {n : Nat} {sc : Scope} {ρ : List (Str × Lv)} {A : Around} {env : Env} {X : List Addr} {s s' : Shared}
theorem Ok.rep {v : Value} {d : PyData} (o : Ok g n sc ρ A env X s) (u : Ex s s') (r : Rep X s.heap v d) : Rep X s'.heap v d := r.up u (memPT o.cx.tabX)
theorem Ok.reps {v : List Value} {d : List PyData} (o : Ok g n sc ρ A env X s) (u : Ex s s') (r : RepAll X s.heap v d) : RepAll X s'.heap v d := r.up u (memPT o.cx.tabX)
theorem Ok.lv {v : Value} {l : Lv} (o : Ok g n sc ρ A env X s) (u : Ex s s') (r : l.is X s.heap v) : l.is X s'.heap v := r.ex o.cx.tab o.cx.tabX u
theorem Ok.fresh (o : Ok g n sc ρ A env X s) : s.heap.objs.size ∉ X := o.cx.fresh
end
noncomputable def Ev (g : Gl) (n : Nat) (sc : Scope) (ρ : List (Str × Lv)) (e : Expr) (P : List Addr → Heap → Value → Prop) : Prop := ∀ (A : Around) (env : Env) (X : List Addr) (s : Shared) (E : Value → Shared → Prop) (Q : Value → Shared → Prop), Ok g n sc ρ A env X s →
  (∀ v s', Ex s s' → P X s'.heap v → Q v s') → wpAny (model g.prog g.w) A (eval e env) Q E s
noncomputable abbrev EvL (g : Gl) (n : Nat) (sc : Scope) (ρ : List (Str × Lv)) (e : Expr) (l : Lv) : Prop := Ev g n sc ρ e fun X h v => l.is X h v
noncomputable abbrev EvD (g : Gl) (n : Nat) (sc : Scope) (ρ : List (Str × Lv)) (e : Expr) (d : PyData) : Prop := EvL g n sc ρ e (.dat d)
noncomputable abbrev EvV (g : Gl) (n : Nat) (sc : Scope) (ρ : List (Str × Lv)) (e : Expr) (u : Value) : Prop := EvL g n sc ρ e (.val u)
noncomputable def Ts (g : Gl) (n : Nat) (sc : Scope) (ρ : List (Str × Lv)) (e : Expr) (b : Bool) : Prop := ∀ (A : Around) (env : Env) (X : List Addr) (s : Shared) (E : Value → Shared → Prop) (Q : Bool → Shared → Prop), Ok g n sc ρ A env X s →
  (∀ s', Ex s s' → Q b s') → wpAny (model g.prog g.w) A (isTrue e env (eval e env)) Q E s
noncomputable def EvAll (g : Gl) (n : Nat) (sc : Scope) (ρ : List (Str × Lv)) (es : List Expr) (ls : List Lv) : Prop := ∀ (pos : Pos) (A : Around) (env : Env) (X : List Addr) (s : Shared) (E : Value → Shared → Prop) (Q : List Value → Shared → Prop), Ok g n sc ρ A env X s →
  (∀ vs s', Ex s s' → LvAll X s'.heap vs ls → Q vs s') → wpAny (model g.prog g.w) A (spliced (backTo pos (starEach es env))) Q E s
section
variable {M : Model} {A : Around} {E : Value → Shared → Prop} {s : Shared} {env : Env} {x : Str} {v : Value} {pos : Pos} {Q : Value → Shared → Prop}
theorem loadName_var (hk : env.scope.kind = .function) (h : Var env s.heap x v) (hq : Q v s) (hn : (x == ("__classdict__" : Str)) = false) : wpAny M A (loadName env x) Q E s := by
  rcases h with ⟨hl, m, hm, hv⟩ | ⟨hl | hl, c, hc, hv⟩
  · exact wpAny_loadName_local hk hl hm hv hq
  · exact wpAny_loadName_cell hk hl hc hv hq
  · exact wpAny_loadName_free hk hl hc hv hq hn
theorem load_var (hk : env.scope.kind = .function) (h : Var env s.heap x v) (hq : Q v s) (hd : (x == ("__debug__" : Str)) = false) (hn : (x == ("__classdict__" : Str)) = false) :
    wpAny M A (eval (.Name x pos) env) Q E s := wpAny_Name (loadName_var hk h hq hn) hd
end
section
variable {g : Gl} {n : Nat} {sc : Scope} {ρ : List (Str × Lv)} {x : Str} {pos : Pos} {d d₁ d₂ : PyData} {l r e : Expr} {lv : Lv}
theorem Ev.imp {P P' : List Addr → Heap → Value → Prop} (h : Ev g n sc ρ e P) (hp : ∀ X h v, P X h v → P' X h v) : Ev g n sc ρ e P' := fun A env X s E Q o k => h A env X s E Q o fun v s' u p => k v s' u (hp _ _ _ p)
theorem EvL.as {l l' : Lv} (h : EvL g n sc ρ e l) (hd : l = l') : EvL g n sc ρ e l' := hd ▸ h
theorem EvD.as {d d' : PyData} (h : EvD g n sc ρ e d) (hd : d = d') : EvD g n sc ρ e d' := hd ▸ h
theorem Ts.as {b b' : Bool} (h : Ts g n sc ρ e b) (hd : b = b') : Ts g n sc ρ e b' := hd ▸ h
theorem ev_name (h : (x, lv) ∈ ρ) (hd : (x == ("__debug__" : Str)) = false := by decide) (hn : (x == ("__classdict__" : Str)) = false := by decide) : EvL g n sc ρ (.Name x pos) lv := fun A env X s E Q o k => by
  obtain ⟨v, hv, hr⟩ := o.cx.vars _ h
  exact load_var o.cx.fn hv (k v s Up.refl hr) hd hn
theorem ev_glob {v : Value} (hk : sc.names.lookup x = some .globalImplicit) (hv : nsIn g.K mainGlobals x = some (some v)) (hd : (x == ("__debug__" : Str)) = false := by decide) : EvV g n sc ρ (.Name x pos) v := fun A env X s E Q o k => by
  obtain ⟨mg, hg⟩ := o.cx.top.g
  refine Calls.Name_function_global o.cx.fn (by rw [Env.kindOf, o.sc]; exact hk) (Calls.loadGlobal_global (mg := mg) (by rw [o.cx.gl]; exact hg) (mg_of o.cx.top.k hg hv) (k v s Up.refl rfl)) hd
theorem ev_built {v : Value} (hk : sc.names.lookup x = some .globalImplicit) (hv : nsIn g.K mainGlobals x = some none) (hb : bootBuiltins x = some v) (hn : x ≠ "__name__") (hd : (x == ("__debug__" : Str)) = false := by decide) : EvV g n sc ρ (.Name x pos) v := fun A env X s E Q o k => by
  obtain ⟨mg, hg⟩ := o.cx.top.g
  obtain ⟨mb, hm, hb'⟩ := o.cx.top.b
  exact Calls.Name_function_global o.cx.fn (by rw [Env.kindOf, o.sc]; exact hk) (Calls.loadGlobal_builtin (mg := mg) (mb := mb) (by rw [o.cx.gl]; exact hg) (mg_none_of o.cx.top.k hg hv) (by rw [o.cx.bt]; exact hm) ((hb' x hn).trans hb) (k v s Up.refl rfl)) hd
theorem ev_int {i : Int} {k : Nat} : EvD g n sc ρ (.Constant (.int i) k pos) (.int i) := fun A env X s E Q o kk => wpAny_Constant_int (kk _ _ Up.tok (.int _ _))
theorem ev_str {k : Nat} : EvD g n sc ρ (.Constant (.str x) k pos) (.str x) := fun A env X s E Q o kk => Calls.Constant_str (kk _ _ Up.tok (.str _ _))
theorem ev_bool {b : Bool} {k : Nat} : EvD g n sc ρ (.Constant (.bool b) k pos) (.bool b) := fun A env X s E Q o kk => wpAny_pure (kk _ _ Up.refl (.bool _))
theorem ev_none {k : Nat} : EvD g n sc ρ (.Constant .none k pos) .none := fun A env X s E Q o kk => wpAny_pure (kk _ _ Up.refl .none)
noncomputable def Op2 (g : Gl) (n : Nat) (f : Value → Value → Sem Value) (d₁ d₂ d : PyData) : Prop := ∀ A X s a b E Q, Bd n A → PT ∈ X → Lives g.K X s.heap → Rep X s.heap a d₁ → Rep X s.heap b d₂ →
  (∀ v s', Ex s s' → Rep X s'.heap v d → Q v s') → wpAny (model g.prog g.w) A (f a b) Q E s
theorem fresh_of {K : Frag} {X : List Addr} {s : Shared} (h : Lives K X s.heap) : s.heap.objs.size ∉ X := h.fresh
theorem ev_bin {op : Operator} (h : Op2 g n (binaryOp op) d₁ d₂ d) (hl : EvD g n sc ρ l d₁) (hr : EvD g n sc ρ r d₂) : EvD g n sc ρ (.BinOp l op r pos) d := fun A env X s E Q o k =>
  wpAny_BinOp (hl A env X s E _ o fun a s₁ u₁ r₁ => hr A env X s₁ E _ (o.up u₁) fun b s₂ u₂ r₂ => h A X s₂ a b E Q o.bd o.cx.tabX ((o.up u₁).up u₂).cx.live ((o.up u₁).rep u₂ r₁) r₂ fun v s' u₃ r₃ => k v s' ((u₁.trans u₂).trans u₃) r₃)
theorem op_add {a b : Int} : Op2 g n (binaryOp .Add) (.int a) (.int b) (.int (a + b)) := fun A X s x y E Q B hX hl rx ry k => by
  obtain ⟨t, rfl⟩ := rx.inv_int; obtain ⟨u, rfl⟩ := ry.inv_int; exact wpAny_add_int (k _ _ Up.tok (.int _ _))
theorem op_mod {a b : Int} (hb : 0 < b) : Op2 g n (binaryOp .Mod) (.int a) (.int b) (.int (a % b)) := fun A X s x y E Q B hX hl rx ry k => by
  obtain ⟨t, rfl⟩ := rx.inv_int; obtain ⟨u, rfl⟩ := ry.inv_int
  refine mod_int' (by omega) (k _ _ Up.tok ?_)
  rw [Int.fmod_eq_emod_of_nonneg a (by omega)]; exact .int _ _
theorem op_fdiv {a b : Int} (hb : 0 < b) (hs : b < 1073741824) : Op2 g n (binaryOp .FloorDiv) (.int a) (.int b) (.int (a / b)) := fun A X s x y E Q B hX hl rx ry k => by
  obtain ⟨t, rfl⟩ := rx.inv_int; obtain ⟨u, rfl⟩ := ry.inv_int
  refine floordiv_int (by omega) (k _ _ Up.tok ?_) (.inl (PyProof.noPylong_small (by omega)))
  rw [Int.fdiv_eq_ediv_of_nonneg a (by omega)]; exact .int _ _
theorem op_and {a b : Int} : Op2 g n (binaryOp .BitAnd) (.int a) (.int b) (.int (Builtin.bitAnd a b)) := fun A X s x y E Q B hX hl rx ry k => by
  obtain ⟨t, rfl⟩ := rx.inv_int; obtain ⟨u, rfl⟩ := ry.inv_int; exact and_int (k _ _ Up.tok (.int _ _))
theorem op_addS {a b : Str} (hz : a.length + b.length ≤ sizeLine) : Op2 g n (binaryOp .Add) (.str a) (.str b) (.str (a ++ b)) := fun A X s x y E Q B hX hl rx ry k => by
  obtain ⟨t, rfl⟩ := rx.inv_str; obtain ⟨u, rfl⟩ := ry.inv_str; exact add_str (fun t' tk => k _ _ Up.tok (.str _ _)) hz
theorem rep_list {X : List Addr} {s : Shared} {vs : List Value} {ds : List PyData} (hf : s.heap.objs.size ∉ X) (h : RepAll X s.heap vs ds) : Rep X (s.heap.push (listO vs 0)) (.ref s.heap.objs.size) (.list ds) :=
  .list hf (Heap.get?_push_size _ rfl) (h.to fun _ _ ha e => ⟨ha, Heap.get?_push_of_some _ e⟩)
theorem rep_tuple {X : List Addr} {s : Shared} {vs : List Value} {ds : List PyData} (hf : s.heap.objs.size ∉ X) (h : RepAll X s.heap vs ds) : Rep X (s.heap.push (tupO vs 0)) (.ref s.heap.objs.size) (.tuple ds) :=
  .tuple hf (Heap.get?_push_size _ rfl) (h.to fun _ _ ha e => ⟨ha, Heap.get?_push_of_some _ e⟩)
theorem op_addL {ds es : List PyData} (hz : ds.length + es.length ≤ 1000000) : Op2 g n (binaryOp .Add) (.list ds) (.list es) (.list (ds ++ es)) := fun A X s x y E Q B hX hl rx ry k => by
  obtain ⟨a, vs, n, rfl, ha, hla, hva⟩ := rx.inv_list
  obtain ⟨b, ws, m, rfl, hb, hlb, hwb⟩ := ry.inv_list
  refine P.add_list hla hlb (k _ _ Up.push' ?_) (by have := hva.length; have := hwb.length; simp only [List.size_toArray, sizeLine_eq]; omega)
  have := rep_list (fresh_of hl) (hwb.append hva)
  simpa using this
theorem all_nil : EvAll g n sc ρ [] [] := fun pos A env X s E Q o k => Calls.spliced_nil (k _ _ Up.refl .nil)
theorem all_cons {rest : List Expr} {ls : List Lv} (h : EvL g n sc ρ e lv) (hr : EvAll g n sc ρ rest ls) (he : ∀ env, starEach (e :: rest) env = (false, eval e env) :: starEach rest env := by intro _; rfl) : EvAll g n sc ρ (e :: rest) (lv :: ls) := fun pos A env X s E Q o k =>
  spliced_more (h A env X s E _ o fun v s₁ u₁ r₁ => hr pos A env X s₁ E _ (o.up u₁) fun vs s₂ u₂ r₂ => k _ _ (u₁.trans u₂) (.cons ((o.up u₁).lv u₂ r₁) r₂)) (he _)
theorem ev_list {es : List Expr} {ds : List PyData} (h : EvAll g n sc ρ es (ds.map Lv.dat)) (hz : ds.length ≤ 1000000 := by decide) : EvD g n sc ρ (.List es pos) (.list ds) := fun A env X s E Q o k =>
  List_ (h pos A env X s E _ o fun vs s₁ u₁ r₁ => wpAny_newObj_type (k _ _ (u₁.trans Up.push') (rep_list (o.up u₁).fresh r₁.dats)) (by show vs.toArray.size ≤ sizeLine; have := r₁.dats.length; rw [List.size_toArray, sizeLine_eq]; omega))
theorem ev_tuple {es : List Expr} {ds : List PyData} {k' : Nat} (h : EvAll g n sc ρ es (ds.map Lv.dat)) (hz : ds.length ≤ 1000000 := by decide) : EvD g n sc ρ (.Tuple es k' pos) (.tuple ds) := fun A env X s E Q o k =>
  Tuple_ (h pos A env X s E _ o fun vs s₁ u₁ r₁ => wpAny_newObj_type (k _ _ (u₁.trans Up.push') (rep_tuple (o.up u₁).fresh r₁.dats)) (by show vs.toArray.size ≤ sizeLine; have := r₁.dats.length; rw [List.size_toArray, sizeLine_eq]; omega))
theorem LvAll.vals {X : List Addr} {h : Heap} : ∀ {vs us : List Value}, LvAll X h vs (us.map Lv.val) → vs = us
  | _, [], .nil => rfl
  | _, _ :: _, .cons x r => by rw [show _ = _ from x, LvAll.vals r]
theorem ev_tvs {es : List Expr} {us : List Value} {k' : Nat} (h : EvAll g n sc ρ es (us.map Lv.val)) (hz : us.length ≤ 1000000 := by decide) : EvL g n sc ρ (.Tuple es k' pos) (.tvs us) := fun A env X s E Q o k =>
  Tuple_ (h pos A env X s E _ o fun vs s₁ u₁ r₁ => by
    have e := r₁.vals
    subst e
    exact wpAny_newObj_type (k _ _ (u₁.trans Up.push') ⟨_, _, rfl, (o.up u₁).fresh, Heap.get?_push_size _ rfl⟩) (by show vs.toArray.size ≤ sizeLine; rw [List.size_toArray, sizeLine_eq]; omega))
theorem ev_cmp {op : CmpOp} (h : Op2 g n (compareOp op) d₁ d₂ d) (hl : EvD g n sc ρ l d₁) (hr : EvD g n sc ρ r d₂)
    (hm : behindInMarks op r = false := by with_unfolding_all rfl) : EvD g n sc ρ (.Compare l [op] [r] pos) d := fun A env X s E Q o k =>
  wpAny_Compare1 (hl A env X s E _ o fun a s₁ u₁ r₁ => hr A env X s₁ E _ (o.up u₁) fun b s₂ u₂ r₂ => h A X s₂ a b E Q o.bd o.cx.tabX ((o.up u₁).up u₂).cx.live ((o.up u₁).rep u₂ r₁) r₂ fun v s' u₃ r₃ => k v s' ((u₁.trans u₂).trans u₃) r₃) hm
theorem ts_cmp {op : CmpOp} {bb : Bool} (h : Op2 g n (compareOp op) d₁ d₂ (.bool bb)) (hl : EvD g n sc ρ l d₁) (hr : EvD g n sc ρ r d₂)
    (hm : behindInMarks op r = false := by with_unfolding_all rfl) : Ts g n sc ρ (.Compare l [op] [r] pos) bb := fun A env X s E Q o k =>
  wpAny_isTrue_Compare1 (hl A env X s E _ o fun a s₁ u₁ r₁ => hr A env X s₁ E _ (o.up u₁) fun b s₂ u₂ r₂ => h A X s₂ a b E _ o.bd o.cx.tabX ((o.up u₁).up u₂).cx.live ((o.up u₁).rep u₂ r₁) r₂ fun v s' u₃ r₃ => by
    rw [r₃.inv_bool]; exact wpAny_truthy_bool (k s' ((u₁.trans u₂).trans u₃))) hm
theorem op_eq (h₁ : SeqAt.shaped d₁ = true) (h₂ : SeqAt.shaped d₂ = true) : Op2 g n (compareOp .Eq) d₁ d₂ (.bool (PyData.eqv d₁ d₂)) := fun A X s a b E Q B hX hl ra rb k => by
  obtain ⟨as, r₁⟩ := ra.reads; obtain ⟨bs, r₂⟩ := rb.reads
  exact eq_dataH r₁ r₂ h₁ h₂ B.units (k _ _ Up.refl (.bool _))
theorem op_ne (h₁ : SeqAt.shaped d₁ = true) (h₂ : SeqAt.shaped d₂ = true) : Op2 g n (compareOp .NotEq) d₁ d₂ (.bool (!PyData.eqv d₁ d₂)) := fun A X s a b E Q B hX hl ra rb k => by
  obtain ⟨as, r₁⟩ := ra.reads; obtain ⟨bs, r₂⟩ := rb.reads
  exact ne_dataH r₁ r₂ h₁ h₂ B.units (k _ _ Up.refl (.bool _))
theorem op_in {ds : List PyData} (h₁ : PyData.canLayAll0 ds = true) (h₂ : d₁.canLay0 = true) (h₃ : d₁.depth = 0) : Op2 g n (compareOp .In) d₁ (.list ds) (.bool (ds.any fun y => PyData.eqv y d₁)) := fun A X s a b E Q B hX hl ra rb k => by
  obtain ⟨as, r₁⟩ := ra.reads; obtain ⟨bs, r₂⟩ := rb.reads
  exact SeqAt.in_list_reads r₂ r₁ h₁ h₂ (by have := B.units; rw [h₃, Nat.min_zero]; omega) (k _ _ Up.refl (.bool _))
theorem op_nin {ds : List PyData} (h₁ : PyData.canLayAll0 ds = true) (h₂ : d₁.canLay0 = true) (h₃ : d₁.depth = 0) : Op2 g n (compareOp .NotIn) d₁ (.list ds) (.bool (!ds.any fun y => PyData.eqv y d₁)) := fun A X s a b E Q B hX hl ra rb k => by
  obtain ⟨as, r₁⟩ := ra.reads; obtain ⟨bs, r₂⟩ := rb.reads
  exact SeqAt.notIn_list_reads r₂ r₁ h₁ h₂ (by have := B.units; rw [h₃, Nat.min_zero]; omega) (k _ _ Up.refl (.bool _))
theorem op_ge {a b : Int} : Op2 g n (compareOp .GtE) (.int a) (.int b) (.bool (decide (b ≤ a))) := fun A X s x y E Q B hX hl rx ry k => by
  obtain ⟨t, rfl⟩ := rx.inv_int; obtain ⟨u, rfl⟩ := ry.inv_int; exact PyProof.Rows.ge_int (k _ _ Up.refl (.bool _))
theorem ts_of {b : Bool} (h : EvL g n sc ρ e lv) (ht : ∀ A X s v E Q, lv.is X s.heap v → (∀ s', Ex s s' → Q b s') → wpAny (model g.prog g.w) A (truthy v) Q E s)
    (he : ∀ env whole, isTrue e env whole = (do let v ← whole; standAt e.pos; holding [v] (truthy v)) := by intro _ _; rfl) : Ts g n sc ρ e b := fun A env X s E Q o k =>
  isTrue_plain (h A env X s E _ o fun v s₁ u₁ r₁ => ht A X s₁ v E Q r₁ fun s' u₂ => k _ (u₁.trans u₂)) (he _ _)
theorem ts_bool {b : Bool} (h : EvD g n sc ρ e (.bool b)) (he : ∀ env whole, isTrue e env whole = (do let v ← whole; standAt e.pos; holding [v] (truthy v)) := by intro _ _; rfl) : Ts g n sc ρ e b :=
  ts_of h (fun A X s v E Q r k => by rw [Rep.inv_bool r]; exact wpAny_truthy_bool (k _ Up.refl)) he
theorem ts_not {b : Bool} (h : Ts g n sc ρ e b) : Ts g n sc ρ (.UnaryOp .Not e pos) (!b) := fun A env X s E Q o k => isTrue_not (h A env X s E _ o fun s₁ u₁ => k _ u₁)
theorem ts_orT {rest : List Expr} (h : Ts g n sc ρ e true) : Ts g n sc ρ (.BoolOp .Or (e :: rest) pos) true := fun A env X s E Q o k => isTrue_or (h A env X s E _ o fun s₁ u₁ => k _ u₁)
theorem ts_or {rest : List Expr} {b : Bool} (h : Ts g n sc ρ e false) (hr : Ts g n sc ρ (.BoolOp .Or rest pos) b) : Ts g n sc ρ (.BoolOp .Or (e :: rest) pos) b := fun A env X s E Q o k =>
  isTrue_or (h A env X s E _ o fun s₁ u₁ => hr A env X s₁ E Q (o.up u₁) fun s₂ u₂ => k _ (u₁.trans u₂))
theorem ts_or0 : Ts g n sc ρ (.BoolOp .Or [] pos) false := fun A env X s E Q o k => isTrue_or_nil (k _ Up.refl)
theorem ts_andF {rest : List Expr} (h : Ts g n sc ρ e false) : Ts g n sc ρ (.BoolOp .And (e :: rest) pos) false := fun A env X s E Q o k => isTrue_and (h A env X s E _ o fun s₁ u₁ => k _ u₁)
theorem ts_and {rest : List Expr} {b : Bool} (h : Ts g n sc ρ e true) (hr : Ts g n sc ρ (.BoolOp .And rest pos) b) : Ts g n sc ρ (.BoolOp .And (e :: rest) pos) b := fun A env X s E Q o k =>
  isTrue_and (h A env X s E _ o fun s₁ u₁ => hr A env X s₁ E Q (o.up u₁) fun s₂ u₂ => k _ (u₁.trans u₂))
theorem ts_and0 : Ts g n sc ρ (.BoolOp .And [] pos) true := fun A env X s E Q o k => isTrue_and_nil (k _ Up.refl)
theorem ts_and2 {e₁ e₂ : Expr} {b₁ b₂ : Bool} (h₁ : Ts g n sc ρ e₁ b₁) (h₂ : b₁ = true → Ts g n sc ρ e₂ b₂) : Ts g n sc ρ (.BoolOp .And [e₁, e₂] pos) (b₁ && b₂) := by
  cases b₁ with
  | false => exact ts_andF h₁
  | true =>
    refine (ts_and h₁ (b := b₂) ?_).as (by simp)
    cases b₂ with
    | false => exact ts_andF (h₂ rfl)
    | true => exact ts_and (h₂ rfl) ts_and0
theorem ev_ifT {t a b : Expr} (ht : Ts g n sc ρ t true) (ha : EvL g n sc ρ a lv) : EvL g n sc ρ (.IfExp t a b pos) lv := fun A env X s E Q o k =>
  wpAny_bind (ht A env X s E _ o fun s₁ u₁ => ha A env X s₁ E Q (o.up u₁) fun v s₂ u₂ r₂ => k _ _ (u₁.trans u₂) r₂)
theorem ev_ifF {t a b : Expr} (ht : Ts g n sc ρ t false) (ha : EvL g n sc ρ b lv) : EvL g n sc ρ (.IfExp t a b pos) lv := fun A env X s E Q o k =>
  wpAny_bind (ht A env X s E _ o fun s₁ u₁ => ha A env X s₁ E Q (o.up u₁) fun v s₂ u₂ r₂ => k _ _ (u₁.trans u₂) r₂)
theorem ev_if {t a b : Expr} {bb : Bool} (ht : Ts g n sc ρ t bb) (ha : bb = true → EvL g n sc ρ a lv) (hb : bb = false → EvL g n sc ρ b lv) : EvL g n sc ρ (.IfExp t a b pos) lv := by
  cases bb with
  | true => exact ev_ifT ht (ha rfl)
  | false => exact ev_ifF ht (hb rfl)
noncomputable def Does (g : Gl) (n : Nat) (f : List Value → Sem Value) (ls : List Lv) (P : List Addr → Heap → Value → Prop) : Prop := ∀ A X s vs E Q, Bd n A → Tp g.K s.heap → TabOk s.heap → PT ∈ X → Lives g.K X s.heap → LvAll X s.heap vs ls →
  (∀ v s', Ex s s' → P X s'.heap v → Q v s') → wpAny (model g.prog g.w) A (f vs) Q E s
noncomputable abbrev Fn (g : Gl) (n : Nat) (f : Value) (ls : List Lv) (lv : Lv) : Prop := Does g n (fun vs => call f vs) ls fun X h v => lv.is X h v
theorem Does.more {m : Nat} {f : List Value → Sem Value} {ls : List Lv} {P : List Addr → Heap → Value → Prop} (h : Does g n f ls P) (hm : n ≤ m) : Does g m f ls P := fun A X s vs E Q B => h A X s vs E Q (B.less hm)
theorem ev_call {f : Value} {func : Expr} {rest : List Expr} {ls : List Lv} {P : List Addr → Heap → Value → Prop} (F : Does g n (fun vs => call f vs) ls P) (hk : keepIn g.K f = true) (hf : EvV g n sc ρ func f) (ha : EvAll g n sc ρ (e :: rest) ls)
    (he : ∀ env, starEach (e :: rest) env = (false, eval e env) :: starEach rest env := by intro _; rfl) (hp : ∀ env, (backTo pos (starEach rest env)).any (·.1) = false := by intro _; rfl)
    (hc : ∀ env, eval (.Call func (e :: rest) [] pos) env = (do callWith pos (← eval func env) [] (backTo pos (starEach (e :: rest) env)) (backToKw pos (keywordEach [] env))) := by intro _; rfl) : Ev g n sc ρ (.Call func (e :: rest) [] pos) P := fun A env X s E Q o k =>
  Call_ (hf A env X s E _ o fun v s₁ u₁ r₁ => by
    have r₁' : v = f := r₁
    subst r₁'
    exact callWith_K o.cx.top.k hk (ha pos A env X s₁ E _ (o.up u₁) fun vs s₂ u₂ r₂ => ⟨((o.up u₁).up u₂).cx.top.k, F A X s₂ vs E Q o.bd ((o.up u₁).up u₂).cx.top ((o.up u₁).up u₂).cx.tab o.cx.tabX ((o.up u₁).up u₂).cx.live r₂ fun v s₃ u₃ r₃ => k v s₃ ((u₁.trans u₂).trans u₃) r₃⟩) (he _) (hp _)) (hc _)
theorem ev_call0 {f : Value} {func : Expr} {P : List Addr → Heap → Value → Prop} (F : Does g n (fun vs => call f vs) [] P) (hk : keepIn g.K f = true) (hf : EvV g n sc ρ func f)
    (hc : ∀ env, eval (.Call func [] [] pos) env = (do callWith pos (← eval func env) [] (backTo pos (starEach [] env)) (backToKw pos (keywordEach [] env))) := by intro _; rfl) : Ev g n sc ρ (.Call func [] [] pos) P := fun A env X s E Q o k =>
  Call_ (hf A env X s E _ o fun v s₁ u₁ r₁ => by
    have r₁' : v = f := r₁
    subst r₁'
    exact callWith_K0 (o.up u₁).cx.top.k hk (F A X s₁ [] E Q o.bd (o.up u₁).cx.top (o.up u₁).cx.tab o.cx.tabX (o.up u₁).cx.live .nil fun v s₃ u₃ r₃ => k v s₃ (u₁.trans u₃) r₃)) (hc _)
theorem ev_callB {id : String} {func : Expr} {rest : List Expr} {ls : List Lv} {P : List Addr → Heap → Value → Prop} (F : Does g n (fun vs => call (.builtin id) vs) ls P) (hf : EvV g n sc ρ func (.builtin id)) (ha : EvAll g n sc ρ (e :: rest) ls)
    (he : ∀ env, starEach (e :: rest) env = (false, eval e env) :: starEach rest env := by intro _; rfl) (hp : ∀ env, (backTo pos (starEach rest env)).any (·.1) = false := by intro _; rfl)
    (hc : ∀ env, eval (.Call func (e :: rest) [] pos) env = (do callWith pos (← eval func env) [] (backTo pos (starEach (e :: rest) env)) (backToKw pos (keywordEach [] env))) := by intro _; rfl) : Ev g n sc ρ (.Call func (e :: rest) [] pos) P := fun A env X s E Q o k =>
  Call_ (hf A env X s E _ o fun v s₁ u₁ r₁ => by
    have r₁' : v = .builtin id := r₁
    subst r₁'
    exact callWith_builtin1 (ha pos A env X s₁ E _ (o.up u₁) fun vs s₂ u₂ r₂ => F A X s₂ vs E Q o.bd ((o.up u₁).up u₂).cx.top ((o.up u₁).up u₂).cx.tab o.cx.tabX ((o.up u₁).up u₂).cx.live r₂ fun v s₃ u₃ r₃ => k v s₃ ((u₁.trans u₂).trans u₃) r₃) (he _) (hp _)) (hc _)
theorem ev_callT {T : String} {func : Expr} {rest : List Expr} {ls : List Lv} {P : List Addr → Heap → Value → Prop} (F : Does g n (fun vs => call (.type T) vs) ls P) (hf : EvV g n sc ρ func (.type T)) (ha : EvAll g n sc ρ (e :: rest) ls)
    (he : ∀ env, starEach (e :: rest) env = (false, eval e env) :: starEach rest env := by intro _; rfl) (hp : ∀ env, (backTo pos (starEach rest env)).any (·.1) = false := by intro _; rfl)
    (hc : ∀ env, eval (.Call func (e :: rest) [] pos) env = (do callWith pos (← eval func env) [] (backTo pos (starEach (e :: rest) env)) (backToKw pos (keywordEach [] env))) := by intro _; rfl) : Ev g n sc ρ (.Call func (e :: rest) [] pos) P := fun A env X s E Q o k =>
  Call_ (hf A env X s E _ o fun v s₁ u₁ r₁ => by
    have r₁' : v = .type T := r₁
    subst r₁'
    exact Pv.callWith_type1 (ha pos A env X s₁ E _ (o.up u₁) fun vs s₂ u₂ r₂ => F A X s₂ vs E Q o.bd ((o.up u₁).up u₂).cx.top ((o.up u₁).up u₂).cx.tab o.cx.tabX ((o.up u₁).up u₂).cx.live r₂ fun v s₃ u₃ r₃ => k v s₃ ((u₁.trans u₂).trans u₃) r₃) (he _) (hp _)) (hc _)
end
end Mine
end

noncomputable section
namespace Mine
theorem Lv.is.shape {X : List Addr} {h : Heap} {v : Value} {l : Lv} (x : l.is X h v) (a : Addr) (e : l.own = some a) : ∃ o, h.get? a = some o ∧ (∀ es ep, o.data ≠ .dict es ep) ∧ ∀ c, o.data ≠ .cell c := let ⟨_, o, ho, _, r⟩ := x.owned e; ⟨o, ho, r⟩
theorem Lv.is.ne_ns {X : List Addr} {h : Heap} {v : Value} {l : Lv} {a b : Addr} {m : Str → Option Value} (x : l.is X h v) (ha : l.own = some a) (hb : h.Ns b m) : a ≠ b := by
  rintro rfl
  obtain ⟨o, ho, h1, _⟩ := x.shape _ ha
  obtain ⟨o', es, ep, ho', hd, _⟩ := hb
  rw [ho] at ho'; cases ho'; exact h1 _ _ hd
theorem Lv.is.ne_cell {X : List Addr} {h : Heap} {v : Value} {l : Lv} {a b : Addr} {m : Option Value} (x : l.is X h v) (ha : l.own = some a) (hb : h.IsCell b m) : a ≠ b := by
  rintro rfl
  obtain ⟨o, ho, _, h1⟩ := x.shape _ ha
  obtain ⟨o', ho', hd⟩ := hb
  rw [ho] at ho'; cases ho'; exact h1 _ hd
theorem ns_ne_cell {h : Heap} {a b : Addr} {m : Str → Option Value} {v : Option Value} (x : h.Ns a m) (y : h.IsCell b v) : a ≠ b := by
  rintro rfl
  obtain ⟨o, es, ep, ho, hd, _⟩ := x
  obtain ⟨o', ho', hd'⟩ := y
  rw [ho] at ho'; cases ho'; rw [hd] at hd'; cases hd'
theorem TabOk.but {h h' : Heap} {a : Addr} {o : Obj} (x : TabOk h) (ha : h.get? a = some o) (hs : Heap.ExtBut a h h') (hd : Dull o) : TabOk h' :=
  x.keepsBut (Z := [a]) (fun b o hb e => hs b o (fun q => hb (by rw [q]; exact .head _)) e) fun z hz => by rw [List.mem_singleton.mp hz]; exact ⟨_, ha, hd⟩
theorem Dull.dict {o : Obj} {es : Array DictEntry} {ep : Nat} (h : o.data = .dict es ep) : Dull o := fun vs q => by rw [h] at q; cases q
theorem Dull.cell {o : Obj} {c : Option Value} (h : o.data = .cell c) : Dull o := fun vs q => by rw [h] at q; cases q
theorem Tp.but {K : Frag} {h h' : Heap} {a : Addr} (x : Tp K h) (hs : Heap.ExtBut a h h') (hK : K.lookup a = none) (hg : a ≠ mainGlobals) (hb : a ≠ builtinsNs) (hc : a ≠ cStatics) : Tp K h' where
  k := fun b o e => hs b o (by rintro rfl; rw [hK] at e; cases e) (x.k b o e)
  g := let ⟨mg, h⟩ := x.g; ⟨mg, Heap.Ns.to h fun o e => hs _ o (Ne.symm hg) e⟩
  b := let ⟨mb, h, r⟩ := x.b; ⟨mb, Heap.Ns.to h fun o e => hs _ o (Ne.symm hb) e, r⟩
  lim := let ⟨mc, h, r⟩ := x.lim; ⟨mc, Heap.Ns.to h fun o e => hs _ o (Ne.symm hc) e, r⟩
  kPT := x.kPT
theorem Cx.but {K : Frag} {env : Env} {X : List Addr} {ρ ρ' : List (Str × Lv)} {s : Shared} {h' : Heap} {tk : Nat} {a : Addr} {oa : Obj} (x : Cx K env X ρ s) (haX : a ∈ X) (ho : s.heap.get? a = some oa) (hd : Dull oa)
    (hs : Heap.ExtBut a s.heap h') (ha' : ∃ o, h'.get? a = some o) (ns' : ∃ m, h'.Ns env.locals m) (cel' : ∀ x c, env.cells.lookup x = some c → ∃ v, h'.IsCell c v)
    (vars' : ∀ p ∈ ρ', ∃ v, Var env h' p.1 v ∧ p.2.is X h' v) : Cx K env X ρ' { s with heap := h', toks := tk } where
  fn := x.fn
  gl := x.gl
  bt := x.bt
  top := let ⟨_, a1, a2, a3, a4⟩ := x.live a haX; x.top.but hs a1 a2 a3 a4
  tab := x.tab.but ho hs hd
  tabX := x.tabX
  live := fun b hb => ⟨by
    by_cases e : b = a
    · rw [e]; exact ha'
    · obtain ⟨⟨o, q⟩, _⟩ := x.live b hb; exact ⟨o, hs b o e q⟩, (x.live b hb).2⟩
  ns := ns'
  cel := cel'
  inj := x.inj
  has := x.has
  own := x.own
  vars := vars'
theorem Var.to {env : Env} {h h' : Heap} {x : Str} {v : Value} {a : Addr} (q : Var env h x v) (hs : Heap.ExtBut a h h') (hl : a ≠ env.locals) (hc : ∀ y c, env.cells.lookup y = some c → a ≠ c) : Var env h' x v := by
  rcases q with ⟨hk, m, hn, hv⟩ | ⟨hk, c, hl', hv⟩
  · exact .inl ⟨hk, m, Heap.Ns.to hn fun o e => hs _ o (Ne.symm hl) e, hv⟩
  · exact .inr ⟨hk, c, hl', Heap.IsCell.to hv fun o e => hs _ o (Ne.symm (hc _ _ hl')) e⟩
noncomputable def Ch (Z : List Addr) (s₀ : Shared) (a : Addr) : Prop := a ∈ Z ∨ s₀.heap.get? a = none
structure Fx (g : Gl) (n : Nat) (sc : Scope) (ρ : List (Str × Lv)) (A : Around) (env : Env) (s₀ : Shared) (Z X₀ X : List Addr) (s : Shared) : Prop where
  ok : Ok g n sc ρ A env X s
  ex : Up Z s₀ s
  lo : ∀ a ∈ X₀, a ∈ X
  hi : ∀ a ∈ X, a ∈ X₀ ∨ s₀.heap.get? a = none
  zx : ∀ a ∈ Z, a ∈ X₀
  zp : PT ∈ Z
  li : ∀ a ∈ X₀, ∃ o, s₀.heap.get? a = some o
  oL : Ch Z s₀ env.locals
  oC : ∀ x c, env.cells.lookup x = some c → Ch Z s₀ c
  oV : ∀ p ∈ ρ, ∀ a, p.2.own = some a → Ch Z s₀ a
section
variable {g : Gl} {n : Nat} {sc : Scope} {ρ ρ' : List (Str × Lv)} {A : Around} {env : Env} {s₀ s s' : Shared} {Z X₀ X : List Addr} {x : Str} {v : Value} {l lv : Lv} {E : Value → Shared → Prop}
theorem Fx.up (F : Fx g n sc ρ A env s₀ Z X₀ X s) (u : Ex s s') : Fx g n sc ρ A env s₀ Z X₀ X s' :=
  { F with ok := F.ok.up u, ex := F.ex.from u fun a ha => .inl (by rw [List.mem_singleton.mp ha]; exact F.zp) }
theorem Fx.sub (F : Fx g n sc ρ A env s₀ Z X₀ X s) (h : ∀ p ∈ ρ', p ∈ ρ) : Fx g n sc ρ' A env s₀ Z X₀ X s :=
  { F with ok := ⟨F.ok.bd, F.ok.sc, F.ok.cx.sub h⟩, oV := fun p hp => F.oV p (h p hp) }
theorem Fx.but {h' : Heap} {tk : Nat} {a : Addr} {oa : Obj} (F : Fx g n sc ρ A env s₀ Z X₀ X s) (haX : a ∈ X) (haC : Ch Z s₀ a) (ho : s.heap.get? a = some oa) (hd : Dull oa)
    (hs : Heap.ExtBut a s.heap h') (ha' : ∃ o, h'.get? a = some o) (ns' : ∃ m, h'.Ns env.locals m) (cel' : ∀ x c, env.cells.lookup x = some c → ∃ v, h'.IsCell c v)
    (vars' : ∀ p ∈ ρ', ∃ v, Var env h' p.1 v ∧ p.2.is X h' v) (oV' : ∀ p ∈ ρ', ∀ a, p.2.own = some a → Ch Z s₀ a) : Fx g n sc ρ' A env s₀ Z X₀ X { s with heap := h', toks := tk } :=
  { F with
    ok := ⟨F.ok.bd, F.ok.sc, F.ok.cx.but haX ho hd hs ha' ns' cel' vars'⟩
    ex := F.ex.from (Up.but1 hs ho hd) fun b hb => by rw [List.mem_singleton.mp hb]; exact haC
    oV := oV' }
theorem Fx.store {Q : Unit → Shared → Prop} (F : Fx g n sc ρ A env s₀ Z X₀ X s) (hx : ∀ p ∈ ρ, p.1 ≠ x) (hk : sc.names.lookup x = some .local ∨ sc.names.lookup x = some .cell) (hl : l.is X s.heap v)
    (hc : ∀ a, l.own = some a → Ch Z s₀ a) (q : ∀ s', Fx g n sc ((x, l) :: ρ) A env s₀ Z X₀ X s' → Q () s') : wpAny (model g.prog g.w) A (storeName env x v) Q E s := by
  have cx := F.ok.cx
  have hLX : env.locals ∈ X := cx.own.1
  rcases hk with hk | hk
  · have hk' : env.kindOf x = some .local := by rw [Env.kindOf, F.ok.sc]; exact hk
    obtain ⟨m, hn⟩ := cx.ns
    refine wpAny_storeName_local hk' hn (fun h' hn' hs => q _ ?_) (by rw [cx.fn]; rfl)
    obtain ⟨o, es, ep, ho, hd, _⟩ := id hn
    have hcne : ∀ y c, env.cells.lookup y = some c → c ≠ env.locals := fun y c e => by
      obtain ⟨w, hw⟩ := cx.cel y c e; exact (ns_ne_cell hn hw).symm
    have u : Up [env.locals] s { s with heap := h', toks := s.toks + 1 } := Up.but1 hs.extBut ho (Dull.dict hd)
    have keepL : ∀ (l : Lv) (v : Value), l.is X s.heap v → l.is X h' v := fun l v r => r.up u (fun z hz => by rw [List.mem_singleton.mp hz]; exact hLX)
      fun a ha e => r.ne_ns ha hn (List.mem_singleton.mp e)
    refine F.but hLX F.oL ho (Dull.dict hd) hs.extBut (let ⟨o, _, _, e, _⟩ := hn'; ⟨o, e⟩) ⟨_, hn'⟩ (fun y c e => ?_) (fun p hp => ?_) (fun p hp => ?_)
    · obtain ⟨w, hw⟩ := cx.cel y c e; exact ⟨w, hw.sameBut hs (hcne y c e)⟩
    · rcases List.mem_cons.mp hp with rfl | hp
      · exact ⟨v, .inl ⟨hk', _, hn', by simp⟩, keepL _ _ hl⟩
      · obtain ⟨w, hw, hr⟩ := cx.vars p hp
        refine ⟨w, ?_, keepL _ _ hr⟩
        rcases hw with ⟨hk₂, m₂, hn₂, hv₂⟩ | ⟨hk₂, c, hc₂, hv₂⟩
        · obtain ⟨o₁, es₁, ep₁, ho₁, hd₁, hk₁, hf₁⟩ := hn
          obtain ⟨o₂, es₂, ep₂, ho₂, hd₂, _, hf₂⟩ := hn₂
          rw [ho₁] at ho₂; cases ho₂; rw [hd₁] at hd₂; cases hd₂
          exact .inl ⟨hk₂, _, hn', by show (if p.1 = x then some v else m p.1) = some w; rw [if_neg (hx p hp), ← hf₁, hf₂, hv₂]⟩
        · exact .inr ⟨hk₂, c, hc₂, hv₂.sameBut hs (hcne _ _ hc₂)⟩
    · rcases List.mem_cons.mp hp with rfl | hp
      · exact hc
      · exact F.oV p hp
  · have hk' : env.kindOf x = some .cell := by rw [Env.kindOf, F.ok.sc]; exact hk
    obtain ⟨c, hcx⟩ := cx.has x (.inr (by rw [F.ok.sc]; exact hk))
    obtain ⟨v₀, hv₀⟩ := cx.cel x c hcx
    refine wpAny_storeName_cell cx.fn hk' hcx hv₀ fun h' hc' hs => q _ ?_
    obtain ⟨o, ho, hd⟩ := id hv₀
    have hcX : c ∈ X := cx.own.2 x c hcx
    have u : Up [c] s { s with heap := h', toks := s.toks } := Up.but1 hs.extBut ho (Dull.cell hd)
    have keepL : ∀ (l : Lv) (v : Value), l.is X s.heap v → l.is X h' v := fun l v r => r.up u (fun z hz => by rw [List.mem_singleton.mp hz]; exact hcX)
      fun a ha e => r.ne_cell ha hv₀ (List.mem_singleton.mp e)
    obtain ⟨m, hn⟩ := cx.ns
    have hne : env.locals ≠ c := ns_ne_cell hn hv₀
    have hother : ∀ y c', y ≠ x → env.cells.lookup y = some c' → c' ≠ c := fun y c' hy e q => hy (cx.inj y x c (q ▸ e) hcx)
    refine F.but (tk := s.toks) hcX (F.oC x c hcx) ho (Dull.cell hd) hs.extBut (let ⟨o, e, _⟩ := hc'; ⟨o, e⟩) ⟨_, hn.sameBut hs hne⟩ (fun y c' e => ?_) (fun p hp => ?_) (fun p hp => ?_)
    · by_cases hy : y = x
      · subst hy; rw [hcx] at e; cases e; exact ⟨_, hc'⟩
      · obtain ⟨w, hw⟩ := cx.cel y c' e; exact ⟨w, hw.sameBut hs (hother y c' hy e)⟩
    · rcases List.mem_cons.mp hp with rfl | hp
      · exact ⟨v, .inr ⟨.inl hk', c, hcx, hc'⟩, keepL _ _ hl⟩
      · obtain ⟨w, hw, hr⟩ := cx.vars p hp
        refine ⟨w, ?_, keepL _ _ hr⟩
        rcases hw with ⟨hk₂, m₂, hn₂, hv₂⟩ | ⟨hk₂, c', hc₂, hv₂⟩
        · exact .inl ⟨hk₂, m₂, hn₂.sameBut hs hne, hv₂⟩
        · exact .inr ⟨hk₂, c', hc₂, hv₂.sameBut hs (hother _ _ (hx p hp) hc₂)⟩
    · rcases List.mem_cons.mp hp with rfl | hp
      · exact hc
      · exact F.oV p hp
end
inductive Out where
  | next (ρ : List (Str × Lv))
  | brk (ρ : List (Str × Lv))
  | ret (P : List Addr → Heap → Value → Prop)
noncomputable def Blk (g : Gl) (n : Nat) (sc : Scope) (ρ : List (Str × Lv)) (body : List Stmt) (o : Out) : Prop :=
  ∀ (A : Around) (env : Env) (s₀ : Shared) (Z X₀ X : List Addr) (s : Shared) (E : Value → Shared → Prop) (Q : Flow → Shared → Prop), Fx g n sc ρ A env s₀ Z X₀ X s →
    (match o with
      | .next ρ' => ∀ X' s', Fx g n sc ρ' A env s₀ Z X₀ X' s' → Q .next s'
      | .brk ρ' => ∀ X' s', Fx g n sc ρ' A env s₀ Z X₀ X' s' → Q .brk s'
      | .ret P => ∀ v s', Up Z s₀ s' → P X₀ s'.heap v → Q (.ret v) s') → wpAny (model g.prog g.w) A (execs body env) Q E s
noncomputable def Stm (g : Gl) (n : Nat) (sc : Scope) (ρ : List (Str × Lv)) (st : Stmt) (o : Out) : Prop :=
  ∀ (A : Around) (env : Env) (s₀ : Shared) (Z X₀ X : List Addr) (s : Shared) (E : Value → Shared → Prop) (Q : Flow → Shared → Prop), Fx g n sc ρ A env s₀ Z X₀ X s →
    (match o with
      | .next ρ' => ∀ X' s', Fx g n sc ρ' A env s₀ Z X₀ X' s' → Q .next s'
      | .brk ρ' => ∀ X' s', Fx g n sc ρ' A env s₀ Z X₀ X' s' → Q .brk s'
      | .ret P => ∀ v s', Up Z s₀ s' → P X₀ s'.heap v → Q (.ret v) s') → wpAny (model g.prog g.w) A (exec st env) Q E s
noncomputable def Less (P : List Addr → Heap → Value → Prop) : Prop := ∀ X Y h v, (∀ a ∈ Y, a ∈ X) → P X h v → P Y h v
theorem Less.dat {d : PyData} : Less fun X h v => (Lv.dat d).is X h v := fun X Y h v hs x => Rep.less x hs
section
variable {g : Gl} {n : Nat} {sc : Scope} {ρ ρ' ρ'' : List (Str × Lv)} {x : Str} {pos pos' : Pos} {d d₁ d₂ : PyData} {e : Expr} {lv : Lv} {st : Stmt} {rest body orelse : List Stmt} {o : Out} {P : List Addr → Heap → Value → Prop}
theorem blk_sub (h : Blk g n sc ρ' body o) (hs : ∀ p ∈ ρ', p ∈ ρ) : Blk g n sc ρ body o := fun A env s₀ Z X₀ X s E Q F k => h A env s₀ Z X₀ X s E Q (F.sub hs) k
theorem blk_to (h : Blk g n sc ρ body (.next ρ')) (hs : ∀ p ∈ ρ'', p ∈ ρ') : Blk g n sc ρ body (.next ρ'') := fun A env s₀ Z X₀ X s E Q F k => h A env s₀ Z X₀ X s E Q F fun X' s' F' => k X' s' (F'.sub hs)
theorem stm_sub (h : Stm g n sc ρ' st o) (hs : ∀ p ∈ ρ', p ∈ ρ) : Stm g n sc ρ st o := fun A env s₀ Z X₀ X s E Q F k => h A env s₀ Z X₀ X s E Q (F.sub hs) k
theorem stm_to (h : Stm g n sc ρ st (.next ρ')) (hs : ∀ p ∈ ρ'', p ∈ ρ') : Stm g n sc ρ st (.next ρ'') := fun A env s₀ Z X₀ X s E Q F k => h A env s₀ Z X₀ X s E Q F fun X' s' F' => k X' s' (F'.sub hs)
theorem blk_nil : Blk g n sc ρ [] (.next ρ) := fun A env s₀ Z X₀ X s E Q F k => wpAny_execs_nil (k X s F)
theorem blk_cons (h : Stm g n sc ρ st (.next ρ')) (hr : Blk g n sc ρ' rest o) : Blk g n sc ρ (st :: rest) o := fun A env s₀ Z X₀ X s E Q F k =>
  wpAny_execs_cons (h A env s₀ Z X₀ X s E _ F fun X' s' F' => hr A env s₀ Z X₀ X' s' E Q F' k)
theorem blk_stop (h : Stm g n sc ρ st (.ret P)) : Blk g n sc ρ (st :: rest) (.ret P) := fun A env s₀ Z X₀ X s E Q F k => wpAny_execs_cons (h A env s₀ Z X₀ X s E _ F k)
theorem blk_stopB (h : Stm g n sc ρ st (.brk ρ')) : Blk g n sc ρ (st :: rest) (.brk ρ') := fun A env s₀ Z X₀ X s E Q F k => wpAny_execs_cons (h A env s₀ Z X₀ X s E _ F k)
theorem blk_one (h : Stm g n sc ρ st o) : Blk g n sc ρ [st] o := by
  cases o with
  | next ρ' => exact blk_cons h blk_nil
  | brk ρ' => exact blk_stopB h
  | ret P => exact blk_stop h
theorem stm_ret (h : Ev g n sc ρ e P) (hP : Less P) : Stm g n sc ρ (.Return (some e) pos) (.ret P) := fun A env s₀ Z X₀ X s E Q F k =>
  wpAny_Return_some (h A env X s E _ F.ok fun v s₁ u p => k v s₁ (F.up u).ex (hP _ _ _ _ F.lo p))
theorem stm_retD (h : EvD g n sc ρ e d) : Stm g n sc ρ (.Return (some e) pos) (.ret fun X h v => (Lv.dat d).is X h v) := stm_ret h Less.dat
theorem no_name {ρ : List (Str × Lv)} {x : Str} (h : (ρ.all fun p => p.1 != x) = true) : ∀ p ∈ ρ, p.1 ≠ x := fun p hp e => by
  have := List.all_eq_true.mp h p hp
  rw [e] at this; simp at this
theorem stm_asg (h : EvL g n sc ρ e lv) (hk : sc.names.lookup x = some .local ∨ sc.names.lookup x = some .cell) (hx : (ρ'.all fun p => p.1 != x) = true) (hs : ∀ p ∈ ρ', p ∈ ρ) (ho : lv.own = none)
    (hw : ∀ env, swapsWith e (some (.Name x pos')) pos.line env = pure false) : Stm g n sc ρ (.Assign [.Name x pos'] e pos) (.next ((x, lv) :: ρ')) := fun A env s₀ Z X₀ X s E Q F k =>
  wpAny_Assign_Name (h A env X s E _ F.ok fun v s₁ u r => ((F.up u).sub hs).store (no_name hx) hk r (fun a ha => by rw [ho] at ha; cases ha) fun s₂ F₂ => k X s₂ F₂) (hw env)
theorem stm_aug {op : Operator} {d' : PyData} (h₀ : (x, .dat d₁) ∈ ρ) (h : EvD g n sc ρ e d₂) (hop : Op2 g n (inplaceOp op) d₁ d₂ d') (hk : sc.names.lookup x = some .local ∨ sc.names.lookup x = some .cell) (hx : (ρ'.all fun p => p.1 != x) = true) (hs : ∀ p ∈ ρ', p ∈ ρ)
    (hn : (x == ("__classdict__" : Str)) = false) : Stm g n sc ρ (.AugAssign (.Name x pos') op e pos) (.next ((x, .dat d') :: ρ')) := fun A env s₀ Z X₀ X s E Q F k => by
  obtain ⟨v, hv, hrv⟩ := F.ok.cx.vars _ h₀
  refine wpAny_AugAssign_Name (loadName_var F.ok.cx.fn hv ?_ hn)
  refine h A env X s E _ F.ok fun v₂ s₁ u r => ?_
  refine hop A X s₁ v v₂ E _ F.ok.bd F.ok.cx.tabX (F.up u).ok.cx.live (F.ok.rep u hrv) r fun v₃ s₂ u₂ r₂ => ?_
  exact (((F.up u).up u₂).sub hs).store (l := .dat d') (no_name hx) hk r₂ (fun a ha => nomatch ha) fun s₃ F₃ => k X s₃ F₃
theorem stm_if {t : Expr} {b : Bool} (ht : Ts g n sc ρ t b) (h₁ : b = true → Blk g n sc ρ body o) (h₂ : b = false → Blk g n sc ρ orelse o) : Stm g n sc ρ (.If t body orelse pos) o := fun A env s₀ Z X₀ X s E Q F k =>
  wpAny_If (ht A env X s E _ F.ok fun s' u => by
    cases b with
    | true => exact h₁ rfl A env s₀ Z X₀ X s' E Q (F.up u) k
    | false => exact h₂ rfl A env s₀ Z X₀ X s' E Q (F.up u) k)
end
section
variable {g : Gl} {n : Nat} {sc : Scope} {ρ ρ' : List (Str × Lv)} {A : Around} {env : Env} {s₀ s s' : Shared} {Z X₀ X X' : List Addr} {x : Str} {v : Value} {l lv : Lv} {E : Value → Shared → Prop}
theorem Lv.is.inX {X : List Addr} {h : Heap} {v : Value} {l : Lv} (x : l.is X h v) (a : Addr) (e : l.own = some a) : a ∈ X := (x.owned e).1
noncomputable def turnZ (env : Env) (ρ : List (Str × Lv)) : List Addr := PT :: env.locals :: (env.cells.filterMap (fun p => env.cells.lookup p.1) ++ ρ.filterMap (·.2.own))
theorem mem_turnZ {a : Addr} (h : a ∈ turnZ env ρ) : a = PT ∨ a = env.locals ∨ (∃ x, env.cells.lookup x = some a) ∨ ∃ p ∈ ρ, p.2.own = some a := by
  simp only [turnZ, List.mem_cons, List.mem_append, List.mem_filterMap] at h
  rcases h with h | h | ⟨p, _, h⟩ | h
  · exact .inl h
  · exact .inr (.inl h)
  · exact .inr (.inr (.inl ⟨_, h⟩))
  · exact .inr (.inr (.inr h))
theorem own_turnZ {p : Str × Lv} {a : Addr} (hp : p ∈ ρ) (h : p.2.own = some a) : a ∈ turnZ env ρ := by
  simp only [turnZ, List.mem_cons, List.mem_append, List.mem_filterMap]
  exact .inr (.inr (.inr ⟨p, hp, h⟩))
theorem cell_turnZ {a : Addr} (h : env.cells.lookup x = some a) : a ∈ turnZ env ρ := by
  simp only [turnZ, List.mem_cons, List.mem_append, List.mem_filterMap]
  exact .inr (.inr (.inl ⟨_, PySem.mem_of_lookup h, h⟩))
theorem Fx.stay (F : Fx g n sc ρ A env s₀ Z X₀ X s) {a : Addr} (h : s.heap.get? a = none) : s₀.heap.get? a = none := by
  cases e : s₀.heap.get? a with
  | none => rfl
  | some o =>
    by_cases hz : a ∈ Z
    · obtain ⟨⟨o', q⟩, _⟩ := F.ok.cx.live a (F.lo a (F.zx a hz)); rw [h] at q; cases q
    · have := F.ex.keep a o hz e; rw [h] at this; cases this
theorem Fx.turn (F : Fx g n sc ρ A env s₀ Z X₀ X s) : Fx g n sc ρ A env s (turnZ env ρ) X X s where
  ok := F.ok
  ex := Up.refl
  lo := fun _ h => h
  hi := fun _ h => .inl h
  zx := fun a h => by
    rcases mem_turnZ h with rfl | rfl | ⟨x, h⟩ | ⟨p, hp, h⟩
    · exact F.ok.cx.tabX
    · exact F.ok.cx.own.1
    · exact F.ok.cx.own.2 _ _ h
    · obtain ⟨v, _, r⟩ := F.ok.cx.vars p hp; exact r.inX a h
  zp := .head _
  li := fun a h => (F.ok.cx.live a h).1
  oL := .inl (.tail _ (.head _))
  oC := fun x c h => .inl (cell_turnZ h)
  oV := fun p hp a h => .inl (own_turnZ hp h)
theorem Fx.ch (F : Fx g n sc ρ A env s₀ Z X₀ X s) {a : Addr} (h : a ∈ turnZ env ρ) : Ch Z s₀ a := by
  rcases mem_turnZ h with rfl | rfl | ⟨x, h⟩ | ⟨p, hp, h⟩
  · exact .inl F.zp
  · exact F.oL
  · exact F.oC _ _ h
  · exact F.oV p hp a h
theorem Fx.back (F : Fx g n sc ρ A env s₀ Z X₀ X s) (G : Fx g n sc ρ' A env s (turnZ env ρ) X X' s') : Fx g n sc ρ' A env s₀ Z X₀ X' s' where
  ok := G.ok
  ex := F.ex.from G.ex fun a h => F.ch h
  lo := fun a h => G.lo a (F.lo a h)
  hi := fun a h => (G.hi a h).elim (F.hi a) fun e => .inr (F.stay e)
  zx := F.zx
  zp := F.zp
  li := F.li
  oL := F.oL
  oC := F.oC
  oV := fun p hp a h => (G.oV p hp a h).elim F.ch fun e => .inr (F.stay e)
theorem Fx.grow (F : Fx g n sc ρ A env s₀ Z X₀ X s) (u : Ex s s') {a : Addr} {o : Obj} (ha : s.heap.get? a = none) (ho : s'.heap.get? a = some o) : Fx g n sc ρ A env s₀ Z X₀ (a :: X) s' := by
  have F' := F.up u
  have hX : a ∉ X := F.ok.cx.live.get ha
  refine { F' with ok := ⟨F'.ok.bd, F'.ok.sc, { F'.ok.cx with tabX := .tail _ F'.ok.cx.tabX, live := fun b hb => ?_, own := ⟨.tail _ F'.ok.cx.own.1, fun x c e => .tail _ (F'.ok.cx.own.2 x c e)⟩, vars := fun p hp => ?_ }⟩, lo := fun b hb => .tail _ (F.lo b hb), hi := fun b hb => ?_ }
  · rcases List.mem_cons.mp hb with rfl | hb
    · exact ⟨⟨o, ho⟩, F.ok.cx.top.new ha⟩
    · exact F'.ok.cx.live b hb
  · obtain ⟨v, hv, r⟩ := F.ok.cx.vars p hp
    have r' : p.2.is (a :: X) s.heap v := r.more (fun _ h => .tail _ h) fun b hb => (List.mem_cons.mp hb).elim (fun e => .inr (e ▸ ha)) .inl
    exact ⟨v, hv.up F.ok.cx.tab u, r'.ex F.ok.cx.tab (.tail _ F.ok.cx.tabX) u⟩
  · rcases List.mem_cons.mp hb with rfl | hb
    · exact .inr (F.stay ha)
    · exact F.hi b hb
theorem upI_cons {x : Int} {n : Nat} {d : PyData} {ds : List PyData} (h : upI x n = d :: ds) : ∃ m, n = m + 1 ∧ d = .int x ∧ ds = upI (x + 1) m := by
  cases n with
  | zero => cases h
  | succ m => cases h; exact ⟨m, rfl, rfl, rfl⟩
theorem get_drop0 {α : Type} {l : List α} {i : Nat} {x : α} {r : List α} (h : l.drop i = x :: r) : l[i]? = some x ∧ l.drop (i + 1) = r := by
  have h1 : (l.drop i)[0]? = some x := by rw [h]; rfl
  refine ⟨by simpa using h1, ?_⟩
  rw [← List.drop_drop, h]; rfl
theorem next_item {a : Addr} {d : PyData} {ds : List PyData} {Q : Option Value → Shared → Prop} (h : ItAt X s.heap a (d :: ds)) (hx : a ∈ X)
    (k : ∀ v h' tk, Heap.ExtBut a s.heap h' → ItAt X h' a ds → Rep X h' v d → Q (some v) { s with heap := h', toks := tk }) : wpAny (model g.prog g.w) A (pyNext (.ref a)) Q E s := by
  have rp : ∀ {v : Value} {d : PyData} {h'}, Rep X s.heap v d → Heap.ExtBut a s.heap h' → Rep X h' v d := fun r hs => r.to fun b o hb e => ⟨hb, hs b o (fun q => hb (q ▸ hx)) e⟩
  have rps : ∀ {v : List Value} {d : List PyData} {h'}, RepAll X s.heap v d → Heap.ExtBut a s.heap h' → RepAll X h' v d := fun r hs => r.to fun b o hb e => ⟨hb, hs b o (fun q => hb (q ▸ hx)) e⟩
  generalize hq : d :: ds = q at h
  cases h with
  | @list l i vs m _ hi hl ho hr =>
    subst hq
    cases hvs : vs.drop i with
    | nil => rw [hvs] at hr; cases hr
    | cons v r =>
      rw [hvs] at hr
      cases hr with
      | cons h1 h2 =>
      obtain ⟨e1, e2⟩ := get_drop0 hvs
      refine wpAny_pyNext_list_item (items := vs.toArray) hi ⟨_, ho, rfl, _, rfl⟩ (by simpa using e1) fun h' hi' hs => ?_
      have hs' : Heap.ExtBut a s.heap h' := Heap.SameBut.extBut hs
      exact k v h' s.toks hs' (.list hi' hl (hs' l _ (fun q => hl (q ▸ hx)) ho) (by rw [e2]; exact rps h2 hs')) (rp h1 hs')
  | @tup l i vs m _ hi hl ho hr =>
    subst hq
    cases hvs : vs.drop i with
    | nil => rw [hvs] at hr; cases hr
    | cons v r =>
      rw [hvs] at hr
      cases hr with
      | cons h1 h2 =>
      obtain ⟨e1, e2⟩ := get_drop0 hvs
      refine wpAny_pyNext_tuple_item (items := vs.toArray) hi ⟨_, ho, rfl, _, rfl⟩ (by simpa using e1) fun h' hi' hs => ?_
      have hs' : Heap.ExtBut a s.heap h' := Heap.SameBut.extBut hs
      exact k v h' s.toks hs' (.tup hi' hl (hs' l _ (fun q => hl (q ▸ hx)) ho) (by rw [e2]; exact rps h2 hs')) (rp h1 hs')
  | @rng x m hi =>
    obtain ⟨m', rfl, rfl, rfl⟩ := upI_cons hq.symm
    refine wpAny_pyNext_range_item hi (by omega) fun h' hi' hs => ?_
    exact k _ h' (s.toks + 1) (Heap.SameBut.extBut hs) (.rng (n := m') (by rw [show ((m' + 1 : Nat) : Int) - 1 = (m' : Int) by omega] at hi'; exact hi')) (.int _ _)
theorem next_end {a : Addr} {Q : Option Value → Shared → Prop} (h : ItAt X s.heap a []) (hh : A.handled = none) (k : ∀ h', Heap.ExtBut a s.heap h' → Q none { s with heap := h' }) : wpAny (model g.prog g.w) A (pyNext (.ref a)) Q E s := by
  generalize hq : ([] : List PyData) = q at h
  cases h with
  | @list l i vs m _ hi hl ho hr =>
    subst hq
    refine wpAny_pyNext_list_end (items := vs.toArray) hh hi ⟨_, ho, rfl, _, rfl⟩ ?_ k
    have := hr.length
    simp at this
    simp; omega
  | @tup l i vs m _ hi hl ho hr =>
    subst hq
    refine wpAny_pyNext_tuple_end (items := vs.toArray) hh hi ⟨_, ho, rfl, _, rfl⟩ ?_ k
    have := hr.length
    simp at this
    simp; omega
  | @rng x m hi =>
    cases m with
    | zero => exact wpAny_pyNext_range_end hh hi (by simp) k
    | succ m => cases hq
noncomputable def It (g : Gl) (n : Nat) (sc : Scope) (ρ : List (Str × Lv)) (e : Expr) (ds : List PyData) : Prop := ∀ (A : Around) (env : Env) (X : List Addr) (s : Shared) (E : Value → Shared → Prop) (Q : Value → Shared → Prop), Ok g n sc ρ A env X s →
  (∀ a s₁ s', Ex s s₁ → Ex s₁ s' → s₁.heap.get? a = none → ItAt (a :: X) s'.heap a ds → Q (.ref a) s') → wpAny (model g.prog g.w) A (eval e env) (fun x s₁ => wpAny (model g.prog g.w) A (pyIter x) Q E s₁) E s
inductive IterOf : Lv → List PyData → Prop
  | list (ds : List PyData) : IterOf (.dat (.list ds)) ds
  | tup (ds : List PyData) : IterOf (.dat (.tuple ds)) ds
  | rng (a b : Int) (hs : Builtin.Range.small a b 1 = true) : IterOf (.rng a b) (upI a (b - a).toNat)
theorem get_size (h : Heap) : h.get? h.objs.size = none := by
  cases e : h.get? h.objs.size with
  | none => rfl
  | some o => exact absurd (Heap.lt_size e) (Nat.lt_irrefl _)
theorem repAll_new {X : List Addr} {h : Heap} {vs : List Value} {ds : List PyData} {o : Obj} (r : RepAll X h vs ds) : RepAll (h.objs.size :: X) (h.push o) vs ds :=
  r.to fun b ob hb e => ⟨by simp [hb, Nat.ne_of_lt (Heap.lt_size e)], Heap.get?_push_of_some _ e⟩
theorem piter {v : Value} {ds : List PyData} {Q : Value → Shared → Prop} (h : IterOf l ds) (r : l.is X s.heap v)
    (k : ∀ a s', Ex s s' → s.heap.get? a = none → ItAt (a :: X) s'.heap a ds → Q (.ref a) s') : wpAny (model g.prog g.w) A (pyIter v) Q E s := by
  cases h with
  | list ds =>
    obtain ⟨a, vs, m, rfl, ha, ho, hr⟩ := Rep.inv_list r
    refine wpAny_pyIter_list (items := vs.toArray) ⟨_, ho, rfl, _, rfl⟩ (k _ _ Up.push' (get_size _) ?_)
    have hne : a ≠ s.heap.objs.size := Nat.ne_of_lt (Heap.lt_size ho)
    exact .list (l := a) (i := 0) (vs := vs) (n := m) ⟨_, Heap.get?_push_size _ rfl, rfl, rfl⟩ (by simp [hne, ha]) (Heap.get?_push_of_some _ ho) (repAll_new hr)
  | tup ds =>
    obtain ⟨a, vs, m, rfl, ha, ho, hr⟩ := Rep.inv_tuple r
    refine wpAny_pyIter_tuple (items := vs.toArray) ⟨_, ho, rfl, _, rfl⟩ (k _ _ Up.push' (get_size _) ?_)
    have hne : a ≠ s.heap.objs.size := Nat.ne_of_lt (Heap.lt_size ho)
    exact .tup (l := a) (i := 0) (vs := vs) (n := m) ⟨_, Heap.get?_push_size _ rfl, rfl, rfl⟩ (by simp [hne, ha]) (Heap.get?_push_of_some _ ho) (repAll_new hr)
  | rng a b hs =>
    obtain ⟨r, t, w, t', rfl, ha, ho⟩ := r
    refine wpAny_pyIter_range ho hs (k _ _ Up.push' (get_size _) ?_)
    refine .rng (n := (b - a).toNat) ?_
    rw [← PyProof.Rows.rangeSize_nat a b]
    exact Heap.get?_push_size _ rfl
theorem it_of {e : Expr} {ds : List PyData} (h : EvL g n sc ρ e l) (hi : IterOf l ds) : It g n sc ρ e ds := fun A env X s E Q o k => h A env X s E _ o fun v s₁ u r => piter hi r fun a s' u' => k a s₁ s' u u'
theorem Fx.gone {a : Addr} {oa : Obj} {h' : Heap} {tk : Nat} (F : Fx g n sc ρ A env s₀ Z X₀ X s) (hx : a ∈ X) (h0 : s₀.heap.get? a = none) (ho : s.heap.get? a = some oa) (hd : Dull oa) (hL : a ≠ env.locals) (hC : ∀ y c, env.cells.lookup y = some c → a ≠ c)
    (hρ : ∀ p ∈ ρ, p.2.own ≠ some a) (hs : Heap.ExtBut a s.heap h') : Fx g n sc ρ A env s₀ Z X₀ (X.filter (· != a)) { s with heap := h', toks := tk } := by
  have cx := F.ok.cx
  have hm : ∀ {b}, b ∈ X.filter (· != a) ↔ b ∈ X ∧ b ≠ a := by simp
  have hP : a ≠ PT := fun e => by
    obtain ⟨ps, hp, _⟩ := cx.tab; rw [← e, ho] at hp; cases hp; exact (hd _ rfl).1 rfl
  obtain ⟨mL, hnL⟩ := cx.ns
  have kp : ∀ b o, b ∉ X → s.heap.get? b = some o → b ∉ X.filter (· != a) ∧ h'.get? b = some o := fun b o hb e => ⟨fun q => hb (hm.mp q).1, hs b o (fun q => hb (q ▸ hx)) e⟩
  refine { F with ok := ⟨F.ok.bd, F.ok.sc, ?_⟩, ex := F.ex.from (Up.but1 hs ho hd) fun b hb => by rw [List.mem_singleton.mp hb]; exact .inr h0, lo := fun b hb => hm.mpr ⟨F.lo b hb, ?_⟩, hi := fun b hb => F.hi b (hm.mp hb).1 }
  · exact {
      fn := cx.fn, gl := cx.gl, bt := cx.bt
      top := let ⟨_, a1, a2, a3, a4⟩ := cx.live a hx; cx.top.but hs a1 a2 a3 a4
      tab := cx.tab.but ho hs hd
      tabX := hm.mpr ⟨cx.tabX, Ne.symm hP⟩
      live := fun b hb => ⟨by obtain ⟨⟨o, q⟩, _⟩ := cx.live b (hm.mp hb).1; exact ⟨o, hs b o (hm.mp hb).2 q⟩, (cx.live b (hm.mp hb).1).2⟩
      ns := ⟨mL, Heap.Ns.to hnL fun o e => hs _ o (Ne.symm hL) e⟩
      cel := fun y c e => by obtain ⟨w, hw⟩ := cx.cel y c e; exact ⟨w, Heap.IsCell.to hw fun o q => hs _ o (Ne.symm (hC y c e)) q⟩
      inj := cx.inj
      has := cx.has
      own := ⟨hm.mpr ⟨cx.own.1, Ne.symm hL⟩, fun y c e => hm.mpr ⟨cx.own.2 y c e, Ne.symm (hC y c e)⟩⟩
      vars := fun p hp => by
        obtain ⟨v, hv, r⟩ := cx.vars p hp
        exact ⟨v, hv.to hs hL hC, r.to kp fun b hb hbx => have hne : b ≠ a := fun q => hρ p hp (q ▸ hb); ⟨hm.mpr ⟨hbx, hne⟩, fun o e => hs b o hne e⟩⟩ }
  · rintro rfl; obtain ⟨o, e⟩ := F.li b hb; rw [h0] at e; cases e
noncomputable def BlkT (g : Gl) (n : Nat) (sc : Scope) (A : Around) (env : Env) (s₀ : Shared) (Z X₀ : List Addr) (ρ : List (Str × Lv)) (body : List Stmt) (ρ' : List (Str × Lv)) : Prop :=
  ∀ (s₁ : Shared) (Z₁ X₁ X : List Addr) (s : Shared) (E : Value → Shared → Prop) (Q : Flow → Shared → Prop), Up Z s₀ s → (∀ a ∈ X₀, a ∈ X) ∧ (∀ a ∈ X, a ∈ X₀ ∨ s₀.heap.get? a = none) → Fx g n sc ρ A env s₁ Z₁ X₁ X s →
    (∀ X' s', Fx g n sc ρ' A env s₁ Z₁ X₁ X' s' → Q .next s') → wpAny (model g.prog g.w) A (execs body env) Q E s
theorem Blk.turn {ρ ρ' : List (Str × Lv)} {body : List Stmt} (h : Blk g n sc ρ body (.next ρ')) : BlkT g n sc A env s₀ Z X₀ ρ body ρ' := fun s₁ Z₁ X₁ X s E Q _ _ F k => h A env s₁ Z₁ X₁ X s E Q F k
theorem loop_core {body : List Stmt} {px : Pos} {ds : List PyData} {a : Addr} {ρs : Nat → List (Str × Lv)} {R : Result → Shared → Prop} (F : Fx g n sc (ρs 0) A env s₀ Z X₀ X s) (hx : a ∈ X) (h0 : s₀.heap.get? a = none) (hi : ItAt X s.heap a ds)
    (hρ : ∀ i, ∀ p ∈ ρs i, p.1 ≠ x ∧ p.2.own ≠ some a) (hk : sc.names.lookup x = some .local ∨ sc.names.lookup x = some .cell)
    (hb : ∀ i d, ds[i]? = some d → BlkT g n sc A env s₀ Z X₀ ((x, .dat d) :: ρs i) body (ρs (i + 1)))
    (k : ∀ X' s', Fx g n sc (ρs ds.length) A env s₀ Z X₀ X' s' → R (.ok .next) s') : codeAny (model g.prog g.w) A (.forLoop (.Name x px) (.ref a) body [] env) R s := by
  refine codeAny_forLoop_any (fun m s' => ∃ i X', m = ds.length - i ∧ i ≤ ds.length ∧ Fx g n sc (ρs i) A env s₀ Z X₀ X' s' ∧ a ∈ X' ∧ ItAt X' s'.heap a (ds.drop i)) ?_ ds.length ⟨0, X, rfl, Nat.zero_le _, F, hx, by simpa using hi⟩
  rintro m s₁ ⟨i, X₁, rfl, hle, F₁, hx₁, hi₁⟩
  obtain ⟨oa, hoa, hda⟩ := hi₁.cls
  have hv := F₁.ok.cx.vars
  obtain ⟨mL, hnL⟩ := F₁.ok.cx.ns
  have sh : Lv.is X₁ s₁.heap (.ref a) (.itr a (ds.drop i)) := ⟨rfl, hx₁, hi₁⟩
  have hL : a ≠ env.locals := sh.ne_ns rfl hnL
  have hC : ∀ y c, env.cells.lookup y = some c → a ≠ c := fun y c e => by obtain ⟨w, hw⟩ := F₁.ok.cx.cel y c e; exact sh.ne_cell rfl hw
  have step : ∀ h' tk, Heap.ExtBut a s₁.heap h' → (∃ o, h'.get? a = some o) → Fx g n sc (ρs i) A env s₀ Z X₀ X₁ { s₁ with heap := h', toks := tk } := fun h' tk hs ho => by
    refine F₁.but hx₁ (.inr h0) hoa hda hs ho ⟨mL, Heap.Ns.to hnL fun o e => hs _ o (Ne.symm hL) e⟩ (fun y c e => ?_) (fun p hp => ?_) F₁.oV
    · obtain ⟨w, hw⟩ := F₁.ok.cx.cel y c e; exact ⟨w, Heap.IsCell.to hw fun o q => hs _ o (Ne.symm (hC y c e)) q⟩
    · obtain ⟨v, hvv, r⟩ := hv p hp
      exact ⟨v, hvv.to hs hL hC, r.to (fun b o hb e => ⟨hb, hs b o (fun q => hb (q ▸ hx₁)) e⟩) fun b hb hbx => ⟨hbx, fun o e => hs b o (fun q => (hρ i p hp).2 (q ▸ hb)) e⟩⟩
  cases hd : ds.drop i with
  | nil =>
    rw [hd] at hi₁
    have hlen : i = ds.length := by
      have := congrArg List.length hd
      simp at this; omega
    refine next_end (g := g) hi₁ F₁.ok.bd.hd fun h' hs => wpAny_execs_nil ?_
    exact k _ _ (hlen ▸ F₁.gone (tk := s₁.toks) hx₁ h0 hoa hda hL hC (fun p hp => (hρ i p hp).2) hs)
  | cons d r =>
    rw [hd] at hi₁
    obtain ⟨e1, e2⟩ := get_drop0 hd
    refine next_item (g := g) hi₁ hx₁ fun v h' tk hs hi₂ hr => ?_
    show wpAny _ _ (letOwnedTupleGo (.Name x px) (.ref a) v) _ _ _
    refine wpAny_pure ?_
    have F₂ := step h' tk hs (let ⟨o, e, _⟩ := hi₂.cls; ⟨o, e⟩)
    refine wpAny_assign_Name ?_
    have T₂ := F₂.turn
    refine T₂.store (l := .dat d) (fun p hp => (hρ i p hp).1) hk hr (fun _ e => nomatch e) fun s₃ F₃ => ?_
    have ha₂ : a ∉ turnZ env (ρs i) := fun q => by
      rcases mem_turnZ q with q | q | ⟨y, q⟩ | ⟨p, hp, q⟩
      · obtain ⟨o, e, hd⟩ := hi₂.cls
        obtain ⟨ps, hp, _⟩ := F₂.ok.cx.tab
        rw [← q, e] at hp; cases hp; exact (hd _ rfl).1 rfl
      · exact hL q
      · exact hC y a q rfl
      · exact (hρ i p hp).2 q
    have G₃ := F₂.back F₃
    have keep : ∀ {ρ' X' s'} (G : Fx g n sc ρ' A env { s₁ with heap := h', toks := tk } (turnZ env (ρs i)) X₁ X' s'), a ∈ X' ∧ ItAt X' s'.heap a r := fun G =>
      ⟨G.lo a hx₁, hi₂.to (fun b o hb e => ⟨fun q => (G.hi b q).elim hb fun z => (by rw [e] at z; cases z), G.ex.keep b o (fun q => hb (T₂.zx b q)) e⟩) fun o e => G.ex.keep a o ha₂ e⟩
    refine hb i d e1 _ _ _ _ s₃ _ _ G₃.ex ⟨G₃.lo, G₃.hi⟩ F₃ fun X' s' F' => ?_
    obtain ⟨ha', hi'⟩ := keep F'
    refine ⟨ds.length - (i + 1), by have := (List.getElem?_eq_some_iff.mp e1).1; omega, i + 1, X', rfl, (List.getElem?_eq_some_iff.mp e1).1, ?_, ha', by rw [e2]; exact hi'⟩
    exact F₂.back F'
end
end Mine
end

noncomputable section
namespace Mine
noncomputable def closL (env : Env) : List (Str × NameKind) → List (Str × Addr) → List (Str × Addr)
  | [], acc => acc
  | (n, k) :: r, acc => closL env r (if k == .free then (match env.cells.lookup n with | some c => (n, c) :: acc | none => acc) else acc)
theorem closure_eq {env : Env} {scope : Scope} (h : ∀ p ∈ scope.names, p.2 = .free → ∃ c, env.cells.lookup p.1 = some c) : closureFor scope env = pure (closL env scope.names []) := by
  have key : ∀ (l : List (Str × NameKind)), (∀ p ∈ l, p.2 = .free → ∃ c, env.cells.lookup p.1 = some c) → ∀ acc : List (Str × Addr),
      (forIn l acc (fun (x : Str × NameKind) (s : List (Str × Addr)) => if (x.2 == NameKind.free) = true then (do let c ← cellOf env x.1; pure (ForInStep.yield ((x.1, c) :: s))) else pure (ForInStep.yield s)) >>= fun s => pure s : Sem (List (Str × Addr))) = pure (closL env l acc) := by
    intro l
    induction l with
    | nil => intro _ acc; rfl
    | cons p r ih =>
      intro h acc
      have hr := fun q hq => h q (List.mem_cons_of_mem _ hq)
      rw [List.forIn_cons]
      cases hk : p.2 == NameKind.free with
      | false => simp only [closL, hk, Bool.false_eq_true, if_false]; exact ih hr acc
      | true =>
        obtain ⟨c, hc⟩ := h p List.mem_cons_self (by simpa using hk)
        simp only [closL, hk, if_true, hc, cellOf]
        exact ih hr ((p.1, c) :: acc)
  have e : closureFor scope env = (forIn scope.names [] (fun (x : Str × NameKind) (s : List (Str × Addr)) => if (x.2 == NameKind.free) = true then (do let c ← cellOf env x.1; pure (ForInStep.yield ((x.1, c) :: s))) else pure (ForInStep.yield s)) >>= fun s => pure s : Sem (List (Str × Addr))) := by
    unfold closureFor; rfl
  rw [e]; exact key _ h []
theorem closL_sub {env : Env} : ∀ (l : List (Str × NameKind)) (acc : List (Str × Addr)), (∀ x c, acc.lookup x = some c → env.cells.lookup x = some c) → ∀ x c, (closL env l acc).lookup x = some c → env.cells.lookup x = some c
  | [], _, h => h
  | (n, k) :: r, acc, h => closL_sub r _ (by
      intro x c
      split
      · split
        · rename_i c' hc
          rw [List.lookup_cons]
          cases hx : x == n with
          | true => intro e; cases e; rw [eq_of_beq hx]; exact hc
          | false => exact h x c
        · exact h x c
      · exact h x c)
theorem closL_has {env : Env} : ∀ (l : List (Str × NameKind)) (acc : List (Str × Addr)) (x : Str), ((∃ c, acc.lookup x = some c) ∨ ((x, NameKind.free) ∈ l ∧ ∃ c, env.cells.lookup x = some c)) → ∃ c, (closL env l acc).lookup x = some c
  | [], _, x, h => h.elim id fun h => nomatch h.1
  | (n, k) :: r, acc, x, h => by
    refine closL_has r _ x ?_
    rcases h with ⟨c, hc⟩ | ⟨hm, c, hc⟩
    · left
      split
      · split
        · rw [List.lookup_cons]; cases x == n <;> exact ⟨_, by first | rfl | exact hc⟩
        · exact ⟨c, hc⟩
      · exact ⟨c, hc⟩
    · rcases List.mem_cons.mp hm with e | hm
      · cases e
        left
        simp only [beq_self_eq_true, if_true, hc]
        exact ⟨c, by rw [List.lookup_cons, beq_self_eq_true]⟩
      · exact .inr ⟨hm, c, hc⟩
noncomputable def relS (scope sc : Scope) : Scope := { scope with names := scope.names.map fun p => if (p.2 == .free && sc.kind == .function && sc.names.lookup p.1 == some .cell) then (p.1, .cell) else p }
theorem relabel_eq {scope sc : Scope} {env : Env} (h : env.scope = sc) : relabel scope env = relS scope sc := by subst h; rfl
noncomputable def EvZ (g : Gl) (n : Nat) (sc : Scope) (ρ : List (Str × Lv)) (e : Expr) (Z : List Addr) (ρ' : List (Str × Lv)) (P : List Addr → Heap → Value → Prop) : Prop :=
  ∀ (A : Around) (env : Env) (X : List Addr) (s : Shared) (E : Value → Shared → Prop) (Q : Value → Shared → Prop), Ok g n sc ρ A env X s →
    (∀ v s', Up Z s s' → Ok g n sc ρ' A env X s' → P X s'.heap v → Q v s') → wpAny (model g.prog g.w) A (eval e env) Q E s
section
variable {g : Gl} {n : Nat} {sc : Scope} {ρ ρ' : List (Str × Lv)} {A : Around} {env : Env} {s s' : Shared} {Z X : List Addr} {x : Str} {v : Value} {e : Expr} {P : List Addr → Heap → Value → Prop}
theorem evZ_of (h : Ev g n sc ρ e P) (hs : ∀ p ∈ ρ', p ∈ ρ) : EvZ g n sc ρ e [PT] ρ' P := fun A env X s E Q o k => h A env X s E Q o fun v s' u p => k v s' u ⟨(o.up u).bd, (o.up u).sc, (o.up u).cx.sub hs⟩ p
theorem evZ_sub {ρ'' : List (Str × Lv)} (h : EvZ g n sc ρ e Z ρ' P) (hs : ∀ p ∈ ρ, p ∈ ρ'') : EvZ g n sc ρ'' e Z ρ' P := fun A env X s E Q o k => h A env X s E Q ⟨o.bd, o.sc, o.cx.sub hs⟩ k
theorem Ok.grow (o : Ok g n sc ρ A env X s) (u : Ex s s') {a : Addr} {ob : Obj} (ha : s.heap.get? a = none) (ho : s'.heap.get? a = some ob) : Ok g n sc ρ A env (a :: X) s' := by
  have o' := o.up u
  refine ⟨o.bd, o.sc, { o'.cx with tabX := .tail _ o'.cx.tabX, live := fun b hb => ?_, own := ⟨.tail _ o'.cx.own.1, fun x c e => .tail _ (o'.cx.own.2 x c e)⟩, vars := fun p hp => ?_ }⟩
  · rcases List.mem_cons.mp hb with rfl | hb
    · exact ⟨⟨ob, ho⟩, o.cx.top.new ha⟩
    · exact o'.cx.live b hb
  · obtain ⟨v, hv, r⟩ := o.cx.vars p hp
    have r' : p.2.is (a :: X) s.heap v := r.more (fun _ h => .tail _ h) fun b hb => (List.mem_cons.mp hb).elim (fun e => .inr (e ▸ ha)) .inl
    exact ⟨v, hv.up o.cx.tab u, r'.ex o.cx.tab (.tail _ o.cx.tabX) u⟩
theorem cellsFrom_app : ∀ (l : List (Str × NameKind)) (k : Nat) (acc : List (Str × Addr)), cellsFrom k l acc = cellsFrom k l [] ++ acc
  | [], _, _ => rfl
  | (m, kd) :: r, k, acc => by
    unfold cellsFrom
    split
    · rw [cellsFrom_app r _ ((m, k) :: acc), cellsFrom_app r _ [(m, k)]]; simp
    · exact cellsFrom_app r k acc
theorem cellsFrom_mem : ∀ (l : List (Str × NameKind)) (k : Nat) (acc : List (Str × Addr)) (p : Str × Addr), p ∈ cellsFrom k l acc → p ∈ acc ∨ (p.1, NameKind.cell) ∈ l
  | [], _, _, _, h => .inl h
  | (m, kd) :: r, k, acc, p, h => by
    unfold cellsFrom at h
    split at h
    · rename_i hk
      rcases cellsFrom_mem r _ _ p h with q | q
      · rcases List.mem_cons.mp q with rfl | q
        · exact .inr (by rw [eq_of_beq hk]; exact .head _)
        · exact .inl q
      · exact .inr (.tail _ q)
    · exact (cellsFrom_mem r _ _ p h).imp id fun q => .tail _ q
theorem cellsFrom_has : ∀ (l : List (Str × NameKind)) (k : Nat) (acc : List (Str × Addr)) (y : Str), (∃ c, acc.lookup y = some c) ∨ (y, NameKind.cell) ∈ l → ∃ c, (cellsFrom k l acc).lookup y = some c
  | [], _, _, _, h => h.elim id fun h => nomatch h
  | (m, kd) :: r, k, acc, y, h => by
    unfold cellsFrom
    split
    · refine cellsFrom_has r _ _ y ?_
      rcases h with ⟨c, h⟩ | h
      · left; rw [List.lookup_cons]; cases y == m <;> exact ⟨_, by first | rfl | exact h⟩
      · rcases List.mem_cons.mp h with q | h
        · cases q; left; exact ⟨k, by rw [List.lookup_cons, beq_self_eq_true]⟩
        · exact .inr h
    · rename_i hk
      refine cellsFrom_has r _ _ y (h.imp id fun h => ?_)
      rcases List.mem_cons.mp h with q | h
      · cases q; exact absurd rfl hk
      · exact h
theorem lookup_nc {x : Str} {nc cl : List (Str × Addr)} (hnx : ∀ p ∈ nc, p.1 = x) {y : Str} : (nc ++ cl).lookup y = (if y = x then (nc.lookup y).or (cl.lookup y) else cl.lookup y) := by
  rw [List.lookup_append]
  split
  · rfl
  · rename_i hy
    cases e : nc.lookup y with
    | none => rfl
    | some c => exact absurd (hnx _ (PySem.mem_of_lookup e)) hy
theorem lookup_or {x : Str} {nc cl : List (Str × Addr)} (hnx : ∀ p ∈ nc, p.1 = x) {y : Str} {c : Addr} (h : (nc ++ cl).lookup y = some c) : (y = x ∧ (y, c) ∈ nc) ∨ cl.lookup y = some c := by
  rw [List.lookup_append] at h
  cases e : nc.lookup y with
  | none => rw [e] at h; exact .inr h
  | some c' => rw [e] at h; cases h; exact .inl ⟨hnx _ (PySem.mem_of_lookup e), PySem.mem_of_lookup e⟩
theorem compEnv_new {M : Model} {scope : Scope} {cl : List (Str × Addr)} {E : Value → Shared → Prop} {Q : Env → Shared → Prop}
    (h : Q { scope, locals := s.heap.objs.size, globals := env.globals, cells := cellsFrom (s.heap.objs.size + 1) scope.names cl, qual := env.qual, func := none, code := env.code, frame := env.frame, builtins := env.builtins } { s with heap := pushCells (s.heap.push { cls := .type "dict", data := .dict #[] }) scope.names }) :
    wpAny M A (newFunctionEnv scope env.globals cl [] env.qual none .none (some env)) Q E s := by
  simp only [newFunctionEnv, Option.isSome_some, if_true]
  refine wpAny_bind (wpAny_alloc ?_)
  refine wpAny_bind (wpAny_layCells _ (fun name kind cells => by cases hkc : kind == NameKind.cell <;> simp [hkc]) _ _ _ _ ?_)
  rw [show ({ s with heap := s.heap.push { cls := .type "dict", data := .dict #[] } } : Shared).heap.objs.size = s.heap.objs.size + 1 from Heap.size_push ..]
  rw [List.forIn_nil]
  exact wpAny_bind (wpAny_pure (wpAny_pure h))
theorem Ok.comp {scope : Scope} {nc cl : List (Str × Addr)} {C : Addr} {m : Str → Option Value} (o : Ok g n sc ρ A env X s) (hC : C ∈ X) (hn : s.heap.Ns C m) (hk : scope.kind = .function) (hcl : ∀ x c, cl.lookup x = some c → env.cells.lookup x = some c)
    (hnx : ∀ p ∈ nc, p.1 = x) (hnc : ∀ p ∈ nc, (∃ v, s.heap.IsCell p.2 v) ∧ p.2 ∈ X ∧ ∀ y, env.cells.lookup y ≠ some p.2)
    (hhas : ∀ y, (relS scope sc).names.lookup y = some .free ∨ (relS scope sc).names.lookup y = some .cell → ∃ c, (nc ++ cl).lookup y = some c)
    (hsub : ∀ p ∈ ρ', p ∈ ρ ∧ ((relS scope sc).names.lookup p.1 = some .free ∨ (relS scope sc).names.lookup p.1 = some .cell) ∧ (sc.names.lookup p.1 = some .free ∨ sc.names.lookup p.1 = some .cell) ∧ (∃ c, cl.lookup p.1 = some c) ∧ p.1 ≠ x) :
    Ok g n (relS scope sc) ρ' A (compEnvC scope (nc ++ cl) C env) X s where
  bd := o.bd
  sc := relabel_eq o.sc
  cx := {
    fn := hk, gl := o.cx.gl, bt := o.cx.bt, top := o.cx.top, tab := o.cx.tab, tabX := o.cx.tabX, live := o.cx.live
    ns := ⟨m, hn⟩
    cel := fun y c e => (lookup_or hnx e).elim (fun h => (hnc _ h.2).1) fun h => o.cx.cel y c (hcl y c h)
    inj := fun y z c e e' => by
      rcases lookup_or hnx e with ⟨h1, h2⟩ | h <;> rcases lookup_or hnx e' with ⟨h1', h2'⟩ | h'
      · rw [h1, h1']
      · exact absurd (hcl _ _ h') ((hnc _ h2).2.2 z)
      · exact absurd (hcl _ _ h) ((hnc _ h2').2.2 y)
      · exact o.cx.inj y z c (hcl y c h) (hcl z c h')
    has := fun y hy => hhas y (by rw [show (compEnvC scope (nc ++ cl) C env).scope = relS scope sc from relabel_eq o.sc] at hy; exact hy)
    own := ⟨hC, fun y c e => (lookup_or hnx e).elim (fun h => (hnc _ h.2).2.1) fun h => o.cx.own.2 y c (hcl y c h)⟩
    vars := fun p hp => by
      obtain ⟨hm, hk₁, hk₂, ⟨c, hc⟩, hne⟩ := hsub p hp
      obtain ⟨v, hv, r⟩ := o.cx.vars p hm
      refine ⟨v, ?_, r⟩
      rcases hv with ⟨hl, _⟩ | ⟨_, c', hc', hcv⟩
      · rw [Env.kindOf, o.sc] at hl
        rcases hk₂ with h | h <;> rw [hl] at h <;> cases h
      · have := hcl _ _ hc
        rw [this] at hc'; cases hc'
        exact .inr ⟨by rw [Env.kindOf, show (compEnvC scope (nc ++ cl) C env).scope = relS scope sc from relabel_eq o.sc]; exact hk₁.symm, c, by show (nc ++ cl).lookup p.1 = some c; rw [lookup_nc hnx, if_neg hne]; exact hc, hcv⟩ }
theorem Ok.but {a : Addr} {oa : Obj} {h' : Heap} {tk : Nat} (o : Ok g n sc ρ A env X s) (hx : a ∈ X) (ho : s.heap.get? a = some oa) (hd : Dull oa) (hs : Heap.ExtBut a s.heap h') (ha' : ∃ o, h'.get? a = some o) (hL : a ≠ env.locals)
    (hC : ∀ y c, env.cells.lookup y = some c → a ≠ c) (hρ : ∀ p ∈ ρ, p.2.own ≠ some a) : Ok g n sc ρ A env X { s with heap := h', toks := tk } :=
  ⟨o.bd, o.sc, o.cx.but hx ho hd hs ha' (let ⟨m, h⟩ := o.cx.ns; ⟨m, Heap.Ns.to h fun b e => hs _ b (Ne.symm hL) e⟩) (fun y c e => let ⟨w, hw⟩ := o.cx.cel y c e; ⟨w, Heap.IsCell.to hw fun b q => hs _ b (Ne.symm (hC y c e)) q⟩) fun p hp =>
    let ⟨v, hv, r⟩ := o.cx.vars p hp
    ⟨v, hv.to hs hL hC, r.to (fun b ob hb e => ⟨hb, hs b ob (fun q => hb (q ▸ hx)) e⟩) fun b hb hbx => ⟨hbx, fun ob e => hs b ob (fun q => hρ p hp (q ▸ hb)) e⟩⟩⟩
theorem Ok.store {l : Lv} {Q : Unit → Shared → Prop} {E : Value → Shared → Prop} (o : Ok g n sc ρ A env X s) (hx : ∀ p ∈ ρ, p.1 ≠ x) (hk : sc.names.lookup x = some .local ∨ sc.names.lookup x = some .cell) (hl : l.is X s.heap v)
    (q : ∀ h' tk a oa, (a = env.locals ∨ (sc.names.lookup x = some .cell ∧ env.cells.lookup x = some a)) → s.heap.get? a = some oa → Dull oa → Heap.ExtBut a s.heap h' → Ok g n sc ((x, l) :: ρ) A env X { s with heap := h', toks := tk } → Q () { s with heap := h', toks := tk }) : wpAny (model g.prog g.w) A (storeName env x v) Q E s := by
  have cx := o.cx
  have hLX : env.locals ∈ X := cx.own.1
  rcases hk with hk | hk
  rotate_left
  · have hk' : env.kindOf x = some .cell := by rw [Env.kindOf, o.sc]; exact hk
    obtain ⟨c, hcx⟩ := cx.has x (.inr (by rw [o.sc]; exact hk))
    obtain ⟨v₀, hv₀⟩ := cx.cel x c hcx
    obtain ⟨ob, ho, hd⟩ := id hv₀
    have hcX : c ∈ X := cx.own.2 x c hcx
    refine wpAny_storeName_cell cx.fn hk' hcx hv₀ fun h' hc' hs => q h' s.toks c ob (.inr ⟨hk, hcx⟩) ho (Dull.cell hd) hs.extBut ?_
    have u : Up [c] s { s with heap := h', toks := s.toks } := Up.but1 hs.extBut ho (Dull.cell hd)
    have keepL : ∀ (l : Lv) (v : Value), l.is X s.heap v → l.is X h' v := fun l v r => r.up u (fun z hz => by rw [List.mem_singleton.mp hz]; exact hcX)
      fun a ha e => r.ne_cell ha hv₀ (List.mem_singleton.mp e)
    obtain ⟨m, hn⟩ := cx.ns
    have hne : env.locals ≠ c := ns_ne_cell hn hv₀
    have hother : ∀ y c', y ≠ x → env.cells.lookup y = some c' → c' ≠ c := fun y c' hy e q => hy (cx.inj y x c (q ▸ e) hcx)
    refine ⟨o.bd, o.sc, cx.but hcX ho (Dull.cell hd) hs.extBut (let ⟨o, e, _⟩ := hc'; ⟨o, e⟩) ⟨_, hn.sameBut hs hne⟩ (fun y c' e => ?_) (fun p hp => ?_)⟩
    · by_cases hy : y = x
      · subst hy; rw [hcx] at e; cases e; exact ⟨_, hc'⟩
      · obtain ⟨w, hw⟩ := cx.cel y c' e; exact ⟨w, hw.sameBut hs (hother y c' hy e)⟩
    · rcases List.mem_cons.mp hp with rfl | hp
      · exact ⟨v, .inr ⟨.inl hk', c, hcx, hc'⟩, keepL _ _ hl⟩
      · obtain ⟨w, hw, hr⟩ := cx.vars p hp
        refine ⟨w, ?_, keepL _ _ hr⟩
        rcases hw with ⟨hk₂, m₂, hn₂, hv₂⟩ | ⟨hk₂, c', hc₂, hv₂⟩
        · exact .inl ⟨hk₂, m₂, hn₂.sameBut hs hne, hv₂⟩
        · exact .inr ⟨hk₂, c', hc₂, hv₂.sameBut hs (hother _ _ (hx p hp) hc₂)⟩
  have hk' : env.kindOf x = some .local := by rw [Env.kindOf, o.sc]; exact hk
  obtain ⟨m, hn⟩ := cx.ns
  obtain ⟨ob₀, es₀, ep₀, ho₀, hd₀, _⟩ := id hn
  refine wpAny_storeName_local hk' hn (fun h' hn' hs => q h' _ env.locals ob₀ (.inl rfl) ho₀ (Dull.dict hd₀) hs.extBut ?_) (by rw [cx.fn]; rfl)
  obtain ⟨ob, es, ep, ho, hd, _⟩ := id hn
  have hcne : ∀ y c, env.cells.lookup y = some c → c ≠ env.locals := fun y c e => by
    obtain ⟨w, hw⟩ := cx.cel y c e; exact (ns_ne_cell hn hw).symm
  have u : Up [env.locals] s { s with heap := h', toks := s.toks + 1 } := Up.but1 hs.extBut ho (Dull.dict hd)
  have keepL : ∀ (l : Lv) (v : Value), l.is X s.heap v → l.is X h' v := fun l v r => r.up u (fun z hz => by rw [List.mem_singleton.mp hz]; exact hLX)
    fun a ha e => r.ne_ns ha hn (List.mem_singleton.mp e)
  refine ⟨o.bd, o.sc, cx.but hLX ho (Dull.dict hd) hs.extBut (let ⟨o, _, _, e, _⟩ := hn'; ⟨o, e⟩) ⟨_, hn'⟩ (fun y c e => ?_) (fun p hp => ?_)⟩
  · obtain ⟨w, hw⟩ := cx.cel y c e; exact ⟨w, hw.sameBut hs (hcne y c e)⟩
  · rcases List.mem_cons.mp hp with rfl | hp
    · exact ⟨v, .inl ⟨hk', _, hn', by simp⟩, keepL _ _ hl⟩
    · obtain ⟨w, hw, hr⟩ := cx.vars p hp
      refine ⟨w, ?_, keepL _ _ hr⟩
      rcases hw with ⟨hk₂, m₂, hn₂, hv₂⟩ | ⟨hk₂, c, hc₂, hv₂⟩
      · obtain ⟨o₁, es₁, ep₁, ho₁, hd₁, hk₁, hf₁⟩ := hn
        obtain ⟨o₂, es₂, ep₂, ho₂, hd₂, _, hf₂⟩ := hn₂
        rw [ho₁] at ho₂; cases ho₂; rw [hd₁] at hd₂; cases hd₂
        exact .inl ⟨hk₂, _, hn', by show (if p.1 = x then some v else m p.1) = some w; rw [if_neg (hx p hp), ← hf₁, hf₂, hv₂]⟩
      · exact .inr ⟨hk₂, c, hc₂, hv₂.sameBut hs (hcne _ _ hc₂)⟩
end
noncomputable def outs (bs : Nat → Bool) (fs : Nat → PyData) : Nat → List PyData
  | 0 => []
  | i + 1 => outs bs fs i ++ (if bs i then [fs i] else [])
theorem outs_le {bs : Nat → Bool} {fs : Nat → PyData} : ∀ n, (outs bs fs n).length ≤ n
  | 0 => Nat.le_refl _
  | n + 1 => by
    have := outs_le (bs := bs) (fs := fs) n
    rw [outs, List.length_append]
    split
    · simp; omega
    · simp; omega
noncomputable def Tests (g : Gl) (n : Nat) (sc : Scope) (ρ : List (Str × Lv)) (ifs : List Expr) (b : Bool) : Prop := ∀ (A : Around) (env : Env) (X : List Addr) (s : Shared) (E : Value → Shared → Prop) (Q : Bool → Shared → Prop), Ok g n sc ρ A env X s →
  (∀ s', Ex s s' → Q b s') → wpAny (model g.prog g.w) A (forIn ifs true fun c r => if r = true then do let ok ← isTrue c env (eval c env); pure (ForInStep.yield ok) else pure (ForInStep.yield r)) Q E s
section
variable {g : Gl} {n : Nat} {sc : Scope} {ρ ρ' : List (Str × Lv)} {A : Around} {env : Env} {s s' : Shared} {Z X : List Addr} {x : Str} {v : Value} {e : Expr} {P : List Addr → Heap → Value → Prop}
theorem tests_nil : Tests g n sc ρ [] true := fun A env X s E Q o k => wpAny_tests_nil (k s Up.refl)
theorem tests_one {b : Bool} (h : Ts g n sc ρ e b) : Tests g n sc ρ [e] b := fun A env X s E Q o k => wpAny_tests_one (h A env X s E Q o k)
theorem lv_up {X Z : List Addr} {s s' : Shared} {v : Value} {l : Lv} (x : l.is X s.heap v) (u : Up Z s s') (hz : ∀ z ∈ Z, z ∈ X) (hm : ∀ a, l.own = some a → a ∉ Z) : l.is X s'.heap v := x.up u hz hm
theorem iter_self {a : Addr} {ds : List PyData} {Q : Value → Shared → Prop} {E : Value → Shared → Prop} (h : ItAt X s.heap a ds) (q : Q (.ref a) s) : wpAny (model g.prog g.w) A (pyIter (.ref a)) Q E s := by
  cases h with
  | list hi _ _ _ => exact wpAny_pyIter_listiter hi q
  | tup hi _ _ _ => exact wpAny_pyIter_tupleiter hi q
  | rng hi => exact wpAny_pyIter_rangeiter hi q
theorem lookup_map {f : Str × NameKind → Str × NameKind} (h1 : ∀ p, (f p).1 = p.1) (h2 : ∀ p, (f p).2 = p.2 ∨ p.2 = .free) {y : Str} : ∀ {l : List (Str × NameKind)},
    ((l.map f).lookup y = some .free ∨ (l.map f).lookup y = some .cell) → (y, NameKind.free) ∈ l ∨ (y, NameKind.cell) ∈ l
  | [], h => by simp at h
  | p :: r, h => by
    rw [List.map_cons, show f p = (p.1, (f p).2) from Prod.ext (h1 p) rfl, List.lookup_cons] at h
    cases hy : y == p.1 with
    | true =>
      rw [hy] at h
      dsimp only at h
      have e := eq_of_beq hy
      have hk : p.2 = .free ∨ p.2 = .cell := by
        rcases h2 p with q | q
        · rw [q] at h
          exact h.imp Option.some.inj Option.some.inj
        · exact .inl q
      rw [e]
      exact hk.imp (fun q => by rw [← q]; exact .head _) fun q => by rw [← q]; exact .head _
    | false =>
      rw [hy] at h
      exact (lookup_map h1 h2 h).imp (.tail _) (.tail _)
theorem lookup_rel {scope sc : Scope} {y : Str} (h : (relS scope sc).names.lookup y = some .free ∨ (relS scope sc).names.lookup y = some .cell) : (y, NameKind.free) ∈ scope.names ∨ (y, NameKind.cell) ∈ scope.names := by
  refine lookup_map (fun p => ?_) (fun p => ?_) h
  · split <;> rfl
  · split
    · rename_i hq
      simp only [Bool.and_eq_true, beq_iff_eq] at hq
      exact .inr hq.1.1
    · exact .inl rfl
structure AccOf (g : Gl) (n : Nat) (ce elt target : Expr) (ifs : List Expr) (newAcc : Sem Value) (id : String) (N : Nat) (bs : Nat → Bool) (fs : Nat → PyData) (acc : Nat → List Addr → Heap → Obj → Prop) : Prop where
  new : ∃ o₀ : Obj, (∀ X h, acc 0 X h o₀) ∧ o₀.isFreed = false ∧ ∀ (A : Around) (s : Shared) (E Q : Value → Shared → Prop), Q (.ref s.heap.objs.size) { s with heap := s.heap.push o₀ } → wpAny g.M A newAcc Q E s
  loop : ∀ (A : Around) (it ac : Value) (env : Env) (R : Result → Shared → Prop) (I : Nat → Shared → Prop), (∀ n s, I n s → wpAny g.M A (pyNext it) (fun r s₁ => match r with
      | none => R (.ok .next) s₁
      | some v => wpAny g.M A (assign target env v) (fun _ s₂ =>
          wpAny g.M A (forIn ifs true fun c r => if r = true then do let ok ← isTrue c env (eval c env); pure (ForInStep.yield ok) else pure (ForInStep.yield r)) (fun ok s₃ =>
            if ok = true then wpAny g.M A (eval elt env) (fun x s₄ =>
              wpAny g.M A (call (.builtin id) [ac, x]) (fun _ s₅ => ∃ m, m < n ∧ I m s₅) (notedBy g.M A env fun e s' => R (.error e) s') s₄) (notedBy g.M A env fun e s' => R (.error e) s') s₃
            else ∃ m, m < n ∧ I m s₃) (notedBy g.M A env fun e s' => R (.error e) s') s₂) (notedBy g.M A env fun e s' => R (.error e) s') s₁) (notedBy g.M A env fun e s' => R (.error e) s') s) →
    ∀ n s, I n s → codeAny g.M A (.compLoop ce 0 it ac env) R s
  start : ∀ (A : Around) (it ac : Value) (env : Env) (R : Result → Shared → Prop) (s : Shared), codeAny g.M A (.compLoop ce 0 it ac env) R s →
    wpAny g.M A (pyIter it) (fun it' s' => codeAny g.M A (.compLoop ce 0 it' ac env) R s') (notedBy g.M A env fun x s' => R (.error x) s') s → codeAny g.M A (.compStart ce 0 it ac env) R s
  emit : ∀ (i : Nat) (A : Around) (X : List Addr) (s : Shared) (D : Addr) (o : Obj) (y : Value) (E Q : Value → Shared → Prop), i < N → bs i = true → acc i X s.heap o → s.heap.get? D = some o → D ∈ X → Rep X s.heap y (fs i) →
    (∀ h' o' tk, Heap.ExtBut D s.heap h' → h'.get? D = some o' → acc (i + 1) X h' o' → Q .none { s with heap := h', toks := tk }) → wpAny g.M A (call (.builtin id) [.ref D, y]) Q E s
  skip : ∀ i X h o, bs i = false → acc i X h o → acc (i + 1) X h o
  to : ∀ (i : Nat) (X Y : List Addr) (h h' : Heap) (o : Obj), (∀ a ob, a ∉ X → h.get? a = some ob → a ∉ Y ∧ h'.get? a = some ob) → acc i X h o → acc i Y h' o
  dull : ∀ i X h o, acc i X h o → Dull o
noncomputable def accL (bs : Nat → Bool) (fs : Nat → PyData) (i : Nat) (X : List Addr) (h : Heap) (o : Obj) : Prop := ∃ vs n, o = listO vs n ∧ RepAll X h vs (outs bs fs i)
theorem acc_list {elt target iter : Expr} {ifs : List Expr} {scope : Scope} {pos : Pos} {N : Nat} {bs : Nat → Bool} {fs : Nat → PyData} (hN : N ≤ 1000000) (ht : ∀ it v, letOwnedTupleGo target it v = pure ()) :
    AccOf g n (.ListComp elt [⟨target, iter, ifs, 0⟩] scope pos) elt target ifs (newList []) "list.append" N bs fs (accL bs fs) where
  new := ⟨listO [] 0, fun X h => ⟨[], 0, rfl, .nil⟩, rfl, fun A s E Q h => wpAny_newObj_type h⟩
  loop := fun A it ac env R I turn n s h => codeAny_compLoop_tests I turn n h (ht it)
  start := fun A it ac env R s h0 h => codeAny_compStart_list h0 h
  emit := fun i A X s D o y E Q hi hb ha hD hDX hy k => by
    obtain ⟨vs, m, rfl, hr⟩ := ha
    have hvl := hr.length
    have hol := outs_le (bs := bs) (fs := fs) i
    refine wpAny_list_append_plain (items := vs.toArray) ⟨m, hD⟩ (fun h' hp hs => ?_) (by rw [List.size_toArray, sizeLine_eq]; omega)
    obtain ⟨m', ho'⟩ := hp
    have kp : ∀ b ob, b ∉ X → s.heap.get? b = some ob → b ∉ X ∧ h'.get? b = some ob := fun b ob hb e => ⟨hb, hs.extBut b ob (fun q => hb (q ▸ hDX)) e⟩
    refine k h' _ s.toks hs.extBut ho' ⟨vs ++ [y], m', by simp, ?_⟩
    rw [outs, hb]
    exact RepAll.append (.one (hy.to kp)) (hr.to kp)
  skip := fun i X h o hb ⟨vs, m, e, hr⟩ => ⟨vs, m, e, by rw [outs, hb]; simpa using hr⟩
  to := fun i X Y h h' o hk ⟨vs, m, e, hr⟩ => ⟨vs, m, e, hr.to hk⟩
  dull := fun i X h o ⟨vs, m, e, hr⟩ => by rw [e]; exact Dull.seq
theorem comp_core {ce elt : Expr} {px : Pos} {ifs : List Expr} {scope : Scope} {newAcc : Sem Value} {bid : String} {acc : Nat → List Addr → Heap → Obj → Prop} {ρs : Nat → List (Str × Lv)} {Zc : List Addr} {ds : List PyData} {bs : Nat → Bool} {fs : Nat → PyData} {I : Addr} {RR : Value → Addr → Result → Shared → Prop}
    {E : Value → Shared → Prop} (K : AccOf g n ce elt (.Name x px) ifs newAcc bid ds.length bs fs acc) (o : Ok g n sc ρ A env X s) (hI : I ∈ X) (hit : ItAt X s.heap I ds) (hown : ∀ i, ∀ p ∈ ρs i, ∀ b, p.2.own = some b → b ∈ Zc) (hIZ : I ∉ Zc) (hPT : PT ∈ Zc) (hZX : ∀ b ∈ Zc, b ∈ X)
    (hkind : scope.kind = .function) (hcell : ∀ y ∈ scope.names, y.2 = .cell → y.1 = x) (hx : (relS scope sc).names.lookup x = some .local ∨ ((relS scope sc).names.lookup x = some .cell ∧ (x, NameKind.cell) ∈ scope.names))
    (hfree : ∀ p ∈ scope.names, p.2 = .free → sc.names.lookup p.1 = some .free ∨ sc.names.lookup p.1 = some .cell)
    (hsub : ∀ p ∈ ρs 0, p ∈ ρ ∧ ((relS scope sc).names.lookup p.1 = some .free ∨ (relS scope sc).names.lookup p.1 = some .cell) ∧ (p.1, NameKind.free) ∈ scope.names)
    (hxρ : ∀ i, ∀ p ∈ ρs i, p.1 ≠ x) 
    (htest : ∀ i d, ds[i]? = some d → Tests g n (relS scope sc) ((x, .dat d) :: ρs i) ifs (bs i))
    (helt : ∀ i d, ds[i]? = some d → bs i = true → EvZ g n (relS scope sc) ((x, .dat d) :: ρs i) elt Zc (ρs (i + 1)) (fun X h v => Rep X h v (fs i)))
    (hskip : ∀ i, bs i = false → ∀ p ∈ ρs (i + 1), p ∈ ρs i)
    (k : ∀ D C h' tk m, s.heap.get? D = none → s.heap.get? C = none → D ≠ C → h'.Ns C m → Up (I :: Zc) s { s with heap := h', toks := tk } → (∀ p ∈ ρs ds.length, ∃ v, Var (compEnvC scope (cellsFrom (C + 1) scope.names [] ++ closL env scope.names []) C env) h' p.1 v ∧ p.2.is (C :: X) h' v) →
      D ∉ C :: X → (∃ o, h'.get? D = some o ∧ acc ds.length (C :: X) h' o) → RR (.ref D) C (.ok .next) { s with heap := h', toks := tk }) :
    wpAny (model g.prog g.w) A newAcc (fun ac s₃ => wpAny (model g.prog g.w) A (newFunctionEnv scope env.globals (closL env scope.names []) [] env.qual none .none (some env)) (fun cenv s₄ =>
      codeAny (model g.prog g.w) A (.compStart ce 0 (.ref I) ac { cenv with scope := relabel scope env }) (RR ac cenv.locals) s₄) E s₃) E s := by
  have hfresh : ∀ a, s.heap.objs.size ≤ a → s.heap.get? a = none := fun a ha => by
    cases e : s.heap.get? a with
    | none => rfl
    | some o' => exact absurd (Heap.lt_size e) (Nat.not_lt.mpr ha)
  obtain ⟨o₀, ha₀, hf₀, hnew⟩ := K.new
  refine hnew _ _ _ _ (compEnv_new ?_)
  dsimp only
  generalize hH2 : s.heap.push o₀ = H2
  have hC : H2.objs.size = s.heap.objs.size + 1 := by rw [← hH2, Heap.size_push]
  obtain ⟨D, hD⟩ : ∃ D, s.heap.objs.size = D := ⟨_, rfl⟩
  obtain ⟨C, hCe⟩ : ∃ C, H2.objs.size = C := ⟨_, rfl⟩
  rw [hCe, cellsFrom_app]
  have hCD : C = D + 1 := by rw [← hCe, hC, hD]
  have hfD : s.heap.get? D = none := hfresh D (by omega)
  have hfC : s.heap.get? C = none := hfresh C (by omega)
  have hIne : ∀ a, s.heap.get? a = none → a ∉ X := fun a ha => o.cx.live.get ha
  have hsz2 : (H2.push { cls := .type "dict", dict := none, data := .dict #[] }).objs.size = C + 1 := by rw [Heap.size_push, hCe]
  obtain ⟨nc, hnc⟩ : ∃ nc, cellsFrom (C + 1) scope.names [] = nc := ⟨_, rfl⟩
  have cok := cellsFrom_ok scope.names (H2.push { cls := .type "dict", dict := none, data := .dict #[] }) (C + 1) [] ⟨fun _ _ h => (nomatch h), List.Pairwise.nil⟩ (by rw [hsz2]; exact Nat.le_refl _)
  rw [hsz2, hnc] at cok
  have hns₁ : (pushCells (H2.push { cls := .type "dict", dict := none, data := .dict #[] }) scope.names).Ns C (fun _ => none) := by
    have := (Heap.Ns.new H2 (.type "dict")).keeps (pushCells_keeps scope.names _)
    rwa [hCe] at this
  have old : ∀ b ob, s.heap.get? b = some ob → (pushCells (H2.push { cls := .type "dict", dict := none, data := .dict #[] }) scope.names).get? b = some ob := fun b ob e => pushCells_keeps _ _ _ _ (Heap.get?_push_of_some _ (hH2 ▸ Heap.get?_push_of_some _ e))
  have hlD : (pushCells (H2.push { cls := .type "dict", dict := none, data := .dict #[] }) scope.names).get? D = some o₀ := pushCells_keeps _ _ _ _ (Heap.get?_push_of_some _ (by rw [← hH2, ← hD]; exact Heap.get?_push_size _ hf₀))
  generalize pushCells (H2.push { cls := .type "dict", dict := none, data := .dict #[] }) scope.names = h₁ at cok hns₁ old hlD ⊢
  rw [hnc]
  have hnx : ∀ p ∈ nc, p.1 = x := fun p hp => by
    rw [← hnc] at hp
    exact hcell _ ((cellsFrom_mem _ _ _ _ hp).resolve_left fun q => nomatch q) rfl
  obtain ⟨NC, hNC⟩ : ∃ NC, nc.map (·.2) = NC := ⟨_, rfl⟩
  have hNCm : ∀ a ∈ NC, ∃ y, (y, a) ∈ nc := fun a ha => by
    rw [← hNC] at ha; obtain ⟨p, hp, rfl⟩ := List.mem_map.mp ha; exact ⟨p.1, hp⟩
  have hNCc : ∀ a ∈ NC, h₁.IsCell a none ∧ C + 1 ≤ a := fun a ha => let ⟨y, hy⟩ := hNCm a ha; cok.empty y a hy
  have hfN : ∀ a ∈ NC, s.heap.get? a = none := fun a ha => hfresh a (by have := (hNCc a ha).2; omega)
  have hinN : ∀ p ∈ nc, p.2 ∈ NC := fun p hp => hNC ▸ List.mem_map_of_mem hp
  obtain ⟨oC, esC, epC, hoC, hdC, _⟩ := id hns₁
  have u₁ : Ex s { s with heap := h₁, toks := s.toks } := Up.heap old
  have newX : ∀ b ∈ NC ++ C :: D :: X, b ∈ X ∨ s.heap.get? b = none := fun b hb => by
    rcases List.mem_append.mp hb with hb | hb
    · exact .inr (hfN b hb)
    rcases List.mem_cons.mp hb with rfl | hb
    · exact .inr hfC
    · rcases List.mem_cons.mp hb with rfl | hb
      · exact .inr hfD
      · exact .inl hb
  have o₁ : Ok g n sc ρ A env (NC ++ C :: D :: X) { s with heap := h₁, toks := s.toks } := by
    have a1 := o.grow (a := D) u₁ hfD hlD
    have inn : ∀ b ∈ X, b ∈ NC ++ C :: D :: X := fun b h => List.mem_append_right _ (.tail _ (.tail _ h))
    refine ⟨a1.bd, a1.sc, { a1.cx with tabX := inn _ o.cx.tabX, live := fun b hb => ?_, own := ⟨inn _ o.cx.own.1, fun x c e => inn _ (o.cx.own.2 x c e)⟩, vars := fun p hp => ?_ }⟩
    · rcases List.mem_append.mp hb with hb | hb
      · obtain ⟨ob, e, _⟩ := (hNCc b hb).1
        exact ⟨⟨ob, e⟩, o.cx.top.new (hfN b hb)⟩
      rcases List.mem_cons.mp hb with rfl | hb
      · exact ⟨⟨oC, hoC⟩, o.cx.top.new hfC⟩
      · exact a1.cx.live b hb
    · obtain ⟨v, hv, r⟩ := o.cx.vars p hp
      have r' : p.2.is (NC ++ C :: D :: X) s.heap v := r.more inn newX
      exact ⟨v, hv.up o.cx.tab u₁, r'.ex o.cx.tab (inn _ o.cx.tabX) u₁⟩
  have hcells : ∀ y, sc.names.lookup y = some .free ∨ sc.names.lookup y = some .cell → ∃ c, env.cells.lookup y = some c := fun y hy => o.cx.has y (by rw [o.sc]; exact hy)
  have hclo : ∀ p ∈ scope.names, p.2 = .free → ∃ c, env.cells.lookup p.1 = some c := fun p hp hf => hcells _ (hfree p hp hf)
  have oc₁ := o₁.comp (x := x) (ρ' := ρs 0) (scope := scope) (nc := nc) (cl := closL env scope.names []) (C := C) (List.mem_append_right _ (.head _)) hns₁ hkind (closL_sub _ _ fun x c e => by cases e) hnx
    (fun p hp => ⟨⟨_, (cok.empty p.1 p.2 hp).1⟩, List.mem_append_left _ (hinN p hp), fun y q => hIne _ (hfN _ (hinN p hp)) (o.cx.own.2 y _ q)⟩)
    (fun y hy => by
      rw [← hnc, ← cellsFrom_app]
      exact cellsFrom_has _ _ _ _ ((lookup_rel (sc := sc) hy).imp (fun h3 => closL_has _ _ _ (.inr ⟨h3, hclo _ h3 rfl⟩)) id))
    (fun p hp => by
      obtain ⟨h1, h2, h3⟩ := hsub p hp
      exact ⟨h1, h2, hfree _ h3 rfl, closL_has _ _ _ (.inr ⟨h3, hclo _ h3 rfl⟩), hxρ 0 p hp⟩)
  have hit₁ : ItAt (NC ++ C :: D :: X) h₁ I ds := hit.to (fun b ob hb e => ⟨fun q => (newX b q).elim hb fun z => (by rw [e] at z; cases z), old b ob e⟩) (old I)
  have hID : I ≠ D := fun q => hIne D hfD (q ▸ hI)
  have hIC : I ≠ C := fun q => hIne C hfC (q ▸ hI)
  have hDZ : D ∉ Zc := fun q => hIne D hfD (hZX D q)
  have hCZ : C ∉ Zc := fun q => hIne C hfC (hZX C q)
  have hDX : D ∉ X := hIne D hfD
  have hCX : C ∉ X := hIne C hfC
  have hIN : I ∉ NC := fun q => hIne I (hfN I q) hI
  have hDN : D ∉ NC := fun q => by have := (hNCc D q).2; omega
  have hCN : C ∉ NC := fun q => by have := (hNCc C q).2; omega
  have loop : ∀ s₃ : Shared, s₃ = { s with heap := h₁, toks := s.toks } →
      codeAny (model g.prog g.w) A (.compLoop ce 0 (.ref I) (.ref D) (compEnvC scope (nc ++ closL env scope.names []) C env)) (RR (.ref D) C) s₃ := by
    rintro s₃ rfl
    generalize hS : ({ s with heap := h₁, toks := s.toks } : Shared) = S at u₁ oc₁
    have hSh : S.heap = h₁ := by rw [← hS]
    rw [← hSh] at hit₁ hlD hns₁
    generalize hXX : NC ++ C :: D :: X = XX at oc₁ hit₁
    have mX : ∀ b ∈ X, b ∈ XX := fun b hb => hXX ▸ List.mem_append_right _ (.tail _ (.tail _ hb))
    have mD : D ∈ XX := hXX ▸ List.mem_append_right _ (.tail _ (.head _))
    have mC : C ∈ XX := hXX ▸ List.mem_append_right _ (.head _)
    have mN : ∀ b ∈ NC, b ∈ XX := fun b hb => hXX ▸ List.mem_append_left _ hb
    have mI := mX I hI
    generalize hcenv : compEnvC scope (nc ++ closL env scope.names []) C env = cenv at oc₁
    have hcL : cenv.locals = C := by rw [← hcenv]; rfl
    have hcc : cenv.cells = nc ++ closL env scope.names [] := by rw [← hcenv]; rfl
    have dP : D ≠ PT := fun q => hDZ (by rw [q]; exact hPT)
    have muUp : ∀ {i : Nat} {Z : List Addr} {s s' : Shared}, Up Z s s' → (∀ z ∈ Z, z ∈ XX) → D ∉ Z → (∃ o, s.heap.get? D = some o ∧ acc i XX s.heap o) → ∃ o, s'.heap.get? D = some o ∧ acc i XX s'.heap o := fun u hz hm ⟨o, e, r⟩ =>
      ⟨o, u.keep D o hm e, K.to _ _ _ _ _ _ (fun b ob hb e => ⟨hb, u.keep b ob (fun q => hb (hz b q)) e⟩) r⟩
    refine K.loop _ _ _ _ _ (fun m s' => ∃ i, m = ds.length - i ∧ i ≤ ds.length ∧ Ok g n (relS scope sc) (ρs i) A cenv XX s' ∧ ItAt XX s'.heap I (ds.drop i) ∧ (∃ o, s'.heap.get? D = some o ∧ acc i XX s'.heap o) ∧ Up (I :: D :: C :: PT :: (NC ++ Zc)) S s') ?_ ds.length _
      ⟨0, rfl, Nat.zero_le _, oc₁, by simpa using hit₁, ⟨o₀, hlD, ha₀ _ _⟩, Up.refl⟩
    rintro m s₁ ⟨i, rfl, hle, ok₁, it₁, mu₁, up₁⟩
    obtain ⟨oI, hoI, hdI⟩ := it₁.cls
    have shI : Lv.is XX s₁.heap (.ref I) (.itr I (ds.drop i)) := ⟨rfl, mI, it₁⟩
    obtain ⟨mL, hnL⟩ := ok₁.cx.ns
    have iL : I ≠ cenv.locals := by rw [hcL]; exact hIC
    have iC : ∀ y c, cenv.cells.lookup y = some c → I ≠ c := fun y c e => by obtain ⟨w, hw⟩ := ok₁.cx.cel y c e; exact shI.ne_cell rfl hw
    have iρ : ∀ i, ∀ p ∈ ρs i, p.2.own ≠ some I := fun i p hp q => hIZ (hown i p hp I q)
    have dL : D ≠ cenv.locals := by rw [hcL, hCD]; exact Nat.ne_of_lt (Nat.lt_succ_self _)
    have dC : ∀ y c, cenv.cells.lookup y = some c → D ≠ c := fun y c e q => by
      rw [hcc] at e
      rcases lookup_or hnx e with ⟨_, h⟩ | h
      · exact hDN (q ▸ hinN _ h)
      · exact hDX (q ▸ o.cx.own.2 y c (closL_sub _ _ (fun x c e => by cases e) _ _ h))
    have dρ : ∀ i, ∀ p ∈ ρs i, p.2.own ≠ some D := fun i p hp q => hDZ (hown i p hp D q)
    cases hd : ds.drop i with
    | nil =>
      rw [hd] at it₁
      have hlen : i = ds.length := by have := congrArg List.length hd; simp at this; omega
      refine next_end (g := g) it₁ ok₁.bd.hd fun h' hs => ?_
      have uI : Up [I] s₁ { s₁ with heap := h', toks := s₁.toks } := Up.but1 hs hoI hdI
      have up₂ : Up (I :: Zc) s { s₁ with heap := h', toks := s₁.toks } := by
        refine ((u₁.mono fun z hz => .tail _ (by rw [List.mem_singleton.mp hz]; exact hPT)).from up₁ fun a ha => ?_).from uI fun a ha => .inl (by rw [List.mem_singleton.mp ha]; exact .head _)
        rcases List.mem_cons.mp ha with rfl | ha
        · exact .inl (.head _)
        rcases List.mem_cons.mp ha with rfl | ha
        · exact .inr hfD
        rcases List.mem_cons.mp ha with rfl | ha
        · exact .inr hfC
        rcases List.mem_cons.mp ha with rfl | ha
        · exact .inl (.tail _ hPT)
        · exact (List.mem_append.mp ha).elim (fun ha => .inr (hfN _ ha)) fun ha => .inl (.tail _ ha)
      obtain ⟨hs', tk', e₁⟩ := up₂.same
      have e₁' : ({ s₁ with heap := h' } : Shared) = { s with heap := h', toks := tk' } := by
        have e2 : ({ s₁ with heap := h', toks := s₁.toks } : Shared).heap = hs' := by rw [e₁]
        have e2' : h' = hs' := e2
        rw [e2']; rw [e2'] at e₁; exact e₁
      have kp : ∀ b ob, b ∉ XX → s₁.heap.get? b = some ob → b ∉ C :: X ∧ h'.get? b = some ob := fun b ob hb e => ⟨fun q => hb ((List.mem_cons.mp q).elim (fun e => e ▸ mC) (mX b)), hs b ob (fun q => hb (q ▸ mI)) e⟩
      show RR (.ref D) C (.ok .next) { s₁ with heap := h' }
      rw [e₁']
      obtain ⟨oD, hoD, hrD⟩ := mu₁
      refine k D C h' tk' mL hfD hfC (by rw [hCD]; exact Nat.ne_of_lt (Nat.lt_succ_self _)) (Heap.Ns.to (hcL ▸ hnL) fun ob e => hs _ ob (Ne.symm hIC) e) (by rw [← e₁']; exact up₂) (fun p hp => ?_) (by simp only [List.mem_cons, not_or]; exact ⟨by rw [hCD]; exact Nat.ne_of_lt (Nat.lt_succ_self _), hDX⟩) ?_
      · rw [hnc, hcenv]
        rw [← hlen] at hp
        obtain ⟨v, hv, rv⟩ := ok₁.cx.vars p hp
        exact ⟨v, hv.to hs iL iC, rv.to kp fun b hb _ => ⟨.tail _ (hZX b (hown i p hp b hb)), fun ob e => hs b ob (fun q => hIZ (q ▸ hown i p hp b hb)) e⟩⟩
      · rw [← hlen]
        exact ⟨oD, hs D _ (Ne.symm hID) hoD, K.to _ _ _ _ _ _ kp hrD⟩
    | cons d r =>
      rw [hd] at it₁
      obtain ⟨e1, e2⟩ := get_drop0 hd
      refine next_item (g := g) it₁ mI fun v h' tk hs it₂ hr => ?_
      have uI : Up [I] s₁ { s₁ with heap := h', toks := tk } := Up.but1 hs hoI hdI
      have ok₂ := ok₁.but (tk := tk) mI hoI hdI hs (let ⟨o, e, _⟩ := it₂.cls; ⟨o, e⟩) iL iC (iρ i)
      have one : ∀ {a : Addr}, a ∈ XX → ∀ z ∈ [a], z ∈ XX := fun h z hz => by rw [List.mem_singleton.mp hz]; exact h
      have mu₂ := muUp uI (one mI) (fun q => hID (List.mem_singleton.mp q).symm) mu₁
      have hlt := (List.getElem?_eq_some_iff.mp e1).1
      show wpAny _ _ (assign (.Name x px) cenv v) _ _ { s₁ with heap := h', toks := tk }
      generalize hS₂ : ({ s₁ with heap := h', toks := tk } : Shared) = s₂ at *
      have it₂' : ItAt XX s₂.heap I r := by rw [← hS₂]; exact it₂
      refine wpAny_assign_Name (ok₂.store (l := .dat d) (hxρ i) (hx.imp id And.left) (by rw [← hS₂]; exact hr) fun h₃ tk₃ a₃ o₃ ha₃ ho₃ hd₃ hs₃ ok₃ => ?_)
      have hCDne : C ≠ D := by rw [hCD]; exact Nat.succ_ne_self _
      have h3 : a₃ ∈ XX ∧ a₃ ≠ D ∧ a₃ ≠ I ∧ (a₃ = C ∨ a₃ ∈ NC) := by
        rcases ha₃ with rfl | ⟨hkc, e⟩
        · rw [hcL]; exact ⟨mC, hCDne, Ne.symm hIC, .inl rfl⟩
        · exact ⟨ok₂.cx.own.2 _ _ e, Ne.symm (dC _ _ e), Ne.symm (iC _ _ e), by
            rw [hcc] at e
            have hxc := (hx.resolve_left fun q => by rw [hkc] at q; cases q).2
            obtain ⟨c', hc'⟩ := cellsFrom_has scope.names (C + 1) [] x (.inr hxc)
            rw [hnc] at hc'
            rw [List.lookup_append, hc'] at e
            cases e
            exact .inr (hinN _ (PySem.mem_of_lookup hc'))⟩
      have uC : Up [a₃] s₂ { s₂ with heap := h₃, toks := tk₃ } := Up.but1 hs₃ ho₃ hd₃
      have mu₃ := muUp uC (one h3.1) (fun q => h3.2.1 (List.mem_singleton.mp q).symm) mu₂
      have li₃ := lv_up (l := .itr I r) (v := .ref I) ⟨rfl, mI, it₂'⟩ uC (one h3.1) fun a ha q => h3.2.2.1 (by rw [← List.mem_singleton.mp q]; exact (Option.some.inj ha).symm)
      have up₃ : Up (I :: D :: C :: PT :: (NC ++ Zc)) S { s₂ with heap := h₃, toks := tk₃ } := (up₁.from uI fun a ha => .inl (by rw [List.mem_singleton.mp ha]; exact .head _)).from uC fun a ha => .inl (by
        rw [List.mem_singleton.mp ha]
        rcases h3.2.2.2 with rfl | q
        · exact .tail _ (.tail _ (.head _))
        · exact .tail _ (.tail _ (.tail _ (.tail _ (List.mem_append_left _ q)))))
      generalize ({ s₂ with heap := h₃, toks := tk₃ } : Shared) = s₃ at *
      refine htest i d e1 A cenv XX s₃ _ _ ok₃ fun s₄ u₄ => ?_
      have ok₄ := ok₃.up u₄
      have mu₄ := muUp u₄ (one ok₃.cx.tabX) (fun q => dP (List.mem_singleton.mp q)) mu₃
      have li₄ := li₃.ex ok₃.cx.tab ok₃.cx.tabX u₄
      have up₄ := up₃.from u₄ fun a ha => .inl (by rw [List.mem_singleton.mp ha]; exact .tail _ (.tail _ (.tail _ (.head _))))
      cases hb : bs i with
      | false =>
        rw [if_neg Bool.false_ne_true]
        refine ⟨ds.length - (i + 1), by omega, i + 1, rfl, hlt, ⟨ok₄.bd, ok₄.sc, ok₄.cx.sub fun p hp => .tail _ (hskip i hb p hp)⟩, by rw [e2]; exact li₄.2.2, ?_, up₄⟩
        exact let ⟨o, e, r⟩ := mu₄; ⟨o, e, K.skip _ _ _ _ hb r⟩
      | true =>
        rw [if_pos rfl]
        refine helt i d e1 hb A cenv XX s₄ _ _ ok₄ fun y s₅ u₅ ok₅ hy => ?_
        have zX : ∀ z ∈ Zc, z ∈ XX := fun z hz => mX z (hZX z hz)
        have mu₅ := muUp u₅ zX hDZ mu₄
        have li₅ := lv_up li₄ u₅ zX fun a ha q => hIZ ((Option.some.inj ha : I = a) ▸ q)
        have up₅ := up₄.from u₅ fun a ha => .inl (.tail _ (.tail _ (.tail _ (.tail _ (List.mem_append_right _ ha)))))
        obtain ⟨oD, hoD, hrD⟩ := mu₅
        have duD := K.dull _ _ _ _ hrD
        refine K.emit i A XX s₅ D oD y _ _ hlt hb hrD hoD mD hy fun h₆ o₆ tk₆ hs₆ ho₆ hr₆ => ?_
        have uD : Up [D] s₅ { s₅ with heap := h₆, toks := tk₆ } := Up.but1 hs₆ hoD duD
        have li₆ := lv_up li₅ uD (one mD) fun a ha q => hID (by rw [← List.mem_singleton.mp q]; exact Option.some.inj ha)
        exact ⟨ds.length - (i + 1), by omega, i + 1, rfl, hlt, ok₅.but (tk := tk₆) mD hoD duD hs₆ ⟨_, ho₆⟩ dL dC (dρ (i + 1)), by rw [e2]; exact li₆.2.2, ⟨o₆, ho₆, hr₆⟩, up₅.from uD fun a ha => .inl (by rw [List.mem_singleton.mp ha]; exact .tail _ (.head _))⟩
  have fin := loop _ rfl
  subst hCe
  subst hD
  exact K.start _ _ _ _ _ _ fin (iter_self (X := NC ++ _ :: _ :: X) (ds := ds) hit₁ fin)
theorem ev_compA {ce elt iter : Expr} {px p₀ : Pos} {ifs : List Expr} {scope : Scope} {newAcc : Sem Value} {bid : String} {acc : Nat → List Addr → Heap → Obj → Prop} {ρc : List (Str × Lv)} {ds : List PyData} {bs : Nat → Bool} {fs : Nat → PyData}
    (K : AccOf g n ce elt (.Name x px) ifs newAcc bid ds.length bs fs acc) (hi : It g n sc ρ iter ds) (hce : ∀ env, eval ce env = comprehension ce scope env p₀ newAcc false (eval iter env)) (hcl : clausesOf ce = [⟨.Name x px, iter, ifs, 0⟩])
    (htest : ∀ i d, ds[i]? = some d → Tests g n (relS scope sc) ((x, .dat d) :: ρc) ifs (bs i))
    (helt : ∀ i d, ds[i]? = some d → bs i = true → EvD g n (relS scope sc) ((x, .dat d) :: ρc) elt (fs i))
    (hsub : ∀ p ∈ ρc, p ∈ ρ ∧ p.2.own = none ∧ ((relS scope sc).names.lookup p.1 = some .free ∨ (relS scope sc).names.lookup p.1 = some .cell) ∧ (p.1, NameKind.free) ∈ scope.names)
    (hxρ : ∀ p ∈ ρc, p.1 ≠ x)
    (hkind : scope.kind = .function) (hcell : ∀ y ∈ scope.names, y.2 = .cell → y.1 = x) (hx : (relS scope sc).names.lookup x = some .local ∨ ((relS scope sc).names.lookup x = some .cell ∧ (x, NameKind.cell) ∈ scope.names))
    (hfree : ∀ p ∈ scope.names, p.2 = .free → sc.names.lookup p.1 = some .free ∨ sc.names.lookup p.1 = some .cell)
    (hnames : ∀ y ∈ scope.names, y.2 = .local → scope.names.lookup y.1 = some .local)
    (hs : ∀ env x, foldedSetIterable iter env x = pure x) :
    Ev g n sc ρ ce (fun X h v => ∃ D o, v = .ref D ∧ D ∉ X ∧ h.get? D = some o ∧ acc ds.length X h o) := fun A env X s E Q o k => by
  rw [hce]
  have hclo : ∀ p ∈ scope.names, p.2 = .free → ∃ c, env.cells.lookup p.1 = some c := fun p hp hf => o.cx.has _ (by rw [o.sc]; exact hfree p hp hf)
  refine wpAny_comprehension_free (use := none) hcl (hs env) (closure_eq hclo) hkind hnames (hi A env X s E _ o fun a s₁ s₂ u₁ u₂ ha hit => ?_)
  obtain ⟨oa, hoa, _⟩ := hit.cls
  have o₂ := (o.up u₁).grow u₂ ha hoa
  have haX : a ∉ X := (o.up u₁).cx.live.get ha
  have haP : a ∉ [PT] := fun q => haX (by rw [List.mem_singleton.mp q]; exact o.cx.tabX)
  refine comp_core (Zc := [PT]) (ρs := fun _ => ρc) (bs := bs) (fs := fs) K o₂ (.head _) hit (fun i p hp b hb => by rw [(hsub p hp).2.1] at hb; cases hb) haP (.head _) (fun b hb => by rw [List.mem_singleton.mp hb]; exact .tail _ o.cx.tabX)
    hkind hcell hx hfree (fun p hp => ⟨(hsub p hp).1, (hsub p hp).2.2⟩) (fun i => hxρ) htest (fun i d e hb => evZ_of (helt i d e hb) fun p hp => .tail _ hp) (fun i _ p hp => hp) ?_
  intro D C h' tk m hD hC hDC hn u₃ hv hDX ⟨oD, hoD, rD⟩
  have hCD : D ≠ C := fun q => hDX (q ▸ .head _)
  refine ⟨m, hn, fun h'' hs'' => k (.ref D) _ ?_ ⟨D, oD, rfl, fun q => hDX (.tail _ (.tail _ q)), hs''.extBut D oD hCD hoD, K.to _ _ _ _ _ _ (fun b ob hb e => ⟨fun q => hb (.tail _ (.tail _ q)), hs''.extBut b ob (fun q => hb (q ▸ .head _)) e⟩) rD⟩⟩
  obtain ⟨oC, es, ep, hoC, hdC, _⟩ := hn
  have hC₁ : s₁.heap.get? C = none := by
    cases e : s₁.heap.get? C with
    | none => rfl
    | some o' =>
      by_cases hp : C = PT
      · obtain ⟨o'', q⟩ := (u₂.tab (o.up u₁).cx.tab).live
        rw [← hp, hC] at q; cases q
      · have := u₂.keep C o' (by rw [List.mem_singleton]; exact hp) e; rw [hC] at this; cases this
  have u₄ : Ex s₁ { s₂ with heap := h', toks := tk } := u₂.from u₃ fun b hb => (List.mem_cons.mp hb).elim (fun e => .inr (e ▸ ha)) .inl
  have u₅ : Up [C] { s₂ with heap := h', toks := tk } { s₂ with heap := h'', toks := tk } := Up.but1 (s := { s₂ with heap := h', toks := tk }) hs''.extBut hoC (Dull.dict hdC)
  exact u₁.trans (u₄.from u₅ fun b hb => .inr (by rw [List.mem_singleton.mp hb]; exact hC₁))
theorem ev_comp {elt iter : Expr} {px : Pos} {ifs : List Expr} {scope : Scope} {pos : Pos} {ρc : List (Str × Lv)} {ds : List PyData} {bs : Nat → Bool} {fs : Nat → PyData} (hi : It g n sc ρ iter ds)
    (htest : ∀ i d, ds[i]? = some d → Tests g n (relS scope sc) ((x, .dat d) :: ρc) ifs (bs i))
    (helt : ∀ i d, ds[i]? = some d → bs i = true → EvD g n (relS scope sc) ((x, .dat d) :: ρc) elt (fs i))
    (hsub : ∀ p ∈ ρc, p ∈ ρ ∧ p.2.own = none ∧ ((relS scope sc).names.lookup p.1 = some .free ∨ (relS scope sc).names.lookup p.1 = some .cell) ∧ (p.1, NameKind.free) ∈ scope.names)
    (hxρ : ∀ p ∈ ρc, p.1 ≠ x) (hsz : ds.length ≤ 1000000)
    (hkind : scope.kind = .function := by rfl) (hcell : ∀ y ∈ scope.names, y.2 = .cell → y.1 = x := by decide) (hx : (relS scope sc).names.lookup x = some .local ∨ ((relS scope sc).names.lookup x = some .cell ∧ (x, NameKind.cell) ∈ scope.names) := by decide)
    (hfree : ∀ p ∈ scope.names, p.2 = .free → sc.names.lookup p.1 = some .free ∨ sc.names.lookup p.1 = some .cell := by decide)
    (hnames : ∀ y ∈ scope.names, y.2 = .local → scope.names.lookup y.1 = some .local := by decide)
    (hs : ∀ env x, foldedSetIterable iter env x = pure x := by intro _ _; rfl) :
    EvD g n sc ρ (.ListComp elt [⟨.Name x px, iter, ifs, 0⟩] scope pos) (.list (outs bs fs ds.length)) := 
  (ev_compA (acc_list hsz fun _ _ => rfl) hi (fun env => eval_ListComp ..) rfl htest helt hsub hxρ hkind hcell hx hfree hnames hs).imp fun X h v ⟨D, o, e, hD, ho, vs, m, e', hr⟩ => by subst e e'; exact .list hD ho hr
theorem stm_comp {y : Str} {py spos : Pos} {elt iter : Expr} {px : Pos} {ifs : List Expr} {scope : Scope} {pos : Pos} {ρc : List (Str × Lv)} {ds : List PyData} {bs : Nat → Bool} {fs : Nat → PyData} (hi : It g n sc ρ iter ds)
    (htest : ∀ i d, ds[i]? = some d → Tests g n (relS scope sc) ((x, .dat d) :: ρc) ifs (bs i))
    (helt : ∀ i d, ds[i]? = some d → bs i = true → EvD g n (relS scope sc) ((x, .dat d) :: ρc) elt (fs i))
    (hsub : ∀ p ∈ ρc, p ∈ ρ ∧ p.2.own = none ∧ ((relS scope sc).names.lookup p.1 = some .free ∨ (relS scope sc).names.lookup p.1 = some .cell) ∧ (p.1, NameKind.free) ∈ scope.names)
    (hxρ : ∀ p ∈ ρc, p.1 ≠ x) (hsz : ds.length ≤ 1000000) (hs' : ∀ p ∈ ρ', p ∈ ρ) (hy : ∀ p ∈ ρ', p.1 ≠ y)
    (hsw : ∀ env : Env, env.scope = sc → swapsWith (.ListComp elt [⟨.Name x px, iter, ifs, 0⟩] scope pos) (some (.Name y py)) spos.line env = pure true := by intro env h; subst h; rfl)
    (hk : sc.names.lookup y = some .local ∨ sc.names.lookup y = some .cell := by decide)
    (hkind : scope.kind = .function := by rfl) (hcell : ∀ y ∈ scope.names, y.2 = .cell → y.1 = x := by decide) (hx : (relS scope sc).names.lookup x = some .local ∨ ((relS scope sc).names.lookup x = some .cell ∧ (x, NameKind.cell) ∈ scope.names) := by decide)
    (hfree : ∀ p ∈ scope.names, p.2 = .free → sc.names.lookup p.1 = some .free ∨ sc.names.lookup p.1 = some .cell := by decide)
    (hnames : ∀ y ∈ scope.names, y.2 = .local → scope.names.lookup y.1 = some .local := by decide)
    (hs : ∀ env x, foldedSetIterable iter env x = pure x := by intro _ _; rfl) :
    Stm g n sc ρ (.Assign [.Name y py] (.ListComp elt [⟨.Name x px, iter, ifs, 0⟩] scope pos) spos) (.next ((y, .dat (.list (outs bs fs ds.length))) :: ρ')) := fun A env s₀ Z X₀ X s E Q F k => by
  have o := F.ok
  rw [exec_Assign_Name_used _ _ _ _ (hsw env o.sc)]
  refine wpAny_bind (wpAny_standAt (wpAny_bind ?_))
  show wpAny _ A (do let _ ← comprehension (.ListComp elt [⟨.Name x px, iter, ifs, 0⟩] scope pos) scope env _ (newList []) false (eval iter env) (some (assign (.Name y py) env))) _ _ s
  have hclo : ∀ p ∈ scope.names, p.2 = .free → ∃ c, env.cells.lookup p.1 = some c := fun p hp hf => o.cx.has _ (by rw [o.sc]; exact hfree p hp hf)
  refine wpAny_bind (wpAny_mono (wpAny_comprehension_free (use := some (assign (.Name y py) env)) (Q := fun _ s' => Q .next s') rfl (hs env) (closure_eq hclo) hkind hnames (hi A env X s E _ o fun a s₁ s₂ u₁ u₂ ha hit => ?_)) (fun _ s' hq => wpAny_pure (wpAny_pure hq)) fun _ _ e => e)
  obtain ⟨oa, hoa, _⟩ := hit.cls
  have o₂ := (o.up u₁).grow u₂ ha hoa
  have haX : a ∉ X := (o.up u₁).cx.live.get ha
  have haP : a ∉ [PT] := fun q => haX (by rw [List.mem_singleton.mp q]; exact o.cx.tabX)
  refine comp_core (Zc := [PT]) (ρs := fun _ => ρc) (bs := bs) (fs := fs) (acc_list hsz fun _ _ => rfl) o₂ (.head _) hit (fun i p hp b hb => by rw [(hsub p hp).2.1] at hb; cases hb) haP (.head _) (fun b hb => by rw [List.mem_singleton.mp hb]; exact .tail _ o.cx.tabX)
    hkind hcell hx hfree (fun p hp => ⟨(hsub p hp).1, (hsub p hp).2.2⟩) (fun i => hxρ) htest (fun i d e hb => evZ_of (helt i d e hb) fun p hp => .tail _ hp) (fun i _ p hp => hp) ?_
  intro D C h' tk m hD hC hDC hn u₃ hv hDX ⟨oD, hoD, vsD, nD, eD, rD⟩
  subst eD
  have hr : Rep (C :: a :: X) h' (.ref D) (.list (outs bs fs ds.length)) := .list hDX hoD rD
  obtain ⟨oC, es, ep, hoC, hdC, _⟩ := id hn
  have hC₁ : s₁.heap.get? C = none := by
    cases e : s₁.heap.get? C with
    | none => rfl
    | some o' =>
      by_cases hp : C = PT
      · obtain ⟨o'', q⟩ := (u₂.tab (o.up u₁).cx.tab).live
        rw [← hp, hC] at q; cases q
      · have := u₂.keep C o' (by rw [List.mem_singleton]; exact hp) e; rw [hC] at this; cases this
  have u₄ : Ex s₁ { s₂ with heap := h', toks := tk } := u₂.from u₃ fun b hb => (List.mem_cons.mp hb).elim (fun e => .inr (e ▸ ha)) .inl
  have F₄ := (F.up u₁).grow u₄ hC₁ hoC
  show wpAny _ A (assign (.Name y py) env (.ref D)) _ _ _
  have Fs := (F.up u₁).sub hs'
  have hCX : C ∉ X := Fs.ok.cx.live.get hC₁
  have hCt : C ∉ turnZ env ρ' := fun q => hCX (Fs.turn.zx C q)
  refine wpAny_assign_Name ((F₄.sub hs').turn.store (l := .dat (.list (outs bs fs ds.length))) hy hk (hr.to (Y := C :: X) fun b ob hb e => ⟨fun q => hb ((List.mem_cons.mp q).elim (fun z => z ▸ .head _) fun z => .tail _ (.tail _ z)), e⟩) (fun _ e => nomatch e) fun s₅ F₅ => ?_)
  have hC₅ : s₅.heap.get? C = some oC := F₅.ex.keep C oC hCt hoC
  have G₅ := (F₄.sub hs').back F₅
  refine ⟨m, Heap.Ns.to hn fun ob e => F₅.ex.keep C ob hCt e, fun h₆ hs₆ => k _ _ (G₅.gone (tk := s₅.toks) (.head _) (F.stay ?_) hC₅ (Dull.dict hdC) (fun e => hCX (e ▸ F.ok.cx.own.1)) (fun z c e q => hCX (q ▸ F.ok.cx.own.2 z c e)) (fun p hp q => ?_) hs₆.extBut)⟩
  · cases e : s.heap.get? C with
    | none => rfl
    | some o' =>
      by_cases hp : C = PT
      · exact absurd (hp ▸ F.ok.cx.tabX) hCX
      · have := u₁.keep C o' (by rw [List.mem_singleton]; exact hp) e; rw [hC₁] at this; cases this
  · rcases List.mem_cons.mp hp with rfl | hp
    · cases q
    · obtain ⟨v, _, rv⟩ := Fs.ok.cx.vars p hp; exact hCX (rv.inX C q)
end
end Mine
end

noncomputable section
namespace Mine
noncomputable def BlkA (g : Gl) (n : Nat) (sc : Scope) (A : Around) (env : Env) (Z : List Addr) (ρ : List (Str × Lv)) (body : List Stmt) (P : List Addr → Heap → Value → Prop) : Prop :=
  ∀ (s₀ : Shared) (X₀ X : List Addr) (s : Shared) (E : Value → Shared → Prop) (Q : Flow → Shared → Prop), Fx g n sc ρ A env s₀ Z X₀ X s →
    (∀ v s', Up Z s₀ s' → P X₀ s'.heap v → Q (.ret v) s') → wpAny (model g.prog g.w) A (execs body env) Q E s
noncomputable def BlkZ (g : Gl) (n : Nat) (sc : Scope) (Z : List Addr) (ρ : List (Str × Lv)) (body : List Stmt) (P : List Addr → Heap → Value → Prop) : Prop := ∀ (A : Around) (env : Env), BlkA g n sc A env Z ρ body P
section
variable {g : Gl} {n : Nat} {sc : Scope} {ρ ρ' ρ'' : List (Str × Lv)} {x : Str} {pos pos' px : Pos} {d d₁ d₂ : PyData} {e t : Expr} {lv : Lv} {st : Stmt} {rest body orelse : List Stmt} {o : Out} {P : List Addr → Heap → Value → Prop} {ds : List PyData}
theorem stm_for {ρs : Nat → List (Str × Lv)} (hi : It g n sc (ρs 0) e ds) (hρ : ∀ i, ∀ p ∈ ρs i, p.1 ≠ x) (ho : ∀ i, ∀ p ∈ ρs i, ∀ b, p.2.own = some b → ∃ q ∈ ρs 0, q.2.own = some b)
    (hb : ∀ i d, ds[i]? = some d → Blk g n sc ((x, .dat d) :: ρs i) body (.next (ρs (i + 1)))) (hk : sc.names.lookup x = some .local ∨ sc.names.lookup x = some .cell) (hs : ∀ env y, foldedSetIterable e env y = pure y) :
    Stm g n sc (ρs 0) (.For (.Name x px) e body [] pos) (.next (ρs ds.length)) := fun A env s₀ Z X₀ X s E Q F k => by
  refine wpAny_For (hi A env X s E _ F.ok fun a s₁ s₂ u₁ u₂ ha hit => ?_) (hs env)
  obtain ⟨oa, hoa, _⟩ := hit.cls
  have F₁ := F.up u₁
  have haX : a ∉ X := F₁.ok.cx.live.get ha
  refine loop_core (F₁.grow u₂ ha hoa) (.head _) (F₁.stay ha) hit (fun i p hp => ⟨hρ i p hp, fun q => ?_⟩) hk (fun i d e => (hb i d e).turn) fun X' s' F' => k X' s' F'
  obtain ⟨r, hr, hq⟩ := ho i p hp a q
  obtain ⟨v, _, hv⟩ := F.ok.cx.vars r hr
  exact haX (hv.inX a hq)
theorem stm_while {ρs : Nat → List (Str × Lv)} {N : Nat} (ht : ∀ i, i < N → Ts g n sc (ρs i) t true) (hb : ∀ i, i < N → Blk g n sc (ρs i) body (.next (ρs (i + 1)))) (hN : Ts g n sc (ρs N) t false) :
    Stm g n sc (ρs 0) (.While t body [] pos) (.next (ρs N)) := fun A env s₀ Z X₀ X s E Q F k => by
  refine wpAny_While (codeAny_whileLoop (fun m s' => ∃ i X', m = N - i ∧ i ≤ N ∧ Fx g n sc (ρs i) A env s₀ Z X₀ X' s') ?_ N ⟨0, X, rfl, Nat.zero_le _, F⟩)
  rintro m s₁ ⟨i, X₁, rfl, hle, F₁⟩
  rcases Nat.lt_or_ge i N with h | h
  · refine ht i h A env X₁ s₁ _ _ F₁.ok fun s₂ u => ?_
    rw [if_pos rfl]
    exact hb i h A env s₀ Z X₀ X₁ s₂ _ _ (F₁.up u) fun X' s' F' => ⟨N - (i + 1), by omega, i + 1, X', rfl, h, F'⟩
  · have e : i = N := Nat.le_antisymm hle h
    subst e
    refine hN A env X₁ s₁ _ _ F₁.ok fun s₂ u => ?_
    rw [if_neg Bool.false_ne_true]
    exact wpAny_execs_nil (k X₁ s₂ (F₁.up u))
theorem stm_try {h₀ : ExceptHandler} {hs : List ExceptHandler} (hb : Blk g n sc ρ body o) : Stm g n sc ρ (.Try body (h₀ :: hs) [] [] pos) o := fun A env s₀ Z X₀ X s E Q F k =>
  wpAny_Try_except (hb A env s₀ Z X₀ X s _ _ F (by
    cases o with
    | next ρ' => exact fun X' s' F' => wpAny_execs_nil (k X' s' F')
    | brk ρ' => exact k
    | ret P => exact k))
theorem bindL_get {kindOf : Str → Option NameKind} {y : Str} {v : Value} (hk : kindOf y = some .local) : ∀ (l : List (Str × Value)) (m : Str → Option Value), (m y = some v ∧ (∀ p ∈ l, p.1 ≠ y)) ∨ ((y, v) ∈ l ∧ (l.map (·.1)).Nodup) → bindL kindOf l m y = some v
  | [], m, h => h.elim (·.1) fun h => nomatch h.1
  | (n, w) :: r, m, h => by
    unfold bindL
    refine bindL_get hk r _ ?_
    rcases h with ⟨h1, h2⟩ | ⟨h1, h2⟩
    · refine .inl ⟨?_, fun p hp => h2 p (.tail _ hp)⟩
      split
      · exact (if_neg fun q => h2 _ (.head _) (Eq.symm q)).trans h1
      · exact h1
    · rw [List.map_cons, List.nodup_cons] at h2
      rcases List.mem_cons.mp h1 with q | h1
      · cases q
        refine .inl ⟨?_, fun p hp q => h2.1 (List.mem_map.mpr ⟨p, hp, q⟩)⟩
        rw [if_pos hk]; exact if_pos rfl
      · exact .inr ⟨h1, h2.2⟩
theorem bindC_get {kindOf : Str → Option NameKind} {y : Str} {v : Value} (hk : kindOf y ≠ some .local) : ∀ (l : List (Str × Value)) (m : Str → Option Value), (m y = some v ∧ (∀ p ∈ l, p.1 ≠ y)) ∨ ((y, v) ∈ l ∧ (l.map (·.1)).Nodup) → bindC kindOf l m y = some v
  | [], m, h => h.elim (·.1) fun h => nomatch h.1
  | (n, w) :: r, m, h => by
    unfold bindC
    refine bindC_get hk r _ ?_
    rcases h with ⟨h1, h2⟩ | ⟨h1, h2⟩
    · refine .inl ⟨?_, fun p hp => h2 p (.tail _ hp)⟩
      split
      · exact h1
      · exact (if_neg fun q => h2 _ (.head _) (Eq.symm q)).trans h1
    · rw [List.map_cons, List.nodup_cons] at h2
      rcases List.mem_cons.mp h1 with q | h1
      · cases q
        refine .inl ⟨?_, fun p hp q => h2.1 (List.mem_map.mpr ⟨p, hp, q⟩)⟩
        rw [if_neg hk]; exact if_pos rfl
      · exact .inr ⟨h1, h2.2⟩
theorem zip_mem {α β : Type} : ∀ {l : List α} {vs : List β} {x : α} {v : β}, (x, v) ∈ l.zip vs → ∃ i : Nat, l[i]? = some x ∧ vs[i]? = some v
  | [], _, _, _, h => by simp at h
  | _ :: _, [], _, _, h => by simp at h
  | a :: l, b :: vs, x, v, h => by
    rw [List.zip_cons_cons] at h
    rcases List.mem_cons.mp h with q | h
    · cases q; exact ⟨0, rfl, rfl⟩
    · obtain ⟨i, h1, h2⟩ := zip_mem h; exact ⟨i + 1, by simpa using h1, by simpa using h2⟩
theorem zip_get {α β : Type} {l : List α} {vs : List β} {x : α} {v : β} {i : Nat} (h1 : l[i]? = some x) (h2 : vs[i]? = some v) : (x, v) ∈ l.zip vs := by
  refine List.mem_of_getElem? (i := i) ?_
  rw [List.getElem?_zip_eq_some]; exact ⟨h1, h2⟩
noncomputable def cellsAt (env : Env) : List Addr := env.cells.filterMap fun p => env.cells.lookup p.1
theorem mem_cellsAt {env : Env} {c : Addr} : c ∈ cellsAt env ↔ ∃ y, env.cells.lookup y = some c := by
  unfold cellsAt
  rw [List.mem_filterMap]
  exact ⟨fun ⟨p, _, h⟩ => ⟨_, h⟩, fun ⟨y, h⟩ => ⟨(y, c), PySem.mem_of_lookup h, h⟩⟩
structure Def where
  params : Arguments
  body : List Stmt
  scope : Scope
structure FnIs (K : Frag) (f : Addr) (d : Def) (ob : Obj) (fd : FuncData) : Prop where
  at_ : K.lookup f = some ob
  data : ob.data = .func fd
  params : fd.params = d.params
  body : fd.body = .stmts d.body
  scope : fd.scope = d.scope
  closure : fd.closure = []
  globals : fd.globals = mainGlobals
  builtins : fd.builtins = builtinsNs
  code : codeIn K fd.code fd.qualname = true
theorem fn_env {f : Addr} {ob : Obj} {fd : FuncData} {names : List Str} {ls : List Lv} {rs : List Addr} {D : Def} (H : FnIs g.K f D ob fd) (A : Around) (X : List Addr) (s : Shared) (vs : List Value) (E : Value → Shared → Prop) (Q : Value → Shared → Prop)
    (hB : Bd (n + 1) A) (hT : Tp g.K s.heap) (ht : TabOk s.heap) (hX : PT ∈ X) (hl : Lives g.K X s.heap) (hvs : LvAll X s.heap vs ls) (hrs : ∀ a ∈ rs, a ∈ X) (hown : ∀ l ∈ ls, ∀ a, l.own = some a → a ∈ rs)
    (hnn : names.Nodup) (hkn : ∀ y ∈ names, D.scope.names.lookup y = some .local ∨ D.scope.names.lookup y = some .cell) (hln : names.length = ls.length)
    (hfree : ∀ p ∈ D.scope.names, p.2 ≠ .free) (hk : D.scope.kind = .function)
    (h : ∀ env s₁, Fx g n D.scope (names.zip ls) (A.deeper env) env s (PT :: rs) X (env.locals :: (cellsAt env ++ X)) s₁ → (env.qual = fd.qualname ++ ".<locals>." ∧ env.code = fd.code ∧ env.func = some f ∧ env.frame = some env.locals) →
      wpAny g.M (A.deeper env) (execs D.body env) (fun fl s' => Q (match fl with | .ret v => v | _ => .none) s')
        (fun e s' => wpAny g.M (A.deeper env) (leaving env e) (fun _ s'' => E e s'') (fun e' s'' => E e' s'') s') s₁) :
    wpAny g.M A.in1 (newFunctionEnv fd.scope fd.globals fd.closure (names.zip vs) (fd.qualname ++ ".<locals>.") (some f) fd.code none fd.builtins)
      (fun env s₂ => s₂.heap.NoLimit ∧ codeAny g.M A (.func D.body env) (fun r s' => match r with | .ok (.ret v) => Q v s' | .ok _ => False | .error e => E e s') s₂) (fun e s' => E e s') s := by
  have hmem : ∀ {l : List (Str × NameKind)} {y : Str} {k : NameKind}, l.lookup y = some k → (y, k) ∈ l := fun h => PySem.mem_of_lookup h
  have hz : ∀ p ∈ names.zip vs, p.1 ∈ names := fun p hp => by obtain ⟨i, h1, _⟩ := zip_mem (x := p.1) (v := p.2) hp; exact List.mem_of_getElem? h1
  rw [H.closure, H.scope]
  refine wpAny_newFunctionEnv_cells hk (fun p hp => (hkn _ (hz p hp)).imp id fun h => ⟨h, ?_⟩) fun env henv s₁ I => ⟨hT.lim.keeps I.toInCall.keep, codeAny_func ?_⟩
  · obtain ⟨c, e⟩ := cellsFrom_has D.scope.names (s.heap.objs.size + 1) [] p.1 (.inr (hmem h)); rw [e]; rfl
  have esc : env.scope = D.scope := by rw [henv]; rfl
  have eloc : env.locals = s.heap.objs.size := by rw [henv]; rfl
  have ecel : env.cells = cellsFrom (s.heap.objs.size + 1) D.scope.names [] := by rw [henv]; rfl
  have fresh : ∀ a, s.heap.objs.size ≤ a → s.heap.get? a = none := fun a ha => by
    cases e : s.heap.get? a with
    | none => rfl
    | some o' => exact absurd (Heap.lt_size e) (Nat.not_lt.mpr ha)
  obtain ⟨h₁, tk, es, keep⟩ := I.done
  subst es
  have u : Ex s { s with heap := h₁, toks := tk } := Up.heap keep
  have cl : ∀ {c}, c ∈ cellsAt env → s.heap.get? c = none ∧ ∃ v, Heap.IsCell h₁ c v := fun {c} hc => by
    obtain ⟨y, hy⟩ := mem_cellsAt.mp hc
    have hlt := I.above y c (PySem.mem_of_lookup hy)
    rw [eloc] at hlt
    exact ⟨fresh _ (Nat.le_of_lt hlt), _, I.cell y c hy⟩
  have hL : s.heap.get? env.locals = none := fresh _ (Nat.le_of_eq eloc.symm)
  have hnew : ∀ a ∈ env.locals :: (cellsAt env ++ X), a ∈ X ∨ s.heap.get? a = none := fun a ha => by
    rcases List.mem_cons.mp ha with rfl | ha
    · exact .inr hL
    · rcases List.mem_append.mp ha with ha | ha
      · exact .inr (cl ha).1
      · exact .inl ha
  have inX : ∀ a ∈ X, a ∈ env.locals :: (cellsAt env ++ X) := fun a ha => .tail _ (List.mem_append_right _ ha)
  refine h env _ ?_ ⟨by rw [henv]; rfl, by rw [henv]; rfl, by rw [henv]; rfl, by rw [henv]; rfl⟩
  have T₁ := hT.up ht u
  have hasC : ∀ y, env.scope.names.lookup y = some .free ∨ env.scope.names.lookup y = some .cell → ∃ c, env.cells.lookup y = some c := fun y hy => by
    rw [esc] at hy
    rcases hy with hy | hy
    · exact absurd rfl (hfree _ (hmem hy))
    · rw [ecel]; exact cellsFrom_has D.scope.names (s.heap.objs.size + 1) [] y (.inr (hmem hy))
  have hlen := hvs.length
  have ndz : ((names.zip vs).map (·.1)).Nodup := by
    rw [List.map_fst_zip (by omega)]; exact hnn
  exact {
    ok := ⟨hB.deeper env, esc, {
      fn := by rw [esc]; exact hk
      gl := by rw [henv]; exact H.globals
      bt := by rw [henv]; exact H.builtins
      top := T₁, tab := u.tab ht, tabX := inX _ hX
      live := fun a ha => by
        rcases List.mem_cons.mp ha with rfl | ha
        · obtain ⟨o, _, _, e, _⟩ := I.toInCall.ns; exact ⟨⟨o, e⟩, hT.new hL⟩
        · rcases List.mem_append.mp ha with ha | ha
          · obtain ⟨h0, v, o, e, _⟩ := cl ha; exact ⟨⟨o, e⟩, hT.new h0⟩
          · obtain ⟨⟨o, e⟩, r⟩ := hl a ha; exact ⟨⟨o, keep a o e⟩, r⟩
      ns := ⟨_, I.toInCall.ns⟩
      has := hasC
      cel := fun y c e => ⟨_, I.cell y c e⟩
      inj := fun y z c e e' => name_of_addr I.apart (PySem.mem_of_lookup e) (PySem.mem_of_lookup e')
      own := ⟨.head _, fun y c e => .tail _ (List.mem_append_left _ (mem_cellsAt.mpr ⟨y, e⟩))⟩
      vars := fun p hp => by
        obtain ⟨i, h1, h2⟩ := zip_mem (x := p.1) (v := p.2) hp
        have hi : i < vs.length := by have := (List.getElem?_eq_some_iff.mp h2).1; omega
        have hv : vs[i]? = some vs[i] := List.getElem?_eq_getElem hi
        have hz' := zip_get h1 hv
        have r := (hvs.get hv h2).more inX hnew
        refine ⟨vs[i], ?_, r.ex ht (inX _ hX) u⟩
        have hy : p.1 ∈ names := List.mem_of_getElem? h1
        by_cases hkl : D.scope.names.lookup p.1 = some .local
        · have hkk : env.kindOf p.1 = some .local := by rw [Env.kindOf, esc]; exact hkl
          exact .inl ⟨hkk, _, I.toInCall.ns, bindL_get hkk _ _ (.inr ⟨hz', ndz⟩)⟩
        · have hkc := (hkn _ hy).resolve_left hkl
          have hkk : env.kindOf p.1 = some .cell := by rw [Env.kindOf, esc]; exact hkc
          obtain ⟨c, hc⟩ := hasC p.1 (.inr (by rw [esc]; exact hkc))
          refine .inr ⟨.inl hkk, c, hc, ?_⟩
          have := I.cell p.1 c hc
          rw [bindC_get (by rw [hkk]; exact nofun) _ _ (.inr ⟨hz', ndz⟩)] at this
          exact this }⟩
    ex := u.mono fun z hz => by rw [List.mem_singleton.mp hz]; exact .head _
    lo := inX, hi := hnew
    zx := fun a ha => (List.mem_cons.mp ha).elim (fun e => e ▸ hX) (hrs a)
    zp := .head _
    li := fun a ha => (hl a ha).1
    oL := .inr hL
    oC := fun y c e => .inr (cl (mem_cellsAt.mpr ⟨y, e⟩)).1
    oV := fun p hp a ha => by
      obtain ⟨i, h1, h2⟩ := zip_mem (x := p.1) (v := p.2) hp
      exact .inl (.tail _ (hown _ (List.mem_of_getElem? h2) a ha)) }
theorem does_fn {f : Addr} {ob : Obj} {fd : FuncData} {names : List Str} {ls : List Lv} {D : Def} (H : FnIs g.K f D ob fd) (hbind : ∀ (fd : FuncData) (vs : List Value), fd.params = D.params → fd.defaults = .none → vs.length = names.length → bindArgs fd ⟨vs, []⟩ = pure (names.zip vs)) (hdf : fd.defaults = .none)
    (hnn : names.Nodup) (hkn : ∀ y ∈ names, D.scope.names.lookup y = some .local ∨ D.scope.names.lookup y = some .cell) (hln : names.length = ls.length)
    (hfree : ∀ p ∈ D.scope.names, p.2 ≠ .free) (hco : D.scope.isCoroutine = false) (hgen : D.scope.isGenerator = false) (hk : D.scope.kind = .function) (hown : (ls.all fun l => l.own.isNone) = true)
    (h : BlkZ g n D.scope [PT] (names.zip ls) D.body P) : Does g (n + 1) (fun vs => call (.ref f) vs) ls P := fun A X s vs E Q hB hT ht hX hl hvs k => by
  refine wpAny_call (codeAny_call_function hB.room (hT.k _ _ H.at_) H.data (by rw [H.scope]; exact hco) (by rw [H.scope]; exact hgen) H.body (codeRec_of hT.k H.code) ?_)
  rw [hbind fd vs H.params hdf (by rw [hvs.length, hln])]
  exact wpAny_pure (fn_env (rs := []) H A X s vs E Q hB hT ht hX hl hvs (fun a ha => nomatch ha) (fun l hl' a ha => by have := List.all_eq_true.mp hown l hl'; rw [ha] at this; cases this) hnn hkn hln hfree hk
    fun env s₁ F _ => h (A.deeper env) env s X _ s₁ _ _ F fun v s' u p => k v s' u p)
end
end Mine
end

noncomputable section
namespace Mine
section
variable {g : Gl} {n : Nat} {prog : Program} {w : World} {A : Around} {E : Value → Shared → Prop} {s : Shared}
theorem LvAll.i0 {X : List Addr} {h : Heap} {vs : List Value} (x : LvAll X h vs []) : vs = [] := by cases x; rfl
theorem LvAll.ic {X : List Addr} {h : Heap} {vs : List Value} {l : Lv} {ls : List Lv} (x : LvAll X h vs (l :: ls)) : ∃ v r, vs = v :: r ∧ l.is X h v ∧ LvAll X h r ls := by cases x; exact ⟨_, _, rfl, ‹_›, ‹_›⟩
theorem LvAll.i1 {X : List Addr} {h : Heap} {vs : List Value} {l : Lv} (x : LvAll X h vs [l]) : ∃ v, vs = [v] ∧ l.is X h v := by
  obtain ⟨v, r, rfl, hv, x⟩ := x.ic
  exact ⟨v, by rw [x.i0], hv⟩
theorem LvAll.i2 {X : List Addr} {h : Heap} {vs : List Value} {l m : Lv} (x : LvAll X h vs [l, m]) : ∃ v u, vs = [v, u] ∧ l.is X h v ∧ m.is X h u := by
  obtain ⟨v, r, rfl, hv, x⟩ := x.ic
  obtain ⟨u, rfl, hu⟩ := x.i1
  exact ⟨v, u, rfl, hv, hu⟩
theorem b_isi_str_bytes {x : Str} : Does g n (fun vs => call (.builtin "isinstance") vs) [.dat (.str x), .val (.type "bytes")] (fun X h v => (Lv.dat (.bool false)).is X h v) := fun A X s vs E Q B hT ht hX hl hv k => by
  obtain ⟨v, u, rfl, h1, h2⟩ := hv.i2
  obtain ⟨t, rfl⟩ := Rep.inv_str h1
  rw [show _ = _ from h2]
  exact PySem.IsiPair.str_bytes (k _ _ Up.tok (.bool _))
theorem b_type_str {x : Str} : Does g n (fun vs => call (.type "type") vs) [.dat (.str x)] (fun X h v => (Lv.val (.type "str")).is X h v) := fun A X s vs E Q B hT ht hX hl hv k => by
  obtain ⟨v, rfl, h1⟩ := hv.i1
  obtain ⟨t, rfl⟩ := Rep.inv_str h1
  exact call_type_of (typeIs_str _ _ _) (by decide) (k _ _ Up.refl rfl)
theorem issub_str {k : Value} {i : Int} {t : Tok} {R : Result → Shared → Prop} (hk : k = .int i t) (hq : R (.ok (.ret (.bool true))) s) : codeAny (model prog w) A (.call (.builtin "issubclass.nested") ⟨[.type "str", .type "str", k], []⟩) R s := by
  subst hk
  have hkind : builtinKind "issubclass.nested" = none := by decide +kernel
  have hsig : Manifest.signature? "issubclass.nested" = none := by decide +kernel
  refine codeAny_call_builtin (by decide +kernel) PySem.F.entry_issubclass_nested ?_
  simp only [checkBuiltinCall, hkind, hsig]
  refine wpAny_pure ?_
  unfold Builtin.«issubclass.nested»
  refine wpAny_bind (m := typeOf (.type "str")) (wpAny_of_eq PySem.F.isi_meta_str ?_)
  rw [if_pos (by decide)]
  refine wpAny_bind (wpAny_bind (m := isType (.type "str")) (wpAny_pure (a := true) (wpAny_bind (m := isType (.type "str")) (wpAny_pure (a := true) ?_))))
  rw [if_pos (show (true && true) = true from rfl)]
  exact wpAny_of_eq PySem.F.isi_self_str (wpAny_pure hq)
theorem issub_tuple {a : Addr} {c : Value} {m : Nat} {R : Value → Shared → Prop} (ho : s.heap.get? a = some (tupO [.type "str", c] m)) (hq : R (.bool true) s) :
    wpAny (model prog w) A (call (.builtin "issubclass") [.type "str", .ref a]) R E s := by
  refine call_function_any PySem.F.kind_issubclass PySem.F.plain_issubclass PySem.F.entry_issubclass (PySem.F.args_issubclass_2 _ _) ?_
  refine issubclass_outer (R := fun r s' => match r with | .ok (.ret v) => R v s' | .ok _ => False | .error e => E e s') ?_
  have hT : s.TypeIs (.ref a) "tuple" := ⟨_, ho, rfl⟩
  repeat (any_goals (first | assumption | wp_step))
  rw [PySem.F.isi_self_tuple]
  repeat (any_goals (first | assumption | wp_step))
  refine issub_str rfl ?_
  exact wpAny_bind (wpAny_pure (wpAny_bind (wpAny_pure (wpAny_pure (wpAny_pure (wpAny_pure hq))))))
theorem b_issub {c : Value} : Does g n (fun vs => call (.builtin "issubclass") vs) [.val (.type "str"), .tvs [.type "str", c]] (fun X h v => (Lv.dat (.bool true)).is X h v) := fun A X s vs E Q B hT ht hX hl hv k => by
  obtain ⟨v, u, rfl, h1, h2⟩ := hv.i2
  obtain ⟨a, m, rfl, _, ho⟩ := h2
  rw [show _ = _ from h1]
  exact issub_tuple ho (k _ _ Up.refl (.bool _))
theorem b_len_list {ds : List PyData} (hz : ds.length ≤ 1000000) : Does g n (fun vs => call (.builtin "len") vs) [.dat (.list ds)] (fun X h v => (Lv.dat (.int ds.length)).is X h v) := fun A X s vs E Q B hT ht hX hl hv k => by
  obtain ⟨v, rfl, h1⟩ := hv.i1
  obtain ⟨a, us, m, rfl, ha, ho, hr⟩ := Rep.inv_list h1
  have hl := hr.length
  refine len_list (items := us.toArray) ⟨_, ho, rfl, _, rfl⟩ (by rw [List.size_toArray]; omega) (k _ _ Up.tok ?_)
  rw [List.size_toArray, hl]; exact .int _ _
theorem b_len_str {x : Str} (hz : x.length ≤ 1000000) : Does g n (fun vs => call (.builtin "len") vs) [.dat (.str x)] (fun X h v => (Lv.dat (.int x.length)).is X h v) := fun A X s vs E Q B hT ht hX hl hv k => by
  obtain ⟨v, rfl, h1⟩ := hv.i1
  obtain ⟨t, rfl⟩ := Rep.inv_str h1
  exact call_len_gives (typeIs_str _ _ _) F.slot_str_len F.entry_str_len (F.args_str_len_1 _) (gives_str_len x t) (by omega) (by omega) (k _ _ Up.tok (.int _ _))
theorem b_range1 {a : Int} : Does g n (fun vs => call (.type "range") vs) [.dat (.int a)] (fun X h v => (Lv.rng 0 a).is X h v) := fun A X s vs E Q B hT ht hX hl hv k => by
  obtain ⟨v, rfl, h1⟩ := hv.i1
  obtain ⟨t, rfl⟩ := Rep.inv_int h1
  exact call_range_1 (k _ _ Up.push ⟨_, _, _, _, rfl, hl.fresh, Heap.get?_push_size _ rfl⟩)
theorem b_range2 {a b : Int} : Does g n (fun vs => call (.type "range") vs) [.dat (.int a), .dat (.int b)] (fun X h v => (Lv.rng a b).is X h v) := fun A X s vs E Q B hT ht hX hl hv k => by
  obtain ⟨v, u, rfl, h1, h2⟩ := hv.i2
  obtain ⟨t, rfl⟩ := Rep.inv_int h1
  obtain ⟨t', rfl⟩ := Rep.inv_int h2
  exact call_range_2 (k _ _ Up.push ⟨_, _, _, _, rfl, hl.fresh, Heap.get?_push_size _ rfl⟩)
theorem repAll_of {X : List Addr} {h : Heap} : ∀ {vs : List Value} {ds : List PyData}, vs.length = ds.length → (∀ (i : Nat) v d, vs[i]? = some v → ds[i]? = some d → Rep X h v d) → RepAll X h vs ds
  | [], [], _, _ => .nil
  | v :: vs, d :: ds, hl, hi => .cons (hi 0 v d rfl rfl) (repAll_of (by simpa using hl) fun i v d e e' => hi (i + 1) v d (by simpa using e) (by simpa using e'))
  | [], _ :: _, hl, _ => by simp at hl
  | _ :: _, [], hl, _ => by simp at hl
theorem upI_get : ∀ (m : Nat) (x : Int) (i : Nat), (upI x m)[i]? = if i < m then some (.int (x + i)) else none
  | 0, x, i => by simp [upI]
  | m + 1, x, 0 => by simp [upI]
  | m + 1, x, i + 1 => by
    simp only [upI, List.getElem?_cons_succ, upI_get m (x + 1) i, Nat.add_lt_add_iff_right]
    split
    · rw [show x + 1 + (i : Int) = x + ((i + 1 : Nat) : Int) by omega]
    · rfl
theorem upI_len : ∀ (m : Nat) (x : Int), (upI x m).length = m
  | 0, _ => rfl
  | m + 1, x => by rw [upI, List.length_cons, upI_len m]
theorem b_list_range {a : Nat} (hz : a ≤ 100000) : Does g n (fun vs => call (.type "list") vs) [.rng 0 a] (fun X h v => (Lv.dat (.list (upI 0 a))).is X h v) := fun A X s vs E Q B hT ht hX hl hv k => by
  obtain ⟨v, rfl, h1⟩ := hv.i1
  obtain ⟨r, t, u, t', rfl, hr, ho⟩ := h1
  have hn : Builtin.Range.rangeSize 0 (a : Int) 1 = ((a : Nat) : Int) := by rw [PyProof.Rows.rangeSize_nat]; omega
  have sm : Builtin.Range.small 0 (a : Int) 1 = true := by
    unfold Builtin.Range.small
    rw [hn]
    simp [Builtin.Range.rangeFitsLong]; omega
  refine call_list_range B.hd ho sm hn (by omega) fun h' tk acc c' hk hl' hacc => ?_
  refine k _ _ (Up.heap hk) (.list (vs := acc.toList) (n := c') hl.fresh (by simpa using hl') ?_)
  refine repAll_of (by rw [upI_len, Array.length_toList]; exact hacc.1) fun i v d e e' => ?_
  rw [upI_get] at e'
  split at e'
  · cases e'
    obtain ⟨t, rfl⟩ := hacc.2 i v (by simpa using e)
    rw [Int.mul_one]; exact .int _ _
  · cases e'
end
section
variable {g : Gl} {n : Nat} {sc : Scope} {ρ ρ' : List (Str × Lv)} {x : Str} {pos apos : Pos} {d d₁ d₂ : PyData} {o i e : Expr} {ds : List PyData} {lv : Lv} {P : List Addr → Heap → Value → Prop}
theorem ev_idx {k : Int} (ho : EvD g n sc ρ o (.list ds)) (hi : EvD g n sc ρ i (.int k)) (h0 : 0 ≤ k) (h1 : k < 2 ^ 63) (hd : ds[k.toNat]? = some d)
    (hs : ∀ l k u, subscripted i false (.ref l) (.int k u) = operate [.ref l, .int k u] (getItem (.ref l) (.int k u))) : EvD g n sc ρ (.Subscript o i pos) d := fun A env X s E Q ok kk =>
  Subscript_ (ho A env X s E _ ok fun a s₁ u₁ r₁ => hi A env X s₁ E _ (ok.up u₁) fun b s₂ u₂ r₂ => by
    obtain ⟨l, vs, m, rfl, ha, hl, hr⟩ := Rep.inv_list ((ok.up u₁).rep u₂ r₁)
    obtain ⟨t, rfl⟩ := Rep.inv_int r₂
    obtain ⟨v, hv, r⟩ := hr.get hd
    exact tail_any (T := "list") ⟨_, hl, rfl⟩ slot_list_getitem.lookup (wpAny_getItem_list (items := vs.toArray) ⟨_, hl, rfl, _, rfl⟩ h0 h1 (by simpa using hv) (kk _ _ (u₁.trans u₂) r)) (hs _ _ _))
theorem ev_idxLast (ho : EvD g n sc ρ o (.list ds)) (hi : EvD g n sc ρ i (.int (-1))) (hd : ds[ds.length - 1]? = some d)
    (hs : ∀ l k u, subscripted i false (.ref l) (.int k u) = operate [.ref l, .int k u] (getItem (.ref l) (.int k u))) : EvD g n sc ρ (.Subscript o i pos) d := fun A env X s E Q ok kk =>
  Subscript_ (ho A env X s E _ ok fun a s₁ u₁ r₁ => hi A env X s₁ E _ (ok.up u₁) fun b s₂ u₂ r₂ => by
    obtain ⟨l, vs, m, rfl, ha, hl, hr⟩ := Rep.inv_list ((ok.up u₁).rep u₂ r₁)
    obtain ⟨t, rfl⟩ := Rep.inv_int r₂
    obtain ⟨v, hv, r⟩ := hr.get hd
    have hlen := hr.length
    have hp : 0 < ds.length := by have := (List.getElem?_eq_some_iff.mp hd).1; omega
    refine tail_any (T := "list") ⟨_, hl, rfl⟩ slot_list_getitem.lookup (wpAny_getItem_list_neg (items := vs.toArray) (x := v) ⟨_, hl, rfl, _, rfl⟩ (by decide) (by rw [List.size_toArray]; omega) (by decide) ?_ (kk _ _ (u₁.trans u₂) r)) (hs _ _ _)
    rw [List.size_toArray, show ((-1 : Int) + (vs.length : Int)).toNat = ds.length - 1 by omega]
    simpa using hv)
noncomputable def Part (g : Gl) (n : Nat) (sc : Scope) (ρ : List (Str × Lv)) (e : Option Expr) (k : Option Int) : Prop := ∀ (A : Around) (env : Env) (X : List Addr) (s : Shared) (E : Value → Shared → Prop) (Q : Value → Shared → Prop), Ok g n sc ρ A env X s →
  (∀ v s', Ex s s' → (∃ t, v = partValue (k.map fun i => (i, t))) → Q v s') → wpAny (model g.prog g.w) A (evalPart e env) Q E s
theorem part_none : Part g n sc ρ none none := fun A env X s E Q ok k => wpAny_evalPart_none (k _ _ Up.refl ⟨0, rfl⟩)
theorem part_some {k : Int} (h : EvD g n sc ρ e (.int k)) : Part g n sc ρ (some e) (some k) := fun A env X s E Q ok kk => wpAny_evalPart_some (h A env X s E Q ok fun v s' u r => by
  obtain ⟨t, rfl⟩ := Rep.inv_int r; exact kk _ _ u ⟨t, rfl⟩)
theorem isPart {k : Option Int} {v : Value} (h : ∃ t, v = partValue (k.map fun i => (i, t))) : IsPart v k := by
  obtain ⟨t, rfl⟩ := h
  cases k with
  | none => exact .none
  | some i => exact .int i t
theorem ev_slice {lo hi st : Option Expr} {p : Pos} {kl ku ks : Option Int} {es : List PyData} {ops : Value → Value → List Value} (ho : EvD g n sc ρ o (.list ds)) (h1 : Part g n sc ρ lo kl) (h2 : Part g n sc ρ hi ku) (h3 : Part g n sc ρ st ks) (h0 : ks ≠ some 0) (hz : ds.length ≤ 1000000)
    (hp : ∀ X h vs, RepAll X h vs ds → RepAll X h (slicePick vs.toArray kl ku ks).toList es) (hs : ∀ o' i', subscripted (.Slice lo hi st p) false o' i' = operate (ops o' i') (getItem o' i')) :
    EvD g n sc ρ (.Subscript o (.Slice lo hi st p) pos) (.list es) := fun A env X s E Q ok kk =>
  Subscript_ (ho A env X s E _ ok fun a s₁ u₁ r₁ => wpAny_Slice (h1 A env X s₁ E _ (ok.up u₁) fun v₁ s₂ u₂ p₁ => h2 A env X s₂ E _ ((ok.up u₁).up u₂) fun v₂ s₃ u₃ p₂ => h3 A env X s₃ E _ (((ok.up u₁).up u₂).up u₃) fun v₃ s₄ u₄ p₃ => by
    have o₄ := ((ok.up u₁).up u₂).up u₃ |>.up u₄
    have r₄ := (ok.up u₁).rep ((u₂.trans u₃).trans u₄) r₁
    obtain ⟨l, vs, m, rfl, ha, hl, hr⟩ := Rep.inv_list r₄
    have hlen := hr.length
    have u₅ : Ex s₄ { s₄ with heap := s₄.heap.push { cls := .type "slice", data := .fields #[v₁, v₂, v₃] } } := Up.push'
    have o₅ := o₄.up u₅
    obtain ⟨l, vs, m, e, ha, hl, hr⟩ := Rep.inv_list (o₄.rep u₅ r₄)
    cases e
    refine tail_any (T := "list") ⟨_, hl, rfl⟩ slot_list_getitem.lookup (wpAny_getItem_list_slice (items := vs.toArray) ⟨_, hl, rfl, _, rfl⟩ ⟨_, Heap.get?_push_size _ rfl, rfl, rfl⟩ (isPart p₁) (isPart p₂) (isPart p₃) h0 (kk _ _ ((((u₁.trans u₂).trans u₃).trans u₄).trans (u₅.trans Up.push')) ?_) (by have := hr.length; rw [List.size_toArray, sizeLine_eq]; omega)) (hs _ _)
    have := rep_list o₅.fresh (hp X _ vs hr)
    simp only [listO, Array.toArray_toList] at this
    exact this))
theorem ev_from {p : Pos} {k : Nat} (ho : EvD g n sc ρ o (.list ds)) (hk : EvD g n sc ρ e (.int k)) (hz : ds.length ≤ 1000000) : EvD g n sc ρ (.Subscript o (.Slice (some e) none none p) pos) (.list (ds.drop k)) :=
  ev_slice ho (part_some hk) part_none part_none nofun hz (fun X h vs r => by rw [slicePick_from' vs.toArray k]; exact r.drop k) fun _ _ => rfl
theorem ev_upto {p : Pos} {k : Nat} (ho : EvD g n sc ρ o (.list ds)) (hk : EvD g n sc ρ e (.int k)) (hz : ds.length ≤ 1000000) : EvD g n sc ρ (.Subscript o (.Slice none (some e) none p) pos) (.list (ds.take k)) :=
  ev_slice ho part_none (part_some hk) part_none nofun hz (fun X h vs r => by rw [slicePick_upto' vs.toArray k]; exact r.take k) fun _ _ => rfl
theorem ev_rev {p : Pos} (ho : EvD g n sc ρ o (.list ds)) (hk : EvD g n sc ρ e (.int (-1))) (hz : ds.length ≤ 1000000) : EvD g n sc ρ (.Subscript o (.Slice none none (some e) p) pos) (.list ds.reverse) :=
  ev_slice ho part_none part_none (part_some hk) nofun hz (fun X h vs r => by rw [krv_pick]; exact r.reverse) fun _ _ => rfl
theorem repAll_pick {X : List Addr} {h : Heap} {vs : List Value} {ds : List PyData} (r : RepAll X h vs ds) (l : List Nat) : RepAll X h (l.filterMap (vs.toArray[·]?)) (l.filterMap (ds[·]?)) := by
  induction l with
  | nil => exact .nil
  | cons i l ih =>
    have hlen := r.length
    rw [List.filterMap_cons, List.filterMap_cons]
    cases hd : ds[i]? with
    | none =>
      have : vs.toArray[i]? = none := by simp at hd ⊢; omega
      rw [this]; exact ih
    | some d =>
      obtain ⟨v, hv, rv⟩ := r.get hd
      rw [show vs.toArray[i]? = some v by simpa using hv]
      exact .cons rv ih
end
end Mine
end

noncomputable section
open PySem.Builtin PySem.Builtin.Str
namespace Mine
noncomputable abbrev isD (d : PyData) : List Addr → Heap → Value → Prop := fun X h v => (Lv.dat d).is X h v
section
variable {g : Gl} {n : Nat} {A : Around} {E : Value → Shared → Prop} {s : Shared} {X : List Addr} {Q : Value → Shared → Prop}
inductive MadeIs : Made → PyData → Prop
  | bool (b : Bool) : MadeIs (.val (.bool b)) (.bool b)
  | int (i : Int) : MadeIs (.int i) (.int i)
  | val (x : Str) (t : Tok) : MadeIs (.val (.str x t)) (.str x)
  | str (x : Str) (h : x.length ≤ sizeLine) : MadeIs (.str x) (.str x)
theorem MadeIs.post {m : Made} {d : PyData} (h : MadeIs m d) (k : ∀ v s', Ex s s' → Rep X s'.heap v d → Q v s') : m.post Q s := by
  cases h with
  | bool b => exact k _ _ Up.refl (.bool b)
  | int i => exact k _ _ Up.tok (.int i _)
  | val x t => exact k _ _ Up.refl (.str x t)
  | str x h => exact ⟨h, k _ _ Up.tok (.str x _)⟩
theorem b_str1 {name : Str} {id : String} {B : Builtin} {x y : Str} {d : PyData} (slot : Slot "str" name id) (entry : entryFor table id = some B) (args : ∀ a b, argsOk id ⟨[a, b], []⟩)
    (gv : ∀ t u, ∃ m, Gives (B ⟨[.str x t, .str y u], []⟩) m ∧ MadeIs m d) : Does g n (fun vs => call (.builtin id) vs) [.dat (.str x), .dat (.str y)] (isD d) := fun A X s vs E Q Bd hT ht hX hl hv k => by
  obtain ⟨v, u, rfl, h1, h2⟩ := hv.i2
  obtain ⟨t, rfl⟩ := Rep.inv_str h1
  obtain ⟨t', rfl⟩ := Rep.inv_str h2
  obtain ⟨m, gm, hm⟩ := gv t t'
  exact call_gives slot (typeIs_str _ _ _) entry (args _ _) gm (hm.post k)
theorem repS_of {h : Heap} : ∀ (l : List (Str × Tok)), RepAll X h (strValues l) ((l.map (·.1)).map .str)
  | [] => .nil
  | p :: l => .cons (.str p.1 p.2) (repS_of l)
theorem repS_to {h : Heap} : ∀ {vs : List Value} {xs : List Str}, RepAll X h vs (xs.map .str) → ∃ l : List (Str × Tok), vs = strValues l ∧ l.map (·.1) = xs
  | _, [], .nil => ⟨[], rfl, rfl⟩
  | _, x :: xs, .cons h1 h2 => by
    obtain ⟨t, rfl⟩ := Rep.inv_str h1
    obtain ⟨l, rfl, hl⟩ := repS_to h2
    exact ⟨(x, t) :: l, rfl, by rw [List.map_cons, hl]⟩
theorem push_list {l : List (Str × Tok)} {xs : List Str} {tk : Nat} (hl : Lives g.K X s.heap) (he : l.map (·.1) = xs) (k : ∀ v s', Ex s s' → Rep X s'.heap v (.list (xs.map .str)) → Q v s') :
    Q (.ref s.heap.objs.size) { s with toks := tk, heap := s.heap.push { cls := .type "list", data := .seq (strValues l).toArray } } :=
  k _ _ Up.push (he ▸ rep_list hl.fresh (repS_of l))
theorem b_split {x y : Str} (hy : (y.length == 0) = false) (hx : x.length ≤ 1000000) (hz : (Txt.split x y).length ≤ 1000000) :
    Does g n (fun vs => call (.builtin "str.split") vs) [.dat (.str x), .dat (.str y)] (isD (.list ((Txt.split x y).map .str))) := fun A X s vs E Q Bd hT ht hX hl hv k => by
  obtain ⟨v, w, rfl, h1, h2⟩ := hv.i2
  obtain ⟨t, rfl⟩ := Rep.inv_str h1
  obtain ⟨u, rfl⟩ := Rep.inv_str h2
  cases h1 : (decide (x.length < y.length) || decide (strKind x < strKind y))
  · cases hf : (occurrences x y 0 x.length (x.length + 1)).isEmpty
    · have e : Txt.split x y = partsBetween x (occurrences x y 0 x.length (x.length + 1)) y.length := (if_neg (ne_true_of_eq_false h1)).trans (if_neg (ne_true_of_eq_false hf))
      rw [e] at hz
      refine call_meets F.slot_str_split (typeIs_str _ _ _) F.entry_str_split (F.args_str_split_2 _ _) (meets_str_split_sep x y t u h1 hy hf (by rw [sizeLine_eq]; omega) (by rw [sizeLine_eq]; omega)) ?_
      show wants Q E _ { s with toks := _, heap := s.heap.push { cls := .type "list", data := .seq (strsFrom s.toks (partsBetween x (occurrences x y 0 x.length (x.length + 1)) y.length)).toArray } }
      rw [strsFrom_eq]
      exact push_list hl ((numbered_texts _ _).trans e.symm) k
    · exact call_meets F.slot_str_split (typeIs_str _ _ _) F.entry_str_split (F.args_str_split_2 _ _) (meets_str_split_not_found x y t u h1 hy hf)
        (push_list (l := [(x, t)]) (tk := s.toks) hl ((if_neg (ne_true_of_eq_false h1)).trans (if_pos hf)).symm k)
  · exact call_meets F.slot_str_split (typeIs_str _ _ _) F.entry_str_split (F.args_str_split_2 _ _) (meets_str_split_cannot_occur x y t u h1)
      (push_list (l := [(x, t)]) (tk := s.toks) hl (if_pos h1).symm k)
theorem b_join {x : Str} {xs : List Str} (hok : JoinOk x xs = true) : Does g n (fun vs => call (.builtin "str.join") vs) [.dat (.str x), .dat (.list (xs.map .str))] (isD (.str (Txt.join x xs))) := fun A X s vs E Q Bd hT ht hX hl hv k => by
  obtain ⟨v, w, rfl, h1, h2⟩ := hv.i2
  obtain ⟨t, rfl⟩ := Rep.inv_str h1
  obtain ⟨a, us, m, rfl, ha, ho, hr⟩ := Rep.inv_list h2
  obtain ⟨l, rfl, hl'⟩ := repS_to hr
  exact SC.join ⟨_, ho, rfl, _, rfl⟩ hl' hok fun t' tk => k _ _ Up.tok (.str _ _)
end
section
variable {g : Gl} {n : Nat} {sc : Scope} {ρ ρ' : List (Str × Lv)} {x : Str} {pos apos : Pos} {d d₁ d₂ : PyData} {o i e : Expr} {ds : List PyData} {lv : Lv} {P : List Addr → Heap → Value → Prop}
theorem ev_methS {name : Str} {id : String} {rest : List Expr} {ls : List Lv} {y : Str} {pl : Env → Sem Bool} (slot : Slot "str" name id) (ty : typeOf (.builtin id) = pure (.type "method_descriptor"))
    (ho : EvD g n sc ρ o (.str y)) (F : Does g n (fun vs => call (.builtin id) vs) (.dat (.str y) :: ls) P) (ha : EvAll g n sc ρ (e :: rest) ls)
    (he : ∀ env, starEach (e :: rest) env = (false, eval e env) :: starEach rest env) (hp : ∀ env, (backTo pos (starEach rest env)).any (·.1) = false)
    (hc : ∀ env, eval (.Call (.Attribute o name apos) (e :: rest) [] pos) env = (do
      let ov ← eval o env
      standAt apos.atName
      let (f, first) ← holding [ov] (getMethod ov name (pl env))
      callWith pos f first (backTo pos (starEach (e :: rest) env)) [])) : Ev g n sc ρ (.Call (.Attribute o name apos) (e :: rest) [] pos) P := fun A env X s E Q ok k =>
  MethodCall_ (ho A env X s E _ ok fun v s₁ u₁ r₁ => by
    obtain ⟨t, rfl⟩ := Rep.inv_str r₁
    refine getMethod_builtin (typeIs_str _ _ _) PySem.F.plainAttrs_str slot ty (fun a e => nomatch e) ?_
    refine callWith_method1 (ha pos A env X s₁ E _ (ok.up u₁) fun vs s₂ u₂ r₂ => ?_) (he env) (hp env)
    exact F A X s₂ _ E Q ok.bd ((ok.up u₁).up u₂).cx.top ((ok.up u₁).up u₂).cx.tab ok.cx.tabX ((ok.up u₁).up u₂).cx.live (.cons (.str y t) r₂) fun v s₃ u₃ r₃ => k v s₃ ((u₁.trans u₂).trans u₃) r₃) (hc env)
theorem ev_methL {name : Str} {id : String} {rest : List Expr} {ls : List Lv} {ys : List PyData} {pl : Env → Sem Bool} (slot : Slot "list" name id) (ty : typeOf (.builtin id) = pure (.type "method_descriptor"))
    (ho : EvD g n sc ρ o (.list ys)) (F : Does g n (fun vs => call (.builtin id) vs) (.dat (.list ys) :: ls) P) (ha : EvAll g n sc ρ (e :: rest) ls)
    (he : ∀ env, starEach (e :: rest) env = (false, eval e env) :: starEach rest env) (hp : ∀ env, (backTo pos (starEach rest env)).any (·.1) = false)
    (hc : ∀ env, eval (.Call (.Attribute o name apos) (e :: rest) [] pos) env = (do
      let ov ← eval o env
      standAt apos.atName
      let (f, first) ← holding [ov] (getMethod ov name (pl env))
      callWith pos f first (backTo pos (starEach (e :: rest) env)) [])) : Ev g n sc ρ (.Call (.Attribute o name apos) (e :: rest) [] pos) P := fun A env X s E Q ok k =>
  MethodCall_ (ho A env X s E _ ok fun v s₁ u₁ r₁ => by
    obtain ⟨a, us, m, rfl, hna, hoa, hr⟩ := Rep.inv_list r₁
    refine getMethod_builtin (T := "list") ⟨_, hoa, rfl⟩ PySem.F.plainAttrs_list slot ty (fun b e => by cases e; exact ⟨_, hoa, rfl⟩) ?_
    refine callWith_method1 (ha pos A env X s₁ E _ (ok.up u₁) fun vs s₂ u₂ r₂ => ?_) (he env) (hp env)
    exact F A X s₂ _ E Q ok.bd ((ok.up u₁).up u₂).cx.top ((ok.up u₁).up u₂).cx.tab ok.cx.tabX ((ok.up u₁).up u₂).cx.live (.cons ((ok.up u₁).rep u₂ r₁) r₂) fun v s₃ u₃ r₃ => k v s₃ ((u₁.trans u₂).trans u₃) r₃) (hc env)
theorem repAll_mem {X : List Addr} {h : Heap} {vs : List Value} {ds : List PyData} (r : RepAll X h vs ds) {v : Value} (hv : v ∈ vs) : ∃ d, d ∈ ds ∧ Rep X h v d := by
  obtain ⟨i, e⟩ := List.getElem?_of_mem hv
  obtain ⟨d, e', r'⟩ := r.get' e
  exact ⟨d, List.mem_of_getElem? e', r'⟩
theorem b_indexI {is : List Int} {i : Int} {j : Nat} (hj : is[j]? = some i) (hno : ∀ m, m < j → is[m]? ≠ some i) (hz : is.length ≤ 1000000) :
    Does g n (fun vs => call (.builtin "list.index") vs) [.dat (.list (is.map .int)), .dat (.int i)] (isD (.int j)) := fun A X s vs E Q B hT ht hX hl hv k => by
  obtain ⟨v, w, rfl, h1, h2⟩ := hv.i2
  obtain ⟨a, us, m, rfl, ha, ho, hr⟩ := Rep.inv_list h1
  obtain ⟨t, rfl⟩ := Rep.inv_int h2
  have hlen := hr.length
  rw [List.length_map] at hlen
  have hjl := (List.getElem?_eq_some_iff.mp hj).1
  have item : ∀ (m : Nat) (hm : m < us.toArray.size), ∃ t, us.toArray[m] = .int (is[m]'(by simp at hm; omega)) t := fun m hm => by
    obtain ⟨v, hv', r⟩ := hr.get (k := m) (d := .int (is[m]'(by simp at hm; omega))) (by simp at hm ⊢)
    obtain ⟨t, rfl⟩ := Rep.inv_int r
    exact ⟨t, by simp at hm; have := List.getElem?_eq_some_iff.mp hv'; simpa using this.2⟩
  refine call_meets PySem.F.slot_list_index (T := "list") ⟨_, ho, rfl⟩ PySem.F.entry_list_index (PySem.F.args_list_index_2 _ _)
    (PySem.SeqAt.list_indexAt a us.toArray m none #[] (.int i t) (fun y => match y with | .int b _ => b == i | _ => false) j (by simp; omega) (by omega) ?_ ?_) ⟨ho, fun y hy => ?_, k _ _ Up.tok (.int _ _)⟩
  · obtain ⟨t', e⟩ := item j (by simp; omega)
    rw [e]
    have := (List.getElem?_eq_some_iff.mp hj).2
    simp [this]
  · intro p hp hpj
    obtain ⟨t', e⟩ := item p hp
    rw [e]
    have h := hno p hpj
    have hpl : p < is.length := by omega
    rw [List.getElem?_eq_getElem hpl] at h
    simpa using fun q => h (by rw [q])
  · obtain ⟨d, hd, r⟩ := repAll_mem hr (by simpa using hy)
    obtain ⟨b, _, rfl⟩ := List.mem_map.mp hd
    obtain ⟨t', rfl⟩ := Rep.inv_int r
    exact SeqAt.EqAt.int_int b t' i t
theorem b_indexS {is : List Str} {i : Str} {j : Nat} (hj : is[j]? = some i) (hno : ∀ m, m < j → is[m]? ≠ some i) (hz : is.length ≤ 1000000) :
    Does g n (fun vs => call (.builtin "list.index") vs) [.dat (.list (is.map .str)), .dat (.str i)] (isD (.int j)) := fun A X s vs E Q B hT ht hX hl hv k => by
  obtain ⟨v, w, rfl, h1, h2⟩ := hv.i2
  obtain ⟨a, us, m, rfl, ha, ho, hr⟩ := Rep.inv_list h1
  obtain ⟨t, rfl⟩ := Rep.inv_str h2
  have hlen := hr.length
  rw [List.length_map] at hlen
  have hjl := (List.getElem?_eq_some_iff.mp hj).1
  have item : ∀ (m : Nat) (hm : m < us.toArray.size), ∃ t, us.toArray[m] = .str (is[m]'(by simp at hm; omega)) t := fun m hm => by
    obtain ⟨v, hv', r⟩ := hr.get (k := m) (d := .str (is[m]'(by simp at hm; omega))) (by simp at hm ⊢)
    obtain ⟨t, rfl⟩ := Rep.inv_str r
    exact ⟨t, by simp at hm; have := List.getElem?_eq_some_iff.mp hv'; simpa using this.2⟩
  refine call_meets PySem.F.slot_list_index (T := "list") ⟨_, ho, rfl⟩ PySem.F.entry_list_index (PySem.F.args_list_index_2 _ _)
    (PySem.SeqAt.list_indexAt a us.toArray m none #[] (.str i t) (fun y => match y with | .str b _ => b == i | _ => false) j (by simp; omega) (by omega) ?_ ?_) ⟨ho, fun y hy => ?_, k _ _ Up.tok (.int _ _)⟩
  · obtain ⟨t', e⟩ := item j (by simp; omega)
    rw [e]
    have := (List.getElem?_eq_some_iff.mp hj).2
    simp [this]
  · intro p hp hpj
    obtain ⟨t', e⟩ := item p hp
    rw [e]
    have h := hno p hpj
    have hpl : p < is.length := by omega
    rw [List.getElem?_eq_getElem hpl] at h
    simpa using fun q => h (by rw [q])
  · obtain ⟨d, hd, r⟩ := repAll_mem hr (by simpa using hy)
    obtain ⟨b, _, rfl⟩ := List.mem_map.mp hd
    obtain ⟨t', rfl⟩ := Rep.inv_str r
    exact SeqAt.EqAt.str_str b t' i t
theorem ev_idxStr {y : Str} {k : Int} {c : Nat} (ho : EvD g n sc ρ o (.str y)) (hi : EvD g n sc ρ i (.int k)) (h0 : 0 ≤ k) (h1 : k < 2 ^ 63) (hd : y.cps[k.toNat]? = some c)
    (hs : ∀ x t k u, subscripted i false (.str x t) (.int k u) = operate [.str x t, .int k u] (getItem (.str x t) (.int k u))) : EvD g n sc ρ (.Subscript o i pos) (.str ⟨#[c]⟩) := fun A env X s E Q ok kk =>
  Subscript_ (ho A env X s E _ ok fun a s₁ u₁ r₁ => hi A env X s₁ E _ (ok.up u₁) fun b s₂ u₂ r₂ => by
    obtain ⟨t, rfl⟩ := Rep.inv_str r₁
    obtain ⟨t', rfl⟩ := Rep.inv_int r₂
    have hlt : k.toNat < y.length := by have := (Array.getElem?_eq_some_iff.mp hd).1; exact this
    refine tail_any (T := "str") (typeIs_str _ _ _) PySem.F.slot_str_getitem.lookup (getItem_gives (typeIs_str _ _ _) (by decide) PySem.F.slot_str_getitem PySem.F.entry_str_getitem (PySem.F.args_str_getitem_2 _ _) (gives_str_getitem y k t t' c ?_ ?_) ?_) (hs _ _ _ _)
    · simp; omega
    · have e : seqIndex? k y.length = some k.toNat := by
        have hn : ¬ k < 0 := by omega
        simp only [seqIndex?, if_neg hn]
        exact if_pos (by simp; omega)
      rw [e]; exact hd
    · exact (MadeIs.str _ (by simp [Str.length, sizeLine_eq])).post fun v s' u r => kk v s' ((u₁.trans u₂).trans u) r)
theorem ev_sliceStr {lo hi : Option Expr} {p : Pos} {kl ku : Option Int} {y z : Str} (ho : EvD g n sc ρ o (.str y)) (h1 : Part g n sc ρ lo kl) (h2 : Part g n sc ρ hi ku) (hm : ∀ t t₁ t₂, MadeIs (sliceMade y t (kl.map fun i => (i, t₁)) (ku.map fun i => (i, t₂)) none) (.str z))
    (ht : ∀ o' r, letTemporaryGo o o' r = pure ()) : EvD g n sc ρ (.Subscript o (.Slice lo hi none p) pos) (.str z) := fun A env X s E Q ok kk =>
  wpAny_Subscript_str_slice (ho A env X s E _ ok fun a s₁ u₁ r₁ => h1 A env X s₁ E _ (ok.up u₁) fun v₁ s₂ u₂ p₁ => h2 A env X s₂ E _ ((ok.up u₁).up u₂) fun v₂ s₃ u₃ p₂ => by
    obtain ⟨t, rfl⟩ := Rep.inv_str r₁
    obtain ⟨t₁, rfl⟩ := p₁
    obtain ⟨t₂, rfl⟩ := p₂
    exact ⟨y, t, _, _, rfl, rfl, rfl, (hm t t₁ t₂).post fun v s' u r => kk v s' (((u₁.trans u₂).trans u₃).trans (Up.push'.trans u)) r⟩) ht
end
end Mine
end

noncomputable section
namespace Mine
section
variable {g : Gl} {n : Nat} {A : Around} {E : Value → Shared → Prop} {s : Shared} {X : List Addr}
theorem b_int {x : Str} {i : Int} (hn : PySem.intText? x = some i) (hl : x.length ≤ 640) : Does g n (fun vs => call (.type "int") vs) [.dat (.str x)] (isD (.int i)) := fun A X s vs E Q B hT ht hX hl' hv k => by
  obtain ⟨v, rfl, h1⟩ := hv.i1
  obtain ⟨t, rfl⟩ := Rep.inv_str h1
  exact PySem.W.KIN.call_text hn hl (k _ _ Up.tok (.int _ _))
theorem repI_to {h : Heap} : ∀ {vs : List Value} {xs : List Int}, RepAll X h vs (xs.map .int) → ∃ l : List (Int × Tok), vs.toArray = intItems l.toArray ∧ l.map (·.1) = xs
  | _, [], .nil => ⟨[], by simp [intItems], rfl⟩
  | _, x :: xs, .cons h1 h2 => by
    obtain ⟨t, rfl⟩ := Rep.inv_int h1
    obtain ⟨l, hl, hx⟩ := repI_to h2
    refine ⟨(x, t) :: l, ?_, by rw [List.map_cons, hx]⟩
    have := congrArg Array.toList hl
    apply Array.toList_inj.mp
    simp only [intItems] at this ⊢
    simp at this ⊢
    exact this
theorem b_sum {is : List Int} : Does g n (fun vs => call (.builtin "sum") vs) [.dat (.list (is.map .int))] (fun X h v => ∃ i : Int, Rep X h v (.int i)) := fun A X s vs E Q B hT ht hX hl hv k => by
  obtain ⟨v, rfl, h1⟩ := hv.i1
  obtain ⟨a, us, m, rfl, ha, ho, hr⟩ := Rep.inv_list h1
  obtain ⟨l, e, _⟩ := repI_to hr
  refine sum_intListG (xs := l.toArray) B.hd (by rw [← e]; exact ⟨_, ho, rfl, _, rfl⟩) fun h' tk t' hk => k _ _ (Up.heap hk) ⟨_, .int _ t'⟩
theorem iter_call {v : Value} {Q : Value → Shared → Prop} (h : wpAny (model g.prog g.w) A.in1 (pyIter v) Q E s) : wpAny (model g.prog g.w) A (call (.builtin "iter") [v]) Q E s := by
  refine call_function_entry (by decide +kernel) (by decide +kernel) kdk_entry_iter (kdk_args_iter _) ?_
  unfold Builtin.«iter»
  refine wpAny_bind (m := someArgs "iter" 1 2 _) (wpAny_of_eq (a := [v]) (by first | rfl | kernel_rfl!) ?_)
  show wpAny _ _ (pyIter v >>= _) _ _ _
  exact wpAny_bind (wpAny_mono h (fun it s' q => wpAny_pure ⟨_, rfl, q⟩) fun _ _ e => e)
theorem next_call {it l : Addr} {i : Nat} {items : Array Value} {x : Value} {Q : Value → Shared → Prop} (hit : s.heap.IsListIter it l i) (hl : s.heap.IsList l items) (hx : items[i]? = some x)
    (hQ : ∀ h', h'.IsListIter it l (i + 1) → Heap.SameBut it s.heap h' → Q x { s with heap := h' }) : wpAny (model g.prog g.w) A (call (.builtin "next") [.ref it]) Q E s := by
  refine call_function_entry (by decide +kernel) (by decide +kernel) kdk_entry_next (kdk_args_next _) ?_
  unfold Builtin.«next»
  refine wpAny_bind (m := someArgs "next" 1 2 _) (wpAny_of_eq (a := [Value.ref it]) (by first | rfl | kernel_rfl!) ?_)
  dsimp only
  refine wpAny_bind (wpAny_specialOf (name := Str.ofString "__next__") hit.typeIs slot_listiter_next.lookup ?_)
  refine wpAny_ite_split (fun hab => absurd hab (by decide)) (fun _ => ?_)
  obtain ⟨o, ho, hc, hd⟩ := id hit
  obtain ⟨ol, hol, _, nl, hdl⟩ := hl
  refine wpAny_bind (wpAny_callSpecial?_slot (name := Str.ofString "__next__") hit.typeIs slot_listiter_next
    (wpAny_call_entry slot_listiter_next hit.typeIs entry_listiter_next ?_ (args_listiter_next _)))
  show wpAny _ _ (field (.ref it) 0 >>= _) _ _ s
  refine wpAny_bind (wpAny_field ho hd (x := .ref l) rfl ?_)
  show wpAny _ _ (if (Value.ref l == Value.none) = true then _ else _) _ _ s
  rw [if_neg (show ¬ ((Value.ref l == Value.none) = true) from Bool.false_ne_true)]
  show wpAny _ _ (field (.ref it) 1 >>= _) _ _ s
  refine wpAny_bind (wpAny_field ho hd (x := .int i 0) rfl ?_)
  show wpAny _ _ (seqItems? (.ref l) >>= _) _ _ s
  refine wpAny_bind (wpAny_seqItems hol hdl ?_)
  simp only [Int.toNat_natCast, hx]
  refine wpAny_bind (wpAny_setField ho hd (by simp) (wpAny_pure ⟨x, rfl, wpAny_pure ⟨x, rfl, hQ _ ?_ (Heap.SameBut.update ..)⟩⟩))
  exact ⟨_, Heap.get?_update_self _ ho (Obj.isFreed_of_fields (Obj.data_mapFields hd _)), (Obj.cls_mapFields ..).trans hc, by
    rw [Obj.data_mapFields hd]; simp [rawInt]⟩
end
section
variable {g : Gl} {n : Nat} {sc : Scope} {Z : List Addr} {ρ ρ' : List (Str × Lv)} {x y : Str} {pos apos pos' : Pos} {d d₁ d₂ : PyData} {o i e : Expr} {ds : List PyData} {lv : Lv} {P : List Addr → Heap → Value → Prop} {st : Stmt} {rest : List Stmt}
theorem blkZ_of (h : Blk g n sc ρ rest (.ret P)) : BlkZ g n sc Z ρ rest P := fun A env s₀ X₀ X s E Q F k => h A env s₀ Z X₀ X s E Q F k
theorem blkA_cons {A : Around} {env : Env} (h : Stm g n sc ρ st (.next ρ')) (hr : BlkA g n sc A env Z ρ' rest P) : BlkA g n sc A env Z ρ (st :: rest) P := fun s₀ X₀ X s E Q F k =>
  wpAny_execs_cons (h A env s₀ Z X₀ X s E _ F fun X' s' F' => hr s₀ X₀ X' s' E Q F' k)
theorem blkZ_cons (h : Stm g n sc ρ st (.next ρ')) (hr : BlkZ g n sc Z ρ' rest P) : BlkZ g n sc Z ρ (st :: rest) P := fun A env => blkA_cons h (hr A env)
theorem blkZ_sub (h : BlkZ g n sc Z ρ' rest P) (hs : ∀ p ∈ ρ', p ∈ ρ) : BlkZ g n sc Z ρ rest P := fun A env s₀ X₀ X s E Q F k => h A env s₀ X₀ X s E Q (F.sub hs) k
noncomputable def EvNew (g : Gl) (n : Nat) (sc : Scope) (ρ : List (Str × Lv)) (e : Expr) (ds : List PyData) : Prop := ∀ (A : Around) (env : Env) (X : List Addr) (s : Shared) (E : Value → Shared → Prop) (Q : Value → Shared → Prop), Ok g n sc ρ A env X s →
  (∀ a s₁ s', Ex s s₁ → Ex s₁ s' → s₁.heap.get? a = none → (∃ vs n, s'.heap.get? a = some (listO vs n) ∧ RepAll (a :: X) s'.heap vs ds) → Q (.ref a) s') → wpAny (model g.prog g.w) A (eval e env) Q E s
theorem new_list {es : List Expr} (h : EvAll g n sc ρ es (ds.map Lv.dat)) (hz : ds.length ≤ 1000000) : EvNew g n sc ρ (.List es pos) ds := fun A env X s E Q o k =>
  List_ (h pos A env X s E _ o fun vs s₁ u₁ r₁ => wpAny_newObj_type (k _ s₁ _ u₁ Up.push' (get_size _) ⟨vs, 0, Heap.get?_push_size _ rfl, repAll_new r₁.dats⟩) (by show vs.toArray.size ≤ sizeLine; have := r₁.dats.length; rw [List.size_toArray, sizeLine_eq]; omega))
theorem foldl_app {α : Type} : ∀ (l : List (Array α)) (acc : Array α), (l.foldl (fun x1 x2 => x1 ++ x2) acc).toList = acc.toList ++ (l.map Array.toList).flatten
  | [], acc => by simp
  | a :: l, acc => by rw [List.foldl_cons, foldl_app l]; simp
theorem repAll_rep {X : List Addr} {h : Heap} {v : Value} (r : Rep X h v d) : ∀ k : Nat, RepAll X h (List.replicate k v) (List.replicate k d)
  | 0 => .nil
  | k + 1 => .cons r (repAll_rep r k)
theorem mul_call {prog : Program} {w : World} {A : Around} {E : Value → Shared → Prop} {s : Shared} {l : Addr} {items : Array Value} {m : Nat} {x : Int} {u : Tok} {Q : Value → Shared → Prop}
    (hl : s.heap.get? l = some { cls := .type "list", dict := none, data := .seq items m, slots := #[] }) (hlo : -(2 ^ 63 : Int) ≤ x) (hhi : x < 2 ^ 63) (hsz : items.size * x.toNat ≤ 2 ^ 24)
    (h : Q (.ref s.heap.objs.size) { s with heap := s.heap.push { cls := .type "list", data := .seq (List.foldl (fun x1 x2 => x1 ++ x2) #[] (List.replicate (if items.isEmpty = true then 0 else x.toNat) items)) } }) :
    wpAny (model prog w) A (binaryOp .Mult (.ref l) (.int x u)) Q E s :=
  wpAny_binaryOp_repeat_ref (T := "list") (U := "int") (by decide) ⟨_, hl, rfl⟩ (fun s' => typeIs_int s' x u) noFill_list_mul PySem.F.fills_int_mul PySem.F.slot_int_rmul repeat_list PySem.F.slot_int_index.lookup
    (call_meets PySem.F.slot_int_rmul (typeIs_int s x u) PySem.F.entry_int_rmul (PySem.F.args_int_rmul_2 _ _) (int___rmul___int_list x u l items m)
      ⟨hl, rfl, ⟨_, hl, rfl⟩, call_meets PySem.F.slot_list_mul ⟨_, hl, rfl⟩ PySem.F.entry_list_mul (PySem.F.args_list_mul_2 _ _)
        (AutoListH.list___mul___list_int_3 l items m x u (by simp [Builtin.List.listFitsIndex]; omega) (by omega) (by simp [Builtin.List.listTooLong, sizeLine]; omega)) ⟨hl, h⟩⟩)
theorem new_mul {k : Nat} (h₁ : EvD g n sc ρ o (.list [d])) (h₂ : EvD g n sc ρ e (.int k)) (hz : k ≤ 1000000) : EvNew g n sc ρ (.BinOp o .Mult e pos) (List.replicate k d) := fun A env X s E Q ok kk =>
  wpAny_BinOp (h₁ A env X s E _ ok fun a s₁ u₁ r₁ => h₂ A env X s₁ E _ (ok.up u₁) fun b s₂ u₂ r₂ => by
    obtain ⟨l, vs, m, rfl, ha, hl, hr⟩ := Rep.inv_list ((ok.up u₁).rep u₂ r₁)
    obtain ⟨t, rfl⟩ := Rep.inv_int r₂
    obtain ⟨v, r, rfl, rv, hr'⟩ : ∃ v r, vs = v :: r ∧ Rep X s₂.heap v d ∧ RepAll X s₂.heap r [] := by cases hr; exact ⟨_, _, rfl, ‹_›, ‹_›⟩
    have : r = [] := by cases hr'; rfl
    subst this
    refine mul_call hl (by omega) (by omega) (by rw [List.size_toArray, List.length_singleton, Int.toNat_natCast]; omega) ?_
    refine kk _ s₂ _ (u₁.trans u₂) Up.push' (get_size _) ⟨List.replicate k v, 0, ?_, repAll_new (repAll_rep rv k)⟩
    rw [show (List.foldl (fun x1 x2 => x1 ++ x2) #[] (List.replicate (if [v].toArray.isEmpty = true then 0 else (k : Int).toNat) [v].toArray)) = (List.replicate k v).toArray from ?_]
    · exact Heap.get?_push_size _ rfl
    · apply Array.toList_inj.mp
      rw [foldl_app]
      simp)
theorem blkA_new {A : Around} {env : Env} (h : EvNew g n sc ρ e ds) (hr : ∀ a, BlkA g n sc A env Z ((x, .mut a ds) :: ρ') rest P) (hk : sc.names.lookup x = some .local ∨ sc.names.lookup x = some .cell) (hx : (ρ'.all fun p => p.1 != x) = true) (hs : ∀ p ∈ ρ', p ∈ ρ)
    (hw : ∀ env, swapsWith e (some (.Name x pos')) pos.line env = pure false) : BlkA g n sc A env Z ρ (.Assign [.Name x pos'] e pos :: rest) P := fun s₀ X₀ X s E Q F k =>
  wpAny_execs_cons (wpAny_Assign_Name (h A env X s E _ F.ok fun a s₁ s' u₁ u₂ ha ⟨vs, m, ho, hr'⟩ => by
    have F₁ := F.up u₁
    refine ((F₁.grow u₂ ha ho).sub hs).store (l := .mut a ds) (no_name hx) hk ⟨rfl, .head _, vs, m, ho, hr'⟩ (fun b hb => ?_) fun s₂ F₂ => hr a s₀ X₀ _ s₂ E Q F₂ k
    cases hb; exact .inr (F₁.stay ha)) (hw env))
theorem blkZ_new (h : EvNew g n sc ρ e ds) (hr : ∀ a, BlkZ g n sc Z ((x, .mut a ds) :: ρ') rest P) (hk : sc.names.lookup x = some .local ∨ sc.names.lookup x = some .cell) (hx : (ρ'.all fun p => p.1 != x) = true) (hs : ∀ p ∈ ρ', p ∈ ρ)
    (hw : ∀ env, swapsWith e (some (.Name x pos')) pos.line env = pure false) : BlkZ g n sc Z ρ (.Assign [.Name x pos'] e pos :: rest) P := fun A env => blkA_new h (fun a => hr a A env) hk hx hs hw
theorem Fx.turned {A : Around} {env : Env} {s₀ s : Shared} {X₀ X : List Addr} {a : Addr} {oa : Obj} {h' : Heap} {tk : Nat} {l l' : Lv} (F : Fx g n sc ρ A env s₀ Z X₀ X s) (hm : (x, l) ∈ ρ) (hl : l.own = some a) (ho : s.heap.get? a = some oa) (hd : Dull oa)
    (hs : Heap.ExtBut a s.heap h') (ha' : ∃ o, h'.get? a = some o) (hv : ∀ v, l.is X s.heap v → l'.is X h' v) (hl' : l'.own = some a) (hs' : ∀ p ∈ ρ', p ∈ ρ ∧ p.2.own ≠ some a) :
    Fx g n sc ((x, l') :: ρ') A env s₀ Z X₀ X { s with heap := h', toks := tk } := by
  obtain ⟨v, hvv, r⟩ := F.ok.cx.vars _ hm
  have hx := r.inX a hl
  obtain ⟨mL, hnL⟩ := F.ok.cx.ns
  have hL : a ≠ env.locals := r.ne_ns hl hnL
  have hC : ∀ y c, env.cells.lookup y = some c → a ≠ c := fun y c e => by obtain ⟨w, hw⟩ := F.ok.cx.cel y c e; exact r.ne_cell hl hw
  refine F.but hx (F.oV _ hm a hl) ho hd hs ha' ⟨mL, Heap.Ns.to hnL fun o e => hs _ o (Ne.symm hL) e⟩ (fun y c e => ?_) (fun p hp => ?_) (fun p hp => ?_)
  · obtain ⟨w, hw⟩ := F.ok.cx.cel y c e; exact ⟨w, Heap.IsCell.to hw fun o q => hs _ o (Ne.symm (hC y c e)) q⟩
  · rcases List.mem_cons.mp hp with rfl | hp
    · exact ⟨v, hvv.to hs hL hC, hv v r⟩
    · obtain ⟨u, hu, ru⟩ := F.ok.cx.vars p (hs' p hp).1
      exact ⟨u, hu.to hs hL hC, ru.to (fun b o hb e => ⟨hb, hs b o (fun q => hb (q ▸ hx)) e⟩) fun b hb hbx => ⟨hbx, fun o e => hs b o (fun q => (hs' p hp).2 (q ▸ hb)) e⟩⟩
  · rcases List.mem_cons.mp hp with rfl | hp
    · intro b hb; rw [hl'] at hb; cases hb; exact F.oV _ hm a hl
    · exact F.oV p (hs' p hp).1
end
end Mine
end

noncomputable section
namespace Mine
theorem upd_list {h : Heap} {a : Addr} {vs us : List Value} {m : Nat} {f : Array Value → Array Value} (ho : h.get? a = some (listO vs m)) (hf : f vs.toArray = us.toArray) : ∃ m', (h.update a (Obj.mapSeq f)).get? a = some (listO us m') := by
  have e := Heap.get?_update_self (Obj.mapSeq f) ho rfl
  have e2 : Obj.mapSeq f (listO vs m) = listO us (if (f vs.toArray).size == vs.toArray.size then m else m + 1) := by
    show ({ cls := _, dict := _, data := .seq (f vs.toArray) _, slots := _ } : Obj) = _
    rw [hf]
  exact ⟨_, by rw [e, e2]⟩
section
variable {g : Gl} {n : Nat} {sc : Scope} {Z : List Addr} {ρ ρ' : List (Str × Lv)} {x y : Str} {pos apos pos' spos px : Pos} {d d₁ d₂ : PyData} {o i e : Expr} {ds es : List PyData} {lv : Lv} {P : List Addr → Heap → Value → Prop} {st : Stmt} {rest : List Stmt} {a : Addr}
theorem Fx.mutate {A : Around} {env : Env} {s₀ s : Shared} {X₀ X : List Addr} {vs us : List Value} {m : Nat} {f : Array Value → Array Value} {tk : Nat} (F : Fx g n sc ρ A env s₀ Z X₀ X s) (hm : (x, .mut a ds) ∈ ρ) (ho : s.heap.get? a = some (listO vs m)) (hf : f vs.toArray = us.toArray)
    (hr : RepAll X s.heap us es) (hs' : ∀ p ∈ ρ', p ∈ ρ ∧ p.2.own ≠ some a) : Fx g n sc ((x, .mut a es) :: ρ') A env s₀ Z X₀ X { s with heap := s.heap.update a (Obj.mapSeq f), toks := tk } := by
  obtain ⟨m', e⟩ := upd_list ho hf
  have hs : Heap.ExtBut a s.heap (s.heap.update a (Obj.mapSeq f)) := (Heap.SameBut.update ..).extBut
  refine F.turned hm rfl ho Dull.seq hs ⟨_, e⟩ (fun v r => ?_) rfl hs'
  obtain ⟨rfl, ha, _⟩ := r
  exact ⟨rfl, ha, us, m', e, hr.to fun b ob hb q => ⟨hb, hs b ob (fun z => hb (z ▸ ha)) q⟩⟩
theorem Ok.mut {A : Around} {env : Env} {s : Shared} {X : List Addr} (F : Ok g n sc ρ A env X s) (hm : (x, .mut a ds) ∈ ρ) : Var env s.heap x (.ref a) ∧ a ∈ X ∧ ∃ vs m, s.heap.get? a = some (listO vs m) ∧ RepAll X s.heap vs ds := by
  obtain ⟨v, hv, rfl, ha, r⟩ := F.cx.vars _ hm
  exact ⟨hv, ha, r⟩
theorem meth_list {A : Around} {env : Env} {s : Shared} {X : List Addr} {E : Value → Shared → Prop} {Q : Value → Shared → Prop} {name : Str} {id : String} {np : Pos} (F : Ok g n sc ρ A env X s) (hm : (x, .mut a ds) ∈ ρ) (hd : (x == ("__debug__" : Str)) = false) (hn : (x == ("__classdict__" : Str)) = false)
    (slot : Slot "list" name id) (ty : typeOf (.builtin id) = pure (.type "method_descriptor")) {pl : Sem Bool}
    (hc : eval (.Call (.Attribute (.Name x np) name apos) [e] [] pos) env = (do
      let ov ← eval (.Name x np) env
      standAt apos.atName
      let (f, first) ← holding [ov] (getMethod ov name pl)
      callWith pos f first (backTo pos (starEach [e] env)) [])) (he : starEach [e] env = (false, eval e env) :: starEach [] env)
    (h : wpAny (model g.prog g.w) A (eval e env) (fun v s₁ => wpAny (model g.prog g.w) A (call (.builtin id) [.ref a, v]) Q E s₁) E s) :
    wpAny (model g.prog g.w) A (eval (.Call (.Attribute (.Name x np) name apos) [e] [] pos) env) Q E s := by
  obtain ⟨hv, ha, vs, m, ho, hr⟩ := F.mut hm
  refine MethodCall_ (load_var F.cx.fn hv ?_ hd hn) hc
  refine getMethod_builtin (T := "list") ⟨_, ho, rfl⟩ PySem.F.plainAttrs_list slot ty (fun b q => by cases q; exact ⟨_, ho, rfl⟩) ?_
  refine callWith_method1 (spliced_more (wpAny_mono h (fun v s₁ q => Calls.spliced_nil q) fun _ _ e => e) he) he rfl
theorem stm_append {np : Pos} (hm : (x, .mut a ds) ∈ ρ) (h : EvD g n sc ρ e d) (hs' : ∀ p ∈ ρ', p ∈ ρ ∧ p.2.own ≠ some a) (hz : ds.length ≤ 1000000) (hd : (x == ("__debug__" : Str)) = false) (hn : (x == ("__classdict__" : Str)) = false) {pl : Env → Sem Bool}
    (hc : ∀ env, eval (.Call (.Attribute (.Name x np) "append" apos) [e] [] pos) env = (do
      let ov ← eval (.Name x np) env
      standAt apos.atName
      let (f, first) ← holding [ov] (getMethod ov "append" (pl env))
      callWith pos f first (backTo pos (starEach [e] env)) [])) (he : ∀ env, starEach [e] env = (false, eval e env) :: starEach [] env) :
    Stm g n sc ρ (.Expr (.Call (.Attribute (.Name x np) "append" apos) [e] [] pos) spos) (.next ((x, .mut a (ds ++ [d])) :: ρ')) := fun A env s₀ Z X₀ X s E Q F k => by
  refine wpAny_Expr (meth_list F.ok hm hd hn slot_list_append PySem.F.type_list_append (hc env) (he env) (h A env X s E _ F.ok fun v s₁ u r => ?_)) (by unfold interactive; rw [F.ok.cx.fn]; rfl) rfl
  have F₁ := F.up u
  obtain ⟨_, ha, vs, m, ho, hr⟩ := F₁.ok.mut hm
  have hl := hr.length
  refine call_meets PySem.F.slot_list_append ⟨_, ho, rfl⟩ PySem.F.entry_list_append (PySem.F.args_list_append_2 _ _) (list_append a vs.toArray m v (by rw [List.size_toArray, sizeLine_eq]; omega)) ⟨ho, ?_⟩
  exact k X _ (F₁.mutate hm ho (us := vs ++ [v]) (by simp) (RepAll.append (.one r) hr) hs')
theorem stm_extend {np : Pos} (hm : (x, .mut a ds) ∈ ρ) (h : EvD g n sc ρ e (.list es)) (hs' : ∀ p ∈ ρ', p ∈ ρ ∧ p.2.own ≠ some a) (hz : ds.length + es.length ≤ 1000000) (hd : (x == ("__debug__" : Str)) = false) (hn : (x == ("__classdict__" : Str)) = false) {pl : Env → Sem Bool}
    (hc : ∀ env, eval (.Call (.Attribute (.Name x np) "extend" apos) [e] [] pos) env = (do
      let ov ← eval (.Name x np) env
      standAt apos.atName
      let (f, first) ← holding [ov] (getMethod ov "extend" (pl env))
      callWith pos f first (backTo pos (starEach [e] env)) [])) (he : ∀ env, starEach [e] env = (false, eval e env) :: starEach [] env) :
    Stm g n sc ρ (.Expr (.Call (.Attribute (.Name x np) "extend" apos) [e] [] pos) spos) (.next ((x, .mut a (ds ++ es)) :: ρ')) := fun A env s₀ Z X₀ X s E Q F k => by
  refine wpAny_Expr (meth_list F.ok hm hd hn PySem.F.slot_list_extend PySem.F.type_list_extend (hc env) (he env) (h A env X s E _ F.ok fun v s₁ u r => ?_)) (by unfold interactive; rw [F.ok.cx.fn]; rfl) rfl
  have F₁ := F.up u
  obtain ⟨_, ha, vs, m, ho, hr⟩ := F₁.ok.mut hm
  obtain ⟨b, us, m₂, rfl, hb, hob, hrb⟩ := Rep.inv_list r
  have hl := hr.length
  have hl' := hrb.length
  have hsz : vs.toArray.size + us.toArray.size ≤ sizeLine := by rw [List.size_toArray, List.size_toArray, sizeLine_eq]; omega
  refine call_meets PySem.F.slot_list_extend ⟨_, ho, rfl⟩ PySem.F.entry_list_extend (PySem.F.args_list_extend_2 _ _) (AutoSeq1.list_extend_list_list_0 a vs.toArray m b us.toArray m₂ (extend_door hsz) (by omega) (by omega)) ⟨ho, hob, ?_⟩
  exact k X _ (F₁.mutate hm ho (us := vs ++ us) (by simp) (RepAll.append hrb hr) hs')
theorem evZ_pop {np : Pos} {j : Nat} (hm : (x, .mut a ds) ∈ ρ) (h : EvD g n sc ρ e (.int j)) (hj : ds[j]? = some d) (hs' : ∀ p ∈ ρ', p ∈ ρ ∧ p.2.own ≠ some a) (hz : ds.length ≤ 1000000) (hd : (x == ("__debug__" : Str)) = false) (hn : (x == ("__classdict__" : Str)) = false) {pl : Env → Sem Bool}
    (hc : ∀ env, eval (.Call (.Attribute (.Name x np) "pop" apos) [e] [] pos) env = (do
      let ov ← eval (.Name x np) env
      standAt apos.atName
      let (f, first) ← holding [ov] (getMethod ov "pop" (pl env))
      callWith pos f first (backTo pos (starEach [e] env)) [])) (he : ∀ env, starEach [e] env = (false, eval e env) :: starEach [] env) :
    EvZ g n sc ρ (.Call (.Attribute (.Name x np) "pop" apos) [e] [] pos) [PT, a] ((x, .mut a (ds.eraseIdx j)) :: ρ') (fun X h v => Rep X h v d) := fun A env X s E Q ok k => by
  refine meth_list ok hm hd hn PySem.F.slot_list_pop PySem.F.type_list_pop (hc env) (he env) (h A env X s E _ ok fun v s₁ u r => ?_)
  have ok₁ := ok.up u
  obtain ⟨hv, ha, vs, m, ho, hr⟩ := ok₁.mut hm
  obtain ⟨t, rfl⟩ := Rep.inv_int r
  have hl := hr.length
  obtain ⟨v, hv', rv⟩ := hr.get hj
  have hjl := (List.getElem?_eq_some_iff.mp hj).1
  have hk : seqIndex? (j : Int) vs.toArray.size = some j := by
    have hn' : ¬ (j : Int) < 0 := by omega
    simp only [seqIndex?, if_neg hn']
    exact if_pos (by simp; omega)
  have hfit : Builtin.List.listFitsIndex (j : Int) = true := by
    unfold Builtin.List.listFitsIndex
    rw [Bool.and_eq_true, decide_eq_true_eq, decide_eq_true_eq]
    omega
  have hy : vs.toArray[j]? = some v := by simpa using hv'
  have hsz : vs.toArray.size ≤ sizeLine := by rw [List.size_toArray, sizeLine_eq]; omega
  generalize (j : Int) = z at hfit hk
  refine call_meets PySem.F.slot_list_pop ⟨_, ho, rfl⟩ PySem.F.entry_list_pop (PySem.F.args_list_pop_2 _ _) (MeetsSeq.list_pop_at a vs.toArray m z t j v hfit hk hy hsz) ⟨ho, ?_⟩
  have hf : vs.toArray.eraseIdxIfInBounds j = (vs.eraseIdx j).toArray := by
    apply Array.toList_inj.mp
    unfold Array.eraseIdxIfInBounds
    have hjv : j < vs.toArray.size := by simp; omega
    rw [dif_pos hjv]
    simp
  obtain ⟨m', eo⟩ := upd_list (f := fun xs => xs.eraseIdxIfInBounds j) ho hf
  have hs : Heap.ExtBut a s₁.heap (s₁.heap.update a (Obj.mapSeq fun xs => xs.eraseIdxIfInBounds j)) := (Heap.SameBut.update ..).extBut
  have kp : ∀ b ob, b ∉ X → s₁.heap.get? b = some ob → b ∉ X ∧ (s₁.heap.update a (Obj.mapSeq fun xs => xs.eraseIdxIfInBounds j)).get? b = some ob := fun b ob hb q => ⟨hb, hs b ob (fun z => hb (z ▸ ha)) q⟩
  have hL : a ≠ env.locals := by obtain ⟨mL, hnL⟩ := ok₁.cx.ns; exact Lv.is.ne_ns (l := .mut a ds) (v := .ref a) ⟨rfl, ha, vs, m, ho, hr⟩ rfl hnL
  have hC : ∀ y c, env.cells.lookup y = some c → a ≠ c := fun y c q => by obtain ⟨w, hw⟩ := ok₁.cx.cel y c q; exact Lv.is.ne_cell (l := .mut a ds) (v := .ref a) ⟨rfl, ha, vs, m, ho, hr⟩ rfl hw
  refine k v _ ?_ ⟨ok₁.bd, ok₁.sc, ok₁.cx.but (tk := s₁.toks) ha ho Dull.seq hs ⟨_, eo⟩ (let ⟨mL, h⟩ := ok₁.cx.ns; ⟨mL, Heap.Ns.to h fun b q => hs _ b (Ne.symm hL) q⟩) (fun y c q => let ⟨w, hw⟩ := ok₁.cx.cel y c q; ⟨w, Heap.IsCell.to hw fun b z => hs _ b (Ne.symm (hC y c q)) z⟩) fun p hp => ?_⟩ (rv.to kp)
  · exact (u.mono fun z hz => by rw [List.mem_singleton.mp hz]; exact .head _).from (Up.but1 hs ho Dull.seq) fun b hb => .inl (by rw [List.mem_singleton.mp hb]; exact .tail _ (.head _))
  · rcases List.mem_cons.mp hp with rfl | hp
    · exact ⟨.ref a, hv.to hs hL hC, rfl, ha, _, _, eo, (hr.eraseIdx j).to kp⟩
    · obtain ⟨u, hu, ru⟩ := ok₁.cx.vars p (hs' p hp).1
      exact ⟨u, hu.to hs hL hC, ru.to kp fun b hb hbx => ⟨hbx, fun ob q => hs b ob (fun z => (hs' p hp).2 (z ▸ hb)) q⟩⟩
theorem set_call {prog : Program} {w : World} {A : Around} {E : Value → Shared → Prop} {s : Shared} {items : Array Value} {m : Nat} {k : Int} {t : Tok} {v : Value} {Q : Unit → Shared → Prop} (ho : s.heap.get? a = some { cls := .type "list", data := .seq items m }) (h0 : 0 ≤ k) (hj : k.toNat < items.size) (hz : items.size ≤ 1000000)
    (h : Q () { s with heap := s.heap.update a (Obj.mapSeq (·.setIfInBounds k.toNat v)) }) : wpAny (model prog w) A (setItem (.ref a) (.int k t) v) Q E s := by
  have hT : s.TypeIs (.ref a) "list" := ⟨_, ho, rfl⟩
  unfold setItem
  try with_reducible refine wpAny_holding ?_
  first | refine wpAny_bind (wpAny_pure ?_) | skip
  refine wpAny_bind (wpAny_sequenceKey hT (by decide) ?_)
  refine wpAny_bind (wpAny_callSpecial?_slot (name := Str.ofString "__setitem__") hT slot_list_setitem
    (wpAny_call_entry slot_list_setitem hT entry_list_setitem ?_ (args_list_setitem _ _ _)))
  show wpAny _ _ (Builtin.List.listSubscript? (.int k t) >>= _) _ _ s
  refine wpAny_bind (wpAny_listSubscript_int (fitsIndex_of h0 (by omega)) ?_)
  obtain ⟨j, rfl⟩ := Int.eq_ofNat_of_zero_le h0
  have hj' : j < items.size := hj
  have hx' : items[j]? = some items[j] := Array.getElem?_eq_getElem hj'
  show wpAny _ _ ((seqItemAt a j >>= fun r => pure (r.map (j, ·))) >>= _) _ _ s
  refine wpAny_bind (wpAny_bind (wpAny_seqItemAt ho rfl (wpAny_pure ?_)))
  rw [hx']
  show wpAny _ _ (setSeqItemAt a j v >>= _) _ _ s
  refine wpAny_bind (wpAny_setSeqItemAt ho rfl ?_)
  first
    | exact wpAny_bind (wpAny_pure (wpAny_pure ⟨.none, rfl, wpAny_pure h⟩))
    | exact wpAny_pure ⟨.none, rfl, wpAny_pure h⟩
theorem stm_setitem {np : Pos} {j : Nat} (hm : (x, .mut a ds) ∈ ρ) (h : EvD g n sc ρ e d) (hi : EvD g n sc ρ i (.int j)) (hj : j < ds.length) (hs' : ∀ p ∈ ρ', p ∈ ρ ∧ p.2.own ≠ some a) (hz : ds.length ≤ 1000000) (hd : (x == ("__debug__" : Str)) = false) (hn : (x == ("__classdict__" : Str)) = false)
    (hw : ∀ env, swapsWith e (some (.Subscript (.Name x np) i pos')) pos.line env = pure false) : Stm g n sc ρ (.Assign [.Subscript (.Name x np) i pos'] e pos) (.next ((x, .mut a (ds.set j d)) :: ρ')) := fun A env s₀ Z X₀ X s E Q F k => by
  refine wpAny_Assign_Subscript (h A env X s E _ F.ok fun v s₁ u₁ r₁ => ?_) (hw env)
  have F₁ := F.up u₁
  obtain ⟨hv, _⟩ := F₁.ok.mut hm
  refine load_var F₁.ok.cx.fn hv ?_ hd hn
  refine hi A env X s₁ E _ F₁.ok fun w s₂ u₂ r₂ => ?_
  have F₂ := F₁.up u₂
  obtain ⟨_, ha, vs, m, ho, hr⟩ := F₂.ok.mut hm
  obtain ⟨t, rfl⟩ := Rep.inv_int r₂
  have hl := hr.length
  have hj0 : (0 : Int) ≤ (j : Int) := Int.natCast_nonneg j
  refine set_call ho hj0 (by rw [Int.toNat_natCast, List.size_toArray]; omega) (by rw [List.size_toArray]; omega) ?_
  exact k X _ (F₂.mutate hm ho (us := vs.set j v) (by simp) (RepAll.set (F₁.ok.rep u₂ r₁) hr j) hs')
end
end Mine
end

noncomputable section
namespace Mine
section
variable {g : Gl} {n : Nat} {sc : Scope} {Z : List Addr} {ρ ρ' : List (Str × Lv)} {x y : Str} {pos apos pos' spos px py : Pos} {d d₁ d₂ : PyData} {o i e : Expr} {ds es : List PyData} {lv : Lv} {P : List Addr → Heap → Value → Prop} {st : Stmt} {rest body : List Stmt} {a : Addr}
theorem fx_iter {func : Expr} {A : Around} {env : Env} {s₀ s : Shared} {X₀ X : List Addr} {E : Value → Shared → Prop} {Q : Flow → Shared → Prop} (F : Fx g n sc ρ A env s₀ Z X₀ X s) (hf : EvV g n sc ρ func (.builtin "iter")) (h : EvL g n sc ρ e lv) (hi : IterOf lv ds)
    (hr : ∀ a X' s', Fx g n sc ((x, .itr a ds) :: ρ') A env s₀ Z X₀ X' s' → wpAny (model g.prog g.w) A (execs rest env) Q E s') (hk : sc.names.lookup x = some .local ∨ sc.names.lookup x = some .cell) (hx : (ρ'.all fun p => p.1 != x) = true) (hs : ∀ p ∈ ρ', p ∈ ρ)
    (hw : ∀ env, swapsWith (.Call func [e] [] pos) (some (.Name x pos')) spos.line env = pure false) (he : ∀ env, starEach [e] env = (false, eval e env) :: starEach [] env)
    (hc : ∀ env, eval (.Call func [e] [] pos) env = (do callWith pos (← eval func env) [] (backTo pos (starEach [e] env)) (backToKw pos (keywordEach [] env)))) :
    wpAny (model g.prog g.w) A (execs (.Assign [.Name x pos'] (.Call func [e] [] pos) spos :: rest) env) Q E s := by
  refine wpAny_execs_cons (wpAny_Assign_Name (Call_ (hf A env X s E _ F.ok fun v s₁ u₁ r₁ => ?_) (hc env)) (hw env))
  have r₁' : v = .builtin "iter" := r₁
  subst r₁'
  refine callWith_builtin1 (spliced_more (h A env X s₁ E _ (F.up u₁).ok fun w s₂ u₂ r₂ => Calls.spliced_nil ?_) (he env)) (he env) rfl
  have F₂ := (F.up u₁).up u₂
  refine iter_call (piter hi r₂ fun a s₃ u₃ ha hit => ?_)
  obtain ⟨oa, hoa, _⟩ := hit.cls
  refine ((F₂.grow u₃ ha hoa).sub hs).store (l := .itr a ds) (no_name hx) hk ⟨rfl, .head _, hit⟩ (fun b hb => ?_) fun s₄ F₄ => hr a _ s₄ F₄
  cases hb; exact .inr (F₂.stay ha)
theorem Fx.own_new {A : Around} {env : Env} {s₀ s : Shared} {X₀ X : List Addr} (F : Fx g n sc ρ A env s₀ [PT] X₀ X s) (hm : (x, lv) ∈ ρ) (ha : lv.own = some a) : s₀.heap.get? a = none := by
  obtain ⟨v, _, r⟩ := F.ok.cx.vars _ hm
  exact (F.oV _ hm a ha).resolve_left fun q => r.ownPT F.ok.cx.tab a ha (List.mem_singleton.mp q)
theorem fx_forv {A : Around} {env : Env} {s₀ s : Shared} {X₀ X : List Addr} {E : Value → Shared → Prop} {Q : Flow → Shared → Prop} {ρs : Nat → List (Str × Lv)} (F : Fx g n sc ρ A env s₀ [PT] X₀ X s) (hm : (y, .itr a ds) ∈ ρ) (h0 : ∀ p ∈ ρs 0, p ∈ ρ) (hρ : ∀ i, ∀ p ∈ ρs i, p.1 ≠ x ∧ p.2.own ≠ some a)
    (hb : ∀ i d, ds[i]? = some d → BlkT g n sc A env s₀ [PT] X₀ ((x, .dat d) :: ρs i) body (ρs (i + 1)))
    (hr : ∀ X' s', Fx g n sc (ρs ds.length) A env s₀ [PT] X₀ X' s' → wpAny (model g.prog g.w) A (execs rest env) Q E s') (hk : sc.names.lookup x = some .local ∨ sc.names.lookup x = some .cell) (hd : (y == ("__debug__" : Str)) = false) (hn : (y == ("__classdict__" : Str)) = false) :
    wpAny (model g.prog g.w) A (execs (.For (.Name x px) (.Name y py) body [] pos :: rest) env) Q E s := by
  have h00 := F.own_new hm rfl
  obtain ⟨v, hv, rfl, ha, hi⟩ := F.ok.cx.vars _ hm
  refine wpAny_execs_cons (wpAny_For (load_var F.ok.cx.fn hv ?_ hd hn) (by intro _; rfl))
  exact iter_self hi (loop_core (F.sub h0) ha h00 hi hρ hk hb fun X' s' F' => hr X' s' F')
theorem Fx.add {A : Around} {env : Env} {s₀ s : Shared} {X₀ X : List Addr} {v : Value} (F : Fx g n sc ρ A env s₀ Z X₀ X s) (hv : Var env s.heap x v) (hl : lv.is X s.heap v) (ho : lv.own = none) : Fx g n sc ((x, lv) :: ρ) A env s₀ Z X₀ X s :=
  { F with
    ok := ⟨F.ok.bd, F.ok.sc, { F.ok.cx with vars := fun p hp => (List.mem_cons.mp hp).elim (fun e => e ▸ ⟨v, hv, hl⟩) (F.ok.cx.vars p) }⟩
    oV := fun p hp a ha => (List.mem_cons.mp hp).elim (fun e => by rw [e, ho] at ha; cases ha) fun hp => F.oV p hp a ha }
theorem blkA_freeze {A : Around} {env : Env} (hm : (x, .mut a ds) ∈ ρ) (hs : ∀ p ∈ ρ', p ∈ ρ ∧ p.2.own ≠ some a) (hr : BlkA g n sc A env [PT] ((x, .dat (.list ds)) :: ρ') rest P) : BlkA g n sc A env [PT] ρ rest P := fun s₀ X₀ X s E Q F k => by
  have h00 := F.own_new hm rfl
  obtain ⟨v, hv, r⟩ := F.ok.cx.vars _ hm
  obtain ⟨mL, hnL⟩ := F.ok.cx.ns
  have hL : a ≠ env.locals := r.ne_ns rfl hnL
  have hC : ∀ y c, env.cells.lookup y = some c → a ≠ c := fun y c e => by obtain ⟨w, hw⟩ := F.ok.cx.cel y c e; exact r.ne_cell rfl hw
  obtain ⟨rfl, ha, vs, m, ho, hra⟩ := r
  have G := (F.sub fun p hp => (hs p hp).1).gone (tk := s.toks) ha h00 ho Dull.seq hL hC (fun p hp => (hs p hp).2) (fun b ob _ e => e)
  refine hr s₀ X₀ _ s E Q (G.add hv ?_ rfl) k
  exact .list (by simp) ho (hra.to fun b ob hb e => ⟨fun q => hb (List.mem_filter.mp q).1, e⟩)
theorem blkZ_freeze (hm : (x, .mut a ds) ∈ ρ) (hs : ∀ p ∈ ρ', p ∈ ρ ∧ p.2.own ≠ some a) (hr : BlkZ g n sc [PT] ((x, .dat (.list ds)) :: ρ') rest P) : BlkZ g n sc [PT] ρ rest P := fun A env => blkA_freeze hm hs (hr A env)
theorem blkA_iterL {A : Around} {env : Env} {func : Expr} (hf : EvV g n sc ρ func (.builtin "iter")) (h : EvD g n sc ρ e (.list ds)) (hr : ∀ a, BlkA g n sc A env Z ((x, .lit a ds) :: ρ') rest P) (hk : sc.names.lookup x = some .local ∨ sc.names.lookup x = some .cell) (hx : (ρ'.all fun p => p.1 != x) = true) (hs : ∀ p ∈ ρ', p ∈ ρ)
    (hw : ∀ env, swapsWith (.Call func [e] [] pos) (some (.Name x pos')) spos.line env = pure false) (he : ∀ env, starEach [e] env = (false, eval e env) :: starEach [] env)
    (hc : ∀ env, eval (.Call func [e] [] pos) env = (do callWith pos (← eval func env) [] (backTo pos (starEach [e] env)) (backToKw pos (keywordEach [] env)))) :
    BlkA g n sc A env Z ρ (.Assign [.Name x pos'] (.Call func [e] [] pos) spos :: rest) P := fun s₀ X₀ X s E Q F k => by
  refine wpAny_execs_cons (wpAny_Assign_Name (Call_ (hf A env X s E _ F.ok fun v s₁ u₁ r₁ => ?_) (hc env)) (hw env))
  have r₁' : v = .builtin "iter" := r₁
  subst r₁'
  refine callWith_builtin1 (spliced_more (h A env X s₁ E _ (F.up u₁).ok fun w s₂ u₂ r₂ => Calls.spliced_nil ?_) (he env)) (he env) rfl
  have F₂ := (F.up u₁).up u₂
  obtain ⟨l, vs, m, rfl, hl, ho, hra⟩ := Rep.inv_list r₂
  refine iter_call (wpAny_pyIter_list (items := vs.toArray) ⟨_, ho, rfl, _, rfl⟩ ?_)
  have hne : l ≠ s₂.heap.objs.size := Nat.ne_of_lt (Heap.lt_size ho)
  refine ((F₂.grow Up.push' (get_size _) (Heap.get?_push_size _ rfl)).sub hs).store (l := .lit s₂.heap.objs.size ds) (no_name hx) hk ⟨rfl, .head _, l, 0, vs, m, ⟨_, Heap.get?_push_size _ rfl, rfl, rfl⟩, by simp [hne, hl], Heap.get?_push_of_some _ ho, repAll_new hra⟩ (fun b hb => ?_) fun s₄ F₄ => hr _ s₀ X₀ _ s₄ E Q F₄ k
  cases hb; exact .inr (F₂.stay (get_size _))
theorem stm_next {func : Expr} {np : Pos} (hf : EvV g n sc ρ func (.builtin "next")) (hm : (y, .lit a (d :: ds)) ∈ ρ) (hρ : ∀ p ∈ ρ', p ∈ ρ ∧ p.2.own ≠ some a) (hx : (ρ'.all fun p => p.1 != x) = true) (hxy : y ≠ x) (hk : sc.names.lookup x = some .local ∨ sc.names.lookup x = some .cell)
    (hw : ∀ env, swapsWith (.Call func [.Name y np] [] pos) (some (.Name x pos')) spos.line env = pure false) (he : ∀ env, starEach [.Name y np] env = (false, eval (.Name y np) env) :: starEach [] env)
    (hc : ∀ env, eval (.Call func [.Name y np] [] pos) env = (do callWith pos (← eval func env) [] (backTo pos (starEach [.Name y np] env)) (backToKw pos (keywordEach [] env)))) (hd : (y == ("__debug__" : Str)) = false) (hn : (y == ("__classdict__" : Str)) = false) :
    Stm g n sc ρ (.Assign [.Name x pos'] (.Call func [.Name y np] [] pos) spos) (.next ((x, .dat d) :: (y, .lit a ds) :: ρ')) := fun A env s₀ Z X₀ X s E Q F k => by
  refine wpAny_Assign_Name (Call_ (hf A env X s E _ F.ok fun v s₁ u₁ r₁ => ?_) (hc env)) (hw env)
  have r₁' : v = .builtin "next" := r₁
  subst r₁'
  have F₁ := F.up u₁
  obtain ⟨v, hv, rv⟩ := F₁.ok.cx.vars _ hm
  obtain ⟨oa, hoa, hda⟩ := rv.dull a rfl
  obtain ⟨rfl, ha, l, i, vs, m, hit, hl, ho, hr⟩ := rv
  refine callWith_builtin1 (spliced_more (load_var F₁.ok.cx.fn hv (Calls.spliced_nil ?_) hd hn) (he env)) (he env) rfl
  obtain ⟨w, r, hvs, h1, h2⟩ : ∃ w r, vs.drop i = w :: r ∧ Rep X s₁.heap w d ∧ RepAll X s₁.heap r ds := by
    generalize vs.drop i = q at hr
    cases hr; exact ⟨_, _, rfl, ‹_›, ‹_›⟩
  obtain ⟨e1, e2⟩ := get_drop0 hvs
  refine next_call (g := g) (items := vs.toArray) hit ⟨_, ho, rfl, _, rfl⟩ (by simpa using e1) fun h' hit' hs => ?_
  have hs' : Heap.ExtBut a s₁.heap h' := Heap.SameBut.extBut hs
  have kp : ∀ b ob, b ∉ X → s₁.heap.get? b = some ob → b ∉ X ∧ h'.get? b = some ob := fun b ob hb q => ⟨hb, hs' b ob (fun z => hb (z ▸ ha)) q⟩
  have F₂ := F₁.turned (tk := s₁.toks) (l' := .lit a ds) hm rfl hoa hda hs' (let ⟨o, q, _⟩ := hit'; ⟨o, q⟩) (fun v rv => ⟨rv.1, ha, l, i + 1, vs, m, hit', hl, hs' l _ (fun q => hl (q ▸ ha)) ho, by rw [e2]; exact h2.to kp⟩) rfl hρ
  refine F₂.store (l := .dat d) (fun p hp => ?_) hk (h1.to kp) (fun _ e => nomatch e) fun s₃ F₃ => k X s₃ F₃
  rcases List.mem_cons.mp hp with rfl | hp
  · exact hxy
  · exact no_name hx p hp
theorem stm_unpack2 {k' : Nat} {tpos : Pos} (h : EvD g n sc ρ e (.tuple [d₁, d₂])) (hk₁ : sc.names.lookup x = some .local ∨ sc.names.lookup x = some .cell) (hk₂ : sc.names.lookup y = some .local ∨ sc.names.lookup y = some .cell)
    (hx : (ρ'.all fun p => p.1 != x) = true) (hy : (ρ'.all fun p => p.1 != y) = true) (hxy : x ≠ y) (hs : ∀ p ∈ ρ', p ∈ ρ)
    (h1 : ∀ env, swapsWithSole [.Tuple [.Name x px, .Name y py] k' tpos] e pos.line env = pure false) (h2 : ∀ env, swappedStores [.Tuple [.Name x px, .Name y py] k' tpos] e env = pure none) :
    Stm g n sc ρ (.Assign [.Tuple [.Name x px, .Name y py] k' tpos] e pos) (.next ((y, .dat d₂) :: (x, .dat d₁) :: ρ')) := fun A env s₀ Z X₀ X s E Q F k => by
  refine Assign_Tuple (h A env X s E _ F.ok fun v s₁ u₁ r₁ => ?_) (h1 env) (h2 env)
  obtain ⟨t, vs, m, rfl, ht, ho, hr⟩ := Rep.inv_tuple r₁
  obtain ⟨v₁, v₂, rfl, r1, r2⟩ : ∃ v₁ v₂, vs = [v₁, v₂] ∧ Rep X s₁.heap v₁ d₁ ∧ Rep X s₁.heap v₂ d₂ := by
    cases hr with | cons a b => cases b with | cons b c => cases c; exact ⟨_, _, rfl, a, b⟩
  refine wpAny_assign_Tuple (items := #[v₁, v₂]) F.ok.bd.hd ⟨_, ho, rfl, _, rfl⟩ rfl rfl fun h' hs' => ?_
  have u₂ : Ex s₁ { s₁ with heap := h', toks := s₁.toks } := Up.heap fun b ob q => hs' b ob (Nat.ne_of_lt (Heap.lt_size q)) q
  have F₂ := ((F.up u₁).up u₂).sub hs
  have q1 := (F.up u₁).ok.rep u₂ r1
  have q2 := (F.up u₁).ok.rep u₂ r2
  show wpAny _ A (assignInOrder [assign (.Name x px) env, assign (.Name y py) env] [v₁, v₂]) _ _ _
  unfold assignInOrder
  refine wpAny_bind (wpAny_holding (wpAny_assign_Name (F₂.turn.store (l := .dat d₁) (no_name hx) hk₁ q1 (fun _ e => nomatch e) fun s₃ F₃ => ?_)))
  unfold assignInOrder
  refine wpAny_bind (wpAny_holding (wpAny_assign_Name ((F₂.back F₃).store (l := .dat d₂) (fun p hp => ?_) hk₂ ?_ (fun _ e => nomatch e) fun s₄ F₄ => wpAny_pure (k X s₄ F₄))))
  · rcases List.mem_cons.mp hp with rfl | hp
    · exact hxy
    · exact no_name hy p hp
  · exact Rep.to (fun b ob hb q => ⟨hb, F₃.ex.keep b ob (fun z => hb (F₂.turn.zx b z)) q⟩) q2
end
end Mine
end

noncomputable section
namespace Mine
noncomputable def dn (k : Nat) : Def := match PySem.Challenge.pw_rt0037_01.main.body[k]? with
  | some (.FunctionDef _ a b _ _ _ sc _ _ _) => ⟨a, b, sc⟩
  | _ => ⟨default, [], default⟩
noncomputable def globs : List (Str × Value) := [("fspath", .ref 94), ("_check_arg_types", .ref 101), ("_get_sep", .ref 108), ("join", .ref 115), ("basename", .ref 122), ("dirname", .ref 129), ("commonpath", .ref 134), ("_parse_varint", .ref 141), ("_initial_missing", .ref 142), ("reduce", .ref 150),
  ("_law_names", .ref 157), ("_law_octets", .ref 164), ("_law_ended", .ref 171), ("_law_orbit", .ref 178), ("_law_made", .ref 183), ("_law_shared", .ref 188), ("_law_read", .ref 193), ("_law_grown", .ref 198)]
noncomputable def bils : List (Str × Value) := [("type", .type "type"), ("issubclass", .builtin "issubclass"), ("str", .type "str"), ("bytes", .type "bytes"), ("isinstance", .builtin "isinstance"), ("len", .builtin "len"), ("range", .type "range"), ("list", .type "list"), ("int", .type "int"), ("sum", .builtin "sum"),
  ("iter", .builtin "iter"), ("next", .builtin "next"), ("tuple", .type "tuple"), ("map", .type "map"), ("min", .builtin "min"), ("max", .builtin "max"), ("enumerate", .type "enumerate"), ("StopIteration", .type "StopIteration")]
theorem bils_ok : ∀ i : Nat, ∀ x v, bils[i]? = some (x, v) → bootBuiltins x = some v ∧ x ≠ "__name__" := by
  intro i x v h
  have hm := List.mem_of_getElem? h
  have key : ∀ p ∈ bils, bootBuiltins p.1 = some p.2 ∧ p.1 ≠ "__name__" := by
    unfold bils
    simp only [List.forall_mem_cons, List.not_mem_nil, false_implies, implies_true, and_true]
    repeat' constructor
    all_goals first | rfl | decide
  exact key _ hm
structure TopF (g : Gl) : Prop where
  glob : ∀ i : Nat, ∀ x v, globs[i]? = some (x, v) → nsIn g.K mainGlobals x = some (some v)
  free : ∀ i : Nat, ∀ x v, bils[i]? = some (x, v) → nsIn g.K mainGlobals x = some none
  keep : ∀ i : Nat, ∀ x v, globs[i]? = some (x, v) → i ≠ 8 → keepIn g.K v = true
  fn : ∀ i : Nat, ∀ f k, ([(94, 9), (108, 13), (115, 14), (122, 15), (129, 16), (134, 17), (141, 19), (157, 24), (164, 25), (171, 26), (178, 27), (183, 28), (188, 29), (193, 30), (198, 31)] : List (Addr × Nat))[i]? = some (f, k) → ∃ ob fd, FnIs g.K f (dn k) ob fd ∧ fd.defaults = .none
  red : ∃ ob fd o n, FnIs g.K 150 (dn 22) ob fd ∧ fd.defaults = .ref 143 ∧ g.K.lookup 143 = some o ∧ o.data = .seq #[.ref 142] n
  miss : ∃ o, g.K.lookup 142 = some o ∧ o.cls = .type "object"
  orb : ∃ ob fd, FnIs g.K 178 (dn 27) ob fd ∧ fd.code = .ref 177 ∧ fd.qualname = "_law_orbit"
  tab : codeHdIn g.K 177 PT = true
  bmod : ∃ bm o, nsIn g.K mainGlobals "__builtins__" = some (some (.ref bm)) ∧ g.K.lookup bm = some o ∧ o.cls = .type "module" ∧ o.dict = some builtinsNs ∧ o.data = .plain ∧ bm ≠ builtinsNs ∧ bm ≠ mainGlobals
section
variable {g : Gl} {n : Nat} {sc : Scope} {Z : List Addr} {ρ ρ' : List (Str × Lv)} {x y : Str} {pos : Pos} {P : List Addr → Heap → Value → Prop}
theorem ev_g {v : Value} (T : TopF g) (i : Nat) (h : globs[i]? = some (x, v)) (hk : sc.names.lookup x = some .globalImplicit) (hd : (x == ("__debug__" : Str)) = false) : EvV g n sc ρ (.Name x pos) v := ev_glob hk (T.glob i x v h) hd
theorem ev_b {v : Value} (T : TopF g) (i : Nat) (h : bils[i]? = some (x, v)) (hk : sc.names.lookup x = some .globalImplicit) (hd : (x == ("__debug__" : Str)) = false) : EvV g n sc ρ (.Name x pos) v := ev_built hk (T.free i x v h) (bils_ok i x v h).1 (bils_ok i x v h).2 hd
theorem does_top {names : List Str} {ls : List Lv} {f : Addr} {k : Nat} (T : TopF g) (i : Nat) (hi : ([(94, 9), (108, 13), (115, 14), (122, 15), (129, 16), (134, 17), (141, 19), (157, 24), (164, 25), (171, 26), (178, 27), (183, 28), (188, 29), (193, 30), (198, 31)] : List (Addr × Nat))[i]? = some (f, k))
    (hbind : ∀ (fd : FuncData) (vs : List Value), fd.params = (dn k).params → fd.defaults = .none → vs.length = names.length → bindArgs fd ⟨vs, []⟩ = pure (names.zip vs))
    (hnn : names.Nodup) (hkn : ∀ y ∈ names, (dn k).scope.names.lookup y = some .local ∨ (dn k).scope.names.lookup y = some .cell) (hln : names.length = ls.length)
    (hfree : ∀ p ∈ (dn k).scope.names, p.2 ≠ .free) (hco : (dn k).scope.isCoroutine = false) (hgen : (dn k).scope.isGenerator = false) (hk : (dn k).scope.kind = .function) (hown : (ls.all fun l => l.own.isNone) = true)
    (h : BlkZ g n (dn k).scope [PT] (names.zip ls) (dn k).body P) : Does g (n + 1) (fun vs => call (.ref f) vs) ls P := by
  obtain ⟨ob, fd, H, hd⟩ := T.fn i f k hi
  exact does_fn H hbind hd hnn hkn hln hfree hco hgen hk hown h
end
theorem len1 {α : Type} {l : List α} (h : l.length = 1) : ∃ a, l = [a] := by
  match l, h with | [a], _ => exact ⟨a, rfl⟩
theorem len2 {α : Type} {l : List α} (h : l.length = 2) : ∃ a b, l = [a, b] := by
  match l, h with | [a, b], _ => exact ⟨a, b, rfl⟩
noncomputable abbrev dN (k : Nat) : PyData := .int k
noncomputable abbrev dL (l : List Nat) : PyData := .list (l.map dN)
theorem mA {α : Type} {a : α} {l : List α} : a ∈ a :: l := .head _
theorem mB {α : Type} {a b : α} {l : List α} : a ∈ b :: a :: l := .tail _ (.head _)
theorem mC {α : Type} {a b c : α} {l : List α} : a ∈ b :: c :: a :: l := .tail _ (.tail _ (.head _))
theorem mD {α : Type} {a b c d : α} {l : List α} : a ∈ b :: c :: d :: a :: l := .tail _ (.tail _ (.tail _ (.head _)))
theorem mE {α : Type} {a b c d e : α} {l : List α} : a ∈ b :: c :: d :: e :: a :: l := .tail _ (.tail _ (.tail _ (.tail _ (.head _))))
end Mine
end

noncomputable section
namespace Mine
noncomputable def asK : List Addr := (List.range 204).filter fun a => a != 173
noncomputable def KOf (h : Heap) : Frag := asK.filterMap fun a => (h.get? a).map fun o => (a, o)
theorem look_map {h : Heap} {a : Addr} {o : Obj} : ∀ l : List Addr, (l.filterMap fun a => (h.get? a).map fun o => (a, o)).lookup a = some o → h.get? a = some o ∧ a ∈ l
  | [], e => nomatch e
  | b :: l, e => by
    rw [List.filterMap_cons] at e
    cases q : h.get? b with
    | none => rw [q] at e; exact ⟨(look_map l e).1, .tail _ (look_map l e).2⟩
    | some o' =>
      rw [q] at e
      dsimp only [Option.map_some] at e
      rw [List.lookup_cons] at e
      by_cases hb : a = b
      · subst hb
        rw [beq_self_eq_true] at e
        cases e; exact ⟨q, .head _⟩
      · rw [beq_false_of_ne hb] at e
        exact ⟨(look_map l e).1, .tail _ (look_map l e).2⟩
theorem KOf_in (h : Heap) : (KOf h).In h := fun a o e => (look_map _ e).1
theorem KOf_PT (h : Heap) : (KOf h).lookup PT = none := by
  cases e : (KOf h).lookup PT with
  | none => rfl
  | some o => exact absurd (look_map _ e).2 (by decide)
noncomputable def fns : List (Addr × Nat) := [(94, 9), (108, 13), (115, 14), (122, 15), (129, 16), (134, 17), (141, 19), (157, 24), (164, 25), (171, 26), (178, 27), (183, 28), (188, 29), (193, 30), (198, 31), (203, 32), (150, 22)]
noncomputable def dnP (p : Program) (k : Nat) : Def := match p.main.body[k]? with
  | some (.FunctionDef _ a b _ _ _ sc _ _ _) => ⟨a, b, sc⟩
  | _ => ⟨default, [], default⟩
noncomputable abbrev Fv := Arguments × FuncBody × Scope × List (Str × Addr) × Addr × Addr × Value
noncomputable def fnV (o : Option Obj) : Option Fv := match o with
  | some ob => (match ob.data with | .func fd => some (fd.params, fd.body, fd.scope, fd.closure, fd.globals, fd.builtins, fd.defaults) | _ => none)
  | none => none
noncomputable def codV (K : Frag) (o : Option Obj) : Bool := match o with
  | some ob => (match ob.data with | .func fd => codeIn K fd.code fd.qualname | _ => false)
  | none => false
noncomputable def orbV (o : Option Obj) : Option (Value × Str) := match o with
  | some ob => (match ob.data with | .func fd => some (fd.code, fd.qualname) | _ => none)
  | none => none
noncomputable def seqV (o : Option Obj) : Option (Array Value) := match o with
  | some ob => (match ob.data with | .seq vs _ => some vs | _ => none)
  | none => none
noncomputable def expF (p : Program) (q : Addr × Nat) : Option Fv := some ((dnP p q.2).params, .stmts (dnP p q.2).body, (dnP p q.2).scope, [], mainGlobals, builtinsNs, bif q.1 == 150 then Value.ref 143 else Value.none)
structure Facts (p : Program) (h : Heap) : Prop where
  fn : fns.map (fun q => fnV ((KOf h).lookup q.1)) = fns.map (expF p)
  cod : (fns.all fun q => codV (KOf h) ((KOf h).lookup q.1)) = true
  glob : globs.map (fun q => nsIn (KOf h) mainGlobals q.1) = globs.map fun q => some (some q.2)
  bil : bils.map (fun q => nsIn (KOf h) mainGlobals q.1) = bils.map fun _ => some none
  kp : ((globs.eraseIdx 8).all fun q => keepIn (KOf h) q.2) = true
  orb : orbV ((KOf h).lookup 178) = some (Value.ref 177, ("_law_orbit" : Str))
  tab : codeHdIn (KOf h) 177 PT = true
  seq : seqV ((KOf h).lookup 143) = some #[Value.ref 142]
  miss : ((KOf h).lookup 142).map (·.cls) = some (Value.type "object")
  bm : nsIn (KOf h) mainGlobals "__builtins__" = some (some (Value.ref 4))
  bm' : ((KOf h).lookup 4).map (fun o => (o.cls, o.dict, o.data)) = some (Value.type "module", some builtinsNs, Data.plain)
  pt : h.get? PT = some (tabObj #[])
  lw : nsIn (KOf h) mainGlobals "law" = some (some (Value.ref 203))
noncomputable abbrev Obs := List (Option Fv) × List (Option (Option Value)) × List (Option (Option Value)) × Option (Value × Str) × Option (Array Value) × Option Value × Option (Option Value) × Option (Value × Option Addr × Data) × Option Obj × Option (Option Value) × Bool × Bool × Bool
noncomputable def obs (h : Heap) : Obs := (fns.map (fun q => fnV ((KOf h).lookup q.1)), globs.map (fun q => nsIn (KOf h) mainGlobals q.1), bils.map (fun q => nsIn (KOf h) mainGlobals q.1), orbV ((KOf h).lookup 178), seqV ((KOf h).lookup 143), ((KOf h).lookup 142).map (·.cls),
  nsIn (KOf h) mainGlobals "__builtins__", ((KOf h).lookup 4).map (fun o => (o.cls, o.dict, o.data)), h.get? PT, nsIn (KOf h) mainGlobals "law", codeHdIn (KOf h) 177 PT, (fns.all fun q => codV (KOf h) ((KOf h).lookup q.1)), ((globs.eraseIdx 8).all fun q => keepIn (KOf h) q.2))
noncomputable def expT (p : Program) : Obs := (fns.map (expF p), globs.map (fun q => some (some q.2)), bils.map (fun _ => some none), some (Value.ref 177, ("_law_orbit" : Str)), some #[Value.ref 142], some (Value.type "object"), some (some (Value.ref 4)), some (Value.type "module", some builtinsNs, Data.plain), some (tabObj #[]), some (some (Value.ref 203)), true, true, true)
theorem facts_of {p : Program} {h : Heap} (e : obs h = expT p) : Facts p h where
  fn := congrArg (·.1) e
  glob := congrArg (·.2.1) e
  bil := congrArg (·.2.2.1) e
  orb := congrArg (·.2.2.2.1) e
  seq := congrArg (·.2.2.2.2.1) e
  miss := congrArg (·.2.2.2.2.2.1) e
  bm := congrArg (·.2.2.2.2.2.2.1) e
  bm' := congrArg (·.2.2.2.2.2.2.2.1) e
  pt := congrArg (·.2.2.2.2.2.2.2.2.1) e
  lw := congrArg (·.2.2.2.2.2.2.2.2.2.1) e
  tab := congrArg (·.2.2.2.2.2.2.2.2.2.2.1) e
  cod := congrArg (·.2.2.2.2.2.2.2.2.2.2.2.1) e
  kp := congrArg (·.2.2.2.2.2.2.2.2.2.2.2.2) e
section
variable {h : Heap} (F : Facts PySem.Challenge.pw_rt0037_01 h)
include F
theorem fn_is {q : Addr × Nat} (hq : q ∈ fns) : ∃ ob fd, FnIs (KOf h) q.1 (dn q.2) ob fd ∧ fd.defaults = bif q.1 == 150 then Value.ref 143 else Value.none := by
  have e := List.map_inj_left.mp F.fn q hq
  have c := List.all_eq_true.mp F.cod q hq
  generalize hK : (KOf h).lookup q.1 = o at e c
  cases o with
  | none => cases e
  | some ob =>
    obtain ⟨cl, di, dt, sl⟩ := ob
    cases dt with
    | func fd =>
      obtain ⟨e1, e2⟩ := Prod.mk.inj (Option.some.inj e)
      obtain ⟨e2, e3⟩ := Prod.mk.inj e2
      obtain ⟨e3, e4⟩ := Prod.mk.inj e3
      obtain ⟨e4, e5⟩ := Prod.mk.inj e4
      obtain ⟨e5, e6⟩ := Prod.mk.inj e5
      obtain ⟨e6, e7⟩ := Prod.mk.inj e6
      exact ⟨_, fd, ⟨hK, rfl, e1, e2, e3, e4, e5, e6, c⟩, e7⟩
    | _ => cases e
theorem topF_of {g : Gl} (hg : g.K = KOf h) : TopF g where
  glob := fun i x v e => by
    have := congrArg (·[i]?) F.glob
    simp only [List.getElem?_map, e, Option.map_some] at this
    rw [hg]; exact Option.some.inj this
  free := fun i x v e => by
    have := congrArg (·[i]?) F.bil
    simp only [List.getElem?_map, e, Option.map_some] at this
    rw [hg]; exact Option.some.inj this
  keep := fun i x v e hi => by
    have := List.all_eq_true.mp F.kp (x, v) (List.mem_eraseIdx_iff_getElem?.mpr ⟨i, hi, e⟩)
    rw [hg]; exact this
  fn := fun i f k e => by
    have hm := List.mem_of_getElem? e
    have key : ∀ q ∈ ([(94, 9), (108, 13), (115, 14), (122, 15), (129, 16), (134, 17), (141, 19), (157, 24), (164, 25), (171, 26), (178, 27), (183, 28), (188, 29), (193, 30), (198, 31)] : List (Addr × Nat)), q ∈ fns ∧ (q.1 == 150) = false := by decide
    obtain ⟨h1, h2⟩ := key _ hm
    obtain ⟨ob, fd, H, d⟩ := fn_is F h1
    rw [h2] at d
    rw [hg]; exact ⟨ob, fd, H, d⟩
  red := by
    obtain ⟨ob, fd, H, d⟩ := fn_is F (q := (150, 22)) (by decide)
    have e := F.seq
    rw [hg]
    cases q : (KOf h).lookup 143 with
    | none => rw [q] at e; cases e
    | some o =>
      rw [q] at e
      obtain ⟨cl, di, dt, sl⟩ := o
      cases dt with
      | seq vs n => exact ⟨ob, fd, _, n, H, d, rfl, by rw [← Option.some.inj e]⟩
      | _ => cases e
  miss := by
    have e := F.miss
    rw [hg]
    cases q : (KOf h).lookup 142 with
    | none => rw [q] at e; cases e
    | some o => rw [q] at e; exact ⟨o, rfl, Option.some.inj e⟩
  orb := by
    obtain ⟨ob, fd, H, d⟩ := fn_is F (q := (178, 27)) (by decide)
    have e := F.orb
    rw [show (KOf h).lookup 178 = some ob from H.at_] at e
    unfold orbV at e
    dsimp only at e
    rw [H.data] at e
    obtain ⟨e1, e2⟩ := Prod.mk.inj (Option.some.inj e)
    rw [hg]; exact ⟨ob, fd, H, e1, e2⟩
  tab := by rw [hg]; exact F.tab
  bmod := by
    have e := F.bm'
    rw [hg]
    cases q : (KOf h).lookup 4 with
    | none => rw [q] at e; cases e
    | some o =>
      rw [q] at e
      obtain ⟨e1, e2⟩ := Prod.mk.inj (Option.some.inj e)
      obtain ⟨e2, e3⟩ := Prod.mk.inj e2
      exact ⟨4, o, F.bm, q, e1, e2, e3, by decide, by decide⟩
end
end Mine
end

noncomputable section
namespace Mine
open PySem.Challenge (pw_rt0037_01)
structure Tg (o : Option Stmt) where
  val : Stmt
noncomputable def Tg.of (x : Stmt) : Tg (some x) := ⟨x⟩
structure TgS (o : Scope) where
  val : Scope
noncomputable def TgS.of (k : ScopeKind) (n : List (Str × NameKind)) (a b : Bool) (m) : TgS ⟨k, n, a, b, m⟩ := ⟨⟨k, n, a, b, m⟩⟩
noncomputable def st0 : Stmt := (Tg.of _ : Tg (pw_rt0037_01.main.body[0]?)).val
noncomputable def st1 : Stmt := (Tg.of _ : Tg (pw_rt0037_01.main.body[1]?)).val
noncomputable def st2 : Stmt := (Tg.of _ : Tg (pw_rt0037_01.main.body[2]?)).val
noncomputable def st3 : Stmt := (Tg.of _ : Tg (pw_rt0037_01.main.body[3]?)).val
noncomputable def st4 : Stmt := (Tg.of _ : Tg (pw_rt0037_01.main.body[4]?)).val
noncomputable def st5 : Stmt := (Tg.of _ : Tg (pw_rt0037_01.main.body[5]?)).val
noncomputable def st6 : Stmt := (Tg.of _ : Tg (pw_rt0037_01.main.body[6]?)).val
noncomputable def st7 : Stmt := (Tg.of _ : Tg (pw_rt0037_01.main.body[7]?)).val
noncomputable def st8 : Stmt := (Tg.of _ : Tg (pw_rt0037_01.main.body[8]?)).val
noncomputable def st9 : Stmt := (Tg.of _ : Tg (pw_rt0037_01.main.body[9]?)).val
noncomputable def st10 : Stmt := (Tg.of _ : Tg (pw_rt0037_01.main.body[10]?)).val
noncomputable def st11 : Stmt := (Tg.of _ : Tg (pw_rt0037_01.main.body[11]?)).val
noncomputable def st12 : Stmt := (Tg.of _ : Tg (pw_rt0037_01.main.body[12]?)).val
noncomputable def st13 : Stmt := (Tg.of _ : Tg (pw_rt0037_01.main.body[13]?)).val
noncomputable def st14 : Stmt := (Tg.of _ : Tg (pw_rt0037_01.main.body[14]?)).val
noncomputable def st15 : Stmt := (Tg.of _ : Tg (pw_rt0037_01.main.body[15]?)).val
noncomputable def st16 : Stmt := (Tg.of _ : Tg (pw_rt0037_01.main.body[16]?)).val
noncomputable def st17 : Stmt := (Tg.of _ : Tg (pw_rt0037_01.main.body[17]?)).val
noncomputable def st18 : Stmt := (Tg.of _ : Tg (pw_rt0037_01.main.body[18]?)).val
noncomputable def st19 : Stmt := (Tg.of _ : Tg (pw_rt0037_01.main.body[19]?)).val
noncomputable def st20 : Stmt := (Tg.of _ : Tg (pw_rt0037_01.main.body[20]?)).val
noncomputable def st21 : Stmt := (Tg.of _ : Tg (pw_rt0037_01.main.body[21]?)).val
noncomputable def st22 : Stmt := (Tg.of _ : Tg (pw_rt0037_01.main.body[22]?)).val
noncomputable def st23 : Stmt := (Tg.of _ : Tg (pw_rt0037_01.main.body[23]?)).val
noncomputable def st24 : Stmt := (Tg.of _ : Tg (pw_rt0037_01.main.body[24]?)).val
noncomputable def st25 : Stmt := (Tg.of _ : Tg (pw_rt0037_01.main.body[25]?)).val
noncomputable def st26 : Stmt := (Tg.of _ : Tg (pw_rt0037_01.main.body[26]?)).val
noncomputable def st27 : Stmt := (Tg.of _ : Tg (pw_rt0037_01.main.body[27]?)).val
noncomputable def st28 : Stmt := (Tg.of _ : Tg (pw_rt0037_01.main.body[28]?)).val
noncomputable def st29 : Stmt := (Tg.of _ : Tg (pw_rt0037_01.main.body[29]?)).val
noncomputable def st30 : Stmt := (Tg.of _ : Tg (pw_rt0037_01.main.body[30]?)).val
noncomputable def st31 : Stmt := (Tg.of _ : Tg (pw_rt0037_01.main.body[31]?)).val
noncomputable def st32 : Stmt := (Tg.of _ : Tg (pw_rt0037_01.main.body[32]?)).val
noncomputable def mainSc : Scope := (TgS.of _ _ _ _ _ : TgS (pw_rt0037_01.main.scope)).val
noncomputable def prog : Program := { main := { body := [st0, st1, st2, st3, st4, st5, st6, st7, st8, st9, st10, st11, st12, st13, st14, st15, st16, st17, st18, st19, st20, st21, st22, st23, st24, st25, st26, st27, st28, st29, st30, st31, st32], scope := mainSc, futureAnnotations := false, file := Str.ofString "/claim/cut.py" }, modules := [], parses := [], absent := [], harvested := [], given := { argv := [], stdin := [], environ := (some [([76, 67, 95, 65, 76, 76], [67, 46, 85, 84, 70, 45, 56])]) } }
noncomputable def rwM : OpenLaw := { prog := prog, name := (Str.ofString "law"), about := [(Str.ofString "commonpath")], foot := 9, most := some 63, bound := none, writes := false }
theorem rwM_eq : rwM = PySem.Challenge.rw_rt0037_01 := rfl
noncomputable def vw : Program := { prog with main := { prog.main with body := [st0, st2, st4, st6, st7, st9, st11, st13, st14, st15, st16, st17, st19, st21, st24, st25, st26, st27, st28, st29, st30, st31, st32] } }
theorem dummy : (prog.main.body.length == 33 && vw.main.body.length == 23) = true := by k_qdec
end Mine
namespace Mine
open PySem.W.Fast
noncomputable abbrev lsQ : List Str := [⟨#[95, 105, 110, 105, 116, 105, 97, 108, 95, 109, 105, 115, 115, 105, 110, 103]⟩, ⟨#[114, 101, 100, 117, 99, 101]⟩]
set_option maxHeartbeats 0 in
set_option autoImplicit false in
theorem run_q (w : World) : (openEnds tw14364793385576792824 tw9687113851787907960 w 2620).map (fun s => (tw4187177175401517315 tw4797623924254395695 lsQ (tw5923862056798008813 tw9687113851787907960.main.body) (fun s => xlAt tw4797623924254395695 [] s && recOk (RowW.records (tw2368527892694137696 rwM).toRowW) s) true s, obs s.heap)) = some (openGood tw4797623924254395695 lsQ, expT tw9687113851787907960) := by
  kernel_rfl!
end Mine
end

noncomputable section
namespace Mine
section
variable {g : Gl} {n : Nat} {sc : Scope} {ρ ρ' : List (Str × Lv)} {A : Around} {env : Env} {s₀ s s' : Shared} {Z X₀ X : List Addr} {E : Value → Shared → Prop}
theorem Fx.grows (F : Fx g n sc ρ A env s₀ Z X₀ X s) (u : Ex s s') (ys : List Addr) (hy : ∀ a ∈ ys, s.heap.get? a = none ∧ ∃ o, s'.heap.get? a = some o) : Fx g n sc ρ A env s₀ Z X₀ (ys ++ X) s' := by
  have F' := F.up u
  have inn : ∀ b ∈ X, b ∈ ys ++ X := fun b h => List.mem_append_right _ h
  refine { F' with ok := ⟨F'.ok.bd, F'.ok.sc, { F'.ok.cx with tabX := inn _ F'.ok.cx.tabX, live := fun b hb => ?_, own := ⟨inn _ F'.ok.cx.own.1, fun x c e => inn _ (F'.ok.cx.own.2 x c e)⟩, vars := fun p hp => ?_ }⟩, lo := fun b hb => inn _ (F.lo b hb), hi := fun b hb => ?_ }
  · rcases List.mem_append.mp hb with hb | hb
    · exact ⟨(hy b hb).2, F.ok.cx.top.new (hy b hb).1⟩
    · exact F'.ok.cx.live b hb
  · obtain ⟨v, hv, r⟩ := F.ok.cx.vars p hp
    have r' : p.2.is (ys ++ X) s.heap v := r.more inn fun b hb => (List.mem_append.mp hb).elim (fun e => .inr (hy b e).1) .inl
    exact ⟨v, hv.up F.ok.cx.tab u, r'.ex F.ok.cx.tab (inn _ F.ok.cx.tabX) u⟩
  · rcases List.mem_append.mp hb with hb | hb
    · exact .inr (F.stay (hy b hb).1)
    · exact F.hi b hb
theorem Tp.wide {K : Frag} {h h' : Heap} {ys : List Addr} (x : Tp K h) (hk : ∀ b o, b ∉ ys → h.get? b = some o → h'.get? b = some o) (top : ∀ a ∈ ys, K.lookup a = none ∧ a ≠ mainGlobals ∧ a ≠ builtinsNs ∧ a ≠ cStatics) : Tp K h' where
  k := fun b o e => hk b o (fun q => by rw [(top b q).1] at e; cases e) (x.k b o e)
  g := let ⟨mg, h⟩ := x.g; ⟨mg, Heap.Ns.to h fun o e => hk _ o (fun q => (top _ q).2.1 rfl) e⟩
  b := let ⟨mb, h, r⟩ := x.b; ⟨mb, Heap.Ns.to h fun o e => hk _ o (fun q => (top _ q).2.2.1 rfl) e, r⟩
  lim := let ⟨mc, h, r⟩ := x.lim; ⟨mc, Heap.Ns.to h fun o e => hk _ o (fun q => (top _ q).2.2.2 rfl) e, r⟩
  kPT := x.kPT
theorem Fx.wide {h' : Heap} {tk : Nat} (F : Fx g n sc ρ A env s₀ Z X₀ X s) (ys : List Addr) (hs : ∀ p ∈ ρ', p ∈ ρ)
    (hy : ∀ a ∈ ys, a ∈ X ∧ Ch Z s₀ a ∧ (∃ o, h'.get? a = some o) ∧ (∀ y c, env.cells.lookup y = some c → a ≠ c) ∧ ∀ p ∈ ρ', p.2.own ≠ some a)
    (hk : ∀ b o, b ∉ ys → s.heap.get? b = some o → h'.get? b = some o) (tab : TabOk h') (hL : ∀ m, s.heap.Ns env.locals m → h'.Ns env.locals m) : Fx g n sc ρ' A env s₀ Z X₀ X { s with heap := h', toks := tk } := by
  have cx := F.ok.cx
  have u : Up ys s { s with heap := h', toks := tk } := ⟨⟨h', tk, rfl⟩, hk, fun _ => tab⟩
  have yX : ∀ a ∈ ys, a ∈ X := fun a ha => (hy a ha).1
  have nC : ∀ y c, env.cells.lookup y = some c → c ∉ ys := fun y c e q => (hy _ q).2.2.2.1 y c e rfl
  exact { F.sub hs with
    ok := ⟨F.ok.bd, F.ok.sc, { cx with
      top := cx.top.wide hk fun a ha => (cx.live a (yX a ha)).2
      tab := tab
      live := cx.live.up u fun a ha => (hy a ha).2.2.1
      ns := let ⟨m, h⟩ := cx.ns; ⟨m, hL m h⟩
      cel := fun y c e => let ⟨w, hw⟩ := cx.cel y c e; ⟨w, Heap.IsCell.to hw fun o q => hk _ o (nC y c e) q⟩
      vars := fun p hp => by
        obtain ⟨v, hv, r⟩ := cx.vars p (hs p hp)
        refine ⟨v, ?_, r.up u yX fun a ha q => (hy a q).2.2.2.2 p hp ha⟩
        rcases hv with ⟨hkk, m, hn, hv⟩ | ⟨hkk, c, hc, hv⟩
        · exact .inl ⟨hkk, m, hL m hn, hv⟩
        · exact .inr ⟨hkk, c, hc, Heap.IsCell.to hv fun o e => hk _ o (nC _ _ hc) e⟩ }⟩
    ex := F.ex.from u fun b hb => (hy b hb).2.1 }
theorem Fx.buts {h' : Heap} {tk : Nat} (F : Fx g n sc ρ A env s₀ Z X₀ X s) (ys : List Addr)
    (hy : ∀ a ∈ ys, a ∈ X ∧ s₀.heap.get? a = none ∧ (∃ o, s.heap.get? a = some o ∧ Dull o) ∧ (∃ o, h'.get? a = some o) ∧ a ≠ env.locals ∧ (∀ y c, env.cells.lookup y = some c → a ≠ c) ∧ ∀ p ∈ ρ, p.2.own ≠ some a)
    (hk : ∀ b o, b ∉ ys → s.heap.get? b = some o → h'.get? b = some o) : Fx g n sc ρ A env s₀ Z X₀ X { s with heap := h', toks := tk } :=
  F.wide ys (fun p hp => hp) (fun a ha => let ⟨h1, h2, _, h4, _, h6, h7⟩ := hy a ha; ⟨h1, .inr h2, h4, h6, h7⟩) hk (F.ok.cx.tab.keepsBut hk fun a ha => (hy a ha).2.2.1) fun m h => Heap.Ns.to h fun o e => hk _ o (fun q => (hy _ q).2.2.2.2.1 rfl) e
end
end Mine
end

noncomputable section
namespace Mine
section
variable {g : Gl} {n : Nat} {sc : Scope} {ρ ρ' : List (Str × Lv)} {xi xc : Str} {pi pc pt pos p₁ : Pos} {k' : Nat} {func e : Expr} {ds : List PyData} {body : List Stmt}
theorem dull_fields {o : Obj} {vs : Array Value} (hd : o.data = .fields vs) (hc : o.cls ≠ .none) (h : ∀ q t, vs[1]? ≠ some (.str q t)) : Dull o := fun us q => by rw [hd] at q; cases q; exact ⟨hc, h⟩
theorem stm_forEnum {K : Nat} (hK : K ≤ ds.length) (hf : EvV g n sc ρ func (.type "enumerate")) (h : EvD g n sc ρ e (.list ds))
    (hi : sc.names.lookup xi = some .local ∨ sc.names.lookup xi = some .cell) (hc : sc.names.lookup xc = some .local ∨ sc.names.lookup xc = some .cell) (hxi : (ρ.all fun p => p.1 != xi) = true) (hxc : (ρ.all fun p => p.1 != xc) = true) (hic : xi ≠ xc)
    (hb : ∀ (k : Nat) d, k < K → ds[k]? = some d → Blk g n sc ((xc, .dat d) :: (xi, .dat (.int k)) :: ρ) body (.next ρ))
    (hbr : ∀ d, ds[K]? = some d → Blk g n sc ((xc, .dat d) :: (xi, .dat (.int K)) :: ρ) body (.brk ρ')) (hend : K = ds.length → ∀ p ∈ ρ', p ∈ ρ)
    (hs : ∀ env y, foldedSetIterable (.Call func [e] [] p₁) env y = pure y) (he : ∀ env, starEach [e] env = (false, eval e env) :: starEach [] env)
    (hcl : ∀ env, eval (.Call func [e] [] p₁) env = (do callWith p₁ (← eval func env) [] (backTo p₁ (starEach [e] env)) (backToKw p₁ (keywordEach [] env)))) :
    Stm g n sc ρ (.For (.Tuple [.Name xi pi, .Name xc pc] k' pt) (.Call func [e] [] p₁) body [] pos) (.next ρ') := fun A env s₀ Z X₀ X s E Q F k => by
  refine wpAny_For (Call_ (hf A env X s E _ F.ok fun v s₁ u₁ r₁ => ?_) (hcl env)) (hs env)
  have r₁' : v = .type "enumerate" := r₁
  subst r₁'
  refine Pv.callWith_type1 (spliced_more (h A env X s₁ E _ (F.up u₁).ok fun w s₂ u₂ r₂ => Calls.spliced_nil ?_) (he env)) (he env) rfl
  have F₂ := (F.up u₁).up u₂
  obtain ⟨l, vs, m, rfl, hlX, hlo, hra⟩ := Rep.inv_list r₂
  obtain ⟨I, hI⟩ : ∃ I : Nat, s₂.heap.objs.size = I := ⟨_, rfl⟩
  have fr : ∀ a : Nat, I ≤ a → s₂.heap.get? a = none := fun a ha => by
    cases e : s₂.heap.get? a with
    | none => rfl
    | some o' => exact absurd (Heap.lt_size e) (Nat.not_lt.mpr (hI ▸ ha))
  have hlt : Nat.lt l I := hI ▸ Heap.lt_size hlo
  refine call_enumerate_list (items := vs.toArray) ⟨_, hlo, rfl, _, rfl⟩ fun h₃ he₃ hit₃ hz₃ hk₃ => ?_
  rw [hI] at he₃ hit₃ hz₃
  rw [hI]
  have u₃ : Ex s₂ { s₂ with heap := h₃, toks := s₂.toks } := Up.heap hk₃
  have hne : I + 1 ≠ I := Nat.succ_ne_self I
  have F₃ := F₂.grows u₃ [I + 1, I] fun a ha => by
    rcases List.mem_cons.mp ha with rfl | ha
    · exact ⟨fr _ (Nat.le_add_right I 1), _, he₃⟩
    · rw [List.mem_singleton.mp ha]
      obtain ⟨o, q, _⟩ := hit₃
      exact ⟨fr I (Nat.le_refl I), o, q⟩
  have hlY : l ∉ [I + 1, I] ++ X := fun q => (List.mem_cons.mp q).elim (fun e => Nat.lt_irrefl I (Nat.lt_of_le_of_lt (Nat.le_add_right I 1) (e ▸ hlt))) fun q => (List.mem_cons.mp q).elim (fun e => Nat.lt_irrefl I (e ▸ hlt)) hlX
  have hr₃ : RepAll ([I + 1, I] ++ X) h₃ vs ds := (hra.more fun a ha => by
    rcases List.mem_cons.mp ha with rfl | ha
    · exact .inr (fr _ (Nat.le_add_right I 1))
    rcases List.mem_cons.mp ha with rfl | ha
    · exact .inr (fr _ (Nat.le_refl _))
    · exact .inl ha).to fun b ob hb q => ⟨hb, hk₃ b ob q⟩
  have h0I : s₀.heap.get? I = none := F₂.stay (fr I (Nat.le_refl I))
  have h0E : s₀.heap.get? (I + 1) = none := F₂.stay (fr (I + 1) (Nat.le_add_right I 1))
  refine wpAny_pyIter_enum (s := { s₂ with heap := h₃ }) he₃ ?_
  have ownX : ∀ p ∈ ρ, ∀ b, p.2.own = some b → b ∈ X := fun p hp b hb => by obtain ⟨w, _, rw'⟩ := F₂.ok.cx.vars p hp; exact rw'.inX b hb
  have nX : ∀ a : Nat, I ≤ a → a ∉ X := fun a ha => F₂.ok.cx.live.get (fr a ha)
  have apart : ∀ a : Nat, I ≤ a → a ≠ env.locals ∧ (∀ y c, env.cells.lookup y = some c → a ≠ c) ∧ ∀ p ∈ ρ, p.2.own ≠ some a := fun a ha =>
    ⟨fun q => nX a ha (q ▸ F₂.ok.cx.own.1), fun y c e q => nX a ha (q ▸ F₂.ok.cx.own.2 y c e), fun p hp q => nX a ha (ownX p hp a q)⟩
  have hnT : ∀ a : Nat, I ≤ a → a ∉ turnZ env ρ := fun a ha q => nX a ha (by
    rcases mem_turnZ q with q | q | ⟨y, q⟩ | ⟨p, hp, q⟩
    · exact q ▸ F₂.ok.cx.tabX
    · exact q ▸ F₂.ok.cx.own.1
    · exact F₂.ok.cx.own.2 y a q
    · exact ownX p hp a q)
  refine codeAny_forLoop_any (fun r s' => ∃ (i : Nat) (X' : List Addr) (old : Value), r = ds.length + 1 - i ∧ i ≤ K ∧ Fx g n sc ρ A env s₀ Z X₀ X' s' ∧ (∀ a ∈ [I + 1, I], a ∈ X') ∧ l ∉ X' ∧ IsEnum s'.heap (I + 1) I (i : Int) old ∧ s'.heap.IsListIter I l i ∧ s'.heap.get? l = some (listO vs m) ∧ RepAll X' s'.heap vs ds)
    ?_ (ds.length + 1) ⟨0, _, .none, rfl, Nat.zero_le _, F₃, fun a ha => List.mem_append_left _ ha, hlY, he₃, hit₃, hk₃ _ _ hlo, hr₃⟩
  rintro r s₄ ⟨i, X₄, old, rfl, hiK, F₄, hin, hl₄, he₄, hit₄, hlo₄, hr₄⟩
  have hlen := hr₄.length
  obtain ⟨oI, hoI, hcI, hdI⟩ := id hit₄
  have duI : Dull oI := dull_fields hdI (by rw [hcI]; exact nofun) (fun q t e => by simp at e)
  have duEn : Dull { cls := .type "enumerate", data := .fields #[.none, .bool false, .ref I, rawInt i, .none, old] } := dull_fields rfl nofun (fun q t e => by simp at e)
  have inI : I ∈ X₄ := hin I (.tail _ (.head _))
  have inE : I + 1 ∈ X₄ := hin _ (.head _)
  obtain ⟨apL, apC, apρ⟩ := apart I (Nat.le_refl I)
  obtain ⟨aeL, aeC, aeρ⟩ := apart (I + 1) (Nat.le_add_right I 1)
  cases hd : ds[i]? with
  | none =>
    have hiD : ds.length ≤ i := by simpa using hd
    refine wpAny_pyNext_enum_end F₄.ok.bd.hd he₄ hit₄ ⟨_, hlo₄, rfl, _, rfl⟩ (by simp; omega) fun h₅ hs₅ => wpAny_execs_nil ?_
    exact k _ _ ((F₄.gone (tk := s₄.toks) inI h0I hoI duI apL apC apρ hs₅).sub (hend (by omega)))
  | some d =>
    obtain ⟨v, hv, rv⟩ := hr₄.get hd
    have hid := (List.getElem?_eq_some_iff.mp hd).1
    refine wpAny_pyNext_enum_item he₄ hit₄ ⟨_, hlo₄, rfl, _, rfl⟩ (by simpa using hv) hne fun h₅ heo hit₅ ht₅ hz₅ hk₅ => ?_
    refine wpAny_letOwnedTupleGo_enum heo fun h₆ he₆ hs₆ => ?_
    replace hs₆ : Heap.SameBut (I + 1) h₅ h₆ := hs₆
    have hE₄ : I + 1 < s₄.heap.objs.size := Heap.lt_size he₄
    have ht₆ : h₆.IsTuple s₄.heap.objs.size #[.int i s₄.toks, v] := ⟨_, (hs₆.2 _ (Nat.ne_of_gt hE₄)).trans ht₅, rfl, _, rfl⟩
    refine wpAny_assign_Tuple F₄.ok.bd.hd ht₆ rfl rfl fun h₇ hs₇ => ?_
    replace hs₇ : Heap.ExtBut h₆.objs.size h₆ h₇ := hs₇
    have last : ∀ b o, h₆.get? b = some o → h₇.get? b = some o := fun b o q => hs₇ b o (Nat.ne_of_lt (Heap.lt_size q)) q
    have kp : ∀ b o, b ∉ [I + 1, I] → s₄.heap.get? b = some o → h₇.get? b = some o := fun b o hb q =>
      have h1 : b ≠ I + 1 := fun z => hb (z ▸ .head _)
      have h2 : b ≠ I := fun z => hb (z ▸ .tail _ (.head _))
      last b o (hs₆.extBut b o h1 (hk₅ b o h1 h2 q))
    have he₇ : IsEnum h₇ (I + 1) I ((i : Int) + 1) v := last _ _ he₆
    have hit₇ : h₇.IsListIter I l (i + 1) := by
      obtain ⟨o, q, r⟩ := hit₅; exact ⟨o, last _ _ (hs₆.extBut I o (Ne.symm hne) q), r⟩
    have F₇ := F₄.buts (h' := h₇) (tk := s₄.toks + 1) [I + 1, I] (fun a ha => by
      rcases List.mem_cons.mp ha with rfl | ha
      · exact ⟨inE, h0E, ⟨_, he₄, duEn⟩, ⟨_, he₇⟩, aeL, aeC, aeρ⟩
      · rw [List.mem_singleton.mp ha]
        obtain ⟨o, q, _⟩ := hit₇
        exact ⟨inI, h0I, ⟨oI, hoI, duI⟩, ⟨o, q⟩, apL, apC, apρ⟩) kp
    have nin : ∀ {b : Addr}, b ∉ X₄ → b ∉ [I + 1, I] := fun h q => h (hin _ q)
    have kX : ∀ b ob, b ∉ X₄ → s₄.heap.get? b = some ob → b ∉ X₄ ∧ h₇.get? b = some ob := fun b ob hb q => ⟨hb, kp b ob (nin hb) q⟩
    have T₇ := F₇.turn
    show wpAny _ A (assignInOrder [assign (.Name xi pi) env, assign (.Name xc pc) env] [.int i s₄.toks, v]) _ _ { s₄ with heap := h₇, toks := s₄.toks + 1 }
    have hlo₇ := (kX _ _ hl₄ hlo₄).2
    have hr₇ := hr₄.to kX
    have rv₇ := rv.to kX
    generalize hS : ({ s₄ with heap := h₇, toks := s₄.toks + 1 } : Shared) = s₇ at F₇ T₇
    have hSh : s₇.heap = h₇ := by rw [← hS]
    rw [← hSh] at he₇ hit₇ hlo₇ hr₇ rv₇
    unfold assignInOrder
    refine wpAny_bind (wpAny_holding (wpAny_assign_Name (T₇.store (l := .dat (.int i)) (no_name hxi) hi (.int _ _) (fun _ e => nomatch e) fun s₈ F₈ => ?_)))
    unfold assignInOrder
    refine wpAny_bind (wpAny_holding (wpAny_assign_Name (F₈.store (l := .dat d) (fun p hp => (List.mem_cons.mp hp).elim (fun e => e ▸ hic) (no_name hxc p)) hc (rv₇.to fun b ob hb q => ⟨hb, F₈.ex.keep b ob (fun z => hb (T₇.zx b z)) q⟩) (fun _ e => nomatch e) fun s₉ F₉ => ?_)))
    unfold assignInOrder
    refine wpAny_pure ?_
    rcases Nat.lt_or_ge i K with hlK | hge
    · refine hb i d hlK hd A env _ _ _ _ s₉ _ _ F₉ fun X' s' F' => ⟨ds.length + 1 - (i + 1), by omega, i + 1, X', v, rfl, hlK, F₇.back F', fun a ha => F'.lo a (hin a ha), ?_, ?_, ?_, ?_, ?_⟩
      · exact fun q => (F'.hi l q).elim hl₄ fun z => by rw [hlo₇] at z; cases z
      · exact F'.ex.keep _ _ (hnT _ (Nat.le_add_right I 1)) he₇
      · obtain ⟨o, q, r⟩ := hit₇; exact ⟨o, F'.ex.keep I o (hnT I (Nat.le_refl I)) q, r⟩
      · exact F'.ex.keep l _ (fun z => hl₄ (T₇.zx l z)) hlo₇
      · exact hr₇.to fun b ob hb q => ⟨fun z => (F'.hi b z).elim hb fun w => (by rw [q] at w; cases w), F'.ex.keep b ob (fun z => hb (T₇.zx b z)) q⟩
    · have e : i = K := Nat.le_antisymm hiK hge
      subst e
      exact hbr d hd A env _ _ _ _ s₉ _ _ F₉ fun X' s' F' => k X' s' (F₇.back F')
end
end Mine
end

noncomputable section
namespace Mine
theorem m_owner : Manifest.owners.lookup (String.ofList ['p', 'a', 'm'].reverse) = some Manifest.sig_map := by kernel_rfl
theorem m_slot_init : Slot "map" "__init__" "object.__init__" :=
  .of (owner := "object") (n := "__init__") (by rw [typeLookup_type, builtinLookup_eq_fast]; kernel_rfl) (by decide +kernel) (by decide +kernel) (by decide +kernel)
    (by first | exact .inl (by decide +kernel) | exact .inr (by decide +kernel)) (by rw [isSubtype_type]; kernel_rfl)
theorem m_slot_next : Slot "map" "__next__" "map.__next__" :=
  .of (owner := "map") (n := "__next__") (by rw [typeLookup_type, builtinLookup_eq_fast]; kernel_rfl) (by decide +kernel) (by decide +kernel) (by decide +kernel)
    (by first | exact .inl (by decide +kernel) | exact .inr (by decide +kernel)) (by rw [isSubtype_type]; kernel_rfl)
theorem m_slot_iter : Slot "map" "__iter__" "map.__iter__" :=
  .of (owner := "map") (n := "__iter__") (by rw [typeLookup_type, builtinLookup_eq_fast]; kernel_rfl) (by decide +kernel) (by decide +kernel) (by decide +kernel)
    (by first | exact .inl (by decide +kernel) | exact .inr (by decide +kernel)) (by rw [isSubtype_type]; kernel_rfl)
theorem m_args_next (a : Value) : argsOk "map.__next__" ⟨[a], []⟩ := by
  unfold argsOk; rw [signature?_of (id := "map.__next__") (n := ['_', '_', 't', 'x', 'e', 'n', '_', '_']) (o := ['p', 'a', 'm']) (by kernel_rfl) m_owner]; kernel_rfl
theorem m_args_iter (a : Value) : argsOk "map.__iter__" ⟨[a], []⟩ := by
  unfold argsOk; rw [signature?_of (id := "map.__iter__") (n := ['_', '_', 'r', 'e', 't', 'i', '_', '_']) (o := ['p', 'a', 'm']) (by kernel_rfl) m_owner]; kernel_rfl
theorem m_entry_iter : entryFor table "map.__iter__" = some Builtin.«dict_keyiterator.__iter__» :=
  entryFor_alias (id' := "dict_keyiterator.__iter__") (by kernel_rfl) (by first | rfl | decide +kernel | (unfold String.splitOn; simp +decide [String.splitOnAux])) (by decide +kernel) (by kernel_rfl)
theorem m_entry_next : entryFor table "map.__next__" = some Builtin.«map.__next__» := entryFor_of_tree (by kernel_rfl)
theorem m_entry_new : entryFor table "map.__new__" = some Builtin.«map.__new__» := entryFor_of_tree (by kernel_rfl)
theorem m_mro : mroOf (.type "map") = pure [.type "map", .type "object"] := by rw [mroOf_type]; kernel_rfl
theorem m_lookup_new : typeLookup (.type "map") "__new__" = pure (some (.builtin "map.__new__")) := by rw [typeLookup_type, builtinLookup_eq_fast]; kernel_rfl
theorem m_called : TypeCalled "map" "map.__new__" "object.__init__" :=
  ⟨by decide +kernel, by decide +kernel, ⟨_, _, m_mro⟩, madeBy_type m_mro m_lookup_new (by decide +kernel), by decide +kernel, by rw [isSubtype_type]; kernel_rfl, m_slot_init⟩
theorem m_typeCall (a b : Value) : checkTypeCall "map" ⟨[a, b], []⟩ = pure () := by kernel_rfl
theorem m_newCall (a b : Value) : checkBuiltinCall "map.__new__" ⟨[.type "map", a, b], []⟩ = pure () := by kernel_rfl
theorem m_sub : isSubtype (.type "map") (.type "map") = pure true := by rw [isSubtype_type]; kernel_rfl
theorem m_no_len : typeLookup (.type "map") "__len__" = pure none := by rw [typeLookup_type, builtinLookup_eq_fast]; kernel_rfl
theorem m_no_hint : typeLookup (.type "map") "__length_hint__" = pure none := by rw [typeLookup_type, builtinLookup_eq_fast]; kernel_rfl
noncomputable abbrev mapO (T : Addr) (f : Value) : Obj := { cls := .type "map", data := .fields #[.ref T, f] }
noncomputable abbrev itO (l : Addr) (i : Nat) : Obj := { cls := .type "list_iterator", data := .fields #[.ref l, .int i 0] }
theorem m_new (l : Addr) (xs : Array Value) (f : Value) :
    Meets (Builtin.«map.__new__» ⟨[.type "map", f, .ref l], []⟩) (fun _ R s => s.heap.IsList l xs ∧
      R (.ok (.ret (.ref (s.heap.objs.size + 2)))) { s with heap := ((s.heap.push (itO l 0)).push (tupO [.ref s.heap.objs.size] 0)).push (mapO (s.heap.objs.size + 1) f) }) :=
  .of_wp fun prog w A R s h => by
    obtain ⟨hp, g, d, tk, os⟩ := s; obtain ⟨hl, h⟩ := h
    have hsub := m_sub
    have hL : Heap.IsList (Shared.heap ⟨hp, g, d, tk, os⟩) l xs := hl
    have e1 : (hp.push (itO l 0)).objs.size = hp.objs.size + 1 := Heap.size_push ..
    have e2 : ((hp.push (itO l 0)).push (tupO [.ref hp.objs.size] 0)).objs.size = hp.objs.size + 2 := by rw [Heap.size_push, e1]
    wp_walk using wpAny_pyIter_list hL
    refine ⟨_, rfl, ?_⟩
    simp only [Shared.heap] at h
    rw [← e1] at h
    rw [show hp.objs.size + 2 = _ from e2.symm] at h
    exact h
end Mine
end

noncomputable section
namespace Mine
structure MapJ (g : Gl) (X : List Addr) (s : Shared) (fa m T it l D : Addr) (vs : List Value) (n : Nat) (ds : List PyData) (i : Nat) (acc : List Value) (es : List PyData) (s' : Shared) : Prop where
  ex : Ex s s'
  tp : Tp g.K s'.heap
  tab : TabOk s'.heap
  live : Lives g.K (D :: it :: X) s'.heap
  hm : s'.heap.get? m = some (mapO T (.ref fa))
  hT : s'.heap.get? T = some (tupO [.ref it] 0)
  hi : s'.heap.IsListIter it l i
  hl : s'.heap.get? l = some (listO vs n)
  hD : ∃ c, s'.heap.get? D = some (listO acc c)
  rv : RepAll (D :: it :: X) s'.heap vs ds
  ra : RepAll (D :: it :: X) s'.heap acc es
section
variable {g : Gl} {n : Nat} {A : Around} {E : Value → Shared → Prop} {s s' : Shared} {X : List Addr} {fa m T it l D : Addr} {vs acc : List Value} {k : Nat} {ds es : List PyData} {G : PyData → PyData} {i : Nat}
theorem m_notIn {a : Addr} {o : Obj} {h : Heap} {Y : List Addr} (hl : ∀ b ∈ Y, h.get? b ≠ some o) (e : h.get? a = some o) : a ∉ Y := fun q => hl a q e
theorem map_next (hF : ∀ d ∈ ds, Does g n (fun vs => call (.ref fa) vs) [.dat d] (isD (G d))) (B : Bd (n + 2) A) (hX : PT ∈ X) (hnm : m ∉ D :: it :: X) (hnT : T ∉ D :: it :: X) (hnl : l ∉ D :: it :: X) (hDi : D ≠ it)
    (hiP : it ≠ PT) (hDP : D ≠ PT) (hf : s.heap.get? it = none) (J : MapJ g X s fa m T it l D vs k ds i acc es s') {d : PyData} (hd : ds[i]? = some d) {Q : Option Value → Shared → Prop}
    (kk : ∀ v s'', MapJ g X s fa m T it l D vs k ds (i + 1) acc es s'' → Rep (D :: it :: X) s''.heap v (G d) → Q (some v) s'') : wpAny g.M A (pyNext (.ref m)) Q E s' := by
  have hTm : s'.TypeIs (.ref m) "map" := ⟨_, J.hm, rfl⟩
  obtain ⟨v, hv, rv⟩ := J.rv.get hd
  unfold pyNext
  refine wpAny_bind (wpAny_attempt (wpAny_callSpecial?_slot (name := Str.ofString "__next__") hTm m_slot_next (wpAny_call_entry m_slot_next hTm m_entry_next ?_ (m_args_next _))))
  show wpAny _ _ (field (.ref m) 0 >>= _) _ _ _
  refine wpAny_bind (wpAny_field J.hm rfl (x := .ref T) rfl ?_)
  refine wpAny_bind (wpAny_seqItems J.hT rfl ?_)
  dsimp only
  rw [← Array.forIn_toList]
  show wpAny _ _ (forIn [Value.ref it] _ _ >>= _) _ _ _
  rw [List.forIn_cons]
  refine wpAny_bind (wpAny_bind (wpAny_bind (wpAny_holding (wpAny_nextOf_list_item (items := vs.toArray) J.hi ⟨_, J.hl, rfl, _, rfl⟩ (x := v) (by simpa using hv) fun h₁ hi₁ hs₁ => ?_))))
  refine wpAny_pure ?_
  show wpAny _ _ (forIn [] _ _) _ _ _
  rw [List.forIn_nil]
  refine wpAny_pure ?_
  have hs : Heap.ExtBut it s'.heap h₁ := Heap.SameBut.extBut hs₁
  obtain ⟨oi, hoi, hci, hdi⟩ := id J.hi
  have hdu : Dull oi := fun us q => by
    refine ⟨by rw [hci]; exact nofun, ?_⟩
    rw [hdi] at q; cases q
    intro q t e; simp at e
  have u₁ : Up [it] s' { s' with heap := h₁, toks := s'.toks } := Up.but1 hs hoi hdu
  have ne : ∀ {a : Addr}, a ∉ D :: it :: X → a ≠ it := fun h q => h (by rw [q]; exact .tail _ (.head _))
  have hm₁ := hs _ _ (ne hnm) J.hm
  refine wpAny_bind ?_
  show wpAny _ _ (field (.ref m) 1) _ _ { s' with heap := h₁ }
  refine wpAny_field hm₁ rfl (x := .ref fa) rfl ?_
  have kp : ∀ b ob, b ∉ D :: it :: X → s'.heap.get? b = some ob → b ∉ D :: it :: X ∧ h₁.get? b = some ob := fun b ob hb q => ⟨hb, hs b ob (ne hb) q⟩
  have it0 : g.K.lookup it = none ∧ it ≠ mainGlobals ∧ it ≠ builtinsNs ∧ it ≠ cStatics := (J.live it (.tail _ (.head _))).2
  have tp₁ : Tp g.K h₁ := J.tp.but hs it0.1 it0.2.1 it0.2.2.1 it0.2.2.2
  have live₁ : Lives g.K (D :: it :: X) h₁ := J.live.up u₁ fun a ha => by rw [List.mem_singleton.mp ha]; obtain ⟨o, e, _⟩ := hi₁; exact ⟨o, e⟩
  have hPm : PT ∈ D :: it :: X := .tail _ (.tail _ hX)
  refine wpAny_bind (wpAny_holding ?_)
  refine hF d (List.mem_of_getElem? hd) A.in1 (D :: it :: X) { s' with heap := h₁ } [v] _ _ (B.in1.less (by omega)) tp₁ (u₁.tab J.tab) hPm live₁ (.cons (rv.to kp) .nil) fun r s₂ u₂ hr => ?_
  refine wpAny_bind (wpAny_letGo (wpAny_pure ⟨r, rfl, ?_⟩))
  have nP : ∀ {a : Addr} {o : Obj}, a ∉ D :: it :: X → a ∉ [PT] := fun h q => h (by rw [List.mem_singleton.mp q]; exact hPm)
  have k2 : ∀ {a : Addr} {o : Obj}, a ∉ D :: it :: X → s'.heap.get? a = some o → s₂.heap.get? a = some o := fun h e => u₂.keep _ _ (nP (o := default) h) (kp _ _ h e).2
  have kpX : ∀ b ob, b ∉ D :: it :: X → h₁.get? b = some ob → b ∉ D :: it :: X ∧ s₂.heap.get? b = some ob := fun b ob hb q => ⟨hb, u₂.keep b ob (nP (o := default) hb) q⟩
  obtain ⟨c, hD⟩ := J.hD
  refine wpAny_pure (kk r s₂ ⟨?_, tp₁.up (u₁.tab J.tab) u₂, u₂.tab (u₁.tab J.tab), ?_, k2 hnm J.hm, k2 hnT J.hT, ?_, k2 hnl J.hl, ⟨c, ?_⟩, (J.rv.to kp).to kpX, ?_⟩ hr)
  · exact (J.ex.from u₁ fun a ha => .inr (by rw [List.mem_singleton.mp ha]; exact hf)).trans u₂
  · exact live₁.up u₂ fun a ha => by rw [List.mem_singleton.mp ha]; exact (u₂.tab (u₁.tab J.tab)).live
  · obtain ⟨o, e, r⟩ := hi₁; exact ⟨o, u₂.keep it o (fun q => hiP (List.mem_singleton.mp q)) e, r⟩
  · exact u₂.keep D _ (fun q => hDP (List.mem_singleton.mp q)) (hs D _ hDi hD)
  · exact (J.ra.to kp).to kpX
theorem map_end (B : Bd (n + 2) A) (hi : ds.length ≤ i) (hf : s.heap.get? it = none) (J : MapJ g X s fa m T it l D vs k ds i acc es s') {Q : Option Value → Shared → Prop}
    (kk : ∀ s'', Ex s s'' → RepAll (D :: it :: X) s''.heap acc es → (∀ b o, b ∉ [it] → s'.heap.get? b = some o → s''.heap.get? b = some o) → Q none s'') : wpAny g.M A (pyNext (.ref m)) Q E s' := by
  have hTm : s'.TypeIs (.ref m) "map" := ⟨_, J.hm, rfl⟩
  have hlen := J.rv.length
  unfold pyNext
  refine wpAny_bind (wpAny_attempt (wpAny_callSpecial?_slot (name := Str.ofString "__next__") hTm m_slot_next (wpAny_call_entry m_slot_next hTm m_entry_next ?_ (m_args_next _))))
  show wpAny _ _ (field (.ref m) 0 >>= _) _ _ _
  refine wpAny_bind (wpAny_field J.hm rfl (x := .ref T) rfl ?_)
  refine wpAny_bind (wpAny_seqItems J.hT rfl ?_)
  dsimp only
  rw [← Array.forIn_toList]
  show wpAny _ _ (forIn [Value.ref it] _ _ >>= _) _ _ _
  rw [List.forIn_cons]
  refine wpAny_bind (wpAny_bind (wpAny_bind (wpAny_holding (wpAny_nextOf_list_end (A := A.in1) (items := vs.toArray) B.in1.hd J.hi ⟨_, J.hl, rfl, _, rfl⟩ (by simp; omega) fun h₁ e hs hx => ?_))))
  obtain ⟨oi, hoi, hci, hdi⟩ := id J.hi
  have hdu : Dull oi := fun us q => by
    refine ⟨by rw [hci]; exact nofun, ?_⟩
    rw [hdi] at q; cases q
    intro q t e; simp at e
  have u₁ : Up [it] s' { s' with heap := h₁, toks := s'.toks } := Up.but1 hs hoi hdu
  obtain ⟨o, ho, hc⟩ := hx
  refine wpAny_bind (wpAny_isInstance (T := "StopIteration") (b := true) ⟨o, ho, hc⟩ isSubtype_stop ?_)
  refine wpAny_pure (kk _ (J.ex.from u₁ fun a ha => .inr (by rw [List.mem_singleton.mp ha]; exact hf)) (J.ra.to fun b ob hb q => ⟨hb, hs b ob (fun q => hb (by rw [q]; exact .tail _ (.head _))) q⟩) fun b o hb e => hs b o (fun q => hb (by rw [q]; exact .head _)) e)
end
end Mine
end

noncomputable section
namespace Mine
section
variable {g : Gl} {n : Nat} {A : Around} {E : Value → Shared → Prop} {s s' : Shared} {X : List Addr} {fa m T it l D : Addr} {vs acc : List Value} {k : Nat} {ds es : List PyData} {G : PyData → PyData} {i : Nat}
theorem MapJ.write {v : Value} {d : PyData} (J : MapJ g X s fa m T it l D vs k ds i acc es s') (hv : Rep (D :: it :: X) s'.heap v d) (hnm : m ∉ D :: it :: X) (hnT : T ∉ D :: it :: X) (hnl : l ∉ D :: it :: X) (hDi : D ≠ it) (hfD : s.heap.get? D = none) :
    MapJ g X s fa m T it l D vs k ds i (acc ++ [v]) (es ++ [d]) { s' with heap := s'.heap.update D (Obj.mapSeq (·.push v)) } := by
  obtain ⟨c, hD⟩ := J.hD
  obtain ⟨m', e⟩ := upd_list (us := acc ++ [v]) (f := fun x => x.push v) hD (by simp)
  have hs : Heap.ExtBut D s'.heap (s'.heap.update D (Obj.mapSeq fun x => x.push v)) := (Heap.SameBut.update ..).extBut
  have u : Up [D] s' { s' with heap := s'.heap.update D (Obj.mapSeq fun x => x.push v), toks := s'.toks } := Up.but1 hs hD Dull.seq
  have D0 := (J.live D (.head _)).2
  have ne : ∀ {a : Addr}, a ∉ D :: it :: X → a ≠ D := fun h q => h (by rw [q]; exact .head _)
  have kp : ∀ b ob, b ∉ D :: it :: X → s'.heap.get? b = some ob → b ∉ D :: it :: X ∧ (s'.heap.update D (Obj.mapSeq fun x => x.push v)).get? b = some ob := fun b ob hb q => ⟨hb, hs b ob (ne hb) q⟩
  exact ⟨J.ex.from u fun a ha => .inr (by rw [List.mem_singleton.mp ha]; exact hfD), J.tp.but hs D0.1 D0.2.1 D0.2.2.1 D0.2.2.2, u.tab J.tab,
    J.live.up u fun a ha => by rw [List.mem_singleton.mp ha]; exact ⟨_, e⟩, (kp _ _ hnm J.hm).2, (kp _ _ hnT J.hT).2, let ⟨o, q, r⟩ := J.hi; ⟨o, hs it o (Ne.symm hDi) q, r⟩, (kp _ _ hnl J.hl).2, ⟨_, e⟩,
    J.rv.to kp, RepAll.append (.one (hv.to kp)) (J.ra.to kp)⟩
theorem map_loop (hF : ∀ d ∈ ds, Does g n (fun vs => call (.ref fa) vs) [.dat d] (isD (G d))) (B : Bd (n + 3) A) (hX : PT ∈ X) (hnm : m ∉ D :: it :: X) (hnT : T ∉ D :: it :: X) (hnl : l ∉ D :: it :: X) (hDi : D ≠ it)
    (hiP : it ≠ PT) (hDP : D ≠ PT) (hf : s.heap.get? it = none) (hfD : s.heap.get? D = none) (hz : ds.length ≤ 1000000) {res : Value} {R : Result → Shared → Prop}
    (kk : ∀ s'' acc', Ex s s'' → RepAll (D :: it :: X) s''.heap acc' (ds.map G) → (∃ c, s''.heap.get? D = some (listO acc' c)) → R (.ok (.ret res)) s'') :
    ∀ (r i : Nat) (s' : Shared) (acc : List Value), ds.length - i = r → i ≤ ds.length → MapJ g X s fa m T it l D vs k ds i acc ((ds.take i).map G) s' → codeAny g.M A (.builtin "list.extend.loop" ⟨[.ref D, .ref m, res], []⟩) R s' := by
  have B1 : Bd (n + 2) A.in1 := B.in1
  intro r
  induction r with
  | zero =>
    intro i s' acc hr hi J
    have e : i = ds.length := by omega
    subst e
    refine codeAny_builtin F.entry_extend_loop ?_
    rw [Around.under_plainId F.plain_extend_loop _]
    show wpAny _ A.in1 (pyNext (.ref m) >>= _) _ _ s'
    obtain ⟨c, hD⟩ := J.hD
    refine wpAny_bind (map_end B1 (Nat.le_refl _) hf J fun s'' u ra kp => ?_)
    exact wpAny_pure (kk s'' acc u (by rw [List.take_length] at ra; exact ra) ⟨c, kp D _ (fun q => hDi (List.mem_singleton.mp q)) hD⟩)
  | succ r ih =>
    intro i s' acc hr hi J
    have hlt : i < ds.length := by omega
    refine codeAny_builtin F.entry_extend_loop ?_
    rw [Around.under_plainId F.plain_extend_loop _]
    show wpAny _ A.in1 (pyNext (.ref m) >>= _) _ _ s'
    refine wpAny_bind (map_next hF B1 hX hnm hnT hnl hDi hiP hDP hf J (List.getElem?_eq_getElem hlt) fun v s'' J' hv => ?_)
    show wpAny _ A.in1 (updateSeq D (·.push v) >>= _) _ _ _
    obtain ⟨c, hD⟩ := J'.hD
    have hal : acc.length = i := by have := J'.ra.length; simp at this; omega
    refine wpAny_bind (wpAny_updateSeq hD rfl (wpAny_pure ⟨plainId_quiet F.plain_extend_loop _, ih (i + 1) _ (acc ++ [v]) (by omega) hlt ?_⟩) (by rw [List.size_toArray, sizeLine_eq]; omega) (by rw [Array.size_push, List.size_toArray, sizeLine_eq]; omega))
    have := J'.write hv hnm hnT hnl hDi hfD
    rw [List.take_add_one, List.getElem?_eq_getElem hlt, List.map_append]
    exact this
theorem map_collect (hF : ∀ d ∈ ds, Does g n (fun vs => call (.ref fa) vs) [.dat d] (isD (G d))) (B : Bd (n + 4) A) (hT : Tp g.K s.heap) (ht : TabOk s.heap) (hX : PT ∈ X) (hl : Lives g.K X s.heap) (hr : Rep X s.heap (.ref l) (.list ds)) (hz : ds.length ≤ 1000000)
    {Q : List Value → Shared → Prop} (kk : ∀ s' acc, Ex s s' → RepAll X s'.heap acc (ds.map G) → Q acc s') :
    wpAny g.M A (collect (.ref (s.heap.objs.size + 2))) Q E { s with heap := ((s.heap.push (itO l 0)).push (tupO [.ref s.heap.objs.size] 0)).push (mapO (s.heap.objs.size + 1) (.ref fa)) } := by
  obtain ⟨_, vs, k, e, hlX, hlo, hvs⟩ := Rep.inv_list hr
  cases e
  obtain ⟨it, hit⟩ : ∃ it : Nat, s.heap.objs.size = it := ⟨_, rfl⟩
  have z1 : (s.heap.push (itO l 0)).objs.size = it + 1 := by rw [Heap.size_push, hit]
  have z2 : ((s.heap.push (itO l 0)).push (tupO [.ref it] 0)).objs.size = it + 2 := by rw [Heap.size_push, z1]
  have z3 : (((s.heap.push (itO l 0)).push (tupO [.ref it] 0)).push (mapO (it + 1) (.ref fa))).objs.size = it + 3 := by rw [Heap.size_push, z2]
  have fr : ∀ a, it ≤ a → s.heap.get? a = none := fun a ha => by
    cases e : s.heap.get? a with
    | none => rfl
    | some o' => exact absurd (Heap.lt_size e) (Nat.not_lt.mpr (hit ▸ ha))
  have frX : ∀ a, it ≤ a → a ∉ X := fun a ha => hl.get (fr a ha)
  have hlt : Nat.lt l it := hit ▸ Heap.lt_size hlo
  rw [hit]
  unfold collect
  refine wpAny_bind (wpAny_runValue (codeAny_builtin F.entry_proto_collect ?_))
  rw [Around.under_plainId F.plain_proto_collect _]
  show wpAny _ A.in1 (newList [] >>= fun l => again (.builtin "list.__iadd__" ⟨[l, .ref (it + 2)], []⟩)) _ _ _
  refine wpAny_bind (wpAny_newObj_type ?_)
  refine wpAny_pure ⟨plainId_quiet F.plain_list_iadd _, codeAny_builtin F.entry_list_iadd ?_⟩
  rw [Around.under_plainId F.plain_list_iadd _]
  show wpAny _ A.in1 (Builtin.List.listExtendWith (.ref (((s.heap.push (itO l 0)).push (tupO [.ref it] 0)).push (mapO (it + 1) (.ref fa))).objs.size) (.ref (it + 2)) (.ref (((s.heap.push (itO l 0)).push (tupO [.ref it] 0)).push (mapO (it + 1) (.ref fa))).objs.size)) _ _ _
  have g0 : (((s.heap.push (itO l 0)).push (tupO [.ref it] 0)).push (mapO (it + 1) (.ref fa))).get? it = some (itO l 0) := by
    have := Heap.get?_push_size s.heap (o := itO l 0) rfl
    rw [hit] at this
    exact Heap.get?_push_of_some _ (Heap.get?_push_of_some _ this)
  have g1 : (((s.heap.push (itO l 0)).push (tupO [.ref it] 0)).push (mapO (it + 1) (.ref fa))).get? (it + 1) = some (tupO [.ref it] 0) := by
    have := Heap.get?_push_size (s.heap.push (itO l 0)) (o := tupO [.ref it] 0) rfl
    rw [z1] at this
    exact Heap.get?_push_of_some _ this
  have g2 : (((s.heap.push (itO l 0)).push (tupO [.ref it] 0)).push (mapO (it + 1) (.ref fa))).get? (it + 2) = some (mapO (it + 1) (.ref fa)) := by
    have := Heap.get?_push_size ((s.heap.push (itO l 0)).push (tupO [.ref it] 0)) (o := mapO (it + 1) (.ref fa)) rfl
    rw [z2] at this
    exact this
  have old : ∀ b o, s.heap.get? b = some o → (((s.heap.push (itO l 0)).push (tupO [.ref it] 0)).push (mapO (it + 1) (.ref fa))).get? b = some o := fun b o e => Heap.get?_push_of_some _ (Heap.get?_push_of_some _ (Heap.get?_push_of_some _ e))
  rw [z3]
  generalize ((s.heap.push (itO l 0)).push (tupO [.ref it] 0)).push (mapO (it + 1) (.ref fa)) = H at g0 g1 g2 old z3
  have hD0 : (H.push (listO [] 0)).get? (it + 3) = some (listO [] 0) := by have := Heap.get?_push_size H (o := listO [] 0) rfl; rw [z3] at this; exact this
  have up : ∀ {b o}, H.get? b = some o → (H.push (listO [] 0)).get? b = some o := fun e => Heap.get?_push_of_some _ e
  show wpAny _ A.in1 _ _ _ { s with heap := H.push (listO [] 0) }
  have hTy : ({ s with heap := H.push (listO [] 0) } : Shared).TypeIs (.ref (it + 2)) "map" := ⟨_, up g2, rfl⟩
  unfold Builtin.List.listExtendWith
  refine wpAny_bind (wpAny_typeOf hTy ?_)
  have h1 : Builtin.List.listSameRef (.ref (it + 3)) (.ref (it + 2)) = false := by simp [Builtin.List.listSameRef]
  have h2 : (Value.type "map" == Value.type "list") = false := by decide
  have h3 : (Value.type "map" == Value.type "tuple") = false := by decide
  simp only [h1, h2, h3, Bool.or_false, Bool.false_eq_true, if_false]
  refine wpAny_bind (wpAny_pyIter_slot hTy m_slot_iter (wpAny_call_entry m_slot_iter hTy m_entry_iter ?_ (m_args_iter _)))
  show wpAny _ _ (ret (.ref (it + 2))) _ _ _
  refine wpAny_pure ⟨_, rfl, "map", _, hTy, m_slot_next.lookup, ?_⟩
  refine wpAny_bind (wpAny_holding ?_)
  unfold Builtin.List.listLengthHint
  refine wpAny_bind (wpAny_specialOf hTy m_no_len ?_)
  show wpAny _ A.in1 (specialOf (Value.ref (it + 2)) (Str.ofString "__length_hint__") >>= _) _ _ _
  refine wpAny_bind (wpAny_specialOf hTy m_no_hint ?_)
  refine wpAny_pure ?_
  show wpAny _ A.in1 (rule "list.extend.makes-room" >>= fun _ => Builtin.List.listTouch (.ref (it + 3)) >>= fun _ =>
    again (.builtin "list.extend.loop" ⟨[.ref (it + 3), .ref (it + 2), .ref (it + 3)], []⟩)) _ _ _
  refine wpAny_bind (wpAny_rule ?_)
  refine wpAny_bind ?_
  show wpAny _ A.in1 (updateSeq (it + 3) (·.push .none) >>= fun _ => updateSeq (it + 3) (·.pop)) _ _ _
  refine wpAny_bind (wpAny_updateSeq hD0 rfl ?_)
  have hS₂ := Heap.get?_update_self (Obj.mapSeq (·.push Value.none)) hD0 rfl
  refine wpAny_updateSeq hS₂ rfl ?_
  have hS₃ := Heap.get?_update_self (Obj.mapSeq (·.pop)) hS₂ rfl
  have oth : ∀ b o, b ≠ it + 3 → (H.push (listO [] 0)).get? b = some o →
      (((H.push (listO [] 0)).update (it + 3) (Obj.mapSeq (·.push Value.none))).update (it + 3) (Obj.mapSeq (·.pop))).get? b = some o :=
    fun b o hb e => (Heap.get?_update_other _ _ (Ne.symm hb)).trans ((Heap.get?_update_other _ _ (Ne.symm hb)).trans e)
  generalize (((H.push (listO [] 0)).update (it + 3) (Obj.mapSeq (·.push Value.none))).update (it + 3) (Obj.mapSeq (·.pop))) = H' at hS₃ oth
  have old' : ∀ b o, s.heap.get? b = some o → H'.get? b = some o := fun b o e => oth b o (fun q => by have := fr (it + 3) (by omega); rw [q, this] at e; cases e) (up (old b o e))
  have u : Ex s { s with heap := H', toks := s.toks } := Up.heap old'
  have nin : ∀ {a : Addr}, it ≤ a → a ≠ it + 3 → a ≠ it → a ∉ (it + 3) :: it :: X := fun h h1 h2 q => (List.mem_cons.mp q).elim h1 fun q => (List.mem_cons.mp q).elim h2 (frX _ h)
  have more : ∀ a ∈ (it + 3) :: it :: X, a ∈ X ∨ s.heap.get? a = none := fun a ha => (List.mem_cons.mp ha).elim (fun e => .inr (fr a (by omega))) fun ha => (List.mem_cons.mp ha).elim (fun e => .inr (fr a (by omega))) .inl
  have hlm : l ∉ (it + 3) :: it :: X := fun q => (List.mem_cons.mp q).elim (fun e => Nat.lt_irrefl it (Nat.lt_of_le_of_lt (Nat.le_add_right it 3) (e ▸ hlt))) fun q => (List.mem_cons.mp q).elim (fun e => Nat.lt_irrefl it (e ▸ hlt)) hlX
  have hPl : 173 < it := by
    obtain ⟨o, e⟩ := ht.live
    rcases Nat.lt_or_ge 173 it with h | h
    · exact h
    · rw [fr _ h] at e; cases e
  have J : MapJ g X s fa (it + 2) (it + 1) it l (it + 3) vs k ds 0 [] [] { s with heap := H', toks := s.toks } :=
    ⟨u, hT.up ht u, u.tab ht, fun a ha => by
      rcases List.mem_cons.mp ha with rfl | ha
      · exact ⟨⟨_, hS₃⟩, hT.new (fr _ (by omega))⟩
      rcases List.mem_cons.mp ha with rfl | ha
      · exact ⟨⟨_, oth _ _ (by omega) (up g0)⟩, hT.new (fr _ (Nat.le_refl _))⟩
      · obtain ⟨⟨o, e⟩, r⟩ := hl a ha; exact ⟨⟨o, old' a o e⟩, r⟩, oth _ _ (by omega) (up g2), oth _ _ (by omega) (up g1), ⟨_, oth _ _ (by omega) (up g0), rfl, rfl⟩, old' _ _ hlo, ⟨_, by rw [hS₃]; rfl⟩,
      (hvs.more more).to fun b ob hb e => ⟨hb, old' b ob e⟩, .nil⟩
  have q23 : it + 2 ≠ it + 3 := by omega
  have q20 : it + 2 ≠ it := by omega
  have q13 : it + 1 ≠ it + 3 := by omega
  have q10 : it + 1 ≠ it := by omega
  have q30 : it + 3 ≠ it := by omega
  have qiP : it ≠ 173 := by omega
  have qDP : it + 3 ≠ 173 := by omega
  refine wpAny_pure ⟨plainId_quiet F.plain_extend_loop _, map_loop hF (B.less (by omega)) hX (nin (Nat.le_add_right it 2) q23 q20) (nin (Nat.le_add_right it 1) q13 q10) hlm q30 qiP qDP (fr _ (Nat.le_refl _)) (fr _ (Nat.le_add_right it 3)) hz
    (fun s'' acc' u' ra hD => ?_) ds.length 0 _ [] rfl (Nat.zero_le _) J⟩
  obtain ⟨c, hD⟩ := hD
  show wpAny _ A (load (it + 3) >>= _) _ _ s''
  refine wpAny_bind (wpAny_load hD ?_)
  exact wpAny_pure (kk s'' acc' u' (ra.less fun a ha => .tail _ (.tail _ ha)))
end
end Mine
end

noncomputable section
namespace Mine
section
variable {g : Gl} {n : Nat} {A : Around} {E : Value → Shared → Prop} {s s' : Shared} {X : List Addr} {fa l : Addr} {ds : List PyData} {G : PyData → PyData}
noncomputable abbrev mapS (s : Shared) (l : Addr) (f : Value) : Shared := { s with heap := ((s.heap.push (itO l 0)).push (tupO [.ref s.heap.objs.size] 0)).push (mapO (s.heap.objs.size + 1) f) }
theorem map_call {v : Value} {Q : Value → Shared → Prop} (hr : Rep X s.heap v (.list ds)) {f : Value} (h : ∀ l, v = .ref l → Q (.ref (s.heap.objs.size + 2)) (mapS s l f)) : wpAny g.M A (call (.type "map") [f, v]) Q E s := by
  obtain ⟨l, vs, k, rfl, hlX, hlo, hvs⟩ := Rep.inv_list hr
  have z1 : (s.heap.push (itO l 0)).objs.size = s.heap.objs.size + 1 := Heap.size_push ..
  have z2 : ((s.heap.push (itO l 0)).push (tupO [.ref s.heap.objs.size] 0)).objs.size = s.heap.objs.size + 2 := by rw [Heap.size_push, z1]
  have := Heap.get?_push_size ((s.heap.push (itO l 0)).push (tupO [.ref s.heap.objs.size] 0)) (o := mapO (s.heap.objs.size + 1) f) rfl
  rw [z2] at this
  exact callType_new m_called (by decide) (m_typeCall _ _) (m_newCall _ _) (fun obj => F.args_object_init_3 obj _ _) m_entry_new (m_new l vs.toArray f) ⟨⟨_, hlo, rfl, _, rfl⟩, ⟨_, this, rfl⟩, h l rfl⟩
theorem tup_new (hF : ∀ d ∈ ds, Does g n (fun vs => call (.ref fa) vs) [.dat d] (isD (G d))) (B : Bd (n + 6) A) (hT : Tp g.K s.heap) (ht : TabOk s.heap) (hX : PT ∈ X) (hl : Lives g.K X s.heap) (hr : Rep X s.heap (.ref l) (.list ds)) (hz : ds.length ≤ 1000000)
    {Q : Value → Shared → Prop} (kk : ∀ v s', Ex s s' → Rep X s'.heap v (.tuple (ds.map G)) → Q v s') :
    codeAny g.M A (.call (.builtin "tuple.__new__") ⟨[.type "tuple", .ref (s.heap.objs.size + 2)], []⟩) (wants Q E) (mapS s l (.ref fa)) := by
  have hTI : (mapS s l (.ref fa)).TypeIs (.ref (s.heap.objs.size + 2)) "map" := by
    have z1 : (s.heap.push (itO l 0)).objs.size = s.heap.objs.size + 1 := Heap.size_push ..
    have z2 : ((s.heap.push (itO l 0)).push (tupO [.ref s.heap.objs.size] 0)).objs.size = s.heap.objs.size + 2 := by rw [Heap.size_push, z1]
    have := Heap.get?_push_size ((s.heap.push (itO l 0)).push (tupO [.ref s.heap.objs.size] 0)) (o := mapO (s.heap.objs.size + 1) (.ref fa)) rfl
    rw [z2] at this
    exact ⟨_, this, rfl⟩
  refine codeAny_of_tree ?_
  show wpAny _ A.in1 (do checkBuiltinCall "tuple.__new__" ⟨[.type "tuple", .ref (s.heap.objs.size + 2)], []⟩; again (.builtin "tuple.__new__" ⟨[.type "tuple", .ref (s.heap.objs.size + 2)], []⟩)) _ _ (mapS s l (.ref fa))
  refine wpAny_bind (wpAny_of_eq (F.newCall_tuple_1 _) (wpAny_pure ⟨plainId_quiet F.plain_tuple_new _, codeAny_builtin F.entry_tuple_new ?_⟩))
  rw [Around.under_plainId F.plain_tuple_new _]
  have hsub := sub_tuple_self
  have hinit := init_tuple_lookup
  have hmh := madeHere_tuple
  have hc : ∀ {Q : List Value → Shared → Prop} {E : Value → Shared → Prop}, (∀ s' acc, Ex s s' → RepAll X s'.heap acc (ds.map G) → Q acc s') → wpAny (model g.prog g.w) A.in1 (collect (.ref (s.heap.objs.size + 2))) Q E (mapS s l (.ref fa)) := fun kk => map_collect hF (B.in1.less (by omega)) hT ht hX hl hr hz kk
  wp_walk using wpAny_typeOf hTI, hc
  intro s' acc u ra
  show wpAny _ _ (Builtin.Tuple.tupleExact acc.toArray >>= fun v => ret v) _ _ _
  unfold Builtin.Tuple.tupleExact
  have hal := ra.length
  rw [List.length_map] at hal
  have lv : Lives g.K X s'.heap := hl.up u fun a ha => by rw [List.mem_singleton.mp ha]; exact (u.tab ht).live
  refine wpAny_bind (wpAny_newObj_type ?_ (by show acc.toArray.size ≤ sizeLine; rw [List.size_toArray, sizeLine_eq]; omega))
  exact wpAny_pure (kk _ _ (u.trans Up.push') (rep_tuple lv.fresh ra))
theorem tuple_map (hF : ∀ d ∈ ds, Does g n (fun vs => call (.ref fa) vs) [.dat d] (isD (G d))) (B : Bd (n + 7) A) (hT : Tp g.K s.heap) (ht : TabOk s.heap) (hX : PT ∈ X) (hl : Lives g.K X s.heap) (hr : Rep X s.heap (.ref l) (.list ds)) (hz : ds.length ≤ 1000000)
    {Q : Value → Shared → Prop} (kk : ∀ v s', Ex s s' → Rep X s'.heap v (.tuple (ds.map G)) → Q v s') :
    wpAny g.M A (call (.type "tuple") [.ref (s.heap.objs.size + 2)]) Q E (mapS s l (.ref fa)) := by
  refine callType_codes (Q₁ := fun obj s₁ => s₁.TypeIs obj "tuple" ∧ Q obj s₁) F.called_tuple (F.typeCall_tuple_1 _) F.entry_object_init
    (tup_new hF B.in1 hT ht hX hl hr hz fun v s' u r => ⟨?_, kk v s' u r⟩) fun obj s₁ h₁ => ?_
  · obtain ⟨a, vs, k, rfl, _, ho, _⟩ := Rep.inv_tuple r
    exact ⟨_, ho, rfl⟩
  · exact ⟨h₁.1, F.args_object_init_2 obj _, object_init_meets F.called_tuple.init.lookup F.called_tuple.made (by decide) g.prog g.w A.in1 _ s₁ ⟨h₁.1, rfl, h₁.2⟩⟩
end
section
variable {g : Gl} {n : Nat} {sc : Scope} {ρ : List (Str × Lv)} {pos p₁ : Pos} {tu mp fe e : Expr} {ds : List PyData} {G : PyData → PyData} {fa : Addr}
theorem ev_tuple_map (hF : ∀ d ∈ ds, Does g n (fun vs => call (.ref fa) vs) [.dat d] (isD (G d))) (h₁ : EvV g (n + 7) sc ρ tu (.type "tuple")) (h₂ : EvV g (n + 7) sc ρ mp (.type "map")) (h₃ : EvV g (n + 7) sc ρ fe (.ref fa)) (h₄ : EvD g (n + 7) sc ρ e (.list ds)) (hz : ds.length ≤ 1000000)
    (he : ∀ env, starEach [.Call mp [fe, e] [] p₁] env = (false, eval (.Call mp [fe, e] [] p₁) env) :: starEach [] env) (he' : ∀ env, starEach [fe, e] env = (false, eval fe env) :: starEach [e] env) (he'' : ∀ env, starEach [e] env = (false, eval e env) :: starEach [] env)
    (hp : ∀ env, (backTo p₁ (starEach [e] env)).any (·.1) = false) (hp' : ∀ env, (backTo pos (starEach [] env)).any (·.1) = false)
    (hc : ∀ env, eval (.Call tu [.Call mp [fe, e] [] p₁] [] pos) env = (do callWith pos (← eval tu env) [] (backTo pos (starEach [.Call mp [fe, e] [] p₁] env)) (backToKw pos (keywordEach [] env))))
    (hc' : ∀ env, eval (.Call mp [fe, e] [] p₁) env = (do callWith p₁ (← eval mp env) [] (backTo p₁ (starEach [fe, e] env)) (backToKw p₁ (keywordEach [] env)))) :
    EvD g (n + 7) sc ρ (.Call tu [.Call mp [fe, e] [] p₁] [] pos) (.tuple (ds.map G)) := fun A env X s E Q o k =>
  Call_ (h₁ A env X s E _ o fun v s₁ u₁ r₁ => by
    have r₁' : v = .type "tuple" := r₁
    subst r₁'
    refine Pv.callWith_type1 (spliced_more (Call_ (h₂ A env X s₁ E _ (o.up u₁) fun v s₂ u₂ r₂ => ?_) (hc' env)) (he env)) (he env) (hp' env)
    have r₂' : v = .type "map" := r₂
    subst r₂'
    refine Pv.callWith_type1 (spliced_more (h₃ A env X s₂ E _ ((o.up u₁).up u₂) fun v s₃ u₃ r₃ => ?_) (he' env)) (he' env) (hp env)
    have r₃' : v = .ref fa := r₃
    subst r₃'
    refine spliced_more (h₄ A env X s₃ E _ (((o.up u₁).up u₂).up u₃) fun v s₄ u₄ r₄ => Calls.spliced_nil ?_) (he'' env)
    have o₄ := (((o.up u₁).up u₂).up u₃).up u₄
    refine map_call r₄ fun l hl => Calls.spliced_nil ?_
    subst hl
    exact tuple_map hF o.bd o₄.cx.top o₄.cx.tab o.cx.tabX o₄.cx.live r₄ hz fun v s' u r => k v s' ((((u₁.trans u₂).trans u₃).trans u₄).trans u) r) (hc env)
end
end Mine
end

noncomputable section
namespace Mine
noncomputable abbrev setO (led : Bool) : Obj := { cls := .type "set", data := .set #[] 0 (.fresh 0 0 led) }
noncomputable abbrev tabT (led : Bool) : SetTable := { mask := 7, place := #[1], dummies := #[], finger := 0, led := led, moves := 0, plain := true }
noncomputable abbrev setT (led : Bool) : Obj := { cls := .type "set", data := .set #[(1, .bool true)] 1 (tabT led) }
section
variable {prog : Program} {w : World} {A : Around} {E : Value → Shared → Prop} {s : Shared} {D : Addr} {led : Bool}
theorem hash_true {Q : Int → Shared → Prop} (h : ∀ tk, Q 1 { s with toks := tk }) : wpAny (model prog w) A (pyHash (.bool true)) Q E s := by
  have hT : ∀ s : Shared, s.TypeIs (.bool true) "bool" := fun s => rfl
  unfold pyHash pyHashByItsType
  have hv : [Value.bool true].any Value.onHeap = false := rfl
  refine wpAny_bind ?_
  rw [cRoomFor, if_neg (by rw [hv]; exact Bool.false_ne_true)]
  refine wpAny_pure ?_
  refine wpAny_bind (wpAny_specialOf (hT s) PySem.F.slot_bool_hash.lookup ?_)
  show wpAny _ _ (if (some (Value.builtin "int.__hash__") == some Value.none) = true then _ else _) Q E s
  rw [if_neg (by rw [beq_builtin_none]; exact Bool.false_ne_true)]
  refine wpAny_bind (wpAny_specialOf (hT s) PySem.F.slot_bool_hash.lookup ?_)
  show wpAny _ _ (callSpecialIfBoundUnlessNone? (.bool true) "__hash__" _ >>= _) Q E s
  refine wpAny_bind (wpAny_callSpecialIfBoundUnlessNone?_slot (hT s) PySem.F.slot_bool_hash
    (wpAny_call_entry PySem.F.slot_bool_hash (hT s) entry_int_hash
      (show wpAny _ _ (do ret (← mkInt 1)) _ _ s from wpAny_ret_mkInt ?_) (args_int_hash _)))
  exact wpAny_pure (h _)
theorem lay_true : layNew (.fresh 0 0 led) #[] 1 (.bool true) = (#[(1, .bool true)], tabT led, false, false) := by cases led <;> decide +kernel
theorem add_true {x : Bool} {Q : Value → Shared → Prop} (ho : s.heap.get? D = some (if x then setT led else setO led))
    (h : ∀ h' tk, Heap.ExtBut D s.heap h' → h'.get? D = some (setT led) → Q .none { s with heap := h', toks := tk }) : wpAny (model prog w) A (call (.builtin "set.add") [.ref D, .bool true]) Q E s := by
  have hT : s.TypeIs (.ref D) "set" := ⟨_, ho, by cases x <;> rfl⟩
  refine wpAny_call_entry PySem.F.slot_set_add hT PySem.F.entry_set_add ?_ (PySem.F.args_set_add_2 _ _)
  unfold Builtin.«set.add» Builtin.Frozenset.oneOther
  simp only [List.isEmpty_nil, bind_assoc]
  unfold Builtin.Frozenset.addrOf setAdd
  refine wpAny_bind (wpAny_pure ?_)
  try dsimp only
  refine wpAny_bind (wpAny_pure ?_)
  try dsimp only
  refine wpAny_bind ?_
  refine wpAny_holding ?_
  refine wpAny_bind (hash_true fun tk => ?_)
  unfold setAddHashed setAddHashedIn
  cases x with
  | false =>
    refine wpAny_holding (wpAny_bind (wpAny_setState_of (s := { s with toks := tk }) ho rfl rfl ?_))
    dsimp only
    rw [if_pos (by decide +kernel)]
    unfold setAddByScan
    refine wpAny_bind ?_
    refine wpAny_bind (wpAny_rule ?_)
    refine wpAny_bind (wpAny_pure (a := ScanMet.absent) ?_)
    dsimp only
    refine wpAny_bind (wpAny_pure ?_)
    rw [lay_true]
    refine wpAny_bind (wpAny_pure ?_)
    refine wpAny_bind ?_
    dsimp only [tabT]
    rw [if_pos rfl]
    refine wpAny_storeSet_of (s := { s with toks := tk }) (es' := #[(1, .bool true)]) (t' := tabT led) ho rfl ?_ (by rw [sizeLine_eq]; decide)
    rw [if_neg (by exact Bool.false_ne_true)]
    refine wpAny_pure (wpAny_pure (wpAny_pure ⟨_, rfl, h _ tk (Heap.SameBut.update ..).extBut ?_⟩))
    exact Heap.get?_update_self (Obj.putSet #[(1, .bool true)] (tabT led)) ho rfl
  | true =>
    refine wpAny_holding (wpAny_bind (wpAny_setState_of (s := { s with toks := tk }) ho rfl rfl ?_))
    dsimp only
    rw [if_pos (by decide +kernel)]
    unfold setAddByScan
    refine wpAny_bind ?_
    refine wpAny_bind (wpAny_rule ?_)
    refine wpAny_bind ?_
    show wpAny _ _ (setScanFrom D (.bool true) 1 true [(1, .bool true)] 0) _ _ _
    unfold setScanFrom
    dsimp only
    rw [if_pos (show ((1 : Int) == 1) = true from rfl)]
    refine wpAny_bind (wpAny_setEpoch_of (s := { s with toks := tk }) ho rfl rfl ?_)
    refine wpAny_bind (SeqAt.EqAt.bool_bool true true _ _ _ _ ?_)
    rw [if_pos (show (true && true == true) = true from rfl)]
    refine wpAny_pure ?_
    dsimp only
    exact wpAny_pure (wpAny_pure (wpAny_pure ⟨_, rfl, h _ tk (fun _ _ _ e => e) ho⟩))
theorem slot_setit_next : Slot "set_iterator" "__next__" "set_iterator.__next__" :=
  .of (owner := "set_iterator") (n := "__next__") (by rw [typeLookup_type, builtinLookup_eq_fast]; kernel_rfl) (by decide +kernel) (by decide +kernel) (by decide +kernel)
    (by first | exact .inl (by decide +kernel) | exact .inr (by decide +kernel)) (by rw [isSubtype_type]; kernel_rfl)
theorem owner_setit : Manifest.owners.lookup (String.ofList ['s', 'e', 't', '_', 'i', 't', 'e', 'r', 'a', 't', 'o', 'r']) = some Manifest.sig_set_iterator := by kernel_rfl
theorem args_setit_next (a : Value) : argsOk "set_iterator.__next__" ⟨[a], []⟩ := by
  unfold argsOk; rw [signature?_of (id := "set_iterator.__next__") (n := ['_', '_', 't', 'x', 'e', 'n', '_', '_']) (o := ['r', 'o', 't', 'a', 'r', 'e', 't', 'i', '_', 't', 'e', 's']) (by kernel_rfl) owner_setit]; kernel_rfl
theorem entry_setit_next : entryFor table "set_iterator.__next__" = some Builtin.«set_iterator.__next__» := entryFor_of_tree (by kernel_rfl)
theorem entry_set_iter : entryFor table "set.__iter__" = some Builtin.«frozenset.__iter__» :=
  entryFor_alias (id' := "frozenset.__iter__") (by kernel_rfl) (by first | rfl | decide +kernel | (unfold String.splitOn; simp +decide [String.splitOnAux])) (by decide +kernel) (by kernel_rfl)
noncomputable abbrev sitO (f i : Int) (x : Value) (D : Addr) : Obj := { cls := .type "set_iterator", data := .fields #[rawInt f, rawInt i, x, rawInt 1, rawInt 1] }
theorem iter_true {Q : Value → Shared → Prop} (ho : s.heap.get? D = some (setT led)) (h : Q (.ref s.heap.objs.size) { s with heap := s.heap.push (sitO 0 0 (.ref D) D) }) : wpAny (model prog w) A (pyIter (.ref D)) Q E s := by
  have hT : s.TypeIs (.ref D) "set" := ⟨_, ho, rfl⟩
  refine wpAny_pyIter_slot hT PySem.F.slot_set_iter (wpAny_call_entry PySem.F.slot_set_iter hT entry_set_iter ?_ (PySem.F.args_set_iter_1 _))
  unfold Builtin.«frozenset.__iter__» Builtin.Frozenset.slot0 Builtin.Frozenset.addrOf Builtin.Frozenset.sizeOf setEntries
  refine wpAny_bind (wpAny_pure ?_)
  dsimp only
  refine wpAny_bind (wpAny_bind (wpAny_bind (wpAny_setState_of ho rfl rfl (wpAny_pure (wpAny_pure ?_)))))
  unfold setDrawn setsByText
  refine wpAny_bind (wpAny_bind (wpAny_setState_of ho rfl rfl ?_))
  dsimp only
  refine wpAny_bind (wpAny_bind (wpAny_askSetting (wpAny_pure ?_)))
  refine wpAny_pure ?_
  rw [if_neg (by
    have key : ∀ b : Bool, ¬ ((!b && false) = true) := by decide
    exact key _)]
  refine wpAny_bind (wpAny_pure ?_)
  refine wpAny_bind (wpAny_setEpoch_of ho rfl rfl ?_)
  refine wpAny_bind (wpAny_newObj_type (wpAny_pure ⟨_, rfl, "set_iterator", _, ⟨_, Heap.get?_push_size _ rfl, rfl⟩, slot_setit_next.lookup, ?_⟩))
  exact h
end
end Mine
end

noncomputable section
namespace Mine
section
variable {prog : Program} {w : World} {A : Around} {E : Value → Shared → Prop} {s : Shared} {D : Addr} {led : Bool}
theorem get_setit {it : Addr} {o : Obj} {vs : Array Value} (ho : s.heap.get? it = some o) (hd : o.data = .fields vs) {Q : Array Value → Shared → Prop} (h : Q vs s) : wpAny (model prog w) A (fieldsOf (.ref it)) Q E s := by
  unfold fieldsOf
  refine wpAny_bind (wpAny_load ho ?_)
  rw [hd]
  exact wpAny_pure h
theorem pick1 {α : Type} (f : Nat → Nat) (x : α) : pickOrder f #[x] = #[x] := by
  simp [pickOrder, pickOrder.go, Nat.mod_one]
theorem setit_item {it : Addr} {b : Bool} {Q : Option Value → Shared → Prop} (hi : s.heap.get? it = some (sitO 0 0 (.ref D) D)) (ho : s.heap.get? D = some (setT led)) (hb : b = w.params.followText "set-order") (hl : b = false → led = true) (hne : D ≠ it)
    (h : ∀ h' f, Heap.ExtBut it s.heap h' → h'.get? it = some (sitO f 1 (.ref D) D) → (b = false → f = 2) → Q (some (.bool true)) { s with heap := h' }) : wpAny (model prog w) A (pyNext (.ref it)) Q E s := by
  have hT : s.TypeIs (.ref it) "set_iterator" := ⟨_, hi, rfl⟩
  unfold pyNext
  refine wpAny_bind (wpAny_attempt (wpAny_callSpecial?_slot (name := Str.ofString "__next__") hT slot_setit_next (wpAny_call_entry slot_setit_next hT entry_setit_next ?_ (args_setit_next _))))
  unfold Builtin.«set_iterator.__next__»
  refine wpAny_bind (wpAny_pure ?_)
  dsimp only
  refine wpAny_bind (get_setit hi rfl ?_)
  dsimp only
  unfold setEntries
  have fin : ∀ f : Nat, (b = false → f = 2) → wpAny (model prog w) A.in1 (do
      setField (.ref it) 0 (rawInt f)
      setField (.ref it) 1 (rawInt ((0 : Int) + 1))
      ret (.bool true)) (fun fin s' => ∃ v, fin = Fin.done (.ret v) ∧ wpAny (model prog w) A (pure (some v)) Q E s') (fun e s' => wpAny (model prog w) A (do
        let __do_lift ← isInstance e (Value.type "StopIteration")
        if __do_lift = true then pure none else throw e) Q E s') s := fun f hf => by
    refine wpAny_bind (wpAny_setField_rec hi (by simp) fun h₁ hi₁ hs₁ => ?_)
    refine wpAny_bind (wpAny_setField_rec (s := { s with heap := h₁ }) hi₁ (by simp) fun h₂ hi₂ hs₂ => ?_)
    refine wpAny_pure ⟨_, rfl, wpAny_pure (h h₂ f (fun c o hc e => hs₂.extBut c o hc (hs₁.extBut c o hc e)) hi₂ (fun e => by rw [hf e]; rfl))⟩
  refine wpAny_bind (wpAny_bind (wpAny_setState_of ho rfl rfl (wpAny_pure ?_)))
  rw [if_neg (by exact Bool.false_ne_true)]
  refine wpAny_bind ?_
  unfold setNext setsByText
  refine wpAny_bind (wpAny_setState_of ho rfl rfl ?_)
  dsimp only
  refine wpAny_bind (wpAny_bind (wpAny_askSetting (wpAny_pure ?_)))
  show wpAny _ _ (if w.params.followText "set-order" = true then _ else _) _ _ _
  rw [← hb]
  cases b with
  | true =>
    rw [if_pos rfl, if_neg (by exact Bool.false_ne_true)]
    unfold setWalk setsByText
    refine wpAny_bind (wpAny_bind (wpAny_setState_of ho rfl rfl ?_))
    dsimp only
    refine wpAny_bind (wpAny_bind (wpAny_askSetting (wpAny_pure ?_)))
    show wpAny _ _ (if w.params.followText "set-order" = true then _ else _) _ _ _
    rw [← hb, if_pos rfl]
    refine wpAny_bind (wpAny_askSetting (wpAny_pure ?_))
    rw [pick1]
    refine wpAny_pure ?_
    exact fin 0 nofun
  | false =>
    cases hl rfl
    rw [if_neg Bool.false_ne_true, if_neg (by exact Bool.false_ne_true)]
    refine wpAny_bind (wpAny_pure ?_)
    refine wpAny_pure ?_
    exact fin 2 fun _ => rfl
theorem setit_end {it : Addr} {b : Bool} {f : Int} {Q : Option Value → Shared → Prop} (hi : s.heap.get? it = some (sitO f 1 (.ref D) D)) (ho : s.heap.get? D = some (setT led)) (hb : b = w.params.followText "set-order") (hl : b = false → led = true) (hf : b = false → f = 2) (hh : A.handled = none)
    (h : ∀ h', Heap.ExtBut it s.heap h' → Q none { s with heap := h' }) : wpAny (model prog w) A (pyNext (.ref it)) Q E s := by
  have hT : s.TypeIs (.ref it) "set_iterator" := ⟨_, hi, rfl⟩
  unfold pyNext
  refine wpAny_bind (wpAny_attempt (wpAny_callSpecial?_slot (name := Str.ofString "__next__") hT slot_setit_next (wpAny_call_entry slot_setit_next hT entry_setit_next ?_ (args_setit_next _))))
  unfold Builtin.«set_iterator.__next__»
  refine wpAny_bind (wpAny_pure ?_)
  dsimp only
  refine wpAny_bind (get_setit hi rfl ?_)
  dsimp only
  unfold setEntries
  refine wpAny_bind (wpAny_bind (wpAny_setState_of ho rfl rfl (wpAny_pure ?_)))
  rw [if_neg (by exact Bool.false_ne_true)]
  refine wpAny_bind ?_
  unfold setNext setsByText
  refine wpAny_bind (wpAny_setState_of ho rfl rfl ?_)
  dsimp only
  refine wpAny_bind (wpAny_bind (wpAny_askSetting (wpAny_pure ?_)))
  show wpAny _ _ (if w.params.followText "set-order" = true then _ else _) _ _ _
  rw [← hb]
  have fin : wpAny (model prog w) A.in1 (do
      setField (.ref it) 2 .none
      let x ← newExc (.type "StopIteration") []
      raiseNew x) (fun fin s' => ∃ v, fin = Fin.done (.ret v) ∧ wpAny (model prog w) A (pure (some v)) Q E s') (fun e s' => wpAny (model prog w) A (do
        let __do_lift ← isInstance e (Value.type "StopIteration")
        if __do_lift = true then pure none else throw e) Q E s') s := by
    refine wpAny_bind (wpAny_setField_rec hi (by simp) fun h₁ hi₁ hs₁ => ?_)
    show wpAny _ _ (newExc (.type "StopIteration") [] >>= _) _ _ _
    refine wpAny_bind ?_
    simp only [newExc, newTuple]
    refine wpAny_bind (wpAny_newObj_type ?_ (by size_fits))
    refine wpAny_bind (m := firstArgMember _ _) (wpAny_of_eq (a := Value.none) (by first | rfl | (simp only [firstArgMember]; rfl)) ?_)
    refine wpAny_newObj_type ?_ (by size_fits)
    simp only [raiseNew]
    refine wpAny_bind (wpAny_handled ?_)
    rw [show A.in1.handled = none from hh]
    refine wpAny_bind (wpAny_pure (wpAny_throw ?_))
    refine wpAny_bind (wpAny_isInstance (T := "StopIteration") (b := true) ⟨_, Heap.get?_push_size _ rfl, rfl⟩ isSubtype_stop ?_)
    exact wpAny_pure (h _ ((hs₁.extBut.push _).push _))
  cases b with
  | true =>
    rw [if_pos rfl, if_neg (by exact Bool.false_ne_true)]
    unfold setWalk setsByText
    refine wpAny_bind (wpAny_bind (wpAny_setState_of ho rfl rfl ?_))
    dsimp only
    refine wpAny_bind (wpAny_bind (wpAny_askSetting (wpAny_pure ?_)))
    show wpAny _ _ (if w.params.followText "set-order" = true then _ else _) _ _ _
    rw [← hb, if_pos rfl]
    refine wpAny_bind (wpAny_askSetting (wpAny_pure ?_))
    rw [pick1]
    refine wpAny_pure ?_
    exact fin
  | false =>
    cases hl rfl
    cases hf rfl
    rw [if_neg Bool.false_ne_true, if_neg (by exact Bool.false_ne_true)]
    refine wpAny_bind (wpAny_pure ?_)
    refine wpAny_pure ?_
    exact fin
theorem unpack_true {b : Bool} {Q : List Value → Shared → Prop} (ho : s.heap.get? D = some (setT led)) (hb : b = w.params.followText "set-order") (hl : b = false → led = true) (hh : A.handled = none)
    (h : ∀ h', Heap.ExtBut s.heap.objs.size s.heap h' → Q [.bool true] { s with heap := h' }) : wpAny (model prog w) A (unpackItems (.ref D) 1 none) Q E s := by
  have hT : s.TypeIs (.ref D) "set" := ⟨_, ho, rfl⟩
  have hne : D ≠ s.heap.objs.size := Nat.ne_of_lt (Heap.lt_size ho)
  unfold unpackItems
  refine wpAny_bind ?_
  unfold notIterableAtAll
  refine wpAny_bind (wpAny_specialOf hT PySem.F.slot_set_iter.lookup ?_)
  refine wpAny_pure ?_
  simp only [Bool.false_eq_true, if_false]
  refine wpAny_bind (wpAny_holding (iter_true ho ?_))
  refine wpAny_bind (wpAny_holding ?_)
  show wpAny _ _ (pyNext (.ref s.heap.objs.size) >>= _) _ _ _
  refine wpAny_bind (setit_item (s := { s with heap := s.heap.push (sitO 0 0 (.ref D) D) }) (Heap.get?_push_size _ rfl) (Heap.get?_push_of_some _ ho) hb hl hne fun h₁ f hs₁ hi₁ hf => ?_)
  refine wpAny_bind (wpAny_holding ?_)
  show wpAny _ _ (pure []) _ _ _
  refine wpAny_pure (wpAny_pure ?_)
  rw [if_neg (by decide)]
  refine wpAny_bind (wpAny_holding (setit_end (s := { s with heap := h₁ }) hi₁ (hs₁ D _ hne (Heap.get?_push_of_some _ ho)) hb hl hf hh fun h₂ hs₂ => ?_))
  simp only [Option.isSome_none, Bool.false_eq_true, if_false]
  exact wpAny_pure (h h₂ fun c o hc e => hs₂ c o hc (hs₁ c o hc (Heap.get?_push_of_some _ e)))
end
end Mine
end

noncomputable section
namespace Mine
theorem compTurn_set (elt target iter : Expr) (ifs : List Expr) (scope : Scope) (pos : Pos) (it acc : Value) (env : Env) :
    compTurn (.SetComp elt [⟨target, iter, ifs, 0⟩] scope pos) 0 it acc env = (do
      standAt iter.pos
      match ← pyNext it with
      | none => pure (.done .next)
      | some v =>
        letOwnedTupleGo target it v
        assign target env v
        let mut ok := true
        for c in ifs do
          if ok then ok ← isTrue c env (eval c env)
        if ok then
          (do let v ← eval elt env; standAt elt.pos; let _ ← call (.builtin "set.add") [acc, v])
        again (.compLoop (.SetComp elt [⟨target, iter, ifs, 0⟩] scope pos) 0 it acc env)) := by rfl
section
variable {g : Gl} {n : Nat} {elt target iter : Expr} {ifs : List Expr} {scope : Scope} {pos : Pos} {N : Nat}
noncomputable def accT (led : Bool) (i : Nat) (X : List Addr) (h : Heap) (o : Obj) : Prop := o = if i = 0 then setO led else setT led
theorem acc_set (ht : ∀ it v, letOwnedTupleGo target it v = pure ()) :
    AccOf g n (.SetComp elt [⟨target, iter, ifs, 0⟩] scope pos) elt target ifs (newSet (.type "set")) "set.add" N (fun _ => true) (fun _ => .bool true) (accT (!g.w.params.followText "set-order")) where
  new := ⟨setO (!g.w.params.followText "set-order"), fun X h => rfl, rfl, fun A s E Q h => by
    unfold newSet setsByText
    refine wpAny_bind (wpAny_bind (wpAny_askSetting (wpAny_pure ?_)))
    dsimp only
    exact wpAny_newObj_type h⟩
  loop := fun A it ac env R I turn n s h => by
    refine codeAny_loop rfl I (fun n s hI => ?_) n h
    show wpAny _ A ((compTurn (.SetComp elt [⟨target, iter, ifs, 0⟩] scope pos) 0 it ac env).onRaise (fun x => do noteFrame x env; theTreesLotGoes x)) _ _ s
    refine wpAny_noted ?_
    rw [compTurn_set]
    refine wpAny_bind (wpAny_standAt (wpAny_bind (wpAny_mono (turn n s hI) (fun r s₁ h₁ => ?_) fun _ _ h' => h')))
    cases r with
    | none => exact wpAny_pure h₁
    | some v =>
      refine wpAny_bind (wpAny_of_eq (ht it v) ?_)
      refine wpAny_bind (wpAny_mono h₁ (fun _ s₂ h₂ => wpAny_bind (wpAny_mono h₂ (fun ok s₃ h₃ => ?_) fun _ _ h' => h')) fun _ _ h' => h')
      cases ok with
      | false => exact wpAny_pure ⟨rfl, h₃⟩
      | true => exact wpAny_bind (wpAny_bind (wpAny_mono h₃ (fun x s₄ h₄ => wpAny_bind (wpAny_standAt (wpAny_bind (wpAny_mono h₄ (fun _ s₅ h₅ => wpAny_pure (wpAny_pure ⟨rfl, h₅⟩)) fun _ _ h' => h')))) fun _ _ h' => h'))
  start := fun A it ac env R s h0 h => by
    refine codeAny_of_tree ?_
    show wpAny _ A ((compStart (.SetComp elt [⟨target, iter, ifs, 0⟩] scope pos) 0 it ac env).onRaise (fun x => do noteFrame x env; standAt theWindowsPlace)) _ _ s
    refine wpAny_notedAt ?_
    unfold compStart
    show wpAny _ A (ask >>= _) _ _ s
    refine wpAny_bind (wpAny_askSetting (wpAny_ite ?_))
    split
    · first
        | exact wpAny_bind (wpAny_pure (wpAny_pure (And.intro rfl h0)))
        | exact wpAny_pure (And.intro rfl h0)
    · first
        | exact wpAny_bind (wpAny_rule (wpAny_bind (wpAny_standAt (wpAny_bind (wpAny_mono h (fun it' s' h' => wpAny_pure (And.intro rfl h')) fun _ _ x => x)))))
        | (refine wpAny_bind (wpAny_rule ?_); show wpAny _ _ (standAt iter.pos >>= _) _ _ s; exact wpAny_bind (wpAny_standAt (wpAny_bind (wpAny_mono h (fun it' s' h' => wpAny_pure (And.intro rfl h')) fun _ _ x => x))))
  emit := fun i A X s D o y E Q hi hb ha hD hDX hy k => by
    rw [Rep.inv_bool hy]
    have ha' : o = if i = 0 then setO (!g.w.params.followText "set-order") else setT (!g.w.params.followText "set-order") := ha
    subst ha'
    refine add_true (led := !g.w.params.followText "set-order") (x := decide (i ≠ 0)) (by rw [hD]; by_cases h : i = 0 <;> simp [h]) fun h' tk hs ho => k h' _ tk hs ho ?_
    show _ = _
    rw [if_neg (Nat.succ_ne_zero i)]
  skip := fun i X h o hb => nomatch hb
  to := fun i X Y h h' o hk e => e
  dull := fun i X h o e vs q => by
    have e' : o = if i = 0 then setO (!g.w.params.followText "set-order") else setT (!g.w.params.followText "set-order") := e
    rw [e'] at q
    split at q <;> cases q
end
section
variable {g : Gl} {n : Nat} {sc : Scope} {ρ ρ' : List (Str × Lv)} {x y : Str} {elt iter : Expr} {scope : Scope} {pos px py tpos spos : Pos} {ds : List PyData} {ρc : List (Str × Lv)} {k' : Nat}
theorem stm_setTrue (hi : It g n sc ρ iter ds) (hne : ds ≠ [])
    (helt : ∀ (i : Nat) (d : PyData), ds[i]? = some d → EvD g n (relS scope sc) ((y, .dat d) :: ρc) elt (.bool true))
    (hsub : ∀ p ∈ ρc, p ∈ ρ ∧ p.2.own = none ∧ ((relS scope sc).names.lookup p.1 = some .free ∨ (relS scope sc).names.lookup p.1 = some .cell) ∧ (p.1, NameKind.free) ∈ scope.names)
    (hyρ : ∀ p ∈ ρc, p.1 ≠ y) (hk : sc.names.lookup x = some .local ∨ sc.names.lookup x = some .cell) (hx : (ρ'.all fun p => p.1 != x) = true) (hs : ∀ p ∈ ρ', p ∈ ρ)
    (hkind : scope.kind = .function) (hcell : ∀ z ∈ scope.names, z.2 = .cell → z.1 = y) (hy : (relS scope sc).names.lookup y = some .local ∨ ((relS scope sc).names.lookup y = some .cell ∧ (y, NameKind.cell) ∈ scope.names))
    (hfree : ∀ p ∈ scope.names, p.2 = .free → sc.names.lookup p.1 = some .free ∨ sc.names.lookup p.1 = some .cell)
    (hnames : ∀ y ∈ scope.names, y.2 = .local → scope.names.lookup y.1 = some .local)
    (hf : ∀ env x, foldedSetIterable iter env x = pure x)
    (h1 : ∀ env, swapsWithSole [.Tuple [.Name x px] k' tpos] (.SetComp elt [⟨.Name y py, iter, [], 0⟩] scope pos) spos.line env = pure false) (h2 : ∀ env, swappedStores [.Tuple [.Name x px] k' tpos] (.SetComp elt [⟨.Name y py, iter, [], 0⟩] scope pos) env = pure none) :
    Stm g n sc ρ (.Assign [.Tuple [.Name x px] k' tpos] (.SetComp elt [⟨.Name y py, iter, [], 0⟩] scope pos) spos) (.next ((x, .dat (.bool true)) :: ρ')) := fun A env s₀ Z X₀ X s E Q F k => by
  have ev := ev_compA (g := g) (n := n) (sc := sc) (ρ := ρ) (p₀ := firstIterPos [⟨.Name y py, iter, [], 0⟩] pos) (acc_set (elt := elt) (target := .Name y py) (iter := iter) (ifs := []) (scope := scope) (pos := pos) (N := ds.length) fun _ _ => rfl) hi (fun env => arm_eval_SetComp ..) rfl (fun i d e => tests_nil) (fun i d e _ => helt i d e) hsub hyρ hkind hcell hy hfree hnames hf
  refine Assign_Tuple (ev A env X s E _ F.ok fun v s₁ u₁ ⟨D, o, e, hD, ho, ha⟩ => ?_) (h1 env) (h2 env)
  subst e
  have ho' : s₁.heap.get? D = some (setT (!g.w.params.followText "set-order")) := by
    rw [ho]
    have ha' : o = if ds.length = 0 then setO (!g.w.params.followText "set-order") else setT (!g.w.params.followText "set-order") := ha
    rw [ha', if_neg fun q => hne (List.length_eq_zero_iff.mp q)]
  rw [arm_assign_Tuple]
  refine wpAny_bind (wpAny_standAt ?_)
  unfold unpack
  refine wpAny_bind (wpAny_holding ?_)
  show wpAny _ A (unpackItems (.ref D) 1 none) _ _ _
  refine unpack_true ho' rfl (fun e => by rw [e]; rfl) F.ok.bd.hd fun h' hs' => ?_
  have u₂ : Ex s₁ { s₁ with heap := h', toks := s₁.toks } := Up.heap fun b ob q => hs' b ob (Nat.ne_of_lt (Heap.lt_size q)) q
  have F₂ := ((F.up u₁).up u₂).sub hs
  show wpAny _ A (assignInOrder [assign (.Name x px) env] [.bool true]) _ _ _
  unfold assignInOrder
  refine wpAny_bind (wpAny_holding (wpAny_assign_Name (F₂.store (l := .dat (.bool true)) (no_name hx) hk (.bool true) (fun _ e => nomatch e) fun s₃ F₃ => ?_)))
  unfold assignInOrder
  exact wpAny_pure (k X s₃ F₃)
end
end Mine
end

noncomputable section
namespace Mine
structure BestJ (X : List Addr) (s : Shared) (I S l : Addr) (vs : List Value) (n : Nat) (ds : List PyData) (i : Nat) (best : List Value) (s' : Shared) : Prop where
  ex : Ex s s'
  hi : s'.heap.IsListIter I l i
  hl : s'.heap.get? l = some (listO vs n)
  hS : ∃ c, s'.heap.get? S = some (listO best c)
  rv : RepAll (S :: I :: X) s'.heap vs ds
section
variable {g : Gl} {n : Nat} {A : Around} {E : Value → Shared → Prop} {s s' : Shared} {X : List Addr} {I S l : Addr} {vs best : List Value} {m i : Nat} {ds : List PyData}
theorem BestJ.next (J : BestJ X s I S l vs m ds i best s') (hlx : l ∉ S :: I :: X) (hSI : S ≠ I) (hfI : s.heap.get? I = none) {v : Value} (hv : vs[i]? = some v) {Q : Option Value → Shared → Prop}
    (k : ∀ s'', BestJ X s I S l vs m ds (i + 1) best s'' → Q (some v) s'') : wpAny g.M A (pyNext (.ref I)) Q E s' := by
  refine wpAny_pyNext_list_item (items := vs.toArray) J.hi ⟨_, J.hl, rfl, _, rfl⟩ (by simpa using hv) fun h₁ hi₁ hs₁ => ?_
  obtain ⟨oi, hoi, hci, hdi⟩ := id J.hi
  have hdu : Dull oi := fun us q => by
    refine ⟨by rw [hci]; exact nofun, ?_⟩
    rw [hdi] at q; cases q
    intro q t e; simp at e
  have hs : Heap.ExtBut I s'.heap h₁ := Heap.SameBut.extBut hs₁
  have u₁ : Up [I] s' { s' with heap := h₁, toks := s'.toks } := Up.but1 hs hoi hdu
  obtain ⟨c, hS⟩ := J.hS
  have ne : ∀ {a : Addr}, a ∉ S :: I :: X → a ≠ I := fun h q => h (by rw [q]; exact .tail _ (.head _))
  exact k _ ⟨J.ex.from u₁ fun a ha => .inr (by rw [List.mem_singleton.mp ha]; exact hfI), hi₁, hs l _ (ne hlx) J.hl, ⟨c, hs S _ hSI hS⟩, J.rv.to fun b ob hb e => ⟨hb, hs b ob (ne hb) e⟩⟩
theorem BestJ.put (J : BestJ X s I S l vs m ds i best s') (hlx : l ∉ S :: I :: X) (hSI : S ≠ I) (hfS : s.heap.get? S = none) {v : Value} {f : Array Value → Array Value} {us : List Value} (hf : f best.toArray = us.toArray) :
    BestJ X s I S l vs m ds i us { s' with heap := s'.heap.update S (Obj.mapSeq f) } := by
  obtain ⟨c, hS⟩ := J.hS
  obtain ⟨m', e⟩ := upd_list hS hf
  have hs : Heap.ExtBut S s'.heap (s'.heap.update S (Obj.mapSeq f)) := (Heap.SameBut.update ..).extBut
  have u : Up [S] s' { s' with heap := s'.heap.update S (Obj.mapSeq f), toks := s'.toks } := Up.but1 hs hS Dull.seq
  have ne : ∀ {a : Addr}, a ∉ S :: I :: X → a ≠ S := fun h q => h (by rw [q]; exact .head _)
  exact ⟨J.ex.from u fun a ha => .inr (by rw [List.mem_singleton.mp ha]; exact hfS), let ⟨o, q, r⟩ := J.hi; ⟨o, hs I o (Ne.symm hSI) q, r⟩, hs l _ (ne hlx) J.hl, ⟨m', e⟩, J.rv.to fun b ob hb e => ⟨hb, hs b ob (ne hb) e⟩⟩
noncomputable def CmpAt (g : Gl) (Y : List Addr) (op : CmpOp) (ds : List PyData) (bt : Nat → Nat → Bool) : Prop := ∀ (A : Around) (s : Shared) (a b : Value) (i j : Nat) (d d' : PyData) (E Q : Value → Shared → Prop), A.units + 64 < cLine → ds[i]? = some d → ds[j]? = some d' → Rep Y s.heap a d → Rep Y s.heap b d' →
  Q (.bool (bt i j)) s → wpAny g.M A (richCompare op a b) Q E s
theorem min_loop {bt : Nat → Nat → Bool} (B : Bd (n + 2) A) (hc : CmpAt g (S :: I :: X) .Lt ds bt) (hlx : l ∉ S :: I :: X) (hSI : S ≠ I) (hfI : s.heap.get? I = none) (hfS : s.heap.get? S = none) {R : Result → Shared → Prop}
    (kk : ∀ v s'', Ex s s'' → vs[argBest bt (ds.length - 1)]? = some v → RepAll (S :: I :: X) s''.heap vs ds → R (.ok (.ret v)) s'') :
    ∀ (r j : Nat) (s' : Shared) (vb : Value), ds.length - (j + 1) = r → j + 1 ≤ ds.length → BestJ X s I S l vs m ds (j + 1) [vb, vb] s' → vs[argBest bt j]? = some vb → codeAny g.M A (.builtin "min.loop" ⟨[.ref I, .none, .ref S], []⟩) R s' := by
  have hname : (toString "min" ++ toString ".loop" : String) = "min.loop" := by decide
  intro r
  induction r with
  | zero =>
    intro j s' vb hr hj J hb
    have hlen := J.rv.length
    obtain ⟨c, hS⟩ := J.hS
    refine codeAny_builtin F.entry_min_loop ?_
    rw [Around.under_plainId F.plain_min_loop _]
    show wpAny _ A.in1 (seqItems? (.ref S) >>= _) _ _ s'
    refine wpAny_bind (wpAny_seqItems hS rfl ?_)
    show wpAny _ A.in1 (tryCatch (pyNext (.ref I)) _ >>= _) _ _ s'
    obtain ⟨oi, hoi, hci, hdi⟩ := id J.hi
    have hdu : Dull oi := fun us q => by
      refine ⟨by rw [hci]; exact nofun, ?_⟩
      rw [hdi] at q; cases q
      intro q t e; simp at e
    refine wpAny_bind (wpAny_tryCatch (wpAny_pyNext_list_end (A := A.in1) (items := vs.toArray) B.in1.hd J.hi ⟨_, J.hl, rfl, _, rfl⟩ (by simp; omega) fun h₁ hs => ?_))
    have u₁ : Up [I] s' { s' with heap := h₁, toks := s'.toks } := Up.but1 hs hoi hdu
    have hS₁ := hs S _ hSI hS
    show wpAny _ A.in1 (updateSeq S (fun _ => #[]) >>= _) _ _ _
    refine wpAny_bind (wpAny_updateSeq (s := { s' with heap := h₁ }) hS₁ rfl (wpAny_bind (wpAny_letGo (wpAny_pure ?_))))
    have hs₂ : Heap.ExtBut S h₁ (h₁.update S (Obj.mapSeq fun _ => #[])) := (Heap.SameBut.update ..).extBut
    have u₂ : Up [S] { s' with heap := h₁, toks := s'.toks } { s' with heap := h₁.update S (Obj.mapSeq fun _ => #[]), toks := s'.toks } := Up.but1 (s := { s' with heap := h₁ }) hs₂ hS₁ Dull.seq
    refine kk vb _ ((J.ex.from u₁ fun a ha => .inr (by rw [List.mem_singleton.mp ha]; exact hfI)).from u₂ fun a ha => .inr (by rw [List.mem_singleton.mp ha]; exact hfS)) (by rw [show ds.length - 1 = j by omega]; exact hb)
      (J.rv.to fun b ob hb e => ⟨hb, hs₂ b ob (fun q => hb (by rw [q]; exact .head _)) (hs b ob (fun q => hb (by rw [q]; exact .tail _ (.head _))) e)⟩)
  | succ r ih =>
    intro j s' vb hr hj J hb
    have hlen := J.rv.length
    have hlt : j + 1 < vs.length := by omega
    obtain ⟨c, hS⟩ := J.hS
    refine codeAny_builtin F.entry_min_loop ?_
    rw [Around.under_plainId F.plain_min_loop _]
    show wpAny _ A.in1 (seqItems? (.ref S) >>= _) _ _ s'
    refine wpAny_bind (wpAny_seqItems hS rfl ?_)
    show wpAny _ A.in1 (tryCatch (pyNext (.ref I)) _ >>= _) _ _ s'
    refine wpAny_bind (wpAny_tryCatch (J.next hlx hSI hfI (List.getElem?_eq_getElem hlt) fun s'' J' => ?_))
    obtain ⟨c', hS'⟩ := J'.hS
    obtain ⟨d, hd, rd⟩ := J'.rv.get' (List.getElem?_eq_getElem hlt)
    obtain ⟨d', hd', rd'⟩ := J'.rv.get' hb
    show wpAny _ A.in1 (tryCatch (holding [vs[j + 1], vs[j + 1]] (richCompare .Lt vs[j + 1] vb >>= _)) _ >>= _) _ _ _
    refine wpAny_bind (wpAny_tryCatch (wpAny_holding (wpAny_bind (hc _ _ _ _ _ _ d d' _ _ B.in1.units hd hd' rd rd' ?_))))
    refine wpAny_bind (wpAny_holding (wpAny_truthy_bool ?_))
    refine wpAny_bind (wpAny_letGo (wpAny_pure ?_))
    cases hbt : bt (j + 1) (argBest bt j) with
    | true =>
      simp only [if_true]
      refine wpAny_bind ?_
      refine wpAny_updateSeq hS' rfl (wpAny_bind (wpAny_letGo ?_))
      rw [hname]
      exact wpAny_pure ⟨plainId_quiet F.plain_min_loop _, ih (j + 1) _ vs[j + 1] (by omega) (by omega) (J'.put hlx hSI hfS (v := vb) (f := fun _ => #[vs[j + 1], vs[j + 1]]) rfl) (by simp only [argBest, hbt, if_true]; exact List.getElem?_eq_getElem hlt)⟩
    | false =>
      simp only [Bool.false_eq_true, if_false]
      refine wpAny_bind (wpAny_letGo ?_)
      rw [hname]
      exact wpAny_pure ⟨plainId_quiet F.plain_min_loop _, ih (j + 1) _ vb (by omega) (by omega) J' (by simp only [argBest, hbt, Bool.false_eq_true, if_false]; exact hb)⟩
end
end Mine
end

noncomputable section
namespace Mine
variable {g : Gl} {n : Nat}
theorem f_get_sep (T : TopF g) {x : Str} : Does g (n + 1) (fun vs => call (.ref 108) vs) [.dat (.str x)] (isD (.str "/")) :=
  does_top (names := ["path"]) T 1 rfl (fun fd vs hp hd hv => by obtain ⟨v, rfl⟩ := len1 hv; unfold bindArgs; rw [hp, hd]; rfl) (by decide) (by decide) rfl (by decide) rfl rfl rfl rfl
    (blkZ_of (blk_stop (stm_if (b := false) (ts_bool (ev_callB b_isi_str_bytes (ev_b T 4 rfl rfl rfl) (all_cons (ev_name mA) (all_cons (ev_b T 3 rfl rfl rfl) all_nil)))) (fun e => nomatch e) fun _ => blk_one (stm_retD ev_str))))
theorem f_fspath (T : TopF g) {x : Str} : Does g (n + 1) (fun vs => call (.ref 94) vs) [.dat (.str x)] (isD (.str x)) :=
  does_top (names := ["path"]) T 0 rfl (fun fd vs hp hd hv => by obtain ⟨v, rfl⟩ := len1 hv; unfold bindArgs; rw [hp, hd]; rfl) (by decide) (by decide) rfl (by decide) rfl rfl rfl rfl
    (blkZ_of (blk_cons (stm_asg (ev_callT b_type_str (ev_b T 0 rfl rfl rfl) (all_cons (ev_name mA) all_nil)) (by decide) rfl (fun p hp => hp) rfl (fun _ => rfl))
      (blk_stop (stm_if (b := true) (ts_bool (ev_callB b_issub (ev_b T 1 rfl rfl rfl) (all_cons (ev_name mA) (all_cons (ev_tvs (us := [.type "str", .type "bytes"]) (all_cons (ev_b T 2 rfl rfl rfl) (all_cons (ev_b T 3 rfl rfl rfl) all_nil)) (by decide)) all_nil)))) (fun _ => blk_one (stm_retD (ev_name mB))) (fun e => nomatch e)))))
noncomputable def tabS : List Str := ["a", "ab", "abc", "b", "ba", "bab", "c"]
theorem f_names (T : TopF g) : Does g (n + 1) (fun vs => call (.ref 157) vs) [] (isD (.list (tabS.map .str))) :=
  does_top (names := []) T 7 rfl (fun fd vs hp hd hv => by rw [List.length_eq_zero_iff.mp hv]; unfold bindArgs; rw [hp, hd]; rfl) (by decide) (by decide) rfl (by decide) rfl rfl rfl rfl
    (blkZ_of (blk_one (stm_retD (ev_list (ds := tabS.map .str) (all_cons ev_str (all_cons ev_str (all_cons ev_str (all_cons ev_str (all_cons ev_str (all_cons ev_str (all_cons ev_str all_nil))))))) (by decide)))))
end Mine
end

noncomputable section
namespace Mine
variable {g : Gl} {n : Nat}
noncomputable def octs1 (n : Nat) : List Nat := if 64 ≤ n then [64 + n / 64 % 64, n % 64] else [n % 64]
noncomputable def octs (n : Nat) : List Nat := if 4096 ≤ n then (64 + n / 4096 % 64) :: octs1 n else octs1 n
noncomputable def octsI (n : Nat) : Nat → List Nat
  | 0 => [n % 64]
  | 1 => octs1 n
  | _ => octs n
theorem octsI_len (n i : Nat) : (octsI n i).length ≤ 3 := by
  match i with
  | 0 => simp [octsI]
  | 1 => simp only [octsI, octs1]; split <;> simp
  | i + 2 => simp only [octsI, octs, octs1]; split <;> split <;> simp
theorem f_octets (T : TopF g) {x : Nat} : Does g (n + 1) (fun vs => call (.ref 164) vs) [.dat (dN x)] (isD (dL (octs x))) := by
  refine does_top (names := ["number"]) T 8 rfl (fun fd vs hp hd hv => by obtain ⟨v, rfl⟩ := len1 hv; unfold bindArgs; rw [hp, hd]; rfl) (by decide) (by decide) rfl (by decide) rfl rfl rfl rfl ?_
  refine blkZ_of (blk_cons (stm_asg (lv := .dat (dL (octsI x 0))) ((ev_list (ds := [.int ((x : Int) % 64)]) (all_cons (ev_bin (op_mod (b := 64) (by decide)) (ev_name mA) ev_int) all_nil) (Nat.le_of_ble_eq_true rfl)).as (by simp [octsI])) (by decide) rfl (fun p hp => hp) rfl (fun _ => rfl)) ?_)
  refine blk_cons (stm_for (ρs := fun i => [("digits", .dat (dL (octsI x i))), ("number", .dat (dN x))]) (ds := [.int 64, .int 4096]) (it_of (ev_tuple (ds := [.int 64, .int 4096]) (all_cons ev_int (all_cons ev_int all_nil)) (by decide)) (.tup _)) (fun i => no_name rfl) (fun i p hp b hb => ?_) ?_ (by decide) (fun _ _ => rfl)) (blk_stop (stm_retD (ev_name mA)))
  · simp only [List.mem_cons, List.not_mem_nil, or_false] at hp
    rcases hp with rfl | rfl <;> cases hb
  · intro i d hd
    obtain ⟨p, rfl, hs, h0, h1⟩ : ∃ p : Nat, d = .int p ∧ octsI x (i + 1) = (if p ≤ x then (64 + x / p % 64) :: octsI x i else octsI x i) ∧ 0 < p ∧ p < 10000 := by
      match i, hd with
      | 0, hd => cases hd; exact ⟨64, rfl, by simp only [octsI, octs1], by decide, by decide⟩
      | 1, hd => cases hd; exact ⟨4096, rfl, by simp only [octsI, octs], by decide, by decide⟩
    have hl := octsI_len x i
    refine blk_one (stm_if (b := decide ((p : Int) ≤ x)) (ts_cmp op_ge (ev_name mC) (ev_name mA) rfl) (fun hb => ?_) (fun hb => ?_))
    · have hle : p ≤ x := by simpa using hb
      rw [hs, if_pos hle]
      refine blk_one (stm_asg (ρ' := [("number", .dat (dN x))]) ((ev_bin (op_addL (ds := [.int (64 + (x : Int) / p % 64)]) (es := (octsI x i).map dN) (by simp; omega)) (ev_list (ds := [.int (64 + (x : Int) / p % 64)]) (all_cons (ev_bin op_add ev_int (ev_bin (op_mod (b := 64) (by decide)) (ev_bin (op_fdiv (b := (p : Int)) (by omega) (by omega)) (ev_name mC) (ev_name mA)) ev_int)) all_nil) (Nat.le_of_ble_eq_true rfl)) (ev_name mB)).as ?_) (by decide) rfl (fun p hp => .tail _ (.tail _ hp)) rfl (fun _ => rfl))
      simp
    · have hle : ¬ p ≤ x := by simpa using hb
      rw [hs, if_neg hle]
      exact blk_to blk_nil fun p hp => .tail _ hp
end Mine
end

noncomputable section
namespace Mine
variable {g : Gl} {n : Nat}
theorem bitOr_nat (a b : Nat) : Builtin.bitOr (a : Int) (b : Int) = ((a ||| b : Nat) : Int) := by
  have hn : ∀ x : Int, Builtin.bitNot (Builtin.bitNot x) = x := fun x => by unfold Builtin.bitNot; omega
  have h0 : ∀ x : Nat, decide (0 ≤ Builtin.bitNot (x : Int)) = false := fun x => by
    rw [decide_eq_false_iff_not]; unfold Builtin.bitNot; omega
  unfold Builtin.bitOr Builtin.bitAnd
  rw [h0 a, h0 b]
  dsimp only
  rw [hn, hn, hn, Int.toNat_natCast, Int.toNat_natCast]
theorem or_six {v d : Nat} (h : d < 64) : (v * 64) ||| d = v * 64 + d := by
  have := Nat.shiftLeft_add_eq_or_of_lt (i := 6) (b := d) (by omega) v
  rw [Nat.shiftLeft_eq] at this
  exact this.symm
theorem and64 : ∀ o : Nat, o < 256 → (Builtin.bitAnd (o : Int) 64 != 0) = decide (o / 64 % 2 = 1) := by decide +kernel
section
variable {sc : Scope} {ρ : List (Str × Lv)} {e : Expr} {x : Str} {pos : Pos}
theorem op_ior {a b : Int} : Op2 g n (inplaceOp .BitOr) (.int a) (.int b) (.int (Builtin.bitOr a b)) := fun A X s x y E Q B hX hl rx ry k => by
  obtain ⟨t, rfl⟩ := rx.inv_int; obtain ⟨u, rfl⟩ := ry.inv_int; exact ior_int (k _ _ Up.tok (.int _ _))
theorem op_ilsh {a b : Int} (h0 : 0 ≤ b) (h1 : b ≤ 1000000) (ha : a.natAbs < 2 ^ 64) : Op2 g n (inplaceOp .LShift) (.int a) (.int b) (.int (a * 2 ^ b.toNat)) := fun A X s x y E Q B hX hl rx ry k => by
  obtain ⟨t, rfl⟩ := rx.inv_int; obtain ⟨u, rfl⟩ := ry.inv_int; exact ilshift_int_small h0 h1 ha (k _ _ Up.tok (.int _ _))
theorem ts_int {i : Int} (h : EvD g n sc ρ e (.int i)) (he : ∀ env whole, isTrue e env whole = (do let v ← whole; standAt e.pos; holding [v] (truthy v)) := by intro _ _; rfl) : Ts g n sc ρ e (i != 0) :=
  ts_of h (fun A X s v E Q r k => by obtain ⟨t, rfl⟩ := Rep.inv_int r; exact P.truthy_int (k _ Up.refl)) he
end
noncomputable def vval (L : List Nat) : Nat → Nat
  | 0 => L.getD 0 0 % 64
  | i + 1 => vval L i * 64 + L.getD (i + 1) 0 % 64
theorem vval_lt (L : List Nat) : ∀ i, vval L i < 64 ^ (i + 1)
  | 0 => by simp only [vval]; omega
  | i + 1 => by
    have := vval_lt L i
    simp only [vval]
    rw [Nat.pow_succ]
    omega
theorem f_varint (T : TopF g) {L R : List Nat} {r : Addr} (hne : L ≠ []) (hlen : L.length ≤ 3) (h256 : ∀ o ∈ L, o < 256) (hmore : ∀ i o, L[i]? = some o → (o / 64 % 2 = 1 ↔ i + 1 < L.length))
    (A : Around) (X : List Addr) (s : Shared) (E : Value → Shared → Prop) (Q : Value → Shared → Prop) (hB : Bd (n + 1) A) (hT : Tp g.K s.heap) (ht : TabOk s.heap) (hX : PT ∈ X) (hl : Lives g.K X s.heap) (hr : r ∈ X) (hi : ItL X s.heap r ((L ++ R).map dN))
    (k : ∀ v s', Up [PT, r] s s' → Rep X s'.heap v (dN (vval L (L.length - 1))) → ItL X s'.heap r (R.map dN) → Q v s') : wpAny (model g.prog g.w) A (call (.ref 141) [.ref r]) Q E s := by
  obtain ⟨ob, fd, H, hdf⟩ := T.fn 6 141 19 rfl
  refine wpAny_call (codeAny_call_function hB.room (hT.k _ _ H.at_) H.data (by rw [H.scope]; rfl) (by rw [H.scope]; rfl) H.body (codeRec_of hT.k H.code) ?_)
  have hbind : bindArgs fd ⟨[.ref r], []⟩ = pure ((["iterator"] : List Str).zip [Value.ref r]) := by unfold bindArgs; rw [H.params, hdf]; rfl
  rw [hbind]
  refine wpAny_pure (fn_env (names := ["iterator"]) (ls := [.lit r ((L ++ R).map dN)]) (rs := [r]) H A X s [.ref r] E Q hB hT ht hX hl (.cons ⟨rfl, hr, hi⟩ .nil) (fun a ha => by rw [List.mem_singleton.mp ha]; exact hr)
    (fun l hl' a ha => by rw [List.mem_singleton.mp hl'] at ha; cases ha; exact .head _) (by decide) (by decide) rfl (by decide) rfl fun env s₁ F _ => ?_)
  have key : Blk g n (dn 19).scope [("iterator", .lit r ((L ++ R).map dN))] (dn 19).body (.ret fun X h v => Rep X h v (dN (vval L (L.length - 1))) ∧ (r ∈ X → ItL X h r (R.map dN))) := by
    have dropL : ∀ i, i < L.length → ((L ++ R).drop i).map dN = dN (L.getD i 0) :: ((L ++ R).drop (i + 1)).map dN := fun i hi => by
      rw [List.drop_eq_getElem_cons (by rw [List.length_append]; omega), List.map_cons, List.getElem_append_left hi]
      simp [List.getD, hi]
    have h0 : 0 < L.length := List.length_pos_iff.mpr hne
    have hm : ∀ i, i < L.length → (L.getD i 0 < 256 ∧ (L.getD i 0 / 64 % 2 = 1 ↔ i + 1 < L.length)) := fun i hi => by
      have e : L[i]? = some (L.getD i 0) := by simp [List.getD, hi]
      exact ⟨h256 _ (List.mem_of_getElem? e), hmore i _ e⟩
    refine blk_cons (stm_next (a := r) (d := dN (L.getD 0 0)) (ds := ((L ++ R).drop 1).map dN) (ρ' := []) (ev_b T 11 rfl rfl rfl) ?_ (fun _ h => nomatch h) rfl (by decide) (by decide) (fun _ => rfl) (fun _ => rfl) (fun _ => rfl) (by decide) (by decide)) ?_
    · have := dropL 0 h0
      rw [List.drop_zero] at this
      rw [this]; exact .head _
    refine blk_cons (stm_asg (lv := .dat (dN (vval L 0))) ((ev_bin op_and (ev_name mA) ev_int).as (by rw [bitAnd_m6]; simp [vval])) (by decide) rfl (fun p hp => hp) rfl (fun _ => rfl)) ?_
    refine blk_cons (stm_while (N := L.length - 1) (ρs := fun i => [("val", .dat (dN (vval L i))), ("b", .dat (dN (L.getD i 0))), ("iterator", .lit r (((L ++ R).drop (i + 1)).map dN))]) (fun i hi => ?_) (fun i hi => ?_) ?_) ?_
    · have hq := hm i (by omega)
      refine (ts_int (ev_bin op_and (ev_name mB) ev_int)).as ?_
      rw [and64 _ hq.1]
      exact decide_eq_true (hq.2.mpr (by omega))
    · have hq := hm (i + 1) (by omega)
      have hv := vval_lt L i
      have hp : 64 ^ (i + 1) ≤ 64 ^ 3 := Nat.pow_le_pow_right (by decide) (by omega)
      refine blk_cons (stm_aug (d' := dN (vval L i * 64)) mA ev_int ?_ (by decide) (ρ' := [("b", .dat (dN (L.getD i 0))), ("iterator", .lit r (((L ++ R).drop (i + 1)).map dN))]) rfl (fun p hp => .tail _ hp) (by decide)) ?_
      · have := op_ilsh (g := g) (n := n) (a := (vval L i : Int)) (b := 6) (by decide) (by decide) (by omega)
        rw [show (vval L i : Int) * 2 ^ (6 : Int).toNat = ((vval L i * 64 : Nat) : Int) by rw [Int.natCast_mul]; rfl] at this
        exact this
      refine blk_cons (stm_next (a := r) (d := dN (L.getD (i + 1) 0)) (ds := ((L ++ R).drop (i + 2)).map dN) (ρ' := [("val", .dat (dN (vval L i * 64)))]) (ev_b T 11 rfl rfl rfl) ?_ (fun p hp => ?_) rfl (by decide) (by decide) (fun _ => rfl) (fun _ => rfl) (fun _ => rfl) (by decide) (by decide)) ?_
      · rw [dropL (i + 1) (by omega)]; exact mC
      · rw [List.mem_singleton.mp hp]; exact ⟨.head _, nofun⟩
      refine blk_one (stm_aug (d' := dN (vval L (i + 1))) mC ((ev_bin op_and (ev_name mA) ev_int).as (d' := dN (L.getD (i + 1) 0 % 64)) (by rw [bitAnd_m6]; simp)) ?_ (by decide) (ρ' := [("b", .dat (dN (L.getD (i + 1) 0))), ("iterator", .lit r (((L ++ R).drop (i + 2)).map dN))]) rfl (fun p hp => ?_) (by decide))
      · have := op_ior (g := g) (n := n) (a := ((vval L i * 64 : Nat) : Int)) (b := ((L.getD (i + 1) 0 % 64 : Nat) : Int))
        rw [bitOr_nat, or_six (Nat.mod_lt _ (by decide))] at this
        exact this
      · simp only [List.mem_cons, List.not_mem_nil, or_false] at hp
        rcases hp with rfl | rfl
        · exact mA
        · exact mB
    · have hq := hm (L.length - 1) (by omega)
      refine (ts_int (ev_bin op_and (ev_name mB) ev_int)).as ?_
      rw [and64 _ hq.1]
      exact decide_eq_false fun q => by have := hq.2.mp q; omega
    · refine blk_one (stm_ret (P := fun X h v => Rep X h v (dN (vval L (L.length - 1))) ∧ (r ∈ X → ItL X h r (R.map dN))) (fun A env X s E Q o k => ?_) fun X Y h v hs p => ⟨p.1.less hs, fun hy => ?_⟩)
      · obtain ⟨v, hv, rv⟩ := o.cx.vars _ mC
        refine ev_name (ρ := _) (lv := .dat (dN (vval L (L.length - 1)))) mA (by decide) (by decide) A env X s E Q o fun w s' u rw' => k w s' u ⟨rw', fun _ => ?_⟩
        have := (rv.ex o.cx.tab o.cx.tabX u).2.2
        rw [show L.length - 1 + 1 = L.length by omega, List.drop_left] at this
        exact this
      · exact (p.2 (hs r hy)).to (fun b ob hb e => ⟨fun q => hb (hs b q), e⟩) fun _ e => e
  exact key (A.deeper env) env s _ X _ s₁ _ _ F fun v s' u p => k v s' u p.1 (p.2 hr)
end Mine
end

noncomputable section
namespace Mine
section
variable {g : Gl} {n : Nat} {A : Around} {E : Value → Shared → Prop} {s : Shared} {X : List Addr}
theorem next_raise {it l : Addr} {i : Nat} {items : Array Value} {Q : Value → Shared → Prop} (hh : A.handled = none) (hit : s.heap.IsListIter it l i) (hl : s.heap.IsList l items) (hx : items[i]? = none)
    (hE : ∀ h₁ h' e, Heap.ExtBut it s.heap h₁ → (∃ o, h₁.get? it = some o) → Heap.MadeExcOf h₁ h' e (.type "StopIteration") [] → E (.ref e) { s with heap := h' }) : wpAny (model g.prog g.w) A (call (.builtin "next") [.ref it]) Q E s := by
  refine call_function_entry (by decide +kernel) (by decide +kernel) kdk_entry_next (kdk_args_next _) ?_
  unfold Builtin.«next»
  refine wpAny_bind (m := someArgs "next" 1 2 _) (wpAny_of_eq (a := [Value.ref it]) (by first | rfl | kernel_rfl!) ?_)
  dsimp only
  refine wpAny_bind (wpAny_specialOf (name := Str.ofString "__next__") hit.typeIs slot_listiter_next.lookup ?_)
  refine wpAny_ite_split (fun hab => absurd hab (by decide)) (fun _ => ?_)
  obtain ⟨o, ho, hc, hd⟩ := id hit
  obtain ⟨ol, hol, _, nl, hdl⟩ := hl
  refine wpAny_bind (wpAny_callSpecial?_slot (name := Str.ofString "__next__") hit.typeIs slot_listiter_next
    (wpAny_call_entry slot_listiter_next hit.typeIs entry_listiter_next ?_ (args_listiter_next _)))
  show wpAny _ _ (field (.ref it) 0 >>= _) _ _ s
  refine wpAny_bind (wpAny_field ho hd (x := .ref l) rfl ?_)
  show wpAny _ _ (if (Value.ref l == Value.none) = true then _ else _) _ _ s
  rw [if_neg (show ¬ ((Value.ref l == Value.none) = true) from Bool.false_ne_true)]
  show wpAny _ _ (field (.ref it) 1 >>= _) _ _ s
  refine wpAny_bind (wpAny_field ho hd (x := .int i 0) rfl ?_)
  show wpAny _ _ (seqItems? (.ref l) >>= _) _ _ s
  refine wpAny_bind (wpAny_seqItems hol hdl ?_)
  simp only [Int.toNat_natCast, hx]
  refine wpAny_bind (wpAny_rule (wpAny_bind (wpAny_setField ho hd (by simp) ?_)))
  show wpAny _ _ (newExc (.type "StopIteration") [] >>= _) _ _ _
  refine wpAny_bind ?_
  simp only [newExc, newTuple]
  refine wpAny_bind (wpAny_newObj_type ?_ (by size_fits))
  refine wpAny_bind (m := firstArgMember _ _) (wpAny_of_eq (a := Value.none) (by first | rfl | (simp only [firstArgMember]; rfl)) ?_)
  refine wpAny_newObj_type ?_ (by size_fits)
  simp only [raiseNew]
  refine wpAny_bind (wpAny_handled ?_)
  rw [show A.in1.in1.handled = none from hh]
  refine wpAny_bind (wpAny_pure (wpAny_throw ?_))
  refine hE (s.heap.update it (Obj.mapFields (·.setIfInBounds 0 .none))) _ _ (Heap.SameBut.update ..).extBut ⟨_, Heap.get?_update_self _ ho (Obj.isFreed_of_fields (Obj.data_mapFields hd _))⟩ ⟨fun b o e => Heap.get?_push_of_some _ (Heap.get?_push_of_some _ e), ?_, ?_⟩
  · exact Heap.get?_none_of_le (by rw [Heap.size_push]; exact Nat.le_succ _)
  · exact ⟨_, Heap.get?_push_size _ rfl, get_size _, Heap.get?_push_of_some _ (Heap.get?_push_size _ rfl)⟩
end
end Mine
end

noncomputable section
namespace Mine
theorem funFrames_of {h B : Heap} : ∀ {l : List Env}, (∀ env ∈ l, env.scope.kind ≠ .module ∧ ∃ L o, env.frame = some L ∧ B.get? L = none ∧ h.get? L = some o ∧ ∀ vs, o.data ≠ .fields vs) → h.FunFrames B l
  | [], _ => trivial
  | e :: l, k => ⟨(k e (.head _)).1, (k e (.head _)).2, funFrames_of fun e' he => k e' (.tail _ he)⟩
noncomputable def OutOk (h : Heap) (r : Addr) (outer : List Env) : Prop := ∀ env ∈ outer, env.scope.kind ≠ .module ∧ ∃ L o es ep, env.frame = some L ∧ h.get? L = some o ∧ o.data = .dict es ep ∧ L ≠ r
structure Fly (B : Heap) (r : Addr) (Ls : List Addr) (h h' : Heap) : Prop where
  old : ∀ b o, b ∉ PT :: r :: Ls → h.get? b = some o → B.get? b = some o
  tab : TabOk B
  it : ∃ o, B.get? r = some o
  slot : ∀ L o, L ∈ Ls → h.get? L = some o → (∀ vs, o.data ≠ .fields vs) → ∃ sl, h'.get? L = some { o with slots := sl }
noncomputable abbrev framesOf (l : List Env) : List Addr := l.filterMap (·.frame)
variable {g : Gl} {n : Nat}
theorem varint_ends (T : TopF g) {r : Addr} {outer : List Env} (A : Around) (X : List Addr) (s : Shared) (E : Value → Shared → Prop) (Q : Value → Shared → Prop) (hB : Bd (n + 1) A) (hT : Tp g.K s.heap) (ht : TabOk s.heap) (hX : PT ∈ X) (hl : Lives g.K X s.heap) (hr : r ∈ X) (hi : ItL X s.heap r [])
    (hfr : A.frames = some outer) (ho : OutOk s.heap r outer)
    (k : ∀ (B h' : Heap) (tk : Nat) (e : Addr) (a0 : Value), Heap.FlyingW B outer e (.type "StopIteration") a0 h' → Fly B r (framesOf outer) s.heap h' → E (.ref e) { s with heap := h', toks := tk }) : wpAny (model g.prog g.w) A (call (.ref 141) [.ref r]) Q E s := by
  obtain ⟨ob, fd, H, hdf⟩ := T.fn 6 141 19 rfl
  refine wpAny_call (codeAny_call_function hB.room (hT.k _ _ H.at_) H.data (by rw [H.scope]; rfl) (by rw [H.scope]; rfl) H.body (codeRec_of hT.k H.code) ?_)
  have hbind : bindArgs fd ⟨[.ref r], []⟩ = pure ((["iterator"] : List Str).zip [Value.ref r]) := by unfold bindArgs; rw [H.params, hdf]; rfl
  rw [hbind]
  refine wpAny_pure (fn_env (names := ["iterator"]) (ls := [.lit r []]) (rs := [r]) H A X s [.ref r] E Q hB hT ht hX hl (.cons ⟨rfl, hr, hi⟩ .nil) (fun a ha => by rw [List.mem_singleton.mp ha]; exact hr)
    (fun l hl' a ha => by rw [List.mem_singleton.mp hl'] at ha; cases ha; exact .head _) (by decide) (by decide) rfl (by decide) rfl fun env s₁ F henv => ?_)
  refine wpAny_execs_cons (wpAny_Assign_Name (Call_ (ev_b (n := n) (g := g) (sc := (dn 19).scope) (ρ := [("iterator", .lit r [])]) T 11 rfl rfl rfl _ env _ s₁ _ _ F.ok fun v s₂ u₁ r₁ => ?_) rfl) rfl)
  have r₁' : v = .builtin "next" := r₁
  subst r₁'
  have F₂ := F.up u₁
  obtain ⟨v, hv, rv⟩ := F₂.ok.cx.vars _ (.head _)
  obtain ⟨rfl, hrX, l, i, vs, m, hit, hlX, hlo, hra⟩ := rv
  refine callWith_builtin1 (spliced_more (load_var F₂.ok.cx.fn hv (Calls.spliced_nil ?_) (by decide) (by decide)) rfl) rfl rfl
  have hend : vs.toArray[i]? = none := by
    have := hra.length
    simp at this; simp; omega
  refine next_raise (g := g) F₂.ok.bd.hd hit ⟨_, hlo, rfl, _, rfl⟩ hend fun h₁ h' e hs₁ hrh hm => ?_
  obtain ⟨_, _, _, hframe⟩ := henv
  obtain ⟨mL, hnL⟩ := F₂.ok.cx.ns
  have tab₂ := F₂.ok.cx.tab
  have hLP : env.locals ≠ PT := Ns_ne tab₂ hnL
  obtain ⟨oi, hoi, hci, hdi⟩ := id hit
  obtain ⟨oL, esL, epL, hoL, hdL, _⟩ := id hnL
  have hLr : env.locals ≠ r := fun q => by rw [q, hoi] at hoL; cases hoL; rw [hdi] at hdL; cases hdL
  have hLs : s.heap.get? env.locals = none := F₂.oL.resolve_left fun q => (List.mem_cons.mp q).elim hLP fun q => hLr (List.mem_singleton.mp q)
  have hL₁ : h₁.get? env.locals = some oL := hs₁ _ _ hLr hoL
  have ex := F₂.ex
  have hduI : Dull oi := fun us q => by
    refine ⟨by rw [hci]; exact nofun, ?_⟩
    rw [hdi] at q; cases q
    intro q t e; simp at e
  have k₁ : ∀ b o, b ≠ PT → b ≠ r → s.heap.get? b = some o → h₁.get? b = some o := fun b o h1 h2 q => hs₁ b o h2 (ex.keep b o (fun z => (List.mem_cons.mp z).elim h1 fun z => h2 (List.mem_singleton.mp z)) q)
  have out₁ : ∀ env' ∈ outer, env'.scope.kind ≠ .module ∧ ∃ L o es ep, env'.frame = some L ∧ h₁.get? L = some o ∧ o.data = .dict es ep := fun env' he => by
    obtain ⟨hk, L, o, es, ep, hf, hg, hd, hne⟩ := ho env' he
    exact ⟨hk, L, o, es, ep, hf, k₁ L o (IsTab_ne ht hg fun vs q => by rw [hd] at q; cases q) hne hg, hd⟩
  have memF : ∀ L ∈ framesOf outer, ∃ env' ∈ outer, env'.frame = some L := fun L hL => by
    obtain ⟨env', he, hf⟩ := List.mem_filterMap.mp hL; exact ⟨env', he, hf⟩
  have dullLs : ∀ a ∈ env.locals :: framesOf outer, ∃ o, h₁.get? a = some o ∧ Dull o := fun a ha => by
    rcases List.mem_cons.mp ha with rfl | ha
    · exact ⟨_, hL₁, Dull.dict hdL⟩
    · obtain ⟨env', he, hf⟩ := memF a ha
      obtain ⟨_, L, o, es, ep, hf', hg, hd⟩ := out₁ env' he
      rw [hf] at hf'; cases hf'
      exact ⟨o, hg, Dull.dict hd⟩
  have tabB : TabOk (hideAll h₁ (env.locals :: framesOf outer)) :=
    (tab₂.keepsBut (Z := [r]) (fun b o hb q => hs₁ b o (fun z => hb (by rw [z]; exact .head _)) q) (fun a ha => by rw [List.mem_singleton.mp ha]; exact ⟨oi, hoi, hduI⟩)).keepsBut (Z := env.locals :: framesOf outer) (fun b o hb q => hideAll_get _ q hb) dullLs
  have hrL : r ∉ env.locals :: framesOf outer := fun q => by
    rcases List.mem_cons.mp q with q | q
    · exact hLr q.symm
    · obtain ⟨env', he, hf⟩ := memF r q
      obtain ⟨_, L, _, _, _, hf', _, _, hne⟩ := ho env' he
      rw [hf] at hf'; cases hf'; exact hne rfl
  have FF : h₁.FunFrames (hideAll h₁ (env.locals :: framesOf outer)) (env :: outer) := funFrames_of fun env' he => by
    rcases List.mem_cons.mp he with rfl | he
    · exact ⟨by rw [F₂.ok.sc]; exact nofun, _, oL, hframe, hideAll_none _ (.head _), hL₁, fun vs q => by rw [hdL] at q; cases q⟩
    · obtain ⟨hk, L, o, es, ep, hf, hg, hd⟩ := out₁ env' he
      exact ⟨hk, L, o, hf, hideAll_none _ (.tail _ (List.mem_filterMap.mpr ⟨env', he, hf⟩)), hg, fun vs q => by rw [hd] at q; cases q⟩
  refine wpAny_leaves_madeW (base := hideAll h₁ (env.locals :: framesOf outer)) (h := h₁) (Around.frames_deeper hfr) hframe (fun b o q => of_hideAll _ q) FF hm fun h'' t hfly htup hbt hsl => ?_
  have fin := k (hideAll h₁ (env.locals :: framesOf outer)) h'' s₂.toks e (.ref t) hfly ⟨fun b o hb q => hideAll_get _ (k₁ b o (fun z => hb (z ▸ .head _)) (fun z => hb (z ▸ .tail _ (.head _))) q) (fun z => ?_), tabB, ?_, fun L o hL q hn => ?_⟩
  · obtain ⟨hh, tk, es⟩ := ex.same
    rw [es] at fin ⊢
    exact fin
  · rcases List.mem_cons.mp z with z | z
    · rw [z, hLs] at q; cases q
    · exact hb (.tail _ (.tail _ z))
  · obtain ⟨o, q⟩ := hrh
    exact ⟨o, hideAll_get _ q hrL⟩
  · refine hsl L o (hm.keeps L o (k₁ L o (IsTab_ne ht q hn) (fun z => hrL (.tail _ (z ▸ hL))) q)) hn
end Mine
end

noncomputable section
namespace Mine
variable {g : Gl} {n : Nat}
theorem f_ended (T : TopF g) {r : Addr} {outer : List Env} (A : Around) (X : List Addr) (s : Shared) (E : Value → Shared → Prop) (Q : Value → Shared → Prop) (hB : Bd (n + 2) A) (hT : Tp g.K s.heap) (ht : TabOk s.heap) (hX : PT ∈ X) (hl : Lives g.K X s.heap) (hr : r ∈ X) (hi : ItL X s.heap r [])
    (hfr : A.frames = some outer) (ho : OutOk s.heap r outer) (hoX : ∀ L ∈ framesOf outer, L ∈ X)
    (k : ∀ (h' : Heap) (tk : Nat), (∀ b o, b ∉ PT :: r :: framesOf outer → s.heap.get? b = some o → h'.get? b = some o) → TabOk h' → (∃ o, h'.get? r = some o) →
      (∀ L o, L ∈ framesOf outer → s.heap.get? L = some o → (∀ vs, o.data ≠ .fields vs) → ∃ sl, h'.get? L = some { o with slots := sl }) → Q (.bool true) { s with heap := h', toks := tk }) : wpAny (model g.prog g.w) A (call (.ref 171) [.ref r]) Q E s := by
  obtain ⟨ob, fd, H, hdf⟩ := T.fn 9 171 26 rfl
  refine wpAny_call (codeAny_call_function hB.room (hT.k _ _ H.at_) H.data (by rw [H.scope]; rfl) (by rw [H.scope]; rfl) H.body (codeRec_of hT.k H.code) ?_)
  have hbind : bindArgs fd ⟨[.ref r], []⟩ = pure ((["reader"] : List Str).zip [Value.ref r]) := by unfold bindArgs; rw [H.params, hdf]; rfl
  rw [hbind]
  refine wpAny_pure (fn_env (names := ["reader"]) (ls := [.lit r []]) (rs := [r]) H A X s [.ref r] E Q hB hT ht hX hl (.cons ⟨rfl, hr, hi⟩ .nil) (fun a ha => by rw [List.mem_singleton.mp ha]; exact hr)
    (fun l hl' a ha => by rw [List.mem_singleton.mp hl'] at ha; cases ha; exact .head _) (by decide) (by decide) rfl (by decide) rfl fun env s₁ F henv => ?_)
  obtain ⟨_, _, _, hframe⟩ := henv
  refine wpAny_execs_cons (wpAny_Try_except (wpAny_execs_cons (wpAny_Expr_any (Call_ (ev_g (n := n + 1) (g := g) (sc := (dn 26).scope) (ρ := [("reader", .lit r [])]) T 7 rfl rfl rfl _ env _ s₁ _ _ F.ok fun v s₂ u₁ r₁ => ?_) rfl) (by unfold interactive; rw [F.ok.cx.fn]; rfl) rfl)))
  have r₁' : v = .ref 141 := r₁
  subst r₁'
  have F₂ := F.up u₁
  obtain ⟨v, hv, rv⟩ := F₂.ok.cx.vars _ (.head _)
  obtain ⟨rfl, hrX, hit⟩ := rv
  refine callWith_K F₂.ok.cx.top.k (T.keep 7 _ _ rfl (by decide)) (spliced_more (load_var F₂.ok.cx.fn hv (Calls.spliced_nil ⟨F₂.ok.cx.top.k, ?_⟩) (by decide) (by decide)) rfl) rfl rfl
  obtain ⟨mL, hnL⟩ := F₂.ok.cx.ns
  have tab₂ := F₂.ok.cx.tab
  have hLP : env.locals ≠ PT := Ns_ne tab₂ hnL
  obtain ⟨oL, esL, epL, hoL, hdL, _⟩ := id hnL
  have hLr : env.locals ≠ r := fun q => by
    obtain ⟨l, i, vs, m, ⟨oi, hoi, _, hdi⟩, _⟩ := hit
    rw [q, hoi] at hoL; cases hoL; rw [hdi] at hdL; cases hdL
  have hLs : s.heap.get? env.locals = none := F₂.oL.resolve_left fun q => (List.mem_cons.mp q).elim hLP fun q => hLr (List.mem_singleton.mp q)
  have ex := F₂.ex
  have k₁ : ∀ b o, b ≠ PT → b ≠ r → s.heap.get? b = some o → s₂.heap.get? b = some o := fun b o h1 h2 q => ex.keep b o (fun z => (List.mem_cons.mp z).elim h1 fun z => h2 (List.mem_singleton.mp z)) q
  have ho₂ : OutOk s₂.heap r (env :: outer) := fun env' he => by
    rcases List.mem_cons.mp he with rfl | he
    · exact ⟨by rw [F₂.ok.sc]; exact nofun, _, oL, esL, epL, hframe, hoL, hdL, hLr⟩
    · obtain ⟨hk, L, o, es, ep, hf, hg, hd, hne⟩ := ho env' he
      exact ⟨hk, L, o, es, ep, hf, k₁ L o (IsTab_ne ht hg fun vs q => by rw [hd] at q; cases q) hne hg, hd, hne⟩
  have hfo : framesOf (env :: outer) = env.locals :: framesOf outer := by
    show List.filterMap _ _ = _
    rw [List.filterMap_cons, hframe]
  refine varint_ends (n := n) T _ _ s₂ _ _ F₂.ok.bd F₂.ok.cx.top tab₂ F₂.ok.cx.tabX F₂.ok.cx.live hrX hit (Around.frames_deeper hfr) ho₂ fun B h' tk e a0 hfly fl => ?_
  rw [hfo] at fl
  refine wpAny_looks_onW (Around.frames_deeper hfr) hframe hfly fun h₂ hheld sm₁ => ?_
  refine wpAny_landsW hheld fun h₃ hfly₃ sm₂ => ?_
  have tp₃ : Tp g.K h₃ := F₂.ok.cx.top.wide (ys := PT :: r :: env.locals :: framesOf outer) (fun b o hb q => hfly₃.1 b o (fl.old b o hb q)) fun a ha => by
    refine (F₂.ok.cx.live a ?_).2
    rcases List.mem_cons.mp ha with rfl | ha
    · exact F₂.ok.cx.tabX
    rcases List.mem_cons.mp ha with rfl | ha
    · exact hrX
    rcases List.mem_cons.mp ha with rfl | ha
    · exact F₂.ok.cx.own.1
    · exact F₂.lo a (hoX a ha)
  refine wpAny_handleBy_builtin (X := "StopIteration") (T := "StopIteration") (b := true) owsi_raise.isExc (by kernel_rfl) owsi_facts.sub ?_
  obtain ⟨mg, hg⟩ := tp₃.g
  obtain ⟨mb, hm, hb'⟩ := tp₃.b
  refine Calls.Name_function_global F₂.ok.cx.fn (by rw [Env.kindOf, F₂.ok.sc]; rfl) (Calls.loadGlobal_builtin (mg := mg) (mb := mb) (by rw [F₂.ok.cx.gl]; exact hg) (mg_none_of tp₃.k hg (T.free 17 _ _ rfl)) (by rw [F₂.ok.cx.bt]; exact hm) ((hb' _ (bils_ok 17 _ _ rfl).2).trans (bils_ok 17 _ _ rfl).1) ⟨rfl, ?_, ?_⟩) rfl
  · obtain ⟨o, q, c⟩ := hfly₃.there
    exact ⟨o, q, c⟩
  rw [if_pos rfl]
  refine lands_againW hfly₃ fun h₄ hfly₄ sm₃ => ?_
  refine wpAny_execs_cons (wpAny_Return_some (wpAny_pure ?_))
  have sm := (sm₁.trans sm₂).trans sm₃
  have fin := k h₄ tk (fun b o hb q => hfly₄.1 b o (fl.old b o (fun z => ?_) (k₁ b o (fun z => hb (z ▸ .head _)) (fun z => hb (z ▸ .tail _ (.head _))) q))) (fl.tab.keeps hfly₄.1) (let ⟨o, q⟩ := fl.it; ⟨o, hfly₄.1 r o q⟩) fun L o hL q hn => ?_
  · obtain ⟨hh, tk', es⟩ := ex.same
    rw [es]
    exact fin
  · rcases List.mem_cons.mp z with z | z
    · exact hb (z ▸ .head _)
    rcases List.mem_cons.mp z with z | z
    · exact hb (z ▸ .tail _ (.head _))
    rcases List.mem_cons.mp z with z | z
    · rw [z, hLs] at q; cases q
    · exact hb (.tail _ (.tail _ z))
  · have hLne : L ≠ r := by
      obtain ⟨env', he, hf⟩ := List.mem_filterMap.mp hL
      obtain ⟨_, L', _, _, _, hf', _, _, hne⟩ := ho env' he
      rw [hf] at hf'; cases hf'; exact hne
    obtain ⟨sl, q'⟩ := fl.slot L o (.tail _ hL) (k₁ L o (IsTab_ne ht q hn) hLne q) hn
    obtain ⟨sl', q''⟩ := sm L _ q' hn
    exact ⟨sl', q''⟩
end Mine
end

noncomputable section
namespace Mine
variable {g : Gl} {n : Nat}
inductive Plain : PyData → Prop
  | list (ds : List PyData) : Plain (.list ds)
  | str (x : Str) : Plain (.str x)
theorem a0 {α : Type} {P : α → Prop} : ∀ p ∈ ([] : List α), P p := fun _ h => nomatch h
theorem al {α : Type} {P : α → Prop} {a : α} {l : List α} (h : P a) (r : ∀ p ∈ l, P p) : ∀ p ∈ a :: l, P p := List.forall_mem_cons.mpr ⟨h, r⟩
theorem nq {x y : Str} {lv : Lv} (h : (x == y) = false) : ((x, lv) : Str × Lv).1 ≠ y := fun q => by have q' : x = y := q; rw [q', beq_self_eq_true] at h; cases h
theorem f_reduce (T : TopF g) {fv : Addr} {lv : Lv} {ds : List PyData} {ac : Nat → PyData} {v1 v2 : Value} (hi : IterOf lv ds) (hlo : lv.own = none) (hp : Plain (ac 0))
    (A : Around) (X : List Addr) (s : Shared) (E : Value → Shared → Prop) (Q : Value → Shared → Prop) (hB : Bd (n + 1) A) (hT : Tp g.K s.heap) (ht : TabOk s.heap) (hX : PT ∈ X) (hl : Lives g.K X s.heap)
    (h1 : lv.is X s.heap v1) (h2 : Rep X s.heap v2 (ac 0)) (hfn : ∀ s', Up [PT] s s' → FnAt fv s'.heap)
    (hcall : ∀ i d, ds[i]? = some d → ∀ A' X' s' a b E' Q', Bd n A' → Tp g.K s'.heap → TabOk s'.heap → (∀ z ∈ X, z ∈ X') ∧ (∀ z ∈ X', z ∈ X ∨ s.heap.get? z = none) → Lives g.K X' s'.heap → Up [PT] s s' → Rep X' s'.heap a (ac i) → Rep X' s'.heap b d →
      (∀ v s'', Ex s' s'' → Rep X' s''.heap v (ac (i + 1)) → Q' v s'') → wpAny (model g.prog g.w) A' (call (.ref fv) [a, b]) Q' E' s')
    (k : ∀ v s', Ex s s' → Rep X s'.heap v (ac ds.length) → Q v s') : wpAny (model g.prog g.w) A (call (.ref 150) [.ref fv, v1, v2]) Q E s := by
  obtain ⟨ob, fd, o, m, H, hdf, ho, hod⟩ := T.red
  refine wpAny_call (codeAny_call_function hB.room (hT.k _ _ H.at_) H.data (by rw [H.scope]; rfl) (by rw [H.scope]; rfl) H.body (codeRec_of hT.k H.code) ?_)
  have hbind : BindsTo s fd ⟨[.ref fv, v1, v2], []⟩ ((["function", "sequence", "initial"] : List Str).zip [.ref fv, v1, v2]) := BindsTo.of_defaults hdf (hT.k _ _ ho) hod (by unfold bindArgs; rw [H.params, hdf]; rfl) rfl
  refine hbind _ _ _ _ (fn_env (names := ["function", "sequence", "initial"]) (ls := [.val (.ref fv), lv, .dat (ac 0)]) (rs := []) H A X s _ E Q hB hT ht hX hl (.cons rfl (.cons h1 (.cons h2 .nil))) (fun a ha => nomatch ha)
    (al nofun (al (fun a ha => by rw [hlo] at ha; cases ha) (al nofun a0))) (by decide) (by decide) rfl (by decide) rfl fun env s₁ F _ => ?_)
  refine fx_iter (x := "it") (ρ' := [("function", .val (.ref fv)), ("initial", .dat (ac 0))]) F (ev_b T 10 rfl rfl rfl) (ev_name mB) hi (fun a X₁ s₁ F => ?_) (by decide) rfl (al mA (al mC a0)) (fun _ => rfl) (fun _ => rfl) (fun _ => rfl)
  have hts : Ts g n (dn 22).scope [("it", .itr a ds), ("function", .val (.ref fv)), ("initial", .dat (ac 0))] (.Compare (.Name "initial" ⟨141, 7, 141, 14⟩) [.Is] [.Name "_initial_missing" ⟨141, 18, 141, 34⟩] ⟨141, 7, 141, 34⟩) false := fun A env X s E Q o k =>
    wpAny_isTrue_Compare1 (ev_name (lv := .dat (ac 0)) mC (by decide) (by decide) A env X s E _ o fun a s₁ u₁ r₁ => ev_g T 8 rfl rfl rfl A env X s₁ E _ (o.up u₁) fun b s₂ u₂ r₂ => by
      have hb : b = .ref 142 := r₂
      subst hb
      have r := (o.up u₁).rep u₂ r₁
      have K₂ := ((o.up u₁).up u₂).cx.top.k
      have kk := wpAny_truthy_bool (M := model g.prog g.w) (A := A) (E := E) (k s₂ (u₁.trans u₂))
      obtain ⟨om, hm, hc⟩ := T.miss
      generalize ac 0 = d at hp r
      cases hp with
      | list ds =>
        obtain ⟨l, vs, m, rfl, ha, hl, hr⟩ := Rep.inv_list r
        refine wpAny_is_ref_other (fun q => ?_) hl (K₂ _ _ hm) (by simp) kk
        have := K₂ _ _ hm
        rw [← q, hl] at this
        cases this
        simp at hc
      | str x =>
        obtain ⟨t, rfl⟩ := Rep.inv_str r
        exact wpAny_is_other rfl (by simp) kk) (by with_unfolding_all rfl)
  refine wpAny_execs_cons (stm_if (b := false) (o := .next [("value", .dat (ac 0)), ("it", .itr a ds), ("function", .val (.ref fv))]) hts (fun h => nomatch h) (fun _ => blk_one (stm_asg (ev_name mC (by decide) (by decide)) (by decide) rfl (al mA (al mB a0)) rfl (fun _ => rfl))) _ env s _ X X₁ s₁ _ _ F fun X₂ s₂ F => ?_)
  refine fx_forv (ρs := fun i => [("value", .dat (ac i)), ("function", .val (.ref fv))]) F mB (al mA (al mC a0)) (fun i => al ⟨nq (by decide), nofun⟩ (al ⟨nq (by decide), nofun⟩ a0)) (fun i d hd => ?_) (fun X₃ s₃ F => ?_) (by decide) (by decide) (by decide)
  · intro s₁ Z₁ X₁ X₂ s₂ E₂ Q₂ hu hlo F k
    obtain ⟨vf, hvf, rf⟩ := F.ok.cx.vars _ mC
    have rf' : vf = .ref fv := rf
    subst rf'
    obtain ⟨va, hva, ra⟩ := F.ok.cx.vars _ mB
    obtain ⟨vb, hvb, rb⟩ := F.ok.cx.vars _ mA
    have hu' : Up [PT] s s₂ := hu
    refine wpAny_execs_cons (wpAny_Assign_Name (Call_ (load_var F.ok.cx.fn hvf ?_ (by decide) (by decide)) rfl) rfl)
    refine callWith_F (hfn s₂ hu') (spliced_more (load_var F.ok.cx.fn hva (spliced_more (load_var F.ok.cx.fn hvb (Calls.spliced_nil ⟨hfn s₂ hu', ?_⟩) (by decide) (by decide)) rfl) (by decide) (by decide)) rfl) rfl rfl
    refine hcall i d hd _ X₂ s₂ va vb _ _ F.ok.bd F.ok.cx.top F.ok.cx.tab hlo F.ok.cx.live hu' ra rb fun v s₃ u₃ r₃ => ?_
    refine ((F.up u₃).sub (al mC a0)).store (l := .dat (ac (i + 1))) (ρ := [("function", .val (.ref fv))]) (al (nq (by decide)) a0) (by decide) r₃ (fun _ e => nomatch e) fun s₄ F₄ => wpAny_execs_nil (k _ _ F₄)
  · refine blk_one (stm_ret (P := fun X h v => Rep X h v (ac ds.length)) (ev_name (lv := .dat (ac ds.length)) mA (by decide) (by decide)) Less.dat) _ env s _ X X₃ s₃ _ _ F fun v s' u p => k v s' u p
end Mine
end

noncomputable section
namespace Mine
noncomputable def pt (row : List Nat) (t : Nat) : Nat → Nat
  | 0 => t
  | i + 1 => row.getD (pt row t i) 0
noncomputable def way (row : List Nat) (t i : Nat) : List Nat := (List.range (i + 1)).map (pt row t)
theorem way_len {row : List Nat} {t i : Nat} : (way row t i).length = i + 1 := by simp [way]
theorem way_succ {row : List Nat} {t i : Nat} : way row t (i + 1) = way row t i ++ [pt row t (i + 1)] := by
  unfold way; rw [List.range_succ, List.map_append]; rfl
theorem way_get {row : List Nat} {t i k : Nat} (h : k ≤ i) : (way row t i)[k]? = some (pt row t k) := by
  unfold way; rw [List.getElem?_map, List.getElem?_range (by omega)]; rfl
theorem way_last {row : List Nat} {t i : Nat} : (way row t i)[(way row t i).length - 1]? = some (pt row t i) := by
  rw [way_len]; exact way_get (Nat.le_refl _)
theorem pt_lt {row : List Nat} {t : Nat} (hrow : ∀ x ∈ row, x < row.length) (ht : t < row.length) : ∀ i, pt row t i < row.length
  | 0 => ht
  | i + 1 => by
    have := pt_lt hrow ht i
    simp only [pt, List.getD, List.getElem?_eq_getElem this, Option.getD_some]
    exact hrow _ (List.getElem_mem _)
theorem pt_get {row : List Nat} {t : Nat} (hrow : ∀ x ∈ row, x < row.length) (ht : t < row.length) (i : Nat) : row[pt row t i]? = some (pt row t (i + 1)) := by
  have := pt_lt hrow ht i
  simp [pt, List.getD, List.getElem?_eq_getElem this]
noncomputable def onRing (row : List Nat) (t : Nat) : Bool := decide (t ∈ (way row t row.length).drop 1)
noncomputable def spine (row : List Nat) : List Nat := ((List.range row.length).filter (onRing row)).map fun t => row.getD t 0
noncomputable def turns (row : List Nat) (t : Nat) : List Nat := (List.range (row.length + 1)).filter fun k => decide (pt row t k ∈ spine row)
noncomputable def turn (row : List Nat) (t : Nat) : Nat := (turns row t).headD 0
noncomputable def down (row : List Nat) (t : Nat) : List Nat := (spine row).take ((spine row).idxOf (pt row t (turn row t)) + 1) ++ ((way row t row.length).take (turn row t)).reverse
noncomputable def same (L : List (List Nat)) (k : Nat) : Bool := L.all fun r => decide (r.take (k + 1) = (L.headD []).take (k + 1))
noncomputable def shd (L : List (List Nat)) : List Nat := ((List.range (L.headD []).length).filter (same L)).map fun k => (L.headD []).getD k 0
noncomputable def inner (P : List (List Nat)) (m : List Nat) : List Nat := (List.range P.length).filter fun i => decide (shd [P.getD i [], m] = P.getD i [])
noncomputable def upper (l : List Nat) : Nat := l.getD (l.length - 2) 0
noncomputable def readOne (P : List (List Nat)) (m : List Nat) (i : Nat) : Nat := if i ∈ inner P m then m.getD ((inner P m).idxOf i) 0 else upper (P.getD i [])
noncomputable def readL (P : List (List Nat)) (m : List Nat) : List Nat := (List.range P.length).map (readOne P m)
noncomputable def pickAt (read : List Nat) (L : List Nat) (j : Nat) : Nat := read.getD j 0 / read.length % L.length
noncomputable def leftAt (read : List Nat) : Nat → List Nat
  | 0 => List.range read.length
  | j + 1 => (leftAt read j).eraseIdx (pickAt read (leftAt read j) j)
noncomputable def ordAt (read : List Nat) (j : Nat) : Nat := (leftAt read j).getD (pickAt read (leftAt read j) j) 0
noncomputable def abv (read : List Nat) (k : Nat) : Nat := read.getD k 0 / read.length ^ 2 % k
noncomputable def grownAt (read : List Nat) : Nat → List (List Nat)
  | 0 => List.replicate read.length []
  | k + 1 => (grownAt read k).set (ordAt read k) ((if k = 0 then [] else (grownAt read k).getD (ordAt read (abv read k)) []) ++ [ordAt read k])
noncomputable def grownMark (read : List Nat) : List Nat := (grownAt read read.length).getD (ordAt read (read.getD 0 0 / read.length ^ 2 % read.length)) []
theorem left_len (read : List Nat) : ∀ j, j ≤ read.length → (leftAt read j).length = read.length - j
  | 0, _ => by simp [leftAt]
  | j + 1, h => by
    have ih := left_len read j (by omega)
    have : pickAt read (leftAt read j) j < (leftAt read j).length := Nat.mod_lt _ (by omega)
    rw [leftAt, List.length_eraseIdx_of_lt this, ih]; omega
theorem left_lt (read : List Nat) : ∀ j, ∀ x ∈ leftAt read j, x < read.length
  | 0, x, h => by simpa [leftAt] using h
  | j + 1, x, h => left_lt read j x (List.mem_of_mem_eraseIdx h)
theorem ord_get (read : List Nat) {j : Nat} (h : j < read.length) : (leftAt read j)[pickAt read (leftAt read j) j]? = some (ordAt read j) := by
  have h1 := left_len read j (by omega)
  have h2 : pickAt read (leftAt read j) j < (leftAt read j).length := Nat.mod_lt _ (by omega)
  rw [ordAt, List.getD, List.getElem?_eq_getElem h2]; rfl
theorem ord_lt (read : List Nat) {j : Nat} (h : j < read.length) : ordAt read j < read.length := left_lt read j _ (List.mem_of_getElem? (ord_get read h))
theorem grown_len (read : List Nat) : ∀ k, (grownAt read k).length = read.length
  | 0 => by simp [grownAt]
  | k + 1 => by rw [grownAt, List.length_set, grown_len read k]
theorem grown_short (read : List Nat) : ∀ k, ∀ l ∈ grownAt read k, l.length ≤ k
  | 0, l, h => by rw [grownAt, List.mem_replicate] at h; rw [h.2]; exact Nat.le_refl _
  | k + 1, l, h => by
    rw [grownAt] at h
    rcases List.mem_or_eq_of_mem_set h with q | q
    · exact Nat.le_succ_of_le (grown_short read k l q)
    · rw [q, List.length_append]
      split
      · simp
      · have : ((grownAt read k).getD (ordAt read (abv read k)) []).length ≤ k := by
          rw [List.getD]
          cases e : (grownAt read k)[ordAt read (abv read k)]? with
          | none => exact Nat.zero_le _
          | some m => exact grown_short read k m (List.mem_of_getElem? e)
        simpa using this
end Mine
end

noncomputable section
namespace Mine
noncomputable def ltI : List Nat → List Nat → Bool
  | [], q => !q.isEmpty
  | _ :: _, [] => false
  | a :: x, b :: y => if a = b then ltI x y else decide (a < b)
noncomputable def cpl : List Nat → List Nat → Nat
  | a :: x, b :: y => if a = b then cpl x y + 1 else 0
  | _, _ => 0
theorem ltI_self : ∀ x, ltI x x = false
  | [] => rfl
  | a :: x => by simp [ltI, ltI_self x]
theorem ltI_trans : ∀ {x y z : List Nat}, ltI x y = true → ltI y z = true → ltI x z = true
  | [], _, [], h1, h2 => by cases ‹List Nat› <;> simp [ltI] at h1 h2
  | [], _, _ :: _, _, _ => rfl
  | _ :: _, [], _, h1, _ => by simp [ltI] at h1
  | _ :: _, _ :: _, [], _, h2 => by simp [ltI] at h2
  | a :: x, b :: y, c :: z, h1, h2 => by
    simp only [ltI] at h1 h2 ⊢
    by_cases e1 : a = b
    · subst e1
      rw [if_pos rfl] at h1
      by_cases e2 : a = c
      · subst e2; rw [if_pos rfl] at h2 ⊢; exact ltI_trans h1 h2
      · rw [if_neg e2] at h2 ⊢; exact h2
    · rw [if_neg e1] at h1
      have h1' : a < b := by simpa using h1
      by_cases e2 : b = c
      · subst e2; rw [if_neg e1]; exact h1
      · rw [if_neg e2] at h2
        have h2' : b < c := by simpa using h2
        rw [if_neg (by omega)]; simp; omega
theorem cpl_take : ∀ x y : List Nat, x.take (cpl x y) = y.take (cpl x y)
  | a :: x, b :: y => by
    unfold cpl
    by_cases e : a = b
    · subst e; rw [if_pos rfl, List.take_succ_cons, List.take_succ_cons, cpl_take x y]
    · rw [if_neg e]; rfl
  | [], _ => by simp [cpl]
  | _ :: _, [] => by simp [cpl]
theorem cpl_le : ∀ x y : List Nat, cpl x y ≤ x.length ∧ cpl x y ≤ y.length
  | a :: x, b :: y => by
    unfold cpl
    have := cpl_le x y
    split <;> simp <;> omega
  | [], _ => by simp [cpl]
  | _ :: _, [] => by simp [cpl]
theorem cpl_max : ∀ (x y : List Nat) (k : Nat), x.take k = y.take k → k ≤ x.length → k ≤ y.length → k ≤ cpl x y
  | _, _, 0, _, _, _ => Nat.zero_le _
  | [], _, k + 1, _, h, _ => by simp at h
  | _ :: _, [], k + 1, _, _, h => by simp at h
  | a :: x, b :: y, k + 1, h, h1, h2 => by
    rw [List.take_succ_cons, List.take_succ_cons, List.cons.injEq] at h
    unfold cpl
    rw [if_pos h.1]
    have := cpl_max x y k h.2 (by simpa using h1) (by simpa using h2)
    omega
theorem cpl_between : ∀ (x y z : List Nat), ltI z x = false → ltI y z = false → z.take (cpl x y) = x.take (cpl x y)
  | [], _, _, _, _ => by simp [cpl]
  | _ :: _, [], _, _, _ => by simp [cpl]
  | a :: x, b :: y, [], h, _ => by simp [ltI] at h
  | a :: x, b :: y, c :: z, h1, h2 => by
    unfold cpl
    by_cases e : a = b
    · subst e
      rw [if_pos rfl]
      simp only [ltI] at h1 h2
      have hc : c = a := by
        by_cases e : c = a
        · exact e
        · rw [if_neg e] at h1
          rw [if_neg (Ne.symm e)] at h2
          simp at h1 h2; omega
      subst hc
      rw [if_pos rfl] at h1 h2
      rw [List.take_succ_cons, List.take_succ_cons, cpl_between x y z h1 h2]
    · rw [if_neg e]; rfl
theorem cpl_diff : ∀ (x y : List Nat), ltI y x = false → cpl x y < x.length → cpl x y < y.length ∧ x[cpl x y]? ≠ y[cpl x y]?
  | [], _, _, h => by simp at h
  | a :: x, [], h, _ => by simp [ltI] at h
  | a :: x, b :: y, h, hl => by
    unfold cpl at hl ⊢
    by_cases e : a = b
    · subst e
      simp only [ltI, if_true] at h
      rw [if_pos rfl] at hl ⊢
      obtain ⟨h1, h2⟩ := cpl_diff x y h (by simpa using hl)
      exact ⟨by simpa using h1, by simpa using h2⟩
    · rw [if_neg e]
      exact ⟨by simp, by simpa using e⟩
theorem shd_cpl {L : List (List Nat)} {x y : List Nat} (hx : x ∈ L) (hy : y ∈ L) (hmin : ∀ z ∈ L, ltI z x = false) (hmax : ∀ z ∈ L, ltI y z = false) : shd L = x.take (cpl x y) := by
  obtain ⟨l0, h0, hm0⟩ : ∃ l0, L.headD [] = l0 ∧ l0 ∈ L := by cases L with | nil => cases hx | cons a r => exact ⟨a, rfl, .head _⟩
  have all : ∀ z ∈ L, z.take (cpl x y) = x.take (cpl x y) := fun z hz => cpl_between x y z (hmin z hz) (hmax z hz)
  obtain ⟨lx, ly⟩ := cpl_le x y
  have llen : cpl x y ≤ l0.length := by
    have := congrArg List.length (all l0 hm0)
    simp at this; omega
  have hs : ∀ k, k < l0.length → same L k = decide (k < cpl x y) := fun k hk => by
    unfold same
    rw [h0, Bool.eq_iff_iff, List.all_eq_true, decide_eq_true_eq]
    constructor
    · intro h
      have e1 := of_decide_eq_true (h x hx)
      have e2 := of_decide_eq_true (h y hy)
      have l1 := congrArg List.length e1
      have l2 := congrArg List.length e2
      simp at l1 l2
      exact cpl_max x y (k + 1) (e1.trans e2.symm) (by omega) (by omega)
    · intro h z hz
      have e1 := congrArg (List.take (k + 1)) (all z hz)
      have e2 := congrArg (List.take (k + 1)) (all l0 hm0)
      rw [List.take_take, List.take_take, Nat.min_eq_left (by omega)] at e1 e2
      exact decide_eq_true (e1.trans e2.symm)
  unfold shd
  rw [h0, List.filter_congr (q := fun k => decide (k < cpl x y)) (fun k hk => hs k (List.mem_range.mp hk))]
  have hf : ∀ (n m : Nat), m ≤ n → (List.range n).filter (fun k => decide (k < m)) = List.range m := by
    intro n
    induction n with
    | zero => intro m h; rw [Nat.le_zero.mp h]; rfl
    | succ n ih =>
      intro m h
      rw [List.range_succ, List.filter_append]
      rcases Nat.lt_or_ge n m with h1 | h1
      · have e : m = n + 1 := by omega
        subst e
        rw [List.range_succ]
        congr 1
        · exact List.filter_eq_self.mpr fun k hk => decide_eq_true (Nat.lt_succ_of_lt (List.mem_range.mp hk))
        · simp
      · rw [ih m h1]
        simp; omega
  rw [hf _ _ llen, ← all l0 hm0]
  apply List.ext_getElem?
  intro i
  rw [List.getElem?_map, List.getElem?_take]
  by_cases hi : i < cpl x y
  · rw [if_pos hi, List.getElem?_range hi, List.getElem?_eq_getElem (by omega)]
    simp [List.getD, List.getElem?_eq_getElem (show i < l0.length by omega)]
  · rw [if_neg hi]; simp; omega
end Mine
end

noncomputable section
namespace Mine
variable {g : Gl} {n : Nat}
section
variable {sc : Scope} {ρ : List (Str × Lv)} {A : Around} {env : Env} {X : List Addr} {s : Shared} {E : Value → Shared → Prop} {params : Arguments} {body : Expr} {scope : Scope} {pos pos' : Pos}
theorem ev_neg {i : Int} {k : Nat} : EvD g n sc ρ (.UnaryOp .USub (.Constant (.int i) k pos) pos') (.int (-i)) := fun A env X s E Q o kk =>
  wpAny_UnaryOp (wpAny_Constant_int (PyProof.Rows.neg_int (kk _ _ (Up.trans Up.tok Up.tok) (.int _ _))))
theorem lam_eval {Q : Value → Shared → Prop} (T : TopF g) (o : Ok g n sc ρ A env X s) (hd : defaultsOf params env = ([], [])) (hp : pos.line = 167) (hc : pos.col = 18) (hcode : env.code = .ref 177) (hq : env.qual ++ "<lambda>" = lamQ)
    (hfr : ∀ p ∈ scope.names, p.2 = .free → ∃ c, env.cells.lookup p.1 = some c)
    (k : ∀ f c' pm ctv s', Up [PT] s s' → s.heap.get? f = none → s'.heap.get? f = some (kla_obj "<lambda>" lamQ params body scope (closL env scope.names []) pm c' ctv) → s'.heap.CodeRec (.ref c') lamQ → Q (.ref f) s') :
    wpAny (model g.prog g.w) A (eval (.Lambda params body scope pos) env) Q E s := by
  obtain ⟨ps, hP, hr⟩ := id o.cx.tab
  obtain ⟨mg, hg⟩ := o.cx.top.g
  obtain ⟨bm, ob, b1, b2, b3, b4, b5, b6, b7⟩ := T.bmod
  have hb : s.heap.BuiltinsAt mg PT := ⟨bm, ob, mg_of o.cx.top.k hg b1, b6, b7, (by rintro rfl; rw [o.cx.top.kPT] at b2; cases b2), o.cx.top.k _ _ b2, b3, b4, b5⟩
  refine kla_eval hd ?_
  rw [hq]
  have fin : ∀ {h' : Heap} {tk : Nat} {oo : Obj} {c : Addr}, (∀ b ob, b ≠ PT → s.heap.get? b = some ob → h'.get? b = some ob) → h'.get? PT = some (tabObj (lamRow c)) → h'.CodeRec (.ref c) lamQ → Up [PT] s { s with heap := h'.push oo, toks := tk } := fun hk h1 h2 =>
    ⟨⟨_, _, rfl⟩, fun b ob hb e => Heap.get?_push_of_some _ (hk b ob (fun q => hb (List.mem_singleton.mpr q)) e), fun _ => ⟨_, Heap.get?_push_of_some _ h1, .inr ⟨_, rfl, h2.keeps fun b ob e => Heap.get?_push_of_some _ e⟩⟩⟩
  have fresh : ∀ {h' : Heap}, s.heap.objs.size ≤ h'.objs.size → s.heap.get? h'.objs.size = none := fun hs => by
    cases e : s.heap.get? _ with
    | none => rfl
    | some o' => exact absurd (Heap.lt_size e) (Nat.not_lt.mpr hs)
  rcases hr with rfl | ⟨c, rfl, hcr⟩
  · refine kla_makeFunction (ps := #[]) (closure_eq hfr) o.cx.gl hg hcode (codeHd_of_K o.cx.top.k T.tab) hP trivial rfl (Ns_ne o.cx.tab hg) hb fun c' ctv h' tk hx hge hlt hrec htb => ?_
    rw [hp, hc] at htb
    refine k _ c' _ _ _ (fin (fun b ob hb e => hx b ob hb e) htb hrec) (fresh (by omega)) (Heap.get?_push_size _ rfl) (hrec.keeps fun b ob e => Heap.get?_push_of_some _ e)
  · refine kla_makeFunctionHit (cv := .ref c) (closure_eq hfr) o.cx.gl hg hcode (codeHd_of_K o.cx.top.k T.tab) hP trivial ?_ hb fun ctv h' tk hk hsz => ?_
    · unfold codeAmong; rw [hp, hc]; rfl
    · have hcr' := hcr.keeps hk
      exact k _ c _ _ _ (fin (fun b ob _ e => hk b ob e) (hk _ _ hP) hcr') (fresh hsz) (Heap.get?_push_size _ rfl) (hcr'.keeps fun b ob e => Heap.get?_push_of_some _ e)
end
noncomputable def lamT : Arguments × Expr × Scope := match (dn 27).body with
  | [.Return (some (.Call _ (.Lambda a b c _ :: _) _ _)) _] => (a, b, c)
  | _ => (default, .Constant .none 0 ⟨0, 0, 0, 0⟩, default)
theorem lam_call {A : Around} {X : List Addr} {s : Shared} {E Q : Value → Shared → Prop} {f c c' : Addr} {pm ctv a b rowv : Value} {row w : List Nat} {q r : Nat} {d : PyData} (hB : Bd (n + 1) A) (hT : Tp g.K s.heap) (ht : TabOk s.heap) (hX : PT ∈ X) (hl : Lives g.K X s.heap)
    (hf : s.heap.get? f = some (kla_obj "<lambda>" lamQ lamT.1 lamT.2.1 lamT.2.2 [("row", c)] pm c' ctv)) (hcr : s.heap.CodeRec (.ref c') lamQ) (hc : c ∈ X) (hcv : s.heap.IsCell c (some rowv)) (hrow : Rep X s.heap rowv (dL row)) (ha : Rep X s.heap a (dL w)) (hb : Rep X s.heap b d)
    (hw : w[w.length - 1]? = some q) (hr : row[q]? = some r) (hlw : w.length ≤ 1000) (hlr : row.length ≤ 1000)
    (k : ∀ v s', Ex s s' → Rep X s'.heap v (dL (w ++ [r])) → Q v s') : wpAny (model g.prog g.w) A (call (.ref f) [a, b]) Q E s := by
  refine wpAny_call (kla_callFunE hB.room hf rfl rfl rfl rfl hcr ?_)
  rw [show bindArgs (kla_fn "<lambda>" lamQ lamT.1 lamT.2.1 lamT.2.2 [("row", c)] pm (.ref c') ctv) ⟨[a, b], []⟩ = (pure [(("met" : Str), a), (("turn" : Str), b)] : Sem (List (Str × Value))) from by unfold bindArgs; rfl]
  refine wpAny_pure (wpAny_newFunctionEnv (show ∀ x ∈ lamT.2.2.names, x.2 ≠ .cell by decide) (al rfl (al rfl a0)) (fun h₁ hns hsb => ⟨?_, kla_codeExpr ?_⟩) rfl)
  all_goals have u : Ex s { s with heap := h₁, toks := s.toks + 2 } := Up.heap fun b o e => hsb.extBut b o (Nat.ne_of_lt (Heap.lt_size e)) (Heap.get?_push_of_some _ e)
  · exact (hT.up ht u).lim
  have hL : s.heap.get? s.heap.objs.size = none := get_size _
  have inX : ∀ z ∈ s.heap.objs.size :: X, z ∈ X ∨ s.heap.get? z = none := fun z hz => (List.mem_cons.mp hz).elim (fun e => .inr (e ▸ hL)) .inl
  have rp : ∀ {v d}, Rep X s.heap v d → Rep (s.heap.objs.size :: X) h₁ v d := fun r => (r.more inX).up u (memPT (.tail _ hX))
  have key : EvD g n lamT.2.2 [("met", .dat (dL w)), ("row", .dat (dL row))] lamT.2.1 (.list (w.map dN ++ [dN r])) :=
    ev_bin (op_addL (by simp; omega)) (ev_name mA) (ev_list (ds := [dN r]) (all_cons (ev_idx (k := (q : Int)) (ev_name mB) (ev_idxLast (ev_name mA) ev_neg (by simpa using ⟨q, hw, rfl⟩) (fun _ _ _ => rfl)) (by omega) (by have := (List.getElem?_eq_some_iff.mp hr).1; omega) (by simpa using ⟨r, hr, rfl⟩) (fun _ _ _ => rfl)) all_nil) (Nat.le_of_ble_eq_true rfl))
  refine key _ _ _ _ _ _ ⟨hB.deeper _, rfl, {
    fn := rfl, gl := rfl, bt := rfl, top := hT.up ht u, tab := u.tab ht, tabX := .tail _ hX
    live := fun z hz => (List.mem_cons.mp hz).elim (fun e => e ▸ ⟨let ⟨o, _, _, q, _⟩ := hns; ⟨o, q⟩, hT.new hL⟩) fun hz => let ⟨⟨o, q⟩, r⟩ := hl z hz; ⟨by
      by_cases e : z = PT
      · exact e ▸ (u.tab ht).live
      · exact ⟨o, u.keep z o (fun q => e (List.mem_singleton.mp q)) q⟩, r⟩
    ns := ⟨_, hns⟩
    has := fun y hy => by
      have hm : ∀ p ∈ lamT.2.2.names, p.2 = .free ∨ p.2 = .cell → p.1 = "row" := by decide
      have hy' : y = "row" := hy.elim (fun e => hm _ (PySem.mem_of_lookup e) (.inl rfl)) fun e => hm _ (PySem.mem_of_lookup e) (.inr rfl)
      subst hy'
      exact ⟨c, rfl⟩
    cel := fun y c₁ e => ?_
    inj := fun y z c₁ e e' => ?_
    own := ⟨.head _, fun y c₁ e => ?_⟩
    vars := al ⟨a, .inl ⟨rfl, _, hns, rfl⟩, rp ha⟩ (al ⟨rowv, .inr ⟨.inr rfl, c, rfl, Heap.IsCell.to hcv fun o e => u.keep c o (fun q => Cell_ne ht hcv (List.mem_singleton.mp q)) e⟩, rp hrow⟩ a0) }⟩ fun v s' u' r' => k v s' (u.trans u') ?_
  · have e' : (List.lookup y [(("row" : Str), c)]) = some c₁ := e
    have : c₁ = c := by have := PySem.mem_of_lookup e'; simpa using (Prod.mk.inj (List.mem_singleton.mp this)).2
    subst this
    exact ⟨_, Heap.IsCell.to hcv fun o e => u.keep _ o (fun q => Cell_ne ht hcv (List.mem_singleton.mp q)) e⟩
  · have e1 : (List.lookup y [(("row" : Str), c)]) = some c₁ := e
    have e2 : (List.lookup z [(("row" : Str), c)]) = some c₁ := e'
    rw [(Prod.mk.inj (List.mem_singleton.mp (PySem.mem_of_lookup e1))).1, (Prod.mk.inj (List.mem_singleton.mp (PySem.mem_of_lookup e2))).1]
  · have e1 : (List.lookup y [(("row" : Str), c)]) = some c₁ := e
    rw [(Prod.mk.inj (List.mem_singleton.mp (PySem.mem_of_lookup e1))).2]
    exact .tail _ hc
  · refine Rep.less (X := s.heap.objs.size :: X) ?_ fun z hz => .tail _ hz
    rw [dL, List.map_append]; exact r'
theorem rec_up {s s' : Shared} {cd : Value} {q : Str} (t : TabOk s.heap) (x : s.heap.CodeRec cd q) (u : Up [PT] s s') : s'.heap.CodeRec cd q := by
  obtain ⟨c, o, vs, tk, e, ho, hd, hv⟩ := x
  refine ⟨c, o, vs, tk, e, u.keep c o (fun hz => ?_) ho, hd, hv⟩
  rw [List.mem_singleton.mp hz] at ho
  obtain ⟨ps, hp, hr⟩ := t
  rw [hp] at ho; cases ho; cases hd
  rcases hr with rfl | ⟨c', rfl, _⟩ <;> simp [rawInt] at hv
theorem ev_use {sc : Scope} {ρ : List (Str × Lv)} {A : Around} {env : Env} {X : List Addr} {s : Shared} {E Q : Value → Shared → Prop} {e : Expr} {P : List Addr → Heap → Value → Prop} (o : Ok g n sc ρ A env X s) (h : Ev g n sc ρ e P) (k : ∀ v s', Ex s s' → P X s'.heap v → Q v s') : wpAny (model g.prog g.w) A (eval e env) Q E s := h A env X s E Q o k
theorem iter0 {k : Nat} (hk : k ≤ 100000) : IterOf (.rng 0 k) (upI 0 k) := by
  have := IterOf.rng 0 k (by
    have hn : Builtin.Range.rangeSize 0 (k : Int) 1 = ((k : Nat) : Int) := by rw [PyProof.Rows.rangeSize_nat]; omega
    unfold Builtin.Range.small
    rw [hn]
    simp [Builtin.Range.rangeFitsLong]; omega)
  simpa using this
theorem f_orbit (T : TopF g) {row : List Nat} {t : Nat} (hrow : ∀ x ∈ row, x < row.length) (hti : t < row.length) (hlen : row.length ≤ 100) : Does g (n + 3) (fun vs => call (.ref 178) vs) [.dat (dL row), .dat (dN t)] (fun X h v => (Lv.dat (dL (way row t row.length))).is X h v) := fun A X s vs E Q hB hT ht hX hl hvs k => by
  obtain ⟨ob, fd, H, hcode, hqual⟩ := T.orb
  have hdf : fd.defaults = .none := by
    obtain ⟨ob', fd', H', hdf⟩ := T.fn 10 178 27 rfl
    have e := H'.at_; rw [H.at_] at e; cases e
    have e := H'.data; rw [H.data] at e; cases e
    exact hdf
  refine wpAny_call (codeAny_call_function hB.room (hT.k _ _ H.at_) H.data (by rw [H.scope]; rfl) (by rw [H.scope]; rfl) H.body (codeRec_of hT.k H.code) ?_)
  have hbind : bindArgs fd ⟨vs, []⟩ = pure ((["row", "thing"] : List Str).zip vs) := by
    obtain ⟨v, w, rfl⟩ := len2 hvs.length; unfold bindArgs; rw [H.params, hdf]; rfl
  rw [hbind]
  refine wpAny_pure (fn_env (names := ["row", "thing"]) (rs := []) H A X s vs E Q hB hT ht hX hl hvs a0 (al nofun (al nofun a0)) (by decide) (by decide) rfl (by decide) rfl fun env s₁ F ⟨hq, hco, _, _⟩ => ?_)
  have o := F.ok
  refine wpAny_execs_cons (wpAny_Return_some (Call_ (ev_g T 9 rfl rfl rfl _ env _ _ _ _ o fun v s₂ u₂ r₂ => ?_) rfl))
  have r₂' : v = .ref 150 := r₂
  subst r₂'
  have o₂ := o.up u₂
  obtain ⟨rowv, hrv, rrow⟩ := o₂.cx.vars _ mA
  obtain ⟨c, hcl, hcv⟩ : ∃ c, env.cells.lookup ("row" : Str) = some c ∧ s₂.heap.IsCell c (some rowv) := by
    rcases hrv with ⟨hk, _⟩ | ⟨_, r⟩
    · rw [Env.kindOf, o.sc] at hk; cases hk
    · exact r
  refine callWith_K o₂.cx.top.k (T.keep 9 _ _ rfl (by decide)) (spliced_more (lam_eval T o₂ rfl rfl rfl (hco.trans hcode) (by rw [hq, hqual]; rfl) (fun p hp hf => ?_) fun f c' pm ctv s₃ u₃ hf0 hf hcr => ?_) rfl) rfl rfl
  · have : ∀ p ∈ lamT.2.2.names, p.2 = .free → p.1 = "row" := by decide
    rw [this p hp hf]; exact ⟨c, hcl⟩
  have o₃ := o₂.up u₃
  rw [show closL env _ [] = [(("row" : Str), c)] from by show (match env.cells.lookup ("row" : Str) with | some c => [(("row" : Str), c)] | none => []) = _; rw [hcl]] at hf
  have hfX : f ∉ env.locals :: (cellsAt env ++ X) := o₂.cx.live.get hf0
  refine spliced_more (ev_use o₃ (ev_callT b_range1 (ev_b T 6 rfl rfl rfl) (all_cons (ev_callB (b_len_list (ds := row.map dN) (by simp; omega)) (ev_b T 5 rfl rfl rfl) (all_cons (ev_name mA) all_nil)) all_nil)) fun rv s₄ u₄ r₄ => ?_) rfl
  refine spliced_more (ev_use (o₃.up u₄) (ev_list (ds := [dN t]) (all_cons (ev_name mB) all_nil) (Nat.le_of_ble_eq_true rfl)) fun tv s₅ u₅ r₅ => ?_) rfl
  have o₅ := (o₃.up u₄).up u₅
  have u35 := u₄.trans u₅
  have fne : f ≠ PT := fun q => hfX (q ▸ o.cx.tabX)
  have hf₅ := u35.keep f _ (fun q => fne (List.mem_singleton.mp q)) hf
  have cX := o.cx.own.2 _ _ hcl
  have cne := Cell_ne o₂.cx.tab hcv
  have hcv₅ : s₅.heap.IsCell c (some rowv) := Heap.IsCell.to hcv fun oo e => (u₃.trans u35).keep c oo (fun q => cne (List.mem_singleton.mp q)) e
  have rrow₅ : Rep _ s₅.heap rowv (dL row) := Rep.up rrow (u₃.trans u35) (memPT o.cx.tabX)
  refine Calls.spliced_nil ⟨o₅.cx.top.k, ?_⟩
  rw [List.length_map] at r₄
  refine f_reduce (n := n + 1) T (ds := upI 0 row.length) (ac := fun i => dL (way row t i)) (iter0 (by omega)) rfl (.list _) _ _ s₅ _ _ F.ok.bd o₅.cx.top o₅.cx.tab o.cx.tabX o₅.cx.live ((o₃.up u₄).lv u₅ r₄) r₅ (fun s' u' => ?_) (fun i d hd A' X' s' a b E' Q' B' hT' ht' lo hl' u' ra rb k' => ?_) fun v s' u' r' => ?_
  · exact ⟨_, _, _, _, u'.keep f _ (fun q => fne (List.mem_singleton.mp q)) hf₅⟩
  · refine lam_call (row := row) (w := way row t i) (q := pt row t i) (r := pt row t (i + 1)) (rowv := rowv) B' hT' ht' (lo.1 _ o.cx.tabX) hl' (u'.keep f _ (fun q => fne (List.mem_singleton.mp q)) hf₅)
      (rec_up o₃.cx.tab hcr (u35.trans u')) (lo.1 _ cX) (Heap.IsCell.to hcv₅ fun oo e => u'.keep c oo (fun q => cne (List.mem_singleton.mp q)) e) ((rrow₅.more lo.2).up u' (memPT (lo.1 _ o.cx.tabX))) ra rb way_last (pt_get hrow hti i) ?_ (by omega) fun v s'' u'' r'' => k' v s'' u'' ?_
    · rw [way_len]; have := (List.getElem?_eq_some_iff.mp hd).1; rw [upI_len] at this; omega
    · show Rep _ _ _ (dL (way row t (i + 1))); rw [way_succ]; exact r''
  · rw [upI_len] at r'
    exact k v s' (((((F.ex.trans u₂).trans u₃).trans u₄).trans u₅).trans u') (Rep.less r' F.lo)
end Mine
end

noncomputable section
open PySem.Builtin PySem.Builtin.Str
namespace Mine
noncomputable abbrev tx (l : List Nat) : Str := ⟨l.toArray⟩
noncomputable abbrev sl : Str := tx [47]
theorem tx_app (a b : List Nat) : tx a ++ tx b = tx (a ++ b) := by
  show (⟨a.toArray ++ b.toArray⟩ : Str) = _
  rw [List.append_toArray]
theorem tx_len (a : List Nat) : (tx a).length = a.length := by simp [Str.length]
theorem sub1 (l : List Nat) (i : Nat) : subAt (tx l) sl i = (l[i]? == some 47) := by
  rw [StrLaws.subAt_eq]
  show ((l.drop i).take 1 == [47]) = _
  cases h : l[i]? with
  | none => rw [List.getElem?_eq_none_iff] at h; rw [List.drop_of_length_le h]; rfl
  | some c =>
    obtain ⟨hi, e⟩ := List.getElem?_eq_some_iff.mp h
    rw [List.drop_eq_getElem_cons hi, e]
    simp
theorem starts (l : List Nat) : (decide (0 + sl.length ≤ (tx l).length) && subAt (tx l) sl 0) = (l[0]? == some 47) := by
  rw [sub1, tx_len, tx_len]
  cases l with
  | nil => rfl
  | cons a r => simp
theorem ends (l : List Nat) : (decide (0 + sl.length ≤ (tx l).length) && subAt (tx l) sl ((tx l).length - sl.length)) = (l[l.length - 1]? == some 47) := by
  rw [sub1, tx_len, tx_len]
  cases l with
  | nil => rfl
  | cons a r => simp
theorem rfind_eq {a b : List Nat} (hb : 47 ∉ b) : lastOccurrence (tx (a ++ 47 :: b)) sl 0 (tx (a ++ 47 :: b)).length = some a.length := by
  have key : ∀ (P : Nat → Bool) (m : Nat), a.length < m → P a.length = true → (∀ i, a.length < i → P i = false) → (List.range m).foldl (fun (r : Option Nat) i => if P i = true then some i else r) none = some a.length := fun P m => by
    induction m with
    | zero => intro h; omega
    | succ m ih =>
      intro h h1 h2
      rw [List.range_succ, List.foldl_append]
      by_cases e : m = a.length
      · subst e; simp [h1]
      · rw [ih (by omega) h1 h2]; simp [h2 m (by omega)]
  have go : ∀ (P : Nat → Bool) (l : List Nat) (r : Option Nat), (forIn l r (fun i s => if P i = true then (pure (ForInStep.yield (some i)) : Id _) else pure (ForInStep.yield s))) = l.foldl (fun (r : Option Nat) i => if P i = true then some i else r) r := fun P l => by
    induction l with
    | nil => intro r; rfl
    | cons i l ih =>
      intro r
      rw [List.forIn_cons, List.foldl_cons]
      cases P i with
      | true => exact ih _
      | false => exact ih _
  unfold lastOccurrence
  simp only [Std.Legacy.Range.forIn_eq_forIn_range', Std.Legacy.Range.size]
  refine (go (fun i => decide (i + sl.length ≤ (tx (a ++ 47 :: b)).length) && subAt (tx (a ++ 47 :: b)) sl i) _ none).trans ?_
  rw [Nat.sub_zero, Nat.add_sub_cancel, Nat.div_one, ← List.range_eq_range']
  refine key _ _ (by rw [tx_len, List.length_append]; omega) ?_ fun i hi => ?_
  · rw [sub1, tx_len, tx_len]; simp
  · rw [sub1, tx_len, tx_len, List.getElem?_append_right (by omega), show i - a.length = (i - a.length - 1) + 1 by omega, List.getElem?_cons_succ]
    have : b[i - a.length - 1]? ≠ some 47 := fun q => hb (List.mem_of_getElem? q)
    simp [this]
theorem slice_from {l : List Nat} {k : Nat} (hk : k ≤ l.length) (hz : l.length ≤ 1000) (t : Tok) (t₁ : Tok) : MadeIs (sliceMade (tx l) t (some ((k : Int), t₁)) none none) (.str (tx (l.drop k))) := by
  have h := StrLaws.sliced_plain (tx l) (a := k) (b := l.length) hk (by rw [tx_len]; exact Nat.le_refl _)
  have e : strSliceIndices (some (k : Int)) none 1 (tx l).length = strSliceIndices (some (k : Int)) (some (l.length : Int)) 1 (tx l).length := by
    rw [tx_len]; unfold strSliceIndices; simp
    congr 1; rw [if_neg (by omega)]; omega
  unfold sliceMade slicePicked
  simp only [Option.map_some, Option.map_none, Option.getD_none]
  rw [e, h, tx_len]
  split
  · rename_i hh
    rw [StrLaws.strSliceIndices_plain hk (Nat.le_refl _)] at hh
    simp at hh
    have : k = 0 := by omega
    subst this
    exact .val _ _
  · have : List.take (l.length - k) (List.drop k (tx l).cps.toList) = l.drop k := by
      show List.take (l.length - k) (List.drop k l) = _
      rw [List.take_of_length_le (by simp)]
    rw [this]
    exact .str _ (by rw [tx_len, sizeLine_eq, List.length_drop]; omega)
theorem slice_upto {l : List Nat} {k : Nat} (hk : k ≤ l.length) (hz : l.length ≤ 1000) (t : Tok) (t₁ : Tok) : MadeIs (sliceMade (tx l) t none (some ((k : Int), t₁)) none) (.str (tx (l.take k))) := by
  have h := StrLaws.sliced_plain (tx l) (a := 0) (b := k) (Nat.zero_le _) (by rw [tx_len]; exact hk)
  have e : strSliceIndices none (some (k : Int)) 1 (tx l).length = strSliceIndices (some ((0 : Nat) : Int)) (some (k : Int)) 1 (tx l).length := by
    rw [tx_len]; unfold strSliceIndices; simp
    congr 1
  unfold sliceMade slicePicked
  simp only [Option.map_some, Option.map_none, Option.getD_none]
  rw [e, h, tx_len]
  split
  · rename_i hh
    rw [StrLaws.strSliceIndices_plain (Nat.zero_le _) hk] at hh
    simp at hh
    rw [hh, List.take_length]
    exact .val _ _
  · exact .str _ (by rw [tx_len, sizeLine_eq]; simp; omega)
theorem rstrip_eq {l : List Nat} {c : Nat} (hl : l[l.length - 1]? = some c) (hc : c ≠ 47) (hz : l.length ≤ 1000) (t : Tok) :
    MadeIs (if PySem.stripSame (sl.cps.contains) false true (tx (l ++ [47])) then .val (.str (tx (l ++ [47])) t) else .str (PySem.stripped sl.cps.contains false true (tx (l ++ [47])))) (.str (tx l)) := by
  have h1 : ((tx (l ++ [47])).cps.toList.drop 0).reverse.takeWhile sl.cps.contains = [47] := by
    show (l ++ [47]).reverse.takeWhile _ = _
    rw [List.reverse_append]
    rw [← List.getLast?_eq_getElem?] at hl
    obtain ⟨r, rfl⟩ := List.getLast?_eq_some_iff.mp hl
    simp [hc]
  have hi : stripHi sl.cps.contains true (tx (l ++ [47])) 0 = l.length := by
    unfold stripHi
    rw [if_pos rfl, h1, tx_len]; simp
  have hlo : stripLo sl.cps.contains false (tx (l ++ [47])) = 0 := rfl
  rw [if_neg (by unfold PySem.stripSame; rw [hlo, hi, tx_len]; simp)]
  unfold PySem.stripped
  rw [hlo, hi]
  have : strSub (tx (l ++ [47])) 0 l.length = tx l := by
    refine StrLaws.mk_of_toList ?_
    rw [StrLaws.strSub_toList]
    simp
  rw [this]
  exact .str _ (by rw [tx_len, sizeLine_eq]; omega)
end Mine
end

noncomputable section
open PySem.Builtin PySem.Builtin.Str
namespace Mine
noncomputable def jnL : List (List Nat) → List Nat
  | [] => []
  | [a] => a
  | a :: b :: r => a ++ 47 :: jnL (b :: r)
theorem join_is : ∀ P : List (List Nat), Str.join sl (P.map tx) = tx (jnL P)
  | [] => rfl
  | [a] => rfl
  | a :: b :: r => by
    show tx a ++ sl ++ Str.join sl ((b :: r).map tx) = _
    rw [join_is (b :: r), tx_app, tx_app, List.append_assoc]; rfl
theorem cut_eq : ∀ {a b x y : List Nat}, 47 ∉ a → 47 ∉ b → a ++ 47 :: x = b ++ 47 :: y → a = b ∧ x = y
  | [], [], x, y, _, _, h => ⟨rfl, by simpa using h⟩
  | [], c :: b, x, y, _, hb, h => by
    simp at h; exact absurd (h.1 ▸ List.mem_cons_self) hb
  | c :: a, [], x, y, ha, _, h => by
    simp at h; exact absurd (h.1 ▸ List.mem_cons_self) ha
  | c :: a, d :: b, x, y, ha, hb, h => by
    simp only [List.cons_append, List.cons.injEq] at h
    obtain ⟨e1, e2⟩ := cut_eq (fun q => ha (.tail _ q)) (fun q => hb (.tail _ q)) h.2
    exact ⟨by rw [h.1, e1], e2⟩
theorem jnL_inj : ∀ (P Q : List (List Nat)), P ≠ [] → Q ≠ [] → (∀ p ∈ P, 47 ∉ p) → (∀ q ∈ Q, 47 ∉ q) → jnL P = jnL Q → P = Q
  | [], _, h, _, _, _, _ => absurd rfl h
  | _, [], _, h, _, _, _ => absurd rfl h
  | [a], [b], _, _, _, _, h => by rw [show a = b from h]
  | [a], b :: c :: r, _, _, ha, _, h => by
    have h' : a = b ++ 47 :: jnL (c :: r) := h
    exact absurd (by rw [h']; simp) (ha a (.head _))
  | a :: b :: r, [c], _, _, _, hc, h => by
    have h' : a ++ 47 :: jnL (b :: r) = c := h
    exact absurd (by rw [← h']; simp) (hc c (.head _))
  | a :: b :: r, c :: d :: t, _, _, ha, hc, h => by
    obtain ⟨e1, e2⟩ := cut_eq (ha a (.head _)) (hc c (.head _)) h
    rw [e1, jnL_inj (b :: r) (d :: t) nofun nofun (fun p hp => ha p (.tail _ hp)) (fun p hp => hc p (.tail _ hp)) e2]
theorem split_is {P : List (List Nat)} (hne : jnL P ≠ []) (hf : ∀ p ∈ P, 47 ∉ p) : Txt.split (tx (jnL P)) sl = P.map tx := by
  have h1 := StrLaws.join_split (tx (jnL P)) sl
  have h2 := StrLaws.split_free (tx (jnL P)) 47
  have h2' : ∀ p ∈ Txt.split (tx (jnL P)) sl, 47 ∉ p.cps.toList := h2
  generalize Txt.split (tx (jnL P)) sl = ps at h1 h2'
  have e : ps = (ps.map fun p => p.cps.toList).map tx := by
    rw [List.map_map]; exact (List.map_id ps).symm
  rw [e, join_is] at h1
  have h3 : jnL (ps.map fun p => p.cps.toList) = jnL P := congrArg (fun x : Str => x.cps.toList) h1
  rw [e]
  congr 1
  refine jnL_inj _ _ (fun q => ?_) (fun q => ?_) (fun p hp => ?_) hf h3
  · rw [q] at h3; exact hne h3.symm
  · rw [q] at hne; exact hne rfl
  · obtain ⟨x, hx, rfl⟩ := List.mem_map.mp hp; exact h2' x hx
noncomputable def cod (i : Nat) : List Nat := ([[97], [97, 98], [97, 98, 99], [98], [98, 97], [98, 97, 98], [99]] : List (List Nat)).getD i [97]
noncomputable abbrev nmS (i : Nat) : Str := tx (cod i)
noncomputable def pj (l : List Nat) : List Nat := 47 :: jnL (l.map cod)
noncomputable abbrev pa (l : List Nat) : Str := tx (pj l)
theorem cod_all (p : List Nat → Bool) (h : (([[97], [97, 98], [97, 98, 99], [98], [98, 97], [98, 97, 98], [99]] : List (List Nat)).all p) = true) (i : Nat) : p (cod i) = true := by
  unfold cod
  rw [List.getD]
  cases e : ([[97], [97, 98], [97, 98, 99], [98], [98, 97], [98, 97, 98], [99]] : List (List Nat))[i]? with
  | none => simp at h; exact h.1
  | some c => exact List.all_eq_true.mp h c (List.mem_of_getElem? e)
theorem cod_free (i : Nat) : 47 ∉ cod i := by
  have := cod_all (fun l => decide (47 ∉ l)) (by decide) i
  simpa using this
theorem cod_ne (i : Nat) : cod i ≠ [] := by
  have := cod_all (fun l => !l.isEmpty) (by decide) i
  simpa using this
theorem cod_len (i : Nat) : (cod i).length ≤ 3 := by
  have := cod_all (fun l => decide (l.length ≤ 3)) (by decide) i
  simpa using this
theorem cod_lt (i : Nat) : ∀ c ∈ cod i, c < 1000 := by
  have := cod_all (fun l => l.all fun c => decide (c < 1000)) (by decide) i
  simpa using this
theorem cod_inj : ∀ i, i < 7 → ∀ j, j < 7 → cod i = cod j → i = j := by decide
theorem jn_len : ∀ l : List Nat, (jnL (l.map cod)).length ≤ 4 * l.length
  | [] => Nat.le_refl _
  | [a] => by have := cod_len a; show (cod a).length ≤ 4; omega
  | a :: b :: r => by
    have h1 := cod_len a
    have h2 := jn_len (b :: r)
    show (cod a ++ 47 :: jnL ((b :: r).map cod)).length ≤ _
    rw [List.length_append, List.length_cons, List.length_cons]; omega
theorem jn_snoc : ∀ (l : List Nat) (i : Nat), l ≠ [] → jnL ((l ++ [i]).map cod) = jnL (l.map cod) ++ 47 :: cod i
  | [], _, h => absurd rfl h
  | [a], i, _ => rfl
  | a :: b :: r, i, _ => by
    have := jn_snoc (b :: r) i nofun
    show cod a ++ 47 :: jnL ((b :: r ++ [i]).map cod) = (cod a ++ 47 :: jnL ((b :: r).map cod)) ++ 47 :: cod i
    rw [this]; simp
theorem jn_ne (l : List Nat) (h : l ≠ []) : jnL (l.map cod) ≠ [] := by
  match l, h with
  | [a], _ => exact cod_ne a
  | a :: b :: r, _ => exact fun q => by have : cod a ++ 47 :: jnL ((b :: r).map cod) = [] := q; simp at this
theorem pj_snoc (l : List Nat) (i : Nat) : pj (l ++ [i]) = (if l = [] then [] else pj l) ++ 47 :: cod i := by
  by_cases h : l = []
  · subst h; rfl
  · rw [if_neg h]; unfold pj; rw [jn_snoc l i h]; rfl
theorem pj_last (l : List Nat) (h : l ≠ []) : ∃ c, (pj l)[(pj l).length - 1]? = some c ∧ c ≠ 47 := by
  obtain ⟨i, r, rfl⟩ : ∃ i r, l = r ++ [i] := ⟨l.getLast h, l.dropLast, (List.dropLast_concat_getLast h).symm⟩
  rw [pj_snoc, ← List.getLast?_eq_getElem?, List.getLast?_append]
  have hn : (47 :: cod i).getLast? = some ((cod i).getLast (cod_ne i)) := by
    rw [List.getLast?_cons, List.getLast?_eq_some_getLast (cod_ne i)]; rfl
  rw [hn]
  exact ⟨_, rfl, fun q => cod_free i (q ▸ List.getLast_mem _)⟩
theorem pj_len (l : List Nat) : (pj l).length ≤ 4 * l.length + 1 := by
  have := jn_len l
  unfold pj; rw [List.length_cons]; omega
theorem jn_lt : ∀ l : List Nat, ∀ c ∈ jnL (l.map cod), c < 1000
  | [], _, h => nomatch h
  | [a], c, h => cod_lt a c h
  | a :: b :: r, c, h => by
    have h' : c ∈ cod a ++ 47 :: jnL ((b :: r).map cod) := h
    rcases List.mem_append.mp h' with q | q
    · exact cod_lt a c q
    · rcases List.mem_cons.mp q with rfl | q
      · decide
      · exact jn_lt (b :: r) c q
theorem pj_lt (l : List Nat) : ∀ c ∈ pj l, c < 1000 := fun c h => (List.mem_cons.mp h).elim (fun e => by rw [e]; decide) (jn_lt l c)
theorem split_jn {l : List Nat} (h : l ≠ []) : Txt.split (tx (jnL (l.map cod))) sl = l.map nmS := by
  rw [split_is (jn_ne l h) fun p hp => by obtain ⟨i, _, rfl⟩ := List.mem_map.mp hp; exact cod_free i, List.map_map]; rfl
theorem split_pj {l : List Nat} (h : l ≠ []) : Txt.split (pa l) sl = tx [] :: l.map nmS := by
  have e : pj l = jnL ([] :: l.map cod) := by
    match l, h with
    | a :: r, _ => rfl
  show Txt.split (tx (pj l)) sl = _
  rw [e, split_is (by rw [← e]; unfold pj; exact nofun) fun p hp => (List.mem_cons.mp hp).elim (fun q => by rw [q]; exact nofun) fun hp => by obtain ⟨i, _, rfl⟩ := List.mem_map.mp hp; exact cod_free i]
  rw [List.map_cons, List.map_map]; rfl
theorem join_jn (l : List Nat) : Txt.join sl (l.map nmS) = tx (jnL (l.map cod)) := by
  show glued sl _ = _
  rw [StrLaws.glued_eq_join, ← join_is, List.map_map]; rfl
end Mine
end

noncomputable section
namespace Mine
variable {g : Gl} {n : Nat}
theorem b_starts {l : List Nat} : Does g n (fun vs => call (.builtin "str.startswith") vs) [.dat (.str (tx l)), .dat (.str sl)] (isD (.bool (l[0]? == some 47))) :=
  b_str1 PySem.F.slot_str_startswith PySem.F.entry_str_startswith PySem.F.args_str_startswith_2 fun t u => ⟨_, gives_str_startswith _ _ t u, by rw [starts]; exact .bool _⟩
theorem b_ends {l : List Nat} : Does g n (fun vs => call (.builtin "str.endswith") vs) [.dat (.str (tx l)), .dat (.str sl)] (isD (.bool (l[l.length - 1]? == some 47))) :=
  b_str1 PySem.F.slot_str_endswith PySem.F.entry_str_endswith PySem.F.args_str_endswith_2 fun t u => ⟨_, gives_str_endswith _ _ t u, by rw [ends]; exact .bool _⟩
theorem b_rfind {a b : List Nat} (hb : 47 ∉ b) : Does g n (fun vs => call (.builtin "str.rfind") vs) [.dat (.str (tx (a ++ 47 :: b))), .dat (.str sl)] (isD (.int a.length)) :=
  b_str1 PySem.F.slot_str_rfind PySem.F.entry_str_rfind PySem.F.args_str_rfind_2 fun t u => ⟨_, gives_str_rfind _ _ t u, by rw [rfind_eq hb]; exact .int _⟩
theorem b_rstrip {l : List Nat} {c : Nat} (hl : l[l.length - 1]? = some c) (hc : c ≠ 47) (hz : l.length ≤ 1000) : Does g n (fun vs => call (.builtin "str.rstrip") vs) [.dat (.str (tx (l ++ [47]))), .dat (.str sl)] (isD (.str (tx l))) :=
  b_str1 PySem.F.slot_str_rstrip PySem.F.entry_str_rstrip PySem.F.args_str_rstrip_2 fun t u => ⟨_, gives_str_rstrip_chars _ _ t u, rstrip_eq hl hc hz t⟩
section
variable {sc : Scope} {ρ : List (Str × Lv)} {e : Expr}
theorem ts_str {x : Str} (hx : x.length ≤ 1000) (h : EvD g n sc ρ e (.str x)) (he : ∀ env whole, isTrue e env whole = (do let v ← whole; standAt e.pos; holding [v] (truthy v)) := by intro _ _; rfl) : Ts g n sc ρ e (x.length != 0) :=
  ts_of h (fun A X s v E Q r k => by
    obtain ⟨t, rfl⟩ := Rep.inv_str r
    refine P.truthy_str (by omega) ?_
    have := k _ (Up.tok (tk := s.toks + 1 + 1))
    rw [show ((x.length : Int) != 0) = (x.length != 0) by cases x.length <;> rfl]
    exact this) he
theorem op_iaddS {a b : Str} (hz : a.length + b.length ≤ 100000) : Op2 g n (inplaceOp .Add) (.str a) (.str b) (.str (a ++ b)) := fun A X s x y E Q B hX hl rx ry k => by
  obtain ⟨t, rfl⟩ := rx.inv_str; obtain ⟨u, rfl⟩ := ry.inv_str; exact iadd_str (fun t' tk => k _ _ Up.tok (.str _ _)) (by rw [sizeLine_eq]; omega)
end
theorem f_base (T : TopF g) {a b : List Nat} (hb : 47 ∉ b) (hz : (a ++ 47 :: b).length ≤ 1000) : Does g (n + 2) (fun vs => call (.ref 122) vs) [.dat (.str (tx (a ++ 47 :: b)))] (isD (.str (tx b))) :=
  does_top (names := ["p"]) T 3 rfl (fun fd vs hp hd hv => by obtain ⟨v, rfl⟩ := len1 hv; unfold bindArgs; rw [hp, hd]; rfl) (by decide) (by decide) rfl (by decide) rfl rfl rfl rfl
    (blkZ_of (blk_cons (stm_asg (ρ' := []) (ev_call (f_fspath T) (T.keep 0 _ _ rfl (by decide)) (ev_g T 0 rfl rfl rfl) (all_cons (ev_name mA) all_nil)) (by decide) rfl a0 rfl (fun _ => rfl))
      (blk_cons (stm_asg (lv := .dat (.str sl)) (ev_call (f_get_sep T) (T.keep 2 _ _ rfl (by decide)) (ev_g T 2 rfl rfl rfl) (all_cons (ev_name mA) all_nil)) (by decide) rfl (fun p hp => hp) rfl (fun _ => rfl))
      (blk_cons (stm_asg (lv := .dat (dN (a.length + 1))) ((ev_bin op_add (ev_methS PySem.F.slot_str_rfind PySem.F.type_str_rfind (ev_name mB) (b_rfind hb) (all_cons (ev_name mA) all_nil) (fun _ => rfl) (fun _ => rfl) (fun _ => rfl)) ev_int).as (by rw [dN, Int.natCast_add]; rfl)) (by decide) rfl (fun p hp => hp) rfl (fun _ => rfl))
      (blk_one (stm_retD ((ev_sliceStr (z := tx ((a ++ 47 :: b).drop (a.length + 1))) (ev_name mC) (part_some (ev_name mA)) part_none (fun t t₁ t₂ => slice_from (by simp) hz t t₁) (fun _ _ => rfl)).as (by
        rw [show (a ++ 47 :: b).drop (a.length + 1) = b by rw [← List.drop_drop, List.drop_left]; rfl]))))))))
theorem rep_toList (c : Nat) : ∀ (k : Nat) (acc : Array Nat), ((List.replicate k (#[c] : Array Nat)).foldl (· ++ ·) acc).toList = acc.toList ++ List.replicate k c
  | 0, acc => by simp
  | k + 1, acc => by rw [List.replicate_succ, List.foldl_cons, rep_toList c k, List.replicate_succ]; simp
theorem op_mulS {k : Nat} (h1 : 1 ≤ k) (hz : k ≤ 1001) : Op2 g n (binaryOp .Mult) (.str sl) (.int k) (.str (tx (List.replicate k 47))) := fun A X s x y E Q B hX hl rx ry kk => by
  obtain ⟨t, rfl⟩ := rx.inv_str; obtain ⟨u, rfl⟩ := ry.inv_int
  have hs : (sl : Str).length = 1 := rfl
  refine PySem.P.mul_str (by simp; omega) (fun _ _ => ?_) (fun _ _ => ?_) ?_
  · rw [hs, Int.not_lt]
    have : ((1 : Nat) : Int) = 1 := rfl
    rw [this]
    exact Int.le_ediv_of_mul_le (by omega) (by omega)
  · rw [hs]; simp [Builtin.Str.tooLong, sizeLine_eq]; omega
  · rw [if_neg (by omega)]
    split
    · rename_i hh
      rw [hs] at hh
      have : k = 1 := by simp at hh; omega
      subst this
      exact kk _ _ Up.refl (.str _ _)
    · have e : (⟨(List.replicate (k : Int).toNat sl.cps).foldl (· ++ ·) #[]⟩ : Str) = tx (List.replicate k 47) := StrLaws.mk_of_toList (by rw [Int.toNat_natCast]; exact (rep_toList 47 k #[]).trans (by simp))
      rw [e]
      exact (MadeIs.str _ (by rw [tx_len, sizeLine_eq]; simp; omega)).post kk
theorem ok_str {l : List Nat} (h : ∀ c ∈ l, c < 1000) : PyData.strOk (tx l) = true := by
  unfold PyData.strOk
  rw [List.all_toArray, List.all_eq_true]
  exact fun c hc => decide_eq_true (by have := h c hc; omega)
theorem sh_str {l : List Nat} (h : ∀ c ∈ l, c < 1000) : SeqAt.shaped (.str (tx l)) = true := by simp only [SeqAt.shaped, PyData.canLay0, PyData.depth, ok_str h]; rfl
theorem f_dir (T : TopF g) {a b r : List Nat} (hb : 47 ∉ b) (hz : (a ++ 47 :: b).length ≤ 1000) (hok : ∀ c ∈ a, c < 1000) (hr : (a = [] ∧ r = [47]) ∨ ∃ c, a[a.length - 1]? = some c ∧ c ≠ 47 ∧ r = a) : Does g (n + 2) (fun vs => call (.ref 129) vs) [.dat (.str (tx (a ++ 47 :: b)))] (isD (.str (tx r))) := by
  have hle : a.length ≤ 999 := by rw [List.length_append, List.length_cons] at hz; omega
  have hl : (a ++ [47]).length = a.length + 1 := by simp
  have hbb : ∀ bb, (!PyData.eqv (.str (tx (a ++ [47]))) (.str (tx (List.replicate (a.length + 1) 47)))) = bb → (bb = true → r = a ∧ ∃ c, a[a.length - 1]? = some c ∧ c ≠ 47) ∧ (bb = false → r = a ++ [47]) := fun bb e => by
    rcases hr with ⟨rfl, rfl⟩ | ⟨c, h1, h2, rfl⟩
    · have : bb = false := by rw [← e]; rfl
      subst this
      exact ⟨nofun, fun _ => rfl⟩
    · refine ⟨fun _ => ⟨rfl, c, h1, h2⟩, fun q => ?_⟩
      rw [q] at e
      have e' : tx (r ++ [47]) = tx (List.replicate (r.length + 1) 47) := by simpa [PyData.eqv] using e
      have e'' : r ++ [47] = List.replicate (r.length + 1) 47 := by simpa using congrArg (fun x : Str => x.cps.toList) e'
      have hm : c ∈ r ++ [47] := List.mem_append_left _ (List.mem_of_getElem? h1)
      rw [e''] at hm
      exact absurd (List.eq_of_mem_replicate hm) h2
  refine does_top (names := ["p"]) T 4 rfl (fun fd vs hp hd hv => by obtain ⟨v, rfl⟩ := len1 hv; unfold bindArgs; rw [hp, hd]; rfl) (by decide) (by decide) rfl (by decide) rfl rfl rfl rfl
    (blkZ_of (blk_cons (stm_asg (ρ' := []) (ev_call (f_fspath T) (T.keep 0 _ _ rfl (by decide)) (ev_g T 0 rfl rfl rfl) (all_cons (ev_name mA) all_nil)) (by decide) rfl a0 rfl (fun _ => rfl))
      (blk_cons (stm_asg (lv := .dat (.str sl)) (ev_call (f_get_sep T) (T.keep 2 _ _ rfl (by decide)) (ev_g T 2 rfl rfl rfl) (all_cons (ev_name mA) all_nil)) (by decide) rfl (fun p hp => hp) rfl (fun _ => rfl))
      (blk_cons (stm_asg (lv := .dat (dN (a.length + 1))) ((ev_bin op_add (ev_methS PySem.F.slot_str_rfind PySem.F.type_str_rfind (ev_name mB) (b_rfind hb) (all_cons (ev_name mA) all_nil) (fun _ => rfl) (fun _ => rfl) (fun _ => rfl)) ev_int).as (by rw [dN, Int.natCast_add]; rfl)) (by decide) rfl (fun p hp => hp) rfl (fun _ => rfl))
      (blk_cons (stm_asg (lv := .dat (.str (tx (a ++ [47])))) ((ev_sliceStr (z := tx ((a ++ 47 :: b).take (a.length + 1))) (ev_name mC) part_none (part_some (ev_name mA)) (fun t t₁ t₂ => slice_upto (by simp) hz t t₂) (fun _ _ => rfl)).as (by
        rw [show (a ++ 47 :: b).take (a.length + 1) = a ++ [47] by rw [show a ++ 47 :: b = (a ++ [47]) ++ b by simp, ← hl, List.take_left]])) (by decide) rfl (fun p hp => hp) rfl (fun _ => rfl))
      (blk_cons (stm_if (o := .next [("head", .dat (.str (tx r)))]) (ts_and2 (b₁ := true) (b₂ := !PyData.eqv (.str (tx (a ++ [47]))) (.str (tx (List.replicate (a.length + 1) 47)))) ((ts_str (by rw [tx_len]; omega) (ev_name mA)).as (by rw [tx_len, hl]; rfl)) fun _ => ts_cmp (op_ne (sh_str fun c hc => (List.mem_append.mp hc).elim (hok c) fun q => by rw [List.mem_singleton.mp q]; decide) (sh_str fun c hc => by rw [List.eq_of_mem_replicate hc]; decide)) (ev_name mA) (ev_bin (op_mulS (by omega) (by omega)) (ev_name mC) (EvD.as (ev_callB (b_len_str (by rw [tx_len]; omega)) (ev_b T 5 rfl rfl rfl) (all_cons (ev_name mA) all_nil)) (by rw [tx_len, hl])))) (fun q => ?_) fun q => ?_)
      (blk_one (stm_retD (ev_name mA)))))))))
  · obtain ⟨rfl, c, h1, h2⟩ := (hbb _ (by simpa using q)).1 rfl
    exact blk_one (stm_asg (ρ' := []) (ev_methS PySem.F.slot_str_rstrip PySem.F.type_str_rstrip (ev_name mA) (b_rstrip h1 h2 (by omega)) (all_cons (ev_name mC) all_nil) (fun _ => rfl) (fun _ => rfl) (fun _ => rfl)) (by decide) rfl a0 rfl (fun _ => rfl))
  · have := (hbb _ (by simpa using q)).2 rfl
    subst this
    exact blk_to blk_nil (al mA a0)
theorem f_join (T : TopF g) {a b r : List Nat} (ha : a ≠ []) (hb : b[0]? ≠ some 47) (hr : r = if a[a.length - 1]? = some 47 then a ++ b else a ++ 47 :: b) (hz : a.length + b.length ≤ 900) : Does g (n + 2) (fun vs => call (.ref 115) vs) [.dat (.str (tx a)), .dat (.str (tx b))] (isD (.str (tx r))) := fun A X s vs E Q hB hT ht hX hl hv k => by
  obtain ⟨va, vb, rfl, h1, h2⟩ := hv.i2
  obtain ⟨ob, fd, H, hdf⟩ := T.fn 2 115 14 rfl
  refine wpAny_call (codeAny_call_function hB.room (hT.k _ _ H.at_) H.data (by rw [H.scope]; rfl) (by rw [H.scope]; rfl) H.body (codeRec_of hT.k H.code) ?_)
  rw [show bindArgs fd ⟨[va, vb], []⟩ = (newTuple [vb] >>= fun t => pure ((["a", "p"] : List Str).zip [va, t])) from by unfold bindArgs; rw [H.params, hdf]; rfl]
  have u : Ex s { s with heap := s.heap.push (tupO [vb] 0) } := Up.push'
  refine wpAny_bind (wpAny_newTuple (wpAny_pure (fn_env (names := ["a", "p"]) (ls := [.dat (.str (tx a)), .dat (.tuple [.str (tx b)])]) (rs := []) H A X _ _ E Q hB (hT.up ht u) (u.tab ht) hX (hl.up u fun z hz => by rw [List.mem_singleton.mp hz]; exact (u.tab ht).live)
    (.cons (Rep.up h1 u (memPT hX)) (.cons (rep_tuple (ds := [.str (tx b)]) hl.fresh (.cons h2 .nil)) .nil)) a0 (al nofun (al nofun a0)) (by decide) (by decide) rfl (by decide) rfl fun env s₁ F _ => ?_)) (by simp [sizeLine_eq]))
  have key : Blk g (n + 1) (dn 14).scope [("a", .dat (.str (tx a))), ("p", .dat (.tuple [.str (tx b)]))] (dn 14).body (.ret (isD (.str (tx r)))) := by
    refine blk_cons (stm_asg (ρ' := [("p", .dat (.tuple [.str (tx b)]))]) (ev_call (f_fspath T) (T.keep 0 _ _ rfl (by decide)) (ev_g T 0 rfl rfl rfl) (all_cons (ev_name mA) all_nil)) (by decide) rfl (al mB a0) rfl (fun _ => rfl)) ?_
    refine blk_cons (stm_asg (lv := .dat (.str sl)) (ev_call (f_get_sep T) (T.keep 2 _ _ rfl (by decide)) (ev_g T 2 rfl rfl rfl) (all_cons (ev_name mA) all_nil)) (by decide) rfl (fun p hp => hp) rfl (fun _ => rfl)) ?_
    refine blk_cons (stm_asg (ev_name mB) (by decide) rfl (fun p hp => hp) rfl (fun _ => rfl)) ?_
    refine blk_cons (stm_sub (stm_try (blk_one (stm_sub (stm_for (ds := [.str (tx b)]) (ρs := fun i => [("path", .dat (.str (tx (if i = 0 then a else r)))), ("sep", .dat (.str sl)), ("p", .dat (.tuple [.str (tx b)]))]) (it_of (ev_name mC) (.tup _)) (fun i => al (nq (by decide)) (al (nq (by decide)) (al (nq (by decide)) a0))) (fun i => al nofun (al nofun (al nofun a0))) (fun i d hd => ?_) (by decide) (fun _ _ => rfl)) (al mA (al mB (al mD a0)))))) (fun p hp => hp)) (blk_one (stm_retD (ev_name mA)))
    obtain ⟨rfl, rfl⟩ : i = 0 ∧ d = .str (tx b) := by
      cases i with
      | zero => simp at hd; exact ⟨rfl, hd.symm⟩
      | succ i => simp at hd
    rw [if_pos rfl, if_neg (by omega)]
    refine blk_cons (stm_asg (ρ' := [("path", .dat (.str (tx a))), ("sep", .dat (.str sl)), ("p", .dat (.tuple [.str (tx b)]))]) (ev_call (f_fspath T) (T.keep 0 _ _ rfl (by decide)) (ev_g T 0 rfl rfl rfl) (all_cons (ev_name mA) all_nil)) (by decide) rfl (al mB (al mC (al mD a0))) rfl (fun _ => rfl)) (blk_one ?_)
    have hla : (tx a).length ≤ 1000 := by rw [tx_len]; omega
    have hlb : (tx b).length ≤ 1000 := by rw [tx_len]; omega
    have hn : (!((tx a).length != 0)) = false := by
      rw [tx_len]; cases a with
      | nil => exact absurd rfl ha
      | cons c l => rfl
    refine stm_if (b := false) (ts_or ((ts_bool (ev_methS PySem.F.slot_str_startswith PySem.F.type_str_startswith (ev_name mA) b_starts (all_cons (ev_name mC) all_nil) (fun _ => rfl) (fun _ => rfl) (fun _ => rfl))).as (by simpa using hb)) (ts_or ((ts_not (ts_str hla (ev_name mB))).as hn) ts_or0)) nofun fun _ => blk_one ?_
    refine stm_if (b := a[a.length - 1]? == some 47) (ts_bool (ev_methS PySem.F.slot_str_endswith PySem.F.type_str_endswith (ev_name mB) b_ends (all_cons (ev_name mC) all_nil) (fun _ => rfl) (fun _ => rfl) (fun _ => rfl))) (fun q => ?_) fun q => ?_
    · rw [hr, if_pos (by simpa using q)]
      exact blk_one (stm_aug mB (ev_name mA) (by rw [← tx_app]; exact op_iaddS (by rw [tx_len, tx_len]; omega)) (by decide) rfl (al mC (al mD a0)) (by decide))
    · rw [hr, if_neg (by simpa using q)]
      exact blk_one (stm_aug mB (ev_bin (op_addS (by rw [tx_len, tx_len, sizeLine_eq]; simp; omega)) (ev_name mC) (ev_name mA)) (by rw [tx_app, ← tx_app a]; exact op_iaddS (by rw [tx_len, tx_len]; simp; omega)) (by decide) rfl (al mC (al mD a0)) (by decide))
  exact key _ env _ _ _ _ s₁ _ _ F fun v s' u' p => k v s' (u.trans u') p
end Mine
end

noncomputable section
namespace Mine
variable {g : Gl} {n : Nat}
theorem outs_eq {bs : Nat → Bool} {fs : Nat → PyData} : ∀ n, outs bs fs n = ((List.range n).filter bs).map fs
  | 0 => rfl
  | n + 1 => by
    rw [outs, outs_eq n, List.range_succ, List.filter_append, List.map_append]
    congr 1
    cases h : bs n <;> simp [h]
theorem range_getD {α : Type} (l : List α) (d0 : α) : (List.range l.length).map (fun k => l.getD k d0) = l := by
  apply List.ext_getElem
  · simp
  · intro i h1 h2; simp [List.getD, List.getElem?_eq_getElem h2]
theorem outs_list {α : Type} {l : List α} {p : α → Bool} {F : α → PyData} {d0 : α} : outs (fun k => p (l.getD k d0)) (fun k => F (l.getD k d0)) l.length = (l.filter p).map F := by
  rw [outs_eq]
  have h := List.filter_map (f := fun k => l.getD k d0) (l := List.range l.length) (p := p)
  rw [range_getD] at h
  rw [h, List.map_map]; rfl
theorem outs_all {α : Type} {l : List α} {F : α → PyData} {d0 : α} : outs (fun _ => true) (fun k => F (l.getD k d0)) l.length = l.map F := by
  have := outs_list (l := l) (p := fun _ => true) (F := F) (d0 := d0)
  rwa [List.filter_eq_self.mpr fun _ _ => rfl] at this
theorem map_get {α : Type} {l : List α} {F : α → PyData} {d0 : α} {k : Nat} {d : PyData} (h : (l.map F)[k]? = some d) : d = F (l.getD k d0) ∧ l.getD k d0 ∈ l ∧ k < l.length := by
  rw [List.getElem?_map] at h
  cases e : l[k]? with
  | none => rw [e] at h; cases h
  | some a =>
    rw [e] at h; cases h
    have hk := (List.getElem?_eq_some_iff.mp e).1
    exact ⟨by rw [List.getD, e]; rfl, by rw [List.getD, e]; exact List.mem_of_getElem? e, hk⟩
theorem up0 {i m : Nat} {d : PyData} (h : (upI 0 m)[i]? = some d) : i < m ∧ d = dN i := by
  rw [upI_get] at h
  split at h
  · cases h; rename_i h; exact ⟨h, by rw [Int.zero_add]⟩
  · cases h
theorem lay_dN : ∀ l : List Nat, PyData.canLayAll0 (l.map dN) = true
  | [] => rfl
  | _ :: l => by rw [List.map_cons]; simp [PyData.canLayAll0, PyData.canLay0, lay_dN l]
theorem any_dN {x : Nat} {l : List Nat} : ((l.map dN).any fun y => PyData.eqv y (dN x)) = decide (x ∈ l) := by
  induction l with
  | nil => rfl
  | cons a l ih =>
    rw [List.map_cons, List.any_cons, ih]
    by_cases h : a = x
    · subst h; simp [PyData.eqv]
    · have h' : ¬ x = a := fun q => h q.symm
      have h2 : ¬ (a : Int) = x := by omega
      simp [PyData.eqv, h', h2]
section
variable {sc : Scope} {ρ : List (Str × Lv)} {e o i : Expr} {x y k : Nat} {l : List Nat} {pos p1 p2 p3 p4 : Pos} {v : Str} {ds : List PyData}
theorem ts_inN (h : EvD g n sc ρ e (dN x)) (ho : EvD g n sc ρ o (dL l)) (hm : behindInMarks .In o = false) : Ts g n sc ρ (.Compare e [.In] [o] pos) (decide (x ∈ l)) :=
  (ts_cmp (op_in (lay_dN l) rfl rfl) h ho hm).as any_dN
theorem idxN (ho : EvD g n sc ρ o (dL l)) (hi : EvD g n sc ρ i (dN k)) (hk : k ≤ 1000) (hy : l[k]? = some y) (hs : ∀ l k u, subscripted i false (.ref l) (.int k u) = operate [.ref l, .int k u] (getItem (.ref l) (.int k u))) : EvD g n sc ρ (.Subscript o i pos) (dN y) :=
  ev_idx ho hi (by omega) (by omega) (by simpa using ⟨y, hy, rfl⟩) hs
theorem uptoN {p : Pos} (ho : EvD g n sc ρ o (dL l)) (hk : EvD g n sc ρ e (dN k)) (hz : l.length ≤ 1000) : EvD g n sc ρ (.Subscript o (.Slice none (some e) none p) pos) (dL (l.take k)) :=
  (ev_upto ho hk (by simp; omega)).as (by rw [← List.map_take])
theorem fromN {p : Pos} (ho : EvD g n sc ρ o (dL l)) (hk : EvD g n sc ρ e (dN k)) (hz : l.length ≤ 1000) : EvD g n sc ρ (.Subscript o (.Slice (some e) none none p) pos) (dL (l.drop k)) :=
  (ev_from ho hk (by simp; omega)).as (by rw [← List.map_drop])
theorem revN {p : Pos} (ho : EvD g n sc ρ o (dL l)) (hk : EvD g n sc ρ e (.int (-1))) (hz : l.length ≤ 1000) : EvD g n sc ρ (.Subscript o (.Slice none none (some e) p) pos) (dL l.reverse) :=
  (ev_rev ho hk (by simp; omega)).as (by rw [← List.map_reverse])
theorem addN {a b : Expr} {m : List Nat} (h1 : EvD g n sc ρ a (dL l)) (h2 : EvD g n sc ρ b (dL m)) (hz : l.length ≤ 1000) (hz' : m.length ≤ 1000) : EvD g n sc ρ (.BinOp a .Add b pos) (dL (l ++ m)) :=
  (ev_bin (op_addL (by simp; omega)) h1 h2).as (by rw [← List.map_append])
theorem succN {a b : Expr} (h1 : EvD g n sc ρ a (dN x)) (h2 : EvD g n sc ρ b (.int 1)) : EvD g n sc ρ (.BinOp a .Add b pos) (dN (x + 1)) :=
  (ev_bin op_add h1 h2).as (by rw [dN, Int.natCast_add]; rfl)
theorem idxOf_first : ∀ (l : List Nat), x ∈ l → l[l.idxOf x]? = some x ∧ ∀ m, m < l.idxOf x → l[m]? ≠ some x
  | [], h => nomatch h
  | a :: l, h => by
    by_cases e : a = x
    · subst e; simp
    · have hx : x ∈ l := (List.mem_cons.mp h).resolve_left fun q => e q.symm
      obtain ⟨h1, h2⟩ := idxOf_first l hx
      have he : (a :: l).idxOf x = l.idxOf x + 1 := by rw [List.idxOf_cons, show (a == x) = false from beq_false_of_ne e]; rfl
      rw [he]
      refine ⟨h1, fun m hm => ?_⟩
      cases m with
      | zero => simpa using e
      | succ m => exact h2 m (by omega)
theorem b_indexN (h : x ∈ l) (hz : l.length ≤ 1000) : Does g n (fun vs => call (.builtin "list.index") vs) [.dat (dL l), .dat (dN x)] (isD (dN (l.idxOf x))) := by
  obtain ⟨h1, h2⟩ := idxOf_first l h
  have := b_indexI (g := g) (n := n) (is := l.map fun a : Nat => (a : Int)) (i := (x : Int)) (j := l.idxOf x) (by simp [h1]) (fun m hm q => h2 m hm (by
    rw [List.getElem?_map] at q
    cases e : l[m]? with
    | none => rw [e] at q; cases q
    | some y => rw [e] at q; simp at q; rw [show y = x by omega])) (by simp; omega)
  rwa [List.map_map] at this
theorem stm_asgC {ρ' : List (Str × Lv)} {lv : Lv} {pos' : Pos} {z : Str} (h : EvL g n sc ρ e lv) (hk : sc.names.lookup z = some .local ∨ sc.names.lookup z = some .cell) (hx : (ρ'.all fun p => p.1 != z) = true) (hs : ∀ p ∈ ρ', p ∈ ρ) (ho : lv.own = none)
    (hw : ∀ env : Env, env.scope = sc → swapsWith e (some (.Name z pos')) pos.line env = pure false) : Stm g n sc ρ (.Assign [.Name z pos'] e pos) (.next ((z, lv) :: ρ')) := fun A env s₀ Z X₀ X s E Q F k =>
  wpAny_Assign_Name (h A env X s E _ F.ok fun v s₁ u r => ((F.up u).sub hs).store (no_name hx) hk r (fun a ha => by rw [ho] at ha; cases ha) fun s₂ F₂ => k X s₂ F₂) (hw env F.ok.sc)
theorem sw_cell {elt : Expr} {gens : List Comprehension} {scope : Scope} {p tp : Pos} {t : Str} {ln : Nat} {env : Env} (h : env.scope = sc) (hl : (sc.names.lookup t == some .local) = false) : swapsWith (.ListComp elt gens scope p) (some (.Name t tp)) ln env = pure false := by
  unfold swapsWith
  simp only [Env.kindOf, h, hl, Bool.and_false, Bool.false_and]
theorem sb {scope : Scope} {z : Str} {lv : Lv} (h1 : (z, lv) ∈ ρ) (h2 : lv.own = none) (h3 : (relS scope sc).names.lookup z = some .free ∨ (relS scope sc).names.lookup z = some .cell) (h4 : (z, NameKind.free) ∈ scope.names) :
    ((z, lv) : Str × Lv) ∈ ρ ∧ ((z, lv) : Str × Lv).2.own = none ∧ ((relS scope sc).names.lookup ((z, lv) : Str × Lv).1 = some .free ∨ (relS scope sc).names.lookup ((z, lv) : Str × Lv).1 = some .cell) ∧ (((z, lv) : Str × Lv).1, NameKind.free) ∈ scope.names := ⟨h1, h2, h3, h4⟩
theorem it_rlen (T : TopF g) (hv : (v, .dat (.list ds)) ∈ ρ) (hz : ds.length ≤ 1000) (h1 : sc.names.lookup ("range" : Str) = some .globalImplicit) (h2 : sc.names.lookup ("len" : Str) = some .globalImplicit) (hd : (v == ("__debug__" : Str)) = false) (hn : (v == ("__classdict__" : Str)) = false) :
    It g n sc ρ (.Call (.Name "range" p1) [.Call (.Name "len" p2) [.Name v p3] [] p4] [] pos) (upI 0 ds.length) :=
  it_of (ev_callT b_range1 (ev_b T 6 rfl h1 rfl) (all_cons (ev_callB (b_len_list (by omega)) (ev_b T 5 rfl h2 rfl) (all_cons (ev_name hv hd hn) all_nil)) all_nil)) (iter0 (by omega))
end
theorem f_made (T : TopF g) {row : List Nat} (hrow : ∀ x ∈ row, x < row.length) (hlen : row.length ≤ 7) (hsp : spine row ≠ []) (htn : ∀ t < row.length, turns row t ≠ []) :
    Does g (n + 4) (fun vs => call (.ref 183) vs) [.dat (dL row)] (isD (.tuple [.list ((List.range row.length).map fun t => .list ((down row t).map fun i => .str (tabS.getD i ""))), dN ((spine row).getLastD 0)])) := by
  have hspl : (spine row).length ≤ 7 := by
    unfold spine; rw [List.length_map]; exact Nat.le_trans (List.length_filter_le _ _) (by rw [List.length_range]; exact hlen)
  have hin : ∀ x ∈ spine row, x < row.length := fun x hx => by
    unfold spine at hx
    obtain ⟨t, ht, rfl⟩ := List.mem_map.mp hx
    have ht' := List.mem_range.mp (List.mem_filter.mp ht).1
    rw [List.getD, List.getElem?_eq_getElem ht']
    exact hrow _ (List.getElem_mem _)
  refine does_top (names := ["row"]) T 11 rfl (fun fd vs hp hd hv => by obtain ⟨v, rfl⟩ := len1 hv; unfold bindArgs; rw [hp, hd]; rfl) (by decide) (by decide) rfl (by decide) rfl rfl rfl rfl ?_
  refine blkZ_cons (stm_asg (ρ' := [("row", .dat (dL row))]) (ev_call0 (f_names T) (T.keep 10 _ _ rfl (by decide)) (ev_g T 10 rfl rfl rfl)) (by decide) rfl (al mA a0) rfl (fun _ => rfl)) ?_
  refine blkZ_cons (stm_asgC (lv := .dat (dL (spine row))) ((ev_comp (ρc := [("row", .dat (dL row))]) (bs := onRing row) (fs := fun i => dN (row.getD i 0)) (it_rlen T mB (by simp; omega) rfl rfl rfl rfl) (fun i d hd => ?_) (fun i d hd hb => ?_) (al (sb mB rfl (by decide) (by decide)) a0) (al (nq (by decide)) a0) (by rw [upI_len]; simp; omega)).as ?_) (by decide) rfl (fun p hp => hp) rfl (fun env h => sw_cell h rfl)) ?_
  · obtain ⟨hi, rfl⟩ := up0 hd
    rw [List.length_map] at hi
    exact tests_one (ts_inN (ev_name mA) ((ev_from (k := 1) (ev_call (f_orbit T hrow hi (by omega)) (T.keep 13 _ _ rfl (by decide)) (ev_g T 13 rfl rfl rfl) (all_cons (ev_name mB) (all_cons (ev_name mA) all_nil))) ev_int (by rw [List.length_map, way_len]; omega)).as (by rw [← List.map_drop])) rfl)
  · obtain ⟨hi, rfl⟩ := up0 hd
    rw [List.length_map] at hi
    exact idxN (ev_name mB) (ev_name mA) (by omega) (by rw [List.getD, List.getElem?_eq_getElem hi]; rfl) (fun _ _ _ => rfl)
  · rw [outs_eq, upI_len, List.length_map]; unfold spine dL; rw [List.map_map]; rfl
  refine blkZ_new (new_list (ds := []) all_nil (Nat.zero_le _)) (fun nm => ?_) (by decide) rfl (fun p hp => hp) (fun _ => rfl)
  refine blkZ_cons (stm_sub (stm_for (ρs := fun i => [("names", .mut nm ((List.range i).map fun t => .list ((down row t).map fun i => .str (tabS.getD i "")))), ("spine", .dat (dL (spine row))), ("table", .dat (.list (tabS.map .str))), ("row", .dat (dL row))]) (it_rlen T mD (by simp; omega) rfl rfl rfl rfl) (fun i => al (nq (by decide)) (al (nq (by decide)) (al (nq (by decide)) (al (nq (by decide)) a0)))) (fun i => al (fun b hb => ⟨_, mA, hb⟩) (al nofun (al nofun (al nofun a0)))) (fun i d hd => ?_) (by decide) (fun _ _ => rfl)) (al mA (al mB (al mC (al mD a0))))) ?_
  · obtain ⟨hi, rfl⟩ := up0 hd
    rw [List.length_map] at hi
    have hwl : (way row i row.length).length = row.length + 1 := way_len
    obtain ⟨tn, rest, htl⟩ : ∃ tn rest, turns row i = tn :: rest := by
      cases h : turns row i with
      | nil => exact absurd h (htn i hi)
      | cons a l => exact ⟨a, l, rfl⟩
    have htt : turn row i = tn := by unfold turn; rw [htl]; rfl
    have htm : tn ∈ turns row i := by rw [htl]; exact .head _
    obtain ⟨htr, hts⟩ := List.mem_filter.mp htm
    have htr' : tn ≤ row.length := by have := List.mem_range.mp htr; omega
    have hts' : pt row i tn ∈ spine row := by simpa using hts
    have hix : (spine row).idxOf (pt row i tn) < (spine row).length := List.idxOf_lt_length_of_mem hts'
    refine blk_cons (stm_asg (lv := .dat (dL (way row i row.length))) (ρ' := [("thing", .dat (dN i)), ("names", _), ("spine", .dat (dL (spine row))), ("table", .dat (.list (tabS.map .str))), ("row", .dat (dL row))]) (ev_call (f_orbit T hrow hi (by omega)) (T.keep 13 _ _ rfl (by decide)) (ev_g T 13 rfl rfl rfl) (all_cons (ev_name mE) (all_cons (ev_name mA) all_nil))) (by decide) rfl (fun p hp => hp) rfl (fun _ => rfl)) ?_
    refine blk_cons (stm_asg (lv := .dat (dN tn)) (ρ' := [("way", .dat (dL (way row i row.length))), ("names", _), ("spine", .dat (dL (spine row))), ("table", .dat (.list (tabS.map .str))), ("row", .dat (dL row))]) (idxN (l := turns row i) (k := 0) ((ev_comp (ρc := [("way", .dat (dL (way row i row.length))), ("spine", .dat (dL (spine row)))]) (bs := fun k => decide (pt row i k ∈ spine row)) (fs := fun k => dN k) (it_rlen T mA (by simp; omega) rfl rfl rfl rfl) (fun k d hd => ?_) (fun k d hd hb => ?_) (al (sb mA rfl (by decide) (by decide)) (al (sb mD rfl (by decide) (by decide)) a0)) (al (nq (by decide)) (al (nq (by decide)) a0)) (by rw [upI_len, List.length_map]; omega)).as ?_) ev_int (by decide) (by rw [htl]; rfl) (fun _ _ _ => rfl)) (by decide) rfl (al mA (al mC (al mD (al mE (al (.tail _ mE) a0))))) rfl (fun _ => rfl)) ?_
    · obtain ⟨hk, rfl⟩ := up0 hd
      rw [List.length_map, hwl] at hk
      exact tests_one (ts_inN (idxN (ev_name mB) (ev_name mA) (by omega) (way_get (by omega)) (fun _ _ _ => rfl)) (ev_name mC) rfl)
    · obtain ⟨hk, rfl⟩ := up0 hd
      exact ev_name mA
    · rw [outs_eq, upI_len, List.length_map, hwl]; rfl
    refine blk_cons (stm_asg (ρ' := [("names", _), ("spine", .dat (dL (spine row))), ("table", .dat (.list (tabS.map .str))), ("row", .dat (dL row))]) (addN (uptoN (ev_name mD) (succN (ev_methL PySem.F.slot_list_index PySem.F.type_list_index (ev_name mD) (b_indexN hts' (by omega)) (all_cons (idxN (ev_name mB) (ev_name mA) (by omega) (way_get htr') (fun _ _ _ => rfl)) all_nil) (fun _ => rfl) (fun _ => rfl) (fun _ => rfl)) ev_int) (by omega)) (revN (uptoN (ev_name mB) (ev_name mA) (by omega)) ev_neg (by rw [List.length_take]; omega)) (by rw [List.length_take]; omega) (by rw [List.length_reverse, List.length_take]; omega)) (by decide) rfl (al mC (al mD (al mE (al (.tail _ mE) a0)))) rfl (fun _ => rfl)) ?_
    have hdn : (spine row).take ((spine row).idxOf (pt row i tn) + 1) ++ ((way row i row.length).take tn).reverse = down row i := by unfold down; rw [htt]
    have hdl : (down row i).length ≤ 100 := by rw [← hdn, List.length_append, List.length_take, List.length_reverse, List.length_take]; omega
    rw [hdn, List.range_succ, List.map_append]
    refine blk_one (stm_append (ρ' := [("spine", .dat (dL (spine row))), ("table", .dat (.list (tabS.map .str))), ("row", .dat (dL row))]) mB ((ev_comp (ρc := [("table", .dat (.list (tabS.map .str)))]) (bs := fun _ => true) (fs := fun k => .str (tabS.getD ((down row i).getD k 0) "")) (it_of (ev_name mA) (.list _)) (fun k d hd => tests_nil) (fun k d hd hb => ?_) (al (sb mD rfl (by decide) (by decide)) a0) (al (nq (by decide)) a0) (by simp; omega)).as ?_) (al ⟨mC, nofun⟩ (al ⟨mD, nofun⟩ (al ⟨mE, nofun⟩ a0))) (by simp; omega) (by decide) (by decide) (fun _ => rfl) (fun _ => rfl))
    · obtain ⟨rfl, hmem, _⟩ := map_get (d0 := 0) hd
      have hlt : (down row i).getD k 0 < 7 := by
        rw [← hdn] at hmem ⊢
        rcases List.mem_append.mp hmem with q | q
        · exact Nat.lt_of_lt_of_le (hin _ (List.mem_of_mem_take q)) hlen
        · obtain ⟨j, _, e⟩ := List.mem_map.mp (List.mem_of_mem_take (List.mem_reverse.mp q))
          rw [← e]; exact Nat.lt_of_lt_of_le (pt_lt hrow hi j) hlen
      generalize (down row i).getD k 0 = c at hlt
      refine ev_idx (k := (c : Int)) (ev_name mB) (ev_name mA) (by omega) (by omega) ?_ (fun _ _ _ => rfl)
      rw [List.getElem?_map, Int.toNat_natCast, List.getD, List.getElem?_eq_getElem hlt]
      rfl
    · rw [List.length_map, outs_all (F := fun c => .str (tabS.getD c ""))]
  · rw [upI_len, List.length_map]
    refine blkZ_freeze mA (al ⟨mB, nofun⟩ a0) (blkZ_of (blk_one (stm_retD (ev_tuple (ds := [_, _]) (all_cons (ev_name mA) (all_cons (ev_idxLast (ev_name mB) ev_neg ?_ (fun _ _ _ => rfl)) all_nil)) (Nat.le_of_ble_eq_true rfl)))))
    rw [List.length_map, List.getElem?_map, List.getLastD_eq_getLast?, List.getLast?_eq_getElem?]
    cases h : (spine row)[(spine row).length - 1]? with
    | none => exact absurd (List.length_eq_zero_iff.mp (by have := List.getElem?_eq_none_iff.mp h; omega)) hsp
    | some y => rfl
end Mine
end

noncomputable section
namespace Mine
variable {g : Gl} {n : Nat}
noncomputable def Fine (k : Nat) (d : PyData) : Prop := d.canLay0 = true ∧ d.depth ≤ k
theorem Fine.sh {k : Nat} {d : PyData} (h : Fine k d) (hk : k ≤ 64) : SeqAt.shaped d = true := by
  unfold SeqAt.shaped; rw [h.1, Bool.true_and]; exact decide_eq_true (Nat.le_trans h.2 hk)
theorem fine_int {i : Int} : Fine 0 (.int i) := ⟨rfl, Nat.le_refl _⟩
theorem fine_str {l : List Nat} (h : ∀ c ∈ l, c < 1000) : Fine 0 (.str (tx l)) := ⟨by simp only [PyData.canLay0]; exact ok_str h, Nat.le_refl _⟩
theorem fine_all {k : Nat} : ∀ {ds : List PyData}, (∀ d ∈ ds, Fine k d) → PyData.canLayAll0 ds = true ∧ PyData.depthAll ds ≤ k
  | [], _ => ⟨rfl, Nat.zero_le _⟩
  | d :: ds, h => by
    obtain ⟨h1, h2⟩ := fine_all fun d hd => h d (.tail _ hd)
    have h0 := h d (.head _)
    exact ⟨by rw [PyData.canLayAll0, h0.1, h1]; rfl, by rw [PyData.depthAll]; exact Nat.max_le.mpr ⟨h0.2, h2⟩⟩
theorem fine_list {k : Nat} {ds : List PyData} (h : ∀ d ∈ ds, Fine k d) : Fine (k + 1) (.list ds) := by
  obtain ⟨h1, h2⟩ := fine_all h
  exact ⟨by rw [PyData.canLay0]; exact h1, by rw [PyData.depth]; omega⟩
theorem fine_map {α : Type} {k : Nat} {l : List α} {F : α → PyData} (h : ∀ a ∈ l, Fine k (F a)) : Fine (k + 1) (.list (l.map F)) :=
  fine_list fun d hd => by obtain ⟨a, ha, rfl⟩ := List.mem_map.mp hd; exact h a ha
theorem eqv_all {α : Type} [DecidableEq α] {F : α → PyData} : ∀ {xs ys : List α}, (∀ a ∈ xs, ∀ b ∈ ys, PyData.eqv (F a) (F b) = decide (a = b)) → PyData.eqvAll (xs.map F) (ys.map F) = decide (xs = ys)
  | [], [], _ => rfl
  | [], y :: ys, _ => by rw [List.map_cons, List.map_nil, PyData.eqvAll]; exact (decide_eq_false nofun).symm
  | x :: xs, [], _ => by rw [List.map_cons, List.map_nil, PyData.eqvAll]; exact (decide_eq_false nofun).symm
  | x :: xs, y :: ys, h => by
    rw [List.map_cons, List.map_cons, PyData.eqvAll, h x (.head _) y (.head _), eqv_all fun a ha b hb => h a (.tail _ ha) b (.tail _ hb), ← Bool.decide_and]
    rw [decide_eq_decide, List.cons.injEq]
theorem eqv_map {α : Type} [DecidableEq α] {F : α → PyData} {xs ys : List α} (h : ∀ a ∈ xs, ∀ b ∈ ys, PyData.eqv (F a) (F b) = decide (a = b)) : PyData.eqv (.list (xs.map F)) (.list (ys.map F)) = decide (xs = ys) := by
  rw [PyData.eqv]; exact eqv_all h
theorem eqv_dN {a b : Nat} : PyData.eqv (dN a) (dN b) = decide (a = b) := by
  by_cases h : a = b
  · subst h; simp [PyData.eqv]
  · have h2 : ¬ (a : Int) = b := by omega
    simp [PyData.eqv, h, h2]
theorem eqv_nm {a b : Nat} (ha : a < 7) (hb : b < 7) : PyData.eqv (.str (nmS a)) (.str (nmS b)) = decide (a = b) := by
  by_cases h : a = b
  · subst h; simp [PyData.eqv]
  · have h2 : ¬ nmS a = nmS b := fun q => h (cod_inj a ha b hb (by simpa using congrArg (fun x : Str => x.cps.toList) q))
    rw [PyData.eqv, beq_false_of_ne h2, decide_eq_false h]
noncomputable abbrev dR (l : List Nat) : PyData := .list (l.map fun i => .str (nmS i))
theorem eqv_R {a b : List Nat} (ha : ∀ i ∈ a, i < 7) (hb : ∀ i ∈ b, i < 7) : PyData.eqv (dR a) (dR b) = decide (a = b) := eqv_map fun i hi j hj => eqv_nm (ha i hi) (hb j hj)
theorem fine_R (l : List Nat) : Fine 1 (dR l) := fine_map fun i _ => fine_str (cod_lt i)
theorem eqv_nil {α : Type} {F : α → PyData} {xs : List α} : PyData.eqv (.list (xs.map F)) (.list []) = xs.isEmpty := by
  cases xs <;> rfl
theorem uptoR {sc : Scope} {ρ : List (Str × Lv)} {o e : Expr} {l : List Nat} {k : Nat} {pos p : Pos} (ho : EvD g n sc ρ o (dR l)) (hk : EvD g n sc ρ e (dN k)) (hz : l.length ≤ 1000) : EvD g n sc ρ (.Subscript o (.Slice none (some e) none p) pos) (dR (l.take k)) :=
  (ev_upto ho hk (by rw [List.length_map]; omega)).as (by rw [← List.map_take])
theorem sw_local {sc : Scope} {elt : Expr} {gens : List Comprehension} {scope : Scope} {p tp : Pos} {t : Str} {ln : Nat} {env : Env} (h : env.scope = sc) (hb : sc.kind = .function) (hl : (sc.names.lookup t == some .local) = true) (hp : (tp.line == p.line) = true)
    (hn : (scope.names.any fun (q : Str × NameKind) => q.1 == t && (q.2 == .local || q.2 == .cell)) = false) : swapsWith (.ListComp elt gens scope p) (some (.Name t tp)) ln env = pure true := by
  have h1 : env.kindOf t = sc.names.lookup t := by rw [Env.kindOf, h]
  have h2 : (env.blockKind == .function) = true := by
    unfold Env.blockKind
    rw [h, hb]
    rfl
  unfold swapsWith
  show (pure (env.blockKind == .function && env.kindOf t == some .local && tp.line == p.line && !(scope.names.any fun (q : Str × NameKind) => q.1 == t && (q.2 == .local || q.2 == .cell))) : Sem Bool) = pure true
  rw [h1, h2, hl, hp, hn]
  rfl
theorem f_shared (T : TopF g) {L : List (List Nat)} (hne : L ≠ []) (hl : ∀ l ∈ L, l ≠ [] ∧ l.length ≤ 50 ∧ ∀ i ∈ l, i < 7) (hL : L.length ≤ 100) : Does g (n + 1) (fun vs => call (.ref 188) vs) [.dat (.list (L.map fun l => .str (pa l)))] (isD (.str (pa (shd L)))) := by
  obtain ⟨l0, L', hLL⟩ : ∃ l0 L', L = l0 :: L' := by cases L with | nil => exact absurd rfl hne | cons a b => exact ⟨a, b, rfl⟩
  have h0 : L.headD [] = l0 := by rw [hLL]; rfl
  have hm0 : l0 ∈ L := by rw [hLL]; exact .head _
  have hg0 : (L.map dR)[0]? = some (dR l0) := by rw [hLL]; rfl
  have hz0 := (hl l0 hm0).2.1
  have hzs : (shd L).length ≤ 50 := by
    unfold shd; rw [List.length_map]; refine Nat.le_trans (List.length_filter_le _ _) ?_; rw [List.length_range, h0]; exact hz0
  refine does_top (names := ["paths"]) T 12 rfl (fun fd vs hp hd hv => by obtain ⟨v, rfl⟩ := len1 hv; unfold bindArgs; rw [hp, hd]; rfl) (by decide) (by decide) rfl (by decide) rfl rfl rfl rfl (blkZ_of ?_)
  refine blk_cons (stm_asgC (lv := .dat (.list (L.map dR))) (ρ' := []) ((ev_comp (ρc := []) (bs := fun _ => true) (fs := fun k => dR (L.getD k [])) (it_of (ev_name mA) (.list _)) (fun i d hd => tests_nil) (fun i d hd hb => ?_) a0 a0 (by rw [List.length_map]; omega)).as (by rw [List.length_map, outs_all])) (by decide) rfl a0 rfl (fun env h => sw_cell h rfl)) ?_
  · obtain ⟨rfl, hm, _⟩ := map_get (d0 := []) hd
    obtain ⟨h1, h2, h3⟩ := hl _ hm
    generalize L.getD i [] = l at h1 h2
    have hlen := pj_len l
    refine EvD.as (ev_methS (P := isD _) PySem.F.slot_str_split PySem.F.type_str_split (ev_sliceStr (z := tx (jnL (l.map cod))) (ev_name mA) (part_some (k := ((1 : Nat) : Int)) ev_int) part_none (fun t t₁ t₂ => slice_from (l := pj l) (k := 1) (by simp [pj]) (by omega) t t₁) (fun _ _ => rfl)) (b_split (y := sl) rfl (by rw [tx_len]; have := jn_len l; omega) (by rw [split_jn h1, List.length_map]; omega)) (all_cons ev_str all_nil) (fun _ => rfl) (fun _ => rfl) (fun _ => rfl)) ?_
    rw [split_jn h1, List.map_map]; rfl
  refine blk_cons (stm_comp (ρ' := []) (ρc := [("rows", .dat (.list (L.map dR)))]) (bs := same L) (fs := fun k => .str (nmS (l0.getD k 0))) (it_of (ev_callT b_range1 (ev_b T 6 rfl rfl rfl) (all_cons (ev_callB (b_len_list (ds := l0.map fun i => .str (nmS i)) (by rw [List.length_map]; omega)) (ev_b T 5 rfl rfl rfl) (all_cons (ev_idx (k := 0) (ev_name mA) ev_int (by decide) (by decide) hg0 (fun _ _ _ => rfl)) all_nil)) all_nil)) (iter0 (by rw [List.length_map]; omega))) (fun i d hd => ?_) (fun i d hd hb => ?_) (al (sb mA rfl (by decide) (by decide)) a0) (al (nq (by decide)) a0) (by rw [upI_len, List.length_map]; omega) a0 a0 (fun env h => sw_local h rfl rfl rfl rfl)) ?_
  · obtain ⟨hi, rfl⟩ := up0 hd
    rw [List.length_map] at hi
    refine tests_one ((ts_cmp (op_eq (d₁ := .list ((L.filter fun r => !decide (r.take (i + 1) = l0.take (i + 1))).map dR)) (d₂ := .list []) ((fine_map (k := 1) fun a _ => fine_R a).sh (by decide)) rfl) ((ev_comp (ρc := [("k", .dat (dN i)), ("rows", .dat (.list (L.map dR)))]) (bs := fun j => !decide ((L.getD j []).take (i + 1) = l0.take (i + 1))) (fs := fun j => dR (L.getD j [])) (it_of (ev_name mB) (.list _)) (fun j d hd => ?_) (fun j d hd hb => ?_) (al (sb mA rfl (by decide) (by decide)) (al (sb mB rfl (by decide) (by decide)) a0)) (al (nq (by decide)) (al (nq (by decide)) a0)) (by rw [List.length_map]; omega)).as ?_) (ev_list (ds := []) all_nil (Nat.zero_le _)) rfl).as ?_)
    · obtain ⟨rfl, hm, _⟩ := map_get (d0 := []) hd
      obtain ⟨h1, h2, h3⟩ := hl _ hm
      exact tests_one ((ts_cmp (op_ne ((fine_R _).sh (by decide)) ((fine_R _).sh (by decide))) (uptoR (ev_name mA) (succN (ev_name mB) ev_int) (by omega)) (uptoR (ev_idx (k := 0) (ev_name mC) ev_int (by decide) (by decide) hg0 (fun _ _ _ => rfl)) (succN (ev_name mB) ev_int) (by omega)) rfl).as (by rw [eqv_R (fun i hi => h3 i (List.mem_of_mem_take hi)) fun i hi => (hl l0 hm0).2.2 i (List.mem_of_mem_take hi)]))
    · obtain ⟨rfl, hm, _⟩ := map_get (d0 := []) hd
      exact ev_name mA
    · rw [List.length_map, outs_list (F := dR) (p := fun r => !decide (r.take (i + 1) = l0.take (i + 1)))]
    · rw [eqv_nil]
      unfold same
      rw [h0, Bool.eq_iff_iff, List.isEmpty_iff, List.filter_eq_nil_iff, List.all_eq_true]
      simp
  · obtain ⟨hi, rfl⟩ := up0 hd
    rw [List.length_map] at hi
    refine ev_idx (k := (i : Int)) (ev_idx (k := 0) (ev_name mB) ev_int (by decide) (by decide) hg0 (fun _ _ _ => rfl)) (ev_name mA) (by omega) (by omega) ?_ (fun _ _ _ => rfl)
    rw [List.getElem?_map, Int.toNat_natCast, List.getD, List.getElem?_eq_getElem hi]; rfl
  · have e : outs (same L) (fun k => .str (nmS (l0.getD k 0))) (upI 0 (l0.map fun i => PyData.str (nmS i)).length).length = ((shd L).map nmS).map .str := by
      rw [outs_eq, upI_len, List.length_map]; unfold shd; rw [h0, List.map_map, List.map_map]; rfl
    rw [e]
    refine blk_one (stm_retD (EvD.as (ev_bin (op_addS ?_) ev_str (ev_methS (P := isD _) PySem.F.slot_str_join PySem.F.type_str_join (y := sl) ev_str (b_join ?_) (all_cons (ev_name mA) all_nil) (fun _ => rfl) (fun _ => rfl) (fun _ => rfl))) ?_))
    · show (1 : Nat) + (Txt.join sl ((shd L).map nmS)).length ≤ _
      rw [join_jn, tx_len, sizeLine_eq]
      have := jn_len (shd L); omega
    · have hB : ∀ y ∈ (shd L).map nmS, y.length ≤ 3 := fun y hy => by obtain ⟨i, _, rfl⟩ := List.mem_map.mp hy; rw [tx_len]; exact cod_len i
      have hf := StrLaws.joinFits (sep := sl) hB (by rw [List.length_map, tx_len]; show _ + _ * 1 ≤ _; omega)
      unfold JoinOk
      rw [hf]; rfl
    · rw [join_jn]; exact congrArg PyData.str (tx_app [47] _)
end Mine
end

noncomputable section
namespace Mine
variable {g : Gl} {n : Nat}
noncomputable def Good (l : List Nat) : Prop := l ≠ [] ∧ l.length ≤ 50 ∧ ∀ i ∈ l, i < 7
noncomputable abbrev dP (L : List (List Nat)) : PyData := .list (L.map fun l => .str (pa l))
theorem pa_inj {a b : List Nat} (ha : ∀ i ∈ a, i < 7) (hb : ∀ i ∈ b, i < 7) (h : pa a = pa b) : a = b := by
  have h1 : pj a = pj b := by simpa using congrArg (fun x : Str => x.cps.toList) h
  have h2 : jnL (a.map cod) = jnL (b.map cod) := by simpa [pj] using h1
  by_cases na : a = []
  · by_cases nb : b = []
    · rw [na, nb]
    · rw [na] at h2; exact absurd h2.symm (jn_ne b nb)
  by_cases nb : b = []
  · rw [nb] at h2; exact absurd h2 (jn_ne a na)
  have h3 := jnL_inj _ _ (by simpa using na) (by simpa using nb) (fun p hp => by obtain ⟨i, _, rfl⟩ := List.mem_map.mp hp; exact cod_free i) (fun p hp => by obtain ⟨i, _, rfl⟩ := List.mem_map.mp hp; exact cod_free i) h2
  have key : ∀ (a b : List Nat), (∀ i ∈ a, i < 7) → (∀ i ∈ b, i < 7) → a.map cod = b.map cod → a = b := fun a => by
    induction a with
    | nil => intro b _ _ h; cases b with | nil => rfl | cons x y => simp at h
    | cons x y ih =>
      intro b h1 h2 h
      cases b with
      | nil => simp at h
      | cons u v =>
        rw [List.map_cons, List.map_cons, List.cons.injEq] at h
        rw [cod_inj x (h1 x (.head _)) u (h2 u (.head _)) h.1, ih v (fun i hi => h1 i (.tail _ hi)) (fun i hi => h2 i (.tail _ hi)) h.2]
  exact key a b ha hb h3
theorem eqv_pa {a b : List Nat} (ha : ∀ i ∈ a, i < 7) (hb : ∀ i ∈ b, i < 7) : PyData.eqv (.str (pa a)) (.str (pa b)) = decide (a = b) := by
  by_cases h : a = b
  · subst h; simp [PyData.eqv]
  · rw [PyData.eqv, beq_false_of_ne fun q => h (pa_inj ha hb q), decide_eq_false h]
theorem shd_mem {L : List (List Nat)} {x : Nat} (h : x ∈ shd L) : x ∈ L.headD [] := by
  unfold shd at h
  obtain ⟨k, hk, rfl⟩ := List.mem_map.mp h
  have hk' := List.mem_range.mp (List.mem_filter.mp hk).1
  rw [List.getD, List.getElem?_eq_getElem hk']; exact List.getElem_mem _
theorem fine_pa (l : List Nat) : Fine 0 (.str (pa l)) := fine_str (pj_lt l)
theorem tab_eq : tabS.map PyData.str = (List.range 7).map fun i => .str (nmS i) := rfl
theorem any_nm {x : Nat} (hx : x < 7) {l : List Nat} (hl : ∀ i ∈ l, i < 7) : ((l.map fun i => PyData.str (nmS i)).any fun y => PyData.eqv y (.str (nmS x))) = decide (x ∈ l) := by
  induction l with
  | nil => rfl
  | cons a l ih =>
    rw [List.map_cons, List.any_cons, ih fun i hi => hl i (.tail _ hi), eqv_nm (hl a (.head _)) hx]
    by_cases h : a = x
    · subst h; simp
    · have h' : ¬ x = a := fun q => h q.symm
      simp [h, h']
theorem f_read (T : TopF g) (hcp : ∀ (L : List (List Nat)), L ≠ [] → L.length ≤ 10 → (∀ l ∈ L, Good l) → Does g (n + 2) (fun vs => call (.ref 134) vs) [.dat (dP L)] (isD (.str (pa (shd L)))))
    {P : List (List Nat)} {m : List Nat} {r : Nat} (hne : P ≠ []) (hPl : P.length ≤ 7) (hP : ∀ l ∈ P, Good l) (hm : Good m) (hr : shd P = [r]) (hr7 : r < 7) (hin : (inner P m).length ≤ m.length) (hout : ∀ i, i < P.length → i ∉ inner P m → 2 ≤ (P.getD i []).length) :
    Does g (n + 3) (fun vs => call (.ref 193) vs) [.dat (dP P), .dat (.str (pa m))] (isD (dL (readL P m))) := by
  have gd : ∀ i, i < P.length → P.getD i [] ∈ P ∧ Good (P.getD i []) := fun i hi => by
    have : P.getD i [] ∈ P := by rw [List.getD, List.getElem?_eq_getElem hi]; exact List.getElem_mem _
    exact ⟨this, hP _ this⟩
  refine does_top (names := ["paths", "marked"]) T 13 rfl (fun fd vs hp hd hv => by obtain ⟨v, w, rfl⟩ := len2 hv; unfold bindArgs; rw [hp, hd]; rfl) (by decide) (by decide) rfl (by decide) rfl rfl rfl rfl (blkZ_of ?_)
  refine blk_cons (stm_asg (ρ' := [("paths", .dat (dP P)), ("marked", .dat (.str (pa m)))]) (ev_call0 (f_names T) (T.keep 10 _ _ rfl (by decide)) (ev_g T 10 rfl rfl rfl)) (by decide) rfl (fun p hp => hp) rfl (fun _ => rfl)) ?_
  have hsz : ∀ i, i < P.length → [P.getD i [], m] ≠ [] ∧ [P.getD i [], m].length ≤ 10 ∧ ∀ l ∈ [P.getD i [], m], Good l := fun i hi => ⟨nofun, Nat.le_of_ble_eq_true rfl, al (gd i hi).2 (al hm a0)⟩
  have hcl : ∀ i, i < P.length → Good (P.getD i []) := fun i hi => (gd i hi).2
  obtain ⟨SH, hSH⟩ : ∃ SH, P.map (fun l => shd [l, m]) ++ [shd P] = SH := ⟨_, rfl⟩
  have hSl : SH.length = P.length + 1 := by rw [← hSH]; simp
  refine blk_cons (stm_asg (lv := .dat (dP SH)) (ρ' := [("table", .dat (.list (tabS.map .str))), ("paths", .dat (dP P)), ("marked", .dat (.str (pa m)))]) ((ev_bin (op_addL (ds := P.map fun l => .str (pa (shd [l, m]))) (es := [.str (pa (shd P))]) (by simp; omega)) ((ev_comp (ρc := [("marked", .dat (.str (pa m)))]) (bs := fun _ => true) (fs := fun k => .str (pa (shd [P.getD k [], m]))) (it_of (ev_name mB) (.list _)) (fun i d hd => tests_nil) (fun i d hd hb => ?_) (al (sb mC rfl (by decide) (by decide)) a0) (al (nq (by decide)) a0) (by rw [List.length_map]; omega)).as ?_) (ev_list (ds := [.str (pa (shd P))]) (all_cons (ev_call (hcp P hne (by omega) hP) (T.keep 6 _ _ rfl (by decide)) (ev_g T 6 rfl rfl rfl) (all_cons (ev_name mB) all_nil)) all_nil) (Nat.le_of_ble_eq_true rfl))).as ?_) (by decide) rfl (fun p hp => hp) rfl (fun _ => rfl)) ?_
  · obtain ⟨rfl, hmem, hi⟩ := map_get (d0 := []) hd
    exact ev_call (hcp _ (hsz i hi).1 (hsz i hi).2.1 (hsz i hi).2.2) (T.keep 6 _ _ rfl (by decide)) (ev_g T 6 rfl rfl rfl) (all_cons (ev_list (ds := [.str (pa (P.getD i [])), .str (pa m)]) (all_cons (ev_name mA) (all_cons (ev_name mB) all_nil)) (Nat.le_of_ble_eq_true rfl)) all_nil)
  · rw [List.length_map, outs_all (F := fun l => .str (pa (shd [l, m])))]
  · rw [← hSH, dP, List.map_append, List.map_map]; rfl
  have hsame : (!PyData.eqv (dP SH) (dP SH)) = false := by
    have : ∀ l : List (List Nat), PyData.eqvAll (l.map fun l => PyData.str (pa l)) (l.map fun l => .str (pa l)) = true := fun l => by
      induction l with
      | nil => rfl
      | cons a l ih => rw [List.map_cons, PyData.eqvAll, ih]; simp [PyData.eqv]
    rw [dP, PyData.eqv, this]; rfl
  have fSH : Fine 1 (dP SH) := fine_map fun a _ => fine_pa a
  refine blk_cons (stm_if (b := false) (o := .next [("shared", .dat (dP SH)), ("table", .dat (.list (tabS.map .str))), ("paths", .dat (dP P)), ("marked", .dat (.str (pa m)))]) (ts_or ((ts_cmp (op_ne (fSH.sh (by decide)) (fSH.sh (by decide))) (ev_name mA) ((ev_bin (op_addL (ds := P.map fun l => .str (pa (shd [l, m]))) (es := [.str (pa (shd P))]) (by simp; omega)) ((ev_comp (ρc := [("marked", .dat (.str (pa m)))]) (bs := fun _ => true) (fs := fun k => .str (pa (shd [P.getD k [], m]))) (it_of (ev_name mC) (.list _)) (fun i d hd => tests_nil) (fun i d hd hb => ?_) (al (sb mD rfl (by decide) (by decide)) a0) (al (nq (by decide)) a0) (by rw [List.length_map]; omega)).as ?_) (ev_list (ds := [.str (pa (shd P))]) (all_cons (ev_call (f_shared (n := n + 1) T hne hP (by omega)) (T.keep 15 _ _ rfl (by decide)) (ev_g T 15 rfl rfl rfl) (all_cons (ev_name mC) all_nil)) all_nil) (Nat.le_of_ble_eq_true rfl))).as ?_) rfl).as hsame) (ts_or ((ts_cmp (op_ne (d₁ := .str (tx [47])) (d₂ := .str sl) ((fine_str (by decide)).sh (by decide)) ((fine_str (by decide)).sh (by decide))) (ev_call (f_dir (n := n) (a := []) (b := cod r) (r := [47]) T (cod_free r) (by have := cod_len r; simp; omega) a0 (.inl ⟨rfl, rfl⟩)) (T.keep 5 _ _ rfl (by decide)) (ev_g T 5 rfl rfl rfl) (all_cons ((ev_idxLast (d := .str (pa (shd P))) (ev_name mA) ev_neg ?_ (fun _ _ _ => rfl)).as ?_) all_nil)) ev_str rfl).as rfl) ts_or0)) nofun fun _ => blk_nil) ?_
  · obtain ⟨rfl, hmem, hi⟩ := map_get (d0 := []) hd
    exact ev_call (f_shared (n := n + 1) T (hsz i hi).1 (hsz i hi).2.2 (by have := (hsz i hi).2.1; omega)) (T.keep 15 _ _ rfl (by decide)) (ev_g T 15 rfl rfl rfl) (all_cons (ev_list (ds := [.str (pa (P.getD i [])), .str (pa m)]) (all_cons (ev_name mA) (all_cons (ev_name mB) all_nil)) (Nat.le_of_ble_eq_true rfl)) all_nil)
  · rw [List.length_map, outs_all (F := fun l => .str (pa (shd [l, m])))]
  · rw [← hSH, dP, List.map_append, List.map_map]; rfl
  · rw [List.length_map, hSl, List.getElem?_map, ← hSH]; simp
  · rw [hr]; rfl
  refine blk_cons (stm_asgC (lv := .dat (dL (inner P m))) (ρ' := [("shared", .dat (dP SH)), ("table", .dat (.list (tabS.map .str))), ("paths", .dat (dP P)), ("marked", .dat (.str (pa m)))]) ((ev_comp (ρc := [("shared", .dat (dP SH)), ("paths", .dat (dP P))]) (bs := fun i => decide (shd [P.getD i [], m] = P.getD i [])) (fs := fun i => dN i) (it_rlen T mC (by simp; omega) rfl rfl rfl rfl) (fun i d hd => ?_) (fun i d hd hb => ?_) (al (sb mA rfl (by decide) (by decide)) (al (sb mC rfl (by decide) (by decide)) a0)) (al (nq (by decide)) (al (nq (by decide)) a0)) (by rw [upI_len]; simp; omega)).as ?_) (by decide) rfl (fun p hp => hp) rfl (fun env h => sw_cell h rfl)) ?_
  · obtain ⟨hi, rfl⟩ := up0 hd
    rw [List.length_map] at hi
    have h1 := hcl i hi
    have e1 : (SH.map fun l => PyData.str (pa l))[i]? = some (.str (pa (shd [P.getD i [], m]))) := by
      rw [← hSH, List.map_append, List.getElem?_append_left (by simp; exact hi), List.map_map, List.getElem?_map, List.getElem?_eq_getElem hi, List.getD, List.getElem?_eq_getElem hi]; rfl
    have e2 : (P.map fun l => PyData.str (pa l))[i]? = some (.str (pa (P.getD i []))) := by
      rw [List.getElem?_map, List.getElem?_eq_getElem hi, List.getD, List.getElem?_eq_getElem hi]; rfl
    exact tests_one ((ts_cmp (op_eq ((fine_pa _).sh (by decide)) ((fine_pa _).sh (by decide))) (ev_idx (k := (i : Int)) (ev_name mB) (ev_name mA) (by omega) (by omega) e1 (fun _ _ _ => rfl)) (ev_idx (k := (i : Int)) (ev_name mC) (ev_name mA) (by omega) (by omega) e2 (fun _ _ _ => rfl)) rfl).as (eqv_pa (fun x hx => h1.2.2 x (shd_mem hx)) h1.2.2))
  · obtain ⟨hi, rfl⟩ := up0 hd
    exact ev_name mA
  · rw [outs_eq, upI_len, List.length_map]; rfl
  have hml := pj_len m
  refine blk_cons (stm_asg (lv := .dat (dR m)) (ρ' := [("inner", .dat (dL (inner P m))), ("table", .dat (.list (tabS.map .str))), ("paths", .dat (dP P))]) (EvD.as (ev_methS (P := isD _) PySem.F.slot_str_split PySem.F.type_str_split (ev_sliceStr (z := tx (jnL (m.map cod))) (ev_name mE) (part_some (k := ((1 : Nat) : Int)) ev_int) part_none (fun t t₁ t₂ => slice_from (l := pj m) (k := 1) (by simp [pj]) (by have := hm.2.1; omega) t t₁) (fun _ _ => rfl)) (b_split (y := sl) rfl (by rw [tx_len]; have := jn_len m; have := hm.2.1; omega) (by rw [split_jn hm.1, List.length_map]; have := hm.2.1; omega)) (all_cons ev_str all_nil) (fun _ => rfl) (fun _ => rfl) (fun _ => rfl)) (by rw [split_jn hm.1, List.map_map]; rfl)) (by decide) rfl (al mA (al mC (al mD a0))) rfl (fun _ => rfl)) ?_
  have hinl : (inner P m).length ≤ 7 := by unfold inner; refine Nat.le_trans (List.length_filter_le _ _) ?_; rw [List.length_range]; exact hPl
  have hR1 : ∀ i, i < P.length → readOne P m i < 7 := fun i hi => by
    unfold readOne
    split
    · rename_i hmem
      have hj := List.idxOf_lt_length_of_mem hmem
      rw [List.getD, List.getElem?_eq_getElem (by omega)]
      exact hm.2.2 _ (List.getElem_mem _)
    · rename_i hmem
      have := hout i hi hmem
      unfold upper
      rw [List.getD, List.getElem?_eq_getElem (by omega)]
      exact (hcl i hi).2.2 _ (List.getElem_mem _)
  have hR7 : ∀ x ∈ readL P m, x < 7 := fun x hx => by
    obtain ⟨i, hi, rfl⟩ := List.mem_map.mp hx
    exact hR1 i (List.mem_range.mp hi)
  have hRl : (readL P m).length = P.length := by unfold readL; simp
  refine blk_cons (stm_comp (ρ' := [("table", .dat (.list (tabS.map .str)))]) (ρc := [("way", .dat (dR m)), ("inner", .dat (dL (inner P m))), ("paths", .dat (dP P))]) (bs := fun _ => true) (fs := fun i => .str (nmS (readOne P m i))) (it_rlen T mD (by simp; omega) rfl rfl rfl rfl) (fun i d hd => tests_nil) (fun i d hd hb => ?_) (al (sb mA rfl (by decide) (by decide)) (al (sb mB rfl (by decide) (by decide)) (al (sb mD rfl (by decide) (by decide)) a0))) (al (nq (by decide)) (al (nq (by decide)) (al (nq (by decide)) a0))) (by rw [upI_len]; simp; omega) (al mC a0) (al (nq (by decide)) a0) (fun env h => sw_local h rfl rfl rfl rfl)) ?_
  · obtain ⟨hi, rfl⟩ := up0 hd
    rw [List.length_map] at hi
    refine ev_if (lv := .dat (.str (nmS (readOne P m i)))) (ts_inN (ev_name mA) (ev_name mC) rfl) (fun h => ?_) fun h => ?_
    · have hmem : i ∈ inner P m := by simpa using h
      have hj := List.idxOf_lt_length_of_mem hmem
      refine ev_idx (k := (((inner P m).idxOf i : Nat) : Int)) (ev_name mB) (ev_methL PySem.F.slot_list_index PySem.F.type_list_index (ev_name mC) (b_indexN hmem (by omega)) (all_cons (ev_name mA) all_nil) (fun _ => rfl) (fun _ => rfl) (fun _ => rfl)) (by omega) (by omega) ?_ (fun _ _ _ => rfl)
      rw [List.getElem?_map, Int.toNat_natCast, List.getElem?_eq_getElem (by omega)]
      unfold readOne
      rw [if_pos hmem, List.getD, List.getElem?_eq_getElem (by omega)]; rfl
    · have hmem : i ∉ inner P m := by simpa using h
      have h2 := hout i hi hmem
      have h1 := hcl i hi
      have e2 : (P.map fun l => PyData.str (pa l))[i]? = some (.str (pa (P.getD i []))) := by
        rw [List.getElem?_map, List.getElem?_eq_getElem hi, List.getD, List.getElem?_eq_getElem hi]; rfl
      have hro : readOne P m i = upper (P.getD i []) := by unfold readOne; rw [if_neg hmem]
      rw [hro]
      generalize P.getD i [] = l at h2 h1 e2
      have hll := pj_len l
      obtain ⟨q, u, v, rfl⟩ : ∃ q u v, l = q ++ [u] ++ [v] := by
        have n1 : l ≠ [] := h1.1
        have n2 : l.dropLast ≠ [] := fun q => by have := congrArg List.length q; simp at this; omega
        exact ⟨l.dropLast.dropLast, l.dropLast.getLast n2, l.getLast n1, by rw [List.dropLast_concat_getLast, List.dropLast_concat_getLast]⟩
      have hup : upper (q ++ [u] ++ [v]) = u := by unfold upper; simp [List.getD]
      rw [hup]
      obtain ⟨pre, hpre⟩ : ∃ pre, (if q = [] then [] else pj q) = pre := ⟨_, rfl⟩
      have eu : pj (q ++ [u]) = pre ++ 47 :: cod u := by rw [pj_snoc, hpre]
      have ev : pj (q ++ [u] ++ [v]) = pj (q ++ [u]) ++ 47 :: cod v := by rw [pj_snoc, if_neg (by simp)]
      have hlen := h1.2.1
      have hlu := pj_len (q ++ [u])
      have hcv := cod_len v
      obtain ⟨c, hc1, hc2⟩ := pj_last (q ++ [u]) (by simp)
      have hql : (q ++ [u]).length ≤ 50 := by simp at hlen ⊢; omega
      exact ev_call (f_base (n := n) (a := pre) (b := cod u) T (cod_free u) (by rw [← eu]; omega)) (T.keep 4 _ _ rfl (by decide)) (ev_g T 4 rfl rfl rfl) (all_cons (EvD.as (ev_call (f_dir (n := n) (a := pj (q ++ [u])) (b := cod v) (r := pj (q ++ [u])) T (cod_free v) (by simp only [List.length_append, List.length_cons] at hlu hql ⊢; omega) (pj_lt _) (.inr ⟨c, hc1, hc2, rfl⟩)) (T.keep 5 _ _ rfl (by decide)) (ev_g T 5 rfl rfl rfl) (all_cons ((ev_idx (k := (i : Int)) (ev_name mD) (ev_name mA) (by omega) (by omega) e2 (fun _ _ _ => rfl)).as (by rw [← ev])) all_nil)) (by rw [eu])) all_nil)
  rw [upI_len, List.length_map]
  have e : outs (fun _ => true) (fun i => PyData.str (nmS (readOne P m i))) P.length = (readL P m).map fun i => .str (nmS i) := by
    rw [outs_eq, List.filter_eq_self.mpr fun _ _ => rfl]; unfold readL; rw [List.map_map]; rfl
  rw [e]
  have hno : ∀ fs k, outs (fun _ => false) fs k = [] := fun fs k => by rw [outs_eq, List.filter_eq_nil_iff.mpr (fun _ _ => Bool.false_ne_true)]; rfl
  have ix : ∀ x, x < 7 → tabS[x]? = some (nmS x) ∧ ∀ k, k < x → tabS[k]? ≠ some (nmS x) := by decide
  refine blk_one (stm_retD (ev_if (bb := true) ((ts_cmp (op_eq (d₁ := .list []) (d₂ := .list []) rfl rfl) ((ev_comp (ρc := [("table", .dat (.list (tabS.map .str)))]) (bs := fun _ => false) (fs := fun _ => .none) (it_of (ev_name mA) (.list _)) (fun j d hd => ?_) (fun j d hd hb => nomatch hb) (al (sb mB rfl (by decide) (by decide)) a0) (al (nq (by decide)) a0) (by rw [List.length_map, hRl]; omega)).as (by rw [hno])) (ev_list (ds := []) all_nil (Nat.zero_le _)) rfl).as rfl) (fun _ => (ev_comp (ρc := [("table", .dat (.list (tabS.map .str)))]) (bs := fun _ => true) (fs := fun k => dN ((readL P m).getD k 0)) (it_of (ev_name mA) (.list _)) (fun j d hd => tests_nil) (fun j d hd hb => ?_) (al (sb mB rfl (by decide) (by decide)) a0) (al (nq (by decide)) a0) (by rw [List.length_map, hRl]; omega)).as (by rw [List.length_map, outs_all (F := dN)])) nofun))
  · obtain ⟨rfl, hx, _⟩ := map_get (d0 := 0) hd
    exact tests_one ((ts_cmp (op_nin (by rw [tab_eq]; exact (fine_all (k := 0) fun d hd => by obtain ⟨i, _, rfl⟩ := List.mem_map.mp hd; exact fine_str (cod_lt i)).1) (by simp only [PyData.canLay0]; exact ok_str (cod_lt _)) rfl) (ev_name mA) (ev_name mB) rfl).as (by rw [tab_eq, any_nm (hR7 _ hx) (fun i hi => List.mem_range.mp hi)]; simpa using hR7 _ hx))
  · obtain ⟨rfl, hx, _⟩ := map_get (d0 := 0) hd
    obtain ⟨i1, i2⟩ := ix _ (hR7 _ hx)
    exact ev_methL PySem.F.slot_list_index PySem.F.type_list_index (ev_name mB) (b_indexS i1 i2 (by decide)) (all_cons (ev_name mA) all_nil) (fun _ => rfl) (fun _ => rfl) (fun _ => rfl)
end Mine
end

noncomputable section
open AutoSeq1 (wpAny_loadPart')
namespace Mine
theorem nm_lt : ∀ i, i < 7 → ∀ j, j < 7 → decide ((nmS i).cps.toList < (nmS j).cps.toList) = decide (i < j) := by decide
noncomputable def RowOf (vs : List Value) (x : List Nat) : Prop := vs.length = x.length ∧ ∀ (k : Nat) (i : Nat), x[k]? = some i → ∃ t : Tok, vs[k]? = some (Value.str (nmS i) t)
theorem rowOf {X : List Addr} {h : Heap} {vs : List Value} {x : List Nat} (r : RepAll X h vs (x.map fun i => PyData.str (nmS i))) : RowOf vs x :=
  ⟨by rw [r.length, List.length_map], fun k i e => by
    obtain ⟨v, hv, rv⟩ := r.get (k := k) (d := .str (nmS i)) (by rw [List.getElem?_map, e]; rfl)
    obtain ⟨t, rfl⟩ := Rep.inv_str rv
    exact ⟨t, hv⟩⟩
theorem ord_lt_loop (l b : Addr) (vs us : List Value) (n n2 : Nat) (x y : List Nat) (hv : RowOf vs x) (hu : RowOf us y) (hx : ∀ i ∈ x, i < 7) (hy : ∀ i ∈ y, i < 7) :
    ∀ (p q : List Nat) (k : Nat), x.drop k = p → y.drop k = q → k ≤ x.length → k ≤ y.length → Meets (Builtin.«list.__eq__.loop» ⟨[.ref l, .ref b, rawInt k, rawInt 0], []⟩)
      (fun _ R s => s.heap.get? l = some (listO vs n) ∧ s.heap.get? b = some (listO us n2) ∧ R (.ok (.ret (.bool (ltI p q)))) s) := by
  intro p
  induction p with
  | nil =>
    intro q k hp hq hkx hky prog w A R s h
    obtain ⟨hp', g, d, tk, os⟩ := s; obtain ⟨hl, hb, h⟩ := h
    have ex : x.length = k := by have := congrArg List.length hp; simp at this; omega
    have ey : y.length = k + q.length := by have := congrArg List.length hq; simp at this; omega
    wp_walk using wpAny_loadPart' hl, wpAny_loadPart' hb
    have hi1 : vs.toArray[((k : Nat) : Int).toNat]? = none := by simp; have := hv.1; omega
    rw [hi1]
    wp_walk using wpAny_loadPart' hl, wpAny_loadPart' hb
    show R (.ok (.ret (.bool (decide (vs.toArray.size < us.toArray.size))))) _
    rw [show decide (vs.toArray.size < us.toArray.size) = ltI [] q from ?_]
    · exact h
    · rw [List.size_toArray, List.size_toArray, hv.1, hu.1, ex, ey]
      cases q <;> simp [ltI]
  | cons i p ih =>
    intro q k hp hq hkx hky prog w A R s h
    obtain ⟨hp', g, d, tk, os⟩ := s; obtain ⟨hl, hb, h⟩ := h
    obtain ⟨e1, e2⟩ := get_drop0 hp
    obtain ⟨t, hvk⟩ := hv.2 k i e1
    have hkl := (List.getElem?_eq_some_iff.mp e1).1
    have hi1 : vs.toArray[((k : Nat) : Int).toNat]? = some (.str (nmS i) t) := by simpa using hvk
    cases q with
    | nil =>
      have ey : y.length = k := by have := congrArg List.length hq; simp at this; omega
      wp_walk using wpAny_loadPart' hl, wpAny_loadPart' hb
      have hi2 : us.toArray[((k : Nat) : Int).toNat]? = none := by simp; have := hu.1; omega
      rw [hi1, hi2]
      wp_walk using wpAny_loadPart' hl, wpAny_loadPart' hb
      show R (.ok (.ret (.bool (decide (vs.toArray.size < us.toArray.size))))) _
      rw [show decide (vs.toArray.size < us.toArray.size) = ltI (i :: p) [] from ?_]
      · exact h
      · rw [List.size_toArray, List.size_toArray, hv.1, hu.1, ey]
        simp [ltI]; omega
    | cons j q =>
      obtain ⟨e3, e4⟩ := get_drop0 hq
      obtain ⟨u, huk⟩ := hu.2 k j e3
      have hkl2 := (List.getElem?_eq_some_iff.mp e3).1
      have hi7 := hx i (List.mem_of_getElem? e1)
      have hj7 := hy j (List.mem_of_getElem? e3)
      have hi2 : us.toArray[((k : Nat) : Int).toNat]? = some (.str (nmS j) u) := by simpa using huk
      have hc : ((k : Int) + 1) = ((k + 1 : Nat) : Int) := by push_cast; rfl
      wp_walk using wpAny_loadPart' hl, wpAny_loadPart' hb
      rw [hi1, hi2]
      refine wpAny_bind (SeqAt.EqAt.str_str (nmS i) t (nmS j) u prog w _ _ ?_)
      by_cases hij : i = j
      · subst hij
        rw [beq_self_eq_true]
        wp_walk
        rw [hc]
        exact ⟨plainId_quiet MeetsSeq3.plain_eq_loop _, codeAny_builtin MeetsSeq3.entry_eq_loop (by
          rw [Around.under_plainId MeetsSeq3.plain_eq_loop _]
          exact ih q (k + 1) e2 e4 hkl hkl2 prog w A R _ ⟨hl, hb, by simpa [ltI] using h⟩)⟩
      · have hne : (nmS i == nmS j) = false := beq_false_of_ne fun e => hij (cod_inj i hi7 j hj7 (by simpa using congrArg (fun x : Str => x.cps.toList) e))
        rw [hne]
        wp_walk using wpAny_loadPart' hl, wpAny_loadPart' hb
        rw [hi1, hi2]
        refine wpAny_bind (richCompare_gives (T := "str") (op := .Lt) (typeIs_str _ _ _) (typeIs_str _ _ _) F.slot_str_lt F.entry_str_lt (F.args_str_lt_2 _ _) (gives_str_lt (nmS i) (nmS j) t u) (fun e => nomatch e) ?_)
        refine wpAny_pure ?_
        show R (.ok (.ret (.bool (decide ((nmS i).cps.toList < (nmS j).cps.toList))))) _
        rw [show decide ((nmS i).cps.toList < (nmS j).cps.toList) = ltI (i :: p) (j :: q) from ?_]
        · exact h
        · rw [nm_lt i hi7 j hj7]; simp [ltI, hij, hij]
theorem ordr_lt {g : Gl} {A : Around} {E : Value → Shared → Prop} {s : Shared} {X : List Addr} {a b : Value} {x y : List Nat} {Q : Value → Shared → Prop} (hu : A.units + 64 < cLine) (ha : Rep X s.heap a (dR x)) (hb : Rep X s.heap b (dR y)) (hx : ∀ i ∈ x, i < 7) (hy : ∀ i ∈ y, i < 7)
    (h : Q (.bool (ltI x y)) s) : wpAny g.M A (richCompare .Lt a b) Q E s := by
  obtain ⟨l, vs, n, rfl, _, hl, hv⟩ := Rep.inv_list ha
  obtain ⟨c, us, m, rfl, _, hc, hw⟩ := Rep.inv_list hb
  have M : Meets (Builtin.«list.__lt__» ⟨[.ref l, .ref c], []⟩) (fun _ R s => s.heap.get? l = some (listO vs n) ∧ s.heap.get? c = some (listO us m) ∧ R (.ok (.ret (.bool (ltI x y)))) s) := by
    intro prog w A R s h
    obtain ⟨hp, g, d, tk, os⟩ := s; obtain ⟨hl, hb, h⟩ := h
    have f3 := AutoSeq1.sub_list_list
    wp_walk using wpAny_loadPart' hl, wpAny_loadPart' hb
    exact ⟨plainId_quiet MeetsSeq3.plain_eq_loop _, codeAny_builtin MeetsSeq3.entry_eq_loop (by
      rw [Around.under_plainId MeetsSeq3.plain_eq_loop _]
      exact ord_lt_loop l c vs us n m x y (rowOf hv) (rowOf hw) hx hy x y 0 rfl rfl (Nat.zero_le _) (Nat.zero_le _) prog w A R _ ⟨hl, hb, h⟩)⟩
  exact richCompare_meets_room (T := "list") ⟨_, hl, rfl⟩ ⟨_, hc, rfl⟩ F.slot_list_lt F.entry_list_lt (F.args_list_lt_2 _ _) M ⟨hl, hc, ⟨fun e => (nomatch e), h⟩⟩ (by omega)
theorem ord_gt_loop (l b : Addr) (vs us : List Value) (n n2 : Nat) (x y : List Nat) (hv : RowOf vs x) (hu : RowOf us y) (hx : ∀ i ∈ x, i < 7) (hy : ∀ i ∈ y, i < 7) :
    ∀ (p q : List Nat) (k : Nat), x.drop k = p → y.drop k = q → k ≤ x.length → k ≤ y.length → Meets (Builtin.«list.__eq__.loop» ⟨[.ref l, .ref b, rawInt k, rawInt 4], []⟩)
      (fun _ R s => s.heap.get? l = some (listO vs n) ∧ s.heap.get? b = some (listO us n2) ∧ R (.ok (.ret (.bool (ltI q p)))) s) := by
  intro p
  induction p with
  | nil =>
    intro q k hp hq hkx hky prog w A R s h
    obtain ⟨hp', g, d, tk, os⟩ := s; obtain ⟨hl, hb, h⟩ := h
    have ex : x.length = k := by have := congrArg List.length hp; simp at this; omega
    have ey : y.length = k + q.length := by have := congrArg List.length hq; simp at this; omega
    wp_walk using wpAny_loadPart' hl, wpAny_loadPart' hb
    have hi1 : vs.toArray[((k : Nat) : Int).toNat]? = none := by simp; have := hv.1; omega
    rw [hi1]
    wp_walk using wpAny_loadPart' hl, wpAny_loadPart' hb
    show R (.ok (.ret (.bool (decide (vs.toArray.size > us.toArray.size))))) _
    rw [show decide (vs.toArray.size > us.toArray.size) = ltI q [] from ?_]
    · exact h
    · rw [List.size_toArray, List.size_toArray, hv.1, hu.1, ex, ey]
      cases q <;> simp [ltI]
  | cons i p ih =>
    intro q k hp hq hkx hky prog w A R s h
    obtain ⟨hp', g, d, tk, os⟩ := s; obtain ⟨hl, hb, h⟩ := h
    obtain ⟨e1, e2⟩ := get_drop0 hp
    obtain ⟨t, hvk⟩ := hv.2 k i e1
    have hkl := (List.getElem?_eq_some_iff.mp e1).1
    have hi1 : vs.toArray[((k : Nat) : Int).toNat]? = some (.str (nmS i) t) := by simpa using hvk
    cases q with
    | nil =>
      have ey : y.length = k := by have := congrArg List.length hq; simp at this; omega
      wp_walk using wpAny_loadPart' hl, wpAny_loadPart' hb
      have hi2 : us.toArray[((k : Nat) : Int).toNat]? = none := by simp; have := hu.1; omega
      rw [hi1, hi2]
      wp_walk using wpAny_loadPart' hl, wpAny_loadPart' hb
      show R (.ok (.ret (.bool (decide (vs.toArray.size > us.toArray.size))))) _
      rw [show decide (vs.toArray.size > us.toArray.size) = ltI [] (i :: p) from ?_]
      · exact h
      · rw [List.size_toArray, List.size_toArray, hv.1, hu.1, ey]
        simp [ltI]; omega
    | cons j q =>
      obtain ⟨e3, e4⟩ := get_drop0 hq
      obtain ⟨u, huk⟩ := hu.2 k j e3
      have hkl2 := (List.getElem?_eq_some_iff.mp e3).1
      have hi7 := hx i (List.mem_of_getElem? e1)
      have hj7 := hy j (List.mem_of_getElem? e3)
      have hi2 : us.toArray[((k : Nat) : Int).toNat]? = some (.str (nmS j) u) := by simpa using huk
      have hc : ((k : Int) + 1) = ((k + 1 : Nat) : Int) := by push_cast; rfl
      wp_walk using wpAny_loadPart' hl, wpAny_loadPart' hb
      rw [hi1, hi2]
      refine wpAny_bind (SeqAt.EqAt.str_str (nmS i) t (nmS j) u prog w _ _ ?_)
      by_cases hij : i = j
      · subst hij
        rw [beq_self_eq_true]
        wp_walk
        rw [hc]
        exact ⟨plainId_quiet MeetsSeq3.plain_eq_loop _, codeAny_builtin MeetsSeq3.entry_eq_loop (by
          rw [Around.under_plainId MeetsSeq3.plain_eq_loop _]
          exact ih q (k + 1) e2 e4 hkl hkl2 prog w A R _ ⟨hl, hb, by simpa [ltI] using h⟩)⟩
      · have hne : (nmS i == nmS j) = false := beq_false_of_ne fun e => hij (cod_inj i hi7 j hj7 (by simpa using congrArg (fun x : Str => x.cps.toList) e))
        rw [hne]
        wp_walk using wpAny_loadPart' hl, wpAny_loadPart' hb
        rw [hi1, hi2]
        refine wpAny_bind (richCompare_gives (T := "str") (op := .Gt) (typeIs_str _ _ _) (typeIs_str _ _ _) F.slot_str_gt F.entry_str_gt (F.args_str_gt_2 _ _) (gives_str_gt (nmS i) (nmS j) t u) (fun e => nomatch e) ?_)
        refine wpAny_pure ?_
        show R (.ok (.ret (.bool (decide ((nmS j).cps.toList < (nmS i).cps.toList))))) _
        rw [show decide ((nmS j).cps.toList < (nmS i).cps.toList) = ltI (j :: q) (i :: p) from ?_]
        · exact h
        · rw [nm_lt j hj7 i hi7]; simp [ltI, hij, Ne.symm hij]
theorem ordr_gt {g : Gl} {A : Around} {E : Value → Shared → Prop} {s : Shared} {X : List Addr} {a b : Value} {x y : List Nat} {Q : Value → Shared → Prop} (hu : A.units + 64 < cLine) (ha : Rep X s.heap a (dR x)) (hb : Rep X s.heap b (dR y)) (hx : ∀ i ∈ x, i < 7) (hy : ∀ i ∈ y, i < 7)
    (h : Q (.bool (ltI y x)) s) : wpAny g.M A (richCompare .Gt a b) Q E s := by
  obtain ⟨l, vs, n, rfl, _, hl, hv⟩ := Rep.inv_list ha
  obtain ⟨c, us, m, rfl, _, hc, hw⟩ := Rep.inv_list hb
  have M : Meets (Builtin.«list.__gt__» ⟨[.ref l, .ref c], []⟩) (fun _ R s => s.heap.get? l = some (listO vs n) ∧ s.heap.get? c = some (listO us m) ∧ R (.ok (.ret (.bool (ltI y x)))) s) := by
    intro prog w A R s h
    obtain ⟨hp, g, d, tk, os⟩ := s; obtain ⟨hl, hb, h⟩ := h
    have f3 := AutoSeq1.sub_list_list
    wp_walk using wpAny_loadPart' hl, wpAny_loadPart' hb
    exact ⟨plainId_quiet MeetsSeq3.plain_eq_loop _, codeAny_builtin MeetsSeq3.entry_eq_loop (by
      rw [Around.under_plainId MeetsSeq3.plain_eq_loop _]
      exact ord_gt_loop l c vs us n m x y (rowOf hv) (rowOf hw) hx hy x y 0 rfl rfl (Nat.zero_le _) (Nat.zero_le _) prog w A R _ ⟨hl, hb, h⟩)⟩
  exact richCompare_meets_room (T := "list") ⟨_, hl, rfl⟩ ⟨_, hc, rfl⟩ F.slot_list_gt F.entry_list_gt (F.args_list_gt_2 _ _) M ⟨hl, hc, ⟨fun e => (nomatch e), h⟩⟩ (by omega)
end Mine
end

noncomputable section
namespace Mine
section
variable {g : Gl} {n : Nat} {A : Around} {E : Value → Shared → Prop} {s s' : Shared} {X : List Addr} {I S l : Addr} {vs best : List Value} {m i : Nat} {ds : List PyData}
theorem max_loop {bt : Nat → Nat → Bool} (B : Bd (n + 2) A) (hc : CmpAt g (S :: I :: X) .Gt ds bt) (hlx : l ∉ S :: I :: X) (hSI : S ≠ I) (hfI : s.heap.get? I = none) (hfS : s.heap.get? S = none) {R : Result → Shared → Prop}
    (kk : ∀ v s'', Ex s s'' → vs[argBest bt (ds.length - 1)]? = some v → RepAll (S :: I :: X) s''.heap vs ds → R (.ok (.ret v)) s'') :
    ∀ (r j : Nat) (s' : Shared) (vb : Value), ds.length - (j + 1) = r → j + 1 ≤ ds.length → BestJ X s I S l vs m ds (j + 1) [vb, vb] s' → vs[argBest bt j]? = some vb → codeAny g.M A (.builtin "max.loop" ⟨[.ref I, .none, .ref S], []⟩) R s' := by
  have hname : (toString "max" ++ toString ".loop" : String) = "max.loop" := by decide
  intro r
  induction r with
  | zero =>
    intro j s' vb hr hj J hb
    have hlen := J.rv.length
    obtain ⟨c, hS⟩ := J.hS
    refine codeAny_builtin F.entry_max_loop ?_
    rw [Around.under_plainId F.plain_max_loop _]
    show wpAny _ A.in1 (seqItems? (.ref S) >>= _) _ _ s'
    refine wpAny_bind (wpAny_seqItems hS rfl ?_)
    show wpAny _ A.in1 (tryCatch (pyNext (.ref I)) _ >>= _) _ _ s'
    obtain ⟨oi, hoi, hci, hdi⟩ := id J.hi
    have hdu : Dull oi := fun us q => by
      refine ⟨by rw [hci]; exact nofun, ?_⟩
      rw [hdi] at q; cases q
      intro q t e; simp at e
    refine wpAny_bind (wpAny_tryCatch (wpAny_pyNext_list_end (A := A.in1) (items := vs.toArray) B.in1.hd J.hi ⟨_, J.hl, rfl, _, rfl⟩ (by simp; omega) fun h₁ hs => ?_))
    have u₁ : Up [I] s' { s' with heap := h₁, toks := s'.toks } := Up.but1 hs hoi hdu
    have hS₁ := hs S _ hSI hS
    show wpAny _ A.in1 (updateSeq S (fun _ => #[]) >>= _) _ _ _
    refine wpAny_bind (wpAny_updateSeq (s := { s' with heap := h₁ }) hS₁ rfl (wpAny_bind (wpAny_letGo (wpAny_pure ?_))))
    have hs₂ : Heap.ExtBut S h₁ (h₁.update S (Obj.mapSeq fun _ => #[])) := (Heap.SameBut.update ..).extBut
    have u₂ : Up [S] { s' with heap := h₁, toks := s'.toks } { s' with heap := h₁.update S (Obj.mapSeq fun _ => #[]), toks := s'.toks } := Up.but1 (s := { s' with heap := h₁ }) hs₂ hS₁ Dull.seq
    refine kk vb _ ((J.ex.from u₁ fun a ha => .inr (by rw [List.mem_singleton.mp ha]; exact hfI)).from u₂ fun a ha => .inr (by rw [List.mem_singleton.mp ha]; exact hfS)) (by rw [show ds.length - 1 = j by omega]; exact hb)
      (J.rv.to fun b ob hb e => ⟨hb, hs₂ b ob (fun q => hb (by rw [q]; exact .head _)) (hs b ob (fun q => hb (by rw [q]; exact .tail _ (.head _))) e)⟩)
  | succ r ih =>
    intro j s' vb hr hj J hb
    have hlen := J.rv.length
    have hlt : j + 1 < vs.length := by omega
    obtain ⟨c, hS⟩ := J.hS
    refine codeAny_builtin F.entry_max_loop ?_
    rw [Around.under_plainId F.plain_max_loop _]
    show wpAny _ A.in1 (seqItems? (.ref S) >>= _) _ _ s'
    refine wpAny_bind (wpAny_seqItems hS rfl ?_)
    show wpAny _ A.in1 (tryCatch (pyNext (.ref I)) _ >>= _) _ _ s'
    refine wpAny_bind (wpAny_tryCatch (J.next hlx hSI hfI (List.getElem?_eq_getElem hlt) fun s'' J' => ?_))
    obtain ⟨c', hS'⟩ := J'.hS
    obtain ⟨d, hd, rd⟩ := J'.rv.get' (List.getElem?_eq_getElem hlt)
    obtain ⟨d', hd', rd'⟩ := J'.rv.get' hb
    show wpAny _ A.in1 (tryCatch (holding [vs[j + 1], vs[j + 1]] (richCompare .Gt vs[j + 1] vb >>= _)) _ >>= _) _ _ _
    refine wpAny_bind (wpAny_tryCatch (wpAny_holding (wpAny_bind (hc _ _ _ _ _ _ d d' _ _ B.in1.units hd hd' rd rd' ?_))))
    refine wpAny_bind (wpAny_holding (wpAny_truthy_bool ?_))
    refine wpAny_bind (wpAny_letGo (wpAny_pure ?_))
    cases hbt : bt (j + 1) (argBest bt j) with
    | true =>
      simp only [if_true]
      refine wpAny_bind ?_
      refine wpAny_updateSeq hS' rfl (wpAny_bind (wpAny_letGo ?_))
      rw [hname]
      exact wpAny_pure ⟨plainId_quiet F.plain_max_loop _, ih (j + 1) _ vs[j + 1] (by omega) (by omega) (J'.put hlx hSI hfS (v := vb) (f := fun _ => #[vs[j + 1], vs[j + 1]]) rfl) (by simp only [argBest, hbt, if_true]; exact List.getElem?_eq_getElem hlt)⟩
    | false =>
      simp only [Bool.false_eq_true, if_false]
      refine wpAny_bind (wpAny_letGo ?_)
      rw [hname]
      exact wpAny_pure ⟨plainId_quiet F.plain_max_loop _, ih (j + 1) _ vb (by omega) (by omega) J' (by simp only [argBest, hbt, Bool.false_eq_true, if_false]; exact hb)⟩
theorem b_min {bt : Nat → Nat → Bool} (hc : ∀ Y, CmpAt g Y .Lt ds bt) {d : PyData} (hd : ds[argBest bt (ds.length - 1)]? = some d) : Does g (n + 3) (fun vs => call (.builtin "min") vs) [.dat (.list ds)] (isD d) := fun A X s vs E Q B hT ht hX hl hv k => by
  have hname : (toString "min" ++ toString ".loop" : String) = "min.loop" := by decide
  obtain ⟨v, rfl, h1⟩ := hv.i1
  obtain ⟨l, vs, m, rfl, hlX, hlo, hr⟩ := Rep.inv_list h1
  have hlen := hr.length
  have hpos : 0 < ds.length := by
    rcases Nat.eq_zero_or_pos ds.length with h | h
    · rw [List.length_eq_zero_iff.mp h] at hd; simp at hd
    · exact h
  refine call_function_tree F.kind_min F.plain_min F.entry_min (F.args_min1 _) ?_
  show wpAny _ A.in1 (Builtin.Builtins.bindParams "min" ["key", "default"] 0 ⟨[], []⟩ >>= _) _ _ s
  refine wpAny_bind (wpAny_of_eq (show Builtin.Builtins.bindParams "min" ["key", "default"] 0 ⟨[], []⟩ = pure [none, none] from rfl) ?_)
  refine wpAny_bind (wpAny_pure ?_)
  refine wpAny_bind (wpAny_pyIter_list (items := vs.toArray) ⟨_, hlo, rfl, _, rfl⟩ ?_)
  obtain ⟨I, hI⟩ : ∃ I : Nat, s.heap.objs.size = I := ⟨_, rfl⟩
  have z1 : (s.heap.push (itO l 0)).objs.size = I + 1 := by rw [Heap.size_push, hI]
  have z2 : ((s.heap.push (itO l 0)).push (listO [] 0)).objs.size = I + 2 := by rw [Heap.size_push, z1]
  have fr : ∀ a : Nat, I ≤ a → s.heap.get? a = none := fun a ha => by
    cases e : s.heap.get? a with
    | none => rfl
    | some o' => exact absurd (Heap.lt_size e) (Nat.not_lt.mpr (hI ▸ ha))
  have hlt : Nat.lt l I := hI ▸ Heap.lt_size hlo
  refine wpAny_bind (wpAny_newObj_type ?_)
  rw [hname, hI]
  have g0 : ((s.heap.push (itO l 0)).push (listO [] 0)).get? I = some (itO l 0) := by
    have := Heap.get?_push_size s.heap (o := itO l 0) rfl
    rw [hI] at this
    exact Heap.get?_push_of_some _ this
  have g1 : ((s.heap.push (itO l 0)).push (listO [] 0)).get? (I + 1) = some (listO [] 0) := by
    have := Heap.get?_push_size (s.heap.push (itO l 0)) (o := listO [] 0) rfl
    rw [z1] at this; exact this
  have old : ∀ b o, s.heap.get? b = some o → ((s.heap.push (itO l 0)).push (listO [] 0)).get? b = some o := fun b o e => Heap.get?_push_of_some _ (Heap.get?_push_of_some _ e)
  show wpAny _ _ (again (.builtin "min.loop" ⟨[.ref I, .none, .ref (s.heap.push (itO l 0)).objs.size], []⟩)) _ _ { s with heap := (s.heap.push (itO l 0)).push (listO [] 0) }
  rw [z1]
  generalize (s.heap.push (itO l 0)).push (listO [] 0) = H at g0 g1 old z2
  have hlm : l ∉ (I + 1) :: I :: X := fun q => (List.mem_cons.mp q).elim (fun e => Nat.lt_irrefl I (Nat.lt_of_le_of_lt (Nat.le_add_right I 1) (e ▸ hlt))) fun q => (List.mem_cons.mp q).elim (fun e => Nat.lt_irrefl I (e ▸ hlt)) hlX
  have more : ∀ a ∈ (I + 1) :: I :: X, a ∈ X ∨ s.heap.get? a = none := fun a ha => (List.mem_cons.mp ha).elim (fun e => .inr (fr a (by rw [e]; exact Nat.le_add_right I 1))) fun ha => (List.mem_cons.mp ha).elim (fun e => .inr (fr a (by rw [e]; exact Nat.le_refl I))) .inl
  have hne : I + 1 ≠ I := Nat.succ_ne_self I
  have J : BestJ X s I (I + 1) l vs m ds 0 [] { s with heap := H } := ⟨Up.heap (tk := s.toks) old, ⟨_, g0, rfl, rfl⟩, old _ _ hlo, ⟨_, g1⟩, (hr.more more).to fun b ob hb e => ⟨hb, old b ob e⟩⟩
  have hv0 : vs[0]? = some vs[0] := List.getElem?_eq_getElem (by omega)
  refine wpAny_pure ⟨plainId_quiet F.plain_min_loop _, codeAny_builtin F.entry_min_loop ?_⟩
  rw [Around.under_plainId F.plain_min_loop _]
  show wpAny _ _ (seqItems? (.ref (I + 1)) >>= _) _ _ _
  refine wpAny_bind (wpAny_seqItems g1 rfl ?_)
  show wpAny _ _ (tryCatch (pyNext (.ref I)) _ >>= _) _ _ _
  refine wpAny_bind (wpAny_tryCatch (J.next (g := g) hlm hne (fr I (Nat.le_refl I)) hv0 fun s'' J' => ?_))
  obtain ⟨c', hS'⟩ := J'.hS
  show wpAny _ _ (updateSeq (I + 1) (fun _ => #[vs[0], vs[0]]) >>= _) _ _ _
  refine wpAny_bind ?_
  refine wpAny_updateSeq hS' rfl ?_
  rw [hname]
  refine wpAny_pure ⟨plainId_quiet F.plain_min_loop _, min_loop (n := n) (B.less (by omega)) (hc _) hlm hne (fr I (Nat.le_refl I)) (fr (I + 1) (Nat.le_add_right I 1)) (fun v s₃ u hv hr₃ => ?_) (ds.length - 1) 0 _ vs[0] rfl hpos (J'.put hlm hne (fr (I + 1) (Nat.le_add_right I 1)) (v := vs[0]) rfl) hv0⟩
  obtain ⟨d', hd', rd⟩ := hr₃.get' hv
  rw [hd] at hd'; cases hd'
  exact k v s₃ u (rd.less fun a ha => .tail _ (.tail _ ha))
theorem b_max {bt : Nat → Nat → Bool} (hc : ∀ Y, CmpAt g Y .Gt ds bt) {d : PyData} (hd : ds[argBest bt (ds.length - 1)]? = some d) : Does g (n + 3) (fun vs => call (.builtin "max") vs) [.dat (.list ds)] (isD d) := fun A X s vs E Q B hT ht hX hl hv k => by
  have hname : (toString "max" ++ toString ".loop" : String) = "max.loop" := by decide
  obtain ⟨v, rfl, h1⟩ := hv.i1
  obtain ⟨l, vs, m, rfl, hlX, hlo, hr⟩ := Rep.inv_list h1
  have hlen := hr.length
  have hpos : 0 < ds.length := by
    rcases Nat.eq_zero_or_pos ds.length with h | h
    · rw [List.length_eq_zero_iff.mp h] at hd; simp at hd
    · exact h
  refine call_function_tree F.kind_max F.plain_max F.entry_max (F.args_max1 _) ?_
  show wpAny _ A.in1 (Builtin.Builtins.bindParams "max" ["key", "default"] 0 ⟨[], []⟩ >>= _) _ _ s
  refine wpAny_bind (wpAny_of_eq (show Builtin.Builtins.bindParams "max" ["key", "default"] 0 ⟨[], []⟩ = pure [none, none] from rfl) ?_)
  refine wpAny_bind (wpAny_pure ?_)
  refine wpAny_bind (wpAny_pyIter_list (items := vs.toArray) ⟨_, hlo, rfl, _, rfl⟩ ?_)
  obtain ⟨I, hI⟩ : ∃ I : Nat, s.heap.objs.size = I := ⟨_, rfl⟩
  have z1 : (s.heap.push (itO l 0)).objs.size = I + 1 := by rw [Heap.size_push, hI]
  have z2 : ((s.heap.push (itO l 0)).push (listO [] 0)).objs.size = I + 2 := by rw [Heap.size_push, z1]
  have fr : ∀ a : Nat, I ≤ a → s.heap.get? a = none := fun a ha => by
    cases e : s.heap.get? a with
    | none => rfl
    | some o' => exact absurd (Heap.lt_size e) (Nat.not_lt.mpr (hI ▸ ha))
  have hlt : Nat.lt l I := hI ▸ Heap.lt_size hlo
  refine wpAny_bind (wpAny_newObj_type ?_)
  rw [hname, hI]
  have g0 : ((s.heap.push (itO l 0)).push (listO [] 0)).get? I = some (itO l 0) := by
    have := Heap.get?_push_size s.heap (o := itO l 0) rfl
    rw [hI] at this
    exact Heap.get?_push_of_some _ this
  have g1 : ((s.heap.push (itO l 0)).push (listO [] 0)).get? (I + 1) = some (listO [] 0) := by
    have := Heap.get?_push_size (s.heap.push (itO l 0)) (o := listO [] 0) rfl
    rw [z1] at this; exact this
  have old : ∀ b o, s.heap.get? b = some o → ((s.heap.push (itO l 0)).push (listO [] 0)).get? b = some o := fun b o e => Heap.get?_push_of_some _ (Heap.get?_push_of_some _ e)
  show wpAny _ _ (again (.builtin "max.loop" ⟨[.ref I, .none, .ref (s.heap.push (itO l 0)).objs.size], []⟩)) _ _ { s with heap := (s.heap.push (itO l 0)).push (listO [] 0) }
  rw [z1]
  generalize (s.heap.push (itO l 0)).push (listO [] 0) = H at g0 g1 old z2
  have hlm : l ∉ (I + 1) :: I :: X := fun q => (List.mem_cons.mp q).elim (fun e => Nat.lt_irrefl I (Nat.lt_of_le_of_lt (Nat.le_add_right I 1) (e ▸ hlt))) fun q => (List.mem_cons.mp q).elim (fun e => Nat.lt_irrefl I (e ▸ hlt)) hlX
  have more : ∀ a ∈ (I + 1) :: I :: X, a ∈ X ∨ s.heap.get? a = none := fun a ha => (List.mem_cons.mp ha).elim (fun e => .inr (fr a (by rw [e]; exact Nat.le_add_right I 1))) fun ha => (List.mem_cons.mp ha).elim (fun e => .inr (fr a (by rw [e]; exact Nat.le_refl I))) .inl
  have hne : I + 1 ≠ I := Nat.succ_ne_self I
  have J : BestJ X s I (I + 1) l vs m ds 0 [] { s with heap := H } := ⟨Up.heap (tk := s.toks) old, ⟨_, g0, rfl, rfl⟩, old _ _ hlo, ⟨_, g1⟩, (hr.more more).to fun b ob hb e => ⟨hb, old b ob e⟩⟩
  have hv0 : vs[0]? = some vs[0] := List.getElem?_eq_getElem (by omega)
  refine wpAny_pure ⟨plainId_quiet F.plain_max_loop _, codeAny_builtin F.entry_max_loop ?_⟩
  rw [Around.under_plainId F.plain_max_loop _]
  show wpAny _ _ (seqItems? (.ref (I + 1)) >>= _) _ _ _
  refine wpAny_bind (wpAny_seqItems g1 rfl ?_)
  show wpAny _ _ (tryCatch (pyNext (.ref I)) _ >>= _) _ _ _
  refine wpAny_bind (wpAny_tryCatch (J.next (g := g) hlm hne (fr I (Nat.le_refl I)) hv0 fun s'' J' => ?_))
  obtain ⟨c', hS'⟩ := J'.hS
  show wpAny _ _ (updateSeq (I + 1) (fun _ => #[vs[0], vs[0]]) >>= _) _ _ _
  refine wpAny_bind ?_
  refine wpAny_updateSeq hS' rfl ?_
  rw [hname]
  refine wpAny_pure ⟨plainId_quiet F.plain_max_loop _, max_loop (n := n) (B.less (by omega)) (hc _) hlm hne (fr I (Nat.le_refl I)) (fr (I + 1) (Nat.le_add_right I 1)) (fun v s₃ u hv hr₃ => ?_) (ds.length - 1) 0 _ vs[0] rfl hpos (J'.put hlm hne (fr (I + 1) (Nat.le_add_right I 1)) (v := vs[0]) rfl) hv0⟩
  obtain ⟨d', hd', rd⟩ := hr₃.get' hv
  rw [hd] at hd'; cases hd'
  exact k v s₃ u (rd.less fun a ha => .tail _ (.tail _ ha))
end
end Mine
end

noncomputable section
namespace Mine
section
variable {g : Gl} {n : Nat} {sc : Scope} {ρ : List (Str × Lv)} {e o i : Expr} {pos : Pos} {ds : List PyData} {d : PyData}
theorem ts_tup (hz : ds.length ≤ 1000000) (h : EvD g n sc ρ e (.tuple ds)) (he : ∀ env whole, isTrue e env whole = (do let v ← whole; standAt e.pos; holding [v] (truthy v)) := by intro _ _; rfl) : Ts g n sc ρ e (ds.length != 0) :=
  ts_of h (fun A X s v E Q r k => by
    obtain ⟨a, vs, m, rfl, _, ho, hr⟩ := Rep.inv_tuple r
    have hlen := hr.length
    refine PyProof.Rows.truthy_tuple (items := vs.toArray) ⟨_, ho, rfl, _, rfl⟩ (by rw [List.size_toArray]; omega) ?_
    have := k _ (Up.tok (tk := s.toks + 1 + 1))
    rw [show (!vs.toArray.isEmpty) = (ds.length != 0) by
      rw [← hlen]; cases vs <;> rfl]
    exact this) he
theorem ev_idxT {k : Int} (ho : EvD g n sc ρ o (.tuple ds)) (hi : EvD g n sc ρ i (.int k)) (h0 : 0 ≤ k) (h1 : k < 2 ^ 63) (hd : ds[k.toNat]? = some d)
    (hs : ∀ l k u, subscripted i false (.ref l) (.int k u) = operate [.ref l, .int k u] (getItem (.ref l) (.int k u))) : EvD g n sc ρ (.Subscript o i pos) d := fun A env X s E Q ok kk =>
  Subscript_ (ho A env X s E _ ok fun a s₁ u₁ r₁ => hi A env X s₁ E _ (ok.up u₁) fun b s₂ u₂ r₂ => by
    obtain ⟨l, vs, m, rfl, ha, hl, hr⟩ := Rep.inv_tuple ((ok.up u₁).rep u₂ r₁)
    obtain ⟨t, rfl⟩ := Rep.inv_int r₂
    obtain ⟨v, hv, r⟩ := hr.get hd
    have hj : seqIndex? k vs.toArray.size = some k.toNat := by
      have hlt := (List.getElem?_eq_some_iff.mp hv).1
      have hn : ¬ k < 0 := by omega
      simp only [seqIndex?, if_neg hn]
      exact if_pos (by simp; omega)
    exact tail_any (T := "tuple") ⟨_, hl, rfl⟩ PyProof.Rows.slot_tuple_getitem.lookup (PyProof.Rows.getItem_tuple (items := vs.toArray) ⟨_, hl, rfl, _, rfl⟩ (by omega) h1 hj (by simpa using hv) (kk _ _ (u₁.trans u₂) r)) (hs _ _ _))
theorem stm_break : Stm g n sc ρ (.Break pos) (.brk ρ) := fun A env s₀ Z X₀ X s E Q F k => wpAny_Break (k X s F)
end
noncomputable abbrev btL (L : List (List Nat)) (i j : Nat) : Bool := ltI (L.getD i []) (L.getD j [])
noncomputable abbrev btG (L : List (List Nat)) (i j : Nat) : Bool := ltI (L.getD j []) (L.getD i [])
theorem best_le (bt : Nat → Nat → Bool) : ∀ k, argBest bt k ≤ k
  | 0 => Nat.le_refl _
  | k + 1 => by
    have := best_le bt k
    unfold argBest
    split <;> omega
theorem best_min {L : List (List Nat)} : ∀ (k j : Nat), j ≤ k → ltI (L.getD j []) (L.getD (argBest (btL L) k) []) = false
  | 0, j, h => by rw [Nat.le_zero.mp h]; exact ltI_self _
  | k + 1, j, h => by
    unfold argBest
    cases hb : btL L (k + 1) (argBest (btL L) k) with
    | true =>
      rw [if_pos rfl]
      rcases Nat.lt_or_ge j (k + 1) with h1 | h1
      · cases e : ltI (L.getD j []) (L.getD (k + 1) []) with
        | false => rfl
        | true => have := ltI_trans e hb; rw [best_min k j (by omega)] at this; cases this
      · rw [show j = k + 1 by omega]; exact ltI_self _
    | false =>
      rw [if_neg Bool.false_ne_true]
      rcases Nat.lt_or_ge j (k + 1) with h1 | h1
      · exact best_min k j (by omega)
      · rw [show j = k + 1 by omega]; exact hb
theorem best_max {L : List (List Nat)} : ∀ (k j : Nat), j ≤ k → ltI (L.getD (argBest (btG L) k) []) (L.getD j []) = false
  | 0, j, h => by rw [Nat.le_zero.mp h]; exact ltI_self _
  | k + 1, j, h => by
    unfold argBest
    cases hb : btG L (k + 1) (argBest (btG L) k) with
    | true =>
      rw [if_pos rfl]
      rcases Nat.lt_or_ge j (k + 1) with h1 | h1
      · cases e : ltI (L.getD (k + 1) []) (L.getD j []) with
        | false => rfl
        | true => have := ltI_trans hb e; rw [best_max k j (by omega)] at this; cases this
      · rw [show j = k + 1 by omega]; exact ltI_self _
    | false =>
      rw [if_neg Bool.false_ne_true]
      rcases Nat.lt_or_ge j (k + 1) with h1 | h1
      · exact best_max k j (by omega)
      · rw [show j = k + 1 by omega]; exact hb
section
variable {g : Gl} {L : List (List Nat)}
theorem cmp_min (hL : ∀ l ∈ L, ∀ i ∈ l, i < 7) (Y : List Addr) : CmpAt g Y .Lt (L.map dR) (btL L) := fun A s a b i j d d' E Q hu hi hj ra rb h => by
  obtain ⟨rfl, hm, _⟩ := map_get (d0 := []) hi
  obtain ⟨rfl, hm', _⟩ := map_get (d0 := []) hj
  exact ordr_lt hu ra rb (hL _ hm) (hL _ hm') h
theorem cmp_max (hL : ∀ l ∈ L, ∀ i ∈ l, i < 7) (Y : List Addr) : CmpAt g Y .Gt (L.map dR) (btG L) := fun A s a b i j d d' E Q hu hi hj ra rb h => by
  obtain ⟨rfl, hm, _⟩ := map_get (d0 := []) hi
  obtain ⟨rfl, hm', _⟩ := map_get (d0 := []) hj
  exact ordr_gt hu ra rb (hL _ hm) (hL _ hm') h
end
end Mine
end

noncomputable section
namespace Mine
variable {g : Gl} {n : Nat}
noncomputable abbrev dC (l : List Nat) : PyData := .list ((tx [] :: l.map nmS).map .str)
theorem f_common (T : TopF g) {L : List (List Nat)} (hne : L ≠ []) (hL : L.length ≤ 10) (hl : ∀ l ∈ L, Good l) : Does g (n + 9) (fun vs => call (.ref 134) vs) [.dat (dP L)] (isD (.str (pa (shd L)))) := by
  have h7 : ∀ l ∈ L, ∀ i ∈ l, i < 7 := fun l h => (hl l h).2.2
  have hpos : 0 < L.length := List.length_pos_iff.mpr hne
  obtain ⟨x, hx⟩ : ∃ x, L.getD (argBest (btL L) (L.length - 1)) [] = x := ⟨_, rfl⟩
  obtain ⟨y, hy⟩ : ∃ y, L.getD (argBest (btG L) (L.length - 1)) [] = y := ⟨_, rfl⟩
  have lx : argBest (btL L) (L.length - 1) < L.length := by have := best_le (btL L) (L.length - 1); omega
  have ly : argBest (btG L) (L.length - 1) < L.length := by have := best_le (btG L) (L.length - 1); omega
  have ex : L[argBest (btL L) (L.length - 1)]? = some x := by rw [← hx, List.getD, List.getElem?_eq_getElem lx]; rfl
  have ey : L[argBest (btG L) (L.length - 1)]? = some y := by rw [← hy, List.getD, List.getElem?_eq_getElem ly]; rfl
  have mx := List.mem_of_getElem? ex
  have my := List.mem_of_getElem? ey
  have inx : ∀ z ∈ L, ∃ j, j ≤ L.length - 1 ∧ L.getD j [] = z := fun z hz => by
    obtain ⟨j, hj⟩ := List.getElem?_of_mem hz
    have := (List.getElem?_eq_some_iff.mp hj).1
    exact ⟨j, by omega, by rw [List.getD, hj]; rfl⟩
  have hmin : ∀ z ∈ L, ltI z x = false := fun z hz => by obtain ⟨j, hj, rfl⟩ := inx z hz; rw [← hx]; exact best_min _ j hj
  have hmax : ∀ z ∈ L, ltI y z = false := fun z hz => by obtain ⟨j, hj, rfl⟩ := inx z hz; rw [← hy]; exact best_max _ j hj
  have hshd := shd_cpl mx my hmin hmax
  obtain ⟨K, hK⟩ : ∃ K, cpl x y = K := ⟨_, rfl⟩
  rw [hK] at hshd
  obtain ⟨Kx, Ky⟩ := cpl_le x y
  rw [hK] at Kx Ky
  have zx := (hl x mx).2.1
  have zy := (hl y my).2.1
  refine does_top (names := ["paths"]) T 5 rfl (fun fd vs hp hd hv => by obtain ⟨v, rfl⟩ := len1 hv; unfold bindArgs; rw [hp, hd]; rfl) (by decide) (by decide) rfl (by decide) rfl rfl rfl rfl (blkZ_of ?_)
  refine blk_cons (stm_asg (ρ' := []) (lv := .dat (.tuple (L.map fun l => .str (pa l)))) ((ev_tuple_map (n := n + 1) (G := id) (ds := L.map fun l => .str (pa l)) (fun d hd => ?_) (ev_b T 12 rfl rfl rfl) (ev_b T 13 rfl rfl rfl) (ev_g T 0 rfl rfl rfl) (ev_name mA) (by rw [List.length_map]; omega) (fun _ => rfl) (fun _ => rfl) (fun _ => rfl) (fun _ => rfl) (fun _ => rfl) (fun _ => rfl) (fun _ => rfl)).as (by rw [List.map_id])) (by decide) rfl a0 rfl (fun _ => rfl)) ?_
  · obtain ⟨l, _, rfl⟩ := List.mem_map.mp hd
    exact f_fspath T
  obtain ⟨l0, h0⟩ : ∃ l0, L[0]? = some l0 := ⟨_, List.getElem?_eq_getElem hpos⟩
  refine blk_cons (stm_if (b := false) (o := .next [("paths", .dat (.tuple (L.map fun l => .str (pa l))))]) ((ts_not (ts_tup (by rw [List.length_map]; omega) (ev_name mA))).as (by rw [List.length_map]; cases L with | nil => exact absurd rfl hne | cons a r => rfl)) nofun fun _ => blk_nil) ?_
  refine blk_cons (stm_if (b := false) (o := .next [("curdir", .dat (.str (tx [46]))), ("sep", .dat (.str sl)), ("paths", .dat (.tuple (L.map fun l => .str (pa l))))]) (ts_bool (ev_callB b_isi_str_bytes (ev_b T 4 rfl rfl rfl) (all_cons (ev_idxT (k := 0) (d := .str (pa l0)) (ev_name mA) ev_int (by decide) (by decide) (by rw [List.getElem?_map]; exact congrArg (Option.map _) h0) (fun _ _ _ => rfl)) (all_cons (ev_b T 3 rfl rfl rfl) all_nil)))) nofun fun _ =>
    blk_cons (stm_asg (lv := .dat (.str sl)) ev_str (by decide) rfl (fun p hp => hp) rfl (fun _ => rfl)) (blk_one (stm_asg (lv := .dat (.str (tx [46]))) ev_str (by decide) rfl (fun p hp => hp) rfl (fun _ => rfl)))) ?_
  refine blk_one (stm_try ?_)
  refine blk_cons (stm_comp (ρ' := [("curdir", .dat (.str (tx [46]))), ("sep", .dat (.str sl)), ("paths", .dat (.tuple (L.map fun l => .str (pa l))))]) (ρc := [("sep", .dat (.str sl))]) (bs := fun _ => true) (fs := fun k => dC (L.getD k [])) (it_of (ev_name mC) (.tup _)) (fun i d hd => tests_nil) (fun i d hd hb => ?_) (al (sb mB rfl (by decide) (by decide)) a0) (al (nq (by decide)) a0) (by rw [List.length_map]; omega) (al mA (al mB (al mC a0))) (al (nq (by decide)) (al (nq (by decide)) (al (nq (by decide)) a0))) (fun env h => sw_local h rfl rfl rfl rfl)) ?_
  · obtain ⟨rfl, hm, _⟩ := map_get (d0 := []) hd
    obtain ⟨h1, h2, h3⟩ := hl _ hm
    generalize L.getD i [] = l at h1 h2
    have hlen := pj_len l
    refine EvD.as (ev_methS (P := isD _) PySem.F.slot_str_split PySem.F.type_str_split (ev_name mA) (b_split (y := sl) rfl (by rw [tx_len]; omega) (by rw [split_pj h1, List.length_cons, List.length_map]; omega)) (all_cons (ev_name mB) all_nil) (fun _ => rfl) (fun _ => rfl) (fun _ => rfl)) ?_
    rw [split_pj h1]
  rw [List.length_map, outs_all (F := dC)]
  refine blk_cons (stm_try (blk_one (stm_setTrue (x := "isabs") (ds := L.map fun l => .str (pa l)) (ρ' := [("split_paths", .dat (.list (L.map dC))), ("curdir", .dat (.str (tx [46]))), ("sep", .dat (.str sl)), ("paths", .dat (.tuple (L.map fun l => .str (pa l))))]) (ρc := [("sep", .dat (.str sl))]) (it_of (ev_name mD) (.tup _)) (by cases L with | nil => exact absurd rfl hne | cons a r => exact nofun) (fun i d hd => ?_) (al (sb mC rfl (by decide) (by decide)) a0) (al (nq (by decide)) a0) (by decide) rfl (fun p hp => hp) rfl (by decide) (by decide) (by decide) (by decide) (fun _ _ => rfl) (fun _ => rfl) (fun _ => rfl)))) ?_
  · obtain ⟨rfl, hm, _⟩ := map_get (d0 := []) hd
    exact EvD.as (ev_methS (P := isD _) PySem.F.slot_str_startswith PySem.F.type_str_startswith (ev_name mA) b_starts (all_cons (ev_name mB) all_nil) (fun _ => rfl) (fun _ => rfl) (fun _ => rfl)) rfl
  refine blk_cons (stm_comp (ρ' := [("isabs", .dat (.bool true)), ("curdir", .dat (.str (tx [46]))), ("sep", .dat (.str sl))]) (ρc := [("curdir", .dat (.str (tx [46])))]) (bs := fun _ => true) (fs := fun k => dR (L.getD k [])) (it_of (ev_name mB) (.list _)) (fun i d hd => tests_nil) (fun i d hd hb => ?_) (al (sb mC rfl (by decide) (by decide)) a0) (al (nq (by decide)) a0) (by rw [List.length_map]; omega) (al mA (al mC (al mD a0))) (al (nq (by decide)) (al (nq (by decide)) (al (nq (by decide)) a0))) (fun env h => sw_local h rfl rfl rfl rfl)) ?_
  · obtain ⟨rfl, hm, _⟩ := map_get (d0 := []) hd
    obtain ⟨h1, h2, h3⟩ := hl _ hm
    generalize L.getD i [] = l at h1 h2
    have hget : ∀ (k : Nat) (d : PyData), ((tx [] :: l.map nmS).map PyData.str)[k]? = some d → (k = 0 ∧ d = .str (tx [])) ∨ (0 < k ∧ d = .str (nmS (l.getD (k - 1) 0))) := fun k d hd => by
      cases k with
      | zero => left; simp at hd; exact ⟨rfl, hd.symm⟩
      | succ k =>
        right
        rw [List.map_cons, List.getElem?_cons_succ, List.map_map] at hd
        obtain ⟨e, _, _⟩ := map_get (F := fun j => PyData.str (nmS j)) (d0 := 0) hd
        exact ⟨Nat.succ_pos k, e⟩
    refine (ev_comp (ρc := [("curdir", .dat (.str (tx [46])))]) (bs := fun k => decide (0 < k)) (fs := fun k => .str (nmS (l.getD (k - 1) 0))) (it_of (ev_name mA) (.list _)) (fun k d hd => ?_) (fun k d hd hb => ?_) (al (sb mB rfl (by decide) (by decide)) a0) (al (nq (by decide)) a0) (by simp; omega)).as ?_
    · rcases hget k d hd with ⟨rfl, rfl⟩ | ⟨hk, rfl⟩
      · exact tests_one (ts_and2 (b₁ := false) (b₂ := false) ((ts_str (by decide) (ev_name mA)).as rfl) nofun)
      · rw [decide_eq_true hk]
        refine tests_one (ts_and2 (b₁ := true) (b₂ := true) ((ts_str (by rw [tx_len]; have := cod_len (l.getD (k - 1) 0); omega) (ev_name mA)).as ?_) fun _ => (ts_cmp (op_ne (sh_str fun c hc => cod_lt _ c hc) (sh_str (by decide))) (ev_name mA) (ev_name mB) rfl).as ?_)
        · rw [tx_len]
          have := cod_ne (l.getD (k - 1) 0)
          cases e : cod (l.getD (k - 1) 0) with
          | nil => exact absurd e this
          | cons a r => rfl
        · have hdot := cod_all (fun c => decide (c ≠ [46])) (by decide) (l.getD (k - 1) 0)
          rw [PyData.eqv, beq_false_of_ne]
          · rfl
          · exact fun q => of_decide_eq_true hdot (by simpa using congrArg (fun x : Str => x.cps.toList) q)
    · rcases hget k d hd with ⟨rfl, rfl⟩ | ⟨hk, rfl⟩
      · cases hb
      · exact ev_name mA
    · have key : ∀ (F : Nat → PyData) (m : Nat), outs (fun k => decide (0 < k)) (fun k => F (k - 1)) (m + 1) = (List.range m).map F := fun F m => by
        induction m with
        | zero => rfl
        | succ m ih => rw [outs, ih, List.range_succ, List.map_append]; rfl
      rw [List.length_map, List.length_cons, List.length_map, key fun k => .str (nmS (l.getD k 0))]
      congr 1
      apply List.ext_getElem?
      intro k
      rw [List.getElem?_map, List.getElem?_map]
      by_cases hk : k < l.length
      · rw [List.getElem?_range hk, List.getElem?_eq_getElem hk]; simp [List.getD, List.getElem?_eq_getElem hk]
      · rw [List.getElem?_eq_none (by simp; omega), List.getElem?_eq_none (by omega)]; rfl
  rw [List.length_map, outs_all (F := dR)]
  refine blk_cons (stm_asg (lv := .dat (dR x)) (ev_callB (b_min (n := n + 5) (cmp_min h7) (by rw [List.length_map, List.getElem?_map, ex]; rfl)) (ev_b T 14 rfl rfl rfl) (all_cons (ev_name mA) all_nil)) (by decide) rfl (fun p hp => hp) rfl (fun _ => rfl)) ?_
  refine blk_cons (stm_asg (lv := .dat (dR y)) (ev_callB (b_max (n := n + 5) (cmp_max h7) (by rw [List.length_map, List.getElem?_map, ey]; rfl)) (ev_b T 15 rfl rfl rfl) (all_cons (ev_name mB) all_nil)) (by decide) rfl (fun p hp => hp) rfl (fun _ => rfl)) ?_
  refine blk_cons (stm_asg (ρ' := [("s2", .dat (dR y)), ("s1", .dat (dR x)), ("isabs", .dat (.bool true)), ("sep", .dat (.str sl))]) (lv := .dat (dR x)) (ev_name mB) (by decide) rfl (al mA (al mB (al mD (al (.tail _ (.tail _ (.tail _ (.tail _ (.tail _ (.head _)))))) a0)))) rfl (fun _ => rfl)) ?_
  have nx : ∀ (k : Nat) (d : PyData), (x.map fun i => PyData.str (nmS i))[k]? = some d → ∃ i : Nat, x[k]? = some i ∧ d = PyData.str (nmS i) := fun k d hd => by
    rw [List.getElem?_map] at hd
    cases e : x[k]? with
    | none => rw [e] at hd; cases hd
    | some i => rw [e] at hd; exact ⟨i, rfl, (Option.some.inj hd).symm⟩
  refine blk_cons (stm_forEnum (K := K) (ds := x.map fun i => .str (nmS i)) (ρ := [("common", .dat (dR x)), ("s2", .dat (dR y)), ("s1", .dat (dR x)), ("isabs", .dat (.bool true)), ("sep", .dat (.str sl))]) (ρ' := [("common", .dat (dR (x.take K))), ("s2", .dat (dR y)), ("s1", .dat (dR x)), ("isabs", .dat (.bool true)), ("sep", .dat (.str sl))])
    (by rw [List.length_map]; exact Kx) (ev_b T 16 rfl rfl rfl) (ev_name mC) (by decide) (by decide) rfl rfl (by decide) (fun k d hk hd => ?_) (fun d hd => ?_) (fun e => ?_) (fun _ _ => rfl) (fun _ => rfl) (fun _ => rfl)) ?_
  · obtain ⟨i, hi, rfl⟩ := nx k d hd
    have hyk : y[k]? = some i := by
      have h1 := congrArg (fun l => l[k]?) (cpl_take x y)
      rw [hK] at h1
      simp only [List.getElem?_take, if_pos hk] at h1
      rw [← h1]; exact hi
    have i7 := h7 x mx i (List.mem_of_getElem? hi)
    refine blk_one (stm_if (b := false) ((ts_cmp (op_ne (sh_str fun c hc => cod_lt _ c hc) (sh_str fun c hc => cod_lt _ c hc)) (ev_name mA) (ev_idx (k := (k : Int)) (d := .str (nmS i)) (ev_name mD) (ev_name mB) (by omega) (by omega) (by rw [List.getElem?_map, Int.toNat_natCast, hyk]; rfl) (fun _ _ _ => rfl)) rfl).as (by rw [eqv_nm i7 i7]; simp)) nofun fun _ => blk_to blk_nil (fun p hp => .tail _ (.tail _ hp)))
  · obtain ⟨i, hi, rfl⟩ := nx K d hd
    have hKx : cpl x y < x.length := by rw [hK]; exact (List.getElem?_eq_some_iff.mp hi).1
    obtain ⟨hl2, hd2⟩ := cpl_diff x y (hmin y my |> fun h => by
      have := hmax x mx
      exact this) hKx
    rw [hK] at hl2 hd2
    have hyk : y[K]? = some y[K] := List.getElem?_eq_getElem hl2
    have i7 := h7 x mx i (List.mem_of_getElem? hi)
    have j7 := h7 y my y[K] (List.getElem_mem _)
    have hij : ¬ i = y[K] := fun q => hd2 (by rw [hi, hyk, q])
    refine blk_one (stm_if (b := true) ((ts_cmp (op_ne (sh_str fun c hc => cod_lt _ c hc) (sh_str fun c hc => cod_lt _ c hc)) (ev_name mA) (ev_idx (k := (K : Int)) (d := .str (nmS y[K])) (ev_name mD) (ev_name mB) (by omega) (by omega) (by rw [List.getElem?_map, Int.toNat_natCast, hyk]; rfl) (fun _ _ _ => rfl)) rfl).as (by rw [eqv_nm i7 j7, decide_eq_false hij]; rfl)) (fun _ => ?_) nofun)
    exact blk_cons (stm_asg (lv := .dat (dR (x.take K))) (ρ' := [("s2", .dat (dR y)), ("s1", .dat (dR x)), ("isabs", .dat (.bool true)), ("sep", .dat (.str sl))]) (uptoR (ev_name mE) (ev_name mB) (by omega)) (by decide) rfl (fun p hp => .tail _ (.tail _ (.tail _ hp))) rfl (fun _ => rfl)) (blk_one stm_break)
  · rw [List.length_map] at e
    rw [show x.take K = x by rw [e, List.take_length]]
    exact fun p hp => hp
  rw [← hshd]
  have hzs : (shd L).length ≤ 50 := by rw [hshd, List.length_take]; omega
  refine blk_cons (stm_asg (lv := .dat (.str sl)) (ev_ifT (ts_bool (ev_name mD)) (ev_name mE)) (by decide) rfl (fun p hp => hp) rfl (fun _ => rfl)) ?_
  refine blk_one (stm_retD (EvD.as (ev_bin (op_addS ?_) (ev_name mA) (ev_methS (P := isD _) PySem.F.slot_str_join PySem.F.type_str_join (y := sl) (ev_name (.tail _ mE)) (b_join (xs := (shd L).map nmS) ?_) (all_cons ((ev_name mB).as (by rw [List.map_map]; rfl)) all_nil) (fun _ => rfl) (fun _ => rfl) (fun _ => rfl))) ?_))
  · show (1 : Nat) + (Txt.join sl ((shd L).map nmS)).length ≤ _
    rw [join_jn, tx_len, sizeLine_eq]
    have := jn_len (shd L); omega
  · have hB : ∀ y ∈ (shd L).map nmS, y.length ≤ 3 := fun y hy => by obtain ⟨i, _, rfl⟩ := List.mem_map.mp hy; rw [tx_len]; exact cod_len i
    have hf := StrLaws.joinFits (sep := sl) hB (by rw [List.length_map, tx_len]; show _ + _ * 1 ≤ _; omega)
    unfold JoinOk
    rw [hf]; rfl
  · rw [join_jn]; exact congrArg PyData.str (tx_app [47] _)
end Mine
end

noncomputable section
namespace Mine
section
variable {g : Gl} {n : Nat} {sc : Scope} {Z : List Addr} {ρ ρ' : List (Str × Lv)} {x y : Str} {ds ds' : List PyData} {a : Addr} {A : Around} {env : Env} {s₀ s s' : Shared} {X₀ X : List Addr}
theorem own_ref {h : Heap} {v : Value} {l : Lv} (r : l.is X h v) (e : l.own = some a) : v = .ref a := by
  cases l <;> first | (cases e; exact r.1) | cases e
theorem Fx.shift {l l' : Lv} {C : Addr} {oC : Obj} (F : Fx g n sc ρ A env s₀ Z X₀ X s) (hm : (x, l) ∈ ρ) (hlo : l.own = some a) (hlo' : l'.own = some a) (u : Up [PT, a] s s') (hC0 : s.heap.get? C = none) (hoC : s'.heap.get? C = some oC) (hl : l'.is (C :: X) s'.heap (.ref a)) (hs' : ∀ p ∈ ρ', p ∈ ρ ∧ p.2.own ≠ some a) : Fx g n sc ((x, l') :: ρ') A env s₀ Z X₀ (C :: X) s' := by
  have cx := F.ok.cx
  obtain ⟨v, hv, r⟩ := cx.vars _ hm
  have ha := r.inX a hlo
  obtain ⟨mL, hnL⟩ := cx.ns
  have hL : a ≠ env.locals := r.ne_ns hlo hnL
  have hC : ∀ y c, env.cells.lookup y = some c → a ≠ c := fun y c e => by obtain ⟨w, hw⟩ := cx.cel y c e; exact r.ne_cell hlo hw
  have kp : ∀ b o, b ≠ PT → b ≠ a → s.heap.get? b = some o → s'.heap.get? b = some o := fun b o h1 h2 e => u.keep b o (fun q => (List.mem_cons.mp q).elim h1 fun q => h2 (List.mem_singleton.mp q)) e
  have ra : v = .ref a := own_ref r hlo
  obtain ⟨_, hKa, hga, hba, hca⟩ := cx.live a ha
  have hCX : C ∉ X := cx.live.get hC0
  have vk : ∀ y w, Var env s.heap y w → Var env s'.heap y w := fun y w hw => by
    rcases hw with ⟨hk, m, hn, hv⟩ | ⟨hk, c, hc, hv⟩
    · exact .inl ⟨hk, m, Heap.Ns.to hn fun o e => kp _ o (Ns_ne cx.tab hn) (Ne.symm hL) e, hv⟩
    · exact .inr ⟨hk, c, hc, Heap.IsCell.to hv fun o e => kp _ o (Cell_ne cx.tab hv) (Ne.symm (hC _ _ hc)) e⟩
  exact { F with
    ok := ⟨F.ok.bd, F.ok.sc, { cx with
      top := {
        k := fun b o e => kp b o (by rintro rfl; rw [cx.top.kPT] at e; cases e) (by rintro rfl; rw [hKa] at e; cases e) (cx.top.k b o e)
        g := let ⟨mg, h⟩ := cx.top.g; ⟨mg, Heap.Ns.to h fun o e => kp _ o (Ns_ne cx.tab h) (Ne.symm hga) e⟩
        b := let ⟨mb, h, r⟩ := cx.top.b; ⟨mb, Heap.Ns.to h fun o e => kp _ o (Ns_ne cx.tab h) (Ne.symm hba) e, r⟩
        lim := let ⟨mc, h, r⟩ := cx.top.lim; ⟨mc, Heap.Ns.to h fun o e => kp _ o (Ns_ne cx.tab h) (Ne.symm hca) e, r⟩
        kPT := cx.top.kPT }
      tab := u.tab cx.tab
      tabX := .tail _ cx.tabX
      live := fun b hb => by
        rcases List.mem_cons.mp hb with rfl | hb
        · exact ⟨⟨_, hoC⟩, cx.top.new hC0⟩
        refine ⟨?_, (cx.live b hb).2⟩
        by_cases h1 : b = PT
        · exact h1 ▸ (u.tab cx.tab).live
        · by_cases h2 : b = a
          · obtain ⟨o, e, _⟩ := hl.shape a hlo'; exact ⟨_, h2 ▸ e⟩
          · obtain ⟨⟨o, e⟩, _⟩ := cx.live b hb; exact ⟨o, kp b o h1 h2 e⟩
      own := ⟨.tail _ cx.own.1, fun y c e => .tail _ (cx.own.2 y c e)⟩
      ns := ⟨mL, Heap.Ns.to hnL fun o e => kp _ o (Ns_ne cx.tab hnL) (Ne.symm hL) e⟩
      cel := fun y c e => let ⟨w, hw⟩ := cx.cel y c e; ⟨w, Heap.IsCell.to hw fun o q => kp _ o (Cell_ne cx.tab hw) (Ne.symm (hC _ _ e)) q⟩
      vars := fun p hp => by
        rcases List.mem_cons.mp hp with rfl | hp
        · exact ⟨v, vk _ _ hv, ra ▸ hl⟩
        · obtain ⟨w, hw, rw'⟩ := cx.vars p (hs' p hp).1
          have r2 : p.2.is (C :: X) s.heap w := rw'.more (fun _ h => .tail _ h) fun b hb => (List.mem_cons.mp hb).elim (fun e => .inr (e ▸ hC0)) .inl
          exact ⟨w, vk _ _ hw, r2.to (fun b o hb e => ⟨hb, kp b o (fun q => hb (q ▸ .tail _ cx.tabX)) (fun q => hb (q ▸ .tail _ ha)) e⟩) fun b hb hbx => ⟨hbx, fun o e => kp b o (fun q => rw'.ownPT cx.tab b hb q) (fun q => (hs' p hp).2 (q ▸ hb)) e⟩⟩ }⟩
    ex := F.ex.from u fun b hb => (List.mem_cons.mp hb).elim (fun e => .inl (e ▸ F.zp)) fun hb => by rw [List.mem_singleton.mp hb]; exact F.oV _ hm a hlo
    lo := fun b hb => .tail _ (F.lo b hb)
    hi := fun b hb => (List.mem_cons.mp hb).elim (fun e => .inr (e ▸ F.stay hC0)) fun hb => F.hi b hb
    oV := fun p hp => (List.mem_cons.mp hp).elim (fun e b hb => by rw [e, hlo'] at hb; cases hb; exact F.oV _ hm a hlo) fun hp => F.oV p (hs' p hp).1 }
theorem stm_compZ {z : Str} {l l' : Lv} {py spos : Pos} {elt iter : Expr} {px : Pos} {scope : Scope} {pos : Pos} {ρs : Nat → List (Str × Lv)} {fs : Nat → PyData} (hm : (z, l) ∈ ρ) (hlo : l.own = some a) (hlo' : l'.own = some a) (hend : (z, l') ∈ ρs ds.length) (hi : It g n sc ρ iter ds)
    (hown : ∀ i, ∀ p ∈ ρs i, ∀ b, p.2.own = some b → b = a)
    (helt : ∀ i d, ds[i]? = some d → EvZ g n (relS scope sc) ((x, .dat d) :: ρs i) elt [PT, a] (ρs (i + 1)) (fun X h v => Rep X h v (fs i)))
    (hsub : ∀ p ∈ ρs 0, p ∈ ρ ∧ ((relS scope sc).names.lookup p.1 = some .free ∨ (relS scope sc).names.lookup p.1 = some .cell) ∧ (p.1, NameKind.free) ∈ scope.names)
    (hxρ : ∀ i, ∀ p ∈ ρs i, p.1 ≠ x) (hsz : ds.length ≤ 1000000) (hs' : ∀ p ∈ ρ', p ∈ ρ ∧ p.2.own ≠ some a) (hy : ∀ p ∈ ρ', p.1 ≠ y) (hyz : z ≠ y)
    (hsw : ∀ env : Env, env.scope = sc → swapsWith (.ListComp elt [⟨.Name x px, iter, [], 0⟩] scope pos) (some (.Name y py)) spos.line env = pure true)
    (hk : sc.names.lookup y = some .local ∨ sc.names.lookup y = some .cell := by decide)
    (hkind : scope.kind = .function := by rfl) (hcell : ∀ y ∈ scope.names, y.2 = .cell → y.1 = x := by decide) (hx : (relS scope sc).names.lookup x = some .local ∨ ((relS scope sc).names.lookup x = some .cell ∧ (x, NameKind.cell) ∈ scope.names) := by decide)
    (hfree : ∀ p ∈ scope.names, p.2 = .free → sc.names.lookup p.1 = some .free ∨ sc.names.lookup p.1 = some .cell := by decide)
    (hnames : ∀ y ∈ scope.names, y.2 = .local → scope.names.lookup y.1 = some .local := by decide)
    (hs : ∀ env x, foldedSetIterable iter env x = pure x := by intro _ _; rfl) :
    Stm g n sc ρ (.Assign [.Name y py] (.ListComp elt [⟨.Name x px, iter, [], 0⟩] scope pos) spos) (.next ((y, .dat (.list (outs (fun _ => true) fs ds.length))) :: (z, l') :: ρ')) := fun A env s₀ Z X₀ X s E Q F k => by
  have o := F.ok
  rw [exec_Assign_Name_used _ _ _ _ (hsw env o.sc)]
  refine wpAny_bind (wpAny_standAt (wpAny_bind ?_))
  show wpAny _ A (do let _ ← comprehension (.ListComp elt [⟨.Name x px, iter, [], 0⟩] scope pos) scope env _ (newList []) false (eval iter env) (some (assign (.Name y py) env))) _ _ s
  have hclo : ∀ p ∈ scope.names, p.2 = .free → ∃ c, env.cells.lookup p.1 = some c := fun p hp hf => o.cx.has _ (by rw [o.sc]; exact hfree p hp hf)
  refine wpAny_bind (wpAny_mono (wpAny_comprehension_free (use := some (assign (.Name y py) env)) (Q := fun _ s' => Q .next s') rfl (hs env) (closure_eq hclo) hkind hnames (hi A env X s E _ o fun I s₁ s₂ u₁ u₂ hI hit => ?_)) (fun _ s' hq => wpAny_pure (wpAny_pure hq)) fun _ _ e => e)
  obtain ⟨oI, hoI, _⟩ := hit.cls
  have o₂ := (o.up u₁).grow u₂ hI hoI
  have hIX : I ∉ X := (o.up u₁).cx.live.get hI
  obtain ⟨v₀, hv₀, r₀⟩ := F.ok.cx.vars _ hm
  have haX := r₀.inX a hlo
  refine comp_core (Zc := [PT, a]) (ρs := ρs) (bs := fun _ => true) (fs := fs) (acc_list hsz fun _ _ => rfl) o₂ (.head _) hit (fun i p hp b hb => by rw [hown i p hp b hb]; exact .tail _ (.head _)) (fun q => (List.mem_cons.mp q).elim (fun e => hIX (e ▸ o.cx.tabX)) fun q => hIX ((List.mem_singleton.mp q) ▸ haX)) (.head _) (fun b hb => (List.mem_cons.mp hb).elim (fun e => .tail _ (e ▸ o.cx.tabX)) fun hb => .tail _ ((List.mem_singleton.mp hb) ▸ haX))
    hkind hcell hx hfree hsub hxρ (fun i d e => tests_nil) (fun i d e _ => helt i d e) (fun i h => nomatch h) ?_
  intro D C h' tk m hD hC hDC hn u₃ hv hDX ⟨oD, hoD, vsD, nD, eD, rD⟩
  subst eD
  have hr : Rep (C :: I :: X) h' (.ref D) (.list (outs (fun _ => true) fs ds.length)) := .list hDX hoD rD
  obtain ⟨oC, es, ep, hoC, hdC, _⟩ := id hn
  have F₁ := F.up u₁
  have hC₁ : s₁.heap.get? C = none := by
    cases e : s₁.heap.get? C with
    | none => rfl
    | some o' =>
      by_cases hp : C = PT
      · obtain ⟨o'', q⟩ := (u₂.tab F₁.ok.cx.tab).live
        rw [← hp, hC] at q; cases q
      · have := u₂.keep C o' (by rw [List.mem_singleton]; exact hp) e; rw [hC] at this; cases this
  have hC₀ : s.heap.get? C = none := by
    cases e : s.heap.get? C with
    | none => rfl
    | some o' =>
      by_cases hp : C = PT
      · exact absurd (hp ▸ F₁.ok.cx.tabX) (F₁.ok.cx.live.get hC₁)
      · have := u₁.keep C o' (by rw [List.mem_singleton]; exact hp) e; rw [hC₁] at this; cases this
  have u₄ : Up [PT, a] s₁ { s₂ with heap := h', toks := tk } := (u₂.mono fun b hb => (List.mem_singleton.mp hb) ▸ .head _).from u₃ fun b hb => (List.mem_cons.mp hb).elim (fun e => .inr (e ▸ hI)) .inl
  obtain ⟨v', _, r'⟩ := hv _ hend
  have ev' := own_ref r' hlo'
  have F₄ := F₁.shift (ρ' := ρ') (x := z) (l' := l') hm hlo hlo' u₄ hC₁ hoC (Lv.is.to (X := C :: I :: X) (fun b ob hb e => ⟨fun q => hb ((List.mem_cons.mp q).elim (fun e => e ▸ .head _) fun q => .tail _ (.tail _ q)), e⟩) (fun b hb _ => ⟨by rw [hlo'] at hb; cases hb; exact .tail _ haX, fun _ e => e⟩) (ev' ▸ r')) hs'
  have hCX : C ∉ X := F₁.ok.cx.live.get hC₁
  have ownX : ∀ p ∈ (z, l') :: ρ', ∀ b, p.2.own = some b → b ∈ X := fun p hp b hb => by
    rcases List.mem_cons.mp hp with rfl | hp
    · rw [hlo'] at hb; cases hb; exact haX
    · obtain ⟨w, _, rw'⟩ := F₁.ok.cx.vars p (hs' p hp).1; exact rw'.inX b hb
  have hCt : C ∉ turnZ env ((z, l') :: ρ') := fun q => hCX (by
    rcases mem_turnZ q with q | q | ⟨y, q⟩ | ⟨p, hp, q⟩
    · exact q ▸ o.cx.tabX
    · exact q ▸ o.cx.own.1
    · exact o.cx.own.2 y C q
    · exact ownX p hp C q)
  show wpAny _ A (assign (.Name y py) env (.ref D)) _ _ _
  refine wpAny_assign_Name (F₄.turn.store (l := .dat (.list (outs (fun _ => true) fs ds.length))) (fun p hp => (List.mem_cons.mp hp).elim (fun e => e ▸ hyz) (hy p)) hk (hr.to (Y := C :: X) fun b ob hb e => ⟨fun q => hb ((List.mem_cons.mp q).elim (fun z => z ▸ .head _) fun z => .tail _ (.tail _ z)), e⟩) (fun _ e => nomatch e) fun s₅ F₅ => ?_)
  have hC₅ : s₅.heap.get? C = some oC := F₅.ex.keep C oC hCt hoC
  have G₅ := F₄.back F₅
  exact ⟨m, Heap.Ns.to hn fun ob e => F₅.ex.keep C ob hCt e, fun h₆ hs₆ => k _ _ (G₅.gone (tk := s₅.toks) (.head _) (F.stay hC₀) hC₅ (Dull.dict hdC) (fun e => hCX (e ▸ o.cx.own.1)) (fun z c e q => hCX (q ▸ o.cx.own.2 z c e)) (fun p hp q => (List.mem_cons.mp hp).elim (fun e => by rw [e] at q; cases q) fun hp => hCX (ownX p hp C q)) hs₆.extBut)⟩
end
end Mine
end

noncomputable section
namespace Mine
variable {g : Gl} {n : Nat}
theorem f_joinP (T : TopF g) {l : List Nat} {i : Nat} (hl : l.length ≤ 100) : Does g (n + 2) (fun vs => call (.ref 115) vs) [.dat (.str (pa l)), .dat (.str (nmS i))] (isD (.str (pa (l ++ [i])))) := by
  have h1 := pj_len l
  have h2 := cod_len i
  refine f_join T (a := pj l) (b := cod i) nofun (fun q => cod_free i (List.mem_of_getElem? q)) ?_ (by omega)
  by_cases h : l = []
  · subst h; rfl
  · obtain ⟨c, e, hc⟩ := pj_last l h
    rw [if_neg (by rw [e]; intro q; exact hc (Option.some.inj q)), pj_snoc, if_neg h]
section
variable {sc : Scope} {ρ : List (Str × Lv)} {e i : Expr} {x : Str} {a : Addr} {ds : List PyData} {d : PyData} {pos np p1 : Pos} {k j : Nat}
theorem b_len_mut (hz : ds.length ≤ 1000000) : Does g n (fun vs => call (.builtin "len") vs) [.mut a ds] (isD (.int ds.length)) := fun A X s vs E Q B hT ht hX hl hv k => by
  obtain ⟨v, rfl, h1⟩ := hv.i1
  obtain ⟨rfl, ha, us, m, ho, hr⟩ := h1
  have hl := hr.length
  refine len_list (items := us.toArray) ⟨_, ho, rfl, _, rfl⟩ (by rw [List.size_toArray]; omega) (k _ _ Up.tok ?_)
  rw [List.size_toArray, hl]; exact .int _ _
theorem op_pow2 (hk : k ≤ 1000) : Op2 g n (binaryOp .Pow) (dN k) (.int 2) (dN (k ^ 2)) := fun A X s x y E Q B hX hl rx ry kk => by
  obtain ⟨t, rfl⟩ := rx.inv_int; obtain ⟨u, rfl⟩ := ry.inv_int
  refine pow_int_small (by decide) (by decide) (by omega) (kk _ _ Up.tok ?_)
  rw [show ((k : Int) ^ (2 : Int).toNat) = ((k ^ 2 : Nat) : Int) by rw [Int.natCast_pow]; rfl]
  exact .int _ _
theorem ev_idxM (hm : (x, .mut a ds) ∈ ρ) (hi : EvD g n sc ρ i (dN k)) (hk : k ≤ 1000) (hd : ds[k]? = some d) (h1 : (x == ("__debug__" : Str)) = false) (h2 : (x == ("__classdict__" : Str)) = false)
    (hs : ∀ l k u, subscripted i false (.ref l) (.int k u) = operate [.ref l, .int k u] (getItem (.ref l) (.int k u))) : EvD g n sc ρ (.Subscript (.Name x np) i pos) d := fun A env X s E Q ok kk =>
  Subscript_ (ev_name hm h1 h2 A env X s E _ ok fun v s₁ u₁ r₁ => hi A env X s₁ E _ (ok.up u₁) fun b s₂ u₂ r₂ => by
    obtain ⟨t, rfl⟩ := Rep.inv_int r₂
    obtain ⟨rfl, ha, vs, m, ho, hr⟩ := (ok.up u₁).lv u₂ r₁
    obtain ⟨v, hv, r⟩ := hr.get hd
    exact tail_any (T := "list") ⟨_, ho, rfl⟩ slot_list_getitem.lookup (wpAny_getItem_list (items := vs.toArray) ⟨_, ho, rfl, _, rfl⟩ (by omega) (by omega) (by simpa using hv) (kk _ _ (u₁.trans u₂) r)) (hs _ _ _))
theorem new_range {f1 : Expr} (hf : EvV g n sc ρ f1 (.type "list")) (hr : EvL g n sc ρ e (.rng 0 k)) (hz : k ≤ 100000) (he : ∀ env, starEach [e] env = (false, eval e env) :: starEach [] env)
    (hc : ∀ env, eval (.Call f1 [e] [] pos) env = (do callWith pos (← eval f1 env) [] (backTo pos (starEach [e] env)) (backToKw pos (keywordEach [] env)))) : EvNew g n sc ρ (.Call f1 [e] [] pos) (upI 0 k) := fun A env X s E Q o kk =>
  Call_ (hf A env X s E _ o fun v s₁ u₁ r₁ => by
    have r₁' : v = .type "list" := r₁
    subst r₁'
    refine Pv.callWith_type1 (spliced_more (hr A env X s₁ E _ (o.up u₁) fun w s₂ u₂ r₂ => Calls.spliced_nil ?_) (he env)) (he env) rfl
    obtain ⟨r, t, u, t', rfl, hr', ho⟩ := r₂
    have hn : Builtin.Range.rangeSize 0 (k : Int) 1 = ((k : Nat) : Int) := by rw [PyProof.Rows.rangeSize_nat]; omega
    have sm : Builtin.Range.small 0 (k : Int) 1 = true := by
      unfold Builtin.Range.small; rw [hn]; simp [Builtin.Range.rangeFitsLong]; omega
    refine call_list_range o.bd.hd ho sm hn (by omega) fun h' tk acc c' hk hl' hacc => ?_
    refine kk _ s₂ _ (u₁.trans u₂) (Up.heap hk) (get_size _) ⟨acc.toList, c', by simpa using hl', repAll_of (by rw [upI_len, Array.length_toList]; exact hacc.1) fun i v d e e' => ?_⟩
    obtain ⟨h, rfl⟩ := up0 e'
    obtain ⟨t, rfl⟩ := hacc.2 i v (by simpa using e)
    rw [Int.mul_one, Int.zero_add]; exact .int _ _) (hc env)
end
end Mine
end

noncomputable section
namespace Mine
variable {g : Gl} {n : Nat}
theorem upI_range (k : Nat) : upI 0 k = (List.range k).map dN := by
  apply List.ext_getElem?
  intro i
  rw [upI_get, List.getElem?_map]
  split
  · rename_i h; rw [List.getElem?_range h]; simp
  · rename_i h; rw [List.getElem?_eq_none (by simp; omega)]; rfl
theorem tab_get {i : Nat} (h : i < 7) : (tabS.map PyData.str)[i]? = some (.str (nmS i)) := by
  rw [tab_eq, List.getElem?_map, List.getElem?_range h]; rfl
theorem up1 {i m : Nat} {d : PyData} (h : (upI 1 m)[i]? = some d) : i < m ∧ d = dN (i + 1) := by
  rw [upI_get] at h
  split at h
  · cases h; rename_i h; exact ⟨h, by rw [dN, Int.natCast_add, Int.add_comm]; rfl⟩
  · cases h
theorem erase_map {α β : Type} {f : α → β} : ∀ (l : List α) (k : Nat), (l.eraseIdx k).map f = (l.map f).eraseIdx k
  | [], _ => rfl
  | _ :: _, 0 => rfl
  | a :: l, k + 1 => by rw [List.eraseIdx_cons_succ, List.map_cons, List.map_cons, List.eraseIdx_cons_succ, erase_map l k]
theorem divmodN {sc : Scope} {ρ : List (Str × Lv)} {e1 e2 e3 : Expr} {p1 p2 : Pos} {a b c : Nat} (h1 : EvD g n sc ρ e1 (dN a)) (h2 : EvD g n sc ρ e2 (dN b)) (h3 : EvD g n sc ρ e3 (dN c)) (hb : 0 < b) (hb' : b < 1000) (hc : 0 < c) : EvD g n sc ρ (.BinOp (.BinOp e1 .FloorDiv e2 p1) .Mod e3 p2) (dN (a / b % c)) :=
  EvD.as (ev_bin (op_mod (b := (c : Int)) (by omega)) (ev_bin (op_fdiv (b := (b : Int)) (by omega) (by omega)) h1 h2) h3) (by rw [dN, Int.natCast_emod, Int.natCast_ediv])
theorem sbZ {sc scope : Scope} {ρ : List (Str × Lv)} {z : Str} {lv : Lv} (h1 : (z, lv) ∈ ρ) (h3 : (relS scope sc).names.lookup z = some .free ∨ (relS scope sc).names.lookup z = some .cell) (h4 : (z, NameKind.free) ∈ scope.names) :
    ((z, lv) : Str × Lv) ∈ ρ ∧ ((relS scope sc).names.lookup ((z, lv) : Str × Lv).1 = some .free ∨ (relS scope sc).names.lookup ((z, lv) : Str × Lv).1 = some .cell) ∧ (((z, lv) : Str × Lv).1, NameKind.free) ∈ scope.names := ⟨h1, h3, h4⟩
theorem f_grown (T : TopF g) {read : List Nat} (h0 : 0 < read.length) (h7 : read.length ≤ 7) : Does g (n + 3) (fun vs => call (.ref 198) vs) [.dat (dL read)] (isD (.tuple [dP (grownAt read read.length), .str (pa (grownMark read))])) := by
  obtain ⟨N, hN⟩ : ∃ N, read.length = N := ⟨_, rfl⟩
  have hge : ∀ k, k < N → read[k]? = some (read.getD k 0) := fun k hk => by rw [List.getD, List.getElem?_eq_getElem (by omega)]; rfl
  have hog : ∀ k, k < N → ((List.range N).map (ordAt read))[k]? = some (ordAt read k) := fun k hk => by rw [List.getElem?_map, List.getElem?_range hk]; rfl
  have hol : ∀ k, k < N → ordAt read k < 7 := fun k hk => by have := ord_lt read (j := k) (by omega); omega
  have hord : ∀ k, k < N → ordAt read k < N := fun k hk => hN ▸ ord_lt read (j := k) (by omega)
  refine does_top (names := ["read"]) T 14 rfl (fun fd vs hp hd hv => by obtain ⟨v, rfl⟩ := len1 hv; unfold bindArgs; rw [hp, hd]; rfl) (by decide) (by decide) rfl (by decide) rfl rfl rfl rfl ?_
  refine blkZ_cons (stm_asg (ρ' := [("read", .dat (dL read))]) (ev_call0 (f_names T) (T.keep 10 _ _ rfl (by decide)) (ev_g T 10 rfl rfl rfl)) (by decide) rfl (fun p hp => hp) rfl (fun _ => rfl)) ?_
  refine blkZ_cons (stm_asg (lv := .dat (dN N)) (EvD.as (ev_callB (b_len_list (ds := read.map dN) (by simp; omega)) (ev_b T 5 rfl rfl rfl) (all_cons (ev_name mB) all_nil)) (by rw [List.length_map, hN])) (by decide) rfl (fun p hp => hp) rfl (fun _ => rfl)) ?_
  refine blkZ_new (new_range (k := N) (ev_b T 7 rfl rfl rfl) (ev_callT (b_range1 (a := (N : Int))) (ev_b T 6 rfl rfl rfl) (all_cons (ev_name mA) all_nil)) (by omega) (fun _ => rfl) (fun _ => rfl)) (fun a => ?_) (by decide) rfl (fun p hp => hp) (fun _ => rfl)
  refine blkZ_cons (stm_compZ (ds := read.map dN) (ρs := fun i => [("left", .mut a ((leftAt read i).map dN)), ("size", .dat (dN N))]) (fs := fun i => dN (ordAt read i)) (l' := .mut a ((leftAt read (read.map dN).length).map dN)) (ρ' := [("size", .dat (dN N)), ("table", .dat (.list (tabS.map .str))), ("read", .dat (dL read))]) mA rfl rfl mA (it_of (ev_name mD) (.list _)) (fun i => al (fun b hb => (Option.some.inj hb).symm) (al nofun a0)) (fun i d hd => ?_) (al (sbZ (by rw [upI_range, ← hN]; exact mA) (by decide) (by decide)) (al (sbZ mB (by decide) (by decide)) a0)) (fun i => al (nq (by decide)) (al (nq (by decide)) a0)) (by simp; omega) (al ⟨mB, nofun⟩ (al ⟨mC, nofun⟩ (al ⟨mD, nofun⟩ a0))) (al (nq (by decide)) (al (nq (by decide)) (al (nq (by decide)) a0))) (by decide) (fun env h => sw_local h rfl rfl rfl rfl)) ?_
  · obtain ⟨rfl, _, hi⟩ := map_get (d0 := 0) hd
    have hll := left_len read i (by omega)
    have e : ((leftAt read (i + 1)).map dN) = ((leftAt read i).map dN).eraseIdx (pickAt read (leftAt read i) i) := by rw [leftAt]; exact erase_map _ _
    rw [e]
    refine evZ_pop (j := pickAt read (leftAt read i) i) mB (EvD.as (ev_bin (op_mod (b := ((leftAt read i).length : Int)) (by omega)) (ev_bin (op_fdiv (b := (N : Int)) (by omega) (by omega)) (ev_name mA) (ev_name mC)) (EvD.as (ev_callB (b_len_mut (a := a) (ds := (leftAt read i).map dN) (by simp; omega)) (ev_b T 5 rfl rfl rfl) (all_cons (ev_name mB) all_nil)) (by rw [List.length_map]))) (by unfold pickAt; rw [hN]; rfl)) (by rw [List.getElem?_map, ord_get read (by omega)]; rfl) (al ⟨mC, nofun⟩ a0) (by simp; omega) (by decide) (by decide) (fun _ => rfl) (fun _ => rfl)
  have e : outs (fun _ => true) (fun i => dN (ordAt read i)) (read.map dN).length = ((List.range N).map (ordAt read)).map dN := by
    rw [outs_eq, List.filter_eq_self.mpr fun _ _ => rfl, List.length_map, hN, List.map_map]; rfl
  rw [e]
  refine blkZ_new (new_mul (d := .str sl) (k := N) (ev_list (ds := [.str sl]) (all_cons ev_str all_nil) (Nat.le_of_ble_eq_true rfl)) (ev_name mC) (by omega)) (fun b => ?_) (by decide) rfl (al mA (al mC (al mD (al mE a0)))) (fun _ => rfl)
  refine blkZ_cons (stm_setitem (ρ' := [("order", .dat (dL ((List.range N).map (ordAt read)))), ("size", .dat (dN N)), ("table", .dat (.list (tabS.map .str))), ("read", .dat (dL read))]) (j := ordAt read 0) mA (ev_call (f_joinP (n := n) (l := []) (i := ordAt read 0) T (Nat.zero_le _)) (T.keep 3 _ _ rfl (by decide)) (ev_g T 3 rfl rfl rfl) (all_cons ev_str (all_cons (ev_idx (k := (ordAt read 0 : Int)) (ev_name mD) (idxN (k := 0) (ev_name mB) ev_int (by decide) (hog 0 (by omega)) (fun _ _ _ => rfl)) (by omega) (by have := hol 0 (by omega); omega) (tab_get (hol 0 (by omega))) (fun _ _ _ => rfl)) all_nil))) (idxN (k := 0) (ev_name mB) ev_int (by decide) (hog 0 (by omega)) (fun _ _ _ => rfl)) (by rw [List.length_replicate]; exact hord 0 (by omega)) (al ⟨mB, nofun⟩ (al ⟨mC, nofun⟩ (al ⟨mD, nofun⟩ (al ⟨mE, nofun⟩ a0)))) (by rw [List.length_replicate]; omega) (by decide) (by decide) (fun _ => rfl)) ?_
  have e1 : (List.replicate N (PyData.str sl)).set (ordAt read 0) (.str (pa ([] ++ [ordAt read 0]))) = (grownAt read 1).map fun l => .str (pa l) := by
    rw [grownAt, if_pos rfl, List.map_set, grownAt, List.map_replicate, hN]; rfl
  rw [e1]
  refine blkZ_cons (stm_sub (stm_for (ds := upI 1 (N - 1)) (ρs := fun i => [("paths", .mut b ((grownAt read (i + 1)).map fun l => .str (pa l))), ("order", .dat (dL ((List.range N).map (ordAt read)))), ("size", .dat (dN N)), ("table", .dat (.list (tabS.map .str))), ("read", .dat (dL read))]) (it_of (ev_callT (b_range2 (a := 1) (b := (N : Int))) (ev_b T 6 rfl rfl rfl) (all_cons ev_int (all_cons (ev_name mC) all_nil))) ?_) (fun i => al (nq (by decide)) (al (nq (by decide)) (al (nq (by decide)) (al (nq (by decide)) (al (nq (by decide)) a0))))) (fun i => al (fun b hb => ⟨_, mA, hb⟩) (al nofun (al nofun (al nofun (al nofun a0))))) (fun i d hd => ?_) (by decide) (fun _ _ => rfl)) (fun p hp => hp)) ?_
  · have hn : Builtin.Range.rangeSize 1 (N : Int) 1 = ((N - 1 : Nat) : Int) := by rw [PyProof.Rows.rangeSize_nat]; omega
    have := IterOf.rng 1 N (by
      unfold Builtin.Range.small
      rw [hn]
      simp [Builtin.Range.rangeFitsLong]; omega)
    rwa [show ((N : Int) - 1).toNat = N - 1 by omega] at this
  · obtain ⟨hi, rfl⟩ := up1 hd
    have hab : abv read (i + 1) < i + 1 := Nat.mod_lt _ (Nat.succ_pos _)
    have hN2 : 0 < N ^ 2 ∧ N ^ 2 < 1000 := by
      have : N = 1 ∨ N = 2 ∨ N = 3 ∨ N = 4 ∨ N = 5 ∨ N = 6 ∨ N = 7 := by omega
      rcases this with h | h | h | h | h | h | h <;> rw [h] <;> decide
    have hgl := grown_len read (i + 1)
    have hov := hord (abv read (i + 1)) (by omega)
    have hgg : ((grownAt read (i + 1)).map fun l => PyData.str (pa l))[ordAt read (abv read (i + 1))]? = some (.str (pa ((grownAt read (i + 1)).getD (ordAt read (abv read (i + 1))) []))) := by
      rw [List.getElem?_map, List.getD, List.getElem?_eq_getElem (by omega)]; rfl
    have hsh : ((grownAt read (i + 1)).getD (ordAt read (abv read (i + 1))) []).length ≤ 100 := by
      rw [List.getD, List.getElem?_eq_getElem (by omega)]
      exact Nat.le_trans (grown_short read (i + 1) _ (List.getElem_mem _)) (by omega)
    refine blk_cons (stm_asg (ρ' := [("k", .dat (dN (i + 1))), ("paths", .mut b ((grownAt read (i + 1)).map fun l => .str (pa l))), ("order", .dat (dL ((List.range N).map (ordAt read)))), ("size", .dat (dN N)), ("table", .dat (.list (tabS.map .str))), ("read", .dat (dL read))]) (ev_idxM (k := ordAt read (abv read (i + 1))) mB (idxN (k := abv read (i + 1)) (ev_name mC) (EvD.as (divmodN (idxN (ev_name (.tail _ mE)) (ev_name mA) (by omega) (hge (i + 1) (by omega)) (fun _ _ _ => rfl)) (ev_bin (op_pow2 (k := N) (by omega)) (ev_name mD) ev_int) (ev_name mA) hN2.1 hN2.2 (Nat.succ_pos _)) (by unfold abv; rw [hN])) (by omega) (hog _ (by omega)) (fun _ _ _ => rfl)) (by omega) hgg (by decide) (by decide) (fun _ _ _ => rfl)) (by decide) rfl (fun p hp => hp) rfl (fun _ => rfl)) ?_
    have e2 : ((grownAt read (i + 1)).map fun l => PyData.str (pa l)).set (ordAt read (i + 1)) (.str (pa ((grownAt read (i + 1)).getD (ordAt read (abv read (i + 1))) [] ++ [ordAt read (i + 1)]))) = (grownAt read (i + 1 + 1)).map fun l => .str (pa l) := by
      rw [grownAt.eq_2 read (i + 1), if_neg (Nat.succ_ne_zero i), List.map_set]
    rw [← e2]
    have ho1 := hol (i + 1) (by omega)
    exact blk_one (stm_setitem (ρ' := [("order", .dat (dL ((List.range N).map (ordAt read)))), ("size", .dat (dN N)), ("table", .dat (.list (tabS.map .str))), ("read", .dat (dL read))]) (j := ordAt read (i + 1)) mC (ev_call (f_joinP (n := n) T hsh) (T.keep 3 _ _ rfl (by decide)) (ev_g T 3 rfl rfl rfl) (all_cons (ev_name mA) (all_cons (ev_idx (k := (ordAt read (i + 1) : Int)) (ev_name (.tail _ (.tail _ mD))) (idxN (k := i + 1) (ev_name mD) (ev_name mB) (by omega) (hog _ (by omega)) (fun _ _ _ => rfl)) (by omega) (by omega) (tab_get ho1) (fun _ _ _ => rfl)) all_nil))) (idxN (k := i + 1) (ev_name mD) (ev_name mB) (by omega) (hog _ (by omega)) (fun _ _ _ => rfl)) (by rw [List.length_map, hgl, hN]; exact hord _ (by omega)) (al ⟨mD, nofun⟩ (al ⟨mE, nofun⟩ (al ⟨.tail _ mE, nofun⟩ (al ⟨.tail _ (.tail _ mE), nofun⟩ a0)))) (by rw [List.length_map, hgl]; omega) (by decide) (by decide) (fun _ => rfl))
  rw [upI_len, show N - 1 + 1 = N by omega]
  have hN2 : 0 < N ^ 2 ∧ N ^ 2 < 1000 := by
    have : N = 1 ∨ N = 2 ∨ N = 3 ∨ N = 4 ∨ N = 5 ∨ N = 6 ∨ N = 7 := by omega
    rcases this with h | h | h | h | h | h | h <;> rw [h] <;> decide
  have hr0 : read.getD 0 0 / N ^ 2 % N < N := Nat.mod_lt _ (by omega)
  refine blkZ_freeze (ρ' := [("order", .dat (dL ((List.range N).map (ordAt read)))), ("size", .dat (dN N)), ("read", .dat (dL read))]) mA (al ⟨mB, nofun⟩ (al ⟨mC, nofun⟩ (al ⟨mE, nofun⟩ a0))) (blkZ_of (blk_one (stm_retD (ev_tuple (ds := [_, _]) (all_cons (EvL.as (ev_name mA) (by rw [dP, hN])) (all_cons (ev_idx (k := (ordAt read (read.getD 0 0 / N ^ 2 % N) : Int)) (ev_name mA) (idxN (k := read.getD 0 0 / N ^ 2 % N) (ev_name mB) (divmodN (idxN (k := 0) (ev_name mD) ev_int (by decide) (hge 0 (by omega)) (fun _ _ _ => rfl)) (ev_bin (op_pow2 (k := N) (by omega)) (ev_name mC) ev_int) (ev_name mC) hN2.1 hN2.2 (by omega)) (by omega) (hog _ hr0) (fun _ _ _ => rfl)) (by omega) (by have := hol _ hr0; omega) ?_ (fun _ _ _ => rfl)) all_nil)) (Nat.le_of_ble_eq_true rfl)))))
  have hm := hord _ hr0
  have hg : grownMark read = (grownAt read N).getD (ordAt read (read.getD 0 0 / N ^ 2 % N)) [] := by unfold grownMark; rw [hN]
  rw [hg, List.getElem?_map, Int.toNat_natCast]
  generalize ordAt read (read.getD 0 0 / N ^ 2 % N) = q at hm ⊢
  rw [List.getD, List.getElem?_eq_getElem (by rw [grown_len]; omega)]; rfl
end Mine
end

noncomputable section
namespace Mine
section
variable {g : Gl} {n : Nat} {sc : Scope} {ρ ρ' : List (Str × Lv)} {A : Around} {env : Env} {Z : List Addr} {y : Str} {np p₁ p₂ p₃ pos : Pos} {e₁ f : Expr} {body rest : List Stmt} {r : Addr} {P : List Addr → Heap → Value → Prop}
theorem blkA_ended (T : TopF g) (hA : A.frames = some [env]) (hframe : env.frame = some env.locals) (h₁ : Ts g (n + 2) sc ρ e₁ false) (hf : EvV g (n + 2) sc ρ f (.ref 171)) (hm : (y, .lit r []) ∈ ρ) (hs : ∀ p ∈ ρ', p ∈ ρ ∧ p.2.own ≠ some r)
    (hr : BlkA g (n + 2) sc A env Z ρ' rest P) (hd : (y == ("__debug__" : Str)) = false) (hn : (y == ("__classdict__" : Str)) = false) (he : ∀ env, starEach [.Name y np] env = (false, eval (.Name y np) env) :: starEach [] env)
    (hc : ∀ env, eval (.Call f [.Name y np] [] p₁) env = (do callWith p₁ (← eval f env) [] (backTo p₁ (starEach [.Name y np] env)) (backToKw p₁ (keywordEach [] env)))) :
    BlkA g (n + 2) sc A env Z ρ (.If (.BoolOp .Or [e₁, .UnaryOp .Not (.Call f [.Name y np] [] p₁) p₂] p₃) body [] pos :: rest) P := fun s₀ X₀ X s E Q F k => by
  refine wpAny_execs_cons (wpAny_If (isTrue_or (h₁ A env X s E _ F.ok fun s₁ u₁ => isTrue_or (isTrue_not (isTrue_plain (Call_ (hf A env X s₁ E _ (F.up u₁).ok fun v s₂ u₂ r₂ => ?_) (hc env)) rfl)))))
  have r₂' : v = .ref 171 := r₂
  subst r₂'
  have F₂ := (F.up u₁).up u₂
  obtain ⟨v, hv, rv⟩ := F₂.ok.cx.vars _ hm
  have rv0 := rv
  obtain ⟨rfl, hrX, hit⟩ := rv
  obtain ⟨mL, hnL⟩ := F₂.ok.cx.ns
  obtain ⟨oL, esL, epL, hoL, hdL, hrestL⟩ := id hnL
  have hLr : r ≠ env.locals := rv0.ne_ns rfl hnL
  have hfo : framesOf [env] = [env.locals] := by
    show List.filterMap _ _ = _
    rw [List.filterMap_cons, hframe]; rfl
  refine callWith_K F₂.ok.cx.top.k (T.keep 12 _ _ rfl (by decide)) (spliced_more (load_var F₂.ok.cx.fn hv (Calls.spliced_nil ⟨F₂.ok.cx.top.k, ?_⟩) hd hn) (he env)) (he env) rfl
  refine f_ended (n := n) T A X s₂ _ _ F₂.ok.bd F₂.ok.cx.top F₂.ok.cx.tab F₂.ok.cx.tabX F₂.ok.cx.live hrX hit hA (fun env' h => ?_) (fun L hL => ?_) fun h' tk hk htab hr' hslot => ?_
  · rw [List.mem_singleton.mp h]
    exact ⟨by rw [F₂.ok.cx.fn]; exact nofun, _, oL, esL, epL, hframe, hoL, hdL, Ne.symm hLr⟩
  · rw [hfo] at hL
    rw [List.mem_singleton.mp hL]; exact F₂.ok.cx.own.1
  rw [hfo] at hk hslot
  obtain ⟨sl, hL'⟩ := hslot env.locals oL (.head _) hoL fun vs q => by rw [hdL] at q; cases q
  refine wpAny_truthy_bool (isTrue_or_nil ?_)
  refine wpAny_execs_nil (hr s₀ X₀ X _ E Q ?_ k)
  refine F₂.wide [PT, r, env.locals] (fun p hp => (hs p hp).1) (fun a ha => ?_) hk htab fun m hm' => ?_
  · have ow : ∀ p ∈ ρ', ∀ b, p.2.own = some b → ∃ v, p.2.is X s₂.heap v := fun p hp b _ => let ⟨v, _, r⟩ := F₂.ok.cx.vars p (hs p hp).1; ⟨v, r⟩
    rcases List.mem_cons.mp ha with rfl | ha
    · exact ⟨F₂.ok.cx.tabX, .inl F₂.zp, htab.live, fun y c e => Ne.symm (by obtain ⟨w, hw⟩ := F₂.ok.cx.cel y c e; exact Cell_ne F₂.ok.cx.tab hw), fun p hp q => by obtain ⟨v, r⟩ := ow p hp _ q; exact r.ownPT F₂.ok.cx.tab _ q rfl⟩
    rcases List.mem_cons.mp ha with rfl | ha
    · exact ⟨hrX, F₂.oV _ hm _ rfl, hr', fun y c e => by obtain ⟨w, hw⟩ := F₂.ok.cx.cel y c e; exact rv0.ne_cell rfl hw, fun p hp => (hs p hp).2⟩
    · rw [List.mem_singleton.mp ha]
      exact ⟨F₂.ok.cx.own.1, F₂.oL, ⟨_, hL'⟩, fun y c e => by obtain ⟨w, hw⟩ := F₂.ok.cx.cel y c e; exact ns_ne_cell hnL hw, fun p hp q => by obtain ⟨v, r⟩ := ow p hp _ q; exact r.ne_ns q hnL rfl⟩
  · obtain ⟨o, es, ep, ho, hd', hr⟩ := hm'
    rw [hoL] at ho; cases ho
    exact ⟨_, es, ep, hL', hd', hr⟩
end
end Mine
end

noncomputable section
namespace Mine
noncomputable def pieceOf (x k : Nat) : List Nat := if k % 4 = 0 then ((octs x).headD 0 + 128) :: (octs x).tail else octs x
theorem piece_shape {x : Nat} (k : Nat) (hx : x < 262144) : ∃ c, (c = 0 ∨ c = 128) ∧ ((x < 64 ∧ pieceOf x k = [x % 64 + c]) ∨ (64 ≤ x ∧ x < 4096 ∧ pieceOf x k = [64 + x / 64 % 64 + c, x % 64]) ∨ (4096 ≤ x ∧ pieceOf x k = [64 + x / 4096 % 64 + c, 64 + x / 64 % 64, x % 64])) := by
  unfold pieceOf
  have key : (x < 64 ∧ octs x = [x % 64]) ∨ (64 ≤ x ∧ x < 4096 ∧ octs x = [64 + x / 64 % 64, x % 64]) ∨ (4096 ≤ x ∧ octs x = [64 + x / 4096 % 64, 64 + x / 64 % 64, x % 64]) := by
    unfold octs octs1
    rcases Nat.lt_or_ge x 64 with h | h
    · left; rw [if_neg (by omega), if_neg (by omega)]; exact ⟨h, rfl⟩
    · rcases Nat.lt_or_ge x 4096 with h2 | h2
      · right; left; rw [if_neg (by omega), if_pos h]; exact ⟨h, h2, rfl⟩
      · right; right; rw [if_pos h2, if_pos h]; exact ⟨h2, rfl⟩
  by_cases hk : k % 4 = 0
  · refine ⟨128, .inr rfl, ?_⟩
    rw [if_pos hk]
    rcases key with ⟨h, e⟩ | ⟨h, h2, e⟩ | ⟨h, e⟩ <;> rw [e]
    · exact .inl ⟨h, rfl⟩
    · exact .inr (.inl ⟨h, h2, rfl⟩)
    · exact .inr (.inr ⟨h, rfl⟩)
  · refine ⟨0, .inl rfl, ?_⟩
    rw [if_neg hk]
    exact key
theorem piece_ok {x : Nat} (k : Nat) (hx : x < 262144) : pieceOf x k ≠ [] ∧ (pieceOf x k).length ≤ 3 ∧ (∀ o ∈ pieceOf x k, o < 256) ∧ (∀ i o, (pieceOf x k)[i]? = some o → (o / 64 % 2 = 1 ↔ i + 1 < (pieceOf x k).length)) ∧ vval (pieceOf x k) ((pieceOf x k).length - 1) = x := by
  obtain ⟨c, hc, h⟩ := piece_shape k hx
  rcases h with ⟨h, e⟩ | ⟨h, h2, e⟩ | ⟨h, e⟩ <;> rw [e]
  · refine ⟨nofun, Nat.le_of_ble_eq_true rfl, fun o ho => ?_, fun i o ho => ?_, ?_⟩
    · simp at ho; omega
    · match i, ho with
      | 0, ho => simp at ho ⊢; omega
      | i + 1, ho => simp at ho
    · simp [vval]; omega
  · refine ⟨nofun, Nat.le_of_ble_eq_true rfl, fun o ho => ?_, fun i o ho => ?_, ?_⟩
    · simp at ho; omega
    · match i, ho with
      | 0, ho => simp at ho ⊢; omega
      | 1, ho => simp at ho ⊢; omega
      | i + 2, ho => simp at ho
    · simp [vval]; omega
  · refine ⟨nofun, Nat.le_of_ble_eq_true rfl, fun o ho => ?_, fun i o ho => ?_, ?_⟩
    · simp at ho; omega
    · match i, ho with
      | 0, ho => simp at ho ⊢; omega
      | 1, ho => simp at ho ⊢; omega
      | 2, ho => simp at ho ⊢; omega
      | i + 3, ho => simp at ho
    · simp [vval]; omega
noncomputable def octTo (D : List Nat) : Nat → List Nat
  | 0 => []
  | i + 1 => octTo D i ++ pieceOf (D.getD i 0) i
noncomputable def octFrom (D : List Nat) : Nat → Nat → List Nat
  | 0, _ => []
  | j + 1, i => pieceOf (D.getD i 0) i ++ octFrom D j (i + 1)
theorem oct_join (D : List Nat) : ∀ j i, octTo D i ++ octFrom D j i = octTo D (i + j)
  | 0, i => by simp [octFrom]
  | j + 1, i => by rw [octFrom, ← List.append_assoc, show octTo D i ++ pieceOf (D.getD i 0) i = octTo D (i + 1) from rfl, oct_join D j (i + 1), show i + 1 + j = i + (j + 1) by omega]
theorem oct_all (D : List Nat) (m : Nat) : octFrom D m 0 = octTo D m := by
  have := oct_join D m 0
  rwa [Nat.zero_add, show octTo D 0 = [] from rfl, List.nil_append] at this
theorem octTo_len (D : List Nat) (hD : ∀ x ∈ D, x < 262144) : ∀ i, i ≤ D.length → (octTo D i).length ≤ 3 * i
  | 0, _ => Nat.le_refl _
  | i + 1, h => by
    have h1 := octTo_len D hD i (by omega)
    have hm : D.getD i 0 ∈ D := by rw [List.getD, List.getElem?_eq_getElem (by omega)]; exact List.getElem_mem _
    have h2 := (piece_ok i (hD _ hm)).2.1
    rw [octTo, List.length_append]; omega
end Mine
end

noncomputable section
namespace Mine
section
variable {g : Gl} {n : Nat} {sc : Scope} {ρ : List (Str × Lv)} {y : Str} {np pos p₁ : Pos} {f e₁ e₂ : Expr} {r : Addr} {L R : List Nat}
theorem evZ_varint (T : TopF g) (hf : EvV g (n + 1) sc ρ f (.ref 141)) (hm : (y, .lit r ((L ++ R).map dN)) ∈ ρ) (hne : L ≠ []) (hlen : L.length ≤ 3) (h256 : ∀ o ∈ L, o < 256) (hmore : ∀ i o, L[i]? = some o → (o / 64 % 2 = 1 ↔ i + 1 < L.length))
    (hd : (y == ("__debug__" : Str)) = false) (hn : (y == ("__classdict__" : Str)) = false) (he : ∀ env, starEach [.Name y np] env = (false, eval (.Name y np) env) :: starEach [] env)
    (hc : ∀ env, eval (.Call f [.Name y np] [] p₁) env = (do callWith p₁ (← eval f env) [] (backTo p₁ (starEach [.Name y np] env)) (backToKw p₁ (keywordEach [] env)))) :
    EvZ g (n + 1) sc ρ (.Call f [.Name y np] [] p₁) [PT, r] [(y, .lit r (R.map dN))] (fun X h v => Rep X h v (dN (vval L (L.length - 1)))) := fun A env X s E Q o k =>
  Call_ (hf A env X s E _ o fun v s₂ u₂ r₂ => by
    have r₂' : v = .ref 141 := r₂
    subst r₂'
    have o₂ := o.up u₂
    obtain ⟨v, hv, rv⟩ := o₂.cx.vars _ hm
    have rv0 := rv
    obtain ⟨rfl, hrX, hit⟩ := rv
    refine callWith_K o₂.cx.top.k (T.keep 7 _ _ rfl (by decide)) (spliced_more (load_var o₂.cx.fn hv (Calls.spliced_nil ⟨o₂.cx.top.k, ?_⟩) hd hn) (he env)) (he env) rfl
    refine f_varint (n := n) T hne hlen h256 hmore A X s₂ _ _ o₂.bd o₂.cx.top o₂.cx.tab o₂.cx.tabX o₂.cx.live hrX hit fun v s' u hr hit' => ?_
    have cx := o₂.cx
    have inX : ∀ a ∈ [PT, r], a ∈ X := fun a ha => (List.mem_cons.mp ha).elim (fun e => e ▸ cx.tabX) fun ha => (List.mem_singleton.mp ha) ▸ hrX
    have nC : ∀ z c, env.cells.lookup z = some c → c ∉ [PT, r] := fun z c e q => by
      obtain ⟨w, hw⟩ := cx.cel z c e
      exact (List.mem_cons.mp q).elim (fun q => Cell_ne cx.tab hw q) fun q => rv0.ne_cell rfl hw (List.mem_singleton.mp q).symm
    obtain ⟨mL, hnL⟩ := cx.ns
    have nL : env.locals ∉ [PT, r] := fun q => (List.mem_cons.mp q).elim (fun q => Ns_ne cx.tab hnL q) fun q => rv0.ne_ns rfl hnL (List.mem_singleton.mp q).symm
    refine k v s' ((u₂.mono fun z hz => by rw [List.mem_singleton.mp hz]; exact .head _).trans u) ⟨o₂.bd, o₂.sc, { cx with
      top := cx.top.wide u.keep fun a ha => (cx.live a (inX a ha)).2
      tab := u.tab cx.tab
      live := cx.live.up u fun a ha => (List.mem_cons.mp ha).elim (fun e => e ▸ (u.tab cx.tab).live) fun ha => by
        rw [List.mem_singleton.mp ha]
        obtain ⟨_, _, _, _, ⟨o, q, _⟩, _⟩ := hit'
        exact ⟨o, q⟩
      ns := ⟨mL, Heap.Ns.to hnL fun o e => u.keep _ o nL e⟩
      cel := fun z c e => let ⟨w, hw⟩ := cx.cel z c e; ⟨w, Heap.IsCell.to hw fun o q => u.keep _ o (nC z c e) q⟩
      vars := fun p hp => by
        rw [List.mem_singleton.mp hp]
        refine ⟨.ref r, ?_, rfl, hrX, hit'⟩
        rcases hv with ⟨hkk, m, hn, hv⟩ | ⟨hkk, c, hc, hv⟩
        · exact .inl ⟨hkk, m, Heap.Ns.to hn fun o e => u.keep _ o nL e, hv⟩
        · exact .inr ⟨hkk, c, hc, Heap.IsCell.to hv fun o e => u.keep _ o (nC _ _ hc) e⟩ }⟩ hr) (hc env)
theorem ev_and (h₁ : EvD g n sc ρ e₁ (.bool true)) {d : PyData} (h₂ : EvD g n sc ρ e₂ d) : EvD g n sc ρ (.BoolOp .And [e₁, e₂] pos) d := fun A env X s E Q o k =>
  BoolOp_and (h₁ A env X s E _ o fun v s₁ u₁ r₁ => by
    have r₁' : v = .bool true := Rep.inv_bool r₁
    subst r₁'
    exact wpAny_truthy_bool (BoolOp_one (h₂ A env X s₁ E Q (o.up u₁) fun v s₂ u₂ r₂ => k v s₂ (u₁.trans u₂) r₂)))
theorem ev_reduce (T : TopF g) {l : List Nat} {rd jn e : Expr} {sp : Pos} {kk' : Nat} (hl : l.length ≤ 100) (hr : EvV g (n + 3) sc ρ rd (.ref 150)) (hj : EvV g (n + 3) sc ρ jn (.ref 115)) (h : EvD g (n + 3) sc ρ e (dR l))
    (he : ∀ env, starEach [jn, e, .Constant (.str sl) kk' sp] env = (false, eval jn env) :: starEach [e, .Constant (.str sl) kk' sp] env) (he' : ∀ env, starEach [e, .Constant (.str sl) kk' sp] env = (false, eval e env) :: starEach [.Constant (.str sl) kk' sp] env)
    (he'' : ∀ env, starEach [.Constant (.str sl) kk' sp] env = (false, eval (.Constant (.str sl) kk' sp) env) :: starEach [] env) (hp : ∀ env, (backTo pos (starEach [e, .Constant (.str sl) kk' sp] env)).any (·.1) = false)
    (hc : ∀ env, eval (.Call rd [jn, e, .Constant (.str sl) kk' sp] [] pos) env = (do callWith pos (← eval rd env) [] (backTo pos (starEach [jn, e, .Constant (.str sl) kk' sp] env)) (backToKw pos (keywordEach [] env)))) :
    EvD g (n + 3) sc ρ (.Call rd [jn, e, .Constant (.str sl) kk' sp] [] pos) (.str (pa l)) := fun A env X s E Q o k =>
  Call_ (hr A env X s E _ o fun v s₁ u₁ r₁ => by
    have r₁' : v = .ref 150 := r₁
    subst r₁'
    refine callWith_K (o.up u₁).cx.top.k (T.keep 9 _ _ rfl (by decide)) (spliced_more (hj A env X s₁ E _ (o.up u₁) fun v s₂ u₂ r₂ => ?_) (he env)) (he env) (hp env)
    have r₂' : v = .ref 115 := r₂
    subst r₂'
    refine spliced_more (h A env X s₂ E _ ((o.up u₁).up u₂) fun v1 s₃ u₃ r₃ => ?_) (he' env)
    refine spliced_more (ev_str (g := g) (n := n + 3) (sc := sc) (ρ := ρ) (x := sl) A env X s₃ E _ (((o.up u₁).up u₂).up u₃) fun v2 s₄ u₄ r₄ => Calls.spliced_nil ?_) (he'' env)
    have o₄ := (((o.up u₁).up u₂).up u₃).up u₄
    refine ⟨o₄.cx.top.k, ?_⟩
    obtain ⟨ob, fd, H, _⟩ := T.fn 2 115 14 rfl
    refine f_reduce (n := n + 2) T (fv := 115) (ac := fun i => .str (pa (l.take i))) (IterOf.list (l.map fun i => .str (nmS i))) rfl (.str _) A X s₄ _ _ o₄.bd o₄.cx.top o₄.cx.tab o₄.cx.tabX o₄.cx.live (o₄.lv (l := .dat (dR l)) Up.refl ((((o.up u₁).up u₂).up u₃).lv u₄ r₃)) r₄ (fun s' u => ?_) (fun i d hd A' X' s' a b E' Q' B' tp' tab' hX' live' u' ra rb kk => ?_) fun v s' u hv => ?_
    · have := (o₄.cx.top.up o₄.cx.tab u).k _ _ H.at_
      obtain ⟨oc, od, dt, sl'⟩ := ob
      have hdt : dt = .func fd := H.data
      subst hdt
      exact ⟨oc, od, fd, sl', this⟩
    · obtain ⟨rfl, _, hi⟩ := map_get (F := fun i => PyData.str (nmS i)) (d0 := 0) hd
      have e1 : l.take (i + 1) = l.take i ++ [l.getD i 0] := by rw [List.take_add_one, List.getD, List.getElem?_eq_getElem hi]; rfl
      rw [e1] at kk
      exact f_joinP (n := n) T (l := l.take i) (i := l.getD i 0) (by rw [List.length_take]; omega) A' X' s' [a, b] E' Q' B' tp' tab' (hX'.1 _ o₄.cx.tabX) live' (.cons ra (.cons rb .nil)) kk
    · rw [List.length_map, List.take_length] at hv
      exact k v s' ((((u₁.trans u₂).trans u₃).trans u₄).trans u) hv) (hc env)
end
end Mine
end

noncomputable section
namespace Mine
theorem pigeon : ∀ (n : Nat) (f : Nat → Nat), (∀ i, i ≤ n → f i < n) → ∃ i j, i < j ∧ j ≤ n ∧ f i = f j
  | 0, f, h => absurd (h 0 (Nat.le_refl _)) (Nat.not_lt_zero _)
  | n + 1, f, h => by
    by_cases hx : ∃ i, i ≤ n ∧ f i = f (n + 1)
    · obtain ⟨i, hi, e⟩ := hx
      exact ⟨i, n + 1, by omega, Nat.le_refl _, e⟩
    · have hne : ∀ i, i ≤ n → f i ≠ f (n + 1) := fun i hi e => hx ⟨i, hi, e⟩
      obtain ⟨i, j, hij, hj, e⟩ := pigeon n (fun i => if f (n + 1) < f i then f i - 1 else f i) fun i hi => by
        have h1 := h i (by omega)
        have h2 := h (n + 1) (Nat.le_refl _)
        have h3 := hne i hi
        split <;> omega
      have h3 := hne i (by omega)
      have h4 := hne j hj
      refine ⟨i, j, hij, by omega, ?_⟩
      split at e <;> split at e <;> omega
theorem pt_add (row : List Nat) (t a : Nat) : ∀ b, pt row t (a + b) = pt row (pt row t a) b
  | 0 => rfl
  | b + 1 => by rw [Nat.add_succ, pt, pt, pt_add row t a b]
section
variable {row : List Nat} (hrow : ∀ x ∈ row, x < row.length)
include hrow
theorem ring_of {t d : Nat} (h1 : 1 ≤ d) (h2 : d ≤ row.length) (e : pt row t d = t) : onRing row t = true := by
  unfold onRing way
  refine decide_eq_true ?_
  rw [List.mem_iff_getElem?]
  refine ⟨d - 1, ?_⟩
  rw [List.getElem?_drop, List.getElem?_map, List.getElem?_range (by omega), show 1 + (d - 1) = d by omega]
  rw [Option.map_some, e]
theorem of_ring {t : Nat} (h : onRing row t = true) : ∃ d, 1 ≤ d ∧ d ≤ row.length ∧ pt row t d = t := by
  unfold onRing way at h
  have h := of_decide_eq_true h
  rw [List.mem_iff_getElem?] at h
  obtain ⟨i, e⟩ := h
  rw [List.getElem?_drop, List.getElem?_map] at e
  cases e' : (List.range (row.length + 1))[1 + i]? with
  | none => rw [e'] at e; cases e
  | some k =>
    rw [e'] at e
    obtain ⟨hlt, rfl⟩ := List.getElem?_eq_some_iff.mp e'
    rw [List.length_range] at hlt
    rw [List.getElem_range] at e
    exact ⟨1 + i, by omega, by omega, Option.some.inj e⟩
theorem mem_spine {x : Nat} : x ∈ spine row ↔ ∃ t, t < row.length ∧ onRing row t = true ∧ row.getD t 0 = x := by
  unfold spine
  rw [List.mem_map]
  constructor
  · rintro ⟨t, ht, e⟩
    obtain ⟨h1, h2⟩ := List.mem_filter.mp ht
    exact ⟨t, List.mem_range.mp h1, h2, e⟩
  · rintro ⟨t, h1, h2, e⟩
    exact ⟨t, List.mem_filter.mpr ⟨List.mem_range.mpr h1, h2⟩, e⟩
theorem meets {t : Nat} (ht : t < row.length) : ∃ k, k ≤ row.length ∧ pt row t k ∈ spine row := by
  obtain ⟨i, j, hij, hj, e⟩ := pigeon row.length (pt row t) fun i _ => pt_lt hrow ht i
  refine ⟨i + 1, by omega, (mem_spine hrow).mpr ⟨pt row t i, pt_lt hrow ht i, ring_of hrow (d := j - i) (by omega) (by omega) ?_, rfl⟩⟩
  rw [← pt_add, show i + (j - i) = j by omega, e]
theorem turns_ne {t : Nat} (ht : t < row.length) : turns row t ≠ [] := fun q => by
  obtain ⟨k, hk, hs⟩ := meets hrow ht
  have : k ∈ turns row t := List.mem_filter.mpr ⟨List.mem_range.mpr (by omega), decide_eq_true hs⟩
  rw [q] at this; cases this
theorem spine_ne (h0 : 0 < row.length) : spine row ≠ [] := fun q => by
  obtain ⟨k, hk, hs⟩ := meets hrow h0
  rw [q] at hs; cases hs
theorem spine_ring {x : Nat} (hx : x < row.length) : x ∈ spine row ↔ onRing row x = true := by
  rw [mem_spine hrow]
  constructor
  · rintro ⟨t, ht, hr, rfl⟩
    obtain ⟨d, h1, h2, e⟩ := of_ring hrow hr
    refine ring_of hrow (d := d) h1 h2 ?_
    show pt row (pt row t 1) d = pt row t 1
    rw [← pt_add, Nat.add_comm, pt_add, e]
  · intro hr
    obtain ⟨d, h1, h2, e⟩ := of_ring hrow hr
    obtain ⟨c, rfl⟩ : ∃ c, d = c + 1 := ⟨d - 1, by omega⟩
    refine ⟨pt row x c, pt_lt hrow hx c, ring_of hrow (d := c + 1) h1 h2 ?_, e⟩
    rw [← pt_add, Nat.add_comm, pt_add, e]
end
end Mine
end

noncomputable section
namespace Mine
theorem idxOf_get : ∀ (l : List Nat) (x : Nat), x ∈ l → l[l.idxOf x]? = some x
  | [], _, h => nomatch h
  | a :: l, x, h => by
    by_cases e : a = x
    · subst e; simp
    · have hx : x ∈ l := (List.mem_cons.mp h).resolve_left fun q => e q.symm
      rw [List.idxOf_cons, show (a == x) = false from beq_false_of_ne e]
      exact idxOf_get l x hx
section
variable {row : List Nat} (hrow : ∀ x ∈ row, x < row.length)
include hrow
theorem ring_inj {s t : Nat} (hs : onRing row s = true) (ht : onRing row t = true) (e : row.getD s 0 = row.getD t 0) : s = t := by
  obtain ⟨c, h1, _, e1⟩ := of_ring hrow hs
  obtain ⟨d, h2, _, e2⟩ := of_ring hrow ht
  have mul : ∀ {x p : Nat}, pt row x p = x → ∀ k, pt row x (p * k) = x := fun {x p} h k => by
    induction k with
    | zero => rfl
    | succ k ih => rw [Nat.mul_succ, pt_add, ih, h]
  have e1' := mul e1 d
  have e2' := mul e2 c
  rw [Nat.mul_comm] at e2'
  obtain ⟨q, hq⟩ : ∃ q, c * d = q + 1 := ⟨c * d - 1, by have : 0 < c * d := Nat.mul_pos h1 h2; omega⟩
  rw [hq, Nat.add_comm, pt_add] at e1' e2'
  have : pt row s 1 = pt row t 1 := e
  rw [this] at e1'
  rw [← e1', e2']
end
theorem first_is {p : Nat → Bool} {m k : Nat} (hk : k < m) (hp : p k = true) (hmin : ∀ j, j < k → p j = false) : ((List.range m).filter p).headD 0 = k := by
  have h : (List.range m).find? p = some k := by
    rw [List.find?_range_eq_some]
    exact ⟨hp, List.mem_range.mpr hk, fun j hj => by simp [hmin j hj]⟩
  rw [← List.head?_filter] at h
  cases e : (List.range m).filter p with
  | nil => rw [e] at h; cases h
  | cons a l => rw [e] at h; exact Option.some.inj h
theorem first_of {p : Nat → Bool} : ∀ k, p k = true → ∃ f, f ≤ k ∧ p f = true ∧ ∀ j, j < f → p j = false
  | 0, h => ⟨0, Nat.le_refl _, h, fun j hj => absurd hj (Nat.not_lt_zero _)⟩
  | k + 1, h => by
    by_cases q : ∃ j, j ≤ k ∧ p j = true
    · obtain ⟨j, hj, hpj⟩ := q
      by_cases hlt : p k = true
      · obtain ⟨f, h1, h2, h3⟩ := first_of k hlt
        exact ⟨f, by omega, h2, h3⟩
      · exact (Nat.strongRecOn (motive := fun j => j ≤ k → p j = true → ∃ f, f ≤ k + 1 ∧ p f = true ∧ ∀ j, j < f → p j = false) j fun j ih hj hpj => by
          by_cases r : ∃ i, i < j ∧ p i = true
          · obtain ⟨i, hi, hpi⟩ := r; exact ih i hi (by omega) hpi
          · exact ⟨j, by omega, hpj, fun i hi => by
              cases e : p i with
              | false => rfl
              | true => exact absurd ⟨i, hi, e⟩ r⟩) hj hpj
    · exact ⟨k + 1, Nat.le_refl _, h, fun j hj => by
        cases e : p j with
        | false => rfl
        | true => exact absurd ⟨j, by omega, e⟩ q⟩
section
variable {row : List Nat} (hrow : ∀ x ∈ row, x < row.length)
include hrow
theorem turn_is {t k : Nat} (hk : k ≤ row.length) (hp : pt row t k ∈ spine row) (hmin : ∀ j, j < k → pt row t j ∉ spine row) : turn row t = k := by
  unfold turn turns
  exact first_is (by omega) (decide_eq_true hp) fun j hj => decide_eq_false (hmin j hj)
theorem turn_has {t : Nat} (ht : t < row.length) : turn row t ≤ row.length ∧ pt row t (turn row t) ∈ spine row ∧ ∀ j, j < turn row t → pt row t j ∉ spine row := by
  obtain ⟨k, hk, hs⟩ := meets hrow ht
  obtain ⟨f, h1, h2, h3⟩ := first_of (p := fun k => decide (pt row t k ∈ spine row)) k (decide_eq_true hs)
  have h2' := of_decide_eq_true h2
  have h3' : ∀ j, j < f → pt row t j ∉ spine row := fun j hj => of_decide_eq_false (h3 j hj)
  rw [turn_is hrow (by omega) h2' h3']
  exact ⟨by omega, h2', h3'⟩
theorem down_ring {t : Nat} (ht : t < row.length) (hr : onRing row t = true) : down row t = (spine row).take ((spine row).idxOf t + 1) := by
  have h0 : turn row t = 0 := turn_is hrow (Nat.zero_le _) ((spine_ring hrow ht).mpr hr) fun j hj => absurd hj (Nat.not_lt_zero _)
  unfold down
  rw [h0]
  simp [pt]
theorem down_off {t : Nat} (ht : t < row.length) (hr : onRing row t ≠ true) : down row t = down row (row.getD t 0) ++ [t] := by
  obtain ⟨h1, h2, h3⟩ := turn_has hrow ht
  have hns : t ∉ spine row := fun q => hr ((spine_ring hrow ht).mp q)
  obtain ⟨f, hf⟩ : ∃ f, turn row t = f + 1 := by
    cases e : turn row t with
    | zero => rw [e] at h2; exact absurd h2 hns
    | succ f => exact ⟨f, rfl⟩
  rw [hf] at h1 h2 h3
  have sh : ∀ j, pt row t (j + 1) = pt row (row.getD t 0) j := fun j => by rw [Nat.add_comm, pt_add]; rfl
  have h4 : turn row (row.getD t 0) = f := turn_is hrow (by omega) (by rw [← sh]; exact h2) fun j hj => by rw [← sh]; exact h3 _ (by omega)
  have tk : ∀ (s k : Nat), k ≤ row.length + 1 → (way row s row.length).take k = (List.range k).map (pt row s) := fun s k hk => by
    unfold way
    rw [← List.map_take, List.take_range, Nat.min_eq_left hk]
  unfold down
  rw [hf, h4, sh, tk t (f + 1) (by omega), tk _ f (by omega), List.range_succ_eq_map, List.map_cons, List.reverse_cons, List.map_map, List.append_assoc]
  congr 3
  exact List.map_congr_left fun j _ => sh j
end
end Mine
end

noncomputable section
namespace Mine
theorem getD_map_range (a : List Nat) : (List.range a.length).map (fun k => a.getD k 0) = a := by
  apply List.ext_getElem
  · simp
  · intro i h1 h2; simp [List.getD, List.getElem?_eq_getElem h2]
theorem shd_two {a m : List Nat} : shd [a, m] = a ↔ a <+: m := by
  constructor
  · intro h
    by_cases ha : a = []
    · rw [ha]; exact List.nil_prefix
    have hl : ((List.range a.length).filter (same [a, m])).length = a.length := by
      have := congrArg List.length h
      unfold shd at this
      rwa [List.length_map] at this
    have hall : ∀ k ∈ List.range a.length, same [a, m] k = true := by
      have := List.length_filter_eq_length_iff.mp (hl.trans (List.length_range).symm)
      exact this
    have hpos : 0 < a.length := List.length_pos_iff.mpr ha
    have hk := hall (a.length - 1) (List.mem_range.mpr (by omega))
    unfold same at hk
    rw [List.all_eq_true] at hk
    have h2 := of_decide_eq_true (hk m (.tail _ (.head _)))
    have e : a.length - 1 + 1 = a.length := by omega
    rw [show ([a, m] : List (List Nat)).headD [] = a from rfl, e, List.take_length] at h2
    rw [← h2]; exact List.take_prefix _ _
  · intro h
    obtain ⟨r, rfl⟩ := h
    unfold shd
    rw [show ([a, a ++ r] : List (List Nat)).headD [] = a from rfl, List.filter_eq_self.mpr, getD_map_range]
    intro k hk
    have hk' := List.mem_range.mp hk
    unfold same
    rw [List.all_eq_true]
    intro x hx
    refine decide_eq_true ?_
    rw [show ([a, a ++ r] : List (List Nat)).headD [] = a from rfl]
    rcases List.mem_cons.mp hx with rfl | hx
    · rfl
    · rw [List.mem_singleton.mp hx, List.take_append_of_le_length (by omega)]
section
variable {row : List Nat} (hrow : ∀ x ∈ row, x < row.length)
include hrow
theorem down_ends {t : Nat} (ht : t < row.length) : ∃ q, down row t = q ++ [t] := by
  by_cases hr : onRing row t = true
  · have hm := (spine_ring hrow ht).mpr hr
    have hg := idxOf_get _ _ hm
    rw [down_ring hrow ht hr, List.take_add_one, hg]
    exact ⟨_, rfl⟩
  · exact ⟨_, down_off hrow ht hr⟩
theorem down_front {t : Nat} (ht : t < row.length) : down row t <+: spine row ↔ onRing row t = true := by
  constructor
  · intro h
    obtain ⟨q, e⟩ := down_ends hrow ht
    have : t ∈ spine row := h.subset (by rw [e]; simp)
    exact (spine_ring hrow ht).mp this
  · intro hr
    rw [down_ring hrow ht hr]; exact List.take_prefix _ _
theorem getD_mapR {f : Nat → List Nat} {n i : Nat} (h : i < n) : ((List.range n).map f).getD i [] = f i := by
  rw [List.getD, List.getElem?_map, List.getElem?_range h]; rfl
theorem inner_made : inner ((List.range row.length).map (down row)) (spine row) = (List.range row.length).filter (onRing row) := by
  unfold inner
  rw [List.length_map, List.length_range]
  apply List.filter_congr
  intro i hi
  have hi' := List.mem_range.mp hi
  rw [getD_mapR hrow hi', Bool.eq_iff_iff, decide_eq_true_iff, shd_two]
  exact down_front hrow hi'
theorem row_lt {t : Nat} (ht : t < row.length) : row.getD t 0 < row.length := pt_lt hrow ht 1
theorem upper_snoc (q : List Nat) (u v : Nat) : upper (q ++ [u] ++ [v]) = u := by
  unfold upper; simp [List.getD]
theorem off_long {i : Nat} (hi : i < row.length) (h : onRing row i ≠ true) : ∃ q, down row i = q ++ [row.getD i 0] ++ [i] := by
  obtain ⟨q, e⟩ := down_ends hrow (row_lt hrow hi)
  exact ⟨q, by rw [down_off hrow hi h, e]⟩
theorem read_one {i : Nat} (hi : i < row.length) : readOne ((List.range row.length).map (down row)) (spine row) i = row.getD i 0 := by
  unfold readOne
  rw [inner_made hrow]
  split
  · rename_i hm
    have hg := idxOf_get _ _ hm
    rw [show spine row = ((List.range row.length).filter (onRing row)).map fun t => row.getD t 0 from rfl]
    rw [List.getD, List.getElem?_map, hg]; rfl
  · rename_i hm
    have hr : onRing row i ≠ true := fun q => hm (List.mem_filter.mpr ⟨List.mem_range.mpr hi, q⟩)
    obtain ⟨q, e⟩ := off_long hrow hi hr
    rw [getD_mapR hrow hi, e, upper_snoc hrow]
theorem read_made : readL ((List.range row.length).map (down row)) (spine row) = row := by
  unfold readL
  rw [List.length_map, List.length_range]
  refine Eq.trans (List.map_congr_left fun i hi => read_one hrow (List.mem_range.mp hi)) (getD_map_range row)
end
end Mine
end

noncomputable section
namespace Mine
theorem shd_root {L : List (List Nat)} {r : Nat} (hne : L ≠ []) (h : ∀ l ∈ L, ∃ q, l = r :: q) (hr : [r] ∈ L) : shd L = [r] := by
  obtain ⟨a, L', hL⟩ : ∃ a L', L = a :: L' := by cases L with | nil => exact absurd rfl hne | cons a b => exact ⟨a, b, rfl⟩
  have hh : L.headD [] = a := by rw [hL]; rfl
  obtain ⟨q, rfl⟩ := h a (by rw [hL]; exact .head _)
  unfold shd
  rw [hh, List.length_cons, List.range_succ_eq_map, List.filter_cons_of_pos, List.filter_map, List.filter_eq_nil_iff.mpr]
  · rfl
  · intro k hk hs
    have hk' := List.mem_range.mp hk
    have hs' : same L (k + 1) = true := hs
    unfold same at hs'
    rw [List.all_eq_true] at hs'
    have := of_decide_eq_true (hs' [r] hr)
    rw [hh] at this
    have h2 := congrArg List.length this
    rw [List.length_take, List.length_take, List.length_cons, List.length_cons, List.length_nil] at h2
    omega
  · unfold same
    rw [List.all_eq_true]
    intro l hl
    obtain ⟨p, rfl⟩ := h l hl
    rw [hh]; simp
section
variable {row : List Nat} (hrow : ∀ x ∈ row, x < row.length)
include hrow
theorem spine_len : (spine row).length ≤ row.length := by
  unfold spine; rw [List.length_map]; exact Nat.le_trans (List.length_filter_le _ _) (by rw [List.length_range]; exact Nat.le_refl _)
theorem down_root (h0 : 0 < row.length) : ∃ r, (∀ t, t < row.length → ∃ q, down row t = r :: q) ∧ r < row.length ∧ down row r = [r] := by
  cases e : spine row with
  | nil => exact absurd e (spine_ne hrow h0)
  | cons r S =>
    have hm : r ∈ spine row := by rw [e]; exact .head _
    obtain ⟨t, ht, _, er⟩ := (mem_spine hrow).mp hm
    have hr : r < row.length := er ▸ row_lt hrow ht
    refine ⟨r, fun t ht => ?_, hr, ?_⟩
    · unfold down; rw [e, List.take_succ_cons]; exact ⟨_, rfl⟩
    · rw [down_ring hrow hr ((spine_ring hrow hr).mp hm), e]; simp
theorem shd_made (h0 : 0 < row.length) : ∃ r, r < row.length ∧ shd ((List.range row.length).map (down row)) = [r] := by
  obtain ⟨r, h1, h2, h3⟩ := down_root hrow h0
  refine ⟨r, h2, shd_root (fun q => ?_) (fun l hl => ?_) ?_⟩
  · have := congrArg List.length q
    rw [List.length_map, List.length_range, List.length_nil] at this
    omega
  · obtain ⟨t, ht, rfl⟩ := List.mem_map.mp hl; exact h1 t (List.mem_range.mp ht)
  · exact List.mem_map.mpr ⟨r, List.mem_range.mpr h2, h3⟩
theorem down_lt {t : Nat} (ht : t < row.length) : ∀ x ∈ down row t, x < row.length := fun x hx => by
  unfold down at hx
  rcases List.mem_append.mp hx with q | q
  · obtain ⟨u, hu, _, rfl⟩ := (mem_spine hrow).mp (List.mem_of_mem_take q); exact row_lt hrow hu
  · obtain ⟨j, _, rfl⟩ := List.mem_map.mp (List.mem_of_mem_take (List.mem_reverse.mp q)); exact pt_lt hrow ht j
theorem down_len {t : Nat} (ht : t < row.length) : (down row t).length ≤ 2 * row.length + 1 := by
  have h1 := spine_len hrow
  have h2 : (way row t row.length).length = row.length + 1 := way_len
  unfold down
  rw [List.length_append, List.length_take, List.length_reverse, List.length_take]
  omega
theorem down_last (h0 : 0 < row.length) : down row ((spine row).getLastD 0) = spine row ∧ (spine row).getLastD 0 < row.length := by
  have hne := spine_ne hrow h0
  obtain ⟨q, l, e⟩ : ∃ q l, spine row = q ++ [l] := ⟨_, _, (List.dropLast_concat_getLast hne).symm⟩
  have hm : l ∈ spine row := by rw [e]; simp
  obtain ⟨t, ht, _, er⟩ := (mem_spine hrow).mp hm
  have hl : l < row.length := er ▸ row_lt hrow ht
  have hg : (spine row).getLastD 0 = l := by rw [e]; simp
  rw [hg]
  refine ⟨?_, hl⟩
  rw [down_ring hrow hl ((spine_ring hrow hl).mp hm)]
  have hnd : (spine row).Nodup := by
    unfold spine
    refine List.pairwise_map.mpr (List.Pairwise.imp_of_mem (fun {a b} ha hb hab q => hab ?_) (List.Pairwise.filter _ List.nodup_range))
    exact ring_inj hrow (List.mem_filter.mp ha).2 (List.mem_filter.mp hb).2 q
  have hnq : l ∉ q := by
    rw [e] at hnd
    intro hq
    exact (List.pairwise_append.mp hnd).2.2 l hq l (.head _) rfl
  rw [e, List.idxOf_append, if_neg hnq]
  simp
  exact List.take_of_length_le (by simp)
end
end Mine
end

noncomputable section
namespace Mine
structure Tree (P : List (List Nat)) : Prop where
  ends : ∀ v, v < P.length → ∃ q, P.getD v [] = q ++ [v]
  step : ∀ v q, v < P.length → P.getD v [] = q ++ [v] → q = [] ∨ ∃ u, u < P.length ∧ P.getD u [] = q
  nodup : ∀ v, v < P.length → (P.getD v []).Nodup
  root : ∃ r, r < P.length ∧ P.getD r [] = [r] ∧ ∀ v, v < P.length → ∃ q, P.getD v [] = r :: q
section
variable {P : List (List Nat)} (T : Tree P)
include T
theorem front_of : ∀ (k w : Nat), (P.getD w []).length = k → w < P.length → ∀ i ∈ P.getD w [], i < P.length ∧ P.getD i [] <+: P.getD w [] := fun k => by
  induction k with
  | zero =>
    intro w hk hw i hi
    rw [List.length_eq_zero_iff.mp hk] at hi; cases hi
  | succ k ih =>
    intro w hk hw i hi
    obtain ⟨q, e⟩ := T.ends w hw
    rw [e] at hi
    rcases List.mem_append.mp hi with hq | hq
    · rcases T.step w q hw e with rfl | ⟨u, hu, eu⟩
      · cases hq
      · have hl : (P.getD u []).length = k := by
          rw [e, List.length_append] at hk; rw [eu]; simpa using hk
        obtain ⟨h1, h2⟩ := ih u hl hu i (by rw [eu]; exact hq)
        exact ⟨h1, h2.trans (by rw [eu, e]; exact List.prefix_append _ _)⟩
    · rw [List.mem_singleton.mp hq]; exact ⟨hw, List.prefix_rfl⟩
theorem front_iff {w i : Nat} (hw : w < P.length) (hi : i < P.length) : P.getD i [] <+: P.getD w [] ↔ i ∈ P.getD w [] := by
  constructor
  · intro h
    obtain ⟨q, e⟩ := T.ends i hi
    exact h.subset (by rw [e]; simp)
  · exact fun h => (front_of T _ w rfl hw i h).2
theorem inner_tree {w : Nat} (hw : w < P.length) : inner P (P.getD w []) = (List.range P.length).filter fun i => decide (i ∈ P.getD w []) := by
  unfold inner
  apply List.filter_congr
  intro i hi
  have hi' := List.mem_range.mp hi
  rw [Bool.eq_iff_iff, decide_eq_true_iff, decide_eq_true_iff, shd_two]
  exact front_iff T hw hi'
theorem readL_len {m : List Nat} : (readL P m).length = P.length := by unfold readL; simp
theorem readL_get {m : List Nat} {i : Nat} (hi : i < P.length) : (readL P m).getD i 0 = readOne P m i := by
  unfold readL; rw [List.getD, List.getElem?_map, List.getElem?_range hi]; rfl
theorem inner_len {w : Nat} (hw : w < P.length) : (inner P (P.getD w [])).length = (P.getD w []).length := by
  rw [inner_tree T hw]
  have hnd := T.nodup w hw
  have hlt : ∀ i ∈ P.getD w [], i < P.length := fun i hi => (front_of T _ w rfl hw i hi).1
  generalize P.getD w [] = m at hnd hlt
  have h1 : ((List.range P.length).filter fun i => decide (i ∈ m)).Perm m := by
    refine (List.perm_ext_iff_of_nodup (List.Pairwise.filter _ List.nodup_range) hnd).mpr fun i => ?_
    rw [List.mem_filter, decide_eq_true_iff, List.mem_range]
    exact ⟨fun h => h.2, fun h => ⟨hlt i h, h⟩⟩
  exact h1.length_eq
end
end Mine
end

noncomputable section
namespace Mine
theorem getD_of {l : List Nat} {k : Nat} (h : k < l.length) : l[k]? = some (l.getD k 0) := by
  rw [List.getD, List.getElem?_eq_getElem h]; rfl
theorem idxOf_nodup : ∀ {l : List Nat} {k x : Nat}, l.Nodup → l[k]? = some x → l.idxOf x = k
  | [], k, x, _, h => by simp at h
  | a :: l, 0, x, _, h => by simp at h; subst h; simp
  | a :: l, k + 1, x, hn, h => by
    have hn' := List.pairwise_cons.mp hn
    have hx : x ∈ l := List.mem_of_getElem? (by simpa using h)
    have hne : a ≠ x := hn'.1 x hx
    rw [List.idxOf_cons, show (a == x) = false from beq_false_of_ne hne]
    show l.idxOf x + 1 = k + 1
    rw [idxOf_nodup hn'.2 (by simpa using h)]
section
variable {P : List (List Nat)} (T : Tree P) {w : Nat} (hw : w < P.length)
include T hw
theorem mem_inner {i : Nat} : i ∈ inner P (P.getD w []) ↔ i ∈ P.getD w [] := by
  rw [inner_tree T hw, List.mem_filter, decide_eq_true_iff, List.mem_range]
  exact ⟨fun h => h.2, fun h => ⟨(front_of T _ w rfl hw i h).1, h⟩⟩
theorem row_on {i : Nat} (hi : i ∈ P.getD w []) : (readL P (P.getD w [])).getD i 0 = (P.getD w []).getD ((inner P (P.getD w [])).idxOf i) 0 := by
  rw [readL_get T (front_of T _ w rfl hw i hi).1]
  unfold readOne
  rw [if_pos ((mem_inner T hw).mpr hi)]
theorem row_on_get {i : Nat} (hi : i ∈ P.getD w []) : (P.getD w [])[(inner P (P.getD w [])).idxOf i]? = some ((readL P (P.getD w [])).getD i 0) := by
  rw [row_on T hw hi]
  have h1 : (inner P (P.getD w [])).idxOf i < (P.getD w []).length := by
    rw [← inner_len T hw]; exact List.idxOf_lt_length_of_mem ((mem_inner T hw).mpr hi)
  exact getD_of h1
theorem row_off {i : Nat} (hi : i < P.length) (hm : i ∉ P.getD w []) : ∃ u, u < P.length ∧ (readL P (P.getD w [])).getD i 0 = u ∧ P.getD i [] = P.getD u [] ++ [i] := by
  obtain ⟨q, e⟩ := T.ends i hi
  obtain ⟨r, hr, er, hall⟩ := T.root
  rcases T.step i q hi e with rfl | ⟨u, hu, eu⟩
  · exfalso
    obtain ⟨p, ep⟩ := hall i hi
    rw [e] at ep
    have : i = r := by simpa using (List.cons.inj ep).1
    obtain ⟨p', ep'⟩ := hall w hw
    exact hm (by rw [ep', this]; exact .head _)
  · refine ⟨u, hu, ?_, by rw [e, eu]⟩
    rw [readL_get T hi]
    unfold readOne
    rw [if_neg fun h => hm ((mem_inner T hw).mp h), e]
    obtain ⟨p, ep⟩ := T.ends u hu
    rw [← eu, ep]
    unfold upper; simp [List.getD]
theorem row_lt' : ∀ x ∈ readL P (P.getD w []), x < (readL P (P.getD w [])).length := fun x hx => by
  rw [readL_len T]
  obtain ⟨i, hi, e⟩ := List.mem_map.mp hx
  have hi' := List.mem_range.mp hi
  rw [← readL_get T hi'] at e
  by_cases hm : i ∈ P.getD w []
  · have := List.mem_of_getElem? (row_on_get T hw hm)
    rw [e] at this
    exact (front_of T _ w rfl hw x this).1
  · obtain ⟨u, hu, eu, _⟩ := row_off T hw hi' hm
    rw [← e, eu]; exact hu
theorem row_inj {i j : Nat} (hi : i ∈ P.getD w []) (hj : j ∈ P.getD w []) (e : (readL P (P.getD w [])).getD i 0 = (readL P (P.getD w [])).getD j 0) : i = j := by
  have h1 := row_on_get T hw hi
  have h2 := row_on_get T hw hj
  rw [e] at h1
  have h3 := idxOf_nodup (T.nodup w hw) h1
  have h4 := idxOf_nodup (T.nodup w hw) h2
  have g1 := idxOf_get _ _ ((mem_inner T hw).mpr hi)
  have g2 := idxOf_get _ _ ((mem_inner T hw).mpr hj)
  rw [← h3.symm.trans h4] at g2
  rw [g1] at g2
  exact Option.some.inj g2
theorem pt_on {i : Nat} (hi : i ∈ P.getD w []) : ∀ k, pt (readL P (P.getD w [])) i k ∈ P.getD w []
  | 0 => hi
  | k + 1 => List.mem_of_getElem? (row_on_get T hw (pt_on hi k))
theorem ring_tree {i : Nat} (hi : i < P.length) : onRing (readL P (P.getD w [])) i = true ↔ i ∈ P.getD w [] := by
  constructor
  · intro h
    obtain ⟨d, h1, _, e⟩ := of_ring (row_lt' T hw) h
    have key : ∀ d, pt (readL P (P.getD w [])) i (d + 1) ∈ P.getD w [] ∨ ((P.getD (pt (readL P (P.getD w [])) i (d + 1)) []).length < (P.getD i []).length ∧ pt (readL P (P.getD w [])) i (d + 1) < P.length) := fun d => by
      have stp : ∀ j, j < P.length → (readL P (P.getD w [])).getD j 0 ∈ P.getD w [] ∨ ((P.getD ((readL P (P.getD w [])).getD j 0) []).length < (P.getD j []).length ∧ (readL P (P.getD w [])).getD j 0 < P.length) := fun j hj => by
        by_cases hm : j ∈ P.getD w []
        · exact .inl (List.mem_of_getElem? (row_on_get T hw hm))
        · obtain ⟨u, hu, eu, ep⟩ := row_off T hw hj hm
          rw [eu, ep, List.length_append]
          exact .inr ⟨by simp, hu⟩
      induction d with
      | zero => exact stp i hi
      | succ d ih =>
        rcases ih with h | ⟨h, hl⟩
        · exact .inl (List.mem_of_getElem? (row_on_get T hw h))
        · rcases stp _ hl with h' | ⟨h', hl'⟩
          · exact .inl h'
          · exact .inr ⟨Nat.lt_trans h' h, hl'⟩
    obtain ⟨c, rfl⟩ : ∃ c, d = c + 1 := ⟨d - 1, by omega⟩
    have := key c
    rw [e] at this
    exact this.elim id fun h => absurd h.1 (Nat.lt_irrefl _)
  · intro hm
    obtain ⟨a, b, hab, hb, e⟩ := pigeon (readL P (P.getD w [])).length (pt (readL P (P.getD w [])) i) fun k _ => pt_lt (row_lt' T hw) (by rw [readL_len T]; exact hi) k
    have peel : ∀ a b, pt (readL P (P.getD w [])) i a = pt (readL P (P.getD w [])) i (a + b) → pt (readL P (P.getD w [])) i b = i := fun a => by
      induction a with
      | zero => intro b h; rw [Nat.zero_add] at h; exact h.symm
      | succ a ih =>
        intro b h
        rw [Nat.add_right_comm] at h
        exact ih b (row_inj T hw (pt_on T hw hm a) (pt_on T hw hm (a + b)) h)
    exact ring_of (row_lt' T hw) (d := b - a) (by omega) (by omega) (peel a (b - a) (by rw [show a + (b - a) = b by omega]; exact e))
end
end Mine
end

noncomputable section
namespace Mine
section
variable {P : List (List Nat)} (T : Tree P) {w : Nat} (hw : w < P.length)
include T hw
theorem spine_tree : spine (readL P (P.getD w [])) = P.getD w [] := by
  have e : spine (readL P (P.getD w [])) = (inner P (P.getD w [])).map fun t => (readL P (P.getD w [])).getD t 0 := by
    unfold spine
    rw [inner_tree T hw, readL_len T]
    congr 1
    apply List.filter_congr
    intro i hi
    rw [Bool.eq_iff_iff, decide_eq_true_iff]
    exact ring_tree T hw (List.mem_range.mp hi)
  rw [e]
  have hl := inner_len T hw
  apply List.ext_getElem?
  intro k
  rw [List.getElem?_map]
  cases hk : (inner P (P.getD w []))[k]? with
  | none =>
    rw [List.getElem?_eq_none_iff] at hk
    rw [List.getElem?_eq_none (by omega)]; rfl
  | some x =>
    have hx : x ∈ P.getD w [] := (mem_inner T hw).mp (List.mem_of_getElem? hk)
    have hnd : (inner P (P.getD w [])).Nodup := by rw [inner_tree T hw]; exact List.Pairwise.filter _ List.nodup_range
    have := row_on_get T hw hx
    rw [idxOf_nodup hnd hk] at this
    rw [this]; rfl
theorem down_tree : ∀ (k i : Nat), (P.getD i []).length = k → i < P.length → down (readL P (P.getD w [])) i = P.getD i [] := fun k => by
  have hr := row_lt' T hw
  induction k with
  | zero =>
    intro i hk hi
    obtain ⟨q, e⟩ := T.ends i hi
    rw [e] at hk; simp at hk
  | succ k ih =>
    intro i hk hi
    have hi' : i < (readL P (P.getD w [])).length := by rw [readL_len T]; exact hi
    by_cases hm : i ∈ P.getD w []
    · rw [down_ring hr hi' ((ring_tree T hw hi).mpr hm), spine_tree T hw]
      obtain ⟨q, e⟩ := T.ends i hi
      obtain ⟨s, es⟩ := (front_iff T hw hi).mpr hm
      have hnd := T.nodup w hw
      have hg : (P.getD w [])[q.length]? = some i := by rw [← es, e]; simp
      rw [idxOf_nodup hnd hg, ← es, e, List.take_append_of_le_length (by simp)]
      exact List.take_of_length_le (by simp)
    · obtain ⟨u, hu, eu, ep⟩ := row_off T hw hi hm
      rw [down_off hr hi' (fun q => hm ((ring_tree T hw hi).mp q)), eu, ih u (by rw [ep, List.length_append] at hk; simpa using hk) hu, ep]
theorem last_tree : (spine (readL P (P.getD w []))).getLastD 0 = w := by
  rw [spine_tree T hw]
  obtain ⟨q, e⟩ := T.ends w hw
  rw [e]; simp
theorem made_tree : (List.range (readL P (P.getD w [])).length).map (down (readL P (P.getD w []))) = P := by
  rw [readL_len T]
  refine Eq.trans (List.map_congr_left fun i hi => down_tree T hw _ i rfl (List.mem_range.mp hi)) ?_
  apply List.ext_getElem
  · simp
  · intro i h1 h2; simp [List.getD, List.getElem?_eq_getElem h2]
end
end Mine
end

noncomputable section
namespace Mine
variable {read : List Nat}
theorem left_nodup : ∀ j, (leftAt read j).Nodup
  | 0 => List.nodup_range
  | j + 1 => List.Pairwise.sublist (List.eraseIdx_sublist ..) (left_nodup j)
theorem left_sub {i : Nat} : ∀ d, ∀ x ∈ leftAt read (i + d), x ∈ leftAt read i
  | 0, x, h => h
  | d + 1, x, h => left_sub d x (List.mem_of_mem_eraseIdx h)
theorem ord_gone {j : Nat} (hj : j < read.length) : ordAt read j ∉ leftAt read (j + 1) := by
  have hg := ord_get read hj
  have hn := left_nodup (read := read) j
  rw [leftAt]
  generalize leftAt read j = L at hg hn
  generalize pickAt read L j = k at hg
  generalize ordAt read j = x at hg
  intro h
  rw [List.mem_iff_getElem?] at h
  obtain ⟨i, e⟩ := h
  rw [List.getElem?_eraseIdx] at e
  split at e
  · have := (idxOf_nodup hn e).symm.trans (idxOf_nodup hn hg); omega
  · have := (idxOf_nodup hn e).symm.trans (idxOf_nodup hn hg); omega
theorem ord_inj {i j : Nat} (hij : i < j) (hj : j < read.length) : ordAt read i ≠ ordAt read j := fun e => by
  have h1 : ordAt read j ∈ leftAt read j := List.mem_of_getElem? (ord_get read hj)
  have h2 : ordAt read j ∈ leftAt read (i + 1) := left_sub (j - (i + 1)) _ (by rw [show i + 1 + (j - (i + 1)) = j by omega]; exact h1)
  rw [← e] at h2
  exact ord_gone (by omega) h2
theorem ord_onto {v : Nat} (hv : v < read.length) : ∃ j, j < read.length ∧ ordAt read j = v := by
  have key : ∀ k, k ≤ read.length → v ∉ leftAt read k → ∃ j, j < k ∧ ordAt read j = v := fun k => by
    induction k with
    | zero => intro _ h; exact absurd (by rw [leftAt]; exact List.mem_range.mpr hv) h
    | succ k ih =>
      intro hk h
      by_cases hm : v ∈ leftAt read k
      · refine ⟨k, Nat.lt_succ_self _, ?_⟩
        rw [leftAt] at h
        have hg := ord_get read (j := k) (by omega)
        obtain ⟨i, e⟩ := List.mem_iff_getElem?.mp hm
        by_cases hi : i = pickAt read (leftAt read k) k
        · rw [hi, hg] at e; exact Option.some.inj e
        · exfalso
          apply h
          rw [List.mem_iff_getElem?]
          rcases Nat.lt_or_gt_of_ne hi with q | q
          · exact ⟨i, by rw [List.getElem?_eraseIdx, if_pos q]; exact e⟩
          · exact ⟨i - 1, by rw [List.getElem?_eraseIdx, if_neg (by omega), show i - 1 + 1 = i by omega]; exact e⟩
      · obtain ⟨j, h1, h2⟩ := ih (by omega) hm
        exact ⟨j, by omega, h2⟩
  refine key _ (Nat.le_refl _) ?_
  have := left_len read read.length (Nat.le_refl _)
  rw [Nat.sub_self] at this
  rw [List.length_eq_zero_iff.mp this]
  exact nofun
theorem getD_set {L : List (List Nat)} {i j : Nat} {a : List Nat} : (L.set i a).getD j [] = if i = j ∧ i < L.length then a else L.getD j [] := by
  rw [List.getD, List.getElem?_set, List.getD]
  by_cases h : i = j
  · subst h
    by_cases h2 : i < L.length
    · simp [h2]
    · simp [h2]
  · simp [h]
theorem grown_stay {i : Nat} (hi : i < read.length) : ∀ d, i + 1 + d ≤ read.length → (grownAt read (i + 1 + d)).getD (ordAt read i) [] = (grownAt read (i + 1)).getD (ordAt read i) []
  | 0, _ => rfl
  | d + 1, h => by
    rw [← grown_stay hi d (by omega)]
    show (grownAt read (i + 1 + d + 1)).getD (ordAt read i) [] = _
    rw [grownAt, getD_set, if_neg fun q => ord_inj (read := read) (i := i) (j := i + 1 + d) (by omega) (by omega) q.1.symm]
theorem grown_path {j : Nat} (hj : j < read.length) : (grownAt read read.length).getD (ordAt read j) [] = (if j = 0 then [] else (grownAt read read.length).getD (ordAt read (abv read j)) []) ++ [ordAt read j] := by
  have h1 := grown_stay hj (read.length - (j + 1)) (by omega)
  rw [show j + 1 + (read.length - (j + 1)) = read.length by omega] at h1
  rw [h1, grownAt, getD_set, if_pos ⟨rfl, by rw [grown_len]; exact ord_lt read hj⟩]
  by_cases h0 : j = 0
  · rw [if_pos h0, if_pos h0]
  · rw [if_neg h0, if_neg h0]
    have ha : abv read j < j := Nat.mod_lt _ (by omega)
    have e1 := grown_stay (i := abv read j) (read := read) (by omega) (j - (abv read j + 1)) (by omega)
    have e2 := grown_stay (i := abv read j) (read := read) (by omega) (read.length - (abv read j + 1)) (by omega)
    rw [show abv read j + 1 + (j - (abv read j + 1)) = j by omega] at e1
    rw [show abv read j + 1 + (read.length - (abv read j + 1)) = read.length by omega] at e2
    rw [e1, e2]
theorem grown_in : ∀ j, j < read.length → ∀ x ∈ (grownAt read read.length).getD (ordAt read j) [], ∃ i, i ≤ j ∧ ordAt read i = x := fun j => by
  induction j using Nat.strongRecOn with
  | _ j ih =>
    intro hj x hx
    rw [grown_path hj] at hx
    rcases List.mem_append.mp hx with q | q
    · split at q
      · cases q
      · have ha : abv read j < j := Nat.mod_lt _ (by omega)
        obtain ⟨i, h1, h2⟩ := ih _ ha (by omega) x q
        exact ⟨i, by omega, h2⟩
    · exact ⟨j, Nat.le_refl _, (List.mem_singleton.mp q).symm⟩
end Mine
end

noncomputable section
namespace Mine
variable {read : List Nat}
theorem grown_nd : ∀ j, j < read.length → ((grownAt read read.length).getD (ordAt read j) []).Nodup := fun j => by
  induction j using Nat.strongRecOn with
  | _ j ih =>
    intro hj
    rw [grown_path hj]
    by_cases h0 : j = 0
    · rw [if_pos h0]; simp
    · rw [if_neg h0]
      have ha : abv read j < j := Nat.mod_lt _ (by omega)
      refine List.pairwise_append.mpr ⟨ih _ ha (by omega), by simp, fun x hx y hy => ?_⟩
      rw [List.mem_singleton.mp hy]
      obtain ⟨i, h1, rfl⟩ := grown_in _ (by omega) x hx
      exact ord_inj (by omega) hj
theorem grown_root : ∀ j, j < read.length → ∃ q, (grownAt read read.length).getD (ordAt read j) [] = ordAt read 0 :: q := fun j => by
  induction j using Nat.strongRecOn with
  | _ j ih =>
    intro hj
    rw [grown_path hj]
    by_cases h0 : j = 0
    · subst h0; rw [if_pos rfl]; exact ⟨[], rfl⟩
    · rw [if_neg h0]
      have ha : abv read j < j := Nat.mod_lt _ (by omega)
      obtain ⟨q, e⟩ := ih _ ha (by omega)
      rw [e]; exact ⟨_, rfl⟩
theorem grown_tree (h0 : 0 < read.length) : Tree (grownAt read read.length) where
  ends := fun v hv => by
    rw [grown_len] at hv
    obtain ⟨j, hj, rfl⟩ := ord_onto hv
    exact ⟨_, grown_path hj⟩
  step := fun v q hv e => by
    rw [grown_len] at hv
    obtain ⟨j, hj, rfl⟩ := ord_onto hv
    rw [grown_path hj] at e
    have eq := (List.append_inj' e rfl).1
    by_cases hz : j = 0
    · rw [if_pos hz] at eq; exact .inl eq.symm
    · rw [if_neg hz] at eq
      have ha : abv read j < j := Nat.mod_lt _ (by omega)
      exact .inr ⟨ordAt read (abv read j), by rw [grown_len]; exact ord_lt read (by omega), eq⟩
  nodup := fun v hv => by
    rw [grown_len] at hv
    obtain ⟨j, hj, rfl⟩ := ord_onto hv
    exact grown_nd j hj
  root := by
    refine ⟨ordAt read 0, by rw [grown_len]; exact ord_lt read h0, by rw [grown_path h0, if_pos rfl]; rfl, fun v hv => ?_⟩
    rw [grown_len] at hv
    obtain ⟨j, hj, rfl⟩ := ord_onto hv
    exact grown_root j hj
theorem mark_is (h0 : 0 < read.length) : ∃ w, w < read.length ∧ grownMark read = (grownAt read read.length).getD w [] :=
  ⟨_, ord_lt read (Nat.mod_lt _ h0), rfl⟩
theorem shd_tree {P : List (List Nat)} (T : Tree P) : ∃ r, r < P.length ∧ shd P = [r] := by
  obtain ⟨r, h1, h2, h3⟩ := T.root
  refine ⟨r, h1, shd_root (fun q => by rw [q] at h1; cases h1) (fun l hl => ?_) ?_⟩
  · obtain ⟨i, e⟩ := List.mem_iff_getElem?.mp hl
    have hi := (List.getElem?_eq_some_iff.mp e).1
    obtain ⟨q, eq⟩ := h3 i hi
    rw [List.getD, e] at eq
    exact ⟨q, eq⟩
  · rw [← h2, List.getD, List.getElem?_eq_getElem h1]; exact List.getElem_mem _
end Mine
end

noncomputable section
namespace Mine
variable {g : Gl} {n : Nat}
theorem nm_tab {i : Nat} (h : i < 7) : tabS.getD i "" = nmS i := by
  have : i = 0 ∨ i = 1 ∨ i = 2 ∨ i = 3 ∨ i = 4 ∨ i = 5 ∨ i = 6 := by omega
  rcases this with h | h | h | h | h | h | h <;> subst h <;> rfl
section
variable {row : List Nat} (hrow : ∀ x ∈ row, x < row.length) (h0 : 0 < row.length) (h7 : row.length ≤ 7)
include hrow h7
theorem made_list : PyData.list ((List.range row.length).map fun t => .list ((down row t).map fun i => .str (tabS.getD i ""))) = .list (((List.range row.length).map (down row)).map dR) := by
  rw [List.map_map]
  congr 1
  refine List.map_congr_left fun t ht => ?_
  have ht' := List.mem_range.mp ht
  show PyData.list _ = PyData.list _
  congr 1
  refine List.map_congr_left fun i hi => ?_
  rw [nm_tab (by have := down_lt hrow ht' i hi; omega)]
theorem good_made : ∀ l ∈ (List.range row.length).map (down row), Good l := fun l hl => by
  obtain ⟨t, ht, rfl⟩ := List.mem_map.mp hl
  have ht' := List.mem_range.mp ht
  refine ⟨fun q => ?_, by have := down_len hrow ht'; omega, fun x hx => by have := down_lt hrow ht' x hx; omega⟩
  obtain ⟨p, e⟩ := down_ends hrow ht'
  rw [e] at q; simp at q
include h0
theorem made_last : (((List.range row.length).map (down row)).getD ((spine row).getLastD 0) []) = spine row ∧ (spine row).getLastD 0 < row.length ∧ Good (spine row) := by
  obtain ⟨h1, h2⟩ := down_last hrow h0
  refine ⟨by rw [getD_mapR hrow h2, h1], h2, ?_⟩
  exact good_made hrow h7 _ (by rw [← h1]; exact List.mem_map.mpr ⟨_, List.mem_range.mpr h2, rfl⟩)
theorem f_readM (T : TopF g) : Does g (n + 12) (fun vs => call (.ref 193) vs) [.dat (dP ((List.range row.length).map (down row))), .dat (.str (pa (spine row)))] (isD (dL row)) := by
  obtain ⟨r, hr1, hr2⟩ := shd_made hrow h0
  have h := f_read (n := n + 9) T (fun L a b c => f_common (n := n + 2) T a b c) (P := (List.range row.length).map (down row)) (m := spine row) (r := r) (fun q => by have := congrArg List.length q; rw [List.length_map, List.length_range, List.length_nil] at this; omega) (by rw [List.length_map, List.length_range]; omega) (good_made hrow h7) (made_last hrow h0 h7).2.2 hr2 (by omega) (by rw [inner_made hrow]; unfold spine; rw [List.length_map]; exact Nat.le_refl _) fun i hi hn => by
    have hi' : i < row.length := by simpa using hi
    rw [inner_made hrow] at hn
    obtain ⟨q, e⟩ := off_long hrow hi' fun e => hn (List.mem_filter.mpr ⟨List.mem_range.mpr hi', e⟩)
    rw [getD_mapR hrow hi', e]; simp
  rwa [read_made hrow] at h
end
section
variable {P : List (List Nat)} (t : Tree P) {w : Nat} (hw : w < P.length) (h7 : P.length ≤ 7) (hs : ∀ l ∈ P, l.length ≤ 50)
include t h7 hs
theorem good_tree : ∀ l ∈ P, Good l := fun l hl => by
  obtain ⟨i, e⟩ := List.mem_iff_getElem?.mp hl
  have hi := (List.getElem?_eq_some_iff.mp e).1
  have e' : P.getD i [] = l := by rw [List.getD, e]; rfl
  obtain ⟨q, eq⟩ := t.ends i hi
  refine ⟨fun q' => by rw [e', q'] at eq; simp at eq, hs l hl, fun x hx => ?_⟩
  have := (front_of t _ i rfl hi x (by rw [e']; exact hx)).1
  omega
include hw
theorem f_readT (T : TopF g) : Does g (n + 12) (fun vs => call (.ref 193) vs) [.dat (dP P), .dat (.str (pa (P.getD w [])))] (isD (dL (readL P (P.getD w [])))) := by
  obtain ⟨r, hr1, hr2⟩ := shd_tree t
  refine f_read (n := n + 9) T (fun L a b c => f_common (n := n + 2) T a b c) (r := r) (fun q => by rw [q] at hw; cases hw) h7 (good_tree t h7 hs) (good_tree t h7 hs _ (by rw [List.getD, List.getElem?_eq_getElem hw]; exact List.getElem_mem _)) hr2 (by omega) (by rw [inner_len t hw]; exact Nat.le_refl _) fun i hi hn => ?_
  obtain ⟨u, h1, h2, h3⟩ := row_off t hw hi fun q => hn ((mem_inner t hw).mpr q)
  obtain ⟨q, eq⟩ := t.ends u h1
  rw [h3, eq]; simp
end
end Mine
end

noncomputable section
namespace Mine
variable {g : Gl} {n : Nat}
theorem law_mid (T : TopF g) {D row : List Nat} {m : Nat} (hDl : D.length = m) (h0 : 0 < m) (h7 : m ≤ 7) (hrow : D.map (· % m) = row)
    (hr : Blk g (n + 12) (dn 32).scope [("read", .dat (dL D))] ((dn 32).body.drop 14) (.ret (isD (.bool true)))) :
    Blk g (n + 12) (dn 32).scope [("read", .dat (dL D)), ("size", .dat (dN m))] ((dn 32).body.drop 9) (.ret (isD (.bool true))) := by
  have hl : row.length = m := by rw [← hrow, List.length_map, hDl]
  have hlt : ∀ x ∈ row, x < row.length := fun x hx => by
    rw [← hrow] at hx
    obtain ⟨y, _, rfl⟩ := List.mem_map.mp hx
    rw [hl]; exact Nat.mod_lt _ h0
  have hl0 : 0 < row.length := by omega
  have hl7 : row.length ≤ 7 := by omega
  refine blk_cons (stm_comp (ρ' := [("read", .dat (dL D))]) (ρc := [("size", .dat (dN m))]) (bs := fun _ => true) (fs := fun k => dN (D.getD k 0 % m)) (it_of (ev_name mA) (.list _)) (fun i d hd => tests_nil) (fun i d hd hb => ?_) (al (sb mB rfl (by decide) (by decide)) a0) (al (nq (by decide)) a0) (by rw [List.length_map]; omega) (al mA a0) (al (nq (by decide)) a0) (fun env h => sw_local h rfl rfl rfl rfl)) ?_
  · obtain ⟨rfl, hm, _⟩ := map_get (d0 := 0) hd
    exact (ev_bin (op_mod (b := (m : Int)) (by omega)) (ev_name mA) (ev_name mB)).as (by rw [dN, Int.natCast_emod])
  have e : outs (fun _ => true) (fun k => dN (D.getD k 0 % m)) (D.map dN).length = row.map dN := by
    rw [List.length_map, outs_all (F := fun a => dN (a % m)), ← hrow, List.map_map]; rfl
  rw [e]
  obtain ⟨lastEq, llt, lgood⟩ := made_last hlt hl0 hl7
  have hmade := f_made (n := n + 8) T hlt hl7 (spine_ne hlt hl0) (fun t ht => turns_ne hlt ht)
  have hgood := good_made hlt hl7
  have hread := f_readM (n := n) hlt hl0 hl7 T
  rw [made_list hlt hl7] at hmade
  obtain ⟨P, hP⟩ : ∃ P, (List.range row.length).map (down row) = P := ⟨_, rfl⟩
  obtain ⟨w, hw⟩ : ∃ w, (spine row).getLastD 0 = w := ⟨_, rfl⟩
  have hPl : P.length = row.length := by rw [← hP, List.length_map, List.length_range]
  rw [hP, hw] at hmade lastEq
  rw [hw] at llt
  rw [hP] at hgood hread
  refine blk_cons (stm_unpack2 (ρ' := [("row", .dat (dL row)), ("read", .dat (dL D))]) (ev_call hmade (T.keep 14 _ _ rfl (by decide)) (ev_g T 14 rfl rfl rfl) (all_cons (ev_name mA) all_nil)) (by decide) (by decide) rfl rfl (by decide) (fun p hp => hp) (fun _ => rfl) (fun _ => rfl)) ?_
  refine blk_cons (stm_comp (ρ' := [("last", .dat (dN w)), ("names", .dat (.list (P.map dR))), ("row", .dat (dL row)), ("read", .dat (dL D))]) (ρc := []) (bs := fun _ => true) (fs := fun k => .str (pa (P.getD k []))) (it_of (ev_name mB) (.list _)) (fun i d hd => tests_nil) (fun i d hd hb => ?_) a0 a0 (by rw [List.length_map]; omega) (fun p hp => hp) (al (nq (by decide)) (al (nq (by decide)) (al (nq (by decide)) (al (nq (by decide)) a0)))) (fun env h => sw_local h rfl rfl rfl rfl)) ?_
  · obtain ⟨rfl, hm, _⟩ := map_get (d0 := []) hd
    obtain ⟨h1, h2, h3⟩ := hgood _ hm
    exact ev_reduce (n := n + 9) T (by omega) (ev_g T 9 rfl rfl rfl) (ev_g T 3 rfl rfl rfl) (ev_name mA) (fun _ => rfl) (fun _ => rfl) (fun _ => rfl) (fun _ => rfl) (fun _ => rfl)
  rw [List.length_map, outs_all (F := fun l => PyData.str (pa l))]
  have fineP : Fine 1 (dP P) := fine_map fun l _ => fine_pa l
  refine blk_cons (stm_if (b := false) (o := .next [("paths", .dat (dP P)), ("last", .dat (dN w)), ("names", .dat (.list (P.map dR))), ("row", .dat (dL row)), ("read", .dat (dL D))]) ((ts_cmp (op_ne (d₂ := dP P) (fineP.sh (by decide)) (fineP.sh (by decide))) (ev_name mA) ((ev_comp (ρc := []) (bs := fun _ => true) (fs := fun k => .str (pa (P.getD k []))) (it_of (ev_name mC) (.list _)) (fun i d hd => tests_nil) (fun i d hd hb => ?_) a0 a0 (by rw [List.length_map]; omega)).as (by rw [List.length_map, outs_all (F := fun l => PyData.str (pa l))])) rfl).as (by rw [eqv_map fun a ha b hb => eqv_pa (hgood a ha).2.2 (hgood b hb).2.2]; simp)) nofun fun _ => blk_nil) ?_
  · obtain ⟨rfl, hm, _⟩ := map_get (d0 := []) hd
    obtain ⟨h1, h2, h3⟩ := hgood _ hm
    generalize P.getD i [] = l at h1 h2 h3
    refine EvD.as (ev_bin (op_addS ?_) ev_str (ev_methS (P := isD _) PySem.F.slot_str_join PySem.F.type_str_join (y := sl) ev_str (b_join (xs := l.map nmS) ?_) (all_cons ((ev_name mA).as (by rw [List.map_map]; rfl)) all_nil) (fun _ => rfl) (fun _ => rfl) (fun _ => rfl))) ?_
    · show (1 : Nat) + (Txt.join sl (l.map nmS)).length ≤ _
      rw [join_jn, tx_len, sizeLine_eq]
      have := jn_len l; omega
    · have hB : ∀ y ∈ l.map nmS, y.length ≤ 3 := fun y hy => by obtain ⟨i, _, rfl⟩ := List.mem_map.mp hy; rw [tx_len]; exact cod_len i
      have hf := StrLaws.joinFits (sep := sl) hB (by rw [List.length_map, tx_len]; show _ + _ * 1 ≤ _; omega)
      unfold JoinOk
      rw [hf]; rfl
    · rw [join_jn]; exact congrArg PyData.str (tx_app [47] _)
  have fineN : ∀ l : List Nat, Fine 1 (dL l) := fun l => fine_map fun i _ => fine_int
  refine blk_cons (stm_if (b := false) (o := .next [("paths", .dat (dP P)), ("last", .dat (dN w)), ("names", .dat (.list (P.map dR))), ("row", .dat (dL row)), ("read", .dat (dL D))]) ((ts_cmp (op_ne ((fineN row).sh (by decide)) ((fineN row).sh (by decide))) (ev_call hread (T.keep 16 _ _ rfl (by decide)) (ev_g T 16 rfl rfl rfl) (all_cons (ev_name mA) (all_cons (ev_idx (k := (w : Int)) (ev_name mA) (ev_name mB) (by omega) (by omega) (by rw [Int.toNat_natCast, List.getElem?_map, ← lastEq, List.getD, List.getElem?_eq_getElem (by omega)]; rfl) (fun _ _ _ => rfl)) all_nil))) (ev_name mD) rfl).as (by rw [eqv_map fun a _ b _ => eqv_dN]; simp)) nofun fun _ => blk_nil) ?_
  exact blk_sub hr (al (.tail _ mD) a0)
end Mine
end

noncomputable section
namespace Mine
variable {g : Gl} {n : Nat}
theorem law_end (T : TopF g) {D : List Nat} {m : Nat} (hDl : D.length = m) (h0 : 0 < m) (h7 : m ≤ 7) :
    Blk g (n + 12) (dn 32).scope [("read", .dat (dL D))] ((dn 32).body.drop 14) (.ret (isD (.bool true))) := by
  have hg := f_grown (n := n + 9) T (read := D) (by omega) (by omega)
  have t := grown_tree (read := D) (by omega)
  obtain ⟨w, hw, hwm⟩ := mark_is (read := D) (by omega)
  have hPl := grown_len D D.length
  have hPs : ∀ l ∈ grownAt D D.length, l.length ≤ 50 := fun l hl => by have := grown_short D D.length l hl; omega
  rw [hwm] at hg
  generalize grownAt D D.length = P at hg t hPl hPs
  have hwP : w < P.length := by omega
  have hP7 : P.length ≤ 7 := by omega
  have hread := f_readT (n := n) t hwP hP7 hPs T
  have hgood := good_tree t hP7 hPs
  have hbl : (readL P (P.getD w [])).length = P.length := readL_len t
  have hblt := row_lt' t hwP
  have hmt := made_tree t hwP
  have hla := last_tree t hwP
  have hsp := spine_ne hblt (by omega)
  have htu : ∀ s < (readL P (P.getD w [])).length, turns (readL P (P.getD w [])) s ≠ [] := fun s hs => turns_ne hblt hs
  have hml := made_list hblt (by omega)
  generalize readL P (P.getD w []) = back at hread hbl hblt hmt hla hsp htu hml
  have hmade := f_made (n := n + 8) T hblt (by omega) hsp htu
  rw [hml, hmt, hla] at hmade
  have eP : (P.map fun l => PyData.str (pa l))[w]? = some (.str (pa (P.getD w []))) := by
    rw [List.getElem?_map, List.getD, List.getElem?_eq_getElem hwP]; rfl
  have fineP : Fine 1 (dP P) := fine_map fun l _ => fine_pa l
  have fineN : Fine 1 (dL back) := fine_map fun i _ => fine_int
  refine blk_cons (stm_unpack2 (ρ' := []) (ev_call hg (T.keep 17 _ _ rfl (by decide)) (ev_g T 17 rfl rfl rfl) (all_cons (ev_name mA) all_nil)) (by decide) (by decide) rfl rfl (by decide) a0 (fun _ => rfl) (fun _ => rfl)) ?_
  refine blk_cons (stm_asg (lv := .dat (dL back)) (ρ' := [("marked", .dat (.str (pa (P.getD w [])))), ("grown", .dat (dP P))]) (ev_call hread (T.keep 16 _ _ rfl (by decide)) (ev_g T 16 rfl rfl rfl) (all_cons (ev_name mB) (all_cons (ev_name mA) all_nil))) (by decide) rfl (fun p hp => hp) rfl (fun _ => rfl)) ?_
  refine blk_cons (stm_if (b := false) (o := .next [("back", .dat (dL back)), ("marked", .dat (.str (pa (P.getD w [])))), ("grown", .dat (dP P))]) ((ts_cmp (op_eq (fineN.sh (by decide)) rfl) (ev_name mA) (ev_list (ds := []) all_nil (Nat.zero_le _)) rfl).as (by rw [eqv_nil]; cases back with | nil => exact absurd hbl (by rw [List.length_nil]; omega) | cons a r => rfl)) nofun fun _ => blk_nil) ?_
  refine blk_cons (stm_unpack2 (ρ' := [("marked", .dat (.str (pa (P.getD w [])))), ("grown", .dat (dP P))]) (ev_call hmade (T.keep 14 _ _ rfl (by decide)) (ev_g T 14 rfl rfl rfl) (all_cons (ev_name mA) all_nil)) (by decide) (by decide) rfl rfl (by decide) (fun p hp => .tail _ hp) (fun _ => rfl) (fun _ => rfl)) ?_
  refine blk_one (stm_retD (ev_and (EvD.as (ev_cmp (op_eq (d₁ := dP P) (fineP.sh (by decide)) (fineP.sh (by decide))) ((ev_comp (ρc := []) (bs := fun _ => true) (fs := fun k => .str (pa (P.getD k []))) (it_of (ev_name mB) (.list _)) (fun i d hd => tests_nil) (fun i d hd hb => ?_) a0 a0 (by rw [List.length_map]; omega)).as (by rw [List.length_map, outs_all (F := fun l => PyData.str (pa l))])) (ev_name mD)) (by rw [eqv_map fun a ha b hb => eqv_pa (hgood a ha).2.2 (hgood b hb).2.2]; simp))
    (EvD.as (ev_cmp (op_eq (d₁ := .str (pa (P.getD w []))) ((fine_pa _).sh (by decide)) ((fine_pa _).sh (by decide))) (ev_idx (k := (w : Int)) (ev_name mD) (ev_name mA) (by omega) (by omega) (by rw [Int.toNat_natCast]; exact eP) (fun _ _ _ => rfl)) (ev_name mC)) (by rw [PyData.eqv, beq_self_eq_true]))))
  · obtain ⟨rfl, hm, _⟩ := map_get (d0 := []) hd
    obtain ⟨h1, h2, h3⟩ := hgood _ hm
    exact ev_reduce (n := n + 9) T (by omega) (ev_g T 9 rfl rfl rfl) (ev_g T 3 rfl rfl rfl) (ev_name mA) (fun _ => rfl) (fun _ => rfl) (fun _ => rfl) (fun _ => rfl) (fun _ => rfl)
end Mine
end

noncomputable section
namespace Mine
variable {g : Gl} {n : Nat}
theorem octs_len (x : Nat) : 0 < (octs x).length ∧ (octs x).length ≤ 3 := by
  unfold octs octs1
  split <;> split <;> simp
theorem blkA_of {sc : Scope} {A : Around} {env : Env} {Z : List Addr} {ρ : List (Str × Lv)} {rest : List Stmt} {P : List Addr → Heap → Value → Prop} (h : Blk g n sc ρ rest (.ret P)) : BlkA g n sc A env Z ρ rest P := fun s₀ X₀ X s E Q F k => h A env s₀ Z X₀ X s E Q F k
theorem law_rest (T : TopF g) {D : List Nat} {m : Nat} {A : Around} {env : Env} (hA : A.frames = some [env]) (hframe : env.frame = some env.locals) (hDl : D.length = m) (h0 : 0 < m) (h7 : m ≤ 7) (hD : ∀ x ∈ D, x < 262144) :
    BlkA g (n + 12) (dn 32).scope A env [PT] [("drawn", .dat (dL D)), ("size", .dat (dN m))] ((dn 32).body.drop 4) (isD (.bool true)) := by
  have hDg : ∀ i, i < m → D[i]? = some (D.getD i 0) ∧ D.getD i 0 ∈ D := fun i hi => by
    have h : D[i]? = some (D.getD i 0) := by rw [List.getD, List.getElem?_eq_getElem (by omega)]; rfl
    exact ⟨h, List.mem_of_getElem? h⟩
  refine blkA_new (ds := []) (ρ' := [("drawn", .dat (dL D)), ("size", .dat (dN m))]) (new_list all_nil (Nat.zero_le _)) (fun a => ?_) (by decide) rfl (fun p hp => hp) (fun _ => rfl)
  refine blkA_cons (stm_for (ds := upI 0 m) (ρs := fun i => [("octets", .mut a ((octTo D i).map dN)), ("drawn", .dat (dL D)), ("size", .dat (dN m))]) (it_of (ev_callT (b_range1 (a := (m : Int))) (ev_b T 6 rfl rfl rfl) (all_cons (ev_name mC) all_nil)) (iter0 (by omega))) (fun i => al (nq (by decide)) (al (nq (by decide)) (al (nq (by decide)) a0))) (fun i => ?_) (fun i d hd => ?_) (by decide) (fun _ _ => rfl)) ?_
  · exact al (fun b hb => ⟨_, .head _, hb⟩) (al nofun (al nofun a0))
  · obtain ⟨hi, rfl⟩ := up0 hd
    have hx := hD _ (hDg i hi).2
    have ol := octs_len (D.getD i 0)
    refine blk_cons (stm_asg (ρ' := [("k", .dat (dN i)), ("octets", .mut a ((octTo D i).map dN)), ("drawn", .dat (dL D)), ("size", .dat (dN m))]) (ev_call (f_octets (n := n + 11) T) (T.keep 11 _ _ rfl (by decide)) (ev_g T 11 rfl rfl rfl) (all_cons (idxN (ev_name mC) (ev_name mA) (by omega) (hDg i hi).1 (fun _ _ _ => rfl)) all_nil)) (by decide) rfl (fun p hp => hp) rfl (fun _ => rfl)) (blk_one ?_)
    have hto := octTo_len D hD i (by omega)
    have e : (octTo D (i + 1)).map dN = (octTo D i).map dN ++ (pieceOf (D.getD i 0) i).map dN := by rw [octTo, List.map_append]
    rw [e]
    have hpl := (piece_ok i hx).2.1
    generalize D.getD i 0 = x at hx ol hpl
    refine stm_extend (ρ' := [("drawn", .dat (dL D)), ("size", .dat (dN m))]) mC (ev_if (bb := decide (i % 4 = 0)) ((ts_cmp (op_eq (d₁ := dN (i % 4)) (d₂ := dN 0) rfl rfl) ((ev_bin (op_mod (b := 4) (by decide)) (ev_name mB) ev_int).as (by simp)) ev_int rfl).as eqv_dN) (fun h => ?_) fun h => ?_) (al ⟨.tail _ mC, nofun⟩ (al ⟨.tail _ mD, nofun⟩ a0)) (by rw [List.length_map, List.length_map]; omega) (by decide) (by decide) (fun _ => rfl) (fun _ => rfl)
    · have h4 : i % 4 = 0 := by simpa using h
      obtain ⟨o, t, ho⟩ : ∃ o t, octs x = o :: t := by
        cases e : octs x with
        | nil => rw [e] at ol; simp at ol
        | cons o t => exact ⟨o, t, rfl⟩
      have hp : pieceOf x i = [o + 128] ++ (octs x).drop 1 := by unfold pieceOf; rw [if_pos h4, ho]; rfl
      rw [hp]
      exact addN (ev_list (ds := [dN (o + 128)]) (all_cons (EvD.as (ev_bin op_add (idxN (k := 0) (ev_name mA) ev_int (Nat.zero_le _) (by rw [ho]; rfl) (fun _ _ _ => rfl)) ev_int) (by rw [dN, Int.natCast_add]; rfl)) all_nil) (Nat.le_of_ble_eq_true rfl)) (fromN (k := 1) (ev_name mA) ev_int (by omega)) (Nat.le_of_ble_eq_true rfl) (by rw [List.length_drop]; omega)
    · have h4 : ¬ i % 4 = 0 := by simpa using h
      unfold pieceOf
      rw [if_neg h4]
      exact ev_name mA
  rw [upI_len]
  refine blkA_freeze (ρ' := [("drawn", .dat (dL D)), ("size", .dat (dN m))]) mA (al ⟨mB, nofun⟩ (al ⟨mC, nofun⟩ a0)) ?_
  rw [← oct_all]
  refine blkA_iterL (ds := (octFrom D m 0).map dN) (ρ' := [("drawn", .dat (dL D)), ("size", .dat (dN m))]) (ev_b T 10 rfl rfl rfl) (ev_name mA) (fun r => ?_) (by decide) rfl (al mB (al mC a0)) (fun _ => rfl) (fun _ => rfl) (fun _ => rfl)
  refine blkA_cons (stm_compZ (ds := D.map dN) (ρs := fun i => [("reader", .lit r ((octFrom D (m - i) i).map dN))]) (fs := fun i => dN (D.getD i 0)) (l' := .lit r ((octFrom D (m - (D.map dN).length) (D.map dN).length).map dN)) (ρ' := [("size", .dat (dN m)), ("drawn", .dat (dL D))]) mA rfl rfl mA (it_of (ev_name mB) (.list _)) (fun i => al (fun b hb => (Option.some.inj hb).symm) a0) (fun i d hd => ?_) (al (sbZ mA (by decide) (by decide)) a0) (fun i => al (nq (by decide)) a0) (by rw [List.length_map]; omega) (al ⟨mC, nofun⟩ (al ⟨mB, nofun⟩ a0)) (al (nq (by decide)) (al (nq (by decide)) a0)) (by decide) (fun env h => sw_local h rfl rfl rfl rfl)) ?_
  · obtain ⟨_, _, hi⟩ := map_get (d0 := 0) hd
    obtain ⟨p1, p2, p3, p4, p5⟩ := piece_ok i (hD _ (hDg i (by omega)).2)
    have e : octFrom D (m - i) i = pieceOf (D.getD i 0) i ++ octFrom D (m - (i + 1)) (i + 1) := by rw [show m - i = (m - (i + 1)) + 1 by omega]; rfl
    rw [e]
    generalize pieceOf (D.getD i 0) i = L at p1 p2 p3 p4 p5
    generalize D.getD i 0 = x at p5
    rw [← p5]
    exact evZ_varint (n := n + 11) T (ev_g T 7 rfl rfl rfl) mB p1 p2 p3 p4 (by decide) (by decide) (fun _ => rfl) (fun _ => rfl)
  have e : outs (fun _ => true) (fun i => dN (D.getD i 0)) (D.map dN).length = D.map dN := by rw [List.length_map, outs_all (F := dN)]
  have e2 : octFrom D (m - (D.map dN).length) (D.map dN).length = [] := by rw [List.length_map, hDl, Nat.sub_self]; rfl
  rw [e, e2]
  have fineN : ∀ l : List Nat, Fine 1 (dL l) := fun l => fine_map fun i _ => fine_int
  refine blkA_ended (n := n + 10) (ρ' := [("read", .dat (dL D)), ("size", .dat (dN m))]) T hA hframe ((ts_cmp (op_ne ((fineN D).sh (by decide)) ((fineN D).sh (by decide))) (ev_name mA) (ev_name mD) rfl).as (by rw [eqv_map fun a _ b _ => eqv_dN]; simp)) (ev_g T 12 rfl rfl rfl) mB (al ⟨mA, nofun⟩ (al ⟨mC, nofun⟩ a0)) (blkA_of ?_) (by decide) (by decide) (fun _ => rfl) (fun _ => rfl)
  exact law_mid T hDl h0 h7 rfl (law_end T hDl h0 h7)
end Mine
end

noncomputable section
namespace Mine
variable {g : Gl} {n : Nat}
theorem b_sumI {is : List Int} : Does g n (fun vs => call (.builtin "sum") vs) [.dat (.list (is.map .int))] (isD (.int is.sum)) := fun A X s vs E Q B hT ht hX hl hv k => by
  obtain ⟨v, rfl, h1⟩ := hv.i1
  obtain ⟨a, us, m, rfl, ha, ho, hr⟩ := Rep.inv_list h1
  obtain ⟨l, e, hx⟩ := repI_to hr
  refine sum_intListG (xs := l.toArray) B.hd (by rw [← e]; exact ⟨_, ho, rfl, _, rfl⟩) fun h' tk t' hk => k _ _ (Up.heap hk) ?_
  have e2 : preSum (numAt l.toArray) l.toArray.size = is.sum := by
    rw [preSum_eq, List.toList_toArray, List.size_toArray, hx, List.take_of_length_le (by rw [← hx, List.length_map]; exact Nat.le_refl _)]
  rw [e2]; exact .int _ t'
noncomputable def plc (N k : Nat) : List Nat := sliceRange (sliceBounds (some (k : Int)) none (some 7) N).1 (sliceBounds (some (k : Int)) none (some 7) N).2.1 (sliceBounds (some (k : Int)) none (some 7) N).2.2
noncomputable def prt (is : List Int) (k : Nat) : List Int := (plc is.length k).filterMap (is[·]?)
section
variable {sc : Scope} {ρ : List (Str × Lv)} {o e f : Expr} {pos p : Pos}
theorem ev_by7 {is : List Int} {k : Nat} (ho : EvD g n sc ρ o (.list (is.map .int))) (hk : EvD g n sc ρ e (dN k)) (h7 : EvD g n sc ρ f (.int 7)) (hz : is.length ≤ 1000000) : EvD g n sc ρ (.Subscript o (.Slice (some e) none (some f) p) pos) (.list ((prt is k).map .int)) :=
  ev_slice ho (part_some hk) part_none (part_some h7) (by decide) (by rw [List.length_map]; exact hz) (fun X h vs r => by
    have e1 : (slicePick vs.toArray (some (k : Int)) none (some 7)).toList = (plc is.length k).filterMap (vs.toArray[·]?) := by
      unfold slicePick plc
      rw [List.size_toArray, r.length, List.length_map]
    have e2 : (prt is k).map PyData.int = (plc is.length k).filterMap ((is.map PyData.int)[·]?) := by
      unfold prt
      rw [List.map_filterMap]
      congr 1
      funext i
      rw [List.getElem?_map]
    rw [e1, e2]
    exact repAll_pick r _) fun _ _ => rfl
end
theorem dig : ∀ j, j < 12 → ∃ c m : Nat, (Str.ofString "675432765417").cps[j]? = some c ∧ PySem.intText? ⟨#[c]⟩ = some (m : Int) ∧ 0 < m ∧ m ≤ 7 := by
  intro j hj
  have : j = 0 ∨ j = 1 ∨ j = 2 ∨ j = 3 ∨ j = 4 ∨ j = 5 ∨ j = 6 ∨ j = 7 ∨ j = 8 ∨ j = 9 ∨ j = 10 ∨ j = 11 := by omega
  rcases this with h | h | h | h | h | h | h | h | h | h | h | h <;> subst h
  · exact ⟨54, 6, by decide, by decide +kernel, by decide, by decide⟩
  · exact ⟨55, 7, by decide, by decide +kernel, by decide, by decide⟩
  · exact ⟨53, 5, by decide, by decide +kernel, by decide, by decide⟩
  · exact ⟨52, 4, by decide, by decide +kernel, by decide, by decide⟩
  · exact ⟨51, 3, by decide, by decide +kernel, by decide, by decide⟩
  · exact ⟨50, 2, by decide, by decide +kernel, by decide, by decide⟩
  · exact ⟨55, 7, by decide, by decide +kernel, by decide, by decide⟩
  · exact ⟨54, 6, by decide, by decide +kernel, by decide, by decide⟩
  · exact ⟨53, 5, by decide, by decide +kernel, by decide, by decide⟩
  · exact ⟨52, 4, by decide, by decide +kernel, by decide, by decide⟩
  · exact ⟨49, 1, by decide, by decide +kernel, by decide, by decide⟩
  · exact ⟨55, 7, by decide, by decide +kernel, by decide, by decide⟩
theorem mapR {F : Nat → PyData} {G : Nat → Nat} {m : Nat} (h : ∀ i, i < m → F i = dN (G i)) : outs (fun _ => true) F m = ((List.range m).map G).map dN := by
  rw [outs_eq, List.filter_eq_self.mpr fun _ _ => rfl, List.map_map]
  exact List.map_congr_left fun i hi => h i (List.mem_range.mp hi)
theorem law_all (T : TopF g) {is : List Int} (hz : is.length ≤ 1000) {A : Around} {env : Env} (hA : A.frames = some [env]) (hframe : env.frame = some env.locals) :
    BlkA g (n + 12) (dn 32).scope A env [PT] [("script", .dat (.list (is.map .int)))] (dn 32).body (isD (.bool true)) := by
  refine blkA_cons (stm_asg (ρ' := []) (lv := .dat (.list ((is.take 60).map .int))) (EvD.as (ev_upto (k := 60) (ev_name mA) ev_int (by rw [List.length_map]; omega)) (by rw [List.map_take])) (by decide) rfl a0 rfl (fun _ => rfl)) ?_
  have hz2 : (is.take 60).length ≤ 1000 := by rw [List.length_take]; omega
  generalize is.take 60 = N at hz2
  have hj0 : (0 : Int) ≤ N.sum % 12 := Int.emod_nonneg _ (by decide)
  have hj1 : N.sum % 12 < 12 := Int.emod_lt_of_pos _ (by decide)
  obtain ⟨c, m, hc, ht, h0, h7⟩ := dig (N.sum % 12).toNat (by omega)
  refine blkA_cons (stm_asg (ρ' := [("numbers", .dat (.list (N.map .int)))]) (lv := .dat (dN m)) (ev_callT (b_int ht (Nat.le_of_ble_eq_true rfl)) (ev_b T 8 rfl rfl rfl) (all_cons (ev_idxStr (k := N.sum % 12) ev_str (ev_bin (op_mod (b := 12) (by decide)) (ev_callB b_sumI (ev_b T 9 rfl rfl rfl) (all_cons (ev_name mA) all_nil)) ev_int) hj0 (by omega) hc (fun _ _ _ _ => rfl)) all_nil)) (by decide) rfl (fun p hp => hp) rfl (fun _ => rfl)) ?_
  refine blkA_cons (stm_asg (ρ' := [("size", .dat (dN m)), ("numbers", .dat (.list (N.map .int)))]) (lv := .dat (dL [128, 4200, 43, 75, 153, 79, 20000])) (ev_list (ds := [dN 128, dN 4200, dN 43, dN 75, dN 153, dN 79, dN 20000]) (all_cons ev_int (all_cons ev_int (all_cons ev_int (all_cons ev_int (all_cons ev_int (all_cons ev_int (all_cons ev_int all_nil)))))))) (by decide) rfl (fun p hp => hp) rfl (fun _ => rfl)) ?_
  refine blkA_cons (stm_comp (ρ' := [("size", .dat (dN m))]) (ρc := [("base", .dat (dL [128, 4200, 43, 75, 153, 79, 20000])), ("numbers", .dat (.list (N.map .int)))]) (bs := fun _ => true) (fs := fun i => .int (((prt N i).sum + (([128, 4200, 43, 75, 153, 79, 20000] : List Nat).getD i 0 : Nat)) % 262144)) (it_of (ev_callT b_range1 (ev_b T 6 rfl rfl rfl) (all_cons (ev_name mB) all_nil)) (iter0 (by omega))) (fun i d hd => tests_nil) (fun i d hd hb => ?_) (al (sb mA rfl (by decide) (by decide)) (al (sb mC rfl (by decide) (by decide)) a0)) (al (nq (by decide)) (al (nq (by decide)) a0)) (by rw [upI_len]; omega) (al mB a0) (al (nq (by decide)) a0) (fun env h => sw_local h rfl rfl rfl rfl)) ?_
  · obtain ⟨hi, rfl⟩ := up0 hd
    exact ev_bin (op_mod (b := 262144) (by decide)) (ev_bin op_add (ev_callB b_sumI (ev_b T 9 rfl rfl rfl) (all_cons (ev_by7 (ev_name mC) (ev_name mA) ev_int (by omega)) all_nil)) (idxN (ev_name mB) (ev_name mA) (by omega) (by rw [List.getD, List.getElem?_eq_getElem (by simp; omega)]; rfl) (fun _ _ _ => rfl))) ev_int
  rw [upI_len, mapR (G := fun i => (((prt N i).sum + (([128, 4200, 43, 75, 153, 79, 20000] : List Nat).getD i 0 : Nat)) % 262144).toNat) fun i _ => ?_]
  · refine law_rest T hA hframe (by rw [List.length_map, List.length_range]) h0 h7 fun x hx => ?_
    obtain ⟨i, _, rfl⟩ := List.mem_map.mp hx
    have a1 : ((prt N i).sum + (([128, 4200, 43, 75, 153, 79, 20000] : List Nat).getD i 0 : Nat)) % 262144 < 262144 := Int.emod_lt_of_pos _ (by decide)
    show Int.toNat _ < _
    omega
  · have a1 : 0 ≤ ((prt N i).sum + (([128, 4200, 43, 75, 153, 79, 20000] : List Nat).getD i 0 : Nat)) % 262144 := Int.emod_nonneg _ (by decide)
    show PyData.int _ = PyData.int _
    rw [Int.toNat_of_nonneg a1]
end Mine
end

noncomputable section
namespace Mine
theorem law_call {prog : Program} {w : World} {h₀ : Heap} {s : Shared} (F : Facts PySem.Challenge.pw_rt0037_01 h₀) (keep : ∀ b o, h₀.get? b = some o → s.heap.get? b = some o) (hg : ∃ mg, s.heap.Ns mainGlobals mg)
    (hb : ∃ mb, s.heap.Ns builtinsNs mb ∧ ∀ x : Str, x ≠ "__name__" → mb x = bootBuiltins x) (hn : s.heap.NoLimit) {l : Value} {is : List Int} (hz : is.length ≤ 1000) (hl : Rep [PT] s.heap l (.list (is.map .int)))
    {E : Value → Shared → Prop} {Q : Value → Shared → Prop} (k : ∀ s', Up [PT] s s' → Q (.bool true) s') : wpAny (model prog w) callerA (call (.ref 203) [l]) Q E s := by
  obtain ⟨ob, fd, H, d⟩ := fn_is F (q := (203, 32)) (by decide)
  have T : TopF ⟨prog, w, KOf h₀⟩ := topF_of F rfl
  have hT : Tp (KOf h₀) s.heap := ⟨(KOf_in h₀).keeps keep, hg, hb, hn, KOf_PT h₀⟩
  have hpt := keep _ _ F.pt
  have ht : TabOk s.heap := ⟨_, hpt, .inl rfl⟩
  have hB : Bd 13 callerA := ⟨rfl, by decide, by decide⟩
  refine wpAny_call (codeAny_call_function hB.room (hT.k _ _ H.at_) H.data (by rw [H.scope]; rfl) (by rw [H.scope]; rfl) H.body (codeRec_of hT.k H.code) ?_)
  rw [show bindArgs fd ⟨[l], []⟩ = pure ((["script"] : List Str).zip [l]) from by unfold bindArgs; rw [H.params, d]; rfl]
  refine wpAny_pure (fn_env (g := ⟨prog, w, KOf h₀⟩) (n := 12) (rs := []) (ls := [.dat (.list (is.map .int))]) (names := ["script"]) H callerA [PT] s [l] E Q hB hT ht (.head _) (fun a ha => by
    rw [List.mem_singleton.mp ha]
    exact ⟨⟨_, hpt⟩, KOf_PT h₀, by decide, by decide, by decide⟩) (.cons hl .nil) (fun a ha => nomatch ha) (fun l hl a ha => by rw [List.mem_singleton.mp hl] at ha; cases ha) (by decide) (by decide) rfl (by decide) rfl fun env s₁ Fx hf => ?_)
  exact law_all (n := 0) T hz rfl hf.2.2.2 s _ _ s₁ _ _ Fx fun v s' u p => by
    have p' : v = .bool true := Rep.inv_bool p
    subst p'
    exact k s' u
end Mine
end

noncomputable section
namespace Mine
open PySem.W.Fast
noncomputable abbrev lsP : List Str := [Str.ofString "_initial_missing", Str.ofString "reduce"]
theorem ls_eq : lsP = lsQ := by
  show [_, _] = [_, _]
  rw [show Str.ofString "_initial_missing" = _ from Fast.ofString_ofList ['_', 'i', 'n', 'i', 't', 'i', 'a', 'l', '_', 'm', 'i', 's', 's', 'i', 'n', 'g'], show Str.ofString "reduce" = _ from Fast.ofString_ofList ['r', 'e', 'd', 'u', 'c', 'e']]
  rfl
theorem pw_eq : PySem.Challenge.pw_rt0037_01 = prog := rfl
theorem left : LeftO prog vw lsP (fun s => xlAt vw [] s && recOk (RowW.records rwM.row.toRowW) s) (fun s => obs s.heap) (fun _ => expT PySem.Challenge.pw_rt0037_01) 2620 := fun w => by
  rw [ls_eq, pw_eq]
  have h := run_q w
  rw [← te14364793385576792824, ← te9687113851787907960, ← te4187177175401517315, ← te4797623924254395695, ← te5923862056798008813, ← te2368527892694137696] at h
  exact h
end Mine
end

noncomputable section
namespace Mine
theorem table_pt {h h' : Heap} (F : Facts PySem.Challenge.pw_rt0037_01 h) (keep : ∀ b o, h.get? b = some o → h'.get? b = some o) : isCodeTable h' PT := by
  have e := F.tab
  unfold codeHdIn at e
  split at e
  · rename_i vs _ hk
    simp only [Bool.and_eq_true] at e
    obtain ⟨⟨⟨⟨⟨e1, _⟩, _⟩, _⟩, _⟩, _⟩ := e
    refine ⟨177, _, vs, keep _ _ (KOf_in h _ _ hk), rfl, rfl, ?_⟩
    split at e1
    · rename_i q; rw [q, beq_iff_eq.mp e1]
    · cases e1
  · cases e
theorem old_of {s s' : Shared} (hpt : s.heap.get? PT = some (tabObj #[])) (hc : isCodeTable s.heap PT) (u : Up [PT] s s') : OldK s.heap s'.heap where
  old := fun b o e => by
    by_cases h : b = PT
    · subst h
      rw [hpt] at e; cases e
      obtain ⟨ps, hp, _⟩ := u.tab ⟨_, hpt, .inl rfl⟩
      exact .inr (.inl ⟨hc, rfl, #[], ps, rfl, by rw [hp, Array.empty_append]⟩)
    · exact .inl (u.keep b o (fun q => h (List.mem_singleton.mp q)) e)
  there := fun b o e => by
    by_cases h : b = PT
    · subst h
      obtain ⟨ps, hp, _⟩ := u.tab ⟨_, hpt, .inl rfl⟩
      exact ⟨_, hp⟩
    · exact ⟨o, u.keep b o (fun q => h (List.mem_singleton.mp q)) e⟩
theorem rep_ints {X : List Addr} {h : Heap} : ∀ {vs : List Value} {is : List Int}, IntsAre vs is → RepAll X h vs (is.map .int)
  | _, _, .nil => .nil
  | _, _, .cons n t x => .cons (.int n t) (rep_ints x)
theorem fa_of {mg : Str → Option Value} {h₀ h₁ : Heap} {x : Str} {fa : Addr} (F : Facts PySem.Challenge.pw_rt0037_01 h₀) (keep : ∀ b o, h₀.get? b = some o → h₁.get? b = some o) (G : h₁.Ns mainGlobals mg) (hx : x = "law") (hmg : mg x = some (.ref fa)) : fa = 203 := by
  subst hx
  have hfa := mg_of ((KOf_in h₀).keeps keep) G F.lw
  rw [hmg] at hfa
  exact Value.ref.inj (Option.some.inj hfa)
set_option maxHeartbeats 8000000 in
theorem headM : rwM.Holds := by
  w_on; o_law
  refine holds_openX (q := vw) (loose := lsP) (Xt := fun s => xlAt vw [] s && recOk (RowW.records rwM.row.toRowW) s) (XP := XL vw []) (Yf := fun s => obs s.heap) (Ya := fun _ => expT PySem.Challenge.pw_rt0037_01) (N := 2620) left (fun s e => xl_of s (Bool.and_eq_true_iff.mp e).1) XL.keeps (by rfl) (by rfl) (by rfl) (fun s e => recFacts_of (Bool.and_eq_true_iff.mp e).2) (by rfl) (by assumption) (by decide +kernel) ⟨rfl, rfl, rfl, rfl, rfl, by decide +kernel⟩ ⟨[ofPy (PyData.list [])], by decide +kernel, by decide +kernel⟩ ?hc
  intro w s₀ s₁ mg mb G y fa o pm cd doc dV kV ho hd hcd hD hmg hg args vals as L hpre hlay hrd hwl hlo
  have F := facts_of y
  clear hd hcd hD ho y
  refine Ground.open G ?_
  intro T B D TE TW
  have hfa' : fa = 203 := fa_of F L.keeps T.g rfl hmg
  subst hfa'
  clear hmg B D TE TW
  wrow_args hpre hlay hrd hwl hlo
  rename_i is _ _ _ _ _ _ _ l vs _ hL _ _ _ hI _ hc _
  have hl := PySem.W.X.script_obj L hL
  have hla := (PySem.W.X.script_at L).1
  have hlp : l ≠ 173 := by
    rw [hla]; exact Ne.symm (Nat.ne_of_lt (Heap.lt_size F.pt))
  refine law_call (w := w) F L.keeps ⟨mg, T.g⟩ ⟨mb, T.b, T.builtins⟩ T.nolimit (is := is) (by omega) (.list (vs := vs) (n := 0) (fun q => hlp (List.mem_singleton.mp q)) hl (rep_ints hI)) fun s' u => ?_
  obtain ⟨h', tk, rfl⟩ := u.same
  refine ⟨.inl ⟨_, _, [], rfl, fun _ => rfl, ReadsW.bool true, ?_, fun _ => ⟨List.nodup_nil, fun _ hm => (nomatch hm)⟩⟩, old_of (L.keeps _ _ F.pt) (table_pt F L.keeps) u, rfl, .of_eq hg⟩
  first | rfl | wrow_post
end Mine
end

theorem PySem.Challenge.cw_rt0037_01_holds : PySem.Challenge.rw_rt0037_01.Holds := by
  exact Mine.rwM_eq ▸ Mine.headM
