import PyProof.Rows.All
import Wide.All
import OpenK.AllK
import Wide.FinOn
import Lean
import PySem.Challenge.RW_pu0026_01
set_option maxRecDepth 100000
set_option maxHeartbeats 0
set_option linter.unusedVariables false
set_option linter.unusedSimpArgs false
set_option Elab.async false
namespace Mine
open PySem PySem.W PySem.W.X PySem.W.ZRun PyProof.Rows
section
local macro_rules | `(tactic| refine $_) => `(tactic| contradiction)
theorem head0 (hF : False) : OpenRow.Holds PySem.Challenge.rw_pu0026_01.row := by
  z_head
end
end Mine
namespace Mine
open PySem PySem.W PySem.W.X
noncomputable abbrev zo0 : Params → Obj := head0.zo_1
noncomputable abbrev zo1 : Params → Obj := head0.zo_2
noncomputable abbrev zo3 : Params → Obj := head0.zo_4
noncomputable abbrev zo84 : Params → Obj := head0.zo_78
noncomputable abbrev zo91 : Params → Obj := head0.zo_85
noncomputable abbrev zo100 : Params → Obj := head0.zo_94
noncomputable abbrev zo101 : Params → Obj := head0.zo_95
noncomputable abbrev zo111 : Params → Obj := head0.zo_103
noncomputable abbrev zo112 : Params → Obj := head0.zo_104
noncomputable abbrev zo138 : Params → Obj := head0.zo_130
noncomputable abbrev ktop : Params → KT := head0.ktop_266
end Mine
namespace Mine
open PySem PySem.W PySem.W.X PySem.Spec PySem.Calls PyProof.Rows

noncomputable abbrev Lst := List (Addr × Obj)
noncomputable abbrev dn : Code → Sem PySem.Fin := ZFast.zw11892475500146522536 ZFast.tableZ
theorem dn_eq : denote table = dn := by
  rw [ZFast.ze11892475500146522536, ZFast.tableZ_eq]
noncomputable abbrev qt : Code → Bool := ZFast.zw17772548960776305114
theorem qt_eq : Code.quiet = qt := ZFast.ze17772548960776305114
noncomputable def cw (c : Code) : Nat := ZFast.zw1243936422450756474 c + ZFast.zw165980757501359005 c
theorem cw_eq (c : Code) : cw c = c.weight + c.cUnits := by
  unfold cw
  rw [← ZFast.ze1243936422450756474, ← ZFast.ze165980757501359005]

noncomputable def notTab (o : Obj) : Bool := match o with
  | ⟨c, _, d, _⟩ => match d with
    | .fields _ => match c with
      | .none => false
      | _ => true
    | _ => true
theorem notTab_table (vs : Array Value) : notTab (tableObj vs) = false := rfl

structure Mm (V : XV) (h : Heap) (ch : Ch) (l : Lst) : Prop where
  keep : ∀ b o, V.h₀.get? b = some o → (notTab o || (chLook ch b).isNone) = true → h.get? b = some o
  tab : ∀ a vs, chLook ch a = some vs → h.get? a = some (tableObj vs) ∧ ∃ c ps more, V.h₀.TableAt c a ps ∧ vs = ps ++ more
  nw : ∀ p ∈ l, h.get? p.1 = some p.2 ∧ V.h₀.get? p.1 = none
  nd : (l.map (·.1)).Nodup

noncomputable def lget : Lst → Nat → Option (Addr × Obj)
  | [], _ => none
  | x :: _, 0 => some x
  | _ :: l, n + 1 => lget l n
noncomputable def lset : Lst → Nat → Obj → Lst
  | [], _, _ => []
  | x :: l, 0, o => (x.1, o) :: l
  | x :: l, n + 1, o => x :: lset l n o

section
variable {V : XV} {h : Heap} {ch : Ch} {l R : Lst}
theorem Mm.there (D : Mm V h ch l) {b : Addr} {o : Obj} (e : V.h₀.get? b = some o) : ∃ o', h.get? b = some o' := by
  cases q : chLook ch b with
  | none => exact ⟨o, D.keep b o e (by rw [q]; simp)⟩
  | some vs => exact ⟨_, (D.tab b vs q).1⟩
theorem Mm.perm {l' : Lst} (D : Mm V h ch l) (p : l.Perm l') : Mm V h ch l' :=
  ⟨D.keep, D.tab, fun x hx => D.nw x (p.mem_iff.mpr hx), (p.map (·.1)).nodup_iff.mp D.nd⟩
theorem Mm.sub {l' : Lst} (D : Mm V h ch l) (p : l'.Sublist l) : Mm V h ch l' :=
  ⟨D.keep, D.tab, fun x hx => D.nw x (p.subset hx), D.nd.sublist (p.map (·.1))⟩
theorem Mm.alloc (D : Mm V h ch (l ++ R)) {o : Obj} (hf : o.isFreed = false) : Mm V (h.push o) ch ((l ++ [(h.objs.size, o)]) ++ R) := by
  have key : Mm V (h.push o) ch ((h.objs.size, o) :: (l ++ R)) := by
    refine ⟨fun b o' e q => Heap.get?_push_of_some _ (D.keep b o' e q), fun a vs e => ⟨Heap.get?_push_of_some _ (D.tab a vs e).1, (D.tab a vs e).2⟩, fun p hp => ?_, ?_⟩
    · rcases List.mem_cons.mp hp with rfl | hp
      · refine ⟨Heap.get?_push_size _ hf, ?_⟩
        cases q : V.h₀.get? h.objs.size with
        | none => rfl
        | some o' =>
          obtain ⟨o₂, e₂⟩ := D.there q
          exact absurd (Heap.lt_size e₂) (Nat.lt_irrefl _)
      · exact ⟨Heap.get?_push_of_some _ (D.nw p hp).1, (D.nw p hp).2⟩
    · rw [List.map_cons, List.nodup_cons]
      refine ⟨fun hm => ?_, D.nd⟩
      obtain ⟨⟨b', ob⟩, hp, hb⟩ := List.mem_map.mp hm
      have hlt := Heap.lt_size (D.nw _ hp).1
      rw [hb] at hlt
      exact absurd hlt (Nat.lt_irrefl _)
  refine key.perm ?_
  rw [List.append_assoc]
  exact List.perm_middle.symm
theorem lget_mem {l : Lst} {j : Nat} {p : Addr × Obj} (h : lget l j = some p) : p ∈ l := by
  induction l generalizing j with
  | nil => exact nomatch h
  | cons x l ih =>
    cases j with
    | zero => exact Option.some.inj h ▸ List.mem_cons_self
    | succ n => exact List.mem_cons_of_mem _ (ih h)
theorem lset_keys (l : Lst) (j : Nat) (o : Obj) : (lset l j o).map (·.1) = l.map (·.1) := by
  induction l generalizing j with
  | nil => rfl
  | cons x l ih =>
    cases j with
    | zero => rfl
    | succ n => show x.1 :: (lset l n o).map (·.1) = _; rw [ih n]; rfl
theorem lset_mem {l : Lst} {j : Nat} {a : Addr} {o o' : Obj} (h : lget l j = some (a, o)) (nd : (l.map (·.1)).Nodup) {p : Addr × Obj} (hp : p ∈ lset l j o') : p = (a, o') ∨ (p ∈ l ∧ p.1 ≠ a) := by
  induction l generalizing j with
  | nil => exact nomatch h
  | cons x l ih =>
    rw [List.map_cons, List.nodup_cons] at nd
    cases j with
    | zero =>
      have hx : x = (a, o) := Option.some.inj h
      subst hx
      rcases List.mem_cons.mp hp with hp | hp
      · exact .inl hp
      · refine .inr ⟨List.mem_cons_of_mem _ hp, fun e => ?_⟩
        exact nd.1 (by rw [← e]; exact List.mem_map_of_mem (f := (·.1)) hp)
    | succ n =>
      have h' : lget l n = some (a, o) := h
      rcases List.mem_cons.mp hp with hp | hp
      · refine .inr ⟨hp ▸ List.mem_cons_self, fun e => ?_⟩
        rw [← hp, e] at nd
        exact nd.1 (List.mem_map_of_mem (f := (·.1)) (lget_mem h'))
      · rcases ih h' nd.2 hp with e | ⟨e, f⟩
        · exact .inl e
        · exact .inr ⟨List.mem_cons_of_mem _ e, f⟩
theorem Mm.update (D : Mm V h ch (l ++ R)) {j : Nat} {a : Addr} {o : Obj} {f : Obj → Obj} (hj : lget l j = some (a, o)) (hf : (f o).isFreed = false) : Mm V (h.update a f) ch (lset l j (f o) ++ R) := by
  have hm := lget_mem hj
  have ho := (D.nw _ (List.mem_append.mpr (.inl hm)))
  have hs : Heap.SameBut a h (h.update a f) := Heap.SameBut.update ..
  have ge : (h.update a f).get? a = some (f o) := by first | exact Heap.get?_update_self f ho.1 hf | exact Heap.get?_update_self _ ho.1 hf
  have ne : ∀ b o', V.h₀.get? b = some o' → b ≠ a := fun b o' e' z' => by subst z'; rw [e'] at ho; cases ho.2
  have nd := D.nd
  rw [List.map_append, List.nodup_append] at nd
  refine ⟨fun b o' e q => (hs.2 b (ne b o' e)).trans (D.keep b o' e q), fun b vs e => ?_, fun p hp => ?_, ?_⟩
  · obtain ⟨y, c, ps, more, ht, hv⟩ := D.tab b vs e
    exact ⟨(hs.2 b (ne b _ ht.2)).trans y, c, ps, more, ht, hv⟩
  · rcases List.mem_append.mp hp with hp | hp
    · rcases lset_mem hj nd.1 hp with rfl | ⟨h1, h2⟩
      · exact ⟨ge, ho.2⟩
      · have y := D.nw p (List.mem_append.mpr (.inl h1))
        exact ⟨(hs.2 _ h2).trans y.1, y.2⟩
    · have y := D.nw p (List.mem_append.mpr (.inr hp))
      refine ⟨(hs.2 _ ?_).trans y.1, y.2⟩
      intro e
      exact nd.2.2 a (List.mem_map_of_mem (f := (·.1)) hm) p.1 (List.mem_map_of_mem hp) e.symm
  · rw [List.map_append, lset_keys, ← List.map_append]; exact D.nd
theorem Mm.table (tabs : Ch) (O : ∀ a vs, chLook tabs a = some vs → ∃ c, V.h₀.TableAt c a vs) (D : Mm V h ch l) {a : Addr} {f : Obj → Obj} {vs vs' : Array Value} {more : List Value}
    (e : (match chLook ch a with | some vs => some vs | none => chLook tabs a) = some vs) (hn : f (tableObj vs) = tableObj vs') (hm : strip vs.toList vs'.toList = some more) :
    h.get? a = some (tableObj vs) ∧ Mm V (h.update a f) (chPut ch a vs') l := by
  have hv : vs' = vs ++ more.toArray := by
    have := strip_eq hm
    apply Array.ext'
    rw [Array.toList_append, this]
  have key : h.get? a = some (tableObj vs) ∧ ∃ c ps more', V.h₀.TableAt c a ps ∧ vs = ps ++ more' := by
    cases c : chLook ch a with
    | some x => rw [c] at e; cases e; exact D.tab a _ c
    | none =>
      rw [c] at e
      obtain ⟨co, ht⟩ := O a vs e
      exact ⟨D.keep a _ ht.2 (by rw [c]; simp), co, vs, #[], ht, by simp⟩
  obtain ⟨ho, co, ps, more', ht, hps⟩ := key
  refine ⟨ho, ?_⟩
  have hs : Heap.SameBut a h (h.update a f) := Heap.SameBut.update ..
  have hf : (f (tableObj vs)).isFreed = false := by rw [hn]; rfl
  have ge : (h.update a f).get? a = some (tableObj vs') := by
    have : (h.update a f).get? a = some (f (tableObj vs)) := by first | exact Heap.get?_update_self f ho hf | exact Heap.get?_update_self _ ho hf
    rw [this, hn]
  refine ⟨fun b o' e' q => ?_, fun b x e' => ?_, fun p hp => ?_, D.nd⟩
  · by_cases hb : a = b
    · subst hb
      have : o' = tableObj ps := Option.some.inj (e'.symm.trans ht.2)
      subst this
      rw [chPut_look, if_pos rfl] at q
      exact absurd q (by rw [notTab_table]; simp)
    · have q' : (notTab o' || (chLook ch b).isNone) = true := by
        rw [chPut_look, if_neg hb] at q; exact q
      exact (hs.2 b (Ne.symm hb)).trans (D.keep b o' e' q')
  · rw [chPut_look] at e'
    by_cases hb : a = b
    · subst hb
      rw [if_pos rfl] at e'
      cases e'
      exact ⟨ge, co, ps, more' ++ more.toArray, ht, by rw [hv, hps, Array.append_assoc]⟩
    · rw [if_neg hb] at e'
      obtain ⟨y, z⟩ := D.tab b x e'
      exact ⟨(hs.2 b (Ne.symm hb)).trans y, z⟩
  · have y := D.nw p hp
    refine ⟨(hs.2 _ fun e0 => ?_).trans y.1, y.2⟩
    rw [e0, ht.2] at y
    cases y.2
theorem Mm.oldK (D : Mm V h ch l) : OldK V.h₀ h := by
  refine ⟨fun b o e => ?_, fun b o e => D.there e⟩
  cases q : chLook ch b with
  | none => exact .inl (D.keep b o e (by rw [q]; simp))
  | some vs =>
    obtain ⟨y, c, ps, more, ht, hv⟩ := D.tab b vs q
    have : o = tableObj ps := Option.some.inj (e.symm.trans ht.2)
    subst this
    exact .inr (.inl ⟨ht.isCodeTable, rfl, ps, more, rfl, by rw [y, hv]; rfl⟩)
theorem Mm.start (V : XV) : Mm V V.h₀ [] [] := ⟨fun _ _ e _ => e, fun _ _ e => (nomatch e), fun _ hp => (nomatch hp), List.nodup_nil⟩
end
end Mine
namespace Mine
open PySem PySem.W PySem.W.X PySem.Spec PySem.Calls PyProof.Rows

noncomputable def G (V : XV) (ch : Ch) (c : Code) (κ : Kont) (t : Sem PySem.Fin) (l : Lst) : Prop :=
  ∀ h i, Mm V h ch l → Means V c none κ t ⟨h, ⟨[]⟩, V.d, i, V.os⟩
noncomputable def Rr (V : XV) (ch : Ch) (κ : Kont) (r : Result) (l : Lst) : Prop :=
  ∀ h i, Mm V h ch l → endOf V κ r ⟨h, ⟨[]⟩, V.d, i, V.os⟩
structure Rm (V : XV) (κ : Kont) (n : Nat) : Prop where
  room : (aroundOf V true κ).depth + (aroundOf V true κ).units ≤ n
  hand : (aroundOf V true κ).handled = none
theorem Rm.push {V : XV} {κ : Kont} {n : Nat} (h : Rm V κ n) (c : Code) (k : Result → Sem PySem.Fin) : Rm V (.ret c none k κ) (n + cw c) := by
  refine ⟨?_, ?_⟩
  · show ((aroundOf V true κ).depth + c.weight) + ((aroundOf V true κ).units + c.cUnits) ≤ n + cw c
    rw [cw_eq]; have := h.room; omega
  · show (none : Option Value).or (aroundOf V true κ).handled = none
    rw [h.hand]; rfl

section
variable {V : XV} {ch : Ch} {c : Code} {κ : Kont} {l : Lst}
theorem G.done {f : Flow} (x : Rr V ch κ (.ok f) l) : G V ch c κ (.pure (.done f)) l := fun h i D =>
  y_pure _ _ _ _ _ _ _ _ _ (y_done _ _ _ _ _ _ (x h i D))
theorem G.raise {e : Value} (x : Rr V ch κ (.error e) l) : G V ch c κ (.raise e) l := fun h i D =>
  y_raise _ _ _ _ _ _ _ _ _ (y_err _ _ _ (x h i D))
theorem Rr.ret {r : Result} {c' : Code} {hd : Option Value} {k : Result → Sem PySem.Fin} (x : G V ch c' κ (k r) l) : Rr V ch (.ret c' hd k κ) r l := fun h i D => x h i D
theorem G.again {c' : Code} (hq : qt c' = true) (x : G V ch c' κ (dn c') l) : G V ch c κ (.pure (.again c')) l := fun h i D => by
  have z := x h i D
  rw [← dn_eq] at z
  exact y_pure _ _ _ _ _ _ _ _ _ (y_again _ _ _ _ _ _ (by rw [qt_eq]; exact hq) (y_code _ _ _ _ _ _ z))
theorem G.call {c' : Code} {g : Bool} {lv : List Value} {k : Result → Sem PySem.Fin} (x : G V ch c' (.ret c none k κ) (dn c') l) : G V ch c κ (.call c' none g lv k) l := fun h i D => by
  have z := x h i D
  rw [← dn_eq] at z
  exact y_call _ _ _ _ _ _ _ _ _ _ _ _ _ (by intro e; cases e) (y_code _ _ _ _ _ _ z)
theorem G.skim {t : Sem PySem.Fin} (x : G V ch c κ (skim ⟨V.prog, V.w.params⟩ 1 t) l) : G V ch c κ t l := fun h i D => y_skim _ _ _ _ _ _ _ _ _ 1 (x h i D)
theorem G.load {a : Addr} {q : Option Value} {k : Obj → Sem PySem.Fin} {o : Obj} (ho : ∀ h, Mm V h ch l → h.get? a = some o) (x : G V ch c κ (k o) l) : G V ch c κ (.load a q k) l := fun h i D =>
  y_load _ _ _ _ _ _ _ _ _ _ _ _ _ _ _ _ (ho h D) (x h i D)
theorem G.alive {a : Addr} {k : Option Obj → Sem PySem.Fin} {o : Obj} (ho : ∀ h, Mm V h ch l → h.get? a = some o) (x : G V ch c κ (k (some o)) l) : G V ch c κ (.loadIfAlive a k) l := fun h i D =>
  y_alive _ _ _ _ _ _ _ _ _ _ _ _ _ _ _ (ho h D) (x h i D)
theorem G.alloc {R : Lst} {o : Obj} {k : Addr → Sem PySem.Fin} (hf : o.isFreed = false) (x : ∀ a, G V ch c κ (k a) ((l ++ [(a, o)]) ++ R)) : G V ch c κ (.alloc o k) (l ++ R) := fun h i D =>
  wpOwn_bind (m := PySem.alloc o) (f := k) (wpOwn_of_wpAny (wpAny_alloc (x _ _ _ (D.alloc hf))))
theorem G.update {R : Lst} {a : Addr} {q : Option Value} {f : Obj → Obj} {k : Unit → Sem PySem.Fin} {j : Nat} {o : Obj} (hj : lget l j = some (a, o)) (hf : (f o).isFreed = false) (x : G V ch c κ (k ()) (lset l j (f o) ++ R)) : G V ch c κ (.update a q f k) (l ++ R) := fun h i D =>
  wpOwn_bind (m := updatePart a q f) (f := k) (wpOwn_of_wpAny (wpAny_updatePart (D.nw _ (List.mem_append.mpr (.inl (lget_mem hj)))).1 (x _ _ (D.update hj hf))))
theorem G.table {tabs : Ch} (O : ∀ a vs, chLook tabs a = some vs → ∃ c, V.h₀.TableAt c a vs) {a : Addr} {q : Option Value} {f : Obj → Obj} {k : Unit → Sem PySem.Fin} {vs vs' : Array Value} {more : List Value}
    (e : (match chLook ch a with | some vs => some vs | none => chLook tabs a) = some vs) (hn : f (tableObj vs) = tableObj vs') (hm : strip vs.toList vs'.toList = some more)
    (x : G V (chPut ch a vs') c κ (k ()) l) : G V ch c κ (.update a q f k) l := fun h i D => by
  obtain ⟨ho, D'⟩ := D.table tabs O e hn hm
  exact wpOwn_bind (m := updatePart a q f) (f := k) (wpOwn_of_wpAny (wpAny_updatePart ho (x _ _ D')))
theorem G.fresh {k : Tok → Sem PySem.Fin} (x : ∀ t, G V ch c κ (k t) l) : G V ch c κ (.fresh k) l := fun h i D =>
  y_fresh _ _ _ _ _ _ _ _ _ _ _ _ _ (x i h (i + 1) D)
theorem G.handled {k : Option Value → Sem PySem.Fin} (hh : (aroundOf V true κ).handled = none) (x : G V ch c κ (k none) l) : G V ch c κ (.handled false k) l := fun h i D =>
  y_handled _ _ _ _ _ _ _ _ _ (by rw [hh]; exact x h i D)
theorem G.stack {k : List (Code × Pos) → Sem PySem.Fin} (x : ∀ p below, Lies ((aroundOf V true κ).under c) ((c, p) :: below) → G V ch c κ (k ((c, p) :: below)) l) : G V ch c κ (.stack k) l := fun h i D =>
  y_stack _ _ _ _ _ _ _ _ _ fun p below z => x p below z h i D
theorem G.enter {f : Unit → Sem PySem.Fin} (hl : ∀ h, Mm V h ch l → h.NoLimit) (hd : ((aroundOf V true κ).under c).depth < recursionLimit) (x : G V ch c κ (f ()) l) : G V ch c κ (R.bindR (ZFast.enterX 0) f) l := fun h i D => by
  rw [← R.bindR_eq, ← ZFast.enterX_eq]
  exact wpOwn_bind (m := enterFrame 0) (f := f) (wpOwn_of_wpAny (wpAny_enterFrame (hl h D) hd (x h i D)))
theorem G.room {what : String} {f : Unit → Sem PySem.Fin} (hd : ((aroundOf V true κ).under c).units < cLine) (x : G V ch c κ (f ()) l) : G V ch c κ (R.bindR (X.roomQ what) f) l := fun h i D => by
  rw [← R.bindR_eq]
  refine wpOwn_bind (m := X.roomQ what) (f := f) ?_
  refine y_stack _ _ _ _ _ _ _ _ _ fun p below z => ?_
  show wpOwn _ _ _ (cond (roomF _) _ _) _ _ _
  have : roomF ((c, p) :: below) = false := z.room hd
  rw [this]
  exact y_pure _ _ _ _ _ _ _ _ _ (x h i D)
theorem G.perm {l' : Lst} (p : l.Perm l') (x : G V ch c κ t l') : G V ch c κ t l := fun h i D => x h i (D.perm p)
theorem G.sub {l' : Lst} {t : Sem PySem.Fin} (p : l'.Sublist l) (x : G V ch c κ t l') : G V ch c κ t l := fun h i D => x h i (D.sub p)
theorem Rr.perm {l' : Lst} {r : Result} (p : l.Perm l') (x : Rr V ch κ r l') : Rr V ch κ r l := fun h i D => x h i (D.perm p)
theorem Rr.sub {l' : Lst} {r : Result} (p : l'.Sublist l) (x : Rr V ch κ r l') : Rr V ch κ r l := fun h i D => x h i (D.sub p)
end
section
variable {prog : Program} {w : World} {A : Around} {R : Result → Shared → Prop} {s : Shared}
theorem codeAny_comp {elt : Expr} {gens : List Comprehension} {scope : Scope} {pos : Pos} {d : Nat} {it acc : Value} {env : Env} {g : Comprehension} (hg : gens[d]? = some g) (ha : g.is_async = 0)
    (h0 : codeAny (model prog w) A (.compLoop (.ListComp elt gens scope pos) d it acc env) R s)
    (h : wpAny (model prog w) A (pyIter it) (fun it' s' => codeAny (model prog w) A (.compLoop (.ListComp elt gens scope pos) d it' acc env) R s') (notedBy (model prog w) A env fun x s' => R (.error x) s') s) :
    codeAny (model prog w) A (.compStart (.ListComp elt gens scope pos) d it acc env) R s := by
  refine codeAny_of_tree ?_
  show wpAny _ _ ((compStart (.ListComp elt gens scope pos) d it acc env).onRaise (fun x => do noteFrame x env; standAt theWindowsPlace)) _ _ s
  refine wpAny_notedAt ?_
  unfold compStart
  have e : clausesOf (.ListComp elt gens scope pos) = gens := rfl
  rw [e, hg]
  have e2 : (Option.elim (some g) false fun x => x.is_async != 0) = false := by
    show (g.is_async != 0) = false
    rw [ha]; rfl
  rw [e2]
  show wpAny _ _ (ask >>= _) _ _ s
  refine wpAny_bind (wpAny_askSetting (wpAny_ite ?_))
  split
  · first
      | exact wpAny_bind (wpAny_pure (wpAny_pure (And.intro rfl h0)))
      | exact wpAny_pure (And.intro rfl h0)
  · first
      | exact wpAny_bind (wpAny_rule (wpAny_bind (wpAny_standAt (wpAny_bind (wpAny_mono h (fun it' s' h' => wpAny_pure (And.intro rfl h')) fun _ _ x => x)))))
      | (refine wpAny_bind (wpAny_rule ?_); show wpAny _ _ (standAt g.iter.pos >>= _) _ _ s; exact wpAny_bind (wpAny_standAt (wpAny_bind (wpAny_mono h (fun it' s' h' => wpAny_pure (And.intro rfl h')) fun _ _ x => x))))
inductive Iterish : String → Prop
  | list : Iterish "list_iterator"
  | range : Iterish "range_iterator"
  | ascii : Iterish "str_ascii_iterator"
theorem iter_self {a : Addr} {T : String} {Q : Value → Shared → Prop} {E : Value → Shared → Prop} (hi : Iterish T) (hT : s.TypeIs (.ref a) T) (h : Q (.ref a) s) : wpAny (model prog w) A (pyIter (.ref a)) Q E s := by
  cases hi with
  | list =>
    refine wpAny_pyIter_slot hT slot_listiter_iter (wpAny_call_entry slot_listiter_iter hT entry_listiter_iter ?_ (args_listiter_iter _))
    show wpAny _ _ (ret (.ref a)) _ _ s
    exact wpAny_pure ⟨_, rfl, "list_iterator", _, hT, slot_listiter_next.lookup, h⟩
  | range =>
    refine wpAny_pyIter_slot hT F.slot_range_iterator_iter (wpAny_call_entry F.slot_range_iterator_iter hT F.entry_range_iterator_iter ?_ (F.args_range_iterator_iter_1 _))
    show wpAny _ _ (ret (.ref a)) _ _ s
    exact wpAny_pure ⟨_, rfl, "range_iterator", _, hT, F.slot_range_iterator_next.lookup, h⟩
  | ascii =>
    refine wpAny_pyIter_slot hT F.slot_str_ascii_iterator_iter (wpAny_call_entry F.slot_str_ascii_iterator_iter hT F.entry_str_ascii_iterator_iter ?_ (F.args_str_ascii_iterator_iter_1 _))
    show wpAny _ _ (ret (.ref a)) _ _ s
    exact wpAny_pure ⟨_, rfl, "str_ascii_iterator", _, hT, F.slot_str_ascii_iterator_next.lookup, h⟩
end
theorem G.comp {V : XV} {ch : Ch} {c : Code} {κ : Kont} {l : Lst} {elt : Expr} {gens : List Comprehension} {scope : Scope} {pos : Pos} {d : Nat} {a : Addr} {acc : Value} {env : Env} {g : Comprehension} {T : String} {o : Obj} {gg : Bool} {lv : List Value} {k : Result → Sem PySem.Fin}
    (hg : gens[d]? = some g) (ha : g.is_async = 0) (hi : Iterish T) (ho : ∀ h, Mm V h ch l → h.get? a = some o) (hc : o.cls = .type T)
    (x : G V ch (.compLoop (.ListComp elt gens scope pos) d (.ref a) acc env) (.ret c none k κ) (dn (.compLoop (.ListComp elt gens scope pos) d (.ref a) acc env)) l) :
    G V ch c κ (.call (.compStart (.ListComp elt gens scope pos) d (.ref a) acc env) none gg lv k) l := fun h i D => by
  have z := x h i D
  rw [← dn_eq] at z
  have z' := y_code _ _ _ _ _ _ z
  exact y_call _ _ _ _ _ _ _ _ _ _ _ _ _ (by intro e; cases e) (codeAny_comp hg ha z' (iter_self hi ⟨o, ho h D, hc⟩ z'))
end Mine
namespace Mine
open PySem PySem.W PySem.W.X PySem.Spec PySem.Calls PyProof.Rows

noncomputable def hsD (n : Nat) : Nat → List Nat := Nat.rec (motive := fun _ => Nat → List Nat) (fun _ => []) (fun _ ih N => (match Nat.beq (Nat.mod N 128) 127 with
  | true => 9999
  | false => Nat.mod N 128) :: ih (Nat.div N 128)) n

structure Con where
  c : Code
  foot : Lst
  nN : Nat
  nT : Nat
  post : (Nat → Addr) → (Nat → Tok) → List Obj
  new : (Nat → Addr) → (Nat → Tok) → List Obj
  r : (Nat → Addr) → (Nat → Tok) → Result
  lv : Nat

noncomputable def newL (α : Nat → Addr) : Nat → List Obj → Lst
  | _, [] => []
  | j, o :: os => (α j, o) :: newL α (j + 1) os
noncomputable def reput : Lst → List Obj → Lst
  | l, [] => l
  | [], _ :: _ => []
  | x :: l, o :: os => (x.1, o) :: reput l os
noncomputable def maskT : Lst → List Bool → Lst
  | [], _ => []
  | _ :: _, [] => []
  | x :: l, b :: m => match b with
    | true => x :: maskT l m
    | false => maskT l m
noncomputable def maskF : Lst → List Bool → Lst
  | [], _ => []
  | x :: l, [] => x :: l
  | x :: l, b :: m => match b with
    | true => maskF l m
    | false => x :: maskF l m
noncomputable def maskPut : Lst → List Bool → List Obj → Lst
  | [], _, _ => []
  | x :: l, [], _ => x :: l
  | x :: l, b :: m, os => match b with
    | true => match os with
      | o :: os => (x.1, o) :: maskPut l m os
      | [] => x :: maskPut l m []
    | false => x :: maskPut l m os
theorem mask_perm (l : Lst) (m : List Bool) : l.Perm (maskT l m ++ maskF l m) := by
  induction l generalizing m with
  | nil => cases m <;> exact .refl _
  | cons x l ih =>
    cases m with
    | nil => exact .refl _
    | cons b m =>
      cases b with
      | true => exact .cons _ (ih m)
      | false => exact (List.Perm.cons _ (ih m)).trans List.perm_middle.symm
theorem maskPut_perm (l : Lst) (m : List Bool) (os : List Obj) : (maskPut l m os).Perm (reput (maskT l m) os ++ maskF l m) := by
  induction l generalizing m os with
  | nil => cases m <;> cases os <;> exact .refl _
  | cons x l ih =>
    cases m with
    | nil => cases os <;> exact .refl _
    | cons b m =>
      cases b with
      | true =>
        cases os with
        | nil =>
          have z := ih m []
          have e : reput (maskT l m) [] = maskT l m := by cases maskT l m <;> rfl
          rw [e] at z
          exact .cons _ z
        | cons o os => exact .cons _ (ih m os)
      | false => exact (List.Perm.cons _ (ih m os)).trans List.perm_middle.symm

noncomputable def Valid0 (V : XV) (C : Con) : Prop := ∀ ch κ R, Rm V κ C.lv →
  (∀ α θ, (∀ j, C.nN ≤ j → α j = 0) → (∀ j, C.nT ≤ j → θ j = 0) → Rr V ch κ (C.r α θ) ((reput C.foot (C.post α θ) ++ newL α 0 (C.new α θ)) ++ R)) →
  G V ch C.c κ (dn C.c) (C.foot ++ R)
noncomputable def Valid (V : XV) (C : Con) : Prop := ∀ ch c κ R g lv k, Rm V (.ret c none k κ) C.lv →
  (∀ α θ, (∀ j, C.nN ≤ j → α j = 0) → (∀ j, C.nT ≤ j → θ j = 0) → G V ch c κ (k (C.r α θ)) ((reput C.foot (C.post α θ) ++ newL α 0 (C.new α θ)) ++ R)) →
  G V ch c κ (.call C.c none g lv k) (C.foot ++ R)
theorem Valid0.call {V : XV} {C : Con} (h : Valid0 V C) : Valid V C := fun ch c κ R g lv k hR K => G.call (h ch _ R hR fun α θ ha ht => Rr.ret (K α θ ha ht))
noncomputable def VCon (V : XV) := { C : Con // Valid V C }

structure Ora where
  a : Nat → Addr
  t : Nat → Tok
  p : Nat → Pos × List (Code × Pos)

noncomputable def tr (w : Ora) (na nt ns : Nat) : Ora := ⟨fun j => match Nat.blt j na with | true => w.a j | false => 0, fun j => match Nat.blt j nt with | true => w.t j | false => 0, fun j => match Nat.blt j ns with | true => w.p j | false => (⟨0,0,0,0⟩, [])⟩
structure St (V : XV) where
  c : Code
  κ : Kont
  t : Sem PySem.Fin
  lev : Nat
  l : Lst
  ch : Ch
  na : Nat
  nt : Nat
  ns : Nat
  hs : List Nat
  cs : List (Nat × List Bool × (Ora → VCon V))
  eA : List (Addr × Addr)
  eC : List (Code × Code)
  eL : List (Lst × Lst)
  eT : List (Sem PySem.Fin × Sem PySem.Fin)

noncomputable def cut (f : Nat → Nat) (b n : Nat) : Nat → Nat := fun j => match Nat.blt j n with
  | true => f (b + j)
  | false => 0
noncomputable def wsum (κ : Kont) (n : Nat) : Nat := Nat.rec (motive := fun _ => Kont → Nat) (fun _ => 0) (fun _ ih κ => match κ with
  | .ret c _ _ κ' => cw c + ih κ'
  | _ => 0) n κ
noncomputable def cellsFrom : List (Str × NameKind) → Lst → List (Str × Addr) → List (Str × Addr)
  | [], _, acc => acc
  | (n, k) :: r, l, acc => match k with
    | .cell => match l with
      | x :: l => cellsFrom r l ((n, x.1) :: acc)
      | [] => acc
    | _ => cellsFrom r l acc
noncomputable def entryCode (fd : FuncData) (self : Addr) (lc : Lst) : Code := match lc with
  | [] => .builtin "" ⟨[],[]⟩
  | x :: cs =>
    let env : Env := { scope := fd.scope, locals := x.1, globals := fd.globals, cells := cellsFrom fd.scope.names cs fd.closure, qual := fd.qualname ++ ⟨#[46,60,108,111,99,97,108,115,62,46]⟩, func := some self, code := fd.code, frame := some x.1, builtins := fd.builtins }
    match fd.body with
    | .stmts b => .func b env
    | .expr e => .expr e env
noncomputable def ldrop : Lst → Nat → Lst
  | l, 0 => l
  | [], _ + 1 => []
  | _ :: l, n + 1 => ldrop l n
noncomputable def oldAt (kt : KT) (a : Addr) : Option Obj := match kt.get a with
  | some o => match notTab o with
    | true => some o
    | false => none
  | none => none
noncomputable def isIt (o : Obj) : Bool := match o.cls with
  | .type T => S.eqLit 9146042919481958196396663532141 T || (S.eqLit 2341386987387381298277481238717043 T || S.eqLit 10056180538108767159183876981558246666106228 T)
  | _ => false
theorem isIt_some {o : Obj} (h : isIt o = true) : ∃ T, Iterish T ∧ o.cls = .type T := by
  unfold isIt at h
  split at h
  · rename_i T e
    have e1 : (T == "list_iterator") = S.eqLit 9146042919481958196396663532141 T := congrFun (S.eqLit_eq "list_iterator" 9146042919481958196396663532141 (by decide +kernel)) T
    have e2 : (T == "range_iterator") = S.eqLit 2341386987387381298277481238717043 T := congrFun (S.eqLit_eq "range_iterator" 2341386987387381298277481238717043 (by decide +kernel)) T
    have e3 : (T == "str_ascii_iterator") = S.eqLit 10056180538108767159183876981558246666106228 T := congrFun (S.eqLit_eq "str_ascii_iterator" 10056180538108767159183876981558246666106228 (by decide +kernel)) T
    rw [← e1, ← e2, ← e3] at h
    refine ⟨T, ?_, e⟩
    rcases (Bool.or_eq_true _ _).mp h with h | h
    · rw [eq_of_beq h]; exact .list
    · rcases (Bool.or_eq_true _ _).mp h with h | h
      · rw [eq_of_beq h]; exact .range
      · rw [eq_of_beq h]; exact .ascii
  · cases h
noncomputable def cnth : List Comprehension → Nat → Option Comprehension
  | [], _ => none
  | x :: _, 0 => some x
  | _ :: l, n + 1 => cnth l n
theorem cnth_eq (l : List Comprehension) (n : Nat) : cnth l n = l[n]? := by
  induction l generalizing n with
  | nil => rfl
  | cons x l ih =>
    cases n with
    | zero => rfl
    | succ n => rw [List.getElem?_cons_succ]; exact ih n
noncomputable def compOk (e : Expr) (d : Nat) : Bool := match e with
  | .ListComp _ gens _ _ => match cnth gens d with
    | some g => match g.is_async with
      | .ofNat n => Nat.beq n 0
      | .negSucc _ => false
    | none => false
  | _ => false
theorem compOk_some {e : Expr} {d : Nat} (h : compOk e d = true) : ∃ elt gens scope pos g, e = .ListComp elt gens scope pos ∧ gens[d]? = some g ∧ g.is_async = 0 := by
  unfold compOk at h
  split at h
  · rename_i elt gens scope pos
    split at h
    · rename_i g hg
      split at h
      · rename_i n hn
        refine ⟨elt, gens, scope, pos, g, rfl, (cnth_eq gens d).symm.trans hg, ?_⟩
        rw [hn, Nat.eq_of_beq_eq_true h]; rfl
      · cases h
    · cases h
  · cases h
noncomputable def compArgs : Code → Option (Expr × Nat × Value × Value × Env)
  | .compStart e d it acc env => some (e, d, it, acc, env)
  | _ => none
theorem compArgs_some {c : Code} {e d it acc env} (h : compArgs c = some (e, d, it, acc, env)) : c = .compStart e d it acc env := by
  unfold compArgs at h
  split at h
  · cases h; rfl
  · cases h
noncomputable def hsDrop (c : Code) (hs : List Nat) : List Nat := match compArgs c with
  | none => hs
  | some _ => match hs with
    | [] => []
    | _ :: r => r
noncomputable def compGo (c : Code) (hs : List Nat) : Option (Expr × Nat × Value × Value × Env) := match compArgs c with
  | none => none
  | some x => match hs with
    | [] => none
    | j :: _ => match Nat.beq j 9999 with
      | true => none
      | false => some x
theorem compGo_some {c : Code} {hs : List Nat} {e d it acc env} (h : compGo c hs = some (e, d, it, acc, env)) : c = .compStart e d it acc env := by
  unfold compGo at h
  split at h
  · cases h
  · rename_i x hx
    split at h
    · cases h
    · split at h
      · cases h
      · cases h; exact compArgs_some hx
noncomputable def takeN : List Value → List Value → List Value
  | [], _ => []
  | _ :: _, [] => []
  | _ :: xs, y :: ys => y :: takeN xs ys
theorem takeN_strip : ∀ {xs ys : List Value}, takeN xs ys = xs → ∃ more, strip xs ys = some more
  | [], ys, _ => ⟨ys, rfl⟩
  | x :: xs, [], h => by cases h
  | x :: xs, y :: ys, h => by
    have h' : y :: takeN xs ys = x :: xs := h
    injection h' with h1 h2
    obtain ⟨more, e⟩ := takeN_strip h2
    refine ⟨more, ?_⟩
    unfold X.strip
    rw [if_pos h1.symm, e]
noncomputable def next {V : XV} (set set' : Setting) (kt : KT) (tabs : Ch) (lv : Nat) (w : Ora) (s : St V) : Option (St V) :=
  match s with
  | ⟨c, κ, t, lev, l, ch, na, nt, ns, hs, cs, eA, eC, eL, eT⟩ => match t with
  | .pure fin => match fin with
    | .done f => match lev with
      | 0 => none
      | lev + 1 => match κ with
        | .ret c' _ k κ' => some ⟨c', κ', k (.ok f), lev, l, ch, na, nt, ns, hs, cs, eA, eC, eL, eT⟩
        | _ => none
    | .again c' => match qt c' with
      | true => some ⟨c', κ, dn c', lev, l, ch, na, nt, ns, hs, cs, eA, eC, eL, eT⟩
      | false => none
  | .raise e => match lev with
    | 0 => none
    | lev + 1 => match κ with
      | .ret c' _ k κ' => some ⟨c', κ', k (.error e), lev, l, ch, na, nt, ns, hs, cs, eA, eC, eL, eT⟩
      | _ => none
  | .rule _ k => some ⟨c, κ, k (), lev, l, ch, na, nt, ns, hs, cs, eA, eC, eL, eT⟩
  | .at _ k => some ⟨c, κ, k (), lev, l, ch, na, nt, ns, hs, cs, eA, eC, eL, eT⟩
  | .point _ k => some ⟨c, κ, k (), lev, l, ch, na, nt, ns, hs, cs, eA, eC, eL, eT⟩
  | .ask k => some ⟨c, κ, k set, lev, l, ch, na, nt, ns, hs, cs, eA, eC, eL, (k set, k set') :: eT⟩
  | .load a _ k => match hs with
    | [] => none
    | j :: hs => match j with
      | 0 => match oldAt kt a with
        | some o => some ⟨c, κ, k o, lev, l, ch, na, nt, ns, hs, cs, eA, eC, eL, eT⟩
        | none => match (match chLook ch a with | some vs => some vs | none => chLook tabs a) with
          | some vs => some ⟨c, κ, k (tableObj vs), lev, l, ch, na, nt, ns, hs, cs, eA, eC, eL, eT⟩
          | none => none
      | j + 1 => match lget l j with
        | some p => some ⟨c, κ, k p.2, lev, l, ch, na, nt, ns, hs, cs, (a, p.1) :: eA, eC, eL, eT⟩
        | none => none
  | .loadIfAlive a k => match hs with
    | [] => none
    | j :: hs => match j with
      | 0 => match oldAt kt a with
        | some o => some ⟨c, κ, k (some o), lev, l, ch, na, nt, ns, hs, cs, eA, eC, eL, eT⟩
        | none => none
      | j + 1 => match lget l j with
        | some p => some ⟨c, κ, k (some p.2), lev, l, ch, na, nt, ns, hs, cs, (a, p.1) :: eA, eC, eL, eT⟩
        | none => none
  | .alloc o k => match o.isFreed with
    | true => none
    | false => some ⟨c, κ, k (w.a na), lev, l ++ [(w.a na, o)], ch, na + 1, nt, ns, hs, cs, eA, eC, eL, eT⟩
  | .update a _ f k => match hs with
    | [] => none
    | j :: hs => match j with
      | 0 => match (match chLook ch a with | some vs => some vs | none => chLook tabs a) with
        | some vs => match tabOf (f (tableObj vs)) with
          | some vs' => some ⟨c, κ, k (), lev, l, chPut ch a vs', na, nt, ns, hs, cs, eA, eC, ([(0, tableObj ⟨takeN vs.toList vs'.toList⟩)],[(0, tableObj vs)]) :: eL, eT⟩
          | none => none
        | none => none
      | j + 1 => match lget l j with
        | some p => match (f p.2).isFreed with
          | true => none
          | false => some ⟨c, κ, k (), lev, lset l j (f p.2), ch, na, nt, ns, hs, cs, (a, p.1) :: eA, eC, eL, eT⟩
        | none => none
  | .fresh k => some ⟨c, κ, k (w.t nt), lev, l, ch, na, nt + 1, ns, hs, cs, eA, eC, eL, eT⟩
  | .handled own k => match own with
    | false => some ⟨c, κ, k none, lev, l, ch, na, nt, ns, hs, cs, eA, eC, eL, eT⟩
    | true => none
  | .call c' hd _ _ k => match hd with
    | some _ => none
    | none => match compGo c' hs with
     | some (e, d, it, acc, env) => match hs with
      | [] => none
      | j :: hs => match it with
        | .ref a => match lget l j with
          | some p => match (compOk e d && isIt p.2) with
            | true => some ⟨.compLoop e d it acc env, .ret c none k κ, dn (.compLoop e d it acc env), lev + 1, l, ch, na, nt, ns, hs, cs, (a, p.1) :: eA, eC, eL, eT⟩
            | false => none
          | none => none
        | _ => none
     | none => match cs with
      | [] => some ⟨c', .ret c none k κ, dn c', lev + 1, l, ch, na, nt, ns, hsDrop c' hs, cs, eA, eC, eL, eT⟩
      | (n, m, C) :: cs => match n with
        | n + 1 => some ⟨c', .ret c none k κ, dn c', lev + 1, l, ch, na, nt, ns, hsDrop c' hs, (n, m, C) :: cs, eA, eC, eL, eT⟩
        | 0 => match Nat.ble (lv + (cw c + wsum κ lev)) (C (tr w na nt ns)).1.lv with
          | true => some ⟨c, κ, k ((C (tr w na nt ns)).1.r (cut w.a na (C (tr w na nt ns)).1.nN) (cut w.t nt (C (tr w na nt ns)).1.nT)), lev,
              maskPut l m ((C (tr w na nt ns)).1.post (cut w.a na (C (tr w na nt ns)).1.nN) (cut w.t nt (C (tr w na nt ns)).1.nT)) ++ newL (cut w.a na (C (tr w na nt ns)).1.nN) 0 ((C (tr w na nt ns)).1.new (cut w.a na (C (tr w na nt ns)).1.nN) (cut w.t nt (C (tr w na nt ns)).1.nT)),
              ch, na + (C (tr w na nt ns)).1.nN, nt + (C (tr w na nt ns)).1.nT, ns, hsDrop c' hs, cs, eA, (c', (C (tr w na nt ns)).1.c) :: eC, (maskT l m, (C (tr w na nt ns)).1.foot) :: eL, eT⟩
          | false => none
  | .stack k => match c with
    | .call (.ref f) _ => match hs with
      | hf :: hl :: hs =>
        match (match hf with | 0 => oldAt kt f | j + 1 => match lget l j with | some p => some p.2 | none => none) with
        | some o => match o.data with
          | .func fd => match qt (entryCode fd f (ldrop l hl)) with
            | true => match Nat.blt (lv + (cw c + wsum κ lev)) 1000 with
              | true => some ⟨entryCode fd f (ldrop l hl), κ, dn (entryCode fd f (ldrop l hl)), lev, l, ch, na, nt, ns, hs, cs, eA, eC, eL,
                  (.stack k, R.bindR (ZFast.enterX 0) (fun _ => .pure (.again (entryCode fd f (ldrop l hl))))) :: eT⟩
              | false => none
            | false => none
          | _ => none
        | none => none
      | _ => none
    | _ => some ⟨c, κ, k ((c, (w.p ns).1) :: (w.p ns).2), lev, l, ch, na, nt, ns + 1, hs, cs, eA, eC, eL, eT⟩
  | _ => none

noncomputable def vm {V : XV} (set set' : Setting) (kt : KT) (tabs : Ch) (lv : Nat) (w : Ora) (n : Nat) : St V → Option (St V) :=
  Nat.rec (motive := fun _ => St V → Option (St V)) (fun s => some s) (fun _ ih s => match next set set' kt tabs lv w s with | some s' => ih s' | none => none) n
theorem vm_zero {V : XV} (set set' : Setting) (kt : KT) (tabs : Ch) (lv : Nat) (w : Ora) (s : St V) : vm set set' kt tabs lv w 0 s = some s := rfl
theorem vm_succ {V : XV} (set set' : Setting) (kt : KT) (tabs : Ch) (lv : Nat) (w : Ora) (n : Nat) (s : St V) : vm set set' kt tabs lv w (n + 1) s = match next set set' kt tabs lv w s with | some s' => vm set set' kt tabs lv w n s' | none => none := rfl

structure Eqs {V : XV} (s : St V) : Prop where
  A : s.eA.map (·.1) = s.eA.map (·.2)
  C : s.eC.map (·.1) = s.eC.map (·.2)
  L : s.eL.map (·.1) = s.eL.map (·.2)
  T : s.eT.map (·.1) = s.eT.map (·.2)

structure Vok (V : XV) (set set' : Setting) (kt : KT) (tabs : Ch) : Prop where
  set : set = ⟨V.prog, V.w.params⟩ ∨ set' = ⟨V.prog, V.w.params⟩
  kt : ∀ a o, kt.get a = some o → V.h₀.get? a = some o
  tabs : ∀ a vs, chLook tabs a = some vs → ∃ c, V.h₀.TableAt c a vs
  lim : ∀ h : Heap, (∀ b o, V.h₀.get? b = some o → notTab o = true → h.get? b = some o) → h.NoLimit
inductive On (κ₀ : Kont) : Nat → Kont → Prop
  | base : On κ₀ 0 κ₀
  | push {n : Nat} {κ : Kont} {c : Code} {k : Result → Sem PySem.Fin} : On κ₀ n κ → On κ₀ (n + 1) (.ret c none k κ)
theorem On.room {V : XV} {κ₀ : Kont} {lv : Nat} (h : Rm V κ₀ lv) : ∀ {n : Nat} {κ : Kont}, On κ₀ n κ → Rm V κ (lv + wsum κ n)
  | _, _, .base => ⟨Nat.le_trans h.room (Nat.le_add_right ..), h.hand⟩
  | _, _, .push (c := c) (k := k) o => by
    have z := (On.room h o).push c k
    refine ⟨Nat.le_trans z.room ?_, z.hand⟩
    show _ ≤ lv + (cw c + wsum _ _)
    omega
noncomputable def Gs {V : XV} (R : Lst) (s : St V) : Prop := G V s.ch s.c s.κ s.t (s.l ++ R)
noncomputable def Ag (w w' : Ora) (na nt ns : Nat) : Prop := (∀ j, j < na → w'.a j = w.a j) ∧ (∀ j, j < nt → w'.t j = w.t j) ∧ (∀ j, j < ns → w'.p j = w.p j)
end Mine
namespace Mine
open PySem PySem.W PySem.W.X PySem.Spec PySem.Calls PyProof.Rows

noncomputable def Post {α : Type} (Q : α → Prop) (o : Option α) : Prop := ∀ x, o = some x → Q x
theorem post_none {α : Type} {Q : α → Prop} : Post Q none := fun _ h => nomatch h
theorem post_some {α : Type} {Q : α → Prop} {x : α} (h : Q x) : Post Q (some x) := fun _ e => Option.some.inj e ▸ h
noncomputable def tabLook (tabs ch : Ch) (a : Addr) : Option (Array Value) := match chLook ch a with | some vs => some vs | none => chLook tabs a
noncomputable def ldN (kt : KT) (tabs ch : Ch) (l : Lst) (a : Addr) (hs : List Nat) : Option (Obj × List Nat × List (Addr × Addr)) := match hs with
  | [] => none
  | j :: hs => match j with
    | 0 => match oldAt kt a with
      | some o => some (o, hs, [])
      | none => match tabLook tabs ch a with
        | some vs => some (tableObj vs, hs, [])
        | none => none
    | j + 1 => match lget l j with
      | some p => some (p.2, hs, [(a, p.1)])
      | none => none
noncomputable def alN (kt : KT) (l : Lst) (a : Addr) (hs : List Nat) : Option (Obj × List Nat × List (Addr × Addr)) := match hs with
  | [] => none
  | j :: hs => match j with
    | 0 => match oldAt kt a with
      | some o => some (o, hs, [])
      | none => none
    | j + 1 => match lget l j with
      | some p => some (p.2, hs, [(a, p.1)])
      | none => none
noncomputable def upN (tabs ch : Ch) (l : Lst) (a : Addr) (f : Obj → Obj) (hs : List Nat) : Option ((Lst × Ch) × List Nat × List (Addr × Addr) × List (Lst × Lst)) := match hs with
  | [] => none
  | j :: hs => match j with
    | 0 => match tabLook tabs ch a with
      | some vs => match tabOf (f (tableObj vs)) with
        | some vs' => some ((l, chPut ch a vs'), hs, [],[([(0, tableObj ⟨takeN vs.toList vs'.toList⟩)],[(0, tableObj vs)])])
        | none => none
      | none => none
    | j + 1 => match lget l j with
      | some p => match (f p.2).isFreed with
        | true => none
        | false => some ((lset l j (f p.2), ch), hs, [(a, p.1)],[])
      | none => none
noncomputable def reN (κ : Kont) (lev : Nat) (r : Result) : Option ((Code × Kont) × Sem PySem.Fin × Nat) := match lev with
  | 0 => none
  | lev + 1 => match κ with
    | .ret c' _ k κ' => some ((c', κ'), k r, lev)
    | _ => none
noncomputable def coN (l : Lst) (e : Expr) (d : Nat) (it : Value) (hs : List Nat) : Option ((Addr × (Addr × Obj)) × List Nat) := match hs with
  | [] => none
  | j :: hs => match it with
    | .ref a => match lget l j with
      | some p => match (compOk e d && isIt p.2) with
        | true => some ((a, p), hs)
        | false => none
      | none => none
    | _ => none
noncomputable def enN (kt : KT) (lv : Nat) (c : Code) (κ : Kont) (lev : Nat) (l : Lst) (f : Addr) (hs : List Nat) : Option (Code × List Nat) := match hs with
  | hf :: hl :: hs =>
    match (match hf with | 0 => oldAt kt f | j + 1 => match lget l j with | some p => some p.2 | none => none) with
    | some o => match o.data with
      | .func fd => match qt (entryCode fd f (ldrop l hl)) with
        | true => match Nat.blt (lv + (cw c + wsum κ lev)) 1000 with
          | true => some (entryCode fd f (ldrop l hl), hs)
          | false => none
        | false => none
      | _ => none
    | none => none
  | _ => none

section
variable {V : XV} {set set' : Setting} {kt : KT} {tabs : Ch} {lv : Nat} {w : Ora}
variable {c : Code} {κ : Kont} {lev : Nat} {l : Lst} {ch : Ch} {na nt ns : Nat} {hs : List Nat} {cs : List (Nat × List Bool × (Ora → VCon V))} {eA : List (Addr × Addr)} {eC : List (Code × Code)} {eL : List (Lst × Lst)} {eT : List (Sem PySem.Fin × Sem PySem.Fin)}

noncomputable def rs (V : XV) (κ : Kont) (c : Code) (t : Sem PySem.Fin) (lev : Nat) (y : Lst × Ch) (na nt ns : Nat) (hs : List Nat) (cs : List (Nat × List Bool × (Ora → VCon V))) (eA : List (Addr × Addr)) (eC : List (Code × Code)) (eL : List (Lst × Lst)) (eT : List (Sem PySem.Fin × Sem PySem.Fin)) : St V := ⟨c, κ, t, lev, y.1, y.2, na, nt, ns, hs, cs, eA, eC, eL, eT⟩
noncomputable abbrev nx (set set' : Setting) (kt : KT) (tabs : Ch) (lv : Nat) (w : Ora) {V : XV} (c : Code) (κ : Kont) (t : Sem PySem.Fin) (lev : Nat) (l : Lst) (ch : Ch) (na nt ns : Nat) (hs : List Nat) (cs : List (Nat × List Bool × (Ora → VCon V))) (eA : List (Addr × Addr)) (eC : List (Code × Code)) (eL : List (Lst × Lst)) (eT : List (Sem PySem.Fin × Sem PySem.Fin)) : Option (St V) := next set set' kt tabs lv w ⟨c, κ, t, lev, l, ch, na, nt, ns, hs, cs, eA, eC, eL, eT⟩

theorem next_done {f : Flow} : nx set set' kt tabs lv w c κ (.pure (.done f)) lev l ch na nt ns hs cs eA eC eL eT = (reN κ lev (.ok f)).map fun x => rs V x.1.2 x.1.1 x.2.1 x.2.2 (l, ch) na nt ns hs cs eA eC eL eT := by
  cases lev with
  | zero => rfl
  | succ n => cases κ <;> rfl
theorem next_raise {e : Value} : nx set set' kt tabs lv w c κ (.raise e) lev l ch na nt ns hs cs eA eC eL eT = (reN κ lev (.error e)).map fun x => rs V x.1.2 x.1.1 x.2.1 x.2.2 (l, ch) na nt ns hs cs eA eC eL eT := by
  cases lev with
  | zero => rfl
  | succ n => cases κ <;> rfl
theorem next_load {a : Addr} {q : Option Value} {k : Obj → Sem PySem.Fin} : nx set set' kt tabs lv w c κ (.load a q k) lev l ch na nt ns hs cs eA eC eL eT = (ldN kt tabs ch l a hs).map fun x => rs V κ c (k x.1) lev (l, ch) na nt ns x.2.1 cs (x.2.2 ++ eA) eC eL eT := by
  cases hs with
  | nil => rfl
  | cons j hs =>
    cases j with
    | zero =>
      show (match oldAt kt a with
        | some o => some (rs V κ c (k o) lev (l, ch) na nt ns hs cs eA eC eL eT)
        | none => match tabLook tabs ch a with
          | some vs => some (rs V κ c (k (tableObj vs)) lev (l, ch) na nt ns hs cs eA eC eL eT)
          | none => none) = Option.map _ (match oldAt kt a with
        | some o => some (o, hs, [])
        | none => match tabLook tabs ch a with
          | some vs => some (tableObj vs, hs, [])
          | none => none)
      generalize oldAt kt a = o
      generalize tabLook tabs ch a = y
      cases o with
      | some o => rfl
      | none => cases y <;> rfl
    | succ j =>
      show (match lget l j with
        | some p => some (rs V κ c (k p.2) lev (l, ch) na nt ns hs cs ((a, p.1) :: eA) eC eL eT)
        | none => none) = Option.map _ (match lget l j with
        | some p => some (p.2, hs, [(a, p.1)])
        | none => none)
      generalize lget l j = o
      cases o <;> rfl
theorem next_alive {a : Addr} {k : Option Obj → Sem PySem.Fin} : nx set set' kt tabs lv w c κ (.loadIfAlive a k) lev l ch na nt ns hs cs eA eC eL eT = (alN kt l a hs).map fun x => rs V κ c (k (some x.1)) lev (l, ch) na nt ns x.2.1 cs (x.2.2 ++ eA) eC eL eT := by
  cases hs with
  | nil => rfl
  | cons j hs =>
    cases j with
    | zero =>
      show (match oldAt kt a with
        | some o => some (rs V κ c (k (some o)) lev (l, ch) na nt ns hs cs eA eC eL eT)
        | none => none) = Option.map _ (match oldAt kt a with
        | some o => some (o, hs, [])
        | none => none)
      generalize oldAt kt a = o
      cases o <;> rfl
    | succ j =>
      show (match lget l j with
        | some p => some (rs V κ c (k (some p.2)) lev (l, ch) na nt ns hs cs ((a, p.1) :: eA) eC eL eT)
        | none => none) = Option.map _ (match lget l j with
        | some p => some (p.2, hs, [(a, p.1)])
        | none => none)
      generalize lget l j = o
      cases o <;> rfl
theorem next_update {a : Addr} {q : Option Value} {f : Obj → Obj} {k : Unit → Sem PySem.Fin} : nx set set' kt tabs lv w c κ (.update a q f k) lev l ch na nt ns hs cs eA eC eL eT = (upN tabs ch l a f hs).map fun x => rs V κ c (k ()) lev x.1 na nt ns x.2.1 cs (x.2.2.1 ++ eA) eC (x.2.2.2 ++ eL) eT := by
  cases hs with
  | nil => rfl
  | cons j hs =>
    cases j with
    | zero =>
      show (match tabLook tabs ch a with
        | some vs => match tabOf (f (tableObj vs)) with
          | some vs' => some (rs V κ c (k ()) lev (l, chPut ch a vs') na nt ns hs cs eA eC (([(0, tableObj ⟨takeN vs.toList vs'.toList⟩)],[(0, tableObj vs)]) :: eL) eT)
          | none => none
        | none => none) = Option.map _ (match tabLook tabs ch a with
        | some vs => match tabOf (f (tableObj vs)) with
          | some vs' => some ((l, chPut ch a vs'), hs, [],[([(0, tableObj ⟨takeN vs.toList vs'.toList⟩)],[(0, tableObj vs)])])
          | none => none
        | none => none)
      generalize tabLook tabs ch a = y
      cases y with
      | none => rfl
      | some vs => dsimp only; generalize tabOf (f (tableObj vs)) = z; cases z <;> rfl
    | succ j =>
      show (match lget l j with
        | some p => match (f p.2).isFreed with
          | true => none
          | false => some (rs V κ c (k ()) lev (lset l j (f p.2), ch) na nt ns hs cs ((a, p.1) :: eA) eC eL eT)
        | none => none) = Option.map _ (match lget l j with
        | some p => match (f p.2).isFreed with
          | true => none
          | false => some ((lset l j (f p.2), ch), hs, [(a, p.1)],[])
        | none => none)
      generalize lget l j = o
      cases o with
      | none => rfl
      | some p => dsimp only; generalize (f p.2).isFreed = z; cases z <;> rfl
noncomputable def nCon (lv : Nat) (w : Ora) (C0 : VCon V) (c' : Code) (c : Code) (κ : Kont) (k : Result → Sem PySem.Fin) (lev : Nat) (l : Lst) (ch : Ch) (m : List Bool) (na nt ns : Nat) (hs : List Nat) (cs : List (Nat × List Bool × (Ora → VCon V))) (eA : List (Addr × Addr)) (eC : List (Code × Code)) (eL : List (Lst × Lst)) (eT : List (Sem PySem.Fin × Sem PySem.Fin)) : Option (St V) :=
  match Nat.ble (lv + (cw c + wsum κ lev)) C0.1.lv with
  | true => some (rs V κ c (k (C0.1.r (cut w.a na C0.1.nN) (cut w.t nt C0.1.nT))) lev (maskPut l m (C0.1.post (cut w.a na C0.1.nN) (cut w.t nt C0.1.nT)) ++ newL (cut w.a na C0.1.nN) 0 (C0.1.new (cut w.a na C0.1.nN) (cut w.t nt C0.1.nT)), ch)
      (na + C0.1.nN) (nt + C0.1.nT) ns hs cs eA ((c', C0.1.c) :: eC) ((maskT l m, C0.1.foot) :: eL) eT)
  | false => none
theorem next_comp {c' : Code} {g : Bool} {lv' : List Value} {k : Result → Sem PySem.Fin} {e : Expr} {d : Nat} {it acc : Value} {env : Env} (q : compGo c' hs = some (e, d, it, acc, env)) :
    nx set set' kt tabs lv w c κ (.call c' none g lv' k) lev l ch na nt ns hs cs eA eC eL eT =
      (coN l e d it hs).map fun x => rs V (.ret c none k κ) (.compLoop e d it acc env) (dn (.compLoop e d it acc env)) (lev + 1) (l, ch) na nt ns x.2 cs ((x.1.1, x.1.2.1) :: eA) eC eL eT := by
  delta nx next
  dsimp only
  rw [q]
  dsimp only
  cases hs with
  | nil => rfl
  | cons j hs =>
    cases it
    case ref a =>
      dsimp only [coN]
      cases lget l j with
      | none => rfl
      | some p => dsimp only; cases (compOk e d && isIt p.2) <;> rfl
    all_goals rfl
theorem next_call0 {c' : Code} {g : Bool} {lv' : List Value} {k : Result → Sem PySem.Fin} (q : compGo c' hs = none) :
    nx set set' kt tabs lv w c κ (.call c' none g lv' k) lev l ch na nt ns hs ([] : List (Nat × List Bool × (Ora → VCon V))) eA eC eL eT = some (rs V (.ret c none k κ) c' (dn c') (lev + 1) (l, ch) na nt ns (hsDrop c' hs) [] eA eC eL eT) := by
  delta nx next
  dsimp only
  rw [q]; rfl
theorem next_call1 {c' : Code} {g : Bool} {lv' : List Value} {k : Result → Sem PySem.Fin} {n m C} (q : compGo c' hs = none) :
    nx set set' kt tabs lv w c κ (.call c' none g lv' k) lev l ch na nt ns hs ((n + 1, m, C) :: cs) eA eC eL eT = some (rs V (.ret c none k κ) c' (dn c') (lev + 1) (l, ch) na nt ns (hsDrop c' hs) ((n, m, C) :: cs) eA eC eL eT) := by
  delta nx next
  dsimp only
  rw [q]; rfl
theorem next_con {c' : Code} {g : Bool} {lv' : List Value} {k : Result → Sem PySem.Fin} {m C} (q : compGo c' hs = none) :
    nx set set' kt tabs lv w c κ (.call c' none g lv' k) lev l ch na nt ns hs ((0, m, C) :: cs) eA eC eL eT = nCon lv w (C (tr w na nt ns)) c' c κ k lev l ch m na nt ns (hsDrop c' hs) cs eA eC eL eT := by
  delta nx next
  dsimp only
  rw [q]; rfl
theorem next_enter {f : Addr} {as : Args} {k : List (Code × Pos) → Sem PySem.Fin} :
    nx set set' kt tabs lv w (.call (.ref f) as) κ (.stack k) lev l ch na nt ns hs cs eA eC eL eT =
      (enN kt lv (.call (.ref f) as) κ lev l f hs).map fun x => rs V κ x.1 (dn x.1) lev (l, ch) na nt ns x.2 cs eA eC eL ((.stack k, R.bindR (ZFast.enterX 0) (fun _ => .pure (.again x.1))) :: eT) := by
  cases hs with
  | nil => rfl
  | cons hf hs =>
    cases hs with
    | nil => rfl
    | cons hl hs =>
      cases hf
      all_goals
        delta nx next enN
        dsimp only
      rotate_left
      case' succ j => generalize lget l j = y
      case' zero => generalize oldAt kt f = y
      all_goals
        cases y
        case none => rfl
        case some o =>
          dsimp only
          generalize Nat.blt (lv + (cw (.call (.ref f) as) + wsum κ lev)) 1000 = B
          cases hd : Obj.data _
          case func fd =>
            dsimp only
            cases qt (entryCode fd f (ldrop l hl)) <;> cases B <;> rfl
          all_goals rfl
theorem next_stack {k : List (Code × Pos) → Sem PySem.Fin} (hc : ∀ f as, c ≠ .call (.ref f) as) :
    nx set set' kt tabs lv w c κ (.stack k) lev l ch na nt ns hs cs eA eC eL eT = some (rs V κ c (k ((c, (w.p ns).1) :: (w.p ns).2)) lev (l, ch) na nt ns.succ hs cs eA eC eL eT) := by
  cases c
  case call v as =>
    cases v
    case ref f => exact absurd rfl (hc f as)
    all_goals rfl
  all_goals rfl

structure Grows (s s1 : St V) : Prop where
  na : s.na ≤ s1.na
  nt : s.nt ≤ s1.nt
  ns : s.ns ≤ s1.ns
  eqs : Eqs s1 → Eqs s
  on : ∀ κ₀, On κ₀ s.lev s.κ → On κ₀ s1.lev s1.κ
  cs : ∀ p : Nat × List Bool × (Ora → VCon V) → Prop, (∀ n m C, p (n, m, C) → ∀ n', p (n', m, C)) → (∀ x ∈ s.cs, p x) → ∀ x ∈ s1.cs, p x
theorem tl {α β : Type} {f g : α → β} {x : α} {l : List α} (h : (x :: l).map f = (x :: l).map g) : l.map f = l.map g := by
  rw [List.map_cons, List.map_cons] at h
  exact (List.cons.inj h).2
theorem hdq {α β : Type} {f g : α → β} {x : α} {l : List α} (h : (x :: l).map f = (x :: l).map g) : f x = g x := by
  rw [List.map_cons, List.map_cons] at h
  exact (List.cons.inj h).1
theorem apq {α β : Type} {f g : α → β} {n l : List α} (h : (n ++ l).map f = (n ++ l).map g) : n.map f = n.map g ∧ l.map f = l.map g := by
  rw [List.map_append, List.map_append] at h
  exact List.append_inj h (by rw [List.length_map, List.length_map])
theorem On.pop {κ₀ κ : Kont} {n : Nat} {c : Code} {hd : Option Value} {k : Result → Sem PySem.Fin} (h : On κ₀ (n + 1) (.ret c hd k κ)) : On κ₀ n κ := by
  cases h with
  | push o => exact o
theorem reN_some {r : Result} {x} (h : reN κ lev r = some x) : ∃ hd k, κ = .ret x.1.1 hd k x.1.2 ∧ lev = x.2.2 + 1 ∧ x.2.1 = k r := by
  cases lev with
  | zero => exact nomatch h
  | succ n =>
    cases κ
    case ret c hd k κ' => cases Option.some.inj h; exact ⟨hd, k, rfl, rfl, rfl⟩
    all_goals exact nomatch h
theorem post_map {α β : Type} {Q : β → Prop} {f : α → β} {o : Option α} (h : ∀ x, o = some x → Q (f x)) : Post Q (o.map f) := by
  cases o with
  | none => exact post_none
  | some x => exact post_some (h x rfl)
theorem Eqs.of {s : St V} {y : Lst × Ch} {na' nt' ns' lev' hs' cs' c' κ' t' n1 n2 n3 n4} (h : Eqs (rs V κ' c' t' lev' y na' nt' ns' hs' cs' (n1 ++ s.eA) (n2 ++ s.eC) (n3 ++ s.eL) (n4 ++ s.eT))) : Eqs s := ⟨(apq h.A).2, (apq h.C).2, (apq h.L).2, (apq h.T).2⟩
theorem cs_le (p : Nat × List Bool × (Ora → VCon V) → Prop) (hp : ∀ n m C, p (n, m, C) → ∀ n', p (n', m, C)) {n m C} (n' : Nat) (h : ∀ x ∈ (n, m, C) :: cs, p x) : ∀ x ∈ (n', m, C) :: cs, p x := fun x hx =>
  (List.mem_cons.mp hx).elim (fun e => e ▸ hp _ _ _ (h _ List.mem_cons_self) _) fun hx => h x (List.mem_cons_of_mem _ hx)

theorem grow_same {s : St V} {c' : Code} {t' : Sem PySem.Fin} {y : Lst × Ch} {da dt dn' : Nat} {hs' n1 n2 n3 n4} : Grows s (rs V s.κ c' t' s.lev y (s.na + da) (s.nt + dt) (s.ns + dn') hs' s.cs (n1 ++ s.eA) (n2 ++ s.eC) (n3 ++ s.eL) (n4 ++ s.eT)) :=
  ⟨Nat.le_add_right .., Nat.le_add_right .., Nat.le_add_right .., Eqs.of, fun _ o => o, fun _ _ h => h⟩
theorem next_grows0 (s : St V) : Post (Grows s) (next set set' kt tabs lv w s) := by
  obtain ⟨c, κ, t, lev, l, ch, na, nt, ns, hs, cs, eA, eC, eL, eT⟩ := s
  show Post _ (nx set set' kt tabs lv w c κ t lev l ch na nt ns hs cs eA eC eL eT)
  have ret : ∀ r, Post (Grows (⟨c, κ, t, lev, l, ch, na, nt, ns, hs, cs, eA, eC, eL, eT⟩ : St V)) ((reN κ lev r).map fun x => rs V x.1.2 x.1.1 x.2.1 x.2.2 (l, ch) na nt ns hs cs eA eC eL eT) := fun r => post_map fun x e => by
    obtain ⟨hd, k, e1, e2, -⟩ := reN_some e
    exact ⟨Nat.le_refl _, Nat.le_refl _, Nat.le_refl _, fun h => ⟨h.A, h.C, h.L, h.T⟩, fun κ₀ o => On.pop (c := x.1.1) (hd := hd) (k := k) (e1 ▸ e2 ▸ o), fun _ _ h => h⟩
  cases t
  case pure fin =>
    cases fin with
    | done f => rw [next_done]; exact ret _
    | again c' =>
      show Post _ (match qt c' with | true => some (rs V κ c' (dn c') lev (l, ch) (na + 0) (nt + 0) (ns + 0) hs cs ([] ++ eA) ([] ++ eC) ([] ++ eL) ([] ++ eT)) | false => none)
      cases qt c' with
      | true => exact post_some (grow_same (s := ⟨_, _, _, _, _, _, _, _, _, _, _, _, _, _, _⟩))
      | false => exact post_none
  case raise e => rw [next_raise]; exact ret _
  case load => rw [next_load]; exact post_map fun x _ => grow_same (s := ⟨_, _, _, _, _, _, _, _, _, _, _, _, _, _, _⟩) (da := 0) (dt := 0) (dn' := 0) (n2 := []) (n3 := []) (n4 := [])
  case loadIfAlive => rw [next_alive]; exact post_map fun x _ => grow_same (s := ⟨_, _, _, _, _, _, _, _, _, _, _, _, _, _, _⟩) (da := 0) (dt := 0) (dn' := 0) (n2 := []) (n3 := []) (n4 := [])
  case update => rw [next_update]; exact post_map fun x _ => grow_same (s := ⟨_, _, _, _, _, _, _, _, _, _, _, _, _, _, _⟩) (da := 0) (dt := 0) (dn' := 0) (n2 := []) (n4 := [])
  case rule => exact post_some (grow_same (s := ⟨_, _, _, _, _, _, _, _, _, _, _, _, _, _, _⟩) (y := (l, ch)) (da := 0) (dt := 0) (dn' := 0) (n1 := []) (n2 := []) (n3 := []) (n4 := []))
  case «at» => exact post_some (grow_same (s := ⟨_, _, _, _, _, _, _, _, _, _, _, _, _, _, _⟩) (y := (l, ch)) (da := 0) (dt := 0) (dn' := 0) (n1 := []) (n2 := []) (n3 := []) (n4 := []))
  case point => exact post_some (grow_same (s := ⟨_, _, _, _, _, _, _, _, _, _, _, _, _, _, _⟩) (y := (l, ch)) (da := 0) (dt := 0) (dn' := 0) (n1 := []) (n2 := []) (n3 := []) (n4 := []))
  case ask k => exact post_some (grow_same (s := ⟨_, _, _, _, _, _, _, _, _, _, _, _, _, _, _⟩) (y := (l, ch)) (da := 0) (dt := 0) (dn' := 0) (n1 := []) (n2 := []) (n3 := []) (n4 := [(k set, k set')]))
  case fresh => exact post_some (grow_same (s := ⟨_, _, _, _, _, _, _, _, _, _, _, _, _, _, _⟩) (y := (l, ch)) (da := 0) (dt := 1) (dn' := 0) (n1 := []) (n2 := []) (n3 := []) (n4 := []))
  case handled own k =>
    cases own with
    | true => exact post_none
    | false => exact post_some (grow_same (s := ⟨_, _, _, _, _, _, _, _, _, _, _, _, _, _, _⟩) (y := (l, ch)) (da := 0) (dt := 0) (dn' := 0) (n1 := []) (n2 := []) (n3 := []) (n4 := []))
  case alloc o k =>
    show Post _ (match o.isFreed with | true => none | false => some (rs V κ c (k (w.a na)) lev (l ++ [(w.a na, o)], ch) (na + 1) (nt + 0) (ns + 0) hs cs ([] ++ eA) ([] ++ eC) ([] ++ eL) ([] ++ eT)))
    cases o.isFreed with
    | true => exact post_none
    | false => exact post_some (grow_same (s := ⟨_, _, _, _, _, _, _, _, _, _, _, _, _, _, _⟩))
  case call c' hd g lv' k =>
    cases hd with
    | some v => exact post_none
    | none =>
      cases q : compGo c' hs with
      | some x =>
        obtain ⟨e, d, it, acc, env⟩ := x
        rw [next_comp q]
        exact post_map fun x _ => ⟨Nat.le_refl _, Nat.le_refl _, Nat.le_refl _, fun h => ⟨tl h.A, h.C, h.L, h.T⟩, fun _ o => o.push, fun _ _ h => h⟩
      | none =>
        cases cs with
        | nil => rw [next_call0 q]; exact post_some ⟨Nat.le_refl _, Nat.le_refl _, Nat.le_refl _, fun h => ⟨h.A, h.C, h.L, h.T⟩, fun _ o => o.push, fun _ _ h => h⟩
        | cons x cs =>
          obtain ⟨n, m, C⟩ := x
          cases n with
          | succ n => rw [next_call1 q]; exact post_some ⟨Nat.le_refl _, Nat.le_refl _, Nat.le_refl _, fun h => ⟨h.A, h.C, h.L, h.T⟩, fun _ o => o.push, fun p hp h => cs_le p hp n h⟩
          | zero =>
            rw [next_con q]
            delta nCon
            cases Nat.ble _ _ with
            | false => exact post_none
            | true => exact post_some ⟨Nat.le_add_right .., Nat.le_add_right .., Nat.le_refl _, fun h => ⟨h.A, tl h.C, tl h.L, h.T⟩, fun _ o => o, fun p hp h x hx => h x (List.mem_cons_of_mem _ hx)⟩
  case stack k =>
    by_cases hc : ∃ f a, c = .call (.ref f) a
    · obtain ⟨f, a, rfl⟩ := hc
      rw [next_enter]
      exact post_map fun x _ => grow_same (s := ⟨_, _, _, _, _, _, _, _, _, _, _, _, _, _, _⟩) (da := 0) (dt := 0) (dn' := 0) (n1 := []) (n2 := []) (n3 := []) (n4 := [_])
    · rw [next_stack fun f a e => hc ⟨f, a, e⟩]
      exact post_some (grow_same (s := ⟨_, _, _, _, _, _, _, _, _, _, _, _, _, _, _⟩) (da := 0) (dt := 0) (dn' := 1) (n1 := []) (n2 := []) (n3 := []) (n4 := []))
  all_goals exact post_none
theorem next_grows {s s1 : St V} (h : next set set' kt tabs lv w s = some s1) : Grows s s1 := next_grows0 s s1 h
theorem cut_congr {f f' : Nat → Nat} {b n : Nat} (h : ∀ j, j < b + n → f' j = f j) : cut f' b n = cut f b n := by
  funext j
  unfold cut
  cases q : Nat.blt j n with
  | false => rfl
  | true => exact h _ (Nat.add_lt_add_left (blt_true q) b)
theorem tr_congr {w w' : Ora} {na nt ns : Nat} (a : Ag w w' na nt ns) : tr w' na nt ns = tr w na nt ns := by
  unfold tr
  congr 1
  · funext j
    cases q : Nat.blt j na with
    | false => rfl
    | true => exact a.1 _ (blt_true q)
  · funext j
    cases q : Nat.blt j nt with
    | false => rfl
    | true => exact a.2.1 _ (blt_true q)
  · funext j
    cases q : Nat.blt j ns with
    | false => rfl
    | true => exact a.2.2 _ (blt_true q)
theorem Ag.low {w w' : Ora} {na nt ns na' nt' ns' : Nat} (a : Ag w w' na' nt' ns') (h1 : na ≤ na') (h2 : nt ≤ nt') (h3 : ns ≤ ns') : Ag w w' na nt ns :=
  ⟨fun j h => a.1 j (Nat.lt_of_lt_of_le h h1), fun j h => a.2.1 j (Nat.lt_of_lt_of_le h h2), fun j h => a.2.2 j (Nat.lt_of_lt_of_le h h3)⟩
theorem next_congr {w w' : Ora} {s s1 : St V} (h : next set set' kt tabs lv w s = some s1) (a : Ag w w' s1.na s1.nt s1.ns) : next set set' kt tabs lv w' s = some s1 := by
  have gr := next_grows h
  have a0 : Ag w w' s.na s.nt s.ns := a.low gr.na gr.nt gr.ns
  obtain ⟨c, κ, t, lev, l, ch, na, nt, ns, hs, cs, eA, eC, eL, eT⟩ := s
  cases t
  case alloc o k =>
    have h' : (match o.isFreed with | true => none | false => some (rs V κ c (k (w.a na)) lev (l ++ [(w.a na, o)], ch) (na + 1) nt ns hs cs eA eC eL eT)) = some s1 := h
    show (match o.isFreed with | true => none | false => some (rs V κ c (k (w'.a na)) lev (l ++ [(w'.a na, o)], ch) (na + 1) nt ns hs cs eA eC eL eT)) = some s1
    cases q : o.isFreed with
    | true => rw [q] at h'; exact h'
    | false =>
      rw [q] at h'
      have e := Option.some.inj h'
      have e1 : w'.a na = w.a na := a.1 na (e ▸ Nat.lt_succ_self na)
      rw [e1]
      exact h'
  case fresh k =>
    have h' : some (rs V κ c (k (w.t nt)) lev (l, ch) na (nt + 1) ns hs cs eA eC eL eT) = some s1 := h
    show some (rs V κ c (k (w'.t nt)) lev (l, ch) na (nt + 1) ns hs cs eA eC eL eT) = some s1
    have e := Option.some.inj h'
    have e1 : w'.t nt = w.t nt := a.2.1 nt (e ▸ Nat.lt_succ_self nt)
    rw [e1]
    exact h'
  case call c' hd g lv' k =>
    cases hd with
    | some v => exact h
    | none =>
      have h' : nx set set' kt tabs lv w c κ (.call c' none g lv' k) lev l ch na nt ns hs cs eA eC eL eT = some s1 := h
      show nx set set' kt tabs lv w' c κ (.call c' none g lv' k) lev l ch na nt ns hs cs eA eC eL eT = some s1
      cases q : compGo c' hs with
      | some x =>
        obtain ⟨e, d, it, acc, env⟩ := x
        exact (next_comp q).trans ((next_comp q).symm.trans h')
      | none =>
        cases cs with
        | nil => exact (next_call0 q).trans ((next_call0 q).symm.trans h')
        | cons x cs =>
          obtain ⟨n, m, C⟩ := x
          cases n with
          | succ n => exact (next_call1 q).trans ((next_call1 q).symm.trans h')
          | zero =>
            have h2 := (next_con q).symm.trans h'
            refine (next_con q).trans ?_
            rw [tr_congr a0]
            generalize C (tr w na nt ns) = C0 at h2 ⊢
            delta nCon at h2 ⊢
            cases q2 : Nat.ble (lv + (cw c + wsum κ lev)) C0.1.lv with
            | false => rw [q2] at h2; exact nomatch h2
            | true =>
              rw [q2] at h2
              have e := Option.some.inj h2
              have e1 : cut w'.a na C0.1.nN = cut w.a na C0.1.nN := cut_congr fun j hj => a.1 j (e ▸ hj)
              have e2 : cut w'.t nt C0.1.nT = cut w.t nt C0.1.nT := cut_congr fun j hj => a.2.1 j (e ▸ hj)
              rw [e1, e2]
              exact h2
  case stack k =>
    by_cases hc : ∃ f a, c = .call (.ref f) a
    · obtain ⟨f, as, rfl⟩ := hc
      exact h
    · have hc' : ∀ f as, c ≠ .call (.ref f) as := fun f a e => hc ⟨f, a, e⟩
      have h' : nx set set' kt tabs lv w c κ (.stack k) lev l ch na nt ns hs cs eA eC eL eT = some s1 := h
      show nx set set' kt tabs lv w' c κ (.stack k) lev l ch na nt ns hs cs eA eC eL eT = some s1
      rw [next_stack hc'] at h' ⊢
      have e := Option.some.inj h'
      have e1 : w'.p ns = w.p ns := a.2.2 ns (e ▸ Nat.lt_succ_self ns)
      rw [e1]
      exact h'
  all_goals exact h
end
end Mine
namespace Mine
open PySem PySem.W PySem.W.X PySem.Spec PySem.Calls PyProof.Rows

noncomputable def Gx (V : XV) (ch : Ch) (c : Code) (κ : Kont) (t : Sem PySem.Fin) (l : Lst) (i : Nat) : Prop :=
  ∀ h, Mm V h ch l → Means V c none κ t ⟨h, ⟨[]⟩, V.d, i, V.os⟩
theorem G.ofX {V : XV} {ch : Ch} {c : Code} {κ : Kont} {t : Sem PySem.Fin} {l : Lst} (x : ∀ i, Gx V ch c κ t l i) : G V ch c κ t l := fun h i D => x i h D
theorem G.toX {V : XV} {ch : Ch} {c : Code} {κ : Kont} {t : Sem PySem.Fin} {l : Lst} (x : G V ch c κ t l) (i : Nat) : Gx V ch c κ t l i := fun h D => x h i D
noncomputable def Rx (V : XV) (ch : Ch) (κ : Kont) (r : Result) (l : Lst) (i : Nat) : Prop :=
  ∀ h, Mm V h ch l → endOf V κ r ⟨h, ⟨[]⟩, V.d, i, V.os⟩
section
variable {V : XV} {ch : Ch} {c : Code} {κ : Kont} {l : Lst} {i : Nat}
theorem Gx.done {f : Flow} (x : Rx V ch κ (.ok f) l i) : Gx V ch c κ (.pure (.done f)) l i := fun h D =>
  y_pure _ _ _ _ _ _ _ _ _ (y_done _ _ _ _ _ _ (x h D))
theorem Gx.raise {e : Value} (x : Rx V ch κ (.error e) l i) : Gx V ch c κ (.raise e) l i := fun h D =>
  y_raise _ _ _ _ _ _ _ _ _ (y_err _ _ _ (x h D))
theorem Rx.ret {r : Result} {c' : Code} {hd : Option Value} {k : Result → Sem PySem.Fin} (x : Gx V ch c' κ (k r) l i) : Rx V ch (.ret c' hd k κ) r l i := fun h D => x h D
theorem Gx.again {c' : Code} (hq : qt c' = true) (x : Gx V ch c' κ (dn c') l i) : Gx V ch c κ (.pure (.again c')) l i := fun h D => by
  have z := x h D
  rw [← dn_eq] at z
  exact y_pure _ _ _ _ _ _ _ _ _ (y_again _ _ _ _ _ _ (by rw [qt_eq]; exact hq) (y_code _ _ _ _ _ _ z))
theorem Gx.call {c' : Code} {g : Bool} {lv : List Value} {k : Result → Sem PySem.Fin} (x : Gx V ch c' (.ret c none k κ) (dn c') l i) : Gx V ch c κ (.call c' none g lv k) l i := fun h D => by
  have z := x h D
  rw [← dn_eq] at z
  exact y_call _ _ _ _ _ _ _ _ _ _ _ _ _ (by intro e; cases e) (y_code _ _ _ _ _ _ z)
theorem Gx.skim {t : Sem PySem.Fin} (x : Gx V ch c κ (skim ⟨V.prog, V.w.params⟩ 1 t) l i) : Gx V ch c κ t l i := fun h D => y_skim _ _ _ _ _ _ _ _ _ 1 (x h D)
theorem Gx.load {a : Addr} {q : Option Value} {k : Obj → Sem PySem.Fin} {o : Obj} (ho : ∀ h, Mm V h ch l → h.get? a = some o) (x : Gx V ch c κ (k o) l i) : Gx V ch c κ (.load a q k) l i := fun h D =>
  y_load _ _ _ _ _ _ _ _ _ _ _ _ _ _ _ _ (ho h D) (x h D)
theorem Gx.alive {a : Addr} {k : Option Obj → Sem PySem.Fin} {o : Obj} (ho : ∀ h, Mm V h ch l → h.get? a = some o) (x : Gx V ch c κ (k (some o)) l i) : Gx V ch c κ (.loadIfAlive a k) l i := fun h D =>
  y_alive _ _ _ _ _ _ _ _ _ _ _ _ _ _ _ (ho h D) (x h D)
theorem Gx.alloc {R : Lst} {o : Obj} {k : Addr → Sem PySem.Fin} (hf : o.isFreed = false) (x : ∀ a, Gx V ch c κ (k a) ((l ++ [(a, o)]) ++ R) i) : Gx V ch c κ (.alloc o k) (l ++ R) i := fun h D =>
  wpOwn_bind (m := PySem.alloc o) (f := k) (wpOwn_of_wpAny (wpAny_alloc (x _ _ (D.alloc hf))))
theorem Gx.update {R : Lst} {a : Addr} {q : Option Value} {f : Obj → Obj} {k : Unit → Sem PySem.Fin} {j : Nat} {o : Obj} (hj : lget l j = some (a, o)) (hf : (f o).isFreed = false) (x : Gx V ch c κ (k ()) (lset l j (f o) ++ R) i) : Gx V ch c κ (.update a q f k) (l ++ R) i := fun h D =>
  wpOwn_bind (m := updatePart a q f) (f := k) (wpOwn_of_wpAny (wpAny_updatePart (D.nw _ (List.mem_append.mpr (.inl (lget_mem hj)))).1 (x _ (D.update hj hf))))
theorem Gx.table {tabs : Ch} (O : ∀ a vs, chLook tabs a = some vs → ∃ c, V.h₀.TableAt c a vs) {a : Addr} {q : Option Value} {f : Obj → Obj} {k : Unit → Sem PySem.Fin} {vs vs' : Array Value} {more : List Value}
    (e : (match chLook ch a with | some vs => some vs | none => chLook tabs a) = some vs) (hn : f (tableObj vs) = tableObj vs') (hm : strip vs.toList vs'.toList = some more)
    (x : Gx V (chPut ch a vs') c κ (k ()) l i) : Gx V ch c κ (.update a q f k) l i := fun h D => by
  obtain ⟨ho, D'⟩ := D.table tabs O e hn hm
  exact wpOwn_bind (m := updatePart a q f) (f := k) (wpOwn_of_wpAny (wpAny_updatePart ho (x _ D')))
theorem Gx.fresh {k : Tok → Sem PySem.Fin} (x : Gx V ch c κ (k i) l (i + 1)) : Gx V ch c κ (.fresh k) l i := fun h D =>
  y_fresh _ _ _ _ _ _ _ _ _ _ _ _ _ (x h D)
theorem Gx.handled {k : Option Value → Sem PySem.Fin} (hh : (aroundOf V true κ).handled = none) (x : Gx V ch c κ (k none) l i) : Gx V ch c κ (.handled false k) l i := fun h D =>
  y_handled _ _ _ _ _ _ _ _ _ (by rw [hh]; exact x h D)
theorem Gx.stack {k : List (Code × Pos) → Sem PySem.Fin} (x : ∀ p below, Lies ((aroundOf V true κ).under c) ((c, p) :: below) → Gx V ch c κ (k ((c, p) :: below)) l i) : Gx V ch c κ (.stack k) l i := fun h D =>
  y_stack _ _ _ _ _ _ _ _ _ fun p below z => x p below z h D
theorem Gx.enter {f : Unit → Sem PySem.Fin} (hl : ∀ h, Mm V h ch l → h.NoLimit) (hd : ((aroundOf V true κ).under c).depth < recursionLimit) (x : Gx V ch c κ (f ()) l i) : Gx V ch c κ (R.bindR (ZFast.enterX 0) f) l i := fun h D => by
  rw [← R.bindR_eq, ← ZFast.enterX_eq]
  exact wpOwn_bind (m := enterFrame 0) (f := f) (wpOwn_of_wpAny (wpAny_enterFrame (hl h D) hd (x h D)))
theorem Gx.perm {t : Sem PySem.Fin} {l' : Lst} (p : l.Perm l') (x : Gx V ch c κ t l' i) : Gx V ch c κ t l i := fun h D => x h (D.perm p)
theorem Gx.comp {elt : Expr} {gens : List Comprehension} {scope : Scope} {pos : Pos} {d : Nat} {a : Addr} {acc : Value} {env : Env} {g : Comprehension} {T : String} {o : Obj} {gg : Bool} {lv : List Value} {k : Result → Sem PySem.Fin}
    (hg : gens[d]? = some g) (ha : g.is_async = 0) (hi : Iterish T) (ho : ∀ h, Mm V h ch l → h.get? a = some o) (hc : o.cls = .type T)
    (x : Gx V ch (.compLoop (.ListComp elt gens scope pos) d (.ref a) acc env) (.ret c none k κ) (dn (.compLoop (.ListComp elt gens scope pos) d (.ref a) acc env)) l i) :
    Gx V ch c κ (.call (.compStart (.ListComp elt gens scope pos) d (.ref a) acc env) none gg lv k) l i := fun h D => by
  have z := x h D
  rw [← dn_eq] at z
  have z' := y_code _ _ _ _ _ _ z
  exact y_call _ _ _ _ _ _ _ _ _ _ _ _ _ (by intro e; cases e) (codeAny_comp hg ha z' (iter_self hi ⟨o, ho h D, hc⟩ z'))
end
noncomputable def upTo (i n : Nat) : Nat → Tok := fun j => match Nat.blt j n with
  | true => i + j
  | false => 0
noncomputable def ValidX (V : XV) (C : Con) : Prop := ∀ ch c κ R g lv k i, Rm V (.ret c none k κ) C.lv →
  (∀ α, (∀ j, C.nN ≤ j → α j = 0) → Gx V ch c κ (k (C.r α (upTo i C.nT))) ((reput C.foot (C.post α (upTo i C.nT)) ++ newL α 0 (C.new α (upTo i C.nT))) ++ R) (i + C.nT)) →
  Gx V ch c κ (.call C.c none g lv k) (C.foot ++ R) i
theorem upTo_out (i n j : Nat) (h : n ≤ j) : upTo i n j = 0 := by
  unfold upTo
  cases q : Nat.blt j n with
  | false => rfl
  | true => have := blt_true q; omega
theorem ValidX.valid {V : XV} {C : Con} (h : ValidX V C) : Valid V C := fun ch c κ R g lv k hR K => G.ofX fun i =>
  h ch c κ R g lv k i hR fun α hα => G.toX (K α (upTo i C.nT) hα fun j hj => upTo_out i C.nT j hj) _

noncomputable def Gp (V : XV) (p : Bool) (ch : Ch) (c : Code) (κ : Kont) (t : Sem PySem.Fin) (l : Lst) (i : Nat) : Prop := match p with
  | true => Gx V ch c κ t l i
  | false => G V ch c κ t l
noncomputable def Rp (V : XV) (p : Bool) (ch : Ch) (κ : Kont) (r : Result) (l : Lst) (i : Nat) : Prop := match p with
  | true => Rx V ch κ r l i
  | false => Rr V ch κ r l
section
variable {V : XV} {p : Bool} {ch : Ch} {c : Code} {κ : Kont} {l : Lst} {i : Nat}
theorem Rp.ret {r : Result} {c' : Code} {hd : Option Value} {k : Result → Sem PySem.Fin} (x : Gp V p ch c' κ (k r) l i) : Rp V p ch (.ret c' hd k κ) r l i := by
  cases p with
  | true => exact Rx.ret x
  | false => exact Rr.ret x
theorem Gp.done {f : Flow} (x : Rp V p ch κ (.ok f) l i) : Gp V p ch c κ (.pure (.done f)) l i := by
  cases p with
  | true => exact Gx.done x
  | false => exact G.done x
theorem Gp.raise {e : Value} (x : Rp V p ch κ (.error e) l i) : Gp V p ch c κ (.raise e) l i := by
  cases p with
  | true => exact Gx.raise x
  | false => exact G.raise x
theorem Gp.again {c' : Code} (hq : qt c' = true) (x : Gp V p ch c' κ (dn c') l i) : Gp V p ch c κ (.pure (.again c')) l i := by
  cases p with
  | true => exact Gx.again hq x
  | false => exact G.again hq x
theorem Gp.call {c' : Code} {g : Bool} {lv : List Value} {k : Result → Sem PySem.Fin} (x : Gp V p ch c' (.ret c none k κ) (dn c') l i) : Gp V p ch c κ (.call c' none g lv k) l i := by
  cases p with
  | true => exact Gx.call x
  | false => exact G.call x
theorem Gp.skim {t : Sem PySem.Fin} (x : Gp V p ch c κ (skim ⟨V.prog, V.w.params⟩ 1 t) l i) : Gp V p ch c κ t l i := by
  cases p with
  | true => exact Gx.skim x
  | false => exact G.skim x
theorem Gp.load {a : Addr} {q : Option Value} {k : Obj → Sem PySem.Fin} {o : Obj} (ho : ∀ h, Mm V h ch l → h.get? a = some o) (x : Gp V p ch c κ (k o) l i) : Gp V p ch c κ (.load a q k) l i := by
  cases p with
  | true => exact Gx.load ho x
  | false => exact G.load ho x
theorem Gp.alive {a : Addr} {k : Option Obj → Sem PySem.Fin} {o : Obj} (ho : ∀ h, Mm V h ch l → h.get? a = some o) (x : Gp V p ch c κ (k (some o)) l i) : Gp V p ch c κ (.loadIfAlive a k) l i := by
  cases p with
  | true => exact Gx.alive ho x
  | false => exact G.alive ho x
theorem Gp.alloc {R : Lst} {o : Obj} {k : Addr → Sem PySem.Fin} (hf : o.isFreed = false) (x : ∀ a, Gp V p ch c κ (k a) ((l ++ [(a, o)]) ++ R) i) : Gp V p ch c κ (.alloc o k) (l ++ R) i := by
  cases p with
  | true => exact Gx.alloc hf x
  | false => exact G.alloc hf x
theorem Gp.update {R : Lst} {a : Addr} {q : Option Value} {f : Obj → Obj} {k : Unit → Sem PySem.Fin} {j : Nat} {o : Obj} (hj : lget l j = some (a, o)) (hf : (f o).isFreed = false) (x : Gp V p ch c κ (k ()) (lset l j (f o) ++ R) i) : Gp V p ch c κ (.update a q f k) (l ++ R) i := by
  cases p with
  | true => exact Gx.update hj hf x
  | false => exact G.update hj hf x
theorem Gp.table {tabs : Ch} (O : ∀ a vs, chLook tabs a = some vs → ∃ c, V.h₀.TableAt c a vs) {a : Addr} {q : Option Value} {f : Obj → Obj} {k : Unit → Sem PySem.Fin} {vs vs' : Array Value} {more : List Value}
    (e : (match chLook ch a with | some vs => some vs | none => chLook tabs a) = some vs) (hn : f (tableObj vs) = tableObj vs') (hm : strip vs.toList vs'.toList = some more)
    (x : Gp V p (chPut ch a vs') c κ (k ()) l i) : Gp V p ch c κ (.update a q f k) l i := by
  cases p with
  | true => exact Gx.table O e hn hm x
  | false => exact G.table O e hn hm x
theorem Gp.fresh {k : Tok → Sem PySem.Fin} (x : ∀ t, (p = true → t = i) → Gp V p ch c κ (k t) l (i + 1)) : Gp V p ch c κ (.fresh k) l i := by
  cases p with
  | true => exact Gx.fresh (x i fun _ => rfl)
  | false => exact G.fresh fun t => x t fun e => nomatch e
theorem Gp.handled {k : Option Value → Sem PySem.Fin} (hh : (aroundOf V true κ).handled = none) (x : Gp V p ch c κ (k none) l i) : Gp V p ch c κ (.handled false k) l i := by
  cases p with
  | true => exact Gx.handled hh x
  | false => exact G.handled hh x
theorem Gp.stack {k : List (Code × Pos) → Sem PySem.Fin} (x : ∀ p' below, Gp V p ch c κ (k ((c, p') :: below)) l i) : Gp V p ch c κ (.stack k) l i := by
  cases p with
  | true => exact Gx.stack fun p' b _ => x p' b
  | false => exact G.stack fun p' b _ => x p' b
theorem Gp.enter {f : Unit → Sem PySem.Fin} (hl : ∀ h, Mm V h ch l → h.NoLimit) (hd : ((aroundOf V true κ).under c).depth < recursionLimit) (x : Gp V p ch c κ (f ()) l i) : Gp V p ch c κ (R.bindR (ZFast.enterX 0) f) l i := by
  cases p with
  | true => exact Gx.enter hl hd x
  | false => exact G.enter hl hd x
theorem Gp.perm {t : Sem PySem.Fin} {l' : Lst} (q : l.Perm l') (x : Gp V p ch c κ t l' i) : Gp V p ch c κ t l i := by
  cases p with
  | true => exact Gx.perm q x
  | false => exact G.perm q x
theorem Gp.comp {elt : Expr} {gens : List Comprehension} {scope : Scope} {pos : Pos} {d : Nat} {a : Addr} {acc : Value} {env : Env} {g : Comprehension} {T : String} {o : Obj} {gg : Bool} {lv : List Value} {k : Result → Sem PySem.Fin}
    (hg : gens[d]? = some g) (ha : g.is_async = 0) (hi : Iterish T) (ho : ∀ h, Mm V h ch l → h.get? a = some o) (hc : o.cls = .type T)
    (x : Gp V p ch (.compLoop (.ListComp elt gens scope pos) d (.ref a) acc env) (.ret c none k κ) (dn (.compLoop (.ListComp elt gens scope pos) d (.ref a) acc env)) l i) :
    Gp V p ch c κ (.call (.compStart (.ListComp elt gens scope pos) d (.ref a) acc env) none gg lv k) l i := by
  cases p with
  | true => exact Gx.comp hg ha hi ho hc x
  | false => exact G.comp hg ha hi ho hc x
end
noncomputable def ValidP (V : XV) (p : Bool) (C : Con) : Prop := ∀ ch c κ R g lv k i, Rm V (.ret c none k κ) C.lv →
  (∀ α θ, (∀ j, C.nN ≤ j → α j = 0) → (∀ j, C.nT ≤ j → θ j = 0) → (p = true → θ = upTo i C.nT) → Gp V p ch c κ (k (C.r α θ)) ((reput C.foot (C.post α θ) ++ newL α 0 (C.new α θ)) ++ R) (i + C.nT)) →
  Gp V p ch c κ (.call C.c none g lv k) (C.foot ++ R) i
theorem ValidP.ofG {V : XV} {C : Con} (h : Valid V C) : ValidP V false C := fun ch c κ R g lv k i hR K => h ch c κ R g lv k hR fun α θ ha ht => K α θ ha ht fun e => nomatch e
theorem ValidP.ofX {V : XV} {C : Con} (h : ValidX V C) : ValidP V true C := fun ch c κ R g lv k i hR K => h ch c κ R g lv k i hR fun α ha => K α (upTo i C.nT) ha (upTo_out i C.nT) fun _ => rfl
section
variable {V : XV} {set set' : Setting} {kt : KT} {tabs : Ch} {lv : Nat}
theorem oldAt_some {a : Addr} {o : Obj} (h : oldAt kt a = some o) : kt.get a = some o ∧ notTab o = true := by
  unfold oldAt at h
  split at h
  · rename_i o' e
    split at h
    · rename_i q
      cases h
      exact ⟨e, q⟩
    · cases h
  · cases h
theorem Vok.old (O : Vok V set set' kt tabs) {a : Addr} {o : Obj} (h : oldAt kt a = some o) {hp : Heap} {ch : Ch} {l : Lst} (D : Mm V hp ch l) : hp.get? a = some o :=
  D.keep a o (O.kt a o (oldAt_some h).1) (by rw [(oldAt_some h).2]; rfl)
theorem ext_cut {α : Nat → Nat} {f : Nat → Nat} {b n : Nat} (h0 : ∀ j, n ≤ j → α j = 0) (h : ∀ j, j < n → f (b + j) = α j) : cut f b n = α := by
  funext j
  unfold cut
  cases q : Nat.blt j n with
  | false => exact (h0 j (blt_false q)).symm
  | true => exact h j (blt_true q)
noncomputable def lay {τ : Type} (f : Nat → τ) (b : Nat) (g : Nat → τ) : Nat → τ := fun j => if j < b then f j else g (j - b)
theorem lay_low {τ : Type} (f : Nat → τ) (b : Nat) (g : Nat → τ) (j : Nat) (h : j < b) : lay f b g j = f j := if_pos h
theorem lay_up {τ : Type} (f : Nat → τ) (b : Nat) (g : Nat → τ) (j : Nat) : lay f b g (b + j) = g j := by
  unfold lay
  rw [if_neg (by omega), Nat.add_sub_cancel_left]
theorem lay_at {τ : Type} (f : Nat → τ) (b : Nat) (g : Nat → τ) : lay f b g b = g 0 := lay_up f b g 0
noncomputable def layO (w : Ora) (s : St V) (a t : Nat → Nat) (p : Nat → Pos × List (Code × Pos)) : Ora := ⟨lay w.a s.na a, lay w.t s.nt t, lay w.p s.ns p⟩
theorem layO_ag (w : Ora) (s : St V) (a t : Nat → Nat) (p : Nat → Pos × List (Code × Pos)) : Ag w (layO w s a t p) s.na s.nt s.ns :=
  ⟨fun j h => lay_low _ _ _ j h, fun j h => lay_low _ _ _ j h, fun j h => lay_low _ _ _ j h⟩

noncomputable def GsX {V : XV} (R : Lst) (s : St V) (i0 : Nat) : Prop := Gx V s.ch s.c s.κ s.t (s.l ++ R) (i0 + s.nt)
noncomputable def GsP {V : XV} (p : Bool) (R : Lst) (s : St V) (i0 : Nat) : Prop := Gp V p s.ch s.c s.κ s.t (s.l ++ R) (i0 + s.nt)
theorem ldN_ok (O : Vok V set set' kt tabs) {ch : Ch} {l : Lst} {a : Addr} {hs : List Nat} {x} (h : ldN kt tabs ch l a hs = some x) (e : x.2.2.map (·.1) = x.2.2.map (·.2)) (R : Lst) : ∀ hp, Mm V hp ch (l ++ R) → hp.get? a = some x.1 := by
  intro hp D
  cases hs with
  | nil => exact nomatch h
  | cons j hs =>
    cases j with
    | zero =>
      delta ldN at h
      dsimp only at h
      cases qo : oldAt kt a with
      | some o => rw [qo] at h; cases Option.some.inj h; exact O.old qo D
      | none =>
        rw [qo] at h
        dsimp only at h
        delta tabLook at h
        cases qc : chLook ch a with
        | some vs => rw [qc] at h; cases Option.some.inj h; exact (D.tab a _ qc).1
        | none =>
          rw [qc] at h
          dsimp only at h
          cases qt : chLook tabs a with
          | none => rw [qt] at h; exact nomatch h
          | some vs =>
            rw [qt] at h
            cases Option.some.inj h
            obtain ⟨co, ht⟩ := O.tabs a vs qt
            exact D.keep a _ ht.2 (by rw [qc]; rfl)
    | succ j =>
      delta ldN at h
      dsimp only at h
      cases ql : lget l j with
      | none => rw [ql] at h; exact nomatch h
      | some p =>
        rw [ql] at h
        cases Option.some.inj h
        have ea : a = p.1 := hdq e
        subst ea
        exact (D.nw p (List.mem_append.mpr (.inl (lget_mem ql)))).1
theorem alN_ok (O : Vok V set set' kt tabs) {ch : Ch} {l : Lst} {a : Addr} {hs : List Nat} {x} (h : alN kt l a hs = some x) (e : x.2.2.map (·.1) = x.2.2.map (·.2)) (R : Lst) : ∀ hp, Mm V hp ch (l ++ R) → hp.get? a = some x.1 := by
  refine ldN_ok (ch := ch) O (x := x) (hs := hs) ?_ e R
  cases hs with
  | nil => exact nomatch h
  | cons j hs =>
    cases j with
    | zero =>
      delta alN at h; delta ldN
      dsimp only at h ⊢
      cases qo : oldAt kt a with
      | some o => rw [qo] at h; exact h
      | none => rw [qo] at h; exact nomatch h
    | succ j => exact h
theorem upN_ok (O : Vok V set set' kt tabs) {p : Bool} {ch : Ch} {c : Code} {κ : Kont} {l R : Lst} {i : Nat} {a : Addr} {q : Option Value} {f : Obj → Obj} {k : Unit → Sem PySem.Fin} {hs : List Nat} {x} (h : upN tabs ch l a f hs = some x) (e : x.2.2.1.map (·.1) = x.2.2.1.map (·.2)) (e2 : x.2.2.2.map (·.1) = x.2.2.2.map (·.2))
    (g : Gp V p x.1.2 c κ (k ()) (x.1.1 ++ R) i) : Gp V p ch c κ (.update a q f k) (l ++ R) i := by
  cases hs with
  | nil => exact nomatch h
  | cons j hs =>
    cases j with
    | zero =>
      delta upN at h
      dsimp only at h
      cases qy : tabLook tabs ch a with
      | none => rw [qy] at h; exact nomatch h
      | some vs =>
        rw [qy] at h
        dsimp only at h
        cases qt : tabOf (f (tableObj vs)) with
        | none => rw [qt] at h; exact nomatch h
        | some vs' =>
          rw [qt] at h
          cases Option.some.inj h
          dsimp only at e2
          have el : [((0 : Addr), tableObj ⟨takeN vs.toList vs'.toList⟩)] = [(0, tableObj vs)] := hdq (f := fun x : Lst × Lst => x.1) (g := fun x => x.2) e2
          have e3 : (tableObj ⟨takeN vs.toList vs'.toList⟩).data = (tableObj vs).data := congrArg (fun z : Lst => match z with | x :: _ => x.2.data | _ => .fields #[]) el
          obtain ⟨more, em⟩ := takeN_strip (xs := vs.toList) (ys := vs'.toList) (congrArg Array.toList (Data.fields.inj e3))
          exact Gp.table O.tabs qy (tabOf_eq qt) em g
    | succ j =>
      delta upN at h
      dsimp only at h
      cases ql : lget l j with
      | none => rw [ql] at h; exact nomatch h
      | some p =>
        rw [ql] at h
        dsimp only at h
        cases qf : (f p.2).isFreed with
        | true => rw [qf] at h; exact nomatch h
        | false =>
          rw [qf] at h
          cases Option.some.inj h
          have ea : a = p.1 := hdq e
          subst ea
          exact Gp.update ql qf g
theorem coN_ok {p : Bool} {ch : Ch} {c : Code} {κ : Kont} {l R : Lst} {i : Nat} {e : Expr} {d : Nat} {it acc : Value} {env : Env} {hs : List Nat} {gg : Bool} {lv' : List Value} {k : Result → Sem PySem.Fin} {x} (h : coN l e d it hs = some x) (ea : x.1.1 = x.1.2.1)
    (g : Gp V p ch (.compLoop e d it acc env) (.ret c none k κ) (dn (.compLoop e d it acc env)) (l ++ R) i) : Gp V p ch c κ (.call (.compStart e d it acc env) none gg lv' k) (l ++ R) i := by
  cases hs with
  | nil => exact nomatch h
  | cons j hs =>
    cases it
    case ref a =>
      delta coN at h
      dsimp only at h
      cases ql : lget l j with
      | none => rw [ql] at h; exact nomatch h
      | some p' =>
        rw [ql] at h
        dsimp only at h
        cases q : (compOk e d && isIt p'.2) with
        | false => rw [q] at h; exact nomatch h
        | true =>
          rw [q] at h
          cases Option.some.inj h
          obtain ⟨q1, q2⟩ := (Bool.and_eq_true _ _).mp q
          obtain ⟨elt, gens, scope, pos, cg, rfl, hg, ha⟩ := compOk_some q1
          obtain ⟨T, hi, hT⟩ := isIt_some q2
          have ea' : a = p'.1 := ea
          exact Gp.comp hg ha hi (fun hp D => ea' ▸ (D.nw p' (List.mem_append.mpr (.inl (lget_mem ql)))).1) hT g
    all_goals exact nomatch h
theorem enN_ok {c : Code} {κ : Kont} {lev : Nat} {l : Lst} {f : Addr} {hs : List Nat} {x} (h : enN kt lv c κ lev l f hs = some x) : qt x.1 = true ∧ Nat.blt (lv + (cw c + wsum κ lev)) 1000 = true := by
  delta enN at h
  split at h
  · split at h
    · split at h
      · split at h
        · rename_i hq
          split at h
          · rename_i hd
            cases Option.some.inj h
            exact ⟨hq, hd⟩
          · exact nomatch h
        · exact nomatch h
      · exact nomatch h
    · exact nomatch h
  · exact nomatch h
theorem con_ok {p : Bool} {w₀ : Ora} {C0 : VCon V} (hX : ValidP V p C0.1) {ch : Ch} {c c' : Code} {κ : Kont} {k : Result → Sem PySem.Fin} {lev : Nat} (rm : Rm V κ (lv + wsum κ lev)) {l R : Lst} {m : List Bool} {na nt ns i0 : Nat} {hs : List Nat} {cs : List (Nat × List Bool × (Ora → VCon V))} {eA : List (Addr × Addr)} {eC : List (Code × Code)} {eL : List (Lst × Lst)} {eT : List (Sem PySem.Fin × Sem PySem.Fin)} {gg : Bool} {lv' : List Value}
    (H : ∀ a t, (p = true → ∀ j, t j = i0 + (nt + j)) → ∃ s1, nCon lv ⟨lay w₀.a na a, lay w₀.t nt t, w₀.p⟩ C0 c' c κ k lev l ch m na nt ns hs cs eA eC eL eT = some s1 ∧ Eqs s1 ∧ GsP p R s1 i0) : Gp V p ch c κ (.call c' none gg lv' k) (l ++ R) (i0 + nt) := by
  delta nCon at H
  cases q : Nat.ble (lv + (cw c + wsum κ lev)) C0.1.lv with
  | false =>
    rw [q] at H
    obtain ⟨s1, h, -, -⟩ := H (fun _ => 0) (fun j => i0 + (nt + j)) fun _ _ => rfl
    exact nomatch h
  | true =>
    rw [q] at H
    have hb : lv + (cw c + wsum κ lev) ≤ C0.1.lv := Nat.le_of_ble_eq_true q
    have e0 : c' = C0.1.c ∧ maskT l m = C0.1.foot := by
      obtain ⟨s1, h, e, -⟩ := H (fun _ => 0) (fun j => i0 + (nt + j)) fun _ _ => rfl
      cases Option.some.inj h
      exact ⟨hdq e.C, hdq e.L⟩
    obtain ⟨ec, el⟩ := e0
    have rm' := rm.push c k
    subst ec
    have pm : (l ++ R).Perm (C0.1.foot ++ (maskF l m ++ R)) := by
      rw [← el, ← List.append_assoc]
      exact (mask_perm l m).append_right R
    refine Gp.perm pm (hX ch c κ _ gg lv' k _ ⟨Nat.le_trans rm'.room (show lv + wsum κ lev + cw c ≤ C0.1.lv by omega), rm'.hand⟩ fun α θ hα hθ hp => ?_)
    obtain ⟨s1, h, -, g⟩ := H α (fun j => match Nat.blt j C0.1.nT with | true => θ j | false => i0 + (nt + j)) fun e j => by
      cases qj : Nat.blt j C0.1.nT with
      | false => rfl
      | true =>
        show θ j = _
        rw [hp e]
        show (match Nat.blt j C0.1.nT with | true => i0 + nt + j | false => 0) = _
        rw [qj]
        exact Nat.add_assoc ..
    cases Option.some.inj h
    have ea : cut (lay w₀.a na α) na C0.1.nN = α := ext_cut hα fun j _ => lay_up _ _ _ j
    have et : cut (lay w₀.t nt fun j => match Nat.blt j C0.1.nT with | true => θ j | false => i0 + (nt + j)) nt C0.1.nT = θ := ext_cut hθ fun j hj => (lay_up _ _ _ j).trans (by
      cases qj : Nat.blt j C0.1.nT with
      | true => rfl
      | false => exact absurd hj (Nat.not_lt.mpr (blt_false qj)))
    have g' := g
    unfold GsP rs at g'
    dsimp only at g'
    rw [ea, et] at g'
    rw [Nat.add_assoc]
    refine Gp.perm ?_ g'
    have p1 := maskPut_perm l m (C0.1.post α θ)
    rw [el] at p1
    have p2 : ((reput C0.1.foot (C0.1.post α θ) ++ newL α 0 (C0.1.new α θ)) ++ (maskF l m ++ R)).Perm ((reput C0.1.foot (C0.1.post α θ) ++ maskF l m) ++ newL α 0 (C0.1.new α θ) ++ R) := by
      rw [List.append_assoc, List.append_assoc, List.append_assoc]
      refine List.Perm.append_left _ ?_
      rw [← List.append_assoc, ← List.append_assoc]
      exact List.Perm.append_right _ List.perm_append_comm
    exact p2.trans ((p1.symm.append_right _).append_right _)
noncomputable def HN (set set' : Setting) (kt : KT) (tabs : Ch) (lv : Nat) (p : Bool) (R : Lst) (i0 : Nat) (w₀ : Ora) (s : St V) : Prop :=
  ∀ a t p', (p = true → ∀ j, t j = i0 + (s.nt + j)) → ∃ s1, next set set' kt tabs lv (layO w₀ s a t p') s = some s1 ∧ Eqs s1 ∧ GsP p R s1 i0
theorem ret_ok {p : Bool} {κ : Kont} {lev : Nat} {l : Lst} {ch : Ch} {na nt ns : Nat} {hs : List Nat} {cs : List (Nat × List Bool × (Ora → VCon V))} {eA : List (Addr × Addr)} {eC : List (Code × Code)} {eL : List (Lst × Lst)} {eT : List (Sem PySem.Fin × Sem PySem.Fin)} {R : Lst} {i0 : Nat} {s1 : St V} {r : Result}
    (h : ((reN κ lev r).map fun x => rs V x.1.2 x.1.1 x.2.1 x.2.2 (l, ch) na nt ns hs cs eA eC eL eT) = some s1) (g : GsP p R s1 i0) : Rp V p ch κ r (l ++ R) (i0 + nt) := by
  obtain ⟨x, hx, rfl⟩ := Option.map_eq_some_iff.mp h
  obtain ⟨hd, k, e1, -, e3⟩ := reN_some hx
  rw [e1]
  exact Rp.ret (e3 ▸ g)
theorem next_sound0 (O : Vok V set set' kt tabs) (R : Lst) (p : Bool) (i0 : Nat) (w₀ : Ora) {c : Code} {κ : Kont} {t : Sem PySem.Fin} {lev : Nat} {l : Lst} {ch : Ch} {na nt ns : Nat} {hs : List Nat} {cs : List (Nat × List Bool × (Ora → VCon V))} {eA : List (Addr × Addr)} {eC : List (Code × Code)} {eL : List (Lst × Lst)} {eT : List (Sem PySem.Fin × Sem PySem.Fin)} (rm : Rm V κ (lv + wsum κ lev)) (hcs : ∀ x ∈ cs, ∀ w, ValidP V p (x.2.2 w).1)
    {w1 : Ora} {s1 : St V} (h : nx set set' kt tabs lv w1 c κ t lev l ch na nt ns hs cs eA eC eL eT = some s1) (e : Eqs s1) (g : GsP p R s1 i0)
    (H0 : HN set set' kt tabs lv p R i0 w₀ (⟨c, κ, t, lev, l, ch, na, nt, ns, hs, cs, eA, eC, eL, eT⟩ : St V)) : Gp V p ch c κ t (l ++ R) (i0 + nt) := by
  cases t
  case pure fin =>
    cases fin with
    | done f => exact Gp.done (ret_ok (next_done.symm.trans h) g)
    | again c' =>
      have h' : (match qt c' with | true => some (rs V κ c' (dn c') lev (l, ch) na nt ns hs cs eA eC eL eT) | false => none) = some s1 := h
      cases q : qt c' with
      | false => rw [q] at h'; exact nomatch h'
      | true => rw [q] at h'; cases Option.some.inj h'; exact Gp.again q g
  case raise ev => exact Gp.raise (ret_ok (next_raise.symm.trans h) g)
  case rule tg k => cases Option.some.inj h; exact Gp.skim g
  case «at» tg k => cases Option.some.inj h; exact Gp.skim g
  case point tg k => cases Option.some.inj h; exact Gp.skim g
  case ask k =>
    cases Option.some.inj h
    have g' : Gp V p ch c κ (k set) (l ++ R) (i0 + nt) := g
    have et : k set = k set' := hdq e.T
    rcases O.set with q | q
    · rw [q] at g'
      exact Gp.skim g'
    · rw [et, q] at g'
      exact Gp.skim g'
  case load a q k =>
    obtain ⟨x, hx, rfl⟩ := Option.map_eq_some_iff.mp (next_load.symm.trans h)
    exact Gp.load (ldN_ok O hx (apq e.A).1 R) g
  case loadIfAlive a k =>
    obtain ⟨x, hx, rfl⟩ := Option.map_eq_some_iff.mp (next_alive.symm.trans h)
    exact Gp.alive (alN_ok O hx (apq e.A).1 R) g
  case update a q f k =>
    obtain ⟨x, hx, rfl⟩ := Option.map_eq_some_iff.mp (next_update.symm.trans h)
    exact upN_ok O hx (apq e.A).1 (apq e.L).1 g
  case alloc o k =>
    clear h e g
    cases q : o.isFreed with
    | true =>
      obtain ⟨s1, h, e, g⟩ := H0 (fun _ => 0) (fun j => i0 + (nt + j)) (fun _ => (⟨0,0,0,0⟩, [])) fun _ _ => rfl
      have h' : (match o.isFreed with | true => none | false => some (rs V κ c (k (lay w₀.a na (fun _ => 0) na)) lev (l ++ [(lay w₀.a na (fun _ => 0) na, o)], ch) (na + 1) nt ns hs cs eA eC eL eT)) = some s1 := h
      rw [q] at h'
      exact nomatch h'
    | false =>
      refine Gp.alloc q fun a => ?_
      obtain ⟨s1, h, e, g⟩ := H0 (fun _ => a) (fun j => i0 + (nt + j)) (fun _ => (⟨0,0,0,0⟩, [])) fun _ _ => rfl
      have h' : (match o.isFreed with | true => none | false => some (rs V κ c (k (lay w₀.a na (fun _ => a) na)) lev (l ++ [(lay w₀.a na (fun _ => a) na, o)], ch) (na + 1) nt ns hs cs eA eC eL eT)) = some s1 := h
      rw [q] at h'
      cases Option.some.inj h'
      have g' : Gp V p ch c κ (k (lay w₀.a na (fun _ => a) na)) ((l ++ [(lay w₀.a na (fun _ => a) na, o)]) ++ R) (i0 + nt) := g
      rw [lay_at] at g'
      exact g'
  case fresh k =>
    clear h e g
    refine Gp.fresh fun tk ht => ?_
    obtain ⟨s1, h, e, g⟩ := H0 (fun _ => 0) (fun j => tk + j) (fun _ => (⟨0,0,0,0⟩, [])) fun e j => by rw [ht e]; exact Nat.add_assoc ..
    cases Option.some.inj h
    have g' : Gp V p ch c κ (k (lay w₀.t nt (fun j => tk + j) nt)) (l ++ R) (i0 + (nt + 1)) := g
    rw [lay_at] at g'
    exact g'
  case handled own k =>
    cases own with
    | true => exact nomatch h
    | false => cases Option.some.inj h; exact Gp.handled rm.hand g
  case call c' hd gg lv' k =>
    cases hd with
    | some v => exact nomatch h
    | none =>
      cases qc : compGo c' hs with
      | some x =>
        obtain ⟨ce, cd, it, acc, env⟩ := x
        obtain ⟨x, hx, rfl⟩ := Option.map_eq_some_iff.mp ((next_comp qc).symm.trans h)
        cases compGo_some qc
        exact coN_ok hx (hdq e.A) g
      | none =>
        cases cs with
        | nil => cases Option.some.inj ((next_call0 qc).symm.trans h); exact Gp.call g
        | cons x cs =>
          obtain ⟨n, m, C⟩ := x
          cases n with
          | succ n => cases Option.some.inj ((next_call1 qc).symm.trans h); exact Gp.call g
          | zero =>
            clear h e g
            refine con_ok (w₀ := ⟨w₀.a, w₀.t, fun j => lay w₀.p ns (fun _ => (⟨0,0,0,0⟩, [])) j⟩) (lv := lv) (c' := c') (m := m) (na := na) (hs := hsDrop c' hs) (cs := cs) (eA := eA) (eC := eC) (eL := eL) (eT := eT) (ns := ns) (hcs (0, m, C) List.mem_cons_self (tr w₀ na nt ns)) rm fun a t ht => ?_
            obtain ⟨s1, h, e, g⟩ := H0 a t (fun _ => (⟨0,0,0,0⟩, [])) ht
            refine ⟨s1, ?_, e, g⟩
            have h2 := (next_con qc).symm.trans h
            rw [tr_congr (layO_ag w₀ (⟨c, κ, Sem.call c' none gg lv' k, lev, l, ch, na, nt, ns, hs, (0, m, C) :: cs, eA, eC, eL, eT⟩ : St V) a t _)] at h2
            exact h2
  case stack k =>
    by_cases hc : ∃ f a, c = .call (.ref f) a
    · obtain ⟨f, as, rfl⟩ := hc
      obtain ⟨x, hx, rfl⟩ := Option.map_eq_some_iff.mp (next_enter.symm.trans h)
      obtain ⟨hq, hd⟩ := enN_ok hx
      have et := hdq e.T
      dsimp only at et
      rw [et]
      have hd' := blt_true hd
      refine Gp.enter (fun hp D => O.lim hp fun b o eb nb => D.keep b o eb (by rw [nb]; rfl)) ?_ (Gp.again hq g)
      have hw := cw_eq (.call (.ref f) as)
      have h1 := rm.room
      show (aroundOf V true κ).depth + (Code.call (.ref f) as).weight < 1000
      omega
    · clear h e g
      refine Gp.stack fun p' below => ?_
      obtain ⟨s1, h, e, g⟩ := H0 (fun _ => 0) (fun j => i0 + (nt + j)) (fun _ => (p', below)) fun _ _ => rfl
      cases Option.some.inj ((next_stack fun f a e => hc ⟨f, a, e⟩).symm.trans h)
      have g' : Gp V p ch c κ (k ((c, (lay w₀.p ns (fun _ => (p', below)) ns).1) :: (lay w₀.p ns (fun _ => (p', below)) ns).2)) (l ++ R) (i0 + nt) := g
      rw [lay_at] at g'
      exact g'
  all_goals exact nomatch h

theorem next_soundP (O : Vok V set set' kt tabs) {κ₀ : Kont} (hR : Rm V κ₀ lv) (R : Lst) (p : Bool) (s : St V) (on : On κ₀ s.lev s.κ) (i0 : Nat) (hcs : ∀ x ∈ s.cs, ∀ w, ValidP V p (x.2.2 w).1) (w₀ : Ora) (hw : p = true → ∀ k, w₀.t k = i0 + k)
    (H : ∀ w, Ag w₀ w s.na s.nt s.ns → (p = true → ∀ k, w.t k = i0 + k) → ∃ s1, next set set' kt tabs lv w s = some s1 ∧ Eqs s1 ∧ GsP p R s1 i0) : GsP p R s i0 := by
  have H0 : HN set set' kt tabs lv p R i0 w₀ s := fun a t p' ht => H _ (layO_ag w₀ s a t p') fun e k => by
    show lay w₀.t s.nt t k = i0 + k
    unfold lay
    split
    · exact hw e k
    · rw [ht e]
      show i0 + (s.nt + (k - s.nt)) = i0 + k
      omega
  obtain ⟨s1, h, e, g⟩ := H0 (fun _ => 0) (fun j => i0 + (s.nt + j)) (fun _ => (⟨0,0,0,0⟩, [])) fun _ _ => rfl
  exact next_sound0 O R p i0 w₀ (on.room hR) hcs h e g H0
theorem Ag.refl (w : Ora) (a t s : Nat) : Ag w w a t s := ⟨fun _ _ => rfl, fun _ _ => rfl, fun _ _ => rfl⟩
theorem vm_eqs {w : Ora} : ∀ (n : Nat) {s s' : St V}, vm set set' kt tabs lv w n s = some s' → Eqs s' → Eqs s
  | 0, s, s', h, e => by cases h; exact e
  | n + 1, s, s', h, e => by
    rw [vm_succ] at h
    split at h
    · rename_i s1 h1
      exact (next_grows h1).eqs (vm_eqs n h e)
    · cases h
theorem vm_soundP (O : Vok V set set' kt tabs) {κ₀ : Kont} (hR : Rm V κ₀ lv) (R : Lst) (p : Bool) (i0 : Nat) : ∀ (n : Nat) (s : St V), On κ₀ s.lev s.κ → (∀ x ∈ s.cs, ∀ w, ValidP V p (x.2.2 w).1) → ∀ w₀ : Ora, (p = true → ∀ k, w₀.t k = i0 + k) →
    (∀ w, Ag w₀ w s.na s.nt s.ns → (p = true → ∀ k, w.t k = i0 + k) → ∃ s', vm set set' kt tabs lv w n s = some s' ∧ Eqs s' ∧ GsP p R s' i0) → GsP p R s i0
  | 0, s, on, hc, w₀, hw, H => by
    obtain ⟨s', h, _, g⟩ := H w₀ (Ag.refl ..) hw
    cases h
    exact g
  | n + 1, s, on, hc, w₀, hw, H => by
    refine next_soundP O hR R p s on i0 hc w₀ hw fun w a hw' => ?_
    obtain ⟨s', h, e, g⟩ := H w a hw'
    rw [vm_succ] at h
    cases q : next set set' kt tabs lv w s with
    | none => rw [q] at h; cases h
    | some s1 =>
      rw [q] at h
      have gr := next_grows q
      refine ⟨s1, rfl, vm_eqs n h e, vm_soundP O hR R p i0 n s1 (gr.on κ₀ on) (gr.cs (fun x => ∀ w, ValidP V p (x.2.2 w).1) (fun _ _ _ h _ => h) hc) w hw' fun w' a' hw2 => ?_⟩
      have a2 : Ag w₀ w' s.na s.nt s.ns := ⟨fun j hj => (a'.1 j (Nat.lt_of_lt_of_le hj gr.na)).trans (a.1 j hj), fun j hj => (a'.2.1 j (Nat.lt_of_lt_of_le hj gr.nt)).trans (a.2.1 j hj), fun j hj => (a'.2.2 j (Nat.lt_of_lt_of_le hj gr.ns)).trans (a.2.2 j hj)⟩
      obtain ⟨s'', h', e', g'⟩ := H w' a2 hw2
      rw [vm_succ, next_congr q a'] at h'
      exact ⟨s'', h', e', g'⟩
theorem vm_sound (O : Vok V set set' kt tabs) {κ₀ : Kont} (hR : Rm V κ₀ lv) (R : Lst) (n : Nat) (s : St V) (on : On κ₀ s.lev s.κ) (w₀ : Ora)
    (H : ∀ w, Ag w₀ w s.na s.nt s.ns → ∃ s', vm set set' kt tabs lv w n s = some s' ∧ Eqs s' ∧ Gs R s') : Gs R s :=
  vm_soundP O hR R false 0 n s on (fun x _ w => ValidP.ofG (x.2.2 w).2) w₀ (fun e => nomatch e) fun w a _ => H w a
theorem vm_soundX (O : Vok V set set' kt tabs) {κ₀ : Kont} (hR : Rm V κ₀ lv) (R : Lst) (i0 : Nat) (n : Nat) (s : St V) (on : On κ₀ s.lev s.κ) (hc : ∀ x ∈ s.cs, ∀ w, ValidX V (x.2.2 w).1) (w₀ : Ora) (hw : ∀ k, w₀.t k = i0 + k)
    (H : ∀ w, Ag w₀ w s.na s.nt s.ns → (∀ k, w.t k = i0 + k) → ∃ s', vm set set' kt tabs lv w n s = some s' ∧ Eqs s' ∧ GsX R s' i0) : GsX R s i0 :=
  vm_soundP O hR R true i0 n s on (fun x hx w => ValidP.ofX (hc x hx w)) w₀ (fun _ => hw) fun w a h => H w a (h rfl)
end
end Mine
namespace Mine
open PySem PySem.W PySem.W.X PySem.Spec PySem.Calls PyProof.Rows

noncomputable def st0 (V : XV) (c : Code) (κ : Kont) (t : Sem PySem.Fin) (l : Lst) (ch : Ch) (hs : List Nat) (cs : List (Nat × List Bool × (Ora → VCon V))) : St V :=
  ⟨c, κ, t, 0, l, ch, 0,0,0, hs, cs, [],[],[],[]⟩
noncomputable def lhs {V : XV} (o : Option (St V)) : Option (List Addr × List Code × List Lst × List (Sem PySem.Fin)) := match o with
  | some s => some (s.eA.map (·.1), s.eC.map (·.1), s.eL.map (·.1), s.eT.map (·.1))
  | none => none
noncomputable def rhs {V : XV} (o : Option (St V)) : Option (List Addr × List Code × List Lst × List (Sem PySem.Fin)) := match o with
  | some s => some (s.eA.map (·.2), s.eC.map (·.2), s.eL.map (·.2), s.eT.map (·.2))
  | none => none
noncomputable def vw {V : XV} (sel : List Bool) (o : Option (St V)) : Option (Code × Sem PySem.Fin × Nat × Lst × Ch) := match o with
  | some s => some (s.c, s.t, s.lev, maskT s.l sel, s.ch)
  | none => none
noncomputable def vwR {V : XV} (sel : List Bool) (o : Option (St V)) : Option (Sem PySem.Fin × Nat × Lst × Ch) := match o with
  | some s => some (s.t, s.lev, maskT s.l sel, s.ch)
  | none => none
theorem maskT_sub (l : Lst) (m : List Bool) : (maskT l m).Sublist l := by
  induction l generalizing m with
  | nil => cases m <;> exact .slnil
  | cons x l ih =>
    cases m with
    | nil => exact List.nil_sublist _
    | cons b m =>
      cases b with
      | true => exact (ih m).cons_cons x
      | false => exact (ih m).cons x
theorem eqs_of {V : XV} {s : St V} (h : lhs (some s) = rhs (some s)) : Eqs s := by
  simp only [lhs, rhs, Option.some.injEq, Prod.mk.injEq] at h
  exact ⟨h.1, h.2.1, h.2.2.1, h.2.2.2⟩

section
variable {V : XV} {set set' : Setting} {kt : KT} {tabs : Ch} {lv : Nat}
theorem seg (O : Vok V set set' kt tabs) {κ : Kont} (hR : Rm V κ lv) {R l : Lst} {c : Code} {t : Sem PySem.Fin} {ch : Ch} (n : Nat) (hs : List Nat) (cs : List (Nat × List Bool × (Ora → VCon V))) (sel : List Bool)
    {c' : Ora → Code} {t' : Ora → Sem PySem.Fin} {l' : Ora → Lst} {ch' : Ora → Ch}
    (h12 : ∀ w, (vw sel (vm set set' kt tabs lv w n (st0 V c κ t l ch hs cs)), lhs (vm set set' kt tabs lv w n (st0 V c κ t l ch hs cs))) = (some (c' w, t' w, 0, l' w, ch' w), rhs (vm set set' kt tabs lv w n (st0 V c κ t l ch hs cs))))
    (h3 : ∀ w, G V (ch' w) (c' w) κ (t' w) (l' w ++ R)) : G V ch c κ t (l ++ R) := by
  have z : Gs R (st0 V c κ t l ch hs cs) := by
    refine vm_sound O hR R n (st0 V c κ t l ch hs cs) .base ⟨fun _ => 0, fun _ => 0, fun _ => (⟨0,0,0,0⟩, [])⟩ fun w _ => ?_
    have e1 := congrArg Prod.fst (h12 w)
    have e2 := congrArg Prod.snd (h12 w)
    simp only at e1 e2
    cases q : vm set set' kt tabs lv w n (st0 V c κ t l ch hs cs) with
    | none => rw [q] at e1; cases e1
    | some s' =>
      rw [q] at e1 e2
      refine ⟨s', rfl, eqs_of e2, ?_⟩
      have g := h3 w
      simp only [vw, Option.some.injEq, Prod.mk.injEq] at e1
      obtain ⟨a1, a2, a3, a4, a5⟩ := e1
      have on : ∀ (n : Nat) (s s' : St V), vm set set' kt tabs lv w n s = some s' → On κ s.lev s.κ → On κ s'.lev s'.κ := by
        intro n
        induction n with
        | zero => intro s s' h o; cases h; exact o
        | succ n ih =>
          intro s s' h o
          rw [vm_succ] at h
          split at h
          · rename_i s1 h1
            exact ih s1 s' h ((next_grows h1).on κ o)
          · cases h
      have o := on n _ _ q (.base (κ₀ := κ))
      rw [a3] at o
      have ek : s'.κ = κ := by
        generalize s'.κ = k at o
        cases o; rfl
      show G V s'.ch s'.c s'.κ s'.t (s'.l ++ R)
      rw [ek, a1, a2, a5]
      refine G.sub ?_ g
      rw [← a4]
      exact (maskT_sub _ _).append_right R
  exact z
theorem segR (O : Vok V set set' kt tabs) {κ : Kont} (hR : Rm V κ lv) {R l : Lst} {c : Code} {t : Sem PySem.Fin} {ch : Ch} (n : Nat) (hs : List Nat) (cs : List (Nat × List Bool × (Ora → VCon V))) (sel : List Bool)
    {r : Ora → Result} {l' : Ora → Lst} {ch' : Ora → Ch}
    (h12 : ∀ w, (vwR sel (vm set set' kt tabs lv w n (st0 V c κ t l ch hs cs)), lhs (vm set set' kt tabs lv w n (st0 V c κ t l ch hs cs))) = (some (leafOf (r w), 0, l' w, ch' w), rhs (vm set set' kt tabs lv w n (st0 V c κ t l ch hs cs))))
    (h3 : ∀ w, Rr V (ch' w) κ (r w) (l' w ++ R)) : G V ch c κ t (l ++ R) := by
  refine seg O hR n hs cs sel (c' := fun w => match vm set set' kt tabs lv w n (st0 V c κ t l ch hs cs) with | some s => s.c | none => c) (t' := fun w => leafOf (r w)) (l' := l') (ch' := ch') (fun w => ?_) fun w => ?_
  · have e1 := congrArg Prod.fst (h12 w)
    have e2 := congrArg Prod.snd (h12 w)
    simp only at e1 e2
    refine Prod.ext ?_ e2
    show vw sel _ = _
    cases q : vm set set' kt tabs lv w n (st0 V c κ t l ch hs cs) with
    | none => rw [q] at e1; cases e1
    | some s' =>
      rw [q] at e1
      simp only [vwR, Option.some.injEq, Prod.mk.injEq] at e1
      simp only [vw, Option.some.injEq, Prod.mk.injEq]
      exact ⟨trivial, e1⟩
  · have g := h3 w
    cases hr : r w with
    | ok f => rw [hr] at g; exact G.done g
    | error e => rw [hr] at g; exact G.raise g
noncomputable def nth : List Nat → Nat → Nat
  | [], _ => 0
  | x :: _, 0 => x
  | _ :: l, n + 1 => nth l n
theorem nth_out (l : List Nat) (j : Nat) (h : l.length ≤ j) : nth l j = 0 := by
  induction l generalizing j with
  | nil => rfl
  | cons x l ih =>
    cases j with
    | zero => exact absurd h (by simp)
    | succ n => exact ih n (by simpa using h)
theorem valid_of (O : Vok V set set' kt tabs) (C : Con) (n : Nat) (hs : List Nat) (cs : List (Nat × List Bool × (Ora → VCon V))) (sel : List Bool) (fa ft : Ora → List Nat) (ha : ∀ w, (fa w).length = C.nN) (ht : ∀ w, (ft w).length = C.nT)
    (h12 : ∀ ch κ w, (vwR sel (vm set set' kt tabs C.lv w n (st0 V C.c κ (dn C.c) C.foot ch hs cs)), lhs (vm set set' kt tabs C.lv w n (st0 V C.c κ (dn C.c) C.foot ch hs cs))) =
      (some (leafOf (C.r (nth (fa w)) (nth (ft w))), 0, reput C.foot (C.post (nth (fa w)) (nth (ft w))) ++ newL (nth (fa w)) 0 (C.new (nth (fa w)) (nth (ft w))), ch), rhs (vm set set' kt tabs C.lv w n (st0 V C.c κ (dn C.c) C.foot ch hs cs)))) : Valid V C := by
  refine Valid0.call ?_
  intro ch κ R hR K
  refine segR O hR n hs cs sel (r := fun w => C.r (nth (fa w)) (nth (ft w))) (l' := fun w => reput C.foot (C.post (nth (fa w)) (nth (ft w))) ++ newL (nth (fa w)) 0 (C.new (nth (fa w)) (nth (ft w)))) (ch' := fun _ => ch) (h12 ch κ) fun w => K _ _ (fun j hj => nth_out _ _ (by rw [ha]; exact hj)) (fun j hj => nth_out _ _ (by rw [ht]; exact hj))
end
noncomputable def ftx (P : Params) (b1 b2 : Bool) : String → Bool := fun r => cond (S.eqLit 10139888712337904147300001983332972444938612 r) b1 (cond (S.eqLit 2510650655181157320538776789020469319833841985448949215332 r) b2 (P.followText r))
noncomputable def setP (P : Params) (b1 b2 : Bool) : Setting := ⟨PySem.Challenge.pw_pu0026_01, { P with followText := ftx P b1 b2 }⟩
theorem ftx_eq (P : Params) : ftx P (P.followText "special-get-raises") (P.followText "comprehension-iter-twice") = P.followText := by
  funext r
  have e1 : (r == "special-get-raises") = S.eqLit 10139888712337904147300001983332972444938612 r := congrFun (S.eqLit_eq "special-get-raises" 10139888712337904147300001983332972444938612 (by decide +kernel)) r
  have e2 : (r == "comprehension-iter-twice") = S.eqLit 2510650655181157320538776789020469319833841985448949215332 r := congrFun (S.eqLit_eq "comprehension-iter-twice" 2510650655181157320538776789020469319833841985448949215332 (by decide +kernel)) r
  unfold ftx
  rw [← e1, ← e2]
  by_cases h1 : r = "special-get-raises"
  · rw [h1]; rfl
  · by_cases h2 : r = "comprehension-iter-twice"
    · rw [h2]; rfl
    · rw [beq_eq_false_iff_ne.mpr h1, beq_eq_false_iff_ne.mpr h2]; rfl
theorem setP_eq (P : Params) : setP P (P.followText "special-get-raises") (P.followText "comprehension-iter-twice") = ⟨PySem.Challenge.pw_pu0026_01, P⟩ := by
  unfold setP
  rw [ftx_eq]
noncomputable abbrev sT (P : Params) (b : Bool) : Setting := setP P true b
noncomputable abbrev sF (P : Params) (b : Bool) : Setting := setP P false b
noncomputable def tabs0 : Ch := [(107, #[])]
end Mine
namespace Mine
open PySem PySem.W PySem.W.X PySem.Spec PySem.Calls PyProof.Rows

structure Nm where
  tuple : String
  list : String
  dict : String
  frame : String
  cell : String
  rh : Int → Int
  sh : Array Nat → Int
noncomputable def nmZ (P : Params) : Nm := ⟨SZ.s2766695959194262286x5, SZ.s9222952809800978799x4, SZ.s14018661285674007319x4, SZ.s658472552662922059x5, SZ.s15660640913423913556x4, ZFast.zw12210062019545310541, P.strHash⟩
noncomputable def tupO (N : Nm) (xs : List Value) : Obj := { cls := .type N.tuple, data := .seq ⟨xs⟩ }
noncomputable def lstO (N : Nm) (xs : List Value) (n : Nat) : Obj := { cls := .type N.list, data := .seq ⟨xs⟩ n }
noncomputable def celO (N : Nm) (v : Option Value) : Obj := { cls := .type N.cell, data := .cell v }
noncomputable def ent (N : Nm) (e : List Nat × Tok × Value) : DictEntry := ⟨N.rh (N.sh ⟨e.1⟩), .str ⟨⟨e.1⟩⟩ e.2.1, e.2.2⟩
noncomputable def ents (N : Nm) : List (List Nat × Tok × Value) → List DictEntry
  | [] => []
  | e :: es => ent N e :: ents N es
noncomputable def frmO (N : Nm) (es : List (List Nat × Tok × Value)) (n : Nat) : Obj := { cls := .type N.frame, data := .dict ⟨ents N es⟩ n }
noncomputable def dctO (N : Nm) (es : List (List Nat × Tok × Value)) (n : Nat) : Obj := { cls := .type N.dict, data := .dict ⟨ents N es⟩ n }
noncomputable def ktm (P : Params) (scr : Obj) : KT := KT.put 40 (ktop P) 139 scr
noncomputable abbrev VO (V : XV) (P : Params) (b : Bool) (scr : Obj) : Prop := Vok V (sT P b) (sF P b) (ktm P scr) tabs0
noncomputable def calB (id : String) (as : List Value) : Code := .call (.builtin id) ⟨as, []⟩
noncomputable def ok1 (v : Value) : Result := .ok (.ret v)
noncomputable def pureC (c : Code) (nT : Nat) (v : (Nat → Tok) → Value) (lv : Nat) : Con := ⟨c, [],0, nT, fun _ _ => [], fun _ _ => [], fun _ θ => .ok (.ret (v θ)), lv⟩
theorem Valid.of_eq {V : XV} {C C' : Con} (h : Valid V C) (e : C = C') : Valid V C' := e ▸ h

section
variable {V : XV} {P : Params} {b : Bool} {scr : Obj}
noncomputable def cMod (x : Int) (t : Tok) (y : Int) (u : Tok) (r : Int) : Con := pureC (calB "int.__mod__" [.int x t, .int y u]) 1 (fun θ => .int r (θ 0)) 900
noncomputable def cDiv (x : Int) (t : Tok) (y : Int) (u : Tok) (r : Int) : Con := pureC (calB "int.__floordiv__" [.int x t, .int y u]) 1 (fun θ => .int r (θ 0)) 900
theorem vMod (O : VO V P b scr) (x : Int) (t : Tok) (n : Nat) (u : Tok) (r : Int) (h : Int.fmod x (Int.ofNat (n + 1)) = r) : Valid V (cMod x t (Int.ofNat (n + 1)) u r) := by
  have z : Valid V (cMod x t (Int.ofNat (n + 1)) u (Z.modQ x (Int.ofNat (n + 1)))) := by
    refine valid_of O _ 2 [] [] [] (fun w => []) (fun w => [w.t 0]) (fun _ => rfl) (fun _ => rfl) ?_
    intro ch κ w; kernel_rfl
  rw [← Z.modQ_eq, h] at z
  exact z
theorem gMeets {ch : Ch} {κ : Kont} {l : Lst} {id : String} {args : Args} {bi : Builtin} {S : Around → (Result → Shared → Prop) → Shared → Prop} (hb : entryFor table id = some bi) (hp : plainId id = true) (g : Meets (bi args) S)
    (h : ∀ h i, Mm V h ch l → S (aroundOf V true κ) (endOf V κ) ⟨h, ⟨[]⟩, V.d, i, V.os⟩) : G V ch (.builtin id args) κ (dn (.builtin id args)) l := fun hp' i D => by
  rw [← dn_eq]
  have e : denote table (.builtin id args) = bi args := by
    show (match entryFor table id with | some b => b args | none => _) = _
    rw [hb]
  rw [e]
  refine wpOwn_of_wpAny ?_
  rw [Around.under_plainId hp]
  exact wpAny_mono (g V.prog V.w (aroundOf V true κ) (endOf V κ) _ (h hp' i D)) (fun fin s' x => by cases fin <;> exact x) fun _ _ x => x
theorem vDiv (O : VO V P b scr) (x : Int) (t : Tok) (n : Nat) (u : Tok) (r : Int) (h : Int.fdiv x (Int.ofNat (n + 1)) = r) (hp : Builtin.divisionGoesByPylong x (Int.ofNat (n + 1)) = false) : Valid V (cDiv x t (Int.ofNat (n + 1)) u r) := by
  refine Valid0.call ?_
  intro ch κ R hR K
  refine seg O hR 1 [] [] [] (c' := fun _ => .builtin "int.__floordiv__" ⟨[.int x t, .int (Int.ofNat (n + 1)) u],[]⟩) (t' := fun _ => dn (.builtin "int.__floordiv__" ⟨[.int x t, .int (Int.ofNat (n + 1)) u],[]⟩)) (l' := fun _ => []) (ch' := fun _ => ch) (fun w => by kernel_rfl) fun w => ?_
  refine gMeets F.entry_int_floordiv (by decide +kernel) (AutoIntG4.int___floordiv___int_int_1 x t (Int.ofNat (n + 1)) u (by rw [Int.ofNat_eq_natCast, beq_iff_eq]; omega) (by rw [hp]; simp)).meets fun hh i D => ?_
  have k := K (fun _ => 0) (fun j => if j = 0 then i else 0) (fun _ _ => rfl) (fun j hj => if_neg (by have : 1 ≤ j := hj; omega)) hh (i + 1) D
  rw [← h] at k
  exact k
noncomputable def cInt (x : UInt64) (t : Tok) (r : Int) : Con := pureC (calB "float.__int__" [.float x t]) 1 (fun θ => .int r (θ 0)) 900
theorem vInt (O : VO V P b scr) (x : UInt64) (t : Tok) (s : Bool) (m : Nat) (e : Int) (r : Int) (hd : Float64.decode x = .fin s m e) (h : Float64.truncOf s m e = r) : Valid V (cInt x t r) := by
  refine Valid0.call ?_
  intro ch κ R hR K
  refine seg O hR 1 [] [] [] (c' := fun _ => .builtin "float.__int__" ⟨[.float x t],[]⟩) (t' := fun _ => dn (.builtin "float.__int__" ⟨[.float x t],[]⟩)) (l' := fun _ => []) (ch' := fun _ => ch) (fun w => by kernel_rfl) fun w => ?_
  refine gMeets F.entry_float_int (by decide +kernel) (PySem.Flt.gives_int t hd).meets fun hh i D => ?_
  have k := K (fun _ => 0) (fun j => if j = 0 then i else 0) (fun _ _ => rfl) (fun j hj => if_neg (by have : 1 ≤ j := hj; omega)) hh (i + 1) D
  rw [← h] at k
  exact k
end
end Mine
namespace Mine
open PySem PySem.W PySem.W.X PySem.Spec PySem.Calls PyProof.Rows
theorem sum_intsG' {prog : Program} {w : World} {A : Around} {E : Value → Shared → Prop} {s : Shared} {l : Addr} {vs : List Value} {ns : List Int} {Q : Value → Shared → Prop} (hh : A.handled = none) (hl : s.heap.IsList l vs.toArray) (hi : IntsAre vs ns)
    (h : ∀ h' tk t', (∀ b o, s.heap.get? b = some o → h'.get? b = some o) → Q (.int ns.sum t') { s with heap := h', toks := tk }) : wpAny (model prog w) A (PySem.call (.builtin "sum") [.ref l]) Q E s := by
  have ha := hi.allInts
  have hn : numsOf vs.toArray.toList = ns := hi.numsOf
  generalize vs.toArray = items at hl ha hn
  obtain ⟨xs, rfl⟩ := ha.items
  rw [nums_intItems] at hn
  refine sum_intListG hh hl fun h' tk t' hk => ?_
  have := h h' tk t' hk
  rw [preSum_eq, List.take_of_length_le (by simp), hn]; exact this
section
variable {V : XV}
theorem gCallWp {ch : Ch} {c : Code} {κ : Kont} {l : Lst} {f : Value} {args : List Value} {g : Bool} {lv : List Value} {k : Result → Sem PySem.Fin}
    (h : ∀ hp i, Mm V hp ch l → wpAny (model V.prog V.w) ((aroundOf V true κ).under c) (PySem.call f args) (fun v s' => Means V c none κ (k (.ok (.ret v))) s') (fun e s' => Means V c none κ (k (.error e)) s') ⟨hp, ⟨[]⟩, V.d, i, V.os⟩) :
    G V ch c κ (.call (.call f ⟨args, []⟩) none g lv k) l := fun hp i D => by
  intro Γ p hc hΓ
  have z := h hp i D Γ p (hc ▸ hΓ.in)
  change Sem.wp _ Γ (Sem.call (.call f ⟨args, []⟩) none false [] (fun r => Sem.bind (match r with | .ok f => Sem.pure f | .error e => Sem.raise e) (fun x => match x with | .ret v => Sem.pure v | _ => Sem.unsupported "internal:call-without-return-value"))) _ _ p _ at z
  rw [Sem.wp_call] at z ⊢
  refine wpCode_mono (fun r s' q => ?_) z
  cases r with
  | ok fl =>
    cases fl with
    | ret v => exact q Γ p hc hΓ
    | next => exact absurd q (by simp [Sem.bind, Sem.wp])
    | brk => exact absurd q (by simp [Sem.bind, Sem.wp])
    | cont => exact absurd q (by simp [Sem.bind, Sem.wp])
  | error e => exact q Γ p hc hΓ
theorem Mm.keeps {h h' : Heap} {ch : Ch} {l : Lst} (D : Mm V h ch l) (k : ∀ b o, h.get? b = some o → h'.get? b = some o) : Mm V h' ch l :=
  ⟨fun b o e q => k b o (D.keep b o e q), fun a vs e => ⟨k _ _ (D.tab a vs e).1, (D.tab a vs e).2⟩, fun p hp => ⟨k _ _ (D.nw p hp).1, (D.nw p hp).2⟩, D.nd⟩
noncomputable def cSum (a : Addr) (foot : Lst) (r : Int) : Con := ⟨.call (.builtin "sum") ⟨[.ref a],[]⟩, foot, 0,1, fun _ _ => [], fun _ _ => [], fun _ θ => .ok (.ret (.int r (θ 0))), 900⟩
theorem reput_nil (l : Lst) : reput l [] = l := by cases l <;> rfl
theorem vSum {a : Addr} {vs : List Value} {ns : List Int} {foot : Lst} (hi : IntsAre vs ns) (hl : ∀ h ch R, Mm V h ch (foot ++ R) → h.IsList a vs.toArray) : Valid V (cSum a foot ns.sum) := by
  intro ch c κ R g lv k hR K
  refine gCallWp fun hp i D => ?_
  have hh : ((aroundOf V true κ).under c).handled = none := by
    have := hR.hand
    simpa [aroundOf, Around.mark, Around.under] using this
  refine sum_intsG' hh (hl hp ch R D) hi fun h' tk t' hk => ?_
  have z := K (fun _ => 0) (fun j => if j = 0 then t' else 0) (fun _ _ => rfl) (fun j hj => if_neg (by have : 1 ≤ j := hj; omega))
  have D' := D.keeps hk
  have z' := z h' tk (by simpa [cSum, reput_nil, newL] using D')
  exact z'
end
end Mine
namespace Mine
open PySem PySem.W PySem.W.X PySem.Spec PySem.Calls PyProof.Rows
theorem sz_list : SZ.s9222952809800978799x4 = "list" := SZ.e9222952809800978799x4.symm
theorem sz_dict : SZ.s14018661285674007319x4 = "dict" := SZ.e14018661285674007319x4.symm
theorem sz_tuple : SZ.s2766695959194262286x5 = "tuple" := SZ.e2766695959194262286x5.symm
noncomputable def lk : List (List Nat × Tok × Value) → List Nat → Option Value
  | [], _ => none
  | e :: es, k => if e.1 = k then some e.2.2 else lk es k
section
variable {V : XV} {P : Params} {b : Bool} {scr : Obj}
theorem VO.hash (O : VO V P b scr) : V.w.params.strHash = P.strHash := by
  rcases O.set with h | h
  · have := congrArg (fun s : Setting => s.params.strHash) h; exact this.symm
  · have := congrArg (fun s : Setting => s.params.strHash) h; exact this.symm
theorem VO.prog (O : VO V P b scr) : V.prog = PySem.Challenge.pw_pu0026_01 := by
  rcases O.set with h | h
  · have := congrArg (fun s : Setting => s.program) h; exact this.symm
  · have := congrArg (fun s : Setting => s.program) h; exact this.symm
theorem VO.ne1 (O : VO V P b scr) {h : Heap} {ch : Ch} {l : Lst} (D : Mm V h ch l) {p : Addr × Obj} (hp : p ∈ l) : (p.1 == sysModules) = false := by
  rw [beq_eq_false_iff_ne]
  intro e
  have h1 : V.h₀.get? 1 = some (zo1 P) := O.kt 1 _ (by kernel_rfl)
  have h2 := (D.nw p hp).2
  rw [e] at h2
  have : sysModules = 1 := rfl
  rw [this, h1] at h2
  cases h2
theorem isS (k : List Nat) (t : Tok) : Value.isStrOf (⟨⟨k⟩⟩ : Str) (.str ⟨⟨k⟩⟩ t) = true := by unfold Value.isStrOf; simp
theorem ents_find (N : Nm) (es : List (List Nat × Tok × Value)) (k : List Nat) : findBy Value.isStrOf (⟨ents N es⟩ : Array DictEntry) (⟨⟨k⟩⟩ : Str) = lk es k := by
  unfold findBy
  rw [show (⟨ents N es⟩ : Array DictEntry) = (ents N es).toArray from rfl, List.find?_toArray]
  induction es with
  | nil => rfl
  | cons e es ih =>
    show Option.map _ (List.find? _ (ent N e :: ents N es)) = if e.1 = k then some e.2.2 else lk es k
    rw [List.find?_cons]
    have q : Value.isStrOf (⟨⟨k⟩⟩ : Str) (ent N e).key = decide (e.1 = k) := by
      show Value.isStrOf (⟨⟨k⟩⟩ : Str) (.str ⟨⟨e.1⟩⟩ e.2.1) = _
      unfold Value.isStrOf
      by_cases h : e.1 = k
      · subst h; simp
      · rw [decide_eq_false h]
        simp only [beq_eq_false_iff_ne, ne_eq]
        intro z
        apply h
        have := congrArg (fun s : Str => s.cps.toList) z
        first | exact this.symm | exact this
    rw [q]
    by_cases h : e.1 = k
    · rw [if_pos h, decide_eq_true h]; rfl
    · rw [if_neg h, decide_eq_false h]; exact ih
theorem ents_mem {N : Nm} {es : List (List Nat × Tok × Value)} {x : DictEntry} (h : x ∈ ents N es) : ∃ e ∈ es, x = ent N e := by
  induction es with
  | nil => cases h
  | cons e es ih =>
    rcases List.mem_cons.mp h with h | h
    · exact ⟨e, List.mem_cons_self, h⟩
    · obtain ⟨e', h1, h2⟩ := ih h
      exact ⟨e', List.mem_cons_of_mem _ h1, h2⟩
theorem VO.mapOf (O : VO V P b scr) {h : Heap} {d : Addr} {es : List (List Nat × Tok × Value)} {n : Nat} (hd : h.get? d = some (dctO (nmZ P) es n)) (hne : ∀ e ∈ es, e.1 ≠ []) : h.MapOf (strKind V.prog V.w) d (fun k => lk es k.cps.toList) := by
  refine ⟨_, _, _, hd, ⟨?_, rfl, rfl⟩, rfl, ?_, fun k => ?_⟩
  · show Value.type SZ.s14018661285674007319x4 = _; rw [sz_dict]
  · intro x hx
    have hx' : x ∈ ents (nmZ P) es := by simpa using hx
    obtain ⟨e, he, rfl⟩ := ents_mem hx'
    refine ⟨⟨⟨e.1⟩⟩, ?_, ?_⟩
    · show Value.isStrOf (⟨⟨e.1⟩⟩ : Str) (.str ⟨⟨e.1⟩⟩ e.2.1) = true
      unfold Value.isStrOf; simp
    · show ZFast.zw12210062019545310541 (P.strHash ⟨e.1⟩) = hashStr V.w ⟨⟨e.1⟩⟩
      unfold hashStr
      rw [if_neg (by have := hne e he; cases q : e.1 with | nil => exact absurd q this | cons a r => simp), O.hash, ← ZFast.ze12210062019545310541]
  · obtain ⟨⟨k⟩⟩ := k
    exact ents_find _ es k
noncomputable def cGet (N : Nm) (d : Addr) (es : List (List Nat × Tok × Value)) (n : Nat) (k : List Nat) (t : Tok) (df : Value) (v : Value) : Con := ⟨.call (.builtin "dict.get") ⟨[.ref d, .str ⟨⟨k⟩⟩ t, df],[]⟩, [(d, dctO N es n)],0,0, fun _ _ => [], fun _ _ => [], fun _ _ => .ok (.ret v), 900⟩
noncomputable def cItem (N : Nm) (d : Addr) (es : List (List Nat × Tok × Value)) (n : Nat) (k : List Nat) (t : Tok) (v : Value) : Con := ⟨.call (.builtin "dict.__getitem__") ⟨[.ref d, .str ⟨⟨k⟩⟩ t],[]⟩, [(d, dctO N es n)],0,0, fun _ _ => [], fun _ _ => [], fun _ _ => .ok (.ret v), 900⟩
theorem vGet (O : VO V P b scr) (d : Addr) (es : List (List Nat × Tok × Value)) (n : Nat) (k : List Nat) (t : Tok) (df v : Value) (hne : ∀ e ∈ es, e.1 ≠ []) (hv : lk es k = some v) : Valid V (cGet (nmZ P) d es n k t df v) := by
  intro ch c κ R g lv k' hR K
  refine gCallWp fun hp i D => ?_
  have hd := (D.nw (d, dctO (nmZ P) es n) (by simp [cGet])).1
  have hm := O.mapOf hd hne
  refine call_meetsIn F.slot_dict_get hm.typeIs F.entry_dict_get (F.args_dict_get_3 _ _ _) (meets_dict_get_default (strKind V.prog V.w) d (k := (⟨⟨k⟩⟩ : Str)) (key := .str ⟨⟨k⟩⟩ t) (isS k t) (O.ne1 D (p := (d, dctO (nmZ P) es n)) (by simp [cGet])) df) ⟨_, hm, ?_⟩
  have z := K (fun _ => 0) (fun _ => 0) (fun _ _ => rfl) (fun _ _ => rfl) hp (i + 1) (by simpa [cGet, reput_nil, newL] using D)
  show Means V c none κ (k' (.ok (.ret ((lk es k).getD df)))) _
  rw [hv]
  exact z
theorem vItem (O : VO V P b scr) (d : Addr) (es : List (List Nat × Tok × Value)) (n : Nat) (k : List Nat) (t : Tok) (v : Value) (hne : ∀ e ∈ es, e.1 ≠ []) (hv : lk es k = some v) : Valid V (cItem (nmZ P) d es n k t v) := by
  intro ch c κ R g lv k' hR K
  refine gCallWp fun hp i D => ?_
  have hd := (D.nw (d, dctO (nmZ P) es n) (by simp [cItem])).1
  have hm := O.mapOf hd hne
  refine call_meetsIn F.slot_dict_getitem hm.typeIs F.entry_dict_getitem (F.args_dict_getitem_2 _ _) (meets_dict_getitem (strKind V.prog V.w) d (k := (⟨⟨k⟩⟩ : Str)) (key := .str ⟨⟨k⟩⟩ t) (isS k t)) ⟨_, v, hm, hv, ?_⟩
  exact K (fun _ => 0) (fun _ => 0) (fun _ _ => rfl) (fun _ _ => rfl) hp (i + 1) (by simpa [cItem, reput_nil, newL] using D)
end
end Mine
namespace Mine
open PySem PySem.W PySem.W.X PySem.Spec PySem.Calls PyProof.Rows
theorem call_item_list {prog : Program} {w : World} {A : Around} {E : Value → Shared → Prop} {s : Shared} {l : Addr} {items : Array Value} {k : Int} {t : Tok} {x : Value} {Q : Value → Shared → Prop} (hl : s.heap.IsList l items)
    (h0 : 0 ≤ k) (hfit : k < 2 ^ 63) (hx : items[k.toNat]? = some x) (h : Q x s) : wpAny (model prog w) A (PySem.call (.builtin "list.__getitem__") [.ref l, .int k t]) Q E s := by
  obtain ⟨o, ho, hc, ne, hd⟩ := id hl
  refine wpAny_call_entry slot_list_getitem hl.typeIs entry_list_getitem ?_ (args_list_getitem _ _)
  show wpAny _ _ (Builtin.List.listSubscript? (.int k t) >>= _) _ _ s
  refine wpAny_bind (wpAny_listSubscript_int (fitsIndex_of h0 hfit) ?_)
  clear hfit
  obtain ⟨j, rfl⟩ := Int.eq_ofNat_of_zero_le h0
  have hx' : items[j]? = some x := hx
  show wpAny _ _ ((seqItemAt l j >>= fun r => pure (r.map (j, ·))) >>= _) _ _ s
  refine wpAny_bind (wpAny_bind (wpAny_seqItemAt ho hd (wpAny_pure ?_)))
  rw [hx']
  first
    | exact wpAny_bind (wpAny_pure (wpAny_pure ⟨x, rfl, h⟩))
    | exact wpAny_pure ⟨x, rfl, h⟩
section
variable {V : XV} {P : Params} {b : Bool} {scr : Obj}
noncomputable def cLen (a : Addr) (foot : Lst) (n : Nat) : Con := ⟨.call (.builtin "len") ⟨[.ref a],[]⟩, foot, 0,1, fun _ _ => [], fun _ _ => [], fun _ θ => .ok (.ret (.int (Int.ofNat n) (θ 0))), 900⟩
theorem vLen {a : Addr} {vs : List Value} {foot : Lst} (hf : vs.length < 1000000) (hl : ∀ h ch R, Mm V h ch (foot ++ R) → h.IsList a vs.toArray) : Valid V (cLen a foot vs.length) := by
  intro ch c κ R g lv k hR K
  refine gCallWp fun hp i D => call_len_list (hl hp ch R D) (by simp; omega) ?_
  have z := K (fun _ => 0) (fun j => if j = 0 then i + 1 else 0) (fun _ _ => rfl) (fun j hj => if_neg (by have : 1 ≤ j := hj; omega)) hp (i + 1 + 1) (by simpa [cLen, reput_nil, newL] using D)
  have e : ((vs.toArray.size : Nat) : Int) = Int.ofNat vs.length := by simp
  rw [e]
  exact z
noncomputable def cLt (x : Int) (t : Tok) (y : Int) (u : Tok) (r : Bool) : Con := pureC (calB "int.__lt__" [.int x t, .int y u]) 0 (fun θ => .bool r) 900
theorem vLt (x : Int) (t : Tok) (y : Int) (u : Tok) (r : Bool) (h : decide (x < y) = r) : Valid V (cLt x t y u r) := by
  intro ch c κ R g lv k hR K
  refine gCallWp fun hp i D => call_gives F.slot_int_lt (typeIs_int _ _ _) F.entry_int_lt (F.args_int_lt_2 _ _) (AutoIntG1.int___lt___int_int_0 x t y u) ?_
  have z := K (fun _ => 0) (fun _ => 0) (fun _ _ => rfl) (fun _ _ => rfl) hp i (by simpa [cLt, pureC, reput_nil, newL] using D)
  rw [← h] at z
  exact z
noncomputable def cIdx (a : Addr) (foot : Lst) (k : Nat) (t : Tok) (v : Value) : Con := ⟨.call (.builtin "list.__getitem__") ⟨[.ref a, .int (Int.ofNat k) t],[]⟩, foot, 0,0, fun _ _ => [], fun _ _ => [], fun _ _ => .ok (.ret v), 900⟩
theorem vIdx {a : Addr} {vs : List Value} {foot : Lst} {k : Nat} {t : Tok} {v : Value} (hk : k < 1000000) (hv : vs[k]? = some v) (hl : ∀ h ch R, Mm V h ch (foot ++ R) → h.IsList a vs.toArray) : Valid V (cIdx a foot k t v) := by
  intro ch c κ R g lv k' hR K
  refine gCallWp fun hp i D => call_item_list (hl hp ch R D) (by simp) (by simp only [Int.ofNat_eq_natCast]; omega) (x := v) (by simpa using hv) ?_
  exact K (fun _ => 0) (fun _ => 0) (fun _ _ => rfl) (fun _ _ => rfl) hp i (by simpa [cIdx, reput_nil, newL] using D)
noncomputable def cRing (t : Tok) (u : Tok) (e : Nat) (c : Nat) : Con := pureC (calB "str.__getitem__" [.str ⟨⟨[97,34,92,35,98,59,61,39]⟩⟩ t, .int (Int.ofNat e) u]) 1 (fun θ => .str ⟨⟨[c]⟩⟩ (θ 0)) 900
noncomputable def ringN : Nat → Nat
  | 0 => 97 | 1 => 34 | 2 => 92 | 3 => 35 | 4 => 98 | 5 => 59 | 6 => 61 | _ => 39
theorem vRing (O : VO V P b scr) (t u : Tok) : ∀ e : Nat, e < 8 → Valid V (cRing t u e (ringN e))
  | 0, _ => valid_of O _ 2 [] [] [] (fun w => []) (fun w => [w.t 0]) (fun _ => rfl) (fun _ => rfl) (fun ch κ w => by kernel_rfl)
  | 1, _ => valid_of O _ 2 [] [] [] (fun w => []) (fun w => [w.t 0]) (fun _ => rfl) (fun _ => rfl) (fun ch κ w => by kernel_rfl)
  | 2, _ => valid_of O _ 2 [] [] [] (fun w => []) (fun w => [w.t 0]) (fun _ => rfl) (fun _ => rfl) (fun ch κ w => by kernel_rfl)
  | 3, _ => valid_of O _ 2 [] [] [] (fun w => []) (fun w => [w.t 0]) (fun _ => rfl) (fun _ => rfl) (fun ch κ w => by kernel_rfl)
  | 4, _ => valid_of O _ 2 [] [] [] (fun w => []) (fun w => [w.t 0]) (fun _ => rfl) (fun _ => rfl) (fun ch κ w => by kernel_rfl)
  | 5, _ => valid_of O _ 2 [] [] [] (fun w => []) (fun w => [w.t 0]) (fun _ => rfl) (fun _ => rfl) (fun ch κ w => by kernel_rfl)
  | 6, _ => valid_of O _ 2 [] [] [] (fun w => []) (fun w => [w.t 0]) (fun _ => rfl) (fun _ => rfl) (fun ch κ w => by kernel_rfl)
  | 7, _ => valid_of O _ 2 [] [] [] (fun w => []) (fun w => [w.t 0]) (fun _ => rfl) (fun _ => rfl) (fun ch κ w => by kernel_rfl)
  | _ + 8, h => absurd h (by omega)
theorem isList_foot {a : Addr} {vs : List Value} {n : Nat} (h : Heap) (ch : Ch) (R : Lst) (D : Mm V h ch ([(a, lstO (nmZ P) vs n)] ++ R)) : h.IsList a vs.toArray :=
  ⟨_, (D.nw (a, lstO (nmZ P) vs n) (by simp)).1, by show Value.type SZ.s9222952809800978799x4 = _; rw [sz_list], n, rfl⟩
end
end Mine
namespace Mine
open PySem PySem.W PySem.W.X PySem.Spec PySem.Calls PyProof.Rows
section
variable {V : XV} {P : Params} {b : Bool} {scr : Obj}
noncomputable def cUpd (id : String) (a : Addr) (rest : List Value) (o0 o1 : Obj) (v : Value) : Con := ⟨.call (.builtin id) ⟨.ref a :: rest, []⟩, [(a, o0)],0,0, fun _ _ => [o1], fun _ _ => [], fun _ _ => .ok (.ret v), 900⟩
theorem vUpd {id : String} {T : String} {name : Str} {B : Builtin} {a : Addr} {rest : List Value} {o0 o1 : Obj} {v : Value} {f : Obj → Obj} (slot : Slot T name id) (hT : o0.cls = .type T) (entry : entryFor table id = some B) (args : argsOk id ⟨.ref a :: rest, []⟩)
    (g : Meets (B ⟨.ref a :: rest, []⟩) (fun _ R s => s.heap.get? a = some o0 ∧ R (.ok (.ret v)) { s with heap := s.heap.update a f })) (hf : f o0 = o1) (h1 : o1.isFreed = false) : Valid V (cUpd id a rest o0 o1 v) := by
  intro ch c κ R gg lv k hR K
  refine gCallWp fun hp i D => ?_
  have hd := (D.nw (a, o0) (by simp [cUpd])).1
  refine call_meets slot ⟨o0, hd, hT⟩ entry args g ⟨hd, ?_⟩
  have D' := Mm.update (l := [(a, o0)]) (R := R) (j := 0) (f := f) D rfl (by rw [hf]; exact h1)
  rw [hf] at D'
  exact K (fun _ => 0) (fun _ => 0) (fun _ _ => rfl) (fun _ _ => rfl) _ i D'
theorem lst_std (P : Params) (xs : List Value) (n : Nat) : lstO (nmZ P) xs n = { cls := .type "list", dict := none, data := .seq ⟨xs⟩ n, slots := #[] } := by
  show ({ cls := .type SZ.s9222952809800978799x4, data := .seq ⟨xs⟩ n } : Obj) = _
  rw [sz_list]
theorem mapSeq_ne {f : Array Value → Array Value} {c : Value} {xs ys : List Value} {n : Nat} (h : f ⟨xs⟩ = ⟨ys⟩) (hl : ys.length ≠ xs.length) : Obj.mapSeq f { cls := c, dict := none, data := .seq ⟨xs⟩ n, slots := #[] } = { cls := c, dict := none, data := .seq ⟨ys⟩ (n + 1), slots := #[] } := by
  show ({ cls := c, dict := none, data := .seq (f ⟨xs⟩) (if ((f ⟨xs⟩).size == (⟨xs⟩ : Array Value).size) = true then n else n + 1), slots := #[] } : Obj) = _
  rw [h, if_neg]
  simpa using hl
theorem mapSeq_eq {f : Array Value → Array Value} {c : Value} {xs ys : List Value} {n : Nat} (h : f ⟨xs⟩ = ⟨ys⟩) (hl : ys.length = xs.length) : Obj.mapSeq f { cls := c, dict := none, data := .seq ⟨xs⟩ n, slots := #[] } = { cls := c, dict := none, data := .seq ⟨ys⟩ n, slots := #[] } := by
  show ({ cls := c, dict := none, data := .seq (f ⟨xs⟩) (if ((f ⟨xs⟩).size == (⟨xs⟩ : Array Value).size) = true then n else n + 1), slots := #[] } : Obj) = _
  rw [h, if_pos]
  simpa using hl
noncomputable def cApp (N : Nm) (a : Addr) (xs : List Value) (n : Nat) (v : Value) : Con := cUpd "list.append" a [v] (lstO N xs n) (lstO N (xs ++ [v]) (n + 1)) .none
theorem vApp (P : Params) (a : Addr) (xs : List Value) (n : Nat) (v : Value) (h : xs.length ≤ 100000) : Valid V (cApp (nmZ P) a xs n v) := by
  unfold cApp
  rw [lst_std, lst_std]
  exact vUpd F.slot_list_append rfl F.entry_list_append (F.args_list_append_2 _ _) (AutoListH.list_append_list_val_0 a ⟨xs⟩ n v (by show xs.length ≤ sizeLine; rw [sizeLine_eq]; omega))
    (mapSeq_ne (by simp) (by simp)) rfl
noncomputable def cRev (N : Nm) (a : Addr) (xs : List Value) (n : Nat) : Con := cUpd "list.reverse" a [] (lstO N xs n) (lstO N xs.reverse n) .none
theorem vRev (P : Params) (a : Addr) (xs : List Value) (n : Nat) (h : xs.length ≤ 100000) : Valid V (cRev (nmZ P) a xs n) := by
  unfold cRev
  rw [lst_std, lst_std]
  exact vUpd F.slot_list_reverse rfl F.entry_list_reverse (F.args_list_reverse_1 _) (AutoListH.list_reverse_list_0 a ⟨xs⟩ n (by show xs.length ≤ sizeLine; rw [sizeLine_eq]; omega))
    (mapSeq_eq (by simp) (by simp)) rfl
noncomputable def cPop (N : Nm) (a : Addr) (xs : List Value) (v : Value) (n : Nat) : Con := cUpd "list.pop" a [] (lstO N (xs ++ [v]) n) (lstO N xs (n + 1)) v
theorem vPop (P : Params) (a : Addr) (xs : List Value) (v : Value) (n : Nat) (h : xs.length ≤ 100000) : Valid V (cPop (nmZ P) a xs v n) := by
  unfold cPop
  rw [lst_std, lst_std]
  refine vUpd F.slot_list_pop rfl F.entry_list_pop (F.args_list_pop_1 _) (MeetsSeq.list_pop_last a ⟨xs ++ [v]⟩ n v ?_ (by show (xs ++ [v]).length ≤ sizeLine; rw [sizeLine_eq]; simp; omega))
    (mapSeq_ne (ys := xs) ?_ (by simp)) rfl
  · simp
  · simp [List.eraseIdx_append_of_length_le]
noncomputable def cPop0 (N : Nm) (a : Addr) (xs : List Value) (v : Value) (n : Nat) (t : Tok) : Con := cUpd "list.pop" a [.int 0 t] (lstO N (v :: xs) n) (lstO N xs (n + 1)) v
theorem vPop0 (P : Params) (a : Addr) (xs : List Value) (v : Value) (n : Nat) (t : Tok) (h : xs.length ≤ 100000) : Valid V (cPop0 (nmZ P) a xs v n t) := by
  unfold cPop0
  rw [lst_std, lst_std]
  refine vUpd F.slot_list_pop rfl F.entry_list_pop (F.args_list_pop_2 _ _) (MeetsSeq.list_pop_at a ⟨v :: xs⟩ n 0 t 0 v (by decide) ?_ (by simp) (by show (v :: xs).length ≤ sizeLine; rw [sizeLine_eq]; simp; omega))
    (mapSeq_ne (ys := xs) ?_ (by simp)) rfl
  · simp [seqIndex?]
  · simp
end
end Mine
namespace Mine
open PySem PySem.W PySem.W.X PySem.Spec PySem.Calls PyProof.Rows PySem.Builtin PySem.Builtin.Str
theorem sz_asc : SZ.s13500813778147066322x18 = "str_ascii_iterator" := SZ.e13500813778147066322x18.symm
theorem sz_stop : SZ.s5991306692159431302x13 = "StopIteration" := SZ.e5991306692159431302x13.symm
noncomputable def ascZ : String := SZ.s13500813778147066322x18
noncomputable def stopZ : String := SZ.s5991306692159431302x13
noncomputable def ascO (s : String) (x : List Nat) (t : Tok) (i : Nat) : Obj := { cls := .type s, data := .fields ⟨[.str ⟨⟨x⟩⟩ t, .int (Int.ofNat i) 0]⟩ }
noncomputable def ascE (s : String) (i : Nat) : Obj := { cls := .type s, data := .fields ⟨[.none, .int (Int.ofNat i) 0]⟩ }
noncomputable def stopO (s : String) (a : Addr) : Obj := { cls := .type s, data := .fields ⟨[.ref a, .none, .none, .none, .bool false, .none]⟩ }
section
variable {V : XV} {P : Params} {b : Bool} {scr : Obj}
noncomputable def cIter (s : String) (x : List Nat) (t : Tok) : Con := ⟨calB "str.__iter__" [.str ⟨⟨x⟩⟩ t],[],1,0, fun _ _ => [], fun _ _ => [ascO s x t 0], fun α _ => .ok (.ret (.ref (α 0))), 900⟩
theorem vIter (x : List Nat) (t : Tok) (ha : ∀ c ∈ x, c < 128) : Valid V (cIter ascZ x t) := by
  intro ch c κ R g lv k hR K
  refine gCallWp fun hp i D => ?_
  refine wpAny_call_entry F.slot_str_iter (typeIs_str _ _ t) F.entry_str_iter ?_ (F.args_str_iter_1 _)
  show wpAny _ _ (do ret (← newFields (if (true && (⟨⟨x⟩⟩ : Str).cps.all (· < 128)) = true then "str_ascii_iterator" else "str_iterator") [.str ⟨⟨x⟩⟩ t, rawInt 0])) _ _ _
  have e : (⟨⟨x⟩⟩ : Str).cps.all (· < 128) = true := by
    show Array.all (⟨x⟩ : Array Nat) _ = true
    simp only [List.all_toArray, List.all_eq_true, decide_eq_true_eq]
    exact ha
  rw [e]
  refine wpAny_bind (wpAny_newObj_type (wpAny_pure ⟨_, rfl, ?_⟩))
  have D' := Mm.alloc (l := []) (R := R) (o := ascO ascZ x t 0) D rfl
  have z := K (fun j => if j = 0 then hp.objs.size else 0) (fun _ => 0) (fun j hj => if_neg (by have : 1 ≤ j := hj; omega)) (fun _ _ => rfl) _ i (by simpa [cIter, reput_nil, newL] using D')
  have e2 : ascO ascZ x t 0 = { cls := .type "str_ascii_iterator", data := .fields #[.str ⟨⟨x⟩⟩ t, rawInt 0] } := by
    unfold ascO ascZ; rw [sz_asc]; rfl
  rw [e2] at z
  exact z
noncomputable def cNxt (s : String) (it : Addr) (x : List Nat) (t : Tok) (i : Nat) (c : Nat) : Con := ⟨calB "str_ascii_iterator.__next__" [.ref it],[(it, ascO s x t i)],0,1, fun _ _ => [ascO s x t (i + 1)], fun _ _ => [], fun _ θ => .ok (.ret (.str ⟨⟨[c]⟩⟩ (θ 0))), 900⟩
theorem asc_std (x : List Nat) (t : Tok) (i : Nat) : ascO ascZ x t i = { cls := .type "str_ascii_iterator", data := .fields #[.str ⟨⟨x⟩⟩ t, .int (Int.ofNat i) 0] } := by
  unfold ascO ascZ; rw [sz_asc]
theorem vNxt (it : Addr) (x : List Nat) (t : Tok) (i : Nat) (cc : Nat) (hx : x[i]? = some cc) : Valid V (cNxt ascZ it x t i cc) := by
  intro ch c κ R g lv k hR K
  refine gCallWp fun hp i' D => ?_
  have hd := (D.nw (it, ascO ascZ x t i) (by simp [cNxt])).1
  have ho := hd
  simp only at ho
  rw [asc_std] at ho
  refine wpAny_call_entry F.slot_str_ascii_iterator_next ⟨_, ho, rfl⟩ F.entry_str_ascii_iterator_next ?_ (F.args_str_ascii_iterator_next_1 _)
  show wpAny _ _ (field (.ref it) 0 >>= _) _ _ _
  refine wpAny_bind (wpAny_field ho rfl (x := .str ⟨⟨x⟩⟩ t) rfl ?_)
  show wpAny _ _ (field (.ref it) 1 >>= _) _ _ _
  refine wpAny_bind (wpAny_field ho rfl (x := .int (Int.ofNat i) 0) rfl ?_)
  have hx' : (⟨⟨x⟩⟩ : Str).cps[i]? = some cc := by
    show (⟨x⟩ : Array Nat)[i]? = some cc
    simpa using hx
  simp only [Int.ofNat_eq_natCast, Int.toNat_natCast, hx']
  refine wpAny_bind (wpAny_setField ho rfl (by simp) (wpAny_bind (wpAny_mkStr (wpAny_pure ⟨_, rfl, ?_⟩) (by show 1 ≤ sizeLine; decide))))
  have D' := Mm.update (l := [(it, ascO ascZ x t i)]) (R := R) (j := 0) (f := Obj.mapFields (·.setIfInBounds 1 (rawInt (i + 1)))) D rfl rfl
  exact K (fun _ => 0) (fun j => if j = 0 then i' else 0) (fun _ _ => rfl) (fun j hj => if_neg (by have : 1 ≤ j := hj; omega)) _ _ D'
noncomputable def cNxtE (N : Nm) (s s' : String) (it : Addr) (x : List Nat) (t : Tok) (i : Nat) : Con := ⟨calB "str_ascii_iterator.__next__" [.ref it],[(it, ascO s x t i)],2,0, fun _ _ => [ascE s i], fun α _ => [tupO N [], stopO s' (α 0)], fun α _ => .error (.ref (α 1)), 900⟩
theorem tup_std (P : Params) (xs : List Value) : tupO (nmZ P) xs = { cls := .type "tuple", data := .seq ⟨xs⟩ } := by
  show ({ cls := .type SZ.s2766695959194262286x5, data := .seq ⟨xs⟩ } : Obj) = _
  rw [sz_tuple]
theorem vNxtE (P : Params) (it : Addr) (x : List Nat) (t : Tok) (i : Nat) (hx : x.length ≤ i) : Valid V (cNxtE (nmZ P) ascZ stopZ it x t i) := by
  intro ch c κ R g lv k hR K
  refine gCallWp fun hp i' D => ?_
  have hd := (D.nw (it, ascO ascZ x t i) (by simp [cNxtE])).1
  have ho := hd
  simp only at ho
  rw [asc_std] at ho
  refine wpAny_call_entry F.slot_str_ascii_iterator_next ⟨_, ho, rfl⟩ F.entry_str_ascii_iterator_next ?_ (F.args_str_ascii_iterator_next_1 _)
  show wpAny _ _ (field (.ref it) 0 >>= _) _ _ _
  refine wpAny_bind (wpAny_field ho rfl (x := .str ⟨⟨x⟩⟩ t) rfl ?_)
  show wpAny _ _ (field (.ref it) 1 >>= _) _ _ _
  refine wpAny_bind (wpAny_field ho rfl (x := .int (Int.ofNat i) 0) rfl ?_)
  have hx' : (⟨⟨x⟩⟩ : Str).cps[i]? = none := by
    show (⟨x⟩ : Array Nat)[i]? = none
    simpa using hx
  simp only [Int.ofNat_eq_natCast, Int.toNat_natCast, hx']
  refine wpAny_bind (wpAny_rule (wpAny_bind (wpAny_setField ho rfl (by simp) (wpAny_bind (wpAny_letGo ?_)))))
  show wpAny _ _ (newExc (.type "StopIteration") [] >>= _) _ _ _
  refine wpAny_bind ?_
  simp only [newExc, newTuple]
  refine wpAny_bind (wpAny_newObj_type ?_ (by size_fits))
  refine wpAny_bind (m := firstArgMember _ _) (wpAny_of_eq (a := Value.none) (by first | rfl | (simp only [firstArgMember]; rfl)) ?_)
  refine wpAny_newObj_type ?_ (by size_fits)
  simp only [raiseNew]
  refine wpAny_bind (wpAny_handled ?_)
  have hh : ((aroundOf V true κ).under c).handled = none := by
    have := hR.hand
    simpa [aroundOf, Around.mark, Around.under] using this
  rw [show ((aroundOf V true κ).under c).in1.handled = none from hh]
  refine wpAny_bind (wpAny_pure (wpAny_throw ?_))
  have D1 := Mm.update (l := [(it, ascO ascZ x t i)]) (R := R) (j := 0) (f := Obj.mapFields (·.setIfInBounds 0 .none)) D rfl rfl
  have D2 := Mm.alloc (o := tupO (nmZ P) []) D1 rfl
  have D3 := Mm.alloc (o := stopO stopZ (hp.update it (Obj.mapFields (·.setIfInBounds 0 .none))).objs.size) D2 rfl
  have z := K (fun j => if j = 0 then (hp.update it (Obj.mapFields (·.setIfInBounds 0 .none))).objs.size else if j = 1 then ((hp.update it (Obj.mapFields (·.setIfInBounds 0 .none))).push (tupO (nmZ P) [])).objs.size else 0) (fun _ => 0)
    (fun j hj => by have : 2 ≤ j := hj; rw [if_neg (by omega), if_neg (by omega)]) (fun _ _ => rfl) _ i' D3
  have e2 : ∀ a, stopO stopZ a = { cls := .type "StopIteration", data := .fields (#[.ref a, .none, .none, .none, .bool false, .none] ++ ownMembersOf (.type "StopIteration") []) } := fun a => by
    unfold stopO stopZ; rw [sz_stop, show ownMembersOf (.type "StopIteration") [] = #[] by decide +kernel]; rfl
  rw [e2, tup_std] at z
  have hz : (hp.update it (Obj.mapFields (·.setIfInBounds 0 .none))).objs.size = hp.objs.size := by simp
  exact z
end
end Mine
namespace Mine
open PySem PySem.W PySem.W.X PySem.Spec PySem.Calls PyProof.Rows PySem.Builtin PySem.Builtin.Str PySem.Builtin.Int
section
variable {V : XV} {P : Params} {b : Bool} {scr : Obj}
theorem vGv {id T : String} {name : Str} {B : Builtin} {self : Value} {rest : List Value} {v : Value} (slot : Slot T name id) (hT : ∀ s : Shared, s.TypeIs self T) (entry : entryFor table id = some B) (args : argsOk id ⟨self :: rest, []⟩)
    (g : Gives (B ⟨self :: rest, []⟩) (.val v)) : Valid V (pureC (calB id (self :: rest)) 0 (fun _ => v) 900) := by
  intro ch c κ R gg lv k hR K
  refine gCallWp fun hp i D => call_gives slot (hT _) entry args g ?_
  exact K (fun _ => 0) (fun _ => 0) (fun _ _ => rfl) (fun _ _ => rfl) hp i (by simpa [pureC, reput_nil, newL] using D)
theorem vGi {id T : String} {name : Str} {B : Builtin} {self : Value} {rest : List Value} {x : Int} (slot : Slot T name id) (hT : ∀ s : Shared, s.TypeIs self T) (entry : entryFor table id = some B) (args : argsOk id ⟨self :: rest, []⟩)
    (g : Gives (B ⟨self :: rest, []⟩) (.int x)) : Valid V (pureC (calB id (self :: rest)) 1 (fun θ => .int x (θ 0)) 900) := by
  intro ch c κ R gg lv k hR K
  refine gCallWp fun hp i D => call_gives slot (hT _) entry args g ?_
  exact K (fun _ => 0) (fun j => if j = 0 then i else 0) (fun _ _ => rfl) (fun j hj => if_neg (by have : 1 ≤ j := hj; omega)) hp (i + 1) (by simpa [pureC, reput_nil, newL] using D)
noncomputable def cSeq (x : List Nat) (t : Tok) (y : List Nat) (u : Tok) (r : Bool) : Con := pureC (calB "str.__eq__" [.str ⟨⟨x⟩⟩ t, .str ⟨⟨y⟩⟩ u]) 0 (fun _ => .bool r) 900
theorem vSeq (x : List Nat) (t : Tok) (y : List Nat) (u : Tok) (r : Bool) (h : (x == y) = r) : Valid V (cSeq x t y u r) := by
  have z := vGv (V := V) (id := "str.__eq__") F.slot_str_eq (fun s => typeIs_str s ⟨⟨x⟩⟩ t) F.entry_str_eq (F.args_str_eq_2 _ _) (gives_str_eq ⟨⟨x⟩⟩ ⟨⟨y⟩⟩ t u)
  have e : ((⟨⟨x⟩⟩ : Str).cps.toList == (⟨⟨y⟩⟩ : Str).cps.toList) = r := h
  rw [e] at z
  exact z
noncomputable def cSne (x : List Nat) (t : Tok) (y : List Nat) (u : Tok) (r : Bool) : Con := pureC (calB "str.__ne__" [.str ⟨⟨x⟩⟩ t, .str ⟨⟨y⟩⟩ u]) 0 (fun _ => .bool r) 900
theorem vSne (x : List Nat) (t : Tok) (y : List Nat) (u : Tok) (r : Bool) (h : (x != y) = r) : Valid V (cSne x t y u r) := by
  have z := vGv (V := V) (id := "str.__ne__") F.slot_str_ne (fun s => typeIs_str s ⟨⟨x⟩⟩ t) F.entry_str_ne (F.args_str_ne_2 _ _) (gives_str_ne ⟨⟨x⟩⟩ ⟨⟨y⟩⟩ t u)
  have e : ((⟨⟨x⟩⟩ : Str).cps.toList != (⟨⟨y⟩⟩ : Str).cps.toList) = r := h
  rw [e] at z
  exact z
noncomputable def cScn (x : List Nat) (t : Tok) (y : List Nat) (u : Tok) (r : Bool) : Con := pureC (calB "str.__contains__" [.str ⟨⟨x⟩⟩ t, .str ⟨⟨y⟩⟩ u]) 0 (fun _ => .bool r) 900
theorem vScn (x : List Nat) (t : Tok) (y : List Nat) (u : Tok) (r : Bool) (h : (!(occurrences ⟨⟨x⟩⟩ ⟨⟨y⟩⟩ 0 x.length 1).isEmpty) = r) : Valid V (cScn x t y u r) := by
  have z := vGv (V := V) (id := "str.__contains__") F.slot_str_contains (fun s => typeIs_str s ⟨⟨x⟩⟩ t) F.entry_str_contains (F.args_str_contains_2 _ _) (gives_str_contains ⟨⟨x⟩⟩ ⟨⟨y⟩⟩ t u)
  have e : (!(occurrences ⟨⟨x⟩⟩ ⟨⟨y⟩⟩ 0 (⟨⟨x⟩⟩ : Str).length 1).isEmpty) = r := h
  rw [e] at z
  exact z
noncomputable def cCnt (x : List Nat) (t : Tok) (y : List Nat) (u : Tok) (n : Nat) : Con := pureC (calB "str.count" [.str ⟨⟨x⟩⟩ t, .str ⟨⟨y⟩⟩ u]) 1 (fun θ => .int (Int.ofNat n) (θ 0)) 900
theorem vCnt (x : List Nat) (t : Tok) (y : List Nat) (u : Tok) (n : Nat) (h : (occurrences ⟨⟨x⟩⟩ ⟨⟨y⟩⟩ 0 x.length (x.length + 1)).length = n) : Valid V (cCnt x t y u n) := by
  have z := vGi (V := V) (id := "str.count") F.slot_str_count (fun s => typeIs_str s ⟨⟨x⟩⟩ t) F.entry_str_count (F.args_str_count_2 _ _) (gives_str_count ⟨⟨x⟩⟩ ⟨⟨y⟩⟩ t u)
  have e : (occurrences ⟨⟨x⟩⟩ ⟨⟨y⟩⟩ 0 (⟨⟨x⟩⟩ : Str).length ((⟨⟨x⟩⟩ : Str).length + 1)).length = n := h
  rw [e] at z
  exact z
noncomputable def cMul (x : Int) (t : Tok) (y : Int) (u : Tok) (r : Int) : Con := pureC (calB "int.__mul__" [.int x t, .int y u]) 1 (fun θ => .int r (θ 0)) 900
theorem vMul (x : Int) (t : Tok) (y : Int) (u : Tok) (r : Int) (h : x * y = r) (hb : IntMulOk x y) : Valid V (cMul x t y u r) := by
  have z := vGi (V := V) (id := "int.__mul__") F.slot_int_mul (fun s => typeIs_int s x t) F.entry_int_mul (F.args_int_mul_2 _ _) (AutoIntG1.int___mul___int_int_0 x t y u hb)
  rw [h] at z
  exact z
noncomputable def cPow (x : Int) (t : Tok) (y : Int) (u : Tok) (r : Int) : Con := pureC (calB "int.__pow__" [.int x t, .int y u]) 1 (fun θ => .int r (θ 0)) 900
theorem vPow0 (x : Int) (t : Tok) (u : Tok) : Valid V (cPow x t (Int.ofNat 0) u (Int.ofNat 1)) :=
  vGi (V := V) (id := "int.__pow__") F.slot_int_pow (fun s => typeIs_int s x t) F.entry_int_pow (F.args_int_pow_2 _ _) (AutoIntG9.int___pow___int_int_0 x t (Int.ofNat 0) u (by decide) (by decide))
theorem vPow (t : Tok) (n : Nat) (u : Tok) (r : Int) (h : (4096 : Int) ^ (n + 1) = r) (hb : n < 100) : Valid V (cPow (Int.ofNat 4096) t (Int.ofNat (n + 1)) u r) := by
  have z := vGi (V := V) (id := "int.__pow__") F.slot_int_pow (fun s => typeIs_int s (Int.ofNat 4096) t) F.entry_int_pow (F.args_int_pow_2 _ _) (AutoIntG2.int___pow___int_int_4 (Int.ofNat 4096) t (Int.ofNat (n + 1)) u (by simp only [Int.ofNat_eq_natCast]; omega) (by simp only [Int.ofNat_eq_natCast, beq_iff_eq]; omega) (by decide +kernel) (by decide +kernel) (by
    have e : Builtin.Int.intBits (Int.ofNat 4096) = 13 := by decide +kernel
    rw [e]
    show ¬ decide (_ > _) = true
    have : (bitsLine : Int) > 10000 := by decide +kernel
    simp only [Int.ofNat_eq_natCast, decide_eq_true_eq]
    omega))
  have e : (Int.ofNat 4096) ^ (Int.ofNat (n + 1)).toNat = r := by rw [← h]; rfl
  rw [e] at z
  exact z
noncomputable def cIne (x : Int) (t : Tok) (y : Int) (u : Tok) (r : Bool) : Con := pureC (calB "int.__ne__" [.int x t, .int y u]) 0 (fun _ => .bool r) 900
theorem vIne (x : Int) (t : Tok) (y : Int) (u : Tok) (r : Bool) (h : (x != y) = r) : Valid V (cIne x t y u r) := by
  have z := vGv (V := V) (id := "int.__ne__") F.slot_int_ne (fun s => typeIs_int s x t) F.entry_int_ne (F.args_int_ne_2 _ _) (AutoIntG6.int___ne___int_int_0 x t y u)
  have e : ((fun x1 x2 => x1 != x2) x y) = r := h
  rw [e] at z
  exact z
noncomputable def cIadd (x : Int) (t : Tok) (y : Int) (u : Tok) (r : Int) : Con := pureC (calB "int.__add__" [.int x t, .int y u]) 1 (fun θ => .int r (θ 0)) 900
theorem vIadd (x : Int) (t : Tok) (y : Int) (u : Tok) (r : Int) (h : x + y = r) : Valid V (cIadd x t y u r) := by
  have z := vGi (V := V) (id := "int.__add__") F.slot_int_add (fun s => typeIs_int s x t) F.entry_int_add (F.args_int_add_2 _ _) (AutoIntG4.int___add___int_int_0 x t y u)
  rw [h] at z
  exact z
end
end Mine
namespace Mine
open PySem PySem.W PySem.W.X PySem.Spec PySem.Calls PyProof.Rows PySem.Builtin PySem.Builtin.Str PySem.Builtin.Int
section
variable {V : XV} {P : Params} {b : Bool} {scr : Obj}
theorem gBody {ch : Ch} {κ : Kont} {l : Lst} {id : String} {args : Args} {bi : Builtin} (hb : entryFor table id = some bi) (hp : plainId id = true)
    (h : ∀ h i, Mm V h ch l → wpAny (model V.prog V.w) (aroundOf V true κ).in1 (bi args) (fun fin s' => ∃ r, fin = .done (.ret r) ∧ endOf V κ (.ok (.ret r)) s') (fun e s' => endOf V κ (.error e) s') ⟨h, ⟨[]⟩, V.d, i, V.os⟩) : G V ch (.builtin id args) κ (dn (.builtin id args)) l := fun hp' i D => by
  rw [← dn_eq]
  have e : denote table (.builtin id args) = bi args := by
    show (match entryFor table id with | some b => b args | none => _) = _
    rw [hb]
  rw [e]
  refine wpOwn_of_wpAny ?_
  rw [Around.under_plainId hp]
  exact wpAny_mono (h hp' i D) (fun fin s' x => by obtain ⟨r, rfl, hq⟩ := x; exact hq) fun _ _ x => x
noncomputable def cLenB (a : Addr) (foot : Lst) (n : Nat) : Con := ⟨.builtin "len" ⟨[.ref a],[]⟩, foot, 0,1, fun _ _ => [], fun _ _ => [], fun _ θ => .ok (.ret (.int (Int.ofNat n) (θ 0))), 900⟩
theorem vLenB {a : Addr} {vs : List Value} {foot : Lst} {n : Nat} (hn : vs.length = n) (hf : vs.length < 1000000) (hl : ∀ h ch R, Mm V h ch (foot ++ R) → h.IsList a vs.toArray) : Valid V (cLenB a foot n) := by
  refine Valid0.call ?_
  intro ch κ R hR K
  refine gBody entry_len plain_len fun hp i D => wpAny_len_body_list (Q := fun r s' => endOf V κ (.ok (.ret r)) s') (hl hp ch R D) (by simp; omega) ?_
  have z := K (fun _ => 0) (fun j => if j = 0 then i + 1 else 0) (fun _ _ => rfl) (fun j hj => if_neg (by have : 1 ≤ j := hj; omega)) hp (i + 1 + 1) (by simpa [cLenB, reput_nil, newL] using D)
  have e : ((vs.toArray.size : Nat) : Int) = Int.ofNat n := by simp [hn]
  rw [e]
  exact z
noncomputable def stV (l : List (List Nat × Tok)) : List Value := l.map fun p => .str ⟨⟨p.1⟩⟩ p.2
theorem list_mem (P : Params) {a : Addr} {xs : List Value} {n : Nat} {h : Heap} {ch : Ch} {l : Lst} (D : Mm V h ch l) (hm : (a, lstO (nmZ P) xs n) ∈ l) : h.get? a = some { cls := .type "list", dict := none, data := .seq ⟨xs⟩ n, slots := #[] } := by
  have := (D.nw _ hm).1
  rw [lst_std] at this
  exact this
noncomputable def cLne (N : Nm) (a b : Addr) (xs ys : List (List Nat × Tok)) (n m : Nat) : Con := ⟨calB "list.__ne__" [.ref a, .ref b],[(a, lstO N (stV xs) n), (b, lstO N (stV ys) m)],0,0, fun _ _ => [], fun _ _ => [], fun _ _ => .ok (.ret (.bool false)), 900⟩
noncomputable def cLneR (N : Nm) (a b : Addr) (xs ys : List (List Nat × Tok)) (n m : Nat) : Con := ⟨calB "list.__ne__" [.ref a, .ref b],[(b, lstO N (stV ys) m), (a, lstO N (stV xs) n)],0,0, fun _ _ => [], fun _ _ => [], fun _ _ => .ok (.ret (.bool false)), 900⟩
theorem gLne {a b : Addr} {xs ys : List (List Nat × Tok)} {n m : Nat} (hxy : xs.map (·.1) = ys.map (·.1)) {A : Around} {Q : Value → Shared → Prop} {E : Value → Shared → Prop} {s : Shared}
    (ha : s.heap.get? a = some { cls := .type "list", dict := none, data := .seq ⟨stV xs⟩ n, slots := #[] }) (hb : s.heap.get? b = some { cls := .type "list", dict := none, data := .seq ⟨stV ys⟩ m, slots := #[] }) (h : Q (.bool false) s) :
    wpAny (model V.prog V.w) A (PySem.call (.builtin "list.__ne__") [.ref a, .ref b]) Q E s := by
  have hlen : xs.length = ys.length := by have := congrArg List.length hxy; simpa using this
  refine call_meets F.slot_list_ne ⟨_, ha, rfl⟩ F.entry_list_ne (F.args_list_ne_2 _ _) (PySem.SeqAt.list_neAt a b ⟨stV xs⟩ ⟨stV ys⟩ n m none none #[] #[] (by simp [stV, hlen]) (fun _ => true)) ⟨ha, hb, fun j h1 h2 => ?_, ?_⟩
  · have e1 : (⟨stV xs⟩ : Array Value)[j] = .str ⟨⟨(xs[j]'(by simpa [stV] using h1)).1⟩⟩ (xs[j]'(by simpa [stV] using h1)).2 := by simp [stV]
    have e2 : (⟨stV ys⟩ : Array Value)[j] = .str ⟨⟨(ys[j]'(by simpa [stV] using h2)).1⟩⟩ (ys[j]'(by simpa [stV] using h2)).2 := by simp [stV]
    rw [e1, e2]
    have e3 : (xs[j]'(by simpa [stV] using h1)).1 = (ys[j]'(by simpa [stV] using h2)).1 := by
      have := congrArg (fun l => l[j]?) hxy
      have h1' : j < xs.length := by simpa [stV] using h1
      have h2' : j < ys.length := by simpa [stV] using h2
      simpa [h1', h2'] using this
    rw [e3]
    have z := PySem.SeqAt.EqAt.str_str (A := A.in1) (s := s) (⟨⟨(ys[j]'(by simpa [stV] using h2)).1⟩⟩ : Str) (xs[j]'(by simpa [stV] using h1)).2 ⟨⟨(ys[j]'(by simpa [stV] using h2)).1⟩⟩ (ys[j]'(by simpa [stV] using h2)).2
    simpa using z
  · have e : (!(List.range (⟨stV xs⟩ : Array Value).size).all fun _ => true) = false := by simp
    rw [e]
    exact h
theorem vLne (P : Params) (a b : Addr) (xs ys : List (List Nat × Tok)) (n m : Nat) (hxy : xs.map (·.1) = ys.map (·.1)) : Valid V (cLne (nmZ P) a b xs ys n m) := by
  intro ch c κ R g lv k hR K
  refine gCallWp fun hp i D => gLne hxy (list_mem P D (List.mem_append_left _ List.mem_cons_self)) (list_mem P D (List.mem_append_left _ (List.mem_cons_of_mem _ List.mem_cons_self))) ?_
  exact K (fun _ => 0) (fun _ => 0) (fun _ _ => rfl) (fun _ _ => rfl) hp i (by simpa [cLne, reput_nil, newL] using D)
theorem vLneR (P : Params) (a b : Addr) (xs ys : List (List Nat × Tok)) (n m : Nat) (hxy : xs.map (·.1) = ys.map (·.1)) : Valid V (cLneR (nmZ P) a b xs ys n m) := by
  intro ch c κ R g lv k hR K
  refine gCallWp fun hp i D => gLne hxy (list_mem P D (List.mem_append_left _ (List.mem_cons_of_mem _ List.mem_cons_self))) (list_mem P D (List.mem_append_left _ List.mem_cons_self)) ?_
  exact K (fun _ => 0) (fun _ => 0) (fun _ _ => rfl) (fun _ _ => rfl) hp i (by simpa [cLneR, reput_nil, newL] using D)
noncomputable def cLneS (N : Nm) (a : Addr) (xs : List (List Nat × Tok)) (n : Nat) : Con := ⟨calB "list.__ne__" [.ref a, .ref a],[(a, lstO N (stV xs) n)],0,0, fun _ _ => [], fun _ _ => [], fun _ _ => .ok (.ret (.bool false)), 900⟩
theorem vLneS (P : Params) (a : Addr) (xs : List (List Nat × Tok)) (n : Nat) : Valid V (cLneS (nmZ P) a xs n) := by
  intro ch c κ R g lv k hR K
  refine gCallWp fun hp i D => gLne rfl (list_mem P D (List.mem_append_left _ List.mem_cons_self)) (list_mem P D (List.mem_append_left _ List.mem_cons_self)) ?_
  exact K (fun _ => 0) (fun _ => 0) (fun _ _ => rfl) (fun _ _ => rfl) hp i (by simpa [cLneS, reput_nil, newL] using D)
noncomputable def cFix (N : Nm) (a : Addr) (f : UInt64 × UInt64 × UInt64) (t0 t1 t2 : Tok) (n : Nat) (x : UInt64) (t : Tok) (j : Nat) : Con := ⟨calB "list.index" [.ref a, .float x t],[(a, lstO N [.float f.1 t0, .float f.2.1 t1, .float f.2.2 t2] n)],0,1, fun _ _ => [], fun _ _ => [], fun _ θ => .ok (.ret (.int (Int.ofNat j) (θ 0))), 900⟩
theorem vFix (P : Params) (a : Addr) (f : UInt64 × UInt64 × UInt64) (t0 t1 t2 : Tok) (n : Nat) (x : UInt64) (t : Tok) (j : Nat) (hj : j < 3) (e : UInt64 → Bool)
    (hit : e ([f.1, f.2.1, f.2.2].getD j 0) = true) (hno : ∀ m, m < j → e ([f.1, f.2.1, f.2.2].getD m 0) = false) (he : ∀ y u (A : Around) (s : Shared), y ∈ [f.1, f.2.1, f.2.2] → PySem.SeqAt.EqAt A s (.float y u) (.float x t) (e y)) : Valid V (cFix (nmZ P) a f t0 t1 t2 n x t j) := by
  intro ch c κ R g lv k hR K
  refine gCallWp fun hp i D => ?_
  have hd := list_mem P D (a := a) (xs := [.float f.1 t0, .float f.2.1 t1, .float f.2.2 t2]) (n := n) (List.mem_append_left _ List.mem_cons_self)
  refine call_meets F.slot_list_index ⟨_, hd, rfl⟩ F.entry_list_index (F.args_list_index_2 _ _) (PySem.SeqAt.list_indexAt a ⟨[.float f.1 t0, .float f.2.1 t1, .float f.2.2 t2]⟩ n none #[] (.float x t) (fun v => match v with | .float y _ => e y | _ => false) j (by show j < 3; exact hj) (by omega) ?_ ?_) ⟨hd, ?_, ?_⟩
  · match j, hj with
    | 0, _ => exact hit
    | 1, _ => exact hit
    | 2, _ => exact hit
  · intro m hm hmj
    have z := hno m hmj
    match m, (by omega : m < 3) with
    | 0, _ => exact z
    | 1, _ => exact z
    | 2, _ => exact z
  · intro y hy
    have hy' : y ∈ [Value.float f.1 t0, .float f.2.1 t1, .float f.2.2 t2] := by simpa using hy
    simp only [List.mem_cons, List.not_mem_nil, or_false] at hy'
    rcases hy' with rfl | rfl | rfl
    · exact he _ _ _ _ (by simp)
    · exact he _ _ _ _ (by simp)
    · exact he _ _ _ _ (by simp)
  · exact K (fun _ => 0) (fun q => if q = 0 then i else 0) (fun _ _ => rfl) (fun q hq => if_neg (by have : 1 ≤ q := hq; omega)) hp (i + 1) (by simpa [cFix, reput_nil, newL] using D)
noncomputable def catS (l : List (List Nat × Tok)) : List Nat := (l.map (·.1)).flatten
noncomputable def cJn (N : Nm) (sep : List Nat) (t : Tok) (a : Addr) (l : List (List Nat × Tok)) (n : Nat) (r : List Nat) : Con := ⟨calB "str.join" [.str ⟨⟨sep⟩⟩ t, .ref a],[(a, lstO N (stV l) n)],0,1, fun _ _ => [], fun _ _ => [], fun _ θ => .ok (.ret (.str ⟨⟨r⟩⟩ (θ 0))), 900⟩
noncomputable def toSS (l : List (List Nat × Tok)) : List (Str × Tok) := l.map fun p => (⟨⟨p.1⟩⟩, p.2)
theorem toSS_val (l : List (List Nat × Tok)) : strValues (toSS l) = stV l := by simp [strValues, toSS, stV]
theorem vJn (P : Params) (sep : List Nat) (t : Tok) (a : Addr) (l : List (List Nat × Tok)) (n : Nat) (r : List Nat) (hl : tooLong (((toSS l).map (·.1)).toArray.foldl (· + ·.length + sep.length) 0) = false)
    (hr : glued ⟨⟨sep⟩⟩ ((toSS l).map (·.1)) = ⟨⟨r⟩⟩) (hs : r.length ≤ 100000) : Valid V (cJn (nmZ P) sep t a l n r) := by
  intro ch c κ R g lv k hR K
  refine gCallWp fun hp i D => ?_
  have hd := list_mem P D (a := a) (xs := stV l) (n := n) (by simp [cJn])
  have D' : Mm V hp ch ((reput (cJn (nmZ P) sep t a l n r).foot ((cJn (nmZ P) sep t a l n r).post (fun _ => 0) (fun _ => 0)) ++ newL (fun _ => 0) 0 ((cJn (nmZ P) sep t a l n r).new (fun _ => 0) (fun _ => 0))) ++ R) := by simpa [cJn, reput_nil, newL] using D
  have hI : hp.IsList a (strValues (toSS l)).toArray := ⟨_, hd, rfl, n, by rw [toSS_val]⟩
  refine call_meets F.slot_str_join (typeIs_str _ ⟨⟨sep⟩⟩ t) F.entry_str_join (F.args_str_join_2 _ _) (meets_str_join_list ⟨⟨sep⟩⟩ t a (toSS l) hl) ⟨hI, ?_⟩
  have fin : ∀ tk s', s' = (⟨hp, ⟨[]⟩, V.d, s', V.os⟩ : Shared).toks → Means V c none κ (k (.ok (.ret (.str ⟨⟨r⟩⟩ tk)))) ⟨hp, ⟨[]⟩, V.d, s', V.os⟩ := fun tk s' _ =>
    K (fun _ => 0) (fun j => if j = 0 then tk else 0) (fun _ _ => rfl) (fun j hj => if_neg (by have : 1 ≤ j := hj; omega)) hp s' (by simpa [cJn, reput_nil, newL] using D)
  unfold joinMade
  split
  · rename_i p e
    have er : p.1 = ⟨⟨r⟩⟩ := by
      rw [e] at hr
      exact hr
    show Means V c none κ (k (.ok (.ret (.str p.1 p.2)))) _
    rw [er]
    exact fin p.2 i rfl
  · rw [hr]
    exact ⟨by show r.length ≤ sizeLine; rw [sizeLine_eq]; omega, fin i (i + 1) rfl⟩
noncomputable def stF (tk : Tok) : List (List Nat) → List (List Nat × Tok)
  | [] => []
  | x :: xs => (x, tk) :: stF (tk + 1) xs
noncomputable def cSpl (N : Nm) (x : List Nat) (t : Tok) (y : List Nat) (u : Tok) (ps : List (List Nat)) : Con := ⟨calB "str.split" [.str ⟨⟨x⟩⟩ t, .str ⟨⟨y⟩⟩ u],[],1,1, fun _ _ => [], fun _ θ => [lstO N (stV (stF (θ 0) ps)) 0], fun α _ => .ok (.ret (.ref (α 0))), 900⟩
theorem stF_val (tk : Tok) (ps : List (List Nat)) : stV (stF tk ps) = strsFrom tk (ps.map fun p => ⟨⟨p⟩⟩) := by
  induction ps generalizing tk with
  | nil => rfl
  | cons p ps ih => show _ :: stV (stF (tk + 1) ps) = _ :: strsFrom (tk + 1) _; rw [ih]
theorem vSpl (P : Params) (x : List Nat) (t : Tok) (y : List Nat) (u : Tok) (ps : List (List Nat)) (hy : y ≠ []) (hx : x.length ≤ 100000) (hn : ps.length ≤ 100000)
    (h0 : occurrences ⟨⟨x⟩⟩ ⟨⟨y⟩⟩ 0 x.length (x.length + 1) = [] → ps = [x])
    (h1 : occurrences ⟨⟨x⟩⟩ ⟨⟨y⟩⟩ 0 x.length (x.length + 1) ≠ [] → (decide (x.length < y.length) || decide (strKind ⟨⟨x⟩⟩ < strKind ⟨⟨y⟩⟩)) = false ∧ partsBetween ⟨⟨x⟩⟩ (occurrences ⟨⟨x⟩⟩ ⟨⟨y⟩⟩ 0 x.length (x.length + 1)) y.length = ps.map fun p => ⟨⟨p⟩⟩) :
    Valid V (cSpl (nmZ P) x t y u ps) := by
  intro ch c κ R g lv k hR K
  refine gCallWp fun hp i D => ?_
  have hsl : (100000 : Nat) ≤ sizeLine := by rw [sizeLine_eq]; omega
  have fin : ∀ tk i', Means V c none κ (k (.ok (.ret (.ref hp.objs.size)))) ⟨hp.push { cls := .type "list", data := .seq (strsFrom tk (ps.map fun p => ⟨⟨p⟩⟩)).toArray }, ⟨[]⟩, V.d, i', V.os⟩ := fun tk i' => by
    have D' := Mm.alloc (l := []) (R := R) (o := lstO (nmZ P) (stV (stF tk ps)) 0) D rfl
    have z := K (fun j => if j = 0 then hp.objs.size else 0) (fun j => if j = 0 then tk else 0) (fun j hj => if_neg (by have : 1 ≤ j := hj; omega)) (fun j hj => if_neg (by have : 1 ≤ j := hj; omega)) _ i' (by simpa [cSpl, reput_nil, newL] using D')
    rw [lst_std, stF_val] at z
    exact z
  have hyl : ((⟨⟨y⟩⟩ : Str).length == 0) = false := by
    rw [beq_eq_false_iff_ne]; intro e; apply hy; exact List.length_eq_zero_iff.mp e
  by_cases hc : (decide (x.length < y.length) || decide (strKind ⟨⟨x⟩⟩ < strKind ⟨⟨y⟩⟩)) = true
  · have ho : occurrences ⟨⟨x⟩⟩ ⟨⟨y⟩⟩ 0 x.length (x.length + 1) = [] := by
      apply Classical.byContradiction
      intro hne
      rw [(h1 hne).1] at hc
      cases hc
    refine call_meets F.slot_str_split (typeIs_str _ ⟨⟨x⟩⟩ t) F.entry_str_split (F.args_str_split_2 _ _) (meets_str_split_cannot_occur ⟨⟨x⟩⟩ ⟨⟨y⟩⟩ t u hc) ?_
    have z := fin t i
    rw [h0 ho] at z
    exact z
  · have hc' : (decide (x.length < y.length) || decide (strKind ⟨⟨x⟩⟩ < strKind ⟨⟨y⟩⟩)) = false := by simpa using hc
    by_cases ho : occurrences ⟨⟨x⟩⟩ ⟨⟨y⟩⟩ 0 x.length (x.length + 1) = []
    · refine call_meets F.slot_str_split (typeIs_str _ ⟨⟨x⟩⟩ t) F.entry_str_split (F.args_str_split_2 _ _) (meets_str_split_not_found ⟨⟨x⟩⟩ ⟨⟨y⟩⟩ t u hc' hyl (by show List.isEmpty (occurrences ⟨⟨x⟩⟩ ⟨⟨y⟩⟩ 0 x.length (x.length + 1)) = true; rw [ho]; rfl)) ?_
      have z := fin t i
      rw [h0 ho] at z
      exact z
    · have hp1 : partsBetween ⟨⟨x⟩⟩ (occurrences ⟨⟨x⟩⟩ ⟨⟨y⟩⟩ 0 (⟨⟨x⟩⟩ : Str).length ((⟨⟨x⟩⟩ : Str).length + 1)) (⟨⟨y⟩⟩ : Str).length = ps.map fun p => ⟨⟨p⟩⟩ := (h1 ho).2
      have g := meets_str_split_sep ⟨⟨x⟩⟩ ⟨⟨y⟩⟩ t u hc' hyl (by
        cases q : occurrences ⟨⟨x⟩⟩ ⟨⟨y⟩⟩ 0 (⟨⟨x⟩⟩ : Str).length ((⟨⟨x⟩⟩ : Str).length + 1) with
        | nil => exact absurd q ho
        | cons a l => rfl) (Nat.le_trans hx hsl) (by rw [hp1, List.length_map]; exact Nat.le_trans hn hsl)
      rw [hp1] at g
      refine call_meets F.slot_str_split (typeIs_str _ ⟨⟨x⟩⟩ t) F.entry_str_split (F.args_str_split_2 _ _) g ?_
      exact fin i _
end
end Mine
namespace Mine
open PySem PySem.W PySem.W.X PySem.Spec PySem.Calls PyProof.Rows PySem.Builtin PySem.Builtin.Str PySem.Builtin.Int
section
variable {V : XV} {P : Params} {b : Bool} {scr : Obj}
noncomputable def cSet (N : Nm) (d : Addr) (es : List (List Nat × Tok × Value)) (n : Nat) (k : List Nat) (t : Tok) (v : Value) : Con := ⟨calB "dict.__setitem__" [.ref d, .str ⟨⟨k⟩⟩ t, v],[(d, dctO N es n)],0,0, fun _ _ => [dctO N (es ++ [(k, t, v)]) (n + 1)], fun _ _ => [], fun _ _ => .ok (.ret .none), 900⟩
theorem ents_app (N : Nm) (es es' : List (List Nat × Tok × Value)) : ents N (es ++ es') = ents N es ++ ents N es' := by
  induction es with
  | nil => rfl
  | cons e es ih => show ent N e :: ents N (es ++ es') = _ :: _; rw [ih]; rfl
theorem ents_len (N : Nm) (es : List (List Nat × Tok × Value)) : (ents N es).length = es.length := by
  induction es with
  | nil => rfl
  | cons e es ih => show (ents N es).length + 1 = _; rw [ih]; rfl
theorem vSet (O : VO V P b scr) (d : Addr) (es : List (List Nat × Tok × Value)) (n : Nat) (k : List Nat) (t : Tok) (v : Value) (hk : k ≠ []) (hne : ∀ e ∈ es, e.1 ≠ []) (hz : es.length ≤ 100000) (hv : lk es k = none) : Valid V (cSet (nmZ P) d es n k t v) := by
  intro ch c κ R g lv k' hR K
  refine gCallWp fun hp i D => ?_
  have hd := (D.nw (d, dctO (nmZ P) es n) (List.mem_append_left _ List.mem_cons_self)).1
  have hm := O.mapOf hd hne
  refine wpAny_call_entry F.slot_dict_setitem hm.typeIs F.entry_dict_setitem ?_ (F.args_dict_setitem_3 _ _ _)
  show wpAny _ _ (Builtin.Dict.notOrdered "__setitem__" ⟨[.ref d, .str ⟨⟨k⟩⟩ t, v],[]⟩ >>= _) _ _ _
  refine wpAny_bind (wpAny_notOrdered_dict hm.typeIs ?_)
  show wpAny _ _ (dictSet d (.str ⟨⟨k⟩⟩ t) v >>= _) _ _ _
  have hkey : (PySem.strKind V.prog V.w).is (⟨⟨k⟩⟩ : Str) (.str ⟨⟨k⟩⟩ t) = true := isS k t
  have hf0 : (ents (nmZ P) es).toArray.findIdx? (fun e => (PySem.strKind V.prog V.w).is (⟨⟨k⟩⟩ : Str) e.key) = none := by
    have z := ents_find (nmZ P) es k
    rw [hv] at z
    unfold findBy at z
    simp only [Option.map_eq_none_iff] at z
    rw [show (⟨ents (nmZ P) es⟩ : Array DictEntry) = (ents (nmZ P) es).toArray from rfl] at z
    simp only [List.find?_toArray, List.find?_eq_none] at z
    simp only [List.findIdx?_toArray, List.findIdx?_eq_none_iff]
    intro x hx
    have := z x hx
    show Value.isStrOf (⟨⟨k⟩⟩ : Str) x.key = false
    simpa using this
  have hks : KeysOf (PySem.strKind V.prog V.w) (ents (nmZ P) es).toArray := by
    intro x hx
    have hx' : x ∈ ents (nmZ P) es := by simpa using hx
    obtain ⟨e, he, rfl⟩ := ents_mem hx'
    refine ⟨⟨⟨e.1⟩⟩, ?_, ?_⟩
    · show Value.isStrOf (⟨⟨e.1⟩⟩ : Str) (.str ⟨⟨e.1⟩⟩ e.2.1) = true
      unfold Value.isStrOf; simp
    · show ZFast.zw12210062019545310541 (P.strHash ⟨e.1⟩) = hashStr V.w ⟨⟨e.1⟩⟩
      unfold hashStr
      rw [if_neg (by have := hne e he; cases q : e.1 with | nil => exact absurd q this | cons a r => simp), O.hash, ← ZFast.ze12210062019545310541]
  unfold dictSet
  refine wpAny_bind (wpAny_holding (wpAny_bind ((PySem.strKind V.prog V.w).pyHash hkey ?_)))
  unfold dictSetHashed
  refine wpAny_holding (wpAny_bind (wpAny_dictFind_of (s := ⟨hp, ⟨[]⟩, V.d, i + 1, V.os⟩) hkey hd rfl hks ?_))
  rw [hf0]
  refine wpAny_bind (wpAny_rule (wpAny_updateDictKeys (s := ⟨hp, ⟨[]⟩, V.d, i + 1, V.os⟩) hd rfl ?_ (by
    show (ents (nmZ P) es).toArray.size ≤ sizeLine
    rw [sizeLine_eq]; simp [ents_len]; omega) (Nat.le_of_eq (Array.size_push ..))))
  refine wpAny_pure ⟨_, rfl, ?_⟩
  have hh : (PySem.strKind V.prog V.w).hash (⟨⟨k⟩⟩ : Str) = (nmZ P).rh ((nmZ P).sh ⟨k⟩) := by
    show hashStr V.w ⟨⟨k⟩⟩ = ZFast.zw12210062019545310541 (P.strHash ⟨k⟩)
    unfold hashStr
    rw [if_neg (by cases q : k with | nil => exact absurd q hk | cons a r => simp), O.hash, ← ZFast.ze12210062019545310541]
  rw [hh]
  have hfo : Obj.mapDictKeys (fun x => x.push ⟨(nmZ P).rh ((nmZ P).sh ⟨k⟩), .str ⟨⟨k⟩⟩ t, v⟩) (dctO (nmZ P) es n) = dctO (nmZ P) (es ++ [(k, t, v)]) (n + 1) := by
    unfold dctO
    rw [ents_app]
    simp [Obj.mapDictKeys, ents, ent]
  have D' := Mm.update (l := [(d, dctO (nmZ P) es n)]) (R := R) (j := 0) (f := Obj.mapDictKeys (fun x => x.push ⟨(nmZ P).rh ((nmZ P).sh ⟨k⟩), .str ⟨⟨k⟩⟩ t, v⟩)) D rfl (by rw [hfo]; rfl)
  rw [hfo] at D'
  exact K (fun _ => 0) (fun _ => 0) (fun _ _ => rfl) (fun _ _ => rfl) _ _ D'
end
end Mine
namespace Mine
open PySem PySem.W PySem.W.X PySem.Spec PySem.Calls PyProof.Rows

noncomputable def hsS0 : List Nat := (hsD 69 786582311890643711844181979160482848692560161931331313602299434032489431413415940907477340948004292098311117781729125289064833256230818458648576)
noncomputable def hsS1 : List Nat := (hsD 71 12887364598016306574855077546565350992978905693082932242060202228767567027279405895797531070787042861239863882786948268437698308437358272562824495104)
noncomputable def hsS2 : List Nat := (hsD 73 211146581573899166922425590522926710668966390875470761853914353444429397435128788195866718486091605179093430990110411528362950745518045210212252854009856)
noncomputable def hsS3 : List Nat := (hsD 191 330695676842948331546325130317254564793026170874598408096471212344709765067251261506219958497716662741404434079661101807916644816156453327854494163939926492067412303053814836622707989107236029644067728277159899299429554507335823532534996016413161876769705313798590240875739656679263608289776736993540842267912010484930869990550981606827047060838419681035355820916439662872124550068649226303438432796672)
noncomputable def hsS4 : List Nat := (hsD 193 5418117969394865464054990935117898789568940783609420318252584343055724790861844668517907800026589802355170247878779194336961229766957547172120867886325443917191247721728217524826978011757725002493309708414247633993991983731006090657666491398261495740042504411353673172837155393355373255472728194200956093490396623395174651560322250239980464231874544974464820253830087984589096689890802087360600431375974400)
noncomputable def hsS5 : List Nat := (hsD 193 5418117969394865464054990935117898789568940783609420318252584343055724790861844668517907800026589802355170247878779194336961229766957547172120867886325443917191247721728217524826978011757725002493309708414247633993991983731006090657666491398261509910701073926765780715229939124126514043493922724654308379295570383707023259720389541929120633329776448796192175769190627652233896431393588985753232246801727488)
noncomputable def hsS6 : List Nat := (hsD 192 42329046635897386437929616680608584293507349871948596236348315180122849928608161472796154687707732830899767561557952057119182638011050955023924365421005848904084573291143199152717231585801788652127444306627679738823819856331240178464494761439566198878125082346771321472960065994239355007275268967902727143145118111245365174544949852910747691784548182687998653534410817326880783381834003195306609337204736)
noncomputable def hsS7 : List Nat := (hsD 194 693519100082542779399038839695091045064824420302005800736330795911132773230316117570292198403403494701461791728483098206156743262272109062960529638562093516715680413350584690159719652620001275169260951568109164684761602688813855041862895288091200853970249001719578901679306758107939910736451032905417064447062541378254130297379593357683416307385135302080551489991721971631706962989534361515508552529197694976)
noncomputable def hsS8 : List Nat := (hsD 194 693519100082542779399038839695091045064824420302005800736330795911132773230316117570292198403403494701461791728483098206156743262272109062960529638562093516715680413350584690159719652620001275169260951568109164684761602688813855041862895288091200868140907571234991009221699541838711051524472227435870416732867715138565978905539660649372556476483037205902278845507082511299351762731037148413901184344623448064)
noncomputable def spotT : List (UInt64 × UInt64 × UInt64) := [(4607182418800017408,0,0), (0,4607182418800017408,0), (0,0,4607182418800017408), (4607182418800017408,4602678819172646912,4602678819172646912), (4602678819172646912,4607182418800017408,4602678819172646912), (4602678819172646912,4602678819172646912,4607182418800017408), (4607182418800017408,4604930618986332160,4604930618986332160), (4604930618986332160,4607182418800017408,4604930618986332160), (4604930618986332160,4604930618986332160,4607182418800017408), (4602678819172646912,0,0), (0,4602678819172646912,0), (0,0,4602678819172646912), (4602678819172646912,4598175219545276416,4598175219545276416), (4598175219545276416,4602678819172646912,4598175219545276416), (4598175219545276416,4598175219545276416,4602678819172646912), (4602678819172646912,4600427019358961664,4600427019358961664), (4600427019358961664,4602678819172646912,4600427019358961664), (4600427019358961664,4600427019358961664,4602678819172646912), (4598175219545276416,0,0), (0,4598175219545276416,0), (0,0,4598175219545276416), (4598175219545276416,4593671619917905920,4593671619917905920), (4593671619917905920,4598175219545276416,4593671619917905920), (4593671619917905920,4593671619917905920,4598175219545276416), (4598175219545276416,4595923419731591168,4595923419731591168), (4595923419731591168,4598175219545276416,4595923419731591168), (4595923419731591168,4595923419731591168,4598175219545276416)]
noncomputable def spotF (x : Int) : UInt64 × UInt64 × UInt64 := spotT.getD (x.fmod 27).toNat (0,0,0)
noncomputable def cSpotL (N : Nm) (x : Int) (t : Tok) (f : UInt64 × UInt64 × UInt64) : Con := ⟨.call (.ref 126) ⟨[.int x t],[]⟩, [],1,3, fun _ _ => [], fun _ θ => [tupO N [.float f.1 (θ 0), .float f.2.1 (θ 1), .float f.2.2 (θ 2)]], fun α _ => .ok (.ret (.ref (α 0))), 700⟩
noncomputable def cHueL (N : Nm) (a : Addr) (f : UInt64 × UInt64 × UInt64) (t0 t1 t2 : Tok) (r : Int) : Con := ⟨.call (.ref 133) ⟨[.ref a],[]⟩, [(a, tupO N [.float f.1 t0, .float f.2.1 t1, .float f.2.2 t2])],0,1, fun _ _ => [], fun _ _ => [], fun _ θ => .ok (.ret (.int r (θ 0))), 700⟩
section
variable {V : XV} {P : Params} {b : Bool} {scr : Obj}
noncomputable def spTape (O : VO V P b scr) (x : Int) (t : Tok) (a s v d : Nat) (h1 : x.fmod 3 = Int.ofNat a) (h2 : (x.fdiv 3).fmod 3 = Int.ofNat s) (h3 : (x.fdiv 9).fmod 3 = Int.ofNat v) (h4 : (x.fdiv 27).fmod 3 = Int.ofNat d)
    (fb : UInt64) (m : Nat) (e : Int) (i : Nat) (hd : Float64.decode fb = .fin false m e) (hi : Float64.truncOf false m e = Int.ofNat i) (j : Nat) (hj : (Int.ofNat i).fmod 6 = Int.ofNat j) : List (Nat × List Bool × (Ora → VCon V)) :=
  [(0,[], fun w => ⟨_, vDiv O x t 2 (w.t 4) (x.fdiv 3) rfl (PyProof.noPylong_small (by decide +kernel))⟩), (0,[], fun w => ⟨_, vMod O (x.fdiv 3) (w.t 5) 2 (w.t 6) (Int.ofNat s) h2⟩),
   (2,[], fun w => ⟨_, vDiv O x t 8 (w.t 12) (x.fdiv 9) rfl (PyProof.noPylong_small (by decide +kernel))⟩), (0,[], fun w => ⟨_, vMod O (x.fdiv 9) (w.t 13) 2 (w.t 14) (Int.ofNat v) h3⟩),
   (2,[], fun w => ⟨_, vMod O x t 2 (w.t 17) (Int.ofNat a) h1⟩), (2,[], fun w => ⟨_, vDiv O x t 26 (w.t 21) (x.fdiv 27) rfl (PyProof.noPylong_small (by decide +kernel))⟩), (0,[], fun w => ⟨_, vMod O (x.fdiv 27) (w.t 22) 2 (w.t 23) (Int.ofNat d) h4⟩),
   (6,[], fun w => ⟨_, vInt O fb (w.t 31) false m e (Int.ofNat i) hd hi⟩), (12,[], fun w => ⟨_, vMod O (Int.ofNat i) (w.t 32) 5 (w.t 54) (Int.ofNat j) hj⟩)]

theorem vSpot0 (O : VO V P b scr) (x : Int) (t : Tok) (h1 : x.fmod 3 = Int.ofNat 0) (h2 : (x.fdiv 3).fmod 3 = Int.ofNat 0) (h3 : (x.fdiv 9).fmod 3 = Int.ofNat 0) (h4 : (x.fdiv 27).fmod 3 = Int.ofNat 0) : Valid V (cSpotL (nmZ P) x t (4607182418800017408,0,0)) :=
  valid_of O _ 314 hsS0 (spTape O x t 0 0 0 0 h1 h2 h3 h4 0 0 (Int.negSucc 1073) 0 (by kernel_rfl) (by kernel_rfl) 0 (by kernel_rfl)) [false, false, false, false, true] (fun w => [w.a 4]) (fun w => [(w.t 9), (w.t 52), (w.t 40)]) (fun _ => rfl) (fun _ => rfl) (fun ch κ w => by kernel_rfl)
theorem vSpot1 (O : VO V P b scr) (x : Int) (t : Tok) (h1 : x.fmod 3 = Int.ofNat 1) (h2 : (x.fdiv 3).fmod 3 = Int.ofNat 0) (h3 : (x.fdiv 9).fmod 3 = Int.ofNat 0) (h4 : (x.fdiv 27).fmod 3 = Int.ofNat 0) : Valid V (cSpotL (nmZ P) x t (0,4607182418800017408,0)) :=
  valid_of O _ 332 hsS1 (spTape O x t 1 0 0 0 h1 h2 h3 h4 4611686018427387904 4503599627370496 (Int.negSucc 50) 2 (by kernel_rfl) (by kernel_rfl) 2 (by kernel_rfl)) [false, false, false, false, true] (fun w => [w.a 4]) (fun w => [(w.t 40), (w.t 9), (w.t 52)]) (fun _ => rfl) (fun _ => rfl) (fun ch κ w => by kernel_rfl)
theorem vSpot2 (O : VO V P b scr) (x : Int) (t : Tok) (h1 : x.fmod 3 = Int.ofNat 2) (h2 : (x.fdiv 3).fmod 3 = Int.ofNat 0) (h3 : (x.fdiv 9).fmod 3 = Int.ofNat 0) (h4 : (x.fdiv 27).fmod 3 = Int.ofNat 0) : Valid V (cSpotL (nmZ P) x t (0,0,4607182418800017408)) :=
  valid_of O _ 350 hsS2 (spTape O x t 2 0 0 0 h1 h2 h3 h4 4616189618054758400 4503599627370496 (Int.negSucc 49) 4 (by kernel_rfl) (by kernel_rfl) 4 (by kernel_rfl)) [false, false, false, false, true] (fun w => [w.a 4]) (fun w => [(w.t 52), (w.t 40), (w.t 9)]) (fun _ => rfl) (fun _ => rfl) (fun ch κ w => by kernel_rfl)
theorem vSpot3 (O : VO V P b scr) (x : Int) (t : Tok) (h1 : x.fmod 3 = Int.ofNat 0) (h2 : (x.fdiv 3).fmod 3 = Int.ofNat 1) (h3 : (x.fdiv 9).fmod 3 = Int.ofNat 0) (h4 : (x.fdiv 27).fmod 3 = Int.ofNat 0) : Valid V (cSpotL (nmZ P) x t (4607182418800017408,4602678819172646912,4602678819172646912)) :=
  valid_of O _ 314 hsS0 (spTape O x t 0 1 0 0 h1 h2 h3 h4 0 0 (Int.negSucc 1073) 0 (by kernel_rfl) (by kernel_rfl) 0 (by kernel_rfl)) [false, false, false, false, true] (fun w => [w.a 4]) (fun w => [(w.t 9), (w.t 52), (w.t 40)]) (fun _ => rfl) (fun _ => rfl) (fun ch κ w => by kernel_rfl)
theorem vSpot4 (O : VO V P b scr) (x : Int) (t : Tok) (h1 : x.fmod 3 = Int.ofNat 1) (h2 : (x.fdiv 3).fmod 3 = Int.ofNat 1) (h3 : (x.fdiv 9).fmod 3 = Int.ofNat 0) (h4 : (x.fdiv 27).fmod 3 = Int.ofNat 0) : Valid V (cSpotL (nmZ P) x t (4602678819172646912,4607182418800017408,4602678819172646912)) :=
  valid_of O _ 332 hsS1 (spTape O x t 1 1 0 0 h1 h2 h3 h4 4611686018427387904 4503599627370496 (Int.negSucc 50) 2 (by kernel_rfl) (by kernel_rfl) 2 (by kernel_rfl)) [false, false, false, false, true] (fun w => [w.a 4]) (fun w => [(w.t 40), (w.t 9), (w.t 52)]) (fun _ => rfl) (fun _ => rfl) (fun ch κ w => by kernel_rfl)
theorem vSpot5 (O : VO V P b scr) (x : Int) (t : Tok) (h1 : x.fmod 3 = Int.ofNat 2) (h2 : (x.fdiv 3).fmod 3 = Int.ofNat 1) (h3 : (x.fdiv 9).fmod 3 = Int.ofNat 0) (h4 : (x.fdiv 27).fmod 3 = Int.ofNat 0) : Valid V (cSpotL (nmZ P) x t (4602678819172646912,4602678819172646912,4607182418800017408)) :=
  valid_of O _ 350 hsS2 (spTape O x t 2 1 0 0 h1 h2 h3 h4 4616189618054758400 4503599627370496 (Int.negSucc 49) 4 (by kernel_rfl) (by kernel_rfl) 4 (by kernel_rfl)) [false, false, false, false, true] (fun w => [w.a 4]) (fun w => [(w.t 52), (w.t 40), (w.t 9)]) (fun _ => rfl) (fun _ => rfl) (fun ch κ w => by kernel_rfl)
theorem vSpot6 (O : VO V P b scr) (x : Int) (t : Tok) (h1 : x.fmod 3 = Int.ofNat 0) (h2 : (x.fdiv 3).fmod 3 = Int.ofNat 2) (h3 : (x.fdiv 9).fmod 3 = Int.ofNat 0) (h4 : (x.fdiv 27).fmod 3 = Int.ofNat 0) : Valid V (cSpotL (nmZ P) x t (4607182418800017408,4604930618986332160,4604930618986332160)) :=
  valid_of O _ 314 hsS0 (spTape O x t 0 2 0 0 h1 h2 h3 h4 0 0 (Int.negSucc 1073) 0 (by kernel_rfl) (by kernel_rfl) 0 (by kernel_rfl)) [false, false, false, false, true] (fun w => [w.a 4]) (fun w => [(w.t 9), (w.t 52), (w.t 40)]) (fun _ => rfl) (fun _ => rfl) (fun ch κ w => by kernel_rfl)
theorem vSpot7 (O : VO V P b scr) (x : Int) (t : Tok) (h1 : x.fmod 3 = Int.ofNat 1) (h2 : (x.fdiv 3).fmod 3 = Int.ofNat 2) (h3 : (x.fdiv 9).fmod 3 = Int.ofNat 0) (h4 : (x.fdiv 27).fmod 3 = Int.ofNat 0) : Valid V (cSpotL (nmZ P) x t (4604930618986332160,4607182418800017408,4604930618986332160)) :=
  valid_of O _ 332 hsS1 (spTape O x t 1 2 0 0 h1 h2 h3 h4 4611686018427387904 4503599627370496 (Int.negSucc 50) 2 (by kernel_rfl) (by kernel_rfl) 2 (by kernel_rfl)) [false, false, false, false, true] (fun w => [w.a 4]) (fun w => [(w.t 40), (w.t 9), (w.t 52)]) (fun _ => rfl) (fun _ => rfl) (fun ch κ w => by kernel_rfl)
theorem vSpot8 (O : VO V P b scr) (x : Int) (t : Tok) (h1 : x.fmod 3 = Int.ofNat 2) (h2 : (x.fdiv 3).fmod 3 = Int.ofNat 2) (h3 : (x.fdiv 9).fmod 3 = Int.ofNat 0) (h4 : (x.fdiv 27).fmod 3 = Int.ofNat 0) : Valid V (cSpotL (nmZ P) x t (4604930618986332160,4604930618986332160,4607182418800017408)) :=
  valid_of O _ 350 hsS2 (spTape O x t 2 2 0 0 h1 h2 h3 h4 4616189618054758400 4503599627370496 (Int.negSucc 49) 4 (by kernel_rfl) (by kernel_rfl) 4 (by kernel_rfl)) [false, false, false, false, true] (fun w => [w.a 4]) (fun w => [(w.t 52), (w.t 40), (w.t 9)]) (fun _ => rfl) (fun _ => rfl) (fun ch κ w => by kernel_rfl)
theorem vSpot9 (O : VO V P b scr) (x : Int) (t : Tok) (h1 : x.fmod 3 = Int.ofNat 0) (h2 : (x.fdiv 3).fmod 3 = Int.ofNat 0) (h3 : (x.fdiv 9).fmod 3 = Int.ofNat 1) (h4 : (x.fdiv 27).fmod 3 = Int.ofNat 0) : Valid V (cSpotL (nmZ P) x t (4602678819172646912,0,0)) :=
  valid_of O _ 314 hsS0 (spTape O x t 0 0 1 0 h1 h2 h3 h4 0 0 (Int.negSucc 1073) 0 (by kernel_rfl) (by kernel_rfl) 0 (by kernel_rfl)) [false, false, false, false, true] (fun w => [w.a 4]) (fun w => [(w.t 10), (w.t 52), (w.t 40)]) (fun _ => rfl) (fun _ => rfl) (fun ch κ w => by kernel_rfl)
theorem vSpot10 (O : VO V P b scr) (x : Int) (t : Tok) (h1 : x.fmod 3 = Int.ofNat 1) (h2 : (x.fdiv 3).fmod 3 = Int.ofNat 0) (h3 : (x.fdiv 9).fmod 3 = Int.ofNat 1) (h4 : (x.fdiv 27).fmod 3 = Int.ofNat 0) : Valid V (cSpotL (nmZ P) x t (0,4602678819172646912,0)) :=
  valid_of O _ 332 hsS1 (spTape O x t 1 0 1 0 h1 h2 h3 h4 4611686018427387904 4503599627370496 (Int.negSucc 50) 2 (by kernel_rfl) (by kernel_rfl) 2 (by kernel_rfl)) [false, false, false, false, true] (fun w => [w.a 4]) (fun w => [(w.t 40), (w.t 10), (w.t 52)]) (fun _ => rfl) (fun _ => rfl) (fun ch κ w => by kernel_rfl)
theorem vSpot11 (O : VO V P b scr) (x : Int) (t : Tok) (h1 : x.fmod 3 = Int.ofNat 2) (h2 : (x.fdiv 3).fmod 3 = Int.ofNat 0) (h3 : (x.fdiv 9).fmod 3 = Int.ofNat 1) (h4 : (x.fdiv 27).fmod 3 = Int.ofNat 0) : Valid V (cSpotL (nmZ P) x t (0,0,4602678819172646912)) :=
  valid_of O _ 350 hsS2 (spTape O x t 2 0 1 0 h1 h2 h3 h4 4616189618054758400 4503599627370496 (Int.negSucc 49) 4 (by kernel_rfl) (by kernel_rfl) 4 (by kernel_rfl)) [false, false, false, false, true] (fun w => [w.a 4]) (fun w => [(w.t 52), (w.t 40), (w.t 10)]) (fun _ => rfl) (fun _ => rfl) (fun ch κ w => by kernel_rfl)
theorem vSpot12 (O : VO V P b scr) (x : Int) (t : Tok) (h1 : x.fmod 3 = Int.ofNat 0) (h2 : (x.fdiv 3).fmod 3 = Int.ofNat 1) (h3 : (x.fdiv 9).fmod 3 = Int.ofNat 1) (h4 : (x.fdiv 27).fmod 3 = Int.ofNat 0) : Valid V (cSpotL (nmZ P) x t (4602678819172646912,4598175219545276416,4598175219545276416)) :=
  valid_of O _ 314 hsS0 (spTape O x t 0 1 1 0 h1 h2 h3 h4 0 0 (Int.negSucc 1073) 0 (by kernel_rfl) (by kernel_rfl) 0 (by kernel_rfl)) [false, false, false, false, true] (fun w => [w.a 4]) (fun w => [(w.t 10), (w.t 52), (w.t 40)]) (fun _ => rfl) (fun _ => rfl) (fun ch κ w => by kernel_rfl)
theorem vSpot13 (O : VO V P b scr) (x : Int) (t : Tok) (h1 : x.fmod 3 = Int.ofNat 1) (h2 : (x.fdiv 3).fmod 3 = Int.ofNat 1) (h3 : (x.fdiv 9).fmod 3 = Int.ofNat 1) (h4 : (x.fdiv 27).fmod 3 = Int.ofNat 0) : Valid V (cSpotL (nmZ P) x t (4598175219545276416,4602678819172646912,4598175219545276416)) :=
  valid_of O _ 332 hsS1 (spTape O x t 1 1 1 0 h1 h2 h3 h4 4611686018427387904 4503599627370496 (Int.negSucc 50) 2 (by kernel_rfl) (by kernel_rfl) 2 (by kernel_rfl)) [false, false, false, false, true] (fun w => [w.a 4]) (fun w => [(w.t 40), (w.t 10), (w.t 52)]) (fun _ => rfl) (fun _ => rfl) (fun ch κ w => by kernel_rfl)
theorem vSpot14 (O : VO V P b scr) (x : Int) (t : Tok) (h1 : x.fmod 3 = Int.ofNat 2) (h2 : (x.fdiv 3).fmod 3 = Int.ofNat 1) (h3 : (x.fdiv 9).fmod 3 = Int.ofNat 1) (h4 : (x.fdiv 27).fmod 3 = Int.ofNat 0) : Valid V (cSpotL (nmZ P) x t (4598175219545276416,4598175219545276416,4602678819172646912)) :=
  valid_of O _ 350 hsS2 (spTape O x t 2 1 1 0 h1 h2 h3 h4 4616189618054758400 4503599627370496 (Int.negSucc 49) 4 (by kernel_rfl) (by kernel_rfl) 4 (by kernel_rfl)) [false, false, false, false, true] (fun w => [w.a 4]) (fun w => [(w.t 52), (w.t 40), (w.t 10)]) (fun _ => rfl) (fun _ => rfl) (fun ch κ w => by kernel_rfl)
theorem vSpot15 (O : VO V P b scr) (x : Int) (t : Tok) (h1 : x.fmod 3 = Int.ofNat 0) (h2 : (x.fdiv 3).fmod 3 = Int.ofNat 2) (h3 : (x.fdiv 9).fmod 3 = Int.ofNat 1) (h4 : (x.fdiv 27).fmod 3 = Int.ofNat 0) : Valid V (cSpotL (nmZ P) x t (4602678819172646912,4600427019358961664,4600427019358961664)) :=
  valid_of O _ 314 hsS0 (spTape O x t 0 2 1 0 h1 h2 h3 h4 0 0 (Int.negSucc 1073) 0 (by kernel_rfl) (by kernel_rfl) 0 (by kernel_rfl)) [false, false, false, false, true] (fun w => [w.a 4]) (fun w => [(w.t 10), (w.t 52), (w.t 40)]) (fun _ => rfl) (fun _ => rfl) (fun ch κ w => by kernel_rfl)
theorem vSpot16 (O : VO V P b scr) (x : Int) (t : Tok) (h1 : x.fmod 3 = Int.ofNat 1) (h2 : (x.fdiv 3).fmod 3 = Int.ofNat 2) (h3 : (x.fdiv 9).fmod 3 = Int.ofNat 1) (h4 : (x.fdiv 27).fmod 3 = Int.ofNat 0) : Valid V (cSpotL (nmZ P) x t (4600427019358961664,4602678819172646912,4600427019358961664)) :=
  valid_of O _ 332 hsS1 (spTape O x t 1 2 1 0 h1 h2 h3 h4 4611686018427387904 4503599627370496 (Int.negSucc 50) 2 (by kernel_rfl) (by kernel_rfl) 2 (by kernel_rfl)) [false, false, false, false, true] (fun w => [w.a 4]) (fun w => [(w.t 40), (w.t 10), (w.t 52)]) (fun _ => rfl) (fun _ => rfl) (fun ch κ w => by kernel_rfl)
theorem vSpot17 (O : VO V P b scr) (x : Int) (t : Tok) (h1 : x.fmod 3 = Int.ofNat 2) (h2 : (x.fdiv 3).fmod 3 = Int.ofNat 2) (h3 : (x.fdiv 9).fmod 3 = Int.ofNat 1) (h4 : (x.fdiv 27).fmod 3 = Int.ofNat 0) : Valid V (cSpotL (nmZ P) x t (4600427019358961664,4600427019358961664,4602678819172646912)) :=
  valid_of O _ 350 hsS2 (spTape O x t 2 2 1 0 h1 h2 h3 h4 4616189618054758400 4503599627370496 (Int.negSucc 49) 4 (by kernel_rfl) (by kernel_rfl) 4 (by kernel_rfl)) [false, false, false, false, true] (fun w => [w.a 4]) (fun w => [(w.t 52), (w.t 40), (w.t 10)]) (fun _ => rfl) (fun _ => rfl) (fun ch κ w => by kernel_rfl)
theorem vSpot18 (O : VO V P b scr) (x : Int) (t : Tok) (h1 : x.fmod 3 = Int.ofNat 0) (h2 : (x.fdiv 3).fmod 3 = Int.ofNat 0) (h3 : (x.fdiv 9).fmod 3 = Int.ofNat 2) (h4 : (x.fdiv 27).fmod 3 = Int.ofNat 0) : Valid V (cSpotL (nmZ P) x t (4598175219545276416,0,0)) :=
  valid_of O _ 314 hsS0 (spTape O x t 0 0 2 0 h1 h2 h3 h4 0 0 (Int.negSucc 1073) 0 (by kernel_rfl) (by kernel_rfl) 0 (by kernel_rfl)) [false, false, false, false, true] (fun w => [w.a 4]) (fun w => [(w.t 11), (w.t 52), (w.t 40)]) (fun _ => rfl) (fun _ => rfl) (fun ch κ w => by kernel_rfl)
theorem vSpot19 (O : VO V P b scr) (x : Int) (t : Tok) (h1 : x.fmod 3 = Int.ofNat 1) (h2 : (x.fdiv 3).fmod 3 = Int.ofNat 0) (h3 : (x.fdiv 9).fmod 3 = Int.ofNat 2) (h4 : (x.fdiv 27).fmod 3 = Int.ofNat 0) : Valid V (cSpotL (nmZ P) x t (0,4598175219545276416,0)) :=
  valid_of O _ 332 hsS1 (spTape O x t 1 0 2 0 h1 h2 h3 h4 4611686018427387904 4503599627370496 (Int.negSucc 50) 2 (by kernel_rfl) (by kernel_rfl) 2 (by kernel_rfl)) [false, false, false, false, true] (fun w => [w.a 4]) (fun w => [(w.t 40), (w.t 11), (w.t 52)]) (fun _ => rfl) (fun _ => rfl) (fun ch κ w => by kernel_rfl)
theorem vSpot20 (O : VO V P b scr) (x : Int) (t : Tok) (h1 : x.fmod 3 = Int.ofNat 2) (h2 : (x.fdiv 3).fmod 3 = Int.ofNat 0) (h3 : (x.fdiv 9).fmod 3 = Int.ofNat 2) (h4 : (x.fdiv 27).fmod 3 = Int.ofNat 0) : Valid V (cSpotL (nmZ P) x t (0,0,4598175219545276416)) :=
  valid_of O _ 350 hsS2 (spTape O x t 2 0 2 0 h1 h2 h3 h4 4616189618054758400 4503599627370496 (Int.negSucc 49) 4 (by kernel_rfl) (by kernel_rfl) 4 (by kernel_rfl)) [false, false, false, false, true] (fun w => [w.a 4]) (fun w => [(w.t 52), (w.t 40), (w.t 11)]) (fun _ => rfl) (fun _ => rfl) (fun ch κ w => by kernel_rfl)
theorem vSpot21 (O : VO V P b scr) (x : Int) (t : Tok) (h1 : x.fmod 3 = Int.ofNat 0) (h2 : (x.fdiv 3).fmod 3 = Int.ofNat 1) (h3 : (x.fdiv 9).fmod 3 = Int.ofNat 2) (h4 : (x.fdiv 27).fmod 3 = Int.ofNat 0) : Valid V (cSpotL (nmZ P) x t (4598175219545276416,4593671619917905920,4593671619917905920)) :=
  valid_of O _ 314 hsS0 (spTape O x t 0 1 2 0 h1 h2 h3 h4 0 0 (Int.negSucc 1073) 0 (by kernel_rfl) (by kernel_rfl) 0 (by kernel_rfl)) [false, false, false, false, true] (fun w => [w.a 4]) (fun w => [(w.t 11), (w.t 52), (w.t 40)]) (fun _ => rfl) (fun _ => rfl) (fun ch κ w => by kernel_rfl)
theorem vSpot22 (O : VO V P b scr) (x : Int) (t : Tok) (h1 : x.fmod 3 = Int.ofNat 1) (h2 : (x.fdiv 3).fmod 3 = Int.ofNat 1) (h3 : (x.fdiv 9).fmod 3 = Int.ofNat 2) (h4 : (x.fdiv 27).fmod 3 = Int.ofNat 0) : Valid V (cSpotL (nmZ P) x t (4593671619917905920,4598175219545276416,4593671619917905920)) :=
  valid_of O _ 332 hsS1 (spTape O x t 1 1 2 0 h1 h2 h3 h4 4611686018427387904 4503599627370496 (Int.negSucc 50) 2 (by kernel_rfl) (by kernel_rfl) 2 (by kernel_rfl)) [false, false, false, false, true] (fun w => [w.a 4]) (fun w => [(w.t 40), (w.t 11), (w.t 52)]) (fun _ => rfl) (fun _ => rfl) (fun ch κ w => by kernel_rfl)
theorem vSpot23 (O : VO V P b scr) (x : Int) (t : Tok) (h1 : x.fmod 3 = Int.ofNat 2) (h2 : (x.fdiv 3).fmod 3 = Int.ofNat 1) (h3 : (x.fdiv 9).fmod 3 = Int.ofNat 2) (h4 : (x.fdiv 27).fmod 3 = Int.ofNat 0) : Valid V (cSpotL (nmZ P) x t (4593671619917905920,4593671619917905920,4598175219545276416)) :=
  valid_of O _ 350 hsS2 (spTape O x t 2 1 2 0 h1 h2 h3 h4 4616189618054758400 4503599627370496 (Int.negSucc 49) 4 (by kernel_rfl) (by kernel_rfl) 4 (by kernel_rfl)) [false, false, false, false, true] (fun w => [w.a 4]) (fun w => [(w.t 52), (w.t 40), (w.t 11)]) (fun _ => rfl) (fun _ => rfl) (fun ch κ w => by kernel_rfl)
theorem vSpot24 (O : VO V P b scr) (x : Int) (t : Tok) (h1 : x.fmod 3 = Int.ofNat 0) (h2 : (x.fdiv 3).fmod 3 = Int.ofNat 2) (h3 : (x.fdiv 9).fmod 3 = Int.ofNat 2) (h4 : (x.fdiv 27).fmod 3 = Int.ofNat 0) : Valid V (cSpotL (nmZ P) x t (4598175219545276416,4595923419731591168,4595923419731591168)) :=
  valid_of O _ 314 hsS0 (spTape O x t 0 2 2 0 h1 h2 h3 h4 0 0 (Int.negSucc 1073) 0 (by kernel_rfl) (by kernel_rfl) 0 (by kernel_rfl)) [false, false, false, false, true] (fun w => [w.a 4]) (fun w => [(w.t 11), (w.t 52), (w.t 40)]) (fun _ => rfl) (fun _ => rfl) (fun ch κ w => by kernel_rfl)
theorem vSpot25 (O : VO V P b scr) (x : Int) (t : Tok) (h1 : x.fmod 3 = Int.ofNat 1) (h2 : (x.fdiv 3).fmod 3 = Int.ofNat 2) (h3 : (x.fdiv 9).fmod 3 = Int.ofNat 2) (h4 : (x.fdiv 27).fmod 3 = Int.ofNat 0) : Valid V (cSpotL (nmZ P) x t (4595923419731591168,4598175219545276416,4595923419731591168)) :=
  valid_of O _ 332 hsS1 (spTape O x t 1 2 2 0 h1 h2 h3 h4 4611686018427387904 4503599627370496 (Int.negSucc 50) 2 (by kernel_rfl) (by kernel_rfl) 2 (by kernel_rfl)) [false, false, false, false, true] (fun w => [w.a 4]) (fun w => [(w.t 40), (w.t 11), (w.t 52)]) (fun _ => rfl) (fun _ => rfl) (fun ch κ w => by kernel_rfl)
theorem vSpot26 (O : VO V P b scr) (x : Int) (t : Tok) (h1 : x.fmod 3 = Int.ofNat 2) (h2 : (x.fdiv 3).fmod 3 = Int.ofNat 2) (h3 : (x.fdiv 9).fmod 3 = Int.ofNat 2) (h4 : (x.fdiv 27).fmod 3 = Int.ofNat 0) : Valid V (cSpotL (nmZ P) x t (4595923419731591168,4595923419731591168,4598175219545276416)) :=
  valid_of O _ 350 hsS2 (spTape O x t 2 2 2 0 h1 h2 h3 h4 4616189618054758400 4503599627370496 (Int.negSucc 49) 4 (by kernel_rfl) (by kernel_rfl) 4 (by kernel_rfl)) [false, false, false, false, true] (fun w => [w.a 4]) (fun w => [(w.t 52), (w.t 40), (w.t 11)]) (fun _ => rfl) (fun _ => rfl) (fun ch κ w => by kernel_rfl)
theorem vSpot27 (O : VO V P b scr) (x : Int) (t : Tok) (h1 : x.fmod 3 = Int.ofNat 0) (h2 : (x.fdiv 3).fmod 3 = Int.ofNat 0) (h3 : (x.fdiv 9).fmod 3 = Int.ofNat 0) (h4 : (x.fdiv 27).fmod 3 = Int.ofNat 1) : Valid V (cSpotL (nmZ P) x t (4607182418800017408,0,0)) :=
  valid_of O _ 314 hsS0 (spTape O x t 0 0 0 1 h1 h2 h3 h4 4618441417868443648 6755399441055744 (Int.negSucc 49) 6 (by kernel_rfl) (by kernel_rfl) 0 (by kernel_rfl)) [false, false, false, false, true] (fun w => [w.a 4]) (fun w => [(w.t 9), (w.t 52), (w.t 40)]) (fun _ => rfl) (fun _ => rfl) (fun ch κ w => by kernel_rfl)
theorem vSpot28 (O : VO V P b scr) (x : Int) (t : Tok) (h1 : x.fmod 3 = Int.ofNat 1) (h2 : (x.fdiv 3).fmod 3 = Int.ofNat 0) (h3 : (x.fdiv 9).fmod 3 = Int.ofNat 0) (h4 : (x.fdiv 27).fmod 3 = Int.ofNat 1) : Valid V (cSpotL (nmZ P) x t (0,4607182418800017408,0)) :=
  valid_of O _ 332 hsS1 (spTape O x t 1 0 0 1 h1 h2 h3 h4 4620693217682128896 4503599627370496 (Int.negSucc 48) 8 (by kernel_rfl) (by kernel_rfl) 2 (by kernel_rfl)) [false, false, false, false, true] (fun w => [w.a 4]) (fun w => [(w.t 40), (w.t 9), (w.t 52)]) (fun _ => rfl) (fun _ => rfl) (fun ch κ w => by kernel_rfl)
theorem vSpot29 (O : VO V P b scr) (x : Int) (t : Tok) (h1 : x.fmod 3 = Int.ofNat 2) (h2 : (x.fdiv 3).fmod 3 = Int.ofNat 0) (h3 : (x.fdiv 9).fmod 3 = Int.ofNat 0) (h4 : (x.fdiv 27).fmod 3 = Int.ofNat 1) : Valid V (cSpotL (nmZ P) x t (0,0,4607182418800017408)) :=
  valid_of O _ 350 hsS2 (spTape O x t 2 0 0 1 h1 h2 h3 h4 4621819117588971520 5629499534213120 (Int.negSucc 48) 10 (by kernel_rfl) (by kernel_rfl) 4 (by kernel_rfl)) [false, false, false, false, true] (fun w => [w.a 4]) (fun w => [(w.t 52), (w.t 40), (w.t 9)]) (fun _ => rfl) (fun _ => rfl) (fun ch κ w => by kernel_rfl)
theorem vSpot30 (O : VO V P b scr) (x : Int) (t : Tok) (h1 : x.fmod 3 = Int.ofNat 0) (h2 : (x.fdiv 3).fmod 3 = Int.ofNat 1) (h3 : (x.fdiv 9).fmod 3 = Int.ofNat 0) (h4 : (x.fdiv 27).fmod 3 = Int.ofNat 1) : Valid V (cSpotL (nmZ P) x t (4607182418800017408,4602678819172646912,4602678819172646912)) :=
  valid_of O _ 314 hsS0 (spTape O x t 0 1 0 1 h1 h2 h3 h4 4618441417868443648 6755399441055744 (Int.negSucc 49) 6 (by kernel_rfl) (by kernel_rfl) 0 (by kernel_rfl)) [false, false, false, false, true] (fun w => [w.a 4]) (fun w => [(w.t 9), (w.t 52), (w.t 40)]) (fun _ => rfl) (fun _ => rfl) (fun ch κ w => by kernel_rfl)
theorem vSpot31 (O : VO V P b scr) (x : Int) (t : Tok) (h1 : x.fmod 3 = Int.ofNat 1) (h2 : (x.fdiv 3).fmod 3 = Int.ofNat 1) (h3 : (x.fdiv 9).fmod 3 = Int.ofNat 0) (h4 : (x.fdiv 27).fmod 3 = Int.ofNat 1) : Valid V (cSpotL (nmZ P) x t (4602678819172646912,4607182418800017408,4602678819172646912)) :=
  valid_of O _ 332 hsS1 (spTape O x t 1 1 0 1 h1 h2 h3 h4 4620693217682128896 4503599627370496 (Int.negSucc 48) 8 (by kernel_rfl) (by kernel_rfl) 2 (by kernel_rfl)) [false, false, false, false, true] (fun w => [w.a 4]) (fun w => [(w.t 40), (w.t 9), (w.t 52)]) (fun _ => rfl) (fun _ => rfl) (fun ch κ w => by kernel_rfl)
theorem vSpot32 (O : VO V P b scr) (x : Int) (t : Tok) (h1 : x.fmod 3 = Int.ofNat 2) (h2 : (x.fdiv 3).fmod 3 = Int.ofNat 1) (h3 : (x.fdiv 9).fmod 3 = Int.ofNat 0) (h4 : (x.fdiv 27).fmod 3 = Int.ofNat 1) : Valid V (cSpotL (nmZ P) x t (4602678819172646912,4602678819172646912,4607182418800017408)) :=
  valid_of O _ 350 hsS2 (spTape O x t 2 1 0 1 h1 h2 h3 h4 4621819117588971520 5629499534213120 (Int.negSucc 48) 10 (by kernel_rfl) (by kernel_rfl) 4 (by kernel_rfl)) [false, false, false, false, true] (fun w => [w.a 4]) (fun w => [(w.t 52), (w.t 40), (w.t 9)]) (fun _ => rfl) (fun _ => rfl) (fun ch κ w => by kernel_rfl)
theorem vSpot33 (O : VO V P b scr) (x : Int) (t : Tok) (h1 : x.fmod 3 = Int.ofNat 0) (h2 : (x.fdiv 3).fmod 3 = Int.ofNat 2) (h3 : (x.fdiv 9).fmod 3 = Int.ofNat 0) (h4 : (x.fdiv 27).fmod 3 = Int.ofNat 1) : Valid V (cSpotL (nmZ P) x t (4607182418800017408,4604930618986332160,4604930618986332160)) :=
  valid_of O _ 314 hsS0 (spTape O x t 0 2 0 1 h1 h2 h3 h4 4618441417868443648 6755399441055744 (Int.negSucc 49) 6 (by kernel_rfl) (by kernel_rfl) 0 (by kernel_rfl)) [false, false, false, false, true] (fun w => [w.a 4]) (fun w => [(w.t 9), (w.t 52), (w.t 40)]) (fun _ => rfl) (fun _ => rfl) (fun ch κ w => by kernel_rfl)
theorem vSpot34 (O : VO V P b scr) (x : Int) (t : Tok) (h1 : x.fmod 3 = Int.ofNat 1) (h2 : (x.fdiv 3).fmod 3 = Int.ofNat 2) (h3 : (x.fdiv 9).fmod 3 = Int.ofNat 0) (h4 : (x.fdiv 27).fmod 3 = Int.ofNat 1) : Valid V (cSpotL (nmZ P) x t (4604930618986332160,4607182418800017408,4604930618986332160)) :=
  valid_of O _ 332 hsS1 (spTape O x t 1 2 0 1 h1 h2 h3 h4 4620693217682128896 4503599627370496 (Int.negSucc 48) 8 (by kernel_rfl) (by kernel_rfl) 2 (by kernel_rfl)) [false, false, false, false, true] (fun w => [w.a 4]) (fun w => [(w.t 40), (w.t 9), (w.t 52)]) (fun _ => rfl) (fun _ => rfl) (fun ch κ w => by kernel_rfl)
theorem vSpot35 (O : VO V P b scr) (x : Int) (t : Tok) (h1 : x.fmod 3 = Int.ofNat 2) (h2 : (x.fdiv 3).fmod 3 = Int.ofNat 2) (h3 : (x.fdiv 9).fmod 3 = Int.ofNat 0) (h4 : (x.fdiv 27).fmod 3 = Int.ofNat 1) : Valid V (cSpotL (nmZ P) x t (4604930618986332160,4604930618986332160,4607182418800017408)) :=
  valid_of O _ 350 hsS2 (spTape O x t 2 2 0 1 h1 h2 h3 h4 4621819117588971520 5629499534213120 (Int.negSucc 48) 10 (by kernel_rfl) (by kernel_rfl) 4 (by kernel_rfl)) [false, false, false, false, true] (fun w => [w.a 4]) (fun w => [(w.t 52), (w.t 40), (w.t 9)]) (fun _ => rfl) (fun _ => rfl) (fun ch κ w => by kernel_rfl)
theorem vSpot36 (O : VO V P b scr) (x : Int) (t : Tok) (h1 : x.fmod 3 = Int.ofNat 0) (h2 : (x.fdiv 3).fmod 3 = Int.ofNat 0) (h3 : (x.fdiv 9).fmod 3 = Int.ofNat 1) (h4 : (x.fdiv 27).fmod 3 = Int.ofNat 1) : Valid V (cSpotL (nmZ P) x t (4602678819172646912,0,0)) :=
  valid_of O _ 314 hsS0 (spTape O x t 0 0 1 1 h1 h2 h3 h4 4618441417868443648 6755399441055744 (Int.negSucc 49) 6 (by kernel_rfl) (by kernel_rfl) 0 (by kernel_rfl)) [false, false, false, false, true] (fun w => [w.a 4]) (fun w => [(w.t 10), (w.t 52), (w.t 40)]) (fun _ => rfl) (fun _ => rfl) (fun ch κ w => by kernel_rfl)
theorem vSpot37 (O : VO V P b scr) (x : Int) (t : Tok) (h1 : x.fmod 3 = Int.ofNat 1) (h2 : (x.fdiv 3).fmod 3 = Int.ofNat 0) (h3 : (x.fdiv 9).fmod 3 = Int.ofNat 1) (h4 : (x.fdiv 27).fmod 3 = Int.ofNat 1) : Valid V (cSpotL (nmZ P) x t (0,4602678819172646912,0)) :=
  valid_of O _ 332 hsS1 (spTape O x t 1 0 1 1 h1 h2 h3 h4 4620693217682128896 4503599627370496 (Int.negSucc 48) 8 (by kernel_rfl) (by kernel_rfl) 2 (by kernel_rfl)) [false, false, false, false, true] (fun w => [w.a 4]) (fun w => [(w.t 40), (w.t 10), (w.t 52)]) (fun _ => rfl) (fun _ => rfl) (fun ch κ w => by kernel_rfl)
theorem vSpot38 (O : VO V P b scr) (x : Int) (t : Tok) (h1 : x.fmod 3 = Int.ofNat 2) (h2 : (x.fdiv 3).fmod 3 = Int.ofNat 0) (h3 : (x.fdiv 9).fmod 3 = Int.ofNat 1) (h4 : (x.fdiv 27).fmod 3 = Int.ofNat 1) : Valid V (cSpotL (nmZ P) x t (0,0,4602678819172646912)) :=
  valid_of O _ 350 hsS2 (spTape O x t 2 0 1 1 h1 h2 h3 h4 4621819117588971520 5629499534213120 (Int.negSucc 48) 10 (by kernel_rfl) (by kernel_rfl) 4 (by kernel_rfl)) [false, false, false, false, true] (fun w => [w.a 4]) (fun w => [(w.t 52), (w.t 40), (w.t 10)]) (fun _ => rfl) (fun _ => rfl) (fun ch κ w => by kernel_rfl)
theorem vSpot39 (O : VO V P b scr) (x : Int) (t : Tok) (h1 : x.fmod 3 = Int.ofNat 0) (h2 : (x.fdiv 3).fmod 3 = Int.ofNat 1) (h3 : (x.fdiv 9).fmod 3 = Int.ofNat 1) (h4 : (x.fdiv 27).fmod 3 = Int.ofNat 1) : Valid V (cSpotL (nmZ P) x t (4602678819172646912,4598175219545276416,4598175219545276416)) :=
  valid_of O _ 314 hsS0 (spTape O x t 0 1 1 1 h1 h2 h3 h4 4618441417868443648 6755399441055744 (Int.negSucc 49) 6 (by kernel_rfl) (by kernel_rfl) 0 (by kernel_rfl)) [false, false, false, false, true] (fun w => [w.a 4]) (fun w => [(w.t 10), (w.t 52), (w.t 40)]) (fun _ => rfl) (fun _ => rfl) (fun ch κ w => by kernel_rfl)
theorem vSpot40 (O : VO V P b scr) (x : Int) (t : Tok) (h1 : x.fmod 3 = Int.ofNat 1) (h2 : (x.fdiv 3).fmod 3 = Int.ofNat 1) (h3 : (x.fdiv 9).fmod 3 = Int.ofNat 1) (h4 : (x.fdiv 27).fmod 3 = Int.ofNat 1) : Valid V (cSpotL (nmZ P) x t (4598175219545276416,4602678819172646912,4598175219545276416)) :=
  valid_of O _ 332 hsS1 (spTape O x t 1 1 1 1 h1 h2 h3 h4 4620693217682128896 4503599627370496 (Int.negSucc 48) 8 (by kernel_rfl) (by kernel_rfl) 2 (by kernel_rfl)) [false, false, false, false, true] (fun w => [w.a 4]) (fun w => [(w.t 40), (w.t 10), (w.t 52)]) (fun _ => rfl) (fun _ => rfl) (fun ch κ w => by kernel_rfl)
theorem vSpot41 (O : VO V P b scr) (x : Int) (t : Tok) (h1 : x.fmod 3 = Int.ofNat 2) (h2 : (x.fdiv 3).fmod 3 = Int.ofNat 1) (h3 : (x.fdiv 9).fmod 3 = Int.ofNat 1) (h4 : (x.fdiv 27).fmod 3 = Int.ofNat 1) : Valid V (cSpotL (nmZ P) x t (4598175219545276416,4598175219545276416,4602678819172646912)) :=
  valid_of O _ 350 hsS2 (spTape O x t 2 1 1 1 h1 h2 h3 h4 4621819117588971520 5629499534213120 (Int.negSucc 48) 10 (by kernel_rfl) (by kernel_rfl) 4 (by kernel_rfl)) [false, false, false, false, true] (fun w => [w.a 4]) (fun w => [(w.t 52), (w.t 40), (w.t 10)]) (fun _ => rfl) (fun _ => rfl) (fun ch κ w => by kernel_rfl)
theorem vSpot42 (O : VO V P b scr) (x : Int) (t : Tok) (h1 : x.fmod 3 = Int.ofNat 0) (h2 : (x.fdiv 3).fmod 3 = Int.ofNat 2) (h3 : (x.fdiv 9).fmod 3 = Int.ofNat 1) (h4 : (x.fdiv 27).fmod 3 = Int.ofNat 1) : Valid V (cSpotL (nmZ P) x t (4602678819172646912,4600427019358961664,4600427019358961664)) :=
  valid_of O _ 314 hsS0 (spTape O x t 0 2 1 1 h1 h2 h3 h4 4618441417868443648 6755399441055744 (Int.negSucc 49) 6 (by kernel_rfl) (by kernel_rfl) 0 (by kernel_rfl)) [false, false, false, false, true] (fun w => [w.a 4]) (fun w => [(w.t 10), (w.t 52), (w.t 40)]) (fun _ => rfl) (fun _ => rfl) (fun ch κ w => by kernel_rfl)
theorem vSpot43 (O : VO V P b scr) (x : Int) (t : Tok) (h1 : x.fmod 3 = Int.ofNat 1) (h2 : (x.fdiv 3).fmod 3 = Int.ofNat 2) (h3 : (x.fdiv 9).fmod 3 = Int.ofNat 1) (h4 : (x.fdiv 27).fmod 3 = Int.ofNat 1) : Valid V (cSpotL (nmZ P) x t (4600427019358961664,4602678819172646912,4600427019358961664)) :=
  valid_of O _ 332 hsS1 (spTape O x t 1 2 1 1 h1 h2 h3 h4 4620693217682128896 4503599627370496 (Int.negSucc 48) 8 (by kernel_rfl) (by kernel_rfl) 2 (by kernel_rfl)) [false, false, false, false, true] (fun w => [w.a 4]) (fun w => [(w.t 40), (w.t 10), (w.t 52)]) (fun _ => rfl) (fun _ => rfl) (fun ch κ w => by kernel_rfl)
theorem vSpot44 (O : VO V P b scr) (x : Int) (t : Tok) (h1 : x.fmod 3 = Int.ofNat 2) (h2 : (x.fdiv 3).fmod 3 = Int.ofNat 2) (h3 : (x.fdiv 9).fmod 3 = Int.ofNat 1) (h4 : (x.fdiv 27).fmod 3 = Int.ofNat 1) : Valid V (cSpotL (nmZ P) x t (4600427019358961664,4600427019358961664,4602678819172646912)) :=
  valid_of O _ 350 hsS2 (spTape O x t 2 2 1 1 h1 h2 h3 h4 4621819117588971520 5629499534213120 (Int.negSucc 48) 10 (by kernel_rfl) (by kernel_rfl) 4 (by kernel_rfl)) [false, false, false, false, true] (fun w => [w.a 4]) (fun w => [(w.t 52), (w.t 40), (w.t 10)]) (fun _ => rfl) (fun _ => rfl) (fun ch κ w => by kernel_rfl)
theorem vSpot45 (O : VO V P b scr) (x : Int) (t : Tok) (h1 : x.fmod 3 = Int.ofNat 0) (h2 : (x.fdiv 3).fmod 3 = Int.ofNat 0) (h3 : (x.fdiv 9).fmod 3 = Int.ofNat 2) (h4 : (x.fdiv 27).fmod 3 = Int.ofNat 1) : Valid V (cSpotL (nmZ P) x t (4598175219545276416,0,0)) :=
  valid_of O _ 314 hsS0 (spTape O x t 0 0 2 1 h1 h2 h3 h4 4618441417868443648 6755399441055744 (Int.negSucc 49) 6 (by kernel_rfl) (by kernel_rfl) 0 (by kernel_rfl)) [false, false, false, false, true] (fun w => [w.a 4]) (fun w => [(w.t 11), (w.t 52), (w.t 40)]) (fun _ => rfl) (fun _ => rfl) (fun ch κ w => by kernel_rfl)
theorem vSpot46 (O : VO V P b scr) (x : Int) (t : Tok) (h1 : x.fmod 3 = Int.ofNat 1) (h2 : (x.fdiv 3).fmod 3 = Int.ofNat 0) (h3 : (x.fdiv 9).fmod 3 = Int.ofNat 2) (h4 : (x.fdiv 27).fmod 3 = Int.ofNat 1) : Valid V (cSpotL (nmZ P) x t (0,4598175219545276416,0)) :=
  valid_of O _ 332 hsS1 (spTape O x t 1 0 2 1 h1 h2 h3 h4 4620693217682128896 4503599627370496 (Int.negSucc 48) 8 (by kernel_rfl) (by kernel_rfl) 2 (by kernel_rfl)) [false, false, false, false, true] (fun w => [w.a 4]) (fun w => [(w.t 40), (w.t 11), (w.t 52)]) (fun _ => rfl) (fun _ => rfl) (fun ch κ w => by kernel_rfl)
theorem vSpot47 (O : VO V P b scr) (x : Int) (t : Tok) (h1 : x.fmod 3 = Int.ofNat 2) (h2 : (x.fdiv 3).fmod 3 = Int.ofNat 0) (h3 : (x.fdiv 9).fmod 3 = Int.ofNat 2) (h4 : (x.fdiv 27).fmod 3 = Int.ofNat 1) : Valid V (cSpotL (nmZ P) x t (0,0,4598175219545276416)) :=
  valid_of O _ 350 hsS2 (spTape O x t 2 0 2 1 h1 h2 h3 h4 4621819117588971520 5629499534213120 (Int.negSucc 48) 10 (by kernel_rfl) (by kernel_rfl) 4 (by kernel_rfl)) [false, false, false, false, true] (fun w => [w.a 4]) (fun w => [(w.t 52), (w.t 40), (w.t 11)]) (fun _ => rfl) (fun _ => rfl) (fun ch κ w => by kernel_rfl)
theorem vSpot48 (O : VO V P b scr) (x : Int) (t : Tok) (h1 : x.fmod 3 = Int.ofNat 0) (h2 : (x.fdiv 3).fmod 3 = Int.ofNat 1) (h3 : (x.fdiv 9).fmod 3 = Int.ofNat 2) (h4 : (x.fdiv 27).fmod 3 = Int.ofNat 1) : Valid V (cSpotL (nmZ P) x t (4598175219545276416,4593671619917905920,4593671619917905920)) :=
  valid_of O _ 314 hsS0 (spTape O x t 0 1 2 1 h1 h2 h3 h4 4618441417868443648 6755399441055744 (Int.negSucc 49) 6 (by kernel_rfl) (by kernel_rfl) 0 (by kernel_rfl)) [false, false, false, false, true] (fun w => [w.a 4]) (fun w => [(w.t 11), (w.t 52), (w.t 40)]) (fun _ => rfl) (fun _ => rfl) (fun ch κ w => by kernel_rfl)
theorem vSpot49 (O : VO V P b scr) (x : Int) (t : Tok) (h1 : x.fmod 3 = Int.ofNat 1) (h2 : (x.fdiv 3).fmod 3 = Int.ofNat 1) (h3 : (x.fdiv 9).fmod 3 = Int.ofNat 2) (h4 : (x.fdiv 27).fmod 3 = Int.ofNat 1) : Valid V (cSpotL (nmZ P) x t (4593671619917905920,4598175219545276416,4593671619917905920)) :=
  valid_of O _ 332 hsS1 (spTape O x t 1 1 2 1 h1 h2 h3 h4 4620693217682128896 4503599627370496 (Int.negSucc 48) 8 (by kernel_rfl) (by kernel_rfl) 2 (by kernel_rfl)) [false, false, false, false, true] (fun w => [w.a 4]) (fun w => [(w.t 40), (w.t 11), (w.t 52)]) (fun _ => rfl) (fun _ => rfl) (fun ch κ w => by kernel_rfl)
theorem vSpot50 (O : VO V P b scr) (x : Int) (t : Tok) (h1 : x.fmod 3 = Int.ofNat 2) (h2 : (x.fdiv 3).fmod 3 = Int.ofNat 1) (h3 : (x.fdiv 9).fmod 3 = Int.ofNat 2) (h4 : (x.fdiv 27).fmod 3 = Int.ofNat 1) : Valid V (cSpotL (nmZ P) x t (4593671619917905920,4593671619917905920,4598175219545276416)) :=
  valid_of O _ 350 hsS2 (spTape O x t 2 1 2 1 h1 h2 h3 h4 4621819117588971520 5629499534213120 (Int.negSucc 48) 10 (by kernel_rfl) (by kernel_rfl) 4 (by kernel_rfl)) [false, false, false, false, true] (fun w => [w.a 4]) (fun w => [(w.t 52), (w.t 40), (w.t 11)]) (fun _ => rfl) (fun _ => rfl) (fun ch κ w => by kernel_rfl)
theorem vSpot51 (O : VO V P b scr) (x : Int) (t : Tok) (h1 : x.fmod 3 = Int.ofNat 0) (h2 : (x.fdiv 3).fmod 3 = Int.ofNat 2) (h3 : (x.fdiv 9).fmod 3 = Int.ofNat 2) (h4 : (x.fdiv 27).fmod 3 = Int.ofNat 1) : Valid V (cSpotL (nmZ P) x t (4598175219545276416,4595923419731591168,4595923419731591168)) :=
  valid_of O _ 314 hsS0 (spTape O x t 0 2 2 1 h1 h2 h3 h4 4618441417868443648 6755399441055744 (Int.negSucc 49) 6 (by kernel_rfl) (by kernel_rfl) 0 (by kernel_rfl)) [false, false, false, false, true] (fun w => [w.a 4]) (fun w => [(w.t 11), (w.t 52), (w.t 40)]) (fun _ => rfl) (fun _ => rfl) (fun ch κ w => by kernel_rfl)
theorem vSpot52 (O : VO V P b scr) (x : Int) (t : Tok) (h1 : x.fmod 3 = Int.ofNat 1) (h2 : (x.fdiv 3).fmod 3 = Int.ofNat 2) (h3 : (x.fdiv 9).fmod 3 = Int.ofNat 2) (h4 : (x.fdiv 27).fmod 3 = Int.ofNat 1) : Valid V (cSpotL (nmZ P) x t (4595923419731591168,4598175219545276416,4595923419731591168)) :=
  valid_of O _ 332 hsS1 (spTape O x t 1 2 2 1 h1 h2 h3 h4 4620693217682128896 4503599627370496 (Int.negSucc 48) 8 (by kernel_rfl) (by kernel_rfl) 2 (by kernel_rfl)) [false, false, false, false, true] (fun w => [w.a 4]) (fun w => [(w.t 40), (w.t 11), (w.t 52)]) (fun _ => rfl) (fun _ => rfl) (fun ch κ w => by kernel_rfl)
theorem vSpot53 (O : VO V P b scr) (x : Int) (t : Tok) (h1 : x.fmod 3 = Int.ofNat 2) (h2 : (x.fdiv 3).fmod 3 = Int.ofNat 2) (h3 : (x.fdiv 9).fmod 3 = Int.ofNat 2) (h4 : (x.fdiv 27).fmod 3 = Int.ofNat 1) : Valid V (cSpotL (nmZ P) x t (4595923419731591168,4595923419731591168,4598175219545276416)) :=
  valid_of O _ 350 hsS2 (spTape O x t 2 2 2 1 h1 h2 h3 h4 4621819117588971520 5629499534213120 (Int.negSucc 48) 10 (by kernel_rfl) (by kernel_rfl) 4 (by kernel_rfl)) [false, false, false, false, true] (fun w => [w.a 4]) (fun w => [(w.t 52), (w.t 40), (w.t 11)]) (fun _ => rfl) (fun _ => rfl) (fun ch κ w => by kernel_rfl)
theorem vSpot54 (O : VO V P b scr) (x : Int) (t : Tok) (h1 : x.fmod 3 = Int.ofNat 0) (h2 : (x.fdiv 3).fmod 3 = Int.ofNat 0) (h3 : (x.fdiv 9).fmod 3 = Int.ofNat 0) (h4 : (x.fdiv 27).fmod 3 = Int.ofNat 2) : Valid V (cSpotL (nmZ P) x t (4607182418800017408,0,0)) :=
  valid_of O _ 314 hsS0 (spTape O x t 0 0 0 2 h1 h2 h3 h4 4622945017495814144 6755399441055744 (Int.negSucc 48) 12 (by kernel_rfl) (by kernel_rfl) 0 (by kernel_rfl)) [false, false, false, false, true] (fun w => [w.a 4]) (fun w => [(w.t 9), (w.t 52), (w.t 40)]) (fun _ => rfl) (fun _ => rfl) (fun ch κ w => by kernel_rfl)
theorem vSpot55 (O : VO V P b scr) (x : Int) (t : Tok) (h1 : x.fmod 3 = Int.ofNat 1) (h2 : (x.fdiv 3).fmod 3 = Int.ofNat 0) (h3 : (x.fdiv 9).fmod 3 = Int.ofNat 0) (h4 : (x.fdiv 27).fmod 3 = Int.ofNat 2) : Valid V (cSpotL (nmZ P) x t (0,4607182418800017408,0)) :=
  valid_of O _ 332 hsS1 (spTape O x t 1 0 0 2 h1 h2 h3 h4 4624070917402656768 7881299347898368 (Int.negSucc 48) 14 (by kernel_rfl) (by kernel_rfl) 2 (by kernel_rfl)) [false, false, false, false, true] (fun w => [w.a 4]) (fun w => [(w.t 40), (w.t 9), (w.t 52)]) (fun _ => rfl) (fun _ => rfl) (fun ch κ w => by kernel_rfl)
theorem vSpot56 (O : VO V P b scr) (x : Int) (t : Tok) (h1 : x.fmod 3 = Int.ofNat 2) (h2 : (x.fdiv 3).fmod 3 = Int.ofNat 0) (h3 : (x.fdiv 9).fmod 3 = Int.ofNat 0) (h4 : (x.fdiv 27).fmod 3 = Int.ofNat 2) : Valid V (cSpotL (nmZ P) x t (0,0,4607182418800017408)) :=
  valid_of O _ 350 hsS2 (spTape O x t 2 0 0 2 h1 h2 h3 h4 4625196817309499392 4503599627370496 (Int.negSucc 47) 16 (by kernel_rfl) (by kernel_rfl) 4 (by kernel_rfl)) [false, false, false, false, true] (fun w => [w.a 4]) (fun w => [(w.t 52), (w.t 40), (w.t 9)]) (fun _ => rfl) (fun _ => rfl) (fun ch κ w => by kernel_rfl)
theorem vSpot57 (O : VO V P b scr) (x : Int) (t : Tok) (h1 : x.fmod 3 = Int.ofNat 0) (h2 : (x.fdiv 3).fmod 3 = Int.ofNat 1) (h3 : (x.fdiv 9).fmod 3 = Int.ofNat 0) (h4 : (x.fdiv 27).fmod 3 = Int.ofNat 2) : Valid V (cSpotL (nmZ P) x t (4607182418800017408,4602678819172646912,4602678819172646912)) :=
  valid_of O _ 314 hsS0 (spTape O x t 0 1 0 2 h1 h2 h3 h4 4622945017495814144 6755399441055744 (Int.negSucc 48) 12 (by kernel_rfl) (by kernel_rfl) 0 (by kernel_rfl)) [false, false, false, false, true] (fun w => [w.a 4]) (fun w => [(w.t 9), (w.t 52), (w.t 40)]) (fun _ => rfl) (fun _ => rfl) (fun ch κ w => by kernel_rfl)
theorem vSpot58 (O : VO V P b scr) (x : Int) (t : Tok) (h1 : x.fmod 3 = Int.ofNat 1) (h2 : (x.fdiv 3).fmod 3 = Int.ofNat 1) (h3 : (x.fdiv 9).fmod 3 = Int.ofNat 0) (h4 : (x.fdiv 27).fmod 3 = Int.ofNat 2) : Valid V (cSpotL (nmZ P) x t (4602678819172646912,4607182418800017408,4602678819172646912)) :=
  valid_of O _ 332 hsS1 (spTape O x t 1 1 0 2 h1 h2 h3 h4 4624070917402656768 7881299347898368 (Int.negSucc 48) 14 (by kernel_rfl) (by kernel_rfl) 2 (by kernel_rfl)) [false, false, false, false, true] (fun w => [w.a 4]) (fun w => [(w.t 40), (w.t 9), (w.t 52)]) (fun _ => rfl) (fun _ => rfl) (fun ch κ w => by kernel_rfl)
theorem vSpot59 (O : VO V P b scr) (x : Int) (t : Tok) (h1 : x.fmod 3 = Int.ofNat 2) (h2 : (x.fdiv 3).fmod 3 = Int.ofNat 1) (h3 : (x.fdiv 9).fmod 3 = Int.ofNat 0) (h4 : (x.fdiv 27).fmod 3 = Int.ofNat 2) : Valid V (cSpotL (nmZ P) x t (4602678819172646912,4602678819172646912,4607182418800017408)) :=
  valid_of O _ 350 hsS2 (spTape O x t 2 1 0 2 h1 h2 h3 h4 4625196817309499392 4503599627370496 (Int.negSucc 47) 16 (by kernel_rfl) (by kernel_rfl) 4 (by kernel_rfl)) [false, false, false, false, true] (fun w => [w.a 4]) (fun w => [(w.t 52), (w.t 40), (w.t 9)]) (fun _ => rfl) (fun _ => rfl) (fun ch κ w => by kernel_rfl)
theorem vSpot60 (O : VO V P b scr) (x : Int) (t : Tok) (h1 : x.fmod 3 = Int.ofNat 0) (h2 : (x.fdiv 3).fmod 3 = Int.ofNat 2) (h3 : (x.fdiv 9).fmod 3 = Int.ofNat 0) (h4 : (x.fdiv 27).fmod 3 = Int.ofNat 2) : Valid V (cSpotL (nmZ P) x t (4607182418800017408,4604930618986332160,4604930618986332160)) :=
  valid_of O _ 314 hsS0 (spTape O x t 0 2 0 2 h1 h2 h3 h4 4622945017495814144 6755399441055744 (Int.negSucc 48) 12 (by kernel_rfl) (by kernel_rfl) 0 (by kernel_rfl)) [false, false, false, false, true] (fun w => [w.a 4]) (fun w => [(w.t 9), (w.t 52), (w.t 40)]) (fun _ => rfl) (fun _ => rfl) (fun ch κ w => by kernel_rfl)
theorem vSpot61 (O : VO V P b scr) (x : Int) (t : Tok) (h1 : x.fmod 3 = Int.ofNat 1) (h2 : (x.fdiv 3).fmod 3 = Int.ofNat 2) (h3 : (x.fdiv 9).fmod 3 = Int.ofNat 0) (h4 : (x.fdiv 27).fmod 3 = Int.ofNat 2) : Valid V (cSpotL (nmZ P) x t (4604930618986332160,4607182418800017408,4604930618986332160)) :=
  valid_of O _ 332 hsS1 (spTape O x t 1 2 0 2 h1 h2 h3 h4 4624070917402656768 7881299347898368 (Int.negSucc 48) 14 (by kernel_rfl) (by kernel_rfl) 2 (by kernel_rfl)) [false, false, false, false, true] (fun w => [w.a 4]) (fun w => [(w.t 40), (w.t 9), (w.t 52)]) (fun _ => rfl) (fun _ => rfl) (fun ch κ w => by kernel_rfl)
theorem vSpot62 (O : VO V P b scr) (x : Int) (t : Tok) (h1 : x.fmod 3 = Int.ofNat 2) (h2 : (x.fdiv 3).fmod 3 = Int.ofNat 2) (h3 : (x.fdiv 9).fmod 3 = Int.ofNat 0) (h4 : (x.fdiv 27).fmod 3 = Int.ofNat 2) : Valid V (cSpotL (nmZ P) x t (4604930618986332160,4604930618986332160,4607182418800017408)) :=
  valid_of O _ 350 hsS2 (spTape O x t 2 2 0 2 h1 h2 h3 h4 4625196817309499392 4503599627370496 (Int.negSucc 47) 16 (by kernel_rfl) (by kernel_rfl) 4 (by kernel_rfl)) [false, false, false, false, true] (fun w => [w.a 4]) (fun w => [(w.t 52), (w.t 40), (w.t 9)]) (fun _ => rfl) (fun _ => rfl) (fun ch κ w => by kernel_rfl)
theorem vSpot63 (O : VO V P b scr) (x : Int) (t : Tok) (h1 : x.fmod 3 = Int.ofNat 0) (h2 : (x.fdiv 3).fmod 3 = Int.ofNat 0) (h3 : (x.fdiv 9).fmod 3 = Int.ofNat 1) (h4 : (x.fdiv 27).fmod 3 = Int.ofNat 2) : Valid V (cSpotL (nmZ P) x t (4602678819172646912,0,0)) :=
  valid_of O _ 314 hsS0 (spTape O x t 0 0 1 2 h1 h2 h3 h4 4622945017495814144 6755399441055744 (Int.negSucc 48) 12 (by kernel_rfl) (by kernel_rfl) 0 (by kernel_rfl)) [false, false, false, false, true] (fun w => [w.a 4]) (fun w => [(w.t 10), (w.t 52), (w.t 40)]) (fun _ => rfl) (fun _ => rfl) (fun ch κ w => by kernel_rfl)
theorem vSpot64 (O : VO V P b scr) (x : Int) (t : Tok) (h1 : x.fmod 3 = Int.ofNat 1) (h2 : (x.fdiv 3).fmod 3 = Int.ofNat 0) (h3 : (x.fdiv 9).fmod 3 = Int.ofNat 1) (h4 : (x.fdiv 27).fmod 3 = Int.ofNat 2) : Valid V (cSpotL (nmZ P) x t (0,4602678819172646912,0)) :=
  valid_of O _ 332 hsS1 (spTape O x t 1 0 1 2 h1 h2 h3 h4 4624070917402656768 7881299347898368 (Int.negSucc 48) 14 (by kernel_rfl) (by kernel_rfl) 2 (by kernel_rfl)) [false, false, false, false, true] (fun w => [w.a 4]) (fun w => [(w.t 40), (w.t 10), (w.t 52)]) (fun _ => rfl) (fun _ => rfl) (fun ch κ w => by kernel_rfl)
theorem vSpot65 (O : VO V P b scr) (x : Int) (t : Tok) (h1 : x.fmod 3 = Int.ofNat 2) (h2 : (x.fdiv 3).fmod 3 = Int.ofNat 0) (h3 : (x.fdiv 9).fmod 3 = Int.ofNat 1) (h4 : (x.fdiv 27).fmod 3 = Int.ofNat 2) : Valid V (cSpotL (nmZ P) x t (0,0,4602678819172646912)) :=
  valid_of O _ 350 hsS2 (spTape O x t 2 0 1 2 h1 h2 h3 h4 4625196817309499392 4503599627370496 (Int.negSucc 47) 16 (by kernel_rfl) (by kernel_rfl) 4 (by kernel_rfl)) [false, false, false, false, true] (fun w => [w.a 4]) (fun w => [(w.t 52), (w.t 40), (w.t 10)]) (fun _ => rfl) (fun _ => rfl) (fun ch κ w => by kernel_rfl)
theorem vSpot66 (O : VO V P b scr) (x : Int) (t : Tok) (h1 : x.fmod 3 = Int.ofNat 0) (h2 : (x.fdiv 3).fmod 3 = Int.ofNat 1) (h3 : (x.fdiv 9).fmod 3 = Int.ofNat 1) (h4 : (x.fdiv 27).fmod 3 = Int.ofNat 2) : Valid V (cSpotL (nmZ P) x t (4602678819172646912,4598175219545276416,4598175219545276416)) :=
  valid_of O _ 314 hsS0 (spTape O x t 0 1 1 2 h1 h2 h3 h4 4622945017495814144 6755399441055744 (Int.negSucc 48) 12 (by kernel_rfl) (by kernel_rfl) 0 (by kernel_rfl)) [false, false, false, false, true] (fun w => [w.a 4]) (fun w => [(w.t 10), (w.t 52), (w.t 40)]) (fun _ => rfl) (fun _ => rfl) (fun ch κ w => by kernel_rfl)
theorem vSpot67 (O : VO V P b scr) (x : Int) (t : Tok) (h1 : x.fmod 3 = Int.ofNat 1) (h2 : (x.fdiv 3).fmod 3 = Int.ofNat 1) (h3 : (x.fdiv 9).fmod 3 = Int.ofNat 1) (h4 : (x.fdiv 27).fmod 3 = Int.ofNat 2) : Valid V (cSpotL (nmZ P) x t (4598175219545276416,4602678819172646912,4598175219545276416)) :=
  valid_of O _ 332 hsS1 (spTape O x t 1 1 1 2 h1 h2 h3 h4 4624070917402656768 7881299347898368 (Int.negSucc 48) 14 (by kernel_rfl) (by kernel_rfl) 2 (by kernel_rfl)) [false, false, false, false, true] (fun w => [w.a 4]) (fun w => [(w.t 40), (w.t 10), (w.t 52)]) (fun _ => rfl) (fun _ => rfl) (fun ch κ w => by kernel_rfl)
theorem vSpot68 (O : VO V P b scr) (x : Int) (t : Tok) (h1 : x.fmod 3 = Int.ofNat 2) (h2 : (x.fdiv 3).fmod 3 = Int.ofNat 1) (h3 : (x.fdiv 9).fmod 3 = Int.ofNat 1) (h4 : (x.fdiv 27).fmod 3 = Int.ofNat 2) : Valid V (cSpotL (nmZ P) x t (4598175219545276416,4598175219545276416,4602678819172646912)) :=
  valid_of O _ 350 hsS2 (spTape O x t 2 1 1 2 h1 h2 h3 h4 4625196817309499392 4503599627370496 (Int.negSucc 47) 16 (by kernel_rfl) (by kernel_rfl) 4 (by kernel_rfl)) [false, false, false, false, true] (fun w => [w.a 4]) (fun w => [(w.t 52), (w.t 40), (w.t 10)]) (fun _ => rfl) (fun _ => rfl) (fun ch κ w => by kernel_rfl)
theorem vSpot69 (O : VO V P b scr) (x : Int) (t : Tok) (h1 : x.fmod 3 = Int.ofNat 0) (h2 : (x.fdiv 3).fmod 3 = Int.ofNat 2) (h3 : (x.fdiv 9).fmod 3 = Int.ofNat 1) (h4 : (x.fdiv 27).fmod 3 = Int.ofNat 2) : Valid V (cSpotL (nmZ P) x t (4602678819172646912,4600427019358961664,4600427019358961664)) :=
  valid_of O _ 314 hsS0 (spTape O x t 0 2 1 2 h1 h2 h3 h4 4622945017495814144 6755399441055744 (Int.negSucc 48) 12 (by kernel_rfl) (by kernel_rfl) 0 (by kernel_rfl)) [false, false, false, false, true] (fun w => [w.a 4]) (fun w => [(w.t 10), (w.t 52), (w.t 40)]) (fun _ => rfl) (fun _ => rfl) (fun ch κ w => by kernel_rfl)
theorem vSpot70 (O : VO V P b scr) (x : Int) (t : Tok) (h1 : x.fmod 3 = Int.ofNat 1) (h2 : (x.fdiv 3).fmod 3 = Int.ofNat 2) (h3 : (x.fdiv 9).fmod 3 = Int.ofNat 1) (h4 : (x.fdiv 27).fmod 3 = Int.ofNat 2) : Valid V (cSpotL (nmZ P) x t (4600427019358961664,4602678819172646912,4600427019358961664)) :=
  valid_of O _ 332 hsS1 (spTape O x t 1 2 1 2 h1 h2 h3 h4 4624070917402656768 7881299347898368 (Int.negSucc 48) 14 (by kernel_rfl) (by kernel_rfl) 2 (by kernel_rfl)) [false, false, false, false, true] (fun w => [w.a 4]) (fun w => [(w.t 40), (w.t 10), (w.t 52)]) (fun _ => rfl) (fun _ => rfl) (fun ch κ w => by kernel_rfl)
theorem vSpot71 (O : VO V P b scr) (x : Int) (t : Tok) (h1 : x.fmod 3 = Int.ofNat 2) (h2 : (x.fdiv 3).fmod 3 = Int.ofNat 2) (h3 : (x.fdiv 9).fmod 3 = Int.ofNat 1) (h4 : (x.fdiv 27).fmod 3 = Int.ofNat 2) : Valid V (cSpotL (nmZ P) x t (4600427019358961664,4600427019358961664,4602678819172646912)) :=
  valid_of O _ 350 hsS2 (spTape O x t 2 2 1 2 h1 h2 h3 h4 4625196817309499392 4503599627370496 (Int.negSucc 47) 16 (by kernel_rfl) (by kernel_rfl) 4 (by kernel_rfl)) [false, false, false, false, true] (fun w => [w.a 4]) (fun w => [(w.t 52), (w.t 40), (w.t 10)]) (fun _ => rfl) (fun _ => rfl) (fun ch κ w => by kernel_rfl)
theorem vSpot72 (O : VO V P b scr) (x : Int) (t : Tok) (h1 : x.fmod 3 = Int.ofNat 0) (h2 : (x.fdiv 3).fmod 3 = Int.ofNat 0) (h3 : (x.fdiv 9).fmod 3 = Int.ofNat 2) (h4 : (x.fdiv 27).fmod 3 = Int.ofNat 2) : Valid V (cSpotL (nmZ P) x t (4598175219545276416,0,0)) :=
  valid_of O _ 314 hsS0 (spTape O x t 0 0 2 2 h1 h2 h3 h4 4622945017495814144 6755399441055744 (Int.negSucc 48) 12 (by kernel_rfl) (by kernel_rfl) 0 (by kernel_rfl)) [false, false, false, false, true] (fun w => [w.a 4]) (fun w => [(w.t 11), (w.t 52), (w.t 40)]) (fun _ => rfl) (fun _ => rfl) (fun ch κ w => by kernel_rfl)
theorem vSpot73 (O : VO V P b scr) (x : Int) (t : Tok) (h1 : x.fmod 3 = Int.ofNat 1) (h2 : (x.fdiv 3).fmod 3 = Int.ofNat 0) (h3 : (x.fdiv 9).fmod 3 = Int.ofNat 2) (h4 : (x.fdiv 27).fmod 3 = Int.ofNat 2) : Valid V (cSpotL (nmZ P) x t (0,4598175219545276416,0)) :=
  valid_of O _ 332 hsS1 (spTape O x t 1 0 2 2 h1 h2 h3 h4 4624070917402656768 7881299347898368 (Int.negSucc 48) 14 (by kernel_rfl) (by kernel_rfl) 2 (by kernel_rfl)) [false, false, false, false, true] (fun w => [w.a 4]) (fun w => [(w.t 40), (w.t 11), (w.t 52)]) (fun _ => rfl) (fun _ => rfl) (fun ch κ w => by kernel_rfl)
theorem vSpot74 (O : VO V P b scr) (x : Int) (t : Tok) (h1 : x.fmod 3 = Int.ofNat 2) (h2 : (x.fdiv 3).fmod 3 = Int.ofNat 0) (h3 : (x.fdiv 9).fmod 3 = Int.ofNat 2) (h4 : (x.fdiv 27).fmod 3 = Int.ofNat 2) : Valid V (cSpotL (nmZ P) x t (0,0,4598175219545276416)) :=
  valid_of O _ 350 hsS2 (spTape O x t 2 0 2 2 h1 h2 h3 h4 4625196817309499392 4503599627370496 (Int.negSucc 47) 16 (by kernel_rfl) (by kernel_rfl) 4 (by kernel_rfl)) [false, false, false, false, true] (fun w => [w.a 4]) (fun w => [(w.t 52), (w.t 40), (w.t 11)]) (fun _ => rfl) (fun _ => rfl) (fun ch κ w => by kernel_rfl)
theorem vSpot75 (O : VO V P b scr) (x : Int) (t : Tok) (h1 : x.fmod 3 = Int.ofNat 0) (h2 : (x.fdiv 3).fmod 3 = Int.ofNat 1) (h3 : (x.fdiv 9).fmod 3 = Int.ofNat 2) (h4 : (x.fdiv 27).fmod 3 = Int.ofNat 2) : Valid V (cSpotL (nmZ P) x t (4598175219545276416,4593671619917905920,4593671619917905920)) :=
  valid_of O _ 314 hsS0 (spTape O x t 0 1 2 2 h1 h2 h3 h4 4622945017495814144 6755399441055744 (Int.negSucc 48) 12 (by kernel_rfl) (by kernel_rfl) 0 (by kernel_rfl)) [false, false, false, false, true] (fun w => [w.a 4]) (fun w => [(w.t 11), (w.t 52), (w.t 40)]) (fun _ => rfl) (fun _ => rfl) (fun ch κ w => by kernel_rfl)
theorem vSpot76 (O : VO V P b scr) (x : Int) (t : Tok) (h1 : x.fmod 3 = Int.ofNat 1) (h2 : (x.fdiv 3).fmod 3 = Int.ofNat 1) (h3 : (x.fdiv 9).fmod 3 = Int.ofNat 2) (h4 : (x.fdiv 27).fmod 3 = Int.ofNat 2) : Valid V (cSpotL (nmZ P) x t (4593671619917905920,4598175219545276416,4593671619917905920)) :=
  valid_of O _ 332 hsS1 (spTape O x t 1 1 2 2 h1 h2 h3 h4 4624070917402656768 7881299347898368 (Int.negSucc 48) 14 (by kernel_rfl) (by kernel_rfl) 2 (by kernel_rfl)) [false, false, false, false, true] (fun w => [w.a 4]) (fun w => [(w.t 40), (w.t 11), (w.t 52)]) (fun _ => rfl) (fun _ => rfl) (fun ch κ w => by kernel_rfl)
theorem vSpot77 (O : VO V P b scr) (x : Int) (t : Tok) (h1 : x.fmod 3 = Int.ofNat 2) (h2 : (x.fdiv 3).fmod 3 = Int.ofNat 1) (h3 : (x.fdiv 9).fmod 3 = Int.ofNat 2) (h4 : (x.fdiv 27).fmod 3 = Int.ofNat 2) : Valid V (cSpotL (nmZ P) x t (4593671619917905920,4593671619917905920,4598175219545276416)) :=
  valid_of O _ 350 hsS2 (spTape O x t 2 1 2 2 h1 h2 h3 h4 4625196817309499392 4503599627370496 (Int.negSucc 47) 16 (by kernel_rfl) (by kernel_rfl) 4 (by kernel_rfl)) [false, false, false, false, true] (fun w => [w.a 4]) (fun w => [(w.t 52), (w.t 40), (w.t 11)]) (fun _ => rfl) (fun _ => rfl) (fun ch κ w => by kernel_rfl)
theorem vSpot78 (O : VO V P b scr) (x : Int) (t : Tok) (h1 : x.fmod 3 = Int.ofNat 0) (h2 : (x.fdiv 3).fmod 3 = Int.ofNat 2) (h3 : (x.fdiv 9).fmod 3 = Int.ofNat 2) (h4 : (x.fdiv 27).fmod 3 = Int.ofNat 2) : Valid V (cSpotL (nmZ P) x t (4598175219545276416,4595923419731591168,4595923419731591168)) :=
  valid_of O _ 314 hsS0 (spTape O x t 0 2 2 2 h1 h2 h3 h4 4622945017495814144 6755399441055744 (Int.negSucc 48) 12 (by kernel_rfl) (by kernel_rfl) 0 (by kernel_rfl)) [false, false, false, false, true] (fun w => [w.a 4]) (fun w => [(w.t 11), (w.t 52), (w.t 40)]) (fun _ => rfl) (fun _ => rfl) (fun ch κ w => by kernel_rfl)
theorem vSpot79 (O : VO V P b scr) (x : Int) (t : Tok) (h1 : x.fmod 3 = Int.ofNat 1) (h2 : (x.fdiv 3).fmod 3 = Int.ofNat 2) (h3 : (x.fdiv 9).fmod 3 = Int.ofNat 2) (h4 : (x.fdiv 27).fmod 3 = Int.ofNat 2) : Valid V (cSpotL (nmZ P) x t (4595923419731591168,4598175219545276416,4595923419731591168)) :=
  valid_of O _ 332 hsS1 (spTape O x t 1 2 2 2 h1 h2 h3 h4 4624070917402656768 7881299347898368 (Int.negSucc 48) 14 (by kernel_rfl) (by kernel_rfl) 2 (by kernel_rfl)) [false, false, false, false, true] (fun w => [w.a 4]) (fun w => [(w.t 40), (w.t 11), (w.t 52)]) (fun _ => rfl) (fun _ => rfl) (fun ch κ w => by kernel_rfl)
theorem vSpot80 (O : VO V P b scr) (x : Int) (t : Tok) (h1 : x.fmod 3 = Int.ofNat 2) (h2 : (x.fdiv 3).fmod 3 = Int.ofNat 2) (h3 : (x.fdiv 9).fmod 3 = Int.ofNat 2) (h4 : (x.fdiv 27).fmod 3 = Int.ofNat 2) : Valid V (cSpotL (nmZ P) x t (4595923419731591168,4595923419731591168,4598175219545276416)) :=
  valid_of O _ 350 hsS2 (spTape O x t 2 2 2 2 h1 h2 h3 h4 4625196817309499392 4503599627370496 (Int.negSucc 47) 16 (by kernel_rfl) (by kernel_rfl) 4 (by kernel_rfl)) [false, false, false, false, true] (fun w => [w.a 4]) (fun w => [(w.t 52), (w.t 40), (w.t 11)]) (fun _ => rfl) (fun _ => rfl) (fun ch κ w => by kernel_rfl)
theorem vHue0 (O : VO V P b scr) (a : Addr) (t0 t1 t2 : Tok) : Valid V (cHueL (nmZ P) a (4607182418800017408,0,0) t0 t1 t2 (Int.ofNat 0)) :=
  valid_of O _ 546 hsS3 [(42,[], fun w => ⟨_, vInt O 4602678819172646912 (w.t 39) false 4503599627370496 (Int.negSucc 52) (Int.ofNat 0) (by kernel_rfl) (by kernel_rfl)⟩), (1,[], fun w => ⟨_, vMod O (Int.ofNat 0) (w.t 40) 2 (w.t 41) (Int.ofNat 0) (by kernel_rfl)⟩)] [true] (fun w => []) (fun w => [w.t 42]) (fun _ => rfl) (fun _ => rfl) (fun ch κ w => by kernel_rfl)
theorem vHue1 (O : VO V P b scr) (a : Addr) (t0 t1 t2 : Tok) : Valid V (cHueL (nmZ P) a (0,4607182418800017408,0) t0 t1 t2 (Int.ofNat 1)) :=
  valid_of O _ 562 hsS4 [(44,[], fun w => ⟨_, vInt O 4609434218613702656 (w.t 41) false 6755399441055744 (Int.negSucc 51) (Int.ofNat 1) (by kernel_rfl) (by kernel_rfl)⟩), (1,[], fun w => ⟨_, vMod O (Int.ofNat 1) (w.t 42) 2 (w.t 43) (Int.ofNat 1) (by kernel_rfl)⟩)] [true] (fun w => []) (fun w => [w.t 44]) (fun _ => rfl) (fun _ => rfl) (fun ch κ w => by kernel_rfl)
theorem vHue2 (O : VO V P b scr) (a : Addr) (t0 t1 t2 : Tok) : Valid V (cHueL (nmZ P) a (0,0,4607182418800017408) t0 t1 t2 (Int.ofNat 2)) :=
  valid_of O _ 562 hsS5 [(44,[], fun w => ⟨_, vInt O 4612811918334230528 (w.t 41) false 5629499534213120 (Int.negSucc 50) (Int.ofNat 2) (by kernel_rfl) (by kernel_rfl)⟩), (1,[], fun w => ⟨_, vMod O (Int.ofNat 2) (w.t 42) 2 (w.t 43) (Int.ofNat 2) (by kernel_rfl)⟩)] [true] (fun w => []) (fun w => [w.t 44]) (fun _ => rfl) (fun _ => rfl) (fun ch κ w => by kernel_rfl)
theorem vHue3 (O : VO V P b scr) (a : Addr) (t0 t1 t2 : Tok) : Valid V (cHueL (nmZ P) a (4607182418800017408,4602678819172646912,4602678819172646912) t0 t1 t2 (Int.ofNat 0)) :=
  valid_of O _ 559 hsS6 [(44,[], fun w => ⟨_, vInt O 4602678819172646912 (w.t 42) false 4503599627370496 (Int.negSucc 52) (Int.ofNat 0) (by kernel_rfl) (by kernel_rfl)⟩), (1,[], fun w => ⟨_, vMod O (Int.ofNat 0) (w.t 43) 2 (w.t 44) (Int.ofNat 0) (by kernel_rfl)⟩)] [true] (fun w => []) (fun w => [w.t 45]) (fun _ => rfl) (fun _ => rfl) (fun ch κ w => by kernel_rfl)
theorem vHue4 (O : VO V P b scr) (a : Addr) (t0 t1 t2 : Tok) : Valid V (cHueL (nmZ P) a (4602678819172646912,4607182418800017408,4602678819172646912) t0 t1 t2 (Int.ofNat 1)) :=
  valid_of O _ 575 hsS7 [(46,[], fun w => ⟨_, vInt O 4609434218613702656 (w.t 44) false 6755399441055744 (Int.negSucc 51) (Int.ofNat 1) (by kernel_rfl) (by kernel_rfl)⟩), (1,[], fun w => ⟨_, vMod O (Int.ofNat 1) (w.t 45) 2 (w.t 46) (Int.ofNat 1) (by kernel_rfl)⟩)] [true] (fun w => []) (fun w => [w.t 47]) (fun _ => rfl) (fun _ => rfl) (fun ch κ w => by kernel_rfl)
theorem vHue5 (O : VO V P b scr) (a : Addr) (t0 t1 t2 : Tok) : Valid V (cHueL (nmZ P) a (4602678819172646912,4602678819172646912,4607182418800017408) t0 t1 t2 (Int.ofNat 2)) :=
  valid_of O _ 575 hsS8 [(46,[], fun w => ⟨_, vInt O 4612811918334230528 (w.t 44) false 5629499534213120 (Int.negSucc 50) (Int.ofNat 2) (by kernel_rfl) (by kernel_rfl)⟩), (1,[], fun w => ⟨_, vMod O (Int.ofNat 2) (w.t 45) 2 (w.t 46) (Int.ofNat 2) (by kernel_rfl)⟩)] [true] (fun w => []) (fun w => [w.t 47]) (fun _ => rfl) (fun _ => rfl) (fun ch κ w => by kernel_rfl)
theorem vHue6 (O : VO V P b scr) (a : Addr) (t0 t1 t2 : Tok) : Valid V (cHueL (nmZ P) a (4607182418800017408,4604930618986332160,4604930618986332160) t0 t1 t2 (Int.ofNat 0)) :=
  valid_of O _ 559 hsS6 [(44,[], fun w => ⟨_, vInt O 4602678819172646912 (w.t 42) false 4503599627370496 (Int.negSucc 52) (Int.ofNat 0) (by kernel_rfl) (by kernel_rfl)⟩), (1,[], fun w => ⟨_, vMod O (Int.ofNat 0) (w.t 43) 2 (w.t 44) (Int.ofNat 0) (by kernel_rfl)⟩)] [true] (fun w => []) (fun w => [w.t 45]) (fun _ => rfl) (fun _ => rfl) (fun ch κ w => by kernel_rfl)
theorem vHue7 (O : VO V P b scr) (a : Addr) (t0 t1 t2 : Tok) : Valid V (cHueL (nmZ P) a (4604930618986332160,4607182418800017408,4604930618986332160) t0 t1 t2 (Int.ofNat 1)) :=
  valid_of O _ 575 hsS7 [(46,[], fun w => ⟨_, vInt O 4609434218613702656 (w.t 44) false 6755399441055744 (Int.negSucc 51) (Int.ofNat 1) (by kernel_rfl) (by kernel_rfl)⟩), (1,[], fun w => ⟨_, vMod O (Int.ofNat 1) (w.t 45) 2 (w.t 46) (Int.ofNat 1) (by kernel_rfl)⟩)] [true] (fun w => []) (fun w => [w.t 47]) (fun _ => rfl) (fun _ => rfl) (fun ch κ w => by kernel_rfl)
theorem vHue8 (O : VO V P b scr) (a : Addr) (t0 t1 t2 : Tok) : Valid V (cHueL (nmZ P) a (4604930618986332160,4604930618986332160,4607182418800017408) t0 t1 t2 (Int.ofNat 2)) :=
  valid_of O _ 575 hsS8 [(46,[], fun w => ⟨_, vInt O 4612811918334230528 (w.t 44) false 5629499534213120 (Int.negSucc 50) (Int.ofNat 2) (by kernel_rfl) (by kernel_rfl)⟩), (1,[], fun w => ⟨_, vMod O (Int.ofNat 2) (w.t 45) 2 (w.t 46) (Int.ofNat 2) (by kernel_rfl)⟩)] [true] (fun w => []) (fun w => [w.t 47]) (fun _ => rfl) (fun _ => rfl) (fun ch κ w => by kernel_rfl)
theorem vHue9 (O : VO V P b scr) (a : Addr) (t0 t1 t2 : Tok) : Valid V (cHueL (nmZ P) a (4602678819172646912,0,0) t0 t1 t2 (Int.ofNat 0)) :=
  valid_of O _ 546 hsS3 [(42,[], fun w => ⟨_, vInt O 4602678819172646912 (w.t 39) false 4503599627370496 (Int.negSucc 52) (Int.ofNat 0) (by kernel_rfl) (by kernel_rfl)⟩), (1,[], fun w => ⟨_, vMod O (Int.ofNat 0) (w.t 40) 2 (w.t 41) (Int.ofNat 0) (by kernel_rfl)⟩)] [true] (fun w => []) (fun w => [w.t 42]) (fun _ => rfl) (fun _ => rfl) (fun ch κ w => by kernel_rfl)
theorem vHue10 (O : VO V P b scr) (a : Addr) (t0 t1 t2 : Tok) : Valid V (cHueL (nmZ P) a (0,4602678819172646912,0) t0 t1 t2 (Int.ofNat 1)) :=
  valid_of O _ 562 hsS4 [(44,[], fun w => ⟨_, vInt O 4609434218613702656 (w.t 41) false 6755399441055744 (Int.negSucc 51) (Int.ofNat 1) (by kernel_rfl) (by kernel_rfl)⟩), (1,[], fun w => ⟨_, vMod O (Int.ofNat 1) (w.t 42) 2 (w.t 43) (Int.ofNat 1) (by kernel_rfl)⟩)] [true] (fun w => []) (fun w => [w.t 44]) (fun _ => rfl) (fun _ => rfl) (fun ch κ w => by kernel_rfl)
theorem vHue11 (O : VO V P b scr) (a : Addr) (t0 t1 t2 : Tok) : Valid V (cHueL (nmZ P) a (0,0,4602678819172646912) t0 t1 t2 (Int.ofNat 2)) :=
  valid_of O _ 562 hsS5 [(44,[], fun w => ⟨_, vInt O 4612811918334230528 (w.t 41) false 5629499534213120 (Int.negSucc 50) (Int.ofNat 2) (by kernel_rfl) (by kernel_rfl)⟩), (1,[], fun w => ⟨_, vMod O (Int.ofNat 2) (w.t 42) 2 (w.t 43) (Int.ofNat 2) (by kernel_rfl)⟩)] [true] (fun w => []) (fun w => [w.t 44]) (fun _ => rfl) (fun _ => rfl) (fun ch κ w => by kernel_rfl)
theorem vHue12 (O : VO V P b scr) (a : Addr) (t0 t1 t2 : Tok) : Valid V (cHueL (nmZ P) a (4602678819172646912,4598175219545276416,4598175219545276416) t0 t1 t2 (Int.ofNat 0)) :=
  valid_of O _ 546 hsS3 [(42,[], fun w => ⟨_, vInt O 4602678819172646912 (w.t 39) false 4503599627370496 (Int.negSucc 52) (Int.ofNat 0) (by kernel_rfl) (by kernel_rfl)⟩), (1,[], fun w => ⟨_, vMod O (Int.ofNat 0) (w.t 40) 2 (w.t 41) (Int.ofNat 0) (by kernel_rfl)⟩)] [true] (fun w => []) (fun w => [w.t 42]) (fun _ => rfl) (fun _ => rfl) (fun ch κ w => by kernel_rfl)
theorem vHue13 (O : VO V P b scr) (a : Addr) (t0 t1 t2 : Tok) : Valid V (cHueL (nmZ P) a (4598175219545276416,4602678819172646912,4598175219545276416) t0 t1 t2 (Int.ofNat 1)) :=
  valid_of O _ 562 hsS4 [(44,[], fun w => ⟨_, vInt O 4609434218613702656 (w.t 41) false 6755399441055744 (Int.negSucc 51) (Int.ofNat 1) (by kernel_rfl) (by kernel_rfl)⟩), (1,[], fun w => ⟨_, vMod O (Int.ofNat 1) (w.t 42) 2 (w.t 43) (Int.ofNat 1) (by kernel_rfl)⟩)] [true] (fun w => []) (fun w => [w.t 44]) (fun _ => rfl) (fun _ => rfl) (fun ch κ w => by kernel_rfl)
theorem vHue14 (O : VO V P b scr) (a : Addr) (t0 t1 t2 : Tok) : Valid V (cHueL (nmZ P) a (4598175219545276416,4598175219545276416,4602678819172646912) t0 t1 t2 (Int.ofNat 2)) :=
  valid_of O _ 562 hsS5 [(44,[], fun w => ⟨_, vInt O 4612811918334230528 (w.t 41) false 5629499534213120 (Int.negSucc 50) (Int.ofNat 2) (by kernel_rfl) (by kernel_rfl)⟩), (1,[], fun w => ⟨_, vMod O (Int.ofNat 2) (w.t 42) 2 (w.t 43) (Int.ofNat 2) (by kernel_rfl)⟩)] [true] (fun w => []) (fun w => [w.t 44]) (fun _ => rfl) (fun _ => rfl) (fun ch κ w => by kernel_rfl)
theorem vHue15 (O : VO V P b scr) (a : Addr) (t0 t1 t2 : Tok) : Valid V (cHueL (nmZ P) a (4602678819172646912,4600427019358961664,4600427019358961664) t0 t1 t2 (Int.ofNat 0)) :=
  valid_of O _ 546 hsS3 [(42,[], fun w => ⟨_, vInt O 4602678819172646912 (w.t 39) false 4503599627370496 (Int.negSucc 52) (Int.ofNat 0) (by kernel_rfl) (by kernel_rfl)⟩), (1,[], fun w => ⟨_, vMod O (Int.ofNat 0) (w.t 40) 2 (w.t 41) (Int.ofNat 0) (by kernel_rfl)⟩)] [true] (fun w => []) (fun w => [w.t 42]) (fun _ => rfl) (fun _ => rfl) (fun ch κ w => by kernel_rfl)
theorem vHue16 (O : VO V P b scr) (a : Addr) (t0 t1 t2 : Tok) : Valid V (cHueL (nmZ P) a (4600427019358961664,4602678819172646912,4600427019358961664) t0 t1 t2 (Int.ofNat 1)) :=
  valid_of O _ 562 hsS4 [(44,[], fun w => ⟨_, vInt O 4609434218613702656 (w.t 41) false 6755399441055744 (Int.negSucc 51) (Int.ofNat 1) (by kernel_rfl) (by kernel_rfl)⟩), (1,[], fun w => ⟨_, vMod O (Int.ofNat 1) (w.t 42) 2 (w.t 43) (Int.ofNat 1) (by kernel_rfl)⟩)] [true] (fun w => []) (fun w => [w.t 44]) (fun _ => rfl) (fun _ => rfl) (fun ch κ w => by kernel_rfl)
theorem vHue17 (O : VO V P b scr) (a : Addr) (t0 t1 t2 : Tok) : Valid V (cHueL (nmZ P) a (4600427019358961664,4600427019358961664,4602678819172646912) t0 t1 t2 (Int.ofNat 2)) :=
  valid_of O _ 562 hsS5 [(44,[], fun w => ⟨_, vInt O 4612811918334230528 (w.t 41) false 5629499534213120 (Int.negSucc 50) (Int.ofNat 2) (by kernel_rfl) (by kernel_rfl)⟩), (1,[], fun w => ⟨_, vMod O (Int.ofNat 2) (w.t 42) 2 (w.t 43) (Int.ofNat 2) (by kernel_rfl)⟩)] [true] (fun w => []) (fun w => [w.t 44]) (fun _ => rfl) (fun _ => rfl) (fun ch κ w => by kernel_rfl)
theorem vHue18 (O : VO V P b scr) (a : Addr) (t0 t1 t2 : Tok) : Valid V (cHueL (nmZ P) a (4598175219545276416,0,0) t0 t1 t2 (Int.ofNat 0)) :=
  valid_of O _ 546 hsS3 [(42,[], fun w => ⟨_, vInt O 4602678819172646912 (w.t 39) false 4503599627370496 (Int.negSucc 52) (Int.ofNat 0) (by kernel_rfl) (by kernel_rfl)⟩), (1,[], fun w => ⟨_, vMod O (Int.ofNat 0) (w.t 40) 2 (w.t 41) (Int.ofNat 0) (by kernel_rfl)⟩)] [true] (fun w => []) (fun w => [w.t 42]) (fun _ => rfl) (fun _ => rfl) (fun ch κ w => by kernel_rfl)
theorem vHue19 (O : VO V P b scr) (a : Addr) (t0 t1 t2 : Tok) : Valid V (cHueL (nmZ P) a (0,4598175219545276416,0) t0 t1 t2 (Int.ofNat 1)) :=
  valid_of O _ 562 hsS4 [(44,[], fun w => ⟨_, vInt O 4609434218613702656 (w.t 41) false 6755399441055744 (Int.negSucc 51) (Int.ofNat 1) (by kernel_rfl) (by kernel_rfl)⟩), (1,[], fun w => ⟨_, vMod O (Int.ofNat 1) (w.t 42) 2 (w.t 43) (Int.ofNat 1) (by kernel_rfl)⟩)] [true] (fun w => []) (fun w => [w.t 44]) (fun _ => rfl) (fun _ => rfl) (fun ch κ w => by kernel_rfl)
theorem vHue20 (O : VO V P b scr) (a : Addr) (t0 t1 t2 : Tok) : Valid V (cHueL (nmZ P) a (0,0,4598175219545276416) t0 t1 t2 (Int.ofNat 2)) :=
  valid_of O _ 562 hsS5 [(44,[], fun w => ⟨_, vInt O 4612811918334230528 (w.t 41) false 5629499534213120 (Int.negSucc 50) (Int.ofNat 2) (by kernel_rfl) (by kernel_rfl)⟩), (1,[], fun w => ⟨_, vMod O (Int.ofNat 2) (w.t 42) 2 (w.t 43) (Int.ofNat 2) (by kernel_rfl)⟩)] [true] (fun w => []) (fun w => [w.t 44]) (fun _ => rfl) (fun _ => rfl) (fun ch κ w => by kernel_rfl)
theorem vHue21 (O : VO V P b scr) (a : Addr) (t0 t1 t2 : Tok) : Valid V (cHueL (nmZ P) a (4598175219545276416,4593671619917905920,4593671619917905920) t0 t1 t2 (Int.ofNat 0)) :=
  valid_of O _ 546 hsS3 [(42,[], fun w => ⟨_, vInt O 4602678819172646912 (w.t 39) false 4503599627370496 (Int.negSucc 52) (Int.ofNat 0) (by kernel_rfl) (by kernel_rfl)⟩), (1,[], fun w => ⟨_, vMod O (Int.ofNat 0) (w.t 40) 2 (w.t 41) (Int.ofNat 0) (by kernel_rfl)⟩)] [true] (fun w => []) (fun w => [w.t 42]) (fun _ => rfl) (fun _ => rfl) (fun ch κ w => by kernel_rfl)
theorem vHue22 (O : VO V P b scr) (a : Addr) (t0 t1 t2 : Tok) : Valid V (cHueL (nmZ P) a (4593671619917905920,4598175219545276416,4593671619917905920) t0 t1 t2 (Int.ofNat 1)) :=
  valid_of O _ 562 hsS4 [(44,[], fun w => ⟨_, vInt O 4609434218613702656 (w.t 41) false 6755399441055744 (Int.negSucc 51) (Int.ofNat 1) (by kernel_rfl) (by kernel_rfl)⟩), (1,[], fun w => ⟨_, vMod O (Int.ofNat 1) (w.t 42) 2 (w.t 43) (Int.ofNat 1) (by kernel_rfl)⟩)] [true] (fun w => []) (fun w => [w.t 44]) (fun _ => rfl) (fun _ => rfl) (fun ch κ w => by kernel_rfl)
theorem vHue23 (O : VO V P b scr) (a : Addr) (t0 t1 t2 : Tok) : Valid V (cHueL (nmZ P) a (4593671619917905920,4593671619917905920,4598175219545276416) t0 t1 t2 (Int.ofNat 2)) :=
  valid_of O _ 562 hsS5 [(44,[], fun w => ⟨_, vInt O 4612811918334230528 (w.t 41) false 5629499534213120 (Int.negSucc 50) (Int.ofNat 2) (by kernel_rfl) (by kernel_rfl)⟩), (1,[], fun w => ⟨_, vMod O (Int.ofNat 2) (w.t 42) 2 (w.t 43) (Int.ofNat 2) (by kernel_rfl)⟩)] [true] (fun w => []) (fun w => [w.t 44]) (fun _ => rfl) (fun _ => rfl) (fun ch κ w => by kernel_rfl)
theorem vHue24 (O : VO V P b scr) (a : Addr) (t0 t1 t2 : Tok) : Valid V (cHueL (nmZ P) a (4598175219545276416,4595923419731591168,4595923419731591168) t0 t1 t2 (Int.ofNat 0)) :=
  valid_of O _ 546 hsS3 [(42,[], fun w => ⟨_, vInt O 4602678819172646912 (w.t 39) false 4503599627370496 (Int.negSucc 52) (Int.ofNat 0) (by kernel_rfl) (by kernel_rfl)⟩), (1,[], fun w => ⟨_, vMod O (Int.ofNat 0) (w.t 40) 2 (w.t 41) (Int.ofNat 0) (by kernel_rfl)⟩)] [true] (fun w => []) (fun w => [w.t 42]) (fun _ => rfl) (fun _ => rfl) (fun ch κ w => by kernel_rfl)
theorem vHue25 (O : VO V P b scr) (a : Addr) (t0 t1 t2 : Tok) : Valid V (cHueL (nmZ P) a (4595923419731591168,4598175219545276416,4595923419731591168) t0 t1 t2 (Int.ofNat 1)) :=
  valid_of O _ 562 hsS4 [(44,[], fun w => ⟨_, vInt O 4609434218613702656 (w.t 41) false 6755399441055744 (Int.negSucc 51) (Int.ofNat 1) (by kernel_rfl) (by kernel_rfl)⟩), (1,[], fun w => ⟨_, vMod O (Int.ofNat 1) (w.t 42) 2 (w.t 43) (Int.ofNat 1) (by kernel_rfl)⟩)] [true] (fun w => []) (fun w => [w.t 44]) (fun _ => rfl) (fun _ => rfl) (fun ch κ w => by kernel_rfl)
theorem vHue26 (O : VO V P b scr) (a : Addr) (t0 t1 t2 : Tok) : Valid V (cHueL (nmZ P) a (4595923419731591168,4595923419731591168,4598175219545276416) t0 t1 t2 (Int.ofNat 2)) :=
  valid_of O _ 562 hsS5 [(44,[], fun w => ⟨_, vInt O 4612811918334230528 (w.t 41) false 5629499534213120 (Int.negSucc 50) (Int.ofNat 2) (by kernel_rfl) (by kernel_rfl)⟩), (1,[], fun w => ⟨_, vMod O (Int.ofNat 2) (w.t 42) 2 (w.t 43) (Int.ofNat 2) (by kernel_rfl)⟩)] [true] (fun w => []) (fun w => [w.t 44]) (fun _ => rfl) (fun _ => rfl) (fun ch κ w => by kernel_rfl)
end
end Mine
namespace Mine
open PySem PySem.W PySem.W.X PySem.Spec PySem.Calls PyProof.Rows
section
variable {V : XV} {P : Params} {b : Bool} {scr : Obj}
noncomputable def Al (Q : Nat → Prop) (a n : Nat) : Prop := ∀ i, i < n → Q (a + i)
theorem Al.nil {Q : Nat → Prop} (a : Nat) : Al Q a 0 := fun i h => absurd h (Nat.not_lt_zero i)
theorem Al.cons {Q : Nat → Prop} (a n : Nat) (h : Q a) (t : Al Q (a + 1) n) : Al Q a (n + 1) := fun i hi => by
  cases i with
  | zero => exact h
  | succ i =>
    have z := t i (Nat.lt_of_succ_lt_succ hi)
    rw [Nat.add_assoc, Nat.add_comm 1 i] at z
    exact z
theorem Al.all {Q : Nat → Prop} {n : Nat} (h : Al Q 0 n) (r : Nat) (hr : r < n) : Q r := by
  have z := h r hr
  rw [Nat.zero_add] at z
  exact z
theorem vSpotAll (O : VO V P b scr) (x : Int) (t : Tok) : ∀ r : Nat, r < 81 → x.fmod 3 = Int.ofNat (r % 3) → (x.fdiv 3).fmod 3 = Int.ofNat (r / 3 % 3) → (x.fdiv 9).fmod 3 = Int.ofNat (r / 9 % 3) → (x.fdiv 27).fmod 3 = Int.ofNat (r / 27 % 3) → Valid V (cSpotL (nmZ P) x t (spotT.getD (r % 27) (0,0,0))) :=
  Al.all (Q := fun r => x.fmod 3 = Int.ofNat (r % 3) → (x.fdiv 3).fmod 3 = Int.ofNat (r / 3 % 3) → (x.fdiv 9).fmod 3 = Int.ofNat (r / 9 % 3) → (x.fdiv 27).fmod 3 = Int.ofNat (r / 27 % 3) → Valid V (cSpotL (nmZ P) x t (spotT.getD (r % 27) (0,0,0)))) (Al.cons 0 80 (vSpot0 O x t) (Al.cons 1 79 (vSpot1 O x t) (Al.cons 2 78 (vSpot2 O x t) (Al.cons 3 77 (vSpot3 O x t) (Al.cons 4 76 (vSpot4 O x t) (Al.cons 5 75 (vSpot5 O x t) (Al.cons 6 74 (vSpot6 O x t) (Al.cons 7 73 (vSpot7 O x t) (Al.cons 8 72 (vSpot8 O x t) (Al.cons 9 71 (vSpot9 O x t) (Al.cons 10 70 (vSpot10 O x t) (Al.cons 11 69 (vSpot11 O x t) (Al.cons 12 68 (vSpot12 O x t) (Al.cons 13 67 (vSpot13 O x t) (Al.cons 14 66 (vSpot14 O x t) (Al.cons 15 65 (vSpot15 O x t) (Al.cons 16 64 (vSpot16 O x t) (Al.cons 17 63 (vSpot17 O x t) (Al.cons 18 62 (vSpot18 O x t) (Al.cons 19 61 (vSpot19 O x t) (Al.cons 20 60 (vSpot20 O x t) (Al.cons 21 59 (vSpot21 O x t) (Al.cons 22 58 (vSpot22 O x t) (Al.cons 23 57 (vSpot23 O x t) (Al.cons 24 56 (vSpot24 O x t) (Al.cons 25 55 (vSpot25 O x t) (Al.cons 26 54 (vSpot26 O x t) (Al.cons 27 53 (vSpot27 O x t) (Al.cons 28 52 (vSpot28 O x t) (Al.cons 29 51 (vSpot29 O x t) (Al.cons 30 50 (vSpot30 O x t) (Al.cons 31 49 (vSpot31 O x t) (Al.cons 32 48 (vSpot32 O x t) (Al.cons 33 47 (vSpot33 O x t) (Al.cons 34 46 (vSpot34 O x t) (Al.cons 35 45 (vSpot35 O x t) (Al.cons 36 44 (vSpot36 O x t) (Al.cons 37 43 (vSpot37 O x t) (Al.cons 38 42 (vSpot38 O x t) (Al.cons 39 41 (vSpot39 O x t) (Al.cons 40 40 (vSpot40 O x t) (Al.cons 41 39 (vSpot41 O x t) (Al.cons 42 38 (vSpot42 O x t) (Al.cons 43 37 (vSpot43 O x t) (Al.cons 44 36 (vSpot44 O x t) (Al.cons 45 35 (vSpot45 O x t) (Al.cons 46 34 (vSpot46 O x t) (Al.cons 47 33 (vSpot47 O x t) (Al.cons 48 32 (vSpot48 O x t) (Al.cons 49 31 (vSpot49 O x t) (Al.cons 50 30 (vSpot50 O x t) (Al.cons 51 29 (vSpot51 O x t) (Al.cons 52 28 (vSpot52 O x t) (Al.cons 53 27 (vSpot53 O x t) (Al.cons 54 26 (vSpot54 O x t) (Al.cons 55 25 (vSpot55 O x t) (Al.cons 56 24 (vSpot56 O x t) (Al.cons 57 23 (vSpot57 O x t) (Al.cons 58 22 (vSpot58 O x t) (Al.cons 59 21 (vSpot59 O x t) (Al.cons 60 20 (vSpot60 O x t) (Al.cons 61 19 (vSpot61 O x t) (Al.cons 62 18 (vSpot62 O x t) (Al.cons 63 17 (vSpot63 O x t) (Al.cons 64 16 (vSpot64 O x t) (Al.cons 65 15 (vSpot65 O x t) (Al.cons 66 14 (vSpot66 O x t) (Al.cons 67 13 (vSpot67 O x t) (Al.cons 68 12 (vSpot68 O x t) (Al.cons 69 11 (vSpot69 O x t) (Al.cons 70 10 (vSpot70 O x t) (Al.cons 71 9 (vSpot71 O x t) (Al.cons 72 8 (vSpot72 O x t) (Al.cons 73 7 (vSpot73 O x t) (Al.cons 74 6 (vSpot74 O x t) (Al.cons 75 5 (vSpot75 O x t) (Al.cons 76 4 (vSpot76 O x t) (Al.cons 77 3 (vSpot77 O x t) (Al.cons 78 2 (vSpot78 O x t) (Al.cons 79 1 (vSpot79 O x t) (Al.cons 80 0 (vSpot80 O x t) (Al.nil 81))))))))))))))))))))))))))))))))))))))))))))))))))))))))))))))))))))))))))))))))))
theorem vHueAll (O : VO V P b scr) (a : Addr) (t0 t1 t2 : Tok) : ∀ r : Nat, r < 27 → Valid V (cHueL (nmZ P) a (spotT.getD r (0,0,0)) t0 t1 t2 (Int.ofNat (r % 3))) :=
  Al.all (Q := fun r => Valid V (cHueL (nmZ P) a (spotT.getD r (0,0,0)) t0 t1 t2 (Int.ofNat (r % 3)))) (Al.cons 0 26 (vHue0 O a t0 t1 t2) (Al.cons 1 25 (vHue1 O a t0 t1 t2) (Al.cons 2 24 (vHue2 O a t0 t1 t2) (Al.cons 3 23 (vHue3 O a t0 t1 t2) (Al.cons 4 22 (vHue4 O a t0 t1 t2) (Al.cons 5 21 (vHue5 O a t0 t1 t2) (Al.cons 6 20 (vHue6 O a t0 t1 t2) (Al.cons 7 19 (vHue7 O a t0 t1 t2) (Al.cons 8 18 (vHue8 O a t0 t1 t2) (Al.cons 9 17 (vHue9 O a t0 t1 t2) (Al.cons 10 16 (vHue10 O a t0 t1 t2) (Al.cons 11 15 (vHue11 O a t0 t1 t2) (Al.cons 12 14 (vHue12 O a t0 t1 t2) (Al.cons 13 13 (vHue13 O a t0 t1 t2) (Al.cons 14 12 (vHue14 O a t0 t1 t2) (Al.cons 15 11 (vHue15 O a t0 t1 t2) (Al.cons 16 10 (vHue16 O a t0 t1 t2) (Al.cons 17 9 (vHue17 O a t0 t1 t2) (Al.cons 18 8 (vHue18 O a t0 t1 t2) (Al.cons 19 7 (vHue19 O a t0 t1 t2) (Al.cons 20 6 (vHue20 O a t0 t1 t2) (Al.cons 21 5 (vHue21 O a t0 t1 t2) (Al.cons 22 4 (vHue22 O a t0 t1 t2) (Al.cons 23 3 (vHue23 O a t0 t1 t2) (Al.cons 24 2 (vHue24 O a t0 t1 t2) (Al.cons 25 1 (vHue25 O a t0 t1 t2) (Al.cons 26 0 (vHue26 O a t0 t1 t2) (Al.nil 27))))))))))))))))))))))))))))
noncomputable def hueOf (x : Int) : Nat := (x.fmod 3).toNat
noncomputable def cSpot (N : Nm) (x : Int) (t : Tok) : Con := cSpotL N x t (spotF x)
noncomputable def cHue (N : Nm) (a : Addr) (x : Int) (t0 t1 t2 : Tok) : Con := cHueL N a (spotF x) t0 t1 t2 (Int.ofNat (hueOf x))
theorem vSpot (O : VO V P b scr) (x : Int) (t : Tok) : Valid V (cSpot (nmZ P) x t) := by
  have e3 : (x).fmod 3 = (x) % 3 := Int.fmod_eq_emod_of_nonneg _ (by omega); have e27 : (x).fmod 27 = (x) % 27 := Int.fmod_eq_emod_of_nonneg _ (by omega)
  have d3 : (x).fdiv 3 = (x) / 3 := Int.fdiv_eq_ediv_of_nonneg _ (by omega); have d9 : (x).fdiv 9 = (x) / 9 := Int.fdiv_eq_ediv_of_nonneg _ (by omega); have d27 : (x).fdiv 27 = (x) / 27 := Int.fdiv_eq_ediv_of_nonneg _ (by omega)
  have f1 : (x / 3).fmod 3 = (x / 3) % 3 := Int.fmod_eq_emod_of_nonneg _ (by omega); have f2 : (x / 9).fmod 3 = (x / 9) % 3 := Int.fmod_eq_emod_of_nonneg _ (by omega); have f3 : (x / 27).fmod 3 = (x / 27) % 3 := Int.fmod_eq_emod_of_nonneg _ (by omega)
  obtain ⟨r, hr⟩ : ∃ r : Nat, x % 81 = (r : Int) := ⟨(x % 81).toNat, by omega⟩
  have z := vSpotAll O x t r (by omega) (by rw [e3]; show _ = ((r % 3 : Nat) : Int); omega) (by rw [d3, f1]; show _ = ((r / 3 % 3 : Nat) : Int); omega) (by rw [d9, f2]; show _ = ((r / 9 % 3 : Nat) : Int); omega) (by rw [d27, f3]; show _ = ((r / 27 % 3 : Nat) : Int); omega)
  have e : r % 27 = (x.fmod 27).toNat := by rw [e27]; omega
  rw [e] at z
  exact z
theorem vHue (O : VO V P b scr) (a : Addr) (x : Int) (t0 t1 t2 : Tok) : Valid V (cHue (nmZ P) a x t0 t1 t2) := by
  have e3 : (x).fmod 3 = (x) % 3 := Int.fmod_eq_emod_of_nonneg _ (by omega); have e27 : (x).fmod 27 = (x) % 27 := Int.fmod_eq_emod_of_nonneg _ (by omega)
  have z := vHueAll O a t0 t1 t2 (x.fmod 27).toNat (by rw [e27]; omega)
  have e : (x.fmod 27).toNat % 3 = hueOf x := by unfold hueOf; rw [e27, e3]; omega
  rw [e] at z
  exact z
theorem hueOf_lt (x : Int) : hueOf x < 3 := by
  have e3 : (x).fmod 3 = (x) % 3 := Int.fmod_eq_emod_of_nonneg _ (by omega)
  unfold hueOf; rw [e3]; omega
end
end Mine
namespace Mine
open PySem PySem.W PySem.W.X PySem.Spec PySem.Calls PyProof.Rows
section
variable {V : XV} {P : Params} {b : Bool} {scr : Obj}
theorem str_app (x y : List Nat) : (⟨⟨x⟩⟩ : Str) ++ (⟨⟨y⟩⟩ : Str) = ⟨⟨x ++ y⟩⟩ := by
  apply Str.ext'
  rw [Str.cps_append]
  first | rfl | simp
noncomputable def cAdd (x : List Nat) (t : Tok) (y : List Nat) (u : Tok) : Con := pureC (calB "str.__add__" [.str ⟨⟨x⟩⟩ t, .str ⟨⟨y⟩⟩ u]) 1 (fun θ => .str ⟨⟨x ++ y⟩⟩ (θ 0)) 900
theorem vAdd (x : List Nat) (t : Tok) (y : List Nat) (u : Tok) (h : x.length + y.length ≤ 100000) : Valid V (cAdd x t y u) := by
  intro ch c κ R g lv k hR K
  refine gCallWp fun hp i D => call_str_add (fun t' tk => ?_) (by show x.length + y.length ≤ sizeLine; rw [sizeLine_eq]; omega)
  have z := K (fun _ => 0) (fun j => if j = 0 then t' else 0) (fun _ _ => rfl) (fun j hj => if_neg (by have : 1 ≤ j := hj; omega)) hp tk (by simpa [cAdd, pureC, reput_nil, newL] using D)
  rw [str_app]
  exact z
noncomputable def sepN : Nat → Nat
  | 0 => 10
  | _ => 9
noncomputable def cSep (t : Tok) (e : Nat) (u : Tok) (c : Nat) : Con := pureC (calB "str.__getitem__" [.str ⟨⟨[10,9]⟩⟩ t, .int (Int.ofNat e) u]) 1 (fun θ => .str ⟨⟨[c]⟩⟩ (θ 0)) 900
theorem vSep (O : VO V P b scr) (t u : Tok) : ∀ e : Nat, e < 2 → Valid V (cSep t e u (sepN e))
  | 0, _ => valid_of O _ 2 [] [] [] (fun w => []) (fun w => [w.t 0]) (fun _ => rfl) (fun _ => rfl) (fun ch κ w => by kernel_rfl)
  | 1, _ => valid_of O _ 2 [] [] [] (fun w => []) (fun w => [w.t 0]) (fun _ => rfl) (fun _ => rfl) (fun ch κ w => by kernel_rfl)
  | _ + 2, h => absurd h (by omega)
noncomputable def wr (c q : Nat) : List Nat := match q with
  | 0 => [92, c]
  | _ => match (Nat.beq c 34 || Nat.beq c 92) with
    | true => [34,92, c, 34]
    | false => [34, c, 34]
noncomputable def cWr (c : Nat) (t : Tok) (q : Nat) (u : Tok) : Con := pureC (.call (.ref 119) ⟨[.str ⟨⟨[c]⟩⟩ t, .int (Int.ofNat q) u],[]⟩) 1 (fun θ => .str ⟨⟨wr c q⟩⟩ (θ 0)) 700
theorem vWr0 (O : VO V P b scr) (c : Nat) (t u : Tok) : Valid V (cWr c t 0 u) := valid_of O _ 30 [0,0,1,1,1,1,0,0,1,1] [] [] (fun w => []) (fun w => [w.t 3]) (fun _ => rfl) (fun _ => rfl) (fun ch κ w => by kernel_rfl)
theorem vWr1 (O : VO V P b scr) (t u : Tok) : ∀ e : Nat, e < 8 → Valid V (cWr (ringN e) t 1 u)
  | 0, _ => valid_of O _ 44 [0,0,1,1,1,1,0,0,1,1,1] [] [] (fun w => []) (fun w => [w.t 6]) (fun _ => rfl) (fun _ => rfl) (fun ch κ w => by kernel_rfl)
  | 1, _ => valid_of O _ 44 [0,0,1,1,1,1,0,0,1,1,1] [] [] (fun w => []) (fun w => [w.t 6]) (fun _ => rfl) (fun _ => rfl) (fun ch κ w => by kernel_rfl)
  | 2, _ => valid_of O _ 44 [0,0,1,1,1,1,0,0,1,1,1] [] [] (fun w => []) (fun w => [w.t 6]) (fun _ => rfl) (fun _ => rfl) (fun ch κ w => by kernel_rfl)
  | 3, _ => valid_of O _ 44 [0,0,1,1,1,1,0,0,1,1,1] [] [] (fun w => []) (fun w => [w.t 6]) (fun _ => rfl) (fun _ => rfl) (fun ch κ w => by kernel_rfl)
  | 4, _ => valid_of O _ 44 [0,0,1,1,1,1,0,0,1,1,1] [] [] (fun w => []) (fun w => [w.t 6]) (fun _ => rfl) (fun _ => rfl) (fun ch κ w => by kernel_rfl)
  | 5, _ => valid_of O _ 44 [0,0,1,1,1,1,0,0,1,1,1] [] [] (fun w => []) (fun w => [w.t 6]) (fun _ => rfl) (fun _ => rfl) (fun ch κ w => by kernel_rfl)
  | 6, _ => valid_of O _ 44 [0,0,1,1,1,1,0,0,1,1,1] [] [] (fun w => []) (fun w => [w.t 6]) (fun _ => rfl) (fun _ => rfl) (fun ch κ w => by kernel_rfl)
  | 7, _ => valid_of O _ 44 [0,0,1,1,1,1,0,0,1,1,1] [] [] (fun w => []) (fun w => [w.t 6]) (fun _ => rfl) (fun _ => rfl) (fun ch κ w => by kernel_rfl)
  | _ + 8, h => absurd h (by omega)
noncomputable def Rg (c : Nat) : Prop := ∃ e, e < 8 ∧ c = ringN e
theorem vWr (O : VO V P b scr) (c : Nat) (t : Tok) (q : Nat) (u : Tok) (hc : Rg c) (hq : q < 2) : Valid V (cWr c t q u) := by
  obtain ⟨e, he, rfl⟩ := hc
  match q, hq with
  | 0, _ => exact vWr0 O _ t u
  | 1, _ => exact vWr1 O t u e he
theorem wr_len (c q : Nat) : (wr c q).length ≤ 4 := by
  unfold wr
  split
  · simp
  · split <;> simp
noncomputable def qOf (x : Int) : Nat := ((x.fdiv 81).fmod 2).toNat
noncomputable def sOf (x : Int) : Nat := ((x.fdiv 162).fmod 2).toNat
theorem two_of (x : Int) : x.fmod 2 = Int.ofNat (x.fmod 2).toNat ∧ (x.fmod 2).toNat < 2 := by
  have e : x.fmod 2 = x % 2 := Int.fmod_eq_emod_of_nonneg _ (by omega)
  rw [e]
  refine ⟨?_, by omega⟩
  rw [Int.ofNat_eq_natCast]; omega
noncomputable def pc (L : Nat → Nat) (X : Nat → Int) (k : Nat) : List Nat := wr (L (hueOf (X k))) (qOf (X k))
noncomputable def txt (L : Nat → Nat) (X : Nat → Int) : Nat → List Nat
  | 0 => []
  | k + 1 => (txt L X k ++ pc L X k) ++ [sepN (sOf (X k))]
theorem txt_len (L : Nat → Nat) (X : Nat → Int) (k : Nat) : (txt L X k).length ≤ 5 * k := by
  induction k with
  | zero => simp [txt]
  | succ k ih =>
    simp only [txt, List.length_append, List.length_cons, List.length_nil]
    have := wr_len (L (hueOf (X k))) (qOf (X k))
    unfold pc
    omega
theorem pc_len (L : Nat → Nat) (X : Nat → Int) (k : Nat) : (pc L X k).length ≤ 4 := wr_len _ _
end
end Mine
namespace Mine
open PySem PySem.W PySem.W.X PySem.Spec PySem.Calls PyProof.Rows
noncomputable def fdAt (o : Obj) : FuncData := match o.data with
  | .func fd => fd
  | _ => default
noncomputable def bodyOf (F : FuncData) : List Stmt := match F.body with
  | .stmts b => b
  | .expr _ => []
noncomputable def dropS : Nat → List Stmt → List Stmt
  | 0, l => l
  | _ + 1,[] => []
  | n + 1, _ :: l => dropS n l
noncomputable def envOf (c : Code) : Env := match c with
  | .func _ e => e
  | .expr _ e => e
  | _ => default
noncomputable def unpoint (t : Sem PySem.Fin) : Sem PySem.Fin := match t with
  | .point _ k => k ()
  | t => t
noncomputable def atS (F : FuncData) (self : Addr) (l : Lst) (j : Nat) : Sem PySem.Fin := unpoint (dn (.func (dropS j (bodyOf F)) (envOf (entryCode F self l))))
noncomputable def lawF (P : Params) : FuncData := fdAt (zo138 P)
noncomputable def cells (N : Nm) (ad : Nat → Addr) : Nat → List (Option Value) → Lst
  | _, [] => []
  | j, v :: vs => (ad j, celO N v) :: cells N ad (j + 1) vs
noncomputable def frame (N : Nm) (ad : Nat → Addr) (es : List (List Nat × Tok × Value)) (n : Nat) (vs : List (Option Value)) : Lst := (ad 0, frmO N es n) :: cells N ad 1 vs
end Mine
namespace Mine
open PySem PySem.W PySem.W.X PySem.Spec PySem.Calls PyProof.Rows
section
variable {V : XV} {P : Params} {b : Bool} {scr : Obj}
noncomputable def l1 (N : Nm) (ad : Nat → Addr) (tot : Int) (tk : Nat → Tok) : Lst := frame N ad [] 0 [some (.ref 139), some (.int tot (tk 0)), none, none, none, none, none, none, none, none, none]
theorem sA (O : VO V P b scr) {κ : Kont} (hR : Rm V κ 400) {vs : List Value} {ns : List Int} (hi : IntsAre vs ns) (hl : ∀ h ch R, Mm V h ch ([] ++ R) → h.IsList 139 vs.toArray) (R : Lst)
    (H : ∀ ad tk, G V [] (entryCode (lawF P) 138 (l1 (nmZ P) ad ns.sum tk)) κ (atS (lawF P) 138 (l1 (nmZ P) ad ns.sum tk) 1) (l1 (nmZ P) ad ns.sum tk ++ R)) :
    G V [] (.call (.ref 138) ⟨[.ref 139],[]⟩) κ (dn (.call (.ref 138) ⟨[.ref 139],[]⟩)) ([] ++ R) :=
  seg O hR 32 [0,0,2,2,0,0,0,0,2,3,3] [(0,[], fun w => ⟨_, vSum hi hl⟩)] [true, true, true, true, true, true, true, true, true, true, true, true]
    (c' := fun w => entryCode (lawF P) 138 (l1 (nmZ P) w.a ns.sum w.t)) (t' := fun w => atS (lawF P) 138 (l1 (nmZ P) w.a ns.sum w.t) 1) (l' := fun w => l1 (nmZ P) w.a ns.sum w.t) (ch' := fun _ => [])
    (fun w => by kernel_rfl) fun w => H w.a w.t
end
end Mine
namespace Mine
open PySem PySem.W PySem.W.X PySem.Spec PySem.Calls PyProof.Rows
noncomputable def ext (f : Nat → Nat) (n : Nat) (xs : List Nat) : Nat → Nat := fun j => match Nat.blt j n with
  | true => f j
  | false => nth xs (j - n)
noncomputable def ch1 (c : Nat) (t : Tok) : Value := .str ⟨⟨[c]⟩⟩ t
noncomputable def lettersO (N : Nm) (L : Nat → Nat) (tk : Nat → Tok) : Obj := lstO N [ch1 (L 0) (tk 1), ch1 (L 1) (tk 2), ch1 (L 2) (tk 3)] 3
noncomputable def spareO (N : Nm) (tk : Nat → Tok) : Obj := lstO N [.int 5 (tk 4), .int 0 (tk 5), .int 13 (tk 6), .int 7 (tk 7), .int 2 (tk 8), .int 40 (tk 9), .int 9 (tk 10), .int 1 (tk 11), .int 26 (tk 12), .int 3 (tk 13)] 0
noncomputable def l3 (N : Nm) (ad : Nat → Addr) (tot : Int) (tk : Nat → Tok) (L : Nat → Nat) : Lst :=
  frame N ad [] 0 [some (.ref 139), some (.int tot (tk 0)), some (.ref (ad 12)), some (.ref (ad 13)), none, none, none, none, none, none, none] ++ [(ad 12, lettersO N L tk), (ad 13, spareO N tk)]
section
variable {V : XV} {P : Params} {b : Bool} {scr : Obj}
theorem sB (O : VO V P b scr) {κ : Kont} (hR : Rm V κ 400) (ad tk : Nat → Nat) (tot : Int) (o : Nat) (hm : ∀ k : Nat, (tot.fdiv 3 + Int.ofNat k).fmod 8 = Int.ofNat ((o + k) % 8)) (R : Lst)
    (H : ∀ ad tk, G V [] (entryCode (lawF P) 138 (l3 (nmZ P) ad tot tk (fun k => ringN ((o + k) % 8)))) κ (atS (lawF P) 138 (l3 (nmZ P) ad tot tk (fun k => ringN ((o + k) % 8))) 3) (l3 (nmZ P) ad tot tk (fun k => ringN ((o + k) % 8)) ++ R)) :
    G V [] (entryCode (lawF P) 138 (l1 (nmZ P) ad tot tk)) κ (atS (lawF P) 138 (l1 (nmZ P) ad tot tk) 1) (l1 (nmZ P) ad tot tk ++ R) := by
  have ho : ∀ k : Nat, (o + k) % 8 < 8 := fun k => Nat.mod_lt _ (by omega)
  exact seg O hR 224 (hsD 78 9068566004682264742265244563321454459679698868369817270895722784054061470195757411563389176253679505197219336417964409744454576428744916112904561488217893087952896)
    [(5,[], fun w => ⟨_, vDiv O tot (tk 0) 2 (w.t 6) (tot.fdiv 3) rfl (PyProof.noPylong_small (by decide +kernel))⟩), (1,[], fun w => ⟨_, vMod O (tot.fdiv 3 + Int.ofNat 0) (w.t 8) 7 (w.t 9) (Int.ofNat ((o + 0) % 8)) (hm 0)⟩), (0,[], fun w => ⟨_, vRing O (w.t 5) (w.t 10) ((o + 0) % 8) (ho 0)⟩), (2,[], fun w => ⟨_, vDiv O tot (tk 0) 2 (w.t 15) (tot.fdiv 3) rfl (PyProof.noPylong_small (by decide +kernel))⟩), (1,[], fun w => ⟨_, vMod O (tot.fdiv 3 + Int.ofNat 1) (w.t 17) 7 (w.t 18) (Int.ofNat ((o + 1) % 8)) (hm 1)⟩), (0,[], fun w => ⟨_, vRing O (w.t 14) (w.t 19) ((o + 1) % 8) (ho 1)⟩), (2,[], fun w => ⟨_, vDiv O tot (tk 0) 2 (w.t 24) (tot.fdiv 3) rfl (PyProof.noPylong_small (by decide +kernel))⟩), (1,[], fun w => ⟨_, vMod O (tot.fdiv 3 + Int.ofNat 2) (w.t 26) 7 (w.t 27) (Int.ofNat ((o + 2) % 8)) (hm 2)⟩), (0,[], fun w => ⟨_, vRing O (w.t 23) (w.t 28) ((o + 2) % 8) (ho 2)⟩)]
    [true, true, true, true, true, true, true, true, true, true, true, true, false, false, true, false, false, false, true]
    (c' := fun w => entryCode (lawF P) 138 (l3 (nmZ P) (ext ad 12 [w.a 2, w.a 6]) tot (ext tk 1 [w.t 11, w.t 20, w.t 29, w.t 30, w.t 31, w.t 32, w.t 33, w.t 34, w.t 35, w.t 36, w.t 37, w.t 38, w.t 39]) (fun k => ringN ((o + k) % 8))))
    (t' := fun w => atS (lawF P) 138 (l3 (nmZ P) (ext ad 12 [w.a 2, w.a 6]) tot (ext tk 1 [w.t 11, w.t 20, w.t 29, w.t 30, w.t 31, w.t 32, w.t 33, w.t 34, w.t 35, w.t 36, w.t 37, w.t 38, w.t 39]) (fun k => ringN ((o + k) % 8))) 3)
    (l' := fun w => l3 (nmZ P) (ext ad 12 [w.a 2, w.a 6]) tot (ext tk 1 [w.t 11, w.t 20, w.t 29, w.t 30, w.t 31, w.t 32, w.t 33, w.t 34, w.t 35, w.t 36, w.t 37, w.t 38, w.t 39]) (fun k => ringN ((o + k) % 8))) (ch' := fun _ => [])
    (fun w => by kernel_rfl) fun w => H _ _
end
end Mine
namespace Mine
open PySem PySem.W PySem.W.X PySem.Spec PySem.Calls PyProof.Rows
noncomputable def LG (V : XV) (P : Params) (κ : Kont) (R : Lst) (ch : Ch) (l : Lst) (j : Nat) : Prop := G V ch (entryCode (lawF P) 138 l) κ (atS (lawF P) 138 l j) (l ++ R)
section
variable {V : XV} {P : Params} {b : Bool} {scr : Obj}
theorem segL (O : VO V P b scr) {κ : Kont} (hR : Rm V κ 400) {R l : Lst} {j : Nat} {ch : Ch} (n : Nat) (hs : List Nat) (cs : List (Nat × List Bool × (Ora → VCon V))) (sel : List Bool) (l' : Ora → Lst) (j' : Nat) (ch' : Ora → Ch)
    (h12 : ∀ w, (vw sel (vm (sT P b) (sF P b) (ktm P scr) tabs0 400 w n (st0 V (entryCode (lawF P) 138 l) κ (atS (lawF P) 138 l j) l ch hs cs)), lhs (vm (sT P b) (sF P b) (ktm P scr) tabs0 400 w n (st0 V (entryCode (lawF P) 138 l) κ (atS (lawF P) 138 l j) l ch hs cs))) =
      (some (entryCode (lawF P) 138 (l' w), atS (lawF P) 138 (l' w) j', 0, l' w, ch' w), rhs (vm (sT P b) (sF P b) (ktm P scr) tabs0 400 w n (st0 V (entryCode (lawF P) 138 l) κ (atS (lawF P) 138 l j) l ch hs cs))))
    (H : ∀ w, LG V P κ R (ch' w) (l' w) j') : LG V P κ R ch l j :=
  seg O hR n hs cs sel (c' := fun w => entryCode (lawF P) 138 (l' w)) (t' := fun w => atS (lawF P) 138 (l' w) j') (l' := l') (ch' := ch') h12 H
noncomputable def drawsO (N : Nm) (X : Nat → Int) (T : Nat → Tok) : Obj := lstO N [.int (X 0) (T 0), .int (X 1) (T 1), .int (X 2) (T 2), .int (X 3) (T 3), .int (X 4) (T 4), .int (X 5) (T 5), .int (X 6) (T 6), .int (X 7) (T 7), .int (X 8) (T 8), .int (X 9) (T 9)] 10
noncomputable def l4 (N : Nm) (ad : Nat → Addr) (tot : Int) (tk : Nat → Tok) (L : Nat → Nat) (X : Nat → Int) (T : Nat → Tok) : Lst :=
  frame N ad [] 0 [some (.ref 139), some (.int tot (tk 0)), some (.ref (ad 12)), some (.ref (ad 13)), some (.ref (ad 14)), none, none, none, none, none, none] ++ [(ad 12, lettersO N L tk), (ad 13, spareO N tk), (ad 14, drawsO N X T)]
end
end Mine
namespace Mine
open PySem PySem.W PySem.W.X PySem.Spec PySem.Calls PyProof.Rows
noncomputable def scrO (vs : List Value) : Obj := { cls := .type SZ.s9222952809800978799x4, data := .seq ⟨vs⟩ 0 }
noncomputable def rep (l : List Nat) : Nat → List Nat
  | 0 => []
  | n + 1 => l ++ rep l n
noncomputable def spareN : Nat → Int
  | 0 => 5 | 1 => 0 | 2 => 13 | 3 => 7 | 4 => 2 | 5 => 40 | 6 => 9 | 7 => 1 | 8 => 26 | _ => 3
noncomputable def s4hs (n : Nat) : List Nat := [0,0,15,15,15,15,15,15,15,15,15,15,16,15] ++ (rep [16,16,16,16,16,16,16,16,16,18,18,18,0,0,2,2,18,0,0,0,17,17,17,17] n ++ (rep [16,16,16,16,16,16,16,16,16,18,18,18,0,0,2,5,18,14,14,14,14,14,17,17,17,17] (10 - n) ++ [16,16,16,16,16,20,18,18,18,6,6]))
section
variable {V : XV} {P : Params} {b : Bool}
noncomputable def s4cs {len : Nat} {n : Nat} {X : Nat → Int} {T : Nat → Tok} (r : Nat → Bool) (hlen : Valid V (cLen 139 [] len)) (hlt : ∀ k t u, Valid V (cLt (Int.ofNat k) t (Int.ofNat len) u (r k))) (hx : ∀ k t, Nat.blt k n = true → Valid V (cIdx 139 [] k t (.int (X k) (T k)))) :
    Nat → Nat → Nat → List (Nat × List Bool × (Ora → VCon V))
  | 0, _, _ => []
  | f + 1, k, sk => (sk, [], fun w => ⟨_, hlen⟩) :: (0,[], fun w => ⟨_, hlt k (w.t (3 * k + 3)) (w.t (3 * k + 5))⟩) :: (match h : Nat.blt k n with
    | true => (0,[], fun w => ⟨_, hx k (w.t (3 * k + 3)) h⟩) :: s4cs r hlen hlt hx f (k + 1) 2
    | false => s4cs r hlen hlt hx f (k + 1) 3)
noncomputable def drX (n : Nat) (X : Nat → Int) : Nat → Int := fun k => match Nat.blt k n with
  | true => X k
  | false => spareN k
noncomputable def drT (n : Nat) (T tk : Nat → Tok) : Nat → Tok := fun k => match Nat.blt k n with
  | true => T k
  | false => tk (4 + k)
noncomputable def rOf (n len : Nat) : Nat → Bool := fun k => match Nat.blt k 10 with
  | true => Nat.blt k n
  | false => decide (k < len)
theorem sC0 (O : VO V P b (scrO vs)) {κ : Kont} (hR : Rm V κ 400) (ad tk : Nat → Nat) (tot : Int) (L : Nat → Nat) (X : Nat → Int) (T : Nat → Tok) (R : Lst) {len : Nat}
    (hlen : Valid V (cLen 139 [] len))
    (H : ∀ ad tk X T, LG V P κ R [] (l4 (nmZ P) ad tot tk L X T) 4) : ∀ n : Nat, n ≤ 10 → (hlt : ∀ k t u, Valid V (cLt (Int.ofNat k) t (Int.ofNat len) u (rOf n len k))) → (hx : ∀ k t, Nat.blt k n = true → Valid V (cIdx 139 [] k t (.int (X k) (T k)))) →
    LG V P κ R [] (l3 (nmZ P) ad tot tk L) 3
  | 0, _, hlt, hx => segL O hR 615 (s4hs 0) (s4cs (rOf 0 len) hlen hlt hx 10 0 5) [true, true, true, true, true, true, true, true, true, true, true, true, true, true, false, false, true] (fun w => l4 (nmZ P) (ext ad 14 [w.a 2]) tot tk L (drX 0 X) (drT 0 T tk)) 4 (fun _ => []) (fun w => by kernel_rfl) fun w => H _ _ _ _
  | 1, _, hlt, hx => segL O hR 611 (s4hs 1) (s4cs (rOf 1 len) hlen hlt hx 10 0 5) [true, true, true, true, true, true, true, true, true, true, true, true, true, true, false, false, true] (fun w => l4 (nmZ P) (ext ad 14 [w.a 2]) tot tk L (drX 1 X) (drT 1 T tk)) 4 (fun _ => []) (fun w => by kernel_rfl) fun w => H _ _ _ _
  | 2, _, hlt, hx => segL O hR 607 (s4hs 2) (s4cs (rOf 2 len) hlen hlt hx 10 0 5) [true, true, true, true, true, true, true, true, true, true, true, true, true, true, false, false, true] (fun w => l4 (nmZ P) (ext ad 14 [w.a 2]) tot tk L (drX 2 X) (drT 2 T tk)) 4 (fun _ => []) (fun w => by kernel_rfl) fun w => H _ _ _ _
  | 3, _, hlt, hx => segL O hR 603 (s4hs 3) (s4cs (rOf 3 len) hlen hlt hx 10 0 5) [true, true, true, true, true, true, true, true, true, true, true, true, true, true, false, false, true] (fun w => l4 (nmZ P) (ext ad 14 [w.a 2]) tot tk L (drX 3 X) (drT 3 T tk)) 4 (fun _ => []) (fun w => by kernel_rfl) fun w => H _ _ _ _
  | 4, _, hlt, hx => segL O hR 599 (s4hs 4) (s4cs (rOf 4 len) hlen hlt hx 10 0 5) [true, true, true, true, true, true, true, true, true, true, true, true, true, true, false, false, true] (fun w => l4 (nmZ P) (ext ad 14 [w.a 2]) tot tk L (drX 4 X) (drT 4 T tk)) 4 (fun _ => []) (fun w => by kernel_rfl) fun w => H _ _ _ _
  | 5, _, hlt, hx => segL O hR 595 (s4hs 5) (s4cs (rOf 5 len) hlen hlt hx 10 0 5) [true, true, true, true, true, true, true, true, true, true, true, true, true, true, false, false, true] (fun w => l4 (nmZ P) (ext ad 14 [w.a 2]) tot tk L (drX 5 X) (drT 5 T tk)) 4 (fun _ => []) (fun w => by kernel_rfl) fun w => H _ _ _ _
  | 6, _, hlt, hx => segL O hR 591 (s4hs 6) (s4cs (rOf 6 len) hlen hlt hx 10 0 5) [true, true, true, true, true, true, true, true, true, true, true, true, true, true, false, false, true] (fun w => l4 (nmZ P) (ext ad 14 [w.a 2]) tot tk L (drX 6 X) (drT 6 T tk)) 4 (fun _ => []) (fun w => by kernel_rfl) fun w => H _ _ _ _
  | 7, _, hlt, hx => segL O hR 587 (s4hs 7) (s4cs (rOf 7 len) hlen hlt hx 10 0 5) [true, true, true, true, true, true, true, true, true, true, true, true, true, true, false, false, true] (fun w => l4 (nmZ P) (ext ad 14 [w.a 2]) tot tk L (drX 7 X) (drT 7 T tk)) 4 (fun _ => []) (fun w => by kernel_rfl) fun w => H _ _ _ _
  | 8, _, hlt, hx => segL O hR 583 (s4hs 8) (s4cs (rOf 8 len) hlen hlt hx 10 0 5) [true, true, true, true, true, true, true, true, true, true, true, true, true, true, false, false, true] (fun w => l4 (nmZ P) (ext ad 14 [w.a 2]) tot tk L (drX 8 X) (drT 8 T tk)) 4 (fun _ => []) (fun w => by kernel_rfl) fun w => H _ _ _ _
  | 9, _, hlt, hx => segL O hR 579 (s4hs 9) (s4cs (rOf 9 len) hlen hlt hx 10 0 5) [true, true, true, true, true, true, true, true, true, true, true, true, true, true, false, false, true] (fun w => l4 (nmZ P) (ext ad 14 [w.a 2]) tot tk L (drX 9 X) (drT 9 T tk)) 4 (fun _ => []) (fun w => by kernel_rfl) fun w => H _ _ _ _
  | 10, _, hlt, hx => segL O hR 575 (s4hs 10) (s4cs (rOf 10 len) hlen hlt hx 10 0 5) [true, true, true, true, true, true, true, true, true, true, true, true, true, true, false, false, true] (fun w => l4 (nmZ P) (ext ad 14 [w.a 2]) tot tk L (drX 10 X) (drT 10 T tk)) 4 (fun _ => []) (fun w => by kernel_rfl) fun w => H _ _ _ _
  | _ + 11, h, _, _ => absurd h (by omega)
end
end Mine
namespace Mine
open PySem PySem.W PySem.W.X PySem.Spec PySem.Calls PyProof.Rows
noncomputable def ups : List Nat → List Bool
  | [] => []
  | g :: gs => Nat.rec (motive := fun _ => List Bool) (true :: ups gs) (fun _ ih => false :: ih) g
section
variable {V : XV} {P : Params} {b : Bool} {scr : Obj}
noncomputable def cLet (N : Nm) (a : Addr) (L : Nat → Nat) (tk : Nat → Tok) (h : Nat) (t : Tok) : Con := cIdx a [(a, lettersO N L tk)] h t (ch1 (L h) (tk (1 + h)))
theorem vLet (a : Addr) (L : Nat → Nat) (tk : Nat → Tok) (h : Nat) (t : Tok) (hh : h < 3) : Valid V (cLet (nmZ P) a L tk h t) := by
  refine vIdx (vs := [ch1 (L 0) (tk 1), ch1 (L 1) (tk 2), ch1 (L 2) (tk 3)]) (by omega) ?_ (isList_foot (P := P))
  match h, hh with
  | 0, _ => rfl
  | 1, _ => rfl
  | 2, _ => rfl
noncomputable def namesO (N : Nm) (L : Nat → Nat) (X : Nat → Int) (TN : Nat → Tok) : Obj := lstO N [ch1 (L (hueOf (X 0))) (TN 0), ch1 (L (hueOf (X 1))) (TN 1), ch1 (L (hueOf (X 2))) (TN 2), ch1 (L (hueOf (X 3))) (TN 3), ch1 (L (hueOf (X 4))) (TN 4), ch1 (L (hueOf (X 5))) (TN 5), ch1 (L (hueOf (X 6))) (TN 6), ch1 (L (hueOf (X 7))) (TN 7), ch1 (L (hueOf (X 8))) (TN 8), ch1 (L (hueOf (X 9))) (TN 9)] 10
noncomputable def objs5 (N : Nm) (ad : Nat → Addr) (tk : Nat → Tok) (L : Nat → Nat) (X : Nat → Int) (T TN : Nat → Tok) : Lst := [(ad 12, lettersO N L tk), (ad 13, spareO N tk), (ad 14, drawsO N X T), (ad 15, namesO N L X TN)]
noncomputable def cel5 (ad : Nat → Addr) (tot : Int) (tk : Nat → Tok) : List (Option Value) := [some (.ref 139), some (.int tot (tk 0)), some (.ref (ad 12)), some (.ref (ad 13)), some (.ref (ad 14)), none, none, none, none, none, none]
noncomputable def sNames : List Nat := [110,97,109,101,115]
noncomputable def l5 (N : Nm) (ad : Nat → Addr) (tot : Int) (tk : Nat → Tok) (L : Nat → Nat) (X : Nat → Int) (T TN : Nat → Tok) : Lst :=
  frame N ad [(sNames, tk 14, .ref (ad 15))] 1 (cel5 ad tot tk) ++ objs5 N ad tk L X T TN
end
end Mine
namespace Mine
open PySem PySem.W PySem.W.X PySem.Spec PySem.Calls PyProof.Rows
section
variable {V : XV} {P : Params} {b : Bool} {scr : Obj}
theorem sD (O : VO V P b scr) {κ : Kont} (hR : Rm V κ 400) (ad tk : Nat → Nat) (tot : Int) (L : Nat → Nat) (X : Nat → Int) (T : Nat → Tok) (R : Lst)
    (H : ∀ ad tk TN, LG V P κ R [] (l5 (nmZ P) ad tot tk L X T TN) 5) : LG V P κ R [] (l4 (nmZ P) ad tot tk L X T) 4 :=
  segL O hR 517 (hsD 239 59518411871928610916735371823393143956914351454539147209981574957498106911971807083498568116430481801695109364075844398671348790052251850190557395251156209282524306489442305682346636980926872862769076307399785620860652576401899112312170753882229448252894818731626370657005417578188128757662634165972910662277828079317887496519082385786500692878458442817168149398255677276590056768418126357198434034245538265180932928396202700542905196209163232095204458347493463634802064047884829885916115091543717824390)
    [(2, ups [], fun w => ⟨_, vSpot O (X 0) (T 0)⟩), (0, ups [18], fun w => ⟨_, vHue O (w.a 3) (X 0) (w.t 1) (w.t 2) (w.t 3)⟩), (0, ups [12], fun w => ⟨_, vLet (P := P) (ad 12) L tk (hueOf (X 0)) (w.t 4) (hueOf_lt _)⟩), (2, ups [], fun w => ⟨_, vSpot O (X 1) (T 1)⟩), (0, ups [19], fun w => ⟨_, vHue O (w.a 4) (X 1) (w.t 6) (w.t 7) (w.t 8)⟩), (0, ups [12], fun w => ⟨_, vLet (P := P) (ad 12) L tk (hueOf (X 1)) (w.t 9) (hueOf_lt _)⟩), (2, ups [], fun w => ⟨_, vSpot O (X 2) (T 2)⟩), (0, ups [20], fun w => ⟨_, vHue O (w.a 5) (X 2) (w.t 11) (w.t 12) (w.t 13)⟩), (0, ups [12], fun w => ⟨_, vLet (P := P) (ad 12) L tk (hueOf (X 2)) (w.t 14) (hueOf_lt _)⟩), (2, ups [], fun w => ⟨_, vSpot O (X 3) (T 3)⟩), (0, ups [21], fun w => ⟨_, vHue O (w.a 6) (X 3) (w.t 16) (w.t 17) (w.t 18)⟩), (0, ups [12], fun w => ⟨_, vLet (P := P) (ad 12) L tk (hueOf (X 3)) (w.t 19) (hueOf_lt _)⟩), (2, ups [], fun w => ⟨_, vSpot O (X 4) (T 4)⟩), (0, ups [22], fun w => ⟨_, vHue O (w.a 7) (X 4) (w.t 21) (w.t 22) (w.t 23)⟩), (0, ups [12], fun w => ⟨_, vLet (P := P) (ad 12) L tk (hueOf (X 4)) (w.t 24) (hueOf_lt _)⟩), (2, ups [], fun w => ⟨_, vSpot O (X 5) (T 5)⟩), (0, ups [23], fun w => ⟨_, vHue O (w.a 8) (X 5) (w.t 26) (w.t 27) (w.t 28)⟩), (0, ups [12], fun w => ⟨_, vLet (P := P) (ad 12) L tk (hueOf (X 5)) (w.t 29) (hueOf_lt _)⟩), (2, ups [], fun w => ⟨_, vSpot O (X 6) (T 6)⟩), (0, ups [24], fun w => ⟨_, vHue O (w.a 9) (X 6) (w.t 31) (w.t 32) (w.t 33)⟩), (0, ups [12], fun w => ⟨_, vLet (P := P) (ad 12) L tk (hueOf (X 6)) (w.t 34) (hueOf_lt _)⟩), (2, ups [], fun w => ⟨_, vSpot O (X 7) (T 7)⟩), (0, ups [25], fun w => ⟨_, vHue O (w.a 10) (X 7) (w.t 36) (w.t 37) (w.t 38)⟩), (0, ups [12], fun w => ⟨_, vLet (P := P) (ad 12) L tk (hueOf (X 7)) (w.t 39) (hueOf_lt _)⟩), (2, ups [], fun w => ⟨_, vSpot O (X 8) (T 8)⟩), (0, ups [26], fun w => ⟨_, vHue O (w.a 11) (X 8) (w.t 41) (w.t 42) (w.t 43)⟩), (0, ups [12], fun w => ⟨_, vLet (P := P) (ad 12) L tk (hueOf (X 8)) (w.t 44) (hueOf_lt _)⟩), (2, ups [], fun w => ⟨_, vSpot O (X 9) (T 9)⟩), (0, ups [27], fun w => ⟨_, vHue O (w.a 12) (X 9) (w.t 46) (w.t 47) (w.t 48)⟩), (0, ups [12], fun w => ⟨_, vLet (P := P) (ad 12) L tk (hueOf (X 9)) (w.t 49) (hueOf_lt _)⟩)]
    (ups [0,0,0,0,0,0,0,0,0,0,0,0,0,0,0,1]) (fun w => l5 (nmZ P) (ext ad 15 [w.a 1]) tot (ext tk 14 [w.t 50]) L X T (fun k => tk (1 + hueOf (X k)))) 5 (fun _ => []) (fun w => by kernel_rfl) fun w => H _ _ _
end
end Mine
namespace Mine
open PySem PySem.W PySem.W.X PySem.Spec PySem.Calls PyProof.Rows
noncomputable def sText : List Nat := [116,101,120,116]
noncomputable def sK : List Nat := [107]
noncomputable def fr7 (ad : Nat → Addr) (tk : Nat → Tok) (L : Nat → Nat) (X : Nat → Int) : List (List Nat × Tok × Value) := [(sNames, tk 14, .ref (ad 15)), (sText, tk 15, .str ⟨⟨txt L X 10⟩⟩ (tk 16)), (sK, tk 17, .int 9 (tk 18))]
noncomputable def l7 (N : Nm) (ad : Nat → Addr) (tot : Int) (tk : Nat → Tok) (L : Nat → Nat) (X : Nat → Int) (T TN : Nat → Tok) : Lst :=
  frame N ad (fr7 ad tk L X) 3 (cel5 ad tot tk) ++ objs5 N ad tk L X T TN
section
variable {V : XV} {P : Params} {b : Bool} {scr : Obj}
theorem sE (O : VO V P b scr) {κ : Kont} (hR : Rm V κ 400) (ad tk : Nat → Nat) (tot : Int) (L : Nat → Nat) (hL : ∀ k, Rg (L k)) (X : Nat → Int) (T TN : Nat → Tok) (R : Lst)
    (H : ∀ ad tk, LG V P κ R [] (l7 (nmZ P) ad tot tk L X T TN) 7) : LG V P κ R [] (l5 (nmZ P) ad tot tk L X T TN) 5 := by
  have hA : ∀ k, k < 10 → (txt L X k).length + (pc L X k).length ≤ 100000 := fun k hk => by have := txt_len L X k; have := pc_len L X k; omega
  have hB : ∀ k, k < 10 → (txt L X k ++ pc L X k).length + [sepN (sOf (X k))].length ≤ 100000 := fun k hk => by have := txt_len L X k; have := pc_len L X k; simp only [List.length_append, List.length_cons, List.length_nil]; omega
  exact segL O hR 1043 (hsD 391 13061257207969858658026862927200426640642587115876929934246784301179812427768615122342630441716495442629781761083782331154898421315228608096376484465271707701736465453295207391288461756599501918857387298193787229367852334351914580265262324610612023097182129160206675648523590330982790036564500517425361260020237139181530950719280892479865039098312263079580227072450946938583017979634235212755297704722110991783551280100707148838315378121362113792596775065612954175656929632021983826352721954716793190926666750907569431437160640339193662352172956284152672516859450395873155656929107617145758721453240741061214417232842353751118424909955993246312729955290448582632993691454910158902004957223305692452428364407811546682472296496963881660638354948598466818241502736074952720977886011595028739698501672765290293611938581997158529)
    [(8, ups [], fun w => ⟨_, vDiv O (X 0) (T 0) 80 (w.t 7) ((X 0).fdiv 81) rfl (PyProof.noPylong_small (by decide +kernel))⟩), (0, ups [], fun w => ⟨_, vMod O ((X 0).fdiv 81) (w.t 8) 1 (w.t 9) (Int.ofNat (qOf (X 0))) (two_of _).1⟩), (0, ups [], fun w => ⟨_, vWr O (L (hueOf (X 0))) (TN 0) (qOf (X 0)) (w.t 10) (hL _) (two_of _).2⟩), (0, ups [], fun w => ⟨_, vAdd (txt L X 0) (w.t 0) (pc L X 0) (w.t 11) (hA 0 (by decide))⟩), (1, ups [], fun w => ⟨_, vDiv O (X 0) (T 0) 161 (w.t 14) ((X 0).fdiv 162) rfl (PyProof.noPylong_small (by decide +kernel))⟩), (0, ups [], fun w => ⟨_, vMod O ((X 0).fdiv 162) (w.t 15) 1 (w.t 16) (Int.ofNat (sOf (X 0))) (two_of _).1⟩), (0, ups [], fun w => ⟨_, vSep O (w.t 13) (w.t 17) (sOf (X 0)) (two_of _).2⟩), (0, ups [], fun w => ⟨_, vAdd (txt L X 0 ++ pc L X 0) (w.t 12) [sepN (sOf (X 0))] (w.t 18) (hB 0 (by decide))⟩), (3, ups [], fun w => ⟨_, vDiv O (X 1) (T 1) 80 (w.t 23) ((X 1).fdiv 81) rfl (PyProof.noPylong_small (by decide +kernel))⟩), (0, ups [], fun w => ⟨_, vMod O ((X 1).fdiv 81) (w.t 24) 1 (w.t 25) (Int.ofNat (qOf (X 1))) (two_of _).1⟩), (0, ups [], fun w => ⟨_, vWr O (L (hueOf (X 1))) (TN 1) (qOf (X 1)) (w.t 26) (hL _) (two_of _).2⟩), (0, ups [], fun w => ⟨_, vAdd (txt L X 1) (w.t 19) (pc L X 1) (w.t 27) (hA 1 (by decide))⟩), (1, ups [], fun w => ⟨_, vDiv O (X 1) (T 1) 161 (w.t 30) ((X 1).fdiv 162) rfl (PyProof.noPylong_small (by decide +kernel))⟩), (0, ups [], fun w => ⟨_, vMod O ((X 1).fdiv 162) (w.t 31) 1 (w.t 32) (Int.ofNat (sOf (X 1))) (two_of _).1⟩), (0, ups [], fun w => ⟨_, vSep O (w.t 29) (w.t 33) (sOf (X 1)) (two_of _).2⟩), (0, ups [], fun w => ⟨_, vAdd (txt L X 1 ++ pc L X 1) (w.t 28) [sepN (sOf (X 1))] (w.t 34) (hB 1 (by decide))⟩), (3, ups [], fun w => ⟨_, vDiv O (X 2) (T 2) 80 (w.t 39) ((X 2).fdiv 81) rfl (PyProof.noPylong_small (by decide +kernel))⟩), (0, ups [], fun w => ⟨_, vMod O ((X 2).fdiv 81) (w.t 40) 1 (w.t 41) (Int.ofNat (qOf (X 2))) (two_of _).1⟩), (0, ups [], fun w => ⟨_, vWr O (L (hueOf (X 2))) (TN 2) (qOf (X 2)) (w.t 42) (hL _) (two_of _).2⟩), (0, ups [], fun w => ⟨_, vAdd (txt L X 2) (w.t 35) (pc L X 2) (w.t 43) (hA 2 (by decide))⟩), (1, ups [], fun w => ⟨_, vDiv O (X 2) (T 2) 161 (w.t 46) ((X 2).fdiv 162) rfl (PyProof.noPylong_small (by decide +kernel))⟩), (0, ups [], fun w => ⟨_, vMod O ((X 2).fdiv 162) (w.t 47) 1 (w.t 48) (Int.ofNat (sOf (X 2))) (two_of _).1⟩), (0, ups [], fun w => ⟨_, vSep O (w.t 45) (w.t 49) (sOf (X 2)) (two_of _).2⟩), (0, ups [], fun w => ⟨_, vAdd (txt L X 2 ++ pc L X 2) (w.t 44) [sepN (sOf (X 2))] (w.t 50) (hB 2 (by decide))⟩), (3, ups [], fun w => ⟨_, vDiv O (X 3) (T 3) 80 (w.t 55) ((X 3).fdiv 81) rfl (PyProof.noPylong_small (by decide +kernel))⟩), (0, ups [], fun w => ⟨_, vMod O ((X 3).fdiv 81) (w.t 56) 1 (w.t 57) (Int.ofNat (qOf (X 3))) (two_of _).1⟩), (0, ups [], fun w => ⟨_, vWr O (L (hueOf (X 3))) (TN 3) (qOf (X 3)) (w.t 58) (hL _) (two_of _).2⟩), (0, ups [], fun w => ⟨_, vAdd (txt L X 3) (w.t 51) (pc L X 3) (w.t 59) (hA 3 (by decide))⟩), (1, ups [], fun w => ⟨_, vDiv O (X 3) (T 3) 161 (w.t 62) ((X 3).fdiv 162) rfl (PyProof.noPylong_small (by decide +kernel))⟩), (0, ups [], fun w => ⟨_, vMod O ((X 3).fdiv 162) (w.t 63) 1 (w.t 64) (Int.ofNat (sOf (X 3))) (two_of _).1⟩), (0, ups [], fun w => ⟨_, vSep O (w.t 61) (w.t 65) (sOf (X 3)) (two_of _).2⟩), (0, ups [], fun w => ⟨_, vAdd (txt L X 3 ++ pc L X 3) (w.t 60) [sepN (sOf (X 3))] (w.t 66) (hB 3 (by decide))⟩), (3, ups [], fun w => ⟨_, vDiv O (X 4) (T 4) 80 (w.t 71) ((X 4).fdiv 81) rfl (PyProof.noPylong_small (by decide +kernel))⟩), (0, ups [], fun w => ⟨_, vMod O ((X 4).fdiv 81) (w.t 72) 1 (w.t 73) (Int.ofNat (qOf (X 4))) (two_of _).1⟩), (0, ups [], fun w => ⟨_, vWr O (L (hueOf (X 4))) (TN 4) (qOf (X 4)) (w.t 74) (hL _) (two_of _).2⟩), (0, ups [], fun w => ⟨_, vAdd (txt L X 4) (w.t 67) (pc L X 4) (w.t 75) (hA 4 (by decide))⟩), (1, ups [], fun w => ⟨_, vDiv O (X 4) (T 4) 161 (w.t 78) ((X 4).fdiv 162) rfl (PyProof.noPylong_small (by decide +kernel))⟩), (0, ups [], fun w => ⟨_, vMod O ((X 4).fdiv 162) (w.t 79) 1 (w.t 80) (Int.ofNat (sOf (X 4))) (two_of _).1⟩), (0, ups [], fun w => ⟨_, vSep O (w.t 77) (w.t 81) (sOf (X 4)) (two_of _).2⟩), (0, ups [], fun w => ⟨_, vAdd (txt L X 4 ++ pc L X 4) (w.t 76) [sepN (sOf (X 4))] (w.t 82) (hB 4 (by decide))⟩), (3, ups [], fun w => ⟨_, vDiv O (X 5) (T 5) 80 (w.t 87) ((X 5).fdiv 81) rfl (PyProof.noPylong_small (by decide +kernel))⟩), (0, ups [], fun w => ⟨_, vMod O ((X 5).fdiv 81) (w.t 88) 1 (w.t 89) (Int.ofNat (qOf (X 5))) (two_of _).1⟩), (0, ups [], fun w => ⟨_, vWr O (L (hueOf (X 5))) (TN 5) (qOf (X 5)) (w.t 90) (hL _) (two_of _).2⟩), (0, ups [], fun w => ⟨_, vAdd (txt L X 5) (w.t 83) (pc L X 5) (w.t 91) (hA 5 (by decide))⟩), (1, ups [], fun w => ⟨_, vDiv O (X 5) (T 5) 161 (w.t 94) ((X 5).fdiv 162) rfl (PyProof.noPylong_small (by decide +kernel))⟩), (0, ups [], fun w => ⟨_, vMod O ((X 5).fdiv 162) (w.t 95) 1 (w.t 96) (Int.ofNat (sOf (X 5))) (two_of _).1⟩), (0, ups [], fun w => ⟨_, vSep O (w.t 93) (w.t 97) (sOf (X 5)) (two_of _).2⟩), (0, ups [], fun w => ⟨_, vAdd (txt L X 5 ++ pc L X 5) (w.t 92) [sepN (sOf (X 5))] (w.t 98) (hB 5 (by decide))⟩), (3, ups [], fun w => ⟨_, vDiv O (X 6) (T 6) 80 (w.t 103) ((X 6).fdiv 81) rfl (PyProof.noPylong_small (by decide +kernel))⟩), (0, ups [], fun w => ⟨_, vMod O ((X 6).fdiv 81) (w.t 104) 1 (w.t 105) (Int.ofNat (qOf (X 6))) (two_of _).1⟩), (0, ups [], fun w => ⟨_, vWr O (L (hueOf (X 6))) (TN 6) (qOf (X 6)) (w.t 106) (hL _) (two_of _).2⟩), (0, ups [], fun w => ⟨_, vAdd (txt L X 6) (w.t 99) (pc L X 6) (w.t 107) (hA 6 (by decide))⟩), (1, ups [], fun w => ⟨_, vDiv O (X 6) (T 6) 161 (w.t 110) ((X 6).fdiv 162) rfl (PyProof.noPylong_small (by decide +kernel))⟩), (0, ups [], fun w => ⟨_, vMod O ((X 6).fdiv 162) (w.t 111) 1 (w.t 112) (Int.ofNat (sOf (X 6))) (two_of _).1⟩), (0, ups [], fun w => ⟨_, vSep O (w.t 109) (w.t 113) (sOf (X 6)) (two_of _).2⟩), (0, ups [], fun w => ⟨_, vAdd (txt L X 6 ++ pc L X 6) (w.t 108) [sepN (sOf (X 6))] (w.t 114) (hB 6 (by decide))⟩), (3, ups [], fun w => ⟨_, vDiv O (X 7) (T 7) 80 (w.t 119) ((X 7).fdiv 81) rfl (PyProof.noPylong_small (by decide +kernel))⟩), (0, ups [], fun w => ⟨_, vMod O ((X 7).fdiv 81) (w.t 120) 1 (w.t 121) (Int.ofNat (qOf (X 7))) (two_of _).1⟩), (0, ups [], fun w => ⟨_, vWr O (L (hueOf (X 7))) (TN 7) (qOf (X 7)) (w.t 122) (hL _) (two_of _).2⟩), (0, ups [], fun w => ⟨_, vAdd (txt L X 7) (w.t 115) (pc L X 7) (w.t 123) (hA 7 (by decide))⟩), (1, ups [], fun w => ⟨_, vDiv O (X 7) (T 7) 161 (w.t 126) ((X 7).fdiv 162) rfl (PyProof.noPylong_small (by decide +kernel))⟩), (0, ups [], fun w => ⟨_, vMod O ((X 7).fdiv 162) (w.t 127) 1 (w.t 128) (Int.ofNat (sOf (X 7))) (two_of _).1⟩), (0, ups [], fun w => ⟨_, vSep O (w.t 125) (w.t 129) (sOf (X 7)) (two_of _).2⟩), (0, ups [], fun w => ⟨_, vAdd (txt L X 7 ++ pc L X 7) (w.t 124) [sepN (sOf (X 7))] (w.t 130) (hB 7 (by decide))⟩), (3, ups [], fun w => ⟨_, vDiv O (X 8) (T 8) 80 (w.t 135) ((X 8).fdiv 81) rfl (PyProof.noPylong_small (by decide +kernel))⟩), (0, ups [], fun w => ⟨_, vMod O ((X 8).fdiv 81) (w.t 136) 1 (w.t 137) (Int.ofNat (qOf (X 8))) (two_of _).1⟩), (0, ups [], fun w => ⟨_, vWr O (L (hueOf (X 8))) (TN 8) (qOf (X 8)) (w.t 138) (hL _) (two_of _).2⟩), (0, ups [], fun w => ⟨_, vAdd (txt L X 8) (w.t 131) (pc L X 8) (w.t 139) (hA 8 (by decide))⟩), (1, ups [], fun w => ⟨_, vDiv O (X 8) (T 8) 161 (w.t 142) ((X 8).fdiv 162) rfl (PyProof.noPylong_small (by decide +kernel))⟩), (0, ups [], fun w => ⟨_, vMod O ((X 8).fdiv 162) (w.t 143) 1 (w.t 144) (Int.ofNat (sOf (X 8))) (two_of _).1⟩), (0, ups [], fun w => ⟨_, vSep O (w.t 141) (w.t 145) (sOf (X 8)) (two_of _).2⟩), (0, ups [], fun w => ⟨_, vAdd (txt L X 8 ++ pc L X 8) (w.t 140) [sepN (sOf (X 8))] (w.t 146) (hB 8 (by decide))⟩), (3, ups [], fun w => ⟨_, vDiv O (X 9) (T 9) 80 (w.t 151) ((X 9).fdiv 81) rfl (PyProof.noPylong_small (by decide +kernel))⟩), (0, ups [], fun w => ⟨_, vMod O ((X 9).fdiv 81) (w.t 152) 1 (w.t 153) (Int.ofNat (qOf (X 9))) (two_of _).1⟩), (0, ups [], fun w => ⟨_, vWr O (L (hueOf (X 9))) (TN 9) (qOf (X 9)) (w.t 154) (hL _) (two_of _).2⟩), (0, ups [], fun w => ⟨_, vAdd (txt L X 9) (w.t 147) (pc L X 9) (w.t 155) (hA 9 (by decide))⟩), (1, ups [], fun w => ⟨_, vDiv O (X 9) (T 9) 161 (w.t 158) ((X 9).fdiv 162) rfl (PyProof.noPylong_small (by decide +kernel))⟩), (0, ups [], fun w => ⟨_, vMod O ((X 9).fdiv 162) (w.t 159) 1 (w.t 160) (Int.ofNat (sOf (X 9))) (two_of _).1⟩), (0, ups [], fun w => ⟨_, vSep O (w.t 157) (w.t 161) (sOf (X 9)) (two_of _).2⟩), (0, ups [], fun w => ⟨_, vAdd (txt L X 9 ++ pc L X 9) (w.t 156) [sepN (sOf (X 9))] (w.t 162) (hB 9 (by decide))⟩)]
    (ups [0,0,0,0,0,0,0,0,0,0,0,0,0,0,0,0]) (fun w => l7 (nmZ P) ad tot (ext tk 15 [w.t 1, w.t 163, w.t 6, w.t 149]) L X T TN) 7 (fun _ => []) (fun w => by kernel_rfl) fun w => H _ _
end
end Mine
namespace Mine
open PySem PySem.W PySem.W.X PySem.Spec PySem.Calls PyProof.Rows
noncomputable def asgOf (ss : List Stmt) : Expr := match ss with
  | .Assign _ v _ :: _ => v
  | _ => default
noncomputable def scOf (e : Expr) : Scope := match e with
  | .ListComp _ _ s _ => s
  | _ => default
noncomputable def cEnv (E : Env) (e : Expr) (loc : Addr) (cells : List (Str × Addr)) : Env := { scope := scOf e, locals := loc, globals := E.globals, cells := cells, qual := E.qual, func := none, code := E.code, frame := E.frame, builtins := E.builtins }
noncomputable def compE (P : Params) (j : Nat) : Expr := asgOf (dropS j (bodyOf (lawF P)))
noncomputable def compV (P : Params) (j : Nat) (f loc : Addr) (cells : List (Str × Addr)) : Env := cEnv (envOf (entryCode (lawF P) 138 [(f, default)])) (compE P j) loc cells
noncomputable def clp (P : Params) (j : Nat) (f it acc loc : Addr) : Code := .compLoop (compE P j) 0 (.ref it) (.ref acc) (compV P j f loc [])
noncomputable def sSign : List Nat := [115,105,103,110]
noncomputable def chV : List Nat → (Nat → Tok) → Nat → List Value
  | [], _, _ => []
  | c :: cs, T, j => ch1 c (T j) :: chV cs T (j + 1)
section
variable {V : XV} {P : Params} {b : Bool} {scr : Obj}
theorem turn7 (O : VO V P b scr) {κ : Kont} (hR : Rm V κ 700) (ch : Ch) (f it acc loc : Addr) (x : List Nat) (t : Tok) (i : Nat) (c : Nat) (hx : x[i]? = some c) (vs : List Value) (n : Nat) (hn : vs.length ≤ 100000) (u : Tok) (v : Value) (R : Lst)
    (H : ∀ t' u, G V ch (clp P 7 f it acc loc) κ (dn (clp P 7 f it acc loc)) ([(it, ascO ascZ x t (i + 1)), (acc, lstO (nmZ P) (vs ++ [ch1 c t']) (n + 1)), (loc, dctO (nmZ P) [(sSign, u, ch1 c t')] 1)] ++ R)) :
    G V ch (clp P 7 f it acc loc) κ (dn (clp P 7 f it acc loc)) ([(it, ascO ascZ x t i), (acc, lstO (nmZ P) vs n), (loc, dctO (nmZ P) [(sSign, u, v)] 1)] ++ R) :=
  seg O hR 14 [1,3,3,3] [(0, ups [0], fun w => ⟨_, vNxt it x t i c hx⟩), (0, ups [1], fun w => ⟨_, vApp P acc vs n (ch1 c (w.t 0)) hn⟩)] (ups [0,0,0])
    (c' := fun w => clp P 7 f it acc loc) (t' := fun w => dn (clp P 7 f it acc loc)) (l' := fun w => [(it, ascO ascZ x t (i + 1)), (acc, lstO (nmZ P) (vs ++ [ch1 c (w.t 0)]) (n + 1)), (loc, dctO (nmZ P) [(sSign, u, ch1 c (w.t 0))] 1)]) (ch' := fun _ => ch)
    (fun w => by kernel_rfl) fun w => H _ _
theorem turn7a (O : VO V P b scr) {κ : Kont} (hR : Rm V κ 700) (ch : Ch) (f it acc loc : Addr) (x : List Nat) (t : Tok) (i : Nat) (c : Nat) (hx : x[i]? = some c) (vs : List Value) (n : Nat) (hn : vs.length ≤ 100000) (R : Lst)
    (H : ∀ t' u, G V ch (clp P 7 f it acc loc) κ (dn (clp P 7 f it acc loc)) ([(it, ascO ascZ x t (i + 1)), (acc, lstO (nmZ P) (vs ++ [ch1 c t']) (n + 1)), (loc, dctO (nmZ P) [(sSign, u, ch1 c t')] 1)] ++ R)) :
    G V ch (clp P 7 f it acc loc) κ (dn (clp P 7 f it acc loc)) ([(it, ascO ascZ x t i), (acc, lstO (nmZ P) vs n), (loc, dctO (nmZ P) [] 0)] ++ R) :=
  seg O hR 14 [1,3,3,3] [(0, ups [0], fun w => ⟨_, vNxt it x t i c hx⟩), (0, ups [1], fun w => ⟨_, vApp P acc vs n (ch1 c (w.t 0)) hn⟩)] (ups [0,0,0])
    (c' := fun w => clp P 7 f it acc loc) (t' := fun w => dn (clp P 7 f it acc loc)) (l' := fun w => [(it, ascO ascZ x t (i + 1)), (acc, lstO (nmZ P) (vs ++ [ch1 c (w.t 0)]) (n + 1)), (loc, dctO (nmZ P) [(sSign, w.t 1, ch1 c (w.t 0))] 1)]) (ch' := fun _ => ch)
    (fun w => by kernel_rfl) fun w => H _ _
theorem end7 (O : VO V P b scr) {κ : Kont} (hR : Rm V κ 700) (ch : Ch) (f it acc loc : Addr) (x : List Nat) (t : Tok) (i : Nat) (hx : x.length ≤ i) (vs : List Value) (n : Nat) (u : Tok) (v : Value) (R : Lst)
    (H : Rr V ch κ (.ok .next) ([(it, ascE ascZ i), (acc, lstO (nmZ P) vs n), (loc, dctO (nmZ P) [(sSign, u, v)] 1)] ++ R)) :
    G V ch (clp P 7 f it acc loc) κ (dn (clp P 7 f it acc loc)) ([(it, ascO ascZ x t i), (acc, lstO (nmZ P) vs n), (loc, dctO (nmZ P) [(sSign, u, v)] 1)] ++ R) :=
  segR O hR 4 [1,5] [(0, ups [0], fun w => ⟨_, vNxtE P it x t i hx⟩)] (ups [0,0,0])
    (r := fun w => .ok .next) (l' := fun w => [(it, ascE ascZ i), (acc, lstO (nmZ P) vs n), (loc, dctO (nmZ P) [(sSign, u, v)] 1)]) (ch' := fun _ => ch)
    (fun w => by kernel_rfl) fun w => H
noncomputable def lastN : Nat → List Nat → Nat
  | c, [] => c
  | _, y :: ys => lastN y ys
theorem chV_shift (ys : List Nat) (T : Nat → Tok) (d j : Nat) : chV ys T (j + d) = chV ys (fun k => T (k + d)) j := by
  induction ys generalizing j with
  | nil => rfl
  | cons y ys ih => show ch1 y (T (j + d)) :: chV ys T (j + d + 1) = _ :: chV ys _ (j + 1); rw [← ih (j + 1), show j + d + 1 = j + 1 + d by omega]
theorem chV_congr (ys : List Nat) {T T' : Nat → Tok} (j : Nat) (h : ∀ k, j ≤ k → k < j + ys.length → T k = T' k) : chV ys T j = chV ys T' j := by
  induction ys generalizing j with
  | nil => rfl
  | cons y ys ih =>
    show ch1 y (T j) :: _ = ch1 y (T' j) :: _
    rw [h j (by omega) (by simp), ih (j + 1) fun k h1 h2 => h k (by omega) (by simp only [List.length_cons]; omega)]
theorem chV_len (ys : List Nat) (T : Nat → Tok) (j : Nat) : (chV ys T j).length = ys.length := by
  induction ys generalizing j with
  | nil => rfl
  | cons y ys ih => simp [chV, ih]
theorem loop7 (O : VO V P b scr) {κ : Kont} (hR : Rm V κ 700) (ch : Ch) (f it acc loc : Addr) (x : List Nat) (t : Tok) (hl : x.length ≤ 100000) (R : Lst) : ∀ (ys : List Nat) (i : Nat) (vs : List Value) (n : Nat) (u : Tok) (c₀ : Nat) (t₀ : Tok), x.drop i = ys → vs.length = i → i ≤ x.length →
    (∀ (T : Nat → Tok) u' t', Rr V ch κ (.ok .next) ([(it, ascE ascZ x.length), (acc, lstO (nmZ P) (vs ++ chV ys T 0) (n + ys.length)), (loc, dctO (nmZ P) [(sSign, u', ch1 (lastN c₀ ys) t')] 1)] ++ R)) →
    G V ch (clp P 7 f it acc loc) κ (dn (clp P 7 f it acc loc)) ([(it, ascO ascZ x t i), (acc, lstO (nmZ P) vs n), (loc, dctO (nmZ P) [(sSign, u, ch1 c₀ t₀)] 1)] ++ R)
  | [], i, vs, n, u, c₀, t₀, hx, hv, hi, H => by
    have e : x.length ≤ i := List.drop_eq_nil_iff.mp hx
    have e' : i = x.length := by omega
    refine end7 O hR ch f it acc loc x t i e vs n u _ R ?_
    have z := H (fun _ => 0) u t₀
    simp only [chV, List.append_nil] at z
    rw [e']
    exact z
  | y :: ys, i, vs, n, u, c₀, t₀, hx, hv, hi, H => by
    have e : x[i]? = some y := by
      have := congrArg (fun l => l[0]?) hx
      simpa using this
    have e2 : x.drop (i + 1) = ys := by
      have := congrArg (List.drop 1) hx
      rw [List.drop_drop] at this
      simpa [Nat.add_comm] using this
    have hi' : i + 1 ≤ x.length := by
      have := List.getElem?_eq_some_iff.mp e
      obtain ⟨h, _⟩ := this
      omega
    refine turn7 O hR ch f it acc loc x t i y e vs n (by omega) u _ R fun t' u' => ?_
    refine loop7 O hR ch f it acc loc x t hl R ys (i + 1) (vs ++ [ch1 y t']) (n + 1) u' y t' e2 (by simp [hv]) hi' fun T u'' t'' => ?_
    have z := H (fun j => match j with | 0 => t' | j + 1 => T j) u'' t''
    have q : chV (y :: ys) (fun j => match j with | 0 => t' | j + 1 => T j) 0 = ch1 y t' :: chV ys T 0 := by
      show ch1 y t' :: chV ys _ (0 + 1) = _
      rw [chV_shift]
    rw [q] at z
    rw [List.append_assoc, show n + 1 + ys.length = n + (y :: ys).length by simp; omega]
    exact z
noncomputable def cSigns (N : Nm) (asc : String) (c : Code) (it acc loc : Addr) (x : List Nat) (t : Tok) : Con := ⟨c, [(it, ascO asc x t 0), (acc, lstO N [] 0), (loc, dctO N [] 0)],0, x.length + 2,
  fun _ θ => [ascE asc x.length, lstO N (chV x θ 2) x.length, dctO N [(sSign, θ 0, ch1 (lastN 0 x) (θ 1))] 1], fun _ _ => [], fun _ _ => .ok .next, 700⟩
theorem vSigns (O : VO V P b scr) (f it acc loc : Addr) (x : List Nat) (t : Tok) (hl : x.length ≤ 100000) (hne : x ≠ []) :
    Valid V (cSigns (nmZ P) ascZ (.compStart (compE P 7) 0 (.ref it) (.ref acc) (compV P 7 f loc [])) it acc loc x t) := by
  intro ch c κ R g lv k hR K
  cases x with
  | nil => exact absurd rfl hne
  | cons y ys =>
  have key : G V ch (clp P 7 f it acc loc) (.ret c none k κ) (dn (clp P 7 f it acc loc)) ([(it, ascO ascZ (y :: ys) t 0), (acc, lstO (nmZ P) [] 0), (loc, dctO (nmZ P) [] 0)] ++ R) := by
    refine turn7a O hR ch f it acc loc (y :: ys) t 0 y rfl [] 0 (by simp) R fun t' u => ?_
    refine loop7 O hR ch f it acc loc (y :: ys) t hl R ys 1 [ch1 y t'] 1 u y t' rfl rfl (by simp) fun T u' t'' => ?_
    refine Rr.ret ?_
    have z := K (fun _ => 0) (fun j => if j = 0 then u' else if j = 1 then t'' else if j < (y :: ys).length + 2 then (match j - 2 with | 0 => t' | j + 1 => T j) else 0) (fun _ _ => rfl) (fun j hj => by
      have : (y :: ys).length + 2 ≤ j := hj
      rw [if_neg (by omega), if_neg (by omega), if_neg (by omega)])
    simp only [cSigns] at z
    rw [show (2 : Nat) = 0 + 2 from rfl, chV_shift] at z
    have q : chV (y :: ys) (fun k => (fun j => if j = 0 then u' else if j = 1 then t'' else if j < (y :: ys).length + (0 + 2) then (match j - (0 + 2) with | 0 => t' | j + 1 => T j) else 0) (k + 2)) 0 = ch1 y t' :: chV ys T 0 := by
      rw [chV_congr (T' := fun j => match j with | 0 => t' | j + 1 => T j) _ _ (fun k _ h => by
        have : k < (y :: ys).length := by omega
        simp only
        rw [if_neg (by omega), if_neg (by omega), if_pos (by omega)]
        rfl)]
      show ch1 y t' :: chV ys _ (0 + 1) = _
      rw [chV_shift]
    rw [q] at z
    have e : 1 + ys.length = (y :: ys).length := by simp; omega
    rw [e]
    exact z
  have hc : compOk (compE P 7) 0 = true := by kernel_rfl
  obtain ⟨elt, gens, sc, pos, g', e1, e2, e3⟩ := compOk_some hc
  have ha : Iterish "str_ascii_iterator" := .ascii
  unfold clp at key
  show G V ch c κ (.call (.compStart (compE P 7) 0 (.ref it) (.ref acc) (compV P 7 f loc [])) none g lv k) _
  generalize compV P 7 f loc [] = E at key
  rw [e1] at key ⊢
  refine G.comp e2 e3 ha (o := ascO ascZ (y :: ys) t 0) (fun h D => (D.nw (it, ascO ascZ (y :: ys) t 0) (by simp [cSigns])).1) (by rw [asc_std]) key
end
end Mine
namespace Mine
open PySem PySem.W PySem.W.X PySem.Spec PySem.Calls PyProof.Rows
noncomputable def sSigns : List Nat := [115,105,103,110,115]
noncomputable def fr8 (ad : Nat → Addr) (tk : Nat → Tok) (L : Nat → Nat) (X : Nat → Int) : List (List Nat × Tok × Value) := fr7 ad tk L X ++ [(sSigns, tk 19, .ref (ad 16))]
noncomputable def l8 (N : Nm) (ad : Nat → Addr) (tot : Int) (tk : Nat → Tok) (L : Nat → Nat) (X : Nat → Int) (T TN : Nat → Tok) (vs : List Value) (n : Nat) : Lst :=
  frame N ad (fr8 ad tk L X) 4 (cel5 ad tot tk) ++ (objs5 N ad tk L X T TN ++ [(ad 16, lstO N vs n)])
theorem wr_ascii {c q : Nat} (hc : c < 128) : ∀ x ∈ wr c q, x < 128 := by
  intro x hx
  unfold wr at hx
  split at hx
  · simp at hx; omega
  · split at hx <;> simp at hx <;> omega
theorem Rg.ascii {c : Nat} (h : Rg c) : c < 128 := by
  obtain ⟨e, he, rfl⟩ := h
  match e, he with
  | 0, _ | 1, _ | 2, _ | 3, _ | 4, _ | 5, _ | 6, _ | 7, _ => decide
theorem sepN_ascii (s : Nat) : sepN s < 128 := by cases s with | zero => decide | succ n => exact (by decide : 9 < 128)
theorem txt_ascii {L : Nat → Nat} (hL : ∀ k, Rg (L k)) (X : Nat → Int) (k : Nat) : ∀ x ∈ txt L X k, x < 128 := by
  induction k with
  | zero => intro x hx; cases hx
  | succ k ih =>
    intro x hx
    simp only [txt, List.mem_append, List.mem_singleton] at hx
    rcases hx with (h | h) | h
    · exact ih x h
    · exact wr_ascii (hL _).ascii x h
    · rw [h]; exact sepN_ascii _
noncomputable def tz (L : Nat → Nat) (X : Nat → Int) : List Nat := txt L X 10 ++ [122]
section
variable {V : XV} {P : Params} {b : Bool} {scr : Obj}
theorem sF7 (O : VO V P b scr) {κ : Kont} (hR : Rm V κ 400) (ad tk : Nat → Nat) (tot : Int) (L : Nat → Nat) (hL : ∀ k, Rg (L k)) (X : Nat → Int) (T TN : Nat → Tok) (R : Lst)
    (H : ∀ ad tk TS, LG V P κ R [] (l8 (nmZ P) ad tot tk L X T TN (chV (tz L X) TS 2) (tz L X).length) 8) : LG V P κ R [] (l7 (nmZ P) ad tot tk L X T TN) 7 := by
  have hl := txt_len L X 10
  have hA : (txt L X 10).length + [122].length ≤ 100000 := by simp; omega
  have hB : ∀ x ∈ tz L X, x < 128 := fun x hx => by
    rcases List.mem_append.mp hx with h | h
    · exact txt_ascii hL X 10 x h
    · simp at h; omega
  have hC : (tz L X).length ≤ 100000 := by simp [tz]; omega
  have hD : tz L X ≠ [] := by simp [tz]
  exact segL O hR 28 [1,17,9999,1,1,19,19,19]
    [(0, ups [], fun w => ⟨_, vAdd (txt L X 10) (tk 16) [122] (w.t 0) hA⟩), (0, ups [], fun w => ⟨_, vIter (tz L X) (w.t 1) hB⟩), (0, ups [16,0,0], fun w => ⟨_, vSigns O (ad 0) (w.a 0) (w.a 1) (w.a 2) (tz L X) (w.t 1) hC hD⟩)]
    (ups [0,0,0,0,0,0,0,0,0,0,0,0,0,0,0,0,1]) (fun w => l8 (nmZ P) (ext ad 16 [w.a 1]) tot (ext tk 19 [w.t (2 + ((tz L X).length + 2))]) L X T TN (chV (tz L X) (cut w.t 2 ((tz L X).length + 2)) 2) (tz L X).length) 8 (fun _ => []) (fun w => by kernel_rfl) fun w => H _ _ _
theorem sF8 (O : VO V P b scr) {κ : Kont} (hR : Rm V κ 400) (ad tk : Nat → Nat) (tot : Int) (L : Nat → Nat) (X : Nat → Int) (T TN : Nat → Tok) (vs : List Value) (n : Nat) (hn : vs.length ≤ 100000) (R : Lst)
    (H : LG V P κ R [] (l8 (nmZ P) ad tot tk L X T TN vs.reverse n) 9) : LG V P κ R [] (l8 (nmZ P) ad tot tk L X T TN vs n) 8 := 
  segL O hR 12 [1,17,17,17,17]
    [(0, ups [16], fun w => ⟨_, vRev P (ad 16) vs n hn⟩)]
    (ups [0,0,0,0,0,0,0,0,0,0,0,0,0,0,0,0,0]) (fun w => l8 (nmZ P) ad tot tk L X T TN vs.reverse n) 9 (fun _ => []) (fun w => by kernel_rfl) fun w => H
end
end Mine
namespace Mine
open PySem PySem.W PySem.W.X PySem.Spec PySem.Calls PyProof.Rows
noncomputable def sReadName : List Nat := [114,101,97,100]
noncomputable def sLineno : List Nat := [108,105,110,101,110,111]
noncomputable def sInstream : List Nat := [105,110,115,116,114,101,97,109]
noncomputable def sWhite : List Nat := [119,104,105,116,101,115,112,97,99,101]
noncomputable def sPush : List Nat := [112,117,115,104,98,97,99,107]
noncomputable def wsp : List Nat := [10,9,13,32]
noncomputable def fnZ : String := SZ.s7174869446012820540x8
noncomputable def lamFd (E : Expr) (cl : List (Str × Addr)) (code ct : Value) : FuncData := match E with
  | .Lambda args body scope _ => { name := ⟨⟨[60,108,97,109,98,100,97,62]⟩⟩, qualname := ⟨⟨[95,108,97,119,95,115,116,114,101,97,109,46,60,108,111,99,97,108,115,62,46,60,108,97,109,98,100,97,62]⟩⟩, params := args, body := .expr body, scope := scope, globals := 3, closure := cl, defaults := .none, kwdefaults := .none, pyModule := .str ⟨⟨[108,97,119,95,112,117,48,48,50,54,95,48,49]⟩⟩ 352, code := code, closureTuple := ct, builtins := 0 }
  | _ => default
noncomputable def lamO (fn : String) (E : Expr) (cl : List (Str × Addr)) (code ct : Value) (d : Option Addr) : Obj := { cls := .type fn, dict := d, data := .func (lamFd E cl code ct) }
noncomputable def lamX (F : FuncData) (j : Nat) : Expr := asgOf (dropS j (bodyOf F))
structure Rd where
  cell : Addr
  strm : Addr
  fn : Addr
  sd : Addr
  rd : Addr
  me : Addr
  pb : Addr
  c0 : Addr
  c1 : Addr
  ct : Addr
  tr : Tok
  tl : Tok
  ti : Tok
  tw : Tok
  tv : Tok
  tp : Tok
  ca : Nat → Addr
  ck : Nat → Tok
noncomputable def cdZ : String := SZ.s5856160107412720595x4
noncomputable def sLam : List Nat := [60,108,97,109,98,100,97,62]
noncomputable def sQual : List Nat := [95,108,97,119,95,115,116,114,101,97,109,46,60,108,111,99,97,108,115,62,46,60,108,97,109,98,100,97,62]
noncomputable def sPath : List Nat := [47,99,108,97,105,109,47,99,117,116,46,112,121]
noncomputable def codO (cd : String) (r : Rd) : Obj := { cls := .type cd, data := .fields ⟨[.str ⟨⟨sLam⟩⟩ (r.ck 0), .str ⟨⟨sQual⟩⟩ (r.ck 1), .str ⟨⟨sPath⟩⟩ (r.ck 2), .int 145 0, .int 1 0, .int 0 0, .int 0 0, .int 19 0, .ref (r.ca 0), .bool true, .int 181 0, .ref (r.ca 1), .none, .ref (r.ca 2), .ref (r.ca 3), .ref (r.ca 4), .int (Int.ofNat (r.ck 3)) 0, .int 145 0, .str ⟨⟨sPath⟩⟩ (r.ck 4)]⟩ }
noncomputable def rdDict (N : Nm) (r : Rd) (k : Int) (kt : Tok) : Obj := dctO N [(sLineno, r.tl, .int k kt), (sInstream, r.ti, .ref r.strm), (sWhite, r.tw, .str ⟨⟨wsp⟩⟩ r.tv), (sPush, r.tp, .ref r.pb)] 4
noncomputable def rdO (N : Nm) (fn cd : String) (F : FuncData) (r : Rd) (sg : Addr) (vs : List Value) (n : Nat) (k : Int) (kt : Tok) (ps : List Value) (m : Nat) : Lst :=
  [(sg, lstO N vs n), (r.cell, celO N (some (.ref sg))), (r.strm, lamO fn (lamX F 0) [] (.ref r.c0) .none (some r.sd)), (r.c1, codO cd r), (r.fn, lamO fn (lamX F 1) [(⟨⟨[115,105,103,110,115]⟩⟩, r.cell)] (.ref r.c1) (.ref r.ct) none),
   (r.sd, dctO N [(sReadName, r.tr, .ref r.fn)] 1), (r.rd, rdDict N r k kt), (r.me, { cls := .ref 101, dict := some r.rd, data := .plain }), (r.pb, lstO N ps m)]
noncomputable def strF (P : Params) : FuncData := fdAt (zo112 P)
noncomputable def cel10 (ad : Nat → Addr) (tot : Int) (tk : Nat → Tok) (r : Rd) : List (Option Value) := [some (.ref 139), some (.int tot (tk 0)), some (.ref (ad 12)), some (.ref (ad 13)), some (.ref (ad 14)), some (.ref r.me), none, none, none, none, none]
noncomputable def l10 (N : Nm) (fn cd : String) (F : FuncData) (ad : Nat → Addr) (tot : Int) (tk : Nat → Tok) (L : Nat → Nat) (X : Nat → Int) (T TN : Nat → Tok) (r : Rd) (vs : List Value) (n : Nat) (k : Int) (kt : Tok) (ps : List Value) (m : Nat) : Lst :=
  frame N ad (fr8 ad tk L X) 4 (cel10 ad tot tk r) ++ (objs5 N ad tk L X T TN ++ rdO N fn cd F r (ad 16) vs n k kt ps m)
noncomputable def chR (r : Rd) : Ch := [(107, ⟨[.int 144 0, .int 13 0, .ref r.c0, .int 145 0, .int 18 0, .ref r.c1]⟩)]
section
variable {V : XV} {P : Params} {b : Bool} {scr : Obj}
theorem sF9 (O : VO V P b scr) {κ : Kont} (hR : Rm V κ 400) (ad tk : Nat → Nat) (tot : Int) (L : Nat → Nat) (X : Nat → Int) (T TN : Nat → Tok) (vs : List Value) (n : Nat) (R : Lst)
    (H : ∀ r kt, LG V P κ R (chR r) (l10 (nmZ P) fnZ cdZ (strF P) ad tot tk L X T TN r vs n 1 kt [] 0) 10) : LG V P κ R [] (l8 (nmZ P) ad tot tk L X T TN vs n) 9 := by
  exact segL O hR 277 (hsD 157 374428894364550532070407144758286164144577110193383330476420265947880970174062511549411411572642020089922494894416241756214513844440086720196278782849854642108626299730387405915464816386923581605225483688772458471437921572577829244528908375861992390626911475008588344464483724066103300848930509284098127780386046582123838931222528)
    []
    (ups [0,0,0,0,0,0,0,0,0,0,0,0,0,0,0,0,0,1,6,6,0,0,0,0,1])
    (fun w => l10 (nmZ P) fnZ cdZ (strF P) ad tot tk L X T TN ⟨w.a 1, w.a 8, w.a 16, w.a 17, w.a 18, w.a 19, w.a 21, w.a 7, w.a 15, w.a 9, w.t 14, w.t 19, w.t 21, w.t 24, w.t 22, w.t 26, nth [w.a 10, w.a 11, w.a 12, w.a 13, w.a 14], nth [w.t 6, w.t 7, w.t 8, w.t 11, w.t 12]⟩ vs n 1 (w.t 17) [] 0) 10 (fun w => chR ⟨w.a 1, w.a 8, w.a 16, w.a 17, w.a 18, w.a 19, w.a 21, w.a 7, w.a 15, w.a 9, w.t 14, w.t 19, w.t 21, w.t 24, w.t 22, w.t 26, nth [w.a 10, w.a 11, w.a 12, w.a 13, w.a 14], nth [w.t 6, w.t 7, w.t 8, w.t 11, w.t 12]⟩) (fun w => by kernel_rfl) fun w => H _ _
end
end Mine
namespace Mine
open PySem PySem.W PySem.W.X PySem.Spec PySem.Calls PyProof.Rows
noncomputable def objsOf : Lst → List Obj
  | [] => []
  | x :: l => x.2 :: objsOf l
noncomputable def cTok (N : Nm) (fn cd : String) (F : FuncData) (r : Rd) (sg : Addr) (vs vs' : List Value) (n n' : Nat) (k k' : Int) (kt : Tok) (m : Nat) (c : Nat) : Con := ⟨.call (.ref 91) ⟨[.ref r.me],[]⟩, rdO N fn cd F r sg vs n k kt [] m, 0,2,
  fun _ θ => objsOf (rdO N fn cd F r sg vs' n' k' (θ 1) [] m), fun _ _ => [], fun _ θ => .ok (.ret (ch1 c (θ 0))), 600⟩
section
variable {V : XV} {P : Params} {b : Bool} {scr : Obj}
theorem vTok0 (O : VO V P b scr) (r : Rd) (sg : Addr) (vs : List Value) (hv : vs.length ≤ 1000) (n : Nat) (k : Int) (kt : Tok) (m : Nat) (c : Nat) (u : Nat → Tok) (he10 : ([c] == [10]) = false) :
    Valid V (cTok (nmZ P) fnZ cdZ (strF P) r sg (((vs ++ [ch1 10 (u 2)]) ++ [ch1 c (u 1)]) ++ [ch1 92 (u 0)]) vs n (n + 3) k (k + 1) kt m c) :=
  valid_of O _ 639 (hsD 308 823814487635979528348848112227735828909607713630419724312653129329098481598949640040432558868386414837246708233734765779273726747925813387223649639938459675565707807971374351250599159982498569920208965161789366334308766438878934565114860191806332999613074200328085205079166265998329182835394817260821672800111107846684981119666631624292050389573890883440107488394992975152553789598992041378683918915671715376555654692865092970992449600360848186918683458042443964702007020910094825192447354015329928881285543036939205613779307242479322663003222982291986679964072786978543070986960832860258291530773772004282122843447108346366009702175567437250068480) [(13, ups [0], fun w => ⟨_, vLenB (a := sg) (vs := (((vs ++ [ch1 10 (u 2)]) ++ [ch1 c (u 1)]) ++ [ch1 92 (u 0)])) (foot := [(sg, lstO (nmZ P) ((((vs ++ [ch1 10 (u 2)]) ++ [ch1 c (u 1)]) ++ [ch1 92 (u 0)])) (n + 0))]) (n := vs.length + 3) (by simp) (by (try simp only [List.length_append, List.length_cons, List.length_nil]); omega) (isList_foot (P := P))⟩), (0, ups [0], fun w => ⟨_, vPop P sg ((vs ++ [ch1 10 (u 2)]) ++ [ch1 c (u 1)]) (ch1 92 (u 0)) (n + 0) (by (try simp only [List.length_append, List.length_cons, List.length_nil]); omega)⟩), (10, ups [0], fun w => ⟨_, vLenB (a := sg) (vs := ((vs ++ [ch1 10 (u 2)]) ++ [ch1 c (u 1)])) (foot := [(sg, lstO (nmZ P) (((vs ++ [ch1 10 (u 2)]) ++ [ch1 c (u 1)])) (n + 1))]) (n := vs.length + 2) (by simp) (by (try simp only [List.length_append, List.length_cons, List.length_nil]); omega) (isList_foot (P := P))⟩), (0, ups [0], fun w => ⟨_, vPop P sg (vs ++ [ch1 10 (u 2)]) (ch1 c (u 1)) (n + 1) (by (try simp only [List.length_append, List.length_cons, List.length_nil]); omega)⟩), (0, ups [], fun w => ⟨_, vSeq [c] (u 1) [10] (w.t 28) false he10⟩), (8, ups [0], fun w => ⟨_, vLenB (a := sg) (vs := (vs ++ [ch1 10 (u 2)])) (foot := [(sg, lstO (nmZ P) ((vs ++ [ch1 10 (u 2)])) (n + 2))]) (n := vs.length + 1) (by simp) (by (try simp only [List.length_append, List.length_cons, List.length_nil]); omega) (isList_foot (P := P))⟩), (0, ups [0], fun w => ⟨_, vPop P sg vs (ch1 10 (u 2)) (n + 2) (by (try simp only [List.length_append, List.length_cons, List.length_nil]); omega)⟩)] (ups [0,0,0,0,0,0,0,0,0]) (fun w => []) (fun w => [u 1, w.t 41]) (fun _ => rfl) (fun _ => rfl) (fun ch κ w => by kernel_rfl)
theorem vTok1 (O : VO V P b scr) (r : Rd) (sg : Addr) (vs : List Value) (hv : vs.length ≤ 1000) (n : Nat) (k : Int) (kt : Tok) (m : Nat) (c : Nat) (u : Nat → Tok) (he10 : ([c] == [10]) = false) :
    Valid V (cTok (nmZ P) fnZ cdZ (strF P) r sg (((vs ++ [ch1 9 (u 2)]) ++ [ch1 c (u 1)]) ++ [ch1 92 (u 0)]) vs n (n + 3) k (k) kt m c) :=
  valid_of O _ 589 (hsD 278 500645521746293870510448852349299587139209025048665457082936725916956299845813201112193071589705769680099389889134391871667816156099398576215724882513484350996351504571313089125342048209722568850644788210227630802773551132085810362634136674052593206667134722888309095390954933813355516183384928810204446777891557734709124780033566608649786579115791506891833593860196758874517663578215243088505994716002841953091028215299101261615449939737071449508333554042460964615870308627233663277750573314928004410780769007004441377931520312270365664175736957055204150777986306285492629032793178112) [(13, ups [0], fun w => ⟨_, vLenB (a := sg) (vs := (((vs ++ [ch1 9 (u 2)]) ++ [ch1 c (u 1)]) ++ [ch1 92 (u 0)])) (foot := [(sg, lstO (nmZ P) ((((vs ++ [ch1 9 (u 2)]) ++ [ch1 c (u 1)]) ++ [ch1 92 (u 0)])) (n + 0))]) (n := vs.length + 3) (by simp) (by (try simp only [List.length_append, List.length_cons, List.length_nil]); omega) (isList_foot (P := P))⟩), (0, ups [0], fun w => ⟨_, vPop P sg ((vs ++ [ch1 9 (u 2)]) ++ [ch1 c (u 1)]) (ch1 92 (u 0)) (n + 0) (by (try simp only [List.length_append, List.length_cons, List.length_nil]); omega)⟩), (10, ups [0], fun w => ⟨_, vLenB (a := sg) (vs := ((vs ++ [ch1 9 (u 2)]) ++ [ch1 c (u 1)])) (foot := [(sg, lstO (nmZ P) (((vs ++ [ch1 9 (u 2)]) ++ [ch1 c (u 1)])) (n + 1))]) (n := vs.length + 2) (by simp) (by (try simp only [List.length_append, List.length_cons, List.length_nil]); omega) (isList_foot (P := P))⟩), (0, ups [0], fun w => ⟨_, vPop P sg (vs ++ [ch1 9 (u 2)]) (ch1 c (u 1)) (n + 1) (by (try simp only [List.length_append, List.length_cons, List.length_nil]); omega)⟩), (0, ups [], fun w => ⟨_, vSeq [c] (u 1) [10] (w.t 28) false he10⟩), (8, ups [0], fun w => ⟨_, vLenB (a := sg) (vs := (vs ++ [ch1 9 (u 2)])) (foot := [(sg, lstO (nmZ P) ((vs ++ [ch1 9 (u 2)])) (n + 2))]) (n := vs.length + 1) (by simp) (by (try simp only [List.length_append, List.length_cons, List.length_nil]); omega) (isList_foot (P := P))⟩), (0, ups [0], fun w => ⟨_, vPop P sg vs (ch1 9 (u 2)) (n + 2) (by (try simp only [List.length_append, List.length_cons, List.length_nil]); omega)⟩)] (ups [0,0,0,0,0,0,0,0,0]) (fun w => []) (fun w => [u 1, kt]) (fun _ => rfl) (fun _ => rfl) (fun ch κ w => by kernel_rfl)
theorem vTok2 (O : VO V P b scr) (r : Rd) (sg : Addr) (vs : List Value) (hv : vs.length ≤ 1000) (n : Nat) (k : Int) (kt : Tok) (m : Nat) (u : Nat → Tok) :
    Valid V (cTok (nmZ P) fnZ cdZ (strF P) r sg (((vs ++ [ch1 34 (u 2)]) ++ [ch1 97 (u 1)]) ++ [ch1 34 (u 0)]) vs n (n + 3) k (k) kt m 97) :=
  valid_of O _ 579 (hsD 258 360054670261273696029830673542747606726183192224069924642702481117646151349326726834369023688019974562520324596940310312779591792295030060847996689124050387693775211354067106727741494599640371583093183660671394673861463726890129796070885426509323740583438041143655181984259353063267913515943532027510043455186522757644087463464136488150935060526444844878573394613079985614290942501942412310512185037897298335723382339553161214253066848484535371533133068717857913315710587713769369198880463480172561034776433500716822746965225519102213927108608) [(13, ups [0], fun w => ⟨_, vLenB (a := sg) (vs := (((vs ++ [ch1 34 (u 2)]) ++ [ch1 97 (u 1)]) ++ [ch1 34 (u 0)])) (foot := [(sg, lstO (nmZ P) ((((vs ++ [ch1 34 (u 2)]) ++ [ch1 97 (u 1)]) ++ [ch1 34 (u 0)])) (n + 0))]) (n := vs.length + 3) (by simp) (by (try simp only [List.length_append, List.length_cons, List.length_nil]); omega) (isList_foot (P := P))⟩), (0, ups [0], fun w => ⟨_, vPop P sg ((vs ++ [ch1 34 (u 2)]) ++ [ch1 97 (u 1)]) (ch1 34 (u 0)) (n + 0) (by (try simp only [List.length_append, List.length_cons, List.length_nil]); omega)⟩), (12, ups [0], fun w => ⟨_, vLenB (a := sg) (vs := ((vs ++ [ch1 34 (u 2)]) ++ [ch1 97 (u 1)])) (foot := [(sg, lstO (nmZ P) (((vs ++ [ch1 34 (u 2)]) ++ [ch1 97 (u 1)])) (n + 1))]) (n := vs.length + 2) (by simp) (by (try simp only [List.length_append, List.length_cons, List.length_nil]); omega) (isList_foot (P := P))⟩), (0, ups [0], fun w => ⟨_, vPop P sg (vs ++ [ch1 34 (u 2)]) (ch1 97 (u 1)) (n + 1) (by (try simp only [List.length_append, List.length_cons, List.length_nil]); omega)⟩), (10, ups [0], fun w => ⟨_, vLenB (a := sg) (vs := (vs ++ [ch1 34 (u 2)])) (foot := [(sg, lstO (nmZ P) ((vs ++ [ch1 34 (u 2)])) (n + 2))]) (n := vs.length + 1) (by simp) (by (try simp only [List.length_append, List.length_cons, List.length_nil]); omega) (isList_foot (P := P))⟩), (0, ups [0], fun w => ⟨_, vPop P sg vs (ch1 34 (u 2)) (n + 2) (by (try simp only [List.length_append, List.length_cons, List.length_nil]); omega)⟩)] (ups [0,0,0,0,0,0,0,0,0]) (fun w => []) (fun w => [u 1, kt]) (fun _ => rfl) (fun _ => rfl) (fun ch κ w => by kernel_rfl)
theorem vTok3 (O : VO V P b scr) (r : Rd) (sg : Addr) (vs : List Value) (hv : vs.length ≤ 1000) (n : Nat) (k : Int) (kt : Tok) (m : Nat) (u : Nat → Tok) :
    Valid V (cTok (nmZ P) fnZ cdZ (strF P) r sg (((vs ++ [ch1 34 (u 2)]) ++ [ch1 35 (u 1)]) ++ [ch1 34 (u 0)]) vs n (n + 3) k (k) kt m 35) :=
  valid_of O _ 579 (hsD 258 360054670261273696029830673542747606726183192224069924642702481117646151349326726834369023688019974562520324596940310312779591792295030060847996689124050387693775211354067106727741494599640371583093183660671394673861463726890129796070885426509323740583438041143655181984259353063267913515943532027510043455186522757644087463464136488150935060526444844878573394613079985614290942501942412310512185037897298335723382339553161214253066848484535371533133068717857913315710587713769369198880463480172561034776433500716822746965225519102213927108608) [(13, ups [0], fun w => ⟨_, vLenB (a := sg) (vs := (((vs ++ [ch1 34 (u 2)]) ++ [ch1 35 (u 1)]) ++ [ch1 34 (u 0)])) (foot := [(sg, lstO (nmZ P) ((((vs ++ [ch1 34 (u 2)]) ++ [ch1 35 (u 1)]) ++ [ch1 34 (u 0)])) (n + 0))]) (n := vs.length + 3) (by simp) (by (try simp only [List.length_append, List.length_cons, List.length_nil]); omega) (isList_foot (P := P))⟩), (0, ups [0], fun w => ⟨_, vPop P sg ((vs ++ [ch1 34 (u 2)]) ++ [ch1 35 (u 1)]) (ch1 34 (u 0)) (n + 0) (by (try simp only [List.length_append, List.length_cons, List.length_nil]); omega)⟩), (12, ups [0], fun w => ⟨_, vLenB (a := sg) (vs := ((vs ++ [ch1 34 (u 2)]) ++ [ch1 35 (u 1)])) (foot := [(sg, lstO (nmZ P) (((vs ++ [ch1 34 (u 2)]) ++ [ch1 35 (u 1)])) (n + 1))]) (n := vs.length + 2) (by simp) (by (try simp only [List.length_append, List.length_cons, List.length_nil]); omega) (isList_foot (P := P))⟩), (0, ups [0], fun w => ⟨_, vPop P sg (vs ++ [ch1 34 (u 2)]) (ch1 35 (u 1)) (n + 1) (by (try simp only [List.length_append, List.length_cons, List.length_nil]); omega)⟩), (10, ups [0], fun w => ⟨_, vLenB (a := sg) (vs := (vs ++ [ch1 34 (u 2)])) (foot := [(sg, lstO (nmZ P) ((vs ++ [ch1 34 (u 2)])) (n + 2))]) (n := vs.length + 1) (by simp) (by (try simp only [List.length_append, List.length_cons, List.length_nil]); omega) (isList_foot (P := P))⟩), (0, ups [0], fun w => ⟨_, vPop P sg vs (ch1 34 (u 2)) (n + 2) (by (try simp only [List.length_append, List.length_cons, List.length_nil]); omega)⟩)] (ups [0,0,0,0,0,0,0,0,0]) (fun w => []) (fun w => [u 1, kt]) (fun _ => rfl) (fun _ => rfl) (fun ch κ w => by kernel_rfl)
theorem vTok4 (O : VO V P b scr) (r : Rd) (sg : Addr) (vs : List Value) (hv : vs.length ≤ 1000) (n : Nat) (k : Int) (kt : Tok) (m : Nat) (u : Nat → Tok) :
    Valid V (cTok (nmZ P) fnZ cdZ (strF P) r sg (((vs ++ [ch1 34 (u 2)]) ++ [ch1 98 (u 1)]) ++ [ch1 34 (u 0)]) vs n (n + 3) k (k) kt m 98) :=
  valid_of O _ 579 (hsD 258 360054670261273696029830673542747606726183192224069924642702481117646151349326726834369023688019974562520324596940310312779591792295030060847996689124050387693775211354067106727741494599640371583093183660671394673861463726890129796070885426509323740583438041143655181984259353063267913515943532027510043455186522757644087463464136488150935060526444844878573394613079985614290942501942412310512185037897298335723382339553161214253066848484535371533133068717857913315710587713769369198880463480172561034776433500716822746965225519102213927108608) [(13, ups [0], fun w => ⟨_, vLenB (a := sg) (vs := (((vs ++ [ch1 34 (u 2)]) ++ [ch1 98 (u 1)]) ++ [ch1 34 (u 0)])) (foot := [(sg, lstO (nmZ P) ((((vs ++ [ch1 34 (u 2)]) ++ [ch1 98 (u 1)]) ++ [ch1 34 (u 0)])) (n + 0))]) (n := vs.length + 3) (by simp) (by (try simp only [List.length_append, List.length_cons, List.length_nil]); omega) (isList_foot (P := P))⟩), (0, ups [0], fun w => ⟨_, vPop P sg ((vs ++ [ch1 34 (u 2)]) ++ [ch1 98 (u 1)]) (ch1 34 (u 0)) (n + 0) (by (try simp only [List.length_append, List.length_cons, List.length_nil]); omega)⟩), (12, ups [0], fun w => ⟨_, vLenB (a := sg) (vs := ((vs ++ [ch1 34 (u 2)]) ++ [ch1 98 (u 1)])) (foot := [(sg, lstO (nmZ P) (((vs ++ [ch1 34 (u 2)]) ++ [ch1 98 (u 1)])) (n + 1))]) (n := vs.length + 2) (by simp) (by (try simp only [List.length_append, List.length_cons, List.length_nil]); omega) (isList_foot (P := P))⟩), (0, ups [0], fun w => ⟨_, vPop P sg (vs ++ [ch1 34 (u 2)]) (ch1 98 (u 1)) (n + 1) (by (try simp only [List.length_append, List.length_cons, List.length_nil]); omega)⟩), (10, ups [0], fun w => ⟨_, vLenB (a := sg) (vs := (vs ++ [ch1 34 (u 2)])) (foot := [(sg, lstO (nmZ P) ((vs ++ [ch1 34 (u 2)])) (n + 2))]) (n := vs.length + 1) (by simp) (by (try simp only [List.length_append, List.length_cons, List.length_nil]); omega) (isList_foot (P := P))⟩), (0, ups [0], fun w => ⟨_, vPop P sg vs (ch1 34 (u 2)) (n + 2) (by (try simp only [List.length_append, List.length_cons, List.length_nil]); omega)⟩)] (ups [0,0,0,0,0,0,0,0,0]) (fun w => []) (fun w => [u 1, kt]) (fun _ => rfl) (fun _ => rfl) (fun ch κ w => by kernel_rfl)
theorem vTok5 (O : VO V P b scr) (r : Rd) (sg : Addr) (vs : List Value) (hv : vs.length ≤ 1000) (n : Nat) (k : Int) (kt : Tok) (m : Nat) (u : Nat → Tok) :
    Valid V (cTok (nmZ P) fnZ cdZ (strF P) r sg (((vs ++ [ch1 34 (u 2)]) ++ [ch1 59 (u 1)]) ++ [ch1 34 (u 0)]) vs n (n + 3) k (k) kt m 59) :=
  valid_of O _ 579 (hsD 258 360054670261273696029830673542747606726183192224069924642702481117646151349326726834369023688019974562520324596940310312779591792295030060847996689124050387693775211354067106727741494599640371583093183660671394673861463726890129796070885426509323740583438041143655181984259353063267913515943532027510043455186522757644087463464136488150935060526444844878573394613079985614290942501942412310512185037897298335723382339553161214253066848484535371533133068717857913315710587713769369198880463480172561034776433500716822746965225519102213927108608) [(13, ups [0], fun w => ⟨_, vLenB (a := sg) (vs := (((vs ++ [ch1 34 (u 2)]) ++ [ch1 59 (u 1)]) ++ [ch1 34 (u 0)])) (foot := [(sg, lstO (nmZ P) ((((vs ++ [ch1 34 (u 2)]) ++ [ch1 59 (u 1)]) ++ [ch1 34 (u 0)])) (n + 0))]) (n := vs.length + 3) (by simp) (by (try simp only [List.length_append, List.length_cons, List.length_nil]); omega) (isList_foot (P := P))⟩), (0, ups [0], fun w => ⟨_, vPop P sg ((vs ++ [ch1 34 (u 2)]) ++ [ch1 59 (u 1)]) (ch1 34 (u 0)) (n + 0) (by (try simp only [List.length_append, List.length_cons, List.length_nil]); omega)⟩), (12, ups [0], fun w => ⟨_, vLenB (a := sg) (vs := ((vs ++ [ch1 34 (u 2)]) ++ [ch1 59 (u 1)])) (foot := [(sg, lstO (nmZ P) (((vs ++ [ch1 34 (u 2)]) ++ [ch1 59 (u 1)])) (n + 1))]) (n := vs.length + 2) (by simp) (by (try simp only [List.length_append, List.length_cons, List.length_nil]); omega) (isList_foot (P := P))⟩), (0, ups [0], fun w => ⟨_, vPop P sg (vs ++ [ch1 34 (u 2)]) (ch1 59 (u 1)) (n + 1) (by (try simp only [List.length_append, List.length_cons, List.length_nil]); omega)⟩), (10, ups [0], fun w => ⟨_, vLenB (a := sg) (vs := (vs ++ [ch1 34 (u 2)])) (foot := [(sg, lstO (nmZ P) ((vs ++ [ch1 34 (u 2)])) (n + 2))]) (n := vs.length + 1) (by simp) (by (try simp only [List.length_append, List.length_cons, List.length_nil]); omega) (isList_foot (P := P))⟩), (0, ups [0], fun w => ⟨_, vPop P sg vs (ch1 34 (u 2)) (n + 2) (by (try simp only [List.length_append, List.length_cons, List.length_nil]); omega)⟩)] (ups [0,0,0,0,0,0,0,0,0]) (fun w => []) (fun w => [u 1, kt]) (fun _ => rfl) (fun _ => rfl) (fun ch κ w => by kernel_rfl)
theorem vTok6 (O : VO V P b scr) (r : Rd) (sg : Addr) (vs : List Value) (hv : vs.length ≤ 1000) (n : Nat) (k : Int) (kt : Tok) (m : Nat) (u : Nat → Tok) :
    Valid V (cTok (nmZ P) fnZ cdZ (strF P) r sg (((vs ++ [ch1 34 (u 2)]) ++ [ch1 61 (u 1)]) ++ [ch1 34 (u 0)]) vs n (n + 3) k (k) kt m 61) :=
  valid_of O _ 579 (hsD 258 360054670261273696029830673542747606726183192224069924642702481117646151349326726834369023688019974562520324596940310312779591792295030060847996689124050387693775211354067106727741494599640371583093183660671394673861463726890129796070885426509323740583438041143655181984259353063267913515943532027510043455186522757644087463464136488150935060526444844878573394613079985614290942501942412310512185037897298335723382339553161214253066848484535371533133068717857913315710587713769369198880463480172561034776433500716822746965225519102213927108608) [(13, ups [0], fun w => ⟨_, vLenB (a := sg) (vs := (((vs ++ [ch1 34 (u 2)]) ++ [ch1 61 (u 1)]) ++ [ch1 34 (u 0)])) (foot := [(sg, lstO (nmZ P) ((((vs ++ [ch1 34 (u 2)]) ++ [ch1 61 (u 1)]) ++ [ch1 34 (u 0)])) (n + 0))]) (n := vs.length + 3) (by simp) (by (try simp only [List.length_append, List.length_cons, List.length_nil]); omega) (isList_foot (P := P))⟩), (0, ups [0], fun w => ⟨_, vPop P sg ((vs ++ [ch1 34 (u 2)]) ++ [ch1 61 (u 1)]) (ch1 34 (u 0)) (n + 0) (by (try simp only [List.length_append, List.length_cons, List.length_nil]); omega)⟩), (12, ups [0], fun w => ⟨_, vLenB (a := sg) (vs := ((vs ++ [ch1 34 (u 2)]) ++ [ch1 61 (u 1)])) (foot := [(sg, lstO (nmZ P) (((vs ++ [ch1 34 (u 2)]) ++ [ch1 61 (u 1)])) (n + 1))]) (n := vs.length + 2) (by simp) (by (try simp only [List.length_append, List.length_cons, List.length_nil]); omega) (isList_foot (P := P))⟩), (0, ups [0], fun w => ⟨_, vPop P sg (vs ++ [ch1 34 (u 2)]) (ch1 61 (u 1)) (n + 1) (by (try simp only [List.length_append, List.length_cons, List.length_nil]); omega)⟩), (10, ups [0], fun w => ⟨_, vLenB (a := sg) (vs := (vs ++ [ch1 34 (u 2)])) (foot := [(sg, lstO (nmZ P) ((vs ++ [ch1 34 (u 2)])) (n + 2))]) (n := vs.length + 1) (by simp) (by (try simp only [List.length_append, List.length_cons, List.length_nil]); omega) (isList_foot (P := P))⟩), (0, ups [0], fun w => ⟨_, vPop P sg vs (ch1 34 (u 2)) (n + 2) (by (try simp only [List.length_append, List.length_cons, List.length_nil]); omega)⟩)] (ups [0,0,0,0,0,0,0,0,0]) (fun w => []) (fun w => [u 1, kt]) (fun _ => rfl) (fun _ => rfl) (fun ch κ w => by kernel_rfl)
theorem vTok7 (O : VO V P b scr) (r : Rd) (sg : Addr) (vs : List Value) (hv : vs.length ≤ 1000) (n : Nat) (k : Int) (kt : Tok) (m : Nat) (u : Nat → Tok) :
    Valid V (cTok (nmZ P) fnZ cdZ (strF P) r sg (((vs ++ [ch1 34 (u 2)]) ++ [ch1 39 (u 1)]) ++ [ch1 34 (u 0)]) vs n (n + 3) k (k) kt m 39) :=
  valid_of O _ 579 (hsD 258 360054670261273696029830673542747606726183192224069924642702481117646151349326726834369023688019974562520324596940310312779591792295030060847996689124050387693775211354067106727741494599640371583093183660671394673861463726890129796070885426509323740583438041143655181984259353063267913515943532027510043455186522757644087463464136488150935060526444844878573394613079985614290942501942412310512185037897298335723382339553161214253066848484535371533133068717857913315710587713769369198880463480172561034776433500716822746965225519102213927108608) [(13, ups [0], fun w => ⟨_, vLenB (a := sg) (vs := (((vs ++ [ch1 34 (u 2)]) ++ [ch1 39 (u 1)]) ++ [ch1 34 (u 0)])) (foot := [(sg, lstO (nmZ P) ((((vs ++ [ch1 34 (u 2)]) ++ [ch1 39 (u 1)]) ++ [ch1 34 (u 0)])) (n + 0))]) (n := vs.length + 3) (by simp) (by (try simp only [List.length_append, List.length_cons, List.length_nil]); omega) (isList_foot (P := P))⟩), (0, ups [0], fun w => ⟨_, vPop P sg ((vs ++ [ch1 34 (u 2)]) ++ [ch1 39 (u 1)]) (ch1 34 (u 0)) (n + 0) (by (try simp only [List.length_append, List.length_cons, List.length_nil]); omega)⟩), (12, ups [0], fun w => ⟨_, vLenB (a := sg) (vs := ((vs ++ [ch1 34 (u 2)]) ++ [ch1 39 (u 1)])) (foot := [(sg, lstO (nmZ P) (((vs ++ [ch1 34 (u 2)]) ++ [ch1 39 (u 1)])) (n + 1))]) (n := vs.length + 2) (by simp) (by (try simp only [List.length_append, List.length_cons, List.length_nil]); omega) (isList_foot (P := P))⟩), (0, ups [0], fun w => ⟨_, vPop P sg (vs ++ [ch1 34 (u 2)]) (ch1 39 (u 1)) (n + 1) (by (try simp only [List.length_append, List.length_cons, List.length_nil]); omega)⟩), (10, ups [0], fun w => ⟨_, vLenB (a := sg) (vs := (vs ++ [ch1 34 (u 2)])) (foot := [(sg, lstO (nmZ P) ((vs ++ [ch1 34 (u 2)])) (n + 2))]) (n := vs.length + 1) (by simp) (by (try simp only [List.length_append, List.length_cons, List.length_nil]); omega) (isList_foot (P := P))⟩), (0, ups [0], fun w => ⟨_, vPop P sg vs (ch1 34 (u 2)) (n + 2) (by (try simp only [List.length_append, List.length_cons, List.length_nil]); omega)⟩)] (ups [0,0,0,0,0,0,0,0,0]) (fun w => []) (fun w => [u 1, kt]) (fun _ => rfl) (fun _ => rfl) (fun ch κ w => by kernel_rfl)
theorem vTok8 (O : VO V P b scr) (r : Rd) (sg : Addr) (vs : List Value) (hv : vs.length ≤ 1000) (n : Nat) (k : Int) (kt : Tok) (m : Nat) (c : Nat) (u : Nat → Tok) (he10 : ([c] == [10]) = false) :
    Valid V (cTok (nmZ P) fnZ cdZ (strF P) r sg ((((vs ++ [ch1 34 (u 3)]) ++ [ch1 c (u 2)]) ++ [ch1 92 (u 1)]) ++ [ch1 34 (u 0)]) vs n (n + 4) k (k) kt m c) :=
  valid_of O _ 704 (hsD 324 4287720279398669715950360146449888400606528455292603550958665492318104304234996211762482063890257607486482245546631332773789947457630551199926126083744728435659800659981246187531932643570484544812913936428760258245604338404547993716439649474356346483117232825617481986073866189519205608084694775311750729182314540798193340829368392610008174900554547438165317789879954805509395946075177275294733939906232945070638358788709486895018017436075492035284650609273338285456821136378285498925045440771926006890222049676435953452656470058817501972507390006210990241888949397216607553463421315344409817069060822126361290138478364267129210800974575380200500668826329645971841158033271792238592) [(13, ups [0], fun w => ⟨_, vLenB (a := sg) (vs := ((((vs ++ [ch1 34 (u 3)]) ++ [ch1 c (u 2)]) ++ [ch1 92 (u 1)]) ++ [ch1 34 (u 0)])) (foot := [(sg, lstO (nmZ P) (((((vs ++ [ch1 34 (u 3)]) ++ [ch1 c (u 2)]) ++ [ch1 92 (u 1)]) ++ [ch1 34 (u 0)])) (n + 0))]) (n := vs.length + 4) (by simp) (by (try simp only [List.length_append, List.length_cons, List.length_nil]); omega) (isList_foot (P := P))⟩), (0, ups [0], fun w => ⟨_, vPop P sg (((vs ++ [ch1 34 (u 3)]) ++ [ch1 c (u 2)]) ++ [ch1 92 (u 1)]) (ch1 34 (u 0)) (n + 0) (by (try simp only [List.length_append, List.length_cons, List.length_nil]); omega)⟩), (12, ups [0], fun w => ⟨_, vLenB (a := sg) (vs := (((vs ++ [ch1 34 (u 3)]) ++ [ch1 c (u 2)]) ++ [ch1 92 (u 1)])) (foot := [(sg, lstO (nmZ P) ((((vs ++ [ch1 34 (u 3)]) ++ [ch1 c (u 2)]) ++ [ch1 92 (u 1)])) (n + 1))]) (n := vs.length + 3) (by simp) (by (try simp only [List.length_append, List.length_cons, List.length_nil]); omega) (isList_foot (P := P))⟩), (0, ups [0], fun w => ⟨_, vPop P sg ((vs ++ [ch1 34 (u 3)]) ++ [ch1 c (u 2)]) (ch1 92 (u 1)) (n + 1) (by (try simp only [List.length_append, List.length_cons, List.length_nil]); omega)⟩), (8, ups [0], fun w => ⟨_, vLenB (a := sg) (vs := ((vs ++ [ch1 34 (u 3)]) ++ [ch1 c (u 2)])) (foot := [(sg, lstO (nmZ P) (((vs ++ [ch1 34 (u 3)]) ++ [ch1 c (u 2)])) (n + 2))]) (n := vs.length + 2) (by simp) (by (try simp only [List.length_append, List.length_cons, List.length_nil]); omega) (isList_foot (P := P))⟩), (0, ups [0], fun w => ⟨_, vPop P sg (vs ++ [ch1 34 (u 3)]) (ch1 c (u 2)) (n + 2) (by (try simp only [List.length_append, List.length_cons, List.length_nil]); omega)⟩), (0, ups [], fun w => ⟨_, vSeq [c] (u 2) [10] (w.t 38) false he10⟩), (6, ups [0], fun w => ⟨_, vLenB (a := sg) (vs := (vs ++ [ch1 34 (u 3)])) (foot := [(sg, lstO (nmZ P) ((vs ++ [ch1 34 (u 3)])) (n + 3))]) (n := vs.length + 1) (by simp) (by (try simp only [List.length_append, List.length_cons, List.length_nil]); omega) (isList_foot (P := P))⟩), (0, ups [0], fun w => ⟨_, vPop P sg vs (ch1 34 (u 3)) (n + 3) (by (try simp only [List.length_append, List.length_cons, List.length_nil]); omega)⟩)] (ups [0,0,0,0,0,0,0,0,0]) (fun w => []) (fun w => [u 2, kt]) (fun _ => rfl) (fun _ => rfl) (fun ch κ w => by kernel_rfl)
theorem vTok9 (O : VO V P b scr) (r : Rd) (sg : Addr) (vs : List Value) (hv : vs.length ≤ 1000) (n : Nat) (k : Int) (kt : Tok) (m : Nat) (c : Nat) (u : Nat → Tok) (he10 : ([c] == [10]) = false) :
    Valid V (cTok (nmZ P) fnZ cdZ (strF P) r sg ((((vs ++ [ch1 10 (u 3)]) ++ [ch1 c (u 2)]) ++ [ch1 92 (u 1)]) ++ [ch1 10 (u 0)]) vs n (n + 4) k (k + 1 + 1) kt m c) :=
  valid_of O _ 839 (hsD 410 70998035048524915937602836846287290228071622056781465437292329525534356762459746198877153939435054115600882025117291648776131878923176398744999987717850230149331648718149534894379933207787217716529606266416166115443681095224095505647417659404548282573752044983125971709822120427743856081700850080465103168201950020811995729059880427986330129745653355144066639246145442965341240302963741490899823124376565807954138784102966822092030125272771604611936353266795193258376363340385984177284018381021100566626233158178402424089026723991142725559551644229270368164027300815581061300172378575257726921488938074217733277065546867106934224311202357454953221880533592829367071494730338755038065374862862051765027441345244363992718492470770483167786661909956577434693431467817167750619922734131953580600530904885391205598369933783494453433599292369141285365109678511451439104) [(13, ups [0], fun w => ⟨_, vLenB (a := sg) (vs := ((((vs ++ [ch1 10 (u 3)]) ++ [ch1 c (u 2)]) ++ [ch1 92 (u 1)]) ++ [ch1 10 (u 0)])) (foot := [(sg, lstO (nmZ P) (((((vs ++ [ch1 10 (u 3)]) ++ [ch1 c (u 2)]) ++ [ch1 92 (u 1)]) ++ [ch1 10 (u 0)])) (n + 0))]) (n := vs.length + 4) (by simp) (by (try simp only [List.length_append, List.length_cons, List.length_nil]); omega) (isList_foot (P := P))⟩), (0, ups [0], fun w => ⟨_, vPop P sg (((vs ++ [ch1 10 (u 3)]) ++ [ch1 c (u 2)]) ++ [ch1 92 (u 1)]) (ch1 10 (u 0)) (n + 0) (by (try simp only [List.length_append, List.length_cons, List.length_nil]); omega)⟩), (12, ups [0], fun w => ⟨_, vLenB (a := sg) (vs := (((vs ++ [ch1 10 (u 3)]) ++ [ch1 c (u 2)]) ++ [ch1 92 (u 1)])) (foot := [(sg, lstO (nmZ P) ((((vs ++ [ch1 10 (u 3)]) ++ [ch1 c (u 2)]) ++ [ch1 92 (u 1)])) (n + 1))]) (n := vs.length + 3) (by simp) (by (try simp only [List.length_append, List.length_cons, List.length_nil]); omega) (isList_foot (P := P))⟩), (0, ups [0], fun w => ⟨_, vPop P sg ((vs ++ [ch1 10 (u 3)]) ++ [ch1 c (u 2)]) (ch1 92 (u 1)) (n + 1) (by (try simp only [List.length_append, List.length_cons, List.length_nil]); omega)⟩), (10, ups [0], fun w => ⟨_, vLenB (a := sg) (vs := ((vs ++ [ch1 10 (u 3)]) ++ [ch1 c (u 2)])) (foot := [(sg, lstO (nmZ P) (((vs ++ [ch1 10 (u 3)]) ++ [ch1 c (u 2)])) (n + 2))]) (n := vs.length + 2) (by simp) (by (try simp only [List.length_append, List.length_cons, List.length_nil]); omega) (isList_foot (P := P))⟩), (0, ups [0], fun w => ⟨_, vPop P sg (vs ++ [ch1 10 (u 3)]) (ch1 c (u 2)) (n + 2) (by (try simp only [List.length_append, List.length_cons, List.length_nil]); omega)⟩), (0, ups [], fun w => ⟨_, vSeq [c] (u 2) [10] (w.t 43) false he10⟩), (8, ups [0], fun w => ⟨_, vLenB (a := sg) (vs := (vs ++ [ch1 10 (u 3)])) (foot := [(sg, lstO (nmZ P) ((vs ++ [ch1 10 (u 3)])) (n + 3))]) (n := vs.length + 1) (by simp) (by (try simp only [List.length_append, List.length_cons, List.length_nil]); omega) (isList_foot (P := P))⟩), (0, ups [0], fun w => ⟨_, vPop P sg vs (ch1 10 (u 3)) (n + 3) (by (try simp only [List.length_append, List.length_cons, List.length_nil]); omega)⟩)] (ups [0,0,0,0,0,0,0,0,0]) (fun w => []) (fun w => [u 2, w.t 56]) (fun _ => rfl) (fun _ => rfl) (fun ch κ w => by kernel_rfl)
theorem vTok10 (O : VO V P b scr) (r : Rd) (sg : Addr) (vs : List Value) (hv : vs.length ≤ 1000) (n : Nat) (k : Int) (kt : Tok) (m : Nat) (c : Nat) (u : Nat → Tok) (he10 : ([c] == [10]) = false) :
    Valid V (cTok (nmZ P) fnZ cdZ (strF P) r sg ((((vs ++ [ch1 9 (u 3)]) ++ [ch1 c (u 2)]) ++ [ch1 92 (u 1)]) ++ [ch1 10 (u 0)]) vs n (n + 4) k (k + 1) kt m c) :=
  valid_of O _ 789 (hsD 380 43146665703622202861367585071780953072965156292786456731752512059535226881668111133091080004659275532424028338727429593044843529179484287721140715660463190624294736956547130417317976755059875046823323377575505335552648998975761353627499182004796206435277354363209851351624559924790742991356792984669755067487343367986242451003985670904082329912556638601381919844672689423283523096760691313326273157289022698485253775081920748689158807353981845651467342632507363652844846101640592959855736138789929850630719725884597979966159032096632745953448040169656750331282853332408318232106971303114333241652452061990950588284907012288960865599825022258952438723318786256191075244737912755575642632064073912620307442028989848512320717877811600314892864272280110139998508124607811804420467866480839830460698886144) [(13, ups [0], fun w => ⟨_, vLenB (a := sg) (vs := ((((vs ++ [ch1 9 (u 3)]) ++ [ch1 c (u 2)]) ++ [ch1 92 (u 1)]) ++ [ch1 10 (u 0)])) (foot := [(sg, lstO (nmZ P) (((((vs ++ [ch1 9 (u 3)]) ++ [ch1 c (u 2)]) ++ [ch1 92 (u 1)]) ++ [ch1 10 (u 0)])) (n + 0))]) (n := vs.length + 4) (by simp) (by (try simp only [List.length_append, List.length_cons, List.length_nil]); omega) (isList_foot (P := P))⟩), (0, ups [0], fun w => ⟨_, vPop P sg (((vs ++ [ch1 9 (u 3)]) ++ [ch1 c (u 2)]) ++ [ch1 92 (u 1)]) (ch1 10 (u 0)) (n + 0) (by (try simp only [List.length_append, List.length_cons, List.length_nil]); omega)⟩), (12, ups [0], fun w => ⟨_, vLenB (a := sg) (vs := (((vs ++ [ch1 9 (u 3)]) ++ [ch1 c (u 2)]) ++ [ch1 92 (u 1)])) (foot := [(sg, lstO (nmZ P) ((((vs ++ [ch1 9 (u 3)]) ++ [ch1 c (u 2)]) ++ [ch1 92 (u 1)])) (n + 1))]) (n := vs.length + 3) (by simp) (by (try simp only [List.length_append, List.length_cons, List.length_nil]); omega) (isList_foot (P := P))⟩), (0, ups [0], fun w => ⟨_, vPop P sg ((vs ++ [ch1 9 (u 3)]) ++ [ch1 c (u 2)]) (ch1 92 (u 1)) (n + 1) (by (try simp only [List.length_append, List.length_cons, List.length_nil]); omega)⟩), (10, ups [0], fun w => ⟨_, vLenB (a := sg) (vs := ((vs ++ [ch1 9 (u 3)]) ++ [ch1 c (u 2)])) (foot := [(sg, lstO (nmZ P) (((vs ++ [ch1 9 (u 3)]) ++ [ch1 c (u 2)])) (n + 2))]) (n := vs.length + 2) (by simp) (by (try simp only [List.length_append, List.length_cons, List.length_nil]); omega) (isList_foot (P := P))⟩), (0, ups [0], fun w => ⟨_, vPop P sg (vs ++ [ch1 9 (u 3)]) (ch1 c (u 2)) (n + 2) (by (try simp only [List.length_append, List.length_cons, List.length_nil]); omega)⟩), (0, ups [], fun w => ⟨_, vSeq [c] (u 2) [10] (w.t 43) false he10⟩), (8, ups [0], fun w => ⟨_, vLenB (a := sg) (vs := (vs ++ [ch1 9 (u 3)])) (foot := [(sg, lstO (nmZ P) ((vs ++ [ch1 9 (u 3)])) (n + 3))]) (n := vs.length + 1) (by simp) (by (try simp only [List.length_append, List.length_cons, List.length_nil]); omega) (isList_foot (P := P))⟩), (0, ups [0], fun w => ⟨_, vPop P sg vs (ch1 9 (u 3)) (n + 3) (by (try simp only [List.length_append, List.length_cons, List.length_nil]); omega)⟩)] (ups [0,0,0,0,0,0,0,0,0]) (fun w => []) (fun w => [u 2, w.t 19]) (fun _ => rfl) (fun _ => rfl) (fun ch κ w => by kernel_rfl)
theorem vTok11 (O : VO V P b scr) (r : Rd) (sg : Addr) (vs : List Value) (hv : vs.length ≤ 1000) (n : Nat) (k : Int) (kt : Tok) (m : Nat) (u : Nat → Tok) :
    Valid V (cTok (nmZ P) fnZ cdZ (strF P) r sg ((((vs ++ [ch1 34 (u 3)]) ++ [ch1 97 (u 2)]) ++ [ch1 34 (u 1)]) ++ [ch1 10 (u 0)]) vs n (n + 4) k (k + 1) kt m 97) :=
  valid_of O _ 779 (hsD 360 31030255576048818373644494306091865532562875255520394281877156427852992589866726852696900086490136428599250671293890942760091565461668395672062379819626464801902199789220772769313945925737605999034700486936938105445459350614843852207080181559745087864665273595827851906081458421689430095350540676585307592059391726585875419159011204570908212732242824163773002155397167701870745356623763994993356582573602274628900704498802193971547560751495069135321046211392937434248086759375818312464025634382530919276684008378459366932431726533920892606622448505006329696602363275798322709168754691484042532333141778223646766954285728817771452785244796831288844565511363834701953608556148099743333473934868160312381953629930817752079316781118040453916773793540705980940288) [(13, ups [0], fun w => ⟨_, vLenB (a := sg) (vs := ((((vs ++ [ch1 34 (u 3)]) ++ [ch1 97 (u 2)]) ++ [ch1 34 (u 1)]) ++ [ch1 10 (u 0)])) (foot := [(sg, lstO (nmZ P) (((((vs ++ [ch1 34 (u 3)]) ++ [ch1 97 (u 2)]) ++ [ch1 34 (u 1)]) ++ [ch1 10 (u 0)])) (n + 0))]) (n := vs.length + 4) (by simp) (by (try simp only [List.length_append, List.length_cons, List.length_nil]); omega) (isList_foot (P := P))⟩), (0, ups [0], fun w => ⟨_, vPop P sg (((vs ++ [ch1 34 (u 3)]) ++ [ch1 97 (u 2)]) ++ [ch1 34 (u 1)]) (ch1 10 (u 0)) (n + 0) (by (try simp only [List.length_append, List.length_cons, List.length_nil]); omega)⟩), (12, ups [0], fun w => ⟨_, vLenB (a := sg) (vs := (((vs ++ [ch1 34 (u 3)]) ++ [ch1 97 (u 2)]) ++ [ch1 34 (u 1)])) (foot := [(sg, lstO (nmZ P) ((((vs ++ [ch1 34 (u 3)]) ++ [ch1 97 (u 2)]) ++ [ch1 34 (u 1)])) (n + 1))]) (n := vs.length + 3) (by simp) (by (try simp only [List.length_append, List.length_cons, List.length_nil]); omega) (isList_foot (P := P))⟩), (0, ups [0], fun w => ⟨_, vPop P sg ((vs ++ [ch1 34 (u 3)]) ++ [ch1 97 (u 2)]) (ch1 34 (u 1)) (n + 1) (by (try simp only [List.length_append, List.length_cons, List.length_nil]); omega)⟩), (12, ups [0], fun w => ⟨_, vLenB (a := sg) (vs := ((vs ++ [ch1 34 (u 3)]) ++ [ch1 97 (u 2)])) (foot := [(sg, lstO (nmZ P) (((vs ++ [ch1 34 (u 3)]) ++ [ch1 97 (u 2)])) (n + 2))]) (n := vs.length + 2) (by simp) (by (try simp only [List.length_append, List.length_cons, List.length_nil]); omega) (isList_foot (P := P))⟩), (0, ups [0], fun w => ⟨_, vPop P sg (vs ++ [ch1 34 (u 3)]) (ch1 97 (u 2)) (n + 2) (by (try simp only [List.length_append, List.length_cons, List.length_nil]); omega)⟩), (10, ups [0], fun w => ⟨_, vLenB (a := sg) (vs := (vs ++ [ch1 34 (u 3)])) (foot := [(sg, lstO (nmZ P) ((vs ++ [ch1 34 (u 3)])) (n + 3))]) (n := vs.length + 1) (by simp) (by (try simp only [List.length_append, List.length_cons, List.length_nil]); omega) (isList_foot (P := P))⟩), (0, ups [0], fun w => ⟨_, vPop P sg vs (ch1 34 (u 3)) (n + 3) (by (try simp only [List.length_append, List.length_cons, List.length_nil]); omega)⟩)] (ups [0,0,0,0,0,0,0,0,0]) (fun w => []) (fun w => [u 2, w.t 19]) (fun _ => rfl) (fun _ => rfl) (fun ch κ w => by kernel_rfl)
theorem vTok12 (O : VO V P b scr) (r : Rd) (sg : Addr) (vs : List Value) (hv : vs.length ≤ 1000) (n : Nat) (k : Int) (kt : Tok) (m : Nat) (u : Nat → Tok) :
    Valid V (cTok (nmZ P) fnZ cdZ (strF P) r sg ((((vs ++ [ch1 34 (u 3)]) ++ [ch1 35 (u 2)]) ++ [ch1 34 (u 1)]) ++ [ch1 10 (u 0)]) vs n (n + 4) k (k + 1) kt m 35) :=
  valid_of O _ 779 (hsD 360 31030255576048818373644494306091865532562875255520394281877156427852992589866726852696900086490136428599250671293890942760091565461668395672062379819626464801902199789220772769313945925737605999034700486936938105445459350614843852207080181559745087864665273595827851906081458421689430095350540676585307592059391726585875419159011204570908212732242824163773002155397167701870745356623763994993356582573602274628900704498802193971547560751495069135321046211392937434248086759375818312464025634382530919276684008378459366932431726533920892606622448505006329696602363275798322709168754691484042532333141778223646766954285728817771452785244796831288844565511363834701953608556148099743333473934868160312381953629930817752079316781118040453916773793540705980940288) [(13, ups [0], fun w => ⟨_, vLenB (a := sg) (vs := ((((vs ++ [ch1 34 (u 3)]) ++ [ch1 35 (u 2)]) ++ [ch1 34 (u 1)]) ++ [ch1 10 (u 0)])) (foot := [(sg, lstO (nmZ P) (((((vs ++ [ch1 34 (u 3)]) ++ [ch1 35 (u 2)]) ++ [ch1 34 (u 1)]) ++ [ch1 10 (u 0)])) (n + 0))]) (n := vs.length + 4) (by simp) (by (try simp only [List.length_append, List.length_cons, List.length_nil]); omega) (isList_foot (P := P))⟩), (0, ups [0], fun w => ⟨_, vPop P sg (((vs ++ [ch1 34 (u 3)]) ++ [ch1 35 (u 2)]) ++ [ch1 34 (u 1)]) (ch1 10 (u 0)) (n + 0) (by (try simp only [List.length_append, List.length_cons, List.length_nil]); omega)⟩), (12, ups [0], fun w => ⟨_, vLenB (a := sg) (vs := (((vs ++ [ch1 34 (u 3)]) ++ [ch1 35 (u 2)]) ++ [ch1 34 (u 1)])) (foot := [(sg, lstO (nmZ P) ((((vs ++ [ch1 34 (u 3)]) ++ [ch1 35 (u 2)]) ++ [ch1 34 (u 1)])) (n + 1))]) (n := vs.length + 3) (by simp) (by (try simp only [List.length_append, List.length_cons, List.length_nil]); omega) (isList_foot (P := P))⟩), (0, ups [0], fun w => ⟨_, vPop P sg ((vs ++ [ch1 34 (u 3)]) ++ [ch1 35 (u 2)]) (ch1 34 (u 1)) (n + 1) (by (try simp only [List.length_append, List.length_cons, List.length_nil]); omega)⟩), (12, ups [0], fun w => ⟨_, vLenB (a := sg) (vs := ((vs ++ [ch1 34 (u 3)]) ++ [ch1 35 (u 2)])) (foot := [(sg, lstO (nmZ P) (((vs ++ [ch1 34 (u 3)]) ++ [ch1 35 (u 2)])) (n + 2))]) (n := vs.length + 2) (by simp) (by (try simp only [List.length_append, List.length_cons, List.length_nil]); omega) (isList_foot (P := P))⟩), (0, ups [0], fun w => ⟨_, vPop P sg (vs ++ [ch1 34 (u 3)]) (ch1 35 (u 2)) (n + 2) (by (try simp only [List.length_append, List.length_cons, List.length_nil]); omega)⟩), (10, ups [0], fun w => ⟨_, vLenB (a := sg) (vs := (vs ++ [ch1 34 (u 3)])) (foot := [(sg, lstO (nmZ P) ((vs ++ [ch1 34 (u 3)])) (n + 3))]) (n := vs.length + 1) (by simp) (by (try simp only [List.length_append, List.length_cons, List.length_nil]); omega) (isList_foot (P := P))⟩), (0, ups [0], fun w => ⟨_, vPop P sg vs (ch1 34 (u 3)) (n + 3) (by (try simp only [List.length_append, List.length_cons, List.length_nil]); omega)⟩)] (ups [0,0,0,0,0,0,0,0,0]) (fun w => []) (fun w => [u 2, w.t 19]) (fun _ => rfl) (fun _ => rfl) (fun ch κ w => by kernel_rfl)
theorem vTok13 (O : VO V P b scr) (r : Rd) (sg : Addr) (vs : List Value) (hv : vs.length ≤ 1000) (n : Nat) (k : Int) (kt : Tok) (m : Nat) (u : Nat → Tok) :
    Valid V (cTok (nmZ P) fnZ cdZ (strF P) r sg ((((vs ++ [ch1 34 (u 3)]) ++ [ch1 98 (u 2)]) ++ [ch1 34 (u 1)]) ++ [ch1 10 (u 0)]) vs n (n + 4) k (k + 1) kt m 98) :=
  valid_of O _ 779 (hsD 360 31030255576048818373644494306091865532562875255520394281877156427852992589866726852696900086490136428599250671293890942760091565461668395672062379819626464801902199789220772769313945925737605999034700486936938105445459350614843852207080181559745087864665273595827851906081458421689430095350540676585307592059391726585875419159011204570908212732242824163773002155397167701870745356623763994993356582573602274628900704498802193971547560751495069135321046211392937434248086759375818312464025634382530919276684008378459366932431726533920892606622448505006329696602363275798322709168754691484042532333141778223646766954285728817771452785244796831288844565511363834701953608556148099743333473934868160312381953629930817752079316781118040453916773793540705980940288) [(13, ups [0], fun w => ⟨_, vLenB (a := sg) (vs := ((((vs ++ [ch1 34 (u 3)]) ++ [ch1 98 (u 2)]) ++ [ch1 34 (u 1)]) ++ [ch1 10 (u 0)])) (foot := [(sg, lstO (nmZ P) (((((vs ++ [ch1 34 (u 3)]) ++ [ch1 98 (u 2)]) ++ [ch1 34 (u 1)]) ++ [ch1 10 (u 0)])) (n + 0))]) (n := vs.length + 4) (by simp) (by (try simp only [List.length_append, List.length_cons, List.length_nil]); omega) (isList_foot (P := P))⟩), (0, ups [0], fun w => ⟨_, vPop P sg (((vs ++ [ch1 34 (u 3)]) ++ [ch1 98 (u 2)]) ++ [ch1 34 (u 1)]) (ch1 10 (u 0)) (n + 0) (by (try simp only [List.length_append, List.length_cons, List.length_nil]); omega)⟩), (12, ups [0], fun w => ⟨_, vLenB (a := sg) (vs := (((vs ++ [ch1 34 (u 3)]) ++ [ch1 98 (u 2)]) ++ [ch1 34 (u 1)])) (foot := [(sg, lstO (nmZ P) ((((vs ++ [ch1 34 (u 3)]) ++ [ch1 98 (u 2)]) ++ [ch1 34 (u 1)])) (n + 1))]) (n := vs.length + 3) (by simp) (by (try simp only [List.length_append, List.length_cons, List.length_nil]); omega) (isList_foot (P := P))⟩), (0, ups [0], fun w => ⟨_, vPop P sg ((vs ++ [ch1 34 (u 3)]) ++ [ch1 98 (u 2)]) (ch1 34 (u 1)) (n + 1) (by (try simp only [List.length_append, List.length_cons, List.length_nil]); omega)⟩), (12, ups [0], fun w => ⟨_, vLenB (a := sg) (vs := ((vs ++ [ch1 34 (u 3)]) ++ [ch1 98 (u 2)])) (foot := [(sg, lstO (nmZ P) (((vs ++ [ch1 34 (u 3)]) ++ [ch1 98 (u 2)])) (n + 2))]) (n := vs.length + 2) (by simp) (by (try simp only [List.length_append, List.length_cons, List.length_nil]); omega) (isList_foot (P := P))⟩), (0, ups [0], fun w => ⟨_, vPop P sg (vs ++ [ch1 34 (u 3)]) (ch1 98 (u 2)) (n + 2) (by (try simp only [List.length_append, List.length_cons, List.length_nil]); omega)⟩), (10, ups [0], fun w => ⟨_, vLenB (a := sg) (vs := (vs ++ [ch1 34 (u 3)])) (foot := [(sg, lstO (nmZ P) ((vs ++ [ch1 34 (u 3)])) (n + 3))]) (n := vs.length + 1) (by simp) (by (try simp only [List.length_append, List.length_cons, List.length_nil]); omega) (isList_foot (P := P))⟩), (0, ups [0], fun w => ⟨_, vPop P sg vs (ch1 34 (u 3)) (n + 3) (by (try simp only [List.length_append, List.length_cons, List.length_nil]); omega)⟩)] (ups [0,0,0,0,0,0,0,0,0]) (fun w => []) (fun w => [u 2, w.t 19]) (fun _ => rfl) (fun _ => rfl) (fun ch κ w => by kernel_rfl)
theorem vTok14 (O : VO V P b scr) (r : Rd) (sg : Addr) (vs : List Value) (hv : vs.length ≤ 1000) (n : Nat) (k : Int) (kt : Tok) (m : Nat) (u : Nat → Tok) :
    Valid V (cTok (nmZ P) fnZ cdZ (strF P) r sg ((((vs ++ [ch1 34 (u 3)]) ++ [ch1 59 (u 2)]) ++ [ch1 34 (u 1)]) ++ [ch1 10 (u 0)]) vs n (n + 4) k (k + 1) kt m 59) :=
  valid_of O _ 779 (hsD 360 31030255576048818373644494306091865532562875255520394281877156427852992589866726852696900086490136428599250671293890942760091565461668395672062379819626464801902199789220772769313945925737605999034700486936938105445459350614843852207080181559745087864665273595827851906081458421689430095350540676585307592059391726585875419159011204570908212732242824163773002155397167701870745356623763994993356582573602274628900704498802193971547560751495069135321046211392937434248086759375818312464025634382530919276684008378459366932431726533920892606622448505006329696602363275798322709168754691484042532333141778223646766954285728817771452785244796831288844565511363834701953608556148099743333473934868160312381953629930817752079316781118040453916773793540705980940288) [(13, ups [0], fun w => ⟨_, vLenB (a := sg) (vs := ((((vs ++ [ch1 34 (u 3)]) ++ [ch1 59 (u 2)]) ++ [ch1 34 (u 1)]) ++ [ch1 10 (u 0)])) (foot := [(sg, lstO (nmZ P) (((((vs ++ [ch1 34 (u 3)]) ++ [ch1 59 (u 2)]) ++ [ch1 34 (u 1)]) ++ [ch1 10 (u 0)])) (n + 0))]) (n := vs.length + 4) (by simp) (by (try simp only [List.length_append, List.length_cons, List.length_nil]); omega) (isList_foot (P := P))⟩), (0, ups [0], fun w => ⟨_, vPop P sg (((vs ++ [ch1 34 (u 3)]) ++ [ch1 59 (u 2)]) ++ [ch1 34 (u 1)]) (ch1 10 (u 0)) (n + 0) (by (try simp only [List.length_append, List.length_cons, List.length_nil]); omega)⟩), (12, ups [0], fun w => ⟨_, vLenB (a := sg) (vs := (((vs ++ [ch1 34 (u 3)]) ++ [ch1 59 (u 2)]) ++ [ch1 34 (u 1)])) (foot := [(sg, lstO (nmZ P) ((((vs ++ [ch1 34 (u 3)]) ++ [ch1 59 (u 2)]) ++ [ch1 34 (u 1)])) (n + 1))]) (n := vs.length + 3) (by simp) (by (try simp only [List.length_append, List.length_cons, List.length_nil]); omega) (isList_foot (P := P))⟩), (0, ups [0], fun w => ⟨_, vPop P sg ((vs ++ [ch1 34 (u 3)]) ++ [ch1 59 (u 2)]) (ch1 34 (u 1)) (n + 1) (by (try simp only [List.length_append, List.length_cons, List.length_nil]); omega)⟩), (12, ups [0], fun w => ⟨_, vLenB (a := sg) (vs := ((vs ++ [ch1 34 (u 3)]) ++ [ch1 59 (u 2)])) (foot := [(sg, lstO (nmZ P) (((vs ++ [ch1 34 (u 3)]) ++ [ch1 59 (u 2)])) (n + 2))]) (n := vs.length + 2) (by simp) (by (try simp only [List.length_append, List.length_cons, List.length_nil]); omega) (isList_foot (P := P))⟩), (0, ups [0], fun w => ⟨_, vPop P sg (vs ++ [ch1 34 (u 3)]) (ch1 59 (u 2)) (n + 2) (by (try simp only [List.length_append, List.length_cons, List.length_nil]); omega)⟩), (10, ups [0], fun w => ⟨_, vLenB (a := sg) (vs := (vs ++ [ch1 34 (u 3)])) (foot := [(sg, lstO (nmZ P) ((vs ++ [ch1 34 (u 3)])) (n + 3))]) (n := vs.length + 1) (by simp) (by (try simp only [List.length_append, List.length_cons, List.length_nil]); omega) (isList_foot (P := P))⟩), (0, ups [0], fun w => ⟨_, vPop P sg vs (ch1 34 (u 3)) (n + 3) (by (try simp only [List.length_append, List.length_cons, List.length_nil]); omega)⟩)] (ups [0,0,0,0,0,0,0,0,0]) (fun w => []) (fun w => [u 2, w.t 19]) (fun _ => rfl) (fun _ => rfl) (fun ch κ w => by kernel_rfl)
theorem vTok15 (O : VO V P b scr) (r : Rd) (sg : Addr) (vs : List Value) (hv : vs.length ≤ 1000) (n : Nat) (k : Int) (kt : Tok) (m : Nat) (u : Nat → Tok) :
    Valid V (cTok (nmZ P) fnZ cdZ (strF P) r sg ((((vs ++ [ch1 34 (u 3)]) ++ [ch1 61 (u 2)]) ++ [ch1 34 (u 1)]) ++ [ch1 10 (u 0)]) vs n (n + 4) k (k + 1) kt m 61) :=
  valid_of O _ 779 (hsD 360 31030255576048818373644494306091865532562875255520394281877156427852992589866726852696900086490136428599250671293890942760091565461668395672062379819626464801902199789220772769313945925737605999034700486936938105445459350614843852207080181559745087864665273595827851906081458421689430095350540676585307592059391726585875419159011204570908212732242824163773002155397167701870745356623763994993356582573602274628900704498802193971547560751495069135321046211392937434248086759375818312464025634382530919276684008378459366932431726533920892606622448505006329696602363275798322709168754691484042532333141778223646766954285728817771452785244796831288844565511363834701953608556148099743333473934868160312381953629930817752079316781118040453916773793540705980940288) [(13, ups [0], fun w => ⟨_, vLenB (a := sg) (vs := ((((vs ++ [ch1 34 (u 3)]) ++ [ch1 61 (u 2)]) ++ [ch1 34 (u 1)]) ++ [ch1 10 (u 0)])) (foot := [(sg, lstO (nmZ P) (((((vs ++ [ch1 34 (u 3)]) ++ [ch1 61 (u 2)]) ++ [ch1 34 (u 1)]) ++ [ch1 10 (u 0)])) (n + 0))]) (n := vs.length + 4) (by simp) (by (try simp only [List.length_append, List.length_cons, List.length_nil]); omega) (isList_foot (P := P))⟩), (0, ups [0], fun w => ⟨_, vPop P sg (((vs ++ [ch1 34 (u 3)]) ++ [ch1 61 (u 2)]) ++ [ch1 34 (u 1)]) (ch1 10 (u 0)) (n + 0) (by (try simp only [List.length_append, List.length_cons, List.length_nil]); omega)⟩), (12, ups [0], fun w => ⟨_, vLenB (a := sg) (vs := (((vs ++ [ch1 34 (u 3)]) ++ [ch1 61 (u 2)]) ++ [ch1 34 (u 1)])) (foot := [(sg, lstO (nmZ P) ((((vs ++ [ch1 34 (u 3)]) ++ [ch1 61 (u 2)]) ++ [ch1 34 (u 1)])) (n + 1))]) (n := vs.length + 3) (by simp) (by (try simp only [List.length_append, List.length_cons, List.length_nil]); omega) (isList_foot (P := P))⟩), (0, ups [0], fun w => ⟨_, vPop P sg ((vs ++ [ch1 34 (u 3)]) ++ [ch1 61 (u 2)]) (ch1 34 (u 1)) (n + 1) (by (try simp only [List.length_append, List.length_cons, List.length_nil]); omega)⟩), (12, ups [0], fun w => ⟨_, vLenB (a := sg) (vs := ((vs ++ [ch1 34 (u 3)]) ++ [ch1 61 (u 2)])) (foot := [(sg, lstO (nmZ P) (((vs ++ [ch1 34 (u 3)]) ++ [ch1 61 (u 2)])) (n + 2))]) (n := vs.length + 2) (by simp) (by (try simp only [List.length_append, List.length_cons, List.length_nil]); omega) (isList_foot (P := P))⟩), (0, ups [0], fun w => ⟨_, vPop P sg (vs ++ [ch1 34 (u 3)]) (ch1 61 (u 2)) (n + 2) (by (try simp only [List.length_append, List.length_cons, List.length_nil]); omega)⟩), (10, ups [0], fun w => ⟨_, vLenB (a := sg) (vs := (vs ++ [ch1 34 (u 3)])) (foot := [(sg, lstO (nmZ P) ((vs ++ [ch1 34 (u 3)])) (n + 3))]) (n := vs.length + 1) (by simp) (by (try simp only [List.length_append, List.length_cons, List.length_nil]); omega) (isList_foot (P := P))⟩), (0, ups [0], fun w => ⟨_, vPop P sg vs (ch1 34 (u 3)) (n + 3) (by (try simp only [List.length_append, List.length_cons, List.length_nil]); omega)⟩)] (ups [0,0,0,0,0,0,0,0,0]) (fun w => []) (fun w => [u 2, w.t 19]) (fun _ => rfl) (fun _ => rfl) (fun ch κ w => by kernel_rfl)
theorem vTok16 (O : VO V P b scr) (r : Rd) (sg : Addr) (vs : List Value) (hv : vs.length ≤ 1000) (n : Nat) (k : Int) (kt : Tok) (m : Nat) (u : Nat → Tok) :
    Valid V (cTok (nmZ P) fnZ cdZ (strF P) r sg ((((vs ++ [ch1 34 (u 3)]) ++ [ch1 39 (u 2)]) ++ [ch1 34 (u 1)]) ++ [ch1 10 (u 0)]) vs n (n + 4) k (k + 1) kt m 39) :=
  valid_of O _ 779 (hsD 360 31030255576048818373644494306091865532562875255520394281877156427852992589866726852696900086490136428599250671293890942760091565461668395672062379819626464801902199789220772769313945925737605999034700486936938105445459350614843852207080181559745087864665273595827851906081458421689430095350540676585307592059391726585875419159011204570908212732242824163773002155397167701870745356623763994993356582573602274628900704498802193971547560751495069135321046211392937434248086759375818312464025634382530919276684008378459366932431726533920892606622448505006329696602363275798322709168754691484042532333141778223646766954285728817771452785244796831288844565511363834701953608556148099743333473934868160312381953629930817752079316781118040453916773793540705980940288) [(13, ups [0], fun w => ⟨_, vLenB (a := sg) (vs := ((((vs ++ [ch1 34 (u 3)]) ++ [ch1 39 (u 2)]) ++ [ch1 34 (u 1)]) ++ [ch1 10 (u 0)])) (foot := [(sg, lstO (nmZ P) (((((vs ++ [ch1 34 (u 3)]) ++ [ch1 39 (u 2)]) ++ [ch1 34 (u 1)]) ++ [ch1 10 (u 0)])) (n + 0))]) (n := vs.length + 4) (by simp) (by (try simp only [List.length_append, List.length_cons, List.length_nil]); omega) (isList_foot (P := P))⟩), (0, ups [0], fun w => ⟨_, vPop P sg (((vs ++ [ch1 34 (u 3)]) ++ [ch1 39 (u 2)]) ++ [ch1 34 (u 1)]) (ch1 10 (u 0)) (n + 0) (by (try simp only [List.length_append, List.length_cons, List.length_nil]); omega)⟩), (12, ups [0], fun w => ⟨_, vLenB (a := sg) (vs := (((vs ++ [ch1 34 (u 3)]) ++ [ch1 39 (u 2)]) ++ [ch1 34 (u 1)])) (foot := [(sg, lstO (nmZ P) ((((vs ++ [ch1 34 (u 3)]) ++ [ch1 39 (u 2)]) ++ [ch1 34 (u 1)])) (n + 1))]) (n := vs.length + 3) (by simp) (by (try simp only [List.length_append, List.length_cons, List.length_nil]); omega) (isList_foot (P := P))⟩), (0, ups [0], fun w => ⟨_, vPop P sg ((vs ++ [ch1 34 (u 3)]) ++ [ch1 39 (u 2)]) (ch1 34 (u 1)) (n + 1) (by (try simp only [List.length_append, List.length_cons, List.length_nil]); omega)⟩), (12, ups [0], fun w => ⟨_, vLenB (a := sg) (vs := ((vs ++ [ch1 34 (u 3)]) ++ [ch1 39 (u 2)])) (foot := [(sg, lstO (nmZ P) (((vs ++ [ch1 34 (u 3)]) ++ [ch1 39 (u 2)])) (n + 2))]) (n := vs.length + 2) (by simp) (by (try simp only [List.length_append, List.length_cons, List.length_nil]); omega) (isList_foot (P := P))⟩), (0, ups [0], fun w => ⟨_, vPop P sg (vs ++ [ch1 34 (u 3)]) (ch1 39 (u 2)) (n + 2) (by (try simp only [List.length_append, List.length_cons, List.length_nil]); omega)⟩), (10, ups [0], fun w => ⟨_, vLenB (a := sg) (vs := (vs ++ [ch1 34 (u 3)])) (foot := [(sg, lstO (nmZ P) ((vs ++ [ch1 34 (u 3)])) (n + 3))]) (n := vs.length + 1) (by simp) (by (try simp only [List.length_append, List.length_cons, List.length_nil]); omega) (isList_foot (P := P))⟩), (0, ups [0], fun w => ⟨_, vPop P sg vs (ch1 34 (u 3)) (n + 3) (by (try simp only [List.length_append, List.length_cons, List.length_nil]); omega)⟩)] (ups [0,0,0,0,0,0,0,0,0]) (fun w => []) (fun w => [u 2, w.t 19]) (fun _ => rfl) (fun _ => rfl) (fun ch κ w => by kernel_rfl)
theorem vTok17 (O : VO V P b scr) (r : Rd) (sg : Addr) (vs : List Value) (hv : vs.length ≤ 1000) (n : Nat) (k : Int) (kt : Tok) (m : Nat) (c : Nat) (u : Nat → Tok) (he10 : ([c] == [10]) = false) :
    Valid V (cTok (nmZ P) fnZ cdZ (strF P) r sg (((((vs ++ [ch1 34 (u 4)]) ++ [ch1 c (u 3)]) ++ [ch1 92 (u 2)]) ++ [ch1 34 (u 1)]) ++ [ch1 10 (u 0)]) vs n (n + 5) k (k + 1) kt m c) :=
  valid_of O _ 904 (hsD 426 369524594728353646329407469858983385622717443674682004912835228043028543508057624089001306932830450987973032276890908971346491849214256475667657245579738637132954270921466823779023700956571494435684621030501217760911146363473325580547592067363707125288060251830550339626697963667387199956397863902941217800040555641031414459342688384914025400415496437969605215043470446045101701085763636845597992766281755979157397846033994146118410168598565498650445370202044119491621503805415367867523867988656769811428184830127021630808008352557154063823288689979850441790969378975726925626095832714607552059809230334329120353629438202042777313450005810675336657232567110788316378599800591547468252581858595105071220127262952385515921151989467359631983073956282556608126862354481351260196128572140586476019029746835450299529543127973552204766150719652819298681652369605800782792879212040537743102725284706811904) [(13, ups [0], fun w => ⟨_, vLenB (a := sg) (vs := (((((vs ++ [ch1 34 (u 4)]) ++ [ch1 c (u 3)]) ++ [ch1 92 (u 2)]) ++ [ch1 34 (u 1)]) ++ [ch1 10 (u 0)])) (foot := [(sg, lstO (nmZ P) ((((((vs ++ [ch1 34 (u 4)]) ++ [ch1 c (u 3)]) ++ [ch1 92 (u 2)]) ++ [ch1 34 (u 1)]) ++ [ch1 10 (u 0)])) (n + 0))]) (n := vs.length + 5) (by simp) (by (try simp only [List.length_append, List.length_cons, List.length_nil]); omega) (isList_foot (P := P))⟩), (0, ups [0], fun w => ⟨_, vPop P sg ((((vs ++ [ch1 34 (u 4)]) ++ [ch1 c (u 3)]) ++ [ch1 92 (u 2)]) ++ [ch1 34 (u 1)]) (ch1 10 (u 0)) (n + 0) (by (try simp only [List.length_append, List.length_cons, List.length_nil]); omega)⟩), (12, ups [0], fun w => ⟨_, vLenB (a := sg) (vs := ((((vs ++ [ch1 34 (u 4)]) ++ [ch1 c (u 3)]) ++ [ch1 92 (u 2)]) ++ [ch1 34 (u 1)])) (foot := [(sg, lstO (nmZ P) (((((vs ++ [ch1 34 (u 4)]) ++ [ch1 c (u 3)]) ++ [ch1 92 (u 2)]) ++ [ch1 34 (u 1)])) (n + 1))]) (n := vs.length + 4) (by simp) (by (try simp only [List.length_append, List.length_cons, List.length_nil]); omega) (isList_foot (P := P))⟩), (0, ups [0], fun w => ⟨_, vPop P sg (((vs ++ [ch1 34 (u 4)]) ++ [ch1 c (u 3)]) ++ [ch1 92 (u 2)]) (ch1 34 (u 1)) (n + 1) (by (try simp only [List.length_append, List.length_cons, List.length_nil]); omega)⟩), (12, ups [0], fun w => ⟨_, vLenB (a := sg) (vs := (((vs ++ [ch1 34 (u 4)]) ++ [ch1 c (u 3)]) ++ [ch1 92 (u 2)])) (foot := [(sg, lstO (nmZ P) ((((vs ++ [ch1 34 (u 4)]) ++ [ch1 c (u 3)]) ++ [ch1 92 (u 2)])) (n + 2))]) (n := vs.length + 3) (by simp) (by (try simp only [List.length_append, List.length_cons, List.length_nil]); omega) (isList_foot (P := P))⟩), (0, ups [0], fun w => ⟨_, vPop P sg ((vs ++ [ch1 34 (u 4)]) ++ [ch1 c (u 3)]) (ch1 92 (u 2)) (n + 2) (by (try simp only [List.length_append, List.length_cons, List.length_nil]); omega)⟩), (8, ups [0], fun w => ⟨_, vLenB (a := sg) (vs := ((vs ++ [ch1 34 (u 4)]) ++ [ch1 c (u 3)])) (foot := [(sg, lstO (nmZ P) (((vs ++ [ch1 34 (u 4)]) ++ [ch1 c (u 3)])) (n + 3))]) (n := vs.length + 2) (by simp) (by (try simp only [List.length_append, List.length_cons, List.length_nil]); omega) (isList_foot (P := P))⟩), (0, ups [0], fun w => ⟨_, vPop P sg (vs ++ [ch1 34 (u 4)]) (ch1 c (u 3)) (n + 3) (by (try simp only [List.length_append, List.length_cons, List.length_nil]); omega)⟩), (0, ups [], fun w => ⟨_, vSeq [c] (u 3) [10] (w.t 53) false he10⟩), (6, ups [0], fun w => ⟨_, vLenB (a := sg) (vs := (vs ++ [ch1 34 (u 4)])) (foot := [(sg, lstO (nmZ P) ((vs ++ [ch1 34 (u 4)])) (n + 4))]) (n := vs.length + 1) (by simp) (by (try simp only [List.length_append, List.length_cons, List.length_nil]); omega) (isList_foot (P := P))⟩), (0, ups [0], fun w => ⟨_, vPop P sg vs (ch1 34 (u 4)) (n + 4) (by (try simp only [List.length_append, List.length_cons, List.length_nil]); omega)⟩)] (ups [0,0,0,0,0,0,0,0,0]) (fun w => []) (fun w => [u 3, w.t 19]) (fun _ => rfl) (fun _ => rfl) (fun ch κ w => by kernel_rfl)
theorem vTok18 (O : VO V P b scr) (r : Rd) (sg : Addr) (vs : List Value) (hv : vs.length ≤ 1000) (n : Nat) (k : Int) (kt : Tok) (m : Nat) (c : Nat) (u : Nat → Tok) (he10 : ([c] == [10]) = false) :
    Valid V (cTok (nmZ P) fnZ cdZ (strF P) r sg ((((vs ++ [ch1 10 (u 3)]) ++ [ch1 c (u 2)]) ++ [ch1 92 (u 1)]) ++ [ch1 9 (u 0)]) vs n (n + 4) k (k + 1) kt m c) :=
  valid_of O _ 789 (hsD 380 43146665703622202861367585071780953072965119056496160993954647775552094524951830987170811413258871922416527323469597083710196308128473591403217568834313827513043917879859168604947730961084661588497619039730274738971555454108590172935452206402460852343193467848716551099127276169525454110122011461345385496186836687360460986026014892429035781940026227795894787209111545142701054089826863687920217099774601481049310730998459386833823206694892055353712983157050188202082507777162340944396616101581099693385367541211322367364534691793721295658283633237135061479362054001237724546190828512369824960565078478874554714107233249401891669457941216890400599864005586273268518948680432614787368720867100857576366912910113159767313166379098562793392421399890721607393467455085020499831670068125274499867897659392) [(13, ups [0], fun w => ⟨_, vLenB (a := sg) (vs := ((((vs ++ [ch1 10 (u 3)]) ++ [ch1 c (u 2)]) ++ [ch1 92 (u 1)]) ++ [ch1 9 (u 0)])) (foot := [(sg, lstO (nmZ P) (((((vs ++ [ch1 10 (u 3)]) ++ [ch1 c (u 2)]) ++ [ch1 92 (u 1)]) ++ [ch1 9 (u 0)])) (n + 0))]) (n := vs.length + 4) (by simp) (by (try simp only [List.length_append, List.length_cons, List.length_nil]); omega) (isList_foot (P := P))⟩), (0, ups [0], fun w => ⟨_, vPop P sg (((vs ++ [ch1 10 (u 3)]) ++ [ch1 c (u 2)]) ++ [ch1 92 (u 1)]) (ch1 9 (u 0)) (n + 0) (by (try simp only [List.length_append, List.length_cons, List.length_nil]); omega)⟩), (9, ups [0], fun w => ⟨_, vLenB (a := sg) (vs := (((vs ++ [ch1 10 (u 3)]) ++ [ch1 c (u 2)]) ++ [ch1 92 (u 1)])) (foot := [(sg, lstO (nmZ P) ((((vs ++ [ch1 10 (u 3)]) ++ [ch1 c (u 2)]) ++ [ch1 92 (u 1)])) (n + 1))]) (n := vs.length + 3) (by simp) (by (try simp only [List.length_append, List.length_cons, List.length_nil]); omega) (isList_foot (P := P))⟩), (0, ups [0], fun w => ⟨_, vPop P sg ((vs ++ [ch1 10 (u 3)]) ++ [ch1 c (u 2)]) (ch1 92 (u 1)) (n + 1) (by (try simp only [List.length_append, List.length_cons, List.length_nil]); omega)⟩), (10, ups [0], fun w => ⟨_, vLenB (a := sg) (vs := ((vs ++ [ch1 10 (u 3)]) ++ [ch1 c (u 2)])) (foot := [(sg, lstO (nmZ P) (((vs ++ [ch1 10 (u 3)]) ++ [ch1 c (u 2)])) (n + 2))]) (n := vs.length + 2) (by simp) (by (try simp only [List.length_append, List.length_cons, List.length_nil]); omega) (isList_foot (P := P))⟩), (0, ups [0], fun w => ⟨_, vPop P sg (vs ++ [ch1 10 (u 3)]) (ch1 c (u 2)) (n + 2) (by (try simp only [List.length_append, List.length_cons, List.length_nil]); omega)⟩), (0, ups [], fun w => ⟨_, vSeq [c] (u 2) [10] (w.t 38) false he10⟩), (8, ups [0], fun w => ⟨_, vLenB (a := sg) (vs := (vs ++ [ch1 10 (u 3)])) (foot := [(sg, lstO (nmZ P) ((vs ++ [ch1 10 (u 3)])) (n + 3))]) (n := vs.length + 1) (by simp) (by (try simp only [List.length_append, List.length_cons, List.length_nil]); omega) (isList_foot (P := P))⟩), (0, ups [0], fun w => ⟨_, vPop P sg vs (ch1 10 (u 3)) (n + 3) (by (try simp only [List.length_append, List.length_cons, List.length_nil]); omega)⟩)] (ups [0,0,0,0,0,0,0,0,0]) (fun w => []) (fun w => [u 2, w.t 51]) (fun _ => rfl) (fun _ => rfl) (fun ch κ w => by kernel_rfl)
theorem vTok19 (O : VO V P b scr) (r : Rd) (sg : Addr) (vs : List Value) (hv : vs.length ≤ 1000) (n : Nat) (k : Int) (kt : Tok) (m : Nat) (c : Nat) (u : Nat → Tok) (he10 : ([c] == [10]) = false) :
    Valid V (cTok (nmZ P) fnZ cdZ (strF P) r sg ((((vs ++ [ch1 9 (u 3)]) ++ [ch1 c (u 2)]) ++ [ch1 92 (u 1)]) ++ [ch1 9 (u 0)]) vs n (n + 4) k (k) kt m c) :=
  valid_of O _ 739 (hsD 350 26220933580313312109792486175565239284658202289580702731909320149760781807172457770207135562744977793390522378606635606482073442098532660927856573813522767506706409824147883730426913700023985738015265652080795105424091117168992556400603715180252578453414742369481253597127358759459297543108028320802519234222368365080685217329586962508202150159548763456865249355921630977723208454849453384836043340236474940756375264219232524023450301944080910554144702488404786777465902295854750158245077699469252562252405521806839931668818113052879914823479220593860998289013271547662398748494646375050867455306764795787177882159446408741239086929893790386933521082332910178828268485921820476759229978631848768206598047258594755680470751414409874276352) [(13, ups [0], fun w => ⟨_, vLenB (a := sg) (vs := ((((vs ++ [ch1 9 (u 3)]) ++ [ch1 c (u 2)]) ++ [ch1 92 (u 1)]) ++ [ch1 9 (u 0)])) (foot := [(sg, lstO (nmZ P) (((((vs ++ [ch1 9 (u 3)]) ++ [ch1 c (u 2)]) ++ [ch1 92 (u 1)]) ++ [ch1 9 (u 0)])) (n + 0))]) (n := vs.length + 4) (by simp) (by (try simp only [List.length_append, List.length_cons, List.length_nil]); omega) (isList_foot (P := P))⟩), (0, ups [0], fun w => ⟨_, vPop P sg (((vs ++ [ch1 9 (u 3)]) ++ [ch1 c (u 2)]) ++ [ch1 92 (u 1)]) (ch1 9 (u 0)) (n + 0) (by (try simp only [List.length_append, List.length_cons, List.length_nil]); omega)⟩), (9, ups [0], fun w => ⟨_, vLenB (a := sg) (vs := (((vs ++ [ch1 9 (u 3)]) ++ [ch1 c (u 2)]) ++ [ch1 92 (u 1)])) (foot := [(sg, lstO (nmZ P) ((((vs ++ [ch1 9 (u 3)]) ++ [ch1 c (u 2)]) ++ [ch1 92 (u 1)])) (n + 1))]) (n := vs.length + 3) (by simp) (by (try simp only [List.length_append, List.length_cons, List.length_nil]); omega) (isList_foot (P := P))⟩), (0, ups [0], fun w => ⟨_, vPop P sg ((vs ++ [ch1 9 (u 3)]) ++ [ch1 c (u 2)]) (ch1 92 (u 1)) (n + 1) (by (try simp only [List.length_append, List.length_cons, List.length_nil]); omega)⟩), (10, ups [0], fun w => ⟨_, vLenB (a := sg) (vs := ((vs ++ [ch1 9 (u 3)]) ++ [ch1 c (u 2)])) (foot := [(sg, lstO (nmZ P) (((vs ++ [ch1 9 (u 3)]) ++ [ch1 c (u 2)])) (n + 2))]) (n := vs.length + 2) (by simp) (by (try simp only [List.length_append, List.length_cons, List.length_nil]); omega) (isList_foot (P := P))⟩), (0, ups [0], fun w => ⟨_, vPop P sg (vs ++ [ch1 9 (u 3)]) (ch1 c (u 2)) (n + 2) (by (try simp only [List.length_append, List.length_cons, List.length_nil]); omega)⟩), (0, ups [], fun w => ⟨_, vSeq [c] (u 2) [10] (w.t 38) false he10⟩), (8, ups [0], fun w => ⟨_, vLenB (a := sg) (vs := (vs ++ [ch1 9 (u 3)])) (foot := [(sg, lstO (nmZ P) ((vs ++ [ch1 9 (u 3)])) (n + 3))]) (n := vs.length + 1) (by simp) (by (try simp only [List.length_append, List.length_cons, List.length_nil]); omega) (isList_foot (P := P))⟩), (0, ups [0], fun w => ⟨_, vPop P sg vs (ch1 9 (u 3)) (n + 3) (by (try simp only [List.length_append, List.length_cons, List.length_nil]); omega)⟩)] (ups [0,0,0,0,0,0,0,0,0]) (fun w => []) (fun w => [u 2, kt]) (fun _ => rfl) (fun _ => rfl) (fun ch κ w => by kernel_rfl)
theorem vTok20 (O : VO V P b scr) (r : Rd) (sg : Addr) (vs : List Value) (hv : vs.length ≤ 1000) (n : Nat) (k : Int) (kt : Tok) (m : Nat) (u : Nat → Tok) :
    Valid V (cTok (nmZ P) fnZ cdZ (strF P) r sg ((((vs ++ [ch1 34 (u 3)]) ++ [ch1 97 (u 2)]) ++ [ch1 34 (u 1)]) ++ [ch1 9 (u 0)]) vs n (n + 4) k (k) kt m 97) :=
  valid_of O _ 729 (hsD 330 18857593215399187431334304141746218171857701150284933490750400243005437148575890460880641007815924692141717510868401374445896489271379520566327082918209501555567017270803229124321978866315644656468211417113993054016527873174532193195264767018275809355549980841069506995276820297995539523611341753608557070396965605114098850410130693729367358503778479788050199438337392110243216781349742996721740513634340740042205472550027233916064201783269383792720451148591764960019696375246253699546336139411444337647528449614057272406731181277059569099448742652924780334168167421511246618483106225363514246248727275351077926705537239050043732646941711783005254386544006830065217141133160312079519628046532608) [(13, ups [0], fun w => ⟨_, vLenB (a := sg) (vs := ((((vs ++ [ch1 34 (u 3)]) ++ [ch1 97 (u 2)]) ++ [ch1 34 (u 1)]) ++ [ch1 9 (u 0)])) (foot := [(sg, lstO (nmZ P) (((((vs ++ [ch1 34 (u 3)]) ++ [ch1 97 (u 2)]) ++ [ch1 34 (u 1)]) ++ [ch1 9 (u 0)])) (n + 0))]) (n := vs.length + 4) (by simp) (by (try simp only [List.length_append, List.length_cons, List.length_nil]); omega) (isList_foot (P := P))⟩), (0, ups [0], fun w => ⟨_, vPop P sg (((vs ++ [ch1 34 (u 3)]) ++ [ch1 97 (u 2)]) ++ [ch1 34 (u 1)]) (ch1 9 (u 0)) (n + 0) (by (try simp only [List.length_append, List.length_cons, List.length_nil]); omega)⟩), (9, ups [0], fun w => ⟨_, vLenB (a := sg) (vs := (((vs ++ [ch1 34 (u 3)]) ++ [ch1 97 (u 2)]) ++ [ch1 34 (u 1)])) (foot := [(sg, lstO (nmZ P) ((((vs ++ [ch1 34 (u 3)]) ++ [ch1 97 (u 2)]) ++ [ch1 34 (u 1)])) (n + 1))]) (n := vs.length + 3) (by simp) (by (try simp only [List.length_append, List.length_cons, List.length_nil]); omega) (isList_foot (P := P))⟩), (0, ups [0], fun w => ⟨_, vPop P sg ((vs ++ [ch1 34 (u 3)]) ++ [ch1 97 (u 2)]) (ch1 34 (u 1)) (n + 1) (by (try simp only [List.length_append, List.length_cons, List.length_nil]); omega)⟩), (12, ups [0], fun w => ⟨_, vLenB (a := sg) (vs := ((vs ++ [ch1 34 (u 3)]) ++ [ch1 97 (u 2)])) (foot := [(sg, lstO (nmZ P) (((vs ++ [ch1 34 (u 3)]) ++ [ch1 97 (u 2)])) (n + 2))]) (n := vs.length + 2) (by simp) (by (try simp only [List.length_append, List.length_cons, List.length_nil]); omega) (isList_foot (P := P))⟩), (0, ups [0], fun w => ⟨_, vPop P sg (vs ++ [ch1 34 (u 3)]) (ch1 97 (u 2)) (n + 2) (by (try simp only [List.length_append, List.length_cons, List.length_nil]); omega)⟩), (10, ups [0], fun w => ⟨_, vLenB (a := sg) (vs := (vs ++ [ch1 34 (u 3)])) (foot := [(sg, lstO (nmZ P) ((vs ++ [ch1 34 (u 3)])) (n + 3))]) (n := vs.length + 1) (by simp) (by (try simp only [List.length_append, List.length_cons, List.length_nil]); omega) (isList_foot (P := P))⟩), (0, ups [0], fun w => ⟨_, vPop P sg vs (ch1 34 (u 3)) (n + 3) (by (try simp only [List.length_append, List.length_cons, List.length_nil]); omega)⟩)] (ups [0,0,0,0,0,0,0,0,0]) (fun w => []) (fun w => [u 2, kt]) (fun _ => rfl) (fun _ => rfl) (fun ch κ w => by kernel_rfl)
theorem vTok21 (O : VO V P b scr) (r : Rd) (sg : Addr) (vs : List Value) (hv : vs.length ≤ 1000) (n : Nat) (k : Int) (kt : Tok) (m : Nat) (u : Nat → Tok) :
    Valid V (cTok (nmZ P) fnZ cdZ (strF P) r sg ((((vs ++ [ch1 34 (u 3)]) ++ [ch1 35 (u 2)]) ++ [ch1 34 (u 1)]) ++ [ch1 9 (u 0)]) vs n (n + 4) k (k) kt m 35) :=
  valid_of O _ 729 (hsD 330 18857593215399187431334304141746218171857701150284933490750400243005437148575890460880641007815924692141717510868401374445896489271379520566327082918209501555567017270803229124321978866315644656468211417113993054016527873174532193195264767018275809355549980841069506995276820297995539523611341753608557070396965605114098850410130693729367358503778479788050199438337392110243216781349742996721740513634340740042205472550027233916064201783269383792720451148591764960019696375246253699546336139411444337647528449614057272406731181277059569099448742652924780334168167421511246618483106225363514246248727275351077926705537239050043732646941711783005254386544006830065217141133160312079519628046532608) [(13, ups [0], fun w => ⟨_, vLenB (a := sg) (vs := ((((vs ++ [ch1 34 (u 3)]) ++ [ch1 35 (u 2)]) ++ [ch1 34 (u 1)]) ++ [ch1 9 (u 0)])) (foot := [(sg, lstO (nmZ P) (((((vs ++ [ch1 34 (u 3)]) ++ [ch1 35 (u 2)]) ++ [ch1 34 (u 1)]) ++ [ch1 9 (u 0)])) (n + 0))]) (n := vs.length + 4) (by simp) (by (try simp only [List.length_append, List.length_cons, List.length_nil]); omega) (isList_foot (P := P))⟩), (0, ups [0], fun w => ⟨_, vPop P sg (((vs ++ [ch1 34 (u 3)]) ++ [ch1 35 (u 2)]) ++ [ch1 34 (u 1)]) (ch1 9 (u 0)) (n + 0) (by (try simp only [List.length_append, List.length_cons, List.length_nil]); omega)⟩), (9, ups [0], fun w => ⟨_, vLenB (a := sg) (vs := (((vs ++ [ch1 34 (u 3)]) ++ [ch1 35 (u 2)]) ++ [ch1 34 (u 1)])) (foot := [(sg, lstO (nmZ P) ((((vs ++ [ch1 34 (u 3)]) ++ [ch1 35 (u 2)]) ++ [ch1 34 (u 1)])) (n + 1))]) (n := vs.length + 3) (by simp) (by (try simp only [List.length_append, List.length_cons, List.length_nil]); omega) (isList_foot (P := P))⟩), (0, ups [0], fun w => ⟨_, vPop P sg ((vs ++ [ch1 34 (u 3)]) ++ [ch1 35 (u 2)]) (ch1 34 (u 1)) (n + 1) (by (try simp only [List.length_append, List.length_cons, List.length_nil]); omega)⟩), (12, ups [0], fun w => ⟨_, vLenB (a := sg) (vs := ((vs ++ [ch1 34 (u 3)]) ++ [ch1 35 (u 2)])) (foot := [(sg, lstO (nmZ P) (((vs ++ [ch1 34 (u 3)]) ++ [ch1 35 (u 2)])) (n + 2))]) (n := vs.length + 2) (by simp) (by (try simp only [List.length_append, List.length_cons, List.length_nil]); omega) (isList_foot (P := P))⟩), (0, ups [0], fun w => ⟨_, vPop P sg (vs ++ [ch1 34 (u 3)]) (ch1 35 (u 2)) (n + 2) (by (try simp only [List.length_append, List.length_cons, List.length_nil]); omega)⟩), (10, ups [0], fun w => ⟨_, vLenB (a := sg) (vs := (vs ++ [ch1 34 (u 3)])) (foot := [(sg, lstO (nmZ P) ((vs ++ [ch1 34 (u 3)])) (n + 3))]) (n := vs.length + 1) (by simp) (by (try simp only [List.length_append, List.length_cons, List.length_nil]); omega) (isList_foot (P := P))⟩), (0, ups [0], fun w => ⟨_, vPop P sg vs (ch1 34 (u 3)) (n + 3) (by (try simp only [List.length_append, List.length_cons, List.length_nil]); omega)⟩)] (ups [0,0,0,0,0,0,0,0,0]) (fun w => []) (fun w => [u 2, kt]) (fun _ => rfl) (fun _ => rfl) (fun ch κ w => by kernel_rfl)
theorem vTok22 (O : VO V P b scr) (r : Rd) (sg : Addr) (vs : List Value) (hv : vs.length ≤ 1000) (n : Nat) (k : Int) (kt : Tok) (m : Nat) (u : Nat → Tok) :
    Valid V (cTok (nmZ P) fnZ cdZ (strF P) r sg ((((vs ++ [ch1 34 (u 3)]) ++ [ch1 98 (u 2)]) ++ [ch1 34 (u 1)]) ++ [ch1 9 (u 0)]) vs n (n + 4) k (k) kt m 98) :=
  valid_of O _ 729 (hsD 330 18857593215399187431334304141746218171857701150284933490750400243005437148575890460880641007815924692141717510868401374445896489271379520566327082918209501555567017270803229124321978866315644656468211417113993054016527873174532193195264767018275809355549980841069506995276820297995539523611341753608557070396965605114098850410130693729367358503778479788050199438337392110243216781349742996721740513634340740042205472550027233916064201783269383792720451148591764960019696375246253699546336139411444337647528449614057272406731181277059569099448742652924780334168167421511246618483106225363514246248727275351077926705537239050043732646941711783005254386544006830065217141133160312079519628046532608) [(13, ups [0], fun w => ⟨_, vLenB (a := sg) (vs := ((((vs ++ [ch1 34 (u 3)]) ++ [ch1 98 (u 2)]) ++ [ch1 34 (u 1)]) ++ [ch1 9 (u 0)])) (foot := [(sg, lstO (nmZ P) (((((vs ++ [ch1 34 (u 3)]) ++ [ch1 98 (u 2)]) ++ [ch1 34 (u 1)]) ++ [ch1 9 (u 0)])) (n + 0))]) (n := vs.length + 4) (by simp) (by (try simp only [List.length_append, List.length_cons, List.length_nil]); omega) (isList_foot (P := P))⟩), (0, ups [0], fun w => ⟨_, vPop P sg (((vs ++ [ch1 34 (u 3)]) ++ [ch1 98 (u 2)]) ++ [ch1 34 (u 1)]) (ch1 9 (u 0)) (n + 0) (by (try simp only [List.length_append, List.length_cons, List.length_nil]); omega)⟩), (9, ups [0], fun w => ⟨_, vLenB (a := sg) (vs := (((vs ++ [ch1 34 (u 3)]) ++ [ch1 98 (u 2)]) ++ [ch1 34 (u 1)])) (foot := [(sg, lstO (nmZ P) ((((vs ++ [ch1 34 (u 3)]) ++ [ch1 98 (u 2)]) ++ [ch1 34 (u 1)])) (n + 1))]) (n := vs.length + 3) (by simp) (by (try simp only [List.length_append, List.length_cons, List.length_nil]); omega) (isList_foot (P := P))⟩), (0, ups [0], fun w => ⟨_, vPop P sg ((vs ++ [ch1 34 (u 3)]) ++ [ch1 98 (u 2)]) (ch1 34 (u 1)) (n + 1) (by (try simp only [List.length_append, List.length_cons, List.length_nil]); omega)⟩), (12, ups [0], fun w => ⟨_, vLenB (a := sg) (vs := ((vs ++ [ch1 34 (u 3)]) ++ [ch1 98 (u 2)])) (foot := [(sg, lstO (nmZ P) (((vs ++ [ch1 34 (u 3)]) ++ [ch1 98 (u 2)])) (n + 2))]) (n := vs.length + 2) (by simp) (by (try simp only [List.length_append, List.length_cons, List.length_nil]); omega) (isList_foot (P := P))⟩), (0, ups [0], fun w => ⟨_, vPop P sg (vs ++ [ch1 34 (u 3)]) (ch1 98 (u 2)) (n + 2) (by (try simp only [List.length_append, List.length_cons, List.length_nil]); omega)⟩), (10, ups [0], fun w => ⟨_, vLenB (a := sg) (vs := (vs ++ [ch1 34 (u 3)])) (foot := [(sg, lstO (nmZ P) ((vs ++ [ch1 34 (u 3)])) (n + 3))]) (n := vs.length + 1) (by simp) (by (try simp only [List.length_append, List.length_cons, List.length_nil]); omega) (isList_foot (P := P))⟩), (0, ups [0], fun w => ⟨_, vPop P sg vs (ch1 34 (u 3)) (n + 3) (by (try simp only [List.length_append, List.length_cons, List.length_nil]); omega)⟩)] (ups [0,0,0,0,0,0,0,0,0]) (fun w => []) (fun w => [u 2, kt]) (fun _ => rfl) (fun _ => rfl) (fun ch κ w => by kernel_rfl)
theorem vTok23 (O : VO V P b scr) (r : Rd) (sg : Addr) (vs : List Value) (hv : vs.length ≤ 1000) (n : Nat) (k : Int) (kt : Tok) (m : Nat) (u : Nat → Tok) :
    Valid V (cTok (nmZ P) fnZ cdZ (strF P) r sg ((((vs ++ [ch1 34 (u 3)]) ++ [ch1 59 (u 2)]) ++ [ch1 34 (u 1)]) ++ [ch1 9 (u 0)]) vs n (n + 4) k (k) kt m 59) :=
  valid_of O _ 729 (hsD 330 18857593215399187431334304141746218171857701150284933490750400243005437148575890460880641007815924692141717510868401374445896489271379520566327082918209501555567017270803229124321978866315644656468211417113993054016527873174532193195264767018275809355549980841069506995276820297995539523611341753608557070396965605114098850410130693729367358503778479788050199438337392110243216781349742996721740513634340740042205472550027233916064201783269383792720451148591764960019696375246253699546336139411444337647528449614057272406731181277059569099448742652924780334168167421511246618483106225363514246248727275351077926705537239050043732646941711783005254386544006830065217141133160312079519628046532608) [(13, ups [0], fun w => ⟨_, vLenB (a := sg) (vs := ((((vs ++ [ch1 34 (u 3)]) ++ [ch1 59 (u 2)]) ++ [ch1 34 (u 1)]) ++ [ch1 9 (u 0)])) (foot := [(sg, lstO (nmZ P) (((((vs ++ [ch1 34 (u 3)]) ++ [ch1 59 (u 2)]) ++ [ch1 34 (u 1)]) ++ [ch1 9 (u 0)])) (n + 0))]) (n := vs.length + 4) (by simp) (by (try simp only [List.length_append, List.length_cons, List.length_nil]); omega) (isList_foot (P := P))⟩), (0, ups [0], fun w => ⟨_, vPop P sg (((vs ++ [ch1 34 (u 3)]) ++ [ch1 59 (u 2)]) ++ [ch1 34 (u 1)]) (ch1 9 (u 0)) (n + 0) (by (try simp only [List.length_append, List.length_cons, List.length_nil]); omega)⟩), (9, ups [0], fun w => ⟨_, vLenB (a := sg) (vs := (((vs ++ [ch1 34 (u 3)]) ++ [ch1 59 (u 2)]) ++ [ch1 34 (u 1)])) (foot := [(sg, lstO (nmZ P) ((((vs ++ [ch1 34 (u 3)]) ++ [ch1 59 (u 2)]) ++ [ch1 34 (u 1)])) (n + 1))]) (n := vs.length + 3) (by simp) (by (try simp only [List.length_append, List.length_cons, List.length_nil]); omega) (isList_foot (P := P))⟩), (0, ups [0], fun w => ⟨_, vPop P sg ((vs ++ [ch1 34 (u 3)]) ++ [ch1 59 (u 2)]) (ch1 34 (u 1)) (n + 1) (by (try simp only [List.length_append, List.length_cons, List.length_nil]); omega)⟩), (12, ups [0], fun w => ⟨_, vLenB (a := sg) (vs := ((vs ++ [ch1 34 (u 3)]) ++ [ch1 59 (u 2)])) (foot := [(sg, lstO (nmZ P) (((vs ++ [ch1 34 (u 3)]) ++ [ch1 59 (u 2)])) (n + 2))]) (n := vs.length + 2) (by simp) (by (try simp only [List.length_append, List.length_cons, List.length_nil]); omega) (isList_foot (P := P))⟩), (0, ups [0], fun w => ⟨_, vPop P sg (vs ++ [ch1 34 (u 3)]) (ch1 59 (u 2)) (n + 2) (by (try simp only [List.length_append, List.length_cons, List.length_nil]); omega)⟩), (10, ups [0], fun w => ⟨_, vLenB (a := sg) (vs := (vs ++ [ch1 34 (u 3)])) (foot := [(sg, lstO (nmZ P) ((vs ++ [ch1 34 (u 3)])) (n + 3))]) (n := vs.length + 1) (by simp) (by (try simp only [List.length_append, List.length_cons, List.length_nil]); omega) (isList_foot (P := P))⟩), (0, ups [0], fun w => ⟨_, vPop P sg vs (ch1 34 (u 3)) (n + 3) (by (try simp only [List.length_append, List.length_cons, List.length_nil]); omega)⟩)] (ups [0,0,0,0,0,0,0,0,0]) (fun w => []) (fun w => [u 2, kt]) (fun _ => rfl) (fun _ => rfl) (fun ch κ w => by kernel_rfl)
theorem vTok24 (O : VO V P b scr) (r : Rd) (sg : Addr) (vs : List Value) (hv : vs.length ≤ 1000) (n : Nat) (k : Int) (kt : Tok) (m : Nat) (u : Nat → Tok) :
    Valid V (cTok (nmZ P) fnZ cdZ (strF P) r sg ((((vs ++ [ch1 34 (u 3)]) ++ [ch1 61 (u 2)]) ++ [ch1 34 (u 1)]) ++ [ch1 9 (u 0)]) vs n (n + 4) k (k) kt m 61) :=
  valid_of O _ 729 (hsD 330 18857593215399187431334304141746218171857701150284933490750400243005437148575890460880641007815924692141717510868401374445896489271379520566327082918209501555567017270803229124321978866315644656468211417113993054016527873174532193195264767018275809355549980841069506995276820297995539523611341753608557070396965605114098850410130693729367358503778479788050199438337392110243216781349742996721740513634340740042205472550027233916064201783269383792720451148591764960019696375246253699546336139411444337647528449614057272406731181277059569099448742652924780334168167421511246618483106225363514246248727275351077926705537239050043732646941711783005254386544006830065217141133160312079519628046532608) [(13, ups [0], fun w => ⟨_, vLenB (a := sg) (vs := ((((vs ++ [ch1 34 (u 3)]) ++ [ch1 61 (u 2)]) ++ [ch1 34 (u 1)]) ++ [ch1 9 (u 0)])) (foot := [(sg, lstO (nmZ P) (((((vs ++ [ch1 34 (u 3)]) ++ [ch1 61 (u 2)]) ++ [ch1 34 (u 1)]) ++ [ch1 9 (u 0)])) (n + 0))]) (n := vs.length + 4) (by simp) (by (try simp only [List.length_append, List.length_cons, List.length_nil]); omega) (isList_foot (P := P))⟩), (0, ups [0], fun w => ⟨_, vPop P sg (((vs ++ [ch1 34 (u 3)]) ++ [ch1 61 (u 2)]) ++ [ch1 34 (u 1)]) (ch1 9 (u 0)) (n + 0) (by (try simp only [List.length_append, List.length_cons, List.length_nil]); omega)⟩), (9, ups [0], fun w => ⟨_, vLenB (a := sg) (vs := (((vs ++ [ch1 34 (u 3)]) ++ [ch1 61 (u 2)]) ++ [ch1 34 (u 1)])) (foot := [(sg, lstO (nmZ P) ((((vs ++ [ch1 34 (u 3)]) ++ [ch1 61 (u 2)]) ++ [ch1 34 (u 1)])) (n + 1))]) (n := vs.length + 3) (by simp) (by (try simp only [List.length_append, List.length_cons, List.length_nil]); omega) (isList_foot (P := P))⟩), (0, ups [0], fun w => ⟨_, vPop P sg ((vs ++ [ch1 34 (u 3)]) ++ [ch1 61 (u 2)]) (ch1 34 (u 1)) (n + 1) (by (try simp only [List.length_append, List.length_cons, List.length_nil]); omega)⟩), (12, ups [0], fun w => ⟨_, vLenB (a := sg) (vs := ((vs ++ [ch1 34 (u 3)]) ++ [ch1 61 (u 2)])) (foot := [(sg, lstO (nmZ P) (((vs ++ [ch1 34 (u 3)]) ++ [ch1 61 (u 2)])) (n + 2))]) (n := vs.length + 2) (by simp) (by (try simp only [List.length_append, List.length_cons, List.length_nil]); omega) (isList_foot (P := P))⟩), (0, ups [0], fun w => ⟨_, vPop P sg (vs ++ [ch1 34 (u 3)]) (ch1 61 (u 2)) (n + 2) (by (try simp only [List.length_append, List.length_cons, List.length_nil]); omega)⟩), (10, ups [0], fun w => ⟨_, vLenB (a := sg) (vs := (vs ++ [ch1 34 (u 3)])) (foot := [(sg, lstO (nmZ P) ((vs ++ [ch1 34 (u 3)])) (n + 3))]) (n := vs.length + 1) (by simp) (by (try simp only [List.length_append, List.length_cons, List.length_nil]); omega) (isList_foot (P := P))⟩), (0, ups [0], fun w => ⟨_, vPop P sg vs (ch1 34 (u 3)) (n + 3) (by (try simp only [List.length_append, List.length_cons, List.length_nil]); omega)⟩)] (ups [0,0,0,0,0,0,0,0,0]) (fun w => []) (fun w => [u 2, kt]) (fun _ => rfl) (fun _ => rfl) (fun ch κ w => by kernel_rfl)
theorem vTok25 (O : VO V P b scr) (r : Rd) (sg : Addr) (vs : List Value) (hv : vs.length ≤ 1000) (n : Nat) (k : Int) (kt : Tok) (m : Nat) (u : Nat → Tok) :
    Valid V (cTok (nmZ P) fnZ cdZ (strF P) r sg ((((vs ++ [ch1 34 (u 3)]) ++ [ch1 39 (u 2)]) ++ [ch1 34 (u 1)]) ++ [ch1 9 (u 0)]) vs n (n + 4) k (k) kt m 39) :=
  valid_of O _ 729 (hsD 330 18857593215399187431334304141746218171857701150284933490750400243005437148575890460880641007815924692141717510868401374445896489271379520566327082918209501555567017270803229124321978866315644656468211417113993054016527873174532193195264767018275809355549980841069506995276820297995539523611341753608557070396965605114098850410130693729367358503778479788050199438337392110243216781349742996721740513634340740042205472550027233916064201783269383792720451148591764960019696375246253699546336139411444337647528449614057272406731181277059569099448742652924780334168167421511246618483106225363514246248727275351077926705537239050043732646941711783005254386544006830065217141133160312079519628046532608) [(13, ups [0], fun w => ⟨_, vLenB (a := sg) (vs := ((((vs ++ [ch1 34 (u 3)]) ++ [ch1 39 (u 2)]) ++ [ch1 34 (u 1)]) ++ [ch1 9 (u 0)])) (foot := [(sg, lstO (nmZ P) (((((vs ++ [ch1 34 (u 3)]) ++ [ch1 39 (u 2)]) ++ [ch1 34 (u 1)]) ++ [ch1 9 (u 0)])) (n + 0))]) (n := vs.length + 4) (by simp) (by (try simp only [List.length_append, List.length_cons, List.length_nil]); omega) (isList_foot (P := P))⟩), (0, ups [0], fun w => ⟨_, vPop P sg (((vs ++ [ch1 34 (u 3)]) ++ [ch1 39 (u 2)]) ++ [ch1 34 (u 1)]) (ch1 9 (u 0)) (n + 0) (by (try simp only [List.length_append, List.length_cons, List.length_nil]); omega)⟩), (9, ups [0], fun w => ⟨_, vLenB (a := sg) (vs := (((vs ++ [ch1 34 (u 3)]) ++ [ch1 39 (u 2)]) ++ [ch1 34 (u 1)])) (foot := [(sg, lstO (nmZ P) ((((vs ++ [ch1 34 (u 3)]) ++ [ch1 39 (u 2)]) ++ [ch1 34 (u 1)])) (n + 1))]) (n := vs.length + 3) (by simp) (by (try simp only [List.length_append, List.length_cons, List.length_nil]); omega) (isList_foot (P := P))⟩), (0, ups [0], fun w => ⟨_, vPop P sg ((vs ++ [ch1 34 (u 3)]) ++ [ch1 39 (u 2)]) (ch1 34 (u 1)) (n + 1) (by (try simp only [List.length_append, List.length_cons, List.length_nil]); omega)⟩), (12, ups [0], fun w => ⟨_, vLenB (a := sg) (vs := ((vs ++ [ch1 34 (u 3)]) ++ [ch1 39 (u 2)])) (foot := [(sg, lstO (nmZ P) (((vs ++ [ch1 34 (u 3)]) ++ [ch1 39 (u 2)])) (n + 2))]) (n := vs.length + 2) (by simp) (by (try simp only [List.length_append, List.length_cons, List.length_nil]); omega) (isList_foot (P := P))⟩), (0, ups [0], fun w => ⟨_, vPop P sg (vs ++ [ch1 34 (u 3)]) (ch1 39 (u 2)) (n + 2) (by (try simp only [List.length_append, List.length_cons, List.length_nil]); omega)⟩), (10, ups [0], fun w => ⟨_, vLenB (a := sg) (vs := (vs ++ [ch1 34 (u 3)])) (foot := [(sg, lstO (nmZ P) ((vs ++ [ch1 34 (u 3)])) (n + 3))]) (n := vs.length + 1) (by simp) (by (try simp only [List.length_append, List.length_cons, List.length_nil]); omega) (isList_foot (P := P))⟩), (0, ups [0], fun w => ⟨_, vPop P sg vs (ch1 34 (u 3)) (n + 3) (by (try simp only [List.length_append, List.length_cons, List.length_nil]); omega)⟩)] (ups [0,0,0,0,0,0,0,0,0]) (fun w => []) (fun w => [u 2, kt]) (fun _ => rfl) (fun _ => rfl) (fun ch κ w => by kernel_rfl)
theorem vTok26 (O : VO V P b scr) (r : Rd) (sg : Addr) (vs : List Value) (hv : vs.length ≤ 1000) (n : Nat) (k : Int) (kt : Tok) (m : Nat) (c : Nat) (u : Nat → Tok) (he10 : ([c] == [10]) = false) :
    Valid V (cTok (nmZ P) fnZ cdZ (strF P) r sg (((((vs ++ [ch1 34 (u 4)]) ++ [ch1 c (u 3)]) ++ [ch1 92 (u 2)]) ++ [ch1 34 (u 1)]) ++ [ch1 9 (u 0)]) vs n (n + 5) k (k) kt m c) :=
  valid_of O _ 854 (hsD 396 224566132669921039697524465886540530416180606801392448494924258481747158013897494763513556024641609539483656524000373208833870884731503377961332831290030066498817171450353754624938834123459813482341918326051449301389969274098629206558628567377813888426792353052144658819121495534676501162202417799638949233551262921725734315101394823890899154498011429006693377766597118638754832353451104512856886032226787172072510250377160154841272034628228393486682650743591112743302031524227083340546181806015262089815253088397452060211078378360830997332946835876008797892088553579158819357006062152387687503764508313145689653758049188893976521848875492984127241584058294809138806913967054846108201031317953383250147838117854118586896611146448585291216264086077512908588168009781262225104157963655194014552252033181852641774700131403808392454766592) [(13, ups [0], fun w => ⟨_, vLenB (a := sg) (vs := (((((vs ++ [ch1 34 (u 4)]) ++ [ch1 c (u 3)]) ++ [ch1 92 (u 2)]) ++ [ch1 34 (u 1)]) ++ [ch1 9 (u 0)])) (foot := [(sg, lstO (nmZ P) ((((((vs ++ [ch1 34 (u 4)]) ++ [ch1 c (u 3)]) ++ [ch1 92 (u 2)]) ++ [ch1 34 (u 1)]) ++ [ch1 9 (u 0)])) (n + 0))]) (n := vs.length + 5) (by simp) (by (try simp only [List.length_append, List.length_cons, List.length_nil]); omega) (isList_foot (P := P))⟩), (0, ups [0], fun w => ⟨_, vPop P sg ((((vs ++ [ch1 34 (u 4)]) ++ [ch1 c (u 3)]) ++ [ch1 92 (u 2)]) ++ [ch1 34 (u 1)]) (ch1 9 (u 0)) (n + 0) (by (try simp only [List.length_append, List.length_cons, List.length_nil]); omega)⟩), (9, ups [0], fun w => ⟨_, vLenB (a := sg) (vs := ((((vs ++ [ch1 34 (u 4)]) ++ [ch1 c (u 3)]) ++ [ch1 92 (u 2)]) ++ [ch1 34 (u 1)])) (foot := [(sg, lstO (nmZ P) (((((vs ++ [ch1 34 (u 4)]) ++ [ch1 c (u 3)]) ++ [ch1 92 (u 2)]) ++ [ch1 34 (u 1)])) (n + 1))]) (n := vs.length + 4) (by simp) (by (try simp only [List.length_append, List.length_cons, List.length_nil]); omega) (isList_foot (P := P))⟩), (0, ups [0], fun w => ⟨_, vPop P sg (((vs ++ [ch1 34 (u 4)]) ++ [ch1 c (u 3)]) ++ [ch1 92 (u 2)]) (ch1 34 (u 1)) (n + 1) (by (try simp only [List.length_append, List.length_cons, List.length_nil]); omega)⟩), (12, ups [0], fun w => ⟨_, vLenB (a := sg) (vs := (((vs ++ [ch1 34 (u 4)]) ++ [ch1 c (u 3)]) ++ [ch1 92 (u 2)])) (foot := [(sg, lstO (nmZ P) ((((vs ++ [ch1 34 (u 4)]) ++ [ch1 c (u 3)]) ++ [ch1 92 (u 2)])) (n + 2))]) (n := vs.length + 3) (by simp) (by (try simp only [List.length_append, List.length_cons, List.length_nil]); omega) (isList_foot (P := P))⟩), (0, ups [0], fun w => ⟨_, vPop P sg ((vs ++ [ch1 34 (u 4)]) ++ [ch1 c (u 3)]) (ch1 92 (u 2)) (n + 2) (by (try simp only [List.length_append, List.length_cons, List.length_nil]); omega)⟩), (8, ups [0], fun w => ⟨_, vLenB (a := sg) (vs := ((vs ++ [ch1 34 (u 4)]) ++ [ch1 c (u 3)])) (foot := [(sg, lstO (nmZ P) (((vs ++ [ch1 34 (u 4)]) ++ [ch1 c (u 3)])) (n + 3))]) (n := vs.length + 2) (by simp) (by (try simp only [List.length_append, List.length_cons, List.length_nil]); omega) (isList_foot (P := P))⟩), (0, ups [0], fun w => ⟨_, vPop P sg (vs ++ [ch1 34 (u 4)]) (ch1 c (u 3)) (n + 3) (by (try simp only [List.length_append, List.length_cons, List.length_nil]); omega)⟩), (0, ups [], fun w => ⟨_, vSeq [c] (u 3) [10] (w.t 48) false he10⟩), (6, ups [0], fun w => ⟨_, vLenB (a := sg) (vs := (vs ++ [ch1 34 (u 4)])) (foot := [(sg, lstO (nmZ P) ((vs ++ [ch1 34 (u 4)])) (n + 4))]) (n := vs.length + 1) (by simp) (by (try simp only [List.length_append, List.length_cons, List.length_nil]); omega) (isList_foot (P := P))⟩), (0, ups [0], fun w => ⟨_, vPop P sg vs (ch1 34 (u 4)) (n + 4) (by (try simp only [List.length_append, List.length_cons, List.length_nil]); omega)⟩)] (ups [0,0,0,0,0,0,0,0,0]) (fun w => []) (fun w => [u 3, kt]) (fun _ => rfl) (fun _ => rfl) (fun ch κ w => by kernel_rfl)
end
end Mine
namespace Mine
open PySem PySem.W PySem.W.X PySem.Spec PySem.Calls PyProof.Rows
noncomputable def rv : List Nat → (Nat → Tok) → Nat → List Value
  | [], _, _ => []
  | x :: xs, T, j => rv xs T (j + 1) ++ [ch1 x (T j)]
theorem rv_eq (x : List Nat) (T : Nat → Tok) (j : Nat) : (chV x T j).reverse = rv x T j := by
  induction x generalizing j with
  | nil => rfl
  | cons c x ih => show (ch1 c (T j) :: chV x T (j + 1)).reverse = _; rw [List.reverse_cons, ih]; rfl
theorem rv_len (x : List Nat) (T : Nat → Tok) (j : Nat) : (rv x T j).length = x.length := by
  rw [← rv_eq, List.length_reverse, chV_len]
noncomputable def piece (pd : List Nat) (c q s : Nat) : List Nat := pd ++ (wr c q ++ (match q with | 0 => [sepN s] | _ + 1 => []))
noncomputable def cnt : List Nat → Int → Int
  | [], k => k
  | x :: xs, k => match Nat.beq x 10 with
    | true => cnt xs (k + 1)
    | false => cnt xs k
section
variable {V : XV} {P : Params} {b : Bool} {scr : Obj}
noncomputable def cTk (N : Nm) (fn cd : String) (F : FuncData) (r : Rd) (sg : Addr) (pc rest : List Nat) (T : Nat → Tok) (j n : Nat) (k : Int) (kt : Tok) (m : Nat) (c : Nat) : Con :=
  cTok N fn cd F r sg (rv (pc ++ rest) T j) (rv rest T (j + pc.length)) n (n + pc.length) k (cnt pc k) kt m c
theorem vTk0 (O : VO V P b scr) (r : Rd) (sg : Addr) (rest : List Nat) (T : Nat → Tok) (j n : Nat) (k : Int) (kt : Tok) (m : Nat) (hl : rest.length ≤ 1000) : ∀ (e q s : Nat), e < 8 → q < 2 → s < 2 → Valid V (cTk (nmZ P) fnZ cdZ (strF P) r sg (piece [] (ringN e) q s) rest T j n k kt m (ringN e))
  | 0,0,0, _, _, _ => Valid.of_eq (vTok0 O r sg (rv rest T (j + 3)) (by rw [rv_len]; exact hl) n k kt m 97 (fun i => T (j + i)) (by decide)) (by kernel_rfl)
  | 0,0,1, _, _, _ => Valid.of_eq (vTok1 O r sg (rv rest T (j + 3)) (by rw [rv_len]; exact hl) n k kt m 97 (fun i => T (j + i)) (by decide)) (by kernel_rfl)
  | 0,1,0, _, _, _ => Valid.of_eq (vTok2 O r sg (rv rest T (j + 3)) (by rw [rv_len]; exact hl) n k kt m (fun i => T (j + i))) (by kernel_rfl)
  | 0,1,1, _, _, _ => Valid.of_eq (vTok2 O r sg (rv rest T (j + 3)) (by rw [rv_len]; exact hl) n k kt m (fun i => T (j + i))) (by kernel_rfl)
  | 1,0,0, _, _, _ => Valid.of_eq (vTok0 O r sg (rv rest T (j + 3)) (by rw [rv_len]; exact hl) n k kt m 34 (fun i => T (j + i)) (by decide)) (by kernel_rfl)
  | 1,0,1, _, _, _ => Valid.of_eq (vTok1 O r sg (rv rest T (j + 3)) (by rw [rv_len]; exact hl) n k kt m 34 (fun i => T (j + i)) (by decide)) (by kernel_rfl)
  | 1,1,0, _, _, _ => Valid.of_eq (vTok8 O r sg (rv rest T (j + 4)) (by rw [rv_len]; exact hl) n k kt m 34 (fun i => T (j + i)) (by decide)) (by kernel_rfl)
  | 1,1,1, _, _, _ => Valid.of_eq (vTok8 O r sg (rv rest T (j + 4)) (by rw [rv_len]; exact hl) n k kt m 34 (fun i => T (j + i)) (by decide)) (by kernel_rfl)
  | 2,0,0, _, _, _ => Valid.of_eq (vTok0 O r sg (rv rest T (j + 3)) (by rw [rv_len]; exact hl) n k kt m 92 (fun i => T (j + i)) (by decide)) (by kernel_rfl)
  | 2,0,1, _, _, _ => Valid.of_eq (vTok1 O r sg (rv rest T (j + 3)) (by rw [rv_len]; exact hl) n k kt m 92 (fun i => T (j + i)) (by decide)) (by kernel_rfl)
  | 2,1,0, _, _, _ => Valid.of_eq (vTok8 O r sg (rv rest T (j + 4)) (by rw [rv_len]; exact hl) n k kt m 92 (fun i => T (j + i)) (by decide)) (by kernel_rfl)
  | 2,1,1, _, _, _ => Valid.of_eq (vTok8 O r sg (rv rest T (j + 4)) (by rw [rv_len]; exact hl) n k kt m 92 (fun i => T (j + i)) (by decide)) (by kernel_rfl)
  | 3,0,0, _, _, _ => Valid.of_eq (vTok0 O r sg (rv rest T (j + 3)) (by rw [rv_len]; exact hl) n k kt m 35 (fun i => T (j + i)) (by decide)) (by kernel_rfl)
  | 3,0,1, _, _, _ => Valid.of_eq (vTok1 O r sg (rv rest T (j + 3)) (by rw [rv_len]; exact hl) n k kt m 35 (fun i => T (j + i)) (by decide)) (by kernel_rfl)
  | 3,1,0, _, _, _ => Valid.of_eq (vTok3 O r sg (rv rest T (j + 3)) (by rw [rv_len]; exact hl) n k kt m (fun i => T (j + i))) (by kernel_rfl)
  | 3,1,1, _, _, _ => Valid.of_eq (vTok3 O r sg (rv rest T (j + 3)) (by rw [rv_len]; exact hl) n k kt m (fun i => T (j + i))) (by kernel_rfl)
  | 4,0,0, _, _, _ => Valid.of_eq (vTok0 O r sg (rv rest T (j + 3)) (by rw [rv_len]; exact hl) n k kt m 98 (fun i => T (j + i)) (by decide)) (by kernel_rfl)
  | 4,0,1, _, _, _ => Valid.of_eq (vTok1 O r sg (rv rest T (j + 3)) (by rw [rv_len]; exact hl) n k kt m 98 (fun i => T (j + i)) (by decide)) (by kernel_rfl)
  | 4,1,0, _, _, _ => Valid.of_eq (vTok4 O r sg (rv rest T (j + 3)) (by rw [rv_len]; exact hl) n k kt m (fun i => T (j + i))) (by kernel_rfl)
  | 4,1,1, _, _, _ => Valid.of_eq (vTok4 O r sg (rv rest T (j + 3)) (by rw [rv_len]; exact hl) n k kt m (fun i => T (j + i))) (by kernel_rfl)
  | 5,0,0, _, _, _ => Valid.of_eq (vTok0 O r sg (rv rest T (j + 3)) (by rw [rv_len]; exact hl) n k kt m 59 (fun i => T (j + i)) (by decide)) (by kernel_rfl)
  | 5,0,1, _, _, _ => Valid.of_eq (vTok1 O r sg (rv rest T (j + 3)) (by rw [rv_len]; exact hl) n k kt m 59 (fun i => T (j + i)) (by decide)) (by kernel_rfl)
  | 5,1,0, _, _, _ => Valid.of_eq (vTok5 O r sg (rv rest T (j + 3)) (by rw [rv_len]; exact hl) n k kt m (fun i => T (j + i))) (by kernel_rfl)
  | 5,1,1, _, _, _ => Valid.of_eq (vTok5 O r sg (rv rest T (j + 3)) (by rw [rv_len]; exact hl) n k kt m (fun i => T (j + i))) (by kernel_rfl)
  | 6,0,0, _, _, _ => Valid.of_eq (vTok0 O r sg (rv rest T (j + 3)) (by rw [rv_len]; exact hl) n k kt m 61 (fun i => T (j + i)) (by decide)) (by kernel_rfl)
  | 6,0,1, _, _, _ => Valid.of_eq (vTok1 O r sg (rv rest T (j + 3)) (by rw [rv_len]; exact hl) n k kt m 61 (fun i => T (j + i)) (by decide)) (by kernel_rfl)
  | 6,1,0, _, _, _ => Valid.of_eq (vTok6 O r sg (rv rest T (j + 3)) (by rw [rv_len]; exact hl) n k kt m (fun i => T (j + i))) (by kernel_rfl)
  | 6,1,1, _, _, _ => Valid.of_eq (vTok6 O r sg (rv rest T (j + 3)) (by rw [rv_len]; exact hl) n k kt m (fun i => T (j + i))) (by kernel_rfl)
  | 7,0,0, _, _, _ => Valid.of_eq (vTok0 O r sg (rv rest T (j + 3)) (by rw [rv_len]; exact hl) n k kt m 39 (fun i => T (j + i)) (by decide)) (by kernel_rfl)
  | 7,0,1, _, _, _ => Valid.of_eq (vTok1 O r sg (rv rest T (j + 3)) (by rw [rv_len]; exact hl) n k kt m 39 (fun i => T (j + i)) (by decide)) (by kernel_rfl)
  | 7,1,0, _, _, _ => Valid.of_eq (vTok7 O r sg (rv rest T (j + 3)) (by rw [rv_len]; exact hl) n k kt m (fun i => T (j + i))) (by kernel_rfl)
  | 7,1,1, _, _, _ => Valid.of_eq (vTok7 O r sg (rv rest T (j + 3)) (by rw [rv_len]; exact hl) n k kt m (fun i => T (j + i))) (by kernel_rfl)
  | e + 8, _, _, h, _, _ => absurd h (by omega)
  | _, q + 2, _, _, h, _ => absurd h (by omega)
  | _, _, s + 2, _, _, h => absurd h (by omega)
theorem vTk10 (O : VO V P b scr) (r : Rd) (sg : Addr) (rest : List Nat) (T : Nat → Tok) (j n : Nat) (k : Int) (kt : Tok) (m : Nat) (hl : rest.length ≤ 1000) : ∀ (e q s : Nat), e < 8 → q < 2 → s < 2 → Valid V (cTk (nmZ P) fnZ cdZ (strF P) r sg (piece [10] (ringN e) q s) rest T j n k kt m (ringN e))
  | 0,0,0, _, _, _ => Valid.of_eq (vTok9 O r sg (rv rest T (j + 4)) (by rw [rv_len]; exact hl) n k kt m 97 (fun i => T (j + i)) (by decide)) (by kernel_rfl)
  | 0,0,1, _, _, _ => Valid.of_eq (vTok10 O r sg (rv rest T (j + 4)) (by rw [rv_len]; exact hl) n k kt m 97 (fun i => T (j + i)) (by decide)) (by kernel_rfl)
  | 0,1,0, _, _, _ => Valid.of_eq (vTok11 O r sg (rv rest T (j + 4)) (by rw [rv_len]; exact hl) n k kt m (fun i => T (j + i))) (by kernel_rfl)
  | 0,1,1, _, _, _ => Valid.of_eq (vTok11 O r sg (rv rest T (j + 4)) (by rw [rv_len]; exact hl) n k kt m (fun i => T (j + i))) (by kernel_rfl)
  | 1,0,0, _, _, _ => Valid.of_eq (vTok9 O r sg (rv rest T (j + 4)) (by rw [rv_len]; exact hl) n k kt m 34 (fun i => T (j + i)) (by decide)) (by kernel_rfl)
  | 1,0,1, _, _, _ => Valid.of_eq (vTok10 O r sg (rv rest T (j + 4)) (by rw [rv_len]; exact hl) n k kt m 34 (fun i => T (j + i)) (by decide)) (by kernel_rfl)
  | 1,1,0, _, _, _ => Valid.of_eq (vTok17 O r sg (rv rest T (j + 5)) (by rw [rv_len]; exact hl) n k kt m 34 (fun i => T (j + i)) (by decide)) (by kernel_rfl)
  | 1,1,1, _, _, _ => Valid.of_eq (vTok17 O r sg (rv rest T (j + 5)) (by rw [rv_len]; exact hl) n k kt m 34 (fun i => T (j + i)) (by decide)) (by kernel_rfl)
  | 2,0,0, _, _, _ => Valid.of_eq (vTok9 O r sg (rv rest T (j + 4)) (by rw [rv_len]; exact hl) n k kt m 92 (fun i => T (j + i)) (by decide)) (by kernel_rfl)
  | 2,0,1, _, _, _ => Valid.of_eq (vTok10 O r sg (rv rest T (j + 4)) (by rw [rv_len]; exact hl) n k kt m 92 (fun i => T (j + i)) (by decide)) (by kernel_rfl)
  | 2,1,0, _, _, _ => Valid.of_eq (vTok17 O r sg (rv rest T (j + 5)) (by rw [rv_len]; exact hl) n k kt m 92 (fun i => T (j + i)) (by decide)) (by kernel_rfl)
  | 2,1,1, _, _, _ => Valid.of_eq (vTok17 O r sg (rv rest T (j + 5)) (by rw [rv_len]; exact hl) n k kt m 92 (fun i => T (j + i)) (by decide)) (by kernel_rfl)
  | 3,0,0, _, _, _ => Valid.of_eq (vTok9 O r sg (rv rest T (j + 4)) (by rw [rv_len]; exact hl) n k kt m 35 (fun i => T (j + i)) (by decide)) (by kernel_rfl)
  | 3,0,1, _, _, _ => Valid.of_eq (vTok10 O r sg (rv rest T (j + 4)) (by rw [rv_len]; exact hl) n k kt m 35 (fun i => T (j + i)) (by decide)) (by kernel_rfl)
  | 3,1,0, _, _, _ => Valid.of_eq (vTok12 O r sg (rv rest T (j + 4)) (by rw [rv_len]; exact hl) n k kt m (fun i => T (j + i))) (by kernel_rfl)
  | 3,1,1, _, _, _ => Valid.of_eq (vTok12 O r sg (rv rest T (j + 4)) (by rw [rv_len]; exact hl) n k kt m (fun i => T (j + i))) (by kernel_rfl)
  | 4,0,0, _, _, _ => Valid.of_eq (vTok9 O r sg (rv rest T (j + 4)) (by rw [rv_len]; exact hl) n k kt m 98 (fun i => T (j + i)) (by decide)) (by kernel_rfl)
  | 4,0,1, _, _, _ => Valid.of_eq (vTok10 O r sg (rv rest T (j + 4)) (by rw [rv_len]; exact hl) n k kt m 98 (fun i => T (j + i)) (by decide)) (by kernel_rfl)
  | 4,1,0, _, _, _ => Valid.of_eq (vTok13 O r sg (rv rest T (j + 4)) (by rw [rv_len]; exact hl) n k kt m (fun i => T (j + i))) (by kernel_rfl)
  | 4,1,1, _, _, _ => Valid.of_eq (vTok13 O r sg (rv rest T (j + 4)) (by rw [rv_len]; exact hl) n k kt m (fun i => T (j + i))) (by kernel_rfl)
  | 5,0,0, _, _, _ => Valid.of_eq (vTok9 O r sg (rv rest T (j + 4)) (by rw [rv_len]; exact hl) n k kt m 59 (fun i => T (j + i)) (by decide)) (by kernel_rfl)
  | 5,0,1, _, _, _ => Valid.of_eq (vTok10 O r sg (rv rest T (j + 4)) (by rw [rv_len]; exact hl) n k kt m 59 (fun i => T (j + i)) (by decide)) (by kernel_rfl)
  | 5,1,0, _, _, _ => Valid.of_eq (vTok14 O r sg (rv rest T (j + 4)) (by rw [rv_len]; exact hl) n k kt m (fun i => T (j + i))) (by kernel_rfl)
  | 5,1,1, _, _, _ => Valid.of_eq (vTok14 O r sg (rv rest T (j + 4)) (by rw [rv_len]; exact hl) n k kt m (fun i => T (j + i))) (by kernel_rfl)
  | 6,0,0, _, _, _ => Valid.of_eq (vTok9 O r sg (rv rest T (j + 4)) (by rw [rv_len]; exact hl) n k kt m 61 (fun i => T (j + i)) (by decide)) (by kernel_rfl)
  | 6,0,1, _, _, _ => Valid.of_eq (vTok10 O r sg (rv rest T (j + 4)) (by rw [rv_len]; exact hl) n k kt m 61 (fun i => T (j + i)) (by decide)) (by kernel_rfl)
  | 6,1,0, _, _, _ => Valid.of_eq (vTok15 O r sg (rv rest T (j + 4)) (by rw [rv_len]; exact hl) n k kt m (fun i => T (j + i))) (by kernel_rfl)
  | 6,1,1, _, _, _ => Valid.of_eq (vTok15 O r sg (rv rest T (j + 4)) (by rw [rv_len]; exact hl) n k kt m (fun i => T (j + i))) (by kernel_rfl)
  | 7,0,0, _, _, _ => Valid.of_eq (vTok9 O r sg (rv rest T (j + 4)) (by rw [rv_len]; exact hl) n k kt m 39 (fun i => T (j + i)) (by decide)) (by kernel_rfl)
  | 7,0,1, _, _, _ => Valid.of_eq (vTok10 O r sg (rv rest T (j + 4)) (by rw [rv_len]; exact hl) n k kt m 39 (fun i => T (j + i)) (by decide)) (by kernel_rfl)
  | 7,1,0, _, _, _ => Valid.of_eq (vTok16 O r sg (rv rest T (j + 4)) (by rw [rv_len]; exact hl) n k kt m (fun i => T (j + i))) (by kernel_rfl)
  | 7,1,1, _, _, _ => Valid.of_eq (vTok16 O r sg (rv rest T (j + 4)) (by rw [rv_len]; exact hl) n k kt m (fun i => T (j + i))) (by kernel_rfl)
  | e + 8, _, _, h, _, _ => absurd h (by omega)
  | _, q + 2, _, _, h, _ => absurd h (by omega)
  | _, _, s + 2, _, _, h => absurd h (by omega)
theorem vTk9 (O : VO V P b scr) (r : Rd) (sg : Addr) (rest : List Nat) (T : Nat → Tok) (j n : Nat) (k : Int) (kt : Tok) (m : Nat) (hl : rest.length ≤ 1000) : ∀ (e q s : Nat), e < 8 → q < 2 → s < 2 → Valid V (cTk (nmZ P) fnZ cdZ (strF P) r sg (piece [9] (ringN e) q s) rest T j n k kt m (ringN e))
  | 0,0,0, _, _, _ => Valid.of_eq (vTok18 O r sg (rv rest T (j + 4)) (by rw [rv_len]; exact hl) n k kt m 97 (fun i => T (j + i)) (by decide)) (by kernel_rfl)
  | 0,0,1, _, _, _ => Valid.of_eq (vTok19 O r sg (rv rest T (j + 4)) (by rw [rv_len]; exact hl) n k kt m 97 (fun i => T (j + i)) (by decide)) (by kernel_rfl)
  | 0,1,0, _, _, _ => Valid.of_eq (vTok20 O r sg (rv rest T (j + 4)) (by rw [rv_len]; exact hl) n k kt m (fun i => T (j + i))) (by kernel_rfl)
  | 0,1,1, _, _, _ => Valid.of_eq (vTok20 O r sg (rv rest T (j + 4)) (by rw [rv_len]; exact hl) n k kt m (fun i => T (j + i))) (by kernel_rfl)
  | 1,0,0, _, _, _ => Valid.of_eq (vTok18 O r sg (rv rest T (j + 4)) (by rw [rv_len]; exact hl) n k kt m 34 (fun i => T (j + i)) (by decide)) (by kernel_rfl)
  | 1,0,1, _, _, _ => Valid.of_eq (vTok19 O r sg (rv rest T (j + 4)) (by rw [rv_len]; exact hl) n k kt m 34 (fun i => T (j + i)) (by decide)) (by kernel_rfl)
  | 1,1,0, _, _, _ => Valid.of_eq (vTok26 O r sg (rv rest T (j + 5)) (by rw [rv_len]; exact hl) n k kt m 34 (fun i => T (j + i)) (by decide)) (by kernel_rfl)
  | 1,1,1, _, _, _ => Valid.of_eq (vTok26 O r sg (rv rest T (j + 5)) (by rw [rv_len]; exact hl) n k kt m 34 (fun i => T (j + i)) (by decide)) (by kernel_rfl)
  | 2,0,0, _, _, _ => Valid.of_eq (vTok18 O r sg (rv rest T (j + 4)) (by rw [rv_len]; exact hl) n k kt m 92 (fun i => T (j + i)) (by decide)) (by kernel_rfl)
  | 2,0,1, _, _, _ => Valid.of_eq (vTok19 O r sg (rv rest T (j + 4)) (by rw [rv_len]; exact hl) n k kt m 92 (fun i => T (j + i)) (by decide)) (by kernel_rfl)
  | 2,1,0, _, _, _ => Valid.of_eq (vTok26 O r sg (rv rest T (j + 5)) (by rw [rv_len]; exact hl) n k kt m 92 (fun i => T (j + i)) (by decide)) (by kernel_rfl)
  | 2,1,1, _, _, _ => Valid.of_eq (vTok26 O r sg (rv rest T (j + 5)) (by rw [rv_len]; exact hl) n k kt m 92 (fun i => T (j + i)) (by decide)) (by kernel_rfl)
  | 3,0,0, _, _, _ => Valid.of_eq (vTok18 O r sg (rv rest T (j + 4)) (by rw [rv_len]; exact hl) n k kt m 35 (fun i => T (j + i)) (by decide)) (by kernel_rfl)
  | 3,0,1, _, _, _ => Valid.of_eq (vTok19 O r sg (rv rest T (j + 4)) (by rw [rv_len]; exact hl) n k kt m 35 (fun i => T (j + i)) (by decide)) (by kernel_rfl)
  | 3,1,0, _, _, _ => Valid.of_eq (vTok21 O r sg (rv rest T (j + 4)) (by rw [rv_len]; exact hl) n k kt m (fun i => T (j + i))) (by kernel_rfl)
  | 3,1,1, _, _, _ => Valid.of_eq (vTok21 O r sg (rv rest T (j + 4)) (by rw [rv_len]; exact hl) n k kt m (fun i => T (j + i))) (by kernel_rfl)
  | 4,0,0, _, _, _ => Valid.of_eq (vTok18 O r sg (rv rest T (j + 4)) (by rw [rv_len]; exact hl) n k kt m 98 (fun i => T (j + i)) (by decide)) (by kernel_rfl)
  | 4,0,1, _, _, _ => Valid.of_eq (vTok19 O r sg (rv rest T (j + 4)) (by rw [rv_len]; exact hl) n k kt m 98 (fun i => T (j + i)) (by decide)) (by kernel_rfl)
  | 4,1,0, _, _, _ => Valid.of_eq (vTok22 O r sg (rv rest T (j + 4)) (by rw [rv_len]; exact hl) n k kt m (fun i => T (j + i))) (by kernel_rfl)
  | 4,1,1, _, _, _ => Valid.of_eq (vTok22 O r sg (rv rest T (j + 4)) (by rw [rv_len]; exact hl) n k kt m (fun i => T (j + i))) (by kernel_rfl)
  | 5,0,0, _, _, _ => Valid.of_eq (vTok18 O r sg (rv rest T (j + 4)) (by rw [rv_len]; exact hl) n k kt m 59 (fun i => T (j + i)) (by decide)) (by kernel_rfl)
  | 5,0,1, _, _, _ => Valid.of_eq (vTok19 O r sg (rv rest T (j + 4)) (by rw [rv_len]; exact hl) n k kt m 59 (fun i => T (j + i)) (by decide)) (by kernel_rfl)
  | 5,1,0, _, _, _ => Valid.of_eq (vTok23 O r sg (rv rest T (j + 4)) (by rw [rv_len]; exact hl) n k kt m (fun i => T (j + i))) (by kernel_rfl)
  | 5,1,1, _, _, _ => Valid.of_eq (vTok23 O r sg (rv rest T (j + 4)) (by rw [rv_len]; exact hl) n k kt m (fun i => T (j + i))) (by kernel_rfl)
  | 6,0,0, _, _, _ => Valid.of_eq (vTok18 O r sg (rv rest T (j + 4)) (by rw [rv_len]; exact hl) n k kt m 61 (fun i => T (j + i)) (by decide)) (by kernel_rfl)
  | 6,0,1, _, _, _ => Valid.of_eq (vTok19 O r sg (rv rest T (j + 4)) (by rw [rv_len]; exact hl) n k kt m 61 (fun i => T (j + i)) (by decide)) (by kernel_rfl)
  | 6,1,0, _, _, _ => Valid.of_eq (vTok24 O r sg (rv rest T (j + 4)) (by rw [rv_len]; exact hl) n k kt m (fun i => T (j + i))) (by kernel_rfl)
  | 6,1,1, _, _, _ => Valid.of_eq (vTok24 O r sg (rv rest T (j + 4)) (by rw [rv_len]; exact hl) n k kt m (fun i => T (j + i))) (by kernel_rfl)
  | 7,0,0, _, _, _ => Valid.of_eq (vTok18 O r sg (rv rest T (j + 4)) (by rw [rv_len]; exact hl) n k kt m 39 (fun i => T (j + i)) (by decide)) (by kernel_rfl)
  | 7,0,1, _, _, _ => Valid.of_eq (vTok19 O r sg (rv rest T (j + 4)) (by rw [rv_len]; exact hl) n k kt m 39 (fun i => T (j + i)) (by decide)) (by kernel_rfl)
  | 7,1,0, _, _, _ => Valid.of_eq (vTok25 O r sg (rv rest T (j + 4)) (by rw [rv_len]; exact hl) n k kt m (fun i => T (j + i))) (by kernel_rfl)
  | 7,1,1, _, _, _ => Valid.of_eq (vTok25 O r sg (rv rest T (j + 4)) (by rw [rv_len]; exact hl) n k kt m (fun i => T (j + i))) (by kernel_rfl)
  | e + 8, _, _, h, _, _ => absurd h (by omega)
  | _, q + 2, _, _, h, _ => absurd h (by omega)
  | _, _, s + 2, _, _, h => absurd h (by omega)
theorem vTk (O : VO V P b scr) (r : Rd) (sg : Addr) (pd rest : List Nat) (hp : pd = [] ∨ pd = [10] ∨ pd = [9]) (T : Nat → Tok) (j n : Nat) (k : Int) (kt : Tok) (m : Nat) (hl : rest.length ≤ 1000) (c q s : Nat) (hc : Rg c) (hq : q < 2) (hs : s < 2) :
    Valid V (cTk (nmZ P) fnZ cdZ (strF P) r sg (piece pd c q s) rest T j n k kt m c) := by
  obtain ⟨e, he, rfl⟩ := hc
  rcases hp with rfl | rfl | rfl
  · exact vTk0 O r sg rest T j n k kt m hl e q s he hq hs
  · exact vTk10 O r sg rest T j n k kt m hl e q s he hq hs
  · exact vTk9 O r sg rest T j n k kt m hl e q s he hq hs
end
end Mine
namespace Mine
open PySem PySem.W PySem.W.X PySem.Spec PySem.Calls PyProof.Rows
noncomputable def pend (X : Nat → Int) : Nat → List Nat
  | 0 => []
  | i + 1 => match qOf (X i) with
    | 0 => []
    | _ + 1 => [sepN (sOf (X i))]
noncomputable def pcs (L : Nat → Nat) (X : Nat → Int) (i : Nat) : List Nat := piece (pend X i) (L (hueOf (X i))) (qOf (X i)) (sOf (X i))
noncomputable def tailF (L : Nat → Nat) (X : Nat → Int) : Nat → List Nat
  | 0 => [122]
  | f + 1 => pc L X (9 - f) ++ (sepN (sOf (X (9 - f))) :: tailF L X f)
noncomputable def rem (L : Nat → Nat) (X : Nat → Int) (i : Nat) : List Nat := pend X i ++ tailF L X (10 - i)
noncomputable def Jt (L : Nat → Nat) (X : Nat → Int) : Nat → Nat
  | 0 => 2
  | i + 1 => Jt L X i + (pcs L X i).length
noncomputable def Nv (L : Nat → Nat) (X : Nat → Int) (n : Nat) : Nat → Nat
  | 0 => n
  | i + 1 => Nv L X n i + (pcs L X i).length
noncomputable def Kl (L : Nat → Nat) (X : Nat → Int) : Nat → Int
  | 0 => 1
  | i + 1 => cnt (pcs L X i) (Kl L X i)
theorem pend_or (X : Nat → Int) (i : Nat) : pend X i = [] ∨ pend X i = [10] ∨ pend X i = [9] := by
  cases i with
  | zero => exact .inl rfl
  | succ i =>
    have e3 : pend X (i + 1) = match qOf (X i) with | 0 => [] | _ + 1 => [sepN (sOf (X i))] := rfl
    rw [e3]
    cases qOf (X i) with
    | zero => exact .inl rfl
    | succ q =>
      cases sOf (X i) with
      | zero => exact .inr (.inl rfl)
      | succ s => exact .inr (.inr rfl)
theorem rem_eq (L : Nat → Nat) (X : Nat → Int) (i : Nat) (h : i < 10) : pcs L X i ++ rem L X (i + 1) = rem L X i := by
  have e : 10 - i = (10 - (i + 1)) + 1 := by omega
  have e2 : 9 - (10 - (i + 1)) = i := by omega
  unfold rem pcs piece
  rw [e]
  have e4 : tailF L X (10 - (i + 1) + 1) = pc L X (9 - (10 - (i + 1))) ++ (sepN (sOf (X (9 - (10 - (i + 1))))) :: tailF L X (10 - (i + 1))) := rfl
  rw [e4, e2]
  unfold pc
  have e3 : pend X (i + 1) = match qOf (X i) with | 0 => [] | _ + 1 => [sepN (sOf (X i))] := rfl
  rw [e3]
  cases qOf (X i) with
  | zero => simp
  | succ q => simp
theorem tailF_len (L : Nat → Nat) (X : Nat → Int) (f : Nat) : (tailF L X f).length ≤ 5 * f + 1 := by
  induction f with
  | zero => simp [tailF]
  | succ f ih =>
    have := pc_len L X (9 - f)
    simp only [tailF, List.length_append, List.length_cons]
    omega
theorem rem_len (L : Nat → Nat) (X : Nat → Int) (i : Nat) : (rem L X i).length ≤ 1000 := by
  have h1 := tailF_len L X (10 - i)
  have h2 : (pend X i).length ≤ 1 := by rcases pend_or X i with h | h | h <;> rw [h] <;> simp
  unfold rem
  rw [List.length_append]
  omega
theorem tz_rem (L : Nat → Nat) (X : Nat → Int) : tz L X = rem L X 0 := by
  simp [tz, txt, rem, pend, tailF]
section
variable {V : XV} {P : Params} {b : Bool} {scr : Obj}
noncomputable def cTkI (N : Nm) (fn cd : String) (F : FuncData) (r : Rd) (sg : Addr) (L : Nat → Nat) (X : Nat → Int) (TS : Nat → Tok) (n : Nat) (kt : Tok) (i : Nat) : Con :=
  cTok N fn cd F r sg (rv (rem L X i) TS (Jt L X i)) (rv (rem L X (i + 1)) TS (Jt L X (i + 1))) (Nv L X n i) (Nv L X n (i + 1)) (Kl L X i) (Kl L X (i + 1)) kt 0 (L (hueOf (X i)))
theorem vTkI (O : VO V P b scr) (r : Rd) (sg : Addr) (L : Nat → Nat) (hL : ∀ k, Rg (L k)) (X : Nat → Int) (TS : Nat → Tok) (n : Nat) (kt : Tok) (i : Nat) (hi : i < 10) : Valid V (cTkI (nmZ P) fnZ cdZ (strF P) r sg L X TS n kt i) := by
  have z := vTk O r sg (pend X i) (rem L X (i + 1)) (pend_or X i) TS (Jt L X i) (Nv L X n i) (Kl L X i) kt 0 (rem_len L X _) (L (hueOf (X i))) (qOf (X i)) (sOf (X i)) (hL _) (two_of _).2 (two_of _).2
  unfold cTk at z
  have e := rem_eq L X i hi
  unfold pcs at e
  rw [e] at z
  exact z
end
end Mine
namespace Mine
open PySem PySem.W PySem.W.X PySem.Spec PySem.Calls PyProof.Rows
noncomputable def fr11 (ad : Nat → Addr) (tk : Nat → Tok) (L : Nat → Nat) (X : Nat → Int) : List (List Nat × Tok × Value) := fr8 ad tk L X ++ [(sReadName, tk 20, .ref (ad 17))]
noncomputable def l11 (N : Nm) (fn cd : String) (F : FuncData) (ad : Nat → Addr) (tot : Int) (tk : Nat → Tok) (L : Nat → Nat) (X : Nat → Int) (T TN TR : Nat → Tok) (r : Rd) (vs : List Value) (n : Nat) (k : Int) (kt : Tok) : Lst :=
  frame N ad (fr11 ad tk L X) 5 (cel10 ad tot tk r) ++ ([(ad 12, lettersO N L tk), (ad 14, drawsO N X T), (ad 15, namesO N L X TN)] ++ (rdO N fn cd F r (ad 16) vs n k kt [] 0 ++ [(ad 17, namesO N L X TR)]))
section
variable {V : XV} {P : Params} {b : Bool} {scr : Obj}
theorem sF10 (O : VO V P b scr) {κ : Kont} (hR : Rm V κ 400) (ad tk : Nat → Nat) (tot : Int) (L : Nat → Nat) (hL : ∀ k, Rg (L k)) (X : Nat → Int) (T TN TS : Nat → Tok) (r : Rd) (n : Nat) (kt : Tok) (R : Lst)
    (H : ∀ ad tk TR kt, LG V P κ R (chR r) (l11 (nmZ P) fnZ cdZ (strF P) ad tot tk L X T TN TR r (rv (rem L X 10) TS (Jt L X 10)) (Nv L X n 10) (Kl L X 10) kt) 11) :
    LG V P κ R (chR r) (l10 (nmZ P) fnZ cdZ (strF P) ad tot tk L X T TN r (rv (rem L X 0) TS 2) n 1 kt [] 0) 10 := by
  exact segL O hR 589 (hsD 345 2218368069544490492690757955536100580182360191836199215435670051515301653486536750872816839887332405244881114848839482979079513210278376075259657075341590258604907176006968177727625859487120306918017692149717973587004554569819510687390569429840103627939730994442844298006731296953094976520751562276168525923003379217589571898296458538231312048007649811993218434006715951083193360430548384336815752250902733094248339974240790447843449825902873998457316481852791002133930441969955556317838089112320882289455190453879500652114986780626041775916486193750297200020144092484898127332694316479710859538838326541682259151302941139986732051738834336456409550567715641855695114264727052072334050056102773880724323409169654324004791943168)
    [(5, ups [16,0,0,0,0,0,0,0,0], fun w => ⟨_, vTkI O r (ad 16) L hL X TS n kt 0 (by decide)⟩), (2, ups [16,0,0,0,0,0,0,0,0], fun w => ⟨_, vTkI O r (ad 16) L hL X TS n (w.t 6) 1 (by decide)⟩), (2, ups [16,0,0,0,0,0,0,0,0], fun w => ⟨_, vTkI O r (ad 16) L hL X TS n (w.t 10) 2 (by decide)⟩), (2, ups [16,0,0,0,0,0,0,0,0], fun w => ⟨_, vTkI O r (ad 16) L hL X TS n (w.t 14) 3 (by decide)⟩), (2, ups [16,0,0,0,0,0,0,0,0], fun w => ⟨_, vTkI O r (ad 16) L hL X TS n (w.t 18) 4 (by decide)⟩), (2, ups [16,0,0,0,0,0,0,0,0], fun w => ⟨_, vTkI O r (ad 16) L hL X TS n (w.t 22) 5 (by decide)⟩), (2, ups [16,0,0,0,0,0,0,0,0], fun w => ⟨_, vTkI O r (ad 16) L hL X TS n (w.t 26) 6 (by decide)⟩), (2, ups [16,0,0,0,0,0,0,0,0], fun w => ⟨_, vTkI O r (ad 16) L hL X TS n (w.t 30) 7 (by decide)⟩), (2, ups [16,0,0,0,0,0,0,0,0], fun w => ⟨_, vTkI O r (ad 16) L hL X TS n (w.t 34) 8 (by decide)⟩), (2, ups [16,0,0,0,0,0,0,0,0], fun w => ⟨_, vTkI O r (ad 16) L hL X TS n (w.t 38) 9 (by decide)⟩)]
    (ups [0,0,0,0,0,0,0,0,0,0,0,0,0,1,0,0,0,0,0,0,0,0,0,0,2])
    (fun w => l11 (nmZ P) fnZ cdZ (strF P) (ext ad 17 [w.a 2]) tot (ext tk 20 [w.t 43]) L X T TN (nth [w.t 5, w.t 9, w.t 13, w.t 17, w.t 21, w.t 25, w.t 29, w.t 33, w.t 37, w.t 41]) r (rv (rem L X 10) TS (Jt L X 10)) (Nv L X n 10) (Kl L X 10) (w.t 42)) 11 (fun w => chR r) (fun w => by kernel_rfl) fun w => H _ _ _ _
end
end Mine
namespace Mine
open PySem PySem.W PySem.W.X PySem.Spec PySem.Calls PyProof.Rows
section
variable {V : XV} {ch : Ch} {c : Code} {κ : Kont} {l : Lst}
theorem G.eqAt {t : Sem PySem.Fin} {p : Pos} {k : Unit → Sem PySem.Fin} (e : t = Sem.at p k) (x : G V ch c κ (k ()) l) : G V ch c κ t l := by
  rw [e]; exact G.skim x
theorem G.eqPoint {t : Sem PySem.Fin} {p} {k : Unit → Sem PySem.Fin} (e : t = Sem.point p k) (x : G V ch c κ (k ()) l) : G V ch c κ t l := by
  rw [e]; exact G.skim x
theorem G.eqRule {t : Sem PySem.Fin} {p} {k : Unit → Sem PySem.Fin} (e : t = Sem.rule p k) (x : G V ch c κ (k ()) l) : G V ch c κ t l := by
  rw [e]; exact G.skim x
theorem G.eqLoad {t : Sem PySem.Fin} {a : Addr} {q : Option Value} {k : Obj → Sem PySem.Fin} {o : Obj} (e : t = Sem.load a q k) (ho : ∀ h, Mm V h ch l → h.get? a = some o) (x : G V ch c κ (k o) l) : G V ch c κ t l := by
  rw [e]; exact G.load ho x
theorem Mm.mem {h : Heap} (D : Mm V h ch l) {a : Addr} {o : Obj} (hm : (a, o) ∈ l) : h.get? a = some o := (D.nw _ hm).1
theorem G.eqFresh {t : Sem PySem.Fin} {k : Tok → Sem PySem.Fin} (e : t = Sem.fresh k) (x : ∀ t, G V ch c κ (k t) l) : G V ch c κ t l := by
  rw [e]; exact G.fresh x
theorem G.eqStack {lv : Nat} (hR : Rm V κ lv) (hd : Nat.blt (lv + cw c) 1000 = true) {t : Sem PySem.Fin} {k : List (Code × Pos) → Sem PySem.Fin} (e : t = Sem.stack k) (x : ∀ st, X.roomF st = false → G V ch c κ (k st) l) : G V ch c κ t l := by
  rw [e]
  refine G.stack fun p below z => x _ (z.room ?_)
  have h1 := hR.room
  have h2 := blt_true hd
  have h3 := cw_eq c
  show (aroundOf V true κ).units + c.cUnits < 9900
  omega
theorem G.room1 {α1 α2 α3 : Type} {t : Sem PySem.Fin} {A Y : Sem Unit} {B : Bool} {v1 v2 : List Value} {f1 : Unit → Sem Value} {f2 : Value → Sem α1} {f3 : α1 → Sem α2} {f4 : α2 → Sem α3} {f5 : α3 → Sem Flow} {f6 : Value → Sem Unit} {f7 : Flow → Sem PySem.Fin}
    (e : t = W.R.bindR (W.R.onRaiseR (W.R.bindR (W.R.bindR (W.R.bindR (W.R.bindR (W.R.keepR v1 (W.R.keepR v2 (W.R.bindR (cond B A Y) f1))) f2) f3) f4) f5) f6) f7) (hB : B = false) (x : G V ch c κ (W.R.bindR (W.R.onRaiseR (W.R.bindR (W.R.bindR (W.R.bindR (W.R.bindR (W.R.keepR v1 (W.R.keepR v2 (W.R.bindR (Y) f1))) f2) f3) f4) f5) f6) f7) l) : G V ch c κ t l := by
  rw [e, hB]; exact x
end
end Mine
namespace Mine
open PySem PySem.W PySem.W.X PySem.Spec PySem.Calls PyProof.Rows
noncomputable def nmL (L : Nat → Nat) (X : Nat → Int) (T : Nat → Tok) : List (List Nat × Tok) := [([L (hueOf (X 0))], T 0), ([L (hueOf (X 1))], T 1), ([L (hueOf (X 2))], T 2), ([L (hueOf (X 3))], T 3), ([L (hueOf (X 4))], T 4), ([L (hueOf (X 5))], T 5), ([L (hueOf (X 6))], T 6), ([L (hueOf (X 7))], T 7), ([L (hueOf (X 8))], T 8), ([L (hueOf (X 9))], T 9)]
noncomputable def sName : List Nat := [110,97,109,101]
noncomputable def fr13 (ad : Nat → Addr) (tk : Nat → Tok) (L : Nat → Nat) (X : Nat → Int) (TR : Nat → Tok) : List (List Nat × Tok × Value) := fr11 ad tk L X ++ [(sName, tk 21, ch1 (L (hueOf (X 9))) (TR 9))]
noncomputable def l13 (N : Nm) (fn cd : String) (F : FuncData) (ad : Nat → Addr) (tot : Int) (tk : Nat → Tok) (L : Nat → Nat) (X : Nat → Int) (T TR : Nat → Tok) (r : Rd) (vs : List Value) (n : Nat) (k : Int) (kt : Tok) : Lst :=
  frame N ad (fr13 ad tk L X TR) 6 (cel10 ad tot tk r) ++ ([(ad 12, lettersO N L tk), (ad 14, drawsO N X T)] ++ rdO N fn cd F r (ad 16) vs n k kt (stV (nmL L X TR)) 10)
section
variable {V : XV} {P : Params} {b : Bool} {scr : Obj}
theorem segT (O : VO V P b scr) {κ : Kont} (hR : Rm V κ 400) {R l l0 : Lst} {ch : Ch} {t : Sem PySem.Fin} (n : Nat) (hs : List Nat) (cs : List (Nat × List Bool × (Ora → VCon V))) (sel : List Bool) (l' : Ora → Lst) (j' : Nat) (ch' : Ora → Ch)
    (h12 : ∀ w, (vw sel (vm (sT P b) (sF P b) (ktm P scr) tabs0 400 w n (st0 V (entryCode (lawF P) 138 l0) κ t l ch hs cs)), lhs (vm (sT P b) (sF P b) (ktm P scr) tabs0 400 w n (st0 V (entryCode (lawF P) 138 l0) κ t l ch hs cs))) =
      (some (entryCode (lawF P) 138 (l' w), atS (lawF P) 138 (l' w) j', 0, l' w, ch' w), rhs (vm (sT P b) (sF P b) (ktm P scr) tabs0 400 w n (st0 V (entryCode (lawF P) 138 l0) κ t l ch hs cs))))
    (H : ∀ w, LG V P κ R (ch' w) (l' w) j') : G V ch (entryCode (lawF P) 138 l0) κ t (l ++ R) :=
  seg O hR n hs cs sel (c' := fun w => entryCode (lawF P) 138 (l' w)) (t' := fun w => atS (lawF P) 138 (l' w) j') (l' := l') (ch' := ch') h12 H
theorem sF11 (O : VO V P b scr) {κ : Kont} (hR : Rm V κ 400) (ad tk : Nat → Nat) (tot : Int) (L : Nat → Nat) (X : Nat → Int) (T TN TR : Nat → Tok) (r : Rd) (vs : List Value) (n : Nat) (k : Int) (kt : Tok) (R : Lst)
    (H : ∀ tk, LG V P κ R (chR r) (l13 (nmZ P) fnZ cdZ (strF P) ad tot tk L X T TR r vs n k kt) 13) :
    LG V P κ R (chR r) (l11 (nmZ P) fnZ cdZ (strF P) ad tot tk L X T TN TR r vs n k kt) 11 := by
  unfold LG
  refine G.eqAt (p := _) (k := _) rfl ?_
  refine G.eqAt (p := _) (k := _) rfl ?_
  refine G.eqLoad (a := _) (q := _) (k := _) (o := frmO (nmZ P) (fr11 ad tk L X) 5) rfl (fun h D => D.mem List.mem_cons_self) ?_
  refine G.eqAt (p := _) (k := _) rfl ?_
  refine G.eqLoad (a := _) (q := _) (k := _) (o := frmO (nmZ P) (fr11 ad tk L X) 5) rfl (fun h D => D.mem List.mem_cons_self) ?_
  refine G.eqAt (p := _) (k := _) rfl ?_
  refine G.eqStack hR (by kernel_rfl) (k := _) rfl fun st hst => ?_
  refine G.room1 rfl hst ?_
  exact segT O hR 998 (hsD 586 19950294446339294575651471162747747515864898292857581474159892541385410099132588101187774867449521987403429415696514583964344742387345243327587171312486458646084159508005168535965483833461534759268379373802401330616626509354706233736812719296578196844627322190193691069222976118052409194605319121944546486402227777361246839779130852280164128002622612978778134519286809696077099331401231702459662677924703787270906390073696029192006084249741267227468688936825049784646547379867106763830341822866748111825404868110363173480630246226543146758648251654794239073748244303550324720558124588740834726856066899625819839000138792367040204907667926677467622939113094573988202515382999503277665877951337786725848783913488501123125397967699228334458090163474917346217941993180732867907472069275985805093970912784344048349613087088700339838457010445289955064447563173178807053699011688755157200951867447449620392734940382054517632960102418828662184853887808244475302420487489075819113936007118829469649781701719665430552810964120779338159384638168511476780289543997811022191030628758443955747357562799618113993385681011552479433426926905076289053053452881588820216615641873267962938353486470180966329025533631542069764805715734855378157310463854489)
    [(0, ups [14,9], fun w => ⟨_, vLneR P (ad 17) (ad 15) (nmL L X TR) (nmL L X TN) 10 10 rfl⟩)]
    (ups [0,0,0,0,0,0,0,0,0,0,0,0,0,0,1,0,0,0,0,0,0,0,0])
    (fun w => l13 (nmZ P) fnZ cdZ (strF P) ad tot (ext tk 21 [w.t 0]) L X T TR r vs n k kt) 13 (fun w => chR r) (fun w => by kernel_rfl) fun w => H _
end
end Mine
namespace Mine
open PySem PySem.W PySem.W.X PySem.Spec PySem.Calls PyProof.Rows
noncomputable def sLights : List Nat := [108,105,103,104,116,115]
noncomputable def sHues : List Nat := [104,117,101,115]
noncomputable def sSeen : List Nat := [115,101,101,110]
noncomputable def sPairs : List Nat := [112,97,105,114,115]
structure Kn where
  ad : Nat → Addr
  tot : Int
  tk : Nat → Tok
  L : Nat → Nat
  X : Nat → Int
  T : Nat → Tok
  TR : Nat → Tok
  r : Rd
  vs : List Value
  n : Nat
  k : Int
  kt : Tok
structure Fx where
  N : Nm
  fn : String
  cd : String
  F : FuncData
noncomputable def fxZ (P : Params) : Fx := ⟨nmZ P, fnZ, cdZ, strF P⟩
noncomputable def lC (Q : Fx) (K : Kn) (es : List (List Nat × Tok × Value)) (ne : Nat) (c7 c8 c9 c10 : Option Value) (c11 : Option Value) (ps : List Value) (m : Nat) (more : Lst) : Lst :=
  frame Q.N K.ad (fr13 K.ad K.tk K.L K.X K.TR ++ es) ne [some (.ref 139), some (.int K.tot (K.tk 0)), some (.ref (K.ad 12)), some (.ref (K.ad 13)), some (.ref (K.ad 14)), some (.ref K.r.me), c7, c8, c9, c10, c11] ++
    ([(K.ad 12, lettersO Q.N K.L K.tk), (K.ad 14, drawsO Q.N K.X K.T)] ++ (rdO Q.N Q.fn Q.cd Q.F K.r (K.ad 16) K.vs K.n K.k K.kt ps m ++ more))
noncomputable def flt (b : UInt64) (t : Tok) : Value := .float b t
noncomputable def f0 : UInt64 := 0
noncomputable def f1 : UInt64 := 4607182418800017408
noncomputable def h1 : UInt64 := 4599676419421066581
noncomputable def h2 : UInt64 := 4604180019048437077
noncomputable def hf : UInt64 := 4602678819172646912
noncomputable def psO (K : Kn) : List Value := stV (nmL K.L K.X K.TR)
noncomputable def l14 (Q : Fx) (K : Kn) : Lst := lC Q K [(sLights, K.tk 22, .ref (K.ad 18))] 7 none none none none none (psO K) 10
  [(K.ad 18, lstO Q.N [.ref (K.ad 26), .ref (K.ad 27), .ref (K.ad 28)] 3), (K.ad 26, tupO Q.N [flt f1 (K.tk 40), flt f0 (K.tk 41), flt f0 (K.tk 42)]), (K.ad 27, tupO Q.N [flt f0 (K.tk 43), flt f1 (K.tk 44), flt f0 (K.tk 45)]), (K.ad 28, tupO Q.N [flt f0 (K.tk 46), flt f0 (K.tk 47), flt f1 (K.tk 48)])]
noncomputable def l15 (Q : Fx) (K : Kn) : Lst := lC Q K [(sLights, K.tk 22, .ref (K.ad 18)), (sHues, K.tk 23, .ref (K.ad 19))] 8 none none none none none (psO K) 10
  [(K.ad 18, lstO Q.N [.ref (K.ad 26), .ref (K.ad 27), .ref (K.ad 28)] 3), (K.ad 26, tupO Q.N [flt f1 (K.tk 40), flt f0 (K.tk 41), flt f0 (K.tk 42)]), (K.ad 27, tupO Q.N [flt f0 (K.tk 43), flt f1 (K.tk 44), flt f0 (K.tk 45)]), (K.ad 28, tupO Q.N [flt f0 (K.tk 46), flt f0 (K.tk 47), flt f1 (K.tk 48)]),
   (K.ad 19, lstO Q.N [flt f0 (K.tk 26), flt h1 (K.tk 27), flt h2 (K.tk 28)] 3)]
noncomputable def hsO (Q : Fx) (K : Kn) : Lst := [(K.ad 19, lstO Q.N [flt f0 (K.tk 26), flt h1 (K.tk 27), flt h2 (K.tk 28)] 3), (K.ad 20, lstO Q.N [.ref (K.ad 21), .ref (K.ad 22), .ref (K.ad 23)] 3),
   (K.ad 21, tupO Q.N [flt f0 (K.tk 29), flt hf (K.tk 30), flt f1 (K.tk 31)]), (K.ad 22, tupO Q.N [flt h1 (K.tk 32), flt hf (K.tk 33), flt f1 (K.tk 34)]), (K.ad 23, tupO Q.N [flt h2 (K.tk 35), flt hf (K.tk 36), flt f1 (K.tk 37)])]
noncomputable def es18 (K : Kn) : List (List Nat × Tok × Value) := [(sLights, K.tk 22, .ref (K.ad 18)), (sHues, K.tk 23, .ref (K.ad 19)), (sSeen, K.tk 24, .ref (K.ad 20)), (sPairs, K.tk 25, .ref (K.ad 25))]
noncomputable def l18 (Q : Fx) (K : Kn) : Lst := lC Q K (es18 K) 10 (some (.ref (K.ad 24))) none none none none (psO K) 10 (hsO Q K ++ [(K.ad 24, dctO Q.N [] 0), (K.ad 25, lstO Q.N [] 0)])
end Mine
namespace Mine
open PySem PySem.W PySem.W.X PySem.Spec PySem.Calls PyProof.Rows
section
variable {V : XV} {P : Params} {b : Bool} {scr : Obj}
noncomputable def ovr (f : Nat → Nat) : List (Nat × Nat) → Nat → Nat
  | [], j => f j
  | x :: l, j => match Nat.beq j x.1 with
    | true => x.2
    | false => ovr f l j
noncomputable def Kn.up (K : Kn) (a t : List (Nat × Nat)) : Kn := { K with ad := ovr K.ad a, tk := ovr K.tk t }
theorem sF13 (O : VO V P b scr) {κ : Kont} (hR : Rm V κ 400) (K : Kn) (R : Lst) (H : ∀ a t, LG V P κ R (chR K.r) (l14 (fxZ P) (K.up a t)) 14) :
    LG V P κ R (chR K.r) (l13 (nmZ P) fnZ cdZ (strF P) K.ad K.tot K.tk K.L K.X K.T K.TR K.r K.vs K.n K.k K.kt) 13 :=
  segL O hR 876 (hsD 208 423870830290232195528756560069865069600658705742373070375628498429318850388997468761820285124190985290032231021359641021582486797465672657420775482243952133154678032260847789311760235116265268607446041979140980080504356344728618093751520205983357223230020238870285687298500064683038798081768764930000956075747542696570016908011980577493987824009464087732219756124851096106198316510563238950387883518800658150566513792677733700471504633856)
    [(12, ups [], fun w => ⟨_, vInt O 0 (w.t 14) false 0 (Int.negSucc 1073) (Int.ofNat 0) (by kernel_rfl) (by kernel_rfl)⟩), (12, ups [], fun w => ⟨_, vMod O (Int.ofNat 0) (w.t 15) 5 (w.t 37) (Int.ofNat 0) (by kernel_rfl)⟩), (10, ups [], fun w => ⟨_, vInt O 4611686018427387904 (w.t 52) false 4503599627370496 (Int.negSucc 50) (Int.ofNat 2) (by kernel_rfl) (by kernel_rfl)⟩), (12, ups [], fun w => ⟨_, vMod O (Int.ofNat 2) (w.t 53) 5 (w.t 75) (Int.ofNat 2) (by kernel_rfl)⟩), (12, ups [], fun w => ⟨_, vInt O 4616189618054758400 (w.t 92) false 4503599627370496 (Int.negSucc 49) (Int.ofNat 4) (by kernel_rfl) (by kernel_rfl)⟩), (12, ups [], fun w => ⟨_, vMod O (Int.ofNat 4) (w.t 93) 5 (w.t 115) (Int.ofNat 4) (by kernel_rfl)⟩)]
    (ups [0,0,0,0,0,0,0,0,0,0,0,0,0,0,0,0,0,0,0,0,0,0,0,2,2,1,1]) (fun w => l14 (fxZ P) (K.up [(18, w.a 2), (26, w.a 5), (27, w.a 7), (28, w.a 9)] [(22, w.t 123), (40, w.t 8), (41, w.t 35), (42, w.t 23), (43, w.t 61), (44, w.t 46), (45, w.t 73), (46, w.t 113), (47, w.t 101), (48, w.t 86)])) 14 (fun w => chR K.r) (fun w => by kernel_rfl) fun w => H _ _
theorem sF14 (O : VO V P b scr) {κ : Kont} (hR : Rm V κ 400) (K : Kn) (R : Lst) (H : ∀ a t, LG V P κ R (chR K.r) (l15 (fxZ P) (K.up a t)) 15) :
    LG V P κ R (chR K.r) (l14 (fxZ P) K) 14 :=
  segL O hR 1576 (hsD 596 18640572380308925369249349703691764426569719880015538820922210949971058051809746913436669600269268621764637354789857637393572243351944157993666120467065658984356568330704251607577058173257896925054674149413162687007215211727316798220113758067647539329956043591163258444476190676021994687774512081052275503244911121218639653540802049372972954605039877962656193670048403486124196224687853223722403250305365535002886443464362374162920060961519716413472722054913532186604401409935854979022323554865074169932061354113042490226396122817063674287689286581265123346226891758635464038094651092266505043433746368044108174001405135125788110414164398186414020405428543696763816213496015941001936265761113579731029950794821451267529586338110485613068595043430930710959520323240690152632414977637428435495691961974081938412212858804138397630370841688597860303561774549698112781703639691590485446914491567222701628037497975593602869278085762565679722625212142536235324155308477748641495859466354094086242841345501683027639792767790229862169550442290790278020127693853666493959496811020910415261100616243627264711356586892488733383729921337089749592951888210085967367706126267282626513215746677561352667394490814341265548048511083343456841584371873474272605886704762883073)
    []
    (ups [0,0,0,0,0,0,0,0,0,0,0,0,0,0,0,0,0,0,0,0,0,0,0,0,0,0,0,1]) (fun w => l15 (fxZ P) (K.up [(19, w.a 1)] [(23, w.t 97), (26, w.t 28), (27, w.t 61), (28, w.t 94)])) 15 (fun w => chR K.r) (fun w => by kernel_rfl) fun w => H _ _
theorem sF15 (O : VO V P b scr) {κ : Kont} (hR : Rm V κ 400) (K : Kn) (R : Lst) (H : ∀ a t, LG V P κ R (chR K.r) (l18 (fxZ P) (K.up a t)) 18) :
    LG V P κ R (chR K.r) (l15 (fxZ P) K) 15 :=
  segL O hR 1654 (hsD 600 166864371094342172178752376786303022326599687233702553352515706358408530020662546367402330152077778293416736633779421006792164660588092062516426044558149125568090740335444021962393088208788294424136389854518454613788800658511818358785374413428531335435783949393173019814241224235955706295322852690613810914517537673745219265164049558281334639687356870371592768184063367739806770315084150230263337830620226065294562228731967268071689648846308257083649117375027352469862440930185146321047454671764447796877340847519355451424047370615575147001046256900267476946484806722628580347266150645379048726793482802542594087830509391831277221480086608903401409153602570296875122900377808489898942273600512625898894755860630530979513266286454803749552421509430162185260180621225713171496880659990827744918786230537773988700001019226418905129193516997950764823926935842279886482604057591381288715746171319770251400057238462488453385936952248048031196447575764014566919972564409345748842710834458809179701958729251849736547032683654755545456862248002125976418994261141728709478768779921073378152727256959432060150862627464384940801264778763013495740739566024005400190355323286491217404856917256856967502691136231310175555893156628278767787141190995974203270530314367847889243137)
    []
    (ups [0,0,0,0,0,0,0,0,0,0,0,0,0,0,0,0,0,0,0,0,0,0,0,4,1,12,11,11,2,0]) (fun w => l18 (fxZ P) (K.up [(20, w.a 1), (21, w.a 14), (22, w.a 26), (23, w.a 38), (24, w.a 41), (25, w.a 42)] [(24, w.t 109), (25, w.t 110), (29, w.t 33), (30, w.t 14), (31, w.t 17), (32, w.t 70), (33, w.t 49), (34, w.t 52), (35, w.t 107), (36, w.t 86), (37, w.t 89)])) 18 (fun w => chR K.r) (fun w => by kernel_rfl) fun w => H _ _
end
end Mine
namespace Mine
open PySem PySem.W PySem.W.X PySem.Spec PySem.Calls PyProof.Rows
section
variable {V : XV} {set set' : Setting} {kt : KT} {tabs : Ch} {lv : Nat}
noncomputable def cvw {V : XV} (lv clv : Nat) (m : List Bool) (o : Option (St V)) : Option (Code × Lst × Bool) := match o with
  | some s => match s.t with
    | .call c' hd _ _ k => match hd with
      | none => some (c', maskT s.l m, Nat.ble (lv + (cw s.c + wsum s.κ s.lev)) clv)
      | some _ => none
    | _ => none
  | none => none
noncomputable def resume {V : XV} (d : St V) (o : Option (St V)) (r : Result) (hs : List Nat) (cs : List (Nat × List Bool × (Ora → VCon V))) : St V := match o with
  | some s => match s.t with
    | .call _ _ _ _ k => ⟨s.c, s.κ, k r, s.lev, s.l, s.ch, 0,0,0, hs, cs, [],[],[],[]⟩
    | _ => d
  | none => d
noncomputable def lookC (c : Code) (foot : Lst) (v : Tok → Value) (clv : Nat) : Con := ⟨c, foot, 0,1, fun _ _ => [], fun _ _ => [], fun _ θ => .ok (.ret (v (θ 0))), clv⟩
noncomputable def Inc (w : Ora) : Prop := ∃ i0, ∀ k, w.t k = i0 + k
theorem On_vm {κ : Kont} {w : Ora} : ∀ (n : Nat) (s s' : St V), vm set set' kt tabs lv w n s = some s' → On κ s.lev s.κ → On κ s'.lev s'.κ
  | 0, s, s', h, o => by cases h; exact o
  | n + 1, s, s', h, o => by
    rw [vm_succ] at h
    split at h
    · rename_i s1 h1
      exact On_vm n s1 s' h ((next_grows h1).on κ o)
    · cases h
theorem segX (O : Vok V set set' kt tabs) {κ : Kont} (hR : Rm V κ lv) {R l : Lst} {c : Code} {t : Sem PySem.Fin} {ch : Ch} (n1 : Nat) (hs1 : List Nat) (cs1 : List (Nat × List Bool × (Ora → VCon V))) (hcs : ∀ x ∈ cs1, ∀ w, ValidX V (x.2.2 w).1) (cc : Ora → Code) (foot : Ora → Lst) (v : Ora → Tok → Value) (clv : Nat) (m : List Bool)
    (hC : ∀ w, Inc w → Valid V (lookC (cc w) (foot w) (v w) clv))
    (h1 : ∀ w, (cvw lv clv m (vm set set' kt tabs lv w n1 (st0 V c κ t l ch hs1 cs1)), lhs (vm set set' kt tabs lv w n1 (st0 V c κ t l ch hs1 cs1))) = (some (cc w, foot w, true), rhs (vm set set' kt tabs lv w n1 (st0 V c κ t l ch hs1 cs1))))
    (n2 : Nat) (hs2 : List Nat) (cs2 : Ora → Tok → List (Nat × List Bool × (Ora → VCon V))) (sel : List Bool)
    {c' : Ora → Tok → Ora → Code} {t' : Ora → Tok → Ora → Sem PySem.Fin} {l' : Ora → Tok → Ora → Lst} {ch' : Ora → Tok → Ora → Ch}
    (h2 : ∀ w u w2, (vw sel (vm set set' kt tabs lv w2 n2 (resume (st0 V c κ t l ch hs1 cs1) (vm set set' kt tabs lv w n1 (st0 V c κ t l ch hs1 cs1)) (.ok (.ret (v w u))) hs2 (cs2 w u))), lhs (vm set set' kt tabs lv w2 n2 (resume (st0 V c κ t l ch hs1 cs1) (vm set set' kt tabs lv w n1 (st0 V c κ t l ch hs1 cs1)) (.ok (.ret (v w u))) hs2 (cs2 w u)))) =
      (some (c' w u w2, t' w u w2,0, l' w u w2, ch' w u w2), rhs (vm set set' kt tabs lv w2 n2 (resume (st0 V c κ t l ch hs1 cs1) (vm set set' kt tabs lv w n1 (st0 V c κ t l ch hs1 cs1)) (.ok (.ret (v w u))) hs2 (cs2 w u)))))
    (h3 : ∀ w u w2, G V (ch' w u w2) (c' w u w2) κ (t' w u w2) (l' w u w2 ++ R)) : G V ch c κ t (l ++ R) := by
  refine G.ofX fun i0 => ?_
  have d0 : Nat → Pos × List (Code × Pos) := fun _ => (⟨0,0,0,0⟩, [])
  have key : GsX R (st0 V c κ t l ch hs1 cs1) i0 := by
    refine vm_soundX O hR R i0 n1 _ .base hcs ⟨fun _ => 0, fun k => i0 + k, d0⟩ (fun _ => rfl) fun w _ hw => ?_
    have e1 := congrArg Prod.fst (h1 w)
    have e2 := congrArg Prod.snd (h1 w)
    have h2' := h2 w
    simp only at e1 e2
    cases q : vm set set' kt tabs lv w n1 (st0 V c κ t l ch hs1 cs1) with
    | none => rw [q] at e1; cases e1
    | some s1 =>
      have on := On_vm (κ := κ) n1 _ _ q .base
      rw [q] at e1 e2 h2'
      refine ⟨s1, rfl, eqs_of e2, ?_⟩
      clear q
      obtain ⟨c1, κ1, t1, lev1, l1, ch1, na1, nt1, ns1, hs1', csA, eA, eC, eL, eT⟩ := s1
      show Gx V ch1 c1 κ1 t1 (l1 ++ R) _
      cases t1
      case call c2 hd g lvv k =>
        cases hd with
        | some _ => cases e1
        | none =>
        simp only [cvw, Option.some.injEq, Prod.mk.injEq] at e1
        obtain ⟨a1, a2, a3⟩ := e1
        subst a1
        refine G.toX ?_ _
        have pm : (l1 ++ R).Perm (foot w ++ (maskF l1 m ++ R)) := by
          rw [← a2, ← List.append_assoc]
          exact (mask_perm l1 m).append_right R
        have rm0 : Rm V κ1 (lv + wsum κ1 lev1) := on.room hR
        have rm := rm0.push c1 k
        refine G.perm pm (hC w ⟨i0, hw⟩ ch1 c1 κ1 _ g lvv k ⟨Nat.le_trans rm.room ?_, rm.hand⟩ fun α θ hα hθ => ?_)
        · have := Nat.le_of_ble_eq_true a3
          show _ ≤ clv
          omega
        · have z : Gs R (resume (st0 V c κ t l ch hs1 cs1) (some ⟨c1, κ1, .call (cc w) none g lvv k, lev1, l1, ch1, na1, nt1, ns1, hs1', csA, eA, eC, eL, eT⟩) (.ok (.ret (v w (θ 0)))) hs2 (cs2 w (θ 0))) := by
            refine vm_sound O hR R n2 _ on ⟨fun _ => 0, fun _ => 0, d0⟩ fun w2 _ => ?_
            have e1 := congrArg Prod.fst (h2' (θ 0) w2)
            have e2 := congrArg Prod.snd (h2' (θ 0) w2)
            simp only at e1 e2
            cases q2 : vm set set' kt tabs lv w2 n2 (resume (st0 V c κ t l ch hs1 cs1) (some ⟨c1, κ1, .call (cc w) none g lvv k, lev1, l1, ch1, na1, nt1, ns1, hs1', csA, eA, eC, eL, eT⟩) (.ok (.ret (v w (θ 0)))) hs2 (cs2 w (θ 0))) with
            | none => rw [q2] at e1; cases e1
            | some s3 =>
              have on3 := On_vm (κ := κ) n2 _ _ q2 on
              rw [q2] at e1 e2
              refine ⟨s3, rfl, eqs_of e2, ?_⟩
              have g := h3 w (θ 0) w2
              simp only [vw, Option.some.injEq, Prod.mk.injEq] at e1
              obtain ⟨b1, b2, b3, b4, b5⟩ := e1
              rw [b3] at on3
              have ek : s3.κ = κ := by
                generalize s3.κ = k at on3
                cases on3; rfl
              show G V s3.ch s3.c s3.κ s3.t (s3.l ++ R)
              rw [ek, b1, b2, b5]
              refine G.sub ?_ g
              rw [← b4]
              exact (maskT_sub _ _).append_right R
          have z' : G V ch1 c1 κ1 (k (.ok (.ret (v w (θ 0))))) (l1 ++ R) := z
          refine G.perm ?_ z'
          have e : reput (foot w) [] = foot w := by cases foot w <;> rfl
          show ((reput (foot w) [] ++ newL α 0 []) ++ (maskF l1 m ++ R)).Perm (l1 ++ R)
          rw [e]
          show ((foot w ++ []) ++ (maskF l1 m ++ R)).Perm (l1 ++ R)
          rw [List.append_nil]
          exact pm.symm
      all_goals cases e1
  exact key
end
end Mine
namespace Mine
open PySem PySem.W PySem.W.X PySem.Spec PySem.Calls PyProof.Rows PySem.Builtin PySem.Builtin.Str PySem.Builtin.Int
section
variable {prog : Program} {w : World} {A : Around} {E : Value → Shared → Prop} {s : Shared}
theorem eqAt_same (b : UInt64) (t : Tok) : PySem.SeqAt.EqAt A s (.float b t) (.float b t) true := fun prog w E Q h => by
  unfold eqBool
  show wpAny _ _ (if (Value.float b t == Value.float b t) = true then _ else _) Q E s
  rw [if_pos (by simp)]
  exact wpAny_bind (wpAny_rule (wpAny_pure h))
theorem same_float {M : Model} {y x : UInt64} {u t : Tok} {Q : Bool → Shared → Prop} (hb : (y == x) = false) (hu : u ≠ 0) (ht : t ≠ 0) (hut : u ≠ t) (hq : Q false s) : wpAny M A (isSame (.float y u) (.float x t)) Q E s := by
  show wpAny M A (isSame.created (y == x && !Float64.isNaN y) u t) Q E s
  rw [hb, Bool.false_and]
  unfold isSame.created
  refine wpAny_ite ?_
  split
  · rename_i h
    simp only [Bool.or_eq_true, beq_iff_eq] at h
    rcases h with h | h
    · exact absurd h hu
    · exact absurd h ht
  refine wpAny_ite ?_
  split
  · rename_i h
    exact absurd (eq_of_beq h) hut
  refine wpAny_ite ?_
  split
  · exact wpAny_pure hq
  · rename_i h
    exact absurd rfl h
theorem eqAt_ne {y x : UInt64} {u t : Tok} (hb : (y == x) = false) (hc : (Float64.cmp y x == some Ordering.eq) = false) (hu : u ≠ 0) (ht : t ≠ 0) (hut : u ≠ t) : PySem.SeqAt.EqAt A s (.float y u) (.float x t) false := fun prog w E Q h => by
  have hne : ¬ (Value.float y u == Value.float x t) = true := by
    intro e
    have := eq_of_beq e
    injection this with h1 h2
    exact hut h2
  unfold eqBool
  show wpAny _ _ (if (Value.float y u == Value.float x t) = true then _ else _) Q E s
  rw [if_neg hne]
  first
    | refine wpAny_bind (same_float hb hu ht hut ?_)
    | (show wpAny _ _ (isSame (.float y u) (.float x t) >>= _) Q E s; refine wpAny_bind (same_float hb hu ht hut ?_))
  have g := AutoFloatG5.float___eq___float_float_0 y u x t
  have e : ((fun x => x == some Ordering.eq) (Float64.cmp y x)) = false := hc
  rw [e] at g
  refine wpAny_bind (richCompare_gives (op := .Eq) (T := "float") rfl rfl F.slot_float_eq F.entry_float_eq (F.args_float_eq_2 _ _) g (fun x => nomatch x) (wpAny_truthy_bool h))
end
section
variable {V : XV} {P : Params}
theorem gCallWpX {ch : Ch} {c : Code} {κ : Kont} {l : Lst} {f : Value} {args : List Value} {g : Bool} {lv : List Value} {k : Result → Sem PySem.Fin} {i : Nat}
    (h : ∀ hp, Mm V hp ch l → wpAny (model V.prog V.w) ((aroundOf V true κ).under c) (PySem.call f args) (fun v s' => Means V c none κ (k (.ok (.ret v))) s') (fun e s' => Means V c none κ (k (.error e)) s') ⟨hp, ⟨[]⟩, V.d, i, V.os⟩) :
    Gx V ch c κ (.call (.call f ⟨args, []⟩) none g lv k) l i := fun hp D => by
  intro Γ p hc hΓ
  have z := h hp D Γ p (hc ▸ hΓ.in)
  change Sem.wp _ Γ (Sem.call (.call f ⟨args, []⟩) none false [] (fun r => Sem.bind (match r with | .ok f => Sem.pure f | .error e => Sem.raise e) (fun x => match x with | .ret v => Sem.pure v | _ => Sem.unsupported "internal:call-without-return-value"))) _ _ p _ at z
  rw [Sem.wp_call] at z ⊢
  refine wpCode_mono (fun r s' q => ?_) z
  cases r with
  | ok fl =>
    cases fl with
    | ret v => exact q Γ p hc hΓ
    | next => exact absurd q (by simp [Sem.bind, Sem.wp])
    | brk => exact absurd q (by simp [Sem.bind, Sem.wp])
    | cont => exact absurd q (by simp [Sem.bind, Sem.wp])
  | error e => exact q Γ p hc hΓ
noncomputable def cLT (N : Nm) (t : Addr) (vs : List Value) : Con := ⟨.call (.type N.list) ⟨[.ref t],[]⟩, [(t, tupO N vs)],2,0, fun _ _ => [], fun α _ => [lstO N vs (α 1)], fun α _ => .ok (.ret (.ref (α 0))), 900⟩
theorem vLT (P : Params) (t : Addr) (vs : List Value) (hz : vs.length ≤ 100000) : ValidX V (cLT (nmZ P) t vs) := by
  intro ch c κ R g lv k i hR K
  have e0 : (Value.type (nmZ P).list) = .type "list" := by show Value.type SZ.s9222952809800978799x4 = _; rw [sz_list]
  show Gx V ch c κ (.call (.call (.type (nmZ P).list) ⟨[.ref t],[]⟩) none g lv k) _ i
  rw [e0]
  refine gCallWpX fun hp D => ?_
  have hd := (D.nw (t, tupO (nmZ P) vs) (List.mem_append_left _ List.mem_cons_self)).1
  have hd' : hp.get? t = some { cls := .type "tuple", data := .seq ⟨vs⟩ } := by rw [← tup_std]; exact hd
  refine call_list_seq t (.inr rfl) hd' rfl rfl (fun h' c' hk hn => ?_) (by show vs.length ≤ sizeLine; rw [sizeLine_eq]; omega)
  have hnone : V.h₀.get? hp.objs.size = none := by
    cases q : V.h₀.get? hp.objs.size with
    | none => rfl
    | some o' =>
      obtain ⟨o₂, e₂⟩ := D.there q
      exact absurd (Heap.lt_size e₂) (Nat.lt_irrefl _)
  have D1 := D.keeps hk
  have D' : Mm V h' ch (([(t, tupO (nmZ P) vs)] ++ [(hp.objs.size, lstO (nmZ P) vs c')]) ++ R) := by
    have key : Mm V h' ch ((hp.objs.size, lstO (nmZ P) vs c') :: ([(t, tupO (nmZ P) vs)] ++ R)) := by
      refine ⟨D1.keep, D1.tab, fun p hp' => ?_, ?_⟩
      · rcases List.mem_cons.mp hp' with rfl | hp'
        · exact ⟨by rw [lst_std]; exact hn, hnone⟩
        · exact D1.nw p hp'
      · rw [List.map_cons, List.nodup_cons]
        refine ⟨fun hm => ?_, D1.nd⟩
        obtain ⟨⟨b', ob⟩, hp2, hb⟩ := List.mem_map.mp hm
        have hlt := Heap.lt_size (D.nw _ hp2).1
        rw [hb] at hlt
        exact absurd hlt (Nat.lt_irrefl _)
    refine key.perm ?_
    rw [List.append_assoc]
    exact List.perm_middle.symm
  exact K (fun j => if j = 0 then hp.objs.size else if j = 1 then c' else 0) (fun j hj => by have : 2 ≤ j := hj; rw [if_neg (by omega), if_neg (by omega)]) h' D'
noncomputable def cFx (N : Nm) (a : Addr) (b0 b1 b2 : UInt64) (t0 t1 t2 : Tok) (n : Nat) (x : UInt64) (t : Tok) (j : Nat) : Con := lookC (calB "list.index" [.ref a, .float x t]) [(a, lstO N [.float b0 t0, .float b1 t1, .float b2 t2] n)] (fun u => .int (Int.ofNat j) u) 900
noncomputable def fNe (y x : UInt64) : Bool := !(y == x) && !(Float64.cmp y x == some Ordering.eq)
theorem eqAt_of {A : Around} {s : Shared} {y x : UInt64} {u t : Tok} {e : Bool} (h : (y = x ∧ u = t ∧ e = true) ∨ (fNe y x = true ∧ u ≠ 0 ∧ t ≠ 0 ∧ u ≠ t ∧ e = false)) : PySem.SeqAt.EqAt A s (.float y u) (.float x t) e := by
  rcases h with ⟨rfl, rfl, rfl⟩ | ⟨h1, h2, h3, h4, rfl⟩
  · exact eqAt_same _ _
  · unfold fNe at h1
    simp only [Bool.and_eq_true, Bool.not_eq_true'] at h1
    exact eqAt_ne h1.1 h1.2 h2 h3 h4
theorem vFx (P : Params) (a : Addr) (b0 b1 b2 : UInt64) (t0 t1 t2 : Tok) (n : Nat) (x : UInt64) (t : Tok) (j : Nat) (e : Nat → Bool) (hj : j < 3) (hit : e j = true) (hno : ∀ m, m < j → e m = false)
    (h0 : (b0 = x ∧ t0 = t ∧ e 0 = true) ∨ (fNe b0 x = true ∧ t0 ≠ 0 ∧ t ≠ 0 ∧ t0 ≠ t ∧ e 0 = false))
    (h1 : (b1 = x ∧ t1 = t ∧ e 1 = true) ∨ (fNe b1 x = true ∧ t1 ≠ 0 ∧ t ≠ 0 ∧ t1 ≠ t ∧ e 1 = false))
    (h2 : (b2 = x ∧ t2 = t ∧ e 2 = true) ∨ (fNe b2 x = true ∧ t2 ≠ 0 ∧ t ≠ 0 ∧ t2 ≠ t ∧ e 2 = false)) :
    Valid V (cFx (nmZ P) a b0 b1 b2 t0 t1 t2 n x t j) := by
  intro ch c κ R g lv k hR K
  refine gCallWp fun hp i D => ?_
  have hd := list_mem P D (a := a) (xs := [.float b0 t0, .float b1 t1, .float b2 t2]) (n := n) (List.mem_append_left _ List.mem_cons_self)
  have ev : ∀ y u (q : Nat → Bool) m, ((y = x ∧ u = t ∧ q m = true) ∨ (fNe y x = true ∧ u ≠ 0 ∧ t ≠ 0 ∧ u ≠ t ∧ q m = false)) → (match Value.float y u with | .float z _ => z == x | _ => false) = q m := by
    rintro y u q m (⟨rfl, rfl, h⟩ | ⟨h, _, _, _, h'⟩)
    · rw [h]; simp
    · rw [h']
      unfold fNe at h
      simp only [Bool.and_eq_true, Bool.not_eq_true'] at h
      exact h.1
  refine call_meets F.slot_list_index ⟨_, hd, rfl⟩ F.entry_list_index (F.args_list_index_2 _ _) (PySem.SeqAt.list_indexAt a ⟨[.float b0 t0, .float b1 t1, .float b2 t2]⟩ n none #[] (.float x t) (fun v => match v with | .float y _ => y == x | _ => false) j (by show j < 3; exact hj) (by omega) ?_ ?_) ⟨hd, ?_, ?_⟩
  · match j, hj with
    | 0, _ => exact (ev b0 t0 e 0 h0).trans hit
    | 1, _ => exact (ev b1 t1 e 1 h1).trans hit
    | 2, _ => exact (ev b2 t2 e 2 h2).trans hit
  · intro m hm hmj
    match m, (by omega : m < 3) with
    | 0, _ => exact (ev b0 t0 e 0 h0).trans (hno 0 hmj)
    | 1, _ => exact (ev b1 t1 e 1 h1).trans (hno 1 hmj)
    | 2, _ => exact (ev b2 t2 e 2 h2).trans (hno 2 hmj)
  · intro y hy
    have hy' : y ∈ [Value.float b0 t0, .float b1 t1, .float b2 t2] := by simpa using hy
    simp only [List.mem_cons, List.not_mem_nil, or_false] at hy'
    rcases hy' with rfl | rfl | rfl
    · refine eqAt_of ?_; rw [ev b0 t0 e 0 h0]; exact h0
    · refine eqAt_of ?_; rw [ev b1 t1 e 1 h1]; exact h1
    · refine eqAt_of ?_; rw [ev b2 t2 e 2 h2]; exact h2
  · exact K (fun _ => 0) (fun q => if q = 0 then i else 0) (fun _ _ => rfl) (fun q hq => if_neg (by have : 1 ≤ q := hq; omega)) hp (i + 1) (by simpa [cFx, lookC, reput_nil, newL] using D)
end
end Mine
namespace Mine
open PySem PySem.W PySem.W.X PySem.Spec PySem.Calls PyProof.Rows
noncomputable def forC (ss : List Stmt) (it : Addr) (env : Env) : Code := match ss with
  | .For t _ b o _ :: _ => .forLoop t (.ref it) b o env
  | _ => .builtin "" ⟨[],[]⟩
noncomputable def forB (ss : List Stmt) : List Stmt := match ss with
  | .For _ _ b _ _ :: _ => b
  | _ => []
noncomputable def lawEn (F : FuncData) (ad : Nat → Addr) : Env := envOf (entryCode F 138 [(ad 0, default), (ad 1, default), (ad 2, default), (ad 3, default), (ad 4, default), (ad 5, default), (ad 6, default), (ad 7, default), (ad 8, default), (ad 9, default), (ad 10, default), (ad 11, default)])
structure Lw where
  F : FuncData
  ri : String
noncomputable def riZ : String := SZ.s15992201931430999065x14
noncomputable def lwZ (P : Params) : Lw := ⟨lawF P, riZ⟩
noncomputable def rngO (s : String) (next left : Nat) : Obj := { cls := .type s, data := .fields ⟨[.int (Int.ofNat next) 0, .int (Int.ofNat left) 0, .int 1 0]⟩ }
noncomputable def sX : List Nat := [120]
noncomputable def sY : List Nat := [121]
noncomputable def sPaint : List Nat := [112,97,105,110,116]
noncomputable def sMade : List Nat := [109,97,100,101]
noncomputable def th3 (x y : Nat) : Nat := (6 - x - y) % 3
noncomputable def mk3 (k : Nat) : Nat := th3 (k / 3) (k % 3)
noncomputable def gvL (L : Nat → Nat) (tk : Nat → Tok) (gt : Nat → Tok) : Nat → List (List Nat × Tok × Value)
  | 0 => []
  | k + 1 => gvL L tk gt k ++ [([L (k / 3), L (k % 3)], gt k, ch1 (L (mk3 k)) (tk (1 + mk3 k)))]
noncomputable def prL (L : Nat → Nat) (pt : Nat → Tok) : Nat → List Value
  | 0 => []
  | k + 1 => prL L pt k ++ [.str ⟨⟨[L (k / 3), L (k % 3), 10]⟩⟩ (pt (2 * k)), .str ⟨⟨[L (mk3 k), 9]⟩⟩ (pt (2 * k + 1))]
noncomputable def es18s (K : Kn) (q : Nat → Nat) (xv : Nat) (k : Nat) : List (List Nat × Tok × Value) :=
  [(sLights, K.tk 22, .ref (K.ad 18)), (sHues, K.tk 23, .ref (K.ad 19)), (sSeen, K.tk 24, .ref (K.ad 20)), (sPairs, K.tk 25, .ref (q 0)), (sX, q 1, .int (Int.ofNat xv) (q 2))] ++ (match k with
    | 0 => []
    | k + 1 => [(sY, q 3, .int (Int.ofNat (k % 3)) (q 4)), (sPaint, q 5, .ref (q 6)), (sMade, q 7, ch1 (K.L (mk3 k)) (K.tk (1 + mk3 k)))])
noncomputable def ne18 (k : Nat) : Nat := match k with
  | 0 => 11
  | _ + 1 => 14
noncomputable def gt18 (q : Nat → Nat) : Nat → Tok := fun j => q (20 + j)
noncomputable def pt18 (q : Nat → Nat) : Nat → Tok := fun j => q (40 + j)
noncomputable def l18b (Q : Fx) (K : Kn) (q : Nat → Nat) (xv k : Nat) : Lst :=
  [(K.ad 0, frmO Q.N (fr13 K.ad K.tk K.L K.X K.TR ++ es18s K q xv k) (ne18 k)), (K.ad 3, celO Q.N (some (.ref (K.ad 12)))), (K.ad 7, celO Q.N (some (.ref (K.ad 24)))), (K.ad 12, lettersO Q.N K.L K.tk)] ++ (hsO Q K ++ [(K.ad 24, dctO Q.N (gvL K.L K.tk (gt18 q) k) k)])
noncomputable def prO (Q : Fx) (K : Kn) (q : Nat → Nat) (k : Nat) : Addr × Obj := (q 0, lstO Q.N (prL K.L (pt18 q) k) 0)
noncomputable def l18i (Q : Fx) (W : Lw) (K : Kn) (it : Addr) (q : Nat → Nat) (xv k y : Nat) : Lst :=
  l18b Q K q xv k ++ (match y with
    | 0 => [prO Q K q k, (it, rngO W.ri 0 3)]
    | y + 1 => [(it, rngO W.ri (y + 1) (2 - y)), prO Q K q k])
noncomputable def fl2 (W : Lw) (K : Kn) (it : Addr) : Code := forC (forB (dropS 18 (bodyOf W.F))) it (lawEn W.F K.ad)
noncomputable def fl1 (W : Lw) (K : Kn) (it : Addr) : Code := forC (dropS 18 (bodyOf W.F)) it (lawEn W.F K.ad)
end Mine
namespace Mine
open PySem PySem.W PySem.W.X PySem.Spec PySem.Calls PyProof.Rows
noncomputable def Dist (L : Nat → Nat) : Prop := L 0 ≠ L 1 ∧ L 0 ≠ L 2 ∧ L 1 ≠ L 2
theorem gvL_ne (L : Nat → Nat) (tk gt : Nat → Tok) (k : Nat) : ∀ e ∈ gvL L tk gt k, e.1 ≠ [] := by
  induction k with
  | zero => intro e h; cases h
  | succ k ih =>
    intro e h
    rcases List.mem_append.mp h with h | h
    · exact ih e h
    · simp only [List.mem_singleton] at h
      rw [h]; simp
theorem gvL_len (L : Nat → Nat) (tk gt : Nat → Tok) (k : Nat) : (gvL L tk gt k).length = k := by
  induction k with
  | zero => rfl
  | succ k ih => simp [gvL, ih]
theorem gvL_sz (L : Nat → Nat) (tk gt : Nat → Tok) (k : Nat) (h : k < 10) : (gvL L tk gt k).length ≤ 100000 := by rw [gvL_len]; omega
theorem lk_app (es es' : List (List Nat × Tok × Value)) (k : List Nat) (h : lk es k = none) : lk (es ++ es') k = lk es' k := by
  induction es with
  | nil => rfl
  | cons e es ih =>
    unfold lk at h
    show (if e.1 = k then some e.2.2 else lk (es ++ es') k) = _
    split at h
    · cases h
    · rename_i hne
      rw [if_neg hne, ih h]
theorem lk_hit (es es' : List (List Nat × Tok × Value)) (k : List Nat) {v : Value} (h : lk es k = some v) : lk (es ++ es') k = some v := by
  induction es with
  | nil => cases h
  | cons e es ih =>
    unfold lk at h
    show (if e.1 = k then some e.2.2 else lk (es ++ es') k) = _
    split at h
    · rename_i he; rw [if_pos he]; exact h
    · rename_i hne
      rw [if_neg hne, ih h]
theorem Dist.inj {L : Nat → Nat} (h : Dist L) {a b : Nat} (ha : a < 3) (hb : b < 3) (e : L a = L b) : a = b := by
  obtain ⟨h1, h2, h3⟩ := h
  match a, ha, b, hb with
  | 0, _, 0, _ => rfl
  | 0, _, 1, _ => exact absurd e h1
  | 0, _, 2, _ => exact absurd e h2
  | 1, _, 0, _ => exact absurd e.symm h1
  | 1, _, 1, _ => rfl
  | 1, _, 2, _ => exact absurd e h3
  | 2, _, 0, _ => exact absurd e.symm h2
  | 2, _, 1, _ => exact absurd e.symm h3
  | 2, _, 2, _ => rfl
theorem gvL_none {L : Nat → Nat} (hD : Dist L) (tk gt : Nat → Tok) (k x y : Nat) (hx : x < 3) (hy : y < 3) (hk : k ≤ 3 * x + y) (h9 : k ≤ 9) : lk (gvL L tk gt k) [L x, L y] = none := by
  induction k with
  | zero => rfl
  | succ k ih =>
    rw [gvL, lk_app _ _ _ (ih (by omega) (by omega))]
    show (if [L (k / 3), L (k % 3)] = [L x, L y] then _ else none) = none
    rw [if_neg]
    intro e
    simp only [List.cons.injEq, and_true] at e
    have e1 := hD.inj (by omega) hx e.1
    have e2 := hD.inj (by omega) hy e.2
    omega
theorem gvL_lk {L : Nat → Nat} (hD : Dist L) (tk gt : Nat → Tok) (k : Nat) (h : k < 9) : lk (gvL L tk gt k) [L (k / 3), L (k % 3)] = none := gvL_none hD tk gt k (k / 3) (k % 3) (by omega) (by omega) (by omega) (by omega)
theorem Inc.nz {w : Ora} (h : Inc w) {a : Nat} (ha : a ≠ 0) : w.t a ≠ 0 := by
  obtain ⟨i, hi⟩ := h
  rw [hi]
  intro e
  exact ha (Nat.eq_zero_of_add_eq_zero_left e)
theorem Inc.ne {w : Ora} (h : Inc w) {a b : Nat} (hab : a ≠ b) : w.t a ≠ w.t b := by
  obtain ⟨i, hi⟩ := h
  rw [hi, hi]
  intro e
  exact hab (Nat.add_left_cancel e)
theorem beq_lt {m j : Nat} (h : m < j) : Nat.beq m j = false := by
  cases q : Nat.beq m j with
  | false => rfl
  | true => have := Nat.eq_of_beq_eq_true q; omega
theorem perm3 {α : Type} (A R : List α) (a b c : α) : ((A ++ [a, b, c]) ++ R).Perm ((A ++ [b, c]) ++ (a :: R)) := by
  rw [List.append_assoc, List.append_assoc]
  refine List.Perm.append_left A ?_
  show (a :: b :: c :: R).Perm (b :: c :: a :: R)
  exact (List.Perm.swap b a _).trans (List.Perm.cons b (List.Perm.swap c a _))
theorem perm3b {α : Type} (A R : List α) (a b c : α) : ((A ++ [b, a, c]) ++ R).Perm ((A ++ [b, c]) ++ (a :: R)) := by
  rw [List.append_assoc, List.append_assoc]
  refine List.Perm.append_left A ?_
  show (b :: a :: c :: R).Perm (b :: c :: a :: R)
  exact List.Perm.cons b (List.Perm.swap c a _)
section
variable {V : XV} {P : Params} {b : Bool} {scr : Obj}
noncomputable def G18 (V : XV) (P : Params) (ch : Ch) (κ : Kont) (K : Kn) (it : Addr) (q : Nat → Nat) (x k y : Nat) (R : Lst) : Prop :=
  G V ch (fl2 (lwZ P) K it) κ (dn (fl2 (lwZ P) K it)) (l18i (fxZ P) (lwZ P) K it q x k y ++ R)
theorem i18_0 (O : VO V P b scr) {κ : Kont} (hR : Rm V κ 600) (ch : Ch) (K : Kn) (hD : Dist K.L) (it : Addr) (q : Nat → Nat) (R : Lst) (H : ∀ a, G18 V P ch κ K it (ovr q a) 0 1 1 (prO (fxZ P) K q 0 :: R)) : G18 V P ch κ K it q 0 0 0 R :=
  segX O hR 576 (hsD 204 1169661252811112188916549384423863122556058425923587537447115660702327940660921692549306980032176306364216993555615323297894047451306531049355034943177648405239843813565437667947231865333051113205880448636122749578395053208949863879419620553676422482568399667583243121346511670926734600699485739637796609159040942317950443548148673018242568953634762176767361747766289746272201596200267859441736063492761247580058809881450703422988) [(38, ups [16], fun w => ⟨_, (vLT P (w.a 4) [.float 4607182418800017408 (w.t 14), .float 0 (w.t 38), .float 0 (w.t 18)] (by simp)).valid⟩)] (fun x hx w => by simp only [List.mem_singleton] at hx; subst hx; exact vLT P (w.a 4) [.float 4607182418800017408 (w.t 14), .float 0 (w.t 38), .float 0 (w.t 18)] (by simp))
    (fun w => calB "list.index" [.ref (w.a 5), .float 4607182418800017408 (w.t 14)]) (fun w => [(w.a 5, lstO (nmZ P) [.float 4607182418800017408 (w.t 14), .float 0 (w.t 38), .float 0 (w.t 18)] (w.a 6))]) (fun w u => .int (Int.ofNat 0) u) 900 (ups [17])
    (fun w hw => vFx P (w.a 5) 4607182418800017408 0 0 (w.t 14) (w.t 38) (w.t 18) (w.a 6) 4607182418800017408 (w.t 14) 0 (fun m => Nat.beq m 0) (by decide) rfl (fun m hm => beq_lt hm) (.inl ⟨rfl, rfl, rfl⟩) (.inr ⟨by decide +kernel, hw.nz (by decide), hw.nz (by decide), hw.ne (by decide), rfl⟩) (.inr ⟨by decide +kernel, hw.nz (by decide), hw.nz (by decide), hw.ne (by decide), rfl⟩))
    (fun w => by kernel_rfl) 101 (hsD 40 15317058476670388092794187809493432118248426385633266797477857535005719226560348676)
    (fun w1 u => [(0, ups [3], fun w => ⟨_, vLet (P := P) (K.ad 12) K.L K.tk 0 u (by decide)⟩), (0, ups [3], fun w => ⟨_, vLet (P := P) (K.ad 12) K.L K.tk 0 (q 2) (by decide)⟩), (0, ups [3], fun w => ⟨_, vLet (P := P) (K.ad 12) K.L K.tk 0 (w1.t 0) (by decide)⟩), (0, ups [], fun w => ⟨_, vAdd [K.L 0] (K.tk 1) [K.L 0] (K.tk 1) (by simp)⟩), (0, ups [9], fun w => ⟨_, vSet O (K.ad 24) (gvL K.L K.tk (gt18 q) 0) 0 [K.L 0, K.L 0] (w.t 1) (ch1 (K.L 0) (K.tk 1)) (by simp) (gvL_ne _ _ _ _) (gvL_sz _ _ _ _ (by decide)) (gvL_lk hD _ _ 0 (by decide))⟩), (0, ups [3], fun w => ⟨_, vLet (P := P) (K.ad 12) K.L K.tk 0 (q 2) (by decide)⟩), (0, ups [3], fun w => ⟨_, vLet (P := P) (K.ad 12) K.L K.tk 0 (w1.t 0) (by decide)⟩), (0, ups [], fun w => ⟨_, vAdd [K.L 0] (K.tk 1) [K.L 0] (K.tk 1) (by simp)⟩), (0, ups [], fun w => ⟨_, vAdd [K.L 0, K.L 0] (w.t 2) [10] (w.t 3) (by simp)⟩), (0, ups [], fun w => ⟨_, vAdd [K.L 0] (K.tk 1) [9] (w.t 5) (by simp)⟩)]) (ups [0,0,0,0,0,0,0,0,0,0,0,0,11])
    (c' := fun w1 u w2 => fl2 (lwZ P) K it) (t' := fun w1 u w2 => dn (fl2 (lwZ P) K it)) (l' := fun w1 u w2 => l18b (fxZ P) K (ovr q [(0, w2.a 1), (3, w1.t 1), (4, w1.t 0), (5, w1.t 47), (6, w1.a 5), (7, w2.t 0), (20, w2.t 1), (40, w2.t 4), (41, w2.t 6)]) 0 1 ++ [prO (fxZ P) K q 0, (it, rngO riZ 1 2), prO (fxZ P) K (ovr q [(0, w2.a 1), (3, w1.t 1), (4, w1.t 0), (5, w1.t 47), (6, w1.a 5), (7, w2.t 0), (20, w2.t 1), (40, w2.t 4), (41, w2.t 6)]) 1]) (ch' := fun _ _ _ => ch)
    (fun w1 u w2 => by kernel_rfl) (fun w1 u w2 => G.perm (perm3 ..) (H _))
theorem i18_1 (O : VO V P b scr) {κ : Kont} (hR : Rm V κ 600) (ch : Ch) (K : Kn) (hD : Dist K.L) (it : Addr) (q : Nat → Nat) (R : Lst) (H : ∀ a, G18 V P ch κ K it (ovr q a) 0 2 2 (prO (fxZ P) K q 1 :: R)) : G18 V P ch κ K it q 0 1 1 R :=
  segX O hR 579 (hsD 207 2452957435655329549210719380984400414473835069131832312517669486868759855385846691275734571366214973380174650936509406344749837299490235372454320262888524704713045450087914928980544599987727220258655699724005213967650837306698088036967874755246161559968619797171594782741027268920860166422097002770601581206696912354769618280867874118799383308624567760692972744961136151293793770325961305854445365250719574666234729047622049578621257099) [(38, ups [16], fun w => ⟨_, (vLT P (w.a 4) [.float 0 (w.t 31), .float 0 (w.t 18), .float 4607182418800017408 (w.t 14)] (by simp)).valid⟩)] (fun x hx w => by simp only [List.mem_singleton] at hx; subst hx; exact vLT P (w.a 4) [.float 0 (w.t 31), .float 0 (w.t 18), .float 4607182418800017408 (w.t 14)] (by simp))
    (fun w => calB "list.index" [.ref (w.a 5), .float 4607182418800017408 (w.t 14)]) (fun w => [(w.a 5, lstO (nmZ P) [.float 0 (w.t 31), .float 0 (w.t 18), .float 4607182418800017408 (w.t 14)] (w.a 6))]) (fun w u => .int (Int.ofNat 2) u) 900 (ups [17])
    (fun w hw => vFx P (w.a 5) 0 0 4607182418800017408 (w.t 31) (w.t 18) (w.t 14) (w.a 6) 4607182418800017408 (w.t 14) 2 (fun m => Nat.beq m 2) (by decide) rfl (fun m hm => beq_lt hm) (.inr ⟨by decide +kernel, hw.nz (by decide), hw.nz (by decide), hw.ne (by decide), rfl⟩) (.inr ⟨by decide +kernel, hw.nz (by decide), hw.nz (by decide), hw.ne (by decide), rfl⟩) (.inl ⟨rfl, rfl, rfl⟩))
    (fun w => by kernel_rfl) 101 (hsD 40 15317065714121128275048976484083910310195590724031269566508290735010925042187960836)
    (fun w1 u => [(0, ups [3], fun w => ⟨_, vLet (P := P) (K.ad 12) K.L K.tk 2 u (by decide)⟩), (0, ups [3], fun w => ⟨_, vLet (P := P) (K.ad 12) K.L K.tk 0 (q 2) (by decide)⟩), (0, ups [3], fun w => ⟨_, vLet (P := P) (K.ad 12) K.L K.tk 1 (w1.t 0) (by decide)⟩), (0, ups [], fun w => ⟨_, vAdd [K.L 0] (K.tk 1) [K.L 1] (K.tk 2) (by simp)⟩), (0, ups [9], fun w => ⟨_, vSet O (K.ad 24) (gvL K.L K.tk (gt18 q) 1) 1 [K.L 0, K.L 1] (w.t 1) (ch1 (K.L 2) (K.tk 3)) (by simp) (gvL_ne _ _ _ _) (gvL_sz _ _ _ _ (by decide)) (gvL_lk hD _ _ 1 (by decide))⟩), (0, ups [3], fun w => ⟨_, vLet (P := P) (K.ad 12) K.L K.tk 0 (q 2) (by decide)⟩), (0, ups [3], fun w => ⟨_, vLet (P := P) (K.ad 12) K.L K.tk 1 (w1.t 0) (by decide)⟩), (0, ups [], fun w => ⟨_, vAdd [K.L 0] (K.tk 1) [K.L 1] (K.tk 2) (by simp)⟩), (0, ups [], fun w => ⟨_, vAdd [K.L 0, K.L 1] (w.t 2) [10] (w.t 3) (by simp)⟩), (0, ups [], fun w => ⟨_, vAdd [K.L 2] (K.tk 3) [9] (w.t 5) (by simp)⟩)]) (ups [0,0,0,0,0,0,0,0,0,0,0,0,11])
    (c' := fun w1 u w2 => fl2 (lwZ P) K it) (t' := fun w1 u w2 => dn (fl2 (lwZ P) K it)) (l' := fun w1 u w2 => l18b (fxZ P) K (ovr q [(0, w2.a 1), (4, w1.t 0), (6, w1.a 5), (21, w2.t 1), (42, w2.t 4), (43, w2.t 6)]) 0 2 ++ [(it, rngO riZ 2 1), prO (fxZ P) K q 1, prO (fxZ P) K (ovr q [(0, w2.a 1), (4, w1.t 0), (6, w1.a 5), (21, w2.t 1), (42, w2.t 4), (43, w2.t 6)]) 2]) (ch' := fun _ _ _ => ch)
    (fun w1 u w2 => by kernel_rfl) (fun w1 u w2 => G.perm (perm3b ..) (H _))
theorem i18_2 (O : VO V P b scr) {κ : Kont} (hR : Rm V κ 600) (ch : Ch) (K : Kn) (hD : Dist K.L) (it : Addr) (q : Nat → Nat) (R : Lst) (H : ∀ a, G18 V P ch κ K it (ovr q a) 0 3 3 (prO (fxZ P) K q 2 :: R)) : G18 V P ch κ K it q 0 2 2 R :=
  segX O hR 579 (hsD 207 2452957435655329549210719374643273395194683128043318687287335976450410624041462220189435529270958522484464570597235300627750318554852622348435172019746562470056770764382069223768257517321777213597868989278585052169026068135824374990921203252901544911493458816164553660192824242474237292898402135596279521545815893444010564499465117859535330155860669286836677714486782133517064438293935271435619621865985425716080614368291981886973199755) [(38, ups [16], fun w => ⟨_, (vLT P (w.a 4) [.float 0 (w.t 18), .float 4607182418800017408 (w.t 14), .float 0 (w.t 46)] (by simp)).valid⟩)] (fun x hx w => by simp only [List.mem_singleton] at hx; subst hx; exact vLT P (w.a 4) [.float 0 (w.t 18), .float 4607182418800017408 (w.t 14), .float 0 (w.t 46)] (by simp))
    (fun w => calB "list.index" [.ref (w.a 5), .float 4607182418800017408 (w.t 14)]) (fun w => [(w.a 5, lstO (nmZ P) [.float 0 (w.t 18), .float 4607182418800017408 (w.t 14), .float 0 (w.t 46)] (w.a 6))]) (fun w u => .int (Int.ofNat 1) u) 900 (ups [17])
    (fun w hw => vFx P (w.a 5) 0 4607182418800017408 0 (w.t 18) (w.t 14) (w.t 46) (w.a 6) 4607182418800017408 (w.t 14) 1 (fun m => Nat.beq m 1) (by decide) rfl (fun m hm => beq_lt hm) (.inr ⟨by decide +kernel, hw.nz (by decide), hw.nz (by decide), hw.ne (by decide), rfl⟩) (.inl ⟨rfl, rfl, rfl⟩) (.inr ⟨by decide +kernel, hw.nz (by decide), hw.nz (by decide), hw.ne (by decide), rfl⟩))
    (fun w => by kernel_rfl) 101 (hsD 40 15317065714121128275048976484083910310195590724031269566508290735010925042187960836)
    (fun w1 u => [(0, ups [3], fun w => ⟨_, vLet (P := P) (K.ad 12) K.L K.tk 1 u (by decide)⟩), (0, ups [3], fun w => ⟨_, vLet (P := P) (K.ad 12) K.L K.tk 0 (q 2) (by decide)⟩), (0, ups [3], fun w => ⟨_, vLet (P := P) (K.ad 12) K.L K.tk 2 (w1.t 0) (by decide)⟩), (0, ups [], fun w => ⟨_, vAdd [K.L 0] (K.tk 1) [K.L 2] (K.tk 3) (by simp)⟩), (0, ups [9], fun w => ⟨_, vSet O (K.ad 24) (gvL K.L K.tk (gt18 q) 2) 2 [K.L 0, K.L 2] (w.t 1) (ch1 (K.L 1) (K.tk 2)) (by simp) (gvL_ne _ _ _ _) (gvL_sz _ _ _ _ (by decide)) (gvL_lk hD _ _ 2 (by decide))⟩), (0, ups [3], fun w => ⟨_, vLet (P := P) (K.ad 12) K.L K.tk 0 (q 2) (by decide)⟩), (0, ups [3], fun w => ⟨_, vLet (P := P) (K.ad 12) K.L K.tk 2 (w1.t 0) (by decide)⟩), (0, ups [], fun w => ⟨_, vAdd [K.L 0] (K.tk 1) [K.L 2] (K.tk 3) (by simp)⟩), (0, ups [], fun w => ⟨_, vAdd [K.L 0, K.L 2] (w.t 2) [10] (w.t 3) (by simp)⟩), (0, ups [], fun w => ⟨_, vAdd [K.L 1] (K.tk 2) [9] (w.t 5) (by simp)⟩)]) (ups [0,0,0,0,0,0,0,0,0,0,0,0,11])
    (c' := fun w1 u w2 => fl2 (lwZ P) K it) (t' := fun w1 u w2 => dn (fl2 (lwZ P) K it)) (l' := fun w1 u w2 => l18b (fxZ P) K (ovr q [(0, w2.a 1), (4, w1.t 0), (6, w1.a 5), (22, w2.t 1), (44, w2.t 4), (45, w2.t 6)]) 0 3 ++ [(it, rngO riZ 3 0), prO (fxZ P) K q 2, prO (fxZ P) K (ovr q [(0, w2.a 1), (4, w1.t 0), (6, w1.a 5), (22, w2.t 1), (44, w2.t 4), (45, w2.t 6)]) 3]) (ch' := fun _ _ _ => ch)
    (fun w1 u w2 => by kernel_rfl) (fun w1 u w2 => G.perm (perm3b ..) (H _))
theorem i18_3 (O : VO V P b scr) {κ : Kont} (hR : Rm V κ 600) (ch : Ch) (K : Kn) (hD : Dist K.L) (it : Addr) (q : Nat → Nat) (R : Lst) (H : ∀ a, G18 V P ch κ K it (ovr q a) 1 4 1 (prO (fxZ P) K q 3 :: R)) : G18 V P ch κ K it q 1 3 0 R :=
  segX O hR 579 (hsD 207 2452957435655329549210719380984400414473835069131832312517669486868759855385846691275734571366214973380174650936509406344749837299490235372454320262888524704713045450087914928980544599987727220258655699724005213967650837306698088036967874755246161559968619797171594782741027268920860166422097002770601581206696912354759451942765465633653685841529253830628390109633614076227770057493691459211469488149570006800336877235052952826251773452) [(38, ups [16], fun w => ⟨_, (vLT P (w.a 4) [.float 0 (w.t 31), .float 0 (w.t 18), .float 4607182418800017408 (w.t 14)] (by simp)).valid⟩)] (fun x hx w => by simp only [List.mem_singleton] at hx; subst hx; exact vLT P (w.a 4) [.float 0 (w.t 31), .float 0 (w.t 18), .float 4607182418800017408 (w.t 14)] (by simp))
    (fun w => calB "list.index" [.ref (w.a 5), .float 4607182418800017408 (w.t 14)]) (fun w => [(w.a 5, lstO (nmZ P) [.float 0 (w.t 31), .float 0 (w.t 18), .float 4607182418800017408 (w.t 14)] (w.a 6))]) (fun w u => .int (Int.ofNat 2) u) 900 (ups [17])
    (fun w hw => vFx P (w.a 5) 0 0 4607182418800017408 (w.t 31) (w.t 18) (w.t 14) (w.a 6) 4607182418800017408 (w.t 14) 2 (fun m => Nat.beq m 2) (by decide) rfl (fun m hm => beq_lt hm) (.inr ⟨by decide +kernel, hw.nz (by decide), hw.nz (by decide), hw.ne (by decide), rfl⟩) (.inr ⟨by decide +kernel, hw.nz (by decide), hw.nz (by decide), hw.ne (by decide), rfl⟩) (.inl ⟨rfl, rfl, rfl⟩))
    (fun w => by kernel_rfl) 101 (hsD 40 15317058476670388092794187809493432118248426385633266797477857535005719226560348676)
    (fun w1 u => [(0, ups [3], fun w => ⟨_, vLet (P := P) (K.ad 12) K.L K.tk 2 u (by decide)⟩), (0, ups [3], fun w => ⟨_, vLet (P := P) (K.ad 12) K.L K.tk 1 (q 2) (by decide)⟩), (0, ups [3], fun w => ⟨_, vLet (P := P) (K.ad 12) K.L K.tk 0 (w1.t 0) (by decide)⟩), (0, ups [], fun w => ⟨_, vAdd [K.L 1] (K.tk 2) [K.L 0] (K.tk 1) (by simp)⟩), (0, ups [9], fun w => ⟨_, vSet O (K.ad 24) (gvL K.L K.tk (gt18 q) 3) 3 [K.L 1, K.L 0] (w.t 1) (ch1 (K.L 2) (K.tk 3)) (by simp) (gvL_ne _ _ _ _) (gvL_sz _ _ _ _ (by decide)) (gvL_lk hD _ _ 3 (by decide))⟩), (0, ups [3], fun w => ⟨_, vLet (P := P) (K.ad 12) K.L K.tk 1 (q 2) (by decide)⟩), (0, ups [3], fun w => ⟨_, vLet (P := P) (K.ad 12) K.L K.tk 0 (w1.t 0) (by decide)⟩), (0, ups [], fun w => ⟨_, vAdd [K.L 1] (K.tk 2) [K.L 0] (K.tk 1) (by simp)⟩), (0, ups [], fun w => ⟨_, vAdd [K.L 1, K.L 0] (w.t 2) [10] (w.t 3) (by simp)⟩), (0, ups [], fun w => ⟨_, vAdd [K.L 2] (K.tk 3) [9] (w.t 5) (by simp)⟩)]) (ups [0,0,0,0,0,0,0,0,0,0,0,0,11])
    (c' := fun w1 u w2 => fl2 (lwZ P) K it) (t' := fun w1 u w2 => dn (fl2 (lwZ P) K it)) (l' := fun w1 u w2 => l18b (fxZ P) K (ovr q [(0, w2.a 1), (4, w1.t 0), (6, w1.a 5), (23, w2.t 1), (46, w2.t 4), (47, w2.t 6)]) 1 4 ++ [prO (fxZ P) K q 3, (it, rngO riZ 1 2), prO (fxZ P) K (ovr q [(0, w2.a 1), (4, w1.t 0), (6, w1.a 5), (23, w2.t 1), (46, w2.t 4), (47, w2.t 6)]) 4]) (ch' := fun _ _ _ => ch)
    (fun w1 u w2 => by kernel_rfl) (fun w1 u w2 => G.perm (perm3 ..) (H _))
theorem i18_4 (O : VO V P b scr) {κ : Kont} (hR : Rm V κ 600) (ch : Ch) (K : Kn) (hD : Dist K.L) (it : Addr) (q : Nat → Nat) (R : Lst) (H : ∀ a, G18 V P ch κ K it (ovr q a) 1 5 2 (prO (fxZ P) K q 4 :: R)) : G18 V P ch κ K it q 1 4 1 R :=
  segX O hR 579 (hsD 207 2452957435655329549210719374643273395194683128043318687287335976450410624041462220189435529270958522484464570597235300627750318554852622348435172019746562470056770764382069223768257517321777213597868989278585052169026068135824374990921203252901544911493458816164553660192824242474237292898402135596279521545815893444000398161362709374389632688765355356772095079159260058451040725461665424792643744764835857850182762555650260157935568267) [(38, ups [16], fun w => ⟨_, (vLT P (w.a 4) [.float 0 (w.t 18), .float 4607182418800017408 (w.t 14), .float 0 (w.t 46)] (by simp)).valid⟩)] (fun x hx w => by simp only [List.mem_singleton] at hx; subst hx; exact vLT P (w.a 4) [.float 0 (w.t 18), .float 4607182418800017408 (w.t 14), .float 0 (w.t 46)] (by simp))
    (fun w => calB "list.index" [.ref (w.a 5), .float 4607182418800017408 (w.t 14)]) (fun w => [(w.a 5, lstO (nmZ P) [.float 0 (w.t 18), .float 4607182418800017408 (w.t 14), .float 0 (w.t 46)] (w.a 6))]) (fun w u => .int (Int.ofNat 1) u) 900 (ups [17])
    (fun w hw => vFx P (w.a 5) 0 4607182418800017408 0 (w.t 18) (w.t 14) (w.t 46) (w.a 6) 4607182418800017408 (w.t 14) 1 (fun m => Nat.beq m 1) (by decide) rfl (fun m hm => beq_lt hm) (.inr ⟨by decide +kernel, hw.nz (by decide), hw.nz (by decide), hw.ne (by decide), rfl⟩) (.inl ⟨rfl, rfl, rfl⟩) (.inr ⟨by decide +kernel, hw.nz (by decide), hw.nz (by decide), hw.ne (by decide), rfl⟩))
    (fun w => by kernel_rfl) 101 (hsD 40 15317065714121128275048976484083910310195590724031269566508290735010925042187960836)
    (fun w1 u => [(0, ups [3], fun w => ⟨_, vLet (P := P) (K.ad 12) K.L K.tk 1 u (by decide)⟩), (0, ups [3], fun w => ⟨_, vLet (P := P) (K.ad 12) K.L K.tk 1 (q 2) (by decide)⟩), (0, ups [3], fun w => ⟨_, vLet (P := P) (K.ad 12) K.L K.tk 1 (w1.t 0) (by decide)⟩), (0, ups [], fun w => ⟨_, vAdd [K.L 1] (K.tk 2) [K.L 1] (K.tk 2) (by simp)⟩), (0, ups [9], fun w => ⟨_, vSet O (K.ad 24) (gvL K.L K.tk (gt18 q) 4) 4 [K.L 1, K.L 1] (w.t 1) (ch1 (K.L 1) (K.tk 2)) (by simp) (gvL_ne _ _ _ _) (gvL_sz _ _ _ _ (by decide)) (gvL_lk hD _ _ 4 (by decide))⟩), (0, ups [3], fun w => ⟨_, vLet (P := P) (K.ad 12) K.L K.tk 1 (q 2) (by decide)⟩), (0, ups [3], fun w => ⟨_, vLet (P := P) (K.ad 12) K.L K.tk 1 (w1.t 0) (by decide)⟩), (0, ups [], fun w => ⟨_, vAdd [K.L 1] (K.tk 2) [K.L 1] (K.tk 2) (by simp)⟩), (0, ups [], fun w => ⟨_, vAdd [K.L 1, K.L 1] (w.t 2) [10] (w.t 3) (by simp)⟩), (0, ups [], fun w => ⟨_, vAdd [K.L 1] (K.tk 2) [9] (w.t 5) (by simp)⟩)]) (ups [0,0,0,0,0,0,0,0,0,0,0,0,11])
    (c' := fun w1 u w2 => fl2 (lwZ P) K it) (t' := fun w1 u w2 => dn (fl2 (lwZ P) K it)) (l' := fun w1 u w2 => l18b (fxZ P) K (ovr q [(0, w2.a 1), (4, w1.t 0), (6, w1.a 5), (24, w2.t 1), (48, w2.t 4), (49, w2.t 6)]) 1 5 ++ [(it, rngO riZ 2 1), prO (fxZ P) K q 4, prO (fxZ P) K (ovr q [(0, w2.a 1), (4, w1.t 0), (6, w1.a 5), (24, w2.t 1), (48, w2.t 4), (49, w2.t 6)]) 5]) (ch' := fun _ _ _ => ch)
    (fun w1 u w2 => by kernel_rfl) (fun w1 u w2 => G.perm (perm3b ..) (H _))
theorem i18_5 (O : VO V P b scr) {κ : Kont} (hR : Rm V κ 600) (ch : Ch) (K : Kn) (hD : Dist K.L) (it : Addr) (q : Nat → Nat) (R : Lst) (H : ∀ a, G18 V P ch κ K it (ovr q a) 1 6 3 (prO (fxZ P) K q 5 :: R)) : G18 V P ch κ K it q 1 5 2 R :=
  segX O hR 576 (hsD 204 1169661252811112188916549384423863122556058425923587537447115660702327940660921692549306980032176306364216993555615323297894047451306531049355034943177648405239843813565437667947231865333051113205880448636122749578395053208949863879419620553676422482568399667583243121346511670926734600699485739637796609159040962650626648365118964413176759581494891342038016791916421793697866135893553811195938362628493043283684020699932110538123) [(38, ups [16], fun w => ⟨_, (vLT P (w.a 4) [.float 4607182418800017408 (w.t 14), .float 0 (w.t 38), .float 0 (w.t 18)] (by simp)).valid⟩)] (fun x hx w => by simp only [List.mem_singleton] at hx; subst hx; exact vLT P (w.a 4) [.float 4607182418800017408 (w.t 14), .float 0 (w.t 38), .float 0 (w.t 18)] (by simp))
    (fun w => calB "list.index" [.ref (w.a 5), .float 4607182418800017408 (w.t 14)]) (fun w => [(w.a 5, lstO (nmZ P) [.float 4607182418800017408 (w.t 14), .float 0 (w.t 38), .float 0 (w.t 18)] (w.a 6))]) (fun w u => .int (Int.ofNat 0) u) 900 (ups [17])
    (fun w hw => vFx P (w.a 5) 4607182418800017408 0 0 (w.t 14) (w.t 38) (w.t 18) (w.a 6) 4607182418800017408 (w.t 14) 0 (fun m => Nat.beq m 0) (by decide) rfl (fun m hm => beq_lt hm) (.inl ⟨rfl, rfl, rfl⟩) (.inr ⟨by decide +kernel, hw.nz (by decide), hw.nz (by decide), hw.ne (by decide), rfl⟩) (.inr ⟨by decide +kernel, hw.nz (by decide), hw.nz (by decide), hw.ne (by decide), rfl⟩))
    (fun w => by kernel_rfl) 101 (hsD 40 15317065714121128275048976484083910310195590724031269566508290735010925042187960836)
    (fun w1 u => [(0, ups [3], fun w => ⟨_, vLet (P := P) (K.ad 12) K.L K.tk 0 u (by decide)⟩), (0, ups [3], fun w => ⟨_, vLet (P := P) (K.ad 12) K.L K.tk 1 (q 2) (by decide)⟩), (0, ups [3], fun w => ⟨_, vLet (P := P) (K.ad 12) K.L K.tk 2 (w1.t 0) (by decide)⟩), (0, ups [], fun w => ⟨_, vAdd [K.L 1] (K.tk 2) [K.L 2] (K.tk 3) (by simp)⟩), (0, ups [9], fun w => ⟨_, vSet O (K.ad 24) (gvL K.L K.tk (gt18 q) 5) 5 [K.L 1, K.L 2] (w.t 1) (ch1 (K.L 0) (K.tk 1)) (by simp) (gvL_ne _ _ _ _) (gvL_sz _ _ _ _ (by decide)) (gvL_lk hD _ _ 5 (by decide))⟩), (0, ups [3], fun w => ⟨_, vLet (P := P) (K.ad 12) K.L K.tk 1 (q 2) (by decide)⟩), (0, ups [3], fun w => ⟨_, vLet (P := P) (K.ad 12) K.L K.tk 2 (w1.t 0) (by decide)⟩), (0, ups [], fun w => ⟨_, vAdd [K.L 1] (K.tk 2) [K.L 2] (K.tk 3) (by simp)⟩), (0, ups [], fun w => ⟨_, vAdd [K.L 1, K.L 2] (w.t 2) [10] (w.t 3) (by simp)⟩), (0, ups [], fun w => ⟨_, vAdd [K.L 0] (K.tk 1) [9] (w.t 5) (by simp)⟩)]) (ups [0,0,0,0,0,0,0,0,0,0,0,0,11])
    (c' := fun w1 u w2 => fl2 (lwZ P) K it) (t' := fun w1 u w2 => dn (fl2 (lwZ P) K it)) (l' := fun w1 u w2 => l18b (fxZ P) K (ovr q [(0, w2.a 1), (4, w1.t 0), (6, w1.a 5), (25, w2.t 1), (50, w2.t 4), (51, w2.t 6)]) 1 6 ++ [(it, rngO riZ 3 0), prO (fxZ P) K q 5, prO (fxZ P) K (ovr q [(0, w2.a 1), (4, w1.t 0), (6, w1.a 5), (25, w2.t 1), (50, w2.t 4), (51, w2.t 6)]) 6]) (ch' := fun _ _ _ => ch)
    (fun w1 u w2 => by kernel_rfl) (fun w1 u w2 => G.perm (perm3b ..) (H _))
theorem i18_6 (O : VO V P b scr) {κ : Kont} (hR : Rm V κ 600) (ch : Ch) (K : Kn) (hD : Dist K.L) (it : Addr) (q : Nat → Nat) (R : Lst) (H : ∀ a, G18 V P ch κ K it (ovr q a) 2 7 1 (prO (fxZ P) K q 6 :: R)) : G18 V P ch κ K it q 2 6 0 R :=
  segX O hR 579 (hsD 207 2452957435655329549210719374643273395194683128043318687287335976450410624041462220189435529270958522484464570597235300627750318554852622348435172019746562470056770764382069223768257517321777213597868989278585052169026068135824374990921203252901544911493458816164553660192824242474237292898402135596279521545815893443990231823260300889243935221670041426707512443831737983385017012629395578149667867663686289984284910743081163405566084620) [(38, ups [16], fun w => ⟨_, (vLT P (w.a 4) [.float 0 (w.t 18), .float 4607182418800017408 (w.t 14), .float 0 (w.t 46)] (by simp)).valid⟩)] (fun x hx w => by simp only [List.mem_singleton] at hx; subst hx; exact vLT P (w.a 4) [.float 0 (w.t 18), .float 4607182418800017408 (w.t 14), .float 0 (w.t 46)] (by simp))
    (fun w => calB "list.index" [.ref (w.a 5), .float 4607182418800017408 (w.t 14)]) (fun w => [(w.a 5, lstO (nmZ P) [.float 0 (w.t 18), .float 4607182418800017408 (w.t 14), .float 0 (w.t 46)] (w.a 6))]) (fun w u => .int (Int.ofNat 1) u) 900 (ups [17])
    (fun w hw => vFx P (w.a 5) 0 4607182418800017408 0 (w.t 18) (w.t 14) (w.t 46) (w.a 6) 4607182418800017408 (w.t 14) 1 (fun m => Nat.beq m 1) (by decide) rfl (fun m hm => beq_lt hm) (.inr ⟨by decide +kernel, hw.nz (by decide), hw.nz (by decide), hw.ne (by decide), rfl⟩) (.inl ⟨rfl, rfl, rfl⟩) (.inr ⟨by decide +kernel, hw.nz (by decide), hw.nz (by decide), hw.ne (by decide), rfl⟩))
    (fun w => by kernel_rfl) 101 (hsD 40 15317058476670388092794187809493432118248426385633266797477857535005719226560348676)
    (fun w1 u => [(0, ups [3], fun w => ⟨_, vLet (P := P) (K.ad 12) K.L K.tk 1 u (by decide)⟩), (0, ups [3], fun w => ⟨_, vLet (P := P) (K.ad 12) K.L K.tk 2 (q 2) (by decide)⟩), (0, ups [3], fun w => ⟨_, vLet (P := P) (K.ad 12) K.L K.tk 0 (w1.t 0) (by decide)⟩), (0, ups [], fun w => ⟨_, vAdd [K.L 2] (K.tk 3) [K.L 0] (K.tk 1) (by simp)⟩), (0, ups [9], fun w => ⟨_, vSet O (K.ad 24) (gvL K.L K.tk (gt18 q) 6) 6 [K.L 2, K.L 0] (w.t 1) (ch1 (K.L 1) (K.tk 2)) (by simp) (gvL_ne _ _ _ _) (gvL_sz _ _ _ _ (by decide)) (gvL_lk hD _ _ 6 (by decide))⟩), (0, ups [3], fun w => ⟨_, vLet (P := P) (K.ad 12) K.L K.tk 2 (q 2) (by decide)⟩), (0, ups [3], fun w => ⟨_, vLet (P := P) (K.ad 12) K.L K.tk 0 (w1.t 0) (by decide)⟩), (0, ups [], fun w => ⟨_, vAdd [K.L 2] (K.tk 3) [K.L 0] (K.tk 1) (by simp)⟩), (0, ups [], fun w => ⟨_, vAdd [K.L 2, K.L 0] (w.t 2) [10] (w.t 3) (by simp)⟩), (0, ups [], fun w => ⟨_, vAdd [K.L 1] (K.tk 2) [9] (w.t 5) (by simp)⟩)]) (ups [0,0,0,0,0,0,0,0,0,0,0,0,11])
    (c' := fun w1 u w2 => fl2 (lwZ P) K it) (t' := fun w1 u w2 => dn (fl2 (lwZ P) K it)) (l' := fun w1 u w2 => l18b (fxZ P) K (ovr q [(0, w2.a 1), (4, w1.t 0), (6, w1.a 5), (26, w2.t 1), (52, w2.t 4), (53, w2.t 6)]) 2 7 ++ [prO (fxZ P) K q 6, (it, rngO riZ 1 2), prO (fxZ P) K (ovr q [(0, w2.a 1), (4, w1.t 0), (6, w1.a 5), (26, w2.t 1), (52, w2.t 4), (53, w2.t 6)]) 7]) (ch' := fun _ _ _ => ch)
    (fun w1 u w2 => by kernel_rfl) (fun w1 u w2 => G.perm (perm3 ..) (H _))
theorem i18_7 (O : VO V P b scr) {κ : Kont} (hR : Rm V κ 600) (ch : Ch) (K : Kn) (hD : Dist K.L) (it : Addr) (q : Nat → Nat) (R : Lst) (H : ∀ a, G18 V P ch κ K it (ovr q a) 2 8 2 (prO (fxZ P) K q 7 :: R)) : G18 V P ch κ K it q 2 7 1 R :=
  segX O hR 576 (hsD 204 1169661252811112188916549384423863122556058425923587537447115660702327940660921692549306980032176306364216993555615323297894047451306531049355034943177648405239843813565437667947231865333051113205880448636122749578395053208949863879419620553676422482568399667583243121346511670926734600699485739637796609159040952484288545956633818715709664267564826759402689269841355769985033866046910835318837213060627145431871378978203072906635) [(38, ups [16], fun w => ⟨_, (vLT P (w.a 4) [.float 4607182418800017408 (w.t 14), .float 0 (w.t 38), .float 0 (w.t 18)] (by simp)).valid⟩)] (fun x hx w => by simp only [List.mem_singleton] at hx; subst hx; exact vLT P (w.a 4) [.float 4607182418800017408 (w.t 14), .float 0 (w.t 38), .float 0 (w.t 18)] (by simp))
    (fun w => calB "list.index" [.ref (w.a 5), .float 4607182418800017408 (w.t 14)]) (fun w => [(w.a 5, lstO (nmZ P) [.float 4607182418800017408 (w.t 14), .float 0 (w.t 38), .float 0 (w.t 18)] (w.a 6))]) (fun w u => .int (Int.ofNat 0) u) 900 (ups [17])
    (fun w hw => vFx P (w.a 5) 4607182418800017408 0 0 (w.t 14) (w.t 38) (w.t 18) (w.a 6) 4607182418800017408 (w.t 14) 0 (fun m => Nat.beq m 0) (by decide) rfl (fun m hm => beq_lt hm) (.inl ⟨rfl, rfl, rfl⟩) (.inr ⟨by decide +kernel, hw.nz (by decide), hw.nz (by decide), hw.ne (by decide), rfl⟩) (.inr ⟨by decide +kernel, hw.nz (by decide), hw.nz (by decide), hw.ne (by decide), rfl⟩))
    (fun w => by kernel_rfl) 101 (hsD 40 15317065714121128275048976484083910310195590724031269566508290735010925042187960836)
    (fun w1 u => [(0, ups [3], fun w => ⟨_, vLet (P := P) (K.ad 12) K.L K.tk 0 u (by decide)⟩), (0, ups [3], fun w => ⟨_, vLet (P := P) (K.ad 12) K.L K.tk 2 (q 2) (by decide)⟩), (0, ups [3], fun w => ⟨_, vLet (P := P) (K.ad 12) K.L K.tk 1 (w1.t 0) (by decide)⟩), (0, ups [], fun w => ⟨_, vAdd [K.L 2] (K.tk 3) [K.L 1] (K.tk 2) (by simp)⟩), (0, ups [9], fun w => ⟨_, vSet O (K.ad 24) (gvL K.L K.tk (gt18 q) 7) 7 [K.L 2, K.L 1] (w.t 1) (ch1 (K.L 0) (K.tk 1)) (by simp) (gvL_ne _ _ _ _) (gvL_sz _ _ _ _ (by decide)) (gvL_lk hD _ _ 7 (by decide))⟩), (0, ups [3], fun w => ⟨_, vLet (P := P) (K.ad 12) K.L K.tk 2 (q 2) (by decide)⟩), (0, ups [3], fun w => ⟨_, vLet (P := P) (K.ad 12) K.L K.tk 1 (w1.t 0) (by decide)⟩), (0, ups [], fun w => ⟨_, vAdd [K.L 2] (K.tk 3) [K.L 1] (K.tk 2) (by simp)⟩), (0, ups [], fun w => ⟨_, vAdd [K.L 2, K.L 1] (w.t 2) [10] (w.t 3) (by simp)⟩), (0, ups [], fun w => ⟨_, vAdd [K.L 0] (K.tk 1) [9] (w.t 5) (by simp)⟩)]) (ups [0,0,0,0,0,0,0,0,0,0,0,0,11])
    (c' := fun w1 u w2 => fl2 (lwZ P) K it) (t' := fun w1 u w2 => dn (fl2 (lwZ P) K it)) (l' := fun w1 u w2 => l18b (fxZ P) K (ovr q [(0, w2.a 1), (4, w1.t 0), (6, w1.a 5), (27, w2.t 1), (54, w2.t 4), (55, w2.t 6)]) 2 8 ++ [(it, rngO riZ 2 1), prO (fxZ P) K q 7, prO (fxZ P) K (ovr q [(0, w2.a 1), (4, w1.t 0), (6, w1.a 5), (27, w2.t 1), (54, w2.t 4), (55, w2.t 6)]) 8]) (ch' := fun _ _ _ => ch)
    (fun w1 u w2 => by kernel_rfl) (fun w1 u w2 => G.perm (perm3b ..) (H _))
theorem i18_8 (O : VO V P b scr) {κ : Kont} (hR : Rm V κ 600) (ch : Ch) (K : Kn) (hD : Dist K.L) (it : Addr) (q : Nat → Nat) (R : Lst) (H : ∀ a, G18 V P ch κ K it (ovr q a) 2 9 3 (prO (fxZ P) K q 8 :: R)) : G18 V P ch κ K it q 2 8 2 R :=
  segX O hR 579 (hsD 207 2452957435655329549210719380984400414473835069131832312517669486868759855385846691275734571366214973380174650936509406344749837299490235372454320262888524704713045450087914928980544599987727220258655699724005213967650837306698088036967874755246161559968619797171594782741027268920860166422097002770601581206696912354779784618970282603945080775719881690757555380288658226359817483158231152497421242351869142532132580860263771307658888587) [(38, ups [16], fun w => ⟨_, (vLT P (w.a 4) [.float 0 (w.t 31), .float 0 (w.t 18), .float 4607182418800017408 (w.t 14)] (by simp)).valid⟩)] (fun x hx w => by simp only [List.mem_singleton] at hx; subst hx; exact vLT P (w.a 4) [.float 0 (w.t 31), .float 0 (w.t 18), .float 4607182418800017408 (w.t 14)] (by simp))
    (fun w => calB "list.index" [.ref (w.a 5), .float 4607182418800017408 (w.t 14)]) (fun w => [(w.a 5, lstO (nmZ P) [.float 0 (w.t 31), .float 0 (w.t 18), .float 4607182418800017408 (w.t 14)] (w.a 6))]) (fun w u => .int (Int.ofNat 2) u) 900 (ups [17])
    (fun w hw => vFx P (w.a 5) 0 0 4607182418800017408 (w.t 31) (w.t 18) (w.t 14) (w.a 6) 4607182418800017408 (w.t 14) 2 (fun m => Nat.beq m 2) (by decide) rfl (fun m hm => beq_lt hm) (.inr ⟨by decide +kernel, hw.nz (by decide), hw.nz (by decide), hw.ne (by decide), rfl⟩) (.inr ⟨by decide +kernel, hw.nz (by decide), hw.nz (by decide), hw.ne (by decide), rfl⟩) (.inl ⟨rfl, rfl, rfl⟩))
    (fun w => by kernel_rfl) 101 (hsD 40 15317065714121128275048976484083910310195590724031269566508290735010925042187960836)
    (fun w1 u => [(0, ups [3], fun w => ⟨_, vLet (P := P) (K.ad 12) K.L K.tk 2 u (by decide)⟩), (0, ups [3], fun w => ⟨_, vLet (P := P) (K.ad 12) K.L K.tk 2 (q 2) (by decide)⟩), (0, ups [3], fun w => ⟨_, vLet (P := P) (K.ad 12) K.L K.tk 2 (w1.t 0) (by decide)⟩), (0, ups [], fun w => ⟨_, vAdd [K.L 2] (K.tk 3) [K.L 2] (K.tk 3) (by simp)⟩), (0, ups [9], fun w => ⟨_, vSet O (K.ad 24) (gvL K.L K.tk (gt18 q) 8) 8 [K.L 2, K.L 2] (w.t 1) (ch1 (K.L 2) (K.tk 3)) (by simp) (gvL_ne _ _ _ _) (gvL_sz _ _ _ _ (by decide)) (gvL_lk hD _ _ 8 (by decide))⟩), (0, ups [3], fun w => ⟨_, vLet (P := P) (K.ad 12) K.L K.tk 2 (q 2) (by decide)⟩), (0, ups [3], fun w => ⟨_, vLet (P := P) (K.ad 12) K.L K.tk 2 (w1.t 0) (by decide)⟩), (0, ups [], fun w => ⟨_, vAdd [K.L 2] (K.tk 3) [K.L 2] (K.tk 3) (by simp)⟩), (0, ups [], fun w => ⟨_, vAdd [K.L 2, K.L 2] (w.t 2) [10] (w.t 3) (by simp)⟩), (0, ups [], fun w => ⟨_, vAdd [K.L 2] (K.tk 3) [9] (w.t 5) (by simp)⟩)]) (ups [0,0,0,0,0,0,0,0,0,0,0,0,11])
    (c' := fun w1 u w2 => fl2 (lwZ P) K it) (t' := fun w1 u w2 => dn (fl2 (lwZ P) K it)) (l' := fun w1 u w2 => l18b (fxZ P) K (ovr q [(0, w2.a 1), (4, w1.t 0), (6, w1.a 5), (28, w2.t 1), (56, w2.t 4), (57, w2.t 6)]) 2 9 ++ [(it, rngO riZ 3 0), prO (fxZ P) K q 8, prO (fxZ P) K (ovr q [(0, w2.a 1), (4, w1.t 0), (6, w1.a 5), (28, w2.t 1), (56, w2.t 4), (57, w2.t 6)]) 9]) (ch' := fun _ _ _ => ch)
    (fun w1 u w2 => by kernel_rfl) (fun w1 u w2 => G.perm (perm3b ..) (H _))
end
end Mine
namespace Mine
open PySem PySem.W PySem.W.X PySem.Spec PySem.Calls PyProof.Rows
noncomputable def qE (α : Nat → Addr) (θ : Nat → Tok) : Nat → Nat := fun j => match Nat.beq j 0 with
  | true => α 0
  | false => match Nat.beq j 6 with
    | true => α 1
    | false => θ j
noncomputable def cIn (Q : Fx) (W : Lw) (K : Kn) (it : Addr) (q : Nat → Nat) (x : Nat) : Con := ⟨fl2 W K it, l18i Q W K it q x (3 * x) 0,2,64,
  fun α θ => objsOf (l18b Q K (qE α θ) x (3 * x + 3)) ++ [(prO Q K q (3 * x)).2, rngO W.ri 3 0], fun α θ => [(prO Q K (qE α θ) (3 * x + 3)).2], fun _ _ => .ok .next, 600⟩
noncomputable def l18p (Q : Fx) (W : Lw) (K : Kn) (it : Addr) (q : Nat → Nat) (x : Nat) : Lst := match x with
  | 0 => [(K.ad 0, frmO Q.N (fr13 K.ad K.tk K.L K.X K.TR ++ es18 K) 10), (K.ad 3, celO Q.N (some (.ref (K.ad 12)))), (K.ad 7, celO Q.N (some (.ref (K.ad 24)))), (K.ad 12, lettersO Q.N K.L K.tk)] ++ (hsO Q K ++ [(K.ad 24, dctO Q.N [] 0), (K.ad 25, lstO Q.N [] 0), (it, rngO W.ri 0 3)])
  | x + 1 => l18b Q K q x (3 * x + 3) ++ [(K.ad 25, lstO Q.N [] 0), (it, rngO W.ri (x + 1) (2 - x)), prO Q K q (3 * x + 3)]
section
variable {V : XV} {P : Params} {b : Bool} {scr : Obj}
theorem e18 (O : VO V P b scr) {κ : Kont} (hR : Rm V κ 600) (ch : Ch) (K : Kn) (it : Addr) (q : Nat → Nat) (x k : Nat) (R : Lst) (H : Rr V ch κ (.ok .next) (l18i (fxZ P) (lwZ P) K it q x k 3 ++ R)) : G18 V P ch κ K it q x k 3 R :=
  segR O hR 15 [11,11,11,11,11,14] [] (ups [0,0,0,0,0,0,0,0,0,0,0,0]) (r := fun w => .ok .next) (l' := fun w => l18i (fxZ P) (lwZ P) K it q x k 3) (ch' := fun _ => ch) (fun w => by kernel_rfl) fun w => H
noncomputable def aOf (q : Nat → Nat) : Nat → Addr := fun j => match j with
  | 0 => q 0
  | 1 => q 6
  | _ => 0
noncomputable def tOf (q : Nat → Nat) : Nat → Tok := fun j => match Nat.blt j 64 with
  | true => q j
  | false => 0
theorem aOf_out (q : Nat → Nat) (j : Nat) (h : 2 ≤ j) : aOf q j = 0 := by
  match j, h with
  | _ + 2, _ => rfl
theorem tOf_out (q : Nat → Nat) (j : Nat) (h : 64 ≤ j) : tOf q j = 0 := by
  unfold tOf
  cases e : Nat.blt j 64 with
  | false => rfl
  | true => have := blt_true e; omega
theorem in_end {ch : Ch} {c : Code} {κ : Kont} {k : Result → Sem PySem.Fin} {A R : Lst} {a i n p1 p2 : Addr × Obj} (g : G V ch c κ (k (.ok .next)) ((A ++ [a, i, n]) ++ R)) : Rr V ch (.ret c none k κ) (.ok .next) ((A ++ [i, n]) ++ (p2 :: p1 :: a :: R)) := by
  refine Rr.ret ?_
  refine G.sub (l' := (A ++ [i, n]) ++ (a :: R)) ?_ (G.perm (perm3 A R a i n).symm g)
  exact List.Sublist.append_left (List.Sublist.cons _ (List.Sublist.cons _ (List.Sublist.refl _))) _
theorem vIn0 (O : VO V P b scr) (K : Kn) (hD : Dist K.L) (it : Addr) (q : Nat → Nat) : Valid V (cIn (fxZ P) (lwZ P) K it q 0) := by
  intro ch c κ R g lv k hR H
  refine G.call ?_
  refine i18_0 O hR ch K hD it q R fun a1 => i18_1 O hR ch K hD it _ _ fun a2 => i18_2 O hR ch K hD it _ _ fun a3 => ?_
  generalize ovr (ovr (ovr q a1) a2) a3 = q3
  generalize ovr (ovr q a1) a2 = q2
  generalize ovr q a1 = q1
  refine e18 O hR ch K it q3 0 3 _ ?_
  have z := H (aOf q3) (tOf q3) (aOf_out q3) (tOf_out q3)
  have e : reput (cIn (fxZ P) (lwZ P) K it q 0).foot ((cIn (fxZ P) (lwZ P) K it q 0).post (aOf q3) (tOf q3)) ++ newL (aOf q3) 0 ((cIn (fxZ P) (lwZ P) K it q 0).new (aOf q3) (tOf q3)) = l18b (fxZ P) K q3 0 3 ++ [prO (fxZ P) K q 0, (it, rngO riZ 3 0), prO (fxZ P) K q3 3] := by kernel_rfl
  rw [e] at z
  exact in_end z
theorem vIn1 (O : VO V P b scr) (K : Kn) (hD : Dist K.L) (it : Addr) (q : Nat → Nat) : Valid V (cIn (fxZ P) (lwZ P) K it q 1) := by
  intro ch c κ R g lv k hR H
  refine G.call ?_
  refine i18_3 O hR ch K hD it q R fun a1 => i18_4 O hR ch K hD it _ _ fun a2 => i18_5 O hR ch K hD it _ _ fun a3 => ?_
  generalize ovr (ovr (ovr q a1) a2) a3 = q3
  generalize ovr (ovr q a1) a2 = q2
  generalize ovr q a1 = q1
  refine e18 O hR ch K it q3 1 6 _ ?_
  have z := H (aOf q3) (tOf q3) (aOf_out q3) (tOf_out q3)
  have e : reput (cIn (fxZ P) (lwZ P) K it q 1).foot ((cIn (fxZ P) (lwZ P) K it q 1).post (aOf q3) (tOf q3)) ++ newL (aOf q3) 0 ((cIn (fxZ P) (lwZ P) K it q 1).new (aOf q3) (tOf q3)) = l18b (fxZ P) K q3 1 6 ++ [prO (fxZ P) K q 3, (it, rngO riZ 3 0), prO (fxZ P) K q3 6] := by kernel_rfl
  rw [e] at z
  exact in_end z
theorem vIn2 (O : VO V P b scr) (K : Kn) (hD : Dist K.L) (it : Addr) (q : Nat → Nat) : Valid V (cIn (fxZ P) (lwZ P) K it q 2) := by
  intro ch c κ R g lv k hR H
  refine G.call ?_
  refine i18_6 O hR ch K hD it q R fun a1 => i18_7 O hR ch K hD it _ _ fun a2 => i18_8 O hR ch K hD it _ _ fun a3 => ?_
  generalize ovr (ovr (ovr q a1) a2) a3 = q3
  generalize ovr (ovr q a1) a2 = q2
  generalize ovr q a1 = q1
  refine e18 O hR ch K it q3 2 9 _ ?_
  have z := H (aOf q3) (tOf q3) (aOf_out q3) (tOf_out q3)
  have e : reput (cIn (fxZ P) (lwZ P) K it q 2).foot ((cIn (fxZ P) (lwZ P) K it q 2).post (aOf q3) (tOf q3)) ++ newL (aOf q3) 0 ((cIn (fxZ P) (lwZ P) K it q 2).new (aOf q3) (tOf q3)) = l18b (fxZ P) K q3 2 9 ++ [prO (fxZ P) K q 6, (it, rngO riZ 3 0), prO (fxZ P) K q3 9] := by kernel_rfl
  rw [e] at z
  exact in_end z
end
end Mine
namespace Mine
open PySem PySem.W PySem.W.X PySem.Spec PySem.Calls PyProof.Rows
noncomputable def cOut (Q : Fx) (W : Lw) (K : Kn) (it : Addr) : Con := ⟨fl1 W K it, l18p Q W K it (fun _ => 0) 0,2,64,
  fun α θ => objsOf (l18b Q K (qE α θ) 2 9) ++ [lstO Q.N [] 0, rngO W.ri 3 0], fun α θ => [(prO Q K (qE α θ) 9).2], fun _ _ => .ok .next, 500⟩
section
variable {V : XV} {P : Params} {b : Bool} {scr : Obj}
noncomputable def G18o (V : XV) (P : Params) (ch : Ch) (κ : Kont) (K : Kn) (it : Addr) (q : Nat → Nat) (x : Nat) (R : Lst) : Prop :=
  G V ch (fl1 (lwZ P) K it) κ (dn (fl1 (lwZ P) K it)) (l18p (fxZ P) (lwZ P) K it q x ++ R)
theorem o18_0 (O : VO V P b scr) {κ : Kont} (hR : Rm V κ 500) (ch : Ch) (K : Kn) (hD : Dist K.L) (it : Addr) (q : Nat → Nat) (R : Lst) (H : ∀ q, G18o V P ch κ K it q 1 R) : G18o V P ch κ K it q 0 R :=
  seg O hR 60 (hsD 24 41221250904876332700831235311023004260351472764428)
    [(5, ups [0,0,0,0,0,0,0,0,0,0,0,2], fun w => ⟨_, vIn0 O K hD (w.a 1) (ovr (fun _ => 0) [(0, K.ad 25), (1, w.t 1), (2, w.t 0)])⟩)] (ups [0,0,0,0,0,0,0,0,0,0,0,0,2])
    (c' := fun w => fl1 (lwZ P) K it) (t' := fun w => dn (fl1 (lwZ P) K it)) (l' := fun w => l18p (fxZ P) (lwZ P) K it (qE (cut w.a 2 2) (cut w.t 5 64)) 1) (ch' := fun _ => ch)
    (fun w => by kernel_rfl) fun w => H _
theorem o18_1 (O : VO V P b scr) {κ : Kont} (hR : Rm V κ 500) (ch : Ch) (K : Kn) (hD : Dist K.L) (it : Addr) (q : Nat → Nat) (R : Lst) (H : ∀ q, G18o V P ch κ K it q 2 R) : G18o V P ch κ K it q 1 R :=
  seg O hR 60 (hsD 24 44167269953354373228863840360592215931779574597132)
    [(5, ups [0,0,0,0,0,0,0,0,0,0,2,1], fun w => ⟨_, vIn1 O K hD (w.a 1) (ovr q [(2, w.t 0)])⟩)] (ups [0,0,0,0,0,0,0,0,0,0,0,0,3])
    (c' := fun w => fl1 (lwZ P) K it) (t' := fun w => dn (fl1 (lwZ P) K it)) (l' := fun w => l18p (fxZ P) (lwZ P) K it (qE (cut w.a 2 2) (cut w.t 5 64)) 2) (ch' := fun _ => ch)
    (fun w => by kernel_rfl) fun w => H _
theorem o18_2 (O : VO V P b scr) {κ : Kont} (hR : Rm V κ 500) (ch : Ch) (K : Kn) (hD : Dist K.L) (it : Addr) (q : Nat → Nat) (R : Lst) (H : ∀ q, G18o V P ch κ K it q 3 R) : G18o V P ch κ K it q 2 R :=
  seg O hR 60 (hsD 24 44167269953354373228863840360592215931779574597132)
    [(5, ups [0,0,0,0,0,0,0,0,0,0,2,1], fun w => ⟨_, vIn2 O K hD (w.a 1) (ovr q [(2, w.t 0)])⟩)] (ups [0,0,0,0,0,0,0,0,0,0,0,0,3])
    (c' := fun w => fl1 (lwZ P) K it) (t' := fun w => dn (fl1 (lwZ P) K it)) (l' := fun w => l18p (fxZ P) (lwZ P) K it (qE (cut w.a 2 2) (cut w.t 5 64)) 3) (ch' := fun _ => ch)
    (fun w => by kernel_rfl) fun w => H _
theorem o18_3 (O : VO V P b scr) {κ : Kont} (hR : Rm V κ 500) (ch : Ch) (K : Kn) (it : Addr) (q : Nat → Nat) (R : Lst) (H : Rr V ch κ (.ok .next) (l18p (fxZ P) (lwZ P) K it q 3 ++ R)) : G18o V P ch κ K it q 3 R :=
  segR O hR 15 [12,12,12,12,12,15] [] (ups [0,0,0,0,0,0,0,0,0,0,0,0,0]) (r := fun w => .ok .next) (l' := fun w => l18p (fxZ P) (lwZ P) K it q 3) (ch' := fun _ => ch) (fun w => by kernel_rfl) fun w => H
theorem vOut (O : VO V P b scr) (K : Kn) (hD : Dist K.L) (it : Addr) : Valid V (cOut (fxZ P) (lwZ P) K it) := by
  intro ch c κ R g lv k hR H
  refine G.call ?_
  refine o18_0 O hR ch K hD it (fun _ => 0) R fun q1 => o18_1 O hR ch K hD it q1 _ fun q2 => o18_2 O hR ch K hD it q2 _ fun q3 => ?_
  refine o18_3 O hR ch K it q3 _ (Rr.ret ?_)
  have z := H (aOf q3) (tOf q3) (aOf_out q3) (tOf_out q3)
  have e : reput (cOut (fxZ P) (lwZ P) K it).foot ((cOut (fxZ P) (lwZ P) K it).post (aOf q3) (tOf q3)) ++ newL (aOf q3) 0 ((cOut (fxZ P) (lwZ P) K it).new (aOf q3) (tOf q3)) = l18p (fxZ P) (lwZ P) K it q3 3 := by kernel_rfl
  rw [e] at z
  exact z
end
end Mine
namespace Mine
open PySem PySem.W PySem.W.X PySem.Spec PySem.Calls PyProof.Rows
noncomputable def prsV (K : Kn) (q : Nat → Nat) : List Value := prL K.L (pt18 q) 9 ++ [.str ⟨⟨[9]⟩⟩ (q 58), .str ⟨⟨[]⟩⟩ (q 59)]
noncomputable def l21 (Q : Fx) (K : Kn) (q : Nat → Nat) (es : List (List Nat × Tok × Value)) (ne : Nat) (c9 c10 c11 : Option Value) (ps : List Value) (m : Nat) (rows : List Value) (rn : Nat) (more : Lst) : Lst :=
  lC Q K (es18s K q 2 9 ++ es) ne (some (.ref (K.ad 24))) (some (.ref (q 9))) c9 c10 c11 ps m
    ([(K.ad 24, dctO Q.N (gvL K.L K.tk (gt18 q) 9) 9), (q 0, lstO Q.N (prsV K q) 0), (q 9, lstO Q.N rows rn)] ++ more)
end Mine
namespace Mine
open PySem PySem.W PySem.W.X PySem.Spec PySem.Calls PyProof.Rows
section
variable {V : XV} {P : Params} {b : Bool} {scr : Obj}
theorem sF18 (O : VO V P b scr) {κ : Kont} (hR : Rm V κ 400) (K : Kn) (hD : Dist K.L) (R : Lst) (H : ∀ q, LG V P κ R (chR K.r) (l21 (fxZ P) K q [] 14 none none none (psO K) 10 [] 0 []) 21) :
    LG V P κ R (chR K.r) (l18 (fxZ P) K) 18 :=
  segL O hR 74 (hsD 25 3393629864002737691134343269381613560059703637557248)
    [(4, ups [0,2,3,4,10,0,0,0,0,0,0,1], fun w => ⟨_, vOut O K hD (w.a 1)⟩)]
    (ups [0,0,0,0,0,0,0,0,0,0,0,0,0,0,0,0,0,0,0,0,0,0,0,5,5,0]) (fun w => l21 (fxZ P) K (ovr (qE (cut w.a 2 2) (cut w.t 3 64)) [(0, w.a 5), (9, w.a 6), (58, w.t 67), (59, w.t 68)]) [] 14 none none none (psO K) 10 [] 0 []) 21 (fun w => chR K.r) (fun w => by kernel_rfl) fun w => H _
end
end Mine
namespace Mine
open PySem PySem.W PySem.W.X PySem.Spec PySem.Calls PyProof.Rows
noncomputable def meO (r : Rd) : Obj := { cls := .ref 101, dict := some r.rd, data := .plain }
noncomputable def wdO (N : Nm) (r : Rd) (k : Int) (kt : Tok) (ps : List Value) (n : Nat) : Lst := [(r.rd, rdDict N r k kt), (r.me, meO r), (r.pb, lstO N ps n)]
noncomputable def cGt (N : Nm) (r : Rd) (k : Int) (kt : Tok) (v : Value) (ps : List Value) (n : Nat) : Con := ⟨.call (.ref 91) ⟨[.ref r.me],[]⟩, wdO N r k kt (v :: ps) n, 0,0, fun _ _ => objsOf (wdO N r k kt ps (n + 1)), fun _ _ => [], fun _ _ => .ok (.ret v), 700⟩
noncomputable def cPs (N : Nm) (r : Rd) (k : Int) (kt : Tok) (v : Value) (ps : List Value) (n : Nat) : Con := ⟨.call (.ref 98) ⟨[.ref r.me, v],[]⟩, wdO N r k kt ps n, 0,0, fun _ _ => objsOf (wdO N r k kt (ps ++ [v]) (n + 1)), fun _ _ => [], fun _ _ => .ok (.ret .none), 700⟩
noncomputable def Dh (X : Nat → Int) : Nat → Nat → Nat
  | 0, j => hueOf (X j)
  | m + 1, j => th3 (Dh X m j) (Dh X m (j + 1))
noncomputable def wv (K : Kn) (m j : Nat) : Value := match m with
  | 0 => ch1 (K.L (Dh K.X 0 j)) (K.TR j)
  | m + 1 => ch1 (K.L (Dh K.X (m + 1) j)) (K.tk (1 + Dh K.X (m + 1) j))
noncomputable def ws (K : Kn) (m : Nat) : Nat → Nat → List Value
  | _, 0 => []
  | a, n + 1 => wv K m a :: ws K m (a + 1) n
noncomputable def lrow (K : Kn) (m : Nat) : Nat → List Nat
  | 0 => []
  | n + 1 => lrow K m n ++ [K.L (Dh K.X m n)]
theorem th3_lt (a b : Nat) : th3 a b < 3 := Nat.mod_lt _ (by omega)
theorem Dh_lt (X : Nat → Int) (m j : Nat) : Dh X m j < 3 := by
  cases m with
  | zero => exact hueOf_lt _
  | succ m => exact th3_lt _ _
theorem lrow_len (K : Kn) (m n : Nat) : (lrow K m n).length = n := by
  induction n with
  | zero => rfl
  | succ n ih => simp [lrow, ih]
theorem gvL_get {L : Nat → Nat} (hD : Dist L) (tk gt : Nat → Tok) (n a b : Nat) (ha : a < 3) (hb : b < 3) (hn : 3 * a + b < n) (h9 : n ≤ 9) : lk (gvL L tk gt n) [L a, L b] = some (ch1 (L (th3 a b)) (tk (1 + th3 a b))) := by
  induction n with
  | zero => omega
  | succ n ih =>
    by_cases h : 3 * a + b < n
    · rw [gvL]
      exact lk_hit _ _ _ (ih h (by omega))
    · have e : n = 3 * a + b := by omega
      have e1 : n / 3 = a := by omega
      have e2 : n % 3 = b := by omega
      rw [gvL, lk_app _ _ _ (gvL_none hD tk gt n a b ha hb (by omega) (by omega))]
      unfold mk3
      rw [e1, e2]
      show (if [L a, L b] = [L a, L b] then _ else none) = _
      rw [if_pos rfl]
section
variable {V : XV} {P : Params} {b : Bool} {scr : Obj}
noncomputable def cGv (N : Nm) (K : Kn) (q : Nat → Nat) (m j : Nat) (t : Tok) (df : Value) : Con := cGet N (K.ad 24) (gvL K.L K.tk (gt18 q) 9) 9 [K.L (Dh K.X m j), K.L (Dh K.X m (j + 1))] t df (wv K (m + 1) j)
theorem vGv' (O : VO V P b scr) (K : Kn) (hD : Dist K.L) (q : Nat → Nat) (m j : Nat) (t : Tok) (df : Value) : Valid V (cGv (nmZ P) K q m j t df) :=
  vGet O (K.ad 24) (gvL K.L K.tk (gt18 q) 9) 9 [K.L (Dh K.X m j), K.L (Dh K.X m (j + 1))] t df (wv K (m + 1) j) (gvL_ne _ _ _ _) (gvL_get hD K.tk (gt18 q) 9 _ _ (Dh_lt _ _ _) (Dh_lt _ _ _) (by have := Dh_lt K.X m j; have := Dh_lt K.X m (j + 1); omega) (by decide))
end
end Mine
namespace Mine
open PySem PySem.W PySem.W.X PySem.Spec PySem.Calls PyProof.Rows
section
variable {V : XV} {P : Params} {b : Bool} {scr : Obj}
theorem vGt (O : VO V P b scr) (r : Rd) (k : Int) (kt : Tok) (x : List Nat) (t : Tok) (ps : List Value) (n : Nat) (hz : ps.length ≤ 100000) : Valid V (cGt (nmZ P) r k kt (.str ⟨⟨x⟩⟩ t) ps n) :=
  valid_of O _ 63 (hsD 38 2800892104332400499062593408771462878630008309301751009477371755173199455780864) [(1, ups [2], fun w => ⟨_, vLenB (a := r.pb) (vs := .str ⟨⟨x⟩⟩ t :: ps) (foot := [(r.pb, lstO (nmZ P) (.str ⟨⟨x⟩⟩ t :: ps) n)]) (n := ps.length + 1) (by simp) (by simp; omega) (isList_foot (P := P))⟩), (1, ups [2], fun w => ⟨_, vPop0 P r.pb ps (.str ⟨⟨x⟩⟩ t) n (w.t 4) hz⟩)] (ups [0,0,0]) (fun w => []) (fun w => []) (fun _ => rfl) (fun _ => rfl) (fun ch κ w => by kernel_rfl)
theorem vPs (O : VO V P b scr) (r : Rd) (k : Int) (kt : Tok) (x : List Nat) (t : Tok) (ps : List Value) (n : Nat) (hz : ps.length ≤ 100000) : Valid V (cPs (nmZ P) r k kt (.str ⟨⟨x⟩⟩ t) ps n) :=
  valid_of O _ 44 (hsD 26 192693213920031328849611901801148585990219141174329344) [(1, ups [2], fun w => ⟨_, vApp P r.pb ps n (.str ⟨⟨x⟩⟩ t) hz⟩)] (ups [0,0,0]) (fun w => []) (fun w => []) (fun _ => rfl) (fun _ => rfl) (fun ch κ w => by kernel_rfl)
end
end Mine
namespace Mine
open PySem PySem.W PySem.W.X PySem.Spec PySem.Calls PyProof.Rows
noncomputable def sGot : List Nat := [103,111,116]
theorem ws_len (K : Kn) (m a n : Nat) : (ws K m a n).length = n := by
  induction n generalizing a with
  | zero => rfl
  | succ n ih => show (ws K m (a + 1) n).length + 1 = n + 1; rw [ih]
theorem ws2_len (K : Kn) (m a n m' a' n' : Nat) (h : n + n' ≤ 1000) : (ws K m a n ++ ws K m' a' n').length ≤ 100000 := by
  rw [List.length_append, ws_len, ws_len]; omega
theorem ws1_len (K : Kn) (m a n : Nat) (h : n ≤ 1000) : (ws K m a n).length ≤ 100000 := by
  rw [ws_len]; omega
noncomputable def fr13k (K : Kn) (kv : Value) : List (List Nat × Tok × Value) := [(sNames, K.tk 14, .ref (K.ad 15)), (sText, K.tk 15, .str ⟨⟨txt K.L K.X 10⟩⟩ (K.tk 16)), (sK, K.tk 17, kv), (sSigns, K.tk 19, .ref (K.ad 16)), (sReadName, K.tk 20, .ref (K.ad 17)), (sName, K.tk 21, ch1 (K.L (hueOf (K.X 9))) (K.TR 9))]
noncomputable def kv21 (K : Kn) (p : Nat → Nat) (m : Nat) : Value := match m with
  | 0 => .int 9 (K.tk 18)
  | m + 1 => .int (Int.ofNat (8 - m)) (p 61)
noncomputable def c21 (p : Nat → Nat) (m : Nat) : Option Value := match m with
  | 0 => none
  | m + 1 => some (.int (Int.ofNat m) (p 62))
noncomputable def rt (K : Kn) (p : Nat → Nat) (m : Nat) : Tok := match Nat.beq m 9 with
  | true => K.tk (1 + Dh K.X 9 0)
  | false => p (80 + m)
noncomputable def rowV (K : Kn) (p : Nat → Nat) (m : Nat) : Value := .str ⟨⟨lrow K m (10 - m)⟩⟩ (rt K p m)
noncomputable def rowsV (K : Kn) (p : Nat → Nat) : Nat → List Value
  | 0 => []
  | m + 1 => rowsV K p m ++ [rowV K p m]
noncomputable def vn : Nat → Nat
  | 0 => 10
  | m + 1 => vn m + (19 - 2 * m)
noncomputable def es21 (K : Kn) (p : Nat → Nat) (m : Nat) : List (List Nat × Tok × Value) := match m with
  | 0 => []
  | m + 1 => [(sGot, p 60, rowV K p m)]
noncomputable def ne21 (m : Nat) : Nat := match m with
  | 0 => 14
  | _ + 1 => 15
noncomputable def fl21 (W : Lw) (K : Kn) (it : Addr) : Code := forC (dropS 21 (bodyOf W.F)) it (lawEn W.F K.ad)
noncomputable def l21r (Q : Fx) (W : Lw) (K : Kn) (it ra : Addr) (q p : Nat → Nat) (m : Nat) : Lst :=
  [(K.ad 0, frmO Q.N (fr13k K (kv21 K p m) ++ (es18s K q 2 9 ++ es21 K p m)) (ne21 m)), (K.ad 6, celO Q.N (some (.ref K.r.me))), (K.ad 7, celO Q.N (some (.ref (K.ad 24)))), (K.ad 8, celO Q.N (some (.ref ra))), (K.ad 9, celO Q.N (c21 p m))] ++
  (wdO Q.N K.r K.k K.kt (ws K m 0 (10 - m)) (vn m) ++ [(K.ad 24, dctO Q.N (gvL K.L K.tk (gt18 q) 9) 9), (ra, lstO Q.N (rowsV K p m) m), (it, rngO W.ri m (10 - m))])
theorem rowsV_len (K : Kn) (p : Nat → Nat) (m : Nat) : (rowsV K p m).length = m := by
  induction m with
  | zero => rfl
  | succ m ih => simp [rowsV, ih]
theorem lrow_sz (K : Kn) (m n : Nat) (x : Nat) (h : n ≤ 1000) : (lrow K m n).length + [x].length ≤ 100000 := by
  rw [lrow_len]; simp; omega
end Mine
namespace Mine
open PySem PySem.W PySem.W.X PySem.Spec PySem.Calls PyProof.Rows
section
variable {V : XV} {P : Params} {b : Bool} {scr : Obj}
noncomputable def G21 (V : XV) (P : Params) (ch : Ch) (κ : Kont) (K : Kn) (it ra : Addr) (q p : Nat → Nat) (m : Nat) (R : Lst) : Prop :=
  G V ch (fl21 (lwZ P) K it) κ (dn (fl21 (lwZ P) K it)) (l21r (fxZ P) (lwZ P) K it ra q p m ++ R)
theorem r21_0 (O : VO V P b scr) {κ : Kont} (hR : Rm V κ 500) (ch : Ch) (K : Kn) (hD : Dist K.L) (it ra : Addr) (q p : Nat → Nat) (R : Lst) (H : ∀ p, G21 V P ch κ K it ra q p 1 R) : G21 V P ch κ K it ra q p 0 R :=
  seg O hR 1134 (hsD 578 7817525975362601692060732228742352784660812784552158668126060487173397353049299646497007098892418548670824337433494490504989463055239730641705897839382806755521563813185532927849599163768543836199259438082455313116164737055116382796539029419632166719328880386619409932261390103562156195665267424609997736872209814556116170007922168121196871931561970084620417053909858350055806709131069979718034158787620699593416410217513959691246099665503562827053283579903043298548431303613503827105295501576062629358605228721091272982591730758454437327425621195614777758393304013021567263101850273351604133645889826867018733024055092920003521784515029136685353226019624403920414856989582577125138646885380155609321912037426549567166518428713123292241383556556599422679368354117048724641483000791243027101592970962573486091794759417606730185712531075063263401367320837355403859092459421564595911612566632923827705308002916640178962194703093648083367785796912009851129623799440098878268217331730173855139293347978147665452577139224754115525929360830130967768815858990057800154020893140350623895403610958282603650186970660792987709155690978554737560428073540828137127115674745205573501725316416549426268517184718705945355317569308043)
    [(1, ups [5,0,0], fun w => ⟨_, vGt O K.r K.k K.kt [K.L (Dh K.X 0 0)] (K.TR 0) (ws K 0 1 9) 10 (ws1_len K 0 1 9 (by decide))⟩), (7, ups [5,0,0], fun w => ⟨_, vGt O K.r K.k K.kt [K.L (Dh K.X 0 1)] (K.TR 1) (ws K 0 2 8) 11 (ws1_len K 0 2 8 (by decide))⟩), (0, ups [], fun w => ⟨_, vAdd (lrow K 0 1) (K.TR 0) [K.L (Dh K.X 0 1)] (K.TR 1) (lrow_sz K 0 1 _ (by decide))⟩), (2, ups [8], fun w => ⟨_, vGv' O K hD q 0 0 (w.t 8) (.str ⟨⟨[63]⟩⟩ (w.t 12))⟩), (0, ups [5,0,0], fun w => ⟨_, vPs O K.r K.k K.kt [K.L (Dh K.X 1 0)] (K.tk (1 + Dh K.X 1 0)) (ws K 0 2 8) 12 (ws1_len K 0 2 8 (by decide))⟩), (1, ups [5,0,0], fun w => ⟨_, vGt O K.r K.k K.kt [K.L (Dh K.X 0 2)] (K.TR 2) (ws K 0 3 7 ++ ws K 1 0 1) 13 (ws2_len K 0 3 7 1 0 1 (by decide))⟩), (0, ups [], fun w => ⟨_, vAdd (lrow K 0 2) (w.t 8) [K.L (Dh K.X 0 2)] (K.TR 2) (lrow_sz K 0 2 _ (by decide))⟩), (2, ups [8], fun w => ⟨_, vGv' O K hD q 0 1 (w.t 19) (.str ⟨⟨[63]⟩⟩ (w.t 20))⟩), (0, ups [5,0,0], fun w => ⟨_, vPs O K.r K.k K.kt [K.L (Dh K.X 1 1)] (K.tk (1 + Dh K.X 1 1)) (ws K 0 3 7 ++ ws K 1 0 1) 14 (ws2_len K 0 3 7 1 0 1 (by decide))⟩), (1, ups [5,0,0], fun w => ⟨_, vGt O K.r K.k K.kt [K.L (Dh K.X 0 3)] (K.TR 3) (ws K 0 4 6 ++ ws K 1 0 2) 15 (ws2_len K 0 4 6 1 0 2 (by decide))⟩), (0, ups [], fun w => ⟨_, vAdd (lrow K 0 3) (w.t 15) [K.L (Dh K.X 0 3)] (K.TR 3) (lrow_sz K 0 3 _ (by decide))⟩), (2, ups [8], fun w => ⟨_, vGv' O K hD q 0 2 (w.t 27) (.str ⟨⟨[63]⟩⟩ (w.t 28))⟩), (0, ups [5,0,0], fun w => ⟨_, vPs O K.r K.k K.kt [K.L (Dh K.X 1 2)] (K.tk (1 + Dh K.X 1 2)) (ws K 0 4 6 ++ ws K 1 0 2) 16 (ws2_len K 0 4 6 1 0 2 (by decide))⟩), (1, ups [5,0,0], fun w => ⟨_, vGt O K.r K.k K.kt [K.L (Dh K.X 0 4)] (K.TR 4) (ws K 0 5 5 ++ ws K 1 0 3) 17 (ws2_len K 0 5 5 1 0 3 (by decide))⟩), (0, ups [], fun w => ⟨_, vAdd (lrow K 0 4) (w.t 23) [K.L (Dh K.X 0 4)] (K.TR 4) (lrow_sz K 0 4 _ (by decide))⟩), (2, ups [8], fun w => ⟨_, vGv' O K hD q 0 3 (w.t 35) (.str ⟨⟨[63]⟩⟩ (w.t 36))⟩), (0, ups [5,0,0], fun w => ⟨_, vPs O K.r K.k K.kt [K.L (Dh K.X 1 3)] (K.tk (1 + Dh K.X 1 3)) (ws K 0 5 5 ++ ws K 1 0 3) 18 (ws2_len K 0 5 5 1 0 3 (by decide))⟩), (1, ups [5,0,0], fun w => ⟨_, vGt O K.r K.k K.kt [K.L (Dh K.X 0 5)] (K.TR 5) (ws K 0 6 4 ++ ws K 1 0 4) 19 (ws2_len K 0 6 4 1 0 4 (by decide))⟩), (0, ups [], fun w => ⟨_, vAdd (lrow K 0 5) (w.t 31) [K.L (Dh K.X 0 5)] (K.TR 5) (lrow_sz K 0 5 _ (by decide))⟩), (2, ups [8], fun w => ⟨_, vGv' O K hD q 0 4 (w.t 43) (.str ⟨⟨[63]⟩⟩ (w.t 44))⟩), (0, ups [5,0,0], fun w => ⟨_, vPs O K.r K.k K.kt [K.L (Dh K.X 1 4)] (K.tk (1 + Dh K.X 1 4)) (ws K 0 6 4 ++ ws K 1 0 4) 20 (ws2_len K 0 6 4 1 0 4 (by decide))⟩), (1, ups [5,0,0], fun w => ⟨_, vGt O K.r K.k K.kt [K.L (Dh K.X 0 6)] (K.TR 6) (ws K 0 7 3 ++ ws K 1 0 5) 21 (ws2_len K 0 7 3 1 0 5 (by decide))⟩), (0, ups [], fun w => ⟨_, vAdd (lrow K 0 6) (w.t 39) [K.L (Dh K.X 0 6)] (K.TR 6) (lrow_sz K 0 6 _ (by decide))⟩), (2, ups [8], fun w => ⟨_, vGv' O K hD q 0 5 (w.t 51) (.str ⟨⟨[63]⟩⟩ (w.t 52))⟩), (0, ups [5,0,0], fun w => ⟨_, vPs O K.r K.k K.kt [K.L (Dh K.X 1 5)] (K.tk (1 + Dh K.X 1 5)) (ws K 0 7 3 ++ ws K 1 0 5) 22 (ws2_len K 0 7 3 1 0 5 (by decide))⟩), (1, ups [5,0,0], fun w => ⟨_, vGt O K.r K.k K.kt [K.L (Dh K.X 0 7)] (K.TR 7) (ws K 0 8 2 ++ ws K 1 0 6) 23 (ws2_len K 0 8 2 1 0 6 (by decide))⟩), (0, ups [], fun w => ⟨_, vAdd (lrow K 0 7) (w.t 47) [K.L (Dh K.X 0 7)] (K.TR 7) (lrow_sz K 0 7 _ (by decide))⟩), (2, ups [8], fun w => ⟨_, vGv' O K hD q 0 6 (w.t 59) (.str ⟨⟨[63]⟩⟩ (w.t 60))⟩), (0, ups [5,0,0], fun w => ⟨_, vPs O K.r K.k K.kt [K.L (Dh K.X 1 6)] (K.tk (1 + Dh K.X 1 6)) (ws K 0 8 2 ++ ws K 1 0 6) 24 (ws2_len K 0 8 2 1 0 6 (by decide))⟩), (1, ups [5,0,0], fun w => ⟨_, vGt O K.r K.k K.kt [K.L (Dh K.X 0 8)] (K.TR 8) (ws K 0 9 1 ++ ws K 1 0 7) 25 (ws2_len K 0 9 1 1 0 7 (by decide))⟩), (0, ups [], fun w => ⟨_, vAdd (lrow K 0 8) (w.t 55) [K.L (Dh K.X 0 8)] (K.TR 8) (lrow_sz K 0 8 _ (by decide))⟩), (2, ups [8], fun w => ⟨_, vGv' O K hD q 0 7 (w.t 67) (.str ⟨⟨[63]⟩⟩ (w.t 68))⟩), (0, ups [5,0,0], fun w => ⟨_, vPs O K.r K.k K.kt [K.L (Dh K.X 1 7)] (K.tk (1 + Dh K.X 1 7)) (ws K 0 9 1 ++ ws K 1 0 7) 26 (ws2_len K 0 9 1 1 0 7 (by decide))⟩), (1, ups [5,0,0], fun w => ⟨_, vGt O K.r K.k K.kt [K.L (Dh K.X 0 9)] (K.TR 9) (ws K 0 10 0 ++ ws K 1 0 8) 27 (ws2_len K 0 10 0 1 0 8 (by decide))⟩), (0, ups [], fun w => ⟨_, vAdd (lrow K 0 9) (w.t 63) [K.L (Dh K.X 0 9)] (K.TR 9) (lrow_sz K 0 9 _ (by decide))⟩), (2, ups [8], fun w => ⟨_, vGv' O K hD q 0 8 (w.t 75) (.str ⟨⟨[63]⟩⟩ (w.t 76))⟩), (0, ups [5,0,0], fun w => ⟨_, vPs O K.r K.k K.kt [K.L (Dh K.X 1 8)] (K.tk (1 + Dh K.X 1 8)) (ws K 0 10 0 ++ ws K 1 0 8) 28 (ws2_len K 0 10 0 1 0 8 (by decide))⟩), (1, ups [9], fun w => ⟨_, vApp P ra (rowsV K p 0) 0 (.str ⟨⟨lrow K 0 10⟩⟩ (w.t 71)) (by rw [rowsV_len]; decide)⟩)] (ups [0,0,0,0,0,0,0,0,0,0,0])
    (c' := fun w => fl21 (lwZ P) K it) (t' := fun w => dn (fl21 (lwZ P) K it)) (l' := fun w => l21r (fxZ P) (lwZ P) K it ra q (ovr p [(60, w.t 1), (61, w.t 69), (62, w.t 0), (80, w.t 71)]) 1) (ch' := fun _ => ch)
    (fun w => by kernel_rfl) fun w => H _
theorem r21_1 (O : VO V P b scr) {κ : Kont} (hR : Rm V κ 500) (ch : Ch) (K : Kn) (hD : Dist K.L) (it ra : Addr) (q p : Nat → Nat) (R : Lst) (H : ∀ p, G21 V P ch κ K it ra q p 2 R) : G21 V P ch κ K it ra q p 1 R :=
  seg O hR 1022 (hsD 520 47303262322355251729123808358465286990085103162316621917984262545082732094614428662767512031881953820752465339504347816540885097300242696023614436528337929846656934479430198302716174294827285494957646809394133546073393456665203540514489279433071189940671288720328762331041482532544488469792815188491132690847459292114254670928311370980893365088761337212480108753848672444552984027165873237408946840077082941179488508485499435790483366522913898558259491283494771432991020052991924888969864599544194911017993329621329257324921662473177402549374793760264578314990915812003567904239306571880493434709378267576630421962148544347938590045113370414564080804662597918689253483710540195009920701361298527207952808054114085930081093647911568826338582727276259534406246632159614686456763398793890175549997291704495091679439732128207222594036491879696362961784055045516362582178880629419582860999522963047109478996396645075430744409605480074774196820562548155079128796814920577239194253704488447846101988641344996007660055352578994723283491507586437795378747368519564016764143536106676014664456220528788875)
    [(1, ups [5,0,0], fun w => ⟨_, vGt O K.r K.k K.kt [K.L (Dh K.X 1 0)] (K.tk (1 + Dh K.X 1 0)) (ws K 1 1 8) 29 (ws1_len K 1 1 8 (by decide))⟩), (7, ups [5,0,0], fun w => ⟨_, vGt O K.r K.k K.kt [K.L (Dh K.X 1 1)] (K.tk (1 + Dh K.X 1 1)) (ws K 1 2 7) 30 (ws1_len K 1 2 7 (by decide))⟩), (0, ups [], fun w => ⟨_, vAdd (lrow K 1 1) (K.tk (1 + Dh K.X 1 0)) [K.L (Dh K.X 1 1)] (K.tk (1 + Dh K.X 1 1)) (lrow_sz K 1 1 _ (by decide))⟩), (2, ups [8], fun w => ⟨_, vGv' O K hD q 1 0 (w.t 8) (.str ⟨⟨[63]⟩⟩ (w.t 12))⟩), (0, ups [5,0,0], fun w => ⟨_, vPs O K.r K.k K.kt [K.L (Dh K.X 2 0)] (K.tk (1 + Dh K.X 2 0)) (ws K 1 2 7) 31 (ws1_len K 1 2 7 (by decide))⟩), (1, ups [5,0,0], fun w => ⟨_, vGt O K.r K.k K.kt [K.L (Dh K.X 1 2)] (K.tk (1 + Dh K.X 1 2)) (ws K 1 3 6 ++ ws K 2 0 1) 32 (ws2_len K 1 3 6 2 0 1 (by decide))⟩), (0, ups [], fun w => ⟨_, vAdd (lrow K 1 2) (w.t 8) [K.L (Dh K.X 1 2)] (K.tk (1 + Dh K.X 1 2)) (lrow_sz K 1 2 _ (by decide))⟩), (2, ups [8], fun w => ⟨_, vGv' O K hD q 1 1 (w.t 19) (.str ⟨⟨[63]⟩⟩ (w.t 20))⟩), (0, ups [5,0,0], fun w => ⟨_, vPs O K.r K.k K.kt [K.L (Dh K.X 2 1)] (K.tk (1 + Dh K.X 2 1)) (ws K 1 3 6 ++ ws K 2 0 1) 33 (ws2_len K 1 3 6 2 0 1 (by decide))⟩), (1, ups [5,0,0], fun w => ⟨_, vGt O K.r K.k K.kt [K.L (Dh K.X 1 3)] (K.tk (1 + Dh K.X 1 3)) (ws K 1 4 5 ++ ws K 2 0 2) 34 (ws2_len K 1 4 5 2 0 2 (by decide))⟩), (0, ups [], fun w => ⟨_, vAdd (lrow K 1 3) (w.t 15) [K.L (Dh K.X 1 3)] (K.tk (1 + Dh K.X 1 3)) (lrow_sz K 1 3 _ (by decide))⟩), (2, ups [8], fun w => ⟨_, vGv' O K hD q 1 2 (w.t 27) (.str ⟨⟨[63]⟩⟩ (w.t 28))⟩), (0, ups [5,0,0], fun w => ⟨_, vPs O K.r K.k K.kt [K.L (Dh K.X 2 2)] (K.tk (1 + Dh K.X 2 2)) (ws K 1 4 5 ++ ws K 2 0 2) 35 (ws2_len K 1 4 5 2 0 2 (by decide))⟩), (1, ups [5,0,0], fun w => ⟨_, vGt O K.r K.k K.kt [K.L (Dh K.X 1 4)] (K.tk (1 + Dh K.X 1 4)) (ws K 1 5 4 ++ ws K 2 0 3) 36 (ws2_len K 1 5 4 2 0 3 (by decide))⟩), (0, ups [], fun w => ⟨_, vAdd (lrow K 1 4) (w.t 23) [K.L (Dh K.X 1 4)] (K.tk (1 + Dh K.X 1 4)) (lrow_sz K 1 4 _ (by decide))⟩), (2, ups [8], fun w => ⟨_, vGv' O K hD q 1 3 (w.t 35) (.str ⟨⟨[63]⟩⟩ (w.t 36))⟩), (0, ups [5,0,0], fun w => ⟨_, vPs O K.r K.k K.kt [K.L (Dh K.X 2 3)] (K.tk (1 + Dh K.X 2 3)) (ws K 1 5 4 ++ ws K 2 0 3) 37 (ws2_len K 1 5 4 2 0 3 (by decide))⟩), (1, ups [5,0,0], fun w => ⟨_, vGt O K.r K.k K.kt [K.L (Dh K.X 1 5)] (K.tk (1 + Dh K.X 1 5)) (ws K 1 6 3 ++ ws K 2 0 4) 38 (ws2_len K 1 6 3 2 0 4 (by decide))⟩), (0, ups [], fun w => ⟨_, vAdd (lrow K 1 5) (w.t 31) [K.L (Dh K.X 1 5)] (K.tk (1 + Dh K.X 1 5)) (lrow_sz K 1 5 _ (by decide))⟩), (2, ups [8], fun w => ⟨_, vGv' O K hD q 1 4 (w.t 43) (.str ⟨⟨[63]⟩⟩ (w.t 44))⟩), (0, ups [5,0,0], fun w => ⟨_, vPs O K.r K.k K.kt [K.L (Dh K.X 2 4)] (K.tk (1 + Dh K.X 2 4)) (ws K 1 6 3 ++ ws K 2 0 4) 39 (ws2_len K 1 6 3 2 0 4 (by decide))⟩), (1, ups [5,0,0], fun w => ⟨_, vGt O K.r K.k K.kt [K.L (Dh K.X 1 6)] (K.tk (1 + Dh K.X 1 6)) (ws K 1 7 2 ++ ws K 2 0 5) 40 (ws2_len K 1 7 2 2 0 5 (by decide))⟩), (0, ups [], fun w => ⟨_, vAdd (lrow K 1 6) (w.t 39) [K.L (Dh K.X 1 6)] (K.tk (1 + Dh K.X 1 6)) (lrow_sz K 1 6 _ (by decide))⟩), (2, ups [8], fun w => ⟨_, vGv' O K hD q 1 5 (w.t 51) (.str ⟨⟨[63]⟩⟩ (w.t 52))⟩), (0, ups [5,0,0], fun w => ⟨_, vPs O K.r K.k K.kt [K.L (Dh K.X 2 5)] (K.tk (1 + Dh K.X 2 5)) (ws K 1 7 2 ++ ws K 2 0 5) 41 (ws2_len K 1 7 2 2 0 5 (by decide))⟩), (1, ups [5,0,0], fun w => ⟨_, vGt O K.r K.k K.kt [K.L (Dh K.X 1 7)] (K.tk (1 + Dh K.X 1 7)) (ws K 1 8 1 ++ ws K 2 0 6) 42 (ws2_len K 1 8 1 2 0 6 (by decide))⟩), (0, ups [], fun w => ⟨_, vAdd (lrow K 1 7) (w.t 47) [K.L (Dh K.X 1 7)] (K.tk (1 + Dh K.X 1 7)) (lrow_sz K 1 7 _ (by decide))⟩), (2, ups [8], fun w => ⟨_, vGv' O K hD q 1 6 (w.t 59) (.str ⟨⟨[63]⟩⟩ (w.t 60))⟩), (0, ups [5,0,0], fun w => ⟨_, vPs O K.r K.k K.kt [K.L (Dh K.X 2 6)] (K.tk (1 + Dh K.X 2 6)) (ws K 1 8 1 ++ ws K 2 0 6) 43 (ws2_len K 1 8 1 2 0 6 (by decide))⟩), (1, ups [5,0,0], fun w => ⟨_, vGt O K.r K.k K.kt [K.L (Dh K.X 1 8)] (K.tk (1 + Dh K.X 1 8)) (ws K 1 9 0 ++ ws K 2 0 7) 44 (ws2_len K 1 9 0 2 0 7 (by decide))⟩), (0, ups [], fun w => ⟨_, vAdd (lrow K 1 8) (w.t 55) [K.L (Dh K.X 1 8)] (K.tk (1 + Dh K.X 1 8)) (lrow_sz K 1 8 _ (by decide))⟩), (2, ups [8], fun w => ⟨_, vGv' O K hD q 1 7 (w.t 67) (.str ⟨⟨[63]⟩⟩ (w.t 68))⟩), (0, ups [5,0,0], fun w => ⟨_, vPs O K.r K.k K.kt [K.L (Dh K.X 2 7)] (K.tk (1 + Dh K.X 2 7)) (ws K 1 9 0 ++ ws K 2 0 7) 45 (ws2_len K 1 9 0 2 0 7 (by decide))⟩), (1, ups [9], fun w => ⟨_, vApp P ra (rowsV K p 1) 1 (.str ⟨⟨lrow K 1 9⟩⟩ (w.t 63)) (by rw [rowsV_len]; decide)⟩)] (ups [0,0,0,0,0,0,0,0,0,0,0])
    (c' := fun w => fl21 (lwZ P) K it) (t' := fun w => dn (fl21 (lwZ P) K it)) (l' := fun w => l21r (fxZ P) (lwZ P) K it ra q (ovr p [(61, w.t 61), (62, w.t 0), (81, w.t 63)]) 2) (ch' := fun _ => ch)
    (fun w => by kernel_rfl) fun w => H _
theorem r21_2 (O : VO V P b scr) {κ : Kont} (hR : Rm V κ 500) (ch : Ch) (K : Kn) (hD : Dist K.L) (it ra : Addr) (q p : Nat → Nat) (R : Lst) (H : ∀ p, G21 V P ch κ K it ra q p 3 R) : G21 V P ch κ K it ra q p 2 R :=
  seg O hR 910 (hsD 462 286228486274235504501957402007063407485977138824439850989228924662079124723165825491749768360391623736686432849305818216076669395354725481803656160749667646101326195117181406448898968203362833084838150707935723598854965715762013555159688179865747000816689191442328297791148558732509552763765849124089366061024487311547662212120888312477579976611976432802245306539269850626156973944265760707969415611483060071282121810628139012685630916582137943514912216747264655340742528342241147417680104201915884178933932198584181740623718797866485430006984492901626078439150055072516253596162634522778581485250059682348630166313872239601381433784312980216074875702326251778971164471663017755601586405830829648773808738293072581039321218993624359673201359001319470082275761951489752202618104632457583804656170110002888719836417922070127646373506510090210513665436984007897538572725156675685110140099001624366046155046874840771745822052837128941386041275145662482809387597245442494219659)
    [(1, ups [5,0,0], fun w => ⟨_, vGt O K.r K.k K.kt [K.L (Dh K.X 2 0)] (K.tk (1 + Dh K.X 2 0)) (ws K 2 1 7) 46 (ws1_len K 2 1 7 (by decide))⟩), (7, ups [5,0,0], fun w => ⟨_, vGt O K.r K.k K.kt [K.L (Dh K.X 2 1)] (K.tk (1 + Dh K.X 2 1)) (ws K 2 2 6) 47 (ws1_len K 2 2 6 (by decide))⟩), (0, ups [], fun w => ⟨_, vAdd (lrow K 2 1) (K.tk (1 + Dh K.X 2 0)) [K.L (Dh K.X 2 1)] (K.tk (1 + Dh K.X 2 1)) (lrow_sz K 2 1 _ (by decide))⟩), (2, ups [8], fun w => ⟨_, vGv' O K hD q 2 0 (w.t 8) (.str ⟨⟨[63]⟩⟩ (w.t 12))⟩), (0, ups [5,0,0], fun w => ⟨_, vPs O K.r K.k K.kt [K.L (Dh K.X 3 0)] (K.tk (1 + Dh K.X 3 0)) (ws K 2 2 6) 48 (ws1_len K 2 2 6 (by decide))⟩), (1, ups [5,0,0], fun w => ⟨_, vGt O K.r K.k K.kt [K.L (Dh K.X 2 2)] (K.tk (1 + Dh K.X 2 2)) (ws K 2 3 5 ++ ws K 3 0 1) 49 (ws2_len K 2 3 5 3 0 1 (by decide))⟩), (0, ups [], fun w => ⟨_, vAdd (lrow K 2 2) (w.t 8) [K.L (Dh K.X 2 2)] (K.tk (1 + Dh K.X 2 2)) (lrow_sz K 2 2 _ (by decide))⟩), (2, ups [8], fun w => ⟨_, vGv' O K hD q 2 1 (w.t 19) (.str ⟨⟨[63]⟩⟩ (w.t 20))⟩), (0, ups [5,0,0], fun w => ⟨_, vPs O K.r K.k K.kt [K.L (Dh K.X 3 1)] (K.tk (1 + Dh K.X 3 1)) (ws K 2 3 5 ++ ws K 3 0 1) 50 (ws2_len K 2 3 5 3 0 1 (by decide))⟩), (1, ups [5,0,0], fun w => ⟨_, vGt O K.r K.k K.kt [K.L (Dh K.X 2 3)] (K.tk (1 + Dh K.X 2 3)) (ws K 2 4 4 ++ ws K 3 0 2) 51 (ws2_len K 2 4 4 3 0 2 (by decide))⟩), (0, ups [], fun w => ⟨_, vAdd (lrow K 2 3) (w.t 15) [K.L (Dh K.X 2 3)] (K.tk (1 + Dh K.X 2 3)) (lrow_sz K 2 3 _ (by decide))⟩), (2, ups [8], fun w => ⟨_, vGv' O K hD q 2 2 (w.t 27) (.str ⟨⟨[63]⟩⟩ (w.t 28))⟩), (0, ups [5,0,0], fun w => ⟨_, vPs O K.r K.k K.kt [K.L (Dh K.X 3 2)] (K.tk (1 + Dh K.X 3 2)) (ws K 2 4 4 ++ ws K 3 0 2) 52 (ws2_len K 2 4 4 3 0 2 (by decide))⟩), (1, ups [5,0,0], fun w => ⟨_, vGt O K.r K.k K.kt [K.L (Dh K.X 2 4)] (K.tk (1 + Dh K.X 2 4)) (ws K 2 5 3 ++ ws K 3 0 3) 53 (ws2_len K 2 5 3 3 0 3 (by decide))⟩), (0, ups [], fun w => ⟨_, vAdd (lrow K 2 4) (w.t 23) [K.L (Dh K.X 2 4)] (K.tk (1 + Dh K.X 2 4)) (lrow_sz K 2 4 _ (by decide))⟩), (2, ups [8], fun w => ⟨_, vGv' O K hD q 2 3 (w.t 35) (.str ⟨⟨[63]⟩⟩ (w.t 36))⟩), (0, ups [5,0,0], fun w => ⟨_, vPs O K.r K.k K.kt [K.L (Dh K.X 3 3)] (K.tk (1 + Dh K.X 3 3)) (ws K 2 5 3 ++ ws K 3 0 3) 54 (ws2_len K 2 5 3 3 0 3 (by decide))⟩), (1, ups [5,0,0], fun w => ⟨_, vGt O K.r K.k K.kt [K.L (Dh K.X 2 5)] (K.tk (1 + Dh K.X 2 5)) (ws K 2 6 2 ++ ws K 3 0 4) 55 (ws2_len K 2 6 2 3 0 4 (by decide))⟩), (0, ups [], fun w => ⟨_, vAdd (lrow K 2 5) (w.t 31) [K.L (Dh K.X 2 5)] (K.tk (1 + Dh K.X 2 5)) (lrow_sz K 2 5 _ (by decide))⟩), (2, ups [8], fun w => ⟨_, vGv' O K hD q 2 4 (w.t 43) (.str ⟨⟨[63]⟩⟩ (w.t 44))⟩), (0, ups [5,0,0], fun w => ⟨_, vPs O K.r K.k K.kt [K.L (Dh K.X 3 4)] (K.tk (1 + Dh K.X 3 4)) (ws K 2 6 2 ++ ws K 3 0 4) 56 (ws2_len K 2 6 2 3 0 4 (by decide))⟩), (1, ups [5,0,0], fun w => ⟨_, vGt O K.r K.k K.kt [K.L (Dh K.X 2 6)] (K.tk (1 + Dh K.X 2 6)) (ws K 2 7 1 ++ ws K 3 0 5) 57 (ws2_len K 2 7 1 3 0 5 (by decide))⟩), (0, ups [], fun w => ⟨_, vAdd (lrow K 2 6) (w.t 39) [K.L (Dh K.X 2 6)] (K.tk (1 + Dh K.X 2 6)) (lrow_sz K 2 6 _ (by decide))⟩), (2, ups [8], fun w => ⟨_, vGv' O K hD q 2 5 (w.t 51) (.str ⟨⟨[63]⟩⟩ (w.t 52))⟩), (0, ups [5,0,0], fun w => ⟨_, vPs O K.r K.k K.kt [K.L (Dh K.X 3 5)] (K.tk (1 + Dh K.X 3 5)) (ws K 2 7 1 ++ ws K 3 0 5) 58 (ws2_len K 2 7 1 3 0 5 (by decide))⟩), (1, ups [5,0,0], fun w => ⟨_, vGt O K.r K.k K.kt [K.L (Dh K.X 2 7)] (K.tk (1 + Dh K.X 2 7)) (ws K 2 8 0 ++ ws K 3 0 6) 59 (ws2_len K 2 8 0 3 0 6 (by decide))⟩), (0, ups [], fun w => ⟨_, vAdd (lrow K 2 7) (w.t 47) [K.L (Dh K.X 2 7)] (K.tk (1 + Dh K.X 2 7)) (lrow_sz K 2 7 _ (by decide))⟩), (2, ups [8], fun w => ⟨_, vGv' O K hD q 2 6 (w.t 59) (.str ⟨⟨[63]⟩⟩ (w.t 60))⟩), (0, ups [5,0,0], fun w => ⟨_, vPs O K.r K.k K.kt [K.L (Dh K.X 3 6)] (K.tk (1 + Dh K.X 3 6)) (ws K 2 8 0 ++ ws K 3 0 6) 60 (ws2_len K 2 8 0 3 0 6 (by decide))⟩), (1, ups [9], fun w => ⟨_, vApp P ra (rowsV K p 2) 2 (.str ⟨⟨lrow K 2 8⟩⟩ (w.t 55)) (by rw [rowsV_len]; decide)⟩)] (ups [0,0,0,0,0,0,0,0,0,0,0])
    (c' := fun w => fl21 (lwZ P) K it) (t' := fun w => dn (fl21 (lwZ P) K it)) (l' := fun w => l21r (fxZ P) (lwZ P) K it ra q (ovr p [(61, w.t 53), (62, w.t 0), (82, w.t 55)]) 3) (ch' := fun _ => ch)
    (fun w => by kernel_rfl) fun w => H _
theorem r21_3 (O : VO V P b scr) {κ : Kont} (hR : Rm V κ 500) (ch : Ch) (K : Kn) (hD : Dist K.L) (it ra : Addr) (q p : Nat → Nat) (R : Lst) (H : ∀ p, G21 V P ch κ K it ra q p 4 R) : G21 V P ch κ K it ra q p 3 R :=
  seg O hR 798 (hsD 404 1731947065226452890388353710609736871415915300530943435309856250030185272116942245475200383414101521453891379873694863953902705561331484264730860603130901016111454099818171878005632106730426775277180433758675169950979168969658475941838486618408001832076974626136076709855197772614720239050051084608922552700465214314420618516822261562297734115735108593792982740813949116223792701034563890749446955452232453491883923090090136850101120093167237095798309983009339299784333284712488933355382475127265528660415279031469855963466961776327446148521979094357714565700769707956323282327423105960163028014771207384738748811600725882475884769714628253424181823814426370050395324647624196311781213162770532162641242050855097683309935792459204734678933341904474769716772922916617228204298461697921569474127772313260000179234346261343538113666686585325666106000779)
    [(1, ups [5,0,0], fun w => ⟨_, vGt O K.r K.k K.kt [K.L (Dh K.X 3 0)] (K.tk (1 + Dh K.X 3 0)) (ws K 3 1 6) 61 (ws1_len K 3 1 6 (by decide))⟩), (7, ups [5,0,0], fun w => ⟨_, vGt O K.r K.k K.kt [K.L (Dh K.X 3 1)] (K.tk (1 + Dh K.X 3 1)) (ws K 3 2 5) 62 (ws1_len K 3 2 5 (by decide))⟩), (0, ups [], fun w => ⟨_, vAdd (lrow K 3 1) (K.tk (1 + Dh K.X 3 0)) [K.L (Dh K.X 3 1)] (K.tk (1 + Dh K.X 3 1)) (lrow_sz K 3 1 _ (by decide))⟩), (2, ups [8], fun w => ⟨_, vGv' O K hD q 3 0 (w.t 8) (.str ⟨⟨[63]⟩⟩ (w.t 12))⟩), (0, ups [5,0,0], fun w => ⟨_, vPs O K.r K.k K.kt [K.L (Dh K.X 4 0)] (K.tk (1 + Dh K.X 4 0)) (ws K 3 2 5) 63 (ws1_len K 3 2 5 (by decide))⟩), (1, ups [5,0,0], fun w => ⟨_, vGt O K.r K.k K.kt [K.L (Dh K.X 3 2)] (K.tk (1 + Dh K.X 3 2)) (ws K 3 3 4 ++ ws K 4 0 1) 64 (ws2_len K 3 3 4 4 0 1 (by decide))⟩), (0, ups [], fun w => ⟨_, vAdd (lrow K 3 2) (w.t 8) [K.L (Dh K.X 3 2)] (K.tk (1 + Dh K.X 3 2)) (lrow_sz K 3 2 _ (by decide))⟩), (2, ups [8], fun w => ⟨_, vGv' O K hD q 3 1 (w.t 19) (.str ⟨⟨[63]⟩⟩ (w.t 20))⟩), (0, ups [5,0,0], fun w => ⟨_, vPs O K.r K.k K.kt [K.L (Dh K.X 4 1)] (K.tk (1 + Dh K.X 4 1)) (ws K 3 3 4 ++ ws K 4 0 1) 65 (ws2_len K 3 3 4 4 0 1 (by decide))⟩), (1, ups [5,0,0], fun w => ⟨_, vGt O K.r K.k K.kt [K.L (Dh K.X 3 3)] (K.tk (1 + Dh K.X 3 3)) (ws K 3 4 3 ++ ws K 4 0 2) 66 (ws2_len K 3 4 3 4 0 2 (by decide))⟩), (0, ups [], fun w => ⟨_, vAdd (lrow K 3 3) (w.t 15) [K.L (Dh K.X 3 3)] (K.tk (1 + Dh K.X 3 3)) (lrow_sz K 3 3 _ (by decide))⟩), (2, ups [8], fun w => ⟨_, vGv' O K hD q 3 2 (w.t 27) (.str ⟨⟨[63]⟩⟩ (w.t 28))⟩), (0, ups [5,0,0], fun w => ⟨_, vPs O K.r K.k K.kt [K.L (Dh K.X 4 2)] (K.tk (1 + Dh K.X 4 2)) (ws K 3 4 3 ++ ws K 4 0 2) 67 (ws2_len K 3 4 3 4 0 2 (by decide))⟩), (1, ups [5,0,0], fun w => ⟨_, vGt O K.r K.k K.kt [K.L (Dh K.X 3 4)] (K.tk (1 + Dh K.X 3 4)) (ws K 3 5 2 ++ ws K 4 0 3) 68 (ws2_len K 3 5 2 4 0 3 (by decide))⟩), (0, ups [], fun w => ⟨_, vAdd (lrow K 3 4) (w.t 23) [K.L (Dh K.X 3 4)] (K.tk (1 + Dh K.X 3 4)) (lrow_sz K 3 4 _ (by decide))⟩), (2, ups [8], fun w => ⟨_, vGv' O K hD q 3 3 (w.t 35) (.str ⟨⟨[63]⟩⟩ (w.t 36))⟩), (0, ups [5,0,0], fun w => ⟨_, vPs O K.r K.k K.kt [K.L (Dh K.X 4 3)] (K.tk (1 + Dh K.X 4 3)) (ws K 3 5 2 ++ ws K 4 0 3) 69 (ws2_len K 3 5 2 4 0 3 (by decide))⟩), (1, ups [5,0,0], fun w => ⟨_, vGt O K.r K.k K.kt [K.L (Dh K.X 3 5)] (K.tk (1 + Dh K.X 3 5)) (ws K 3 6 1 ++ ws K 4 0 4) 70 (ws2_len K 3 6 1 4 0 4 (by decide))⟩), (0, ups [], fun w => ⟨_, vAdd (lrow K 3 5) (w.t 31) [K.L (Dh K.X 3 5)] (K.tk (1 + Dh K.X 3 5)) (lrow_sz K 3 5 _ (by decide))⟩), (2, ups [8], fun w => ⟨_, vGv' O K hD q 3 4 (w.t 43) (.str ⟨⟨[63]⟩⟩ (w.t 44))⟩), (0, ups [5,0,0], fun w => ⟨_, vPs O K.r K.k K.kt [K.L (Dh K.X 4 4)] (K.tk (1 + Dh K.X 4 4)) (ws K 3 6 1 ++ ws K 4 0 4) 71 (ws2_len K 3 6 1 4 0 4 (by decide))⟩), (1, ups [5,0,0], fun w => ⟨_, vGt O K.r K.k K.kt [K.L (Dh K.X 3 6)] (K.tk (1 + Dh K.X 3 6)) (ws K 3 7 0 ++ ws K 4 0 5) 72 (ws2_len K 3 7 0 4 0 5 (by decide))⟩), (0, ups [], fun w => ⟨_, vAdd (lrow K 3 6) (w.t 39) [K.L (Dh K.X 3 6)] (K.tk (1 + Dh K.X 3 6)) (lrow_sz K 3 6 _ (by decide))⟩), (2, ups [8], fun w => ⟨_, vGv' O K hD q 3 5 (w.t 51) (.str ⟨⟨[63]⟩⟩ (w.t 52))⟩), (0, ups [5,0,0], fun w => ⟨_, vPs O K.r K.k K.kt [K.L (Dh K.X 4 5)] (K.tk (1 + Dh K.X 4 5)) (ws K 3 7 0 ++ ws K 4 0 5) 73 (ws2_len K 3 7 0 4 0 5 (by decide))⟩), (1, ups [9], fun w => ⟨_, vApp P ra (rowsV K p 3) 3 (.str ⟨⟨lrow K 3 7⟩⟩ (w.t 47)) (by rw [rowsV_len]; decide)⟩)] (ups [0,0,0,0,0,0,0,0,0,0,0])
    (c' := fun w => fl21 (lwZ P) K it) (t' := fun w => dn (fl21 (lwZ P) K it)) (l' := fun w => l21r (fxZ P) (lwZ P) K it ra q (ovr p [(61, w.t 45), (62, w.t 0), (83, w.t 47)]) 4) (ch' := fun _ => ch)
    (fun w => by kernel_rfl) fun w => H _
theorem r21_4 (O : VO V P b scr) {κ : Kont} (hR : Rm V κ 500) (ch : Ch) (K : Kn) (hD : Dist K.L) (it ra : Addr) (q p : Nat → Nat) (R : Lst) (H : ∀ p, G21 V P ch κ K it ra q p 5 R) : G21 V P ch κ K it ra q p 4 R :=
  seg O hR 686 (hsD 346 10479881565221175975580014170529039411919910000153374973463193990564911778095655069392348916397681888849009651971184220878942626577594545567827152511201492874391835553395633255958144887995918218729870534186171537956612898943101909542208417163255351142691157009168911163782635894051824265526003597786125023623855118961406495569774729035554197316194719275579522572157502067390802435875360005443213059075118556235657128136767105367678616821185128853464792389881083649849275502024320525778348911563794763788035893064785778336662572861651342020762530190692811518636719813944529388493592401648131172866474568347994072158999455963830867285788307377895966985626194147789749897326877224735566351179088247213977186743165580811103363057035)
    [(1, ups [5,0,0], fun w => ⟨_, vGt O K.r K.k K.kt [K.L (Dh K.X 4 0)] (K.tk (1 + Dh K.X 4 0)) (ws K 4 1 5) 74 (ws1_len K 4 1 5 (by decide))⟩), (7, ups [5,0,0], fun w => ⟨_, vGt O K.r K.k K.kt [K.L (Dh K.X 4 1)] (K.tk (1 + Dh K.X 4 1)) (ws K 4 2 4) 75 (ws1_len K 4 2 4 (by decide))⟩), (0, ups [], fun w => ⟨_, vAdd (lrow K 4 1) (K.tk (1 + Dh K.X 4 0)) [K.L (Dh K.X 4 1)] (K.tk (1 + Dh K.X 4 1)) (lrow_sz K 4 1 _ (by decide))⟩), (2, ups [8], fun w => ⟨_, vGv' O K hD q 4 0 (w.t 8) (.str ⟨⟨[63]⟩⟩ (w.t 12))⟩), (0, ups [5,0,0], fun w => ⟨_, vPs O K.r K.k K.kt [K.L (Dh K.X 5 0)] (K.tk (1 + Dh K.X 5 0)) (ws K 4 2 4) 76 (ws1_len K 4 2 4 (by decide))⟩), (1, ups [5,0,0], fun w => ⟨_, vGt O K.r K.k K.kt [K.L (Dh K.X 4 2)] (K.tk (1 + Dh K.X 4 2)) (ws K 4 3 3 ++ ws K 5 0 1) 77 (ws2_len K 4 3 3 5 0 1 (by decide))⟩), (0, ups [], fun w => ⟨_, vAdd (lrow K 4 2) (w.t 8) [K.L (Dh K.X 4 2)] (K.tk (1 + Dh K.X 4 2)) (lrow_sz K 4 2 _ (by decide))⟩), (2, ups [8], fun w => ⟨_, vGv' O K hD q 4 1 (w.t 19) (.str ⟨⟨[63]⟩⟩ (w.t 20))⟩), (0, ups [5,0,0], fun w => ⟨_, vPs O K.r K.k K.kt [K.L (Dh K.X 5 1)] (K.tk (1 + Dh K.X 5 1)) (ws K 4 3 3 ++ ws K 5 0 1) 78 (ws2_len K 4 3 3 5 0 1 (by decide))⟩), (1, ups [5,0,0], fun w => ⟨_, vGt O K.r K.k K.kt [K.L (Dh K.X 4 3)] (K.tk (1 + Dh K.X 4 3)) (ws K 4 4 2 ++ ws K 5 0 2) 79 (ws2_len K 4 4 2 5 0 2 (by decide))⟩), (0, ups [], fun w => ⟨_, vAdd (lrow K 4 3) (w.t 15) [K.L (Dh K.X 4 3)] (K.tk (1 + Dh K.X 4 3)) (lrow_sz K 4 3 _ (by decide))⟩), (2, ups [8], fun w => ⟨_, vGv' O K hD q 4 2 (w.t 27) (.str ⟨⟨[63]⟩⟩ (w.t 28))⟩), (0, ups [5,0,0], fun w => ⟨_, vPs O K.r K.k K.kt [K.L (Dh K.X 5 2)] (K.tk (1 + Dh K.X 5 2)) (ws K 4 4 2 ++ ws K 5 0 2) 80 (ws2_len K 4 4 2 5 0 2 (by decide))⟩), (1, ups [5,0,0], fun w => ⟨_, vGt O K.r K.k K.kt [K.L (Dh K.X 4 4)] (K.tk (1 + Dh K.X 4 4)) (ws K 4 5 1 ++ ws K 5 0 3) 81 (ws2_len K 4 5 1 5 0 3 (by decide))⟩), (0, ups [], fun w => ⟨_, vAdd (lrow K 4 4) (w.t 23) [K.L (Dh K.X 4 4)] (K.tk (1 + Dh K.X 4 4)) (lrow_sz K 4 4 _ (by decide))⟩), (2, ups [8], fun w => ⟨_, vGv' O K hD q 4 3 (w.t 35) (.str ⟨⟨[63]⟩⟩ (w.t 36))⟩), (0, ups [5,0,0], fun w => ⟨_, vPs O K.r K.k K.kt [K.L (Dh K.X 5 3)] (K.tk (1 + Dh K.X 5 3)) (ws K 4 5 1 ++ ws K 5 0 3) 82 (ws2_len K 4 5 1 5 0 3 (by decide))⟩), (1, ups [5,0,0], fun w => ⟨_, vGt O K.r K.k K.kt [K.L (Dh K.X 4 5)] (K.tk (1 + Dh K.X 4 5)) (ws K 4 6 0 ++ ws K 5 0 4) 83 (ws2_len K 4 6 0 5 0 4 (by decide))⟩), (0, ups [], fun w => ⟨_, vAdd (lrow K 4 5) (w.t 31) [K.L (Dh K.X 4 5)] (K.tk (1 + Dh K.X 4 5)) (lrow_sz K 4 5 _ (by decide))⟩), (2, ups [8], fun w => ⟨_, vGv' O K hD q 4 4 (w.t 43) (.str ⟨⟨[63]⟩⟩ (w.t 44))⟩), (0, ups [5,0,0], fun w => ⟨_, vPs O K.r K.k K.kt [K.L (Dh K.X 5 4)] (K.tk (1 + Dh K.X 5 4)) (ws K 4 6 0 ++ ws K 5 0 4) 84 (ws2_len K 4 6 0 5 0 4 (by decide))⟩), (1, ups [9], fun w => ⟨_, vApp P ra (rowsV K p 4) 4 (.str ⟨⟨lrow K 4 6⟩⟩ (w.t 39)) (by rw [rowsV_len]; decide)⟩)] (ups [0,0,0,0,0,0,0,0,0,0,0])
    (c' := fun w => fl21 (lwZ P) K it) (t' := fun w => dn (fl21 (lwZ P) K it)) (l' := fun w => l21r (fxZ P) (lwZ P) K it ra q (ovr p [(61, w.t 37), (62, w.t 0), (84, w.t 39)]) 5) (ch' := fun _ => ch)
    (fun w => by kernel_rfl) fun w => H _
theorem r21_5 (O : VO V P b scr) {κ : Kont} (hR : Rm V κ 500) (ch : Ch) (K : Kn) (hD : Dist K.L) (it ra : Addr) (q p : Nat → Nat) (R : Lst) (H : ∀ p, G21 V P ch κ K it ra q p 6 R) : G21 V P ch κ K it ra q p 5 R :=
  seg O hR 574 (hsD 288 63412975965695922460363203011481927187806118636114411139492435314391335003323012019778630316144046271926360986145687045733193261309282322838339240040622689659453787404953542749625399106973080759500506035471669557398915365279800766912973583605089697004497888820863952960588703588609805666159467626055875762597931524041226170259166263405062863795169988800562574805554297857361713768532664851712955174147672312421651726639968779632984002063098160734894845131789426924054501723456429629625719558746888757972440197696075045184480748249878677380481558890043303813763081998092676209413879684599634395913445885323)
    [(1, ups [5,0,0], fun w => ⟨_, vGt O K.r K.k K.kt [K.L (Dh K.X 5 0)] (K.tk (1 + Dh K.X 5 0)) (ws K 5 1 4) 85 (ws1_len K 5 1 4 (by decide))⟩), (7, ups [5,0,0], fun w => ⟨_, vGt O K.r K.k K.kt [K.L (Dh K.X 5 1)] (K.tk (1 + Dh K.X 5 1)) (ws K 5 2 3) 86 (ws1_len K 5 2 3 (by decide))⟩), (0, ups [], fun w => ⟨_, vAdd (lrow K 5 1) (K.tk (1 + Dh K.X 5 0)) [K.L (Dh K.X 5 1)] (K.tk (1 + Dh K.X 5 1)) (lrow_sz K 5 1 _ (by decide))⟩), (2, ups [8], fun w => ⟨_, vGv' O K hD q 5 0 (w.t 8) (.str ⟨⟨[63]⟩⟩ (w.t 12))⟩), (0, ups [5,0,0], fun w => ⟨_, vPs O K.r K.k K.kt [K.L (Dh K.X 6 0)] (K.tk (1 + Dh K.X 6 0)) (ws K 5 2 3) 87 (ws1_len K 5 2 3 (by decide))⟩), (1, ups [5,0,0], fun w => ⟨_, vGt O K.r K.k K.kt [K.L (Dh K.X 5 2)] (K.tk (1 + Dh K.X 5 2)) (ws K 5 3 2 ++ ws K 6 0 1) 88 (ws2_len K 5 3 2 6 0 1 (by decide))⟩), (0, ups [], fun w => ⟨_, vAdd (lrow K 5 2) (w.t 8) [K.L (Dh K.X 5 2)] (K.tk (1 + Dh K.X 5 2)) (lrow_sz K 5 2 _ (by decide))⟩), (2, ups [8], fun w => ⟨_, vGv' O K hD q 5 1 (w.t 19) (.str ⟨⟨[63]⟩⟩ (w.t 20))⟩), (0, ups [5,0,0], fun w => ⟨_, vPs O K.r K.k K.kt [K.L (Dh K.X 6 1)] (K.tk (1 + Dh K.X 6 1)) (ws K 5 3 2 ++ ws K 6 0 1) 89 (ws2_len K 5 3 2 6 0 1 (by decide))⟩), (1, ups [5,0,0], fun w => ⟨_, vGt O K.r K.k K.kt [K.L (Dh K.X 5 3)] (K.tk (1 + Dh K.X 5 3)) (ws K 5 4 1 ++ ws K 6 0 2) 90 (ws2_len K 5 4 1 6 0 2 (by decide))⟩), (0, ups [], fun w => ⟨_, vAdd (lrow K 5 3) (w.t 15) [K.L (Dh K.X 5 3)] (K.tk (1 + Dh K.X 5 3)) (lrow_sz K 5 3 _ (by decide))⟩), (2, ups [8], fun w => ⟨_, vGv' O K hD q 5 2 (w.t 27) (.str ⟨⟨[63]⟩⟩ (w.t 28))⟩), (0, ups [5,0,0], fun w => ⟨_, vPs O K.r K.k K.kt [K.L (Dh K.X 6 2)] (K.tk (1 + Dh K.X 6 2)) (ws K 5 4 1 ++ ws K 6 0 2) 91 (ws2_len K 5 4 1 6 0 2 (by decide))⟩), (1, ups [5,0,0], fun w => ⟨_, vGt O K.r K.k K.kt [K.L (Dh K.X 5 4)] (K.tk (1 + Dh K.X 5 4)) (ws K 5 5 0 ++ ws K 6 0 3) 92 (ws2_len K 5 5 0 6 0 3 (by decide))⟩), (0, ups [], fun w => ⟨_, vAdd (lrow K 5 4) (w.t 23) [K.L (Dh K.X 5 4)] (K.tk (1 + Dh K.X 5 4)) (lrow_sz K 5 4 _ (by decide))⟩), (2, ups [8], fun w => ⟨_, vGv' O K hD q 5 3 (w.t 35) (.str ⟨⟨[63]⟩⟩ (w.t 36))⟩), (0, ups [5,0,0], fun w => ⟨_, vPs O K.r K.k K.kt [K.L (Dh K.X 6 3)] (K.tk (1 + Dh K.X 6 3)) (ws K 5 5 0 ++ ws K 6 0 3) 93 (ws2_len K 5 5 0 6 0 3 (by decide))⟩), (1, ups [9], fun w => ⟨_, vApp P ra (rowsV K p 5) 5 (.str ⟨⟨lrow K 5 5⟩⟩ (w.t 31)) (by rw [rowsV_len]; decide)⟩)] (ups [0,0,0,0,0,0,0,0,0,0,0])
    (c' := fun w => fl21 (lwZ P) K it) (t' := fun w => dn (fl21 (lwZ P) K it)) (l' := fun w => l21r (fxZ P) (lwZ P) K it ra q (ovr p [(61, w.t 29), (62, w.t 0), (85, w.t 31)]) 6) (ch' := fun _ => ch)
    (fun w => by kernel_rfl) fun w => H _
theorem r21_6 (O : VO V P b scr) {κ : Kont} (hR : Rm V κ 500) (ch : Ch) (K : Kn) (hD : Dist K.L) (it ra : Addr) (q p : Nat → Nat) (R : Lst) (H : ∀ p, G21 V P ch κ K it ra q p 7 R) : G21 V P ch κ K it ra q p 6 R :=
  seg O hR 462 (hsD 230 383707153158181888842149739527023207485386761797602923061347510930816894919694535536343333169237410602114740453949969085858603929134686507748559295606848115558281535981620758935663459487928690469123597942719454325351877148914968460475992512774976955040969063918478127282955837159261656972660634255741822347150898102822873070516011869276409919259470981973259946410611062855553300377419868925749019562710119589895950996481380990134768103008696741687596654147555480415312267685268735371)
    [(1, ups [5,0,0], fun w => ⟨_, vGt O K.r K.k K.kt [K.L (Dh K.X 6 0)] (K.tk (1 + Dh K.X 6 0)) (ws K 6 1 3) 94 (ws1_len K 6 1 3 (by decide))⟩), (7, ups [5,0,0], fun w => ⟨_, vGt O K.r K.k K.kt [K.L (Dh K.X 6 1)] (K.tk (1 + Dh K.X 6 1)) (ws K 6 2 2) 95 (ws1_len K 6 2 2 (by decide))⟩), (0, ups [], fun w => ⟨_, vAdd (lrow K 6 1) (K.tk (1 + Dh K.X 6 0)) [K.L (Dh K.X 6 1)] (K.tk (1 + Dh K.X 6 1)) (lrow_sz K 6 1 _ (by decide))⟩), (2, ups [8], fun w => ⟨_, vGv' O K hD q 6 0 (w.t 8) (.str ⟨⟨[63]⟩⟩ (w.t 12))⟩), (0, ups [5,0,0], fun w => ⟨_, vPs O K.r K.k K.kt [K.L (Dh K.X 7 0)] (K.tk (1 + Dh K.X 7 0)) (ws K 6 2 2) 96 (ws1_len K 6 2 2 (by decide))⟩), (1, ups [5,0,0], fun w => ⟨_, vGt O K.r K.k K.kt [K.L (Dh K.X 6 2)] (K.tk (1 + Dh K.X 6 2)) (ws K 6 3 1 ++ ws K 7 0 1) 97 (ws2_len K 6 3 1 7 0 1 (by decide))⟩), (0, ups [], fun w => ⟨_, vAdd (lrow K 6 2) (w.t 8) [K.L (Dh K.X 6 2)] (K.tk (1 + Dh K.X 6 2)) (lrow_sz K 6 2 _ (by decide))⟩), (2, ups [8], fun w => ⟨_, vGv' O K hD q 6 1 (w.t 19) (.str ⟨⟨[63]⟩⟩ (w.t 20))⟩), (0, ups [5,0,0], fun w => ⟨_, vPs O K.r K.k K.kt [K.L (Dh K.X 7 1)] (K.tk (1 + Dh K.X 7 1)) (ws K 6 3 1 ++ ws K 7 0 1) 98 (ws2_len K 6 3 1 7 0 1 (by decide))⟩), (1, ups [5,0,0], fun w => ⟨_, vGt O K.r K.k K.kt [K.L (Dh K.X 6 3)] (K.tk (1 + Dh K.X 6 3)) (ws K 6 4 0 ++ ws K 7 0 2) 99 (ws2_len K 6 4 0 7 0 2 (by decide))⟩), (0, ups [], fun w => ⟨_, vAdd (lrow K 6 3) (w.t 15) [K.L (Dh K.X 6 3)] (K.tk (1 + Dh K.X 6 3)) (lrow_sz K 6 3 _ (by decide))⟩), (2, ups [8], fun w => ⟨_, vGv' O K hD q 6 2 (w.t 27) (.str ⟨⟨[63]⟩⟩ (w.t 28))⟩), (0, ups [5,0,0], fun w => ⟨_, vPs O K.r K.k K.kt [K.L (Dh K.X 7 2)] (K.tk (1 + Dh K.X 7 2)) (ws K 6 4 0 ++ ws K 7 0 2) 100 (ws2_len K 6 4 0 7 0 2 (by decide))⟩), (1, ups [9], fun w => ⟨_, vApp P ra (rowsV K p 6) 6 (.str ⟨⟨lrow K 6 4⟩⟩ (w.t 23)) (by rw [rowsV_len]; decide)⟩)] (ups [0,0,0,0,0,0,0,0,0,0,0])
    (c' := fun w => fl21 (lwZ P) K it) (t' := fun w => dn (fl21 (lwZ P) K it)) (l' := fun w => l21r (fxZ P) (lwZ P) K it ra q (ovr p [(61, w.t 21), (62, w.t 0), (86, w.t 23)]) 7) (ch' := fun _ => ch)
    (fun w => by kernel_rfl) fun w => H _
theorem r21_7 (O : VO V P b scr) {κ : Kont} (hR : Rm V κ 500) (ch : Ch) (K : Kn) (hD : Dist K.L) (it ra : Addr) (q p : Nat → Nat) (R : Lst) (H : ∀ p, G21 V P ch κ K it ra q p 8 R) : G21 V P ch κ K it ra q p 7 R :=
  seg O hR 350 (hsD 172 2321783154671735999910661118907376602854205986989441534031880730721407779973937537967768354113027891781432935182272376538088500724293788124434248745777511050191026860941630483228885190265703216243722259377361934479040158291262559481165166702623354457000630411362281968800293785196202909030383820132709480783760230327128769981671841497459376141600377218388903307)
    [(1, ups [5,0,0], fun w => ⟨_, vGt O K.r K.k K.kt [K.L (Dh K.X 7 0)] (K.tk (1 + Dh K.X 7 0)) (ws K 7 1 2) 101 (ws1_len K 7 1 2 (by decide))⟩), (7, ups [5,0,0], fun w => ⟨_, vGt O K.r K.k K.kt [K.L (Dh K.X 7 1)] (K.tk (1 + Dh K.X 7 1)) (ws K 7 2 1) 102 (ws1_len K 7 2 1 (by decide))⟩), (0, ups [], fun w => ⟨_, vAdd (lrow K 7 1) (K.tk (1 + Dh K.X 7 0)) [K.L (Dh K.X 7 1)] (K.tk (1 + Dh K.X 7 1)) (lrow_sz K 7 1 _ (by decide))⟩), (2, ups [8], fun w => ⟨_, vGv' O K hD q 7 0 (w.t 8) (.str ⟨⟨[63]⟩⟩ (w.t 12))⟩), (0, ups [5,0,0], fun w => ⟨_, vPs O K.r K.k K.kt [K.L (Dh K.X 8 0)] (K.tk (1 + Dh K.X 8 0)) (ws K 7 2 1) 103 (ws1_len K 7 2 1 (by decide))⟩), (1, ups [5,0,0], fun w => ⟨_, vGt O K.r K.k K.kt [K.L (Dh K.X 7 2)] (K.tk (1 + Dh K.X 7 2)) (ws K 7 3 0 ++ ws K 8 0 1) 104 (ws2_len K 7 3 0 8 0 1 (by decide))⟩), (0, ups [], fun w => ⟨_, vAdd (lrow K 7 2) (w.t 8) [K.L (Dh K.X 7 2)] (K.tk (1 + Dh K.X 7 2)) (lrow_sz K 7 2 _ (by decide))⟩), (2, ups [8], fun w => ⟨_, vGv' O K hD q 7 1 (w.t 19) (.str ⟨⟨[63]⟩⟩ (w.t 20))⟩), (0, ups [5,0,0], fun w => ⟨_, vPs O K.r K.k K.kt [K.L (Dh K.X 8 1)] (K.tk (1 + Dh K.X 8 1)) (ws K 7 3 0 ++ ws K 8 0 1) 105 (ws2_len K 7 3 0 8 0 1 (by decide))⟩), (1, ups [9], fun w => ⟨_, vApp P ra (rowsV K p 7) 7 (.str ⟨⟨lrow K 7 3⟩⟩ (w.t 15)) (by rw [rowsV_len]; decide)⟩)] (ups [0,0,0,0,0,0,0,0,0,0,0])
    (c' := fun w => fl21 (lwZ P) K it) (t' := fun w => dn (fl21 (lwZ P) K it)) (l' := fun w => l21r (fxZ P) (lwZ P) K it ra q (ovr p [(61, w.t 13), (62, w.t 0), (87, w.t 15)]) 8) (ch' := fun _ => ch)
    (fun w => by kernel_rfl) fun w => H _
theorem r21_8 (O : VO V P b scr) {κ : Kont} (hR : Rm V κ 500) (ch : Ch) (K : Kn) (hD : Dist K.L) (it ra : Addr) (q p : Nat → Nat) (R : Lst) (H : ∀ p, G21 V P ch κ K it ra q p 9 R) : G21 V P ch κ K it ra q p 8 R :=
  seg O hR 238 (hsD 114 14048935426270646644833808977029799201315455071657057715819093578561420749575361570824967060169639170515989701443102316305185546770059766764096405483376547629301225046198255384950522993756388487805174021907841297955815655470325258439017867)
    [(1, ups [5,0,0], fun w => ⟨_, vGt O K.r K.k K.kt [K.L (Dh K.X 8 0)] (K.tk (1 + Dh K.X 8 0)) (ws K 8 1 1) 106 (ws1_len K 8 1 1 (by decide))⟩), (7, ups [5,0,0], fun w => ⟨_, vGt O K.r K.k K.kt [K.L (Dh K.X 8 1)] (K.tk (1 + Dh K.X 8 1)) (ws K 8 2 0) 107 (ws1_len K 8 2 0 (by decide))⟩), (0, ups [], fun w => ⟨_, vAdd (lrow K 8 1) (K.tk (1 + Dh K.X 8 0)) [K.L (Dh K.X 8 1)] (K.tk (1 + Dh K.X 8 1)) (lrow_sz K 8 1 _ (by decide))⟩), (2, ups [8], fun w => ⟨_, vGv' O K hD q 8 0 (w.t 8) (.str ⟨⟨[63]⟩⟩ (w.t 12))⟩), (0, ups [5,0,0], fun w => ⟨_, vPs O K.r K.k K.kt [K.L (Dh K.X 9 0)] (K.tk (1 + Dh K.X 9 0)) (ws K 8 2 0) 108 (ws1_len K 8 2 0 (by decide))⟩), (1, ups [9], fun w => ⟨_, vApp P ra (rowsV K p 8) 8 (.str ⟨⟨lrow K 8 2⟩⟩ (w.t 8)) (by rw [rowsV_len]; decide)⟩)] (ups [0,0,0,0,0,0,0,0,0,0,0])
    (c' := fun w => fl21 (lwZ P) K it) (t' := fun w => dn (fl21 (lwZ P) K it)) (l' := fun w => l21r (fxZ P) (lwZ P) K it ra q (ovr p [(61, w.t 6), (62, w.t 0), (88, w.t 8)]) 9) (ch' := fun _ => ch)
    (fun w => by kernel_rfl) fun w => H _
theorem r21_9 (O : VO V P b scr) {κ : Kont} (hR : Rm V κ 500) (ch : Ch) (K : Kn) (hD : Dist K.L) (it ra : Addr) (q p : Nat → Nat) (R : Lst) (H : ∀ p, G21 V P ch κ K it ra q p 10 R) : G21 V P ch κ K it ra q p 9 R :=
  seg O hR 126 (hsD 56 85009052725006874141292110269358408607107932899644885486370374932739944934133784041691457188793716472538558667867531)
    [(1, ups [5,0,0], fun w => ⟨_, vGt O K.r K.k K.kt [K.L (Dh K.X 9 0)] (K.tk (1 + Dh K.X 9 0)) (ws K 9 1 0) 109 (ws1_len K 9 1 0 (by decide))⟩), (7, ups [9], fun w => ⟨_, vApp P ra (rowsV K p 9) 9 (.str ⟨⟨lrow K 9 1⟩⟩ (K.tk (1 + Dh K.X 9 0))) (by rw [rowsV_len]; decide)⟩)] (ups [0,0,0,0,0,0,0,0,0,0,0])
    (c' := fun w => fl21 (lwZ P) K it) (t' := fun w => dn (fl21 (lwZ P) K it)) (l' := fun w => l21r (fxZ P) (lwZ P) K it ra q (ovr p [(62, w.t 0)]) 10) (ch' := fun _ => ch)
    (fun w => by kernel_rfl) fun w => H _
theorem r21_10 (O : VO V P b scr) {κ : Kont} (hR : Rm V κ 500) (ch : Ch) (K : Kn) (it ra : Addr) (q p : Nat → Nat) (R : Lst) (H : Rr V ch κ (.ok .next) (l21r (fxZ P) (lwZ P) K it ra q p 10 ++ R)) : G21 V P ch κ K it ra q p 10 R :=
  segR O hR 15 [11,11,11,11,11,13] [] (ups [0,0,0,0,0,0,0,0,0,0,0]) (r := fun w => .ok .next) (l' := fun w => l21r (fxZ P) (lwZ P) K it ra q p 10) (ch' := fun _ => ch) (fun w => by kernel_rfl) fun w => H
noncomputable def tOf9 (q : Nat → Nat) : Nat → Tok := fun j => match Nat.blt j 90 with
  | true => q j
  | false => 0
theorem tOf9_out (q : Nat → Nat) (j : Nat) (h : 90 ≤ j) : tOf9 q j = 0 := by
  unfold tOf9
  cases e : Nat.blt j 90 with
  | false => rfl
  | true => have := blt_true e; omega
noncomputable def cRows (Q : Fx) (W : Lw) (K : Kn) (it ra : Addr) (q : Nat → Nat) : Con := ⟨fl21 W K it, l21r Q W K it ra q (fun _ => 0) 0,0,90,
  fun _ θ => objsOf (l21r Q W K it ra q θ 10), fun _ _ => [], fun _ _ => .ok .next, 500⟩
theorem vRows (O : VO V P b scr) (K : Kn) (hD : Dist K.L) (it ra : Addr) (q : Nat → Nat) : Valid V (cRows (fxZ P) (lwZ P) K it ra q) := by
  intro ch c κ R g lv k hR H
  refine G.call ?_
  refine r21_0 O hR ch K hD it ra q (fun _ => 0) R fun p => r21_1 O hR ch K hD it ra q p R fun p => r21_2 O hR ch K hD it ra q p R fun p => r21_3 O hR ch K hD it ra q p R fun p => r21_4 O hR ch K hD it ra q p R fun p =>
    r21_5 O hR ch K hD it ra q p R fun p => r21_6 O hR ch K hD it ra q p R fun p => r21_7 O hR ch K hD it ra q p R fun p => r21_8 O hR ch K hD it ra q p R fun p => r21_9 O hR ch K hD it ra q p R fun p => ?_
  refine r21_10 O hR ch K it ra q p R (Rr.ret ?_)
  have z := H (fun _ => 0) (tOf9 p) (fun _ _ => rfl) (tOf9_out p)
  have e : reput (cRows (fxZ P) (lwZ P) K it ra q).foot ((cRows (fxZ P) (lwZ P) K it ra q).post (fun _ => 0) (tOf9 p)) ++ newL (fun _ => 0) 0 ((cRows (fxZ P) (lwZ P) K it ra q).new (fun _ => 0) (tOf9 p)) = l21r (fxZ P) (lwZ P) K it ra q p 10 := by kernel_rfl
  rw [e] at z
  exact z
end
end Mine
namespace Mine
open PySem PySem.W PySem.W.X PySem.Spec PySem.Calls PyProof.Rows
noncomputable def mtZ : String := SZ.s6181755712446570794x6
noncomputable def ciZ : String := SZ.s12148877158373987119x17
noncomputable def bmO (s : String) (me : Addr) : Obj := { cls := .type s, data := .fields ⟨[.ref 84, .ref me]⟩ }
noncomputable def ciO (s : String) (bm : Addr) (t : Tok) : Obj := { cls := .type s, data := .fields ⟨[.ref bm, .str ⟨⟨[]⟩⟩ t, .bool false]⟩ }
noncomputable def ciE (s : String) : Obj := { cls := .type s, data := .fields ⟨[.none, .none, .bool true]⟩ }
section
variable {V : XV} {ch : Ch} {c : Code} {κ : Kont} {l : Lst}
theorem G.eqAgain {t : Sem PySem.Fin} {c' : Code} (e : t = Sem.pure (Fin.again c')) (hq : qt c' = true) (x : G V ch c' κ (dn c') l) : G V ch c κ t l := by
  rw [e]; exact G.again hq x
theorem G.boolRec {t : Sem PySem.Fin} {B : Bool} {X Y : Sem Bool} {f : Bool → Sem PySem.Fin} (e : t = W.R.bindR (@Bool.rec (fun _ => Sem Bool) Y X B) f) (x1 : G V ch c κ (W.R.bindR X f) l) (x2 : G V ch c κ (W.R.bindR Y f) l) : G V ch c κ t l := by
  rw [e]
  cases B with
  | true => exact x1
  | false => exact x2
theorem G.eqCall {t : Sem PySem.Fin} {c' : Code} {g : Bool} {lv : List Value} {k : Result → Sem PySem.Fin} (e : t = Sem.call c' none g lv k) (x : G V ch c κ (Sem.call c' none g lv k) l) : G V ch c κ t l := by
  rw [e]; exact x
end
theorem rm_push {V : XV} {κ : Kont} {n n' : Nat} {c : Code} {k : Result → Sem PySem.Fin} (h : Rm V κ n) (e : Nat.ble (n + cw c) n' = true) : Rm V (.ret c none k κ) n' :=
  ⟨Nat.le_trans (h.push c k).room (Nat.le_of_ble_eq_true e), (h.push c k).hand⟩
section
variable {V : XV} {P : Params} {b : Bool} {scr : Obj}
noncomputable def cBm (N : Nm) (fn cd mt : String) (F : FuncData) (r : Rd) (sg bm : Addr) (n : Nat) (k : Int) (kt : Tok) (m : Nat) : Con := ⟨.call (.ref bm) ⟨[],[]⟩, rdO N fn cd F r sg [] n k kt [] m ++ [(bm, bmO mt r.me)],0,1, fun _ _ => [], fun _ _ => [], fun _ θ => .ok (.ret (.str ⟨⟨[]⟩⟩ (θ 0))), 850⟩
theorem vBm (O : VO V P b scr) (r : Rd) (sg bm : Addr) (n : Nat) (k : Int) (kt : Tok) (m : Nat) : Valid V (cBm (nmZ P) fnZ cdZ mtZ (strF P) r sg bm n k kt m) :=
  valid_of O _ 97 (hsD 46 740027002064828128536288485931028591559445827739980948713730018596044213884543334510246741671946) [] (ups [0,0,0,0,0,0,0,0,0,0]) (fun w => []) (fun w => [w.t 7]) (fun _ => rfl) (fun _ => rfl) (fun ch κ w => by kernel_rfl)
noncomputable def cCnE (N : Nm) (fn cd mt ci st : String) (F : FuncData) (r : Rd) (sg bm it : Addr) (t : Tok) (n : Nat) (k : Int) (kt : Tok) (m : Nat) : Con := ⟨calB "callable_iterator.__next__" [.ref it], rdO N fn cd F r sg [] n k kt [] m ++ [(bm, bmO mt r.me), (it, ciO ci bm t)],2,0,
  fun _ _ => objsOf (rdO N fn cd F r sg [] n k kt [] m) ++ [bmO mt r.me, ciE ci], fun α _ => [tupO N [], stopO st (α 0)], fun α _ => .error (.ref (α 1)), 800⟩
theorem vCnE (O : VO V P b scr) (r : Rd) (sg bm it : Addr) (t : Tok) (n : Nat) (k : Int) (kt : Tok) (m : Nat) : Valid V (cCnE (nmZ P) fnZ cdZ mtZ ciZ stopZ (strF P) r sg bm it t n k kt m) := by
  refine Valid0.call ?_
  intro ch κ R hR K
  refine G.eqLoad (a := _) (q := _) (k := _) (o := ciO ciZ bm t) rfl (fun h D => D.mem (by simp [cCnE, rdO])) ?_
  refine G.eqAgain (c' := _) rfl (by kernel_rfl) ?_
  refine G.eqLoad (a := _) (q := _) (k := _) (o := ciO ciZ bm t) rfl (fun h D => D.mem (by simp [cCnE, rdO])) ?_
  refine G.eqLoad (a := _) (q := _) (k := _) (o := ciO ciZ bm t) rfl (fun h D => D.mem (by simp [cCnE, rdO])) ?_
  refine G.eqLoad (a := _) (q := _) (k := _) (o := bmO mtZ r.me) rfl (fun h D => D.mem (by simp [cCnE, rdO])) ?_
  refine G.eqLoad (a := _) (q := _) (k := _) (o := zo84 P) rfl (fun h D => O.old (by kernel_rfl) D) ?_
  refine G.eqCall (c' := .call (.ref bm) ⟨[],[]⟩) (g := _) (lv := _) (k := _) rfl ?_
  have pm : ((cCnE (nmZ P) fnZ cdZ mtZ ciZ stopZ (strF P) r sg bm it t n k kt m).foot ++ R).Perm ((cBm (nmZ P) fnZ cdZ mtZ (strF P) r sg bm n k kt m).foot ++ ((it, ciO ciZ bm t) :: R)) := List.Perm.of_eq (by simp [cCnE, cBm])
  refine G.perm pm (vBm O r sg bm n k kt m ch _ κ _ _ _ _ (rm_push hR (by kernel_rfl)) fun α θ _ _ => ?_)
  have mi : (it, ciO ciZ bm t) ∈ (reput (cBm (nmZ P) fnZ cdZ mtZ (strF P) r sg bm n k kt m).foot ((cBm (nmZ P) fnZ cdZ mtZ (strF P) r sg bm n k kt m).post α θ) ++ newL α 0 ((cBm (nmZ P) fnZ cdZ mtZ (strF P) r sg bm n k kt m).new α θ)) ++ ((it, ciO ciZ bm t) :: R) := List.mem_append_right _ List.mem_cons_self
  refine G.eqLoad (a := _) (q := _) (k := _) (o := ciO ciZ bm t) rfl (fun h D => D.mem mi) ?_
  refine G.eqLoad (a := _) (q := _) (k := _) (o := ciO ciZ bm t) rfl (fun h D => D.mem mi) ?_
  have fin : ∀ w : Ora, Rr V ch κ (.error (.ref (w.a 1))) ((rdO (nmZ P) fnZ cdZ (strF P) r sg [] n k kt [] m ++ [(bm, bmO mtZ r.me), (it, ciE ciZ), (w.a 0, tupO (nmZ P) []), (w.a 1, stopO stopZ (w.a 0))]) ++ R) := fun w =>
    K (nth [w.a 0, w.a 1]) (fun _ => 0) (fun j hj => nth_out _ _ hj) (fun _ _ => rfl)
  have pm2 : ((reput (cBm (nmZ P) fnZ cdZ mtZ (strF P) r sg bm n k kt m).foot ((cBm (nmZ P) fnZ cdZ mtZ (strF P) r sg bm n k kt m).post α θ) ++ newL α 0 ((cBm (nmZ P) fnZ cdZ mtZ (strF P) r sg bm n k kt m).new α θ)) ++ ((it, ciO ciZ bm t) :: R)).Perm ((rdO (nmZ P) fnZ cdZ (strF P) r sg [] n k kt [] m ++ [(bm, bmO mtZ r.me), (it, ciO ciZ bm t)]) ++ R) := List.Perm.of_eq (by simp [cBm, reput_nil, newL])
  refine G.perm pm2 ?_
  refine G.boolRec (B := _) (X := _) (Y := _) (f := _) rfl ?_ ?_
  · exact segR O hR 14 [11,10,0,11,11,11,11,11,11] [] (ups [0,0,0,0,0,0,0,0,0,0,0,0,0]) (r := fun w => .error (.ref (w.a 1))) (l' := fun w => rdO (nmZ P) fnZ cdZ (strF P) r sg [] n k kt [] m ++ [(bm, bmO mtZ r.me), (it, ciE ciZ), (w.a 0, tupO (nmZ P) []), (w.a 1, stopO stopZ (w.a 0))]) (ch' := fun _ => ch) (fun w => by kernel_rfl) fin
  · exact segR O hR 17 [11,10,0,11,11,11,11,11,11] [] (ups [0,0,0,0,0,0,0,0,0,0,0,0,0]) (r := fun w => .error (.ref (w.a 1))) (l' := fun w => rdO (nmZ P) fnZ cdZ (strF P) r sg [] n k kt [] m ++ [(bm, bmO mtZ r.me), (it, ciE ciZ), (w.a 0, tupO (nmZ P) []), (w.a 1, stopO stopZ (w.a 0))]) (ch' := fun _ => ch) (fun w => by kernel_rfl) fin
end
end Mine
namespace Mine
open PySem PySem.W PySem.W.X PySem.Spec PySem.Calls PyProof.Rows
section
variable {V : XV} {P : Params} {b : Bool} {scr : Obj}
noncomputable def cTok0 (N : Nm) (fn cd : String) (F : FuncData) (r : Rd) (sg : Addr) (n : Nat) (k : Int) (kt : Tok) (m : Nat) : Con := ⟨.call (.ref 91) ⟨[.ref r.me],[]⟩, rdO N fn cd F r sg [] n k kt [] m, 0,1,
  fun _ _ => [], fun _ _ => [], fun _ θ => .ok (.ret (.str ⟨⟨[]⟩⟩ (θ 0))), 600⟩
theorem vTok0E (O : VO V P b scr) (r : Rd) (sg : Addr) (n : Nat) (k : Int) (kt : Tok) (m : Nat) : Valid V (cTok0 (nmZ P) fnZ cdZ (strF P) r sg n k kt m) :=
  valid_of O _ 124 (hsD 59 1670837667179461718123062104961535477224677606067461154703237296683685132976889143903950068101935138706624354752138091593728) [(8, ups [0,0,0,0,0,0,0,0,0,1,0], fun w => ⟨_, vCnE O r sg (w.a 1) (w.a 2) (w.t 7) (n + 0) (k) kt m⟩)] (ups [0,0,0,0,0,0,0,0,0]) (fun w => []) (fun w => [w.t 4]) (fun _ => rfl) (fun _ => rfl) (fun ch κ w => by kernel_rfl)
theorem vTokZ1 (O : VO V P b scr) (r : Rd) (sg : Addr) (n : Nat) (k : Int) (kt : Tok) (m : Nat) (u : Nat → Tok) : Valid V (cTok (nmZ P) fnZ cdZ (strF P) r sg (rv [122] u 0) [] n (n + 1) k (k) kt m 122) :=
  valid_of O _ 352 (hsD 154 256579345135024372177019038926367141089734588858710062708653428416855929232432505753270940349719979203003093761699643674070414587275009461116379679561613760468263301349591907675696900682466694487399564302755017739351921712730584063935841589599818187971306404073073888360223366725889464765852005865759557287900923723669209088) [(25, ups [0,0,0,0,0,0,0,0,0,1,0], fun w => ⟨_, vCnE O r sg (w.a 1) (w.a 2) (w.t 7) (n + 1) (k) kt m⟩)] (ups [0,0,0,0,0,0,0,0,0]) (fun w => []) (fun w => [u 0, kt]) (fun _ => rfl) (fun _ => rfl) (fun ch κ w => by kernel_rfl)
theorem vTokZ2 (O : VO V P b scr) (r : Rd) (sg : Addr) (n : Nat) (k : Int) (kt : Tok) (m : Nat) (u : Nat → Tok) : Valid V (cTok (nmZ P) fnZ cdZ (strF P) r sg (rv [10,122] u 0) [] n (n + 2) k (k + 1) kt m 122) :=
  valid_of O _ 569 (hsD 264 1595831248304240393040163643637856808610419240167788406600700051415638190417453995016527547752349021213319087636801231300432119941928812017764581025995908629520689207436855131785636177186753918844480942233093146975327061792384571810470745609695668958973128438809857515942131089520265679342003018249103243925702509960326956573989888614079718513584848346937651182799149705759196982245821281966336202251724241204954955897694663925587149608704334094455532253938837104871907729790631691281420715651939105528592221346563725005813620282711185889476996126350671872) [(40, ups [0,0,0,0,0,0,0,0,0,1,0], fun w => ⟨_, vCnE O r sg (w.a 1) (w.a 2) (w.t 7) (n + 2) (k + 1) (w.t 20) m⟩)] (ups [0,0,0,0,0,0,0,0,0]) (fun w => []) (fun w => [u 1, w.t 20]) (fun _ => rfl) (fun _ => rfl) (fun ch κ w => by kernel_rfl)
theorem vTokZ3 (O : VO V P b scr) (r : Rd) (sg : Addr) (n : Nat) (k : Int) (kt : Tok) (m : Nat) (u : Nat → Tok) : Valid V (cTok (nmZ P) fnZ cdZ (strF P) r sg (rv [9,122] u 0) [] n (n + 2) k (k) kt m 122) :=
  valid_of O _ 519 (hsD 234 969812718660693862817185466320217685933981095882352495110539689147525007074260878972602447408974644155954039216448447222514767103729418362178773928955702128527031440616543575163012040889784355138183447200489939548020071060774304826374279010362634576988815334732431021406287380256314811493421553204833548099004989941517351750707664004263580536964624733025185563908316212097006125115488604104758027583472472808147214799714129749796209176510807135319502494536050923570332085332177954607873556480) [(37, ups [0,0,0,0,0,0,0,0,0,1,0], fun w => ⟨_, vCnE O r sg (w.a 1) (w.a 2) (w.t 7) (n + 2) (k) kt m⟩)] (ups [0,0,0,0,0,0,0,0,0]) (fun w => []) (fun w => [u 1, kt]) (fun _ => rfl) (fun _ => rfl) (fun ch κ w => by kernel_rfl)
noncomputable def cTkL (N : Nm) (fn cd : String) (F : FuncData) (r : Rd) (sg : Addr) (pd : List Nat) (T : Nat → Tok) (j n : Nat) (k : Int) (kt : Tok) (m : Nat) : Con :=
  cTok N fn cd F r sg (rv (pd ++ [122]) T j) [] n (n + (pd ++ [122]).length) k (cnt pd k) kt m 122
theorem rv_shift (x : List Nat) (T : Nat → Tok) (j d : Nat) : rv x T (j + d) = rv x (fun i => T (i + d)) j := by
  induction x generalizing j with
  | nil => rfl
  | cons a x ih => show rv x T (j + d + 1) ++ _ = rv x _ (j + 1) ++ _; rw [← ih (j + 1), show j + d + 1 = j + 1 + d by omega]
theorem vTkL (O : VO V P b scr) (r : Rd) (sg : Addr) (pd : List Nat) (hp : pd = [] ∨ pd = [10] ∨ pd = [9]) (T : Nat → Tok) (j n : Nat) (k : Int) (kt : Tok) (m : Nat) : Valid V (cTkL (nmZ P) fnZ cdZ (strF P) r sg pd T j n k kt m) := by
  have e := rv_shift (pd ++ [122]) T 0 j
  rw [Nat.zero_add] at e
  unfold cTkL
  rw [e]
  rcases hp with rfl | rfl | rfl
  · exact vTokZ1 O r sg n k kt m _
  · exact vTokZ2 O r sg n k kt m _
  · exact vTokZ3 O r sg n k kt m _
end
end Mine
namespace Mine
open PySem PySem.W PySem.W.X PySem.Spec PySem.Calls PyProof.Rows
noncomputable def lE (Q : Fx) (K : Kn) (q p : Nat → Nat) (es : List (List Nat × Tok × Value)) (ne : Nat) (c10 c11 : Option Value) (vs : List Value) (n : Nat) (k : Int) (kt : Tok) (more : Lst) : Lst :=
  frame Q.N K.ad (fr13k K (kv21 K p 10) ++ (es18s K q 2 9 ++ es21 K p 10 ++ es)) ne [some (.ref 139), some (.int K.tot (K.tk 0)), some (.ref (K.ad 12)), some (.ref (K.ad 13)), some (.ref (K.ad 14)), some (.ref K.r.me), some (.ref (K.ad 24)), some (.ref (q 9)), c21 p 10, c10, c11] ++
    ([(K.ad 12, lettersO Q.N K.L K.tk), (K.ad 14, drawsO Q.N K.X K.T)] ++ (rdO Q.N Q.fn Q.cd Q.F K.r (K.ad 16) vs n k kt [] 110 ++
      ([(K.ad 24, dctO Q.N (gvL K.L K.tk (gt18 q) 9) 9), (q 0, lstO Q.N (prsV K q) 0), (q 9, lstO Q.N (rowsV K p 10) 10)] ++ more)))
end Mine
namespace Mine
open PySem PySem.W PySem.W.X PySem.Spec PySem.Calls PyProof.Rows
section
variable {V : XV} {P : Params} {b : Bool} {scr : Obj}
theorem sF21 (O : VO V P b scr) {κ : Kont} (hR : Rm V κ 400) (K : Kn) (hD : Dist K.L) (q : Nat → Nat) (R : Lst) (H : ∀ p, LG V P κ R (chR K.r) (lE (fxZ P) K q p [] 15 none none K.vs K.n K.k K.kt []) 22) :
    LG V P κ R (chR K.r) (l21 (fxZ P) K q [] 14 none none none (psO K) 10 [] 0 []) 21 :=
  segL O hR 38 [0,0,27,27,27,27,27,27,27,27,27,27,28]
    [(4, ups [0,5,0,0,0,10,0,0,0,1,1], fun w => ⟨_, vRows O K hD (w.a 1) (q 9) q⟩)]
    (ups [0,0,0,0,0,0,0,0,0,0,0,0,0,0,0,0,0,0,0,0,0,0,0,0,0,0]) (fun w => lE (fxZ P) K q (cut w.t 3 90) [] 15 none none K.vs K.n K.k K.kt []) 22 (fun w => chR K.r) (fun w => by kernel_rfl) fun w => H _
end
end Mine
namespace Mine
open PySem PySem.W PySem.W.X PySem.Spec PySem.Calls PyProof.Rows
section
variable {V : XV} {ch : Ch} {c : Code} {κ : Kont} {l R : Lst} {P : Params} {b : Bool} {scr : Obj}
theorem G.eqLd {t : Sem PySem.Fin} {p : Addr × Obj} {q : Option Value} {k : Obj → Sem PySem.Fin} (j : Nat) (hj : lget l j = some p) (e : t = Sem.load p.1 q k) (x : G V ch c κ (k p.2) (l ++ R)) : G V ch c κ t (l ++ R) := by
  rw [e]
  exact G.load (fun h D => (D.nw _ (List.mem_append_left _ (lget_mem hj))).1) x
theorem G.eqOld (O : VO V P b scr) {t : Sem PySem.Fin} {a : Addr} {o : Obj} {q : Option Value} {k : Obj → Sem PySem.Fin} (e : t = Sem.load a q k) (ho : oldAt (ktm P scr) a = some o) (x : G V ch c κ (k o) l) : G V ch c κ t l := by
  rw [e]
  exact G.load (fun h D => O.old ho D) x
theorem G.eqAlloc {t : Sem PySem.Fin} {o : Obj} {k : Addr → Sem PySem.Fin} (e : t = Sem.alloc o k) (hf : o.isFreed = false) (x : ∀ a, G V ch c κ (k a) ((l ++ [(a, o)]) ++ R)) : G V ch c κ t (l ++ R) := by
  rw [e]
  exact G.alloc hf x
theorem G.room2 {α1 α2 α3 : Type} {t : Sem PySem.Fin} {A Y : Sem Unit} {B : Bool} {v1 v2 : List Value} {f1 : Unit → Sem Value} {f2 : Value → Sem α1} {f3 : α1 → Sem α2} {f4 : α2 → Sem α3} {f5 : α3 → Sem Flow} {f6 : Flow → Sem PySem.Fin} {f7 : Value → Sem Unit}
    (e : t = W.R.onRaiseR (W.R.bindR (W.R.bindR (W.R.bindR (W.R.bindR (W.R.bindR (W.R.keepR v1 (W.R.keepR v2 (W.R.bindR (cond B A Y) f1))) f2) f3) f4) f5) f6) f7) (hB : B = false) (x : G V ch c κ (W.R.onRaiseR (W.R.bindR (W.R.bindR (W.R.bindR (W.R.bindR (W.R.bindR (W.R.keepR v1 (W.R.keepR v2 (W.R.bindR (Y) f1))) f2) f3) f4) f5) f6) f7) l) : G V ch c κ t l := by
  rw [e, hB]; exact x
theorem G.eqUpd {t : Sem PySem.Fin} {p : Addr × Obj} {q : Option Value} {f : Obj → Obj} {k : Unit → Sem PySem.Fin} (j : Nat) (hj : lget l j = some p) (e : t = Sem.update p.1 q f k) (hf : (f p.2).isFreed = false) (x : G V ch c κ (k ()) (lset l j (f p.2) ++ R)) : G V ch c κ t (l ++ R) := by
  rw [e]
  exact G.update hj hf x
theorem G.eqAsk (O : VO V P b scr) {t : Sem PySem.Fin} {k : Setting → Sem PySem.Fin} (e : t = Sem.ask k) (h : k (sT P b) = k (sF P b)) (x : G V ch c κ (k (sT P b)) l) : G V ch c κ t l := by
  rw [e]
  rcases O.set with q | q
  · rw [q] at x; exact G.skim x
  · rw [h, q] at x; exact G.skim x
theorem G.cast {t : Sem PySem.Fin} {l' : Lst} (e : l = l') (x : G V ch c κ t (l' ++ R)) : G V ch c κ t (l ++ R) := e ▸ x
theorem G.callC {lv : Nat} (hR : Rm V κ lv) {C : Con} (hC : Valid V C) (hb : Nat.ble (lv + cw c) C.lv = true) (m : List Bool) {t : Sem PySem.Fin} {g : Bool} {lvv : List Value} {k : Result → Sem PySem.Fin} (e : t = Sem.call C.c none g lvv k) (hm : maskT l m = C.foot)
    (x : ∀ α θ, G V ch c κ (k (C.r α θ)) ((maskPut l m (C.post α θ) ++ newL α 0 (C.new α θ)) ++ R)) : G V ch c κ t (l ++ R) := by
  rw [e]
  have pm : (l ++ R).Perm (C.foot ++ (maskF l m ++ R)) := by
    rw [← hm, ← List.append_assoc]
    exact (mask_perm l m).append_right R
  refine G.perm pm (hC ch c κ _ g lvv k ⟨Nat.le_trans (hR.push c k).room (Nat.le_of_ble_eq_true hb), (hR.push c k).hand⟩ fun α θ _ _ => ?_)
  refine G.perm ?_ (x α θ)
  have p1 := maskPut_perm l m (C.post α θ)
  rw [hm] at p1
  have p2 : ((reput C.foot (C.post α θ) ++ newL α 0 (C.new α θ)) ++ (maskF l m ++ R)).Perm ((reput C.foot (C.post α θ) ++ maskF l m) ++ newL α 0 (C.new α θ) ++ R) := by
    rw [List.append_assoc, List.append_assoc, List.append_assoc]
    refine List.Perm.append_left _ ?_
    rw [← List.append_assoc, ← List.append_assoc]
    exact List.Perm.append_right _ List.perm_append_comm
  exact p2.trans ((p1.symm.append_right _).append_right _)
theorem G.callE {lv : Nat} (hR : Rm V κ lv) {C : Con} (hC : Valid V C) (hb : Nat.ble (lv + cw c) C.lv = true) (m : List Bool) {c' : Code} {g : Bool} {lvv : List Value} {k : Result → Sem PySem.Fin} (e : c' = C.c) (hm : maskT l m = C.foot)
    (x : ∀ α θ, G V ch c κ (k (C.r α θ)) ((maskPut l m (C.post α θ) ++ newL α 0 (C.new α θ)) ++ R)) : G V ch c κ (Sem.call c' none g lvv k) (l ++ R) :=
  G.callC hR hC hb m (by rw [e]) hm x
theorem G.keep {t : Sem PySem.Fin} {l' : Lst} (m : List Bool) (e : maskT l m = l') (x : G V ch c κ t (l' ++ R)) : G V ch c κ t (l ++ R) := by
  refine G.sub (l' := l' ++ R) ?_ x
  rw [← e]
  exact (maskT_sub _ _).append_right R
theorem G.eqCall' {t : Sem PySem.Fin} {c' : Code} {g : Bool} {lv : List Value} {k : Result → Sem PySem.Fin} (e : t = Sem.call c' none g lv k) (x : G V ch c κ (Sem.call c' none g lv k) l) : G V ch c κ t l := by
  rw [e]; exact x
end
end Mine
namespace Mine
open PySem PySem.W PySem.W.X PySem.Spec PySem.Calls PyProof.Rows
section
variable {V : XV} {P : Params} {b : Bool} {scr : Obj}
theorem sF22 (O : VO V P b scr) {κ : Kont} (hR : Rm V κ 400) (K : Kn) (q p : Nat → Nat) (pd : List Nat) (hp : pd = [] ∨ pd = [10] ∨ pd = [9]) (T : Nat → Tok) (j n : Nat) (k : Int) (kt : Tok) (R : Lst)
    (H : ∀ kt, LG V P κ R (chR K.r) (lE (fxZ P) K q p [] 15 none none [] (n + (pd ++ [122]).length) (cnt pd k) kt []) 23) :
    LG V P κ R (chR K.r) (lE (fxZ P) K q p [] 15 none none (rv (pd ++ [122]) T j) n k kt []) 22 := by
  unfold LG
  refine G.eqAt (p := _) (k := _) rfl ?_
  refine G.eqAt (p := _) (k := _) rfl ?_
  refine G.eqAt (p := _) (k := _) rfl ?_
  refine G.eqLd 6 (p := _) (q := _) (k := _) rfl rfl ?_
  refine G.eqAt (p := _) (k := _) rfl ?_
  refine G.eqLd 21 (p := _) (q := _) (k := _) rfl rfl ?_
  refine G.eqOld O (a := 101) (o := zo101 P) (q := _) (k := _) rfl (by kernel_rfl) ?_
  refine G.eqOld O (a := 101) (o := zo101 P) (q := _) (k := _) rfl (by kernel_rfl) ?_
  refine G.eqOld O (a := 100) (o := zo100 P) (q := _) (k := _) rfl (by kernel_rfl) ?_
  refine G.eqLd 21 (p := _) (q := _) (k := _) rfl rfl ?_
  refine G.eqOld O (a := 101) (o := zo101 P) (q := _) (k := _) rfl (by kernel_rfl) ?_
  refine G.eqOld O (a := 101) (o := zo101 P) (q := _) (k := _) rfl (by kernel_rfl) ?_
  refine G.eqOld O (a := 100) (o := zo100 P) (q := _) (k := _) rfl (by kernel_rfl) ?_
  refine G.eqLd 21 (p := _) (q := _) (k := _) rfl rfl ?_
  refine G.eqOld O (a := 101) (o := zo101 P) (q := _) (k := _) rfl (by kernel_rfl) ?_
  refine G.eqOld O (a := 101) (o := zo101 P) (q := _) (k := _) rfl (by kernel_rfl) ?_
  refine G.eqOld O (a := 100) (o := zo100 P) (q := _) (k := _) rfl (by kernel_rfl) ?_
  refine G.eqOld O (a := 91) (o := zo91 P) (q := _) (k := _) rfl (by kernel_rfl) ?_
  refine G.eqLd 21 (p := _) (q := _) (k := _) rfl rfl ?_
  refine G.eqLd 20 (p := _) (q := _) (k := _) rfl rfl ?_
  refine G.eqRule (p := _) (k := _) rfl ?_
  refine G.eqAt (p := _) (k := _) rfl ?_
  refine G.eqOld O (a := 91) (o := zo91 P) (q := _) (k := _) rfl (by kernel_rfl) ?_
  refine G.callC hR (vTkL O K.r (K.ad 16) pd hp T j n k kt 110) (by kernel_rfl) (ups [14,0,0,0,0,0,0,0,0]) (g := _) (lvv := _) (k := _) rfl (by kernel_rfl) fun α θ => ?_
  refine G.cast (l' := lE (fxZ P) K q p [] 15 none none [] (n + (pd ++ [122]).length) (cnt pd k) (θ 1) []) (by kernel_rfl) ?_
  refine G.eqPoint (p := _) (k := _) rfl ?_
  refine G.eqAt (p := _) (k := _) rfl ?_
  refine G.eqLd 6 (p := _) (q := _) (k := _) rfl rfl ?_
  refine G.eqAt (p := _) (k := _) rfl ?_
  refine G.eqLd 21 (p := _) (q := _) (k := _) rfl rfl ?_
  refine G.eqOld O (a := 101) (o := zo101 P) (q := _) (k := _) rfl (by kernel_rfl) ?_
  refine G.eqOld O (a := 101) (o := zo101 P) (q := _) (k := _) rfl (by kernel_rfl) ?_
  refine G.eqOld O (a := 100) (o := zo100 P) (q := _) (k := _) rfl (by kernel_rfl) ?_
  refine G.eqLd 21 (p := _) (q := _) (k := _) rfl rfl ?_
  refine G.eqOld O (a := 101) (o := zo101 P) (q := _) (k := _) rfl (by kernel_rfl) ?_
  refine G.eqOld O (a := 101) (o := zo101 P) (q := _) (k := _) rfl (by kernel_rfl) ?_
  refine G.eqOld O (a := 100) (o := zo100 P) (q := _) (k := _) rfl (by kernel_rfl) ?_
  refine G.eqLd 21 (p := _) (q := _) (k := _) rfl rfl ?_
  refine G.eqOld O (a := 101) (o := zo101 P) (q := _) (k := _) rfl (by kernel_rfl) ?_
  refine G.eqOld O (a := 101) (o := zo101 P) (q := _) (k := _) rfl (by kernel_rfl) ?_
  refine G.eqOld O (a := 100) (o := zo100 P) (q := _) (k := _) rfl (by kernel_rfl) ?_
  refine G.eqOld O (a := 91) (o := zo91 P) (q := _) (k := _) rfl (by kernel_rfl) ?_
  refine G.eqLd 21 (p := _) (q := _) (k := _) rfl rfl ?_
  refine G.eqLd 20 (p := _) (q := _) (k := _) rfl rfl ?_
  refine G.eqRule (p := _) (k := _) rfl ?_
  refine G.eqAt (p := _) (k := _) rfl ?_
  refine G.eqOld O (a := 91) (o := zo91 P) (q := _) (k := _) rfl (by kernel_rfl) ?_
  refine G.callC hR (vTok0E O K.r (K.ad 16) (n + (pd ++ [122]).length) (cnt pd k) (θ 1) 110) (by kernel_rfl) (ups [14,0,0,0,0,0,0,0,0]) (g := _) (lvv := _) (k := _) rfl (by kernel_rfl) fun α2 θ2 => ?_
  refine G.cast (l' := lE (fxZ P) K q p [] 15 none none [] (n + (pd ++ [122]).length) (cnt pd k) (θ 1) []) (by kernel_rfl) ?_
  refine G.eqPoint (p := _) (k := _) rfl ?_
  refine G.eqAlloc (o := _) (k := _) rfl rfl fun a48 => ?_
  refine G.eqAt (p := _) (k := _) rfl ?_
  refine G.eqFresh (k := _) rfl fun t50 => ?_
  refine G.eqFresh (k := _) rfl fun t51 => ?_
  refine G.eqAlloc (o := _) (k := _) rfl rfl fun a52 => ?_
  refine G.eqAt (p := _) (k := _) rfl ?_
  refine G.eqStack hR (by kernel_rfl) (k := _) rfl fun st hst => ?_
  refine G.room1 rfl hst ?_
  refine segT O hR 6 [27,28,27] [(0, ups [26,0], fun w => ⟨_, vLne P a48 a52 [([122], θ 0), ([], θ2 0)] [([122], t50), ([], t51)] 0 0 rfl⟩)]
    (ups [0,0,0,0,0,0,0,0,0,0,0,0,0,0,0,0,0,0,0,0,0,0,0,0,0,0]) (fun w => lE (fxZ P) K q p [] 15 none none [] (n + (pd ++ [122]).length) (cnt pd k) (θ 1) []) 23 (fun w => chR K.r) (fun w => ?_) (fun w => ?_)
  · kernel_rfl
  · exact H _
end
end Mine
namespace Mine
open PySem PySem.W PySem.W.X PySem.Spec PySem.Calls PyProof.Rows
noncomputable def fg (X : Nat → Int) (i : Nat) : Int := Int.ofNat (hueOf (X i)) * Int.ofNat (4096 ^ i)
noncomputable def fgs (X : Nat → Int) : List Int := [fg X 0, fg X 1, fg X 2, fg X 3, fg X 4, fg X 5, fg X 6, fg X 7, fg X 8, fg X 9]
theorem hue_mod (x : Int) : x.fmod (Int.ofNat (2 + 1)) = Int.ofNat (hueOf x) := by
  have e3 : x.fmod 3 = x % 3 := Int.fmod_eq_emod_of_nonneg _ (by omega)
  show x.fmod 3 = Int.ofNat (x.fmod 3).toNat
  rw [e3, Int.ofNat_eq_natCast]
  omega
theorem bits_small (n : Nat) (h : n < 4096) : Builtin.Int.intBits (Int.ofNat n) ≤ 64 := intBits_le_64 (by rw [Int.ofNat_eq_natCast]; omega) (by rw [Int.ofNat_eq_natCast]; omega)
theorem bits_hue (x : Int) (y : Int) : IntMulOk (Int.ofNat (hueOf x)) y := IntMulOk.of_left (bits_small _ (by have := hueOf_lt x; omega))
end Mine
namespace Mine
open PySem PySem.W PySem.W.X PySem.Spec PySem.Calls PyProof.Rows
section
variable {V : XV} {P : Params} {b : Bool} {scr : Obj}
theorem sF23 (O : VO V P b scr) {κ : Kont} (hR : Rm V κ 400) (K : Kn) (q p : Nat → Nat) (n : Nat) (k : Int) (kt : Tok) (nl : Nat) (hc : (PySem.Builtin.Str.occurrences ⟨⟨txt K.L K.X 10⟩⟩ ⟨⟨[10]⟩⟩ 0 (txt K.L K.X 10).length ((txt K.L K.X 10).length + 1)).length = nl) (hk : (k != Int.ofNat (nl + 1)) = false) (R : Lst)
    (H : ∀ t, LG V P κ R (chR K.r) (lE (fxZ P) K q p [] 15 (some (.int (fgs K.X).sum t)) none [] n k kt []) 25) :
    LG V P κ R (chR K.r) (lE (fxZ P) K q p [] 15 none none [] n k kt []) 23 :=
  segL O hR 625 (hsD 271 980700781954690128815632814695777920135626991598453541244695045374632694992329461769904541745429895420872142080870558460992575762875749830604536390581721880135006317940793311953255666856501154515987047300908392446236877814365194072095939706079386446319330882444338859192892813589868990828107623905063741970633263514259925616628216183300365508803882459730520023571183007603937613181661422913106126581919566480484593008701994206439159164829068434234820798696295584755487453513105931463092293246985480106171925066597162440714358409450344386657086154894130409646466688617223)
    [(1, ups [], fun w => ⟨_, vCnt (txt K.L K.X 10) (K.tk 16) [10] (w.t 1) nl hc⟩), (0, ups [], fun w => ⟨_, vIadd (Int.ofNat nl) (w.t 2) (Int.ofNat 1) (w.t 3) (Int.ofNat (nl + 1)) rfl⟩), (0, ups [], fun w => ⟨_, vIne k kt (Int.ofNat (nl + 1)) (w.t 4) false hk⟩), (6, ups [], fun w => ⟨_, vMod O (K.X 0) (K.T 0) 2 (w.t 10) (Int.ofNat (hueOf (K.X 0))) (hue_mod _)⟩), (0, ups [], fun w => ⟨_, vPow0 (Int.ofNat 4096) (w.t 12) (w.t 8)⟩), (0, ups [], fun w => ⟨_, vMul (Int.ofNat (hueOf (K.X 0))) (w.t 11) (Int.ofNat 1) (w.t 13) (fg K.X 0) (by rfl) (bits_hue _ _)⟩), (3, ups [], fun w => ⟨_, vMod O (K.X 1) (K.T 1) 2 (w.t 17) (Int.ofNat (hueOf (K.X 1))) (hue_mod _)⟩), (0, ups [], fun w => ⟨_, vPow (w.t 19) 0 (w.t 15) (Int.ofNat 4096) (by decide +kernel) (by decide)⟩), (0, ups [], fun w => ⟨_, vMul (Int.ofNat (hueOf (K.X 1))) (w.t 18) (Int.ofNat 4096) (w.t 20) (fg K.X 1) (by rfl) (bits_hue _ _)⟩), (3, ups [], fun w => ⟨_, vMod O (K.X 2) (K.T 2) 2 (w.t 24) (Int.ofNat (hueOf (K.X 2))) (hue_mod _)⟩), (0, ups [], fun w => ⟨_, vPow (w.t 26) 1 (w.t 22) (Int.ofNat 16777216) (by decide +kernel) (by decide)⟩), (0, ups [], fun w => ⟨_, vMul (Int.ofNat (hueOf (K.X 2))) (w.t 25) (Int.ofNat 16777216) (w.t 27) (fg K.X 2) (by rfl) (bits_hue _ _)⟩), (3, ups [], fun w => ⟨_, vMod O (K.X 3) (K.T 3) 2 (w.t 31) (Int.ofNat (hueOf (K.X 3))) (hue_mod _)⟩), (0, ups [], fun w => ⟨_, vPow (w.t 33) 2 (w.t 29) (Int.ofNat 68719476736) (by decide +kernel) (by decide)⟩), (0, ups [], fun w => ⟨_, vMul (Int.ofNat (hueOf (K.X 3))) (w.t 32) (Int.ofNat 68719476736) (w.t 34) (fg K.X 3) (by rfl) (bits_hue _ _)⟩), (3, ups [], fun w => ⟨_, vMod O (K.X 4) (K.T 4) 2 (w.t 38) (Int.ofNat (hueOf (K.X 4))) (hue_mod _)⟩), (0, ups [], fun w => ⟨_, vPow (w.t 40) 3 (w.t 36) (Int.ofNat 281474976710656) (by decide +kernel) (by decide)⟩), (0, ups [], fun w => ⟨_, vMul (Int.ofNat (hueOf (K.X 4))) (w.t 39) (Int.ofNat 281474976710656) (w.t 41) (fg K.X 4) (by rfl) (bits_hue _ _)⟩), (3, ups [], fun w => ⟨_, vMod O (K.X 5) (K.T 5) 2 (w.t 45) (Int.ofNat (hueOf (K.X 5))) (hue_mod _)⟩), (0, ups [], fun w => ⟨_, vPow (w.t 47) 4 (w.t 43) (Int.ofNat 1152921504606846976) (by decide +kernel) (by decide)⟩), (0, ups [], fun w => ⟨_, vMul (Int.ofNat (hueOf (K.X 5))) (w.t 46) (Int.ofNat 1152921504606846976) (w.t 48) (fg K.X 5) (by rfl) (bits_hue _ _)⟩), (3, ups [], fun w => ⟨_, vMod O (K.X 6) (K.T 6) 2 (w.t 52) (Int.ofNat (hueOf (K.X 6))) (hue_mod _)⟩), (0, ups [], fun w => ⟨_, vPow (w.t 54) 5 (w.t 50) (Int.ofNat 4722366482869645213696) (by decide +kernel) (by decide)⟩), (0, ups [], fun w => ⟨_, vMul (Int.ofNat (hueOf (K.X 6))) (w.t 53) (Int.ofNat 4722366482869645213696) (w.t 55) (fg K.X 6) (by rfl) (bits_hue _ _)⟩), (3, ups [], fun w => ⟨_, vMod O (K.X 7) (K.T 7) 2 (w.t 59) (Int.ofNat (hueOf (K.X 7))) (hue_mod _)⟩), (0, ups [], fun w => ⟨_, vPow (w.t 61) 6 (w.t 57) (Int.ofNat 19342813113834066795298816) (by decide +kernel) (by decide)⟩), (0, ups [], fun w => ⟨_, vMul (Int.ofNat (hueOf (K.X 7))) (w.t 60) (Int.ofNat 19342813113834066795298816) (w.t 62) (fg K.X 7) (by rfl) (bits_hue _ _)⟩), (3, ups [], fun w => ⟨_, vMod O (K.X 8) (K.T 8) 2 (w.t 66) (Int.ofNat (hueOf (K.X 8))) (hue_mod _)⟩), (0, ups [], fun w => ⟨_, vPow (w.t 68) 7 (w.t 64) (Int.ofNat 79228162514264337593543950336) (by decide +kernel) (by decide)⟩), (0, ups [], fun w => ⟨_, vMul (Int.ofNat (hueOf (K.X 8))) (w.t 67) (Int.ofNat 79228162514264337593543950336) (w.t 69) (fg K.X 8) (by rfl) (bits_hue _ _)⟩), (3, ups [], fun w => ⟨_, vMod O (K.X 9) (K.T 9) 2 (w.t 73) (Int.ofNat (hueOf (K.X 9))) (hue_mod _)⟩), (0, ups [], fun w => ⟨_, vPow (w.t 75) 8 (w.t 71) (Int.ofNat 324518553658426726783156020576256) (by decide +kernel) (by decide)⟩), (0, ups [], fun w => ⟨_, vMul (Int.ofNat (hueOf (K.X 9))) (w.t 74) (Int.ofNat 324518553658426726783156020576256) (w.t 76) (fg K.X 9) (by rfl) (bits_hue _ _)⟩), (2, ups [28], fun w => ⟨_, vSum (a := (w.a 2)) (vs := [.int (fg K.X 0) (w.t 14), .int (fg K.X 1) (w.t 21), .int (fg K.X 2) (w.t 28), .int (fg K.X 3) (w.t 35), .int (fg K.X 4) (w.t 42), .int (fg K.X 5) (w.t 49), .int (fg K.X 6) (w.t 56), .int (fg K.X 7) (w.t 63), .int (fg K.X 8) (w.t 70), .int (fg K.X 9) (w.t 77)]) (ns := fgs K.X) (foot := [((w.a 2), lstO (nmZ P) [.int (fg K.X 0) (w.t 14), .int (fg K.X 1) (w.t 21), .int (fg K.X 2) (w.t 28), .int (fg K.X 3) (w.t 35), .int (fg K.X 4) (w.t 42), .int (fg K.X 5) (w.t 49), .int (fg K.X 6) (w.t 56), .int (fg K.X 7) (w.t 63), .int (fg K.X 8) (w.t 70), .int (fg K.X 9) (w.t 77)] 10)]) (.cons (fg K.X 0) _ (.cons (fg K.X 1) _ (.cons (fg K.X 2) _ (.cons (fg K.X 3) _ (.cons (fg K.X 4) _ (.cons (fg K.X 5) _ (.cons (fg K.X 6) _ (.cons (fg K.X 7) _ (.cons (fg K.X 8) _ (.cons (fg K.X 9) _ .nil)))))))))) (isList_foot (P := P))⟩)]
    (ups [0,0,0,0,0,0,0,0,0,0,0,0,0,0,0,0,0,0,0,0,0,0,0,0,0,0]) (fun w => lE (fxZ P) K q p [] 15 (some (.int (fgs K.X).sum (w.t 78))) none [] n k kt []) 25 (fun w => chR K.r) (fun w => by kernel_rfl) fun w => H _
end
end Mine
namespace Mine
open PySem PySem.W PySem.W.X PySem.Spec PySem.Calls PyProof.Rows PySem.Builtin.Str
noncomputable def Fm (X : Nat → Int) : Nat → Int
  | 0 => (fgs X).sum
  | m + 1 => Fm X m * Int.ofNat 4097
noncomputable def dq (X : Nat → Int) (m i : Nat) : Int := (Fm X m).fdiv (Int.ofNat (4096 ^ i))
noncomputable def md (X : Nat → Int) (m i : Nat) : Int := (dq X m i).fmod (Int.ofNat 4096)
noncomputable def BinLaw (X : Nat → Int) : Prop := ∀ m j, m + j ≤ 9 → (md X m (j + m) * Int.ofNat (1 + m % 2)).fmod (Int.ofNat (2 + 1)) = Int.ofNat (Dh X m j)
theorem app_nil (x : List Nat) : (⟨x⟩ : Array Nat) ++ (⟨[]⟩ : Array Nat) = ⟨x⟩ := by simp
theorem glued_nil : ∀ (ps : List (List Nat)), glued ⟨⟨[]⟩⟩ (ps.map fun p => (⟨⟨p⟩⟩ : Str)) = ⟨⟨ps.flatten⟩⟩
  | [] => rfl
  | p :: ps => by
    have key : ∀ (ps : List (List Nat)) (a : List Nat), (ps.map fun p => (⟨⟨p⟩⟩ : Str)).foldl (fun acc p => acc ++ (⟨[]⟩ : Array Nat) ++ p.cps) ⟨a⟩ = ⟨a ++ ps.flatten⟩ := by
      intro ps
      induction ps with
      | nil => intro a; simp
      | cons p ps ih =>
        intro a
        rw [List.map_cons, List.foldl_cons]
        show (ps.map fun p => (⟨⟨p⟩⟩ : Str)).foldl (fun acc p => acc ++ (⟨[]⟩ : Array Nat) ++ p.cps) ((⟨a⟩ : Array Nat) ++ (⟨[]⟩ : Array Nat) ++ (⟨p⟩ : Array Nat)) = _
        rw [app_nil]
        have e : (⟨a⟩ : Array Nat) ++ (⟨p⟩ : Array Nat) = ⟨a ++ p⟩ := by simp
        rw [e, ih]
        simp
    show (⟨((ps.map fun p => (⟨⟨p⟩⟩ : Str))).foldl (fun acc p => acc ++ (⟨[]⟩ : Array Nat) ++ p.cps) ⟨p⟩⟩ : Str) = _
    rw [key]
    rfl
theorem join_sum (l : List (Str × Tok)) (s : Nat) : ∀ a, (l.map (·.1)).foldl (· + ·.length + s) a = a + ((l.map fun p => p.1.length + s).sum) := by
  induction l with
  | nil => intro a; simp
  | cons x l ih => intro a; rw [List.map_cons, List.foldl_cons, ih]; simp; omega
theorem join_ok (l : List (List Nat × Tok)) (s B : Nat) (hB : ∀ p ∈ l, p.1.length ≤ B) (h : l.length * (B + s) ≤ 100000) : tooLong (((toSS l).map (·.1)).toArray.foldl (· + ·.length + s) 0) = false := by
  have e : ((toSS l).map (·.1)).toArray.foldl (· + ·.length + s) 0 = ((toSS l).map (·.1)).foldl (· + ·.length + s) 0 := by simp
  rw [e, join_sum]
  have key : ∀ l : List (List Nat × Tok), (∀ p ∈ l, p.1.length ≤ B) → ((toSS l).map fun p => p.1.length + s).sum ≤ l.length * (B + s) := by
    intro l
    induction l with
    | nil => intro _; simp [toSS]
    | cons x l ih =>
      intro h
      have h1 := h x List.mem_cons_self
      have h2 := ih fun p hp => h p (List.mem_cons_of_mem _ hp)
      simp only [toSS, List.map_cons, List.sum_cons, List.length_cons] at h2 ⊢
      have e1 : (⟨⟨x.1⟩⟩ : Str).length = x.1.length := rfl
      rw [e1, Nat.add_mul, Nat.one_mul]
      omega
  have h2 := key l hB
  show decide (_ > sizeLine) = false
  rw [sizeLine_eq]
  simp only [decide_eq_false_iff_not]
  omega
section
variable {V : XV} {P : Params}
theorem vJ0 (P : Params) (t : Tok) (a : Addr) (l : List (List Nat × Tok)) (n : Nat) (r : List Nat) (hr : catS l = r) (hB : ∀ p ∈ l, p.1.length ≤ 10) (hl : l.length ≤ 100) : Valid V (cJn (nmZ P) [] t a l n r) := by
  refine vJn P [] t a l n r (join_ok l 0 10 hB (by omega)) ?_ ?_
  · rw [← hr]
    have e : (toSS l).map (·.1) = (l.map (·.1)).map fun p => (⟨⟨p⟩⟩ : Str) := by simp [toSS]
    rw [e, glued_nil]
    rfl
  · rw [← hr]
    have key : ∀ l : List (List Nat × Tok), (∀ p ∈ l, p.1.length ≤ 10) → (catS l).length ≤ l.length * 10 := by
      intro l
      induction l with
      | nil => intro _; simp [catS]
      | cons x l ih =>
        intro h
        have h1 := h x List.mem_cons_self
        have h2 := ih fun p hp => h p (List.mem_cons_of_mem _ hp)
        simp only [catS, List.map_cons, List.flatten_cons, List.length_append, List.length_cons] at h2 ⊢
        omega
    have := key l hB
    omega
end
noncomputable def ltV (K : Kn) (m : Nat) : Nat → Nat → List (List Nat × Tok)
  | _, 0 => []
  | a, n + 1 => ([K.L (Dh K.X m a)], K.tk (1 + Dh K.X m a)) :: ltV K m (a + 1) n
theorem ltV_le (K : Kn) (m a n : Nat) : ∀ p ∈ ltV K m a n, p.1.length ≤ 10 := by
  induction n generalizing a with
  | zero => intro p h; cases h
  | succ n ih =>
    intro p h
    rcases List.mem_cons.mp h with rfl | h
    · show 1 ≤ 10; decide
    · exact ih _ p h
theorem ltV_len (K : Kn) (m a n : Nat) : (ltV K m a n).length = n := by
  induction n generalizing a with
  | zero => rfl
  | succ n ih => simp [ltV, ih]
theorem lrow_cat (K : Kn) (m n a : Nat) : lrow K m a ++ catS (ltV K m a n) = lrow K m (a + n) := by
  induction n generalizing a with
  | zero => simp [ltV, catS]
  | succ n ih =>
    have e : a + (n + 1) = (a + 1) + n := by omega
    rw [e, ← ih (a + 1)]
    simp [ltV, catS, lrow]
theorem lrow_cat0 (K : Kn) (m n : Nat) : catS (ltV K m 0 n) = lrow K m n := by
  have := lrow_cat K m n 0
  simpa [lrow] using this
noncomputable def fl25 (W : Lw) (K : Kn) (it : Addr) : Code := forC (dropS 25 (bodyOf W.F)) it (lawEn W.F K.ad)
noncomputable def c25 (p u : Nat → Nat) (m : Nat) : Option Value := match m with
  | 0 => c21 p 10
  | m + 1 => some (.int (Int.ofNat m) (u 0))
noncomputable def l25r (Q : Fx) (W : Lw) (K : Kn) (it : Addr) (q p u : Nat → Nat) (m : Nat) : Lst :=
  [(K.ad 3, celO Q.N (some (.ref (K.ad 12)))), (K.ad 8, celO Q.N (some (.ref (q 9)))), (K.ad 9, celO Q.N (c25 p u m)), (K.ad 10, celO Q.N (some (.int (Fm K.X m) (u 1)))), (K.ad 12, lettersO Q.N K.L K.tk), (q 9, lstO Q.N (rowsV K p 10) 10), (it, rngO W.ri m (10 - m))]
theorem sne_same (x : List Nat) : (x != x) = false := by simp
theorem mul_r (x : Int) (n : Nat) (h : n < 18446744073709551616) : IntMulOk x (Int.ofNat n) := IntMulOk.of_right (intBits_le_64 (by rw [Int.ofNat_eq_natCast]; omega) (by rw [Int.ofNat_eq_natCast]; omega))
end Mine
namespace Mine
open PySem PySem.W PySem.W.X PySem.Spec PySem.Calls PyProof.Rows
section
variable {V : XV} {P : Params} {b : Bool} {scr : Obj}
noncomputable def G25 (V : XV) (P : Params) (ch : Ch) (κ : Kont) (K : Kn) (it : Addr) (q p u : Nat → Nat) (m : Nat) (R : Lst) : Prop :=
  G V ch (fl25 (lwZ P) K it) κ (dn (fl25 (lwZ P) K it)) (l25r (fxZ P) (lwZ P) K it q p u m ++ R)
theorem r25_0 (O : VO V P b scr) {κ : Kont} (hR : Rm V κ 500) (ch : Ch) (K : Kn) (hB : BinLaw K.X) (it : Addr) (q p u : Nat → Nat) (R : Lst) (H : ∀ u, G25 V P ch κ K it q p u 1 R) : G25 V P ch κ K it q p u 0 R :=
  seg O hR 830 (hsD 275 95719029347677715607009178282434667608285415012821196208916501911440738632120110612678411405328447157714044183720014889903014439532226768626631564098630197597959414922311820741702404680074716503543710720153271120025297750672867135053716737048710268961950058738855788182802496429078366078880947950119535918841560979547813182028499296524999487451726891082637293314074971025490358876145106566300723638729494807782413860756476576681102710038824838576981399647672071829890128382502691506579918430356935511988083596556580383655870859294965051468859242923582234230483283207911213482887)
    [(9, ups [], fun w => ⟨_, vPow0 (Int.ofNat 4096) (w.t 8) (w.t 9)⟩), (0, ups [], fun w => ⟨_, vDiv O (Fm K.X 0) (u 1) 0 (w.t 10) (dq K.X 0 0) (by rfl) (PyProof.noPylong_of_log2 (by decide +kernel))⟩), (0, ups [], fun w => ⟨_, vMod O (dq K.X 0 0) (w.t 11) 4095 (w.t 12) (md K.X 0 0) rfl⟩), (0, ups [], fun w => ⟨_, vMod O (Int.ofNat 0) (w.t 0) 1 (w.t 15) (Int.ofNat 0) (by decide +kernel)⟩), (1, ups [], fun w => ⟨_, vMul (md K.X 0 0) (w.t 13) (Int.ofNat 1) (w.t 17) (md K.X 0 0 * Int.ofNat 1) rfl (mul_r _ _ (by decide))⟩), (0, ups [], fun w => ⟨_, vMod O (md K.X 0 0 * Int.ofNat 1) (w.t 18) 2 (w.t 19) (Int.ofNat (Dh K.X 0 0)) (hB 0 0 (by decide))⟩), (0, ups [4], fun w => ⟨_, vLet (P := P) (K.ad 12) K.L K.tk (Dh K.X 0 0) (w.t 20) (Dh_lt _ _ _)⟩), (3, ups [], fun w => ⟨_, vPow (w.t 23) 0 (w.t 24) (Int.ofNat 4096) (by decide +kernel) (by decide)⟩), (0, ups [], fun w => ⟨_, vDiv O (Fm K.X 0) (u 1) 4095 (w.t 25) (dq K.X 0 1) (by rfl) (PyProof.noPylong_of_log2 (by decide +kernel))⟩), (0, ups [], fun w => ⟨_, vMod O (dq K.X 0 1) (w.t 26) 4095 (w.t 27) (md K.X 0 1) rfl⟩), (0, ups [], fun w => ⟨_, vMod O (Int.ofNat 0) (w.t 0) 1 (w.t 30) (Int.ofNat 0) (by decide +kernel)⟩), (1, ups [], fun w => ⟨_, vMul (md K.X 0 1) (w.t 28) (Int.ofNat 1) (w.t 32) (md K.X 0 1 * Int.ofNat 1) rfl (mul_r _ _ (by decide))⟩), (0, ups [], fun w => ⟨_, vMod O (md K.X 0 1 * Int.ofNat 1) (w.t 33) 2 (w.t 34) (Int.ofNat (Dh K.X 0 1)) (hB 0 1 (by decide))⟩), (0, ups [4], fun w => ⟨_, vLet (P := P) (K.ad 12) K.L K.tk (Dh K.X 0 1) (w.t 35) (Dh_lt _ _ _)⟩), (3, ups [], fun w => ⟨_, vPow (w.t 38) 1 (w.t 39) (Int.ofNat 16777216) (by decide +kernel) (by decide)⟩), (0, ups [], fun w => ⟨_, vDiv O (Fm K.X 0) (u 1) 16777215 (w.t 40) (dq K.X 0 2) (by rfl) (PyProof.noPylong_of_log2 (by decide +kernel))⟩), (0, ups [], fun w => ⟨_, vMod O (dq K.X 0 2) (w.t 41) 4095 (w.t 42) (md K.X 0 2) rfl⟩), (0, ups [], fun w => ⟨_, vMod O (Int.ofNat 0) (w.t 0) 1 (w.t 45) (Int.ofNat 0) (by decide +kernel)⟩), (1, ups [], fun w => ⟨_, vMul (md K.X 0 2) (w.t 43) (Int.ofNat 1) (w.t 47) (md K.X 0 2 * Int.ofNat 1) rfl (mul_r _ _ (by decide))⟩), (0, ups [], fun w => ⟨_, vMod O (md K.X 0 2 * Int.ofNat 1) (w.t 48) 2 (w.t 49) (Int.ofNat (Dh K.X 0 2)) (hB 0 2 (by decide))⟩), (0, ups [4], fun w => ⟨_, vLet (P := P) (K.ad 12) K.L K.tk (Dh K.X 0 2) (w.t 50) (Dh_lt _ _ _)⟩), (3, ups [], fun w => ⟨_, vPow (w.t 53) 2 (w.t 54) (Int.ofNat 68719476736) (by decide +kernel) (by decide)⟩), (0, ups [], fun w => ⟨_, vDiv O (Fm K.X 0) (u 1) 68719476735 (w.t 55) (dq K.X 0 3) (by rfl) (PyProof.noPylong_of_log2 (by decide +kernel))⟩), (0, ups [], fun w => ⟨_, vMod O (dq K.X 0 3) (w.t 56) 4095 (w.t 57) (md K.X 0 3) rfl⟩), (0, ups [], fun w => ⟨_, vMod O (Int.ofNat 0) (w.t 0) 1 (w.t 60) (Int.ofNat 0) (by decide +kernel)⟩), (1, ups [], fun w => ⟨_, vMul (md K.X 0 3) (w.t 58) (Int.ofNat 1) (w.t 62) (md K.X 0 3 * Int.ofNat 1) rfl (mul_r _ _ (by decide))⟩), (0, ups [], fun w => ⟨_, vMod O (md K.X 0 3 * Int.ofNat 1) (w.t 63) 2 (w.t 64) (Int.ofNat (Dh K.X 0 3)) (hB 0 3 (by decide))⟩), (0, ups [4], fun w => ⟨_, vLet (P := P) (K.ad 12) K.L K.tk (Dh K.X 0 3) (w.t 65) (Dh_lt _ _ _)⟩), (3, ups [], fun w => ⟨_, vPow (w.t 68) 3 (w.t 69) (Int.ofNat 281474976710656) (by decide +kernel) (by decide)⟩), (0, ups [], fun w => ⟨_, vDiv O (Fm K.X 0) (u 1) 281474976710655 (w.t 70) (dq K.X 0 4) (by rfl) (PyProof.noPylong_of_log2 (by decide +kernel))⟩), (0, ups [], fun w => ⟨_, vMod O (dq K.X 0 4) (w.t 71) 4095 (w.t 72) (md K.X 0 4) rfl⟩), (0, ups [], fun w => ⟨_, vMod O (Int.ofNat 0) (w.t 0) 1 (w.t 75) (Int.ofNat 0) (by decide +kernel)⟩), (1, ups [], fun w => ⟨_, vMul (md K.X 0 4) (w.t 73) (Int.ofNat 1) (w.t 77) (md K.X 0 4 * Int.ofNat 1) rfl (mul_r _ _ (by decide))⟩), (0, ups [], fun w => ⟨_, vMod O (md K.X 0 4 * Int.ofNat 1) (w.t 78) 2 (w.t 79) (Int.ofNat (Dh K.X 0 4)) (hB 0 4 (by decide))⟩), (0, ups [4], fun w => ⟨_, vLet (P := P) (K.ad 12) K.L K.tk (Dh K.X 0 4) (w.t 80) (Dh_lt _ _ _)⟩), (3, ups [], fun w => ⟨_, vPow (w.t 83) 4 (w.t 84) (Int.ofNat 1152921504606846976) (by decide +kernel) (by decide)⟩), (0, ups [], fun w => ⟨_, vDiv O (Fm K.X 0) (u 1) 1152921504606846975 (w.t 85) (dq K.X 0 5) (by rfl) (PyProof.noPylong_of_log2 (by decide +kernel))⟩), (0, ups [], fun w => ⟨_, vMod O (dq K.X 0 5) (w.t 86) 4095 (w.t 87) (md K.X 0 5) rfl⟩), (0, ups [], fun w => ⟨_, vMod O (Int.ofNat 0) (w.t 0) 1 (w.t 90) (Int.ofNat 0) (by decide +kernel)⟩), (1, ups [], fun w => ⟨_, vMul (md K.X 0 5) (w.t 88) (Int.ofNat 1) (w.t 92) (md K.X 0 5 * Int.ofNat 1) rfl (mul_r _ _ (by decide))⟩), (0, ups [], fun w => ⟨_, vMod O (md K.X 0 5 * Int.ofNat 1) (w.t 93) 2 (w.t 94) (Int.ofNat (Dh K.X 0 5)) (hB 0 5 (by decide))⟩), (0, ups [4], fun w => ⟨_, vLet (P := P) (K.ad 12) K.L K.tk (Dh K.X 0 5) (w.t 95) (Dh_lt _ _ _)⟩), (3, ups [], fun w => ⟨_, vPow (w.t 98) 5 (w.t 99) (Int.ofNat 4722366482869645213696) (by decide +kernel) (by decide)⟩), (0, ups [], fun w => ⟨_, vDiv O (Fm K.X 0) (u 1) 4722366482869645213695 (w.t 100) (dq K.X 0 6) (by rfl) (PyProof.noPylong_of_log2 (by decide +kernel))⟩), (0, ups [], fun w => ⟨_, vMod O (dq K.X 0 6) (w.t 101) 4095 (w.t 102) (md K.X 0 6) rfl⟩), (0, ups [], fun w => ⟨_, vMod O (Int.ofNat 0) (w.t 0) 1 (w.t 105) (Int.ofNat 0) (by decide +kernel)⟩), (1, ups [], fun w => ⟨_, vMul (md K.X 0 6) (w.t 103) (Int.ofNat 1) (w.t 107) (md K.X 0 6 * Int.ofNat 1) rfl (mul_r _ _ (by decide))⟩), (0, ups [], fun w => ⟨_, vMod O (md K.X 0 6 * Int.ofNat 1) (w.t 108) 2 (w.t 109) (Int.ofNat (Dh K.X 0 6)) (hB 0 6 (by decide))⟩), (0, ups [4], fun w => ⟨_, vLet (P := P) (K.ad 12) K.L K.tk (Dh K.X 0 6) (w.t 110) (Dh_lt _ _ _)⟩), (3, ups [], fun w => ⟨_, vPow (w.t 113) 6 (w.t 114) (Int.ofNat 19342813113834066795298816) (by decide +kernel) (by decide)⟩), (0, ups [], fun w => ⟨_, vDiv O (Fm K.X 0) (u 1) 19342813113834066795298815 (w.t 115) (dq K.X 0 7) (by rfl) (PyProof.noPylong_of_log2 (by decide +kernel))⟩), (0, ups [], fun w => ⟨_, vMod O (dq K.X 0 7) (w.t 116) 4095 (w.t 117) (md K.X 0 7) rfl⟩), (0, ups [], fun w => ⟨_, vMod O (Int.ofNat 0) (w.t 0) 1 (w.t 120) (Int.ofNat 0) (by decide +kernel)⟩), (1, ups [], fun w => ⟨_, vMul (md K.X 0 7) (w.t 118) (Int.ofNat 1) (w.t 122) (md K.X 0 7 * Int.ofNat 1) rfl (mul_r _ _ (by decide))⟩), (0, ups [], fun w => ⟨_, vMod O (md K.X 0 7 * Int.ofNat 1) (w.t 123) 2 (w.t 124) (Int.ofNat (Dh K.X 0 7)) (hB 0 7 (by decide))⟩), (0, ups [4], fun w => ⟨_, vLet (P := P) (K.ad 12) K.L K.tk (Dh K.X 0 7) (w.t 125) (Dh_lt _ _ _)⟩), (3, ups [], fun w => ⟨_, vPow (w.t 128) 7 (w.t 129) (Int.ofNat 79228162514264337593543950336) (by decide +kernel) (by decide)⟩), (0, ups [], fun w => ⟨_, vDiv O (Fm K.X 0) (u 1) 79228162514264337593543950335 (w.t 130) (dq K.X 0 8) (by rfl) (PyProof.noPylong_of_log2 (by decide +kernel))⟩), (0, ups [], fun w => ⟨_, vMod O (dq K.X 0 8) (w.t 131) 4095 (w.t 132) (md K.X 0 8) rfl⟩), (0, ups [], fun w => ⟨_, vMod O (Int.ofNat 0) (w.t 0) 1 (w.t 135) (Int.ofNat 0) (by decide +kernel)⟩), (1, ups [], fun w => ⟨_, vMul (md K.X 0 8) (w.t 133) (Int.ofNat 1) (w.t 137) (md K.X 0 8 * Int.ofNat 1) rfl (mul_r _ _ (by decide))⟩), (0, ups [], fun w => ⟨_, vMod O (md K.X 0 8 * Int.ofNat 1) (w.t 138) 2 (w.t 139) (Int.ofNat (Dh K.X 0 8)) (hB 0 8 (by decide))⟩), (0, ups [4], fun w => ⟨_, vLet (P := P) (K.ad 12) K.L K.tk (Dh K.X 0 8) (w.t 140) (Dh_lt _ _ _)⟩), (3, ups [], fun w => ⟨_, vPow (w.t 143) 8 (w.t 144) (Int.ofNat 324518553658426726783156020576256) (by decide +kernel) (by decide)⟩), (0, ups [], fun w => ⟨_, vDiv O (Fm K.X 0) (u 1) 324518553658426726783156020576255 (w.t 145) (dq K.X 0 9) (by rfl) (PyProof.noPylong_of_log2 (by decide +kernel))⟩), (0, ups [], fun w => ⟨_, vMod O (dq K.X 0 9) (w.t 146) 4095 (w.t 147) (md K.X 0 9) rfl⟩), (0, ups [], fun w => ⟨_, vMod O (Int.ofNat 0) (w.t 0) 1 (w.t 150) (Int.ofNat 0) (by decide +kernel)⟩), (1, ups [], fun w => ⟨_, vMul (md K.X 0 9) (w.t 148) (Int.ofNat 1) (w.t 152) (md K.X 0 9 * Int.ofNat 1) rfl (mul_r _ _ (by decide))⟩), (0, ups [], fun w => ⟨_, vMod O (md K.X 0 9 * Int.ofNat 1) (w.t 153) 2 (w.t 154) (Int.ofNat (Dh K.X 0 9)) (hB 0 9 (by decide))⟩), (0, ups [4], fun w => ⟨_, vLet (P := P) (K.ad 12) K.L K.tk (Dh K.X 0 9) (w.t 155) (Dh_lt _ _ _)⟩), (2, ups [9], fun w => ⟨_, vJ0 P (w.t 1) (w.a 2) (ltV K 0 0 10) 10 (lrow K 0 10) (lrow_cat0 _ _ _) (ltV_le _ _ _ _) (by rw [ltV_len]; decide)⟩), (0, ups [], fun w => ⟨_, vSne (lrow K 0 10) (rt K p 0) (lrow K 0 10) (w.t 156) false (sne_same _)⟩), (0, ups [], fun w => ⟨_, vMul (Fm K.X 0) (u 1) (Int.ofNat 4097) (w.t 157) (Fm K.X 1) rfl (mul_r _ _ (by decide))⟩)] (ups [0,0,0,0,0,0,0])
    (c' := fun w => fl25 (lwZ P) K it) (t' := fun w => dn (fl25 (lwZ P) K it)) (l' := fun w => l25r (fxZ P) (lwZ P) K it q p (ovr u [(0, w.t 0), (1, w.t 158)]) 1) (ch' := fun _ => ch)
    (fun w => by kernel_rfl) fun w => H _
theorem r25_1 (O : VO V P b scr) {κ : Kont} (hR : Rm V κ 500) (ch : Ch) (K : Kn) (hB : BinLaw K.X) (it : Addr) (q p u : Nat → Nat) (R : Lst) (H : ∀ u, G25 V P ch κ K it q p u 2 R) : G25 V P ch κ K it q p u 1 R :=
  seg O hR 759 (hsD 252 32746808796768281150270013462179062399190606749326139469008123832070365574797887635378207441134472055392503453277983280339377155280461649201042489762984396113082797095846201732943628102553072766129422869394812840726744284073166284824732593861008444133323703823473390003538914170480928981276176075688280273363739321960519781660875206268688191231114238409707345744608565757117328055550824188875015482928874814049141875642934572669357624350338227792083905168151533220154455473705666456689312661682224442430283507208410823789622969223)
    [(9, ups [], fun w => ⟨_, vPow (w.t 8) 0 (w.t 9) (Int.ofNat 4096) (by decide +kernel) (by decide)⟩), (0, ups [], fun w => ⟨_, vDiv O (Fm K.X 1) (u 1) 4095 (w.t 10) (dq K.X 1 1) (by rfl) (PyProof.noPylong_of_log2 (by decide +kernel))⟩), (0, ups [], fun w => ⟨_, vMod O (dq K.X 1 1) (w.t 11) 4095 (w.t 12) (md K.X 1 1) rfl⟩), (0, ups [], fun w => ⟨_, vMod O (Int.ofNat 1) (w.t 0) 1 (w.t 15) (Int.ofNat 1) (by decide +kernel)⟩), (1, ups [], fun w => ⟨_, vMul (md K.X 1 1) (w.t 13) (Int.ofNat 2) (w.t 17) (md K.X 1 1 * Int.ofNat 2) rfl (mul_r _ _ (by decide))⟩), (0, ups [], fun w => ⟨_, vMod O (md K.X 1 1 * Int.ofNat 2) (w.t 18) 2 (w.t 19) (Int.ofNat (Dh K.X 1 0)) (hB 1 0 (by decide))⟩), (0, ups [4], fun w => ⟨_, vLet (P := P) (K.ad 12) K.L K.tk (Dh K.X 1 0) (w.t 20) (Dh_lt _ _ _)⟩), (3, ups [], fun w => ⟨_, vPow (w.t 23) 1 (w.t 24) (Int.ofNat 16777216) (by decide +kernel) (by decide)⟩), (0, ups [], fun w => ⟨_, vDiv O (Fm K.X 1) (u 1) 16777215 (w.t 25) (dq K.X 1 2) (by rfl) (PyProof.noPylong_of_log2 (by decide +kernel))⟩), (0, ups [], fun w => ⟨_, vMod O (dq K.X 1 2) (w.t 26) 4095 (w.t 27) (md K.X 1 2) rfl⟩), (0, ups [], fun w => ⟨_, vMod O (Int.ofNat 1) (w.t 0) 1 (w.t 30) (Int.ofNat 1) (by decide +kernel)⟩), (1, ups [], fun w => ⟨_, vMul (md K.X 1 2) (w.t 28) (Int.ofNat 2) (w.t 32) (md K.X 1 2 * Int.ofNat 2) rfl (mul_r _ _ (by decide))⟩), (0, ups [], fun w => ⟨_, vMod O (md K.X 1 2 * Int.ofNat 2) (w.t 33) 2 (w.t 34) (Int.ofNat (Dh K.X 1 1)) (hB 1 1 (by decide))⟩), (0, ups [4], fun w => ⟨_, vLet (P := P) (K.ad 12) K.L K.tk (Dh K.X 1 1) (w.t 35) (Dh_lt _ _ _)⟩), (3, ups [], fun w => ⟨_, vPow (w.t 38) 2 (w.t 39) (Int.ofNat 68719476736) (by decide +kernel) (by decide)⟩), (0, ups [], fun w => ⟨_, vDiv O (Fm K.X 1) (u 1) 68719476735 (w.t 40) (dq K.X 1 3) (by rfl) (PyProof.noPylong_of_log2 (by decide +kernel))⟩), (0, ups [], fun w => ⟨_, vMod O (dq K.X 1 3) (w.t 41) 4095 (w.t 42) (md K.X 1 3) rfl⟩), (0, ups [], fun w => ⟨_, vMod O (Int.ofNat 1) (w.t 0) 1 (w.t 45) (Int.ofNat 1) (by decide +kernel)⟩), (1, ups [], fun w => ⟨_, vMul (md K.X 1 3) (w.t 43) (Int.ofNat 2) (w.t 47) (md K.X 1 3 * Int.ofNat 2) rfl (mul_r _ _ (by decide))⟩), (0, ups [], fun w => ⟨_, vMod O (md K.X 1 3 * Int.ofNat 2) (w.t 48) 2 (w.t 49) (Int.ofNat (Dh K.X 1 2)) (hB 1 2 (by decide))⟩), (0, ups [4], fun w => ⟨_, vLet (P := P) (K.ad 12) K.L K.tk (Dh K.X 1 2) (w.t 50) (Dh_lt _ _ _)⟩), (3, ups [], fun w => ⟨_, vPow (w.t 53) 3 (w.t 54) (Int.ofNat 281474976710656) (by decide +kernel) (by decide)⟩), (0, ups [], fun w => ⟨_, vDiv O (Fm K.X 1) (u 1) 281474976710655 (w.t 55) (dq K.X 1 4) (by rfl) (PyProof.noPylong_of_log2 (by decide +kernel))⟩), (0, ups [], fun w => ⟨_, vMod O (dq K.X 1 4) (w.t 56) 4095 (w.t 57) (md K.X 1 4) rfl⟩), (0, ups [], fun w => ⟨_, vMod O (Int.ofNat 1) (w.t 0) 1 (w.t 60) (Int.ofNat 1) (by decide +kernel)⟩), (1, ups [], fun w => ⟨_, vMul (md K.X 1 4) (w.t 58) (Int.ofNat 2) (w.t 62) (md K.X 1 4 * Int.ofNat 2) rfl (mul_r _ _ (by decide))⟩), (0, ups [], fun w => ⟨_, vMod O (md K.X 1 4 * Int.ofNat 2) (w.t 63) 2 (w.t 64) (Int.ofNat (Dh K.X 1 3)) (hB 1 3 (by decide))⟩), (0, ups [4], fun w => ⟨_, vLet (P := P) (K.ad 12) K.L K.tk (Dh K.X 1 3) (w.t 65) (Dh_lt _ _ _)⟩), (3, ups [], fun w => ⟨_, vPow (w.t 68) 4 (w.t 69) (Int.ofNat 1152921504606846976) (by decide +kernel) (by decide)⟩), (0, ups [], fun w => ⟨_, vDiv O (Fm K.X 1) (u 1) 1152921504606846975 (w.t 70) (dq K.X 1 5) (by rfl) (PyProof.noPylong_of_log2 (by decide +kernel))⟩), (0, ups [], fun w => ⟨_, vMod O (dq K.X 1 5) (w.t 71) 4095 (w.t 72) (md K.X 1 5) rfl⟩), (0, ups [], fun w => ⟨_, vMod O (Int.ofNat 1) (w.t 0) 1 (w.t 75) (Int.ofNat 1) (by decide +kernel)⟩), (1, ups [], fun w => ⟨_, vMul (md K.X 1 5) (w.t 73) (Int.ofNat 2) (w.t 77) (md K.X 1 5 * Int.ofNat 2) rfl (mul_r _ _ (by decide))⟩), (0, ups [], fun w => ⟨_, vMod O (md K.X 1 5 * Int.ofNat 2) (w.t 78) 2 (w.t 79) (Int.ofNat (Dh K.X 1 4)) (hB 1 4 (by decide))⟩), (0, ups [4], fun w => ⟨_, vLet (P := P) (K.ad 12) K.L K.tk (Dh K.X 1 4) (w.t 80) (Dh_lt _ _ _)⟩), (3, ups [], fun w => ⟨_, vPow (w.t 83) 5 (w.t 84) (Int.ofNat 4722366482869645213696) (by decide +kernel) (by decide)⟩), (0, ups [], fun w => ⟨_, vDiv O (Fm K.X 1) (u 1) 4722366482869645213695 (w.t 85) (dq K.X 1 6) (by rfl) (PyProof.noPylong_of_log2 (by decide +kernel))⟩), (0, ups [], fun w => ⟨_, vMod O (dq K.X 1 6) (w.t 86) 4095 (w.t 87) (md K.X 1 6) rfl⟩), (0, ups [], fun w => ⟨_, vMod O (Int.ofNat 1) (w.t 0) 1 (w.t 90) (Int.ofNat 1) (by decide +kernel)⟩), (1, ups [], fun w => ⟨_, vMul (md K.X 1 6) (w.t 88) (Int.ofNat 2) (w.t 92) (md K.X 1 6 * Int.ofNat 2) rfl (mul_r _ _ (by decide))⟩), (0, ups [], fun w => ⟨_, vMod O (md K.X 1 6 * Int.ofNat 2) (w.t 93) 2 (w.t 94) (Int.ofNat (Dh K.X 1 5)) (hB 1 5 (by decide))⟩), (0, ups [4], fun w => ⟨_, vLet (P := P) (K.ad 12) K.L K.tk (Dh K.X 1 5) (w.t 95) (Dh_lt _ _ _)⟩), (3, ups [], fun w => ⟨_, vPow (w.t 98) 6 (w.t 99) (Int.ofNat 19342813113834066795298816) (by decide +kernel) (by decide)⟩), (0, ups [], fun w => ⟨_, vDiv O (Fm K.X 1) (u 1) 19342813113834066795298815 (w.t 100) (dq K.X 1 7) (by rfl) (PyProof.noPylong_of_log2 (by decide +kernel))⟩), (0, ups [], fun w => ⟨_, vMod O (dq K.X 1 7) (w.t 101) 4095 (w.t 102) (md K.X 1 7) rfl⟩), (0, ups [], fun w => ⟨_, vMod O (Int.ofNat 1) (w.t 0) 1 (w.t 105) (Int.ofNat 1) (by decide +kernel)⟩), (1, ups [], fun w => ⟨_, vMul (md K.X 1 7) (w.t 103) (Int.ofNat 2) (w.t 107) (md K.X 1 7 * Int.ofNat 2) rfl (mul_r _ _ (by decide))⟩), (0, ups [], fun w => ⟨_, vMod O (md K.X 1 7 * Int.ofNat 2) (w.t 108) 2 (w.t 109) (Int.ofNat (Dh K.X 1 6)) (hB 1 6 (by decide))⟩), (0, ups [4], fun w => ⟨_, vLet (P := P) (K.ad 12) K.L K.tk (Dh K.X 1 6) (w.t 110) (Dh_lt _ _ _)⟩), (3, ups [], fun w => ⟨_, vPow (w.t 113) 7 (w.t 114) (Int.ofNat 79228162514264337593543950336) (by decide +kernel) (by decide)⟩), (0, ups [], fun w => ⟨_, vDiv O (Fm K.X 1) (u 1) 79228162514264337593543950335 (w.t 115) (dq K.X 1 8) (by rfl) (PyProof.noPylong_of_log2 (by decide +kernel))⟩), (0, ups [], fun w => ⟨_, vMod O (dq K.X 1 8) (w.t 116) 4095 (w.t 117) (md K.X 1 8) rfl⟩), (0, ups [], fun w => ⟨_, vMod O (Int.ofNat 1) (w.t 0) 1 (w.t 120) (Int.ofNat 1) (by decide +kernel)⟩), (1, ups [], fun w => ⟨_, vMul (md K.X 1 8) (w.t 118) (Int.ofNat 2) (w.t 122) (md K.X 1 8 * Int.ofNat 2) rfl (mul_r _ _ (by decide))⟩), (0, ups [], fun w => ⟨_, vMod O (md K.X 1 8 * Int.ofNat 2) (w.t 123) 2 (w.t 124) (Int.ofNat (Dh K.X 1 7)) (hB 1 7 (by decide))⟩), (0, ups [4], fun w => ⟨_, vLet (P := P) (K.ad 12) K.L K.tk (Dh K.X 1 7) (w.t 125) (Dh_lt _ _ _)⟩), (3, ups [], fun w => ⟨_, vPow (w.t 128) 8 (w.t 129) (Int.ofNat 324518553658426726783156020576256) (by decide +kernel) (by decide)⟩), (0, ups [], fun w => ⟨_, vDiv O (Fm K.X 1) (u 1) 324518553658426726783156020576255 (w.t 130) (dq K.X 1 9) (by rfl) (PyProof.noPylong_of_log2 (by decide +kernel))⟩), (0, ups [], fun w => ⟨_, vMod O (dq K.X 1 9) (w.t 131) 4095 (w.t 132) (md K.X 1 9) rfl⟩), (0, ups [], fun w => ⟨_, vMod O (Int.ofNat 1) (w.t 0) 1 (w.t 135) (Int.ofNat 1) (by decide +kernel)⟩), (1, ups [], fun w => ⟨_, vMul (md K.X 1 9) (w.t 133) (Int.ofNat 2) (w.t 137) (md K.X 1 9 * Int.ofNat 2) rfl (mul_r _ _ (by decide))⟩), (0, ups [], fun w => ⟨_, vMod O (md K.X 1 9 * Int.ofNat 2) (w.t 138) 2 (w.t 139) (Int.ofNat (Dh K.X 1 8)) (hB 1 8 (by decide))⟩), (0, ups [4], fun w => ⟨_, vLet (P := P) (K.ad 12) K.L K.tk (Dh K.X 1 8) (w.t 140) (Dh_lt _ _ _)⟩), (2, ups [9], fun w => ⟨_, vJ0 P (w.t 1) (w.a 2) (ltV K 1 0 9) 9 (lrow K 1 9) (lrow_cat0 _ _ _) (ltV_le _ _ _ _) (by rw [ltV_len]; decide)⟩), (0, ups [], fun w => ⟨_, vSne (lrow K 1 9) (rt K p 1) (lrow K 1 9) (w.t 141) false (sne_same _)⟩), (0, ups [], fun w => ⟨_, vMul (Fm K.X 1) (u 1) (Int.ofNat 4097) (w.t 142) (Fm K.X 2) rfl (mul_r _ _ (by decide))⟩)] (ups [0,0,0,0,0,0,0])
    (c' := fun w => fl25 (lwZ P) K it) (t' := fun w => dn (fl25 (lwZ P) K it)) (l' := fun w => l25r (fxZ P) (lwZ P) K it q p (ovr u [(0, w.t 0), (1, w.t 143)]) 2) (ch' := fun _ => ch)
    (fun w => by kernel_rfl) fun w => H _
theorem r25_2 (O : VO V P b scr) {κ : Kont} (hR : Rm V κ 500) (ch : Ch) (K : Kn) (hB : BinLaw K.X) (it : Addr) (q p u : Nat → Nat) (R : Lst) (H : ∀ u, G25 V P ch κ K it q p u 3 R) : G25 V P ch κ K it q p u 2 R :=
  seg O hR 688 (hsD 229 11203137909777783949037894933078882306467456156245563087379462202784694636436986239375347908562936950720683955694625674883614234682853250000766555094144647994795987308884453550057149458262722702860653807843412214409748961436142641034919119850380595578179683289891075755853238610539060532466823936011684807028828995545460125035729635269453029991080631586932954435011159908682343016709120116182314358930875304989661452173187337646343704643292378967423216280761705309547447767007347591)
    [(9, ups [], fun w => ⟨_, vPow (w.t 8) 1 (w.t 9) (Int.ofNat 16777216) (by decide +kernel) (by decide)⟩), (0, ups [], fun w => ⟨_, vDiv O (Fm K.X 2) (u 1) 16777215 (w.t 10) (dq K.X 2 2) (by rfl) (PyProof.noPylong_of_log2 (by decide +kernel))⟩), (0, ups [], fun w => ⟨_, vMod O (dq K.X 2 2) (w.t 11) 4095 (w.t 12) (md K.X 2 2) rfl⟩), (0, ups [], fun w => ⟨_, vMod O (Int.ofNat 2) (w.t 0) 1 (w.t 15) (Int.ofNat 0) (by decide +kernel)⟩), (1, ups [], fun w => ⟨_, vMul (md K.X 2 2) (w.t 13) (Int.ofNat 1) (w.t 17) (md K.X 2 2 * Int.ofNat 1) rfl (mul_r _ _ (by decide))⟩), (0, ups [], fun w => ⟨_, vMod O (md K.X 2 2 * Int.ofNat 1) (w.t 18) 2 (w.t 19) (Int.ofNat (Dh K.X 2 0)) (hB 2 0 (by decide))⟩), (0, ups [4], fun w => ⟨_, vLet (P := P) (K.ad 12) K.L K.tk (Dh K.X 2 0) (w.t 20) (Dh_lt _ _ _)⟩), (3, ups [], fun w => ⟨_, vPow (w.t 23) 2 (w.t 24) (Int.ofNat 68719476736) (by decide +kernel) (by decide)⟩), (0, ups [], fun w => ⟨_, vDiv O (Fm K.X 2) (u 1) 68719476735 (w.t 25) (dq K.X 2 3) (by rfl) (PyProof.noPylong_of_log2 (by decide +kernel))⟩), (0, ups [], fun w => ⟨_, vMod O (dq K.X 2 3) (w.t 26) 4095 (w.t 27) (md K.X 2 3) rfl⟩), (0, ups [], fun w => ⟨_, vMod O (Int.ofNat 2) (w.t 0) 1 (w.t 30) (Int.ofNat 0) (by decide +kernel)⟩), (1, ups [], fun w => ⟨_, vMul (md K.X 2 3) (w.t 28) (Int.ofNat 1) (w.t 32) (md K.X 2 3 * Int.ofNat 1) rfl (mul_r _ _ (by decide))⟩), (0, ups [], fun w => ⟨_, vMod O (md K.X 2 3 * Int.ofNat 1) (w.t 33) 2 (w.t 34) (Int.ofNat (Dh K.X 2 1)) (hB 2 1 (by decide))⟩), (0, ups [4], fun w => ⟨_, vLet (P := P) (K.ad 12) K.L K.tk (Dh K.X 2 1) (w.t 35) (Dh_lt _ _ _)⟩), (3, ups [], fun w => ⟨_, vPow (w.t 38) 3 (w.t 39) (Int.ofNat 281474976710656) (by decide +kernel) (by decide)⟩), (0, ups [], fun w => ⟨_, vDiv O (Fm K.X 2) (u 1) 281474976710655 (w.t 40) (dq K.X 2 4) (by rfl) (PyProof.noPylong_of_log2 (by decide +kernel))⟩), (0, ups [], fun w => ⟨_, vMod O (dq K.X 2 4) (w.t 41) 4095 (w.t 42) (md K.X 2 4) rfl⟩), (0, ups [], fun w => ⟨_, vMod O (Int.ofNat 2) (w.t 0) 1 (w.t 45) (Int.ofNat 0) (by decide +kernel)⟩), (1, ups [], fun w => ⟨_, vMul (md K.X 2 4) (w.t 43) (Int.ofNat 1) (w.t 47) (md K.X 2 4 * Int.ofNat 1) rfl (mul_r _ _ (by decide))⟩), (0, ups [], fun w => ⟨_, vMod O (md K.X 2 4 * Int.ofNat 1) (w.t 48) 2 (w.t 49) (Int.ofNat (Dh K.X 2 2)) (hB 2 2 (by decide))⟩), (0, ups [4], fun w => ⟨_, vLet (P := P) (K.ad 12) K.L K.tk (Dh K.X 2 2) (w.t 50) (Dh_lt _ _ _)⟩), (3, ups [], fun w => ⟨_, vPow (w.t 53) 4 (w.t 54) (Int.ofNat 1152921504606846976) (by decide +kernel) (by decide)⟩), (0, ups [], fun w => ⟨_, vDiv O (Fm K.X 2) (u 1) 1152921504606846975 (w.t 55) (dq K.X 2 5) (by rfl) (PyProof.noPylong_of_log2 (by decide +kernel))⟩), (0, ups [], fun w => ⟨_, vMod O (dq K.X 2 5) (w.t 56) 4095 (w.t 57) (md K.X 2 5) rfl⟩), (0, ups [], fun w => ⟨_, vMod O (Int.ofNat 2) (w.t 0) 1 (w.t 60) (Int.ofNat 0) (by decide +kernel)⟩), (1, ups [], fun w => ⟨_, vMul (md K.X 2 5) (w.t 58) (Int.ofNat 1) (w.t 62) (md K.X 2 5 * Int.ofNat 1) rfl (mul_r _ _ (by decide))⟩), (0, ups [], fun w => ⟨_, vMod O (md K.X 2 5 * Int.ofNat 1) (w.t 63) 2 (w.t 64) (Int.ofNat (Dh K.X 2 3)) (hB 2 3 (by decide))⟩), (0, ups [4], fun w => ⟨_, vLet (P := P) (K.ad 12) K.L K.tk (Dh K.X 2 3) (w.t 65) (Dh_lt _ _ _)⟩), (3, ups [], fun w => ⟨_, vPow (w.t 68) 5 (w.t 69) (Int.ofNat 4722366482869645213696) (by decide +kernel) (by decide)⟩), (0, ups [], fun w => ⟨_, vDiv O (Fm K.X 2) (u 1) 4722366482869645213695 (w.t 70) (dq K.X 2 6) (by rfl) (PyProof.noPylong_of_log2 (by decide +kernel))⟩), (0, ups [], fun w => ⟨_, vMod O (dq K.X 2 6) (w.t 71) 4095 (w.t 72) (md K.X 2 6) rfl⟩), (0, ups [], fun w => ⟨_, vMod O (Int.ofNat 2) (w.t 0) 1 (w.t 75) (Int.ofNat 0) (by decide +kernel)⟩), (1, ups [], fun w => ⟨_, vMul (md K.X 2 6) (w.t 73) (Int.ofNat 1) (w.t 77) (md K.X 2 6 * Int.ofNat 1) rfl (mul_r _ _ (by decide))⟩), (0, ups [], fun w => ⟨_, vMod O (md K.X 2 6 * Int.ofNat 1) (w.t 78) 2 (w.t 79) (Int.ofNat (Dh K.X 2 4)) (hB 2 4 (by decide))⟩), (0, ups [4], fun w => ⟨_, vLet (P := P) (K.ad 12) K.L K.tk (Dh K.X 2 4) (w.t 80) (Dh_lt _ _ _)⟩), (3, ups [], fun w => ⟨_, vPow (w.t 83) 6 (w.t 84) (Int.ofNat 19342813113834066795298816) (by decide +kernel) (by decide)⟩), (0, ups [], fun w => ⟨_, vDiv O (Fm K.X 2) (u 1) 19342813113834066795298815 (w.t 85) (dq K.X 2 7) (by rfl) (PyProof.noPylong_of_log2 (by decide +kernel))⟩), (0, ups [], fun w => ⟨_, vMod O (dq K.X 2 7) (w.t 86) 4095 (w.t 87) (md K.X 2 7) rfl⟩), (0, ups [], fun w => ⟨_, vMod O (Int.ofNat 2) (w.t 0) 1 (w.t 90) (Int.ofNat 0) (by decide +kernel)⟩), (1, ups [], fun w => ⟨_, vMul (md K.X 2 7) (w.t 88) (Int.ofNat 1) (w.t 92) (md K.X 2 7 * Int.ofNat 1) rfl (mul_r _ _ (by decide))⟩), (0, ups [], fun w => ⟨_, vMod O (md K.X 2 7 * Int.ofNat 1) (w.t 93) 2 (w.t 94) (Int.ofNat (Dh K.X 2 5)) (hB 2 5 (by decide))⟩), (0, ups [4], fun w => ⟨_, vLet (P := P) (K.ad 12) K.L K.tk (Dh K.X 2 5) (w.t 95) (Dh_lt _ _ _)⟩), (3, ups [], fun w => ⟨_, vPow (w.t 98) 7 (w.t 99) (Int.ofNat 79228162514264337593543950336) (by decide +kernel) (by decide)⟩), (0, ups [], fun w => ⟨_, vDiv O (Fm K.X 2) (u 1) 79228162514264337593543950335 (w.t 100) (dq K.X 2 8) (by rfl) (PyProof.noPylong_of_log2 (by decide +kernel))⟩), (0, ups [], fun w => ⟨_, vMod O (dq K.X 2 8) (w.t 101) 4095 (w.t 102) (md K.X 2 8) rfl⟩), (0, ups [], fun w => ⟨_, vMod O (Int.ofNat 2) (w.t 0) 1 (w.t 105) (Int.ofNat 0) (by decide +kernel)⟩), (1, ups [], fun w => ⟨_, vMul (md K.X 2 8) (w.t 103) (Int.ofNat 1) (w.t 107) (md K.X 2 8 * Int.ofNat 1) rfl (mul_r _ _ (by decide))⟩), (0, ups [], fun w => ⟨_, vMod O (md K.X 2 8 * Int.ofNat 1) (w.t 108) 2 (w.t 109) (Int.ofNat (Dh K.X 2 6)) (hB 2 6 (by decide))⟩), (0, ups [4], fun w => ⟨_, vLet (P := P) (K.ad 12) K.L K.tk (Dh K.X 2 6) (w.t 110) (Dh_lt _ _ _)⟩), (3, ups [], fun w => ⟨_, vPow (w.t 113) 8 (w.t 114) (Int.ofNat 324518553658426726783156020576256) (by decide +kernel) (by decide)⟩), (0, ups [], fun w => ⟨_, vDiv O (Fm K.X 2) (u 1) 324518553658426726783156020576255 (w.t 115) (dq K.X 2 9) (by rfl) (PyProof.noPylong_of_log2 (by decide +kernel))⟩), (0, ups [], fun w => ⟨_, vMod O (dq K.X 2 9) (w.t 116) 4095 (w.t 117) (md K.X 2 9) rfl⟩), (0, ups [], fun w => ⟨_, vMod O (Int.ofNat 2) (w.t 0) 1 (w.t 120) (Int.ofNat 0) (by decide +kernel)⟩), (1, ups [], fun w => ⟨_, vMul (md K.X 2 9) (w.t 118) (Int.ofNat 1) (w.t 122) (md K.X 2 9 * Int.ofNat 1) rfl (mul_r _ _ (by decide))⟩), (0, ups [], fun w => ⟨_, vMod O (md K.X 2 9 * Int.ofNat 1) (w.t 123) 2 (w.t 124) (Int.ofNat (Dh K.X 2 7)) (hB 2 7 (by decide))⟩), (0, ups [4], fun w => ⟨_, vLet (P := P) (K.ad 12) K.L K.tk (Dh K.X 2 7) (w.t 125) (Dh_lt _ _ _)⟩), (2, ups [9], fun w => ⟨_, vJ0 P (w.t 1) (w.a 2) (ltV K 2 0 8) 8 (lrow K 2 8) (lrow_cat0 _ _ _) (ltV_le _ _ _ _) (by rw [ltV_len]; decide)⟩), (0, ups [], fun w => ⟨_, vSne (lrow K 2 8) (rt K p 2) (lrow K 2 8) (w.t 126) false (sne_same _)⟩), (0, ups [], fun w => ⟨_, vMul (Fm K.X 2) (u 1) (Int.ofNat 4097) (w.t 127) (Fm K.X 3) rfl (mul_r _ _ (by decide))⟩)] (ups [0,0,0,0,0,0,0])
    (c' := fun w => fl25 (lwZ P) K it) (t' := fun w => dn (fl25 (lwZ P) K it)) (l' := fun w => l25r (fxZ P) (lwZ P) K it q p (ovr u [(0, w.t 0), (1, w.t 128)]) 3) (ch' := fun _ => ch)
    (fun w => by kernel_rfl) fun w => H _
theorem r25_3 (O : VO V P b scr) {κ : Kont} (hR : Rm V κ 500) (ch : Ch) (K : Kn) (hB : BinLaw K.X) (it : Addr) (q p u : Nat → Nat) (R : Lst) (H : ∀ u, G25 V P ch κ K it q p u 4 R) : G25 V P ch κ K it q p u 3 R :=
  seg O hR 617 (hsD 206 3832749010886413493681462522918660475813241094504472883289264592681434051034556701762311039375035496461587052129467169491743213555790472142805574325307129815929651207300392967420810782548355382846222627647957475815869848302439033783013762901433157386982382570790980145154051943954839903560646031942036454498211840618372466391869712037042980845753084245657989491158556058648895970675994837667512182561865369245109339677106817973994375)
    [(9, ups [], fun w => ⟨_, vPow (w.t 8) 2 (w.t 9) (Int.ofNat 68719476736) (by decide +kernel) (by decide)⟩), (0, ups [], fun w => ⟨_, vDiv O (Fm K.X 3) (u 1) 68719476735 (w.t 10) (dq K.X 3 3) (by rfl) (PyProof.noPylong_of_log2 (by decide +kernel))⟩), (0, ups [], fun w => ⟨_, vMod O (dq K.X 3 3) (w.t 11) 4095 (w.t 12) (md K.X 3 3) rfl⟩), (0, ups [], fun w => ⟨_, vMod O (Int.ofNat 3) (w.t 0) 1 (w.t 15) (Int.ofNat 1) (by decide +kernel)⟩), (1, ups [], fun w => ⟨_, vMul (md K.X 3 3) (w.t 13) (Int.ofNat 2) (w.t 17) (md K.X 3 3 * Int.ofNat 2) rfl (mul_r _ _ (by decide))⟩), (0, ups [], fun w => ⟨_, vMod O (md K.X 3 3 * Int.ofNat 2) (w.t 18) 2 (w.t 19) (Int.ofNat (Dh K.X 3 0)) (hB 3 0 (by decide))⟩), (0, ups [4], fun w => ⟨_, vLet (P := P) (K.ad 12) K.L K.tk (Dh K.X 3 0) (w.t 20) (Dh_lt _ _ _)⟩), (3, ups [], fun w => ⟨_, vPow (w.t 23) 3 (w.t 24) (Int.ofNat 281474976710656) (by decide +kernel) (by decide)⟩), (0, ups [], fun w => ⟨_, vDiv O (Fm K.X 3) (u 1) 281474976710655 (w.t 25) (dq K.X 3 4) (by rfl) (PyProof.noPylong_of_log2 (by decide +kernel))⟩), (0, ups [], fun w => ⟨_, vMod O (dq K.X 3 4) (w.t 26) 4095 (w.t 27) (md K.X 3 4) rfl⟩), (0, ups [], fun w => ⟨_, vMod O (Int.ofNat 3) (w.t 0) 1 (w.t 30) (Int.ofNat 1) (by decide +kernel)⟩), (1, ups [], fun w => ⟨_, vMul (md K.X 3 4) (w.t 28) (Int.ofNat 2) (w.t 32) (md K.X 3 4 * Int.ofNat 2) rfl (mul_r _ _ (by decide))⟩), (0, ups [], fun w => ⟨_, vMod O (md K.X 3 4 * Int.ofNat 2) (w.t 33) 2 (w.t 34) (Int.ofNat (Dh K.X 3 1)) (hB 3 1 (by decide))⟩), (0, ups [4], fun w => ⟨_, vLet (P := P) (K.ad 12) K.L K.tk (Dh K.X 3 1) (w.t 35) (Dh_lt _ _ _)⟩), (3, ups [], fun w => ⟨_, vPow (w.t 38) 4 (w.t 39) (Int.ofNat 1152921504606846976) (by decide +kernel) (by decide)⟩), (0, ups [], fun w => ⟨_, vDiv O (Fm K.X 3) (u 1) 1152921504606846975 (w.t 40) (dq K.X 3 5) (by rfl) (PyProof.noPylong_of_log2 (by decide +kernel))⟩), (0, ups [], fun w => ⟨_, vMod O (dq K.X 3 5) (w.t 41) 4095 (w.t 42) (md K.X 3 5) rfl⟩), (0, ups [], fun w => ⟨_, vMod O (Int.ofNat 3) (w.t 0) 1 (w.t 45) (Int.ofNat 1) (by decide +kernel)⟩), (1, ups [], fun w => ⟨_, vMul (md K.X 3 5) (w.t 43) (Int.ofNat 2) (w.t 47) (md K.X 3 5 * Int.ofNat 2) rfl (mul_r _ _ (by decide))⟩), (0, ups [], fun w => ⟨_, vMod O (md K.X 3 5 * Int.ofNat 2) (w.t 48) 2 (w.t 49) (Int.ofNat (Dh K.X 3 2)) (hB 3 2 (by decide))⟩), (0, ups [4], fun w => ⟨_, vLet (P := P) (K.ad 12) K.L K.tk (Dh K.X 3 2) (w.t 50) (Dh_lt _ _ _)⟩), (3, ups [], fun w => ⟨_, vPow (w.t 53) 5 (w.t 54) (Int.ofNat 4722366482869645213696) (by decide +kernel) (by decide)⟩), (0, ups [], fun w => ⟨_, vDiv O (Fm K.X 3) (u 1) 4722366482869645213695 (w.t 55) (dq K.X 3 6) (by rfl) (PyProof.noPylong_of_log2 (by decide +kernel))⟩), (0, ups [], fun w => ⟨_, vMod O (dq K.X 3 6) (w.t 56) 4095 (w.t 57) (md K.X 3 6) rfl⟩), (0, ups [], fun w => ⟨_, vMod O (Int.ofNat 3) (w.t 0) 1 (w.t 60) (Int.ofNat 1) (by decide +kernel)⟩), (1, ups [], fun w => ⟨_, vMul (md K.X 3 6) (w.t 58) (Int.ofNat 2) (w.t 62) (md K.X 3 6 * Int.ofNat 2) rfl (mul_r _ _ (by decide))⟩), (0, ups [], fun w => ⟨_, vMod O (md K.X 3 6 * Int.ofNat 2) (w.t 63) 2 (w.t 64) (Int.ofNat (Dh K.X 3 3)) (hB 3 3 (by decide))⟩), (0, ups [4], fun w => ⟨_, vLet (P := P) (K.ad 12) K.L K.tk (Dh K.X 3 3) (w.t 65) (Dh_lt _ _ _)⟩), (3, ups [], fun w => ⟨_, vPow (w.t 68) 6 (w.t 69) (Int.ofNat 19342813113834066795298816) (by decide +kernel) (by decide)⟩), (0, ups [], fun w => ⟨_, vDiv O (Fm K.X 3) (u 1) 19342813113834066795298815 (w.t 70) (dq K.X 3 7) (by rfl) (PyProof.noPylong_of_log2 (by decide +kernel))⟩), (0, ups [], fun w => ⟨_, vMod O (dq K.X 3 7) (w.t 71) 4095 (w.t 72) (md K.X 3 7) rfl⟩), (0, ups [], fun w => ⟨_, vMod O (Int.ofNat 3) (w.t 0) 1 (w.t 75) (Int.ofNat 1) (by decide +kernel)⟩), (1, ups [], fun w => ⟨_, vMul (md K.X 3 7) (w.t 73) (Int.ofNat 2) (w.t 77) (md K.X 3 7 * Int.ofNat 2) rfl (mul_r _ _ (by decide))⟩), (0, ups [], fun w => ⟨_, vMod O (md K.X 3 7 * Int.ofNat 2) (w.t 78) 2 (w.t 79) (Int.ofNat (Dh K.X 3 4)) (hB 3 4 (by decide))⟩), (0, ups [4], fun w => ⟨_, vLet (P := P) (K.ad 12) K.L K.tk (Dh K.X 3 4) (w.t 80) (Dh_lt _ _ _)⟩), (3, ups [], fun w => ⟨_, vPow (w.t 83) 7 (w.t 84) (Int.ofNat 79228162514264337593543950336) (by decide +kernel) (by decide)⟩), (0, ups [], fun w => ⟨_, vDiv O (Fm K.X 3) (u 1) 79228162514264337593543950335 (w.t 85) (dq K.X 3 8) (by rfl) (PyProof.noPylong_of_log2 (by decide +kernel))⟩), (0, ups [], fun w => ⟨_, vMod O (dq K.X 3 8) (w.t 86) 4095 (w.t 87) (md K.X 3 8) rfl⟩), (0, ups [], fun w => ⟨_, vMod O (Int.ofNat 3) (w.t 0) 1 (w.t 90) (Int.ofNat 1) (by decide +kernel)⟩), (1, ups [], fun w => ⟨_, vMul (md K.X 3 8) (w.t 88) (Int.ofNat 2) (w.t 92) (md K.X 3 8 * Int.ofNat 2) rfl (mul_r _ _ (by decide))⟩), (0, ups [], fun w => ⟨_, vMod O (md K.X 3 8 * Int.ofNat 2) (w.t 93) 2 (w.t 94) (Int.ofNat (Dh K.X 3 5)) (hB 3 5 (by decide))⟩), (0, ups [4], fun w => ⟨_, vLet (P := P) (K.ad 12) K.L K.tk (Dh K.X 3 5) (w.t 95) (Dh_lt _ _ _)⟩), (3, ups [], fun w => ⟨_, vPow (w.t 98) 8 (w.t 99) (Int.ofNat 324518553658426726783156020576256) (by decide +kernel) (by decide)⟩), (0, ups [], fun w => ⟨_, vDiv O (Fm K.X 3) (u 1) 324518553658426726783156020576255 (w.t 100) (dq K.X 3 9) (by rfl) (PyProof.noPylong_of_log2 (by decide +kernel))⟩), (0, ups [], fun w => ⟨_, vMod O (dq K.X 3 9) (w.t 101) 4095 (w.t 102) (md K.X 3 9) rfl⟩), (0, ups [], fun w => ⟨_, vMod O (Int.ofNat 3) (w.t 0) 1 (w.t 105) (Int.ofNat 1) (by decide +kernel)⟩), (1, ups [], fun w => ⟨_, vMul (md K.X 3 9) (w.t 103) (Int.ofNat 2) (w.t 107) (md K.X 3 9 * Int.ofNat 2) rfl (mul_r _ _ (by decide))⟩), (0, ups [], fun w => ⟨_, vMod O (md K.X 3 9 * Int.ofNat 2) (w.t 108) 2 (w.t 109) (Int.ofNat (Dh K.X 3 6)) (hB 3 6 (by decide))⟩), (0, ups [4], fun w => ⟨_, vLet (P := P) (K.ad 12) K.L K.tk (Dh K.X 3 6) (w.t 110) (Dh_lt _ _ _)⟩), (2, ups [9], fun w => ⟨_, vJ0 P (w.t 1) (w.a 2) (ltV K 3 0 7) 7 (lrow K 3 7) (lrow_cat0 _ _ _) (ltV_le _ _ _ _) (by rw [ltV_len]; decide)⟩), (0, ups [], fun w => ⟨_, vSne (lrow K 3 7) (rt K p 3) (lrow K 3 7) (w.t 111) false (sne_same _)⟩), (0, ups [], fun w => ⟨_, vMul (Fm K.X 3) (u 1) (Int.ofNat 4097) (w.t 112) (Fm K.X 4) rfl (mul_r _ _ (by decide))⟩)] (ups [0,0,0,0,0,0,0])
    (c' := fun w => fl25 (lwZ P) K it) (t' := fun w => dn (fl25 (lwZ P) K it)) (l' := fun w => l25r (fxZ P) (lwZ P) K it q p (ovr u [(0, w.t 0), (1, w.t 113)]) 4) (ch' := fun _ => ch)
    (fun w => by kernel_rfl) fun w => H _
theorem r25_4 (O : VO V P b scr) {κ : Kont} (hR : Rm V κ 500) (ch : Ch) (K : Kn) (hB : BinLaw K.X) (it : Addr) (q p u : Nat → Nat) (R : Lst) (H : ∀ u, G25 V P ch κ K it q p u 5 R) : G25 V P ch κ K it q p u 4 R :=
  seg O hR 546 (hsD 183 1311236646264060745719397880651002161619199490445724026075942415941661893259371993332536608459937408264907597641653874100898830700368607254375196084431789836639199638291030538807867949294912750766935601729608481797876477790687925291842541287014331437279841229226437131978437990192649535044947201713774625788724142997992214598782442729912218891612792202428045627763521478399833434866567)
    [(9, ups [], fun w => ⟨_, vPow (w.t 8) 3 (w.t 9) (Int.ofNat 281474976710656) (by decide +kernel) (by decide)⟩), (0, ups [], fun w => ⟨_, vDiv O (Fm K.X 4) (u 1) 281474976710655 (w.t 10) (dq K.X 4 4) (by rfl) (PyProof.noPylong_of_log2 (by decide +kernel))⟩), (0, ups [], fun w => ⟨_, vMod O (dq K.X 4 4) (w.t 11) 4095 (w.t 12) (md K.X 4 4) rfl⟩), (0, ups [], fun w => ⟨_, vMod O (Int.ofNat 4) (w.t 0) 1 (w.t 15) (Int.ofNat 0) (by decide +kernel)⟩), (1, ups [], fun w => ⟨_, vMul (md K.X 4 4) (w.t 13) (Int.ofNat 1) (w.t 17) (md K.X 4 4 * Int.ofNat 1) rfl (mul_r _ _ (by decide))⟩), (0, ups [], fun w => ⟨_, vMod O (md K.X 4 4 * Int.ofNat 1) (w.t 18) 2 (w.t 19) (Int.ofNat (Dh K.X 4 0)) (hB 4 0 (by decide))⟩), (0, ups [4], fun w => ⟨_, vLet (P := P) (K.ad 12) K.L K.tk (Dh K.X 4 0) (w.t 20) (Dh_lt _ _ _)⟩), (3, ups [], fun w => ⟨_, vPow (w.t 23) 4 (w.t 24) (Int.ofNat 1152921504606846976) (by decide +kernel) (by decide)⟩), (0, ups [], fun w => ⟨_, vDiv O (Fm K.X 4) (u 1) 1152921504606846975 (w.t 25) (dq K.X 4 5) (by rfl) (PyProof.noPylong_of_log2 (by decide +kernel))⟩), (0, ups [], fun w => ⟨_, vMod O (dq K.X 4 5) (w.t 26) 4095 (w.t 27) (md K.X 4 5) rfl⟩), (0, ups [], fun w => ⟨_, vMod O (Int.ofNat 4) (w.t 0) 1 (w.t 30) (Int.ofNat 0) (by decide +kernel)⟩), (1, ups [], fun w => ⟨_, vMul (md K.X 4 5) (w.t 28) (Int.ofNat 1) (w.t 32) (md K.X 4 5 * Int.ofNat 1) rfl (mul_r _ _ (by decide))⟩), (0, ups [], fun w => ⟨_, vMod O (md K.X 4 5 * Int.ofNat 1) (w.t 33) 2 (w.t 34) (Int.ofNat (Dh K.X 4 1)) (hB 4 1 (by decide))⟩), (0, ups [4], fun w => ⟨_, vLet (P := P) (K.ad 12) K.L K.tk (Dh K.X 4 1) (w.t 35) (Dh_lt _ _ _)⟩), (3, ups [], fun w => ⟨_, vPow (w.t 38) 5 (w.t 39) (Int.ofNat 4722366482869645213696) (by decide +kernel) (by decide)⟩), (0, ups [], fun w => ⟨_, vDiv O (Fm K.X 4) (u 1) 4722366482869645213695 (w.t 40) (dq K.X 4 6) (by rfl) (PyProof.noPylong_of_log2 (by decide +kernel))⟩), (0, ups [], fun w => ⟨_, vMod O (dq K.X 4 6) (w.t 41) 4095 (w.t 42) (md K.X 4 6) rfl⟩), (0, ups [], fun w => ⟨_, vMod O (Int.ofNat 4) (w.t 0) 1 (w.t 45) (Int.ofNat 0) (by decide +kernel)⟩), (1, ups [], fun w => ⟨_, vMul (md K.X 4 6) (w.t 43) (Int.ofNat 1) (w.t 47) (md K.X 4 6 * Int.ofNat 1) rfl (mul_r _ _ (by decide))⟩), (0, ups [], fun w => ⟨_, vMod O (md K.X 4 6 * Int.ofNat 1) (w.t 48) 2 (w.t 49) (Int.ofNat (Dh K.X 4 2)) (hB 4 2 (by decide))⟩), (0, ups [4], fun w => ⟨_, vLet (P := P) (K.ad 12) K.L K.tk (Dh K.X 4 2) (w.t 50) (Dh_lt _ _ _)⟩), (3, ups [], fun w => ⟨_, vPow (w.t 53) 6 (w.t 54) (Int.ofNat 19342813113834066795298816) (by decide +kernel) (by decide)⟩), (0, ups [], fun w => ⟨_, vDiv O (Fm K.X 4) (u 1) 19342813113834066795298815 (w.t 55) (dq K.X 4 7) (by rfl) (PyProof.noPylong_of_log2 (by decide +kernel))⟩), (0, ups [], fun w => ⟨_, vMod O (dq K.X 4 7) (w.t 56) 4095 (w.t 57) (md K.X 4 7) rfl⟩), (0, ups [], fun w => ⟨_, vMod O (Int.ofNat 4) (w.t 0) 1 (w.t 60) (Int.ofNat 0) (by decide +kernel)⟩), (1, ups [], fun w => ⟨_, vMul (md K.X 4 7) (w.t 58) (Int.ofNat 1) (w.t 62) (md K.X 4 7 * Int.ofNat 1) rfl (mul_r _ _ (by decide))⟩), (0, ups [], fun w => ⟨_, vMod O (md K.X 4 7 * Int.ofNat 1) (w.t 63) 2 (w.t 64) (Int.ofNat (Dh K.X 4 3)) (hB 4 3 (by decide))⟩), (0, ups [4], fun w => ⟨_, vLet (P := P) (K.ad 12) K.L K.tk (Dh K.X 4 3) (w.t 65) (Dh_lt _ _ _)⟩), (3, ups [], fun w => ⟨_, vPow (w.t 68) 7 (w.t 69) (Int.ofNat 79228162514264337593543950336) (by decide +kernel) (by decide)⟩), (0, ups [], fun w => ⟨_, vDiv O (Fm K.X 4) (u 1) 79228162514264337593543950335 (w.t 70) (dq K.X 4 8) (by rfl) (PyProof.noPylong_of_log2 (by decide +kernel))⟩), (0, ups [], fun w => ⟨_, vMod O (dq K.X 4 8) (w.t 71) 4095 (w.t 72) (md K.X 4 8) rfl⟩), (0, ups [], fun w => ⟨_, vMod O (Int.ofNat 4) (w.t 0) 1 (w.t 75) (Int.ofNat 0) (by decide +kernel)⟩), (1, ups [], fun w => ⟨_, vMul (md K.X 4 8) (w.t 73) (Int.ofNat 1) (w.t 77) (md K.X 4 8 * Int.ofNat 1) rfl (mul_r _ _ (by decide))⟩), (0, ups [], fun w => ⟨_, vMod O (md K.X 4 8 * Int.ofNat 1) (w.t 78) 2 (w.t 79) (Int.ofNat (Dh K.X 4 4)) (hB 4 4 (by decide))⟩), (0, ups [4], fun w => ⟨_, vLet (P := P) (K.ad 12) K.L K.tk (Dh K.X 4 4) (w.t 80) (Dh_lt _ _ _)⟩), (3, ups [], fun w => ⟨_, vPow (w.t 83) 8 (w.t 84) (Int.ofNat 324518553658426726783156020576256) (by decide +kernel) (by decide)⟩), (0, ups [], fun w => ⟨_, vDiv O (Fm K.X 4) (u 1) 324518553658426726783156020576255 (w.t 85) (dq K.X 4 9) (by rfl) (PyProof.noPylong_of_log2 (by decide +kernel))⟩), (0, ups [], fun w => ⟨_, vMod O (dq K.X 4 9) (w.t 86) 4095 (w.t 87) (md K.X 4 9) rfl⟩), (0, ups [], fun w => ⟨_, vMod O (Int.ofNat 4) (w.t 0) 1 (w.t 90) (Int.ofNat 0) (by decide +kernel)⟩), (1, ups [], fun w => ⟨_, vMul (md K.X 4 9) (w.t 88) (Int.ofNat 1) (w.t 92) (md K.X 4 9 * Int.ofNat 1) rfl (mul_r _ _ (by decide))⟩), (0, ups [], fun w => ⟨_, vMod O (md K.X 4 9 * Int.ofNat 1) (w.t 93) 2 (w.t 94) (Int.ofNat (Dh K.X 4 5)) (hB 4 5 (by decide))⟩), (0, ups [4], fun w => ⟨_, vLet (P := P) (K.ad 12) K.L K.tk (Dh K.X 4 5) (w.t 95) (Dh_lt _ _ _)⟩), (2, ups [9], fun w => ⟨_, vJ0 P (w.t 1) (w.a 2) (ltV K 4 0 6) 6 (lrow K 4 6) (lrow_cat0 _ _ _) (ltV_le _ _ _ _) (by rw [ltV_len]; decide)⟩), (0, ups [], fun w => ⟨_, vSne (lrow K 4 6) (rt K p 4) (lrow K 4 6) (w.t 96) false (sne_same _)⟩), (0, ups [], fun w => ⟨_, vMul (Fm K.X 4) (u 1) (Int.ofNat 4097) (w.t 97) (Fm K.X 5) rfl (mul_r _ _ (by decide))⟩)] (ups [0,0,0,0,0,0,0])
    (c' := fun w => fl25 (lwZ P) K it) (t' := fun w => dn (fl25 (lwZ P) K it)) (l' := fun w => l25r (fxZ P) (lwZ P) K it q p (ovr u [(0, w.t 0), (1, w.t 98)]) 5) (ch' := fun _ => ch)
    (fun w => by kernel_rfl) fun w => H _
theorem r25_5 (O : VO V P b scr) {κ : Kont} (hR : Rm V κ 500) (ch : Ch) (K : Kn) (hB : BinLaw K.X) (it : Addr) (q p u : Nat → Nat) (R : Lst) (H : ∀ u, G25 V P ch κ K it q p u 6 R) : G25 V P ch κ K it q p u 5 R :=
  seg O hR 475 (hsD 160 448592260443420827174471084896401979273135370450777073224181208039734860577470775102702825583296240009262733273464901765973396849310852434136346554451014092721287646732762633770069563094247662007528515171179087295432007502832818230645893117452678322658569608737788012915676143738459563141417507258072086758500784850663909384957798237063)
    [(9, ups [], fun w => ⟨_, vPow (w.t 8) 4 (w.t 9) (Int.ofNat 1152921504606846976) (by decide +kernel) (by decide)⟩), (0, ups [], fun w => ⟨_, vDiv O (Fm K.X 5) (u 1) 1152921504606846975 (w.t 10) (dq K.X 5 5) (by rfl) (PyProof.noPylong_of_log2 (by decide +kernel))⟩), (0, ups [], fun w => ⟨_, vMod O (dq K.X 5 5) (w.t 11) 4095 (w.t 12) (md K.X 5 5) rfl⟩), (0, ups [], fun w => ⟨_, vMod O (Int.ofNat 5) (w.t 0) 1 (w.t 15) (Int.ofNat 1) (by decide +kernel)⟩), (1, ups [], fun w => ⟨_, vMul (md K.X 5 5) (w.t 13) (Int.ofNat 2) (w.t 17) (md K.X 5 5 * Int.ofNat 2) rfl (mul_r _ _ (by decide))⟩), (0, ups [], fun w => ⟨_, vMod O (md K.X 5 5 * Int.ofNat 2) (w.t 18) 2 (w.t 19) (Int.ofNat (Dh K.X 5 0)) (hB 5 0 (by decide))⟩), (0, ups [4], fun w => ⟨_, vLet (P := P) (K.ad 12) K.L K.tk (Dh K.X 5 0) (w.t 20) (Dh_lt _ _ _)⟩), (3, ups [], fun w => ⟨_, vPow (w.t 23) 5 (w.t 24) (Int.ofNat 4722366482869645213696) (by decide +kernel) (by decide)⟩), (0, ups [], fun w => ⟨_, vDiv O (Fm K.X 5) (u 1) 4722366482869645213695 (w.t 25) (dq K.X 5 6) (by rfl) (PyProof.noPylong_of_log2 (by decide +kernel))⟩), (0, ups [], fun w => ⟨_, vMod O (dq K.X 5 6) (w.t 26) 4095 (w.t 27) (md K.X 5 6) rfl⟩), (0, ups [], fun w => ⟨_, vMod O (Int.ofNat 5) (w.t 0) 1 (w.t 30) (Int.ofNat 1) (by decide +kernel)⟩), (1, ups [], fun w => ⟨_, vMul (md K.X 5 6) (w.t 28) (Int.ofNat 2) (w.t 32) (md K.X 5 6 * Int.ofNat 2) rfl (mul_r _ _ (by decide))⟩), (0, ups [], fun w => ⟨_, vMod O (md K.X 5 6 * Int.ofNat 2) (w.t 33) 2 (w.t 34) (Int.ofNat (Dh K.X 5 1)) (hB 5 1 (by decide))⟩), (0, ups [4], fun w => ⟨_, vLet (P := P) (K.ad 12) K.L K.tk (Dh K.X 5 1) (w.t 35) (Dh_lt _ _ _)⟩), (3, ups [], fun w => ⟨_, vPow (w.t 38) 6 (w.t 39) (Int.ofNat 19342813113834066795298816) (by decide +kernel) (by decide)⟩), (0, ups [], fun w => ⟨_, vDiv O (Fm K.X 5) (u 1) 19342813113834066795298815 (w.t 40) (dq K.X 5 7) (by rfl) (PyProof.noPylong_of_log2 (by decide +kernel))⟩), (0, ups [], fun w => ⟨_, vMod O (dq K.X 5 7) (w.t 41) 4095 (w.t 42) (md K.X 5 7) rfl⟩), (0, ups [], fun w => ⟨_, vMod O (Int.ofNat 5) (w.t 0) 1 (w.t 45) (Int.ofNat 1) (by decide +kernel)⟩), (1, ups [], fun w => ⟨_, vMul (md K.X 5 7) (w.t 43) (Int.ofNat 2) (w.t 47) (md K.X 5 7 * Int.ofNat 2) rfl (mul_r _ _ (by decide))⟩), (0, ups [], fun w => ⟨_, vMod O (md K.X 5 7 * Int.ofNat 2) (w.t 48) 2 (w.t 49) (Int.ofNat (Dh K.X 5 2)) (hB 5 2 (by decide))⟩), (0, ups [4], fun w => ⟨_, vLet (P := P) (K.ad 12) K.L K.tk (Dh K.X 5 2) (w.t 50) (Dh_lt _ _ _)⟩), (3, ups [], fun w => ⟨_, vPow (w.t 53) 7 (w.t 54) (Int.ofNat 79228162514264337593543950336) (by decide +kernel) (by decide)⟩), (0, ups [], fun w => ⟨_, vDiv O (Fm K.X 5) (u 1) 79228162514264337593543950335 (w.t 55) (dq K.X 5 8) (by rfl) (PyProof.noPylong_of_log2 (by decide +kernel))⟩), (0, ups [], fun w => ⟨_, vMod O (dq K.X 5 8) (w.t 56) 4095 (w.t 57) (md K.X 5 8) rfl⟩), (0, ups [], fun w => ⟨_, vMod O (Int.ofNat 5) (w.t 0) 1 (w.t 60) (Int.ofNat 1) (by decide +kernel)⟩), (1, ups [], fun w => ⟨_, vMul (md K.X 5 8) (w.t 58) (Int.ofNat 2) (w.t 62) (md K.X 5 8 * Int.ofNat 2) rfl (mul_r _ _ (by decide))⟩), (0, ups [], fun w => ⟨_, vMod O (md K.X 5 8 * Int.ofNat 2) (w.t 63) 2 (w.t 64) (Int.ofNat (Dh K.X 5 3)) (hB 5 3 (by decide))⟩), (0, ups [4], fun w => ⟨_, vLet (P := P) (K.ad 12) K.L K.tk (Dh K.X 5 3) (w.t 65) (Dh_lt _ _ _)⟩), (3, ups [], fun w => ⟨_, vPow (w.t 68) 8 (w.t 69) (Int.ofNat 324518553658426726783156020576256) (by decide +kernel) (by decide)⟩), (0, ups [], fun w => ⟨_, vDiv O (Fm K.X 5) (u 1) 324518553658426726783156020576255 (w.t 70) (dq K.X 5 9) (by rfl) (PyProof.noPylong_of_log2 (by decide +kernel))⟩), (0, ups [], fun w => ⟨_, vMod O (dq K.X 5 9) (w.t 71) 4095 (w.t 72) (md K.X 5 9) rfl⟩), (0, ups [], fun w => ⟨_, vMod O (Int.ofNat 5) (w.t 0) 1 (w.t 75) (Int.ofNat 1) (by decide +kernel)⟩), (1, ups [], fun w => ⟨_, vMul (md K.X 5 9) (w.t 73) (Int.ofNat 2) (w.t 77) (md K.X 5 9 * Int.ofNat 2) rfl (mul_r _ _ (by decide))⟩), (0, ups [], fun w => ⟨_, vMod O (md K.X 5 9 * Int.ofNat 2) (w.t 78) 2 (w.t 79) (Int.ofNat (Dh K.X 5 4)) (hB 5 4 (by decide))⟩), (0, ups [4], fun w => ⟨_, vLet (P := P) (K.ad 12) K.L K.tk (Dh K.X 5 4) (w.t 80) (Dh_lt _ _ _)⟩), (2, ups [9], fun w => ⟨_, vJ0 P (w.t 1) (w.a 2) (ltV K 5 0 5) 5 (lrow K 5 5) (lrow_cat0 _ _ _) (ltV_le _ _ _ _) (by rw [ltV_len]; decide)⟩), (0, ups [], fun w => ⟨_, vSne (lrow K 5 5) (rt K p 5) (lrow K 5 5) (w.t 81) false (sne_same _)⟩), (0, ups [], fun w => ⟨_, vMul (Fm K.X 5) (u 1) (Int.ofNat 4097) (w.t 82) (Fm K.X 6) rfl (mul_r _ _ (by decide))⟩)] (ups [0,0,0,0,0,0,0])
    (c' := fun w => fl25 (lwZ P) K it) (t' := fun w => dn (fl25 (lwZ P) K it)) (l' := fun w => l25r (fxZ P) (lwZ P) K it q p (ovr u [(0, w.t 0), (1, w.t 83)]) 6) (ch' := fun _ => ch)
    (fun w => by kernel_rfl) fun w => H _
theorem r25_6 (O : VO V P b scr) {κ : Kont} (hR : Rm V κ 500) (ch : Ch) (K : Kn) (hB : BinLaw K.X) (it : Addr) (q p u : Nat → Nat) (R : Lst) (H : ∀ u, G25 V P ch κ K it q p u 7 R) : G25 V P ch κ K it q p u 6 R :=
  seg O hR 404 (hsD 137 153469640055508786157588522203128031671676871988585842663107327153840045277597149385482076073386826611141323801488390544886465843296738016966713657805095834225756451975368694215897400516178196022226956293166675300141261915959250281618400387020946313246735358038682943402578823567030469511)
    [(9, ups [], fun w => ⟨_, vPow (w.t 8) 5 (w.t 9) (Int.ofNat 4722366482869645213696) (by decide +kernel) (by decide)⟩), (0, ups [], fun w => ⟨_, vDiv O (Fm K.X 6) (u 1) 4722366482869645213695 (w.t 10) (dq K.X 6 6) (by rfl) (PyProof.noPylong_of_log2 (by decide +kernel))⟩), (0, ups [], fun w => ⟨_, vMod O (dq K.X 6 6) (w.t 11) 4095 (w.t 12) (md K.X 6 6) rfl⟩), (0, ups [], fun w => ⟨_, vMod O (Int.ofNat 6) (w.t 0) 1 (w.t 15) (Int.ofNat 0) (by decide +kernel)⟩), (1, ups [], fun w => ⟨_, vMul (md K.X 6 6) (w.t 13) (Int.ofNat 1) (w.t 17) (md K.X 6 6 * Int.ofNat 1) rfl (mul_r _ _ (by decide))⟩), (0, ups [], fun w => ⟨_, vMod O (md K.X 6 6 * Int.ofNat 1) (w.t 18) 2 (w.t 19) (Int.ofNat (Dh K.X 6 0)) (hB 6 0 (by decide))⟩), (0, ups [4], fun w => ⟨_, vLet (P := P) (K.ad 12) K.L K.tk (Dh K.X 6 0) (w.t 20) (Dh_lt _ _ _)⟩), (3, ups [], fun w => ⟨_, vPow (w.t 23) 6 (w.t 24) (Int.ofNat 19342813113834066795298816) (by decide +kernel) (by decide)⟩), (0, ups [], fun w => ⟨_, vDiv O (Fm K.X 6) (u 1) 19342813113834066795298815 (w.t 25) (dq K.X 6 7) (by rfl) (PyProof.noPylong_of_log2 (by decide +kernel))⟩), (0, ups [], fun w => ⟨_, vMod O (dq K.X 6 7) (w.t 26) 4095 (w.t 27) (md K.X 6 7) rfl⟩), (0, ups [], fun w => ⟨_, vMod O (Int.ofNat 6) (w.t 0) 1 (w.t 30) (Int.ofNat 0) (by decide +kernel)⟩), (1, ups [], fun w => ⟨_, vMul (md K.X 6 7) (w.t 28) (Int.ofNat 1) (w.t 32) (md K.X 6 7 * Int.ofNat 1) rfl (mul_r _ _ (by decide))⟩), (0, ups [], fun w => ⟨_, vMod O (md K.X 6 7 * Int.ofNat 1) (w.t 33) 2 (w.t 34) (Int.ofNat (Dh K.X 6 1)) (hB 6 1 (by decide))⟩), (0, ups [4], fun w => ⟨_, vLet (P := P) (K.ad 12) K.L K.tk (Dh K.X 6 1) (w.t 35) (Dh_lt _ _ _)⟩), (3, ups [], fun w => ⟨_, vPow (w.t 38) 7 (w.t 39) (Int.ofNat 79228162514264337593543950336) (by decide +kernel) (by decide)⟩), (0, ups [], fun w => ⟨_, vDiv O (Fm K.X 6) (u 1) 79228162514264337593543950335 (w.t 40) (dq K.X 6 8) (by rfl) (PyProof.noPylong_of_log2 (by decide +kernel))⟩), (0, ups [], fun w => ⟨_, vMod O (dq K.X 6 8) (w.t 41) 4095 (w.t 42) (md K.X 6 8) rfl⟩), (0, ups [], fun w => ⟨_, vMod O (Int.ofNat 6) (w.t 0) 1 (w.t 45) (Int.ofNat 0) (by decide +kernel)⟩), (1, ups [], fun w => ⟨_, vMul (md K.X 6 8) (w.t 43) (Int.ofNat 1) (w.t 47) (md K.X 6 8 * Int.ofNat 1) rfl (mul_r _ _ (by decide))⟩), (0, ups [], fun w => ⟨_, vMod O (md K.X 6 8 * Int.ofNat 1) (w.t 48) 2 (w.t 49) (Int.ofNat (Dh K.X 6 2)) (hB 6 2 (by decide))⟩), (0, ups [4], fun w => ⟨_, vLet (P := P) (K.ad 12) K.L K.tk (Dh K.X 6 2) (w.t 50) (Dh_lt _ _ _)⟩), (3, ups [], fun w => ⟨_, vPow (w.t 53) 8 (w.t 54) (Int.ofNat 324518553658426726783156020576256) (by decide +kernel) (by decide)⟩), (0, ups [], fun w => ⟨_, vDiv O (Fm K.X 6) (u 1) 324518553658426726783156020576255 (w.t 55) (dq K.X 6 9) (by rfl) (PyProof.noPylong_of_log2 (by decide +kernel))⟩), (0, ups [], fun w => ⟨_, vMod O (dq K.X 6 9) (w.t 56) 4095 (w.t 57) (md K.X 6 9) rfl⟩), (0, ups [], fun w => ⟨_, vMod O (Int.ofNat 6) (w.t 0) 1 (w.t 60) (Int.ofNat 0) (by decide +kernel)⟩), (1, ups [], fun w => ⟨_, vMul (md K.X 6 9) (w.t 58) (Int.ofNat 1) (w.t 62) (md K.X 6 9 * Int.ofNat 1) rfl (mul_r _ _ (by decide))⟩), (0, ups [], fun w => ⟨_, vMod O (md K.X 6 9 * Int.ofNat 1) (w.t 63) 2 (w.t 64) (Int.ofNat (Dh K.X 6 3)) (hB 6 3 (by decide))⟩), (0, ups [4], fun w => ⟨_, vLet (P := P) (K.ad 12) K.L K.tk (Dh K.X 6 3) (w.t 65) (Dh_lt _ _ _)⟩), (2, ups [9], fun w => ⟨_, vJ0 P (w.t 1) (w.a 2) (ltV K 6 0 4) 4 (lrow K 6 4) (lrow_cat0 _ _ _) (ltV_le _ _ _ _) (by rw [ltV_len]; decide)⟩), (0, ups [], fun w => ⟨_, vSne (lrow K 6 4) (rt K p 6) (lrow K 6 4) (w.t 66) false (sne_same _)⟩), (0, ups [], fun w => ⟨_, vMul (Fm K.X 6) (u 1) (Int.ofNat 4097) (w.t 67) (Fm K.X 7) rfl (mul_r _ _ (by decide))⟩)] (ups [0,0,0,0,0,0,0])
    (c' := fun w => fl25 (lwZ P) K it) (t' := fun w => dn (fl25 (lwZ P) K it)) (l' := fun w => l25r (fxZ P) (lwZ P) K it q p (ovr u [(0, w.t 0), (1, w.t 68)]) 7) (ch' := fun _ => ch)
    (fun w => by kernel_rfl) fun w => H _
theorem r25_7 (O : VO V P b scr) {κ : Kont} (hR : Rm V κ 500) (ch : Ch) (K : Kn) (hB : BinLaw K.X) (it : Addr) (q p u : Nat → Nat) (R : Lst) (H : ∀ u, G25 V P ch κ K it q p u 8 R) : G25 V P ch κ K it q p u 7 R :=
  seg O hR 333 (hsD 114 52504094465397191342695973154874565680802488980721232711546946633780013804301059297451877860517589391254541190946166125290703184040251854774249749619347980277863588230987446621878855135719437910762433660254044286965617383868684354394899335)
    [(9, ups [], fun w => ⟨_, vPow (w.t 8) 6 (w.t 9) (Int.ofNat 19342813113834066795298816) (by decide +kernel) (by decide)⟩), (0, ups [], fun w => ⟨_, vDiv O (Fm K.X 7) (u 1) 19342813113834066795298815 (w.t 10) (dq K.X 7 7) (by rfl) (PyProof.noPylong_of_log2 (by decide +kernel))⟩), (0, ups [], fun w => ⟨_, vMod O (dq K.X 7 7) (w.t 11) 4095 (w.t 12) (md K.X 7 7) rfl⟩), (0, ups [], fun w => ⟨_, vMod O (Int.ofNat 7) (w.t 0) 1 (w.t 15) (Int.ofNat 1) (by decide +kernel)⟩), (1, ups [], fun w => ⟨_, vMul (md K.X 7 7) (w.t 13) (Int.ofNat 2) (w.t 17) (md K.X 7 7 * Int.ofNat 2) rfl (mul_r _ _ (by decide))⟩), (0, ups [], fun w => ⟨_, vMod O (md K.X 7 7 * Int.ofNat 2) (w.t 18) 2 (w.t 19) (Int.ofNat (Dh K.X 7 0)) (hB 7 0 (by decide))⟩), (0, ups [4], fun w => ⟨_, vLet (P := P) (K.ad 12) K.L K.tk (Dh K.X 7 0) (w.t 20) (Dh_lt _ _ _)⟩), (3, ups [], fun w => ⟨_, vPow (w.t 23) 7 (w.t 24) (Int.ofNat 79228162514264337593543950336) (by decide +kernel) (by decide)⟩), (0, ups [], fun w => ⟨_, vDiv O (Fm K.X 7) (u 1) 79228162514264337593543950335 (w.t 25) (dq K.X 7 8) (by rfl) (PyProof.noPylong_of_log2 (by decide +kernel))⟩), (0, ups [], fun w => ⟨_, vMod O (dq K.X 7 8) (w.t 26) 4095 (w.t 27) (md K.X 7 8) rfl⟩), (0, ups [], fun w => ⟨_, vMod O (Int.ofNat 7) (w.t 0) 1 (w.t 30) (Int.ofNat 1) (by decide +kernel)⟩), (1, ups [], fun w => ⟨_, vMul (md K.X 7 8) (w.t 28) (Int.ofNat 2) (w.t 32) (md K.X 7 8 * Int.ofNat 2) rfl (mul_r _ _ (by decide))⟩), (0, ups [], fun w => ⟨_, vMod O (md K.X 7 8 * Int.ofNat 2) (w.t 33) 2 (w.t 34) (Int.ofNat (Dh K.X 7 1)) (hB 7 1 (by decide))⟩), (0, ups [4], fun w => ⟨_, vLet (P := P) (K.ad 12) K.L K.tk (Dh K.X 7 1) (w.t 35) (Dh_lt _ _ _)⟩), (3, ups [], fun w => ⟨_, vPow (w.t 38) 8 (w.t 39) (Int.ofNat 324518553658426726783156020576256) (by decide +kernel) (by decide)⟩), (0, ups [], fun w => ⟨_, vDiv O (Fm K.X 7) (u 1) 324518553658426726783156020576255 (w.t 40) (dq K.X 7 9) (by rfl) (PyProof.noPylong_of_log2 (by decide +kernel))⟩), (0, ups [], fun w => ⟨_, vMod O (dq K.X 7 9) (w.t 41) 4095 (w.t 42) (md K.X 7 9) rfl⟩), (0, ups [], fun w => ⟨_, vMod O (Int.ofNat 7) (w.t 0) 1 (w.t 45) (Int.ofNat 1) (by decide +kernel)⟩), (1, ups [], fun w => ⟨_, vMul (md K.X 7 9) (w.t 43) (Int.ofNat 2) (w.t 47) (md K.X 7 9 * Int.ofNat 2) rfl (mul_r _ _ (by decide))⟩), (0, ups [], fun w => ⟨_, vMod O (md K.X 7 9 * Int.ofNat 2) (w.t 48) 2 (w.t 49) (Int.ofNat (Dh K.X 7 2)) (hB 7 2 (by decide))⟩), (0, ups [4], fun w => ⟨_, vLet (P := P) (K.ad 12) K.L K.tk (Dh K.X 7 2) (w.t 50) (Dh_lt _ _ _)⟩), (2, ups [9], fun w => ⟨_, vJ0 P (w.t 1) (w.a 2) (ltV K 7 0 3) 3 (lrow K 7 3) (lrow_cat0 _ _ _) (ltV_le _ _ _ _) (by rw [ltV_len]; decide)⟩), (0, ups [], fun w => ⟨_, vSne (lrow K 7 3) (rt K p 7) (lrow K 7 3) (w.t 51) false (sne_same _)⟩), (0, ups [], fun w => ⟨_, vMul (Fm K.X 7) (u 1) (Int.ofNat 4097) (w.t 52) (Fm K.X 8) rfl (mul_r _ _ (by decide))⟩)] (ups [0,0,0,0,0,0,0])
    (c' := fun w => fl25 (lwZ P) K it) (t' := fun w => dn (fl25 (lwZ P) K it)) (l' := fun w => l25r (fxZ P) (lwZ P) K it q p (ovr u [(0, w.t 0), (1, w.t 53)]) 8) (ch' := fun _ => ch)
    (fun w => by kernel_rfl) fun w => H _
theorem r25_8 (O : VO V P b scr) {κ : Kont} (hR : Rm V κ 500) (ch : Ch) (K : Kn) (hB : BinLaw K.X) (it : Addr) (q p u : Nat → Nat) (R : Lst) (H : ∀ u, G25 V P ch κ K it q p u 9 R) : G25 V P ch κ K it q p u 8 R :=
  seg O hR 262 (hsD 91 17962379625274953992721455610500628499580513349569150003094078880937146309462490078042208136053011385076098072970729604107833617464891083561948734280659466476022690312056364134505863190791047)
    [(9, ups [], fun w => ⟨_, vPow (w.t 8) 7 (w.t 9) (Int.ofNat 79228162514264337593543950336) (by decide +kernel) (by decide)⟩), (0, ups [], fun w => ⟨_, vDiv O (Fm K.X 8) (u 1) 79228162514264337593543950335 (w.t 10) (dq K.X 8 8) (by rfl) (PyProof.noPylong_of_log2 (by decide +kernel))⟩), (0, ups [], fun w => ⟨_, vMod O (dq K.X 8 8) (w.t 11) 4095 (w.t 12) (md K.X 8 8) rfl⟩), (0, ups [], fun w => ⟨_, vMod O (Int.ofNat 8) (w.t 0) 1 (w.t 15) (Int.ofNat 0) (by decide +kernel)⟩), (1, ups [], fun w => ⟨_, vMul (md K.X 8 8) (w.t 13) (Int.ofNat 1) (w.t 17) (md K.X 8 8 * Int.ofNat 1) rfl (mul_r _ _ (by decide))⟩), (0, ups [], fun w => ⟨_, vMod O (md K.X 8 8 * Int.ofNat 1) (w.t 18) 2 (w.t 19) (Int.ofNat (Dh K.X 8 0)) (hB 8 0 (by decide))⟩), (0, ups [4], fun w => ⟨_, vLet (P := P) (K.ad 12) K.L K.tk (Dh K.X 8 0) (w.t 20) (Dh_lt _ _ _)⟩), (3, ups [], fun w => ⟨_, vPow (w.t 23) 8 (w.t 24) (Int.ofNat 324518553658426726783156020576256) (by decide +kernel) (by decide)⟩), (0, ups [], fun w => ⟨_, vDiv O (Fm K.X 8) (u 1) 324518553658426726783156020576255 (w.t 25) (dq K.X 8 9) (by rfl) (PyProof.noPylong_of_log2 (by decide +kernel))⟩), (0, ups [], fun w => ⟨_, vMod O (dq K.X 8 9) (w.t 26) 4095 (w.t 27) (md K.X 8 9) rfl⟩), (0, ups [], fun w => ⟨_, vMod O (Int.ofNat 8) (w.t 0) 1 (w.t 30) (Int.ofNat 0) (by decide +kernel)⟩), (1, ups [], fun w => ⟨_, vMul (md K.X 8 9) (w.t 28) (Int.ofNat 1) (w.t 32) (md K.X 8 9 * Int.ofNat 1) rfl (mul_r _ _ (by decide))⟩), (0, ups [], fun w => ⟨_, vMod O (md K.X 8 9 * Int.ofNat 1) (w.t 33) 2 (w.t 34) (Int.ofNat (Dh K.X 8 1)) (hB 8 1 (by decide))⟩), (0, ups [4], fun w => ⟨_, vLet (P := P) (K.ad 12) K.L K.tk (Dh K.X 8 1) (w.t 35) (Dh_lt _ _ _)⟩), (2, ups [9], fun w => ⟨_, vJ0 P (w.t 1) (w.a 2) (ltV K 8 0 2) 2 (lrow K 8 2) (lrow_cat0 _ _ _) (ltV_le _ _ _ _) (by rw [ltV_len]; decide)⟩), (0, ups [], fun w => ⟨_, vSne (lrow K 8 2) (rt K p 8) (lrow K 8 2) (w.t 36) false (sne_same _)⟩), (0, ups [], fun w => ⟨_, vMul (Fm K.X 8) (u 1) (Int.ofNat 4097) (w.t 37) (Fm K.X 9) rfl (mul_r _ _ (by decide))⟩)] (ups [0,0,0,0,0,0,0])
    (c' := fun w => fl25 (lwZ P) K it) (t' := fun w => dn (fl25 (lwZ P) K it)) (l' := fun w => l25r (fxZ P) (lwZ P) K it q p (ovr u [(0, w.t 0), (1, w.t 38)]) 9) (ch' := fun _ => ch)
    (fun w => by kernel_rfl) fun w => H _
theorem r25_9 (O : VO V P b scr) {κ : Kont} (hR : Rm V κ 500) (ch : Ch) (K : Kn) (hB : BinLaw K.X) (it : Addr) (q p u : Nat → Nat) (R : Lst) (H : ∀ u, G25 V P ch κ K it q p u 10 R) : G25 V P ch κ K it q p u 9 R :=
  seg O hR 191 (hsD 68 6145179439579388707122346892893020177398087030515445897800635701632229631299742411764371283520272948115421580961659489918859163322923679335303)
    [(9, ups [], fun w => ⟨_, vPow (w.t 8) 8 (w.t 9) (Int.ofNat 324518553658426726783156020576256) (by decide +kernel) (by decide)⟩), (0, ups [], fun w => ⟨_, vDiv O (Fm K.X 9) (u 1) 324518553658426726783156020576255 (w.t 10) (dq K.X 9 9) (by rfl) (PyProof.noPylong_of_log2 (by decide +kernel))⟩), (0, ups [], fun w => ⟨_, vMod O (dq K.X 9 9) (w.t 11) 4095 (w.t 12) (md K.X 9 9) rfl⟩), (0, ups [], fun w => ⟨_, vMod O (Int.ofNat 9) (w.t 0) 1 (w.t 15) (Int.ofNat 1) (by decide +kernel)⟩), (1, ups [], fun w => ⟨_, vMul (md K.X 9 9) (w.t 13) (Int.ofNat 2) (w.t 17) (md K.X 9 9 * Int.ofNat 2) rfl (mul_r _ _ (by decide))⟩), (0, ups [], fun w => ⟨_, vMod O (md K.X 9 9 * Int.ofNat 2) (w.t 18) 2 (w.t 19) (Int.ofNat (Dh K.X 9 0)) (hB 9 0 (by decide))⟩), (0, ups [4], fun w => ⟨_, vLet (P := P) (K.ad 12) K.L K.tk (Dh K.X 9 0) (w.t 20) (Dh_lt _ _ _)⟩), (2, ups [9], fun w => ⟨_, vJ0 P (w.t 1) (w.a 2) (ltV K 9 0 1) 1 (lrow K 9 1) (lrow_cat0 _ _ _) (ltV_le _ _ _ _) (by rw [ltV_len]; decide)⟩), (0, ups [], fun w => ⟨_, vSne (lrow K 9 1) (rt K p 9) (lrow K 9 1) (w.t 21) false (sne_same _)⟩), (0, ups [], fun w => ⟨_, vMul (Fm K.X 9) (u 1) (Int.ofNat 4097) (w.t 22) (Fm K.X 10) rfl (mul_r _ _ (by decide))⟩)] (ups [0,0,0,0,0,0,0])
    (c' := fun w => fl25 (lwZ P) K it) (t' := fun w => dn (fl25 (lwZ P) K it)) (l' := fun w => l25r (fxZ P) (lwZ P) K it q p (ovr u [(0, w.t 0), (1, w.t 23)]) 10) (ch' := fun _ => ch)
    (fun w => by kernel_rfl) fun w => H _
theorem r25_10 (O : VO V P b scr) {κ : Kont} (hR : Rm V κ 500) (ch : Ch) (K : Kn) (it : Addr) (q p u : Nat → Nat) (R : Lst) (H : Rr V ch κ (.ok .next) (l25r (fxZ P) (lwZ P) K it q p u 10 ++ R)) : G25 V P ch κ K it q p u 10 R :=
  segR O hR 15 [7,7,7,7,7,9] [] (ups [0,0,0,0,0,0,0]) (r := fun w => .ok .next) (l' := fun w => l25r (fxZ P) (lwZ P) K it q p u 10) (ch' := fun _ => ch) (fun w => by kernel_rfl) fun w => H
noncomputable def cFig (Q : Fx) (W : Lw) (K : Kn) (it : Addr) (q p u : Nat → Nat) : Con := ⟨fl25 W K it, l25r Q W K it q p u 0,0,90,
  fun _ θ => objsOf (l25r Q W K it q p θ 10), fun _ _ => [], fun _ _ => .ok .next, 500⟩
theorem vFig (O : VO V P b scr) (K : Kn) (hB : BinLaw K.X) (it : Addr) (q p u : Nat → Nat) : Valid V (cFig (fxZ P) (lwZ P) K it q p u) := by
  intro ch c κ R g lv k hR H
  refine G.call ?_
  refine r25_0 O hR ch K hB it q p u R fun v => r25_1 O hR ch K hB it q p v R fun v => r25_2 O hR ch K hB it q p v R fun v => r25_3 O hR ch K hB it q p v R fun v => r25_4 O hR ch K hB it q p v R fun v =>
    r25_5 O hR ch K hB it q p v R fun v => r25_6 O hR ch K hB it q p v R fun v => r25_7 O hR ch K hB it q p v R fun v => r25_8 O hR ch K hB it q p v R fun v => r25_9 O hR ch K hB it q p v R fun v => ?_
  refine r25_10 O hR ch K it q p v R (Rr.ret ?_)
  have z := H (fun _ => 0) (tOf9 v) (fun _ _ => rfl) (tOf9_out v)
  have e : reput (cFig (fxZ P) (lwZ P) K it q p u).foot ((cFig (fxZ P) (lwZ P) K it q p u).post (fun _ => 0) (tOf9 v)) ++ newL (fun _ => 0) 0 ((cFig (fxZ P) (lwZ P) K it q p u).new (fun _ => 0) (tOf9 v)) = l25r (fxZ P) (lwZ P) K it q p v 10 := by kernel_rfl
  rw [e] at z
  exact z
end
end Mine
namespace Mine
open PySem PySem.W PySem.W.X PySem.Spec PySem.Calls PyProof.Rows
noncomputable def lH (Q : Fx) (K : Kn) (q p : Nat → Nat) (es : List (List Nat × Tok × Value)) (ne : Nat) (c9 c10 c11 : Option Value) (more : Lst) : Lst :=
  frame Q.N K.ad (fr13k K (kv21 K p 10) ++ (es18s K q 2 9 ++ es21 K p 10 ++ es)) ne [some (.ref 139), some (.int K.tot (K.tk 0)), some (.ref (K.ad 12)), some (.ref (K.ad 13)), some (.ref (K.ad 14)), some (.ref K.r.me), some (.ref (K.ad 24)), some (.ref (q 9)), c9, c10, c11] ++
    ([(K.ad 24, dctO Q.N (gvL K.L K.tk (gt18 q) 9) 9), (q 0, lstO Q.N (prsV K q) 0), (q 9, lstO Q.N (rowsV K p 10) 10)] ++ more)
end Mine
namespace Mine
open PySem PySem.W PySem.W.X PySem.Spec PySem.Calls PyProof.Rows
section
variable {V : XV} {P : Params} {b : Bool} {scr : Obj}
theorem sF25 (O : VO V P b scr) {κ : Kont} (hR : Rm V κ 400) (K : Kn) (hB : BinLaw K.X) (q p : Nat → Nat) (ft : Tok) (n : Nat) (k : Int) (kt : Tok) (R : Lst)
    (H : ∀ t1 t2, LG V P κ R (chR K.r) (lH (fxZ P) K q p [] 15 (some (.int (Int.ofNat 9) t1)) (some (.int (Fm K.X 10) t2)) none []) 26) :
    LG V P κ R (chR K.r) (lE (fxZ P) K q p [] 15 (some (.int (fgs K.X).sum ft)) none [] n k kt []) 25 :=
  segL O hR 38 [0,0,27,27,27,27,27,27,27,27,27,27,28]
    [(4, ups [3,4,0,0,1,12,1], fun w => ⟨_, vFig O K hB (w.a 1) q p (ovr (fun _ => 0) [(1, ft)])⟩)]
    (ups [0,0,0,0,0,0,0,0,0,0,0,0,11,0,0]) (fun w => lH (fxZ P) K q p [] 15 (some (.int (Int.ofNat 9) (w.t 3))) (some (.int (Fm K.X 10) (w.t 4))) none []) 26 (fun w => chR K.r) (fun w => by kernel_rfl) fun w => H _ _
end
end Mine
namespace Mine
open PySem PySem.W PySem.W.X PySem.Spec PySem.Calls PyProof.Rows
noncomputable def rgO (s : String) (n : Int) (t0 t t2 : Tok) : Obj := { cls := .type s, data := .fields ⟨[.int 0 t0, .int n t, .int 1 t2]⟩ }
noncomputable def rgZ : String := SZ.s1438033511350832697x5
noncomputable def liO (s : String) (a : Addr) (i : Nat) : Obj := { cls := .type s, data := .fields ⟨[.ref a, .int (Int.ofNat i) 0]⟩ }
noncomputable def liE (s : String) (i : Nat) : Obj := { cls := .type s, data := .fields ⟨[.none, .int (Int.ofNat i) 0]⟩ }
noncomputable def liZ : String := SZ.s3492446563574874994x13
section
variable {V : XV} {P : Params} {b : Bool} {scr : Obj}
noncomputable def cNx (s : String) (it : Addr) (m r : Nat) : Con := ⟨calB "range_iterator.__next__" [.ref it],[(it, rngO s m (r + 1))],0,1, fun _ _ => [rngO s (m + 1) r], fun _ _ => [], fun _ θ => .ok (.ret (.int (Int.ofNat m) (θ 0))), 900⟩
noncomputable def cIsub (x : Int) (t : Tok) (y : Int) (u : Tok) (r : Int) : Con := pureC (calB "int.__sub__" [.int x t, .int y u]) 1 (fun θ => .int r (θ 0)) 900
theorem vIsub (x : Int) (t : Tok) (y : Int) (u : Tok) (r : Int) (h : x - y = r) : Valid V (cIsub x t y u r) := by
  have z := vGi (V := V) (id := "int.__sub__") F.slot_int_sub (fun s => typeIs_int s x t) F.entry_int_sub (F.args_int_sub_2 _ _) (AutoIntG9.int___sub___int_int_0 x t y u)
  rw [h] at z
  exact z
noncomputable def cIeq (x : Int) (t : Tok) (y : Int) (u : Tok) (r : Bool) : Con := pureC (calB "int.__eq__" [.int x t, .int y u]) 0 (fun _ => .bool r) 900
theorem vIeq (x : Int) (t : Tok) (y : Int) (u : Tok) (r : Bool) (h : (x == y) = r) : Valid V (cIeq x t y u r) := by
  have z := vGv (V := V) (id := "int.__eq__") F.slot_int_eq (fun s => typeIs_int s x t) F.entry_int_eq (F.args_int_eq_2 _ _) (AutoIntG7.int___eq___int_int_0 x t y u)
  have e : ((fun x1 x2 => x1 == x2) x y) = r := h
  rw [e] at z
  exact z
theorem vNx_0_6 (O : VO V P b scr) (it : Addr) : Valid V (cNx riZ it 0 6) :=
  valid_of O _ 10 [1,1,1,1,1,1,1,1] [] (ups [0]) (fun w => []) (fun w => [w.t 0]) (fun _ => rfl) (fun _ => rfl) (fun ch κ w => by kernel_rfl)
theorem vNx_1_5 (O : VO V P b scr) (it : Addr) : Valid V (cNx riZ it 1 5) :=
  valid_of O _ 10 [1,1,1,1,1,1,1,1] [] (ups [0]) (fun w => []) (fun w => [w.t 0]) (fun _ => rfl) (fun _ => rfl) (fun ch κ w => by kernel_rfl)
theorem vNx_2_4 (O : VO V P b scr) (it : Addr) : Valid V (cNx riZ it 2 4) :=
  valid_of O _ 10 [1,1,1,1,1,1,1,1] [] (ups [0]) (fun w => []) (fun w => [w.t 0]) (fun _ => rfl) (fun _ => rfl) (fun ch κ w => by kernel_rfl)
theorem vNx_3_3 (O : VO V P b scr) (it : Addr) : Valid V (cNx riZ it 3 3) :=
  valid_of O _ 10 [1,1,1,1,1,1,1,1] [] (ups [0]) (fun w => []) (fun w => [w.t 0]) (fun _ => rfl) (fun _ => rfl) (fun ch κ w => by kernel_rfl)
theorem vNx_4_2 (O : VO V P b scr) (it : Addr) : Valid V (cNx riZ it 4 2) :=
  valid_of O _ 10 [1,1,1,1,1,1,1,1] [] (ups [0]) (fun w => []) (fun w => [w.t 0]) (fun _ => rfl) (fun _ => rfl) (fun ch κ w => by kernel_rfl)
theorem vNx_5_1 (O : VO V P b scr) (it : Addr) : Valid V (cNx riZ it 5 1) :=
  valid_of O _ 10 [1,1,1,1,1,1,1,1] [] (ups [0]) (fun w => []) (fun w => [w.t 0]) (fun _ => rfl) (fun _ => rfl) (fun ch κ w => by kernel_rfl)
theorem vNx_6_0 (O : VO V P b scr) (it : Addr) : Valid V (cNx riZ it 6 0) :=
  valid_of O _ 10 [1,1,1,1,1,1,1,1] [] (ups [0]) (fun w => []) (fun w => [w.t 0]) (fun _ => rfl) (fun _ => rfl) (fun ch κ w => by kernel_rfl)
theorem vNx_0_0 (O : VO V P b scr) (it : Addr) : Valid V (cNx riZ it 0 0) :=
  valid_of O _ 10 [1,1,1,1,1,1,1,1] [] (ups [0]) (fun w => []) (fun w => [w.t 0]) (fun _ => rfl) (fun _ => rfl) (fun ch κ w => by kernel_rfl)
noncomputable def cRg (s : String) (n : Int) (t : Tok) : Con := ⟨.call (.type s) ⟨[.int n t],[]⟩, [],1,2, fun _ _ => [], fun _ θ => [rgO s n (θ 0) t (θ 1)], fun α _ => .ok (.ret (.ref (α 0))), 900⟩
theorem vRg (O : VO V P b scr) (n : Nat) (t : Tok) : Valid V (cRg rgZ (Int.ofNat n) t) :=
  valid_of O _ 15 [1,1,1,1] [] (ups [0]) (fun w => [w.a 0]) (fun w => [w.t 0, w.t 1]) (fun _ => rfl) (fun _ => rfl) (fun ch κ w => by kernel_rfl)
noncomputable def cRit (s si : String) (a : Addr) (n : Nat) (t0 t t2 : Tok) : Con := ⟨calB "range.__iter__" [.ref a],[(a, rgO s (Int.ofNat n) t0 t t2)],1,0, fun _ _ => [], fun _ _ => [rngO si 0 n], fun α _ => .ok (.ret (.ref (α 0))), 900⟩
theorem vRit_1 (O : VO V P b scr) (a : Addr) (t0 t t2 : Tok) : Valid V (cRit rgZ riZ a 1 t0 t t2) :=
  valid_of O _ 6 [1,1,1,1] [] (ups [0,0]) (fun w => [w.a 0]) (fun w => []) (fun _ => rfl) (fun _ => rfl) (fun ch κ w => by kernel_rfl)
theorem vRit_2 (O : VO V P b scr) (a : Addr) (t0 t t2 : Tok) : Valid V (cRit rgZ riZ a 2 t0 t t2) :=
  valid_of O _ 6 [1,1,1,1] [] (ups [0,0]) (fun w => [w.a 0]) (fun w => []) (fun _ => rfl) (fun _ => rfl) (fun ch κ w => by kernel_rfl)
theorem vRit_3 (O : VO V P b scr) (a : Addr) (t0 t t2 : Tok) : Valid V (cRit rgZ riZ a 3 t0 t t2) :=
  valid_of O _ 6 [1,1,1,1] [] (ups [0,0]) (fun w => [w.a 0]) (fun w => []) (fun _ => rfl) (fun _ => rfl) (fun ch κ w => by kernel_rfl)
theorem vRit_4 (O : VO V P b scr) (a : Addr) (t0 t t2 : Tok) : Valid V (cRit rgZ riZ a 4 t0 t t2) :=
  valid_of O _ 6 [1,1,1,1] [] (ups [0,0]) (fun w => [w.a 0]) (fun w => []) (fun _ => rfl) (fun _ => rfl) (fun ch κ w => by kernel_rfl)
theorem vRit_5 (O : VO V P b scr) (a : Addr) (t0 t t2 : Tok) : Valid V (cRit rgZ riZ a 5 t0 t t2) :=
  valid_of O _ 6 [1,1,1,1] [] (ups [0,0]) (fun w => [w.a 0]) (fun w => []) (fun _ => rfl) (fun _ => rfl) (fun ch κ w => by kernel_rfl)
theorem vRit_6 (O : VO V P b scr) (a : Addr) (t0 t t2 : Tok) : Valid V (cRit rgZ riZ a 6 t0 t t2) :=
  valid_of O _ 6 [1,1,1,1] [] (ups [0,0]) (fun w => [w.a 0]) (fun w => []) (fun _ => rfl) (fun _ => rfl) (fun ch κ w => by kernel_rfl)
theorem vRit_7 (O : VO V P b scr) (a : Addr) (t0 t t2 : Tok) : Valid V (cRit rgZ riZ a 7 t0 t t2) :=
  valid_of O _ 6 [1,1,1,1] [] (ups [0,0]) (fun w => [w.a 0]) (fun w => []) (fun _ => rfl) (fun _ => rfl) (fun ch κ w => by kernel_rfl)
noncomputable def cLit (N : Nm) (s : String) (a : Addr) (vs : List Value) (n : Nat) : Con := ⟨calB "list.__iter__" [.ref a],[(a, lstO N vs n)],1,0, fun _ _ => [], fun _ _ => [liO s a 0], fun α _ => .ok (.ret (.ref (α 0))), 900⟩
theorem vLit (O : VO V P b scr) (a : Addr) (vs : List Value) (n : Nat) : Valid V (cLit (nmZ P) liZ a vs n) :=
  valid_of O _ 3 [1] [] (ups [0,0]) (fun w => [w.a 0]) (fun w => []) (fun _ => rfl) (fun _ => rfl) (fun ch κ w => by kernel_rfl)
end
end Mine
namespace Mine
open PySem PySem.W PySem.W.X PySem.Spec PySem.Calls PyProof.Rows
noncomputable def ifTest (ss : List Stmt) : Expr := match ss with
  | .If t _ _ _ :: _ => t
  | _ => default
noncomputable def cmpL (e : Expr) : Expr := match e with
  | .Compare l _ _ _ => l
  | _ => default
noncomputable def cmpR (e : Expr) : Expr := match e with
  | .Compare _ _ (r :: _) _ => r
  | _ => default
noncomputable def callArg (e : Expr) : Expr := match e with
  | .Call _ (a :: _) _ _ => a
  | _ => default
noncomputable def ifExpB (e : Expr) : Expr := match e with
  | .IfExp _ b _ _ => b
  | _ => default
noncomputable def b26 (W : Lw) : List Stmt := forB (forB (dropS 26 (bodyOf W.F)))
noncomputable def eWh (W : Lw) : Expr := asgOf (b26 W)
noncomputable def eHd (W : Lw) : Expr := asgOf (dropS 1 (b26 W))
noncomputable def eTr (W : Lw) : Expr := ifExpB (cmpR (ifTest (dropS 2 (b26 W))))
noncomputable def eJc (W : Lw) : Expr := callArg (cmpL (ifTest (dropS 3 (b26 W))))
noncomputable def sRows : List Nat := [114,111,119,115]
noncomputable def sM : List Nat := [109]
noncomputable def sLeap : List Nat := [108,101,97,112]
noncomputable def sGives : List Nat := [103,105,118,101,115]
noncomputable def sJ : List Nat := [106]
noncomputable def sPart : List Nat := [112,97,114,116]
noncomputable def mapK : List (Str × NameKind) → List (Str × NameKind)
  | [] => []
  | (n, k) :: l => (n, match k with | .free => .cell | k => k) :: mapK l
noncomputable def cEn (E : Env) (e : Expr) (loc : Addr) (cells : List (Str × Addr)) : Env := { cEnv E e loc cells with scope := { scOf e with names := mapK (scOf e).names } }
noncomputable def pt (K : Kn) (m : Nat) : Nat → Nat → List Nat
  | _, 0 => []
  | a, n + 1 => K.L (Dh K.X m a) :: pt K m (a + 1) n
noncomputable def whL (K : Kn) (m n : Nat) (T : Nat → Tok) : Nat → Nat → List (List Nat × Tok)
  | _, 0 => []
  | a, c + 1 => (pt K m a n, T a) :: whL K m n T (a + 1) c
noncomputable def nm (x : List Nat) : Str := ⟨⟨x⟩⟩
noncomputable def cWh (Q : Fx) (W : Lw) (K : Kn) (q p : Nat → Nat) (it acc loc : Addr) (lp m c : Nat) (mt lt : Tok) : Con := ⟨.compStart (eWh W) 0 (.ref it) (.ref acc) (cEn (lawEn W.F K.ad) (eWh W) loc [(nm sRows, K.ad 8), (nm sM, K.ad 9), (nm sLeap, K.ad 11)]),
  [(K.ad 8, celO Q.N (some (.ref (q 9)))), (K.ad 9, celO Q.N (some (.int (Int.ofNat m) mt))), (K.ad 11, celO Q.N (some (.int (Int.ofNat lp) lt))), (q 9, lstO Q.N (rowsV K p 10) 10), (it, rngO W.ri 0 c), (acc, lstO Q.N [] 0), (loc, dctO Q.N [] 0)],0,20,
  fun _ θ => [celO Q.N (some (.ref (q 9))), celO Q.N (some (.int (Int.ofNat m) mt)), celO Q.N (some (.int (Int.ofNat lp) lt)), lstO Q.N (rowsV K p 10) 10, rngO W.ri c 0, lstO Q.N (stV (whL K m (lp + 1) (fun a => θ (2 + a)) 0 c)) c, dctO Q.N [(sJ, θ 0, .int (Int.ofNat (c - 1)) (θ 1))] 1], fun _ _ => [], fun _ _ => .ok .next, 700⟩
noncomputable def lastV (l : List (List Nat × Tok)) : Value := match l with
  | [] => .none
  | [x] => .str ⟨⟨x.1⟩⟩ x.2
  | _ :: x :: l => lastV (x :: l)
noncomputable def cOv (Q : Fx) (li : String) (e : Expr) (E : Env) (cells : List (Str × Addr)) (it acc loc la : Addr) (xs : List (List Nat × Tok)) (n c : Nat) (pre : Lst) (r : (Nat → Tok) → List (List Nat × Tok)) : Con := ⟨.compStart e 0 (.ref it) (.ref acc) (cEn E e loc cells),
  pre ++ [(la, lstO Q.N (stV xs) n), (it, liO li la 0), (acc, lstO Q.N [] 0), (loc, dctO Q.N [] 0)],0,20,
  fun _ θ => objsOf pre ++ [lstO Q.N (stV xs) n, liE li c, lstO Q.N (stV (r θ)) c, dctO Q.N [(sPart, θ 0, lastV xs)] 1], fun _ _ => [], fun _ _ => .ok .next, 700⟩
noncomputable def cramL (K : Kn) (t : Tok) : List (List Nat × Tok) := [([K.L (Dh K.X 0 0), 46,46,46, K.L (Dh K.X 0 9)], t)]
noncomputable def LucLaw (X : Nat → Int) : Prop := (∀ m j, m + 3 + j ≤ 9 → th3 (Dh X m j) (Dh X m (j + 3)) = Dh X (m + 3) j) ∧ th3 (Dh X 0 0) (Dh X 0 9) = Dh X 9 0
section
variable {V : XV} {P : Params} {b : Bool} {scr : Obj}
noncomputable def cGi (N : Nm) (K : Kn) (q : Nat → Nat) (m i j M a : Nat) (t : Tok) : Con := cItem N (K.ad 24) (gvL K.L K.tk (gt18 q) 9) 9 [K.L (Dh K.X m i), K.L (Dh K.X m j)] t (.str ⟨⟨[K.L (Dh K.X M a)]⟩⟩ (K.tk (1 + Dh K.X M a)))
theorem vGi' (O : VO V P b scr) (K : Kn) (hD : Dist K.L) (q : Nat → Nat) (m i j M a : Nat) (t : Tok) (h : th3 (Dh K.X m i) (Dh K.X m j) = Dh K.X M a) : Valid V (cGi (nmZ P) K q m i j M a t) := by
  refine vItem O (K.ad 24) (gvL K.L K.tk (gt18 q) 9) 9 [K.L (Dh K.X m i), K.L (Dh K.X m j)] t _ (gvL_ne _ _ _ _) ?_
  rw [← h]
  exact gvL_get hD K.tk (gt18 q) 9 _ _ (Dh_lt _ _ _) (Dh_lt _ _ _) (by have := Dh_lt K.X m i; have := Dh_lt K.X m j; omega) (by decide)
end
end Mine
namespace Mine
open PySem PySem.W PySem.W.X PySem.Spec PySem.Calls PyProof.Rows
section
variable {V : XV} {set set' : Setting} {kt : KT} {tabs : Ch} {lv : Nat}
theorem valid_comp (O : Vok V set set' kt tabs) (C : Con) (e : Expr) (d : Nat) (it : Addr) (acc : Value) (env : Env) (hc : C.c = .compStart e d (.ref it) acc env) (he : compOk e d = true) (j : Nat) (o : Obj) (hj : lget C.foot j = some (it, o)) (hi : isIt o = true)
    (n : Nat) (hs : List Nat) (cs : List (Nat × List Bool × (Ora → VCon V))) (sel : List Bool) (fa ft : Ora → List Nat) (ha : ∀ w, (fa w).length = C.nN) (ht : ∀ w, (ft w).length = C.nT)
    (h12 : ∀ ch κ w, (vwR sel (vm set set' kt tabs C.lv w n (st0 V (.compLoop e d (.ref it) acc env) κ (dn (.compLoop e d (.ref it) acc env)) C.foot ch hs cs)), lhs (vm set set' kt tabs C.lv w n (st0 V (.compLoop e d (.ref it) acc env) κ (dn (.compLoop e d (.ref it) acc env)) C.foot ch hs cs))) =
      (some (leafOf (C.r (nth (fa w)) (nth (ft w))), 0, reput C.foot (C.post (nth (fa w)) (nth (ft w))) ++ newL (nth (fa w)) 0 (C.new (nth (fa w)) (nth (ft w))), ch), rhs (vm set set' kt tabs C.lv w n (st0 V (.compLoop e d (.ref it) acc env) κ (dn (.compLoop e d (.ref it) acc env)) C.foot ch hs cs)))) : Valid V C := by
  intro ch c κ R g lv' k hR K
  rw [hc]
  obtain ⟨elt, gens, scope, pos, cg, rfl, hg, hz⟩ := compOk_some he
  obtain ⟨T, hI, hT⟩ := isIt_some hi
  refine G.comp hg hz hI (o := o) (fun h D => (D.nw (it, o) (List.mem_append_left _ (lget_mem hj))).1) hT ?_
  exact segR O hR n hs cs sel (r := fun w => C.r (nth (fa w)) (nth (ft w))) (l' := fun w => reput C.foot (C.post (nth (fa w)) (nth (ft w))) ++ newL (nth (fa w)) 0 (C.new (nth (fa w)) (nth (ft w)))) (ch' := fun _ => ch) (h12 ch _) fun w => Rr.ret (K _ _ (fun j hj => nth_out _ _ (by rw [ha]; exact hj)) (fun j hj => nth_out _ _ (by rw [ht]; exact hj)))
end
end Mine
namespace Mine
open PySem PySem.W PySem.W.X PySem.Spec PySem.Calls PyProof.Rows
section
variable {V : XV} {P : Params} {b : Bool} {scr : Obj}
theorem vWh_3_0 (O : VO V P b scr) (K : Kn) (q p : Nat → Nat) (it acc loc : Addr) (mt lt : Tok) : Valid V (cWh (fxZ P) (lwZ P) K q p it acc loc 3 0 7 mt lt) :=
  valid_comp O _ (eWh (lwZ P)) 0 it (.ref acc) (cEn (lawEn (lwZ P).F K.ad) (eWh (lwZ P)) loc [(nm sRows, K.ad 8), (nm sM, K.ad 9), (nm sLeap, K.ad 11)]) rfl (by kernel_rfl) 4 (rngO riZ 0 7) rfl (by kernel_rfl) 497 (hsD 209 31978713990157806623684218966447016985071546617725057832676919144159271186439034733761388622240361027693289393821860234992868996712386906585494286289875432750023129998251404528719438573510393899779741061788445089215943334665593968632136683068758101796753213774951336250364533120243320019473585986526384633427736462124040103126153002468574883293163148697146241753543750460880463330245793101174741821233968763199349773155803940513859571368581) [] (ups [0,0,0,0,0,0,0]) (fun w => []) (fun w => [w.t 1, w.t 36, w.t 5, w.t 11, w.t 17, w.t 23, w.t 29, w.t 35, w.t 41,0,0,0,0,0,0,0,0,0,0,0]) (fun _ => rfl) (fun _ => rfl) (fun ch κ w => by kernel_rfl)
theorem vHd_3_0 (O : VO V P b scr) (K : Kn) (it acc loc la : Addr) (T : Nat → Tok) : Valid V (cOv (fxZ P) liZ (eHd (lwZ P)) (lawEn (lwZ P).F K.ad) [] it acc loc la (whL K 0 4 T 0 7) 7 7 [] (fun _ => whL K 0 4 T 0 7)) :=
  valid_comp O _ (eHd (lwZ P)) 0 it (.ref acc) (cEn (lawEn (lwZ P).F K.ad) (eHd (lwZ P)) loc []) rfl (by kernel_rfl) 1 (liO liZ la 0) rfl (by kernel_rfl) 548 (hsD 211 425170126924635079722407122360857045665555208455638409362905045683609508496121094988334253163399354192857210433810282037382498668698518402457377171353805982923674956590042927687564461473665460904743916658727344198226304668014307989421365181316604453844215027789901366475783574849744725459225148044682917396018190039737639253276503792935776045041406482570297352531532299304336998923462867091005820834503024134674293289128741496411862610470797570) [] (ups [0,0,0,0]) (fun w => []) (fun w => [w.t 0,0,0,0,0,0,0,0,0,0,0,0,0,0,0,0,0,0,0,0]) (fun _ => rfl) (fun _ => rfl) (fun ch κ w => by kernel_rfl)
theorem vJc_3_0 (O : VO V P b scr) (K : Kn) (hD : Dist K.L) (hL : LucLaw K.X) (q : Nat → Nat) (it acc loc la : Addr) (T : Nat → Tok) : Valid V (cOv (fxZ P) liZ (eJc (lwZ P)) (lawEn (lwZ P).F K.ad) [(nm sGives, K.ad 7)] it acc loc la (whL K 0 4 T 0 7) 7 7 [(K.ad 7, celO (nmZ P) (some (.ref (K.ad 24)))), (K.ad 24, dctO (nmZ P) (gvL K.L K.tk (gt18 q) 9) 9)] (fun _ => ltV K 3 0 7)) :=
  valid_comp O _ (eJc (lwZ P)) 0 it (.ref acc) (cEn (lawEn (lwZ P).F K.ad) (eJc (lwZ P)) loc [(nm sGives, K.ad 7)]) rfl (by kernel_rfl) 3 (liO liZ la 0) rfl (by kernel_rfl) 415 (hsD 141 82071463099895126288554023010437172346071217777489882515182218321524405945339776502124695548094513706575978261021000362356788129054944906043633573461670859588426473930733970052071619682733619272229598935882113978840481465269482408080596367383066892243465922970358542814135925193629191339237245444) [(4, ups [], fun w => ⟨_, vAdd [K.L (Dh K.X 0 0)] (w.t 2) [K.L (Dh K.X 0 3)] (w.t 5) (by simp)⟩), (0, ups [1], fun w => ⟨_, vGi' O K hD q 0 0 3 3 0 (w.t 6) (hL.1 0 0 (by decide))⟩), (5, ups [], fun w => ⟨_, vAdd [K.L (Dh K.X 0 1)] (w.t 9) [K.L (Dh K.X 0 4)] (w.t 12) (by simp)⟩), (0, ups [1], fun w => ⟨_, vGi' O K hD q 0 1 4 3 1 (w.t 13) (hL.1 0 1 (by decide))⟩), (5, ups [], fun w => ⟨_, vAdd [K.L (Dh K.X 0 2)] (w.t 16) [K.L (Dh K.X 0 5)] (w.t 19) (by simp)⟩), (0, ups [1], fun w => ⟨_, vGi' O K hD q 0 2 5 3 2 (w.t 20) (hL.1 0 2 (by decide))⟩), (5, ups [], fun w => ⟨_, vAdd [K.L (Dh K.X 0 3)] (w.t 23) [K.L (Dh K.X 0 6)] (w.t 26) (by simp)⟩), (0, ups [1], fun w => ⟨_, vGi' O K hD q 0 3 6 3 3 (w.t 27) (hL.1 0 3 (by decide))⟩), (5, ups [], fun w => ⟨_, vAdd [K.L (Dh K.X 0 4)] (w.t 30) [K.L (Dh K.X 0 7)] (w.t 33) (by simp)⟩), (0, ups [1], fun w => ⟨_, vGi' O K hD q 0 4 7 3 4 (w.t 34) (hL.1 0 4 (by decide))⟩), (5, ups [], fun w => ⟨_, vAdd [K.L (Dh K.X 0 5)] (w.t 37) [K.L (Dh K.X 0 8)] (w.t 40) (by simp)⟩), (0, ups [1], fun w => ⟨_, vGi' O K hD q 0 5 8 3 5 (w.t 41) (hL.1 0 5 (by decide))⟩), (5, ups [], fun w => ⟨_, vAdd [K.L (Dh K.X 0 6)] (w.t 44) [K.L (Dh K.X 0 9)] (w.t 47) (by simp)⟩), (0, ups [1], fun w => ⟨_, vGi' O K hD q 0 6 9 3 6 (w.t 48) (hL.1 0 6 (by decide))⟩)] (ups [0,0,0,0,0,0]) (fun w => []) (fun w => [w.t 0,0,0,0,0,0,0,0,0,0,0,0,0,0,0,0,0,0,0,0]) (fun _ => rfl) (fun _ => rfl) (fun ch κ w => by kernel_rfl)
theorem vWh_3_1 (O : VO V P b scr) (K : Kn) (q p : Nat → Nat) (it acc loc : Addr) (mt lt : Tok) : Valid V (cWh (fxZ P) (lwZ P) K q p it acc loc 3 1 6 mt lt) :=
  valid_comp O _ (eWh (lwZ P)) 0 it (.ref acc) (cEn (lawEn (lwZ P).F K.ad) (eWh (lwZ P)) loc [(nm sRows, K.ad 8), (nm sM, K.ad 9), (nm sLeap, K.ad 11)]) rfl (by kernel_rfl) 4 (rngO riZ 0 6) rfl (by kernel_rfl) 428 (hsD 180 2332460046261467468689171668359992869912909659107839744528987276515019116515237388387019062341719637311917849838490438685916356589413723304196645163577847536923708315242835597991567445169789498139402088893770815149226900261550485872126220816359762517001028380973517339908067903624126574007346662423887334468341295855768361179253968328564950095553778763181289928919432025960694405) [] (ups [0,0,0,0,0,0,0]) (fun w => []) (fun w => [w.t 1, w.t 30, w.t 5, w.t 11, w.t 17, w.t 23, w.t 29, w.t 35,0,0,0,0,0,0,0,0,0,0,0,0]) (fun _ => rfl) (fun _ => rfl) (fun ch κ w => by kernel_rfl)
theorem vHd_3_1 (O : VO V P b scr) (K : Kn) (it acc loc la : Addr) (T : Nat → Tok) : Valid V (cOv (fxZ P) liZ (eHd (lwZ P)) (lawEn (lwZ P).F K.ad) [] it acc loc la (whL K 1 4 T 0 6) 6 6 [] (fun _ => whL K 1 4 T 0 6)) :=
  valid_comp O _ (eHd (lwZ P)) 0 it (.ref acc) (cEn (lawEn (lwZ P).F K.ad) (eHd (lwZ P)) loc []) rfl (by kernel_rfl) 1 (liO liZ la 0) rfl (by kernel_rfl) 472 (hsD 182 30532003373314072664004234073306601905958122165465418747682785560747613619857868231815868324134075488937983584837017573387831139563052426551416164983623836398343884990790918207538681220257918220176672728266107823768275931464772173534343189207411962762995489448568555330274565225923251123145521633048997533839188896042816585214233386437154847518952755927698598186098376424556748374274) [] (ups [0,0,0,0]) (fun w => []) (fun w => [w.t 0,0,0,0,0,0,0,0,0,0,0,0,0,0,0,0,0,0,0,0]) (fun _ => rfl) (fun _ => rfl) (fun ch κ w => by kernel_rfl)
theorem vJc_3_1 (O : VO V P b scr) (K : Kn) (hD : Dist K.L) (hL : LucLaw K.X) (q : Nat → Nat) (it acc loc la : Addr) (T : Nat → Tok) : Valid V (cOv (fxZ P) liZ (eJc (lwZ P)) (lawEn (lwZ P).F K.ad) [(nm sGives, K.ad 7)] it acc loc la (whL K 1 4 T 0 6) 6 6 [(K.ad 7, celO (nmZ P) (some (.ref (K.ad 24)))), (K.ad 24, dctO (nmZ P) (gvL K.L K.tk (gt18 q) 9) 9)] (fun _ => ltV K 4 0 6)) :=
  valid_comp O _ (eJc (lwZ P)) 0 it (.ref acc) (cEn (lawEn (lwZ P).F K.ad) (eJc (lwZ P)) loc [(nm sGives, K.ad 7)]) rfl (by kernel_rfl) 3 (liO liZ la 0) rfl (by kernel_rfl) 358 (hsD 122 7537073534191136360350984690934363671016660673200315938687844027854133868298904552339843102297961310156943777423644559364784065851133945452021799693661098640011029898978774878851621694162976472760620625941332324428121416434786081874646091159747745198178820) [(4, ups [], fun w => ⟨_, vAdd [K.L (Dh K.X 1 0)] (w.t 2) [K.L (Dh K.X 1 3)] (w.t 5) (by simp)⟩), (0, ups [1], fun w => ⟨_, vGi' O K hD q 1 0 3 4 0 (w.t 6) (hL.1 1 0 (by decide))⟩), (5, ups [], fun w => ⟨_, vAdd [K.L (Dh K.X 1 1)] (w.t 9) [K.L (Dh K.X 1 4)] (w.t 12) (by simp)⟩), (0, ups [1], fun w => ⟨_, vGi' O K hD q 1 1 4 4 1 (w.t 13) (hL.1 1 1 (by decide))⟩), (5, ups [], fun w => ⟨_, vAdd [K.L (Dh K.X 1 2)] (w.t 16) [K.L (Dh K.X 1 5)] (w.t 19) (by simp)⟩), (0, ups [1], fun w => ⟨_, vGi' O K hD q 1 2 5 4 2 (w.t 20) (hL.1 1 2 (by decide))⟩), (5, ups [], fun w => ⟨_, vAdd [K.L (Dh K.X 1 3)] (w.t 23) [K.L (Dh K.X 1 6)] (w.t 26) (by simp)⟩), (0, ups [1], fun w => ⟨_, vGi' O K hD q 1 3 6 4 3 (w.t 27) (hL.1 1 3 (by decide))⟩), (5, ups [], fun w => ⟨_, vAdd [K.L (Dh K.X 1 4)] (w.t 30) [K.L (Dh K.X 1 7)] (w.t 33) (by simp)⟩), (0, ups [1], fun w => ⟨_, vGi' O K hD q 1 4 7 4 4 (w.t 34) (hL.1 1 4 (by decide))⟩), (5, ups [], fun w => ⟨_, vAdd [K.L (Dh K.X 1 5)] (w.t 37) [K.L (Dh K.X 1 8)] (w.t 40) (by simp)⟩), (0, ups [1], fun w => ⟨_, vGi' O K hD q 1 5 8 4 5 (w.t 41) (hL.1 1 5 (by decide))⟩)] (ups [0,0,0,0,0,0]) (fun w => []) (fun w => [w.t 0,0,0,0,0,0,0,0,0,0,0,0,0,0,0,0,0,0,0,0]) (fun _ => rfl) (fun _ => rfl) (fun ch κ w => by kernel_rfl)
theorem vWh_3_2 (O : VO V P b scr) (K : Kn) (q p : Nat → Nat) (it acc loc : Addr) (mt lt : Tok) : Valid V (cWh (fxZ P) (lwZ P) K q p it acc loc 3 2 5 mt lt) :=
  valid_comp O _ (eWh (lwZ P)) 0 it (.ref acc) (cEn (lawEn (lwZ P).F K.ad) (eWh (lwZ P)) loc [(nm sRows, K.ad 8), (nm sM, K.ad 9), (nm sLeap, K.ad 11)]) rfl (by kernel_rfl) 4 (rngO riZ 0 5) rfl (by kernel_rfl) 359 (hsD 151 169372566875951836054482416380819308650752870898853831314490481201169507187604407949270426758118168946282062576108754132404013358302322935500911297845381763833716602069058338418891563890787143668075701909682793751943012690044502990870345591009340275813174964346580970135661368391005812849749044040237116666407966294661) [] (ups [0,0,0,0,0,0,0]) (fun w => []) (fun w => [w.t 1, w.t 24, w.t 5, w.t 11, w.t 17, w.t 23, w.t 29,0,0,0,0,0,0,0,0,0,0,0,0,0]) (fun _ => rfl) (fun _ => rfl) (fun ch κ w => by kernel_rfl)
theorem vHd_3_2 (O : VO V P b scr) (K : Kn) (it acc loc la : Addr) (T : Nat → Tok) : Valid V (cOv (fxZ P) liZ (eHd (lwZ P)) (lawEn (lwZ P).F K.ad) [] it acc loc la (whL K 2 4 T 0 5) 5 5 [] (fun _ => whL K 2 4 T 0 5)) :=
  valid_comp O _ (eHd (lwZ P)) 0 it (.ref acc) (cEn (lawEn (lwZ P).F K.ad) (eHd (lwZ P)) loc []) rfl (by kernel_rfl) 1 (liO liZ la 0) rfl (by kernel_rfl) 396 (hsD 153 2177355592702596846947771747518917850316963547591733617122069622105983678478297799154660185476656653405266491474696537620760506930931102061997380306413527723271932799918435160349727120652047003307597527020445457505485314758680448678520982607814906241592868288046661596891797887714610137244481487848000142308103139612459266) [] (ups [0,0,0,0]) (fun w => []) (fun w => [w.t 0,0,0,0,0,0,0,0,0,0,0,0,0,0,0,0,0,0,0,0]) (fun _ => rfl) (fun _ => rfl) (fun ch κ w => by kernel_rfl)
theorem vJc_3_2 (O : VO V P b scr) (K : Kn) (hD : Dist K.L) (hL : LucLaw K.X) (q : Nat → Nat) (it acc loc la : Addr) (T : Nat → Tok) : Valid V (cOv (fxZ P) liZ (eJc (lwZ P)) (lawEn (lwZ P).F K.ad) [(nm sGives, K.ad 7)] it acc loc la (whL K 2 4 T 0 5) 5 5 [(K.ad 7, celO (nmZ P) (some (.ref (K.ad 24)))), (K.ad 24, dctO (nmZ P) (gvL K.L K.tk (gt18 q) 9) 9)] (fun _ => ltV K 5 0 5)) :=
  valid_comp O _ (eJc (lwZ P)) 0 it (.ref acc) (cEn (lawEn (lwZ P).F K.ad) (eJc (lwZ P)) loc [(nm sGives, K.ad 7)]) rfl (by kernel_rfl) 3 (liO liZ la 0) rfl (by kernel_rfl) 301 (hsD 103 692170887591707345740569829428254696314496722189677285542762858625195286548439997967984736224827419657751020765138820754482911558785296014982888290204817910090890473971444489902840756993532878569163680534708613087748) [(4, ups [], fun w => ⟨_, vAdd [K.L (Dh K.X 2 0)] (w.t 2) [K.L (Dh K.X 2 3)] (w.t 5) (by simp)⟩), (0, ups [1], fun w => ⟨_, vGi' O K hD q 2 0 3 5 0 (w.t 6) (hL.1 2 0 (by decide))⟩), (5, ups [], fun w => ⟨_, vAdd [K.L (Dh K.X 2 1)] (w.t 9) [K.L (Dh K.X 2 4)] (w.t 12) (by simp)⟩), (0, ups [1], fun w => ⟨_, vGi' O K hD q 2 1 4 5 1 (w.t 13) (hL.1 2 1 (by decide))⟩), (5, ups [], fun w => ⟨_, vAdd [K.L (Dh K.X 2 2)] (w.t 16) [K.L (Dh K.X 2 5)] (w.t 19) (by simp)⟩), (0, ups [1], fun w => ⟨_, vGi' O K hD q 2 2 5 5 2 (w.t 20) (hL.1 2 2 (by decide))⟩), (5, ups [], fun w => ⟨_, vAdd [K.L (Dh K.X 2 3)] (w.t 23) [K.L (Dh K.X 2 6)] (w.t 26) (by simp)⟩), (0, ups [1], fun w => ⟨_, vGi' O K hD q 2 3 6 5 3 (w.t 27) (hL.1 2 3 (by decide))⟩), (5, ups [], fun w => ⟨_, vAdd [K.L (Dh K.X 2 4)] (w.t 30) [K.L (Dh K.X 2 7)] (w.t 33) (by simp)⟩), (0, ups [1], fun w => ⟨_, vGi' O K hD q 2 4 7 5 4 (w.t 34) (hL.1 2 4 (by decide))⟩)] (ups [0,0,0,0,0,0]) (fun w => []) (fun w => [w.t 0,0,0,0,0,0,0,0,0,0,0,0,0,0,0,0,0,0,0,0]) (fun _ => rfl) (fun _ => rfl) (fun ch κ w => by kernel_rfl)
theorem vWh_3_3 (O : VO V P b scr) (K : Kn) (q p : Nat → Nat) (it acc loc : Addr) (mt lt : Tok) : Valid V (cWh (fxZ P) (lwZ P) K q p it acc loc 3 3 4 mt lt) :=
  valid_comp O _ (eWh (lwZ P)) 0 it (.ref acc) (cEn (lawEn (lwZ P).F K.ad) (eWh (lwZ P)) loc [(nm sRows, K.ad 8), (nm sM, K.ad 9), (nm sLeap, K.ad 11)]) rfl (by kernel_rfl) 4 (rngO riZ 0 4) rfl (by kernel_rfl) 290 (hsD 122 12236661287894490234579964157314862047245245757680661442380962604413521841294943442447837128849973378644628244906244783105713526292129770335543890163584251770482215922724085377781530884653638910796343571766127773233305091189264068431954098208764955348517509) [] (ups [0,0,0,0,0,0,0]) (fun w => []) (fun w => [w.t 1, w.t 18, w.t 5, w.t 11, w.t 17, w.t 23,0,0,0,0,0,0,0,0,0,0,0,0,0,0]) (fun _ => rfl) (fun _ => rfl) (fun ch κ w => by kernel_rfl)
theorem vHd_3_3 (O : VO V P b scr) (K : Kn) (it acc loc la : Addr) (T : Nat → Tok) : Valid V (cOv (fxZ P) liZ (eHd (lwZ P)) (lawEn (lwZ P).F K.ad) [] it acc loc la (whL K 3 4 T 0 4) 4 4 [] (fun _ => whL K 3 4 T 0 4)) :=
  valid_comp O _ (eHd (lwZ P)) 0 it (.ref acc) (cEn (lawEn (lwZ P).F K.ad) (eHd (lwZ P)) loc []) rfl (by kernel_rfl) 1 (liO liZ la 0) rfl (by kernel_rfl) 320 (hsD 124 153996069518666244032614119128926636797143136067912584938174810438020544410507192150295635871332072518014487305658383721099862291276473477494451579610669630638615081834105936693082601460382426762371797620099394280094697900313128442299263978175202822573210501378) [] (ups [0,0,0,0]) (fun w => []) (fun w => [w.t 0,0,0,0,0,0,0,0,0,0,0,0,0,0,0,0,0,0,0,0]) (fun _ => rfl) (fun _ => rfl) (fun ch κ w => by kernel_rfl)
theorem vJc_3_3 (O : VO V P b scr) (K : Kn) (hD : Dist K.L) (hL : LucLaw K.X) (q : Nat → Nat) (it acc loc la : Addr) (T : Nat → Tok) : Valid V (cOv (fxZ P) liZ (eJc (lwZ P)) (lawEn (lwZ P).F K.ad) [(nm sGives, K.ad 7)] it acc loc la (whL K 3 4 T 0 4) 4 4 [(K.ad 7, celO (nmZ P) (some (.ref (K.ad 24)))), (K.ad 24, dctO (nmZ P) (gvL K.L K.tk (gt18 q) 9) 9)] (fun _ => ltV K 6 0 4)) :=
  valid_comp O _ (eJc (lwZ P)) 0 it (.ref acc) (cEn (lawEn (lwZ P).F K.ad) (eJc (lwZ P)) loc [(nm sGives, K.ad 7)]) rfl (by kernel_rfl) 3 (liO liZ la 0) rfl (by kernel_rfl) 244 (hsD 84 63565856888101606720142960647470014983435874242161259995922412611291923950895159951453922705042029943215562037505474590197074113818149448305047987659602084789508094079931580932) [(4, ups [], fun w => ⟨_, vAdd [K.L (Dh K.X 3 0)] (w.t 2) [K.L (Dh K.X 3 3)] (w.t 5) (by simp)⟩), (0, ups [1], fun w => ⟨_, vGi' O K hD q 3 0 3 6 0 (w.t 6) (hL.1 3 0 (by decide))⟩), (5, ups [], fun w => ⟨_, vAdd [K.L (Dh K.X 3 1)] (w.t 9) [K.L (Dh K.X 3 4)] (w.t 12) (by simp)⟩), (0, ups [1], fun w => ⟨_, vGi' O K hD q 3 1 4 6 1 (w.t 13) (hL.1 3 1 (by decide))⟩), (5, ups [], fun w => ⟨_, vAdd [K.L (Dh K.X 3 2)] (w.t 16) [K.L (Dh K.X 3 5)] (w.t 19) (by simp)⟩), (0, ups [1], fun w => ⟨_, vGi' O K hD q 3 2 5 6 2 (w.t 20) (hL.1 3 2 (by decide))⟩), (5, ups [], fun w => ⟨_, vAdd [K.L (Dh K.X 3 3)] (w.t 23) [K.L (Dh K.X 3 6)] (w.t 26) (by simp)⟩), (0, ups [1], fun w => ⟨_, vGi' O K hD q 3 3 6 6 3 (w.t 27) (hL.1 3 3 (by decide))⟩)] (ups [0,0,0,0,0,0]) (fun w => []) (fun w => [w.t 0,0,0,0,0,0,0,0,0,0,0,0,0,0,0,0,0,0,0,0]) (fun _ => rfl) (fun _ => rfl) (fun ch κ w => by kernel_rfl)
theorem vWh_3_4 (O : VO V P b scr) (K : Kn) (q p : Nat → Nat) (it acc loc : Addr) (mt lt : Tok) : Valid V (cWh (fxZ P) (lwZ P) K q p it acc loc 3 4 3 mt lt) :=
  valid_comp O _ (eWh (lwZ P)) 0 it (.ref acc) (cEn (lawEn (lwZ P).F K.ad) (eWh (lwZ P)) loc [(nm sRows, K.ad 8), (nm sM, K.ad 9), (nm sLeap, K.ad 11)]) rfl (by kernel_rfl) 4 (rngO riZ 0 3) rfl (by kernel_rfl) 221 (hsD 93 878862576925287467565673602530943113942002157305379782410762392741993157591206881593505694094321226811164680016091076024026225595391698431895088839162434410907999785735469852917667095550888067717) [] (ups [0,0,0,0,0,0,0]) (fun w => []) (fun w => [w.t 1, w.t 12, w.t 5, w.t 11, w.t 17,0,0,0,0,0,0,0,0,0,0,0,0,0,0,0]) (fun _ => rfl) (fun _ => rfl) (fun ch κ w => by kernel_rfl)
theorem vHd_3_4 (O : VO V P b scr) (K : Kn) (it acc loc la : Addr) (T : Nat → Tok) : Valid V (cOv (fxZ P) liZ (eHd (lwZ P)) (lawEn (lwZ P).F K.ad) [] it acc loc la (whL K 4 4 T 0 3) 3 3 [] (fun _ => whL K 4 4 T 0 3)) :=
  valid_comp O _ (eHd (lwZ P)) 0 it (.ref acc) (cEn (lawEn (lwZ P).F K.ad) (eHd (lwZ P)) loc []) rfl (by kernel_rfl) 1 (liO liZ la 0) rfl (by kernel_rfl) 244 (hsD 95 10782982233549378650078878215473325866506850442568148525737214200942304673453992955746164495468137298655607250376642863355996606983912586870857933048645281793813045934640975761764218762449500401336578) [] (ups [0,0,0,0]) (fun w => []) (fun w => [w.t 0,0,0,0,0,0,0,0,0,0,0,0,0,0,0,0,0,0,0,0]) (fun _ => rfl) (fun _ => rfl) (fun ch κ w => by kernel_rfl)
theorem vJc_3_4 (O : VO V P b scr) (K : Kn) (hD : Dist K.L) (hL : LucLaw K.X) (q : Nat → Nat) (it acc loc la : Addr) (T : Nat → Tok) : Valid V (cOv (fxZ P) liZ (eJc (lwZ P)) (lawEn (lwZ P).F K.ad) [(nm sGives, K.ad 7)] it acc loc la (whL K 4 4 T 0 3) 3 3 [(K.ad 7, celO (nmZ P) (some (.ref (K.ad 24)))), (K.ad 24, dctO (nmZ P) (gvL K.L K.tk (gt18 q) 9) 9)] (fun _ => ltV K 7 0 3)) :=
  valid_comp O _ (eJc (lwZ P)) 0 it (.ref acc) (cEn (lawEn (lwZ P).F K.ad) (eJc (lwZ P)) loc [(nm sGives, K.ad 7)]) rfl (by kernel_rfl) 3 (liO liZ la 0) rfl (by kernel_rfl) 187 (hsD 65 5837602006026674295145663880728010167990553947719458026458342514732154371019766738627512499521221500766900455430800822205527668012679684) [(4, ups [], fun w => ⟨_, vAdd [K.L (Dh K.X 4 0)] (w.t 2) [K.L (Dh K.X 4 3)] (w.t 5) (by simp)⟩), (0, ups [1], fun w => ⟨_, vGi' O K hD q 4 0 3 7 0 (w.t 6) (hL.1 4 0 (by decide))⟩), (5, ups [], fun w => ⟨_, vAdd [K.L (Dh K.X 4 1)] (w.t 9) [K.L (Dh K.X 4 4)] (w.t 12) (by simp)⟩), (0, ups [1], fun w => ⟨_, vGi' O K hD q 4 1 4 7 1 (w.t 13) (hL.1 4 1 (by decide))⟩), (5, ups [], fun w => ⟨_, vAdd [K.L (Dh K.X 4 2)] (w.t 16) [K.L (Dh K.X 4 5)] (w.t 19) (by simp)⟩), (0, ups [1], fun w => ⟨_, vGi' O K hD q 4 2 5 7 2 (w.t 20) (hL.1 4 2 (by decide))⟩)] (ups [0,0,0,0,0,0]) (fun w => []) (fun w => [w.t 0,0,0,0,0,0,0,0,0,0,0,0,0,0,0,0,0,0,0,0]) (fun _ => rfl) (fun _ => rfl) (fun ch κ w => by kernel_rfl)
theorem vWh_3_5 (O : VO V P b scr) (K : Kn) (q p : Nat → Nat) (it acc loc : Addr) (mt lt : Tok) : Valid V (cWh (fxZ P) (lwZ P) K q p it acc loc 3 5 2 mt lt) :=
  valid_comp O _ (eWh (lwZ P)) 0 it (.ref acc) (cEn (lawEn (lwZ P).F K.ad) (eWh (lwZ P)) loc [(nm sRows, K.ad 8), (nm sM, K.ad 9), (nm sLeap, K.ad 11)]) rfl (by kernel_rfl) 4 (rngO riZ 0 2) rfl (by kernel_rfl) 152 (hsD 64 62686263008271531394032337515352789860135787204484981166996200165186517456610587186210892573008009871139518611662784339051034257212037) [] (ups [0,0,0,0,0,0,0]) (fun w => []) (fun w => [w.t 1, w.t 6, w.t 5, w.t 11,0,0,0,0,0,0,0,0,0,0,0,0,0,0,0,0]) (fun _ => rfl) (fun _ => rfl) (fun ch κ w => by kernel_rfl)
theorem vHd_3_5 (O : VO V P b scr) (K : Kn) (it acc loc la : Addr) (T : Nat → Tok) : Valid V (cOv (fxZ P) liZ (eHd (lwZ P)) (lawEn (lwZ P).F K.ad) [] it acc loc la (whL K 5 4 T 0 2) 2 2 [] (fun _ => whL K 5 4 T 0 2)) :=
  valid_comp O _ (eHd (lwZ P)) 0 it (.ref acc) (cEn (lawEn (lwZ P).F K.ad) (eHd (lwZ P)) loc []) rfl (by kernel_rfl) 1 (liO liZ la 0) rfl (by kernel_rfl) 168 (hsD 66 745747933043700330534703061765593303477166845640500095452059288493561086907988385330060075739196563283071546973489480803170317167644147970) [] (ups [0,0,0,0]) (fun w => []) (fun w => [w.t 0,0,0,0,0,0,0,0,0,0,0,0,0,0,0,0,0,0,0,0]) (fun _ => rfl) (fun _ => rfl) (fun ch κ w => by kernel_rfl)
theorem vJc_3_5 (O : VO V P b scr) (K : Kn) (hD : Dist K.L) (hL : LucLaw K.X) (q : Nat → Nat) (it acc loc la : Addr) (T : Nat → Tok) : Valid V (cOv (fxZ P) liZ (eJc (lwZ P)) (lawEn (lwZ P).F K.ad) [(nm sGives, K.ad 7)] it acc loc la (whL K 5 4 T 0 2) 2 2 [(K.ad 7, celO (nmZ P) (some (.ref (K.ad 24)))), (K.ad 24, dctO (nmZ P) (gvL K.L K.tk (gt18 q) 9) 9)] (fun _ => ltV K 8 0 2)) :=
  valid_comp O _ (eJc (lwZ P)) 0 it (.ref acc) (cEn (lawEn (lwZ P).F K.ad) (eJc (lwZ P)) loc [(nm sGives, K.ad 7)]) rfl (by kernel_rfl) 3 (liO liZ la 0) rfl (by kernel_rfl) 130 (hsD 46 536099076596344436662729035425865265197699545989475306192496873791602735158283898150393361793540) [(4, ups [], fun w => ⟨_, vAdd [K.L (Dh K.X 5 0)] (w.t 2) [K.L (Dh K.X 5 3)] (w.t 5) (by simp)⟩), (0, ups [1], fun w => ⟨_, vGi' O K hD q 5 0 3 8 0 (w.t 6) (hL.1 5 0 (by decide))⟩), (5, ups [], fun w => ⟨_, vAdd [K.L (Dh K.X 5 1)] (w.t 9) [K.L (Dh K.X 5 4)] (w.t 12) (by simp)⟩), (0, ups [1], fun w => ⟨_, vGi' O K hD q 5 1 4 8 1 (w.t 13) (hL.1 5 1 (by decide))⟩)] (ups [0,0,0,0,0,0]) (fun w => []) (fun w => [w.t 0,0,0,0,0,0,0,0,0,0,0,0,0,0,0,0,0,0,0,0]) (fun _ => rfl) (fun _ => rfl) (fun ch κ w => by kernel_rfl)
theorem vWh_3_6 (O : VO V P b scr) (K : Kn) (q p : Nat → Nat) (it acc loc : Addr) (mt lt : Tok) : Valid V (cWh (fxZ P) (lwZ P) K q p it acc loc 3 6 1 mt lt) :=
  valid_comp O _ (eWh (lwZ P)) 0 it (.ref acc) (cEn (lawEn (lwZ P).F K.ad) (eWh (lwZ P)) loc [(nm sRows, K.ad 8), (nm sM, K.ad 9), (nm sLeap, K.ad 11)]) rfl (by kernel_rfl) 4 (rngO riZ 0 1) rfl (by kernel_rfl) 83 (hsD 35 4434507888961597327237212057121474612547584650815515953984112551086080645) [] (ups [0,0,0,0,0,0,0]) (fun w => []) (fun w => [w.t 1, w.t 0, rt K p 6,0,0,0,0,0,0,0,0,0,0,0,0,0,0,0,0,0]) (fun _ => rfl) (fun _ => rfl) (fun ch κ w => by kernel_rfl)
theorem vHd_3_6 (O : VO V P b scr) (K : Kn) (it acc loc la : Addr) (T : Nat → Tok) : Valid V (cOv (fxZ P) liZ (eHd (lwZ P)) (lawEn (lwZ P).F K.ad) [] it acc loc la (whL K 6 4 T 0 1) 1 1 [] (fun _ => whL K 6 4 T 0 1)) :=
  valid_comp O _ (eHd (lwZ P)) 0 it (.ref acc) (cEn (lawEn (lwZ P).F K.ad) (eHd (lwZ P)) loc []) rfl (by kernel_rfl) 1 (liO liZ la 0) rfl (by kernel_rfl) 92 (hsD 37 50773004182221674207124513192260550772899570546313281919776211882266949878018) [] (ups [0,0,0,0]) (fun w => []) (fun w => [w.t 0,0,0,0,0,0,0,0,0,0,0,0,0,0,0,0,0,0,0,0]) (fun _ => rfl) (fun _ => rfl) (fun ch κ w => by kernel_rfl)
theorem vJc_3_6 (O : VO V P b scr) (K : Kn) (hD : Dist K.L) (hL : LucLaw K.X) (q : Nat → Nat) (it acc loc la : Addr) (T : Nat → Tok) : Valid V (cOv (fxZ P) liZ (eJc (lwZ P)) (lawEn (lwZ P).F K.ad) [(nm sGives, K.ad 7)] it acc loc la (whL K 6 4 T 0 1) 1 1 [(K.ad 7, celO (nmZ P) (some (.ref (K.ad 24)))), (K.ad 24, dctO (nmZ P) (gvL K.L K.tk (gt18 q) 9) 9)] (fun _ => ltV K 9 0 1)) :=
  valid_comp O _ (eJc (lwZ P)) 0 it (.ref acc) (cEn (lawEn (lwZ P).F K.ad) (eJc (lwZ P)) loc [(nm sGives, K.ad 7)]) rfl (by kernel_rfl) 3 (liO liZ la 0) rfl (by kernel_rfl) 73 (hsD 27 49232924689066225755446852494590271917654696747761467908) [(4, ups [], fun w => ⟨_, vAdd [K.L (Dh K.X 6 0)] (w.t 2) [K.L (Dh K.X 6 3)] (w.t 5) (by simp)⟩), (0, ups [1], fun w => ⟨_, vGi' O K hD q 6 0 3 9 0 (w.t 6) (hL.1 6 0 (by decide))⟩)] (ups [0,0,0,0,0,0]) (fun w => []) (fun w => [w.t 0,0,0,0,0,0,0,0,0,0,0,0,0,0,0,0,0,0,0,0]) (fun _ => rfl) (fun _ => rfl) (fun ch κ w => by kernel_rfl)
theorem vWh_9_0 (O : VO V P b scr) (K : Kn) (q p : Nat → Nat) (it acc loc : Addr) (mt lt : Tok) : Valid V (cWh (fxZ P) (lwZ P) K q p it acc loc 9 0 1 mt lt) :=
  valid_comp O _ (eWh (lwZ P)) 0 it (.ref acc) (cEn (lawEn (lwZ P).F K.ad) (eWh (lwZ P)) loc [(nm sRows, K.ad 8), (nm sM, K.ad 9), (nm sLeap, K.ad 11)]) rfl (by kernel_rfl) 4 (rngO riZ 0 1) rfl (by kernel_rfl) 83 (hsD 35 4434507888961597327237212057121474612547584650815515953984112551086080645) [] (ups [0,0,0,0,0,0,0]) (fun w => []) (fun w => [w.t 1, w.t 0, rt K p 0,0,0,0,0,0,0,0,0,0,0,0,0,0,0,0,0,0]) (fun _ => rfl) (fun _ => rfl) (fun ch κ w => by kernel_rfl)
theorem vHd_9_0 (O : VO V P b scr) (K : Kn) (it acc loc la : Addr) (T : Nat → Tok) : Valid V (cOv (fxZ P) liZ (eHd (lwZ P)) (lawEn (lwZ P).F K.ad) [] it acc loc la (whL K 0 10 T 0 1) 1 1 [] (fun θ => cramL K (θ 1))) :=
  valid_comp O _ (eHd (lwZ P)) 0 it (.ref acc) (cEn (lawEn (lwZ P).F K.ad) (eHd (lwZ P)) loc []) rfl (by kernel_rfl) 1 (liO liZ la 0) rfl (by kernel_rfl) 344 (hsD 138 92657215540831347418285124085976774944255555411498329160178073915081951260600752114205971624343560457170078698704953555249204100196044733785068347235762012589339076408649044228412826765847018207186450053238902422068887635530338465214438951745967147291764218510289674997732166837618589335810) [(6, ups [], fun w => ⟨_, vDiv O (Int.ofNat 2) (w.t 8) 1 (w.t 9) (Int.ofNat 1) (by decide +kernel) (PyProof.noPylong_small (by decide +kernel))⟩), (15, ups [], fun w => ⟨_, vAdd [K.L (Dh K.X 0 0)] (w.t 17) [46,46,46] (w.t 18) (by simp)⟩), (4, ups [], fun w => ⟨_, vAdd [K.L (Dh K.X 0 0), 46,46,46] (w.t 19) [K.L (Dh K.X 0 9)] (w.t 23) (by simp)⟩)] (ups [0,0,0,0]) (fun w => []) (fun w => [w.t 0, w.t 24,0,0,0,0,0,0,0,0,0,0,0,0,0,0,0,0,0,0]) (fun _ => rfl) (fun _ => rfl) (fun ch κ w => by kernel_rfl)
theorem vJc_9_0 (O : VO V P b scr) (K : Kn) (hD : Dist K.L) (hL : LucLaw K.X) (q : Nat → Nat) (it acc loc la : Addr) (T : Nat → Tok) : Valid V (cOv (fxZ P) liZ (eJc (lwZ P)) (lawEn (lwZ P).F K.ad) [(nm sGives, K.ad 7)] it acc loc la (cramL K (T 0)) 1 1 [(K.ad 7, celO (nmZ P) (some (.ref (K.ad 24)))), (K.ad 24, dctO (nmZ P) (gvL K.L K.tk (gt18 q) 9) 9)] (fun _ => ltV K 9 0 1)) :=
  valid_comp O _ (eJc (lwZ P)) 0 it (.ref acc) (cEn (lawEn (lwZ P).F K.ad) (eJc (lwZ P)) loc [(nm sGives, K.ad 7)]) rfl (by kernel_rfl) 3 (liO liZ la 0) rfl (by kernel_rfl) 73 (hsD 27 49232924689066225755446852494590271917654696747761467908) [(4, ups [], fun w => ⟨_, vAdd [K.L (Dh K.X 0 0)] (w.t 2) [K.L (Dh K.X 0 9)] (w.t 5) (by simp)⟩), (0, ups [1], fun w => ⟨_, vGi' O K hD q 0 0 9 9 0 (w.t 6) hL.2⟩)] (ups [0,0,0,0,0,0]) (fun w => []) (fun w => [w.t 0,0,0,0,0,0,0,0,0,0,0,0,0,0,0,0,0,0,0,0]) (fun _ => rfl) (fun _ => rfl) (fun ch κ w => by kernel_rfl)
theorem vTr_9_0 (O : VO V P b scr) (K : Kn) (it acc loc la : Addr) (T : Nat → Tok) : Valid V (cOv (fxZ P) liZ (eTr (lwZ P)) (lawEn (lwZ P).F K.ad) [] it acc loc la (whL K 0 10 T 0 1) 1 1 [] (fun θ => cramL K (θ 1))) :=
  valid_comp O _ (eTr (lwZ P)) 0 it (.ref acc) (cEn (lawEn (lwZ P).F K.ad) (eTr (lwZ P)) loc []) rfl (by kernel_rfl) 1 (liO liZ la 0) rfl (by kernel_rfl) 65 [2,2,2,2,1,2,2,4,4,4,4,3,3,3,3,2,2,2,2,1,2,2,6] [(2, ups [], fun w => ⟨_, vAdd [K.L (Dh K.X 0 0)] (w.t 2) [46,46,46] (w.t 3) (by simp)⟩), (1, ups [], fun w => ⟨_, vAdd [K.L (Dh K.X 0 0), 46,46,46] (w.t 4) [K.L (Dh K.X 0 9)] (w.t 6) (by simp)⟩)] (ups [0,0,0,0]) (fun w => []) (fun w => [w.t 0, w.t 7,0,0,0,0,0,0,0,0,0,0,0,0,0,0,0,0,0,0]) (fun _ => rfl) (fun _ => rfl) (fun ch κ w => by kernel_rfl)
end
end Mine
namespace Mine
open PySem PySem.W PySem.W.X PySem.Spec PySem.Calls PyProof.Rows
noncomputable def sWhole : List Nat := [119,104,111,108,101]
noncomputable def sHeld : List Nat := [104,101,108,100]
noncomputable def es26 (u : Nat → Nat) (fst : Bool) : List (List Nat × Tok × Value) := match fst with
  | true => []
  | false => [(sWhole, u 2, .ref (u 3)), (sHeld, u 4, .ref (u 5))]
noncomputable def ne26 (fst : Bool) : Nat := match fst with
  | true => 15
  | false => 17
noncomputable def fl26 (W : Lw) (K : Kn) (it : Addr) : Code := forC (forB (dropS 26 (bodyOf W.F))) it (lawEn W.F K.ad)
noncomputable def fl26o (W : Lw) (K : Kn) (it : Addr) : Code := forC (dropS 26 (bodyOf W.F)) it (lawEn W.F K.ad)
noncomputable def fr26 (Q : Fx) (K : Kn) (q p u : Nat → Nat) (fst : Bool) : Obj := frmO Q.N (fr13k K (kv21 K p 10) ++ (es18s K q 2 9 ++ es21 K p 10 ++ es26 u fst)) (ne26 fst)
noncomputable def l26 (Q : Fx) (W : Lw) (K : Kn) (it : Addr) (q p u : Nat → Nat) (fst : Bool) (pm lp m n : Nat) : Lst :=
  [(K.ad 0, fr26 Q K q p u fst), (K.ad 7, celO Q.N (some (.ref (K.ad 24)))), (K.ad 8, celO Q.N (some (.ref (q 9)))), (K.ad 9, celO Q.N (some (.int (Int.ofNat pm) (u 0)))), (K.ad 11, celO Q.N (some (.int (Int.ofNat lp) (u 1)))),
   (K.ad 24, dctO Q.N (gvL K.L K.tk (gt18 q) 9) 9), (q 9, lstO Q.N (rowsV K p 10) 10), (it, rngO W.ri m (n - m))]
end Mine

namespace Mine
open PySem PySem.W PySem.W.X PySem.Spec PySem.Calls PyProof.Rows
section
variable {V : XV} {P : Params} {b : Bool} {scr : Obj}
noncomputable def G26 (V : XV) (P : Params) (ch : Ch) (κ : Kont) (K : Kn) (it : Addr) (q p u : Nat → Nat) (fst : Bool) (pm lp m n : Nat) (R : Lst) : Prop :=
  G V ch (fl26 (lwZ P) K it) κ (dn (fl26 (lwZ P) K it)) (l26 (fxZ P) (lwZ P) K it q p u fst pm lp m n ++ R)
noncomputable def sk (t : Sem PySem.Fin) : Sem PySem.Fin := match t with
  | .at _ k => k ()
  | .point _ k => k ()
  | .rule _ k => k ()
  | .update _ _ _ k => k ()
  | t => t
noncomputable def kL (t : Sem PySem.Fin) (o : Obj) : Sem PySem.Fin := match t with
  | .load _ _ k => k o
  | t => t
noncomputable def kA (t : Sem PySem.Fin) (a : Nat) : Sem PySem.Fin := match t with
  | .alloc _ k => k a
  | .fresh k => k a
  | t => t
noncomputable def kQ (t : Sem PySem.Fin) (s : Setting) : Sem PySem.Fin := match t with
  | .ask k => k s
  | t => t
noncomputable def kC (t : Sem PySem.Fin) (r : Result) : Sem PySem.Fin := match t with
  | .call _ _ _ _ k => k r
  | t => t
noncomputable def kS (t : Sem PySem.Fin) : List (Code × Pos) → Sem PySem.Fin := match t with
  | .stack k => k
  | t => fun _ => t
noncomputable def ob (l : Lst) (j : Nat) : Obj := match lget l j with
  | some p => p.2
  | none => default
noncomputable def crR {C : Con} (h : Valid V C) (w : Ora) (na nt : Nat) : Result := C.r (fun j => w.a (na + j)) (fun j => w.t (nt + j))
noncomputable def crN {C : Con} (h : Valid V C) (w : Ora) (na nt : Nat) : Obj := match C.new (fun j => w.a (na + j)) (fun j => w.t (nt + j)) with
  | o :: _ => o
  | [] => default
theorem G.xStack {κ : Kont} {c : Code} {ch : Ch} {l : Lst} {lv : Nat} (hR : Rm V κ lv) (hd : Nat.blt (lv + cw c) 1000 = true) {t : Sem PySem.Fin} (e : t = Sem.stack (kS t)) (x : ∀ st, X.roomF st = false → G V ch c κ (kS t st) l) : G V ch c κ t l :=
  G.eqStack hR hd e x
theorem i26_3_0 (O : VO V P b scr) {κ : Kont} (hR : Rm V κ 600) (ch : Ch) (K : Kn) (hD : Dist K.L) (hL : LucLaw K.X) (it : Addr) (q p u : Nat → Nat) (R : Lst) (H : ∀ u, G26 V P ch κ K it q p u false 0 3 1 7 R) : G26 V P ch κ K it q p u true 9 3 0 7 R := by
  unfold G26
  refine seg O hR 85 (hsD 29 104363670346286340133910535997295755165543612110170746847752) [(0, ups [7], fun w => ⟨_, vNx_0_6 O it⟩), (0, ups [], fun w => ⟨_, vIsub (Int.ofNat 10) (w.t 1) (Int.ofNat 0) (w.t 0) (Int.ofNat 10) rfl⟩), (0, ups [], fun w => ⟨_, vIsub (Int.ofNat 10) (w.t 2) (Int.ofNat 3) (u 1) (Int.ofNat 7) rfl⟩), (0, ups [], fun w => ⟨_, vRg O 7 (w.t 3)⟩), (0, ups [8], fun w => ⟨_, vRit_7 O (w.a 0) (w.t 4) (w.t 3) (w.t 5)⟩), (0, ups [2,0,0,1,2,0,0], fun w => ⟨_, vWh_3_0 O K q p (w.a 1) (w.a 2) (w.a 3) (w.t 0) (u 1)⟩), (0, ups [10], fun w => ⟨_, vLit O (w.a 2) (stV (whL K 0 4 (fun a => w.t (8 + a)) 0 7)) 7⟩), (0, ups [10,1,0,0], fun w => ⟨_, vHd_3_0 O K (w.a 4) (w.a 5) (w.a 6) (w.a 2) (fun a => w.t (8 + a))⟩), (0, ups [], fun w => ⟨_, vIeq (Int.ofNat 3) (u 1) (Int.ofNat 9) (w.t 48) false rfl⟩)] (ups [0,0,0,0,0,0,0,0,2,2,0]) (c' := fun w => fl26 (lwZ P) K it) (t' := fun w => (sk (kL (sk (kC (kQ (sk (kA (kL (sk (kL (sk (sk (sk (sk (kL (sk (kL (sk (sk (kL (kA (kQ (sk (sk (sk (kC (kA (kA (sk (kL (kC (kQ (kL (kL (sk (kL (sk (sk (sk (sk (kL (sk (kL (sk (sk (kL (kA (kQ (sk (sk (sk (kC (kA (kA (sk (kL (kC (kQ (kL (kL (sk (sk (kC (sk (kC (sk (kL (sk (kC (sk (kL (sk (kA (kL (kL (sk (sk (sk (sk (kL (sk (sk (kC (kL (sk (dn (fl26 (lwZ P) K it))) (ob (l26 (fxZ P) (lwZ P) K it q p u true 9 3 0 7) 7)) (crR (V := V) (vNx_0_6 O it) w 0 0)))) (ob (l26 (fxZ P) (lwZ P) K it q p u true 9 3 0 7) 3)))))) (zo3 P)) (zo0 P)) (w.t 1))) (celO (fxZ P).N (some (.int (Int.ofNat 0) (w.t 0)))))) (crR (V := V) (vIsub (Int.ofNat 10) (w.t 1) (Int.ofNat 0) (w.t 0) (Int.ofNat 10) rfl) w 0 2))) (ob (l26 (fxZ P) (lwZ P) K it q p u true 9 3 0 7) 4))) (crR (V := V) (vIsub (Int.ofNat 10) (w.t 2) (Int.ofNat 3) (u 1) (Int.ofNat 7) rfl) w 0 3))) (crR (V := V) (vRg O 7 (w.t 3)) w 0 4)))) (crN (V := V) (vRg O 7 (w.t 3)) w 0 4)) (crN (V := V) (vRg O 7 (w.t 3)) w 0 4)) (sT P b)) (crR (V := V) (vRit_7 O (w.a 0) (w.t 4) (w.t 3) (w.t 5)) w 1 6)) (crN (V := V) (vRit_7 O (w.a 0) (w.t 4) (w.t 3) (w.t 5)) w 1 6))) (w.a 2)) (w.a 3)) (crR (V := V) (vWh_3_0 O K q p (w.a 1) (w.a 2) (w.a 3) (w.t 0) (u 1)) w 4 6))))) (sT P b)) (w.t 26)) (frmO (fxZ P).N (fr13k K (kv21 K p 10) ++ (es18s K q 2 9 ++ es21 K p 10 ++ [])) 15)))) (dctO (fxZ P).N [(sJ, (w.t 6), .int (Int.ofNat 6) (w.t 7))] 1))) (dctO (fxZ P).N [(sJ, (w.t 6), .int (Int.ofNat 6) (w.t 7))] 1)))))) (frmO (fxZ P).N (fr13k K (kv21 K p 10) ++ (es18s K q 2 9 ++ es21 K p 10 ++ [(sWhole, (w.t 26), .ref (w.a 2))])) 16))) (lstO (fxZ P).N (stV (whL K 0 4 (fun a => w.t (8 + a)) 0 7)) 7)) (lstO (fxZ P).N (stV (whL K 0 4 (fun a => w.t (8 + a)) 0 7)) 7)) (sT P b)) (crR (V := V) (vLit O (w.a 2) (stV (whL K 0 4 (fun a => w.t (8 + a)) 0 7)) 7) w 4 27)) (crN (V := V) (vLit O (w.a 2) (stV (whL K 0 4 (fun a => w.t (8 + a)) 0 7)) 7) w 4 27))) (w.a 5)) (w.a 6)) (crR (V := V) (vHd_3_0 O K (w.a 4) (w.a 5) (w.a 6) (w.a 2) (fun a => w.t (8 + a))) w 7 27))))) (sT P b)) (w.t 47)) (frmO (fxZ P).N (fr13k K (kv21 K p 10) ++ (es18s K q 2 9 ++ es21 K p 10 ++ [(sWhole, (w.t 26), .ref (w.a 2))])) 16)))) (dctO (fxZ P).N [(sPart, (w.t 27), lastV (whL K 0 4 (fun a => w.t (8 + a)) 0 7))] 1))) (dctO (fxZ P).N [(sPart, (w.t 27), lastV (whL K 0 4 (fun a => w.t (8 + a)) 0 7))] 1)))))) (frmO (fxZ P).N (fr13k K (kv21 K p 10) ++ (es18s K q 2 9 ++ es21 K p 10 ++ [(sWhole, (w.t 26), .ref (w.a 2)), (sHeld, (w.t 47), .ref (w.a 5))])) 17))) (celO (fxZ P).N (some (.int (Int.ofNat 3) (u 1))))) (w.t 48))) (sT P b)) (crR (V := V) (vIeq (Int.ofNat 3) (u 1) (Int.ofNat 9) (w.t 48) false rfl) w 7 49))) (frmO (fxZ P).N (fr13k K (kv21 K p 10) ++ (es18s K q 2 9 ++ es21 K p 10 ++ [(sWhole, (w.t 26), .ref (w.a 2)), (sHeld, (w.t 47), .ref (w.a 5))])) 17))))
    (l' := fun w => [((K.ad 0), frmO (fxZ P).N (fr13k K (kv21 K p 10) ++ (es18s K q 2 9 ++ es21 K p 10 ++ [(sWhole, (w.t 26), .ref (w.a 2)), (sHeld, (w.t 47), .ref (w.a 5))])) 17), ((K.ad 7), celO (fxZ P).N (some (.ref (K.ad 24)))), ((K.ad 8), celO (fxZ P).N (some (.ref (q 9)))), ((K.ad 9), celO (fxZ P).N (some (.int (Int.ofNat 0) (w.t 0)))), ((K.ad 11), celO (fxZ P).N (some (.int (Int.ofNat 3) (u 1)))), ((K.ad 24), dctO (fxZ P).N (gvL K.L K.tk (gt18 q) 9) 9), ((q 9), lstO (fxZ P).N (rowsV K p 10) 10), (it, rngO riZ 1 6), ((w.a 2), lstO (fxZ P).N (stV (whL K 0 4 (fun a => w.t (8 + a)) 0 7)) 7), ((w.a 5), lstO (fxZ P).N (stV (whL K 0 4 (fun a => w.t (8 + a)) 0 7)) 7), ((w.a 6), dctO (fxZ P).N [] 2)]) (ch' := fun _ => ch) (fun w => by kernel_rfl) (fun w => ?_)
  refine G.xStack hR (by kernel_rfl) (by kernel_rfl) fun st hst => ?_
  refine G.room2 rfl hst ?_
  refine seg O hR 57 [10,9,10,1,10,10,10,12,9999,14,14,14,3,4,5,7,7,7,7,7] [(0, ups [8,0], fun w2 => ⟨_, vLneR P (w.a 5) (w.a 2) (whL K 0 4 (fun a => w.t (8 + a)) 0 7) (whL K 0 4 (fun a => w.t (8 + a)) 0 7) 7 7 rfl⟩), (1, ups [1,3,3,1,0,0], fun w2 => ⟨_, vJc_3_0 O K hD hL q (w2.a 0) (w2.a 1) (w2.a 2) (w.a 5) (fun a => w.t (8 + a))⟩), (0, ups [12], fun w2 => ⟨_, vJ0 P (w2.t 0) (w2.a 1) (ltV K 3 0 7) 7 (lrow K 3 7) (lrow_cat0 _ _ _) (ltV_le _ _ _ _) (by rw [ltV_len]; decide)⟩), (2, ups [], fun w2 => ⟨_, vSne (lrow K 3 7) (w2.t 21) (lrow K 3 7) (rt K p 3) false (sne_same _)⟩)]
    (ups [0,0,0,0,0,0,0,0]) (c' := fun w2 => fl26 (lwZ P) K it) (t' := fun w2 => dn (fl26 (lwZ P) K it)) (l' := fun w2 => l26 (fxZ P) (lwZ P) K it q p (ovr u [(0, (w.t 0)), (2, (w.t 26)), (3, (w.a 2)), (4, (w.t 47)), (5, (w.a 5))]) false 0 3 1 7) (ch' := fun _ => ch) (fun w2 => ?_) (fun w2 => ?_)
  · kernel_rfl
  · exact H _
theorem i26_3_1 (O : VO V P b scr) {κ : Kont} (hR : Rm V κ 600) (ch : Ch) (K : Kn) (hD : Dist K.L) (hL : LucLaw K.X) (it : Addr) (q p u : Nat → Nat) (R : Lst) (H : ∀ u, G26 V P ch κ K it q p u false 1 3 2 7 R) : G26 V P ch κ K it q p u false 0 3 1 7 R := by
  unfold G26
  refine seg O hR 85 (hsD 29 104363670346286340133910535997295755165543612110170746847752) [(0, ups [7], fun w => ⟨_, vNx_1_5 O it⟩), (0, ups [], fun w => ⟨_, vIsub (Int.ofNat 10) (w.t 1) (Int.ofNat 1) (w.t 0) (Int.ofNat 9) rfl⟩), (0, ups [], fun w => ⟨_, vIsub (Int.ofNat 9) (w.t 2) (Int.ofNat 3) (u 1) (Int.ofNat 6) rfl⟩), (0, ups [], fun w => ⟨_, vRg O 6 (w.t 3)⟩), (0, ups [8], fun w => ⟨_, vRit_6 O (w.a 0) (w.t 4) (w.t 3) (w.t 5)⟩), (0, ups [2,0,0,1,2,0,0], fun w => ⟨_, vWh_3_1 O K q p (w.a 1) (w.a 2) (w.a 3) (w.t 0) (u 1)⟩), (0, ups [10], fun w => ⟨_, vLit O (w.a 2) (stV (whL K 1 4 (fun a => w.t (8 + a)) 0 6)) 6⟩), (0, ups [10,1,0,0], fun w => ⟨_, vHd_3_1 O K (w.a 4) (w.a 5) (w.a 6) (w.a 2) (fun a => w.t (8 + a))⟩), (0, ups [], fun w => ⟨_, vIeq (Int.ofNat 3) (u 1) (Int.ofNat 9) (w.t 48) false rfl⟩)] (ups [0,0,0,0,0,0,0,0,2,2,0]) (c' := fun w => fl26 (lwZ P) K it) (t' := fun w => (sk (kL (sk (kC (kQ (sk (kA (kL (sk (kL (sk (sk (sk (sk (kL (sk (kL (sk (sk (kL (kA (kQ (sk (sk (sk (kC (kA (kA (sk (kL (kC (kQ (kL (kL (sk (kL (sk (sk (sk (sk (kL (sk (kL (sk (sk (kL (kA (kQ (sk (sk (sk (kC (kA (kA (sk (kL (kC (kQ (kL (kL (sk (sk (kC (sk (kC (sk (kL (sk (kC (sk (kL (sk (kA (kL (kL (sk (sk (sk (sk (kL (sk (sk (kC (kL (sk (dn (fl26 (lwZ P) K it))) (ob (l26 (fxZ P) (lwZ P) K it q p u false 0 3 1 7) 7)) (crR (V := V) (vNx_1_5 O it) w 0 0)))) (ob (l26 (fxZ P) (lwZ P) K it q p u false 0 3 1 7) 3)))))) (zo3 P)) (zo0 P)) (w.t 1))) (celO (fxZ P).N (some (.int (Int.ofNat 1) (w.t 0)))))) (crR (V := V) (vIsub (Int.ofNat 10) (w.t 1) (Int.ofNat 1) (w.t 0) (Int.ofNat 9) rfl) w 0 2))) (ob (l26 (fxZ P) (lwZ P) K it q p u false 0 3 1 7) 4))) (crR (V := V) (vIsub (Int.ofNat 9) (w.t 2) (Int.ofNat 3) (u 1) (Int.ofNat 6) rfl) w 0 3))) (crR (V := V) (vRg O 6 (w.t 3)) w 0 4)))) (crN (V := V) (vRg O 6 (w.t 3)) w 0 4)) (crN (V := V) (vRg O 6 (w.t 3)) w 0 4)) (sT P b)) (crR (V := V) (vRit_6 O (w.a 0) (w.t 4) (w.t 3) (w.t 5)) w 1 6)) (crN (V := V) (vRit_6 O (w.a 0) (w.t 4) (w.t 3) (w.t 5)) w 1 6))) (w.a 2)) (w.a 3)) (crR (V := V) (vWh_3_1 O K q p (w.a 1) (w.a 2) (w.a 3) (w.t 0) (u 1)) w 4 6))))) (sT P b)) (w.t 26)) (frmO (fxZ P).N (fr13k K (kv21 K p 10) ++ (es18s K q 2 9 ++ es21 K p 10 ++ [(sWhole, (u 2), .ref (u 3)), (sHeld, (u 4), .ref (u 5))])) 17)))) (dctO (fxZ P).N [(sJ, (w.t 6), .int (Int.ofNat 5) (w.t 7))] 1))) (dctO (fxZ P).N [(sJ, (w.t 6), .int (Int.ofNat 5) (w.t 7))] 1)))))) (frmO (fxZ P).N (fr13k K (kv21 K p 10) ++ (es18s K q 2 9 ++ es21 K p 10 ++ [(sWhole, (u 2), .ref (w.a 2)), (sHeld, (u 4), .ref (u 5))])) 17))) (lstO (fxZ P).N (stV (whL K 1 4 (fun a => w.t (8 + a)) 0 6)) 6)) (lstO (fxZ P).N (stV (whL K 1 4 (fun a => w.t (8 + a)) 0 6)) 6)) (sT P b)) (crR (V := V) (vLit O (w.a 2) (stV (whL K 1 4 (fun a => w.t (8 + a)) 0 6)) 6) w 4 27)) (crN (V := V) (vLit O (w.a 2) (stV (whL K 1 4 (fun a => w.t (8 + a)) 0 6)) 6) w 4 27))) (w.a 5)) (w.a 6)) (crR (V := V) (vHd_3_1 O K (w.a 4) (w.a 5) (w.a 6) (w.a 2) (fun a => w.t (8 + a))) w 7 27))))) (sT P b)) (w.t 47)) (frmO (fxZ P).N (fr13k K (kv21 K p 10) ++ (es18s K q 2 9 ++ es21 K p 10 ++ [(sWhole, (u 2), .ref (w.a 2)), (sHeld, (u 4), .ref (u 5))])) 17)))) (dctO (fxZ P).N [(sPart, (w.t 27), lastV (whL K 1 4 (fun a => w.t (8 + a)) 0 6))] 1))) (dctO (fxZ P).N [(sPart, (w.t 27), lastV (whL K 1 4 (fun a => w.t (8 + a)) 0 6))] 1)))))) (frmO (fxZ P).N (fr13k K (kv21 K p 10) ++ (es18s K q 2 9 ++ es21 K p 10 ++ [(sWhole, (u 2), .ref (w.a 2)), (sHeld, (u 4), .ref (w.a 5))])) 17))) (celO (fxZ P).N (some (.int (Int.ofNat 3) (u 1))))) (w.t 48))) (sT P b)) (crR (V := V) (vIeq (Int.ofNat 3) (u 1) (Int.ofNat 9) (w.t 48) false rfl) w 7 49))) (frmO (fxZ P).N (fr13k K (kv21 K p 10) ++ (es18s K q 2 9 ++ es21 K p 10 ++ [(sWhole, (u 2), .ref (w.a 2)), (sHeld, (u 4), .ref (w.a 5))])) 17))))
    (l' := fun w => [((K.ad 0), frmO (fxZ P).N (fr13k K (kv21 K p 10) ++ (es18s K q 2 9 ++ es21 K p 10 ++ [(sWhole, (u 2), .ref (w.a 2)), (sHeld, (u 4), .ref (w.a 5))])) 17), ((K.ad 7), celO (fxZ P).N (some (.ref (K.ad 24)))), ((K.ad 8), celO (fxZ P).N (some (.ref (q 9)))), ((K.ad 9), celO (fxZ P).N (some (.int (Int.ofNat 1) (w.t 0)))), ((K.ad 11), celO (fxZ P).N (some (.int (Int.ofNat 3) (u 1)))), ((K.ad 24), dctO (fxZ P).N (gvL K.L K.tk (gt18 q) 9) 9), ((q 9), lstO (fxZ P).N (rowsV K p 10) 10), (it, rngO riZ 2 5), ((w.a 2), lstO (fxZ P).N (stV (whL K 1 4 (fun a => w.t (8 + a)) 0 6)) 6), ((w.a 5), lstO (fxZ P).N (stV (whL K 1 4 (fun a => w.t (8 + a)) 0 6)) 6), ((w.a 6), dctO (fxZ P).N [] 2)]) (ch' := fun _ => ch) (fun w => by kernel_rfl) (fun w => ?_)
  refine G.xStack hR (by kernel_rfl) (by kernel_rfl) fun st hst => ?_
  refine G.room2 rfl hst ?_
  refine seg O hR 57 [10,9,10,1,10,10,10,12,9999,14,14,14,3,4,5,7,7,7,7,7] [(0, ups [8,0], fun w2 => ⟨_, vLneR P (w.a 5) (w.a 2) (whL K 1 4 (fun a => w.t (8 + a)) 0 6) (whL K 1 4 (fun a => w.t (8 + a)) 0 6) 6 6 rfl⟩), (1, ups [1,3,3,1,0,0], fun w2 => ⟨_, vJc_3_1 O K hD hL q (w2.a 0) (w2.a 1) (w2.a 2) (w.a 5) (fun a => w.t (8 + a))⟩), (0, ups [12], fun w2 => ⟨_, vJ0 P (w2.t 0) (w2.a 1) (ltV K 4 0 6) 6 (lrow K 4 6) (lrow_cat0 _ _ _) (ltV_le _ _ _ _) (by rw [ltV_len]; decide)⟩), (2, ups [], fun w2 => ⟨_, vSne (lrow K 4 6) (w2.t 21) (lrow K 4 6) (rt K p 4) false (sne_same _)⟩)]
    (ups [0,0,0,0,0,0,0,0]) (c' := fun w2 => fl26 (lwZ P) K it) (t' := fun w2 => dn (fl26 (lwZ P) K it)) (l' := fun w2 => l26 (fxZ P) (lwZ P) K it q p (ovr u [(0, (w.t 0)), (3, (w.a 2)), (5, (w.a 5))]) false 1 3 2 7) (ch' := fun _ => ch) (fun w2 => ?_) (fun w2 => ?_)
  · kernel_rfl
  · exact H _
theorem i26_3_2 (O : VO V P b scr) {κ : Kont} (hR : Rm V κ 600) (ch : Ch) (K : Kn) (hD : Dist K.L) (hL : LucLaw K.X) (it : Addr) (q p u : Nat → Nat) (R : Lst) (H : ∀ u, G26 V P ch κ K it q p u false 2 3 3 7 R) : G26 V P ch κ K it q p u false 1 3 2 7 R := by
  unfold G26
  refine seg O hR 85 (hsD 29 104363670346286340133910535997295755165543612110170746847752) [(0, ups [7], fun w => ⟨_, vNx_2_4 O it⟩), (0, ups [], fun w => ⟨_, vIsub (Int.ofNat 10) (w.t 1) (Int.ofNat 2) (w.t 0) (Int.ofNat 8) rfl⟩), (0, ups [], fun w => ⟨_, vIsub (Int.ofNat 8) (w.t 2) (Int.ofNat 3) (u 1) (Int.ofNat 5) rfl⟩), (0, ups [], fun w => ⟨_, vRg O 5 (w.t 3)⟩), (0, ups [8], fun w => ⟨_, vRit_5 O (w.a 0) (w.t 4) (w.t 3) (w.t 5)⟩), (0, ups [2,0,0,1,2,0,0], fun w => ⟨_, vWh_3_2 O K q p (w.a 1) (w.a 2) (w.a 3) (w.t 0) (u 1)⟩), (0, ups [10], fun w => ⟨_, vLit O (w.a 2) (stV (whL K 2 4 (fun a => w.t (8 + a)) 0 5)) 5⟩), (0, ups [10,1,0,0], fun w => ⟨_, vHd_3_2 O K (w.a 4) (w.a 5) (w.a 6) (w.a 2) (fun a => w.t (8 + a))⟩), (0, ups [], fun w => ⟨_, vIeq (Int.ofNat 3) (u 1) (Int.ofNat 9) (w.t 48) false rfl⟩)] (ups [0,0,0,0,0,0,0,0,2,2,0]) (c' := fun w => fl26 (lwZ P) K it) (t' := fun w => (sk (kL (sk (kC (kQ (sk (kA (kL (sk (kL (sk (sk (sk (sk (kL (sk (kL (sk (sk (kL (kA (kQ (sk (sk (sk (kC (kA (kA (sk (kL (kC (kQ (kL (kL (sk (kL (sk (sk (sk (sk (kL (sk (kL (sk (sk (kL (kA (kQ (sk (sk (sk (kC (kA (kA (sk (kL (kC (kQ (kL (kL (sk (sk (kC (sk (kC (sk (kL (sk (kC (sk (kL (sk (kA (kL (kL (sk (sk (sk (sk (kL (sk (sk (kC (kL (sk (dn (fl26 (lwZ P) K it))) (ob (l26 (fxZ P) (lwZ P) K it q p u false 1 3 2 7) 7)) (crR (V := V) (vNx_2_4 O it) w 0 0)))) (ob (l26 (fxZ P) (lwZ P) K it q p u false 1 3 2 7) 3)))))) (zo3 P)) (zo0 P)) (w.t 1))) (celO (fxZ P).N (some (.int (Int.ofNat 2) (w.t 0)))))) (crR (V := V) (vIsub (Int.ofNat 10) (w.t 1) (Int.ofNat 2) (w.t 0) (Int.ofNat 8) rfl) w 0 2))) (ob (l26 (fxZ P) (lwZ P) K it q p u false 1 3 2 7) 4))) (crR (V := V) (vIsub (Int.ofNat 8) (w.t 2) (Int.ofNat 3) (u 1) (Int.ofNat 5) rfl) w 0 3))) (crR (V := V) (vRg O 5 (w.t 3)) w 0 4)))) (crN (V := V) (vRg O 5 (w.t 3)) w 0 4)) (crN (V := V) (vRg O 5 (w.t 3)) w 0 4)) (sT P b)) (crR (V := V) (vRit_5 O (w.a 0) (w.t 4) (w.t 3) (w.t 5)) w 1 6)) (crN (V := V) (vRit_5 O (w.a 0) (w.t 4) (w.t 3) (w.t 5)) w 1 6))) (w.a 2)) (w.a 3)) (crR (V := V) (vWh_3_2 O K q p (w.a 1) (w.a 2) (w.a 3) (w.t 0) (u 1)) w 4 6))))) (sT P b)) (w.t 26)) (frmO (fxZ P).N (fr13k K (kv21 K p 10) ++ (es18s K q 2 9 ++ es21 K p 10 ++ [(sWhole, (u 2), .ref (u 3)), (sHeld, (u 4), .ref (u 5))])) 17)))) (dctO (fxZ P).N [(sJ, (w.t 6), .int (Int.ofNat 4) (w.t 7))] 1))) (dctO (fxZ P).N [(sJ, (w.t 6), .int (Int.ofNat 4) (w.t 7))] 1)))))) (frmO (fxZ P).N (fr13k K (kv21 K p 10) ++ (es18s K q 2 9 ++ es21 K p 10 ++ [(sWhole, (u 2), .ref (w.a 2)), (sHeld, (u 4), .ref (u 5))])) 17))) (lstO (fxZ P).N (stV (whL K 2 4 (fun a => w.t (8 + a)) 0 5)) 5)) (lstO (fxZ P).N (stV (whL K 2 4 (fun a => w.t (8 + a)) 0 5)) 5)) (sT P b)) (crR (V := V) (vLit O (w.a 2) (stV (whL K 2 4 (fun a => w.t (8 + a)) 0 5)) 5) w 4 27)) (crN (V := V) (vLit O (w.a 2) (stV (whL K 2 4 (fun a => w.t (8 + a)) 0 5)) 5) w 4 27))) (w.a 5)) (w.a 6)) (crR (V := V) (vHd_3_2 O K (w.a 4) (w.a 5) (w.a 6) (w.a 2) (fun a => w.t (8 + a))) w 7 27))))) (sT P b)) (w.t 47)) (frmO (fxZ P).N (fr13k K (kv21 K p 10) ++ (es18s K q 2 9 ++ es21 K p 10 ++ [(sWhole, (u 2), .ref (w.a 2)), (sHeld, (u 4), .ref (u 5))])) 17)))) (dctO (fxZ P).N [(sPart, (w.t 27), lastV (whL K 2 4 (fun a => w.t (8 + a)) 0 5))] 1))) (dctO (fxZ P).N [(sPart, (w.t 27), lastV (whL K 2 4 (fun a => w.t (8 + a)) 0 5))] 1)))))) (frmO (fxZ P).N (fr13k K (kv21 K p 10) ++ (es18s K q 2 9 ++ es21 K p 10 ++ [(sWhole, (u 2), .ref (w.a 2)), (sHeld, (u 4), .ref (w.a 5))])) 17))) (celO (fxZ P).N (some (.int (Int.ofNat 3) (u 1))))) (w.t 48))) (sT P b)) (crR (V := V) (vIeq (Int.ofNat 3) (u 1) (Int.ofNat 9) (w.t 48) false rfl) w 7 49))) (frmO (fxZ P).N (fr13k K (kv21 K p 10) ++ (es18s K q 2 9 ++ es21 K p 10 ++ [(sWhole, (u 2), .ref (w.a 2)), (sHeld, (u 4), .ref (w.a 5))])) 17))))
    (l' := fun w => [((K.ad 0), frmO (fxZ P).N (fr13k K (kv21 K p 10) ++ (es18s K q 2 9 ++ es21 K p 10 ++ [(sWhole, (u 2), .ref (w.a 2)), (sHeld, (u 4), .ref (w.a 5))])) 17), ((K.ad 7), celO (fxZ P).N (some (.ref (K.ad 24)))), ((K.ad 8), celO (fxZ P).N (some (.ref (q 9)))), ((K.ad 9), celO (fxZ P).N (some (.int (Int.ofNat 2) (w.t 0)))), ((K.ad 11), celO (fxZ P).N (some (.int (Int.ofNat 3) (u 1)))), ((K.ad 24), dctO (fxZ P).N (gvL K.L K.tk (gt18 q) 9) 9), ((q 9), lstO (fxZ P).N (rowsV K p 10) 10), (it, rngO riZ 3 4), ((w.a 2), lstO (fxZ P).N (stV (whL K 2 4 (fun a => w.t (8 + a)) 0 5)) 5), ((w.a 5), lstO (fxZ P).N (stV (whL K 2 4 (fun a => w.t (8 + a)) 0 5)) 5), ((w.a 6), dctO (fxZ P).N [] 2)]) (ch' := fun _ => ch) (fun w => by kernel_rfl) (fun w => ?_)
  refine G.xStack hR (by kernel_rfl) (by kernel_rfl) fun st hst => ?_
  refine G.room2 rfl hst ?_
  refine seg O hR 57 [10,9,10,1,10,10,10,12,9999,14,14,14,3,4,5,7,7,7,7,7] [(0, ups [8,0], fun w2 => ⟨_, vLneR P (w.a 5) (w.a 2) (whL K 2 4 (fun a => w.t (8 + a)) 0 5) (whL K 2 4 (fun a => w.t (8 + a)) 0 5) 5 5 rfl⟩), (1, ups [1,3,3,1,0,0], fun w2 => ⟨_, vJc_3_2 O K hD hL q (w2.a 0) (w2.a 1) (w2.a 2) (w.a 5) (fun a => w.t (8 + a))⟩), (0, ups [12], fun w2 => ⟨_, vJ0 P (w2.t 0) (w2.a 1) (ltV K 5 0 5) 5 (lrow K 5 5) (lrow_cat0 _ _ _) (ltV_le _ _ _ _) (by rw [ltV_len]; decide)⟩), (2, ups [], fun w2 => ⟨_, vSne (lrow K 5 5) (w2.t 21) (lrow K 5 5) (rt K p 5) false (sne_same _)⟩)]
    (ups [0,0,0,0,0,0,0,0]) (c' := fun w2 => fl26 (lwZ P) K it) (t' := fun w2 => dn (fl26 (lwZ P) K it)) (l' := fun w2 => l26 (fxZ P) (lwZ P) K it q p (ovr u [(0, (w.t 0)), (3, (w.a 2)), (5, (w.a 5))]) false 2 3 3 7) (ch' := fun _ => ch) (fun w2 => ?_) (fun w2 => ?_)
  · kernel_rfl
  · exact H _
theorem i26_3_3 (O : VO V P b scr) {κ : Kont} (hR : Rm V κ 600) (ch : Ch) (K : Kn) (hD : Dist K.L) (hL : LucLaw K.X) (it : Addr) (q p u : Nat → Nat) (R : Lst) (H : ∀ u, G26 V P ch κ K it q p u false 3 3 4 7 R) : G26 V P ch κ K it q p u false 2 3 3 7 R := by
  unfold G26
  refine seg O hR 85 (hsD 29 104363670346286340133910535997295755165543612110170746847752) [(0, ups [7], fun w => ⟨_, vNx_3_3 O it⟩), (0, ups [], fun w => ⟨_, vIsub (Int.ofNat 10) (w.t 1) (Int.ofNat 3) (w.t 0) (Int.ofNat 7) rfl⟩), (0, ups [], fun w => ⟨_, vIsub (Int.ofNat 7) (w.t 2) (Int.ofNat 3) (u 1) (Int.ofNat 4) rfl⟩), (0, ups [], fun w => ⟨_, vRg O 4 (w.t 3)⟩), (0, ups [8], fun w => ⟨_, vRit_4 O (w.a 0) (w.t 4) (w.t 3) (w.t 5)⟩), (0, ups [2,0,0,1,2,0,0], fun w => ⟨_, vWh_3_3 O K q p (w.a 1) (w.a 2) (w.a 3) (w.t 0) (u 1)⟩), (0, ups [10], fun w => ⟨_, vLit O (w.a 2) (stV (whL K 3 4 (fun a => w.t (8 + a)) 0 4)) 4⟩), (0, ups [10,1,0,0], fun w => ⟨_, vHd_3_3 O K (w.a 4) (w.a 5) (w.a 6) (w.a 2) (fun a => w.t (8 + a))⟩), (0, ups [], fun w => ⟨_, vIeq (Int.ofNat 3) (u 1) (Int.ofNat 9) (w.t 48) false rfl⟩)] (ups [0,0,0,0,0,0,0,0,2,2,0]) (c' := fun w => fl26 (lwZ P) K it) (t' := fun w => (sk (kL (sk (kC (kQ (sk (kA (kL (sk (kL (sk (sk (sk (sk (kL (sk (kL (sk (sk (kL (kA (kQ (sk (sk (sk (kC (kA (kA (sk (kL (kC (kQ (kL (kL (sk (kL (sk (sk (sk (sk (kL (sk (kL (sk (sk (kL (kA (kQ (sk (sk (sk (kC (kA (kA (sk (kL (kC (kQ (kL (kL (sk (sk (kC (sk (kC (sk (kL (sk (kC (sk (kL (sk (kA (kL (kL (sk (sk (sk (sk (kL (sk (sk (kC (kL (sk (dn (fl26 (lwZ P) K it))) (ob (l26 (fxZ P) (lwZ P) K it q p u false 2 3 3 7) 7)) (crR (V := V) (vNx_3_3 O it) w 0 0)))) (ob (l26 (fxZ P) (lwZ P) K it q p u false 2 3 3 7) 3)))))) (zo3 P)) (zo0 P)) (w.t 1))) (celO (fxZ P).N (some (.int (Int.ofNat 3) (w.t 0)))))) (crR (V := V) (vIsub (Int.ofNat 10) (w.t 1) (Int.ofNat 3) (w.t 0) (Int.ofNat 7) rfl) w 0 2))) (ob (l26 (fxZ P) (lwZ P) K it q p u false 2 3 3 7) 4))) (crR (V := V) (vIsub (Int.ofNat 7) (w.t 2) (Int.ofNat 3) (u 1) (Int.ofNat 4) rfl) w 0 3))) (crR (V := V) (vRg O 4 (w.t 3)) w 0 4)))) (crN (V := V) (vRg O 4 (w.t 3)) w 0 4)) (crN (V := V) (vRg O 4 (w.t 3)) w 0 4)) (sT P b)) (crR (V := V) (vRit_4 O (w.a 0) (w.t 4) (w.t 3) (w.t 5)) w 1 6)) (crN (V := V) (vRit_4 O (w.a 0) (w.t 4) (w.t 3) (w.t 5)) w 1 6))) (w.a 2)) (w.a 3)) (crR (V := V) (vWh_3_3 O K q p (w.a 1) (w.a 2) (w.a 3) (w.t 0) (u 1)) w 4 6))))) (sT P b)) (w.t 26)) (frmO (fxZ P).N (fr13k K (kv21 K p 10) ++ (es18s K q 2 9 ++ es21 K p 10 ++ [(sWhole, (u 2), .ref (u 3)), (sHeld, (u 4), .ref (u 5))])) 17)))) (dctO (fxZ P).N [(sJ, (w.t 6), .int (Int.ofNat 3) (w.t 7))] 1))) (dctO (fxZ P).N [(sJ, (w.t 6), .int (Int.ofNat 3) (w.t 7))] 1)))))) (frmO (fxZ P).N (fr13k K (kv21 K p 10) ++ (es18s K q 2 9 ++ es21 K p 10 ++ [(sWhole, (u 2), .ref (w.a 2)), (sHeld, (u 4), .ref (u 5))])) 17))) (lstO (fxZ P).N (stV (whL K 3 4 (fun a => w.t (8 + a)) 0 4)) 4)) (lstO (fxZ P).N (stV (whL K 3 4 (fun a => w.t (8 + a)) 0 4)) 4)) (sT P b)) (crR (V := V) (vLit O (w.a 2) (stV (whL K 3 4 (fun a => w.t (8 + a)) 0 4)) 4) w 4 27)) (crN (V := V) (vLit O (w.a 2) (stV (whL K 3 4 (fun a => w.t (8 + a)) 0 4)) 4) w 4 27))) (w.a 5)) (w.a 6)) (crR (V := V) (vHd_3_3 O K (w.a 4) (w.a 5) (w.a 6) (w.a 2) (fun a => w.t (8 + a))) w 7 27))))) (sT P b)) (w.t 47)) (frmO (fxZ P).N (fr13k K (kv21 K p 10) ++ (es18s K q 2 9 ++ es21 K p 10 ++ [(sWhole, (u 2), .ref (w.a 2)), (sHeld, (u 4), .ref (u 5))])) 17)))) (dctO (fxZ P).N [(sPart, (w.t 27), lastV (whL K 3 4 (fun a => w.t (8 + a)) 0 4))] 1))) (dctO (fxZ P).N [(sPart, (w.t 27), lastV (whL K 3 4 (fun a => w.t (8 + a)) 0 4))] 1)))))) (frmO (fxZ P).N (fr13k K (kv21 K p 10) ++ (es18s K q 2 9 ++ es21 K p 10 ++ [(sWhole, (u 2), .ref (w.a 2)), (sHeld, (u 4), .ref (w.a 5))])) 17))) (celO (fxZ P).N (some (.int (Int.ofNat 3) (u 1))))) (w.t 48))) (sT P b)) (crR (V := V) (vIeq (Int.ofNat 3) (u 1) (Int.ofNat 9) (w.t 48) false rfl) w 7 49))) (frmO (fxZ P).N (fr13k K (kv21 K p 10) ++ (es18s K q 2 9 ++ es21 K p 10 ++ [(sWhole, (u 2), .ref (w.a 2)), (sHeld, (u 4), .ref (w.a 5))])) 17))))
    (l' := fun w => [((K.ad 0), frmO (fxZ P).N (fr13k K (kv21 K p 10) ++ (es18s K q 2 9 ++ es21 K p 10 ++ [(sWhole, (u 2), .ref (w.a 2)), (sHeld, (u 4), .ref (w.a 5))])) 17), ((K.ad 7), celO (fxZ P).N (some (.ref (K.ad 24)))), ((K.ad 8), celO (fxZ P).N (some (.ref (q 9)))), ((K.ad 9), celO (fxZ P).N (some (.int (Int.ofNat 3) (w.t 0)))), ((K.ad 11), celO (fxZ P).N (some (.int (Int.ofNat 3) (u 1)))), ((K.ad 24), dctO (fxZ P).N (gvL K.L K.tk (gt18 q) 9) 9), ((q 9), lstO (fxZ P).N (rowsV K p 10) 10), (it, rngO riZ 4 3), ((w.a 2), lstO (fxZ P).N (stV (whL K 3 4 (fun a => w.t (8 + a)) 0 4)) 4), ((w.a 5), lstO (fxZ P).N (stV (whL K 3 4 (fun a => w.t (8 + a)) 0 4)) 4), ((w.a 6), dctO (fxZ P).N [] 2)]) (ch' := fun _ => ch) (fun w => by kernel_rfl) (fun w => ?_)
  refine G.xStack hR (by kernel_rfl) (by kernel_rfl) fun st hst => ?_
  refine G.room2 rfl hst ?_
  refine seg O hR 57 [10,9,10,1,10,10,10,12,9999,14,14,14,3,4,5,7,7,7,7,7] [(0, ups [8,0], fun w2 => ⟨_, vLneR P (w.a 5) (w.a 2) (whL K 3 4 (fun a => w.t (8 + a)) 0 4) (whL K 3 4 (fun a => w.t (8 + a)) 0 4) 4 4 rfl⟩), (1, ups [1,3,3,1,0,0], fun w2 => ⟨_, vJc_3_3 O K hD hL q (w2.a 0) (w2.a 1) (w2.a 2) (w.a 5) (fun a => w.t (8 + a))⟩), (0, ups [12], fun w2 => ⟨_, vJ0 P (w2.t 0) (w2.a 1) (ltV K 6 0 4) 4 (lrow K 6 4) (lrow_cat0 _ _ _) (ltV_le _ _ _ _) (by rw [ltV_len]; decide)⟩), (2, ups [], fun w2 => ⟨_, vSne (lrow K 6 4) (w2.t 21) (lrow K 6 4) (rt K p 6) false (sne_same _)⟩)]
    (ups [0,0,0,0,0,0,0,0]) (c' := fun w2 => fl26 (lwZ P) K it) (t' := fun w2 => dn (fl26 (lwZ P) K it)) (l' := fun w2 => l26 (fxZ P) (lwZ P) K it q p (ovr u [(0, (w.t 0)), (3, (w.a 2)), (5, (w.a 5))]) false 3 3 4 7) (ch' := fun _ => ch) (fun w2 => ?_) (fun w2 => ?_)
  · kernel_rfl
  · exact H _
theorem i26_3_4 (O : VO V P b scr) {κ : Kont} (hR : Rm V κ 600) (ch : Ch) (K : Kn) (hD : Dist K.L) (hL : LucLaw K.X) (it : Addr) (q p u : Nat → Nat) (R : Lst) (H : ∀ u, G26 V P ch κ K it q p u false 4 3 5 7 R) : G26 V P ch κ K it q p u false 3 3 4 7 R := by
  unfold G26
  refine seg O hR 85 (hsD 29 104363670346286340133910535997295755165543612110170746847752) [(0, ups [7], fun w => ⟨_, vNx_4_2 O it⟩), (0, ups [], fun w => ⟨_, vIsub (Int.ofNat 10) (w.t 1) (Int.ofNat 4) (w.t 0) (Int.ofNat 6) rfl⟩), (0, ups [], fun w => ⟨_, vIsub (Int.ofNat 6) (w.t 2) (Int.ofNat 3) (u 1) (Int.ofNat 3) rfl⟩), (0, ups [], fun w => ⟨_, vRg O 3 (w.t 3)⟩), (0, ups [8], fun w => ⟨_, vRit_3 O (w.a 0) (w.t 4) (w.t 3) (w.t 5)⟩), (0, ups [2,0,0,1,2,0,0], fun w => ⟨_, vWh_3_4 O K q p (w.a 1) (w.a 2) (w.a 3) (w.t 0) (u 1)⟩), (0, ups [10], fun w => ⟨_, vLit O (w.a 2) (stV (whL K 4 4 (fun a => w.t (8 + a)) 0 3)) 3⟩), (0, ups [10,1,0,0], fun w => ⟨_, vHd_3_4 O K (w.a 4) (w.a 5) (w.a 6) (w.a 2) (fun a => w.t (8 + a))⟩), (0, ups [], fun w => ⟨_, vIeq (Int.ofNat 3) (u 1) (Int.ofNat 9) (w.t 48) false rfl⟩)] (ups [0,0,0,0,0,0,0,0,2,2,0]) (c' := fun w => fl26 (lwZ P) K it) (t' := fun w => (sk (kL (sk (kC (kQ (sk (kA (kL (sk (kL (sk (sk (sk (sk (kL (sk (kL (sk (sk (kL (kA (kQ (sk (sk (sk (kC (kA (kA (sk (kL (kC (kQ (kL (kL (sk (kL (sk (sk (sk (sk (kL (sk (kL (sk (sk (kL (kA (kQ (sk (sk (sk (kC (kA (kA (sk (kL (kC (kQ (kL (kL (sk (sk (kC (sk (kC (sk (kL (sk (kC (sk (kL (sk (kA (kL (kL (sk (sk (sk (sk (kL (sk (sk (kC (kL (sk (dn (fl26 (lwZ P) K it))) (ob (l26 (fxZ P) (lwZ P) K it q p u false 3 3 4 7) 7)) (crR (V := V) (vNx_4_2 O it) w 0 0)))) (ob (l26 (fxZ P) (lwZ P) K it q p u false 3 3 4 7) 3)))))) (zo3 P)) (zo0 P)) (w.t 1))) (celO (fxZ P).N (some (.int (Int.ofNat 4) (w.t 0)))))) (crR (V := V) (vIsub (Int.ofNat 10) (w.t 1) (Int.ofNat 4) (w.t 0) (Int.ofNat 6) rfl) w 0 2))) (ob (l26 (fxZ P) (lwZ P) K it q p u false 3 3 4 7) 4))) (crR (V := V) (vIsub (Int.ofNat 6) (w.t 2) (Int.ofNat 3) (u 1) (Int.ofNat 3) rfl) w 0 3))) (crR (V := V) (vRg O 3 (w.t 3)) w 0 4)))) (crN (V := V) (vRg O 3 (w.t 3)) w 0 4)) (crN (V := V) (vRg O 3 (w.t 3)) w 0 4)) (sT P b)) (crR (V := V) (vRit_3 O (w.a 0) (w.t 4) (w.t 3) (w.t 5)) w 1 6)) (crN (V := V) (vRit_3 O (w.a 0) (w.t 4) (w.t 3) (w.t 5)) w 1 6))) (w.a 2)) (w.a 3)) (crR (V := V) (vWh_3_4 O K q p (w.a 1) (w.a 2) (w.a 3) (w.t 0) (u 1)) w 4 6))))) (sT P b)) (w.t 26)) (frmO (fxZ P).N (fr13k K (kv21 K p 10) ++ (es18s K q 2 9 ++ es21 K p 10 ++ [(sWhole, (u 2), .ref (u 3)), (sHeld, (u 4), .ref (u 5))])) 17)))) (dctO (fxZ P).N [(sJ, (w.t 6), .int (Int.ofNat 2) (w.t 7))] 1))) (dctO (fxZ P).N [(sJ, (w.t 6), .int (Int.ofNat 2) (w.t 7))] 1)))))) (frmO (fxZ P).N (fr13k K (kv21 K p 10) ++ (es18s K q 2 9 ++ es21 K p 10 ++ [(sWhole, (u 2), .ref (w.a 2)), (sHeld, (u 4), .ref (u 5))])) 17))) (lstO (fxZ P).N (stV (whL K 4 4 (fun a => w.t (8 + a)) 0 3)) 3)) (lstO (fxZ P).N (stV (whL K 4 4 (fun a => w.t (8 + a)) 0 3)) 3)) (sT P b)) (crR (V := V) (vLit O (w.a 2) (stV (whL K 4 4 (fun a => w.t (8 + a)) 0 3)) 3) w 4 27)) (crN (V := V) (vLit O (w.a 2) (stV (whL K 4 4 (fun a => w.t (8 + a)) 0 3)) 3) w 4 27))) (w.a 5)) (w.a 6)) (crR (V := V) (vHd_3_4 O K (w.a 4) (w.a 5) (w.a 6) (w.a 2) (fun a => w.t (8 + a))) w 7 27))))) (sT P b)) (w.t 47)) (frmO (fxZ P).N (fr13k K (kv21 K p 10) ++ (es18s K q 2 9 ++ es21 K p 10 ++ [(sWhole, (u 2), .ref (w.a 2)), (sHeld, (u 4), .ref (u 5))])) 17)))) (dctO (fxZ P).N [(sPart, (w.t 27), lastV (whL K 4 4 (fun a => w.t (8 + a)) 0 3))] 1))) (dctO (fxZ P).N [(sPart, (w.t 27), lastV (whL K 4 4 (fun a => w.t (8 + a)) 0 3))] 1)))))) (frmO (fxZ P).N (fr13k K (kv21 K p 10) ++ (es18s K q 2 9 ++ es21 K p 10 ++ [(sWhole, (u 2), .ref (w.a 2)), (sHeld, (u 4), .ref (w.a 5))])) 17))) (celO (fxZ P).N (some (.int (Int.ofNat 3) (u 1))))) (w.t 48))) (sT P b)) (crR (V := V) (vIeq (Int.ofNat 3) (u 1) (Int.ofNat 9) (w.t 48) false rfl) w 7 49))) (frmO (fxZ P).N (fr13k K (kv21 K p 10) ++ (es18s K q 2 9 ++ es21 K p 10 ++ [(sWhole, (u 2), .ref (w.a 2)), (sHeld, (u 4), .ref (w.a 5))])) 17))))
    (l' := fun w => [((K.ad 0), frmO (fxZ P).N (fr13k K (kv21 K p 10) ++ (es18s K q 2 9 ++ es21 K p 10 ++ [(sWhole, (u 2), .ref (w.a 2)), (sHeld, (u 4), .ref (w.a 5))])) 17), ((K.ad 7), celO (fxZ P).N (some (.ref (K.ad 24)))), ((K.ad 8), celO (fxZ P).N (some (.ref (q 9)))), ((K.ad 9), celO (fxZ P).N (some (.int (Int.ofNat 4) (w.t 0)))), ((K.ad 11), celO (fxZ P).N (some (.int (Int.ofNat 3) (u 1)))), ((K.ad 24), dctO (fxZ P).N (gvL K.L K.tk (gt18 q) 9) 9), ((q 9), lstO (fxZ P).N (rowsV K p 10) 10), (it, rngO riZ 5 2), ((w.a 2), lstO (fxZ P).N (stV (whL K 4 4 (fun a => w.t (8 + a)) 0 3)) 3), ((w.a 5), lstO (fxZ P).N (stV (whL K 4 4 (fun a => w.t (8 + a)) 0 3)) 3), ((w.a 6), dctO (fxZ P).N [] 2)]) (ch' := fun _ => ch) (fun w => by kernel_rfl) (fun w => ?_)
  refine G.xStack hR (by kernel_rfl) (by kernel_rfl) fun st hst => ?_
  refine G.room2 rfl hst ?_
  refine seg O hR 57 [10,9,10,1,10,10,10,12,9999,14,14,14,3,4,5,7,7,7,7,7] [(0, ups [8,0], fun w2 => ⟨_, vLneR P (w.a 5) (w.a 2) (whL K 4 4 (fun a => w.t (8 + a)) 0 3) (whL K 4 4 (fun a => w.t (8 + a)) 0 3) 3 3 rfl⟩), (1, ups [1,3,3,1,0,0], fun w2 => ⟨_, vJc_3_4 O K hD hL q (w2.a 0) (w2.a 1) (w2.a 2) (w.a 5) (fun a => w.t (8 + a))⟩), (0, ups [12], fun w2 => ⟨_, vJ0 P (w2.t 0) (w2.a 1) (ltV K 7 0 3) 3 (lrow K 7 3) (lrow_cat0 _ _ _) (ltV_le _ _ _ _) (by rw [ltV_len]; decide)⟩), (2, ups [], fun w2 => ⟨_, vSne (lrow K 7 3) (w2.t 21) (lrow K 7 3) (rt K p 7) false (sne_same _)⟩)]
    (ups [0,0,0,0,0,0,0,0]) (c' := fun w2 => fl26 (lwZ P) K it) (t' := fun w2 => dn (fl26 (lwZ P) K it)) (l' := fun w2 => l26 (fxZ P) (lwZ P) K it q p (ovr u [(0, (w.t 0)), (3, (w.a 2)), (5, (w.a 5))]) false 4 3 5 7) (ch' := fun _ => ch) (fun w2 => ?_) (fun w2 => ?_)
  · kernel_rfl
  · exact H _
theorem i26_3_5 (O : VO V P b scr) {κ : Kont} (hR : Rm V κ 600) (ch : Ch) (K : Kn) (hD : Dist K.L) (hL : LucLaw K.X) (it : Addr) (q p u : Nat → Nat) (R : Lst) (H : ∀ u, G26 V P ch κ K it q p u false 5 3 6 7 R) : G26 V P ch κ K it q p u false 4 3 5 7 R := by
  unfold G26
  refine seg O hR 85 (hsD 29 104363670346286340133910535997295755165543612110170746847752) [(0, ups [7], fun w => ⟨_, vNx_5_1 O it⟩), (0, ups [], fun w => ⟨_, vIsub (Int.ofNat 10) (w.t 1) (Int.ofNat 5) (w.t 0) (Int.ofNat 5) rfl⟩), (0, ups [], fun w => ⟨_, vIsub (Int.ofNat 5) (w.t 2) (Int.ofNat 3) (u 1) (Int.ofNat 2) rfl⟩), (0, ups [], fun w => ⟨_, vRg O 2 (w.t 3)⟩), (0, ups [8], fun w => ⟨_, vRit_2 O (w.a 0) (w.t 4) (w.t 3) (w.t 5)⟩), (0, ups [2,0,0,1,2,0,0], fun w => ⟨_, vWh_3_5 O K q p (w.a 1) (w.a 2) (w.a 3) (w.t 0) (u 1)⟩), (0, ups [10], fun w => ⟨_, vLit O (w.a 2) (stV (whL K 5 4 (fun a => w.t (8 + a)) 0 2)) 2⟩), (0, ups [10,1,0,0], fun w => ⟨_, vHd_3_5 O K (w.a 4) (w.a 5) (w.a 6) (w.a 2) (fun a => w.t (8 + a))⟩), (0, ups [], fun w => ⟨_, vIeq (Int.ofNat 3) (u 1) (Int.ofNat 9) (w.t 48) false rfl⟩)] (ups [0,0,0,0,0,0,0,0,2,2,0]) (c' := fun w => fl26 (lwZ P) K it) (t' := fun w => (sk (kL (sk (kC (kQ (sk (kA (kL (sk (kL (sk (sk (sk (sk (kL (sk (kL (sk (sk (kL (kA (kQ (sk (sk (sk (kC (kA (kA (sk (kL (kC (kQ (kL (kL (sk (kL (sk (sk (sk (sk (kL (sk (kL (sk (sk (kL (kA (kQ (sk (sk (sk (kC (kA (kA (sk (kL (kC (kQ (kL (kL (sk (sk (kC (sk (kC (sk (kL (sk (kC (sk (kL (sk (kA (kL (kL (sk (sk (sk (sk (kL (sk (sk (kC (kL (sk (dn (fl26 (lwZ P) K it))) (ob (l26 (fxZ P) (lwZ P) K it q p u false 4 3 5 7) 7)) (crR (V := V) (vNx_5_1 O it) w 0 0)))) (ob (l26 (fxZ P) (lwZ P) K it q p u false 4 3 5 7) 3)))))) (zo3 P)) (zo0 P)) (w.t 1))) (celO (fxZ P).N (some (.int (Int.ofNat 5) (w.t 0)))))) (crR (V := V) (vIsub (Int.ofNat 10) (w.t 1) (Int.ofNat 5) (w.t 0) (Int.ofNat 5) rfl) w 0 2))) (ob (l26 (fxZ P) (lwZ P) K it q p u false 4 3 5 7) 4))) (crR (V := V) (vIsub (Int.ofNat 5) (w.t 2) (Int.ofNat 3) (u 1) (Int.ofNat 2) rfl) w 0 3))) (crR (V := V) (vRg O 2 (w.t 3)) w 0 4)))) (crN (V := V) (vRg O 2 (w.t 3)) w 0 4)) (crN (V := V) (vRg O 2 (w.t 3)) w 0 4)) (sT P b)) (crR (V := V) (vRit_2 O (w.a 0) (w.t 4) (w.t 3) (w.t 5)) w 1 6)) (crN (V := V) (vRit_2 O (w.a 0) (w.t 4) (w.t 3) (w.t 5)) w 1 6))) (w.a 2)) (w.a 3)) (crR (V := V) (vWh_3_5 O K q p (w.a 1) (w.a 2) (w.a 3) (w.t 0) (u 1)) w 4 6))))) (sT P b)) (w.t 26)) (frmO (fxZ P).N (fr13k K (kv21 K p 10) ++ (es18s K q 2 9 ++ es21 K p 10 ++ [(sWhole, (u 2), .ref (u 3)), (sHeld, (u 4), .ref (u 5))])) 17)))) (dctO (fxZ P).N [(sJ, (w.t 6), .int (Int.ofNat 1) (w.t 7))] 1))) (dctO (fxZ P).N [(sJ, (w.t 6), .int (Int.ofNat 1) (w.t 7))] 1)))))) (frmO (fxZ P).N (fr13k K (kv21 K p 10) ++ (es18s K q 2 9 ++ es21 K p 10 ++ [(sWhole, (u 2), .ref (w.a 2)), (sHeld, (u 4), .ref (u 5))])) 17))) (lstO (fxZ P).N (stV (whL K 5 4 (fun a => w.t (8 + a)) 0 2)) 2)) (lstO (fxZ P).N (stV (whL K 5 4 (fun a => w.t (8 + a)) 0 2)) 2)) (sT P b)) (crR (V := V) (vLit O (w.a 2) (stV (whL K 5 4 (fun a => w.t (8 + a)) 0 2)) 2) w 4 27)) (crN (V := V) (vLit O (w.a 2) (stV (whL K 5 4 (fun a => w.t (8 + a)) 0 2)) 2) w 4 27))) (w.a 5)) (w.a 6)) (crR (V := V) (vHd_3_5 O K (w.a 4) (w.a 5) (w.a 6) (w.a 2) (fun a => w.t (8 + a))) w 7 27))))) (sT P b)) (w.t 47)) (frmO (fxZ P).N (fr13k K (kv21 K p 10) ++ (es18s K q 2 9 ++ es21 K p 10 ++ [(sWhole, (u 2), .ref (w.a 2)), (sHeld, (u 4), .ref (u 5))])) 17)))) (dctO (fxZ P).N [(sPart, (w.t 27), lastV (whL K 5 4 (fun a => w.t (8 + a)) 0 2))] 1))) (dctO (fxZ P).N [(sPart, (w.t 27), lastV (whL K 5 4 (fun a => w.t (8 + a)) 0 2))] 1)))))) (frmO (fxZ P).N (fr13k K (kv21 K p 10) ++ (es18s K q 2 9 ++ es21 K p 10 ++ [(sWhole, (u 2), .ref (w.a 2)), (sHeld, (u 4), .ref (w.a 5))])) 17))) (celO (fxZ P).N (some (.int (Int.ofNat 3) (u 1))))) (w.t 48))) (sT P b)) (crR (V := V) (vIeq (Int.ofNat 3) (u 1) (Int.ofNat 9) (w.t 48) false rfl) w 7 49))) (frmO (fxZ P).N (fr13k K (kv21 K p 10) ++ (es18s K q 2 9 ++ es21 K p 10 ++ [(sWhole, (u 2), .ref (w.a 2)), (sHeld, (u 4), .ref (w.a 5))])) 17))))
    (l' := fun w => [((K.ad 0), frmO (fxZ P).N (fr13k K (kv21 K p 10) ++ (es18s K q 2 9 ++ es21 K p 10 ++ [(sWhole, (u 2), .ref (w.a 2)), (sHeld, (u 4), .ref (w.a 5))])) 17), ((K.ad 7), celO (fxZ P).N (some (.ref (K.ad 24)))), ((K.ad 8), celO (fxZ P).N (some (.ref (q 9)))), ((K.ad 9), celO (fxZ P).N (some (.int (Int.ofNat 5) (w.t 0)))), ((K.ad 11), celO (fxZ P).N (some (.int (Int.ofNat 3) (u 1)))), ((K.ad 24), dctO (fxZ P).N (gvL K.L K.tk (gt18 q) 9) 9), ((q 9), lstO (fxZ P).N (rowsV K p 10) 10), (it, rngO riZ 6 1), ((w.a 2), lstO (fxZ P).N (stV (whL K 5 4 (fun a => w.t (8 + a)) 0 2)) 2), ((w.a 5), lstO (fxZ P).N (stV (whL K 5 4 (fun a => w.t (8 + a)) 0 2)) 2), ((w.a 6), dctO (fxZ P).N [] 2)]) (ch' := fun _ => ch) (fun w => by kernel_rfl) (fun w => ?_)
  refine G.xStack hR (by kernel_rfl) (by kernel_rfl) fun st hst => ?_
  refine G.room2 rfl hst ?_
  refine seg O hR 57 [10,9,10,1,10,10,10,12,9999,14,14,14,3,4,5,7,7,7,7,7] [(0, ups [8,0], fun w2 => ⟨_, vLneR P (w.a 5) (w.a 2) (whL K 5 4 (fun a => w.t (8 + a)) 0 2) (whL K 5 4 (fun a => w.t (8 + a)) 0 2) 2 2 rfl⟩), (1, ups [1,3,3,1,0,0], fun w2 => ⟨_, vJc_3_5 O K hD hL q (w2.a 0) (w2.a 1) (w2.a 2) (w.a 5) (fun a => w.t (8 + a))⟩), (0, ups [12], fun w2 => ⟨_, vJ0 P (w2.t 0) (w2.a 1) (ltV K 8 0 2) 2 (lrow K 8 2) (lrow_cat0 _ _ _) (ltV_le _ _ _ _) (by rw [ltV_len]; decide)⟩), (2, ups [], fun w2 => ⟨_, vSne (lrow K 8 2) (w2.t 21) (lrow K 8 2) (rt K p 8) false (sne_same _)⟩)]
    (ups [0,0,0,0,0,0,0,0]) (c' := fun w2 => fl26 (lwZ P) K it) (t' := fun w2 => dn (fl26 (lwZ P) K it)) (l' := fun w2 => l26 (fxZ P) (lwZ P) K it q p (ovr u [(0, (w.t 0)), (3, (w.a 2)), (5, (w.a 5))]) false 5 3 6 7) (ch' := fun _ => ch) (fun w2 => ?_) (fun w2 => ?_)
  · kernel_rfl
  · exact H _
theorem i26_3_6 (O : VO V P b scr) {κ : Kont} (hR : Rm V κ 600) (ch : Ch) (K : Kn) (hD : Dist K.L) (hL : LucLaw K.X) (it : Addr) (q p u : Nat → Nat) (R : Lst) (H : ∀ u, G26 V P ch κ K it q p u false 6 3 7 7 R) : G26 V P ch κ K it q p u false 5 3 6 7 R := by
  unfold G26
  refine seg O hR 85 (hsD 29 104363670346286340133910535997295755165543612110170746847752) [(0, ups [7], fun w => ⟨_, vNx_6_0 O it⟩), (0, ups [], fun w => ⟨_, vIsub (Int.ofNat 10) (w.t 1) (Int.ofNat 6) (w.t 0) (Int.ofNat 4) rfl⟩), (0, ups [], fun w => ⟨_, vIsub (Int.ofNat 4) (w.t 2) (Int.ofNat 3) (u 1) (Int.ofNat 1) rfl⟩), (0, ups [], fun w => ⟨_, vRg O 1 (w.t 3)⟩), (0, ups [8], fun w => ⟨_, vRit_1 O (w.a 0) (w.t 4) (w.t 3) (w.t 5)⟩), (0, ups [2,0,0,1,2,0,0], fun w => ⟨_, vWh_3_6 O K q p (w.a 1) (w.a 2) (w.a 3) (w.t 0) (u 1)⟩), (0, ups [10], fun w => ⟨_, vLit O (w.a 2) (stV (whL K 6 4 (fun a => w.t (8 + a)) 0 1)) 1⟩), (0, ups [10,1,0,0], fun w => ⟨_, vHd_3_6 O K (w.a 4) (w.a 5) (w.a 6) (w.a 2) (fun a => w.t (8 + a))⟩), (0, ups [], fun w => ⟨_, vIeq (Int.ofNat 3) (u 1) (Int.ofNat 9) (w.t 48) false rfl⟩)] (ups [0,0,0,0,0,0,0,0,2,2,0]) (c' := fun w => fl26 (lwZ P) K it) (t' := fun w => (sk (kL (sk (kC (kQ (sk (kA (kL (sk (kL (sk (sk (sk (sk (kL (sk (kL (sk (sk (kL (kA (kQ (sk (sk (sk (kC (kA (kA (sk (kL (kC (kQ (kL (kL (sk (kL (sk (sk (sk (sk (kL (sk (kL (sk (sk (kL (kA (kQ (sk (sk (sk (kC (kA (kA (sk (kL (kC (kQ (kL (kL (sk (sk (kC (sk (kC (sk (kL (sk (kC (sk (kL (sk (kA (kL (kL (sk (sk (sk (sk (kL (sk (sk (kC (kL (sk (dn (fl26 (lwZ P) K it))) (ob (l26 (fxZ P) (lwZ P) K it q p u false 5 3 6 7) 7)) (crR (V := V) (vNx_6_0 O it) w 0 0)))) (ob (l26 (fxZ P) (lwZ P) K it q p u false 5 3 6 7) 3)))))) (zo3 P)) (zo0 P)) (w.t 1))) (celO (fxZ P).N (some (.int (Int.ofNat 6) (w.t 0)))))) (crR (V := V) (vIsub (Int.ofNat 10) (w.t 1) (Int.ofNat 6) (w.t 0) (Int.ofNat 4) rfl) w 0 2))) (ob (l26 (fxZ P) (lwZ P) K it q p u false 5 3 6 7) 4))) (crR (V := V) (vIsub (Int.ofNat 4) (w.t 2) (Int.ofNat 3) (u 1) (Int.ofNat 1) rfl) w 0 3))) (crR (V := V) (vRg O 1 (w.t 3)) w 0 4)))) (crN (V := V) (vRg O 1 (w.t 3)) w 0 4)) (crN (V := V) (vRg O 1 (w.t 3)) w 0 4)) (sT P b)) (crR (V := V) (vRit_1 O (w.a 0) (w.t 4) (w.t 3) (w.t 5)) w 1 6)) (crN (V := V) (vRit_1 O (w.a 0) (w.t 4) (w.t 3) (w.t 5)) w 1 6))) (w.a 2)) (w.a 3)) (crR (V := V) (vWh_3_6 O K q p (w.a 1) (w.a 2) (w.a 3) (w.t 0) (u 1)) w 4 6))))) (sT P b)) (w.t 26)) (frmO (fxZ P).N (fr13k K (kv21 K p 10) ++ (es18s K q 2 9 ++ es21 K p 10 ++ [(sWhole, (u 2), .ref (u 3)), (sHeld, (u 4), .ref (u 5))])) 17)))) (dctO (fxZ P).N [(sJ, (w.t 6), .int (Int.ofNat 0) (w.t 7))] 1))) (dctO (fxZ P).N [(sJ, (w.t 6), .int (Int.ofNat 0) (w.t 7))] 1)))))) (frmO (fxZ P).N (fr13k K (kv21 K p 10) ++ (es18s K q 2 9 ++ es21 K p 10 ++ [(sWhole, (u 2), .ref (w.a 2)), (sHeld, (u 4), .ref (u 5))])) 17))) (lstO (fxZ P).N (stV (whL K 6 4 (fun a => w.t (8 + a)) 0 1)) 1)) (lstO (fxZ P).N (stV (whL K 6 4 (fun a => w.t (8 + a)) 0 1)) 1)) (sT P b)) (crR (V := V) (vLit O (w.a 2) (stV (whL K 6 4 (fun a => w.t (8 + a)) 0 1)) 1) w 4 27)) (crN (V := V) (vLit O (w.a 2) (stV (whL K 6 4 (fun a => w.t (8 + a)) 0 1)) 1) w 4 27))) (w.a 5)) (w.a 6)) (crR (V := V) (vHd_3_6 O K (w.a 4) (w.a 5) (w.a 6) (w.a 2) (fun a => w.t (8 + a))) w 7 27))))) (sT P b)) (w.t 47)) (frmO (fxZ P).N (fr13k K (kv21 K p 10) ++ (es18s K q 2 9 ++ es21 K p 10 ++ [(sWhole, (u 2), .ref (w.a 2)), (sHeld, (u 4), .ref (u 5))])) 17)))) (dctO (fxZ P).N [(sPart, (w.t 27), lastV (whL K 6 4 (fun a => w.t (8 + a)) 0 1))] 1))) (dctO (fxZ P).N [(sPart, (w.t 27), lastV (whL K 6 4 (fun a => w.t (8 + a)) 0 1))] 1)))))) (frmO (fxZ P).N (fr13k K (kv21 K p 10) ++ (es18s K q 2 9 ++ es21 K p 10 ++ [(sWhole, (u 2), .ref (w.a 2)), (sHeld, (u 4), .ref (w.a 5))])) 17))) (celO (fxZ P).N (some (.int (Int.ofNat 3) (u 1))))) (w.t 48))) (sT P b)) (crR (V := V) (vIeq (Int.ofNat 3) (u 1) (Int.ofNat 9) (w.t 48) false rfl) w 7 49))) (frmO (fxZ P).N (fr13k K (kv21 K p 10) ++ (es18s K q 2 9 ++ es21 K p 10 ++ [(sWhole, (u 2), .ref (w.a 2)), (sHeld, (u 4), .ref (w.a 5))])) 17))))
    (l' := fun w => [((K.ad 0), frmO (fxZ P).N (fr13k K (kv21 K p 10) ++ (es18s K q 2 9 ++ es21 K p 10 ++ [(sWhole, (u 2), .ref (w.a 2)), (sHeld, (u 4), .ref (w.a 5))])) 17), ((K.ad 7), celO (fxZ P).N (some (.ref (K.ad 24)))), ((K.ad 8), celO (fxZ P).N (some (.ref (q 9)))), ((K.ad 9), celO (fxZ P).N (some (.int (Int.ofNat 6) (w.t 0)))), ((K.ad 11), celO (fxZ P).N (some (.int (Int.ofNat 3) (u 1)))), ((K.ad 24), dctO (fxZ P).N (gvL K.L K.tk (gt18 q) 9) 9), ((q 9), lstO (fxZ P).N (rowsV K p 10) 10), (it, rngO riZ 7 0), ((w.a 2), lstO (fxZ P).N (stV (whL K 6 4 (fun a => w.t (8 + a)) 0 1)) 1), ((w.a 5), lstO (fxZ P).N (stV (whL K 6 4 (fun a => w.t (8 + a)) 0 1)) 1), ((w.a 6), dctO (fxZ P).N [] 2)]) (ch' := fun _ => ch) (fun w => by kernel_rfl) (fun w => ?_)
  refine G.xStack hR (by kernel_rfl) (by kernel_rfl) fun st hst => ?_
  refine G.room2 rfl hst ?_
  refine seg O hR 57 [10,9,10,1,10,10,10,12,9999,14,14,14,3,4,5,7,7,7,7,7] [(0, ups [8,0], fun w2 => ⟨_, vLneR P (w.a 5) (w.a 2) (whL K 6 4 (fun a => w.t (8 + a)) 0 1) (whL K 6 4 (fun a => w.t (8 + a)) 0 1) 1 1 rfl⟩), (1, ups [1,3,3,1,0,0], fun w2 => ⟨_, vJc_3_6 O K hD hL q (w2.a 0) (w2.a 1) (w2.a 2) (w.a 5) (fun a => w.t (8 + a))⟩), (0, ups [12], fun w2 => ⟨_, vJ0 P (w2.t 0) (w2.a 1) (ltV K 9 0 1) 1 (lrow K 9 1) (lrow_cat0 _ _ _) (ltV_le _ _ _ _) (by rw [ltV_len]; decide)⟩), (2, ups [], fun w2 => ⟨_, vSne (lrow K 9 1) (w2.t 21) (lrow K 9 1) (rt K p 9) false (sne_same _)⟩)]
    (ups [0,0,0,0,0,0,0,0]) (c' := fun w2 => fl26 (lwZ P) K it) (t' := fun w2 => dn (fl26 (lwZ P) K it)) (l' := fun w2 => l26 (fxZ P) (lwZ P) K it q p (ovr u [(0, (w.t 0)), (3, (w.a 2)), (5, (w.a 5))]) false 6 3 7 7) (ch' := fun _ => ch) (fun w2 => ?_) (fun w2 => ?_)
  · kernel_rfl
  · exact H _
theorem i26_9_0 (O : VO V P b scr) {κ : Kont} (hR : Rm V κ 600) (ch : Ch) (K : Kn) (hD : Dist K.L) (hL : LucLaw K.X) (it : Addr) (q p u : Nat → Nat) (R : Lst) (H : ∀ u, G26 V P ch κ K it q p u false 0 9 1 1 R) : G26 V P ch κ K it q p u false 6 9 0 1 R := by
  unfold G26
  refine seg O hR 99 (hsD 36 1025720264122435344964373412922610116620268723398618268067899897301920973320) [(0, ups [7], fun w => ⟨_, vNx_0_0 O it⟩), (0, ups [], fun w => ⟨_, vIsub (Int.ofNat 10) (w.t 1) (Int.ofNat 0) (w.t 0) (Int.ofNat 10) rfl⟩), (0, ups [], fun w => ⟨_, vIsub (Int.ofNat 10) (w.t 2) (Int.ofNat 9) (u 1) (Int.ofNat 1) rfl⟩), (0, ups [], fun w => ⟨_, vRg O 1 (w.t 3)⟩), (0, ups [8], fun w => ⟨_, vRit_1 O (w.a 0) (w.t 4) (w.t 3) (w.t 5)⟩), (0, ups [2,0,0,1,2,0,0], fun w => ⟨_, vWh_9_0 O K q p (w.a 1) (w.a 2) (w.a 3) (w.t 0) (u 1)⟩), (0, ups [10], fun w => ⟨_, vLit O (w.a 2) (stV (whL K 0 10 (fun a => w.t (8 + a)) 0 1)) 1⟩), (0, ups [10,1,0,0], fun w => ⟨_, vHd_9_0 O K (w.a 4) (w.a 5) (w.a 6) (w.a 2) (fun a => w.t (8 + a))⟩), (0, ups [], fun w => ⟨_, vIeq (Int.ofNat 9) (u 1) (Int.ofNat 9) (w.t 48) true rfl⟩), (0, ups [10], fun w => ⟨_, vLit O (w.a 2) (stV (whL K 0 10 (fun a => w.t (8 + a)) 0 1)) 1⟩), (0, ups [10,4,0,0], fun w => ⟨_, vTr_9_0 O K (w.a 7) (w.a 8) (w.a 9) (w.a 2) (fun a => w.t (8 + a))⟩)] (ups [0,0,0,0,0,0,0,0,2,2,2,0]) (c' := fun w => fl26 (lwZ P) K it) (t' := fun w => (sk (sk (sk (kL (sk (kL (kC (kA (kA (kL (kC (kQ (kL (kL (sk (kL (sk (kC (kQ (sk (kA (kL (sk (kL (sk (sk (sk (sk (kL (sk (kL (sk (sk (kL (kA (kQ (sk (sk (sk (kC (kA (kA (sk (kL (kC (kQ (kL (kL (sk (kL (sk (sk (sk (sk (kL (sk (kL (sk (sk (kL (kA (kQ (sk (sk (sk (kC (kA (kA (sk (kL (kC (kQ (kL (kL (sk (sk (kC (sk (kC (sk (kL (sk (kC (sk (kL (sk (kA (kL (kL (sk (sk (sk (sk (kL (sk (sk (kC (kL (sk (dn (fl26 (lwZ P) K it))) (ob (l26 (fxZ P) (lwZ P) K it q p u false 6 9 0 1) 7)) (crR (V := V) (vNx_0_0 O it) w 0 0)))) (ob (l26 (fxZ P) (lwZ P) K it q p u false 6 9 0 1) 3)))))) (zo3 P)) (zo0 P)) (w.t 1))) (celO (fxZ P).N (some (.int (Int.ofNat 0) (w.t 0)))))) (crR (V := V) (vIsub (Int.ofNat 10) (w.t 1) (Int.ofNat 0) (w.t 0) (Int.ofNat 10) rfl) w 0 2))) (ob (l26 (fxZ P) (lwZ P) K it q p u false 6 9 0 1) 4))) (crR (V := V) (vIsub (Int.ofNat 10) (w.t 2) (Int.ofNat 9) (u 1) (Int.ofNat 1) rfl) w 0 3))) (crR (V := V) (vRg O 1 (w.t 3)) w 0 4)))) (crN (V := V) (vRg O 1 (w.t 3)) w 0 4)) (crN (V := V) (vRg O 1 (w.t 3)) w 0 4)) (sT P b)) (crR (V := V) (vRit_1 O (w.a 0) (w.t 4) (w.t 3) (w.t 5)) w 1 6)) (crN (V := V) (vRit_1 O (w.a 0) (w.t 4) (w.t 3) (w.t 5)) w 1 6))) (w.a 2)) (w.a 3)) (crR (V := V) (vWh_9_0 O K q p (w.a 1) (w.a 2) (w.a 3) (w.t 0) (u 1)) w 4 6))))) (sT P b)) (w.t 26)) (frmO (fxZ P).N (fr13k K (kv21 K p 10) ++ (es18s K q 2 9 ++ es21 K p 10 ++ [(sWhole, (u 2), .ref (u 3)), (sHeld, (u 4), .ref (u 5))])) 17)))) (dctO (fxZ P).N [(sJ, (w.t 6), .int (Int.ofNat 0) (w.t 7))] 1))) (dctO (fxZ P).N [(sJ, (w.t 6), .int (Int.ofNat 0) (w.t 7))] 1)))))) (frmO (fxZ P).N (fr13k K (kv21 K p 10) ++ (es18s K q 2 9 ++ es21 K p 10 ++ [(sWhole, (u 2), .ref (w.a 2)), (sHeld, (u 4), .ref (u 5))])) 17))) (lstO (fxZ P).N (stV (whL K 0 10 (fun a => w.t (8 + a)) 0 1)) 1)) (lstO (fxZ P).N (stV (whL K 0 10 (fun a => w.t (8 + a)) 0 1)) 1)) (sT P b)) (crR (V := V) (vLit O (w.a 2) (stV (whL K 0 10 (fun a => w.t (8 + a)) 0 1)) 1) w 4 27)) (crN (V := V) (vLit O (w.a 2) (stV (whL K 0 10 (fun a => w.t (8 + a)) 0 1)) 1) w 4 27))) (w.a 5)) (w.a 6)) (crR (V := V) (vHd_9_0 O K (w.a 4) (w.a 5) (w.a 6) (w.a 2) (fun a => w.t (8 + a))) w 7 27))))) (sT P b)) (w.t 47)) (frmO (fxZ P).N (fr13k K (kv21 K p 10) ++ (es18s K q 2 9 ++ es21 K p 10 ++ [(sWhole, (u 2), .ref (w.a 2)), (sHeld, (u 4), .ref (u 5))])) 17)))) (dctO (fxZ P).N [(sPart, (w.t 27), lastV (whL K 0 10 (fun a => w.t (8 + a)) 0 1))] 1))) (dctO (fxZ P).N [(sPart, (w.t 27), lastV (whL K 0 10 (fun a => w.t (8 + a)) 0 1))] 1)))))) (frmO (fxZ P).N (fr13k K (kv21 K p 10) ++ (es18s K q 2 9 ++ es21 K p 10 ++ [(sWhole, (u 2), .ref (w.a 2)), (sHeld, (u 4), .ref (w.a 5))])) 17))) (celO (fxZ P).N (some (.int (Int.ofNat 9) (u 1))))) (w.t 48))) (sT P b)) (crR (V := V) (vIeq (Int.ofNat 9) (u 1) (Int.ofNat 9) (w.t 48) true rfl) w 7 49))) (frmO (fxZ P).N (fr13k K (kv21 K p 10) ++ (es18s K q 2 9 ++ es21 K p 10 ++ [(sWhole, (u 2), .ref (w.a 2)), (sHeld, (u 4), .ref (w.a 5))])) 17))) (lstO (fxZ P).N (stV (whL K 0 10 (fun a => w.t (8 + a)) 0 1)) 1)) (lstO (fxZ P).N (stV (whL K 0 10 (fun a => w.t (8 + a)) 0 1)) 1)) (sT P b)) (crR (V := V) (vLit O (w.a 2) (stV (whL K 0 10 (fun a => w.t (8 + a)) 0 1)) 1) w 7 49)) (crN (V := V) (vLit O (w.a 2) (stV (whL K 0 10 (fun a => w.t (8 + a)) 0 1)) 1) w 7 49)) (w.a 8)) (w.a 9)) (crR (V := V) (vTr_9_0 O K (w.a 7) (w.a 8) (w.a 9) (w.a 2) (fun a => w.t (8 + a))) w 10 49)) (dctO (fxZ P).N [(sPart, (w.t 49), lastV (whL K 0 10 (fun a => w.t (8 + a)) 0 1))] 1))) (dctO (fxZ P).N [(sPart, (w.t 49), lastV (whL K 0 10 (fun a => w.t (8 + a)) 0 1))] 1))))))
    (l' := fun w => [((K.ad 0), frmO (fxZ P).N (fr13k K (kv21 K p 10) ++ (es18s K q 2 9 ++ es21 K p 10 ++ [(sWhole, (u 2), .ref (w.a 2)), (sHeld, (u 4), .ref (w.a 5))])) 17), ((K.ad 7), celO (fxZ P).N (some (.ref (K.ad 24)))), ((K.ad 8), celO (fxZ P).N (some (.ref (q 9)))), ((K.ad 9), celO (fxZ P).N (some (.int (Int.ofNat 0) (w.t 0)))), ((K.ad 11), celO (fxZ P).N (some (.int (Int.ofNat 9) (u 1)))), ((K.ad 24), dctO (fxZ P).N (gvL K.L K.tk (gt18 q) 9) 9), ((q 9), lstO (fxZ P).N (rowsV K p 10) 10), (it, rngO riZ 1 0), ((w.a 2), lstO (fxZ P).N (stV (whL K 0 10 (fun a => w.t (8 + a)) 0 1)) 1), ((w.a 5), lstO (fxZ P).N (stV (cramL K (w.t 28))) 1), ((w.a 8), lstO (fxZ P).N (stV (cramL K (w.t 50))) 1), ((w.a 9), dctO (fxZ P).N [] 2)]) (ch' := fun _ => ch) (fun w => by kernel_rfl) (fun w => ?_)
  refine G.xStack hR (by kernel_rfl) (by kernel_rfl) fun st hst => ?_
  refine G.room2 rfl hst ?_
  refine seg O hR 57 [10,11,10,1,10,10,10,13,9999,15,15,15,3,4,5,7,7,7,7,7] [(0, ups [9,0], fun w2 => ⟨_, vLne P (w.a 5) (w.a 8) (cramL K (w.t 28)) (cramL K (w.t 50)) 1 1 rfl⟩), (1, ups [1,3,3,2,0,0], fun w2 => ⟨_, vJc_9_0 O K hD hL q (w2.a 0) (w2.a 1) (w2.a 2) (w.a 5) (fun _ => (w.t 28))⟩), (0, ups [13], fun w2 => ⟨_, vJ0 P (w2.t 0) (w2.a 1) (ltV K 9 0 1) 1 (lrow K 9 1) (lrow_cat0 _ _ _) (ltV_le _ _ _ _) (by rw [ltV_len]; decide)⟩), (2, ups [], fun w2 => ⟨_, vSne (lrow K 9 1) (w2.t 21) (lrow K 9 1) (rt K p 9) false (sne_same _)⟩)]
    (ups [0,0,0,0,0,0,0,0]) (c' := fun w2 => fl26 (lwZ P) K it) (t' := fun w2 => dn (fl26 (lwZ P) K it)) (l' := fun w2 => l26 (fxZ P) (lwZ P) K it q p (ovr u [(0, (w.t 0)), (3, (w.a 2)), (5, (w.a 5))]) false 0 9 1 1) (ch' := fun _ => ch) (fun w2 => ?_) (fun w2 => ?_)
  · kernel_rfl
  · exact H _
end
end Mine
namespace Mine
open PySem PySem.W PySem.W.X PySem.Spec PySem.Calls PyProof.Rows
noncomputable def cInL (Q : Fx) (W : Lw) (K : Kn) (it : Addr) (q p u : Nat → Nat) (fst : Bool) (pm lp n : Nat) : Con := ⟨fl26 W K it, l26 Q W K it q p u fst pm lp 0 n, 0,90,
  fun _ θ => objsOf (l26 Q W K it q p θ false (n - 1) lp n n), fun _ _ => [], fun _ _ => .ok .next, 600⟩
noncomputable def c26 (u : Nat → Nat) (i : Nat) : Option Value := match i with
  | 0 => none
  | 1 => some (.int (Int.ofNat 3) (u 1))
  | _ + 2 => some (.int (Int.ofNat 9) (u 1))
noncomputable def pm26 (i : Nat) : Nat := match i with
  | 0 => 9
  | 1 => 6
  | _ + 2 => 0
noncomputable def l26p (Q : Fx) (W : Lw) (li : String) (K : Kn) (it la : Addr) (e0 e1 : Tok) (q p u : Nat → Nat) (i : Nat) : Lst :=
  [(K.ad 0, fr26 Q K q p u (Nat.beq i 0)), (K.ad 7, celO Q.N (some (.ref (K.ad 24)))), (K.ad 8, celO Q.N (some (.ref (q 9)))), (K.ad 9, celO Q.N (some (.int (Int.ofNat (pm26 i)) (u 0)))), (K.ad 11, celO Q.N (c26 u i)),
   (K.ad 24, dctO Q.N (gvL K.L K.tk (gt18 q) 9) 9), (q 9, lstO Q.N (rowsV K p 10) 10), (la, lstO Q.N [.int (Int.ofNat 3) e0, .int (Int.ofNat 9) e1] 0), (it, liO li la i)]
end Mine
namespace Mine
open PySem PySem.W PySem.W.X PySem.Spec PySem.Calls PyProof.Rows
section
variable {V : XV} {P : Params} {b : Bool} {scr : Obj}
theorem e26 (O : VO V P b scr) {κ : Kont} (hR : Rm V κ 600) (ch : Ch) (K : Kn) (it : Addr) (q p u : Nat → Nat) (fst : Bool) (pm lp : Nat) (R : Lst) : ∀ n, n = 7 ∨ n = 1 → Rr V ch κ (.ok .next) (l26 (fxZ P) (lwZ P) K it q p u fst pm lp n n ++ R) → G26 V P ch κ K it q p u fst pm lp n n R
  | 7, _, H => segR O hR 15 [8,8,8,8,8,10] [] (ups [0,0,0,0,0,0,0,0]) (r := fun w => .ok .next) (l' := fun w => l26 (fxZ P) (lwZ P) K it q p u fst pm lp 7 7) (ch' := fun _ => ch) (fun w => by kernel_rfl) fun w => H
  | 1, _, H => segR O hR 15 [8,8,8,8,8,10] [] (ups [0,0,0,0,0,0,0,0]) (r := fun w => .ok .next) (l' := fun w => l26 (fxZ P) (lwZ P) K it q p u fst pm lp 1 1) (ch' := fun _ => ch) (fun w => by kernel_rfl) fun w => H
  | 0, h, _ => absurd h (by decide)
  | 2, h, _ => absurd h (by decide)
  | 3, h, _ => absurd h (by decide)
  | 4, h, _ => absurd h (by decide)
  | 5, h, _ => absurd h (by decide)
  | 6, h, _ => absurd h (by decide)
  | n + 8, h, _ => absurd h (by omega)
theorem vInL3 (O : VO V P b scr) (K : Kn) (hD : Dist K.L) (hL : LucLaw K.X) (it : Addr) (q p u : Nat → Nat) : Valid V (cInL (fxZ P) (lwZ P) K it q p u true 9 3 7) := by
  intro ch c κ R g lv k hR H
  refine G.call ?_
  refine i26_3_0 O hR ch K hD hL it q p u R fun v => i26_3_1 O hR ch K hD hL it q p v R fun v => i26_3_2 O hR ch K hD hL it q p v R fun v => i26_3_3 O hR ch K hD hL it q p v R fun v => i26_3_4 O hR ch K hD hL it q p v R fun v => i26_3_5 O hR ch K hD hL it q p v R fun v => i26_3_6 O hR ch K hD hL it q p v R fun v => ?_
  refine e26 O hR ch K it q p v false 6 3 R 7 (.inl rfl) (Rr.ret ?_)
  have z := H (fun _ => 0) (tOf9 v) (fun _ _ => rfl) (tOf9_out v)
  have e : reput (cInL (fxZ P) (lwZ P) K it q p u true 9 3 7).foot ((cInL (fxZ P) (lwZ P) K it q p u true 9 3 7).post (fun _ => 0) (tOf9 v)) ++ newL (fun _ => 0) 0 ((cInL (fxZ P) (lwZ P) K it q p u true 9 3 7).new (fun _ => 0) (tOf9 v)) = l26 (fxZ P) (lwZ P) K it q p v false 6 3 7 7 := by kernel_rfl
  rw [e] at z
  exact z
theorem vInL9 (O : VO V P b scr) (K : Kn) (hD : Dist K.L) (hL : LucLaw K.X) (it : Addr) (q p u : Nat → Nat) : Valid V (cInL (fxZ P) (lwZ P) K it q p u false 6 9 1) := by
  intro ch c κ R g lv k hR H
  refine G.call ?_
  refine i26_9_0 O hR ch K hD hL it q p u R fun v => ?_
  refine e26 O hR ch K it q p v false 0 9 R 1 (.inr rfl) (Rr.ret ?_)
  have z := H (fun _ => 0) (tOf9 v) (fun _ _ => rfl) (tOf9_out v)
  have e : reput (cInL (fxZ P) (lwZ P) K it q p u false 6 9 1).foot ((cInL (fxZ P) (lwZ P) K it q p u false 6 9 1).post (fun _ => 0) (tOf9 v)) ++ newL (fun _ => 0) 0 ((cInL (fxZ P) (lwZ P) K it q p u false 6 9 1).new (fun _ => 0) (tOf9 v)) = l26 (fxZ P) (lwZ P) K it q p v false 0 9 1 1 := by kernel_rfl
  rw [e] at z
  exact z
noncomputable def G26o (V : XV) (P : Params) (ch : Ch) (κ : Kont) (K : Kn) (it la : Addr) (e0 e1 : Tok) (q p u : Nat → Nat) (i : Nat) (R : Lst) : Prop :=
  G V ch (fl26o (lwZ P) K it) κ (dn (fl26o (lwZ P) K it)) (l26p (fxZ P) (lwZ P) liZ K it la e0 e1 q p u i ++ R)
theorem o26_0 (O : VO V P b scr) {κ : Kont} (hR : Rm V κ 500) (ch : Ch) (K : Kn) (hD : Dist K.L) (hL : LucLaw K.X) (it la : Addr) (e0 e1 : Tok) (q p u : Nat → Nat) (R : Lst) (H : ∀ u, G26o V P ch κ K it la e0 e1 q p u 1 R) : G26o V P ch κ K it la e0 e1 q p u 0 R :=
  seg O hR 62 [9,9,9,9,8,9,9,5,5,0,0,5,10,10,10,10,10,10,10,10,10,10,11]
    [(6, ups [0,0,0,0,0,0,0,3], fun w => ⟨_, vInL3 O K hD hL (w.a 1) q p (ovr u [(1, e0)])⟩)] (ups [0,0,0,0,0,0,0,0,0])
    (c' := fun w => fl26o (lwZ P) K it) (t' := fun w => dn (fl26o (lwZ P) K it)) (l' := fun w => l26p (fxZ P) (lwZ P) liZ K it la e0 e1 q p (cut w.t 4 90) 1) (ch' := fun _ => ch)
    (fun w => by kernel_rfl) fun w => H _
theorem o26_1 (O : VO V P b scr) {κ : Kont} (hR : Rm V κ 500) (ch : Ch) (K : Kn) (hD : Dist K.L) (hL : LucLaw K.X) (it la : Addr) (e0 e1 : Tok) (q p u : Nat → Nat) (R : Lst) (H : ∀ u, G26o V P ch κ K it la e0 e1 q p u 2 R) : G26o V P ch κ K it la e0 e1 q p u 1 R :=
  seg O hR 62 [9,9,9,9,8,9,9,5,5,0,0,5,10,10,10,10,10,10,10,10,10,10,11]
    [(6, ups [0,0,0,0,0,0,0,3], fun w => ⟨_, vInL9 O K hD hL (w.a 1) q p (ovr u [(1, e1)])⟩)] (ups [0,0,0,0,0,0,0,0,0])
    (c' := fun w => fl26o (lwZ P) K it) (t' := fun w => dn (fl26o (lwZ P) K it)) (l' := fun w => l26p (fxZ P) (lwZ P) liZ K it la e0 e1 q p (cut w.t 4 90) 2) (ch' := fun _ => ch)
    (fun w => by kernel_rfl) fun w => H _
noncomputable def l26e (Q : Fx) (li : String) (K : Kn) (it la : Addr) (e0 e1 : Tok) (q p u : Nat → Nat) : Lst :=
  [(K.ad 0, fr26 Q K q p u false), (K.ad 7, celO Q.N (some (.ref (K.ad 24)))), (K.ad 8, celO Q.N (some (.ref (q 9)))), (K.ad 9, celO Q.N (some (.int (Int.ofNat 0) (u 0)))), (K.ad 11, celO Q.N (some (.int (Int.ofNat 9) (u 1)))),
   (K.ad 24, dctO Q.N (gvL K.L K.tk (gt18 q) 9) 9), (q 9, lstO Q.N (rowsV K p 10) 10), (la, lstO Q.N [.int (Int.ofNat 3) e0, .int (Int.ofNat 9) e1] 0), (it, liE li 2)]
theorem o26_2 (O : VO V P b scr) {κ : Kont} (hR : Rm V κ 500) (ch : Ch) (K : Kn) (it la : Addr) (e0 e1 : Tok) (q p u : Nat → Nat) (R : Lst) (H : Rr V ch κ (.ok .next) (l26e (fxZ P) liZ K it la e0 e1 q p u ++ R)) : G26o V P ch κ K it la e0 e1 q p u 2 R :=
  segR O hR 17 [9,9,9,9,8,9,9,11] [] (ups [0,0,0,0,0,0,0,0,0]) (r := fun w => .ok .next) (l' := fun w => l26e (fxZ P) liZ K it la e0 e1 q p u) (ch' := fun _ => ch) (fun w => by kernel_rfl) fun w => H
noncomputable def cLps (Q : Fx) (W : Lw) (li : String) (K : Kn) (it la : Addr) (e0 e1 : Tok) (q p u : Nat → Nat) : Con := ⟨fl26o W K it, l26p Q W li K it la e0 e1 q p u 0,0,90,
  fun _ θ => objsOf (l26e Q li K it la e0 e1 q p θ), fun _ _ => [], fun _ _ => .ok .next, 500⟩
theorem vLps (O : VO V P b scr) (K : Kn) (hD : Dist K.L) (hL : LucLaw K.X) (it la : Addr) (e0 e1 : Tok) (q p u : Nat → Nat) : Valid V (cLps (fxZ P) (lwZ P) liZ K it la e0 e1 q p u) := by
  intro ch c κ R g lv k hR H
  refine G.call ?_
  refine o26_0 O hR ch K hD hL it la e0 e1 q p u R fun v => o26_1 O hR ch K hD hL it la e0 e1 q p v R fun v => ?_
  refine o26_2 O hR ch K it la e0 e1 q p v R (Rr.ret ?_)
  have z := H (fun _ => 0) (tOf9 v) (fun _ _ => rfl) (tOf9_out v)
  have e : reput (cLps (fxZ P) (lwZ P) liZ K it la e0 e1 q p u).foot ((cLps (fxZ P) (lwZ P) liZ K it la e0 e1 q p u).post (fun _ => 0) (tOf9 v)) ++ newL (fun _ => 0) 0 ((cLps (fxZ P) (lwZ P) liZ K it la e0 e1 q p u).new (fun _ => 0) (tOf9 v)) = l26e (fxZ P) liZ K it la e0 e1 q p v := by kernel_rfl
  rw [e] at z
  exact z
end
end Mine
namespace Mine
open PySem PySem.W PySem.W.X PySem.Spec PySem.Calls PyProof.Rows
section
variable {V : XV} {P : Params} {b : Bool} {scr : Obj}
theorem sF26 (O : VO V P b scr) {κ : Kont} (hR : Rm V κ 400) (K : Kn) (hD : Dist K.L) (hL : LucLaw K.X) (q p : Nat → Nat) (t1 : Tok) (fv : Option Value) (R : Lst)
    (H : ∀ u, LG V P κ R (chR K.r) (lH (fxZ P) K q p (es26 u false) 17 (some (.int (Int.ofNat 0) (u 0))) fv (some (.int (Int.ofNat 9) (u 1))) []) 27) :
    LG V P κ R (chR K.r) (lH (fxZ P) K q p [] 15 (some (.int (Int.ofNat 9) t1)) fv none []) 26 :=
  segL O hR 16 [16,16,16,17]
    [(1, ups [0,6,0,0,1,0,1,0,0], fun w => ⟨_, vLps O K hD hL (w.a 1) (w.a 0) (w.t 0) (w.t 1) q p (ovr (fun _ => 0) [(0, t1)])⟩)]
    (ups [0,0,0,0,0,0,0,0,0,0,0,0,0,0,0]) (fun w => lH (fxZ P) K q p (es26 (cut w.t 2 90) false) 17 (some (.int (Int.ofNat 0) (w.t 2))) fv (some (.int (Int.ofNat 9) (w.t 3))) []) 27 (fun w => chR K.r) (fun w => by kernel_rfl) fun w => H _
end
end Mine
namespace Mine
open PySem PySem.W PySem.W.X PySem.Spec PySem.Calls PyProof.Rows
noncomputable def sSides : List Nat := [115,105,100,101,115]
noncomputable def sdr (K : Kn) (m : Nat) : Nat → Nat → List Nat
  | _, 0 => []
  | r, n + 1 => K.L (Dh K.X r m) :: sdr K m (r - 1) n
noncomputable def sd (K : Kn) (m : Nat) : List Nat := sdr K m (9 - m) (10 - m)
noncomputable def sdsL (K : Kn) (T : Nat → Tok) : List (List Nat × Tok) := [(sd K 0, T 0), (sd K 1, T 1), (sd K 2, T 2), (sd K 3, T 3), (sd K 4, T 4), (sd K 5, T 5), (sd K 6, T 6), (sd K 7, T 7), (sd K 8, T 8), (sd K 9, T 9)]
noncomputable def l28 (Q : Fx) (K : Kn) (q p u v : Nat → Nat) (c9 c10 c11 : Option Value) : Lst :=
  lH Q K q p (es26 u false ++ [(sSides, v 0, .ref (v 1))]) 18 c9 c10 c11 [(v 1, lstO Q.N (stV (sdsL K (fun a => v (2 + a)))) 10)]
end Mine
namespace Mine
open PySem PySem.W PySem.W.X PySem.Spec PySem.Calls PyProof.Rows
section
variable {V : XV} {P : Params} {b : Bool} {scr : Obj}
theorem sF27 (O : VO V P b scr) {κ : Kont} (hR : Rm V κ 400) (K : Kn) (q p u : Nat → Nat) (c9 c10 c11 : Option Value) (R : Lst)
    (H : ∀ v, LG V P κ R (chR K.r) (l28 (fxZ P) K q p u v c9 c10 c11) 28) :
    LG V P κ R (chR K.r) (lH (fxZ P) K q p (es26 u false) 17 c9 c10 c11 []) 27 :=
  segL O hR 4466 (hsD 1732 385471354781598323249283372246198746097881993281224969491306244962375955598079871064823826562245818730866748300274290402748424677658759890912930243804139878559360043955737835070596709162338821101925119777197461139660936610801599960926180677249480717135116781249576556880712169545848545511714409637579924560826131546612694999806471774910558974478759025816307439432739742384871606053102627967225612488330926092446277959472941445551990654499012420163111967712900109051839326256291290661985606248827989205820610615196595587134605105517954861538871520739713437399013016417352767454817359078262330050112849284324694703213333254185589079955991135446844297106304504752063617832505493325890962013318671174823160821678761736841796479146993370552812476944130745490437562637202940229412612871191619100718443603909009023717699807145939592705729243182341096862030414210299895023364115278248395384899159958684548597424128970859386933303157161903014484744434836416222990083210132162326936142194169460716054555860697407153621259459397673032906120947161782120294792845690411637054436113911149560461934738911999482198949059856234436566154860390958772001671765958113461717962841599996649200800564467697525578815433330127887219892506991213818495253502378257284326115337794345838663849663802990646512831883261550101770275952865124625280778314930500243556898073489201407753548459278962459456668572679410989039841806020180889655822955830829233599348200748680474714165917163628243524587085393960774130617852137157974402279549022487469502110568296034833778493871432100971535799952875705839903490204067888586982634677032556326277314670140440653207980211967513534851759421942024991300070461366415094971389454894747178173095417468524137368086056500763514624147734341225271604595130019719759785739961347112848952041295781644724920050816399228811205782301647692308127005519281449805693619935963360184467361012634049193685027572381995865190698140666312691277272578617743856694955783016541224309450743830925103910249827705159325564755848701128718153222677329115418129448159411743606109311470450938329770546567663354401503739982555465703726105867485410888822979584722302530489699288202383301463269576833562287849699255803273860783636867868014389505860417208746652153245199443361357686548882272544211553124402640835717010016305756470855598315379969552339833506950841241069813073628823335635766517517506264471528746599520310946834814281045464085176600819293115103310535901595364091135883286584994042869269882176454057740966203068327956149352540900709488998544055618926553700586470899188916217863847330062826997308972979004173743656036815576424561408531664229945194846444064248976266518248945266363904252287819109877357509268106552345736406792507841030746768877787372586161499963458913187682234461250222906064669317653065136199221980095632732626278744590113919444552826739448208222457496023056463626896951272264048097440386692668946262496096729372465150941316333448746982073847802115836693262951466109411598373480590733858116245022478991033885003904546087273778046904559616569501154722780644554992881531889383555748440968211817003526338711412763733892648473339298159046722397885811949874083247249761619983334884047237185231438678826976346478769594564399555182408110050244445243108390508575230250235009313277006355923011164791586139473719825114774430251509627577660818426196553590246516192287225205173462190319525619719038318866095222618922887389011108558321078435246288271677112179981587092510780589386724387560945296442303216658355256226788844135074015030430688101776708462293073620065835655454113004689378360928077176250828729165672061652129328180624554319560464590318717144664375296)
    [(71, ups [22], fun w => ⟨_, vJ0 P (w.t 4) (w.a 7) [([K.L (Dh K.X 9 0)], (w.t 14)), ([K.L (Dh K.X 8 0)], (w.t 20)), ([K.L (Dh K.X 7 0)], (w.t 26)), ([K.L (Dh K.X 6 0)], (w.t 32)), ([K.L (Dh K.X 5 0)], (w.t 38)), ([K.L (Dh K.X 4 0)], (w.t 44)), ([K.L (Dh K.X 3 0)], (w.t 50)), ([K.L (Dh K.X 2 0)], (w.t 56)), ([K.L (Dh K.X 1 0)], (w.t 62)), ([K.L (Dh K.X 0 0)], (w.t 68))] 10 (sd K 0) rfl (by simp) (by simp)⟩), (62, ups [28], fun w => ⟨_, vJ0 P (w.t 71) (w.a 13) [([K.L (Dh K.X 8 1)], (w.t 81)), ([K.L (Dh K.X 7 1)], (w.t 87)), ([K.L (Dh K.X 6 1)], (w.t 93)), ([K.L (Dh K.X 5 1)], (w.t 99)), ([K.L (Dh K.X 4 1)], (w.t 105)), ([K.L (Dh K.X 3 1)], (w.t 111)), ([K.L (Dh K.X 2 1)], (w.t 117)), ([K.L (Dh K.X 1 1)], (w.t 123)), ([K.L (Dh K.X 0 1)], (w.t 129))] 9 (sd K 1) rfl (by simp) (by simp)⟩), (56, ups [34], fun w => ⟨_, vJ0 P (w.t 132) (w.a 19) [([K.L (Dh K.X 7 2)], (w.t 142)), ([K.L (Dh K.X 6 2)], (w.t 148)), ([K.L (Dh K.X 5 2)], (w.t 154)), ([K.L (Dh K.X 4 2)], (w.t 160)), ([K.L (Dh K.X 3 2)], (w.t 166)), ([K.L (Dh K.X 2 2)], (w.t 172)), ([K.L (Dh K.X 1 2)], (w.t 178)), ([K.L (Dh K.X 0 2)], (w.t 184))] 8 (sd K 2) rfl (by simp) (by simp)⟩), (50, ups [40], fun w => ⟨_, vJ0 P (w.t 187) (w.a 25) [([K.L (Dh K.X 6 3)], (w.t 197)), ([K.L (Dh K.X 5 3)], (w.t 203)), ([K.L (Dh K.X 4 3)], (w.t 209)), ([K.L (Dh K.X 3 3)], (w.t 215)), ([K.L (Dh K.X 2 3)], (w.t 221)), ([K.L (Dh K.X 1 3)], (w.t 227)), ([K.L (Dh K.X 0 3)], (w.t 233))] 7 (sd K 3) rfl (by simp) (by simp)⟩), (44, ups [46], fun w => ⟨_, vJ0 P (w.t 236) (w.a 31) [([K.L (Dh K.X 5 4)], (w.t 246)), ([K.L (Dh K.X 4 4)], (w.t 252)), ([K.L (Dh K.X 3 4)], (w.t 258)), ([K.L (Dh K.X 2 4)], (w.t 264)), ([K.L (Dh K.X 1 4)], (w.t 270)), ([K.L (Dh K.X 0 4)], (w.t 276))] 6 (sd K 4) rfl (by simp) (by simp)⟩), (38, ups [52], fun w => ⟨_, vJ0 P (w.t 279) (w.a 37) [([K.L (Dh K.X 4 5)], (w.t 289)), ([K.L (Dh K.X 3 5)], (w.t 295)), ([K.L (Dh K.X 2 5)], (w.t 301)), ([K.L (Dh K.X 1 5)], (w.t 307)), ([K.L (Dh K.X 0 5)], (w.t 313))] 5 (sd K 5) rfl (by simp) (by simp)⟩), (32, ups [58], fun w => ⟨_, vJ0 P (w.t 316) (w.a 43) [([K.L (Dh K.X 3 6)], (w.t 326)), ([K.L (Dh K.X 2 6)], (w.t 332)), ([K.L (Dh K.X 1 6)], (w.t 338)), ([K.L (Dh K.X 0 6)], (w.t 344))] 4 (sd K 6) rfl (by simp) (by simp)⟩), (26, ups [64], fun w => ⟨_, vJ0 P (w.t 347) (w.a 49) [([K.L (Dh K.X 2 7)], (w.t 357)), ([K.L (Dh K.X 1 7)], (w.t 363)), ([K.L (Dh K.X 0 7)], (w.t 369))] 3 (sd K 7) rfl (by simp) (by simp)⟩), (20, ups [70], fun w => ⟨_, vJ0 P (w.t 372) (w.a 55) [([K.L (Dh K.X 1 8)], (w.t 382)), ([K.L (Dh K.X 0 8)], (w.t 388))] 2 (sd K 8) rfl (by simp) (by simp)⟩), (14, ups [76], fun w => ⟨_, vJ0 P (w.t 391) (w.a 61) [([K.L (Dh K.X 0 9)], (w.t 401))] 1 (sd K 9) rfl (by simp) (by simp)⟩)]
    (ups [0,0,0,0,0,0,0,0,0,0,0,0,0,0,0,2]) (fun w => l28 (fxZ P) K q p u (ovr (fun _ => 0) [(0, w.t 403), (1, w.a 2), (2, w.t 69), (3, w.t 130), (4, w.t 185), (5, w.t 234), (6, w.t 277), (7, w.t 314), (8, w.t 345), (9, w.t 370), (10, w.t 389), (11, w.t 402)]) c9 c10 c11) 28 (fun w => chR K.r) (fun w => by kernel_rfl) fun w => H _
end
end Mine
namespace Mine
open PySem PySem.W PySem.W.X PySem.Spec PySem.Calls PyProof.Rows
noncomputable def sPage : List Nat := [112,97,103,101]
noncomputable def lns (K : Kn) (m : Nat) : Nat → Nat → List (List Nat)
  | _, 0 => []
  | r, n + 1 => [K.L (Dh K.X r m), K.L (Dh K.X (r - 1) m), 10] :: lns K m (r - 1) n
noncomputable def pgs (K : Kn) : List (List Nat) := lns K 0 9 9 ++ (lns K 1 8 8 ++ (lns K 2 7 7 ++ (lns K 3 6 6 ++ (lns K 4 5 5 ++ (lns K 5 4 4 ++ (lns K 6 3 3 ++ (lns K 7 2 2 ++ lns K 8 1 1)))))))
noncomputable def l29 (Q : Fx) (K : Kn) (q p u v : Nat → Nat) (c9 c10 c11 : Option Value) (pk pt : Tok) : Lst :=
  lH Q K q p (es26 u false ++ [(sSides, v 0, .ref (v 1)), (sPage, pk, .str ⟨⟨(pgs K).flatten⟩⟩ pt)]) 19 c9 c10 c11 [(v 1, lstO Q.N (stV (sdsL K (fun a => v (2 + a)))) 10)]
end Mine
namespace Mine
open PySem PySem.W PySem.W.X PySem.Spec PySem.Calls PyProof.Rows
section
variable {V : XV} {P : Params} {b : Bool} {scr : Obj}
theorem sF28 (O : VO V P b scr) {κ : Kont} (hR : Rm V κ 400) (K : Kn) (q p u v : Nat → Nat) (c9 c10 c11 : Option Value) (R : Lst)
    (H : ∀ pk pt, LG V P κ R (chR K.r) (l29 (fxZ P) K q p u v c9 c10 c11 pk pt) 29) :
    LG V P κ R (chR K.r) (l28 (fxZ P) K q p u v c9 c10 c11) 28 :=
  segL O hR 3586 (hsD 1332 501594445108648603902030596460075578549311726970183287078777581894134662058723149734183266127279308641881051062248306407642428205926085442511378370097972824270184819813510808445816198881904652194526653669851440322420399411658802501932718439504403317621468414956374286397404537166108101131601847643154931004333103620669460003330827592138550679677391572571799580756543704390500602133266533993014354873428795577625984469204308828712654609886204542528707221151148598550184007265415913141609726663109180774808601937093925157479129335135323070768706301585030474474708693102624865496300531300719193995127839587501531108592336969971244246746364572170535200884968280463920992482555867976315717941242971974633270127121614616480661463380033920994232853826538559026745638223761373508916978493336881692590860966453325256311912409941869949950002817700287649770918672192929505516245872591791636251645734101250320950692414721429258631231469602706144857460258344642097037961981783262624473080310609763901968278605362683112040919888755435260708459157475740661251297194838914931272337439945862045435966240894336085029148016332990673682645504285220256860931725131893768319822934405798787109688774184377712462795215293815750575984211539035209203201608740050271380467807657639757321796374962468658970429004861679910058665969500364470384320785608681202042070983994003947683256711378319111177380086845321698128507094587875938947578633669968177120028628719863001579242196136090253440474483603809251392765726236003107752730459297438324847527440520745629910624435441694259446554833492954971157937756395444541245835816270538296073042468168160967022346070461800790528092037191071206356074894140885917346311898983611899297625522636046369388398094501014421785810351833194645071834104548378766989007891324003913093669973749778726369742581090306805398739396458011755403379094524063624981071858896096651771696936572913283564236114036128411140299397722278786457419357905515886102754433794983907968892792374129312754121001544029005169564608462577361639672354236379736174692800523312725334861832520080055207768529762623064832149086862777452000149133160801804960392900888184740073354226878241598726744182671166339453379113369891952756454999635094156409027520062567002883951270026108782409024820440629039431422075695364262666538931627530854670712656359039421641611111851496493923386985383716473386597846140816237941343831946059578655496157189706543930615271440427583455659003779791844786691919502776584438009217443601609750911624914110995111348369671618319613940970531535108865147642650390601352376657831928822316764836758068104044674358605308855690321541228906886989925910468028560831007611683075183380152780957393823224788251225726146721056828358316082715455822844431203272125268580352582344941478994105409323703530904973677368351975977256961)
    [(317, ups [17], fun w => ⟨_, vJ0 P (w.t 0) (w.a 1) [([K.L (Dh K.X 9 0), K.L (Dh K.X 8 0), 10], (w.t 14)), ([K.L (Dh K.X 8 0), K.L (Dh K.X 7 0), 10], (w.t 21)), ([K.L (Dh K.X 7 0), K.L (Dh K.X 6 0), 10], (w.t 28)), ([K.L (Dh K.X 6 0), K.L (Dh K.X 5 0), 10], (w.t 35)), ([K.L (Dh K.X 5 0), K.L (Dh K.X 4 0), 10], (w.t 42)), ([K.L (Dh K.X 4 0), K.L (Dh K.X 3 0), 10], (w.t 49)), ([K.L (Dh K.X 3 0), K.L (Dh K.X 2 0), 10], (w.t 56)), ([K.L (Dh K.X 2 0), K.L (Dh K.X 1 0), 10], (w.t 63)), ([K.L (Dh K.X 1 0), K.L (Dh K.X 0 0), 10], (w.t 70)), ([K.L (Dh K.X 8 1), K.L (Dh K.X 7 1), 10], (w.t 84)), ([K.L (Dh K.X 7 1), K.L (Dh K.X 6 1), 10], (w.t 91)), ([K.L (Dh K.X 6 1), K.L (Dh K.X 5 1), 10], (w.t 98)), ([K.L (Dh K.X 5 1), K.L (Dh K.X 4 1), 10], (w.t 105)), ([K.L (Dh K.X 4 1), K.L (Dh K.X 3 1), 10], (w.t 112)), ([K.L (Dh K.X 3 1), K.L (Dh K.X 2 1), 10], (w.t 119)), ([K.L (Dh K.X 2 1), K.L (Dh K.X 1 1), 10], (w.t 126)), ([K.L (Dh K.X 1 1), K.L (Dh K.X 0 1), 10], (w.t 133)), ([K.L (Dh K.X 7 2), K.L (Dh K.X 6 2), 10], (w.t 147)), ([K.L (Dh K.X 6 2), K.L (Dh K.X 5 2), 10], (w.t 154)), ([K.L (Dh K.X 5 2), K.L (Dh K.X 4 2), 10], (w.t 161)), ([K.L (Dh K.X 4 2), K.L (Dh K.X 3 2), 10], (w.t 168)), ([K.L (Dh K.X 3 2), K.L (Dh K.X 2 2), 10], (w.t 175)), ([K.L (Dh K.X 2 2), K.L (Dh K.X 1 2), 10], (w.t 182)), ([K.L (Dh K.X 1 2), K.L (Dh K.X 0 2), 10], (w.t 189)), ([K.L (Dh K.X 6 3), K.L (Dh K.X 5 3), 10], (w.t 203)), ([K.L (Dh K.X 5 3), K.L (Dh K.X 4 3), 10], (w.t 210)), ([K.L (Dh K.X 4 3), K.L (Dh K.X 3 3), 10], (w.t 217)), ([K.L (Dh K.X 3 3), K.L (Dh K.X 2 3), 10], (w.t 224)), ([K.L (Dh K.X 2 3), K.L (Dh K.X 1 3), 10], (w.t 231)), ([K.L (Dh K.X 1 3), K.L (Dh K.X 0 3), 10], (w.t 238)), ([K.L (Dh K.X 5 4), K.L (Dh K.X 4 4), 10], (w.t 252)), ([K.L (Dh K.X 4 4), K.L (Dh K.X 3 4), 10], (w.t 259)), ([K.L (Dh K.X 3 4), K.L (Dh K.X 2 4), 10], (w.t 266)), ([K.L (Dh K.X 2 4), K.L (Dh K.X 1 4), 10], (w.t 273)), ([K.L (Dh K.X 1 4), K.L (Dh K.X 0 4), 10], (w.t 280)), ([K.L (Dh K.X 4 5), K.L (Dh K.X 3 5), 10], (w.t 294)), ([K.L (Dh K.X 3 5), K.L (Dh K.X 2 5), 10], (w.t 301)), ([K.L (Dh K.X 2 5), K.L (Dh K.X 1 5), 10], (w.t 308)), ([K.L (Dh K.X 1 5), K.L (Dh K.X 0 5), 10], (w.t 315)), ([K.L (Dh K.X 3 6), K.L (Dh K.X 2 6), 10], (w.t 329)), ([K.L (Dh K.X 2 6), K.L (Dh K.X 1 6), 10], (w.t 336)), ([K.L (Dh K.X 1 6), K.L (Dh K.X 0 6), 10], (w.t 343)), ([K.L (Dh K.X 2 7), K.L (Dh K.X 1 7), 10], (w.t 357)), ([K.L (Dh K.X 1 7), K.L (Dh K.X 0 7), 10], (w.t 364)), ([K.L (Dh K.X 1 8), K.L (Dh K.X 0 8), 10], (w.t 377))] 45 (pgs K).flatten rfl (by simp) (by simp)⟩)]
    (ups [0,0,0,0,0,0,0,0,0,0,0,0,0,0,0,0]) (fun w => l29 (fxZ P) K q p u v c9 c10 c11 (w.t 386) (w.t 385)) 29 (fun w => chR K.r) (fun w => by kernel_rfl) fun w => H _ _
end
end Mine
namespace Mine
open PySem PySem.W PySem.W.X PySem.Spec PySem.Calls PyProof.Rows PySem.Builtin.Str
noncomputable def lnH (K : Kn) (m : Nat) : Nat → Nat → List (Nat × Nat)
  | _, 0 => []
  | r, n + 1 => (Dh K.X r m, Dh K.X (r - 1) m) :: lnH K m (r - 1) n
noncomputable def pgH (K : Kn) : List (Nat × Nat) := lnH K 0 9 9 ++ (lnH K 1 8 8 ++ (lnH K 2 7 7 ++ (lnH K 3 6 6 ++ (lnH K 4 5 5 ++ (lnH K 5 4 4 ++ (lnH K 6 3 3 ++ (lnH K 7 2 2 ++ lnH K 8 1 1)))))))
noncomputable def blk (L : Nat → Nat) (k : Nat) (x : Nat × Nat) : List Nat := if 3 * x.1 + x.2 < k then [L (th3 x.1 x.2), 9] else [L x.1, L x.2,10]
noncomputable def fin1 (L : Nat → Nat) (x : Nat × Nat) : List Nat := [L (th3 x.1 x.2)]
noncomputable def pgk (K : Kn) : Nat → List Nat
  | 0 => (pgs K).flatten
  | k + 1 => match Nat.beq k 9 with
    | true => ((pgH K).map (fin1 K.L)).flatten
    | false => ((pgH K).map (blk K.L (k + 1))).flatten
noncomputable def oldP (L : Nat → Nat) (k : Nat) : List Nat := match Nat.beq k 9 with
  | true => [9]
  | false => [L (k / 3), L (k % 3), 10]
noncomputable def newP (L : Nat → Nat) (k : Nat) : List Nat := match Nat.beq k 9 with
  | true => []
  | false => [L (mk3 k), 9]
noncomputable def cutAt {α : Type} (p : α → Bool) (f : α → List Nat) : List α → List (List Nat)
  | [] => [[]]
  | x :: xs => if p x then [] :: cutAt p f xs else match cutAt p f xs with
    | [] => [f x]
    | y :: ys => (f x ++ y) :: ys
noncomputable def psk (K : Kn) (k : Nat) : List (List Nat) := match Nat.beq k 9 with
  | true => (pgH K).map (fin1 K.L) ++ [[]]
  | false => cutAt (fun x => 3 * x.1 + x.2 == k) (blk K.L k) (pgH K)
noncomputable def sidesT (K : Kn) : List Nat := sd K 1 ++ (sd K 2 ++ (sd K 3 ++ (sd K 4 ++ (sd K 5 ++ (sd K 6 ++ (sd K 7 ++ (sd K 8 ++ (sd K 9 ++ []))))))))
structure RepLaw (K : Kn) : Prop where
  s0 : ∀ k, k < 10 → occurrences ⟨⟨pgk K k⟩⟩ ⟨⟨oldP K.L k⟩⟩ 0 (pgk K k).length ((pgk K k).length + 1) = [] → psk K k = [pgk K k]
  s1 : ∀ k, k < 10 → occurrences ⟨⟨pgk K k⟩⟩ ⟨⟨oldP K.L k⟩⟩ 0 (pgk K k).length ((pgk K k).length + 1) ≠ [] → (decide ((pgk K k).length < (oldP K.L k).length) || decide (strKind ⟨⟨pgk K k⟩⟩ < strKind ⟨⟨oldP K.L k⟩⟩)) = false ∧ partsBetween ⟨⟨pgk K k⟩⟩ (occurrences ⟨⟨pgk K k⟩⟩ ⟨⟨oldP K.L k⟩⟩ 0 (pgk K k).length ((pgk K k).length + 1)) (oldP K.L k).length = (psk K k).map fun p => ⟨⟨p⟩⟩
  l0 : ∀ k, k ≤ 10 → (pgk K k).length ≤ 1000
  l1 : ∀ k, k < 10 → (psk K k).length ≤ 100
  l2 : ∀ k, k < 10 → ∀ p ∈ psk K k, p.length ≤ 900
  g : ∀ k, k < 10 → glued ⟨⟨newP K.L k⟩⟩ ((psk K k).map fun p => ⟨⟨p⟩⟩) = ⟨⟨pgk K (k + 1)⟩⟩
  e : (pgk K 10 == sidesT K) = true
section
variable {V : XV} {P : Params} {b : Bool} {scr : Obj}
theorem oldP_ne (L : Nat → Nat) (k : Nat) : oldP L k ≠ [] := by
  unfold oldP
  cases Nat.beq k 9 <;> simp
theorem newP_len (L : Nat → Nat) (k : Nat) : (newP L k).length ≤ 2 := by
  unfold newP
  cases Nat.beq k 9 <;> simp
theorem stF_len (t : Tok) (ps : List (List Nat)) : (stF t ps).length = ps.length := by
  induction ps generalizing t with
  | nil => rfl
  | cons p ps ih => simp [stF, ih]
theorem stF_mem (t : Tok) (ps : List (List Nat)) (B : Nat) (h : ∀ p ∈ ps, p.length ≤ B) : ∀ p ∈ stF t ps, p.1.length ≤ B := by
  induction ps generalizing t with
  | nil => intro p h; cases h
  | cons x ps ih =>
    intro p hp
    rcases List.mem_cons.mp hp with rfl | hp
    · exact h x List.mem_cons_self
    · exact ih (t + 1) (fun p hp => h p (List.mem_cons_of_mem _ hp)) p hp
theorem stF_fst (t : Tok) (ps : List (List Nat)) : (stF t ps).map (·.1) = ps := by
  induction ps generalizing t with
  | nil => rfl
  | cons p ps ih => simp [stF, ih]
theorem vRs (P : Params) (K : Kn) (h : RepLaw K) (k : Nat) (hk : k < 10) (t u : Tok) : Valid V (cSpl (nmZ P) (pgk K k) t (oldP K.L k) u (psk K k)) :=
  vSpl P (pgk K k) t (oldP K.L k) u (psk K k) (oldP_ne _ _) (by have := h.l0 k (by omega); omega) (by have := h.l1 k hk; omega) (h.s0 k hk) (h.s1 k hk)
theorem vRj (P : Params) (K : Kn) (h : RepLaw K) (k : Nat) (hk : k < 10) (t : Tok) (a : Addr) (θ : Tok) : Valid V (cJn (nmZ P) (newP K.L k) t a (stF θ (psk K k)) 0 (pgk K (k + 1))) := by
  have hp := newP_len K.L k
  have hl := h.l1 k hk
  refine vJn P _ t a _ 0 _ (join_ok _ _ 900 (stF_mem _ _ _ (h.l2 k hk)) ?_) ?_ ?_
  · rw [stF_len]
    have h1 : (psk K k).length * (900 + (newP K.L k).length) ≤ 100 * 902 := Nat.mul_le_mul hl (by omega)
    omega
  · have e : (toSS (stF θ (psk K k))).map (·.1) = (psk K k).map fun p => (⟨⟨p⟩⟩ : Str) := by
      have e0 : (toSS (stF θ (psk K k))).map (·.1) = ((stF θ (psk K k)).map (·.1)).map fun p => (⟨⟨p⟩⟩ : Str) := by simp [toSS]
      rw [e0, stF_fst]
    rw [e]
    exact h.g k hk
  · have := h.l0 (k + 1) (by omega); omega
end
end Mine
namespace Mine
open PySem PySem.W PySem.W.X PySem.Spec PySem.Calls PyProof.Rows PySem.Builtin PySem.Builtin.Str PySem.Builtin.Int
section
variable {V : XV} {P : Params}
theorem gRunWp {ch : Ch} {c : Code} {κ : Kont} {l : Lst} {C : Code} {g : Bool} {lv : List Value} {k : Result → Sem PySem.Fin}
    (h : ∀ hp i, Mm V hp ch l → wpAny (model V.prog V.w) ((aroundOf V true κ).under c) (runValue C) (fun v s' => Means V c none κ (k (.ok (.ret v))) s') (fun e s' => Means V c none κ (k (.error e)) s') ⟨hp, ⟨[]⟩, V.d, i, V.os⟩) :
    G V ch c κ (.call C none g lv k) l := fun hp i D => by
  intro Γ p hc hΓ
  have z := h hp i D Γ p (hc ▸ hΓ.in)
  change Sem.wp _ Γ (Sem.call C none false [] (fun r => Sem.bind (match r with | .ok f => Sem.pure f | .error e => Sem.raise e) (fun x => match x with | .ret v => Sem.pure v | _ => Sem.unsupported "internal:call-without-return-value"))) _ _ p _ at z
  rw [Sem.wp_call] at z ⊢
  refine wpCode_mono (fun r s' q => ?_) z
  cases r with
  | ok fl =>
    cases fl with
    | ret v => exact q Γ p hc hΓ
    | next => exact absurd q (by simp [Sem.bind, Sem.wp])
    | brk => exact absurd q (by simp [Sem.bind, Sem.wp])
    | cont => exact absurd q (by simp [Sem.bind, Sem.wp])
  | error e => exact q Γ p hc hΓ
noncomputable def cCol (N : Nm) (b : Addr) (ys : List Value) (m : Nat) : Con := ⟨.builtin "proto.collect" ⟨[.ref b],[]⟩, [(b, lstO N ys m)],1,0, fun _ _ => [], fun α _ => [lstO N ys 1], fun α _ => .ok (.ret (.ref (α 0))), 900⟩
theorem vCol (P : Params) (b : Addr) (ys : List Value) (m : Nat) (hz : ys.length ≤ 100000) (hy : ys ≠ []) : Valid V (cCol (nmZ P) b ys m) := by
  intro ch c κ R g lv k hR K
  refine gRunWp fun hp i D => ?_
  have hb := list_mem P D (a := b) (xs := ys) (n := m) (List.mem_append_left _ List.mem_cons_self)
  refine wpAny_runValue (codeAny_builtin F.entry_proto_collect ?_)
  rw [Around.under_plainId F.plain_proto_collect _]
  show wpAny _ _ (newList [] >>= fun l => again (.builtin "list.__iadd__" ⟨[l, .ref b],[]⟩)) _ _ _
  refine wpAny_bind (wpAny_newObj_type ?_)
  refine wpAny_pure ⟨plainId_quiet F.plain_list_iadd _, codeAny_builtin F.entry_list_iadd ?_⟩
  rw [Around.under_plainId F.plain_list_iadd _]
  show wpAny _ _ (Builtin.List.listExtendWith (.ref hp.objs.size) (.ref b) (.ref hp.objs.size)) _ _ _
  have hS : (hp.push { cls := .type "list", data := .seq ([] : List Value).toArray }).get? hp.objs.size = some { cls := .type "list", data := .seq #[] 0 } := Heap.get?_push_size _ rfl
  have hS₂ := Heap.get?_update_self (Obj.mapSeq (· ++ (⟨ys⟩ : Array Value))) hS rfl
  refine wpAny_extend_seq (R := fun r s' => match r with | .ok (.ret v) => Means V c none κ (k (.ok (.ret v))) s' | .ok _ => False | .error e => Means V c none κ (k (.error e)) s') (A := (aroundOf V true κ).under c) (s := ⟨hp.push { cls := .type "list", data := .seq ([] : List Value).toArray }, ⟨[]⟩, V.d, i, V.os⟩) (o := { cls := .type "list", dict := none, data := .seq ⟨ys⟩ m, slots := #[] }) (items := ⟨ys⟩) (n := m) (hsz := by show ys.length ≤ sizeLine; rw [sizeLine_eq]; omega) _ b _ 0 (.inl rfl) hS (Heap.get?_push_of_some _ hb) rfl rfl ?_
  have hk : ∀ b' o', hp.get? b' = some o' → ((hp.push { cls := .type "list", data := .seq ([] : List Value).toArray }).update hp.objs.size (Obj.mapSeq (· ++ (⟨ys⟩ : Array Value)))).get? b' = some o' := fun b' o' hb' => (Heap.get?_update_other _ _ (Nat.ne_of_gt (Heap.lt_size hb'))).trans (Heap.get?_push_of_some _ hb')
  have e1 : Obj.mapSeq (· ++ (⟨ys⟩ : Array Value)) ({ cls := .type "list", data := .seq #[] 0 } : Obj) = lstO (nmZ P) ys 1 := by
    rw [lst_std]
    exact mapSeq_ne (xs := []) (by simp) (by simpa using hy)
  rw [e1] at hS₂
  have hnone : V.h₀.get? hp.objs.size = none := by
    cases q : V.h₀.get? hp.objs.size with
    | none => rfl
    | some o' =>
      obtain ⟨o₂, e₂⟩ := D.there q
      exact absurd (Heap.lt_size e₂) (Nat.lt_irrefl _)
  have D1 := D.keeps hk
  have D' : Mm V ((hp.push { cls := .type "list", data := .seq ([] : List Value).toArray }).update hp.objs.size (Obj.mapSeq (· ++ (⟨ys⟩ : Array Value)))) ch (([(b, lstO (nmZ P) ys m)] ++ [(hp.objs.size, lstO (nmZ P) ys 1)]) ++ R) := by
    have key : Mm V ((hp.push { cls := .type "list", data := .seq ([] : List Value).toArray }).update hp.objs.size (Obj.mapSeq (· ++ (⟨ys⟩ : Array Value)))) ch ((hp.objs.size, lstO (nmZ P) ys 1) :: ([(b, lstO (nmZ P) ys m)] ++ R)) := by
      refine ⟨D1.keep, D1.tab, fun p hp' => ?_, ?_⟩
      · rcases List.mem_cons.mp hp' with rfl | hp'
        · exact ⟨hS₂, hnone⟩
        · exact D1.nw p hp'
      · rw [List.map_cons, List.nodup_cons]
        refine ⟨fun hm => ?_, D1.nd⟩
        obtain ⟨⟨b', ob⟩, hp2, hb⟩ := List.mem_map.mp hm
        have hlt := Heap.lt_size (D.nw _ hp2).1
        rw [hb] at hlt
        exact absurd hlt (Nat.lt_irrefl _)
    refine key.perm ?_
    rw [List.append_assoc]
    exact List.perm_middle.symm
  show Means V c none κ (k (.ok (.ret (.ref hp.objs.size)))) _
  exact K (fun j => if j = 0 then hp.objs.size else 0) (fun _ => 0) (fun j hj => by have : 1 ≤ j := hj; rw [if_neg (by omega)]) (fun _ _ => rfl) _ i D'
end
end Mine
namespace Mine
open PySem PySem.W PySem.W.X PySem.Spec PySem.Calls PyProof.Rows
section
variable {V : XV} {P : Params} {b : Bool} {scr : Obj}
theorem sdr_len (K : Kn) (m r n : Nat) : (sdr K m r n).length = n := by
  induction n generalizing r with
  | zero => rfl
  | succ n ih => simp [sdr, ih]
theorem sd_len (K : Kn) (m : Nat) : (sd K m).length ≤ 10 := by
  unfold sd
  rw [sdr_len]
  omega
theorem vJ1 (P : Params) (K : Kn) (t : Tok) (a : Addr) (T : Nat → Tok) (n : Nat) : Valid V (cJn (nmZ P) [] t a [(sd K 1, T 1), (sd K 2, T 2), (sd K 3, T 3), (sd K 4, T 4), (sd K 5, T 5), (sd K 6, T 6), (sd K 7, T 7), (sd K 8, T 8), (sd K 9, T 9)] n (sidesT K)) := by
  refine vJ0 P t a _ n _ rfl ?_ ?_
  · intro p hp
    simp only [List.mem_cons, List.not_mem_nil, or_false] at hp
    rcases hp with rfl | rfl | rfl | rfl | rfl | rfl | rfl | rfl | rfl <;> exact sd_len _ _
  · simp
theorem sF29 (O : VO V P b scr) {κ : Kont} (hR : Rm V κ 400) (K : Kn) (hP : RepLaw K) (q p u v : Nat → Nat) (c9 c10 c11 : Option Value) (pk pt : Tok) (R : Lst)
    (H : Rr V (chR K.r) κ (.ok (.ret (.bool true))) R) :
    LG V P κ R (chR K.r) (l29 (fxZ P) K q p u v c9 c10 c11 pk pt) 29 :=
  segR O hR 961 (hsD 362 826943898382824727221651233774812821731466843577854484697607724356770664603264463917939256438206299461923567466748288265724640268973066025224898428616936856722506288759846964424405019739606189339984051986912444278664109991746606240983428434415323120942141598536929397133921357094549083391199387403894608021063662062036002668038618093693392087803224118314780570454915391481919133334962090925768103292689798570565863794835798864643841924582268942506979317498845319641607933065694415748535733449998439330755715247095572339954565058964451692996245670111766699865082557350628848102382682208971733449172672624037586539032240590847510368251373218263586062920495342917655392762486119061591377834925397265993086042506611563192676094107942594864835349417409245878348169344)
    [(0, ups [13], fun w => ⟨_, vCol P (q 0) (prsV K q) 0 (Nat.le_of_ble_eq_true rfl) (by simp [prsV])⟩), (6, ups [], fun w => ⟨_, vRs P K hP 0 (by decide) pt (q 40)⟩), (0, ups [19], fun w => ⟨_, vRj P K hP 0 (by decide) (q 41) (w.a 3) (w.t 6)⟩), (5, ups [], fun w => ⟨_, vRs P K hP 1 (by decide) (w.t 7) (q 42)⟩), (0, ups [22], fun w => ⟨_, vRj P K hP 1 (by decide) (q 43) (w.a 6) (w.t 15)⟩), (5, ups [], fun w => ⟨_, vRs P K hP 2 (by decide) (w.t 16) (q 44)⟩), (0, ups [25], fun w => ⟨_, vRj P K hP 2 (by decide) (q 45) (w.a 9) (w.t 24)⟩), (5, ups [], fun w => ⟨_, vRs P K hP 3 (by decide) (w.t 25) (q 46)⟩), (0, ups [28], fun w => ⟨_, vRj P K hP 3 (by decide) (q 47) (w.a 12) (w.t 33)⟩), (5, ups [], fun w => ⟨_, vRs P K hP 4 (by decide) (w.t 34) (q 48)⟩), (0, ups [31], fun w => ⟨_, vRj P K hP 4 (by decide) (q 49) (w.a 15) (w.t 42)⟩), (5, ups [], fun w => ⟨_, vRs P K hP 5 (by decide) (w.t 43) (q 50)⟩), (0, ups [34], fun w => ⟨_, vRj P K hP 5 (by decide) (q 51) (w.a 18) (w.t 51)⟩), (5, ups [], fun w => ⟨_, vRs P K hP 6 (by decide) (w.t 52) (q 52)⟩), (0, ups [37], fun w => ⟨_, vRj P K hP 6 (by decide) (q 53) (w.a 21) (w.t 60)⟩), (5, ups [], fun w => ⟨_, vRs P K hP 7 (by decide) (w.t 61) (q 54)⟩), (0, ups [40], fun w => ⟨_, vRj P K hP 7 (by decide) (q 55) (w.a 24) (w.t 69)⟩), (5, ups [], fun w => ⟨_, vRs P K hP 8 (by decide) (w.t 70) (q 56)⟩), (0, ups [43], fun w => ⟨_, vRj P K hP 8 (by decide) (q 57) (w.a 27) (w.t 78)⟩), (5, ups [], fun w => ⟨_, vRs P K hP 9 (by decide) (w.t 79) (q 58)⟩), (0, ups [46], fun w => ⟨_, vRj P K hP 9 (by decide) (q 59) (w.a 30) (w.t 87)⟩), (4, ups [50], fun w => ⟨_, vJ1 P K (w.t 94) (w.a 34) (fun a => v (2 + a)) 0⟩), (0, ups [], fun w => ⟨_, vSeq (pgk K 10) (w.t 88) (sidesT K) (w.t 96) true hP.e⟩)]
    (ups []) (r := fun w => .ok (.ret (.bool true))) (l' := fun w => []) (ch' := fun w => chR K.r) (fun w => by kernel_rfl) fun w => H
end
end Mine
namespace Mine
open PySem
theorem th3_3 (a b c d : Nat) (ha : a < 3) (hb : b < 3) (hc : c < 3) (hd : d < 3) : th3 (th3 (th3 a b) (th3 b c)) (th3 (th3 b c) (th3 c d)) = th3 a d := by
  have key : ∀ a b c d : Fin 3, th3 (th3 (th3 a.1 b.1) (th3 b.1 c.1)) (th3 (th3 b.1 c.1) (th3 c.1 d.1)) = th3 a.1 d.1 := by decide +kernel
  exact key ⟨a, ha⟩ ⟨b, hb⟩ ⟨c, hc⟩ ⟨d, hd⟩
theorem Dh_3 (X : Nat → Int) (m j : Nat) : th3 (Dh X m j) (Dh X m (j + 3)) = Dh X (m + 3) j := by
  show _ = th3 (th3 (th3 (Dh X m j) (Dh X m (j + 1))) (th3 (Dh X m (j + 1)) (Dh X m (j + 1 + 1)))) (th3 (th3 (Dh X m (j + 1)) (Dh X m (j + 1 + 1))) (th3 (Dh X m (j + 1 + 1)) (Dh X m (j + 1 + 1 + 1))))
  rw [th3_3 _ _ _ _ (Dh_lt _ _ _) (Dh_lt _ _ _) (Dh_lt _ _ _) (Dh_lt _ _ _)]
theorem lucLaw (X : Nat → Int) : LucLaw X := by
  refine ⟨fun m j _ => Dh_3 X m j, ?_⟩
  have e : Dh X 9 0 = th3 (Dh X 6 0) (Dh X 6 3) := (Dh_3 X 6 0).symm
  rw [e, ← Dh_3 X 3 0, ← Dh_3 X 3 3, ← Dh_3 X 0 0, ← Dh_3 X 0 3, ← Dh_3 X 0 6, th3_3 _ _ _ _ (Dh_lt _ _ _) (Dh_lt _ _ _) (Dh_lt _ _ _) (Dh_lt _ _ _)]
noncomputable def dg (X : Nat → Int) : Nat → Nat → Nat
  | 0, i => hueOf (X i)
  | m + 1,0 => dg X m 0
  | m + 1, i + 1 => dg X m (i + 1) + dg X m i
noncomputable def cy (X : Nat → Int) (m : Nat) : Nat → Nat
  | 0 => 0
  | i + 1 => dg X m i
theorem dg_succ (X : Nat → Int) (m i : Nat) : dg X (m + 1) i = dg X m i + cy X m i := by cases i <;> rfl
noncomputable def sg (X : Nat → Int) (m : Nat) : Nat → Nat
  | 0 => 0
  | n + 1 => sg X m n + dg X m n * 4096 ^ n
theorem sg_succ (X : Nat → Int) (m n : Nat) : sg X (m + 1) n + 4096 ^ n * cy X m n = 4097 * sg X m n := by
  induction n with
  | zero => rfl
  | succ n ih =>
    have e1 : sg X (m + 1) (n + 1) = sg X (m + 1) n + (dg X m n + cy X m n) * 4096 ^ n := by rw [← dg_succ]; rfl
    have e2 : sg X m (n + 1) = sg X m n + dg X m n * 4096 ^ n := rfl
    have e3 : cy X m (n + 1) = dg X m n := rfl
    rw [e1, e2, e3, Nat.pow_succ, Nat.add_mul, Nat.mul_add, Nat.mul_comm (cy X m n), ← ih, Nat.mul_comm (4096 ^ n) 4096, Nat.mul_assoc, Nat.mul_comm (4096 ^ n) (dg X m n)]
    omega
theorem dg_le (X : Nat → Int) (m i : Nat) : dg X m i ≤ 2 * 2 ^ m := by
  induction m generalizing i with
  | zero => have := hueOf_lt (X i); show hueOf (X i) ≤ _; omega
  | succ m ih =>
    rw [dg_succ, Nat.pow_succ]
    have h1 := ih i
    cases i with
    | zero => show _ + 0 ≤ _; omega
    | succ i => have h2 := ih i; show _ + dg X m i ≤ _; omega
theorem Fm_eq (X : Nat → Int) (m : Nat) : ∃ r, Fm X m = Int.ofNat (sg X m 10 + 4096 ^ 10 * r) := by
  induction m with
  | zero =>
    refine ⟨0, ?_⟩
    show (fgs X).sum = _
    have st : ∀ n, Int.ofNat (sg X 0 (n + 1)) = Int.ofNat (sg X 0 n) + fg X n := fun n => by
      show Int.ofNat (sg X 0 n + hueOf (X n) * 4096 ^ n) = _
      unfold fg
      simp only [Int.ofNat_eq_natCast]
      rw [← Int.natCast_mul, ← Int.natCast_add]
    have s0 : Int.ofNat (sg X 0 0) = 0 := rfl
    rw [Nat.mul_zero, Nat.add_zero, st 9, st 8, st 7, st 6, st 5, st 4, st 3, st 2, st 1, st 0, s0]
    simp only [fgs, List.sum_cons, List.sum_nil]
    generalize fg X 0 = a0, fg X 1 = a1, fg X 2 = a2, fg X 3 = a3, fg X 4 = a4, fg X 5 = a5, fg X 6 = a6, fg X 7 = a7, fg X 8 = a8, fg X 9 = a9
    omega
  | succ m ih =>
    obtain ⟨r, e⟩ := ih
    refine ⟨4097 * r + dg X m 9, ?_⟩
    show Fm X m * Int.ofNat 4097 = _
    rw [e]
    have h := sg_succ X m 10
    have h3 : cy X m 10 = dg X m 9 := rfl
    rw [h3] at h
    simp only [Int.ofNat_eq_natCast]
    rw [← Int.natCast_mul]
    congr 1
    rw [Nat.mul_add, Nat.mul_comm, Nat.mul_add, ← h, Nat.mul_left_comm]
    omega
theorem sg_lt (X : Nat → Int) (m n : Nat) (hm : m ≤ 9) : sg X m n < 4096 ^ n := by
  induction n with
  | zero => show 0 < 1; omega
  | succ n ih =>
    have h1 := dg_le X m n
    have h2 : 2 ^ m ≤ 2 ^ 9 := Nat.pow_le_pow_right (by omega) hm
    have h3 : dg X m n ≤ 4095 := by omega
    have h4 := Nat.mul_le_mul_right (4096 ^ n) h3
    show sg X m n + dg X m n * 4096 ^ n < 4096 ^ n * 4096
    omega
theorem sg_up (X : Nat → Int) (m r k n : Nat) (h : n + k = 10) : ∃ q, sg X m 10 + 4096 ^ 10 * r = sg X m n + 4096 ^ n * q := by
  induction k generalizing n with
  | zero => have : n = 10 := by omega
            subst this; exact ⟨r, rfl⟩
  | succ k ih =>
    obtain ⟨q, e⟩ := ih (n + 1) (by omega)
    refine ⟨dg X m n + 4096 * q, ?_⟩
    rw [e]
    show sg X m n + dg X m n * 4096 ^ n + 4096 ^ n * 4096 * q = _
    rw [Nat.mul_add, Nat.mul_assoc, Nat.mul_comm (dg X m n), Nat.add_assoc]
theorem md_eq (X : Nat → Int) (m i : Nat) (hm : m ≤ 9) (hi : i < 10) : md X m i = Int.ofNat (dg X m i) := by
  obtain ⟨r, e⟩ := Fm_eq X m
  obtain ⟨q, e2⟩ := sg_up X m r (9 - i) (i + 1) (by omega)
  unfold md dq
  rw [e, e2]
  have e3 : sg X m (i + 1) + 4096 ^ (i + 1) * q = sg X m i + 4096 ^ i * (dg X m i + 4096 * q) := by
    show sg X m i + dg X m i * 4096 ^ i + 4096 ^ i * 4096 * q = _
    rw [Nat.mul_add, Nat.mul_assoc, Nat.mul_comm (dg X m i), Nat.add_assoc]
  rw [e3, Int.fdiv_eq_ediv_of_nonneg _ (by exact Int.natCast_nonneg _), Int.fmod_eq_emod_of_nonneg _ (by exact Int.natCast_nonneg _)]
  simp only [Int.ofNat_eq_natCast]
  rw [← Int.natCast_ediv, ← Int.natCast_emod]
  congr 1
  have hp : 0 < 4096 ^ i := Nat.pow_pos (by omega)
  rw [Nat.add_mul_div_left _ _ hp, Nat.div_eq_of_lt (sg_lt X m i hm)]
  have h1 := dg_le X m i
  have h2 : 2 ^ m ≤ 2 ^ 9 := Nat.pow_le_pow_right (by omega) hm
  omega
theorem dg_Dh (X : Nat → Int) (m j : Nat) : (dg X m (j + m) * (1 + m % 2)) % 3 = Dh X m j := by
  induction m generalizing j with
  | zero =>
    show hueOf (X j) * 1 % 3 = hueOf (X j)
    have := hueOf_lt (X j)
    omega
  | succ m ih =>
    have h1 := ih j
    have h2 := ih (j + 1)
    rw [show j + 1 + m = j + m + 1 by omega] at h2
    have e : dg X (m + 1) (j + (m + 1)) = dg X m (j + m + 1) + dg X m (j + m) := rfl
    rw [e]
    show _ = th3 (Dh X m j) (Dh X m (j + 1))
    rw [← h1, ← h2]
    unfold th3
    rcases Nat.mod_two_eq_zero_or_one m with h | h
    · rw [h, show (m + 1) % 2 = 1 by omega]; omega
    · rw [h, show (m + 1) % 2 = 0 by omega]; omega
theorem binLaw (X : Nat → Int) : BinLaw X := by
  intro m j h
  rw [md_eq X m (j + m) (by omega) (by omega)]
  have e3 : (Int.ofNat (2 + 1)) = 3 := rfl
  rw [e3, Int.fmod_eq_emod_of_nonneg _ (by omega)]
  have z := dg_Dh X m j
  simp only [Int.ofNat_eq_natCast]
  rw [← z]
  push_cast
  rfl
end Mine
namespace Mine
open PySem PySem.Builtin PySem.Builtin.Str PySem.StrLaws
noncomputable abbrev Lp (x y : List Nat) (i n : Nat) (st : Array Nat × Nat) : Array Nat × Nat := (forIn (List.range' i n) st (occBody ⟨⟨x⟩⟩ ⟨⟨y⟩⟩ x.length (x.length + 1))).run
theorem subAt_iff (x y : List Nat) (i : Nat) : subAt ⟨⟨x⟩⟩ ⟨⟨y⟩⟩ i = true ↔ (x.drop i).take y.length = y := by
  have e : subAt ⟨⟨x⟩⟩ ⟨⟨y⟩⟩ i = ((⟨x⟩ : Array Nat).extract i (i + y.length) == (⟨y⟩ : Array Nat)) := rfl
  rw [e, beq_iff_eq, ← Array.toList_inj]
  simp [List.extract_eq_take_drop]
theorem Lp_no (x y : List Nat) (i n : Nat) (st : Array Nat × Nat) (h : i < st.2 ∨ (x.drop i).take y.length ≠ y) : Lp x y i (n + 1) st = Lp x y (i + 1) n st := by
  unfold Lp
  rw [List.range'_succ, List.forIn_cons]
  unfold occBody
  rw [if_neg]
  · rfl
  · rintro ⟨⟨⟨_, h1⟩, _⟩, h2⟩
    rcases h with h | h
    · omega
    · exact h ((subAt_iff x y i).mp h2)
theorem Lp_yes (x y : List Nat) (i n : Nat) (acc : Array Nat) (free : Nat) (hf : free ≤ i) (hs : acc.size ≤ i) (hi : i + y.length ≤ x.length) (h : (x.drop i).take y.length = y) : Lp x y i (n + 1) (acc, free) = Lp x y (i + 1) n (acc.push i, i + y.length) := by
  unfold Lp
  rw [List.range'_succ, List.forIn_cons]
  unfold occBody
  rw [if_pos]
  · rfl
  · exact ⟨⟨⟨by show acc.size < x.length + 1; omega, hf⟩, hi⟩, (subAt_iff x y i).mpr h⟩
theorem Lp_skip (x y : List Nat) (k i n : Nat) (st : Array Nat × Nat) (h : ∀ j, j < k → i + j < st.2 ∨ (x.drop (i + j)).take y.length ≠ y) : Lp x y i (n + k) st = Lp x y (i + k) n st := by
  induction k generalizing i with
  | zero => rfl
  | succ k ih =>
    rw [← Nat.add_assoc, Lp_no x y i (n + k) st (h 0 (by omega)), ih (i + 1) fun j hj => by have := h (j + 1) (by omega); rwa [show i + 1 + j = i + (j + 1) by omega]]
    rw [show i + 1 + k = i + (k + 1) by omega]
noncomputable def flat (bs : List (List Nat × Bool)) : List Nat := (bs.map (·.1)).flatten
noncomputable def okB (y : List Nat) : List (List Nat × Bool) → Prop
  | [] => True
  | (b, m) :: bs => (match m with | true => b = y | false => ∀ j, j < b.length → ((b ++ flat bs).drop j).take y.length ≠ y) ∧ okB y bs
noncomputable def offs : Nat → List (List Nat × Bool) → List Nat
  | _, [] => []
  | i, (b, m) :: bs => match m with | true => i :: offs (i + b.length) bs | false => offs (i + b.length) bs
theorem Lp_blocks (y : List Nat) (hy : y ≠ []) (x : List Nat) (bs : List (List Nat × Bool)) (pre : List Nat) (hx : x = pre ++ flat bs) (hb : okB y bs) (acc : Array Nat) (free : Nat) (hf : free ≤ pre.length) (hs : acc.size ≤ pre.length) :
    (Lp x y pre.length ((flat bs).length + 1) (acc, free)).1.toList = acc.toList ++ offs pre.length bs := by
  have hyl : 0 < y.length := List.length_pos_iff.mpr hy
  induction bs generalizing pre acc free with
  | nil =>
    have e : x.drop pre.length = [] := by rw [hx]; simp [flat]
    rw [show (flat []).length + 1 = 0 + 1 from rfl, Lp_no x y _ 0 _ (.inr (by rw [e]; simpa using hy.symm))]
    simp [Lp, offs]
  | cons p bs ih =>
    obtain ⟨b, m⟩ := p
    have hx' : x = (pre ++ b) ++ flat bs := by rw [hx]; simp [flat]
    have hl : (flat ((b, m) :: bs)).length + 1 = (flat bs).length + 1 + b.length := by simp [flat]; omega
    have hd : ∀ j, j ≤ b.length → x.drop (pre.length + j) = (b ++ flat bs).drop j := fun j hj => by
      rw [hx, List.drop_append]
      simp [flat]
    have hpl : (pre ++ b).length = pre.length + b.length := by simp
    rw [hl]
    cases m with
    | false =>
      rw [Lp_skip x y b.length pre.length _ _ fun j hj => .inr (by rw [hd j (by omega)]; exact hb.1 j hj)]
      rw [← hpl]
      have z := ih (pre ++ b) hx' hb.2 acc free (by omega) (by omega)
      rw [z, hpl]
      rfl
    | true =>
      have hby : b = y := hb.1
      obtain ⟨k, hk⟩ : ∃ k, b.length = k + 1 := ⟨b.length - 1, by rw [hby]; omega⟩
      have h0 : (x.drop pre.length).take y.length = y := by
        have := hd 0 (by omega)
        rw [Nat.add_zero] at this
        rw [this, List.drop_zero, hby]
        simp
      have hlen : pre.length + y.length ≤ x.length := by have q := congrArg List.length hx'; rw [← hby]; simp only [List.length_append] at q; omega
      rw [hk, ← Nat.add_assoc, Lp_yes x y pre.length _ acc free hf hs hlen h0, Lp_skip x y k (pre.length + 1) _ _ fun j hj => .inl (by show pre.length + 1 + j < pre.length + y.length; rw [← hby]; omega)]
      rw [show pre.length + 1 + k = (pre ++ b).length by rw [hpl]; omega]
      have z := ih (pre ++ b) hx' hb.2 (acc.push pre.length) (pre.length + y.length) (by rw [hpl, hby]; exact Nat.le_refl _) (by rw [hpl]; simp; omega)
      rw [z, hpl]
      simp [offs]
theorem occ_blocks (y : List Nat) (hy : y ≠ []) (bs : List (List Nat × Bool)) (hb : okB y bs) : occurrences ⟨⟨flat bs⟩⟩ ⟨⟨y⟩⟩ 0 (flat bs).length ((flat bs).length + 1) = offs 0 bs := by
  rw [occ_eq]
  have z := Lp_blocks y hy (flat bs) bs [] rfl hb #[] 0 (Nat.le_refl _) (Nat.le_refl _)
  simpa [Lp] using z
noncomputable def cutB : List (List Nat × Bool) → List (List Nat)
  | [] => [[]]
  | (b, m) :: bs => match m with
    | true => [] :: cutB bs
    | false => match cutB bs with
      | [] => [b]
      | y :: ys => (b ++ y) :: ys
noncomputable def partsL (x : List Nat) (w : Nat) : Nat → List Nat → List (List Nat)
  | s, [] => [(x.drop s).take (x.length - s)]
  | s, c :: cs => (x.drop s).take (c - s) :: partsL x w (c + w) cs
theorem parts_eq (x : List Nat) (w : Nat) (cuts : List Nat) : partsBetween ⟨⟨x⟩⟩ cuts w = (partsL x w 0 cuts).map fun p => (⟨⟨p⟩⟩ : Str) := by
  have sub : ∀ i j, strSub ⟨⟨x⟩⟩ i j = (⟨⟨(x.drop i).take (j - i)⟩⟩ : Str) := fun i j => by
    show (⟨(⟨x⟩ : Array Nat).extract i j⟩ : Str) = _
    congr 1
    apply Array.toList_inj.mp
    simp [List.extract_eq_take_drop]
  have key : ∀ (cuts : List Nat) (s : Nat), ((s :: cuts.map (· + w)).zip (cuts ++ [x.length])).map (fun (p : Nat × Nat) => strSub ⟨⟨x⟩⟩ p.1 p.2) = (partsL x w s cuts).map fun p => (⟨⟨p⟩⟩ : Str) := by
    intro cuts
    induction cuts with
    | nil => intro s; simp [partsL, sub]
    | cons c cs ih => intro s; simp only [List.map_cons, List.cons_append, List.zip_cons_cons, partsL, sub]; rw [← ih]; try simp only [sub]; try rfl
  exact key cuts 0
theorem cutB_ne (bs : List (List Nat × Bool)) : cutB bs ≠ [] := by
  cases bs with
  | nil => simp [cutB]
  | cons p bs =>
    obtain ⟨b, m⟩ := p
    cases m with
    | true => simp [cutB]
    | false => cases h : cutB bs <;> simp [cutB, h]
theorem partsL_eq (y : List Nat) (x : List Nat) (bs : List (List Nat × Bool)) (pre mid : List Nat) (hx : x = pre ++ mid ++ flat bs) (hb : okB y bs) :
    ∀ p ps, cutB bs = p :: ps → partsL x y.length pre.length (offs (pre ++ mid).length bs) = (mid ++ p) :: ps := by
  induction bs generalizing pre mid with
  | nil =>
    intro p ps h
    simp only [cutB, List.cons.injEq] at h
    obtain ⟨rfl, rfl⟩ := h
    simp only [offs, partsL]
    rw [hx]
    simp [flat]
  | cons q bs ih =>
    obtain ⟨b, m⟩ := q
    intro p ps h
    have hx' : x = pre ++ (mid ++ b) ++ flat bs := by rw [hx]; simp [flat]
    cases m with
    | true =>
      simp only [cutB, List.cons.injEq] at h
      obtain ⟨rfl, rfl⟩ := h
      simp only [offs, partsL]
      have hby : b = y := hb.1
      have e1 : (x.drop pre.length).take ((pre ++ mid).length - pre.length) = mid := by rw [hx]; simp
      rw [e1, List.append_nil]
      cases hc : cutB bs with
      | nil => exact absurd hc (cutB_ne bs)
      | cons q qs =>
        have z := ih (pre ++ mid ++ b) [] (by rw [hx]; simp [flat]) hb.2 q qs hc
        rw [List.append_nil, List.nil_append] at z
        rw [← hby, show (pre ++ mid).length + b.length = (pre ++ mid ++ b).length by simp; try omega]
        rw [← hby] at z
        rw [z]
    | false =>
      cases hc : cutB bs with
      | nil => exact absurd hc (cutB_ne bs)
      | cons q qs =>
        simp only [cutB, hc, List.cons.injEq] at h
        obtain ⟨rfl, rfl⟩ := h
        have z := ih pre (mid ++ b) hx' hb.2 q qs hc
        simp only [offs]
        rw [show (pre ++ mid).length + b.length = (pre ++ (mid ++ b)).length by simp; omega, z, List.append_assoc]
theorem parts_blocks (y : List Nat) (bs : List (List Nat × Bool)) (hb : okB y bs) : partsBetween ⟨⟨flat bs⟩⟩ (offs 0 bs) y.length = (cutB bs).map fun p => (⟨⟨p⟩⟩ : Str) := by
  rw [parts_eq]
  cases hc : cutB bs with
  | nil => exact absurd hc (cutB_ne bs)
  | cons q qs =>
    have z := partsL_eq y (flat bs) bs [] [] rfl hb q qs hc
    simp only [List.nil_append, List.append_nil, List.length_nil] at z
    rw [z]
noncomputable def subst (z : List Nat) (bs : List (List Nat × Bool)) : List Nat := (bs.map fun p => match p.2 with | true => z | false => p.1).flatten
theorem glued_cons (z p : List Nat) (ps : List (List Nat)) : glued ⟨⟨z⟩⟩ ((p :: ps).map fun p => (⟨⟨p⟩⟩ : Str)) = ⟨⟨p ++ (ps.map (z ++ ·)).flatten⟩⟩ := by
  have key : ∀ (ps : List (List Nat)) (acc : List Nat), (ps.map fun p => (⟨⟨p⟩⟩ : Str)).foldl (fun acc p => acc ++ (⟨z⟩ : Array Nat) ++ p.cps) (⟨acc⟩ : Array Nat) = ⟨acc ++ (ps.map (z ++ ·)).flatten⟩ := by
    intro ps
    induction ps with
    | nil => intro acc; simp
    | cons q ps ih =>
      intro acc
      have e : (⟨acc⟩ : Array Nat) ++ (⟨z⟩ : Array Nat) ++ (⟨q⟩ : Array Nat) = ⟨acc ++ z ++ q⟩ := by simp
      show (ps.map fun p => (⟨⟨p⟩⟩ : Str)).foldl (fun acc p => acc ++ (⟨z⟩ : Array Nat) ++ p.cps) ((⟨acc⟩ : Array Nat) ++ (⟨z⟩ : Array Nat) ++ (⟨q⟩ : Array Nat)) = _
      rw [e, ih]
      simp
  show (⟨(ps.map fun p => (⟨⟨p⟩⟩ : Str)).foldl (fun acc p => acc ++ (⟨z⟩ : Array Nat) ++ p.cps) (⟨p⟩ : Array Nat)⟩ : Str) = _
  rw [key]
theorem glued_cut (z : List Nat) (bs : List (List Nat × Bool)) : glued ⟨⟨z⟩⟩ ((cutB bs).map fun p => (⟨⟨p⟩⟩ : Str)) = ⟨⟨subst z bs⟩⟩ := by
  have key : ∀ bs : List (List Nat × Bool), ∀ p ps, cutB bs = p :: ps → p ++ (ps.map (z ++ ·)).flatten = subst z bs := by
    intro bs
    induction bs with
    | nil => intro p ps h; simp only [cutB, List.cons.injEq] at h; obtain ⟨rfl, rfl⟩ := h; rfl
    | cons q bs ih =>
      obtain ⟨b, m⟩ := q
      intro p ps h
      cases hc : cutB bs with
      | nil => exact absurd hc (cutB_ne bs)
      | cons q qs =>
        have i := ih q qs hc
        cases m with
        | true =>
          simp only [cutB, hc, List.cons.injEq] at h
          obtain ⟨rfl, rfl⟩ := h
          simp only [subst, List.map_cons, List.flatten_cons, List.nil_append, List.append_assoc] at i ⊢
          rw [i]
        | false =>
          simp only [cutB, hc, List.cons.injEq] at h
          obtain ⟨rfl, rfl⟩ := h
          simp only [subst, List.map_cons, List.flatten_cons, List.append_assoc] at i ⊢
          rw [i]
  cases hc : cutB bs with
  | nil => exact absurd hc (cutB_ne bs)
  | cons q qs => rw [glued_cons, key bs q qs hc]
end Mine
namespace Mine
open PySem PySem.Builtin PySem.Builtin.Str PySem.StrLaws
noncomputable def nlB (x : List Nat) : List (List Nat × Bool) := x.map fun c => ([c], Nat.beq c 10)
theorem nlB_flat (x : List Nat) : flat (nlB x) = x := by
  induction x with
  | nil => rfl
  | cons c x ih => show [c] ++ flat (nlB x) = _; rw [ih]; rfl
theorem nlB_ok (x : List Nat) : okB [10] (nlB x) := by
  induction x with
  | nil => trivial
  | cons c x ih =>
    refine ⟨?_, ih⟩
    show match Nat.beq c 10 with | true => [c] = [10] | false => _
    cases h : Nat.beq c 10 with
    | true => show [c] = [10]; rw [Nat.eq_of_beq_eq_true h]
    | false =>
      intro j hj
      have : j = 0 := by simpa using hj
      subst this
      intro e
      have e2 : c = 10 := by simpa using e
      exact Nat.ne_of_beq_eq_false h e2
theorem nl_cnt (x : List Nat) (i : Nat) (k : Int) : cnt x k = k + Int.ofNat (offs i (nlB x)).length := by
  induction x generalizing i k with
  | nil => simp [cnt, nlB, offs]
  | cons c x ih =>
    show (match Nat.beq c 10 with | true => cnt x (k + 1) | false => cnt x k) = k + Int.ofNat (match Nat.beq c 10 with | true => i :: offs (i + [c].length) (nlB x) | false => offs (i + [c].length) (nlB x)).length
    cases Nat.beq c 10 with
    | true =>
      show cnt x (k + 1) = k + Int.ofNat (i :: offs (i + 1) (nlB x)).length
      rw [ih (i + 1)]
      simp only [List.length_cons, Int.ofNat_eq_natCast]
      omega
    | false =>
      show cnt x k = k + Int.ofNat (offs (i + 1) (nlB x)).length
      rw [ih (i + 1)]
theorem cnt_app (x y : List Nat) (k : Int) : cnt (x ++ y) k = cnt y (cnt x k) := by
  induction x generalizing k with
  | nil => rfl
  | cons c x ih =>
    show (match Nat.beq c 10 with | true => cnt (x ++ y) (k + 1) | false => cnt (x ++ y) k) = cnt y (match Nat.beq c 10 with | true => cnt x (k + 1) | false => cnt x k)
    cases Nat.beq c 10 <;> exact ih _
theorem cnt_rem (L : Nat → Nat) (X : Nat → Int) (i : Nat) (h : i ≤ 10) : cnt (rem L X i) (Kl L X i) = cnt (rem L X 0) 1 := by
  induction i with
  | zero => rfl
  | succ i ih =>
    rw [← ih (by omega), ← rem_eq L X i (by omega), cnt_app]
    rfl
noncomputable def nlN (L : Nat → Nat) (X : Nat → Int) : Nat := (offs 0 (nlB (txt L X 10))).length
theorem nl_occ (x : List Nat) : occurrences ⟨⟨x⟩⟩ ⟨⟨[10]⟩⟩ 0 x.length (x.length + 1) = offs 0 (nlB x) := by
  have z := occ_blocks [10] (by simp) (nlB x) (nlB_ok x)
  rw [nlB_flat] at z
  exact z
theorem nl_count (L : Nat → Nat) (X : Nat → Int) : (occurrences ⟨⟨txt L X 10⟩⟩ ⟨⟨[10]⟩⟩ 0 (txt L X 10).length ((txt L X 10).length + 1)).length = nlN L X := by
  unfold nlN
  generalize txt L X 10 = x
  rw [nl_occ]
theorem nl_line (L : Nat → Nat) (X : Nat → Int) : (cnt (pend X 10) (Kl L X 10) != Int.ofNat (nlN L X + 1)) = false := by
  have h := cnt_rem L X 10 (Nat.le_refl _)
  have e : rem L X 10 = pend X 10 ++ [122] := rfl
  rw [e, cnt_app, ← tz_rem] at h
  have e2 : tz L X = txt L X 10 ++ [122] := rfl
  rw [e2, cnt_app] at h
  have e3 : ∀ k, cnt [122] k = k := fun k => rfl
  rw [e3, e3, nl_cnt (txt L X 10) 0] at h
  rw [h]
  show (1 + Int.ofNat (nlN L X) != Int.ofNat (nlN L X + 1)) = false
  have : (1 : Int) + Int.ofNat (nlN L X) = Int.ofNat (nlN L X + 1) := by simp only [Int.ofNat_eq_natCast]; omega
  rw [this]
  simp
noncomputable def Sn (L : Nat → Nat) : Prop := ∀ k, L k < 128 ∧ L k ≠ 9 ∧ L k ≠ 10
noncomputable def lB (L : Nat → Nat) (k : Nat) (x : Nat × Nat) : List Nat × Bool := (blk L k x, 3 * x.1 + x.2 == k)
noncomputable def pB (L : Nat → Nat) (k : Nat) (p : List (Nat × Nat)) : List (List Nat × Bool) := p.map (lB L k)
theorem blk_head (L : Nat → Nat) (h : Sn L) (k : Nat) (x : Nat × Nat) : ∃ c r, blk L k x = c :: r ∧ c ≠ 9 ∧ c ≠ 10 := by
  unfold blk
  split
  · exact ⟨_, _, rfl, (h _).2.1, (h _).2.2⟩
  · exact ⟨_, _, rfl, (h _).2.1, (h _).2.2⟩
theorem flat_head (L : Nat → Nat) (h : Sn L) (k : Nat) (p : List (Nat × Nat)) : ∀ c r, flat (pB L k p) = c :: r → c ≠ 9 ∧ c ≠ 10 := by
  cases p with
  | nil => intro c r e; cases e
  | cons x p =>
    intro c r e
    obtain ⟨c', r', e', h'⟩ := blk_head L h k x
    have e2 : flat (pB L k (x :: p)) = blk L k x ++ flat (pB L k p) := rfl
    rw [e2, e'] at e
    simp only [List.cons_append, List.cons.injEq] at e
    rw [← e.1]; exact h'
noncomputable def In3 (p : List (Nat × Nat)) : Prop := ∀ x ∈ p, x.1 < 3 ∧ x.2 < 3
theorem pB_ok (L : Nat → Nat) (h : Sn L) (hD : ∀ a b, a < 3 → b < 3 → L a = L b → a = b) (k : Nat) (hk : k < 9) (p : List (Nat × Nat)) (hp : In3 p) : okB [L (k / 3), L (k % 3), 10] (pB L k p) := by
  induction p with
  | nil => trivial
  | cons x p ih =>
    refine ⟨?_, ih fun y hy => hp y (List.mem_cons_of_mem _ hy)⟩
    obtain ⟨h1, h2⟩ := hp x List.mem_cons_self
    show match (3 * x.1 + x.2 == k) with | true => blk L k x = _ | false => ∀ j, j < (blk L k x).length → ((blk L k x ++ flat (pB L k p)).drop j).take _ ≠ _
    cases hb : (3 * x.1 + x.2 == k) with
    | true =>
      have e : 3 * x.1 + x.2 = k := eq_of_beq hb
      show blk L k x = _
      unfold blk
      rw [if_neg (by omega), show k / 3 = x.1 by omega, show k % 3 = x.2 by omega]
    | false =>
      have e : 3 * x.1 + x.2 ≠ k := fun e => by rw [e] at hb; simp at hb
      show ∀ j, j < (blk L k x).length → ((blk L k x ++ flat (pB L k p)).drop j).take 3 ≠ _
      have hA := h (k / 3)
      have hB := h (k % 3)
      have hf := flat_head L h k p
      unfold blk
      split
      · intro j hj q
        match j, hj with
        | 0, _ =>
          simp at q
          exact hB.2.1 q.2.1.symm
        | 1, _ =>
          simp at q
          exact hA.2.1 q.1.symm
      · intro j hj q
        match j, hj with
        | 0, _ =>
          simp at q
          have q1 := hD _ _ h1 (by omega) q.1
          have q2 := hD _ _ h2 (by omega) q.2
          omega
        | 1, _ =>
          simp at q
          exact hB.2.2 q.2.1.symm
        | 2, _ =>
          simp at q
          exact hA.2.2 q.1.symm
end Mine
namespace Mine
open PySem PySem.Builtin PySem.Builtin.Str PySem.StrLaws
theorem cut_eq (L : Nat → Nat) (k : Nat) (p : List (Nat × Nat)) : cutAt (fun x => 3 * x.1 + x.2 == k) (blk L k) p = cutB (pB L k p) := by
  induction p with
  | nil => rfl
  | cons x p ih =>
    show (if (3 * x.1 + x.2 == k) = true then [] :: cutAt _ (blk L k) p else match cutAt _ (blk L k) p with | [] => [blk L k x] | y :: ys => (blk L k x ++ y) :: ys) = match (3 * x.1 + x.2 == k) with | true => [] :: cutB (pB L k p) | false => match cutB (pB L k p) with | [] => [blk L k x] | y :: ys => (blk L k x ++ y) :: ys
    rw [ih]
    cases (3 * x.1 + x.2 == k) <;> rfl
theorem flat_pB (L : Nat → Nat) (k : Nat) (p : List (Nat × Nat)) : flat (pB L k p) = (p.map (blk L k)).flatten := by
  unfold flat pB
  rw [List.map_map]
  rfl
theorem subst_pB (L : Nat → Nat) (k : Nat) (hk : k < 9) (p : List (Nat × Nat)) (hp : In3 p) : subst [L (mk3 k), 9] (pB L k p) = (p.map (blk L (k + 1))).flatten := by
  induction p with
  | nil => rfl
  | cons x p ih =>
    obtain ⟨h1, h2⟩ := hp x List.mem_cons_self
    show (match (3 * x.1 + x.2 == k) with | true => [L (mk3 k), 9] | false => blk L k x) ++ subst [L (mk3 k), 9] (pB L k p) = blk L (k + 1) x ++ (p.map (blk L (k + 1))).flatten
    rw [ih fun y hy => hp y (List.mem_cons_of_mem _ hy)]
    congr 1
    cases hb : (3 * x.1 + x.2 == k) with
    | true =>
      have e : 3 * x.1 + x.2 = k := eq_of_beq hb
      show [L (mk3 k), 9] = blk L (k + 1) x
      unfold blk mk3
      rw [if_pos (by omega), show k / 3 = x.1 by omega, show k % 3 = x.2 by omega]
    | false =>
      have e : 3 * x.1 + x.2 ≠ k := fun e => by rw [e] at hb; simp at hb
      show blk L k x = blk L (k + 1) x
      unfold blk
      by_cases h : 3 * x.1 + x.2 < k
      · rw [if_pos h, if_pos (by omega)]
      · rw [if_neg h, if_neg (by omega)]
noncomputable def qB (L : Nat → Nat) : List (Nat × Nat) → List (List Nat × Bool)
  | [] => []
  | x :: p => (fin1 L x, false) :: ([9], true) :: qB L p
theorem qB_ok (L : Nat → Nat) (h : Sn L) (p : List (Nat × Nat)) : okB [9] (qB L p) := by
  induction p with
  | nil => trivial
  | cons x p ih =>
    refine ⟨?_, rfl, ih⟩
    show ∀ j, j < (fin1 L x).length → ((fin1 L x ++ flat (([9], true) :: qB L p)).drop j).take 1 ≠ [9]
    intro j hj q
    have : j = 0 := by simpa [fin1] using hj
    subst this
    simp [fin1] at q
    exact (h _).2.1 q
theorem flat_qB (L : Nat → Nat) (p : List (Nat × Nat)) (hp : In3 p) : flat (qB L p) = (p.map (blk L 9)).flatten := by
  induction p with
  | nil => rfl
  | cons x p ih =>
    obtain ⟨h1, h2⟩ := hp x List.mem_cons_self
    show fin1 L x ++ ([9] ++ flat (qB L p)) = blk L 9 x ++ (p.map (blk L 9)).flatten
    rw [ih fun y hy => hp y (List.mem_cons_of_mem _ hy)]
    unfold blk fin1
    rw [if_pos (by omega)]
    rfl
theorem cut_qB (L : Nat → Nat) (p : List (Nat × Nat)) : cutB (qB L p) = p.map (fin1 L) ++ [[]] := by
  induction p with
  | nil => rfl
  | cons x p ih =>
    show (fin1 L x ++ []) :: cutB (qB L p) = _
    rw [ih, List.append_nil]
    rfl
theorem subst_qB (L : Nat → Nat) (p : List (Nat × Nat)) : subst [] (qB L p) = (p.map (fin1 L)).flatten := by
  induction p with
  | nil => rfl
  | cons x p ih =>
    show fin1 L x ++ ([] ++ subst [] (qB L p)) = _
    rw [ih]
    rfl
theorem lnH_in3 (K : Kn) (m r n : Nat) : In3 (lnH K m r n) := by
  induction n generalizing r with
  | zero => intro x hx; cases hx
  | succ n ih =>
    intro x hx
    rcases List.mem_cons.mp hx with rfl | hx
    · exact ⟨Dh_lt _ _ _, Dh_lt _ _ _⟩
    · exact ih _ x hx
theorem In3.app {p q : List (Nat × Nat)} (h1 : In3 p) (h2 : In3 q) : In3 (p ++ q) := fun x hx => by
  rcases List.mem_append.mp hx with h | h
  · exact h1 x h
  · exact h2 x h
theorem pgH_in3 (K : Kn) : In3 (pgH K) := (lnH_in3 _ _ _ _).app ((lnH_in3 _ _ _ _).app ((lnH_in3 _ _ _ _).app ((lnH_in3 _ _ _ _).app ((lnH_in3 _ _ _ _).app ((lnH_in3 _ _ _ _).app ((lnH_in3 _ _ _ _).app ((lnH_in3 _ _ _ _).app (lnH_in3 _ _ _ _))))))))
theorem lnH_len (K : Kn) (m r n : Nat) : (lnH K m r n).length = n := by
  induction n generalizing r with
  | zero => rfl
  | succ n ih => simp [lnH, ih]
theorem pgH_len (K : Kn) : (pgH K).length = 45 := by
  unfold pgH
  simp only [List.length_append, lnH_len]
theorem lns_eq (K : Kn) (m r n : Nat) : lns K m r n = (lnH K m r n).map (blk K.L 0) := by
  induction n generalizing r with
  | zero => rfl
  | succ n ih =>
    show _ :: lns K m (r - 1) n = blk K.L 0 _ :: (lnH K m (r - 1) n).map (blk K.L 0)
    rw [ih]
    unfold blk
    rw [if_neg (Nat.not_lt_zero _)]
theorem pgs_eq (K : Kn) : pgs K = (pgH K).map (blk K.L 0) := by
  unfold pgs pgH
  simp only [List.map_append, lns_eq]
theorem beq9 {k : Nat} (h : k < 9) : Nat.beq k 9 = false := by
  cases e : Nat.beq k 9 with
  | false => rfl
  | true => have := Nat.eq_of_beq_eq_true e; omega
theorem pgk_lt (K : Kn) (k : Nat) (h : k < 10) : pgk K k = ((pgH K).map (blk K.L k)).flatten := by
  cases k with
  | zero => show (pgs K).flatten = _; rw [pgs_eq]
  | succ k =>
    show (match Nat.beq k 9 with | true => ((pgH K).map (fin1 K.L)).flatten | false => ((pgH K).map (blk K.L (k + 1))).flatten) = _
    rw [beq9 (by omega)]
theorem pg_bs (K : Kn) (h : Sn K.L) (hD : ∀ a b, a < 3 → b < 3 → K.L a = K.L b → a = b) (k : Nat) (hk : k < 10) : ∃ bs, okB (oldP K.L k) bs ∧ flat bs = pgk K k ∧ cutB bs = psk K k ∧ subst (newP K.L k) bs = pgk K (k + 1) ∧ bs.length ≤ 90 := by
  by_cases h9 : k = 9
  · subst h9
    refine ⟨qB K.L (pgH K), qB_ok K.L h _, ?_, ?_, ?_, ?_⟩
    · rw [flat_qB _ _ (pgH_in3 K), pgk_lt K 9 (by omega)]
    · rw [cut_qB]; rfl
    · show subst [] _ = _
      rw [subst_qB]; rfl
    · have key : ∀ p, (qB K.L p).length = 2 * p.length := by
        intro p
        induction p with
        | nil => rfl
        | cons x p ih => show (qB K.L p).length + 1 + 1 = 2 * (p.length + 1); omega
      rw [key, pgH_len]
      omega
  · have h8 : k < 9 := by omega
    have e1 : oldP K.L k = [K.L (k / 3), K.L (k % 3), 10] := by unfold oldP; rw [beq9 h8]
    have e2 : newP K.L k = [K.L (mk3 k), 9] := by unfold newP; rw [beq9 h8]
    refine ⟨pB K.L k (pgH K), ?_, ?_, ?_, ?_, ?_⟩
    · rw [e1]; exact pB_ok K.L h hD k h8 _ (pgH_in3 K)
    · rw [flat_pB, pgk_lt K k hk]
    · rw [← cut_eq]; unfold psk; rw [beq9 h8]
    · rw [e2, subst_pB _ _ h8 _ (pgH_in3 K), pgk_lt K (k + 1) (by omega)]
    · unfold pB
      rw [List.length_map, pgH_len]
      omega
theorem flat_le (f : (Nat × Nat) → List Nat) (hf : ∀ x, (f x).length ≤ 3) (p : List (Nat × Nat)) : ((p.map f).flatten).length ≤ 3 * p.length := by
  induction p with
  | nil => simp
  | cons x p ih =>
    have := hf x
    simp only [List.map_cons, List.flatten_cons, List.length_append, List.length_cons]
    omega
theorem blk_len (L : Nat → Nat) (k : Nat) (x : Nat × Nat) : (blk L k x).length ≤ 3 := by unfold blk; split <;> simp
theorem pgk_len (K : Kn) (k : Nat) (h : k ≤ 10) : (pgk K k).length ≤ 135 := by
  by_cases h9 : k = 10
  · subst h9
    have e : pgk K 10 = ((pgH K).map (fin1 K.L)).flatten := rfl
    rw [e]
    have := flat_le (fin1 K.L) (fun x => by simp [fin1]) (pgH K)
    rw [pgH_len] at this
    omega
  · rw [pgk_lt K k (by omega)]
    have := flat_le (blk K.L k) (blk_len K.L k) (pgH K)
    rw [pgH_len] at this
    omega
theorem cutB_len (bs : List (List Nat × Bool)) : (cutB bs).length ≤ bs.length + 1 := by
  induction bs with
  | nil => simp [cutB]
  | cons q bs ih =>
    obtain ⟨b, m⟩ := q
    cases m with
    | true => simp only [cutB, List.length_cons]; omega
    | false =>
      cases hc : cutB bs with
      | nil => simp [cutB, hc]
      | cons q qs => rw [hc] at ih; simp only [cutB, hc, List.length_cons] at ih ⊢; omega
theorem cutB_mem (bs : List (List Nat × Bool)) : ∀ p ∈ cutB bs, p.length ≤ (flat bs).length := by
  induction bs with
  | nil => intro p hp; simp only [cutB, List.mem_singleton] at hp; subst hp; simp
  | cons q bs ih =>
    obtain ⟨b, m⟩ := q
    have e : (flat ((b, m) :: bs)).length = b.length + (flat bs).length := by simp [flat]
    rw [e]
    intro p hp
    cases m with
    | true =>
      rcases List.mem_cons.mp hp with rfl | hp
      · simp
      · have := ih p hp; omega
    | false =>
      cases hc : cutB bs with
      | nil => exact absurd hc (cutB_ne bs)
      | cons q qs =>
        rw [hc] at ih
        simp only [cutB, hc] at hp
        rcases List.mem_cons.mp hp with rfl | hp
        · have := ih q List.mem_cons_self
          simp only [List.length_append]; omega
        · have := ih p (List.mem_cons_of_mem _ hp); omega
theorem offs_old (y : List Nat) (bs : List (List Nat × Bool)) (hb : okB y bs) (i : Nat) (h : offs i bs ≠ []) : y.length ≤ (flat bs).length := by
  induction bs generalizing i with
  | nil => exact absurd rfl h
  | cons q bs ih =>
    obtain ⟨b, m⟩ := q
    have e : (flat ((b, m) :: bs)).length = b.length + (flat bs).length := by simp [flat]
    rw [e]
    cases m with
    | true => have : b = y := hb.1; rw [this]; omega
    | false => have := ih hb.2 _ h; omega
theorem oldP_kind (L : Nat → Nat) (h : Sn L) (k : Nat) : strKind ⟨⟨oldP L k⟩⟩ = 1 := by
  have h1 := (h (k / 3)).1
  have h2 := (h (k % 3)).1
  have : ((⟨oldP L k⟩ : Array Nat).all (· < 256)) = true := by
    unfold oldP
    cases Nat.beq k 9 with
    | true => simp
    | false => simp; omega
  unfold PySem.Builtin.Str.strKind
  rw [if_pos this]
theorem kind_pos (s : Str) : 1 ≤ strKind s := by
  unfold PySem.Builtin.Str.strKind
  split
  · exact Nat.le_refl _
  · split <;> omega
theorem th3_back (a b : Nat) (ha : a < 3) (hb : b < 3) : th3 (th3 a b) a = b := by
  have key : ∀ a b : Fin 3, th3 (th3 a.1 b.1) a.1 = b.1 := by decide +kernel
  exact key ⟨a, ha⟩ ⟨b, hb⟩
theorem lnH_side (K : Kn) (m r n : Nat) (h : n ≤ r) : ((lnH K m r n).map (fin1 K.L)).flatten = sdr K (m + 1) (r - 1) n := by
  induction n generalizing r with
  | zero => rfl
  | succ n ih =>
    obtain ⟨r, rfl⟩ : ∃ r', r = r' + 1 := ⟨r - 1, by omega⟩
    show [K.L (th3 (Dh K.X (r + 1) m) (Dh K.X r m))] ++ ((lnH K m r n).map (fin1 K.L)).flatten = K.L (Dh K.X r (m + 1)) :: sdr K (m + 1) (r - 1) n
    rw [ih r (by omega)]
    have e : Dh K.X (r + 1) m = th3 (Dh K.X r m) (Dh K.X r (m + 1)) := rfl
    rw [e, th3_back _ _ (Dh_lt _ _ _) (Dh_lt _ _ _)]
    rfl
theorem repLaw (K : Kn) (h : Sn K.L) (hD : ∀ a b, a < 3 → b < 3 → K.L a = K.L b → a = b) : RepLaw K := by
  have occ : ∀ k, k < 10 → ∃ bs, okB (oldP K.L k) bs ∧ flat bs = pgk K k ∧ cutB bs = psk K k ∧ subst (newP K.L k) bs = pgk K (k + 1) ∧ bs.length ≤ 90 ∧ occurrences ⟨⟨pgk K k⟩⟩ ⟨⟨oldP K.L k⟩⟩ 0 (pgk K k).length ((pgk K k).length + 1) = offs 0 bs ∧ partsBetween ⟨⟨pgk K k⟩⟩ (offs 0 bs) (oldP K.L k).length = (psk K k).map fun p => (⟨⟨p⟩⟩ : Str) := by
    intro k hk
    obtain ⟨bs, h1, h2, h3, h4, h5⟩ := pg_bs K h hD k hk
    have z1 := occ_blocks (oldP K.L k) (oldP_ne _ _) bs h1
    have z2 := parts_blocks (oldP K.L k) bs h1
    rw [h2] at z1 z2
    rw [h3] at z2
    exact ⟨bs, h1, h2, h3, h4, h5, z1, z2⟩
  refine ⟨fun k hk e => ?_, fun k hk e => ?_, fun k hk => ?_, fun k hk => ?_, fun k hk => ?_, fun k hk => ?_, ?_⟩
  · obtain ⟨bs, h1, h2, h3, h4, h5, z1, z2⟩ := occ k hk
    rw [z1] at e
    rw [e, parts_eq] at z2
    have z3 : partsL (pgk K k) (oldP K.L k).length 0 [] = psk K k := by
      have inj : Function.Injective fun p : List Nat => (⟨⟨p⟩⟩ : Str) := fun a b e => by injection e with e; injection e
      exact (List.map_inj_right (fun a b e => inj e)).mp z2
    rw [← z3]
    simp [partsL]
  · obtain ⟨bs, h1, h2, h3, h4, h5, z1, z2⟩ := occ k hk
    rw [z1] at e ⊢
    refine ⟨?_, z2⟩
    have hl := offs_old _ bs h1 0 e
    rw [h2] at hl
    have hk1 := oldP_kind K.L h k
    have hk2 := kind_pos ⟨⟨pgk K k⟩⟩
    rw [hk1, decide_eq_false (by omega), decide_eq_false (by omega)]
    rfl
  · have := pgk_len K k hk; omega
  · obtain ⟨bs, h1, h2, h3, h4, h5, z1, z2⟩ := occ k hk
    have := cutB_len bs
    rw [h3] at this
    omega
  · obtain ⟨bs, h1, h2, h3, h4, h5, z1, z2⟩ := occ k hk
    have z := cutB_mem bs
    rw [h3, h2] at z
    intro p hp
    have := z p hp
    have := pgk_len K k (by omega)
    omega
  · obtain ⟨bs, h1, h2, h3, h4, h5, z1, z2⟩ := occ k hk
    have z := glued_cut (newP K.L k) bs
    rw [h3, h4] at z
    exact z
  · have e : pgk K 10 = sidesT K := by
      have e0 : pgk K 10 = ((pgH K).map (fin1 K.L)).flatten := rfl
      rw [e0]
      unfold pgH sidesT sd
      simp only [List.map_append, List.flatten_append, List.append_nil]
      rw [lnH_side K 0 9 9 (by omega), lnH_side K 1 8 8 (by omega), lnH_side K 2 7 7 (by omega), lnH_side K 3 6 6 (by omega), lnH_side K 4 5 5 (by omega), lnH_side K 5 4 4 (by omega), lnH_side K 6 3 3 (by omega), lnH_side K 7 2 2 (by omega), lnH_side K 8 1 1 (by omega)]
    rw [e]
    simp
end Mine
namespace Mine
open PySem PySem.W PySem.W.X PySem.Spec PySem.Calls PyProof.Rows
theorem ringN_sn (e : Nat) : ringN e < 128 ∧ ringN e ≠ 9 ∧ ringN e ≠ 10 := by
  match e with
  | 0 | 1 | 2 | 3 | 4 | 5 | 6 => decide
  | _ + 7 => exact ⟨by show 39 < 128; omega, by show 39 ≠ 9; omega, by show 39 ≠ 10; omega⟩
theorem ringN_inj (a b : Nat) (ha : a < 8) (hb : b < 8) (h : ringN a = ringN b) : a = b := by
  have key : ∀ a b : Fin 8, ringN a.1 = ringN b.1 → a = b := by decide +kernel
  exact congrArg Fin.val (key ⟨a, ha⟩ ⟨b, hb⟩ h)
noncomputable def Lt8 (o : Nat) (k : Nat) : Nat := ringN ((o + k) % 8)
theorem Lt8_rg (o k : Nat) : Rg (Lt8 o k) := ⟨(o + k) % 8, Nat.mod_lt _ (by omega), rfl⟩
theorem Lt8_sn (o : Nat) : Sn (Lt8 o) := fun k => ringN_sn _
theorem Lt8_inj (o a b : Nat) (ha : a < 3) (hb : b < 3) (h : Lt8 o a = Lt8 o b) : a = b := by
  have := ringN_inj _ _ (Nat.mod_lt _ (by omega)) (Nat.mod_lt _ (by omega)) h
  omega
theorem Lt8_dist (o : Nat) : Dist (Lt8 o) :=
  ⟨fun h => by have := Lt8_inj o 0 1 (by omega) (by omega) h; omega, fun h => by have := Lt8_inj o 0 2 (by omega) (by omega) h; omega, fun h => by have := Lt8_inj o 1 2 (by omega) (by omega) h; omega⟩
theorem ring_hm (tot : Int) (k : Nat) : (tot.fdiv 3 + Int.ofNat k).fmod 8 = Int.ofNat ((((tot.fdiv 3).fmod 8).toNat + k) % 8) := by
  rw [Int.fmod_eq_emod_of_nonneg _ (by omega), Int.fmod_eq_emod_of_nonneg _ (by omega)]
  simp only [Int.ofNat_eq_natCast]
  omega
section
variable {V : XV} {P : Params} {b : Bool} {scr : Obj}
theorem body13 (O : VO V P b scr) {κ : Kont} (hR : Rm V κ 400) (R : Lst) (o : Nat) (K : Kn) (hL : K.L = Lt8 o) (TS : Nat → Tok) (j n : Nat) (hv : K.vs = rv (rem K.L K.X 10) TS j) (hk : K.k = Kl K.L K.X 10)
    (E : ∀ r, Rr V (chR r) κ (.ok (.ret (.bool true))) R) :
    LG V P κ R (chR K.r) (l13 (nmZ P) fnZ cdZ (strF P) K.ad K.tot K.tk K.L K.X K.T K.TR K.r K.vs K.n K.k K.kt) 13 := by
  have hD : Dist K.L := by rw [hL]; exact Lt8_dist o
  have hP : ∀ a t a' t' a'' t'', RepLaw (((K.up a t).up a' t').up a'' t'') := fun a t a' t' a'' t'' => repLaw _ (by show Sn K.L; rw [hL]; exact Lt8_sn o) (by show ∀ a b, a < 3 → b < 3 → K.L a = K.L b → a = b; rw [hL]; exact Lt8_inj o)
  refine sF13 O hR K R fun a t => ?_
  refine sF14 O hR (K.up a t) R fun a' t' => ?_
  refine sF15 O hR ((K.up a t).up a' t') R fun a'' t'' => ?_
  have hP' := hP a t a' t' a'' t''
  have hD' : Dist (((K.up a t).up a' t').up a'' t'').L := hD
  have hv' : (((K.up a t).up a' t').up a'' t'').vs = rv (rem (((K.up a t).up a' t').up a'' t'').L (((K.up a t).up a' t').up a'' t'').X 10) TS j := hv
  have hk' : (((K.up a t).up a' t').up a'' t'').k = Kl (((K.up a t).up a' t').up a'' t'').L (((K.up a t).up a' t').up a'' t'').X 10 := hk
  have hr' : (((K.up a t).up a' t').up a'' t'').r = K.r := rfl
  show LG V P κ R (chR (((K.up a t).up a' t').up a'' t'').r) _ 18
  generalize ((K.up a t).up a' t').up a'' t'' = K' at hP' hD' hv' hk' ⊢
  clear hr' hP hv hk hD hL
  refine sF18 O hR K' hD' R fun q => ?_
  refine sF21 O hR K' hD' q R fun p => ?_
  rw [hv', hk']
  refine sF22 O hR K' q p (pend K'.X 10) (pend_or _ _) TS j K'.n (Kl K'.L K'.X 10) K'.kt R fun kt => ?_
  refine sF23 O hR K' q p _ _ kt (nlN K'.L K'.X) (nl_count _ _) (nl_line _ _) R fun t => ?_
  refine sF25 O hR K' (binLaw _) q p t _ _ kt R fun t1 t2 => ?_
  refine sF26 O hR K' hD' (lucLaw _) q p t1 _ R fun u => ?_
  refine sF27 O hR K' q p u _ _ _ R fun v => ?_
  refine sF28 O hR K' q p u v _ _ _ R fun pk pt => ?_
  exact sF29 O hR K' hP' q p u v _ _ _ pk pt R (E _)
theorem body4 (O : VO V P b scr) {κ : Kont} (hR : Rm V κ 400) (R : Lst) (o : Nat) (ad tk : Nat → Nat) (tot : Int) (X : Nat → Int) (T : Nat → Tok)
    (E : ∀ r, Rr V (chR r) κ (.ok (.ret (.bool true))) R) :
    LG V P κ R [] (l4 (nmZ P) ad tot tk (Lt8 o) X T) 4 := by
  have hL := Lt8_rg o
  refine sD O hR ad tk tot (Lt8 o) X T R fun ad tk TN => ?_
  refine sE O hR ad tk tot (Lt8 o) hL X T TN R fun ad tk => ?_
  refine sF7 O hR ad tk tot (Lt8 o) hL X T TN R fun ad tk TS => ?_
  have hn : (chV (tz (Lt8 o) X) TS 2).length ≤ 100000 := by
    rw [chV_len]
    have h1 := txt_len (Lt8 o) X 10
    unfold tz
    rw [List.length_append]
    simp only [List.length_cons, List.length_nil]
    omega
  refine sF8 O hR ad tk tot (Lt8 o) X T TN _ _ hn R ?_
  rw [rv_eq, tz_rem]
  refine sF9 O hR ad tk tot (Lt8 o) X T TN _ _ R fun r kt => ?_
  refine sF10 O hR ad tk tot (Lt8 o) hL X T TN TS r _ kt R fun ad tk TR kt => ?_
  refine sF11 O hR ad tk tot (Lt8 o) X T TN TR r _ _ _ kt R fun tk => ?_
  exact body13 O hR R o ⟨ad, tot, tk, Lt8 o, X, T, TR, r, rv (rem (Lt8 o) X 10) TS (Jt (Lt8 o) X 10), _, _, kt⟩ rfl TS _ 0 rfl rfl E
end
end Mine
namespace Mine
open PySem PySem.W PySem.W.X PySem.Spec PySem.Calls PyProof.Rows
noncomputable def vInt' (vs : List Value) (k : Nat) : Int := match vs[k]? with | some (.int x _) => x | _ => 0
noncomputable def vTok' (vs : List Value) (k : Nat) : Tok := match vs[k]? with | some (.int _ t) => t | _ => 0
theorem ints_at {vs : List Value} {ns : List Int} (h : IntsAre vs ns) (k : Nat) (hk : k < vs.length) : vs[k]? = some (.int (vInt' vs k) (vTok' vs k)) := by
  induction h generalizing k with
  | nil => exact absurd hk (Nat.not_lt_zero _)
  | @cons n t vs ns hi ih =>
    cases k with
    | zero => rfl
    | succ k => exact ih k (by simpa using hk)
section
variable {V : XV} {P : Params} {b : Bool} {vs : List Value}
theorem body0 (O : VO V P b (scrO vs)) {κ : Kont} (hR : Rm V κ 400) {ns : List Int} (hi : IntsAre vs ns) (hf : vs.length < 1000000) (hl : ∀ h ch R, Mm V h ch ([] ++ R) → h.IsList 139 vs.toArray) (R : Lst)
    (E : ∀ r, Rr V (chR r) κ (.ok (.ret (.bool true))) R) :
    G V [] (.call (.ref 138) ⟨[.ref 139],[]⟩) κ (dn (.call (.ref 138) ⟨[.ref 139],[]⟩)) ([] ++ R) := by
  refine sA O hR hi hl R fun ad tk => ?_
  refine sB O hR ad tk ns.sum ((ns.sum.fdiv 3).fmod 8).toNat (ring_hm _) R fun ad tk => ?_
  refine sC0 O hR ad tk ns.sum (Lt8 ((ns.sum.fdiv 3).fmod 8).toNat) (vInt' vs) (vTok' vs) R (vLen hf hl) (fun ad tk X T => body4 O hR R _ ad tk _ X T E) (min 10 vs.length) (Nat.min_le_left _ _) (fun k t u => ?_) (fun k t h => ?_)
  · refine vLt _ _ _ _ _ ?_
    unfold rOf
    simp only [Int.ofNat_eq_natCast, Int.ofNat_lt]
    cases h10 : Nat.blt k 10 with
    | false => rfl
    | true =>
      have h1 : k < 10 := Nat.le_of_ble_eq_true h10
      show decide (k < vs.length) = Nat.blt k (min 10 vs.length)
      cases h : Nat.blt k (min 10 vs.length) with
      | true =>
        have : k < min 10 vs.length := Nat.le_of_ble_eq_true h
        exact decide_eq_true (by omega)
      | false =>
        have : ¬ k < min 10 vs.length := by
          intro q
          have : Nat.blt k (min 10 vs.length) = true := Nat.ble_eq_true_of_le q
          rw [h] at this
          cases this
        exact decide_eq_false (by omega)
  · have hk : k < min 10 vs.length := Nat.le_of_ble_eq_true h
    exact vIdx (by omega) (ints_at hi k (by omega)) hl
end
end Mine
namespace Mine
open PySem PySem.W PySem.W.X PySem.Spec PySem.Calls PyProof.Rows
theorem vo_top {V : XV} {vs : List Value} (hp : V.prog = PySem.Challenge.pw_pu0026_01) (ZH : KT.Holds V.h₀ 1 0 (ktop V.w.params)) (hobj : V.h₀.get? 139 = some (scrO vs)) : VO V V.w.params (V.w.params.followText "comprehension-iter-twice") (scrO vs) := by
  have H : KT.Holds V.h₀ 1 0 (ktm V.w.params (scrO vs)) := KT.Holds.put 40 ZH hobj
  refine ⟨?_, fun a o e => kt_at H e, fun a ps e => tabs_ok (l := tabs0) ⟨table_kt H (c := 111) (o := zo111 V.w.params) (vs := match (zo111 V.w.params).data with | .fields vs => vs | _ => #[]) (by kernel_rfl) (by kernel_rfl) (by kernel_rfl) (by kernel_rfl), trivial⟩ a ps e, fun h' hk => ?_⟩
  · have z := setP_eq V.w.params
    cases e : V.w.params.followText "special-get-raises" with
    | true => rw [e] at z; left; rw [hp]; exact z
    | false => rw [e] at z; right; rw [hp]; exact z
  · have e2 : (ktm V.w.params (scrO vs)).get 2 = some { cls := .none, data := .dict #[] } := by kernel_rfl
    exact ⟨fun n => nsFind #[] n, ⟨{ cls := .none, data := .dict #[] }, #[],0, hk 2 _ (kt_at H e2) rfl, rfl, fun e he => (by simp at he), fun _ => rfl⟩, rfl⟩
theorem law_top {w : World} {s₁ : Shared} {vs : List Value} {ns : List Int} {c : ClaimW} {cl : Str → Option Addr} {mean : ExcName → Option Value} {args : List WData} (hi : IntsAre vs ns) (hf : vs.length < 1000000)
    (hobj : s₁.heap.get? 139 = some { cls := .type "list", data := .seq vs.toArray }) (ZH : KT.Holds s₁.heap 1 0 (ktop w.params)) (hg : s₁.gens = #[]) (hr : ∀ cls, c.raises args cls = false) (hp : c.post args (.bool true) args = true) :
    wpAny (model PySem.Challenge.pw_pu0026_01 w) callerA (PySem.call (.ref 138) [.ref 139]) (fun v s' => GoodWG c cl mean args s₁ (.ok (.ret v)) s') (fun e s' => GoodWG c cl mean args s₁ (.error e) s') s₁ := by
  obtain ⟨h, g, d, t, os⟩ := s₁
  subst hg
  have hob : h.get? 139 = some (scrO vs) := by
    refine Eq.trans hobj ?_
    show _ = some ({ cls := .type SZ.s9222952809800978799x4, data := .seq ⟨vs⟩ 0 } : Obj)
    rw [sz_list]
  refine wpAny_call (codeAny_of_own ?_)
  let V : XV := ⟨PySem.Challenge.pw_pu0026_01, w, h, 140, .nil, [], callerA, (fun r s' => match r with | .ok (.ret v) => GoodWG c cl mean args ⟨h, #[], d, t, os⟩ (.ok (.ret v)) s' | .ok _ => False | .error e => GoodWG c cl mean args ⟨h, #[], d, t, os⟩ (.error e) s'), d, t, os⟩
  have O : VO V w.params (w.params.followText "comprehension-iter-twice") (scrO vs) := vo_top (V := V) rfl ZH hob
  have hR : Rm V .base 400 := ⟨by show callerA.depth + callerA.units ≤ 400; decide, rfl⟩
  have hl : ∀ h' ch R, Mm V h' ch ([] ++ R) → h'.IsList 139 vs.toArray := fun h' ch R D => by
    have e : h'.get? 139 = some (scrO vs) := D.keep 139 _ hob (by
      show (notTab (scrO vs) || _) = true
      rfl)
    exact ⟨scrO vs, e, by show Value.type SZ.s9222952809800978799x4 = _; rw [sz_list],0, rfl⟩
  have z := body0 O hR hi hf hl [] fun r hh i D => by
    show GoodWG c cl mean args ⟨h, #[], d, t, os⟩ (.ok (.ret (.bool true))) ⟨hh, ⟨[]⟩, d, i, os⟩
    exact ⟨.inl ⟨_, _, [], rfl, hr, ReadsW.bool true, hp, fun _ => ⟨List.nodup_nil, fun _ hm => (nomatch hm)⟩⟩, Mm.oldK (V := V) D, rfl, AllBare.empty⟩
  have m0 : Mm V h [] ([] ++ []) := ⟨fun b o e _ => e, fun a vs e => (nomatch e), fun p hp => (nomatch hp), List.nodup_nil⟩
  have y := z h t m0
  rw [← dn_eq] at y
  exact wpOwn_mono y (fun fin s' q => by cases fin <;> exact q) (fun _ _ q => q)
end Mine
open PySem PySem.W PySem.W.X PySem.W.ZRun PyProof.Rows
theorem PySem.Challenge.cw_pu0026_01_holds : PySem.Challenge.rw_pu0026_01.Holds := by
  w_on
  o_law
  z_head
  case hw => w_witness2
  k_fill
  intro w s₀ s₁ mg mb G y fa o pm cd doc dV kV ho hd hcd hD hmg hg args vals as L hpre hlay hrd hwl hlo
  z_open y L KX ZH ZN ZT
  refine Ground.open G ?_
  intro T B D TE TW
  wrow_args hpre hlay hrd hwl hlo
  obtain ⟨hat, hsz⟩ := script_at L
  have htk := script_toks L ZT
  rw [ZN] at hat hsz
  subst hat
  x_fa T KX hmg
  all_lens
  clear hmg hd hcd hD y
  refine Mine.law_top (by assumption) (by omega) (script_obj L (by assumption)) (Eq.mp (congrArg (KT.Holds s₁.heap 1 0) ?zheap) ZH) hg (fun _ => rfl) ?zpost
  case zheap => kernel_rfl
  case zpost => kernel_rfl
