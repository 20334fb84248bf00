import PyProof.Rows.All
import Wide.All
import OpenK.AllK
import Wide.FinOn
import PySem.Challenge.RW_rx0126_02
set_option Elab.async false
set_option maxRecDepth 100000
set_option autoImplicit false
set_option linter.all false
set_option genSizeOfSpec false
noncomputable section
namespace Sh
open PySem PySem.Calls PyProof.Rows PySem.W
/- values and mutable objects of the shadow -/
inductive PV where
  | none | bool (b : Bool) | int (i : Int) | str (x : Str) | byt (b : Array UInt8)
  | tup (l : List PV) | lst (l : List PV) | rng (a b c : Int)
  | loc (n : Nat) | strm (n : Nat) | app (n : Nat)
inductive PO where
  | lst (l : List PV) | plain | sdict (b : Array UInt8)
abbrev St := List PO
abbrev Fm := List (Option PV)
/- where the mutable objects lie; what no value points to -/
structure Wd where
  mu : List Addr
  ex : List Addr
noncomputable def Tbl (o : Obj) : Prop := o.cls = .none ∧ ∃ vs, o.data = .fields vs
noncomputable def Dic (o : Obj) : Prop := ∃ es n, o.data = .dict es n
noncomputable def Fz (ω : Wd) (h : Heap) (a : Addr) (o : Obj) : Prop := a ∉ ω.mu ∧ a ∉ ω.ex ∧ h.get? a = some o ∧ ¬ Dic o ∧ ¬ Tbl o
theorem seq_frz {o : Obj} {vs : Array Value} {n : Nat} (hd : o.data = .seq vs n) : ¬ Dic o ∧ ¬ Tbl o := by
  refine ⟨?_, ?_⟩ <;> simp [hd, Dic, Tbl]
theorem fields_frz {o : Obj} {T : String} {vs : Array Value} (hc : o.cls = .type T) (hd : o.data = .fields vs) : ¬ Dic o ∧ ¬ Tbl o := by
  refine ⟨?_, ?_⟩ <;> simp [hd, hc, Dic, Tbl]
theorem inst_frz (C d : Addr) : ¬ Dic (instObj C d) ∧ ¬ Tbl (instObj C d) := by
  refine ⟨?_, ?_⟩ <;> simp [Dic, Tbl]
noncomputable def LC (o : Obj) : Prop := o.cls = .type "list" ∧ o.dict = none ∧ o.slots = #[]
noncomputable def appObj (l : Addr) : Obj := { cls := .type "builtin_function_or_method", dict := none, data := .fields #[.builtin "list.append", .ref l], slots := #[] }
mutual
noncomputable def VR (C : Addr) (ω : Wd) (h : Heap) : PV → Value → Prop
  | .none, v => v = .none
  | .bool b, v => v = .bool b
  | .int i, v => ∃ t, v = .int i t
  | .str x, v => ∃ t, v = .str x t
  | .byt b, v => ∃ t, v = .bytes b t
  | .tup l, v => ∃ a o vs n, v = .ref a ∧ Fz ω h a o ∧ o.cls = .type "tuple" ∧ o.data = .seq vs n ∧ VRs C ω h l vs.toList
  | .lst l, v => ∃ a o vs n, v = .ref a ∧ Fz ω h a o ∧ o.cls = .type "list" ∧ o.data = .seq vs n ∧ VRs C ω h l vs.toList
  | .rng a b c, v => ∃ r o t u w, v = .ref r ∧ Fz ω h r o ∧ o = { cls := .type "range", dict := none, data := .fields #[.int a t, .int b u, .int c w], slots := #[] }
  | .loc n, v => ∃ a, v = .ref a ∧ ω.mu[n]? = some a
  | .strm n, v => ∃ a d, v = .ref a ∧ Fz ω h a (instObj C d) ∧ ω.mu[n]? = some d
  | .app n, v => ∃ q a, v = .ref q ∧ Fz ω h q (appObj a) ∧ ω.mu[n]? = some a
noncomputable def VRs (C : Addr) (ω : Wd) (h : Heap) : List PV → List Value → Prop
  | [], vs => vs = []
  | p :: ps, vs => ∃ v r, vs = v :: r ∧ VR C ω h p v ∧ VRs C ω h ps r
end
section
variable {C : Addr} {ω : Wd} {h : Heap} {v : Value} {P : Value → Prop} {Ps : List Value → Prop} {vs : List Value} {p q r : PV}
@[elab_as_elim] theorem VR.none_el (x : VR C ω h .none v) (k : P .none) : P v := by cases (show v = _ from x); exact k
@[elab_as_elim] theorem VR.bool_el {b : Bool} (x : VR C ω h (.bool b) v) (k : P (.bool b)) : P v := by cases (show v = _ from x); exact k
@[elab_as_elim] theorem VR.int_el {i : Int} (x : VR C ω h (.int i) v) (k : ∀ t, P (.int i t)) : P v := let ⟨t, e⟩ := (show ∃ t, _ from x); e ▸ k t
@[elab_as_elim] theorem VR.str_el {i : Str} (x : VR C ω h (.str i) v) (k : ∀ t, P (.str i t)) : P v := let ⟨t, e⟩ := (show ∃ t, _ from x); e ▸ k t
@[elab_as_elim] theorem VR.byt_el {i : Array UInt8} (x : VR C ω h (.byt i) v) (k : ∀ t, P (.bytes i t)) : P v := let ⟨t, e⟩ := (show ∃ t, _ from x); e ▸ k t
@[elab_as_elim] theorem VR.tup_el {l : List PV} (x : VR C ω h (.tup l) v) (k : ∀ a o vs n, Fz ω h a o → o.cls = .type "tuple" → o.data = .seq vs n → VRs C ω h l vs.toList → P (.ref a)) : P v := by
  obtain ⟨a, o, vs, n, rfl, f, c, d, r⟩ := x; exact k a o vs n f c d r
@[elab_as_elim] theorem VR.lst_el {l : List PV} (x : VR C ω h (.lst l) v) (k : ∀ a o vs n, Fz ω h a o → o.cls = .type "list" → o.data = .seq vs n → VRs C ω h l vs.toList → P (.ref a)) : P v := by
  obtain ⟨a, o, vs, n, rfl, f, c, d, r⟩ := x; exact k a o vs n f c d r
@[elab_as_elim] theorem VR.rng_el {a b c : Int} (x : VR C ω h (.rng a b c) v) (k : ∀ r t u w, Fz ω h r { cls := .type "range", dict := none, data := .fields #[.int a t, .int b u, .int c w], slots := #[] } → P (.ref r)) : P v := by
  obtain ⟨r, o, t, u, w, rfl, f, rfl⟩ := x; exact k r t u w f
@[elab_as_elim] theorem VR.loc_el {n : Nat} (x : VR C ω h (.loc n) v) (k : ∀ a, ω.mu[n]? = some a → P (.ref a)) : P v := by obtain ⟨a, rfl, i⟩ := x; exact k a i
@[elab_as_elim] theorem VR.strm_el {n : Nat} (x : VR C ω h (.strm n) v) (k : ∀ a d, Fz ω h a (instObj C d) → ω.mu[n]? = some d → P (.ref a)) : P v := by obtain ⟨a, d, rfl, f, i⟩ := x; exact k a d f i
@[elab_as_elim] theorem VR.app_el {n : Nat} (x : VR C ω h (.app n) v) (k : ∀ q a, Fz ω h q (appObj a) → ω.mu[n]? = some a → P (.ref q)) : P v := by obtain ⟨a, d, rfl, f, i⟩ := x; exact k a d f i
theorem VR.int_in {i : Int} {t : Tok} : VR C ω h (.int i) (.int i t) := show ∃ u, Value.int i t = .int i u from ⟨t, rfl⟩
theorem VR.str_in {i : Str} {t : Tok} : VR C ω h (.str i) (.str i t) := show ∃ u, Value.str i t = .str i u from ⟨t, rfl⟩
theorem VR.byt_in {i : Array UInt8} {t : Tok} : VR C ω h (.byt i) (.bytes i t) := show ∃ u, Value.bytes i t = .bytes i u from ⟨t, rfl⟩
theorem VR.none_in : VR C ω h .none .none := rfl
theorem VR.bool_in {b : Bool} : VR C ω h (.bool b) (.bool b) := rfl
theorem VR.tup_in {l : List PV} {a : Addr} {o : Obj} {vs : Array Value} {n : Nat} (f : Fz ω h a o) (c : o.cls = .type "tuple") (d : o.data = .seq vs n) (r : VRs C ω h l vs.toList) : VR C ω h (.tup l) (.ref a) := by refine (?_ : ∃ _ _ _ _, _); exact ⟨a, o, vs, n, rfl, f, c, d, r⟩
theorem VR.lst_in {l : List PV} {a : Addr} {o : Obj} {vs : Array Value} {n : Nat} (f : Fz ω h a o) (c : o.cls = .type "list") (d : o.data = .seq vs n) (r : VRs C ω h l vs.toList) : VR C ω h (.lst l) (.ref a) := by refine (?_ : ∃ _ _ _ _, _); exact ⟨a, o, vs, n, rfl, f, c, d, r⟩
theorem VR.rng_in {a b c : Int} {r : Addr} {t u w : Tok} (f : Fz ω h r { cls := .type "range", dict := none, data := .fields #[.int a t, .int b u, .int c w], slots := #[] }) : VR C ω h (.rng a b c) (.ref r) := by refine (?_ : ∃ _, _); exact ⟨r, _, t, u, w, rfl, f, rfl⟩
theorem VR.loc_in {n : Nat} {a : Addr} (i : ω.mu[n]? = some a) : VR C ω h (.loc n) (.ref a) := by refine (?_ : ∃ _, _); exact ⟨a, rfl, i⟩
theorem VR.strm_in {n : Nat} {a d : Addr} (f : Fz ω h a (instObj C d)) (i : ω.mu[n]? = some d) : VR C ω h (.strm n) (.ref a) := by refine (?_ : ∃ _, _); exact ⟨a, d, rfl, f, i⟩
theorem VR.app_in {n : Nat} {q a : Addr} (f : Fz ω h q (appObj a)) (i : ω.mu[n]? = some a) : VR C ω h (.app n) (.ref q) := by refine (?_ : ∃ _, _); exact ⟨q, a, rfl, f, i⟩
@[elab_as_elim] theorem VRs.nil_el (x : VRs C ω h [] vs) (k : Ps []) : Ps vs := by cases (show vs = [] from x); exact k
@[elab_as_elim] theorem VRs.cons_el {l : List PV} (x : VRs C ω h (p :: l) vs) (k : ∀ v r, VR C ω h p v → VRs C ω h l r → Ps (v :: r)) : Ps vs := by obtain ⟨v, r, rfl, a, b⟩ := x; exact k v r a b
@[elab_as_elim] theorem VRs.one_el (x : VRs C ω h [p] vs) (k : ∀ v, VR C ω h p v → Ps [v]) : Ps vs := x.cons_el fun v r a b => VRs.nil_el (Ps := fun r => Ps (v :: r)) b (k v a)
@[elab_as_elim] theorem VRs.two_el (x : VRs C ω h [p, q] vs) (k : ∀ v w, VR C ω h p v → VR C ω h q w → Ps [v, w]) : Ps vs := x.cons_el fun v r a b => VRs.one_el (Ps := fun r => Ps (v :: r)) b fun w c => k v w a c
@[elab_as_elim] theorem VRs.three_el (x : VRs C ω h [p, q, r] vs) (k : ∀ v w u, VR C ω h p v → VR C ω h q w → VR C ω h r u → Ps [v, w, u]) : Ps vs := x.cons_el fun v r a b => VRs.two_el (Ps := fun r => Ps (v :: r)) b fun w u c d => k v w u a c d
theorem VRs.cons_in {l : List PV} {vs : List Value} (a : VR C ω h p v) (b : VRs C ω h l vs) : VRs C ω h (p :: l) (v :: vs) := by refine (?_ : ∃ _, _); exact ⟨v, vs, rfl, a, b⟩
theorem VRs.nil : VRs C ω h [] [] := rfl
theorem VRs.one (x : VR C ω h p v) : VRs C ω h [p] [v] := .cons_in x .nil
end
noncomputable def KO (o : Obj) (r : Option Obj) : Prop := (∃ sl, r = some { o with slots := sl }) ∧ (¬ Dic o → r = some o)
theorem KO.same {o : Obj} {r : Option Obj} (h : r = some o) : KO o r := ⟨⟨o.slots, h⟩, fun _ => h⟩
theorem KO.trans {o : Obj} {h₁ h₂ : Heap} {b : Addr} (x : KO o (h₁.get? b)) (y : ∀ o', h₁.get? b = some o' → ¬ Tbl o' → KO o' (h₂.get? b)) (ht : ¬ Tbl o) : KO o (h₂.get? b) := by
  obtain ⟨⟨sl, e1⟩, e2⟩ := x
  obtain ⟨⟨sl', e3⟩, e4⟩ := y _ e1 ht
  refine ⟨⟨sl', e3⟩, fun hd => ?_⟩
  have q1 := e2 hd
  have := y _ q1 ht
  exact this.2 hd
noncomputable def Kp (mu own : List Addr) (h h' : Heap) : Prop :=
  ∀ b o, h.get? b = some o → ¬ Tbl o → b ∉ mu → b ∉ own → KO o (h'.get? b)
theorem Kp.of_keep {mu own : List Addr} {h h' : Heap} (k : ∀ b o, h.get? b = some o → h'.get? b = some o) : Kp mu own h h' := fun b o e _ _ _ => .same (k b o e)
theorem Kp.of_ext {mu own : List Addr} {h h' : Heap} {a : Addr} (ha : a ∈ mu ∨ a ∈ own) (k : Heap.ExtBut a h h') : Kp mu own h h' :=
  fun b o e _ h1 h2 => .same (k b o (fun q => ha.elim (fun z => h1 (q ▸ z)) fun z => h2 (q ▸ z)) e)
structure Gw (ω : Wd) (own : List Addr) (h : Heap) (ω' : Wd) (h' : Heap) : Prop where
  ext : ∃ e, ω'.mu = ω.mu ++ e ∧ ∀ a ∈ e, h.get? a = none
  ex : ω'.ex = ω.ex
  kp : Kp ω.mu own h h'
  there : ∀ b o, h.get? b = some o → ∃ o', h'.get? b = some o'
namespace Gw
variable {ω ω₁ ω₂ : Wd} {own own' : List Addr} {h h₁ h₂ : Heap}
theorem refl (ω : Wd) (own : List Addr) (h : Heap) : Gw ω own h ω h := ⟨⟨[], by simp, by simp⟩, rfl, .of_keep fun _ _ e => e, fun _ o e => ⟨o, e⟩⟩
theorem of_keep (k : ∀ b o, h.get? b = some o → h₁.get? b = some o) : Gw ω own h ω h₁ := ⟨⟨[], by simp, by simp⟩, rfl, .of_keep k, fun b o e => ⟨o, k b o e⟩⟩
theorem of_ext {a : Addr} (ha : a ∈ ω.mu ∨ a ∈ own) (k : Heap.ExtBut a h h₁) (ht : ∃ o', h₁.get? a = some o') : Gw ω own h ω h₁ :=
  ⟨⟨[], by simp, by simp⟩, rfl, .of_ext ha k, fun b o e => by
    by_cases q : b = a
    · exact q ▸ ht
    · exact ⟨o, k b o q e⟩⟩
theorem idx {i : Nat} {a : Addr} (g : Gw ω own h ω₁ h₁) (ha : ω.mu[i]? = some a) : ω₁.mu[i]? = some a := by
  obtain ⟨e, q, _⟩ := g.ext
  obtain ⟨hi, rfl⟩ := List.getElem?_eq_some_iff.mp ha
  rw [q, List.getElem?_append_left hi]; exact ha
theorem notin {a : Addr} {o : Obj} (g : Gw ω own h ω₁ h₁) (ha : a ∉ ω.mu) (ho : h.get? a = some o) : a ∉ ω₁.mu := by
  obtain ⟨e, q, he⟩ := g.ext
  intro hm
  rw [q] at hm
  rcases List.mem_append.mp hm with q | q
  · exact ha q
  · rw [he a q] at ho; cases ho
theorem weak (g : Gw ω own' h ω₁ h₁) (hs : ∀ a ∈ own', a ∈ own ∨ h.get? a = none) : Gw ω own h ω₁ h₁ :=
  ⟨g.ext, g.ex, fun b o e ht h1 h2 => g.kp b o e ht h1 (fun q => (hs b q).elim h2 fun z => by rw [z] at e; cases e), g.there⟩
theorem trans (g : Gw ω own h ω₁ h₁) (g' : Gw ω₁ own h₁ ω₂ h₂) : Gw ω own h ω₂ h₂ := by
  refine ⟨?_, g'.ex.trans g.ex, fun b o e ht hm ho => ?_, fun b o e => let ⟨o', e'⟩ := g.there b o e; g'.there b o' e'⟩
  · obtain ⟨e, q, he⟩ := g.ext
    obtain ⟨e', q', he'⟩ := g'.ext
    refine ⟨e ++ e', by rw [q', q]; simp, fun a ha => ?_⟩
    rcases List.mem_append.mp ha with q | q
    · exact he a q
    · cases q' : h.get? a with
      | none => rfl
      | some o => obtain ⟨o', e1⟩ := g.there a o q'; rw [he' a q] at e1; cases e1
  · exact (g.kp b o e ht hm ho).trans (fun o' e' ht' => g'.kp b o' e' ht' (g.notin hm e) ho) ht
end Gw
theorem Fz.gw {ω ω' : Wd} {own : List Addr} {h h' : Heap} {a : Addr} {o : Obj} (x : Fz ω h a o) (g : Gw ω own h ω' h') (hs : ∀ a ∈ own, a ∈ ω.ex) : Fz ω' h' a o :=
  ⟨g.notin x.1 x.2.2.1, by rw [g.ex]; exact x.2.1, (g.kp a o x.2.2.1 x.2.2.2.2 x.1 (fun q => x.2.1 (hs a q))).2 x.2.2.2.1, x.2.2.2⟩
/- the one way in which a value's standing is carried over -/
structure Carry (ω : Wd) (h : Heap) (ω' : Wd) (h' : Heap) : Prop where
  fz : ∀ a o, Fz ω h a o → Fz ω' h' a o
  idx : ∀ (i : Nat) (a : Addr), ω.mu[i]? = some a → ω'.mu[i]? = some a
mutual
theorem VR.carry {C : Addr} {ω ω' : Wd} {h h' : Heap} (g : Carry ω h ω' h') : ∀ {p : PV} {v : Value}, VR C ω h p v → VR C ω' h' p v
  | .none, _, x => x
  | .bool _, _, x => x
  | .int _, _, x => x
  | .str _, _, x => x
  | .byt _, _, x => x
  | .tup l, _, x => x.tup_el (P := fun v => VR C ω' h' (.tup l) v) fun _ _ _ _ f c d r => .tup_in (g.fz _ _ f) c d (VRs.carry g r)
  | .lst l, _, x => x.lst_el (P := fun v => VR C ω' h' (.lst l) v) fun _ _ _ _ f c d r => .lst_in (g.fz _ _ f) c d (VRs.carry g r)
  | .rng a b c, _, x => x.rng_el (P := fun v => VR C ω' h' (.rng a b c) v) fun _ _ _ _ f => .rng_in (g.fz _ _ f)
  | .loc n, _, x => x.loc_el (P := fun v => VR C ω' h' (.loc n) v) fun _ i => .loc_in (g.idx _ _ i)
  | .strm n, _, x => x.strm_el (P := fun v => VR C ω' h' (.strm n) v) fun _ _ f i => .strm_in (g.fz _ _ f) (g.idx _ _ i)
  | .app n, _, x => x.app_el (P := fun v => VR C ω' h' (.app n) v) fun _ _ f i => .app_in (g.fz _ _ f) (g.idx _ _ i)
theorem VRs.carry {C : Addr} {ω ω' : Wd} {h h' : Heap} (g : Carry ω h ω' h') : ∀ {ps : List PV} {vs : List Value}, VRs C ω h ps vs → VRs C ω' h' ps vs
  | [], _, x => x
  | p :: ps, _, x => x.cons_el (Ps := fun vs => VRs C ω' h' (p :: ps) vs) fun _ _ a b => .cons_in (VR.carry g a) (VRs.carry g b)
end
theorem Carry.of_gw {ω ω' : Wd} {own : List Addr} {h h' : Heap} (g : Gw ω own h ω' h') (hs : ∀ a ∈ own, a ∈ ω.ex) : Carry ω h ω' h' :=
  ⟨fun _ _ f => f.gw g hs, fun _ _ e => g.idx e⟩
/-- a step at an address that no value points to -/
theorem Carry.of_ex {ω : Wd} {h h' : Heap} {a : Addr} (ha : a ∈ ω.ex) (k : Heap.ExtBut a h h') : Carry ω h ω h' :=
  ⟨fun b o f => ⟨f.1, f.2.1, k b o (fun q => f.2.1 (q ▸ ha)) f.2.2.1, f.2.2.2⟩, fun _ _ e => e⟩
theorem Carry.of_mu {ω : Wd} {h h' : Heap} {a : Addr} (ha : a ∈ ω.mu) (k : Heap.ExtBut a h h') : Carry ω h ω h' :=
  ⟨fun b o f => ⟨f.1, f.2.1, k b o (fun q => f.1 (q ▸ ha)) f.2.2.1, f.2.2.2⟩, fun _ _ e => e⟩
theorem Carry.of_keep {ω : Wd} {h h' : Heap} (k : ∀ b o, h.get? b = some o → h'.get? b = some o) : Carry ω h ω h' :=
  ⟨fun b o f => ⟨f.1, f.2.1, k b o f.2.2.1, f.2.2.2⟩, fun _ _ e => e⟩
/-- fewer addresses barred -/
theorem Carry.less {ω ω' : Wd} {h : Heap} (hm : ω'.mu = ω.mu) (hx : ∀ a ∈ ω'.ex, a ∈ ω.ex) : Carry ω h ω' h :=
  ⟨fun b o f => ⟨by rw [hm]; exact f.1, fun q => f.2.1 (hx b q), f.2.2⟩, fun _ _ e => by rw [hm]; exact e⟩
/-- more addresses barred, all of them new -/
theorem Carry.more {ω ω' : Wd} {h : Heap} (hm : ω'.mu = ω.mu) (hx : ∀ a ∈ ω'.ex, a ∈ ω.ex ∨ h.get? a = none) : Carry ω h ω' h :=
  ⟨fun b o f => ⟨by rw [hm]; exact f.1, fun q => (hx b q).elim f.2.1 (fun z => by rw [f.2.2.1] at z; cases z), f.2.2⟩, fun _ _ e => by rw [hm]; exact e⟩
theorem Carry.trans {ω₁ ω₂ ω₃ : Wd} {h₁ h₂ h₃ : Heap} (x : Carry ω₁ h₁ ω₂ h₂) (y : Carry ω₂ h₂ ω₃ h₃) : Carry ω₁ h₁ ω₃ h₃ :=
  ⟨fun a o f => y.fz a o (x.fz a o f), fun i a e => y.idx i a (x.idx i a e)⟩
/- the dict of a stream, its reading function: said in a later part by SDp -/
structure SDp where
  P : Wd → Heap → Array UInt8 → Addr → Prop
  carry : ∀ {ω ω' h h' b d}, P ω h b d → (∀ a o, Fz ω h a o → Fz ω' h' a o) → (∀ o, h.get? d = some o → h'.get? d = some o) → P ω' h' b d
  live : ∀ {ω h b d}, P ω h b d → (h.get? d).isSome = true
/- what stands fast for the whole law -/
structure Base where
  prog : Program
  w : World
  h₀ : Heap
  mg : Str → Option Value
  mb : Str → Option Value
  os : OsState
  C : Addr
  Z : SDp
  tabs : List (Addr × List (Pos × Str))
noncomputable def OR (B : Base) (ω : Wd) (h : Heap) : PO → Addr → Prop
  | .lst l, a => ∃ o vs n, h.get? a = some o ∧ LC o ∧ o.data = .seq vs n ∧ VRs B.C ω h l vs.toList
  | .plain, a => ∃ o, h.get? a = some o ∧ o.cls = .type "object"
  | .sdict b, d => B.Z.P ω h b d
theorem OR.carry {B : Base} {ω ω' : Wd} {h h' : Heap} (g : Carry ω h ω' h') {p : PO} {a : Addr} (x : OR B ω h p a) (k : ∀ o, h.get? a = some o → h'.get? a = some o) : OR B ω' h' p a := by
  cases p with
  | lst l => obtain ⟨o, vs, n, e, c, d, r⟩ := x; exact ⟨o, vs, n, k _ e, c, d, r.carry g⟩
  | plain => obtain ⟨o, e, c⟩ := x; exact ⟨o, k _ e, c⟩
  | sdict b => exact B.Z.carry x g.fz k
end Sh
namespace Sh
open PySem PySem.Calls PyProof.Rows PySem.W PySem.Spec
structure Base.OK (B : Base) : Prop where
  g : B.h₀.Ns mainGlobals B.mg
  b : B.h₀.Ns builtinsNs B.mb
  blt : ∀ x : Str, x ≠ "__name__" → B.mb x = bootBuiltins x
  lim : B.h₀.NoLimit
  gc : ∃ o, B.h₀.get? mainGlobals = some o ∧ o.cls ≠ .none
  bc : ∃ o, B.h₀.get? builtinsNs = some o ∧ o.cls ≠ .none
  tb : ∀ x ∈ B.tabs, (∃ o, B.h₀.get? x.1 = some o) ∧ mainGlobals ≠ x.1 ∧ B.h₀.BuiltinsAt B.mg x.1
/-- the tables in which a text's own code objects are kept: what is found there is as it was made -/
noncomputable def TabOK (B : Base) (ω : Wd) (h : Heap) : Prop :=
  ∀ x ∈ B.tabs, ∃ ps, h.get? x.1 = some (tabObj ps) ∧ TriplesOk ps.toList ∧ ∀ y ∈ x.2, codeAmong y.1 ps.toList = none ∨
    ∃ c' o vs t, codeAmong y.1 ps.toList = some (.ref c') ∧ Fz ω h c' o ∧ o.data = .fields vs ∧ vs[1]? = some (.str y.2 t)
theorem TabOK.carry {B : Base} {ω ω' : Wd} {h h' : Heap} (T : TabOK B ω h) (ok : B.OK) (new : ∀ a, a ∈ ω.mu ∨ a ∈ ω.ex → B.h₀.get? a = none)
    (k : ∀ b o, h.get? b = some o → b ∉ ω.mu → b ∉ ω.ex → ¬ Dic o → h'.get? b = some o) (hm : ∀ a ∈ ω'.mu, a ∈ ω.mu ∨ h.get? a = none) (hx : ∀ a ∈ ω'.ex, a ∈ ω.ex ∨ h.get? a = none) : TabOK B ω' h' := by
  intro x hxm
  obtain ⟨ps, e, t, r⟩ := T x hxm
  obtain ⟨o₀, e₀⟩ := (ok.tb x hxm).1
  have h1 : x.1 ∉ ω.mu := fun q => by have := new _ (.inl q); rw [e₀] at this; cases this
  have h2 : x.1 ∉ ω.ex := fun q => by have := new _ (.inr q); rw [e₀] at this; cases this
  refine ⟨ps, k _ _ e h1 h2 (by simp [Dic]), t, fun y hy => ?_⟩
  rcases r y hy with r | ⟨c', o, vs, t', r1, r2, r6, r7⟩
  · exact .inl r
  · refine .inr ⟨c', o, vs, t', r1, ⟨fun q => ?_, fun q => ?_, k _ _ r2.2.2.1 r2.1 r2.2.1 r2.2.2.2.1, r2.2.2.2⟩, r6, r7⟩
    · rcases hm _ q with q | q
      · exact r2.1 q
      · rw [r2.2.2.1] at q; cases q
    · rcases hx _ q with q | q
      · exact r2.2.1 q
      · rw [r2.2.2.1] at q; cases q
theorem old_ext {h₀ h h' : Heap} {a : Addr} (K : OldK h₀ h) (ha : h₀.get? a = none) (hs : Heap.ExtBut a h h') : OldK h₀ h' := by
  have ne : ∀ b o, h₀.get? b = some o → b ≠ a := fun b o e q => by rw [q, ha] at e; cases e
  refine ⟨fun b o e => ?_, fun b o e => let ⟨o', ho'⟩ := K.there b o e; ⟨o', hs b o' (ne b o e) ho'⟩⟩
  rcases K.old b o e with x | ⟨t, hc, vs, more, hv, x⟩ | ⟨rfl, hc, ⟨o', es, n, ho', r⟩, z⟩
  · exact .inl (hs b _ (ne b o e) x)
  · exact .inr (.inl ⟨t, hc, vs, more, hv, hs b _ (ne b o e) x⟩)
  · exact .inr (.inr ⟨rfl, hc, ⟨o', es, n, hs _ _ (ne _ o e) ho', r⟩, fun key => by rw [OldK.staticOf_congr ((hs _ _ (ne _ o e) ho').trans ho'.symm) key]; exact z key⟩)
structure Inv (B : Base) (ω : Wd) (σ : St) (s : Shared) : Prop where
  bok : B.OK
  lim : s.heap.NoLimit
  old : OldK B.h₀ s.heap
  len : ω.mu.length = σ.length
  nodup : ω.mu.Nodup
  new : ∀ a, a ∈ ω.mu ∨ a ∈ ω.ex → B.h₀.get? a = none
  apart : ∀ a ∈ ω.mu, a ∉ ω.ex
  exl : ∀ a ∈ ω.ex, (s.heap.get? a).isSome = true
  objs : ∀ (i : Nat) (a : Addr) (o : PO), ω.mu[i]? = some a → σ[i]? = some o → OR B ω s.heap o a
  os : s.os = B.os
  gens : AllBare s.gens
  tab : TabOK B ω s.heap
namespace Inv
variable {B : Base} {ω ω' : Wd} {σ : St} {s : Shared} {h' : Heap} {tk : Nat}
theorem base (I : Inv B ω σ s) {a : Addr} {o : Obj} (e : B.h₀.get? a = some o) (ht : o.cls ≠ .none) : s.heap.get? a = some o := I.old.get_of_cls e ht
theorem gns (I : Inv B ω σ s) : s.heap.Ns mainGlobals B.mg := by
  obtain ⟨o, e, hc⟩ := I.bok.gc
  obtain ⟨o', es, ep, ho, r⟩ := I.bok.g
  rw [ho] at e; cases e
  exact ⟨_, es, ep, I.base ho hc, r⟩
theorem bns (I : Inv B ω σ s) : s.heap.Ns builtinsNs B.mb := by
  obtain ⟨o, e, hc⟩ := I.bok.bc
  obtain ⟨o', es, ep, ho, r⟩ := I.bok.b
  rw [ho] at e; cases e
  exact ⟨_, es, ep, I.base ho hc, r⟩
theorem stat (I : Inv B ω σ s) {a : Addr} (h : B.h₀.get? a = none) : cStatics ≠ a := by
  rintro rfl
  obtain ⟨mc, ⟨o, es, ep, ho, r⟩, _⟩ := I.bok.lim
  rw [h] at ho; cases ho
theorem fresh (I : Inv B ω σ s) {a : Addr} (e : s.heap.get? a = none) : B.h₀.get? a = none := by
  cases q : B.h₀.get? a with
  | none => rfl
  | some o => obtain ⟨o', z⟩ := I.old.there a o q; rw [e] at z; cases z
theorem step (I : Inv B ω σ s) (g : Carry ω s.heap ω h') (k : ∀ a ∈ ω.mu, ∀ o, s.heap.get? a = some o → h'.get? a = some o) (ko : OldK B.h₀ h') (kx : ∀ a ∈ ω.ex, (h'.get? a).isSome = true) (kl : h'.NoLimit) (kt : ∀ b o, s.heap.get? b = some o → b ∉ ω.mu → b ∉ ω.ex → ¬ Dic o → h'.get? b = some o) : Inv B ω σ { s with heap := h', toks := tk } :=
  ⟨I.bok, kl, ko, I.len, I.nodup, I.new, I.apart, kx, (fun i a o e1 e2 => (I.objs i a o e1 e2).carry g (k a (List.mem_of_getElem? e1))), I.os, I.gens, I.tab.carry I.bok I.new kt (fun _ q => .inl q) fun _ q => .inl q⟩
theorem keep (I : Inv B ω σ s) (k : ∀ b o, s.heap.get? b = some o → h'.get? b = some o) : Inv B ω σ { s with heap := h', toks := tk } :=
  I.step (.of_keep k) (fun a _ o => k a o) (I.old.step_keeps k) (fun a ha => by
    obtain ⟨o, e⟩ := Option.isSome_iff_exists.mp (I.exl a ha); rw [k a o e]; rfl) (I.lim.keeps k) fun b o e _ _ _ => k b o e
theorem toks (I : Inv B ω σ s) : Inv B ω σ { s with toks := tk } := I.keep (h' := s.heap) fun _ _ e => e
theorem exstep (I : Inv B ω σ s) {a : Addr} (ha : a ∈ ω.ex) (k : Heap.ExtBut a s.heap h') (hz : (h'.get? a).isSome = true) : Inv B ω σ { s with heap := h', toks := tk } :=
  I.step (.of_ex ha k) (fun b hb o e => k b o (fun q => I.apart b hb (q ▸ ha)) e) (old_ext I.old (I.new a (.inr ha)) k) (fun b hb => by
    by_cases q : b = a
    · rw [q]; exact hz
    · obtain ⟨o, e⟩ := Option.isSome_iff_exists.mp (I.exl b hb); rw [k b o q e]; rfl) (I.lim.extBut k (I.stat (I.new a (.inr ha)))) fun b o e _ h2 _ => k b o (fun q => h2 (q ▸ ha)) e
theorem live (I : Inv B ω σ s) {a : Addr} (ha : a ∈ ω.mu) : (s.heap.get? a).isSome = true := by
  obtain ⟨i, hi⟩ := List.mem_iff_getElem?.mp ha
  have hlt : i < σ.length := by rw [← I.len]; exact (List.getElem?_eq_some_iff.mp hi).1
  have q := I.objs i a σ[i] hi (List.getElem?_eq_getElem hlt)
  cases hσ : σ[i] with
  | lst l => rw [hσ] at q; obtain ⟨o, _, _, e, _⟩ := q; rw [e]; rfl
  | plain => rw [hσ] at q; obtain ⟨o, e, _⟩ := q; rw [e]; rfl
  | sdict b => rw [hσ] at q; exact B.Z.live q
/-- more addresses barred, all of them new -/
theorem bar (I : Inv B ω σ s) (k : ∀ b o, s.heap.get? b = some o → h'.get? b = some o) (hm : ω'.mu = ω.mu) (hx : ∀ a ∈ ω'.ex, a ∈ ω.ex ∨ (s.heap.get? a = none ∧ (h'.get? a).isSome = true)) : Inv B ω' σ { s with heap := h', toks := tk } := by
  have J := I.keep (tk := tk) k
  refine ⟨J.bok, J.lim, J.old, by rw [hm]; exact I.len, by rw [hm]; exact I.nodup, fun a ha => ?_, fun a ha hx' => ?_, fun a ha => ?_, fun i a o e1 e2 => ?_, I.os, I.gens, I.tab.carry I.bok I.new (fun b o e _ _ _ => k b o e) (fun a q => .inl (hm ▸ q)) fun a q => (hx a q).imp id And.left⟩
  · rcases ha with ha | ha
    · exact I.new a (.inl (hm ▸ ha))
    · rcases hx a ha with q | q
      · exact I.new a (.inr q)
      · exact I.fresh q.1
  · rw [hm] at ha
    rcases hx a hx' with q | q
    · exact I.apart a ha q
    · have := I.live ha; rw [q.1] at this; cases this
  · rcases hx a ha with q | q
    · exact J.exl a q
    · exact q.2
  · rw [hm] at e1
    exact (I.objs i a o e1 e2).carry ((Carry.more hm fun a ha => (hx a ha).imp id And.left).trans (.of_keep k)) (k a)
theorem unbar (I : Inv B ω σ s) (hm : ω'.mu = ω.mu) (hx : ∀ a ∈ ω'.ex, a ∈ ω.ex) : Inv B ω' σ s :=
  ⟨I.bok, I.lim, I.old, by rw [hm]; exact I.len, by rw [hm]; exact I.nodup, fun a ha => I.new a (ha.imp (fun q => hm ▸ q) (hx a)), fun a ha hx' => I.apart a (hm ▸ ha) (hx a hx'), fun a ha => I.exl a (hx a ha),
    fun i a o e1 e2 => by rw [hm] at e1; exact (I.objs i a o e1 e2).carry (.less hm hx) fun _ e => e, I.os, I.gens, I.tab.carry I.bok I.new (fun b o e _ _ _ => e) (fun a q => .inl (hm ▸ q)) fun a q => .inl (hx a q)⟩
theorem set (I : Inv B ω σ s) {n : Nat} {a : Addr} {o : PO} (ha : ω.mu[n]? = some a) (k : Heap.ExtBut a s.heap h') (ho : OR B ω h' o a) : Inv B ω (σ.set n o) { s with heap := h', toks := tk } := by
  have hm := List.mem_of_getElem? ha
  refine ⟨I.bok, I.lim.extBut k (I.stat (I.new a (.inl hm))), old_ext I.old (I.new a (.inl hm)) k, by simp [I.len], I.nodup, I.new, I.apart, (fun b hb => by
    obtain ⟨o, e⟩ := Option.isSome_iff_exists.mp (I.exl b hb); rw [k b o (fun q => I.apart a hm (q ▸ hb)) e]; rfl), fun i b p e1 e2 => ?_, I.os, I.gens, I.tab.carry I.bok I.new (fun b o e h1 _ _ => k b o (fun q => h1 (q ▸ hm)) e) (fun _ q => .inl q) fun _ q => .inl q⟩
  by_cases hi : i = n
  · subst hi
    rw [ha] at e1; cases e1
    have hlt : i < σ.length := by rw [← I.len]; exact (List.getElem?_eq_some_iff.mp ha).1
    rw [List.getElem?_set_self hlt] at e2; cases e2
    exact ho
  · rw [List.getElem?_set_ne (Ne.symm hi)] at e2
    have hba : b ≠ a := fun q => by
      subst q
      obtain ⟨h1, e1'⟩ := List.getElem?_eq_some_iff.mp e1
      obtain ⟨h2, e2'⟩ := List.getElem?_eq_some_iff.mp ha
      exact hi ((List.getElem_inj I.nodup).mp (e1'.trans e2'.symm))
    exact (I.objs i b p e1 e2).carry (.of_mu hm k) fun o' e => k b o' hba e
theorem push (I : Inv B ω σ s) {a : Addr} {o : PO} (hn : s.heap.get? a = none) (k : ∀ b o, s.heap.get? b = some o → h'.get? b = some o)
    (ho : OR B ⟨ω.mu ++ [a], ω.ex⟩ h' o a) : Inv B ⟨ω.mu ++ [a], ω.ex⟩ (σ ++ [o]) { s with heap := h', toks := tk } := by
  have hna : a ∉ ω.mu := fun q => by have := I.live q; rw [hn] at this; cases this
  have hx : a ∉ ω.ex := fun q => by have := I.exl a q; rw [hn] at this; cases this
  have gC : Carry ω s.heap ⟨ω.mu ++ [a], ω.ex⟩ h' :=
    ⟨fun b o f => ⟨fun q => (List.mem_append.mp q).elim f.1 (fun z => by have f1 := f.2.2.1; rw [List.mem_singleton.mp z, hn] at f1; cases f1), f.2.1, k _ _ f.2.2.1, f.2.2.2⟩,
      fun i b e => by
        obtain ⟨hi, rfl⟩ := List.getElem?_eq_some_iff.mp e
        show (ω.mu ++ [a])[i]? = _
        rw [List.getElem?_append_left hi]; exact e⟩
  refine ⟨I.bok, I.lim.keeps k, I.old.step_keeps k, by simp [I.len], ?_, fun b hb => ?_, fun b hb => ?_, fun b hb => ?_, fun i b p e1 e2 => ?_, I.os, I.gens, I.tab.carry I.bok I.new (fun b o e _ _ _ => k b o e) (fun b q => (List.mem_append.mp q).imp id fun z => by rw [List.mem_singleton.mp z]; exact hn) fun _ q => .inl q⟩
  · show (ω.mu ++ [a]).Nodup
    rw [List.nodup_append]
    exact ⟨I.nodup, by simp, fun x hx y hy => by rw [List.mem_singleton.mp hy]; exact fun q => hna (q ▸ hx)⟩
  · rcases hb with hb | hb
    · rcases List.mem_append.mp hb with q | q
      · exact I.new b (.inl q)
      · rw [List.mem_singleton.mp q]; exact I.fresh hn
    · exact I.new b (.inr hb)
  · rcases List.mem_append.mp hb with q | q
    · exact I.apart b q
    · rw [List.mem_singleton.mp q]; exact hx
  · obtain ⟨o, e⟩ := Option.isSome_iff_exists.mp (I.exl b hb); rw [k b o e]; rfl
  · by_cases hi : i < ω.mu.length
    · rw [List.getElem?_append_left hi] at e1
      rw [List.getElem?_append_left (by rw [← I.len]; exact hi)] at e2
      exact (I.objs i b p e1 e2).carry gC (k b)
    · have e1' := e1
      obtain ⟨h1, _⟩ := List.getElem?_eq_some_iff.mp e1
      have : i = ω.mu.length := by
        have h2 : i < ω.mu.length + 1 := by simpa using h1
        omega
      subst this
      rw [List.getElem?_append_right (Nat.le_refl _)] at e1
      rw [I.len, List.getElem?_append_right (Nat.le_refl _)] at e2
      simp at e1 e2
      subst e1; subst e2
      exact ho
end Inv
/- where names stand: the block's table; the slots' names; the names that this block may store into by a cell of its own -/
structure Sc where
  names : List (Str × NameKind)
  nt : List Str
  ownN : List Str
noncomputable def Sc.vis (Γ : Sc) (i : Nat) (x : Str) : Bool := Γ.nt[i]? == some x && !(Γ.nt.drop (i + 1)).contains x
structure Cx where
  B : Base
  A : Around
  env : Env
  own : List Addr
  Γ : Sc
structure FR (c : Cx) (ω : Wd) (h : Heap) (m : Fm) : Prop where
  len : m.length = c.Γ.nt.length
  kind : c.env.scope.kind = .function
  names : c.env.scope.names = c.Γ.names
  glob : c.env.globals = mainGlobals
  blt : c.env.builtins = builtinsNs
  own : ∀ a ∈ c.own, a ∈ ω.ex
  apart : ∀ a ∈ ω.mu, a ∉ ω.ex
  loc : c.env.locals ∈ c.own
  ns : ∃ f, h.Ns c.env.locals f ∧ ∀ (i : Nat) (x : Str) (p : PV), c.Γ.vis i x = true → m[i]? = some (some p) → c.Γ.names.lookup x = some .local → ∃ v, f x = some v ∧ VR c.B.C ω h p v
  cel : ∀ (i : Nat) (x : Str) (p : PV), c.Γ.vis i x = true → m[i]? = some (some p) → (c.Γ.names.lookup x = some .cell ∨ c.Γ.names.lookup x = some .free) →
    ∃ a v, c.env.cells.lookup x = some a ∧ h.IsCell a (some v) ∧ VR c.B.C ω h p v
  celo : ∀ x : Str, (c.Γ.names.lookup x = some .cell ∨ c.Γ.names.lookup x = some .free) → ∃ a v, c.env.cells.lookup x = some a ∧ h.IsCell a v
  celx : ∀ (x : Str) (a : Addr), c.env.cells.lookup x = some a → a ∈ ω.ex
  celw : ∀ x ∈ c.Γ.ownN, ∀ a, c.env.cells.lookup x = some a → a ∈ c.own
  inj : ∀ (x y : Str) (a : Addr), c.env.cells.lookup x = some a → c.env.cells.lookup y = some a → x = y
  ff : ∃ l, c.A.frames = some l ∧ ∀ e ∈ l, e.scope.kind ≠ .module ∧ ∃ L f, e.frame = some L ∧ L ∈ ω.ex ∧ h.Ns L f
theorem ns_ko {h h' : Heap} {L : Addr} {f : Str → Option Value} (hn : h.Ns L f) (k : ∀ o, h.get? L = some o → ¬ Tbl o → KO o (h'.get? L)) : h'.Ns L f := by
  obtain ⟨o, es, ep, ho, hd, r⟩ := hn
  obtain ⟨⟨sl, e⟩, _⟩ := k o ho (by simp [Tbl, hd])
  exact ⟨_, es, ep, e, hd, r⟩
theorem cell_ko {h h' : Heap} {a : Addr} {v : Option Value} (hn : h.IsCell a v) (k : ∀ o, h.get? a = some o → ¬ Tbl o → KO o (h'.get? a)) : h'.IsCell a v := by
  obtain ⟨o, ho, hd⟩ := hn
  exact ⟨o, (k o ho (by simp [Tbl, hd])).2 (by simp [Dic, hd]), hd⟩
theorem cell_not_ns {h : Heap} {a : Addr} {v : Option Value} {f : Str → Option Value} (hc : h.IsCell a v) (hn : h.Ns a f) : False := by
  obtain ⟨o, ho, hd⟩ := hc
  obtain ⟨o', es, ep, ho', hd', _⟩ := hn
  rw [ho] at ho'; cases ho'; rw [hd] at hd'; cases hd'
theorem FR.map {c : Cx} {ω ω' : Wd} {h h' : Heap} {m : Fm} (F : FR c ω h m) (hs : ∀ a ∈ ω.ex, a ∈ ω'.ex) (ap : ∀ a ∈ ω'.mu, a ∉ ω'.ex) (gc : Carry ω h ω' h')
    (kn : ∀ L f, L ∈ ω.ex → h.Ns L f → h'.Ns L f) (kc : ∀ b v, b ∈ ω.ex → h.IsCell b v → h'.IsCell b v) : FR c ω' h' m :=
  ⟨F.len, F.kind, F.names, F.glob, F.blt, fun a q => hs a (F.own a q), ap, F.loc, F.ns.elim fun f q => ⟨f, kn _ f (F.own _ F.loc) q.1, fun i x p h1 h2 h3 => (q.2 i x p h1 h2 h3).elim fun v r => ⟨v, r.1, r.2.carry gc⟩⟩,
    fun i x p h1 h2 h3 => (F.cel i x p h1 h2 h3).elim fun a r => r.elim fun v r => ⟨a, v, r.1, kc a _ (F.celx x a r.1) r.2.1, r.2.2.carry gc⟩,
    fun x h1 => (F.celo x h1).elim fun a r => r.elim fun v r => ⟨a, v, r.1, kc a _ (F.celx x a r.1) r.2⟩, fun x a q => hs a (F.celx x a q), F.celw, F.inj,
    F.ff.elim fun l q => ⟨l, q.1, fun e he => ⟨(q.2 e he).1, (q.2 e he).2.elim fun L r => r.elim fun f r => ⟨L, f, r.1, hs L r.2.1, kn L f r.2.1 r.2.2⟩⟩⟩⟩
theorem FR.gw {c : Cx} {ω ω' : Wd} {h h' : Heap} {m : Fm} (F : FR c ω h m) (g : Gw ω [] h ω' h') (ap : ∀ a ∈ ω'.mu, a ∉ ω'.ex) : FR c ω' h' m :=
  have kk : ∀ a ∈ ω.ex, ∀ o, h.get? a = some o → ¬ Tbl o → KO o (h'.get? a) := fun a ha o e ht => g.kp a o e ht (fun q => F.apart a q ha) (fun q => nomatch q)
  F.map (fun a q => g.ex ▸ q) ap (.of_gw g (fun _ q => nomatch q)) (fun L _ hL q => ns_ko q (kk L hL)) fun b _ hb q => cell_ko q (kk b hb)
/-- a step at a barred address that is no frame and no cell -/
theorem FR.exstep {c : Cx} {ω : Wd} {h h' : Heap} {m : Fm} (F : FR c ω h m) {a : Addr} (ha : a ∈ ω.ex) (k : Heap.ExtBut a h h') (hn : ∀ o, h.get? a = some o → ¬ Dic o ∧ ∀ v, o.data ≠ .cell v) : FR c ω h' m :=
  F.map (fun _ q => q) F.apart (.of_ex ha k) (fun L _ _ hL => ns_ko hL fun o e _ => .same (k L o (fun q => by
    obtain ⟨o', es, ep, ho', hd', _⟩ := hL
    exact (hn o' (q ▸ ho')).1 ⟨es, ep, hd'⟩) e)) fun b v _ hL => cell_ko hL fun o e _ => .same (k b o (fun q => by
    obtain ⟨o', ho', hd'⟩ := hL
    exact (hn o' (q ▸ ho')).2 v hd') e)
theorem FR.bar {c : Cx} {ω ω' : Wd} {h h' : Heap} {m : Fm} (F : FR c ω h m) (k : ∀ b o, h.get? b = some o → h'.get? b = some o) (hm : ω'.mu = ω.mu) (hs : ∀ a ∈ ω.ex, a ∈ ω'.ex) (hx : ∀ a ∈ ω'.ex, a ∈ ω.ex ∨ h.get? a = none) (ap : ∀ a ∈ ω'.mu, a ∉ ω'.ex) : FR c ω' h' m :=
  F.map hs ap ((Carry.more hm hx).trans (.of_keep k)) (fun L _ _ hL => ns_ko hL fun o e _ => .same (k L o e)) fun b _ _ hL => cell_ko hL fun o e _ => .same (k b o e)
/-- room left for calls -/
structure Rm (lv : Nat) (A : Around) : Prop where
  hh : A.handled = none
  depth : A.depth + lv ≤ 900
  units : A.units + 10 * lv ≤ 9000
abbrev EvE := Fm → St → Option (PV × St)
abbrev EvEs := Fm → St → Option (List PV × St)
/-- an expression is shown by f -/
noncomputable def SE (c : Cx) (e : Expr) (f : EvE) : Prop :=
  ∀ ω m σ s Q E p σ', FR c ω s.heap m → Inv c.B ω σ s → f m σ = some (p, σ') →
    (∀ v ω' s', Gw ω [] s.heap ω' s'.heap → Inv c.B ω' σ' s' → VR c.B.C ω' s'.heap p v → Q v s') → wpAny (model c.B.prog c.B.w) c.A (eval e c.env) Q E s
noncomputable def SEs (c : Cx) (es : List Expr) (f : EvEs) : Prop :=
  ∀ (pos : Pos) ω m σ s Q E p σ', FR c ω s.heap m → Inv c.B ω σ s → f m σ = some (p, σ') →
    (∀ v ω' s', Gw ω [] s.heap ω' s'.heap → Inv c.B ω' σ' s' → VRs c.B.C ω' s'.heap p v → Q v s') → wpAny (model c.B.prog c.B.w) c.A (spliced (backTo pos (starEach es c.env))) Q E s
/-- a test is shown by f -/
noncomputable def ST (c : Cx) (e : Expr) (f : Fm → St → Option (Bool × St)) : Prop :=
  ∀ ω m σ s Q E p σ', FR c ω s.heap m → Inv c.B ω σ s → f m σ = some (p, σ') →
    (∀ ω' s', Gw ω [] s.heap ω' s'.heap → Inv c.B ω' σ' s' → Q p s') → wpAny (model c.B.prog c.B.w) c.A (isTrue e c.env (eval e c.env)) Q E s
end Sh
namespace Sh
open PySem PySem.Calls PyProof.Rows PySem.W
inductive BI where
  | len | range | sorted | max | bytes
inductive MT where
  | append | extend | pop | join | find | replace | encode | decode
mutual
inductive X where
  | bad | none | bool (b : Bool) | int (i : Int) | str (x : Str) | byt (l : List UInt8)
  | v (i : Nat)
  | bin (op : Operator) (a b : X) | neg (a : X) | no (a : X)
  | cmp (op : CmpOp) (a b : X)
  | bo (op : BoolOp) (xs : XL)
  | ite (t a b : X)
  | tup (xs : XL) | list (xs : XL) | mlist (xs : XL)
  | call (f : Nat) (xs : XL) | callv (i : Nat) (a : X)
  | bi (f : BI) (xs : XL) | me (m : MT) (a : X) (xs : XL)
  | idx (a i : X) | slc (a : X) (lo hi : XO)
  | app (a : X) | val (a : X) | read (f : Nat) (a : X) (n : X)
  | comp (ar : Nat) (elt it : X) (ifs : XL)
  | fstr (xs : XL) | sub (a : X) | trs (a : X) | star | fmt (x : Str) (a b : X)
inductive XL where
  | nil | cons (x : X) (r : XL)
inductive XO where
  | no | yes (x : X)
end
mutual
inductive S where
  | bad | ex (x : X) | as (i : Nat) (x : X) | asT (is : List Nat) (x : X) | asI (a i x : X) | asV (a x : X)
  | aug (i : Nat) (op : Operator) (x : X)
  | iff (t : X) (b o : SL) | wh (t : X) (b : SL) | fo (is : List Nat) (it : X) (b : SL)
  | ret (x : X) | asr (t : X) | ra (x : X) | brk | cont
  | callA (i : Nat) (f : Nat) (xs : XL) | asW (is : List Nat) (xs : XL)
  | tryR (b : SL) (w : Nat) (o : SL)
inductive SL where
  | nil | cons (s : S) (r : SL)
end
/- sizes: far under the model's own lines -/
noncomputable def LIM : Nat := 100000
inductive Out where
  | val (p : PV) | exc (x : Str)
abbrev Spec := List PV → St → Option (Out × St)
/- steps that may fail, and how each is taken apart -/
section
variable {α β : Type} {G : Prop}
noncomputable def bd (o : Option α) (f : α → Option β) : Option β := o.elim none f
noncomputable def sq (o : Option (α × St)) (f : α → St → Option β) : Option β := match o with | some (a, σ) => f a σ | none => none
noncomputable def gd (b : Bool) (x : Option α) : Option α := cond b x none
noncomputable def ql (a b : Option α) : Option α := a.elim b some
noncomputable def vl (o : Option α) (σ : St) : Option (α × St) := o.elim none fun x => some (x, σ)
theorem nn {x : α} (h : (none : Option α) = some x) : G := nomatch h
theorem so {a b : α} (h : some a = some b) : a = b := Option.some.inj h
theorem bd_el {o : Option α} {f : α → Option β} {r : β} (e : bd o f = some r) (k : ∀ a, o = some a → f a = some r → G) : G :=
  match o, e, k with
  | some a, e, k => k a rfl e
  | none, e, _ => nn e
theorem sq_el {o : Option (α × St)} {f : α → St → Option β} {r : β} (e : sq o f = some r) (k : ∀ a σ, o = some (a, σ) → f a σ = some r → G) : G :=
  match o, e, k with
  | some (a, σ), e, k => k a σ rfl e
  | none, e, _ => nn e
theorem gd_el {b : Bool} {x : Option α} {r : α} (e : gd b x = some r) (k : b = true → x = some r → G) : G :=
  match b, e, k with
  | true, e, k => k rfl e
  | false, e, _ => nn e
theorem ql_el {a b : Option α} {r : α} (e : ql a b = some r) (k : a = some r → G) (k' : b = some r → G) : G :=
  match a, e, k with
  | some _, e, k => k e
  | none, e, _ => k' e
theorem vl_el {o : Option α} {σ σ' : St} {r : α} {P : St → Prop} (e : vl o σ = some (r, σ')) (k : o = some r → P σ) : P σ' :=
  match o, e, k with
  | some _, e, k => (Prod.mk.inj (so e)).2 ▸ k (congrArg some (Prod.mk.inj (so e)).1)
  | none, e, _ => nn e
theorem pr_el {σ σ' : β} {p r : α} {P : α → β → Prop} (e : some (p, σ) = some (r, σ')) (k : P p σ) : P r σ' :=
  (Prod.mk.inj (so e)).1 ▸ (Prod.mk.inj (so e)).2 ▸ k
theorem so_el {p r : α} {P : α → Prop} (e : some p = some r) (k : P p) : P r := so e ▸ k
theorem and_el {a b : Bool} (e : (a && b) = true) (k : a = true → b = true → G) : G :=
  match a, b, e, k with
  | true, true, _, k => k rfl rfl
theorem mp_el {o : Option α} {f : α → β} {r : β} {P : β → Prop} (e : o.map f = some r) (k : ∀ a, o = some a → P (f a)) : P r :=
  match o, e, k with
  | some a, e, k => so e ▸ k a rfl
  | none, e, _ => nn e
end
theorem dec {p : Prop} [Decidable p] (e : decide p = true) : p := of_decide_eq_true e
noncomputable def PV.int? (p : PV) : Option Int := match p with | .int i => some i | _ => Option.none
noncomputable def PV.str? (p : PV) : Option Str := match p with | .str i => some i | _ => Option.none
noncomputable def PV.byt? (p : PV) : Option (Array UInt8) := match p with | .byt i => some i | _ => Option.none
noncomputable def PV.loc? (p : PV) : Option Nat := match p with | .loc i => some i | _ => Option.none
noncomputable def PV.lst? (p : PV) : Option (List PV) := match p with | .lst i => some i | _ => Option.none
noncomputable def PV.tup? (p : PV) : Option (List PV) := match p with | .tup i => some i | _ => Option.none
noncomputable def PV.strm? (p : PV) : Option Nat := match p with | .strm i => some i | _ => Option.none
noncomputable def PV.app? (p : PV) : Option Nat := match p with | .app i => some i | _ => Option.none
noncomputable def PV.nul? (p : PV) : Option Unit := match p with | .none => some () | _ => Option.none
noncomputable def PO.lst? (p : PO) : Option (List PV) := match p with | .lst l => some l | _ => Option.none
noncomputable def PO.plain? (p : PO) : Option Unit := match p with | .plain => some () | _ => Option.none
noncomputable def PO.sd? (p : PO) : Option (Array UInt8) := match p with | .sdict l => some l | _ => Option.none
noncomputable def one? (l : List PV) : Option PV := match l with | [a] => some a | _ => none
noncomputable def two? (l : List PV) : Option (PV × PV) := match l with | [a, b] => some (a, b) | _ => none
noncomputable def nil? (l : List PV) : Option Unit := match l with | [] => some () | _ => none
section
variable {p : PV} {o : PO} {l : List PV}
theorem int_at {i : Int} (e : p.int? = some i) : p = .int i := by cases p <;> first | exact nn e | exact congrArg _ (so e)
theorem str_at {i : Str} (e : p.str? = some i) : p = .str i := by cases p <;> first | exact nn e | exact congrArg _ (so e)
theorem byt_at {i : Array UInt8} (e : p.byt? = some i) : p = .byt i := by cases p <;> first | exact nn e | exact congrArg _ (so e)
theorem loc_at {i : Nat} (e : p.loc? = some i) : p = .loc i := by cases p <;> first | exact nn e | exact congrArg _ (so e)
theorem lst_at {i : List PV} (e : p.lst? = some i) : p = .lst i := by cases p <;> first | exact nn e | exact congrArg _ (so e)
theorem tup_at {i : List PV} (e : p.tup? = some i) : p = .tup i := by cases p <;> first | exact nn e | exact congrArg _ (so e)
theorem strm_at' {i : Nat} (e : p.strm? = some i) : p = .strm i := by cases p <;> first | exact nn e | exact congrArg _ (so e)
theorem app_at {i : Nat} (e : p.app? = some i) : p = .app i := by cases p <;> first | exact nn e | exact congrArg _ (so e)
theorem nul_at {i : Unit} (e : p.nul? = some i) : p = .none := by cases p <;> first | exact nn e | exact rfl
theorem olst_at {l : List PV} (e : o.lst? = some l) : o = .lst l := by cases o <;> first | exact nn e | exact congrArg _ (so e)
theorem oplain_at {i : Unit} (e : o.plain? = some i) : o = .plain := by cases o <;> first | exact nn e | exact rfl
theorem osd_at {l : Array UInt8} (e : o.sd? = some l) : o = .sdict l := by cases o <;> first | exact nn e | exact congrArg _ (so e)
theorem one_at {i : PV} (e : one? l = some i) : l = [i] := match l, e with
  | [_], e => congrArg (fun x => [x]) (so e)
theorem two_at {i j : PV} (e : two? l = some (i, j)) : l = [i, j] := match l, e with
  | [_, _], e => congrArg (fun x => [x.1, x.2]) (so e)
theorem nil_at {i : Unit} (e : nil? l = some i) : l = [] := match l, e with
  | [], _ => rfl
end
section
variable {C : Addr} {ω : Wd} {h : Heap} {v w : Value} {P : Value → Prop} {P2 : Value → Value → Prop} {Ps : List Value → Prop} {vs : List Value} {p q : PV} {l : List PV}
@[elab_as_elim] theorem VR.int_vr {i : Int} (x : VR C ω h p v) (e : p.int? = some i) (k : ∀ t, P (.int i t)) : P v := VR.int_el (P := P) (int_at e ▸ x) k
@[elab_as_elim] theorem VR.str_vr {i : Str} (x : VR C ω h p v) (e : p.str? = some i) (k : ∀ t, P (.str i t)) : P v := VR.str_el (P := P) (str_at e ▸ x) k
@[elab_as_elim] theorem VR.byt_vr {i : Array UInt8} (x : VR C ω h p v) (e : p.byt? = some i) (k : ∀ t, P (.bytes i t)) : P v := VR.byt_el (P := P) (byt_at e ▸ x) k
@[elab_as_elim] theorem VRs.one_vr {i : PV} (x : VRs C ω h l vs) (e : one? l = some i) (k : ∀ v, VR C ω h i v → Ps [v]) : Ps vs := VRs.one_el (Ps := Ps) (one_at e ▸ x) k
@[elab_as_elim] theorem VRs.two_vr {i j : PV} (x : VRs C ω h l vs) (e : two? l = some (i, j)) (k : ∀ v w, VR C ω h i v → VR C ω h j w → Ps [v, w]) : Ps vs := VRs.two_el (Ps := Ps) (two_at e ▸ x) k
@[elab_as_elim] theorem VRs.nil_vr {i : Unit} (x : VRs C ω h l vs) (e : nil? l = some i) (k : Ps []) : Ps vs := VRs.nil_el (Ps := Ps) (nil_at e ▸ x) k
variable {α : Type}
noncomputable def i2 (p q : PV) (f : Int → Int → Option α) : Option α := bd p.int? fun a => bd q.int? fun b => f a b
noncomputable def s2 (p q : PV) (f : Str → Str → Option α) : Option α := bd p.str? fun a => bd q.str? fun b => f a b
noncomputable def b2 (p q : PV) (f : Array UInt8 → Array UInt8 → Option α) : Option α := bd p.byt? fun a => bd q.byt? fun b => f a b
@[elab_as_elim] theorem i2_vr {f : Int → Int → Option α} {r : α} (x : VR C ω h p v) (y : VR C ω h q w) (e : i2 p q f = some r) (k : ∀ a b t u, f a b = some r → P2 (.int a t) (.int b u)) : P2 v w :=
  bd_el e fun _ e1 e => bd_el e fun _ e2 e => x.int_vr (P := fun v => P2 v w) e1 fun _ => y.int_vr e2 fun _ => k _ _ _ _ e
@[elab_as_elim] theorem s2_vr {f : Str → Str → Option α} {r : α} (x : VR C ω h p v) (y : VR C ω h q w) (e : s2 p q f = some r) (k : ∀ a b t u, f a b = some r → P2 (.str a t) (.str b u)) : P2 v w :=
  bd_el e fun _ e1 e => bd_el e fun _ e2 e => x.str_vr (P := fun v => P2 v w) e1 fun _ => y.str_vr e2 fun _ => k _ _ _ _ e
@[elab_as_elim] theorem b2_vr {f : Array UInt8 → Array UInt8 → Option α} {r : α} (x : VR C ω h p v) (y : VR C ω h q w) (e : b2 p q f = some r) (k : ∀ a b t u, f a b = some r → P2 (.bytes a t) (.bytes b u)) : P2 v w :=
  bd_el e fun _ e1 e => bd_el e fun _ e2 e => x.byt_vr (P := fun v => P2 v w) e1 fun _ => y.byt_vr e2 fun _ => k _ _ _ _ e
end
noncomputable def locL (σ : St) (n : Nat) : Option (List PV) := bd σ[n]? PO.lst?
noncomputable def lstOf (σ : St) (p : PV) : Option (List PV) := ql p.lst? (bd p.loc? (locL σ))
noncomputable def truthyV (σ : St) (p : PV) : Option Bool := match p with
  | .none => some false
  | .bool b => some b
  | .int i => some (i != 0)
  | .str x => gd (decide (x.length ≤ LIM)) (some (x.length != 0))
  | .byt b => gd (decide (b.size ≤ LIM)) (some (b.size != 0))
  | .lst l => gd (decide (l.length ≤ LIM)) (some (!l.isEmpty))
  | .loc n => bd (locL σ n) fun l => gd (decide (l.length ≤ LIM)) (some (!l.isEmpty))
  | _ => none
noncomputable def small (a : Int) : Bool := decide (a.natAbs < 2 ^ 60)
noncomputable def binV (op : Operator) (p q : PV) (σ : St) : Option PV :=
  match op with
  | .Sub => i2 p q fun a b => some (.int (a - b))
  | .Mult => i2 p q fun a b => gd (small a && small b) (some (.int (a * b)))
  | .FloorDiv => i2 p q fun a b => gd (b != 0 && decide (b.natAbs < 1000000000)) (some (.int (a.fdiv b)))
  | .Mod => i2 p q fun a b => gd (b != 0) (some (.int (a.fmod b)))
  | .Pow => i2 p q fun a n => gd (decide (0 ≤ n) && (decide (n ≤ 60) && decide (a.natAbs < 2 ^ 32))) (some (.int (a ^ n.toNat)))
  | .RShift => i2 p q fun a n => gd (decide (0 ≤ n) && decide (n ≤ 60)) (some (.int (a.fdiv (2 ^ n.toNat))))
  | .Add => ql (i2 p q fun a b => some (.int (a + b))) (ql (s2 p q fun x y => gd (decide (x.length + y.length ≤ LIM)) (some (.str (x ++ y)))) (ql (b2 p q fun x y => gd (decide (x.size + y.size ≤ LIM)) (some (.byt (x ++ y))))
    (bd (lstOf σ p) fun a => bd (lstOf σ q) fun b => gd (decide (a.length + b.length ≤ LIM)) (some (.lst (a ++ b))))))
  | _ => none
mutual
noncomputable def pyOf : PV → Option PyData
  | .none => some .none
  | .bool b => some (.bool b)
  | .int i => some (.int i)
  | .str x => gd (PyData.strOk x) (some (.str x))
  | .tup l => (pyOfs l).map .tuple
  | .lst l => (pyOfs l).map .list
  | _ => none
noncomputable def pyOfs : List PV → Option (List PyData)
  | [] => some []
  | p :: r => bd (pyOf p) fun a => bd (pyOfs r) fun b => some (a :: b)
end
noncomputable def resolve (σ : St) (p : PV) : PV := (bd p.loc? (locL σ)).elim p .lst
noncomputable def eqV (σ : St) (p q : PV) : Option Bool :=
  ql (b2 p q fun x y => some (x.toList == y.toList)) (bd (pyOf (resolve σ p)) fun a => bd (pyOf (resolve σ q)) fun b => gd (decide (a.depth ≤ 8) && decide (b.depth ≤ 8)) (some (PyData.eqv a b)))
noncomputable def ltA (p q : PV) : Option Bool := ql (i2 p q fun a b => some (decide (a < b))) (s2 p q fun x y => some (decide (x.cps.toList < y.cps.toList)))
noncomputable def eqA (p q : PV) : Option Bool := ql (i2 p q fun a b => some (a == b)) (s2 p q fun x y => some (x == y))
/-- two pairs: the first parts, and where they are alike the second ones -/
noncomputable def ltV (p q : PV) : Option Bool := ql (bd p.tup? fun l => bd (two? l) fun x => bd q.tup? fun r => bd (two? r) fun y =>
    bd (eqA x.1 y.1) fun t => cond t (bd (eqA x.2 y.2) fun t => cond t (some false) (ltA x.2 y.2)) (ltA x.1 y.1)) (ltA p q)
noncomputable def inV (p q : PV) : Option Bool := ql (s2 p q fun y x => some (!(Builtin.Str.occurrences x y 0 x.length 1).isEmpty))
  (bd q.tup? fun l => bd (pyOf p) fun d => bd (pyOfs l) fun ds => gd (decide (d.depth ≤ 8)) (some (ds.any fun y => PyData.eqv y d)))
noncomputable def isNul (p : PV) : Option Bool := match p with
  | .none => some true
  | .str _ | .tup _ | .lst _ => some false
  | _ => none
noncomputable def isV (σ : St) (p q : PV) : Option Bool := ql (bd q.nul? fun _ => isNul p)
  (bd q.loc? fun b => ql (bd p.str? fun _ => some false) (bd p.loc? fun a => bd σ[a]? fun o => bd (ql (bd o.lst? fun _ => some ()) o.plain?) fun _ => some (a == b)))
noncomputable def cmpV (op : CmpOp) (p q : PV) (σ : St) : Option Bool := match op with
  | .Eq => eqV σ p q
  | .NotEq => (eqV σ p q).map (!·)
  | .Lt => ltV p q
  | .Gt => i2 p q fun a b => some (decide (b < a))
  | .LtE => i2 p q fun a b => some (decide (a ≤ b))
  | .GtE => i2 p q fun a b => some (decide (b ≤ a))
  | .In => inV p q
  | .NotIn => (inV p q).map (!·)
  | .Is => isV σ p q
  | .IsNot => (isV σ p q).map (!·)
noncomputable def rngL (a b c : Int) : List PV := (List.range (Builtin.Range.rangeSize a b c).toNat).map fun (k : Nat) => .int (a + k * c)
noncomputable def strL (x : Str) : List PV := x.cps.toList.map fun c => .str ⟨#[c]⟩
/- what a loop runs over: the items as they are at its start, and the list's place where it lies open -/
noncomputable def iterV (σ : St) (p : PV) : Option (List PV × Option Nat) := match p with
  | .lst l => some (l, none)
  | .loc n => bd (locL σ n) fun l => some (l, some n)
  | .rng a b c => gd (Builtin.Range.small a b c && decide (Builtin.Range.rangeSize a b c ≤ LIM)) (some (rngL a b c, none))
  | .str x => gd (x.cps.all (· < 128)) (some (strL x, none))
  | _ => none
/- the k-th item, read anew; the end -/
noncomputable def rdV (n : Option Nat) (σ : St) (k : Nat) (q : PV) : Option PV := n.elim (some q) fun n => bd (locL σ n) fun l => l[k]?
noncomputable def finV (n : Option Nat) (σ : St) (k : Nat) : Bool := n.elim true fun n => (locL σ n).elim false fun l => l.length == k
noncomputable def slL {α : Type} (l : List α) (lo hi : Option Int) : List α :=
  (l.drop (lo.elim 0 (clipAt l.length))).take (hi.elim l.length (clipAt l.length) - lo.elim 0 (clipAt l.length))
noncomputable def parV (p : Option PV) : Option (Option Int) := p.elim (some none) fun p => bd p.int? fun i => gd (small i) (some (some i))
noncomputable def slcV (σ : St) (p : PV) (lo hi : Option PV) : Option PV := bd (parV lo) fun a => bd (parV hi) fun b =>
  ql (bd p.str? fun x => gd (decide (x.length ≤ LIM)) (some (.str ⟨(slL x.cps.toList a b).toArray⟩)))
    (ql (bd p.byt? fun x => gd (decide (x.size ≤ LIM)) (some (.byt (slL x.toList a b).toArray)))
      (bd (lstOf σ p) fun l => gd (decide (l.length ≤ LIM)) (some (.lst (slL l a b)))))
noncomputable def idxV (σ : St) (p q : PV) : Option PV := bd q.int? fun i => gd (small i)
  (ql (bd p.str? fun x => bd (seqIndex? i x.length) fun j => bd x.cps[j]? fun c => some (.str ⟨#[c]⟩))
    (ql (bd p.byt? fun x => gd (decide (0 ≤ i) && (decide (i < x.size) && decide (x.size ≤ LIM))) (bd x[i.toNat]? fun c => some (.int c.toNat)))
      (ql (bd p.tup? fun l => bd (seqIndex? i l.length) fun j => l[j]?)
        (bd (lstOf σ p) fun l => gd (decide (l.length ≤ LIM)) (bd (seqIndex? i l.length) fun j => l[j]?)))))
/- all items of one kind -/
noncomputable def allOf {α : Type} (f : PV → Option α) : List PV → Option (List α)
  | [] => some []
  | p :: r => bd (f p) fun i => bd (allOf f r) fun l => some (i :: l)
noncomputable def intsOf (l : List PV) : Option (List Int) := allOf PV.int? l
noncomputable def strsOf (l : List PV) : Option (List Str) := allOf PV.str? l
noncomputable def bytsOf (l : List PV) : Option (List (Array UInt8)) := allOf PV.byt? l
noncomputable def ins {α : Type} (le : α → α → Bool) (a : α) : List α → List α
  | [] => [a]
  | b :: r => cond (le a b) (a :: b :: r) (b :: ins le a r)
noncomputable def srt {α : Type} (le : α → α → Bool) : List α → List α
  | [] => []
  | a :: r => ins le a (srt le r)
noncomputable def leI (a b : Int) : Bool := decide (a ≤ b)
noncomputable def leS (a b : Str) : Bool := !decide (b.cps.toList < a.cps.toList)
noncomputable def srtI (l : List Int) : List Int := srt leI l
noncomputable def srtS (l : List Str) : List Str := srt leS l
noncomputable def lenV (σ : St) (p : PV) : Option PV := ql (bd p.str? fun x => gd (decide (x.length ≤ LIM)) (some (.int x.length)))
  (ql (bd p.byt? fun x => gd (decide (x.size ≤ LIM)) (some (.int x.size))) (bd (lstOf σ p) fun l => gd (decide (l.length ≤ LIM)) (some (.int l.length))))
noncomputable def maxV : List Int → Option PV
  | [] => none
  | n :: ns => gd (decide (ns.length ≤ LIM)) (some (.int (ns.foldl max n)))
noncomputable def biV (f : BI) (ps : List PV) (σ : St) : Option PV := match f with
  | .len => bd (one? ps) fun p => lenV σ p
  | .range => ql (bd (one? ps) fun p => bd p.int? fun b => some (.rng 0 b 1)) (bd (two? ps) fun x => i2 x.1 x.2 fun a b => some (.rng a b 1))
  | .sorted => bd (one? ps) fun p => bd (lstOf σ p) fun l => gd (decide (l.length < 60)) (ql (bd (intsOf l) fun ns => some (.lst ((srtI ns).map .int))) (bd (strsOf l) fun ss => some (.lst ((srtS ss).map .str))))
  | .max => ql (bd (one? ps) fun p => bd (lstOf σ p) fun l => bd (intsOf l) maxV) (bd (two? ps) fun x => i2 x.1 x.2 fun a b => some (.int (if a < b then b else a)))
  | .bytes => bd (one? ps) fun p => bd (lstOf σ p) fun l => bd (intsOf l) fun ns => gd (ns.all (fun n => decide (0 ≤ n) && decide (n < 256)) && decide (ns.length ≤ LIM)) (some (.byt (ns.map fun n => n.toNat.toUInt8).toArray))
noncomputable def latin1 : Str := Str.ofString "latin-1"
/- the words of none to four letters a and b -/
noncomputable def wdN : Nat → List (List Nat)
  | 0 => [[]]
  | n + 1 => (wdN n).flatMap fun w => [97 :: w, 98 :: w]
noncomputable def wds : List (List Nat) := wdN 0 ++ (wdN 1 ++ (wdN 2 ++ (wdN 3 ++ wdN 4)))
noncomputable def wdsB : List (List UInt8) := wds.map fun l => l.map Nat.toUInt8
noncomputable def fndV (x y : Str) (k : Int) : Int := match Builtin.Str.occurrences x y k.toNat x.length 1 with | i :: _ => (i : Int) | [] => -1
/- calls that change a list -/
noncomputable def meL (m : MT) (l : List PV) (ps : List PV) : Option (PV × List PV) := match m with
  | .append => bd (one? ps) fun q => gd (decide (l.length ≤ LIM)) (some (.none, l ++ [q]))
  | .extend => bd (one? ps) fun q => bd q.lst? fun r => gd (decide (l.length ≤ LIM) && decide (r.length ≤ LIM)) (some (.none, l ++ r))
  | .pop => bd (nil? ps) fun _ => bd l.getLast? fun q => gd (decide (l.length ≤ LIM)) (some (q, l.dropLast))
  | _ => none
/- calls that change nothing -/
noncomputable def joinS (σ : St) (x : Str) (ps : List PV) : Option PV := bd (one? ps) fun q => bd (lstOf σ q) fun l => bd (strsOf l) fun ss => gd (decide (x.length ≤ 16) && decide ((ss.map (·.length)).sum + ss.length ≤ LIM)) (some (.str (Str.join x ss)))
noncomputable def joinB (σ : St) (x : Array UInt8) (ps : List PV) : Option PV := bd (one? ps) fun q => bd (lstOf σ q) fun l => bd (bytsOf l) fun bs => gd (decide (x.size = 0) && (decide (2 ≤ bs.length) && decide (bs.length ≤ LIM) && decide ((bs.map Array.size).sum ≤ LIM))) (some (.byt (bs.foldl (· ++ ·) #[])))
noncomputable def meS (m : MT) (x : Str) (ps : List PV) (σ : St) : Option PV := match m with
  | .join => joinS σ x ps
  | .find => bd (two? ps) fun y => bd y.1.str? fun z => bd y.2.int? fun k => gd (decide (x.length ≤ LIM) && (decide (0 ≤ k) && decide (k ≤ LIM))) (some (.int (fndV x z k)))
  | .replace => bd (two? ps) fun y => s2 y.1 y.2 fun a _ => gd (decide (x.length ≤ LIM) && (Builtin.Str.occurrences x a 0 x.length (x.length + 1)).isEmpty) (some (.str x))
  | .encode => bd (one? ps) fun q => bd q.str? fun y => gd (decide (y = latin1) && wds.contains x.cps.toList) (some (.byt (x.cps.map Nat.toUInt8)))
  | _ => none
noncomputable def meB (m : MT) (b : Array UInt8) (ps : List PV) (σ : St) : Option PV := match m with
  | .join => joinB σ b ps
  | .decode => bd (one? ps) fun q => bd q.str? fun y => gd (decide (y = latin1) && wdsB.contains b.toList) (some (.str ⟨b.map UInt8.toNat⟩))
  | _ => none
noncomputable def meV (m : MT) (p : PV) (ps : List PV) (σ : St) : Option (PV × St) :=
  ql (bd p.str? fun x => vl (meS m x ps σ) σ) (ql (bd p.byt? fun x => vl (meB m x ps σ) σ) (bd p.loc? fun n => bd (locL σ n) fun l => bd (meL m l ps) fun x => some (x.1, σ.set n (.lst x.2))))
/- ahead of the arguments: the value has such a method -/
noncomputable def okL (m : MT) : Bool := match m with | .append | .extend | .pop => true | _ => false
noncomputable def okS (m : MT) : Bool := match m with | .join | .find | .replace | .encode => true | _ => false
noncomputable def okB (m : MT) : Bool := match m with | .join | .decode => true | _ => false
noncomputable def meOk (m : MT) (p : PV) (σ : St) : Option Unit :=
  ql (bd p.str? fun _ => gd (okS m) (some ())) (ql (bd p.byt? fun _ => gd (okB m) (some ())) (bd p.loc? fun n => bd (locL σ n) fun _ => gd (okL m) (some ())))
/- one character: letters a and b as they are -/
noncomputable def trsV (p : PV) : Option PV := bd p.str? fun x => gd (x.cps == #[97] || x.cps == #[98]) (some (.str x))
noncomputable def fmtLit : Str := Str.ofString "expected %d bytes in a string1, but only %d remain"
noncomputable def fmtRes : Str := Str.ofString "expected 4 bytes in a string1, but only 2 remain"
noncomputable def fmtV (x : Str) (p q : PV) : Option PV := i2 p q fun i j => gd (decide (x = fmtLit) && (decide (i = 4) && decide (j = 2))) (some (.str fmtRes))
noncomputable def drv : Nat → PySem.Sre.M → Option PySem.Sre.M
  | 0, _ => none
  | n + 1, m => let m := m.runFor 4; if m.outcome.isSome then some m else drv n m
noncomputable def subCode : Array Nat := #[14, 14, 4, 1, 1, 9, 0, 64, 0, 1342177280, 0, 0, 0, 0, 0, 17, 0, 13, 11, 9, 0, 64, 0, 1342177280, 0, 0, 0, 0, 0, 17, 1, 1]
/-- the text holds none of the three signs: by the engine's own word -/
noncomputable def subOk (x : Str) : Bool := match drv 1000 (PySem.Sre.forSearch subCode x.cps 1 0 x.cps.size false) with
  | some m => (match m.outcome with | some .failed => true | _ => false)
  | none => false
noncomputable def subV (p : PV) : Option PV := bd p.str? fun x => gd (decide (x.length ≤ 64) && subOk x) (some (.str x))
section
variable (Φ : Nat → Option Spec)
noncomputable def bindN (n : Nat) (p : PV) : Option Fm := match n with
  | 1 => some [some p]
  | 2 => bd p.tup? fun l => bd (two? l) fun x => some [some x.1, some x.2]
  | _ => none
noncomputable def outV (o : Out) : Option PV := match o with | .val p => some p | .exc _ => none
noncomputable def callV (f : Nat) (ps : List PV) (σ : St) : Option (PV × St) := bd (Φ f) fun sp => sq (sp ps σ) fun o σ => vl (outV o) σ
noncomputable def rdm (m : Fm) (i : Nat) : Option PV := bd m[i]? id
noncomputable def strmD (σ : St) (p : PV) : Option (Nat × Array UInt8) := bd p.strm? fun n => bd σ[n]? fun o => bd o.sd? fun b => some (n, b)
noncomputable def fstrV (ps : List PV) : Option PV := bd (strsOf ps) fun ss => gd (decide ((ss.map (·.length)).sum ≤ LIM)) (some (.str (ss.foldl (· ++ ·) Str.empty)))
/- a list built turn by turn -/
noncomputable def compGo (n : Option Nat) (ar : Nat) (ts : Fm → St → Option (Bool × St)) (f : EvE) (m : Fm) : List PV → Nat → St → List PV → Option (List PV × St)
  | [], k, σ, acc => gd (finV n σ k) (some (acc, σ))
  | q :: r, k, σ, acc => gd (decide (acc.length ≤ LIM)) (bd (rdV n σ k q) fun p => bd (bindN ar p) fun bs => sq (ts (m ++ bs) σ) fun t σ =>
      cond t (sq (f (m ++ bs) σ) fun q σ => compGo n ar ts f m r (k + 1) σ (acc ++ [q])) (compGo n ar ts f m r (k + 1) σ acc))
mutual
noncomputable def ev : X → Fm → St → Option (PV × St)
  | .bad, _, _ => none
  | .none, _, σ => some (.none, σ)
  | .bool b, _, σ => some (.bool b, σ)
  | .int i, _, σ => some (.int i, σ)
  | .str x, _, σ => some (.str x, σ)
  | .byt l, _, σ => some (.byt l.toArray, σ)
  | .v i, m, σ => vl (rdm m i) σ
  | .bin op a b, m, σ => sq (ev a m σ) fun p σ => sq (ev b m σ) fun q σ => vl (binV op p q σ) σ
  | .neg a, m, σ => sq (ev a m σ) fun p σ => bd p.int? fun i => some (.int (-i), σ)
  | .no a, m, σ => sq (ev a m σ) fun p σ => bd (truthyV σ p) fun b => some (.bool (!b), σ)
  | .cmp op a b, m, σ => sq (ev a m σ) fun p σ => sq (ev b m σ) fun q σ => bd (cmpV op p q σ) fun r => some (.bool r, σ)
  | .bo op xs, m, σ => evB op xs m σ
  | .ite t a b, m, σ => sq (ev t m σ) fun p σ => bd (truthyV σ p) fun t => cond t (ev a m σ) (ev b m σ)
  | .tup xs, m, σ => sq (evL xs m σ) fun ps σ => gd (decide (ps.length ≤ LIM)) (some (.tup ps, σ))
  | .list xs, m, σ => sq (evL xs m σ) fun ps σ => gd (decide (ps.length ≤ LIM)) (some (.lst ps, σ))
  | .mlist xs, m, σ => sq (evL xs m σ) fun ps σ => gd (decide (ps.length ≤ LIM)) (some (.loc σ.length, σ ++ [.lst ps]))
  | .call f xs, m, σ => sq (evL xs m σ) fun ps σ => callV Φ f ps σ
  | .callv i a, m, σ => bd (rdm m i) fun q => bd q.app? fun n => sq (ev a m σ) fun p σ => meV .append (.loc n) [p] σ
  | .bi f xs, m, σ => sq (evL xs m σ) fun ps σ => vl (biV f ps σ) σ
  | .me k a xs, m, σ => sq (ev a m σ) fun p σ => bd (meOk k p σ) fun _ => sq (evL xs m σ) fun ps σ => meV k p ps σ
  | .idx a i, m, σ => sq (ev a m σ) fun p σ => sq (ev i m σ) fun q σ => vl (idxV σ p q) σ
  | .slc a lo hi, m, σ => sq (ev a m σ) fun p σ => sq (evO lo m σ) fun l σ => sq (evO hi m σ) fun h σ => vl (slcV σ p l h) σ
  | .app a, m, σ => sq (ev a m σ) fun p σ => bd p.loc? fun n => bd (locL σ n) fun _ => some (.app n, σ)
  | .val a, m, σ => sq (ev a m σ) fun p σ => bd (strmD σ p) fun x => some (.byt x.2, σ)
  | .read f a n, m, σ => sq (ev a m σ) fun p σ => bd (strmD σ p) fun x => sq (ev n m σ) fun q σ => callV Φ f [.strm x.1, q] σ
  | .comp ar elt it ifs, m, σ => sq (ev it m σ) fun p σ => bd (iterV σ p) fun x => sq (compGo x.2 ar (evT ifs) (ev elt) m x.1 0 σ []) fun ps σ => some (.lst ps, σ)
  | .fstr xs, m, σ => sq (evL xs m σ) fun ps σ => vl (fstrV ps) σ
  | .sub a, m, σ => sq (ev a m σ) fun p σ => vl (subV p) σ
  | .trs a, m, σ => sq (ev a m σ) fun p σ => vl (trsV p) σ
  | .star, _, σ => some (.loc σ.length, σ ++ [.plain])
  | .fmt x a b, m, σ => sq (ev a m σ) fun p σ => sq (ev b m σ) fun q σ => vl (fmtV x p q) σ
noncomputable def evL : XL → Fm → St → Option (List PV × St)
  | .nil, _, σ => some ([], σ)
  | .cons x r, m, σ => sq (ev x m σ) fun p σ => sq (evL r m σ) fun ps σ => some (p :: ps, σ)
noncomputable def evO : XO → Fm → St → Option (Option PV × St)
  | .no, _, σ => some (none, σ)
  | .yes x, m, σ => sq (ev x m σ) fun p σ => some (some p, σ)
noncomputable def evB (op : BoolOp) : XL → Fm → St → Option (PV × St)
  | .nil, _, _ => none
  | .cons x r, m, σ => sq (ev x m σ) fun p σ => match r with
    | .nil => some (p, σ)
    | .cons y r' => bd (truthyV σ p) fun b => cond ((op == .And) == b) (evB op (.cons y r') m σ) (some (p, σ))
noncomputable def evT : XL → Fm → St → Option (Bool × St)
  | .nil, _, σ => some (true, σ)
  | .cons x r, m, σ => sq (ev x m σ) fun p σ => bd (truthyV σ p) fun b => cond b (evT r m σ) (some (false, σ))
end
end
end Sh
namespace Sh
open PySem PySem.Calls PyProof.Rows PySem.W PySem.Spec
noncomputable def Rd (h : Heap) (v : Value) (d : PyData) : Prop := ∃ as, Reads h v d as
noncomputable def Rds (h : Heap) (v : List Value) (d : List PyData) : Prop := ∃ as, ReadsAll h v d as
mutual
theorem VR.reads {C : Addr} {ω : Wd} {h : Heap} : ∀ {p : PV} {v : Value} {d : PyData}, VR C ω h p v → pyOf p = some d → Rd h v d
  | .none, _, _, x, e => so_el (P := Rd h _) e (x.none_el (P := fun v => Rd h v _) ⟨_, .none⟩)
  | .bool _, _, _, x, e => so_el (P := Rd h _) e (x.bool_el (P := fun v => Rd h v _) ⟨_, .bool _⟩)
  | .int _, _, _, x, e => so_el (P := Rd h _) e (x.int_el (P := fun v => Rd h v _) fun t => ⟨_, .int _ t⟩)
  | .str _, _, _, x, e => gd_el e fun _ e => so_el (P := Rd h _) e (x.str_el (P := fun v => Rd h v _) fun t => ⟨_, .str _ t⟩)
  | .byt _, _, _, _, e => nn e
  | .tup l, _, _, x, e => mp_el (P := Rd h _) e fun ds e => x.tup_el (P := fun v => Rd h v _) fun a o vs n f c dd r => (VRs.reads r e).elim fun as q => ⟨_, .tuple f.2.2.1 c dd q⟩
  | .lst l, _, _, x, e => mp_el (P := Rd h _) e fun ds e => x.lst_el (P := fun v => Rd h v _) fun a o vs n f c dd r => (VRs.reads r e).elim fun as q => ⟨_, .list f.2.2.1 c dd q⟩
  | .rng _ _ _, _, _, _, e => nn e
  | .loc _, _, _, _, e => nn e
  | .strm _, _, _, _, e => nn e
  | .app _, _, _, _, e => nn e
theorem VRs.reads {C : Addr} {ω : Wd} {h : Heap} : ∀ {ps : List PV} {vs : List Value} {ds : List PyData}, VRs C ω h ps vs → pyOfs ps = some ds → Rds h vs ds
  | [], _, _, x, e => so_el (P := Rds h _) e (x.nil_el (Ps := fun v => Rds h v _) ⟨_, .nil⟩)
  | p :: ps, _, _, x, e => bd_el e fun d e1 e => bd_el e fun ds e2 e => so_el (P := Rds h _) e (x.cons_el (Ps := fun v => Rds h v _) fun v r a b => (VR.reads a e1).elim fun _ q => (VRs.reads b e2).elim fun _ q' => ⟨_, .cons q q'⟩)
end
noncomputable def Lay (d : PyData) : Prop := d.canLay0 = true
noncomputable def Lays (d : List PyData) : Prop := PyData.canLayAll0 d = true
mutual
theorem pyOf_lay : ∀ {p : PV} {d : PyData}, pyOf p = some d → Lay d
  | .none, _, e => so_el e rfl
  | .bool _, _, e => so_el e rfl
  | .int _, _, e => so_el e rfl
  | .str _, _, e => gd_el e fun h e => so_el e h
  | .byt _, _, e => nn e
  | .tup l, _, e => mp_el e fun _ e => pyOfs_lay e
  | .lst l, _, e => mp_el e fun _ e => pyOfs_lay e
  | .rng _ _ _, _, e => nn e
  | .loc _, _, e => nn e
  | .strm _, _, e => nn e
  | .app _, _, e => nn e
theorem pyOfs_lay : ∀ {ps : List PV} {ds : List PyData}, pyOfs ps = some ds → Lays ds
  | [], _, e => so_el e rfl
  | p :: ps, _, e => bd_el e fun d e1 e => bd_el e fun ds e2 e => so_el e (show (d.canLay0 && PyData.canLayAll0 ds) = true from Bool.and_eq_true_iff.mpr ⟨pyOf_lay e1, pyOfs_lay e2⟩)
end
theorem VRs.length {C : Addr} {ω : Wd} {h : Heap} : ∀ {ps : List PV} {vs : List Value}, VRs C ω h ps vs → vs.length = ps.length
  | [], _, x => x.nil_el (Ps := fun vs => vs.length = 0) rfl
  | p :: ps, _, x => x.cons_el (Ps := fun vs => vs.length = ps.length + 1) fun _ _ _ b => congrArg (· + 1) (VRs.length b)
theorem VRs.size {C : Addr} {ω : Wd} {h : Heap} {ps : List PV} {vs : Array Value} (x : VRs C ω h ps vs.toList) : vs.size = ps.length := x.length
theorem VRs.get {C : Addr} {ω : Wd} {h : Heap} : ∀ {ps : List PV} {vs : List Value} {i : Nat} {p : PV}, VRs C ω h ps vs → ps[i]? = some p → ∃ v, vs[i]? = some v ∧ VR C ω h p v
  | [], _, _, _, x, e => nomatch e
  | p :: ps, _, 0, q, x, e => x.cons_el (Ps := fun vs => ∃ v, vs[0]? = some v ∧ VR C ω h q v) fun v _ a _ => ⟨v, rfl, so_el (P := fun q => VR C ω h q v) (show some p = some q from e) a⟩
  | p :: ps, _, i + 1, q, x, e => x.cons_el (Ps := fun vs => ∃ v, vs[i + 1]? = some v ∧ VR C ω h q v) fun v _ _ b => VRs.get (ps := ps) (i := i) (p := q) b e
theorem VRs.append {C : Addr} {ω : Wd} {h : Heap} : ∀ {ps qs : List PV} {vs ws : List Value}, VRs C ω h ps vs → VRs C ω h qs ws → VRs C ω h (ps ++ qs) (vs ++ ws)
  | [], qs, _, ws, x, y => x.nil_el (Ps := fun vs => VRs C ω h qs (vs ++ ws)) y
  | p :: ps, qs, _, ws, x, y => x.cons_el (Ps := fun vs => VRs C ω h (p :: (ps ++ qs)) (vs ++ ws)) fun _ _ a b => .cons_in a (VRs.append b y)
theorem VRs.drop {C : Addr} {ω : Wd} {h : Heap} : ∀ {ps : List PV} {vs : List Value} (n : Nat), VRs C ω h ps vs → VRs C ω h (ps.drop n) (vs.drop n)
  | _, _, 0, x => x
  | [], _, n + 1, x => x.nil_el (Ps := fun vs => VRs C ω h [] (vs.drop (n + 1))) .nil
  | p :: ps, _, n + 1, x => x.cons_el (Ps := fun vs => VRs C ω h (ps.drop n) (vs.drop (n + 1))) fun _ _ _ b => VRs.drop n b
theorem VRs.take {C : Addr} {ω : Wd} {h : Heap} : ∀ {ps : List PV} {vs : List Value} (n : Nat), VRs C ω h ps vs → VRs C ω h (ps.take n) (vs.take n)
  | [], _, 0, x => .nil
  | _ :: _, _, 0, x => .nil
  | [], _, n + 1, x => x.nil_el (Ps := fun vs => VRs C ω h [] (vs.take (n + 1))) .nil
  | p :: ps, _, n + 1, x => x.cons_el (Ps := fun vs => VRs C ω h (p :: ps.take n) (vs.take (n + 1))) fun _ _ a b => .cons_in a (VRs.take n b)
theorem locL_at {σ : St} {n : Nat} {l : List PV} (e : locL σ n = some l) : σ[n]? = some (.lst l) := bd_el e fun o e1 e2 => olst_at e2 ▸ e1
theorem Inv.lst_el {B : Base} {ω : Wd} {σ : St} {s : Shared} {n : Nat} {a : Addr} {l : List PV} {G : Prop} (I : Inv B ω σ s) (i : ω.mu[n]? = some a) (e : σ[n]? = some (.lst l))
    (k : ∀ o vs n', s.heap.get? a = some o → LC o → o.data = .seq vs n' → VRs B.C ω s.heap l vs.toList → G) : G :=
  let ⟨o, vs, n', h1, h2, h3, h4⟩ := (show ∃ o vs n', s.heap.get? a = some o ∧ LC o ∧ o.data = .seq vs n' ∧ VRs B.C ω s.heap l vs.toList from I.objs _ _ _ i e)
  k o vs n' h1 h2 h3 h4
theorem Inv.plain_el {B : Base} {ω : Wd} {σ : St} {s : Shared} {n : Nat} {a : Addr} {G : Prop} (I : Inv B ω σ s) (i : ω.mu[n]? = some a) (e : σ[n]? = some .plain)
    (k : ∀ o, s.heap.get? a = some o → o.cls = .type "object" → G) : G :=
  (show ∃ o, s.heap.get? a = some o ∧ o.cls = .type "object" from I.objs _ _ _ i e).elim fun o q => k o q.1 q.2
/-- an open list where it lies -/
@[elab_as_elim] theorem loc_vr {B : Base} {ω : Wd} {σ : St} {s : Shared} {n : Nat} {v : Value} {l : List PV} {P : Value → Prop} (I : Inv B ω σ s) (x : VR B.C ω s.heap (.loc n) v) (e : locL σ n = some l)
    (k : ∀ a o vs n', ω.mu[n]? = some a → s.heap.get? a = some o → LC o → o.data = .seq vs n' → VRs B.C ω s.heap l vs.toList → P (.ref a)) : P v :=
  x.loc_el fun a i => I.lst_el i (locL_at e) fun o vs m h1 h2 h3 h4 => k a o vs m i h1 h2 h3 h4
/-- a list's items where it lies -/
@[elab_as_elim] theorem lstOf_vr {B : Base} {ω : Wd} {σ : St} {s : Shared} {p : PV} {v : Value} {l : List PV} {P : Value → Prop} (I : Inv B ω σ s) (x : VR B.C ω s.heap p v) (e : lstOf σ p = some l)
    (k : ∀ a o vs n, s.heap.get? a = some o → o.cls = .type "list" → o.data = .seq vs n → VRs B.C ω s.heap l vs.toList → P (.ref a)) : P v :=
  ql_el e (fun e => VR.lst_el (P := P) (lst_at e ▸ x) fun a o vs n f c d r => k a o vs n f.2.2.1 c d r)
    fun e => bd_el e fun n e1 e2 => loc_vr (P := P) I (loc_at e1 ▸ x) e2 fun a o vs n' _ ho c d r => k a o vs n' ho c.1 d r
abbrev emptyH : Heap := {}
theorem fr_empty {h : Heap} {L : Addr} {f : Str → Option Value} (hn : h.Ns L f) : Fr emptyH L h f := ⟨hn, (fun b o e => by simp [Heap.get?] at e), Nat.zero_le _⟩
theorem size_none (h : Heap) : h.get? h.objs.size = none :=
  match e : h.get? h.objs.size with
  | none => rfl
  | some _ => absurd (Heap.lt_size e) (Nat.lt_irrefl _)
theorem isl_of {h : Heap} {a : Addr} {o : Obj} {vs : Array Value} {n : Nat} (ho : h.get? a = some o) (c : o.cls = .type "list") (d : o.data = .seq vs n) : h.IsList a vs := ⟨o, ho, c, n, d⟩
theorem isL_of {h : Heap} {a : Addr} {o : Obj} {vs : Array Value} {n : Nat} (ho : h.get? a = some o) (c : LC o) (d : o.data = .seq vs n) : IsL h a vs n := by
  obtain ⟨c1, c2, c3⟩ := c
  obtain ⟨k, dd, dt, sl⟩ := o
  simp only at c1 c2 c3 d
  subst c1 c2 c3 d
  exact ho
theorem lc_of {vs : Array Value} {n : Nat} : LC { cls := .type "list", dict := none, data := .seq vs n, slots := #[] } := ⟨rfl, rfl, rfl⟩
theorem small_bits {a : Int} (h : small a = true) : Builtin.Int.intBits a ≤ 64 := by have := dec h; exact intBits_le_64 (by omega) (by omega)
theorem lim_line {n : Nat} (h : decide (n ≤ LIM) = true) : n ≤ sizeLine := by have := dec h; rw [sizeLine_eq]; simp only [LIM] at this; omega
theorem lim_mil {n : Nat} (h : decide (n ≤ LIM) = true) : n ≤ 1000000 := by have := dec h; simp only [LIM] at this; omega
section
variable {B : Base} {A : Around} {E : Value → Shared → Prop} {ω : Wd} {σ : St} {s : Shared} {Q : Value → Shared → Prop}
theorem fz_new {o : Obj} {h' : Heap} (I : Inv B ω σ s) (hd : ¬ Dic o ∧ ¬ Tbl o) {a : Addr} (hn : s.heap.get? a = none) (ho : h'.get? a = some o) : Fz ω h' a o :=
  ⟨(fun q => by have := I.live q; rw [hn] at this; cases this), (fun q => by have := I.exl a q; rw [hn] at this; cases this), ho, hd⟩
theorem lst_new {l : List PV} {vs : Array Value} {o : Obj} {h' : Heap} {a : Addr} {n : Nat} (I : Inv B ω σ s) (hn : s.heap.get? a = none) (ho : h'.get? a = some o) (c : o.cls = .type "list") (d : o.data = .seq vs n)
    (x : VRs B.C ω h' l vs.toList) : VR B.C ω h' (.lst l) (.ref a) := .lst_in (fz_new I (seq_frz d) hn ho) c d x
/-- the way on: a value, made in a heap that keeps all -/
abbrev KK (B : Base) (ω : Wd) (s : Shared) (p : PV) (Q : Value → Shared → Prop) : Prop :=
  ∀ v h' tk, (∀ b o, s.heap.get? b = some o → h'.get? b = some o) → VR B.C ω h' p v → Q v { s with heap := h', toks := tk }
theorem keep_refl (h : Heap) : ∀ b o, h.get? b = some o → h.get? b = some o := fun _ _ e => e
theorem keep_push (h : Heap) (o : Obj) : ∀ b o', h.get? b = some o' → (h.push o).get? b = some o' := fun _ _ e => Heap.get?_push_of_some _ e
theorem new_get (h : Heap) (o : Obj) (hf : o.isFreed = false) : (h.push o).get? h.objs.size = some o := Heap.get?_push_size _ hf
theorem KK.int {i : Int} {r : PV} (k : KK B ω s r Q) (e : some (PV.int i) = some r) (t tk : Tok) : Q (.int i t) { s with toks := tk } := k _ s.heap tk (keep_refl _) (so_el (P := fun r => VR B.C ω s.heap r (.int i t)) e .int_in)
theorem KK.str {i : Str} {r : PV} (k : KK B ω s r Q) (e : some (PV.str i) = some r) (t tk : Tok) : Q (.str i t) { s with toks := tk } := k _ s.heap tk (keep_refl _) (so_el (P := fun r => VR B.C ω s.heap r (.str i t)) e .str_in)
theorem KK.byt {i : Array UInt8} {r : PV} (k : KK B ω s r Q) (e : some (PV.byt i) = some r) (t tk : Tok) : Q (.bytes i t) { s with toks := tk } := k _ s.heap tk (keep_refl _) (so_el (P := fun r => VR B.C ω s.heap r (.bytes i t)) e .byt_in)
theorem KK.lst {vs : Array Value} {l : List PV} {r : PV} (I : Inv B ω σ s) (k : KK B ω s r Q) (e : some (PV.lst l) = some r) (x : VRs B.C ω s.heap l vs.toList) :
    Q (.ref s.heap.objs.size) { s with heap := s.heap.push { cls := .type "list", data := .seq vs } } :=
  k _ _ s.toks (keep_push _ _) (so_el (P := fun r => VR B.C ω (s.heap.push { cls := .type "list", data := .seq vs }) r (.ref s.heap.objs.size)) e (lst_new I (size_none _) (new_get _ _ rfl) rfl rfl (x.carry (.of_keep (keep_push _ _)))))
theorem list_add {a b : Addr} {oa ob : Obj} {va vb : Array Value} {na nb : Nat} {Q : Value → Shared → Prop} (ha : s.heap.get? a = some oa) (ca : oa.cls = .type "list") (da : oa.data = .seq va na) (hb : s.heap.get? b = some ob) (cb : ob.cls = .type "list") (db : ob.data = .seq vb nb)
    (hsz : va.size + vb.size ≤ sizeLine) (k : Q (.ref s.heap.objs.size) { s with heap := s.heap.push { cls := .type "list", data := .seq (va ++ vb) } }) : wpAny (model B.prog B.w) A (binaryOp .Add (.ref a) (.ref b)) Q E s := by
  obtain ⟨cls, dd, data, sl⟩ := oa
  obtain ⟨cls2, dd2, data2, sl2⟩ := ob
  cases ca; cases da; cases cb; cases db
  exact concat_meets ⟨_, ha, rfl⟩ ⟨_, hb, rfl⟩ noFill_list_add seq_list_add PySem.F.slot_list_add PySem.F.entry_list_add (PySem.F.args_list_add_2 _ _) (list_addW a b va vb na nb dd dd2 sl sl2 hsz) ⟨ha, hb, k⟩
theorem powb {a n : Int} (h1 : 0 ≤ n) (h2 : n ≤ 60) (h3 : a.natAbs < 2 ^ 32) : (Builtin.Int.intBits a : Int) * n ≤ 2 ^ 27 := by
  have h1' : Builtin.Int.intBits a ≤ 64 := intBits_le_64 (by omega) (by omega)
  have h2' : (Builtin.Int.intBits a : Int) ≤ 64 := by omega
  calc (Builtin.Int.intBits a : Int) * n ≤ 64 * n := Int.mul_le_mul_of_nonneg_right h2' h1
    _ ≤ 2 ^ 27 := by omega
theorem bin_ok {op : Operator} {p q r : PV} {v w : Value} (I : Inv B ω σ s) (x : VR B.C ω s.heap p v) (y : VR B.C ω s.heap q w) (e : binV op p q σ = some r) (k : KK B ω s r Q) :
    wpAny (model B.prog B.w) A (binaryOp op v w) Q E s := by
  cases op <;> first | exact nn e | skip
  · refine ql_el e (fun e => i2_vr x y e fun a b t u e => add_int (k.int e _ _)) fun e => ql_el e (fun e => s2_vr x y e fun a b t u e => gd_el e fun h e => PyProof.Rows.add_str (fun t' tk => k.str e _ _) (lim_line h))
      fun e => ql_el e (fun e => b2_vr x y e fun a b t u e => gd_el e fun h e => KBy.add_bytes (lim_line h) fun t' tk => k.byt e _ _)
      fun e => bd_el e fun l1 e1 e => bd_el e fun l2 e2 e => gd_el e fun h e => ?_
    refine lstOf_vr (P := fun v => wpAny (model B.prog B.w) A (binaryOp .Add v w) Q E s) I x e1 fun a o vs n ho c d r => lstOf_vr I y e2 fun a' o' vs' n' ho' c' d' r' => list_add ho c d ho' c' d' (by rw [r.size, r'.size]; exact lim_line h) (k.lst I e ?_)
    rw [Array.toList_append]
    exact r.append r'
  · exact i2_vr x y e fun a b t u e => sub_int (k.int e _ _)
  · exact i2_vr x y e fun a b t u e => gd_el e fun h e => and_el h fun h _ => PyProof.Rows.mul_int (k.int e _ _) (IntMulOk.of_left (small_bits h))
  · exact i2_vr x y e fun a b t u e => gd_el e fun h e => PyProof.Rows.mod_int' (bne_iff_ne.mp h) (k.int e _ _)
  · exact i2_vr x y e fun a b t u e => gd_el e fun h e => and_el h fun h1 h => and_el h fun h2 h3 => PyProof.Rows.pow_int (dec h1) (powb (dec h1) (dec h2) (dec h3)) (k.int e _ _)
  · exact i2_vr x y e fun a b t u e => gd_el e fun h e => and_el h fun h1 h2 => PyProof.Rows.rshift_int (dec h1) (k.int e _ _)
  · exact i2_vr x y e fun a b t u e => gd_el e fun h e => and_el h fun h1 h2 => PyProof.Rows.floordiv_int (hp := .inl (PyProof.noPylong_small (by have := dec h2; omega))) (bne_iff_ne.mp h1) (k.int e _ _)
end
end Sh
namespace Sh
open PySem PySem.Calls PyProof.Rows PySem.W PySem.Spec PySem.SeqAt
section
variable {B : Base} {A : Around} {E : Value → Shared → Prop} {ω : Wd} {σ : St} {s : Shared}
theorem resolve_reads {p : PV} {v : Value} {d : PyData} (I : Inv B ω σ s) (x : VR B.C ω s.heap p v) (e : pyOf (resolve σ p) = some d) : Rd s.heap v d :=
  match h : bd p.loc? (locL σ), (show pyOf ((bd p.loc? (locL σ)).elim p .lst) = some d from e) with
  | some l, e => bd_el h fun n e1 e2 => loc_vr (P := fun v => Rd s.heap v d) I (loc_at e1 ▸ x) e2 fun a o vs n' _ ho c dd r =>
      mp_el (P := fun d => Rd s.heap (.ref a) d) (show (pyOfs l).map .list = some d from e) fun ds e => (VRs.reads r e).elim fun _ q => ⟨_, .list ho c.1 dd q⟩
  | none, e => x.reads e
section
variable {Q : Value → Shared → Prop} {p q : PV} {b : Bool} {v w : Value}
theorem qb {b' : Bool} (e : some b' = some b) (k : Q (.bool b) s) : Q (.bool b') s := (so e).symm ▸ k
theorem eq_ok (hu : A.units + 64 < cLine) (I : Inv B ω σ s) (x : VR B.C ω s.heap p v) (y : VR B.C ω s.heap q w) (e : eqV σ p q = some b) (k : Q (.bool b) s) :
    wpAny (model B.prog B.w) A (compareOp .Eq v w) Q E s :=
  ql_el e (fun e => b2_vr x y e fun _ _ _ _ e => eq_bytes (qb e k)) fun e => bd_el e fun a ha e => bd_el e fun d hd e => gd_el e fun h e => and_el h fun h1 h2 =>
    (resolve_reads I x ha).elim fun _ ra => (resolve_reads I y hd).elim fun _ rb => compareEq_reads ra rb (pyOf_lay ha) (pyOf_lay hd) (by have := dec h1; have := Nat.min_le_left a.depth d.depth; omega) (qb e k)
theorem shp {d : PyData} (h : Lay d) (h1 : decide (d.depth ≤ 8) = true) : shaped d = true := by
  have := dec h1
  unfold shaped; rw [show d.canLay0 = true from h, Bool.true_and]; exact decide_eq_true (by omega)
theorem ne_ok {b : Bool} (hu : A.units + 64 < cLine) (I : Inv B ω σ s) (x : VR B.C ω s.heap p v) (y : VR B.C ω s.heap q w) (e : eqV σ p q = some b) (k : Q (.bool !b) s) :
    wpAny (model B.prog B.w) A (compareOp .NotEq v w) Q E s :=
  ql_el e (fun e => b2_vr x y e fun a b _ _ e => ne_bytes (show Q (.bool !(a.toList == b.toList)) s from so e ▸ k)) fun e => bd_el e fun a ha e => bd_el e fun d hd e => gd_el e fun h e => and_el h fun h1 h2 =>
    (resolve_reads I x ha).elim fun _ ra => (resolve_reads I y hd).elim fun _ rb => ne_dataH ra rb (shp (pyOf_lay ha) h1) (shp (pyOf_lay hd) h2) hu (so e ▸ k)
theorem ltA_ok (x : VR B.C ω s.heap p v) (y : VR B.C ω s.heap q w) (e : ltA p q = some b) (k : Q (.bool b) s) :
    wpAny (model B.prog B.w) A (compareOp .Lt v w) Q E s :=
  ql_el e (fun e => i2_vr x y e fun _ _ _ _ e => PyProof.Rows.lt_int (qb e k)) fun e => s2_vr x y e fun _ _ _ _ e => PyProof.Rows.lt_str (qb e k)
theorem eqA_at {Q : Bool → Shared → Prop} (x : VR B.C ω s.heap p v) (y : VR B.C ω s.heap q w) (e : eqA p q = some b) (k : Q b s) :
    wpAny (model B.prog B.w) A (eqBool v w) Q E s :=
  ql_el e (fun e => i2_vr x y e fun _ t _ u e => EqAt.int_int _ _ _ _ _ _ _ _ (so e ▸ k)) fun e => s2_vr x y e fun _ t _ u e => EqAt.str_str _ _ _ _ _ _ _ _ (so e ▸ k)
end
noncomputable def Held (p : Prop) : Prop := p
theorem held_eq {M : Model} {x y : Value} {α : Type} {f : Bool → Sem α} {Q : α → Shared → Prop} (h : Held (wpAny M A (eqBool x y) (fun e s₁ => wpAny M A (f e) Q E s₁) E s)) : wpAny M A (eqBool x y >>= f) Q E s := wpAny_bind h
theorem held_rc {M : Model} {op : CmpOp} {x y : Value} {α : Type} {f : Value → Sem α} {Q : α → Shared → Prop} (h : Held (wpAny M A (richCompare op x y) (fun e s₁ => wpAny M A (f e) Q E s₁) E s)) : wpAny M A (richCompare op x y >>= f) Q E s := wpAny_bind h
theorem lt_pairs {a b : Addr} {oa ob : Obj} {x₁ x₂ y₁ y₂ : Value} {na nb : Nat} {r : Bool} {Q : Value → Shared → Prop} (hu : A.units < cLine) (ha : s.heap.get? a = some oa) (ca : oa.cls = .type "tuple") (da : oa.data = .seq #[x₁, x₂] na)
    (hb : s.heap.get? b = some ob) (cb : ob.cls = .type "tuple") (db : ob.data = .seq #[y₁, y₂] nb)
    (h : wpAny (model B.prog B.w) A.in1 (eqBool x₁ y₁) (fun e₁ s₁ => if e₁ then wpAny (model B.prog B.w) A.in1 (eqBool x₂ y₂) (fun e₂ s₂ => if e₂ then r = false ∧ s₂ = s else wpAny (model B.prog B.w) A.in1 (compareOp .Lt x₂ y₂) (fun v s₃ => v = .bool r ∧ s₃ = s) E s₂) E s₁
        else wpAny (model B.prog B.w) A.in1 (compareOp .Lt x₁ y₁) (fun v s₃ => v = .bool r ∧ s₃ = s) E s₁) E s)
    (k : Q (.bool r) s) : wpAny (model B.prog B.w) A (compareOp .Lt (.ref a) (.ref b)) Q E s := by
  refine wpAny_richCompare_same_room (op := .Lt) (T := "tuple") ⟨oa, ha, ca⟩ ⟨ob, hb, cb⟩ F.slot_tuple_lt (wpAny_call_entry F.slot_tuple_lt ⟨oa, ha, ca⟩ F.entry_tuple_lt ?_ (F.args_tuple_lt_2 _ _)) hu
  have f2 := AutoSeq1.sub_tuple_tuple
  obtain ⟨cls, dd, data, sl⟩ := oa
  obtain ⟨cls2, dd2, data2, sl2⟩ := ob
  simp only at ca da cb db
  subst ca da cb db
  obtain ⟨hp, g, d, tk, os⟩ := s
  wp_walk using wpAny_loadPart' ha, wpAny_loadPart' hb, held_eq, held_rc
  refine wpAny_mono h (fun e₁ s₁ h₁ => ?_) (fun _ _ e => e)
  cases e₁ with
  | true =>
    simp only [if_true] at h₁
    wp_walk using held_eq, held_rc
    refine wpAny_mono h₁ (fun e₂ s₂ h₂ => ?_) (fun _ _ e => e)
    cases e₂ with
    | true =>
      simp only [if_true] at h₂
      obtain ⟨rfl, rfl⟩ := h₂
      wp_walk
      exact ⟨_, rfl, by simp [Builtin.Tuple.tupleCompareSizes], k⟩
    | false =>
      simp only [Bool.false_eq_true, if_false] at h₂
      wp_walk using held_eq, held_rc
      refine wpAny_mono (show wpAny _ _ (richCompare .Lt x₂ y₂) _ _ _ from h₂) (fun v s₃ h₃ => ?_) (fun _ _ e => e)
      obtain ⟨rfl, rfl⟩ := h₃
      wp_walk
      exact ⟨_, rfl, by simp, k⟩
  | false =>
    simp only [Bool.false_eq_true, if_false] at h₁
    wp_walk using held_eq, held_rc
    refine wpAny_mono (show wpAny _ _ (richCompare .Lt x₁ y₁) _ _ _ from h₁) (fun v s₃ h₃ => ?_) (fun _ _ e => e)
    obtain ⟨rfl, rfl⟩ := h₃
    wp_walk
    exact ⟨_, rfl, by simp, k⟩
@[elab_as_elim] theorem pair_vr {C : Addr} {h : Heap} {p : PV} {l : List PV} {q : PV × PV} {v : Value} {P : Value → Prop} (x : VR C ω h p v) (e : p.tup? = some l) (e' : two? l = some q)
    (k : ∀ a o v₁ v₂ n, h.get? a = some o → o.cls = .type "tuple" → o.data = .seq #[v₁, v₂] n → VR C ω h q.1 v₁ → VR C ω h q.2 v₂ → P (.ref a)) : P v :=
  VR.tup_el (P := P) (tup_at e ▸ x) fun a o vs n f c d r => VRs.two_el (Ps := fun l => o.data = .seq l.toArray n → P (.ref a)) (two_at (i := q.1) (j := q.2) e' ▸ r) (fun v w xv xw d => k a o v w n f.2.2.1 c d xv xw) d
theorem lt_ok {p q : PV} {b : Bool} {v w : Value} {Q : Value → Shared → Prop} (hu : A.units < cLine) (x : VR B.C ω s.heap p v) (y : VR B.C ω s.heap q w) (e : ltV p q = some b) (k : Q (.bool b) s) :
    wpAny (model B.prog B.w) A (compareOp .Lt v w) Q E s := by
  refine ql_el e (fun e => bd_el e fun l e1 e => bd_el e fun q₁ e2 e => bd_el e fun l' e3 e => bd_el e fun q₂ e4 e => bd_el e fun t e5 e => ?_) fun e => ltA_ok x y e k
  refine pair_vr (P := fun v => wpAny (model B.prog B.w) A (compareOp .Lt v w) Q E s) x e1 e2 fun a oa v₁ v₂ n ha ca da x₁ x₂ => pair_vr y e3 e4 fun c oc w₁ w₂ n' hc cc dc y₁ y₂ =>
    lt_pairs hu ha ca da hc cc dc (eqA_at x₁ y₁ e5 ?_) k
  cases t with
  | true => exact bd_el e fun t e6 e => eqA_at x₂ y₂ e6 (by
      cases t with
      | true => exact ⟨(so e).symm, rfl⟩
      | false => exact ltA_ok x₂ y₂ e ⟨rfl, rfl⟩)
  | false => exact ltA_ok x₁ y₁ e ⟨rfl, rfl⟩
section
variable {Q : Value → Shared → Prop} {p q : PV} {b : Bool} {v w : Value}
theorem in_ok (hu : A.units + 64 < cLine) (I : Inv B ω σ s) (x : VR B.C ω s.heap p v) (y : VR B.C ω s.heap q w) (e : inV p q = some b) (k : Q (.bool b) s) :
    wpAny (model B.prog B.w) A (compareOp .In v w) Q E s :=
  ql_el e (fun e => s2_vr x y e fun _ _ _ _ e => PyProof.Rows.in_str (qb e k)) fun e => bd_el e fun l e1 e => bd_el e fun d ed e => bd_el e fun ds eds e => gd_el e fun h e =>
    (x.reads ed).elim fun _ rx => VR.tup_el (P := fun w => wpAny (model B.prog B.w) A (compareOp .In v w) Q E s) (tup_at e1 ▸ y) fun a o vs n f c dd r => (VRs.reads r eds).elim fun _ ry =>
      in_tuple_reads (.tuple f.2.2.1 c dd ry) rx (pyOfs_lay eds) (pyOf_lay ed) (by have := dec h; have := Nat.min_le_right (PyData.depthAll ds) d.depth; omega) (qb e k)
theorem notIn_ok (hu : A.units + 64 < cLine) (I : Inv B ω σ s) (x : VR B.C ω s.heap p v) (y : VR B.C ω s.heap q w) (e : inV p q = some b) (k : Q (.bool !b) s) :
    wpAny (model B.prog B.w) A (compareOp .NotIn v w) Q E s :=
  ql_el e (fun e => s2_vr x y e fun _ _ _ _ e => PyProof.Rows.notIn_str (so e ▸ k)) fun e => bd_el e fun l e1 e => bd_el e fun d ed e => bd_el e fun ds eds e => gd_el e fun h e =>
    (x.reads ed).elim fun _ rx => VR.tup_el (P := fun w => wpAny (model B.prog B.w) A (compareOp .NotIn v w) Q E s) (tup_at e1 ▸ y) fun a o vs n f c dd r => (VRs.reads r eds).elim fun _ ry =>
      notIn_tuple_reads (.tuple f.2.2.1 c dd ry) rx (pyOfs_lay eds) (pyOf_lay ed) (by have := dec h; have := Nat.min_le_right (PyData.depthAll ds) d.depth; omega) (so e ▸ k)
theorem isSame_nul {R : Bool → Shared → Prop} {M : Model} (x : VR B.C ω s.heap p v) (e : isNul p = some b) (k : R b s) : wpAny M A (isSame v .none) R E s := by
  rw [isSame_none]
  refine wpAny_pure ?_
  cases p <;> first | exact nn e | skip
  · exact x.none_el (show R true s from so e ▸ k)
  · exact x.str_el fun _ => (show R false s from so e ▸ k)
  · exact x.tup_el fun _ _ _ _ _ _ _ _ => (show R false s from so e ▸ k)
  · exact x.lst_el fun _ _ _ _ _ _ _ _ => (show R false s from so e ▸ k)
theorem isSame_loc {R : Bool → Shared → Prop} {M : Model} {m n : Nat} {a c : Addr} {o : Obj} (I : Inv B ω σ s) (j : ω.mu[m]? = some c) (i : ω.mu[n]? = some a) (hc : s.heap.get? c = some o) (ho : o.cls ≠ .type "tuple") (k : R (m == n) s) :
    wpAny M A (isSame (.ref c) (.ref a)) R E s := by
  by_cases hnm : m = n
  · subst hnm
    cases i.symm.trans j
    rw [beq_self_eq_true] at k
    exact wpAny_isSame_ref_self k
  · have hab : c ≠ a := fun q => by
      subst q
      obtain ⟨h1, e1⟩ := List.getElem?_eq_some_iff.mp i
      obtain ⟨h2, e2⟩ := List.getElem?_eq_some_iff.mp j
      exact hnm ((List.getElem_inj I.nodup).mp (e2.trans e1.symm))
    rw [beq_eq_false_iff_ne.mpr hnm] at k
    exact (Option.isSome_iff_exists.mp (I.live (List.mem_of_getElem? i))).elim fun _ g => wpAny_isSame_ref_other hab hc g ho k
theorem is_at {R : Bool → Shared → Prop} {M : Model} (I : Inv B ω σ s) (x : VR B.C ω s.heap p v) (y : VR B.C ω s.heap q w) (e : isV σ p q = some b) (k : R b s) :
    wpAny M A (isSame v w) R E s :=
  ql_el e (fun e => bd_el e fun _ e1 e => VR.none_el (P := fun w => wpAny M A (isSame v w) R E s) (nul_at e1 ▸ y) (isSame_nul x e k)) fun e => bd_el e fun n e1 e => VR.loc_el (P := fun w => wpAny M A (isSame v w) R E s) (loc_at e1 ▸ y) fun a i =>
    ql_el e (fun e => bd_el e fun _ e2 e => x.str_vr e2 fun t => wpAny_isSame_plain rfl (show R false s from so e ▸ k)) fun e => bd_el e fun m e2 e => bd_el e fun o hσ e => bd_el e fun _ e3 e =>
      VR.loc_el (P := fun v => wpAny M A (isSame v (.ref a)) R E s) (loc_at e2 ▸ x) fun c j => ql_el e3
        (fun e3 => bd_el e3 fun l e4 _ => I.lst_el j (olst_at e4 ▸ hσ) fun o _ _ h1 h2 _ _ => isSame_loc I j i h1 (by rw [h2.1]; simp) (so e ▸ k))
        fun e3 => I.plain_el j (oplain_at e3 ▸ hσ) fun o h1 h2 => isSame_loc I j i h1 (by rw [h2]; simp) (so e ▸ k)
theorem cmp_ok {op : CmpOp} (hu : A.units + 64 < cLine) (I : Inv B ω σ s) (x : VR B.C ω s.heap p v) (y : VR B.C ω s.heap q w) (e : cmpV op p q σ = some b) (k : Q (.bool b) s) :
    wpAny (model B.prog B.w) A (compareOp op v w) Q E s :=
  match op, e with
  | .Eq, e => eq_ok hu I x y e k
  | .NotEq, e => mp_el (P := fun b => Q (.bool b) s → _) e (fun c e k => ne_ok hu I x y e k) k
  | .Lt, e => lt_ok (by omega) x y e k
  | .LtE, e => i2_vr x y e fun _ _ _ _ e => PyProof.Rows.le_int (qb e k)
  | .Gt, e => i2_vr x y e fun _ _ _ _ e => PyProof.Rows.gt_int (qb e k)
  | .GtE, e => i2_vr x y e fun _ _ _ _ e => PyProof.Rows.ge_int (qb e k)
  | .In, e => in_ok hu I x y e k
  | .NotIn, e => mp_el (P := fun b => Q (.bool b) s → _) e (fun c e k => notIn_ok hu I x y e k) k
  | .Is, e => show wpAny _ A (do return .bool (← isSame v w)) Q E s from wpAny_bind (is_at I x y e (wpAny_pure k))
  | .IsNot, e => mp_el (P := fun b => Q (.bool b) s → _) e (fun c e k => show wpAny _ A (do return .bool (!(← isSame v w))) Q E s from wpAny_bind (is_at I x y e (wpAny_pure k))) k
end
end
end Sh
namespace Sh
open PySem PySem.Calls PyProof.Rows PySem.W PySem.Spec PySem.SeqAt Builtin.Str
theorem str_slice (x : Str) (lo hi : Option Int) : (strSliceIndices lo hi 1 x.length).filterMap (x.cps[·]?) = slL x.cps.toList lo hi := by
  have e : strSliceIndices lo hi 1 x.length = sliceRange (sliceBounds lo hi none x.length).1 (sliceBounds lo hi none x.length).2.1 1 := by
    cases lo <;> cases hi <;> rfl
  rw [e, sliceBounds_plain]
  simp only [sliceRange_one, pick_run, slL]
  rfl
theorem slL_length {α : Type} (l : List α) (lo hi : Option Int) : (slL l lo hi).length ≤ l.length := by
  unfold slL; rw [List.length_take, List.length_drop]; omega
section
variable {B : Base} {A : Around} {E : Value → Shared → Prop} {ω : Wd} {σ : St} {s : Shared}
theorem ne0 (n : Nat) : ((n : Int) != 0) = (n != 0) := by rw [Bool.eq_iff_iff, bne_iff_ne, bne_iff_ne]; omega
theorem truthy_lst {a : Addr} {o : Obj} {vs : Array Value} {n : Nat} {l : List PV} {b : Bool} {Q : Bool → Shared → Prop} (ho : s.heap.get? a = some o) (c : o.cls = .type "list") (d : o.data = .seq vs n) (r : VRs B.C ω s.heap l vs.toList)
    (e : gd (decide (l.length ≤ LIM)) (some (!l.isEmpty)) = some b) (k : ∀ tk, Q b { s with toks := tk }) : wpAny (model B.prog B.w) A (truthy (.ref a)) Q E s :=
  gd_el e fun h e => wpAny_truthy_list (isl_of ho c d) (by rw [r.size]; have := lim_mil h; omega) (by
    have e2 : vs.isEmpty = l.isEmpty := by rw [Bool.eq_iff_iff, Array.isEmpty_iff_size_eq_zero, List.isEmpty_iff_length_eq_zero, r.size]
    rw [e2]; exact so_el (P := fun b => (∀ tk, Q b { s with toks := tk }) → Q (!l.isEmpty) _) e (fun k => k _) k)
theorem truthy_ok {p : PV} {b : Bool} {v : Value} {Q : Bool → Shared → Prop} (I : Inv B ω σ s) (x : VR B.C ω s.heap p v) (e : truthyV σ p = some b) (k : ∀ tk, Q b { s with toks := tk }) :
    wpAny (model B.prog B.w) A (truthy v) Q E s := by
  cases p <;> first | exact nn e | skip
  · exact x.none_el (PyProof.Rows.truthy_none ((so e).symm ▸ k s.toks))
  · exact x.bool_el (wpAny_truthy_bool ((so e).symm ▸ k s.toks))
  · exact x.int_el fun _ => PyProof.Rows.truthy_int ((so e).symm ▸ k s.toks)
  · exact gd_el e fun h e => x.str_el fun _ => PySem.P.truthy_str (by have := lim_mil h; omega) (by rw [ne0]; exact (so e).symm ▸ k _)
  · exact gd_el e fun h e => x.byt_el fun _ => truthy_bytes (by have := lim_mil h; omega) (by rw [ne0]; exact (so e).symm ▸ k _)
  · exact x.lst_el fun a o vs n f c d r => truthy_lst f.2.2.1 c d r e k
  · exact bd_el e fun l h e => loc_vr I x h fun a o vs n _ ho c d r => truthy_lst ho c.1 d r e k
theorem seqIndex_at {i : Int} {n j : Nat} {G : Prop} (h : seqIndex? i n = some j) (k : 0 ≤ i → j = i.toNat → i < n → G) (k' : i < 0 → -(n : Int) ≤ i → j = (i + n).toNat → G) : G := by
  unfold seqIndex? at h
  simp only [Bool.and_eq_true, decide_eq_true_eq] at h
  by_cases h0 : i < 0
  · simp only [h0, if_true] at h
    by_cases h1 : 0 ≤ i + ↑n ∧ i + ↑n < ↑n
    · rw [if_pos h1] at h
      exact k' h0 (by omega) (so h).symm
    · rw [if_neg h1] at h
      exact nn h
  · simp only [h0, if_false] at h
    by_cases h1 : 0 ≤ i ∧ i < ↑n
    · rw [if_pos h1] at h
      exact k (by omega) (so h).symm h1.2
    · rw [if_neg h1] at h
      exact nn h
/-- an item read; there is such a way of reading -/
noncomputable def GI (B : Base) (A : Around) (v w : Value) (Q : Value → Shared → Prop) (E : Value → Shared → Prop) (s : Shared) : Prop :=
  wpAny (model B.prog B.w) A (getItem v w) Q E s ∧ ∃ T id, s.TypeIs v T ∧ typeLookup (.type T) "__getitem__" = pure (some (.builtin id))
theorem small_at {i : Int} (h : small i = true) : i.natAbs < 2 ^ 60 := dec h
theorem byt_get {x : Array UInt8} {i : Nat} {c : UInt8} (e : x[i]? = some c) : (((x.toList.getD i 0).toNat : Nat) : Int) = c.toNat := by
  rw [List.getD_eq_getElem?_getD, Array.getElem?_toList, e]; rfl
theorem idx_lst {a : Addr} {o : Obj} {vs : Array Value} {n j : Nat} {i : Int} {u : Tok} {l : List PV} {r : PV} {Q : Value → Shared → Prop} (ho : s.heap.get? a = some o) (c : o.cls = .type "list") (d : o.data = .seq vs n) (x : VRs B.C ω s.heap l vs.toList)
    (hi : small i = true) (h : decide (l.length ≤ LIM) = true) (e1 : seqIndex? i l.length = some j) (e2 : l[j]? = some r) (k : ∀ v' tk, VR B.C ω s.heap r v' → Q v' { s with toks := tk }) : GI B A (.ref a) (.int i u) Q E s :=
  have hL := isl_of ho c d
  have hs := small_at hi
  have hm := lim_mil h
  (x.get e2).elim fun v' q => ⟨seqIndex_at e1 (fun h0 ej h1 => by subst ej; exact wpAny_getItem_list hL h0 (by omega) (by simpa using q.1) (k _ s.toks q.2))
    (fun h0 h1 ej => by subst ej; exact wpAny_getItem_list_neg hL h0 (by rw [x.size]; exact h1) (by omega) (by rw [x.size]; simpa using q.1) (k _ s.toks q.2)), "list", _, hL.typeIs, slot_list_getitem.lookup⟩
theorem idx_ok {p q r : PV} {v w : Value} {Q : Value → Shared → Prop} (I : Inv B ω σ s) (x : VR B.C ω s.heap p v) (y : VR B.C ω s.heap q w) (e : idxV σ p q = some r) (k : ∀ v' tk, VR B.C ω s.heap r v' → Q v' { s with toks := tk }) : GI B A v w Q E s :=
  bd_el e fun i e1 e => gd_el e fun hi e => y.int_vr e1 fun u =>
    ql_el e (fun e => bd_el e fun z e2 e => bd_el e fun j e3 e => bd_el e fun c e4 e => x.str_vr e2 fun t =>
        ⟨PyProof.Rows.getItem_str (by have := small_at hi; simp only [Bool.or_eq_false_iff, decide_eq_false_iff_not]; omega) (by rw [e3]; exact e4) (k _ _ (so_el (P := fun r => VR B.C ω s.heap r _) e .str_in)), "str", _, typeIs_str s _ t, F.slot_str_getitem.lookup⟩)
    fun e => ql_el e (fun e => bd_el e fun z e2 e => gd_el e fun h e => and_el h fun h1 h => and_el h fun h2 h3 => bd_el e fun c e4 e => x.byt_vr e2 fun t =>
        ⟨getItem_bytes (l := z.toList) (by have := lim_mil h3; rw [Array.length_toList]; omega) (dec h1) (by rw [Array.length_toList]; exact dec h2) (by rw [byt_get e4]; exact k _ _ (so_el (P := fun r => VR B.C ω s.heap r _) e .int_in)), "bytes", "bytes.__getitem__", typeIs_bytes s _ t, FB.slot_bytes_getitem.lookup⟩)
    fun e => ql_el e (fun e => bd_el e fun l e2 e => bd_el e fun j e3 e => VR.tup_el (P := fun v => GI B A v (.int i u) Q E s) (tup_at e2 ▸ x) fun a o vs n f c d r' => (r'.get e).elim fun v' z =>
        have ht : IsTup s.heap a vs := ⟨o, f.2.2.1, c, n, d⟩
        ⟨getItem_tuple ht (by have := small_at hi; omega) (by have := small_at hi; omega) (by rw [r'.size]; exact e3) (by simpa using z.1) (k _ s.toks z.2), "tuple", _, ht.typeIs, slot_tuple_getitem.lookup⟩)
    fun e => bd_el e fun l e2 e => gd_el e fun h e => bd_el e fun j e3 e => lstOf_vr I x e2 fun a o vs n ho c d r' => idx_lst ho c d r' hi h e3 e k
end
end Sh
namespace Sh
open PySem PySem.Calls PyProof.Rows PySem.W PySem.Spec
theorem Sc.vis_at {Γ : Sc} {i : Nat} {x : Str} (h : Γ.vis i x = true) : Γ.nt[i]? = some x ∧ x ∉ Γ.nt.drop (i + 1) := by
  simp only [Sc.vis, Bool.and_eq_true, beq_iff_eq, Bool.not_eq_true', List.contains_eq_mem, decide_eq_false_iff_not] at h
  exact h
theorem Sc.vis_name {Γ : Sc} {i : Nat} {x y : Str} (h : Γ.vis i x = true) (h' : Γ.vis i y = true) : x = y := by
  have a := (Sc.vis_at h).1; have b := (Sc.vis_at h').1
  rw [a] at b; exact Option.some.inj b
theorem Sc.vis_idx {Γ : Sc} {i j : Nat} {x : Str} (h : Γ.vis i x = true) (h' : Γ.vis j x = true) : i = j := by
  have a := Sc.vis_at h; have b := Sc.vis_at h'
  rcases Nat.lt_trichotomy i j with q | q | q
  · exact absurd (List.mem_of_getElem? (i := j - (i + 1)) (by rw [List.getElem?_drop, show i + 1 + (j - (i + 1)) = j by omega]; exact b.1)) a.2
  · exact q
  · exact absurd (List.mem_of_getElem? (i := i - (j + 1)) (by rw [List.getElem?_drop, show j + 1 + (i - (j + 1)) = i by omega]; exact a.1)) b.2
theorem some_ne {h : Heap} {a b : Addr} {o : Obj} (e : h.get? a = some o) (n : h.get? b = none) : a ≠ b := fun q => by rw [q, n] at e; cases e
section
variable {c : Cx} {ω : Wd} {σ : St} {s : Shared} {m : Fm} {E : Value → Shared → Prop}
theorem FR.kindOf {h : Heap} (F : FR c ω h m) (y : Str) : c.env.kindOf y = c.Γ.names.lookup y := by show c.env.scope.names.lookup y = _; rw [F.names]
theorem vis_set {Γ : Sc} {m : Fm} {i j : Nat} {x y : Str} {p q : PV} {G : Prop} (hv : Γ.vis i x = true) (h1 : Γ.vis j y = true) (h2 : (m.set i (some p))[j]? = some (some q)) (k : y = x → q = p → G) (k' : y ≠ x → m[j]? = some (some q) → G) : G := by
  by_cases e : i = j
  · subst e
    by_cases hl : i < m.length
    · rw [List.getElem?_set_self hl] at h2; exact k (Sc.vis_name h1 hv) (so (so h2)).symm
    · rw [List.getElem?_eq_none (by simpa using hl)] at h2; exact nn h2
  · rw [List.getElem?_set_ne e] at h2
    exact k' (fun q' => e (Sc.vis_idx hv (q' ▸ h1))) h2
noncomputable def InCell (Γ : Sc) (x : Str) : Prop := Γ.names.lookup x = some .cell ∨ Γ.names.lookup x = some .free
/-- a name has a new value -/
theorem FR.setv {h h' : Heap} {i : Nat} {x : Str} {p : PV} {v : Value} (F : FR c ω h m) (hv : c.Γ.vis i x = true) (gc : Carry ω h ω h') (r : VR c.B.C ω h p v)
    (hn : ∀ f, h.Ns c.env.locals f → ∃ f', h'.Ns c.env.locals f' ∧ (∀ y w, y ≠ x → f y = some w → f' y = some w) ∧ (c.Γ.names.lookup x = some .local → f' x = some v))
    (kn : ∀ L f, L ≠ c.env.locals → h.Ns L f → h'.Ns L f) (kc : ∀ b v', h.IsCell b v' → (InCell c.Γ x → c.env.cells.lookup x ≠ some b) → h'.IsCell b v')
    (kx : InCell c.Γ x → ∀ b, c.env.cells.lookup x = some b → h'.IsCell b (some v)) : FR c ω h' (m.set i (some p)) :=
  ⟨(List.length_set ..).trans F.len, F.kind, F.names, F.glob, F.blt, F.own, F.apart, F.loc, F.ns.elim fun f q => (hn f q.1).elim fun f' q' => ⟨f', q'.1, fun j y q₁ h1 h2 h3 => vis_set hv h1 h2 (fun e1 e2 => ⟨v, e1 ▸ q'.2.2 (e1 ▸ h3), e2 ▸ r.carry gc⟩)
      fun hne h2 => (q.2 j y q₁ h1 h2 h3).elim fun w z => ⟨w, q'.2.1 y w hne z.1, z.2.carry gc⟩⟩,
    fun j y q₁ h1 h2 h3 => vis_set hv h1 h2 (fun e1 e2 => (F.celo y h3).elim fun a z => z.elim fun _ z => ⟨a, v, z.1, kx (e1 ▸ h3) a (e1 ▸ z.1), e2 ▸ r.carry gc⟩)
      fun hne h2 => (F.cel j y q₁ h1 h2 h3).elim fun a z => z.elim fun w z => ⟨a, w, z.1, kc a _ z.2.1 (fun _ q => hne (F.inj y x a z.1 q)), z.2.2.carry gc⟩,
    fun y h1 => (F.celo y h1).elim fun a z => z.elim fun w z => (Classical.em (InCell c.Γ x ∧ c.env.cells.lookup x = some a)).elim (fun q => ⟨a, some v, z.1, kx q.1 a q.2⟩) fun q => ⟨a, w, z.1, kc a w z.2 fun q1 q2 => q ⟨q1, q2⟩⟩, F.celx, F.celw, F.inj,
    F.ff.elim fun l q => ⟨l, q.1, fun e he => ⟨(q.2 e he).1, (q.2 e he).2.elim fun L z => z.elim fun f z => (Classical.em (L = c.env.locals)).elim (fun e1 => (hn f (e1 ▸ z.2.2)).elim fun f' q' => ⟨L, f', z.1, z.2.1, e1 ▸ q'.1⟩)
      fun e1 => ⟨L, f, z.1, z.2.1, kn L f e1 z.2.2⟩⟩⟩⟩
theorem ns_uniq {h : Heap} {L : Addr} {f g : Str → Option Value} (a : h.Ns L f) (b : h.Ns L g) : f = g :=
  let ⟨_, _, _, h1, h2, _, h3⟩ := a
  let ⟨_, _, _, g1, g2, _, g3⟩ := b
  funext fun x => (h3 x).symm.trans ((congrArg (nsFind · x) (Data.dict.inj (h2.symm.trans ((congrArg Obj.data (so (h1.symm.trans g1))).trans g2))).1).trans (g3 x))
theorem not_local {Γ : Sc} {x : Str} (hk : Γ.names.lookup x = some .local) : ¬ InCell Γ x := fun q => q.elim (fun q => by rw [hk] at q; exact absurd (so q) (by decide)) fun q => by rw [hk] at q; exact absurd (so q) (by decide)
/-- a name is stored -/
theorem store_ok {i : Nat} {x : Str} {p : PV} {v : Value} {Q : Unit → Shared → Prop} (F : FR c ω s.heap m) (I : Inv c.B ω σ s) (hv : c.Γ.vis i x = true)
    (hk : c.Γ.names.lookup x = some .local ∨ (c.Γ.names.lookup x = some .cell ∧ x ∈ c.Γ.ownN)) (r : VR c.B.C ω s.heap p v)
    (k : ∀ h' tk, Gw ω c.own s.heap ω h' → Inv c.B ω σ { s with heap := h', toks := tk } → FR c ω h' (m.set i (some p)) → Q () { s with heap := h', toks := tk }) :
    wpAny (model c.B.prog c.B.w) c.A (storeName c.env x v) Q E s := by
  have hLx : c.env.locals ∈ ω.ex := F.own _ F.loc
  refine hk.elim (fun hk => F.ns.elim fun f q => ?_) fun hk => (F.celo x (.inl hk.1)).elim fun a z => z.elim fun v₀ z => ?_
  · refine wpAny_storeName_local (by rw [F.kindOf]; exact hk) q.1 (fun h' hn' hs' => ?_) (by rw [F.kind]; rfl)
    have ht : ∃ o', h'.get? c.env.locals = some o' := hn'.elim fun o' q => q.elim fun _ q => q.elim fun _ q => ⟨o', q.1⟩
    refine k h' _ (.of_ext (.inr F.loc) hs'.extBut ht) (I.exstep hLx hs'.extBut (Option.isSome_iff_exists.mpr ht)) (F.setv hv (.of_ex hLx hs'.extBut) r
      (fun f₁ q₁ => ⟨_, hn', fun y w hne e => (if_neg hne).trans (ns_uniq q₁ q.1 ▸ e), fun _ => if_pos rfl⟩) (fun L f' e hL => hL.sameBut hs' e) (fun b v' hb _ => hb.sameBut hs' fun e => cell_not_ns hb (e ▸ q.1)) fun q => absurd q (not_local hk))
  · refine wpAny_storeName_cell F.kind (by rw [F.kindOf]; exact hk.1) z.1 z.2 (fun h' hn' hs' => ?_)
    have hax : a ∈ ω.ex := F.celx x a z.1
    have ht : ∃ o', h'.get? a = some o' := hn'.elim fun o' q => ⟨o', q.1⟩
    have hLa : ∀ {L f'}, s.heap.Ns L f' → L ≠ a := fun hL q => cell_not_ns z.2 (q ▸ hL)
    exact k h' s.toks (.of_ext (.inr (F.celw x hk.2 a z.1)) hs'.extBut ht) (I.exstep hax hs'.extBut (Option.isSome_iff_exists.mpr ht)) (F.setv hv (.of_ex hax hs'.extBut) r
      (fun f q => ⟨f, q.sameBut hs' (hLa q), fun _ _ _ e => e, fun e => absurd (.inl hk.1) (not_local e)⟩) (fun L f' _ hL => hL.sameBut hs' (hLa hL)) (fun b v' hb e => hb.sameBut hs' fun q => e (.inl hk.1) (q ▸ z.1)) fun _ b e => by
        rw [z.1] at e; exact so e ▸ hn')
/-- a name is read -/
theorem load_ok {i : Nat} {x : Str} {p : PV} {Q : Value → Shared → Prop} (F : FR c ω s.heap m) (hv : c.Γ.vis i x = true)
    (hk : c.Γ.names.lookup x = some .local ∨ c.Γ.names.lookup x = some .cell ∨ c.Γ.names.lookup x = some .free) (hm : m[i]? = some (some p)) (hx : (x == ("__classdict__" : Str)) = false)
    (k : ∀ v, VR c.B.C ω s.heap p v → Q v s) : wpAny (model c.B.prog c.B.w) c.A (loadName c.env x) Q E s := by
  rcases hk with hk | hk | hk
  · obtain ⟨f, hf, hr⟩ := F.ns
    obtain ⟨v, e, r⟩ := hr i x p hv hm hk
    exact wpAny_loadName_local F.kind (by rw [F.kindOf]; exact hk) hf e (k v r)
  · obtain ⟨a, v, e1, e2, r⟩ := F.cel i x p hv hm (.inl hk)
    exact wpAny_loadName_cell F.kind (by rw [F.kindOf]; exact hk) e1 e2 (k v r)
  · obtain ⟨a, v, e1, e2, r⟩ := F.cel i x p hv hm (.inr hk)
    exact wpAny_loadName_free F.kind (by rw [F.kindOf]; exact hk) e1 e2 (k v r) hx
theorem Gw.seq {ω₁ ω₂ : Wd} {h h₁ h₂ : Heap} (g : Gw ω [] h ω₁ h₁) (g' : Gw ω₁ [] h₁ ω₂ h₂) : Gw ω [] h ω₂ h₂ := g.trans g'
theorem VR.gw {C : Addr} {ω ω' : Wd} {h h' : Heap} {p : PV} {v : Value} (x : VR C ω h p v) (g : Gw ω [] h ω' h') : VR C ω' h' p v := x.carry (.of_gw g fun _ q => nomatch q)
theorem VRs.gw {C : Addr} {ω ω' : Wd} {h h' : Heap} {p : List PV} {v : List Value} (x : VRs C ω h p v) (g : Gw ω [] h ω' h') : VRs C ω' h' p v := x.carry (.of_gw g fun _ q => nomatch q)
end
end Sh
namespace Sh
open PySem PySem.Calls PyProof.Rows PySem.W PySem.Spec
theorem VRs.ints {C : Addr} {ω : Wd} {h : Heap} : ∀ {l : List PV} {vs : List Value} {ns : List Int}, VRs C ω h l vs → intsOf l = some ns → IntsAre vs ns
  | [], _, ns, x, e => so_el (P := fun ns => IntsAre _ ns) e (x.nil_el .nil)
  | p :: r, _, ns, x, e => bd_el e fun i e1 e => bd_el e fun l e2 e => so_el (P := fun ns => IntsAre _ ns) e (x.cons_el fun v t a b => a.int_vr e1 fun _ => .cons _ _ (VRs.ints b e2))
theorem VRs.of_ints {C : Addr} {ω : Wd} {h : Heap} {vs : List Value} {ns : List Int} (x : IntsAre vs ns) : VRs C ω h (ns.map .int) vs := by
  induction x with
  | nil => exact .nil
  | cons n t _ ih => exact .cons_in .int_in ih
theorem VRs.strs {C : Addr} {ω : Wd} {h : Heap} : ∀ {l : List PV} {vs : List Value} {ns : List Str}, VRs C ω h l vs → strsOf l = some ns → StrsAre vs ns
  | [], _, ns, x, e => so_el (P := fun ns => StrsAre _ ns) e (x.nil_el .nil)
  | p :: r, _, ns, x, e => bd_el e fun i e1 e => bd_el e fun l e2 e => so_el (P := fun ns => StrsAre _ ns) e (x.cons_el fun v t a b => a.str_vr e1 fun _ => .cons _ _ (VRs.strs b e2))
theorem VRs.of_strs {C : Addr} {ω : Wd} {h : Heap} {vs : List Value} {ns : List Str} (x : StrsAre vs ns) : VRs C ω h (ns.map .str) vs := by
  induction x with
  | nil => exact .nil
  | cons n t _ ih => exact .cons_in .str_in ih
section
variable {α : Type} {le : α → α → Bool}
theorem ins_perm (a : α) : ∀ l : List α, (ins le a l).Perm (a :: l)
  | [] => .refl _
  | b :: r => by
    show (cond (le a b) _ _ : List α).Perm _
    cases le a b with
    | true => exact .refl _
    | false => exact ((ins_perm a r).cons b).trans (.swap _ _ _)
theorem srt_perm : ∀ l : List α, (srt le l).Perm l
  | [] => .refl _
  | a :: r => (ins_perm a _).trans ((srt_perm r).cons a)
structure Tot (le : α → α → Bool) : Prop where
  tr : ∀ a b c, le a b = true → le b c = true → le a c = true
  an : ∀ a b, le a b = true → le b a = true → a = b
  tt : ∀ a b, le a b = false → le b a = true
abbrev Up (le : α → α → Bool) (l : List α) : Prop := l.Pairwise fun a b => le a b = true
theorem ins_sorted (T : Tot le) (a : α) : ∀ l : List α, Up le l → Up le (ins le a l)
  | [], _ => List.pairwise_singleton ..
  | b :: r, h => by
    have ⟨h1, h2⟩ := List.pairwise_cons.mp h
    show Up le (cond (le a b) _ _)
    cases q : le a b with
    | true => exact List.pairwise_cons.mpr ⟨fun x hx => (List.mem_cons.mp hx).elim (fun e => e ▸ q) fun hx => T.tr _ _ _ q (h1 x hx), h⟩
    | false => exact List.pairwise_cons.mpr ⟨fun x hx => (List.mem_cons.mp ((ins_perm a r).mem_iff.mp hx)).elim (fun e => e ▸ T.tt _ _ q) (h1 x), ins_sorted T a r h2⟩
theorem srt_sorted (T : Tot le) : ∀ l : List α, Up le (srt le l)
  | [] => .nil
  | a :: r => ins_sorted T a _ (srt_sorted T r)
theorem srt_eq (T : Tot le) {l l' : List α} (h1 : l'.Perm l) (h2 : Up le l') : l' = srt le l :=
  List.Perm.eq_of_pairwise (fun a b _ _ h h' => T.an a b h h') h2 (srt_sorted T l) (h1.trans (srt_perm l).symm)
end
theorem totI : Tot leI := ⟨fun a b c h h' => decide_eq_true (Int.le_trans (dec h) (dec h')), fun a b h h' => Int.le_antisymm (dec h) (dec h'), fun a b h => decide_eq_true (by have := of_decide_eq_false h; omega)⟩
theorem leS_at {a b : Str} (h : leS a b = true) : a.cps.toList ≤ b.cps.toList := List.not_lt.mp (of_decide_eq_false ((Bool.not_eq_true' _).mp h))
theorem leS_of {a b : Str} (h : a.cps.toList ≤ b.cps.toList) : leS a b = true := (Bool.not_eq_true' _).mpr (decide_eq_false (List.not_lt.mpr h))
theorem totS : Tot leS := ⟨fun a b c h h' => leS_of (List.le_trans (leS_at h) (leS_at h')), fun a b h h' => congrArg Str.mk (Array.toList_inj.mp (List.le_antisymm (leS_at h) (leS_at h'))),
  fun a b h => leS_of (Std.le_of_lt (dec (Bool.not_eq_false' _ |>.mp h)))⟩
theorem rising_pair : ∀ {a : Str} {r : List Str}, risingS a r = true → Up leS (a :: r)
  | a, [], _ => List.pairwise_singleton ..
  | a, b :: r, h => and_el (show (!ltCps b.cps.toList a.cps.toList && risingS b r) = true from h) fun h1 h2 =>
    have ih := rising_pair h2
    have hab : leS a b = true := by rw [ltCps_eq] at h1; exact h1
    List.pairwise_cons.mpr ⟨fun x hx => (List.mem_cons.mp hx).elim (fun e => e ▸ hab) fun hx => totS.tr _ _ _ hab ((List.pairwise_cons.mp ih).1 x hx), ih⟩
theorem srtI_eq {l l' : List Int} (h1 : l'.Perm l) (h2 : l'.Pairwise (· ≤ ·)) : l' = srtI l := srt_eq totI h1 (h2.imp fun h => decide_eq_true h)
theorem srtS_eq {l l' : List Str} (h1 : l'.Perm l) (h2 : sortedS l' = true) : l' = srtS l := srt_eq totS h1 (match l', h2 with
  | [], _ => .nil
  | a :: r, h2 => rising_pair h2)
theorem foldl_max_spec : ∀ (ns : List Int) (n : Int), (ns.foldl max n ∈ n :: ns) ∧ ∀ a ∈ n :: ns, a ≤ ns.foldl max n
  | [], n => ⟨.head _, fun a h => Int.le_of_eq (List.mem_singleton.mp h)⟩
  | b :: r, n => by
    have h := foldl_max_spec r (max n b)
    have hm := h.2 (max n b) (.head _)
    refine (?_ : r.foldl max (max n b) ∈ n :: b :: r ∧ ∀ a ∈ n :: b :: r, a ≤ r.foldl max (max n b))
    generalize r.foldl max (max n b) = m at h hm ⊢
    refine ⟨(List.mem_cons.mp h.1).elim (fun e => ?_) fun e => .tail _ (.tail _ e), fun a ha => (List.mem_cons.mp ha).elim (fun e => by omega) fun ha => (List.mem_cons.mp ha).elim (fun e => by omega) fun ha => h.2 a (.tail _ ha)⟩
    rcases Int.le_total n b with q | q
    · rw [e, Int.max_eq_right q]; exact .tail _ (.head _)
    · rw [e, Int.max_eq_left q]; exact .head _
noncomputable def biF : BI → Value
  | .len => .builtin "len" | .sorted => .builtin "sorted" | .max => .builtin "max"
  | .range => .type "range" | .bytes => .type "bytes"
section
variable {B : Base} {A : Around} {E : Value → Shared → Prop} {ω : Wd} {σ : St} {s : Shared} {Q : Value → Shared → Prop} {r : PV} {vs : List Value}
theorem KK.rng {a b c : Int} {t u w : Tok} (I : Inv B ω σ s) (k : KK B ω s r Q) (e : some (PV.rng a b c) = some r) (tk : Tok) :
    Q (.ref s.heap.objs.size) { s with heap := s.heap.push { cls := .type "range", dict := none, data := .fields #[.int a t, .int b u, .int c w], slots := #[] }, toks := tk } :=
  k _ _ tk (keep_push _ _) (so_el (P := fun r => VR B.C ω _ r _) e (.rng_in (fz_new I (fields_frz rfl rfl) (size_none _) (new_get _ _ rfl))))
theorem len_ok {p : PV} {v : Value} (I : Inv B ω σ s) (x : VR B.C ω s.heap p v) (e : lenV σ p = some r) (k : KK B ω s r Q) : wpAny (model B.prog B.w) A (call (.builtin "len") [v]) Q E s :=
  ql_el e (fun e => bd_el e fun z e1 e => gd_el e fun h e => x.str_vr e1 fun t => PyProof.Rows.len_str (by have := lim_mil h; omega) (k.int e _ _))
    fun e => ql_el e (fun e => bd_el e fun z e1 e => gd_el e fun h e => x.byt_vr e1 fun t => PySem.W.len_bytes (by have := lim_mil h; omega) (k.int e _ _))
    fun e => bd_el e fun l e1 e => gd_el e fun h e => lstOf_vr I x e1 fun a o ws n ho c d rr => call_len_list (isl_of ho c d) (by rw [rr.size]; have := lim_mil h; omega) (by rw [rr.size]; exact k.int e _ _)
theorem lst_arr {a : Addr} {o : Obj} {ws : Array Value} {n : Nat} (ho : s.heap.get? a = some o) (c : o.cls = .type "list") (d : o.data = .seq ws n) : s.heap.IsList a ws.toList.toArray := by rw [Array.toArray_toList]; exact isl_of ho c d
theorem size1_none (h : Heap) : h.get? (h.objs.size + 1) = none :=
  match q : h.get? (h.objs.size + 1) with
  | none => rfl
  | some _ => absurd (Heap.lt_size q) (Nat.not_lt.mpr (Nat.le_succ _))
theorem sorted_new {ws : List Value} {out : Array Value} {l : List PV} (I : Inv B ω σ s) (k : KK B ω s r Q) (e : some (PV.lst l) = some r) (x : VRs B.C ω (sortedAll s.heap ws out) l out.toList) : Q (.ref (s.heap.objs.size + 1)) { s with heap := sortedAll s.heap ws out } :=
  (sortedAll_at s.heap ws out).elim fun en he => k _ _ s.toks (fun b o e => sortedAll_old e) (so_el (P := fun r => VR B.C ω (sortedAll s.heap ws out) r (.ref (s.heap.objs.size + 1))) e (lst_new I (size1_none _) he rfl rfl x))
theorem sorted_ok {p : PV} {l : List PV} {v : Value} (I : Inv B ω σ s) (x : VR B.C ω s.heap p v) (el : lstOf σ p = some l) (h : decide (l.length < 60) = true)
    (e : ql (bd (intsOf l) fun ns => some (.lst ((srtI ns).map .int))) (bd (strsOf l) fun ss => some (.lst ((srtS ss).map .str))) = some r) (k : KK B ω s r Q) : wpAny (model B.prog B.w) A (call (.builtin "sorted") [v]) Q E s :=
  lstOf_vr I x el fun a o ws n ho c d rr => ql_el e
    (fun e => bd_el e fun ns e1 e => PyProof.Rows.sorted_ints (lst_arr ho c d) (rr.ints e1) (by rw [rr.length]; have := dec h; omega) fun out ns' a1 a2 a3 => sorted_new I k e (by rw [← srtI_eq a2 a3]; exact .of_ints a1))
    fun e => bd_el e fun ss e1 e => PyProof.Rows.sorted_strs (lst_arr ho c d) (rr.strs e1) (by rw [rr.length]; have := dec h; omega) fun out ss' a1 a2 a3 => sorted_new I k e (by rw [← srtS_eq a2 a3]; exact .of_strs a1)
theorem max_best {xs : Array (Int × Tok)} {n : Int} {ns : List Int} (hnum : n :: ns = xs.toList.map (·.1)) (hsz : xs.size = ns.length + 1) : numAt xs (argBest (fun i j => decide (numAt xs i > numAt xs j)) (xs.size - 1)) = ns.foldl max n := by
  have h := argBest_gt (numAt xs) (xs.size - 1)
  have g := foldl_max_spec ns n
  have hin : numAt xs (argBest (fun i j => decide (numAt xs i > numAt xs j)) (xs.size - 1)) ∈ n :: ns := by
    rw [hnum, numAt_eq]; exact getD_mem (by rw [List.length_map, Array.length_toList]; have := h.1; omega)
  refine Int.le_antisymm (g.2 _ hin) ?_
  have ha := g.1
  rw [hnum] at ha
  have ⟨j, hj, e⟩ := mem_getD ha
  rw [List.length_map, Array.length_toList] at hj
  rw [← e, ← numAt_eq]; exact h.2 j (by omega)
theorem max_ok {p : PV} {l : List PV} {ns : List Int} {v : Value} (hh : A.handled = none) (I : Inv B ω σ s) (x : VR B.C ω s.heap p v) (el : lstOf σ p = some l) (ei : intsOf l = some ns) (e : maxV ns = some r) (k : KK B ω s r Q) :
    wpAny (model B.prog B.w) A (call (.builtin "max") [v]) Q E s :=
  match ns, ei, e with
  | [], _, e => nn e
  | n :: ns, ei, e => gd_el e fun h e => lstOf_vr I x el fun a o ws nn ho c d rr => by
    have hi := rr.ints ei
    have ⟨xs, exs⟩ := hi.allInts.items
    simp only [Array.toArray_toList] at exs
    have hnum : n :: ns = xs.toList.map (·.1) := by rw [← hi.numsOf, ← nums_intItems, ← exs]
    have hsz : xs.size = ns.length + 1 := by have := congrArg List.length hnum; simp at this; omega
    refine max_intList hh (xs := xs) (exs ▸ isl_of ho c d) (by omega) (fun v h' tk hv hk => ?_)
    have ⟨t, et⟩ := intItems_at hv
    exact k _ h' tk hk (et ▸ so_el (P := fun r => VR B.C ω h' r _) e (max_best hnum hsz ▸ .int_in))
theorem bi_ok {f : BI} {ps : List PV} (hh : A.handled = none) (I : Inv B ω σ s) (x : VRs B.C ω s.heap ps vs) (e : biV f ps σ = some r) (k : KK B ω s r Q) :
    wpAny (model B.prog B.w) A (call (biF f) vs) Q E s :=
  match f, e with
  | .len, e => bd_el e fun p e1 e => x.one_vr e1 fun v x => len_ok I x e k
  | .range, e => ql_el e (fun e => bd_el e fun p e1 e => bd_el e fun b e2 e => x.one_vr e1 fun v x => x.int_vr e2 fun t => call_range_1 (k.rng I e _))
      fun e => bd_el e fun p e1 e => x.two_vr (i := p.1) (j := p.2) e1 fun v w x y => i2_vr x y e fun a b t u e => call_range_2 (k.rng I e _)
  | .sorted, e => bd_el e fun p e1 e => bd_el e fun l el e => gd_el e fun h e => x.one_vr e1 fun v x => sorted_ok I x el h e k
  | .max, e => ql_el e (fun e => bd_el e fun p e1 e => bd_el e fun l el e => bd_el e fun ns ei e => x.one_vr e1 fun v x => max_ok hh I x el ei e k)
      fun e => bd_el e fun p e1 e => x.two_vr (i := p.1) (j := p.2) e1 fun v w x y => i2_vr x y e fun a b t u e => max_two_ints hh fun h' tk hk => k (if b > a then .int b u else .int a t) h' tk hk (so_el (P := fun r => VR B.C ω h' r _) e (by
        by_cases q : b > a
        · rw [if_pos q, if_pos (show a < b from q)]; exact .int_in
        · rw [if_neg q, if_neg (show ¬ a < b from q)]; exact .int_in))
  | .bytes, e => bd_el e fun p e1 e => bd_el e fun l el e => bd_el e fun ns ei e => gd_el e fun h e => and_el h fun h1 h2 => x.one_vr e1 fun v x => lstOf_vr I x el fun a o ws n ho c d rr =>
      have hi := rr.ints ei
      call_bytes_ints (vs := ws.toList) (lst_arr ho c d) hi (fun n hn => by have := List.all_eq_true.mp h1 n hn; simpa using this) (by rw [hi.length]; exact lim_line h2) hh fun h' t tk hk => k _ h' tk hk (so_el (P := fun r => VR B.C ω h' r _) e .byt_in)
end
end Sh
namespace Sh
open PySem PySem.Calls PyProof.Rows PySem.W PySem.Spec PySem.SeqAt Builtin.Str
noncomputable def OR' (C : Addr) (ω : Wd) (h : Heap) (p : Option PV) (v : Value) : Prop := p.elim (v = .none) fun p => VR C ω h p v
@[elab_as_elim] theorem part_vr {C : Addr} {ω : Wd} {h : Heap} {q : Option PV} {v : Value} {lo : Option Int} {P : Value → Prop} (x : OR' C ω h q v) (e : parV q = some lo) (k : ∀ l : Option (Int × Tok), l.map (·.1) = lo → IsPart (partValue l) lo → P (partValue l)) : P v :=
  match q, x, e with
  | none, x, e => (show v = .none from x) ▸ k none (so e) (so_el (P := fun lo => IsPart .none lo) e .none)
  | some p, x, e => bd_el e fun i e1 e => gd_el e fun _ e => VR.int_vr (P := P) x e1 fun t => k (some (i, t)) (so e) (so_el (P := fun lo => IsPart (.int i t) lo) e (.int i t))
theorem whole_slice (x : Str) (lo hi : Option Int) (h : ((strSliceIndices lo hi 1 x.length).length == x.length) = true) : slL x.cps.toList lo hi = x.cps.toList := by
  have e : strSliceIndices lo hi 1 x.length = sliceRange (sliceBounds lo hi none x.length).1 (sliceBounds lo hi none x.length).2.1 1 := by
    cases lo <;> cases hi <;> rfl
  rw [e, sliceBounds_plain] at h
  simp only [sliceRange_one, List.length_map, List.length_range, beq_iff_eq] at h
  have hn : x.cps.toList.length = x.length := by simp [Str.length]
  have hc : ∀ (i : Int), clipAt x.length i ≤ x.length := fun i => by unfold clipAt; omega
  have h1 : lo.elim 0 (clipAt x.length) ≤ x.length := by cases lo <;> simp [hc]
  have h2 : hi.elim x.length (clipAt x.length) ≤ x.length := by cases hi <;> simp [hc]
  unfold slL
  rw [hn]
  by_cases h0 : x.length = 0
  · have : x.cps.toList = [] := List.eq_nil_of_length_eq_zero (hn.trans h0)
    rw [this]; simp
  · have q1 : lo.elim 0 (clipAt x.length) = 0 := by omega
    rw [q1, List.drop_zero]
    exact List.take_of_length_le (by rw [hn]; omega)
section
variable {B : Base} {A : Around} {E : Value → Shared → Prop} {ω : Wd} {σ : St} {s : Shared} {Q : Value → Shared → Prop} {r : PV}
theorem slc_str {y : Str} {t : Tok} {a b : Option Int} {l u : Option (Int × Tok)} {sl : Addr} (hs : s.heap.IsSliceOf sl (partValue l) (partValue u) .none) (hl : l.map (·.1) = a) (hu : u.map (·.1) = b) (h : decide (y.length ≤ LIM) = true)
    (e : some (PV.str ⟨(slL y.cps.toList a b).toArray⟩) = some r) (k : KK B ω s r Q) : GI B A (.str y t) (.ref sl) Q E s := by
  refine ⟨wpAny_getItem_str_slice (l := l) (u := u) (st := none) hs rfl ?_, "str", _, typeIs_str s y t, F.slot_str_getitem.lookup⟩
  have hp : slicePicked y l u none = strSliceIndices a b 1 y.length := by unfold slicePicked; rw [hl, hu]; rfl
  unfold sliceMade
  rw [hp]
  split
  · rename_i hw
    refine and_el hw fun _ hw => ?_
    have e' := whole_slice y a b hw
    exact k.str (so_el (P := fun r => some (PV.str y) = some r) e (by rw [e'])) t s.toks
  · rw [str_slice]
    refine ⟨Nat.le_trans ?_ (lim_line h), k.str e _ _⟩
    exact Nat.le_trans (slL_length y.cps.toList a b) (Nat.le_of_eq Array.length_toList)
theorem slc_byt {y : Array UInt8} {t : Tok} {a b : Option Int} {l u : Value} {sl : Addr} (hs : s.heap.IsSliceOf sl l u .none) (hl : IsPart l a) (hu : IsPart u b) (h : decide (y.size ≤ LIM) = true)
    (e : some (PV.byt (slL y.toList a b).toArray) = some r) (k : KK B ω s r Q) : GI B A (.bytes y t) (.ref sl) Q E s :=
  ⟨getItem_meets (typeIs_bytes _ _ _) (by decide) FB.slot_bytes_getitem FB.entry_bytes_getitem (FB.args_bytes_getitem_2 _ _) (KBc.meets_slice2 y t _ hl hu) ⟨hs, Nat.le_trans (KBc.size_picked_le y a b) (lim_line h), fun t' tk => by
    rw [KBc.picked_eq]
    exact k.byt (by simpa only [slL, Array.length_toList] using e) _ _⟩, "bytes", _, typeIs_bytes _ _ _, FB.slot_bytes_getitem.lookup⟩
theorem slc_lst {d : Addr} {o : Obj} {ws : Array Value} {n : Nat} {ll : List PV} {a b : Option Int} {l u : Value} {sl : Addr} (I : Inv B ω σ s) (ho : s.heap.get? d = some o) (c : o.cls = .type "list") (dd : o.data = .seq ws n) (x : VRs B.C ω s.heap ll ws.toList)
    (hs : s.heap.IsSliceOf sl l u .none) (hl : IsPart l a) (hu : IsPart u b) (h : decide (ll.length ≤ LIM) = true) (e : some (PV.lst (slL ll a b)) = some r) (k : KK B ω s r Q) : GI B A (.ref d) (.ref sl) Q E s := by
  have hL := isl_of ho c dd
  refine ⟨wpAny_getItem_list_slice hL hs hl hu .none (fun q => nomatch q) ?_ (by rw [x.size]; exact lim_line h), "list", _, hL.typeIs, slot_list_getitem.lookup⟩
  rw [slicePick_plain]
  refine k.lst I e ?_
  rw [x.size]
  exact (x.drop _).take _
theorem slc_ok {p : PV} {lo hi : Option PV} {o vl vu : Value} {sl : Addr} (I : Inv B ω σ s) (x : VR B.C ω s.heap p o) (xl : OR' B.C ω s.heap lo vl) (xu : OR' B.C ω s.heap hi vu)
    (hs : s.heap.IsSliceOf sl vl vu .none) (e : slcV σ p lo hi = some r) (k : KK B ω s r Q) : GI B A o (.ref sl) Q E s :=
  bd_el e fun a ea e => bd_el e fun b eb e => part_vr (P := fun v => s.heap.IsSliceOf sl v vu .none → GI B A o (.ref sl) Q E s) xl ea (fun l hl pl hs => part_vr (P := fun v => s.heap.IsSliceOf sl (partValue l) v .none → GI B A o (.ref sl) Q E s) xu eb (fun u hu pu hs =>
    ql_el e (fun e => bd_el e fun y e1 e => gd_el e fun h e => x.str_vr e1 fun t => slc_str hs hl hu h e k)
      fun e => ql_el e (fun e => bd_el e fun y e1 e => gd_el e fun h e => x.byt_vr e1 fun t => slc_byt hs pl pu h e k)
      fun e => bd_el e fun ll e1 e => gd_el e fun h e => lstOf_vr I x e1 fun d oo ws n ho c dd r' => slc_lst I ho c dd r' hs pl pu h e k) hs) hs
/-- an item is set -/
theorem set_list {l : Addr} {items : Array Value} {n : Nat} {k : Int} {t : Tok} {v : Value} {Q : Unit → Shared → Prop} (hl : IsL s.heap l items n) (h0 : 0 ≤ k) (hn : k < items.size) (hsz : items.size ≤ 1000000)
    (hQ : ∀ h' n', IsL h' l (items.setIfInBounds k.toNat v) n' → Heap.SameBut l s.heap h' → Q () { s with heap := h' }) :
    wpAny (model B.prog B.w) A (setItem (.ref l) (.int k t) v) Q E s := by
  have hL := IsL.isList hl
  unfold setItem
  try with_reducible refine wpAny_holding ?_
  first | refine wpAny_bind (wpAny_pure ?_) | skip
  refine wpAny_bind (wpAny_sequenceKey hL.typeIs (by decide) ?_)
  refine wpAny_bind (wpAny_callSpecial?_slot (name := Str.ofString "__setitem__") hL.typeIs slot_list_setitem
    (wpAny_call_entry slot_list_setitem hL.typeIs entry_list_setitem ?_ (args_list_setitem _ _ _)))
  show wpAny _ _ (Builtin.List.listSubscript? (.int k t) >>= _) _ _ s
  refine wpAny_bind (wpAny_listSubscript_int (fitsIndex_of h0 (by omega)) ?_)
  obtain ⟨j, rfl⟩ := Int.eq_ofNat_of_zero_le h0
  have hj : j < items.size := by omega
  have hx' : items[j]? = some items[j] := Array.getElem?_eq_getElem hj
  show wpAny _ _ ((seqItemAt l j >>= fun r => pure (r.map (j, ·))) >>= _) _ _ s
  refine wpAny_bind (wpAny_bind (wpAny_seqItemAt hl rfl (wpAny_pure ?_)))
  rw [hx']
  show wpAny _ _ (setSeqItemAt l j v >>= _) _ _ s
  have hfin := hQ _ _ (IsL.update hl (·.setIfInBounds j v)) (Heap.SameBut.update ..)
  refine wpAny_bind (wpAny_setSeqItemAt hl rfl ?_)
  first
    | exact wpAny_bind (wpAny_pure (wpAny_pure ⟨.none, rfl, wpAny_pure hfin⟩))
    | exact wpAny_pure ⟨.none, rfl, wpAny_pure hfin⟩
end
end Sh
namespace Sh
open PySem PySem.Calls PyProof.Rows PySem.W PySem.Spec PySem.SeqAt Builtin.Str
noncomputable def meName (m : MT) : Str := match m with
  | .append => "append" | .extend => "extend" | .pop => "pop" | .join => "join" | .find => "find" | .replace => "replace" | .encode => "encode" | .decode => "decode"
noncomputable def meId (m : MT) (p : PV) : String := match m with
  | .append => "list.append" | .extend => "list.extend" | .pop => "list.pop"
  | .join => cond p.byt?.isSome "bytes.join" "str.join"
  | .find => "str.find" | .replace => "str.replace" | .encode => "str.encode" | .decode => "bytes.decode"
theorem fromIndex_nat {n : Nat} {k : Int} (h : 0 ≤ k) : fromIndex n k = k.toNat := by
  unfold fromIndex
  rw [if_neg (by omega), Int.max_eq_right h]
theorem gives_replace0 (x y z : Str) (t u v : Tok) (h : (occurrences x y 0 x.length (x.length + 1)).isEmpty = true) : Gives (Builtin.«str.replace» ⟨[.str x t, .str y u, .str z v], []⟩) (.val (.str x t)) := by
  show Gives (if ((occurrences x y 0 x.length (x.length + 1)).isEmpty || (y.length == 0 && z.length == 0)) = true then (do rule "str.replace.nothing"; ret (.str x t)) else _) _
  rw [h]
  exact .rule (.of_eq rfl)
namespace Jn
open Builtin
theorem steps {β : Type} {M : Model} {A : Around} {E : Value → Shared → Prop} {s : Shared} {f : Nat → β → Sem (ForInStep β)} {P : Nat → β} {Q : β → Shared → Prop} : ∀ m n {p : β}, p = P n →
    (∀ i, n ≤ i → i < n + m → ∀ R : ForInStep β → Shared → Prop, R (.yield (P (i + 1))) s → wpAny M A (f i (P i)) R E s) → Q (P (n + m)) s → wpAny M A (forIn (List.range' n m) p f) Q E s
  | 0, n, p, hp, h, hq => by subst hp; rw [List.range'_zero, List.forIn_nil]; exact wpAny_pure hq
  | m + 1, n, p, hp, h, hq => by
    subst hp
    rw [List.range'_succ, List.forIn_cons]
    refine wpAny_bind (h n (Nat.le_refl _) (by omega) _ ?_)
    exact steps m (n + 1) rfl (fun i h1 h2 => h i (by omega) (by omega)) (by rw [show n + 1 + m = n + (m + 1) by omega]; exact hq)
theorem args_2 (a c : Value) : argsOk "bytes.join" ⟨[a, c], []⟩ := by
  unfold argsOk; rw [signature?_of (id := "bytes.join") (n := ['n', 'i', 'o', 'j']) (o := ['s', 'e', 't', 'y', 'b']) (by kernel_rfl) FB.owner_bytes]; kernel_rfl
theorem entry : entryFor table "bytes.join" = some Builtin.«bytes.join» := entryFor_of_tree (by kernel_rfl)
noncomputable def bv : Array UInt8 × Tok → Value := fun p => .bytes p.1 p.2
theorem stepsR {β : Type} {M : Model} {A : Around} {E : Value → Shared → Prop} {s : Shared} {f : Nat → β → Sem (ForInStep β)} (P : Nat → β) {Q : β → Shared → Prop} (m : Nat) {p : β} (hp : p = P 0)
    (h : ∀ i, i < m → ∀ R : ForInStep β → Shared → Prop, R (.yield (P (i + 1))) s → wpAny M A (f i (P i)) R E s) (hq : Q (P m) s) : wpAny M A (forIn ([0:m] : Std.Legacy.Range) p f) Q E s := by
  rw [Std.Legacy.Range.forIn_eq_forIn_range']
  show wpAny M A (forIn (List.range' 0 ((m - 0 + 1 - 1) / 1)) p f) Q E s
  rw [show (m - 0 + 1 - 1) / 1 = m by simp]
  exact steps m 0 hp (fun i _ h2 => h i (by omega)) (by rw [Nat.zero_add]; exact hq)
theorem take_eq {id : String} {b : Array UInt8} {t : Tok} : Bytes.takeBuffer? id (.bytes b t) 0 = pure (some (b, none)) := by
  unfold Bytes.takeBuffer? Bytes.buffer?
  rw [KBy.special_eq KBy.look_buffer, KBy.own_buffer, KBy.own_release]
  kernel_rfl
theorem quiet {M : Model} {A : Around} {E : Value → Shared → Prop} {s : Shared} {id : String} {b : Array UInt8} {t : Tok} {Q : Option (Array UInt8 × Option Value) → Shared → Prop} (h : Q (some (b, none)) s) :
    wpAny M A (Bytes.takeBufferQuiet? id (.bytes b t) 0) Q E s := by
  unfold Bytes.takeBufferQuiet?
  rw [take_eq]
  exact wpAny_bind (wpAny_attempt (wpAny_pure (wpAny_pure h)))
theorem letGo_none {M : Model} {A : Around} {E : Value → Shared → Prop} {s : Shared} {Q : Unit → Shared → Prop} : ∀ (l : List (Array UInt8 × Tok)) (keep : List Value), Q () s → wpAny M A (Bytes.joinLetGo (l.map fun p => (bv p, none)) keep) Q E s
  | [], keep, h => wpAny_pure h
  | p :: l, keep, h => by
    show wpAny M A (letGo [bv p] (keep ++ _) >>= fun _ => Bytes.joinLetGo (l.map fun p => (bv p, none)) keep) Q E s
    refine wpAny_bind ?_
    show wpAny M A (holding _ point >>= fun _ => letGo [] _) _ E s
    exact wpAny_bind (wpAny_holding (wpAny_point (wpAny_pure (letGo_none l keep h))))
noncomputable def St : List (Array UInt8 × Tok) → Nat → Array (Array UInt8) × List (Value × Option Value) := fun l i => (((l.take i).map (·.1)).toArray, (l.take i).map fun p => (bv p, none))
theorem St_succ (l : List (Array UInt8 × Tok)) (i : Nat) (h : i < l.length) : St l (i + 1) = ((St l i).1.push l[i].1, (St l i).2 ++ [(bv l[i], none)]) := by
  unfold St
  rw [List.take_add_one, List.getElem?_eq_getElem h]
  simp only [Option.toList_some, List.map_append, List.map_cons, List.map_nil, List.push_toArray]
theorem St_end (l : List (Array UInt8 × Tok)) : St l (List.map bv l).toArray.size = ((l.map (·.1)).toArray, l.map fun p => (bv p, none)) := by
  simp [St]
theorem heapless (l : List (Array UInt8 × Tok)) (i : Nat) : ¬ ((Bytes.Kind.bytes == Bytes.Kind.bytearray || (St l i).2.any fun x => x.1.onHeap) = true) := by
  have h0 : (Bytes.Kind.bytes == Bytes.Kind.bytearray) = false := rfl
  have : ((St l i).2.any fun x => x.1.onHeap) = false := by
    simp only [St, List.any_map]
    rw [List.any_eq_false]
    intro x _
    simp [bv, Value.onHeap]
  rw [h0, this]
  simp
theorem sizeF : ∀ (l : List (Array UInt8)) (acc : Array UInt8), (l.foldl (· ++ ·) acc).size = acc.size + (l.map Array.size).sum
  | [], acc => by simp
  | a :: l, acc => by simp only [List.foldl_cons, sizeF l, Array.size_append, List.map_cons, List.sum_cons]; omega
theorem sumF : ∀ (l : List (Array UInt8)) (n : Nat), l.foldl (fun x y => x + y.size) n = n + (l.map Array.size).sum
  | [], n => by simp
  | a :: l, n => by simp only [List.foldl_cons, sumF l, List.map_cons, List.sum_cons]; omega
theorem short (l : List (Array UInt8 × Tok)) (hs : ((l.map (·.1)).map Array.size).sum ≤ sizeLine) :
    ¬ (Bytes.tooLong (Array.foldl (fun x y => x + y.size) ((#[] : Array UInt8).size * ((l.map (·.1)).toArray.size - 1)) (l.map (·.1)).toArray) = true) := by
  rw [List.foldl_toArray', sumF]
  unfold Bytes.tooLong
  simp only [List.size_toArray, List.length_nil, Nat.zero_mul, Nat.zero_add, decide_eq_true_eq]
  omega
  simp
theorem glue (l : List (Array UInt8)) : Bytes.joined #[] l = l.foldl (· ++ ·) #[] := by
  have : ∀ (l : List (Array UInt8)) (n : Nat) (acc : Array UInt8), (l.zipIdx n).foldl (fun out (p, i) => (if i > 0 then out ++ #[] else out) ++ p) acc = l.foldl (· ++ ·) acc := by
    intro l
    induction l with
    | nil => intro n acc; rfl
    | cons a l ih =>
      intro n acc
      rw [List.zipIdx_cons, List.foldl_cons, List.foldl_cons, ih]
      simp only [Array.append_empty, ite_self]
  exact this l 0 #[]
theorem yes {c : Prop} [Decidable c] {X Y : Prop} (hc : c) (h : X) : if c then X else Y := by rw [if_pos hc]; exact h
theorem no {c : Prop} [Decidable c] {X Y : Prop} (hc : ¬ c) (h : Y) : if c then X else Y := by rw [if_neg hc]; exact h
theorem meets {l : List (Array UInt8 × Tok)} {t : Tok} {a : Addr} {o : Obj} {n : Nat} (h2 : 2 ≤ l.length) (hl : l.length ≤ sizeLine) (hs : ((l.map (·.1)).map Array.size).sum ≤ sizeLine) :
    Meets («bytes.join» ⟨[.bytes #[] t, .ref a], []⟩) (fun _ R s => (s.heap.get? a = some o ∧ o.cls = .type "list" ∧ o.data = .seq (l.map bv).toArray n) ∧ ∀ v k, (∃ t', v = .bytes ((l.map (·.1)).foldl (· ++ ·) #[]) t') → R (.ok (.ret v)) { s with toks := k }) := by
  refine .of_wp fun prog w A R s hS => ?_
  obtain ⟨⟨ho, hc, hd⟩, k⟩ := hS
  show wpAny _ _ (selfAndOne _ _ >>= _) _ _ _
  refine wpAny_bind (wpAny_of_eq (a := (Value.bytes #[] t, Value.ref a)) rfl ?_)
  show wpAny _ _ (Bytes.joinItems (.ref a) >>= _) _ _ _
  refine wpAny_bind ?_
  unfold Bytes.joinItems
  refine wpAny_bind (wpAny_typeOf (T := "list") ⟨_, ho, hc⟩ ?_)
  refine wpAny_ite (yes rfl (wpAny_pure ?_))
  refine wpAny_bind (wpAny_seqItems ho hd ?_)
  match l, h2, hl, hs, k, hd with
  | p :: q :: r, _, hl, hs, k, hd =>
  show wpAny _ _ (forIn ([0:(List.map bv (p :: q :: r)).toArray.size] : Std.Legacy.Range) _ _ >>= _) _ _ _
  generalize (p :: q :: r) = L at hs hl k hd ⊢
  refine wpAny_bind (stepsR (St L) _ rfl ?_ ?_)
  · intro i hi R' hR'
    have hi' : i < L.length := by simpa using hi
    have hx : (List.map bv L).toArray.getD i .none = bv L[i] := by
      simp only [Array.getD_eq_getD_getElem?, List.getElem?_toArray, List.getElem?_map, List.getElem?_eq_getElem hi', Option.map_some, Option.getD_some]
    have e := St_succ L i hi'
    rw [e] at hR'
    refine wpAny_bind (wpAny_seqItems ho hd ?_)
    refine wpAny_ite (no (heapless L i) ?_)
    refine wpAny_bind (wpAny_holding ?_)
    rw [hx]
    refine quiet ?_
    refine wpAny_bind (wpAny_seqItems ho hd ?_)
    refine wpAny_ite (no (by simp) ?_)
    exact wpAny_pure hR'
  · rw [St_end]
    refine wpAny_bind (wpAny_of_eq (a := #[]) rfl ?_)
    refine wpAny_ite (no (short L hs) ?_)
    show wpAny _ _ (mkBytes (Bytes.joined #[] (L.map (·.1))) >>= _) _ _ _
    rw [glue]
    refine wpAny_bind (wpAny_mkBytes ?_ (by rw [sizeF]; simpa using hs))
    refine wpAny_bind (wpAny_holding (wpAny_point ?_))
    refine wpAny_bind (letGo_none L _ ?_)
    exact wpAny_pure ⟨_, rfl, k _ _ ⟨_, rfl⟩⟩
end Jn
noncomputable def Byts (vs : List Value) (ns : List (Array UInt8)) : Prop := ∃ L : List (Array UInt8 × Tok), vs = L.map Jn.bv ∧ L.map (·.1) = ns
theorem VRs.byts {C : Addr} {ω : Wd} {h : Heap} : ∀ {l : List PV} {vs : List Value} {ns : List (Array UInt8)}, VRs C ω h l vs → bytsOf l = some ns → Byts vs ns
  | [], _, ns, x, e => so_el (P := fun ns => Byts _ ns) e (x.nil_el ⟨[], rfl, rfl⟩)
  | p :: r, _, ns, x, e => bd_el e fun i e1 e => bd_el e fun l e2 e => so_el (P := fun ns => Byts _ ns) e (x.cons_el fun v t a b => a.byt_vr e1 fun tk => (VRs.byts b e2).elim fun L q => ⟨(i, tk) :: L, congrArg (_ :: ·) q.1, congrArg (_ :: ·) q.2⟩)
theorem wds_len : (wds.all fun l => decide (l.length ≤ 4)) = true := by decide +kernel
theorem wdsB_len : (wdsB.all fun l => decide (l.length ≤ 4)) = true := by decide +kernel
theorem len_line {n : Nat} (h : decide (n ≤ 4) = true) : n ≤ sizeLine := Nat.le_trans (dec h) (by rw [sizeLine_eq]; decide)
theorem inW {l : List Nat} (h : wds.contains l = true) : l ∈ wds := by simpa using h
theorem inWB {l : List UInt8} (h : wdsB.contains l = true) : l ∈ wdsB := by simpa using h
open Builtin in
theorem latin_tab {id : String} : wdsB.map (fun l => _codecs.runDecoder id _codecs.latin1Decoder none true l.toArray 0 []) = wdsB.map fun l => pure (l.toArray.map UInt8.toNat, l.toArray.size) := by kernel_rfl
open Builtin in
theorem run_latin {id : String} {b : Array UInt8} (h : wdsB.contains b.toList = true) :
    _codecs.runDecoder id _codecs.latin1Decoder none true b 0 [] = pure (b.map UInt8.toNat, b.size) := List.map_inj_left.mp latin_tab b.toList (inWB h)
namespace Dc
open Builtin
variable {b : Array UInt8} {t : Tok}
theorem road_eq {id : String} : _codecs.decodeRoad id b latin1 none [] = (_codecs.runDecoder id _codecs.latin1Decoder none true b 0 [] >>= fun r => mkStr ⟨r.1⟩) := by kernel_rfl
theorem entry_eq {c : UInt8} {cs : List UInt8} {t1 : Tok} : «bytes.decode» ⟨[.bytes (c :: cs).toArray t, .str latin1 t1], []⟩ = (mkStr (PySem.Str.ofString "utf-8") >>= fun _ => mkStr latin1 >>= fun e => mkStr (PySem.Str.ofString "bytes.decode") >>= fun d =>
    call (.builtin "_codecs.decode.text") [.bytes (c :: cs).toArray t, e, .none, d] >>= fun v => ret v) := by kernel_rfl
theorem entry_nil {t1 : Tok} : «bytes.decode» ⟨[.bytes #[] t, .str latin1 t1], []⟩ = (do rule "bytes.decode.empty"; retStr PySem.Str.empty) := by kernel_rfl
theorem args_2 (a c : Value) : argsOk "bytes.decode" ⟨[a, c], []⟩ := by
  unfold argsOk; rw [signature?_of (id := "bytes.decode") (n := ['e', 'd', 'o', 'c', 'e', 'd']) (o := ['s', 'e', 't', 'y', 'b']) (by kernel_rfl) FB.owner_bytes]; kernel_rfl
theorem meets_text {t1 t2 : Tok} {d : PySem.Str} :
    Meets («_codecs.decode.text» ⟨[.bytes b t, .str latin1 t1, .none, .str d t2], []⟩) (fun _ R s => (b.size ≤ sizeLine ∧ wdsB.contains b.toList = true) ∧ R (.ok (.ret (.str ⟨b.map UInt8.toNat⟩ s.toks))) { s with toks := s.toks + 1 }) := by
  refine .of_wp fun prog w A R s hS => ?_
  obtain ⟨hsz, h⟩ := hS
  show wpAny _ _ (Bytes.bytesLike _ (.bytes b t) >>= fun r => _) _ _ s
  refine wpAny_bind (wpAny_of_eq KBd.like_eq ?_)
  refine wpAny_bind (wpAny_of_eq KBd.held_eq ?_)
  show wpAny _ _ (_codecs.decodeRoad _ b latin1 none [] >>= fun v => _) _ _ s
  rw [road_eq, run_latin hsz.2]
  refine wpAny_bind (wpAny_bind (wpAny_pure ?_))
  exact wpAny_mkStr (wpAny_pure ⟨_, rfl, h⟩) (by simpa [PySem.Str.length] using hsz.1)
theorem meets_decode {c : UInt8} {cs : List UInt8} {t1 : Tok} :
    Meets («bytes.decode» ⟨[.bytes (c :: cs).toArray t, .str latin1 t1], []⟩) (fun _ R s => ((c :: cs).toArray.size ≤ sizeLine ∧ wdsB.contains (c :: cs).toArray.toList = true) ∧ ∀ t' k, R (.ok (.ret (.str ⟨(c :: cs).toArray.map UInt8.toNat⟩ t'))) { s with toks := k }) := by
  refine .of_wp fun prog w A R s hS => ?_
  obtain ⟨hsz, h⟩ := hS
  rw [entry_eq]
  refine wpAny_bind (wpAny_mkStr ?_ (by decide))
  refine wpAny_bind (wpAny_mkStr ?_ (by decide))
  refine wpAny_bind (wpAny_mkStr ?_ (by decide))
  exact wpAny_bind (call_function_meets KBd.kind_text KBd.plain_text KBd.entry_text (KBd.args_text _ _ _ _) meets_text ⟨hsz, wpAny_pure ⟨_, rfl, h _ _⟩⟩)
theorem gives_nil {t1 : Tok} : Gives («bytes.decode» ⟨[.bytes #[] t, .str latin1 t1], []⟩) (.str PySem.Str.empty) := by
  rw [entry_nil]
  exact .rule (.of_eq rfl)
section
variable {prog : Program} {w : World} {A : Around} {E : Value → Shared → Prop} {s : Shared}
theorem decode {Q : Value → Shared → Prop} {t1 : Tok} (hw : wdsB.contains b.toList = true) (h : ∀ t' k, Q (.str ⟨b.map UInt8.toNat⟩ t') { s with toks := k }) :
    wpAny (model prog w) A (call (.builtin "bytes.decode") [.bytes b t, .str latin1 t1]) Q E s := by
  obtain ⟨l⟩ := b
  cases l with
  | nil => exact call_gives FB.slot_bytes_decode (typeIs_bytes _ _ _) FB.entry_bytes_decode (args_2 _ _) gives_nil ⟨by decide, by have := h s.toks (s.toks + 1); simp only [List.map_toArray, List.map_nil] at this; exact this⟩
  | cons c cs => exact call_meets FB.slot_bytes_decode (typeIs_bytes _ _ _) FB.entry_bytes_decode (args_2 _ _) meets_decode ⟨⟨len_line (List.all_eq_true.mp wdsB_len _ (inWB hw)), hw⟩, h⟩
end
end Dc
namespace En
open Builtin
variable {x : PySem.Str} {t : Tok}
theorem tab {id : String} {self : Value} : wds.map (fun l => _codecs.encodeNarrow id _codecs.latin1Codec none self ⟨l.toArray⟩) = wds.map fun l => pure (l.toArray.map Nat.toUInt8) := by kernel_rfl
theorem narrow {id : String} {self : Value} (h : wds.contains x.cps.toList = true) : _codecs.encodeNarrow id _codecs.latin1Codec none self x = pure (x.cps.map Nat.toUInt8) := List.map_inj_left.mp tab x.cps.toList (inW h)
theorem road_eq {id : String} {self : Value} : _codecs.encodeRoad id self x latin1 none = (_codecs.encodeNarrow id _codecs.latin1Codec none self x >>= fun r => mkBytes r) := by kernel_rfl
theorem entry_eq {t1 : Tok} : «str.encode» ⟨[.str x t, .str latin1 t1], []⟩ = (_codecs.encodeRoad "str.encode" (.str x t) x latin1 none >>= fun v => ret v) := by kernel_rfl
theorem meets {t1 : Tok} (h : wds.contains x.cps.toList = true) :
    Meets («str.encode» ⟨[.str x t, .str latin1 t1], []⟩) (fun _ R s => ∀ t' k, R (.ok (.ret (.bytes (x.cps.map Nat.toUInt8) t'))) { s with toks := k }) := by
  refine .of_wp fun prog w A R s k => ?_
  rw [entry_eq, road_eq, narrow h, pure_bind]
  exact wpAny_bind (wpAny_mkBytes (wpAny_pure ⟨_, rfl, k _ _⟩) (by rw [Array.size_map]; exact len_line (List.all_eq_true.mp wds_len _ (inW h))))
theorem encode {prog : Program} {w : World} {A : Around} {E : Value → Shared → Prop} {s : Shared} {Q : Value → Shared → Prop} {t1 : Tok} (h : wds.contains x.cps.toList = true)
    (k : ∀ t' k, Q (.bytes (x.cps.map Nat.toUInt8) t') { s with toks := k }) : wpAny (model prog w) A (call (.builtin "str.encode") [.str x t, .str latin1 t1]) Q E s :=
  call_meets F.slot_str_encode (typeIs_str _ _ _) F.entry_str_encode (F.args_str_encode_2 _ _) (meets h) k
end En
section
variable {prog : Program} {w : World} {A : Around} {E : Value → Shared → Prop} {s : Shared} {Q : Value → Shared → Prop}
theorem call_replace0 {x y z : Str} {t u v : Tok} (h : (occurrences x y 0 x.length (x.length + 1)).isEmpty = true) (hq : Q (.str x t) s) : wpAny (model prog w) A (call (.builtin "str.replace") [.str x t, .str y u, .str z v]) Q E s :=
  call_gives F.slot_str_replace (typeIs_str _ _ _) F.entry_str_replace (F.args_str_replace_3 _ _ _) (gives_replace0 x y z t u v h) hq
end
section
variable {B : Base} {A : Around} {E : Value → Shared → Prop} {ω : Wd} {σ : St} {s : Shared}
theorem slot_bytes_join : Slot "bytes" "join" "bytes.join" :=
  .of (owner := "bytes") (n := "join") (by rw [typeLookup_type, builtinLookup_eq_fast]; kernel_rfl) (by decide +kernel) (by decide +kernel) (by decide +kernel)
    (by first | exact .inl (by decide +kernel) | exact .inr (by decide +kernel)) (by rw [isSubtype_type]; kernel_rfl)
theorem type_bytes_join : typeOf (.builtin "bytes.join") = pure (.type "method_descriptor") := by show builtinType _ = _; rw [builtinType_eq_fast]; kernel_rfl
/-- a value that has such a method -/
noncomputable def HasMe (m : MT) (p : PV) (v : Value) (s : Shared) : Prop :=
  ∃ T, PlainAttrs T ∧ Slot T (meName m) (meId m p) ∧ typeOf (.builtin (meId m p)) = pure (.type "method_descriptor") ∧ s.TypeIs v T ∧ (∀ a, v = .ref a → ∃ ob, s.heap.get? a = some ob ∧ ob.dict = none)
theorem me_str {m : MT} {x : Str} {t : Tok} (h : okS m = true) : HasMe m (.str x) (.str x t) s := by
  have S : s.TypeIs (.str x t) "str" ∧ ∀ a, (Value.str x t) = .ref a → ∃ ob, s.heap.get? a = some ob ∧ ob.dict = none := ⟨typeIs_str _ _ _, fun _ q => nomatch q⟩
  cases m <;> first | exact absurd h (by decide) | skip
  · exact ⟨"str", F.plainAttrs_str, F.slot_str_join, F.type_str_join, S⟩
  · exact ⟨"str", F.plainAttrs_str, F.slot_str_find, F.type_str_find, S⟩
  · exact ⟨"str", F.plainAttrs_str, F.slot_str_replace, F.type_str_replace, S⟩
  · exact ⟨"str", F.plainAttrs_str, F.slot_str_encode, F.type_str_encode, S⟩
theorem me_byt {m : MT} {x : Array UInt8} {t : Tok} (h : okB m = true) : HasMe m (.byt x) (.bytes x t) s := by
  have S : s.TypeIs (.bytes x t) "bytes" ∧ ∀ a, (Value.bytes x t) = .ref a → ∃ ob, s.heap.get? a = some ob ∧ ob.dict = none := ⟨typeIs_bytes _ _ _, fun _ q => nomatch q⟩
  cases m <;> first | exact absurd h (by decide) | skip
  · exact ⟨"bytes", FB.plainAttrs_bytes, slot_bytes_join, type_bytes_join, S⟩
  · exact ⟨"bytes", FB.plainAttrs_bytes, FB.slot_bytes_decode, FB.type_bytes_decode, S⟩
theorem me_loc {m : MT} {n : Nat} {a : Addr} {o : Obj} (h : okL m = true) (ho : s.heap.get? a = some o) (c : LC o) : HasMe m (.loc n) (.ref a) s := by
  have S : s.TypeIs (.ref a) "list" ∧ ∀ b, (Value.ref a) = .ref b → ∃ ob, s.heap.get? b = some ob ∧ ob.dict = none := ⟨⟨o, ho, c.1⟩, fun b q => ⟨o, Value.ref.inj q ▸ ho, c.2.1⟩⟩
  cases m <;> first | exact absurd h (by decide) | skip
  · exact ⟨"list", F.plainAttrs_list, slot_list_append, type_list_append, S⟩
  · exact ⟨"list", F.plainAttrs_list, F.slot_list_extend, F.type_list_extend, S⟩
  · exact ⟨"list", F.plainAttrs_list, F.slot_list_pop, F.type_list_pop, S⟩
theorem me_head {m : MT} {p : PV} {v : Value} {u : Unit} (I : Inv B ω σ s) (x : VR B.C ω s.heap p v) (e : meOk m p σ = some u) : HasMe m p v s :=
  ql_el e (fun e => bd_el e fun y e1 e => gd_el e fun h _ => by rw [str_at e1] at x ⊢; exact x.str_el fun t => me_str h)
    fun e => ql_el e (fun e => bd_el e fun y e1 e => gd_el e fun h _ => by rw [byt_at e1] at x ⊢; exact x.byt_el fun t => me_byt h)
    fun e => bd_el e fun n e1 e => bd_el e fun l e2 e => gd_el e fun h _ => by rw [loc_at e1] at x ⊢; exact loc_vr I x e2 fun a o _ _ _ ho c _ _ => me_loc h ho c
open AutoSeq1 in
theorem extendW (l : Addr) (items : Array Value) (n : Nat) (b : Addr) (items2 : Array Value) (n2 : Nat) (dd : Option Addr) (sl : Array (Option Value)) (hc0 : ¬(!items.isEmpty && Builtin.List.listTooLong (items.size + items2.size)) = true) (hc1 : items.size ≤ sizeLine) (hs2 : items.size + items2.size ≤ sizeLine + 1) :
    Meets (Builtin.«list.extend» ⟨[.ref l, .ref b], []⟩) (fun _ R s => s.heap.get? l = some { cls := .type "list", dict := none, data := .seq items n, slots := #[] } ∧ s.heap.get? b = some { cls := .type "list", dict := dd, data := .seq items2 n2, slots := sl } ∧ R (.ok (.ret Value.none)) { s with heap := s.heap.update l (Obj.mapSeq fun x => x ++ items2), toks := s.toks }) :=
  .of_wp fun prog w A R s h => by
    obtain ⟨hp, g, d, tk, os⟩ := s; obtain ⟨hl, hb, h⟩ := h; have f1 := AutoSeq1.idx_int; have f2 := AutoSeq1.sub_tuple_tuple; have f3 := AutoSeq1.sub_list_list; have f4 := AutoSeq1.sub_tuple_list; have f5 := AutoSeq1.sub_list_tuple;
    have hz' : (items ++ items2).size ≤ sizeLine + 1 := by rw [Array.size_append]; exact hs2
    wp_walk using (wpAny_updateSeq hl rfl (hz := hc1) (_hz' := hz')), wpAny_loadPart' hl, wpAny_loadPart' hb; exact ⟨_, rfl, h⟩
theorem extend_ok {a b : Addr} {o : Obj} {ws ws2 : Array Value} {kk n2 : Nat} {Q : Value → Shared → Prop} (hL : IsL s.heap a ws kk) (hb : s.heap.get? b = some o) (c : o.cls = .type "list") (d : o.data = .seq ws2 n2) (hsz : ws.size + ws2.size ≤ sizeLine)
    (k : Q .none { s with heap := s.heap.update a (Obj.mapSeq fun z => z ++ ws2) }) : wpAny (model B.prog B.w) A (call (.builtin "list.extend") [.ref a, .ref b]) Q E s := by
  obtain ⟨cls, dd, data, sl⟩ := o
  cases c; cases d
  exact call_meets F.slot_list_extend ⟨_, hL, rfl⟩ F.entry_list_extend (F.args_list_extend_2 _ _) (extendW a ws kk b ws2 n2 _ _ (extend_door hsz) (Nat.le_trans (Nat.le_add_right _ _) hsz) (Nat.le_succ_of_le hsz)) ⟨hL, hb, k⟩
section
variable {Q : Value → Shared → Prop} {σ' : St} {r : PV} {ps : List PV} {vs : List Value}
/-- the way on, where the store may have changed -/
abbrev KM (B : Base) (ω : Wd) (s : Shared) (σ' : St) (r : PV) (Q : Value → Shared → Prop) : Prop :=
  ∀ v' h' tk, Gw ω [] s.heap ω h' → Inv B ω σ' { s with heap := h', toks := tk } → VR B.C ω h' r v' → Q v' { s with heap := h', toks := tk }
theorem KM.kk (I : Inv B ω σ s) (k : KM B ω s σ r Q) : KK B ω s r Q := fun v h' tk hk x => k v h' tk (.of_keep hk) (I.keep hk) x
theorem KM.set {n n' : Nat} {l' : List PV} {a : Addr} {v : Value} {h' : Heap} {vs' : Array Value} (I : Inv B ω σ s) (hi : ω.mu[n]? = some a) (k : KM B ω s (σ.set n (.lst l')) r Q) (hs : Heap.SameBut a s.heap h') (hL : IsL h' a vs' n')
    (x : VRs B.C ω s.heap l' vs'.toList) (y : VR B.C ω s.heap r v) : Q v { s with heap := h' } :=
  have hm := List.mem_of_getElem? hi
  k v h' s.toks (.of_ext (.inl hm) hs.extBut ⟨_, hL⟩) (I.set hi hs.extBut ⟨_, _, _, hL, lc_of, rfl, x.carry (.of_mu hm hs.extBut)⟩) (y.carry (.of_mu hm hs.extBut))
theorem append_ok {n n' : Nat} {l : List PV} {q : PV} {a : Addr} {w : Value} {ws : Array Value} (I : Inv B ω σ s) (hi : ω.mu[n]? = some a) (hL : IsL s.heap a ws n') (x : VRs B.C ω s.heap l ws.toList) (y : VR B.C ω s.heap q w) (h : decide (l.length ≤ LIM) = true)
    (k : KM B ω s (σ.set n (.lst (l ++ [q]))) .none Q) : wpAny (model B.prog B.w) A (call (.builtin "list.append") [.ref a, w]) Q E s :=
  wpAny_list_append_plain ⟨n', hL⟩ (fun h' hp' hs' => hp'.elim fun k' hk' => k.set I hi hs' hk' (by rw [Array.toList_push]; exact x.append (.one y)) .none_in) (by rw [x.size]; exact lim_line h)
theorem pop_list {ws : Array Value} {m : Nat} (h : ws.size = m + 1) : (ws.eraseIdxIfInBounds (ws.size - 1)).toList = ws.toList.take m := by
  unfold Array.eraseIdxIfInBounds
  rw [dif_pos (by omega), Array.toList_eraseIdx, h, List.eraseIdx_eq_take_drop_succ, List.drop_of_length_le (by simp; omega), List.append_nil]
  rfl
theorem pop_ok {n n' : Nat} {l : List PV} {q : PV} {a : Addr} {ws : Array Value} (I : Inv B ω σ s) (hi : ω.mu[n]? = some a) (hL : IsL s.heap a ws n') (x : VRs B.C ω s.heap l ws.toList) (hq : l.getLast? = some q) (h : decide (l.length ≤ LIM) = true)
    (k : KM B ω s (σ.set n (.lst l.dropLast)) q Q) : wpAny (model B.prog B.w) A (call (.builtin "list.pop") [.ref a]) Q E s := by
  have hq' : l[l.length - 1]? = some q := by rw [← List.getLast?_eq_getElem?]; exact hq
  have hl0 := (List.getElem?_eq_some_iff.mp hq').1
  refine (x.get hq').elim fun u hu => call_meets F.slot_list_pop ⟨_, hL, rfl⟩ F.entry_list_pop (F.args_list_pop_1 _) (MeetsSeq.list_pop_last a ws n' u (by rw [x.size]; simpa using hu.1) (by rw [x.size]; exact lim_line h)) ⟨hL, ?_⟩
  refine k.set I hi (Heap.SameBut.update ..) (IsL.update hL (fun xs => xs.eraseIdxIfInBounds (ws.size - 1))) ?_ hu.2
  rw [pop_list (m := l.length - 1) (by rw [x.size]; omega), List.dropLast_eq_take]
  exact x.take _
theorem meL_ok {m : MT} {n n' : Nat} {l : List PV} {x : PV × List PV} {a : Addr} {ws : Array Value} {p : PV} (hp : p = .loc n) (I : Inv B ω σ s) (hi : ω.mu[n]? = some a) (hL : IsL s.heap a ws n') (y : VRs B.C ω s.heap l ws.toList) (xs : VRs B.C ω s.heap ps vs) (e : meL m l ps = some x)
    (k : KM B ω s (σ.set n (.lst x.2)) x.1 Q) : wpAny (model B.prog B.w) A (call (.builtin (meId m p)) (.ref a :: vs)) Q E s := by
  cases m <;> first | exact nn e | skip
  · exact bd_el e fun q e1 e => gd_el e fun h e => xs.one_vr e1 fun w z => append_ok I hi hL y z h (so_el (P := fun x => KM B ω s (σ.set n (.lst x.2)) x.1 Q → KM B ω s (σ.set n (.lst (l ++ [q]))) .none Q) e id k)
  · refine bd_el e fun q e1 e => bd_el e fun l2 e2 e => gd_el e fun h e => and_el h fun h1 h2 => xs.one_vr e1 fun w z => VR.lst_el (P := fun w => wpAny _ A (call (.builtin "list.extend") [.ref a, w]) Q E s) (lst_at e2 ▸ z) fun b o ws2 n2 f c d r2 =>
      extend_ok hL f.2.2.1 c d (by have := dec h1; have := dec h2; rw [sizeLine_eq, y.size, r2.size]; simp only [LIM] at *; omega) ?_
    have k' := so_el (P := fun x => KM B ω s (σ.set n (.lst x.2)) x.1 Q → KM B ω s (σ.set n (.lst (l ++ l2))) .none Q) e id k
    exact k'.set I hi (Heap.SameBut.update ..) (IsL.update hL (fun z => z ++ ws2)) (by rw [Array.toList_append]; exact y.append r2) .none_in
  · exact bd_el e fun _ e1 e => bd_el e fun q e2 e => gd_el e fun h e => xs.nil_vr e1 (pop_ok I hi hL y e2 h (so_el (P := fun x => KM B ω s (σ.set n (.lst x.2)) x.1 Q → KM B ω s (σ.set n (.lst l.dropLast)) q Q) e id k))
theorem find_eq (x z : Str) {k : Int} (h : 0 ≤ k) : Txt.find3 x z k = fndV x z k := by
  unfold Txt.find3
  rw [fromIndex_nat h]
  rfl
theorem meS_ok {m : MT} {x : Str} {t : Tok} {p : PV} (hp : p = .str x) (I : Inv B ω σ s) (xs : VRs B.C ω s.heap ps vs) (e : meS m x ps σ = some r) (k : KK B ω s r Q) : wpAny (model B.prog B.w) A (call (.builtin (meId m p)) (.str x t :: vs)) Q E s := by
  cases m <;> first | exact nn e | skip
  · rw [hp]
    exact bd_el e fun q e1 e => bd_el e fun l e2 e => bd_el e fun ss e3 e => gd_el e fun h e => and_el h fun h1 h2 => xs.one_vr e1 fun w z => lstOf_vr I z e2 fun a o ws n ho c d r' =>
      join_listW (isl_of ho c d) (r'.strs e3) (dec h1) (Nat.le_trans (dec h2) (by decide)) fun t' tk => by rw [show Txt.join x ss = Str.join x ss from StrLaws.glued_eq_join x ss]; exact k.str e _ _
  · exact bd_el e fun y e1 e => bd_el e fun z e2 e => bd_el e fun i e3 e => gd_el e fun h e => and_el h fun h1 h => and_el h fun h2 _ => xs.two_vr (i := y.1) (j := y.2) e1 fun w1 w2 y1 y2 =>
      y1.str_vr e2 fun t1 => y2.int_vr e3 fun t2 => SC.find3 (by rw [find_eq _ _ (dec h2)]; exact k.int e _ _)
  · exact bd_el e fun y e1 e => xs.two_vr (i := y.1) (j := y.2) e1 fun w1 w2 y1 y2 => s2_vr y1 y2 e fun a b t1 t2 e => gd_el e fun h e => and_el h fun h1 h2 => call_replace0 h2 (k.str e _ s.toks)
  · exact bd_el e fun q e1 e => bd_el e fun y e2 e => gd_el e fun h e => and_el h fun h1 h2 => xs.one_vr e1 fun w z => z.str_vr e2 fun t1 => dec h1 ▸ En.encode h2 fun t' tk => k.byt e _ _
theorem meB_ok {m : MT} {x : Array UInt8} {t : Tok} {p : PV} (hp : p = .byt x) (I : Inv B ω σ s) (xs : VRs B.C ω s.heap ps vs) (e : meB m x ps σ = some r) (k : KK B ω s r Q) : wpAny (model B.prog B.w) A (call (.builtin (meId m p)) (.bytes x t :: vs)) Q E s := by
  cases m <;> first | exact nn e | skip
  · rw [hp]
    refine bd_el e fun q e1 e => bd_el e fun l e2 e => bd_el e fun bs e3 e => gd_el e fun h e => and_el h fun h1 h => and_el h fun h h4 => and_el h fun h2 h3 => xs.one_vr e1 fun w z => lstOf_vr I z e2 fun a o ws n ho c d r' =>
      (r'.byts e3).elim fun L q => ?_
    have hx := Array.eq_empty_of_size_eq_zero (dec h1)
    have hl : bs.length = L.length := by rw [← q.2, List.length_map]
    rw [hl] at h2 h3
    have hws : ws = (L.map Jn.bv).toArray := by rw [← q.1, Array.toArray_toList]
    rw [hx]
    refine call_meets slot_bytes_join (typeIs_bytes _ _ _) Jn.entry (Jn.args_2 _ _) (Jn.meets (l := L) (dec h2) (lim_line h3) (by rw [q.2]; exact lim_line h4)) ⟨⟨ho, c, hws ▸ d⟩, fun v tk hv => hv.elim fun t' hv => ?_⟩
    rw [hv, q.2]
    exact k.byt e _ _
  · exact bd_el e fun q e1 e => bd_el e fun y e2 e => gd_el e fun h e => and_el h fun h1 h2 => xs.one_vr e1 fun w z => z.str_vr e2 fun t1 => dec h1 ▸ Dc.decode h2 fun t' tk => k.str e _ _
theorem me_call {m : MT} {p : PV} {v : Value} (I : Inv B ω σ s) (x : VR B.C ω s.heap p v) (xs : VRs B.C ω s.heap ps vs) (e : meV m p ps σ = some (r, σ')) (k : KM B ω s σ' r Q) :
    wpAny (model B.prog B.w) A (call (.builtin (meId m p)) (v :: vs)) Q E s :=
  ql_el e (fun e => bd_el e fun y e1 e => x.str_vr e1 fun t => vl_el (P := fun σ' => KM B ω s σ' r Q → _) e (fun e k => meS_ok (str_at e1) I xs e (k.kk I)) k)
    fun e => ql_el e (fun e => bd_el e fun y e1 e => x.byt_vr e1 fun t => vl_el (P := fun σ' => KM B ω s σ' r Q → _) e (fun e k => meB_ok (byt_at e1) I xs e (k.kk I)) k)
    fun e => bd_el e fun n e1 e => bd_el e fun l e2 e => bd_el e fun y e3 e => loc_vr (P := fun v => wpAny (model B.prog B.w) A (call (.builtin (meId m p)) (v :: vs)) Q E s) I (loc_at e1 ▸ x) e2 fun a o ws n' hi ho c d r' =>
      meL_ok (loc_at e1) I hi (isL_of ho c d) r' xs e3 (pr_el (P := fun r σ' => KM B ω s σ' r Q → KM B ω s (σ.set n (.lst y.2)) y.1 Q) e id k)
end
end
end Sh
namespace Sh
open PySem PySem.Calls PyProof.Rows PySem.W PySem.Spec
/-- the frames around -/
noncomputable def Frs (A : Around) (ω : Wd) (h : Heap) (l : List Env) : Prop :=
  A.frames = some l ∧ ∀ e ∈ l, e.scope.kind ≠ .module ∧ ∃ L f, e.frame = some L ∧ L ∈ ω.ex ∧ h.Ns L f
/-- an exception under way: a ValueError with these words -/
structure Fly (B : Base) (ω : Wd) (l : List Env) (x : Str) (a t : Addr) (tk : Tok) (hr base h : Heap) : Prop where
  kp : ∀ b o, hr.get? b = some o → (B.h₀.get? b = none ∧ Dic o ∧ b ∉ ω.mu) ∨ base.get? b = some o
  up : hr.UpToSlots h
  fly : Heap.FlyingW base l a (.type "ValueError") (.ref t) h
  tn : base.get? t = none
  tup : h.TupAt t [.str x tk]
/-- the way on, where one may fly -/
abbrev KX (B : Base) (ω : Wd) (h : Heap) (σ' : St) (l : List Env) (x : Str) (E : Value → Shared → Prop) : Prop :=
  ∀ a t tk hr base ω' s', Gw ω [] h ω' hr → Inv B ω' σ' { s' with heap := hr } → Fly B ω' l x a t tk hr base s'.heap → E (.ref a) s'
abbrev KV (B : Base) (ω : Wd) (h : Heap) (σ' : St) (p : PV) (Q : Value → Shared → Prop) : Prop :=
  ∀ v ω' s', Gw ω [] h ω' s'.heap → Inv B ω' σ' s' → VR B.C ω' s'.heap p v → Q v s'
noncomputable def KO' (B : Base) (ω : Wd) (h : Heap) (σ' : St) (l : List Env) (o : Out) (Q E : Value → Shared → Prop) : Prop := match o with
  | .val p => KV B ω h σ' p Q
  | .exc x => KX B ω h σ' l x E
/-- a function as the heap has it -/
noncomputable def IsFn (B : Base) (v : Value) : Prop := ∃ a o fd, v = .ref a ∧ B.h₀.get? a = some o ∧ o.cls ≠ .none ∧ o.data = .func fd
noncomputable def FOK (B : Base) (lv : Nat) (v : Value) (sp : Spec) : Prop :=
  IsFn B v ∧ ∀ A, Rm lv A → ∀ ω σ s Q E ps vs out σ' l, Frs A ω s.heap l → Inv B ω σ s → VRs B.C ω s.heap ps vs → sp ps σ = some (out, σ') →
    KO' B ω s.heap σ' l out Q E → wpAny (model B.prog B.w) A (call v vs) Q E s
theorem Rm.less {lv lv' : Nat} {A : Around} (R : Rm lv A) (h : lv' ≤ lv) : Rm lv' A := ⟨R.hh, by have := R.depth; omega, by have := R.units; omega⟩
theorem Rm.u64 {lv : Nat} {A : Around} (R : Rm lv A) : A.units + 64 < cLine := by have := R.units; show A.units + 64 < 9900; omega
theorem FOK.more {B : Base} {lv lv' : Nat} {v : Value} {sp : Spec} (h : FOK B lv v sp) (hl : lv ≤ lv') : FOK B lv' v sp :=
  ⟨h.1, fun A R => h.2 A (R.less hl)⟩
/-- the functions known by their numbers -/
noncomputable def Known (B : Base) (lv : Nat) (T : Nat → Option Str) (Φ : Nat → Option Spec) : Prop :=
  ∀ f n sp, T f = some n → Φ f = some sp → ∃ v, B.mg n = some v ∧ FOK B lv v sp
noncomputable def nbNames : List Str := ["len", "range", "sorted", "max", "bytes", "str", "object", "isinstance", "ValueError"]
noncomputable def NoGlob (B : Base) : Prop := ∀ x ∈ nbNames, B.mg x = none
theorem FR.frs {c : Cx} {ω : Wd} {h : Heap} {m : Fm} (F : FR c ω h m) : ∃ l, Frs c.A ω h l := F.ff
noncomputable def okG (Γ : Sc) (x : Str) : Bool := Γ.names.lookup x == some .globalImplicit && !(x == ("__debug__" : Str))
section
variable {c : Cx} {ω : Wd} {σ : St} {s : Shared} {m : Fm} {E : Value → Shared → Prop} {Q : Value → Shared → Prop} {x : Str} {v : Value} {pos : Pos}
theorem okG_el {Γ : Sc} {G : Prop} (hx : okG Γ x = true) (k : Γ.names.lookup x = some .globalImplicit → (x == ("__debug__" : Str)) = false → G) : G := and_el hx fun h1 h2 => k (beq_iff_eq.mp h1) ((Bool.not_eq_true' _).mp h2)
theorem glob_ok (F : FR c ω s.heap m) (I : Inv c.B ω σ s) (hx : okG c.Γ x = true) (hv : c.B.mg x = some v) (k : Q v s) : wpAny (model c.B.prog c.B.w) c.A (eval (.Name x pos) c.env) Q E s :=
  okG_el hx fun h1 h2 => Name_function_global F.kind (by rw [F.kindOf]; exact h1) (loadGlobal_global (mg := c.B.mg) (by rw [F.glob]; exact I.gns) hv k) h2
theorem bui_ok (F : FR c ω s.heap m) (I : Inv c.B ω σ s) (hx : okG c.Γ x = true) (hg : c.B.mg x = none) (hn : x ≠ "__name__") (hv : bootBuiltins x = some v) (k : Q v s) : wpAny (model c.B.prog c.B.w) c.A (eval (.Name x pos) c.env) Q E s :=
  okG_el hx fun h1 h2 => Name_function_global F.kind (by rw [F.kindOf]; exact h1) (loadGlobal_builtin (mg := c.B.mg) (mb := c.B.mb) (by rw [F.glob]; exact I.gns) hg (by rw [F.blt]; exact I.bns) ((I.bok.blt x hn).trans hv) k) h2
end
/-- the way on from an expression -/
abbrev KE (c : Cx) (ω : Wd) (s : Shared) (σ' : St) (p : PV) (Q : Value → Shared → Prop) : Prop := KV c.B ω s.heap σ' p Q
section
variable {c : Cx} {ω ω₁ : Wd} {σ σ' : St} {s s₁ : Shared} {p : PV} {v : Value} {Q : Value → Shared → Prop}
theorem KE.gw (kk : KE c ω s σ' p Q) (G : Gw ω [] s.heap ω₁ s₁.heap) : KE c ω₁ s₁ σ' p Q := fun v ω' s' G' I' x => kk v ω' s' (G.trans G') I' x
theorem KE.kk (kk : KE c ω s σ p Q) (I : Inv c.B ω σ s) : KK c.B ω s p Q := fun v h' tk hk x => kk v ω _ (.of_keep hk) (I.keep hk) x
theorem KE.km (kk : KE c ω s σ' p Q) : KM c.B ω s σ' p Q := fun v h' tk G I x => kk v ω _ G I x
theorem KE.tk (kk : KE c ω s σ p Q) (I : Inv c.B ω σ s) (x : VR c.B.C ω s.heap p v) (tk : Tok) : Q v { s with toks := tk } := kk v ω _ (.refl _ _ _) I.toks x
theorem KE.here (kk : KE c ω s σ p Q) (I : Inv c.B ω σ s) (x : VR c.B.C ω s.heap p v) : Q v s := kk v ω s (.refl _ _ _) I x
end
section
variable {c : Cx} {Φ : Nat → Option Spec}
noncomputable def STx (c : Cx) (Φ : Nat → Option Spec) (e : Expr) (x : X) : Prop := ST c e fun m σ => sq (ev Φ x m σ) fun p σ => bd (truthyV σ p) fun b => some (b, σ)
theorem STx.run {e : Expr} {x : X} (h : STx c Φ e x) {ω : Wd} {m : Fm} {σ σ' : St} {s : Shared} {Q : Bool → Shared → Prop} {E : Value → Shared → Prop} {p : PV} {b : Bool} (F : FR c ω s.heap m) (I : Inv c.B ω σ s) (e1 : ev Φ x m σ = some (p, σ')) (e2 : truthyV σ' p = some b)
    (k : ∀ ω' s', Gw ω [] s.heap ω' s'.heap → Inv c.B ω' σ' s' → Q b s') : wpAny (model c.B.prog c.B.w) c.A (isTrue e c.env (eval e c.env)) Q E s :=
  h ω m σ s Q E b σ' F I (by show sq (ev Φ x m σ) _ = _; rw [e1]; show bd (truthyV σ' p) _ = _; rw [e2]; rfl) k
/-- a test, when its value is known -/
theorem STx.of {e : Expr} {x : X} (h : ∀ ω m σ s (Q : Bool → Shared → Prop) E p b σ', FR c ω s.heap m → Inv c.B ω σ s → ev Φ x m σ = some (p, σ') → truthyV σ' p = some b → (∀ ω' s', Gw ω [] s.heap ω' s'.heap → Inv c.B ω' σ' s' → Q b s') →
    wpAny (model c.B.prog c.B.w) c.A (isTrue e c.env (eval e c.env)) Q E s) : STx c Φ e x :=
  fun ω m σ s Q E b σ' F I e1 k => sq_el e1 fun p σ₁ e1 e => bd_el e fun b' e2 e => pr_el (P := fun b σ' => (∀ ω' s', Gw ω [] s.heap ω' s'.heap → Inv c.B ω' σ' s' → Q b s') → _) e (h ω m σ s Q E p b' σ₁ F I e1 e2) k
/-- a test by its value -/
theorem stx_value {e : Expr} {x : X} (h : SE c e (ev Φ x)) (he : ∀ whole, isTrue e c.env whole = (do let v ← whole; standAt e.pos; holding [v] (truthy v))) : STx c Φ e x :=
  .of fun ω m σ s Q E p b σ' F I e2 e3 k => wpAny_isTrue_value (h ω m σ s _ E p σ' F I e2 fun v ω' s' G I' r => truthy_ok I' r e3 fun tk => k ω' _ (G.trans (.of_keep fun _ _ e => e)) I'.toks) (he _)
theorem KE.lit {ω : Wd} {σ σ' : St} {s : Shared} {p₀ p : PV} {Q : Value → Shared → Prop} (e : some (p₀, σ) = some (p, σ')) (kk : KE c ω s σ' p Q) : KE c ω s σ p₀ Q := pr_el (P := fun p σ' => KE c ω s σ' p Q → KE c ω s σ p₀ Q) e id kk
theorem KE.vl {ω : Wd} {σ₁ σ' : St} {s : Shared} {p : PV} {o : Option PV} {Q : Value → Shared → Prop} {G : Prop} (e : Sh.vl o σ₁ = some (p, σ')) (kk : KE c ω s σ' p Q) (k : o = some p → KE c ω s σ₁ p Q → G) : G := vl_el (P := fun σ' => KE c ω s σ' p Q → G) e k kk
theorem se_none {k pos} : SE c (.Constant .none k pos) (ev Φ .none) := fun ω m σ s Q E p σ' F I e kk => wpAny_Constant_none ((KE.lit e kk).here I .none_in)
theorem se_bool {b k pos} : SE c (.Constant (.bool b) k pos) (ev Φ (.bool b)) := fun ω m σ s Q E p σ' F I e kk => wpAny_Constant_bool ((KE.lit e kk).here I .bool_in)
theorem se_int {i k pos} : SE c (.Constant (.int i) k pos) (ev Φ (.int i)) := fun ω m σ s Q E p σ' F I e kk => wpAny_Constant_int ((KE.lit e kk).tk I .int_in _)
theorem se_str {x k pos} : SE c (.Constant (.str x) k pos) (ev Φ (.str x)) := fun ω m σ s Q E p σ' F I e kk => wpAny_Constant_str ((KE.lit e kk).tk I .str_in _)
theorem se_byt {l k pos} : SE c (.Constant (.bytes l) k pos) (ev Φ (.byt l)) := fun ω m σ s Q E p σ' F I e kk _ _ _ => (KE.lit e kk).tk I .byt_in _
theorem se_v {i : Nat} {x : Str} {pos : Pos} (hv : c.Γ.vis i x = true) (hk : c.Γ.names.lookup x = some .local ∨ c.Γ.names.lookup x = some .cell ∨ c.Γ.names.lookup x = some .free)
    (hx : (x == ("__classdict__" : Str)) = false) (hd : (x == ("__debug__" : Str)) = false) : SE c (.Name x pos) (ev Φ (.v i)) :=
  fun ω m σ s Q E p σ' F I e kk => KE.vl e kk fun e kk => bd_el e fun o e1 e => wpAny_Name (load_ok F hv hk (e1.trans (congrArg some e)) hx fun v r => kk.here I r) hd
section
variable {ω : Wd} {m : Fm} {σ σ₁ σ₂ : St} {s : Shared} {E : Value → Shared → Prop} {l r : Expr} {f g : EvE} {p₁ p₂ : PV}
/-- two, one behind another -/
theorem run2 (ha : SE c l f) (hb : SE c r g) (F : FR c ω s.heap m) (I : Inv c.B ω σ s) (e₁ : f m σ = some (p₁, σ₁)) (e₂ : g m σ₁ = some (p₂, σ₂)) {Q : Value → Value → Shared → Prop}
    (k : ∀ v w ω' s', Gw ω [] s.heap ω' s'.heap → Inv c.B ω' σ₂ s' → VR c.B.C ω' s'.heap p₁ v → VR c.B.C ω' s'.heap p₂ w → Q v w s') :
    wpAny (model c.B.prog c.B.w) c.A (eval l c.env) (fun v s' => wpAny (model c.B.prog c.B.w) c.A (eval r c.env) (fun w s'' => Q v w s'') E s') E s :=
  ha ω m σ s _ E _ _ F I e₁ fun v ω₁ s₁ G₁ I₁ x₁ => hb ω₁ m σ₁ s₁ _ E _ _ (F.gw G₁ I₁.apart) I₁ e₂ fun w ω₂ s₂ G₂ I₂ x₂ => k v w ω₂ s₂ (G₁.trans G₂) I₂ (x₁.gw G₂) x₂
end
section
variable {a b t : X} {l r te : Expr} {pos : Pos}
theorem se_bin {op : Operator} (ha : SE c l (ev Φ a)) (hb : SE c r (ev Φ b)) : SE c (.BinOp l op r pos) (ev Φ (.bin op a b)) :=
  fun ω m σ s Q E p σ' F I e kk => sq_el e fun p₁ σ₁ e₁ e => sq_el e fun p₂ σ₂ e₂ e => KE.vl e kk fun e kk =>
    wpAny_BinOp (run2 ha hb F I e₁ e₂ fun v w ω' s' G I x y => bin_ok I x y e ((kk.gw G).kk I))
theorem se_neg (ha : SE c l (ev Φ a)) : SE c (.UnaryOp .USub l pos) (ev Φ (.neg a)) :=
  fun ω m σ s Q E p σ' F I e kk => sq_el e fun p₁ σ₁ e₁ e => bd_el e fun i e₂ e =>
    wpAny_UnaryOp (ha ω m σ s _ E _ _ F I e₁ fun v ω₁ s₁ G₁ I₁ x₁ => x₁.int_vr e₂ fun t => PyProof.Rows.neg_int (((KE.lit e kk).gw G₁).tk I₁ .int_in _))
theorem se_no (ha : SE c l (ev Φ a)) : SE c (.UnaryOp .Not l pos) (ev Φ (.no a)) :=
  fun ω m σ s Q E p σ' F I e kk => sq_el e fun p₁ σ₁ e₁ e => bd_el e fun b e₂ e =>
    wpAny_UnaryOp (ha ω m σ s _ E _ _ F I e₁ fun v ω₁ s₁ G₁ I₁ x₁ => not_value (truthy_ok I₁ x₁ e₂ fun tk => ((KE.lit e kk).gw G₁).tk I₁ .bool_in _))
/-- a test of a truth value -/
theorem tb {b b' : Bool} {σ : St} (e : truthyV σ (.bool b) = some b') : b = b' := so e
theorem st_no (ha : STx c Φ l a) : STx c Φ (.UnaryOp .Not l pos) (.no a) :=
  .of fun ω m σ s Q E p b σ' F I e1 e2 k => sq_el e1 fun p₁ σ₁ e₁ e => bd_el e fun b' e₂ e => wpAny_isTrue_Not (ha.run F I e₁ e₂ fun ω' s' G I' => by
    refine pr_el (P := fun p σ' => truthyV σ' p = some b → (∀ ω' s', Gw ω [] s.heap ω' s'.heap → Inv c.B ω' σ' s' → Q b s') → _) e (fun e2 k => ?_) e2 k
    rw [tb e2]
    exact k ω' s' G I')
theorem se_cmp {op : CmpOp} {lv : Nat} (R : Rm lv c.A) (ha : SE c l (ev Φ a)) (hb : SE c r (ev Φ b)) (hm : behindInMarks op r = false) : SE c (.Compare l [op] [r] pos) (ev Φ (.cmp op a b)) :=
  fun ω m σ s Q E p σ' F I e kk => sq_el e fun p₁ σ₁ e₁ e => sq_el e fun p₂ σ₂ e₂ e => bd_el e fun t e₃ e =>
    wpAny_Compare1 (run2 ha hb F I e₁ e₂ fun v w ω' s' G I x y => cmp_ok R.u64 I x y e₃ (((KE.lit e kk).gw G).here I .bool_in)) hm
theorem st_cmp {op : CmpOp} {lv : Nat} (R : Rm lv c.A) (ha : SE c l (ev Φ a)) (hb : SE c r (ev Φ b)) (hm : behindInMarks op r = false) : STx c Φ (.Compare l [op] [r] pos) (.cmp op a b) :=
  .of fun ω m σ s Q E p bb σ' F I e1 e2 k => sq_el e1 fun p₁ σ₁ e₁ e => sq_el e fun p₂ σ₂ e₂ e => bd_el e fun t e₃ e =>
    pr_el (P := fun p σ' => truthyV σ' p = some bb → (∀ ω' s', Gw ω [] s.heap ω' s'.heap → Inv c.B ω' σ' s' → Q bb s') → _) e (fun e2 k =>
      wpAny_isTrue_Compare1 (run2 ha hb F I e₁ e₂ fun v w ω' s' G I x y => cmp_ok R.u64 I x y e₃ (wpAny_truthy_bool (tb e2 ▸ k ω' s' G I))) hm) e2 k
theorem se_ite (ht : STx c Φ te t) (ha : SE c l (ev Φ a)) (hb : SE c r (ev Φ b)) : SE c (.IfExp te l r pos) (ev Φ (.ite t a b)) :=
  fun ω m σ s Q E p σ' F I e kk => sq_el e fun p₁ σ₁ e₁ e => bd_el e fun t e₂ e => wpAny_IfExp (ht.run F I e₁ e₂ fun ω₁ s₁ G₁ I₁ => by
    cases t with
    | true => rw [if_pos rfl]; exact ha ω₁ m σ₁ s₁ Q E p σ' (F.gw G₁ I₁.apart) I₁ e (KE.gw kk G₁)
    | false => rw [if_neg Bool.false_ne_true]; exact hb ω₁ m σ₁ s₁ Q E p σ' (F.gw G₁ I₁.apart) I₁ e (KE.gw kk G₁))
end
/- several, one behind another -/
noncomputable def notStar (e : Expr) : Prop := ∀ t p, e ≠ .Starred t p
theorem starEach_cons {e : Expr} {es : List Expr} {env : Env} (hs : notStar e) : starEach (e :: es) env = (false, eval e env) :: starEach es env := by
  cases e <;> first | rfl | exact absurd rfl (hs _ _)
theorem ses_nil : SEs c [] (evL Φ .nil) := fun pos ω m σ s Q E p σ' F I e kk => spliced_nil (pr_el (P := fun p σ' => (∀ v ω' s', Gw ω [] s.heap ω' s'.heap → Inv c.B ω' σ' s' → VRs c.B.C ω' s'.heap p v → Q v s') → Q [] s) e (fun kk => kk _ ω s (.refl _ _ _) I .nil) kk)
theorem ses_cons {x : X} {r : XL} {e : Expr} {es : List Expr} (hx : SE c e (ev Φ x)) (hr : SEs c es (evL Φ r)) (hs : notStar e) : SEs c (e :: es) (evL Φ (.cons x r)) := by
  intro pos ω m σ s Q E p σ' F I he kk
  rw [starEach_cons hs]
  exact sq_el he fun p₁ σ₁ e₁ he => sq_el he fun ps σ₂ e₂ he => spliced_cons (hx ω m σ s _ E _ _ F I e₁ fun v ω₁ s₁ G₁ I₁ x₁ => hr pos ω₁ m σ₁ s₁ _ E _ _ (F.gw G₁ I₁.apart) I₁ e₂ fun vs ω₂ s₂ G₂ I₂ x₂ =>
    pr_el (P := fun p σ' => (∀ v ω' s', Gw ω [] s.heap ω' s'.heap → Inv c.B ω' σ' s' → VRs c.B.C ω' s'.heap p v → Q v s') → Q (v :: vs) s₂) he (fun kk => kk _ ω₂ s₂ (G₁.trans G₂) I₂ (.cons_in (x₁.gw G₂) x₂)) kk)
theorem gw_push {ω : Wd} {h h' : Heap} {a : Addr} (hn : h.get? a = none) (k : ∀ b o, h.get? b = some o → h'.get? b = some o) : Gw ω [] h ⟨ω.mu ++ [a], ω.ex⟩ h' :=
  ⟨⟨[a], rfl, fun b hb => by rw [List.mem_singleton.mp hb]; exact hn⟩, rfl, .of_keep k, fun b o e => ⟨o, k b o e⟩⟩
theorem Inv.at_new {B : Base} {ω : Wd} {σ : St} {s : Shared} (I : Inv B ω σ s) {a : Addr} : (ω.mu ++ [a])[σ.length]? = some a := by
  rw [← I.len, List.getElem?_append_right (Nat.le_refl _), Nat.sub_self]; rfl
theorem Carry.push {ω : Wd} {h h' : Heap} {a : Addr} (hn : h.get? a = none) (k : ∀ b o, h.get? b = some o → h'.get? b = some o) : Carry ω h ⟨ω.mu ++ [a], ω.ex⟩ h' :=
  .of_gw (gw_push hn k) fun _ q => nomatch q
section
variable {xs : XL} {es : List Expr} {pos : Pos}
theorem vs_line {C : Addr} {ω : Wd} {h : Heap} {ps : List PV} {vs : List Value} (x : VRs C ω h ps vs) (hl : decide (ps.length ≤ LIM) = true) : vs.length ≤ sizeLine := by rw [x.length]; exact lim_line hl
theorem se_tup {k : Nat} (h : SEs c es (evL Φ xs)) : SE c (.Tuple es k pos) (ev Φ (.tup xs)) :=
  fun ω m σ s Q E p σ' F I e kk => sq_el e fun ps σ₁ e₁ e => gd_el e fun hl e => wpAny_Tuple (h pos ω m σ s _ E _ _ F I e₁ fun vs ω₁ s₁ G₁ I₁ x₁ => ⟨vs_line x₁ hl,
    ((KE.lit e kk).gw G₁) _ ω₁ { s₁ with heap := s₁.heap.push { cls := .type "tuple", data := .seq vs.toArray } } (.of_keep (keep_push _ _)) (I₁.keep (tk := s₁.toks) (keep_push _ _)) (.tup_in (fz_new I₁ (seq_frz rfl) (size_none _) (new_get _ _ rfl)) rfl rfl (x₁.carry (.of_keep (keep_push _ _))))⟩)
theorem se_list (h : SEs c es (evL Φ xs)) : SE c (.List es pos) (ev Φ (.list xs)) :=
  fun ω m σ s Q E p σ' F I e kk => sq_el e fun ps σ₁ e₁ e => gd_el e fun hl e => wpAny_List (h pos ω m σ s _ E _ _ F I e₁ fun vs ω₁ s₁ G₁ I₁ x₁ => ⟨vs_line x₁ hl,
    KK.lst (vs := vs.toArray) I₁ (((KE.lit e kk).gw G₁).kk I₁) rfl x₁⟩)
theorem se_mlist (h : SEs c es (evL Φ xs)) : SE c (.List es pos) (ev Φ (.mlist xs)) :=
  fun ω m σ s Q E p σ' F I e kk => sq_el e fun ps σ₁ e₁ e => gd_el e fun hl e => wpAny_List (h pos ω m σ s _ E _ _ F I e₁ fun vs ω₁ s₁ G₁ I₁ x₁ => ⟨vs_line x₁ hl,
    have hk := keep_push s₁.heap { cls := .type "list", data := .seq vs.toArray }
    have hn := size_none s₁.heap
    ((KE.lit e kk).gw G₁) _ ⟨ω₁.mu ++ [s₁.heap.objs.size], ω₁.ex⟩ { s₁ with heap := s₁.heap.push { cls := .type "list", data := .seq vs.toArray } } (gw_push hn hk) (I₁.push (tk := s₁.toks) hn hk ⟨_, _, _, new_get _ _ rfl, lc_of, rfl, x₁.carry (.push hn hk)⟩) (.loc_in I₁.at_new)⟩)
end
theorem se_idx {a i : X} {l r : Expr} {pos : Pos} (ha : SE c l (ev Φ a)) (hb : SE c r (ev Φ i)) (hs : ∀ o i, ∃ ops, subscripted r false o i = operate ops (getItem o i)) : SE c (.Subscript l r pos) (ev Φ (.idx a i)) :=
  fun ω m σ s Q E p σ' F I e kk => sq_el e fun p₁ σ₁ e₁ e => sq_el e fun p₂ σ₂ e₂ e => KE.vl e kk fun e kk =>
    Subscript_ (run2 ha hb F I e₁ e₂ fun v w ω' s' G I x y =>
      let ⟨hg, T, id, hT, hl⟩ := idx_ok (A := c.A) (E := E) I x y e (Q := Q) fun v' tk x => (kk.gw G).tk I x tk
      (hs v w).elim fun ops ho => tail_any hT hl hg ho)
end
end Sh
namespace Sh
open PySem PySem.Calls PyProof.Rows PySem.W PySem.Spec
section
variable {c : Cx} {Φ : Nat → Option Spec}
structure A1 (c : Cx) (Φ : Nat → Option Spec) (x : X) (e : Expr) : Prop where
  se : SE c e (ev Φ x)
  st : STx c Φ e x
  ns : notStar e
noncomputable def A2 (c : Cx) (Φ : Nat → Option Spec) : XL → List Expr → Prop
  | .nil, [] => True
  | .cons x r, e :: es => A1 c Φ x e ∧ A2 c Φ r es
  | _, _ => False
theorem A2.ses : ∀ {xs : XL} {es : List Expr}, A2 c Φ xs es → SEs c es (evL Φ xs)
  | .nil, [], _ => ses_nil
  | .cons _ _, _ :: _, h => ses_cons h.1.se (A2.ses h.2) h.1.ns
  | .nil, _ :: _, h => h.elim
  | .cons _ _, [], h => h.elim
theorem A2.plain : ∀ {xs : XL} {es : List Expr}, A2 c Φ xs es → (starEach es c.env).all (fun x => !x.1) = true ∧ (starEach es c.env).any (·.1) = false
  | .nil, [], _ => ⟨rfl, rfl⟩
  | .cons x r, e :: es, h => by rw [starEach_cons h.1.ns]; exact A2.plain h.2
  | .nil, _ :: _, h => h.elim
  | .cons _ _, [], h => h.elim
theorem backTo_all (pos : Pos) (l : List (Bool × Sem Value)) : (backTo pos l).all (fun x => !x.1) = l.all (fun x => !x.1) ∧ (backTo pos l).any (·.1) = l.any (·.1) := by
  unfold backTo
  constructor
  · rw [List.all_map]; rfl
  · rw [List.any_map]; rfl
theorem A2.bo {op : BoolOp} {pos : Pos} : ∀ {xs : XL} {es : List Expr}, A2 c Φ xs es → ∀ ω m σ s Q E p σ', FR c ω s.heap m → Inv c.B ω σ s → evB Φ op xs m σ = some (p, σ') → KE c ω s σ' p Q →
    wpAny (model c.B.prog c.B.w) c.A (boolOp pos op (evalEach es c.env)) Q E s
  | .nil, [], _ => fun ω m σ s Q E p σ' F I e => nn e
  | .cons x .nil, [e], h => fun ω m σ s Q E p σ' F I he k => sq_el he fun p₁ σ₁ e₁ he => h.1.se ω m σ s Q E p₁ σ₁ F I e₁ (KE.lit he k)
  | .cons x .nil, _ :: _ :: _, h => h.2.elim
  | .cons x (.cons y r), [_], h => h.2.elim
  | .cons x (.cons y r), e :: e' :: es, h => fun ω m σ s Q E p σ' F I he k => sq_el he fun p₁ σ₁ h₁ he => bd_el he fun b h₂ he =>
    show wpAny _ _ (do
      let v ← eval e c.env
      standAt pos
      let t ← holding [v] (truthy v)
      match op, t with
      | .And, false | .Or, true => pure v
      | _, _ => boolOp pos op (evalEach (e' :: es) c.env)) Q E s from
    wpAny_bind (h.1.se ω m σ s _ E p₁ σ₁ F I h₁ fun v ω₁ s₁ G₁ I₁ x₁ => wpAny_bind (wpAny_standAt (wpAny_bind (wpAny_holding (truthy_ok I₁ x₁ h₂ fun tk => by
      have kr := A2.bo (op := op) (pos := pos) (xs := .cons y r) h.2 ω₁ m σ₁ { s₁ with toks := tk } Q E p σ' (F.gw G₁ I₁.apart) I₁.toks
      cases op <;> cases b
      · exact wpAny_pure ((KE.gw (KE.lit he k) G₁).tk I₁ x₁ tk)
      · exact kr he (KE.gw k G₁)
      · exact kr he (KE.gw k G₁)
      · exact wpAny_pure ((KE.gw (KE.lit he k) G₁).tk I₁ x₁ tk))))))
  | .nil, _ :: _, h => h.elim
  | .cons _ _, [], h => h.elim
abbrev KT (c : Cx) (ω : Wd) (s : Shared) (σ' : St) (b : Bool) (Q : Bool → Shared → Prop) : Prop := ∀ ω' s', Gw ω [] s.heap ω' s'.heap → Inv c.B ω' σ' s' → Q b s'
theorem KT.gw {ω ω₁ : Wd} {s s₁ : Shared} {σ' : St} {b : Bool} {Q : Bool → Shared → Prop} (k : KT c ω s σ' b Q) (G : Gw ω [] s.heap ω₁ s₁.heap) : KT c ω₁ s₁ σ' b Q := fun ω' s' G' I' => k ω' s' (G.trans G') I'
theorem allTrue_cons {op : BoolOp} {e : Expr} {es : List Expr} {s : Shared} {Q : Bool → Shared → Prop} {E : Value → Shared → Prop}
    (h : wpAny (model c.B.prog c.B.w) c.A (isTrue e c.env (eval e c.env)) (fun t s' => cond ((op == .And) == t) (wpAny (model c.B.prog c.B.w) c.A (PySem.allTrue op es c.env) Q E s') (Q t s')) E s) : wpAny (model c.B.prog c.B.w) c.A (PySem.allTrue op (e :: es) c.env) Q E s := by
  cases op with
  | And => exact wpAny_allTrue_And_cons (wpAny_mono h (fun t s' h' => by cases t <;> exact h') fun _ _ e => e)
  | Or => exact wpAny_allTrue_Or_cons (wpAny_mono h (fun t s' h' => by cases t <;> exact h') fun _ _ e => e)
theorem A2.allTrue {op : BoolOp} : ∀ {xs : XL} {es : List Expr}, A2 c Φ xs es → ∀ ω m σ s Q E p b σ', FR c ω s.heap m → Inv c.B ω σ s → evB Φ op xs m σ = some (p, σ') → truthyV σ' p = some b →
    KT c ω s σ' b Q → wpAny (model c.B.prog c.B.w) c.A (PySem.allTrue op es c.env) Q E s
  | .nil, _, _ => fun ω m σ s Q E p b σ' F I e => nn e
  | .cons x .nil, [e], h => fun ω m σ s Q E p b σ' F I he hb k => sq_el he fun p₁ σ₁ e₁ he => pr_el (P := fun p σ' => truthyV σ' p = some b → KT c ω s σ' b Q → _) he (fun hb k =>
      allTrue_cons (h.1.st.run F I e₁ hb fun ω' s' G I' => by
        cases op <;> cases b <;> first | exact k ω' s' G I' | exact wpAny_pure (k ω' s' G I'))) hb k
  | .cons x .nil, _ :: _ :: _, h => h.2.elim
  | .cons x (.cons y r), [_], h => h.2.elim
  | .cons x (.cons y r), e :: e' :: es, h => fun ω m σ s Q E p b σ' F I he hb k => sq_el he fun p₁ σ₁ h₁ he => bd_el he fun b₁ h₂ he =>
      allTrue_cons (h.1.st.run F I h₁ h₂ fun ω' s' G I' => by
        cases q : (op == .And) == b₁ with
        | true => rw [q] at he; exact A2.allTrue (xs := .cons y r) h.2 ω' m σ₁ s' Q E p b σ' (F.gw G I'.apart) I' he hb (KT.gw k G)
        | false =>
          rw [q] at he
          have hb' : b₁ = b := so (h₂.symm.trans (pr_el (P := fun p σ' => truthyV σ' p = some b → truthyV σ₁ p₁ = some b) he id hb))
          exact hb' ▸ pr_el (P := fun p σ' => KT c ω s σ' b Q → Q b s') he (fun k => k ω' s' G I') k)
  | .cons _ _, [], h => h.elim
noncomputable def ifsStep (env : Env) (x : Expr) (r : Bool) : Sem (ForInStep Bool) := if r = true then do let ok ← isTrue x env (eval x env); pure (ForInStep.yield ok) else pure (ForInStep.yield r)
theorem ifs_no {s : Shared} {Q : Bool → Shared → Prop} {E : Value → Shared → Prop} (hq : Q false s) : ∀ es : List Expr, wpAny (model c.B.prog c.B.w) c.A (forIn es false (ifsStep c.env)) Q E s
  | [] => by rw [List.forIn_nil]; exact wpAny_pure hq
  | y :: ys => by
    rw [List.forIn_cons]
    exact wpAny_bind (wpAny_pure (ifs_no hq ys))
theorem A2.ifs : ∀ {xs : XL} {es : List Expr}, A2 c Φ xs es → ∀ ω m σ s (Q : Bool → Shared → Prop) E b σ', FR c ω s.heap m → Inv c.B ω σ s → evT Φ xs m σ = some (b, σ') →
    KT c ω s σ' b Q → wpAny (model c.B.prog c.B.w) c.A (forIn es true (ifsStep c.env)) Q E s
  | .nil, [], _ => fun ω m σ s Q E b σ' F I e k => by
    rw [List.forIn_nil]
    exact wpAny_pure (pr_el (P := fun b σ' => KT c ω s σ' b Q → Q true s) e (fun k => k ω s (.refl _ _ _) I) k)
  | .cons x r, e :: es, h => fun ω m σ s Q E b σ' F I he k => sq_el he fun p₁ σ₁ h₁ he => bd_el he fun b₁ h₂ he => by
    rw [List.forIn_cons]
    refine wpAny_bind (wpAny_bind (h.1.st.run F I h₁ h₂ fun ω' s' G I' => wpAny_pure ?_))
    cases b₁ with
    | true => exact A2.ifs h.2 ω' m σ₁ s' Q E b σ' (F.gw G I'.apart) I' he (KT.gw k G)
    | false => exact ifs_no (pr_el (P := fun b σ' => KT c ω s σ' b Q → Q false s') he (fun k => k ω' s' G I') k) es
  | .nil, _ :: _, h => h.elim
  | .cons _ _, [], h => h.elim
section
variable {xs : XL} {es : List Expr} {pos : Pos}
theorem se_bo {op : BoolOp} (h : A2 c Φ xs es) : SE c (.BoolOp op es pos) (ev Φ (.bo op xs)) := fun ω m σ s Q E p σ' F I e kk => by
  rw [arm_eval_BoolOp]
  exact h.bo ω m σ s Q E p σ' F I e kk
theorem st_bo {op : BoolOp} (h : A2 c Φ xs es) : STx c Φ (.BoolOp op es pos) (.bo op xs) :=
  .of fun ω m σ s Q E p b σ' F I e1 e2 k => wpAny_isTrue_BoolOp (h.allTrue ω m σ s Q E p b σ' F I e1 e2 k)
abbrev KL (c : Cx) (ω : Wd) (s : Shared) (σ' : St) (p : List PV) (Q : List Value → Shared → Prop) : Prop := ∀ v ω' s', Gw ω [] s.heap ω' s'.heap → Inv c.B ω' σ' s' → VRs c.B.C ω' s'.heap p v → Q v s'
theorem A2.evalArgs {f : Value} {ω : Wd} {m : Fm} {σ σ' : St} {s : Shared} {Q : Args → Shared → Prop} {E : Value → Shared → Prop} {p : List PV} (h : A2 c Φ xs es) (F : FR c ω s.heap m) (I : Inv c.B ω σ s) (e : evL Φ xs m σ = some (p, σ'))
    (k : KL c ω s σ' p fun v => Q ⟨v, []⟩) : wpAny (model c.B.prog c.B.w) c.A (PySem.evalArgs f true (backTo pos (starEach es c.env)) []) Q E s :=
  match xs, es, h, e with
  | .nil, [], _, e => PySem.evalArgs_none (pr_el (P := fun p σ' => KL c ω s σ' p (fun v => Q ⟨v, []⟩) → Q ⟨[], []⟩ s) e (fun k => k [] ω s (.refl _ _ _) I .nil) k)
  | .cons x r, e' :: es, h, e => by
    have := h.ses pos ω m σ s (fun vs s' => Q ⟨vs, []⟩ s') E p σ' F I e k
    rw [starEach_cons h.1.ns] at this ⊢
    exact evalArgs_plain this
/-- a call of a known function -/
theorem call_ok {lv : Nat} {T : Nat → Option Str} {f : Nat} {n : Str} {np : Pos} {ω : Wd} {m : Fm} {σ σ₁ σ' : St} {s : Shared} {Q E : Value → Shared → Prop} {ps : List PV} {sp : Spec} {out : Out} (R : Rm lv c.A) (K : Known c.B lv T Φ) (ht : T f = some n) (hn : okG c.Γ n = true) (h : A2 c Φ xs es)
    (F : FR c ω s.heap m) (I : Inv c.B ω σ s) (e₁ : evL Φ xs m σ = some (ps, σ₁)) (e₂ : Φ f = some sp) (e₃ : sp ps σ₁ = some (out, σ'))
    (k : ∀ (ω₁ : Wd) (s₁ : Shared) l, Gw ω [] s.heap ω₁ s₁.heap → FR c ω₁ s₁.heap m → Frs c.A ω₁ s₁.heap l → KO' c.B ω₁ s₁.heap σ' l out Q E) : wpAny (model c.B.prog c.B.w) c.A (eval (.Call (.Name n np) es [] pos) c.env) Q E s := by
  have ⟨v, hv, ⟨a, o, fd, ea, ho, hc, hd⟩, hf⟩ := K f n sp ht e₂
  rw [ea] at hv hf
  refine wpAny_Call_ofName (glob_ok F I hn hv ?_)
  refine callWith_function (o := o) (fd := fd) (h.evalArgs F I e₁ fun vs ω₁ s₁ G₁ I₁ x₁ => ⟨⟨I₁.base ho hc, hd⟩, ?_⟩)
  exact (F.gw G₁ I₁.apart).frs.elim fun l hl => hf c.A R ω₁ σ₁ s₁ Q E ps vs out σ' l hl I₁ x₁ e₃ (k ω₁ s₁ l G₁ (F.gw G₁ I₁.apart) hl)
theorem se_call {lv : Nat} {T : Nat → Option Str} {f : Nat} {n : Str} {np : Pos} (R : Rm lv c.A) (K : Known c.B lv T Φ) (ht : T f = some n) (hn : okG c.Γ n = true) (h : A2 c Φ xs es) :
    SE c (.Call (.Name n np) es [] pos) (ev Φ (.call f xs)) :=
  fun ω m σ s Q E p σ' F I e kk => sq_el e fun ps σ₁ e₁ e => bd_el e fun sp hsp e => sq_el e fun o σ₂ e₂ e => KE.vl e kk fun e kk => call_ok R K ht hn h F I e₁ hsp e₂ fun ω₁ s₁ l G _ _ =>
    match o, e with
    | .val q, e => (so e).symm ▸ kk.gw G
    | .exc _, e => nn e
noncomputable def biName (f : BI) : Str := match f with
  | .len => "len" | .range => "range" | .sorted => "sorted" | .max => "max" | .bytes => "bytes"
theorem bi_boot (f : BI) : bootBuiltins (biName f) = some (biF f) := match f with
  | .len => Boot.«len»
  | .range => Boot.«range»
  | .sorted => Boot.«sorted»
  | .max => Boot.«max»
  | .bytes => Boot.«bytes»
theorem bi_nb (f : BI) : biName f ∈ nbNames ∧ biName f ≠ "__name__" := by cases f <;> decide +kernel
theorem se_bi {f : BI} {n : Str} {np : Pos} {lv : Nat} (R : Rm lv c.A) (hN : NoGlob c.B) (hf : n = biName f) (hn : okG c.Γ n = true) (h : A2 c Φ xs es) : SE c (.Call (.Name n np) es [] pos) (ev Φ (.bi f xs)) :=
  fun ω m σ s Q E p σ' F I e kk => sq_el e fun ps σ₁ e₁ e => KE.vl e kk fun e₂ kk => by
    subst hf
    have hpl : (backTo pos (starEach es c.env)).any (·.1) = false := (backTo_all _ _).2.trans h.plain.2
    refine wpAny_Call_ofName (bui_ok F I hn (hN _ (bi_nb f).1) (bi_nb f).2 (bi_boot f) ?_)
    have fin : ∀ (vs : List Value) (ω₁ : Wd) (s₁ : Shared), Gw ω [] s.heap ω₁ s₁.heap → Inv c.B ω₁ σ₁ s₁ → VRs c.B.C ω₁ s₁.heap ps vs → wpAny (model c.B.prog c.B.w) c.A (call (biF f) vs) Q E s₁ := fun vs ω₁ s₁ G₁ I₁ x₁ => bi_ok R.hh I₁ x₁ e₂ ((kk.gw G₁).kk I₁)
    cases f <;> first | exact callWith_builtin hpl (h.evalArgs F I e₁ fin) | exact callWith_excType hpl (h.evalArgs F I e₁ fin)
noncomputable def plainBase (e : Expr) : Bool := match e with
  | .Call .. => false
  | _ => true
theorem base_plain {o : Expr} {name : Str} (h : plainBase o = true) (env : Env) (whole : Sem Value) : attributeBase o name env whole = whole := by
  cases o <;> first | rfl | exact absurd h Bool.false_ne_true
theorem se_me {k : MT} {a : X} {o : Expr} {name : Str} {apos : Pos} (ha : SE c o (ev Φ a)) (hn : name = meName k) (hb : plainBase o = true) (hl : (apos.endLine == pos.line) = true) (hle : es.length < 29) (h : A2 c Φ xs es) :
    SE c (.Call (.Attribute o name apos) es [] pos) (ev Φ (.me k a xs)) :=
  fun ω m σ s Q E p σ' F I e kk => sq_el e fun p₁ σ₁ e₁ e => bd_el e fun u hok e => sq_el e fun ps σ₂ e₂ e => by
    subst hn
    have hpl : (backTo pos (starEach es c.env)).any (·.1) = false := (backTo_all _ _).2.trans h.plain.2
    refine wpAny_Call_method_lateS (base_plain hb _ _) ?_ hl (ha ω m σ s _ E _ _ F I e₁ fun v ω₁ s₁ G₁ I₁ x₁ => (me_head I₁ x₁ hok).elim fun T q => ?_)
    · rw [show (backTo pos (starEach es c.env)).all (fun x => !x.1) = true from (backTo_all _ _).1.trans h.plain.1]
      simp [backToKw, keywordEach]
      omega
    exact ⟨T, meId k p₁, q.1, q.2.1, q.2.2.1, q.2.2.2.1, q.2.2.2.2, callWith_builtin hpl (h.evalArgs (F.gw G₁ I₁.apart) I₁ e₂ fun vs ω₂ s₂ G₂ I₂ x₂ => me_call I₂ (x₁.gw G₂) x₂ e (KE.gw kk (G₁.trans G₂)).km)⟩
end
noncomputable def SEo (c : Cx) (Φ : Nat → Option Spec) (e : Option Expr) (x : XO) : Prop := match e, x with
  | none, .no => True
  | some e, .yes x => SE c e (ev Φ x)
  | _, _ => False
abbrev KO2 (c : Cx) (ω : Wd) (s : Shared) (σ' : St) (p : Option PV) (Q : Value → Shared → Prop) : Prop := ∀ v ω' s', Gw ω [] s.heap ω' s'.heap → Inv c.B ω' σ' s' → OR' c.B.C ω' s'.heap p v → Q v s'
theorem SEo.run {eo : Option Expr} {xo : XO} {ω : Wd} {m : Fm} {σ σ' : St} {s : Shared} {Q E : Value → Shared → Prop} {p : Option PV} (h : SEo c Φ eo xo) (F : FR c ω s.heap m) (I : Inv c.B ω σ s) (e : evO Φ xo m σ = some (p, σ'))
    (k : KO2 c ω s σ' p Q) : wpAny (model c.B.prog c.B.w) c.A (evalPart eo c.env) Q E s :=
  match eo, xo, h, e with
  | none, .no, _, e => wpAny_pure (pr_el (P := fun p σ' => KO2 c ω s σ' p Q → Q .none s) e (fun k => k _ ω s (.refl _ _ _) I rfl) k)
  | some ee, .yes x, h, e => sq_el (show sq (ev Φ x m σ) (fun p σ => some (some p, σ)) = some (p, σ') from e) fun p' σ₁ e₁ e => pr_el (P := fun p σ' => KO2 c ω s σ' p Q → _) e (fun k => (show SE c ee (ev Φ x) from h) ω m σ s Q E p' σ₁ F I e₁ k) k
theorem OR'.gw {C : Addr} {ω ω' : Wd} {h h' : Heap} {p : Option PV} {v : Value} (x : OR' C ω h p v) (g : Gw ω [] h ω' h') : OR' C ω' h' p v :=
  match p, x with
  | none, x => x
  | some p, x => VR.gw x g
theorem se_slc {a : X} {lo hi : XO} {l : Expr} {le he : Option Expr} {p pos : Pos} (ha : SE c l (ev Φ a)) (h1 : SEo c Φ le lo) (h2 : SEo c Φ he hi) : SE c (.Subscript l (.Slice le he none p) pos) (ev Φ (.slc a lo hi)) :=
  fun ω m σ s Q E p σ' F I e kk => sq_el e fun p₁ σ₁ e₁ e => sq_el e fun p₂ σ₂ e₂ e => sq_el e fun p₃ σ₃ e₃ e => KE.vl e kk fun e kk =>
    Subscript_ (ha ω m σ s _ E _ _ F I e₁ fun v ω₁ s₁ G₁ I₁ x₁ => wpAny_Slice (h1.run (F.gw G₁ I₁.apart) I₁ e₂ fun v2 ω₂ s₂ G₂ I₂ x₂ =>
      h2.run (F.gw (G₁.trans G₂) I₂.apart) I₂ e₃ fun v3 ω₃ s₃ G₃ I₃ x₃ => wpAny_pure (
        have hk := keep_push s₃.heap { cls := .type "slice", data := .fields #[v2, v3, .none] }
        have gk : Gw ω₃ [] s₃.heap ω₃ (s₃.heap.push { cls := .type "slice", data := .fields #[v2, v3, .none] }) := .of_keep hk
        have I5 : Inv c.B ω₃ σ₃ { s₃ with heap := s₃.heap.push { cls := .type "slice", data := .fields #[v2, v3, .none] } } := I₃.keep (tk := s₃.toks) hk
        let ⟨hg, T, id, hT, hl⟩ := slc_ok (A := c.A) (E := E) (Q := Q) I5 ((x₁.gw (G₂.trans G₃)).gw gk) ((x₂.gw G₃).gw gk) (x₃.gw gk) (Heap.IsSliceOf.new _ _ _ _) e (KE.kk (KE.gw kk (((G₁.trans G₂).trans G₃).trans gk)) I5)
        tail_any hT hl hg rfl)))
end
end Sh
namespace Sh
open PySem PySem.Calls PyProof.Rows PySem.W PySem.Spec
/-- an iterator at its k-th item -/
inductive Itr (C : Addr) (ω : Wd) (h : Heap) (it : Addr) (k : Nat) : Option Nat → List PV → Prop
  | lst {l : List PV} {a : Addr} {o : Obj} {vs : Array Value} {n : Nat} (f : Fz ω h a o) (c : o.cls = .type "list") (d : o.data = .seq vs n) (r : VRs C ω h l vs.toList) (i : h.IsListIter it a k) : Itr C ω h it k none l
  | loc {n : Nat} {l : List PV} {a : Addr} (e : ω.mu[n]? = some a) (i : h.IsListIter it a k) : Itr C ω h it k (some n) l
  | rng {a b c : Int} (hk : k ≤ (rngL a b c).length) (i : IsRangeIter h it (a + k * c) (Builtin.Range.rangeSize a b c - k) c) : Itr C ω h it k none (rngL a b c)
  | str {x : Str} {t : Tok} (i : h.IsStrIter it "str_ascii_iterator" x t k) : Itr C ω h it k none (strL x)
theorem rangeSize_nonneg (a b c : Int) : 0 ≤ Builtin.Range.rangeSize a b c := by
  unfold Builtin.Range.rangeSize
  split
  · split
    · have : 0 ≤ (b - a - 1) / c := Int.ediv_nonneg (by omega) (by omega)
      first | omega | (simp only []; omega) | skip
    · exact Int.le_refl _
  · split
    · have : 0 ≤ (a - b - 1) / (-c) := Int.ediv_nonneg (by omega) (by omega)
      first | omega | skip
    · exact Int.le_refl _
theorem rng_len (a b c : Int) : ((rngL a b c).length : Int) = Builtin.Range.rangeSize a b c := by
  have := rangeSize_nonneg a b c
  unfold rngL; rw [List.length_map, List.length_range, Int.toNat_of_nonneg this]
noncomputable def itT : List String := ["list_iterator", "range_iterator", "str_ascii_iterator"]
theorem Itr.obj {C : Addr} {ω : Wd} {h : Heap} {n : Option Nat} {l : List PV} {it : Addr} {k : Nat} {G : Prop} (x : Itr C ω h it k n l) (g : ∀ o vs T, h.get? it = some o → o.data = .fields vs → o.cls = .type T → T ∈ itT → G) : G :=
  match x with
  | .lst _ _ _ _ i => i.elim fun o q => g o _ _ q.1 q.2.2 q.2.1 (.head _)
  | .loc _ i => i.elim fun o q => g o _ _ q.1 q.2.2 q.2.1 (.head _)
  | .rng _ i => g _ _ _ i rfl rfl (.tail _ (.head _))
  | .str i => i.elim fun o q => g o _ _ q.1 q.2.2 q.2.1 (.tail _ (.tail _ (.head _)))
theorem Itr.carry {C : Addr} {ω ω' : Wd} {h h' : Heap} {n : Option Nat} {l : List PV} {it : Addr} {k : Nat} (x : Itr C ω h it k n l) (g : Carry ω h ω' h') (hk : ∀ o, h.get? it = some o → h'.get? it = some o) : Itr C ω' h' it k n l :=
  match x with
  | .lst f c d r i => .lst (g.fz _ _ f) c d (r.carry g) (i.elim fun o q => ⟨o, hk _ q.1, q.2⟩)
  | .loc e i => .loc (g.idx _ _ e) (i.elim fun o q => ⟨o, hk _ q.1, q.2⟩)
  | .rng q i => .rng q (hk _ i)
  | .str i => .str (i.elim fun o q => ⟨o, hk _ q.1, q.2⟩)
section
variable {B : Base} {A : Around} {E : Value → Shared → Prop} {ω : Wd} {σ : St} {s : Shared}
/-- the way on from a new iterator -/
noncomputable def KI (B : Base) (ω : Wd) (s : Shared) (n : Option Nat) (l : List PV) (Q : Value → Shared → Prop) : Prop :=
  ∀ it h', s.heap.get? it = none → (h'.get? it).isSome = true → (∀ b o, s.heap.get? b = some o → h'.get? b = some o) →
      (∀ (ω' : Wd) h'', ω'.mu = ω.mu → (∀ a ∈ ω'.ex, a ∈ ω.ex ∨ s.heap.get? a = none) → (∀ b o, h'.get? b = some o → h''.get? b = some o) → Itr B.C ω' h'' it 0 n l) → Q (.ref it) { s with heap := h' }
theorem KI.push {n : Option Nat} {l : List PV} {Q : Value → Shared → Prop} (k : KI B ω s n l Q) (o : Obj) (hf : o.isFreed = false) (h : ∀ (ω' : Wd) h'', ω'.mu = ω.mu → Carry ω s.heap ω' h'' → h''.get? s.heap.objs.size = some o → Itr B.C ω' h'' s.heap.objs.size 0 n l) :
    Q (.ref s.heap.objs.size) { s with heap := s.heap.push o } :=
  k _ _ (size_none _) (by rw [new_get _ _ hf]; rfl) (keep_push _ _) fun ω' h'' hm hx hk => h ω' h'' hm ((Carry.more hm hx).trans (.of_keep fun b o e => hk b o (keep_push _ _ b o e))) (hk _ _ (new_get _ _ hf))
theorem iter_ok {p : PV} {l : List PV} {n : Option Nat} {v : Value} {Q : Value → Shared → Prop} (I : Inv B ω σ s) (x : VR B.C ω s.heap p v) (e : iterV σ p = some (l, n)) (k : KI B ω s n l Q) : wpAny (model B.prog B.w) A (pyIter v) Q E s := by
  cases p <;> first | exact nn e | skip
  · exact gd_el e fun hs e => x.str_el fun t => pr_el (P := fun l n => KI B ω s n l Q → _) e (fun k => wpAny_pyIter_ascii hs (k.push _ rfl fun _ _ _ _ h => .str ⟨_, h, rfl, rfl⟩)) k
  · exact x.lst_el fun a o vs m f c d r => pr_el (P := fun l n => KI B ω s n l Q → _) e (fun k => wpAny_pyIter_list (isl_of f.2.2.1 c d) (k.push _ rfl fun _ _ _ g h => .lst (g.fz _ _ f) c d (r.carry g) ⟨_, h, rfl, rfl⟩)) k
  · exact gd_el e fun hs e => and_el hs fun hs _ => x.rng_el fun r t u w f => pr_el (P := fun l n => KI B ω s n l Q → _) e (fun k => wpAny_pyIter_range f.2.2.1 hs (k.push _ rfl fun _ _ _ _ h => .rng (Nat.zero_le _) (by
      rw [show ((0 : Nat) : Int) = 0 from rfl, Int.zero_mul, Int.add_zero, Int.sub_zero]; exact h))) k
  · exact bd_el e fun l' hl e => loc_vr I x hl fun a o vs m i ho c d r => pr_el (P := fun l n => KI B ω s n l Q → _) e (fun k => wpAny_pyIter_list (isl_of ho c.1 d) (k.push _ rfl fun _ _ hm _ h => .loc (by rw [hm]; exact i) ⟨_, h, rfl, rfl⟩)) k
theorem self_ok {l : List PV} {n : Option Nat} {it : Addr} {k : Nat} {Q : Value → Shared → Prop} (x : Itr B.C ω s.heap it k n l) (h : Q (.ref it) s) : wpAny (model B.prog B.w) A (pyIter (.ref it)) Q E s :=
  match x with
  | .lst _ _ _ _ i => wpAny_pyIter_listiter i h
  | .loc _ i => wpAny_pyIter_listiter i h
  | .rng _ i => wpAny_pyIter_rangeiter i h
  | .str i => wpAny_pyIter_striter_ascii i h
/-- the way on from the next item -/
noncomputable def KN (B : Base) (ω : Wd) (s : Shared) (it : Addr) (k : Nat) (n : Option Nat) (l : List PV) (p : PV) (Q : Option Value → Shared → Prop) : Prop :=
  ∀ v h' tk, Heap.ExtBut it s.heap h' → Itr B.C ω h' it (k + 1) n l → VR B.C ω h' p v → Q (some v) { s with heap := h', toks := tk }
theorem rng_get {a b c : Int} {k : Nat} {q : PV} (h : (rngL a b c)[k]? = some q) : q = .int (a + k * c) := by
  unfold rngL at h
  rw [List.getElem?_map] at h
  refine mp_el (P := fun q => q = .int (a + k * c)) h fun j hj => ?_
  have := (List.getElem?_eq_some_iff.mp hj).2
  rw [List.getElem_range] at this
  rw [this]
theorem str_get {x : Str} {k : Nat} {q : PV} {G : Prop} (h : (strL x)[k]? = some q) (g : ∀ c, x.cps[k]? = some c → q = .str ⟨#[c]⟩ → G) : G := by
  unfold strL at h
  rw [List.getElem?_map, Array.getElem?_toList] at h
  exact mp_el (P := fun q => (∀ c, x.cps[k]? = some c → q = .str ⟨#[c]⟩ → G) → G) h (fun c hc g => g c hc rfl) g
theorem next_item {l : List PV} {n : Option Nat} {it : Addr} {k : Nat} {q p : PV} {Q : Option Value → Shared → Prop} (I : Inv B ω σ s) (x : Itr B.C ω s.heap it k n l) (hit : it ∈ ω.ex) (hq : l[k]? = some q) (hr : rdV n σ k q = some p) (k1 : KN B ω s it k n l p Q) :
    wpAny (model B.prog B.w) A (pyNext (.ref it)) Q E s := by
  have gC : ∀ {h'}, Heap.SameBut it s.heap h' → Carry ω s.heap ω h' := fun he => .of_ex hit he.extBut
  cases x with
  | lst f c d r i => exact (r.get hq).elim fun w z => wpAny_pyNext_list_item i (isl_of f.2.2.1 c d) (Array.getElem?_toList ▸ z.1) fun h' hi' he => k1 w h' s.toks he.extBut (.lst ((gC he).fz _ _ f) c d (r.carry (gC he)) hi') (so hr ▸ z.2.carry (gC he))
  | loc e i => exact bd_el hr fun l' hl hr => I.lst_el e (locL_at hl) fun o vs m ho c d r => (r.get hr).elim fun w z => wpAny_pyNext_list_item i (isl_of ho c.1 d) (Array.getElem?_toList ▸ z.1) fun h' hi' he => k1 w h' s.toks he.extBut (.loc e hi') (z.2.carry (gC he))
  | rng hk i =>
    have hlt := (List.getElem?_eq_some_iff.mp hq).1
    have hp := (so hr).symm.trans (rng_get hq)
    refine wpAny_pyNext_range_item i (by rw [← rng_len]; omega) fun h' hi' he => k1 _ h' _ he.extBut (.rng hlt ?_) (hp ▸ .int_in)
    show IsRangeIter h' it (_ + ((k : Int) + 1) * _) (_ - ((k : Int) + 1)) _
    rw [Int.add_mul, Int.one_mul, ← Int.add_assoc, ← Int.sub_sub]
    exact hi'
  | str i => exact str_get hq fun c hc e => wpAny_pyNext_ascii_item i hc fun h' hi' he => k1 _ h' _ he.extBut (.str hi') (((so hr).symm.trans e) ▸ .str_in)
theorem next_end {l : List PV} {n : Option Nat} {it : Addr} {k : Nat} {Q : Option Value → Shared → Prop} (hh : A.handled = none) (I : Inv B ω σ s) (x : Itr B.C ω s.heap it k n l) (hq : l.length ≤ k) (hf : finV n σ k = true) (k2 : ∀ h', Heap.ExtBut it s.heap h' → Q none { s with heap := h' }) :
    wpAny (model B.prog B.w) A (pyNext (.ref it)) Q E s := by
  cases x with
  | lst f c d r i => exact wpAny_pyNext_list_end hh i (isl_of f.2.2.1 c d) (Array.getElem?_eq_none (by rw [r.size]; exact hq)) k2
  | loc e i =>
    rename_i n a
    cases hl : locL σ n with
    | none => exact absurd (show ((locL σ n).elim false fun l => l.length == k) = true from hf) (by rw [hl]; exact Bool.false_ne_true)
    | some l' =>
      have hk : (l'.length == k) = true := by have := (show ((locL σ n).elim false fun l => l.length == k) = true from hf); rw [hl] at this; exact this
      exact I.lst_el e (locL_at hl) fun o vs m ho c d r => wpAny_pyNext_list_end hh i (isl_of ho c.1 d) (Array.getElem?_eq_none (by rw [r.size]; exact Nat.le_of_eq (beq_iff_eq.mp hk))) k2
  | rng hk i => exact wpAny_pyNext_range_end hh i (by rw [← rng_len]; omega) k2
  | str i => exact wpAny_pyNext_ascii_end hh i (Array.getElem?_eq_none (by rw [← Array.length_toList, ← List.length_map (f := fun c => PV.str ⟨#[c]⟩)]; exact hq)) k2
end
/-- as Gw, some more addresses barred -/
structure Gx (ω : Wd) (own : List Addr) (h : Heap) (ω' : Wd) (h' : Heap) (X : List Addr) : Prop where
  ext : ∃ e, ω'.mu = ω.mu ++ e ∧ ∀ a ∈ e, h.get? a = none
  ex : ω'.ex = ω.ex ++ X
  kp : Kp ω.mu own h h'
  there : ∀ b o, h.get? b = some o → ∃ o', h'.get? b = some o'
  new : ∀ a ∈ X, h.get? a = none
namespace Gx
variable {ω ω₁ ω₂ : Wd} {own own' : List Addr} {h h₁ h₂ : Heap} {X : List Addr} {a : Addr}
theorem of_gw (g : Gw ω own h ω₁ h₁) (k : ∀ b o, h₁.get? b = some o → h₂.get? b = some o) (hx : ∀ a ∈ X, h₁.get? a = none) : Gx ω own h ⟨ω₁.mu, ω₁.ex ++ X⟩ h₂ X :=
  ⟨g.ext, by rw [g.ex], fun b o e ht h1 h2 => (g.kp b o e ht h1 h2).trans (fun o' e' _ => .same (k b o' e')) ht, fun b o e => let ⟨o', e'⟩ := g.there b o e; ⟨o', k b o' e'⟩,
    fun a ha => by
      cases q : h.get? a with
      | none => rfl
      | some o => obtain ⟨o', e'⟩ := g.there a o q; rw [hx a ha] at e'; cases e'⟩
theorem notin {b : Addr} {o : Obj} (g : Gx ω own h ω₁ h₁ X) (hb : b ∉ ω.mu) (ho : h.get? b = some o) : b ∉ ω₁.mu := by
  obtain ⟨e, q, he⟩ := g.ext
  intro hm
  rw [q] at hm
  rcases List.mem_append.mp hm with q | q
  · exact hb q
  · rw [he b q] at ho; cases ho
theorem trans (g : Gx ω own h ω₁ h₁ X) (g' : Gw ω₁ own' h₁ ω₂ h₂) (hs : ∀ a ∈ own', a ∈ own ∨ h.get? a = none) : Gx ω own h ω₂ h₂ X := by
  refine ⟨?_, g'.ex.trans g.ex, fun b o e ht hm ho => ?_, fun b o e => let ⟨o', e'⟩ := g.there b o e; g'.there b o' e', g.new⟩
  · obtain ⟨e, q, he⟩ := g.ext
    obtain ⟨e', q', he'⟩ := g'.ext
    refine ⟨e ++ e', by rw [q', q]; simp, fun a ha => ?_⟩
    rcases List.mem_append.mp ha with q | q
    · exact he a q
    · cases q' : h.get? a with
      | none => rfl
      | some o => obtain ⟨o', e1⟩ := g.there a o q'; rw [he' a q] at e1; cases e1
  · exact (g.kp b o e ht hm ho).trans (fun o' e' ht' => g'.kp b o' e' ht' (g.notin hm e) fun q => (hs b q).elim ho fun z => by rw [e] at z; cases z) ht
theorem step (g : Gx ω own h ω₁ h₁ X) (ha : h.get? a = none) (k : Heap.ExtBut a h₁ h₂) : Gx ω own h ω₁ h₂ X :=
  ⟨g.ext, g.ex, fun b o e ht hm ho => (g.kp b o e ht hm ho).trans (fun o' e' _ => .same (k b o' (some_ne e ha) e')) ht, fun b o e => let ⟨o', e'⟩ := g.there b o e; ⟨o', k b o' (some_ne e ha) e'⟩, g.new⟩
theorem stepAt (g : Gx ω own h ω₁ h₁ X) (ha : a ∈ X) (k : Heap.ExtBut a h₁ h₂) : Gx ω own h ω₁ h₂ X := g.step (g.new a ha) k
theorem drop (g : Gx ω own h ω₁ h₁ X) : Gw ω own h ⟨ω₁.mu, ω.ex⟩ h₁ := ⟨g.ext, rfl, g.kp, g.there⟩
end Gx
/-- an address that nothing points to is dropped with a last step at it -/
theorem Inv.last {B : Base} {ω : Wd} {σ : St} {s : Shared} {ex' : List Addr} {a : Addr} {h' : Heap} {tk : Nat} (I : Inv B ω σ s) (ha : a ∈ ω.ex) (hx : ∀ b ∈ ex', b ∈ ω.ex ∧ b ≠ a) (k : Heap.ExtBut a s.heap h') :
    Inv B ⟨ω.mu, ex'⟩ σ { s with heap := h', toks := tk } := by
  have gC : Carry ω s.heap ⟨ω.mu, ex'⟩ h' := (Carry.of_ex ha k).trans (.less rfl fun b hb => (hx b hb).1)
  refine ⟨I.bok, I.lim.extBut k (I.stat (I.new a (.inr ha))), old_ext I.old (I.new a (.inr ha)) k, I.len, I.nodup, fun b hb => I.new b (hb.imp id fun q => (hx b q).1), fun b hb q => I.apart b hb (hx b q).1, fun b hb => ?_, fun i b o e1 e2 => ?_, I.os, I.gens, I.tab.carry I.bok I.new (fun b o e _ h2 _ => k b o (fun q => h2 (q ▸ ha)) e) (fun _ q => .inl q) fun b q => .inl (hx b q).1⟩
  · obtain ⟨o, e⟩ := Option.isSome_iff_exists.mp (I.exl b (hx b hb).1); rw [k b o (hx b hb).2 e]; rfl
  · exact (I.objs i b o e1 e2).carry gC fun o e => k b o (fun q => I.apart b (List.mem_of_getElem? e1) (q ▸ ha)) e
theorem FR.unbar {c : Cx} {ω ω₀ ω' : Wd} {h h₀ h' : Heap} {m m₀ : Fm} (F : FR c ω h m) (F₀ : FR c ω₀ h₀ m₀) (hm : ω'.mu = ω.mu) (he : ω'.ex = ω₀.ex) (hs : ∀ a ∈ ω₀.ex, a ∈ ω.ex) (gc : Carry ω h ω' h') (k : ∀ b ∈ ω₀.ex, ∀ o, h.get? b = some o → h'.get? b = some o) : FR c ω' h' m :=
  have kn : ∀ {L f}, L ∈ ω₀.ex → h.Ns L f → h'.Ns L f := fun {L f} hL hN => ns_ko hN fun o e _ => .same (k L hL o e)
  have kc : ∀ {b v}, b ∈ ω₀.ex → h.IsCell b v → h'.IsCell b v := fun {b v} hL hN => cell_ko hN fun o e _ => .same (k b hL o e)
  ⟨F.len, F.kind, F.names, F.glob, F.blt, he ▸ F₀.own, fun a ha hx => F.apart a (hm ▸ ha) (hs a (he ▸ hx)), F.loc, F.ns.elim fun f q => ⟨f, kn (F₀.own _ F₀.loc) q.1, fun i x p h1 h2 h3 => (q.2 i x p h1 h2 h3).elim fun v r => ⟨v, r.1, r.2.carry gc⟩⟩,
    fun i x p h1 h2 h3 => (F.cel i x p h1 h2 h3).elim fun a r => r.elim fun v r => ⟨a, v, r.1, kc (F₀.celx x a r.1) r.2.1, r.2.2.carry gc⟩,
    fun x h1 => (F.celo x h1).elim fun a r => r.elim fun v r => ⟨a, v, r.1, kc (F₀.celx x a r.1) r.2⟩, he ▸ F₀.celx, F.celw, F.inj,
    F.ff.elim fun l q => F₀.ff.elim fun l₀ q₀ => ⟨l, q.1, fun e he' => ⟨(q.2 e he').1, (q.2 e he').2.elim fun L r => r.elim fun f r => (q₀.2 e (so (q.1.symm.trans q₀.1) ▸ he')).2.elim fun L' r' => r'.elim fun _ r' =>
      have hL : L ∈ ω₀.ex := so (r'.1.symm.trans r.1) ▸ r'.2.1
      ⟨L, f, r.1, he ▸ hL, kn hL r.2.2⟩⟩⟩⟩
end Sh
namespace Sh
open PySem PySem.Calls PyProof.Rows PySem.W PySem.Spec
/- a text taken apart, all forms at once -/
noncomputable def e0 : Expr := .Name "" ⟨0, 0, 0, 0⟩
structure K where
  tag : Nat
  a : Expr := e0
  b : Expr := e0
  d : Expr := e0
  l : List Expr := []
  x : Str := ""
  c : Const := .none
  o : Operator := .Add
  u : UnaryOp := .Not
  bo : BoolOp := .And
  cs : List CmpOp := []
  kw : List Keyword := []
  p : Pos := ⟨0, 0, 0, 0⟩
  oa : Option Expr := none
  ob : Option Expr := none
  oc : Option Expr := none
  ar : Arguments := ⟨[], [], none, [], [], none, []⟩
  sc : Scope := ⟨.function, [], false, false, []⟩
  g : List Comprehension := []
  i : Int := 0
noncomputable def kd (e : Expr) : K := match e with
  | .Name x _ => { tag := 0, x := x }
  | .Constant c _ _ => { tag := 1, c := c }
  | .BinOp a o b _ => { tag := 2, a := a, o := o, b := b }
  | .UnaryOp u a _ => { tag := 3, u := u, a := a }
  | .Compare a cs l _ => { tag := 4, a := a, cs := cs, l := l }
  | .BoolOp bo l _ => { tag := 5, bo := bo, l := l }
  | .IfExp a b d _ => { tag := 6, a := a, b := b, d := d }
  | .Tuple l _ _ => { tag := 7, l := l }
  | .List l _ => { tag := 8, l := l }
  | .Call a l kw p => { tag := 9, a := a, l := l, kw := kw, p := p }
  | .Attribute a x p => { tag := 10, a := a, x := x, p := p }
  | .Subscript a b _ => { tag := 11, a := a, b := b }
  | .Slice oa ob oc _ => { tag := 12, oa := oa, ob := ob, oc := oc }
  | .Lambda ar _ sc p => { tag := 13, ar := ar, sc := sc, p := p }
  | .ListComp a g sc _ => { tag := 14, a := a, g := g, sc := sc }
  | .JoinedStr l _ => { tag := 15, l := l }
  | .FormattedValue a i ob _ => { tag := 16, a := a, i := i, ob := ob }
  | .Starred _ _ => { tag := 17 }
  | .Set _ _ _ => { tag := 18 }
  | .SetComp _ _ _ _ => { tag := 19 }
  | .DictComp _ _ _ _ _ => { tag := 20 }
  | _ => { tag := 99 }
/-- what a tag says -/
noncomputable def forms (e : Expr) (k : K) : List Prop := [
  ∃ p, e = .Name k.x p,
  ∃ q p, e = .Constant k.c q p,
  ∃ p, e = .BinOp k.a k.o k.b p,
  ∃ p, e = .UnaryOp k.u k.a p,
  ∃ p, e = .Compare k.a k.cs k.l p,
  ∃ p, e = .BoolOp k.bo k.l p,
  ∃ p, e = .IfExp k.a k.b k.d p,
  ∃ q p, e = .Tuple k.l q p,
  ∃ p, e = .List k.l p,
  e = .Call k.a k.l k.kw k.p,
  e = .Attribute k.a k.x k.p,
  ∃ p, e = .Subscript k.a k.b p,
  ∃ p, e = .Slice k.oa k.ob k.oc p,
  ∃ b, e = .Lambda k.ar b k.sc k.p,
  ∃ p, e = .ListComp k.a k.g k.sc p,
  ∃ p, e = .JoinedStr k.l p,
  ∃ p, e = .FormattedValue k.a k.i k.ob p]
theorem kd_at (e : Expr) : (forms e (kd e)).getD (kd e).tag True := by
  cases e <;> first | exact trivial | exact rfl | exact ⟨_, rfl⟩ | exact ⟨_, _, rfl⟩
noncomputable def isK (n : Nat) (e : Expr) : Bool := (kd e).tag == n
theorem isK_at {n : Nat} {e : Expr} (h : isK n e = true) : (forms e (kd e)).getD n True := (beq_iff_eq.mp h : (kd e).tag = n) ▸ kd_at e
noncomputable def setAll : List Nat → List PV → Fm → Fm
  | i :: is, p :: ps, m => setAll is ps (m.set i (some p))
  | _, _, m => m
noncomputable def one1 (is : List Nat) : Option Nat := match is with | [i] => some i | _ => none
noncomputable def bindsT (is : List Nat) (p : PV) (m : Fm) : Option Fm := (one1 is).elim (bd p.tup? fun l => gd (decide (is.length = l.length)) (some (setAll is l m))) fun i => some (m.set i (some p))
noncomputable def storable (Γ : Sc) (x : Str) : Bool := Γ.names.lookup x == some .local || (Γ.names.lookup x == some .cell && Γ.ownN.contains x)
noncomputable def nameT (Γ : Sc) (i : Nat) (e : Expr) : Bool := isK 0 e && (Γ.vis i (kd e).x && storable Γ (kd e).x)
noncomputable def namesT (Γ : Sc) : List Nat → List Expr → Bool
  | [], es => es.isEmpty
  | i :: is, es => es.head?.elim false fun e => nameT Γ i e && namesT Γ is es.tail
noncomputable def targT (Γ : Sc) (is : List Nat) (e : Expr) : Bool := (one1 is).elim (isK 7 e && namesT Γ is (kd e).l) fun i => nameT Γ i e
noncomputable def Stor (Γ : Sc) (x : Str) : Prop := Γ.names.lookup x = some .local ∨ (Γ.names.lookup x = some .cell ∧ x ∈ Γ.ownN)
theorem storable_at {Γ : Sc} {x : Str} (h : storable Γ x = true) : Stor Γ x := by
  unfold storable at h; unfold Stor
  simpa using h
theorem nameT_el {Γ : Sc} {i : Nat} {e : Expr} {G : Prop} (h : nameT Γ i e = true) (k : ∀ x p, e = .Name x p → Γ.vis i x = true → Stor Γ x → G) : G :=
  and_el h fun h1 h => and_el h fun h2 h3 => (show ∃ p, e = .Name (kd e).x p from isK_at h1).elim fun p he => k _ p he h2 (storable_at h3)
theorem namesT_cons {Γ : Sc} {i : Nat} {is : List Nat} {es : List Expr} {G : Prop} (h : namesT Γ (i :: is) es = true) (k : ∀ e r, es = e :: r → nameT Γ i e = true → namesT Γ is r = true → G) : G :=
  match es, h with
  | e :: r, h => and_el h fun h1 h2 => k e r rfl h1 h2
theorem namesT_nil {Γ : Sc} {es : List Expr} (h : namesT Γ [] es = true) : es = [] := List.isEmpty_iff.mp h
section
variable {c : Cx} {ω : Wd} {σ : St} {s : Shared} {m : Fm} {E : Value → Shared → Prop}
/-- the way on from a store -/
abbrev KS (c : Cx) (ω : Wd) (σ : St) (s : Shared) (m' : Fm) (Q : Unit → Shared → Prop) : Prop :=
  ∀ h' tk, Gw ω c.own s.heap ω h' → Inv c.B ω σ { s with heap := h', toks := tk } → FR c ω h' m' → Q () { s with heap := h', toks := tk }
theorem assign1_ok {i : Nat} {e : Expr} {p : PV} {v : Value} {Q : Unit → Shared → Prop} (F : FR c ω s.heap m) (I : Inv c.B ω σ s) (ht : nameT c.Γ i e = true) (r : VR c.B.C ω s.heap p v)
    (k : KS c ω σ s (m.set i (some p)) Q) : wpAny (model c.B.prog c.B.w) c.A (assign e c.env v) Q E s :=
  nameT_el ht fun x p he h1 h2 => by rw [he]; exact wpAny_assign_Name (store_ok F I h1 h2 r k)
theorem assignEach_name {Γ : Sc} {i : Nat} {e : Expr} {es : List Expr} {env : Env} (ht : nameT Γ i e = true) : assignEach (e :: es) env = (false, assign e env) :: assignEach es env :=
  nameT_el ht fun x p he _ _ => by rw [he]; rfl
theorem assigns_ok {Q : Unit → Shared → Prop} : ∀ {is : List Nat} {es : List Expr} {l : List PV} {vs : List Value} {s : Shared} {m : Fm}, FR c ω s.heap m → Inv c.B ω σ s → namesT c.Γ is es = true → is.length = l.length → VRs c.B.C ω s.heap l vs →
    KS c ω σ s (setAll is l m) Q → wpAny (model c.B.prog c.B.w) c.A (assignInOrder ((assignEach es c.env).map (·.2)) vs) Q E s
  | [], es, [], vs, s, m, F, I, ht, _, r, k => by
    rw [namesT_nil ht]
    exact r.nil_el (wpAny_pure (k s.heap s.toks (.refl _ _ _) I F))
  | i :: is, es, p :: l, vs, s, m, F, I, ht, hl, r, k => namesT_cons ht fun e es' he h1 h2 => by
    rw [he, assignEach_name h1]
    refine r.cons_el fun v t a b => ?_
    show wpAny _ _ (do holding t (assign e c.env v); assignInOrder ((assignEach es' c.env).map (·.2)) t) Q E s
    exact wpAny_bind (wpAny_holding (assign1_ok F I h1 a fun h' tk G I' F' => assigns_ok F' I' h2 (Nat.succ.inj hl) (b.carry (.of_gw G F.own)) fun h'' tk' G' I'' F'' => k h'' tk' (G.trans G') I'' F''))
  | [], _, _ :: _, _, _, _, _, _, _, hl, _, _ => nomatch hl
  | _ :: _, _, [], _, _, _, _, _, _, hl, _, _ => nomatch hl
theorem namesT_len {Γ : Sc} {env : Env} : ∀ {is : List Nat} {es : List Expr}, namesT Γ is es = true → (assignEach es env).length = is.length ∧ (assignEach es env).findIdx? (·.1) = none
  | [], es, h => by rw [namesT_nil h]; exact ⟨rfl, rfl⟩
  | i :: is, es, h => namesT_cons h fun e es' he h1 h2 => by
    have ih := namesT_len (env := env) h2
    rw [he, assignEach_name h1]
    exact ⟨congrArg (· + 1) ih.1, by rw [List.findIdx?_cons, ih.2]; rfl⟩
theorem assign_ok {is : List Nat} {e : Expr} {p : PV} {v : Value} {m' : Fm} {Q : Unit → Shared → Prop} (hh : c.A.handled = none) (F : FR c ω s.heap m) (I : Inv c.B ω σ s) (ht : targT c.Γ is e = true) (hb : bindsT is p m = some m') (r : VR c.B.C ω s.heap p v)
    (k : KS c ω σ s m' Q) : wpAny (model c.B.prog c.B.w) c.A (assign e c.env v) Q E s := by
  unfold targT at ht
  unfold bindsT at hb
  cases ho : one1 is with
  | some i =>
    rw [ho] at ht hb
    exact assign1_ok F I ht r (so (show some (m.set i (some p)) = some m' from hb) ▸ k)
  | none =>
    rw [ho] at ht hb
    refine and_el ht fun h1 h2 => bd_el hb fun l e1 hb => gd_el hb fun hl hb => (show ∃ q p, e = .Tuple (kd e).l q p from isK_at h1).elim fun q he => he.elim fun p' he => ?_
    have n := namesT_len (env := c.env) h2
    rw [he]
    refine VR.tup_el (P := fun v => wpAny (model c.B.prog c.B.w) c.A (assign (.Tuple (kd e).l q p') c.env v) Q E s) (tup_at e1 ▸ r) fun a o vs n' f hc hd rr => wpAny_assign_Tuple hh ⟨o, f.2.2.1, hc, n', hd⟩ (by rw [n.1, dec hl, rr.size]) n.2 fun h' he => ?_
    have hk : ∀ b o, s.heap.get? b = some o → h'.get? b = some o := fun b o e => he b o (Nat.ne_of_lt (Heap.lt_size e)) e
    exact assigns_ok (F.gw (.of_keep hk) I.apart) (I.keep (tk := s.toks) hk) h2 (dec hl) (rr.carry (.of_keep hk)) fun h'' tk' G' I'' F'' => (show KS c ω σ s (setAll is l m) Q from (so hb).symm ▸ k) h'' tk' (.trans (.of_keep hk) G') I'' F''
theorem itT_no : ∀ T ∈ itT, (["enumerate", "zip", "dict_itemiterator", "dict_reverseitemiterator", "odict_iterator", "itertools.zip_longest", "itertools.pairwise"].contains T) = false := by decide
theorem letOwned_ok {target : Expr} {it : Addr} {v : Value} {o : Obj} {vs : Array Value} {T : String} {Q : Unit → Shared → Prop} (ho : s.heap.get? it = some o) (hd : o.data = .fields vs) (hc : o.cls = .type T)
    (hT : T ∈ itT) (k : Q () s) : wpAny (model c.B.prog c.B.w) c.A (letOwnedTupleGo target (.ref it) v) Q E s := by
  have main : wpAny (model c.B.prog c.B.w) c.A (do
    let (.ref r, .ref a) := (Value.ref it, v) | return
    let o ← load r
    match o.cls, o.data with
    | .type n, .fields vs =>
      if ["enumerate", "zip", "dict_itemiterator", "dict_reverseitemiterator", "odict_iterator", "itertools.zip_longest", "itertools.pairwise"].contains n && vs[0]? == some (rawInt a) then
        rule "for.unpacks-the-owned-tuple"
        updateField r 0 .none
    | _, _ => pure () : Sem Unit) Q E s := by
    cases v with
    | ref a =>
      refine wpAny_bind (wpAny_load ho ?_)
      rw [hc, hd]
      have hn := itT_no T hT
      simp only [hn, Bool.false_and, Bool.false_eq_true, if_false]
      exact wpAny_pure k
    | _ => exact wpAny_pure k
  unfold letOwnedTupleGo
  cases target <;> first | exact main | exact wpAny_pure k
end
end Sh
namespace Sh
open PySem PySem.Calls PyProof.Rows PySem.W PySem.Spec
section
variable {prog : Program} {w : World} {A : Around} {E : Value → Shared → Prop} {R : Result → Shared → Prop} {s : Shared}
/-- a list's turns, the target a name or a tuple of names -/
theorem compLoop_turns {elt target iter : Expr} {ifs : List Expr} {scope : Scope} {pos : Pos} {it acc : Value} {env : Env} (I : Nat → Shared → Prop)
    (turn : ∀ n s, I n s → wpAny (model prog w) A (pyNext it) (fun r s₁ => match r with
      | none => R (.ok .next) s₁
      | some v => wpAny (model prog w) A (letOwnedTupleGo target it v) (fun _ s₁' => wpAny (model prog w) A (assign target env v) (fun _ s₂ =>
          wpAny (model prog w) A (forIn ifs true (ifsStep env)) (fun ok s₃ =>
            if ok = true then wpAny (model prog w) A (eval elt env) (fun x s₄ =>
              wpAny (model prog w) A (call (.builtin "list.append") [acc, x]) (fun _ s₅ => ∃ m, m < n ∧ I m s₅) (notedBy (model prog w) A env fun e s' => R (.error e) s') s₄) (notedBy (model prog w) A env fun e s' => R (.error e) s') s₃
            else ∃ m, m < n ∧ I m s₃) (notedBy (model prog w) A env fun e s' => R (.error e) s') s₂) (notedBy (model prog w) A env fun e s' => R (.error e) s') s₁') (notedBy (model prog w) A env fun e s' => R (.error e) s') s₁) (notedBy (model prog w) A env fun e s' => R (.error e) s') s)
    (n : Nat) (h : I n s) : codeAny (model prog w) A (.compLoop (.ListComp elt [⟨target, iter, ifs, 0⟩] scope pos) 0 it acc env) R s := by
  refine codeAny_loop rfl I (fun n s hI => ?_) n h
  show wpAny _ A ((compTurn (.ListComp elt [⟨target, iter, ifs, 0⟩] scope pos) 0 it acc env).onRaise (fun x => do noteFrame x env; theTreesLotGoes x)) _ _ s
  refine wpAny_noted ?_
  rw [compTurn_list]
  refine wpAny_bind (wpAny_standAt (wpAny_bind (wpAny_mono (turn n s hI) (fun r s₁ h₁ => ?_) fun _ _ h' => h')))
  cases r with
  | none => exact wpAny_pure h₁
  | some v =>
    refine wpAny_bind (wpAny_mono h₁ (fun _ s₁' h₁' => ?_) fun _ _ h' => h')
    refine wpAny_bind (wpAny_mono h₁' (fun _ s₂ h₂ => wpAny_bind (wpAny_mono h₂ (fun ok s₃ h₃ => ?_) fun _ _ h' => h')) fun _ _ h' => h')
    cases ok with
    | false => exact wpAny_pure ⟨rfl, h₃⟩
    | true =>
      exact wpAny_bind (wpAny_bind (wpAny_mono h₃ (fun x s₄ h₄ => wpAny_bind (wpAny_mono h₄ (fun _ s₅ h₅ => wpAny_pure (wpAny_pure ⟨rfl, h₅⟩)) fun _ _ h' => h')) fun _ _ h' => h'))
end
theorem Gw.stay {ω ω' : Wd} {own : List Addr} {h h' : Heap} {a : Addr} {o : Obj} (g : Gw ω own h ω' h') (hm : a ∉ ω.mu) (ho : a ∉ own) (e : h.get? a = some o) (hd : ¬ Dic o) (ht : ¬ Tbl o) : h'.get? a = some o :=
  (g.kp a o e ht hm ho).2 hd
theorem fields_nd {o : Obj} {vs : Array Value} {T : String} (hd : o.data = .fields vs) (hc : o.cls = .type T) : ¬ Dic o ∧ ¬ Tbl o :=
  ⟨fun ⟨_, _, e⟩ => (nomatch hd.symm.trans e), fun q => (nomatch hc.symm.trans q.1)⟩
theorem Itr.gw {C : Addr} {ω ω' : Wd} {own : List Addr} {h h' : Heap} {n : Option Nat} {l : List PV} {it : Addr} {k : Nat} (x : Itr C ω h it k n l) (g : Gw ω own h ω' h') (hs : ∀ a ∈ own, a ∈ ω.ex) (hm : it ∉ ω.mu) (ho : it ∉ own) : Itr C ω' h' it k n l :=
  x.obj fun o vs T h1 h2 h3 _ => x.carry (.of_gw g hs) fun o' e => by
    cases h1.symm.trans e
    have nd := fields_nd h2 h3
    exact g.stay hm ho h1 nd.1 nd.2
theorem Itr.live {C : Addr} {ω : Wd} {h : Heap} {n : Option Nat} {l : List PV} {it : Addr} {k : Nat} (x : Itr C ω h it k n l) : (h.get? it).isSome = true := x.obj fun o vs T h1 _ _ _ => by rw [h1]; rfl
theorem Itr.plain {C : Addr} {ω : Wd} {h : Heap} {n : Option Nat} {l : List PV} {it : Addr} {k : Nat} (x : Itr C ω h it k n l) : ∀ o, h.get? it = some o → ¬ Dic o ∧ ∀ v, o.data ≠ .cell v := fun o e => x.obj fun o' vs T h1 h2 h3 _ => by
  cases h1.symm.trans e
  exact ⟨(fields_nd h2 h3).1, fun v q => (nomatch h2.symm.trans q)⟩
theorem ct {α : Type} {x y : Option α} {r : α} (e : cond true x y = some r) : x = some r := e
theorem cf {α : Type} {x y : Option α} {r : α} (e : cond false x y = some r) : y = some r := e
theorem drop_cons {l r : List PV} {q : PV} {i : Nat} (h : q :: r = l.drop i) : l[i]? = some q ∧ r = l.drop (i + 1) :=
  ⟨by rw [← Nat.add_zero i, ← List.getElem?_drop, ← h]; rfl, by rw [← List.tail_drop, ← h]; rfl⟩
section
variable {c : Cx} {Φ : Nat → Option Spec}
theorem bind_tail {m mm bs : Fm} {ar : Nat} {p : PV} {G : Prop} (hm : mm.length = ar) (hb : bindN ar p = some bs) (k : bindsT (List.range' m.length ar) p (m ++ mm) = some (m ++ bs) → bs.length = ar → G) : G :=
  match ar, hb, hm, k with
  | 1, hb, hm, k => match mm, hm, k with
    | [x], _, k => by cases so (show some [some p] = some bs from hb); exact k (by simp [bindsT, one1, List.range', List.set_append]) rfl
  | 2, hb, hm, k => match mm, hm, k with
    | [x, y], _, k => bd_el (show (bd p.tup? fun l => bd (two? l) fun x => some [some x.1, some x.2]) = some bs from hb) fun l e1 hb => bd_el hb fun q e2 hb => by
        cases so hb
        refine k ?_ rfl
        have hl : l = [q.1, q.2] := two_at (i := q.1) (j := q.2) e2
        have hp : p = .tup [q.1, q.2] := hl ▸ tup_at e1
        rw [hp]
        simp [bindsT, one1, setAll, List.range', List.set_append, PV.tup?, bd, gd]
/-- what stands at a turn's start -/
structure CL (c : Cx) (X : List Addr) (ω₀ : Wd) (h₀ : Heap) (it D : Addr) (n : Option Nat) (l : List PV) (m mm : Fm) (accs : List PV) (vs : Array Value) (en i : Nat) (ω : Wd) (h : Heap) : Prop where
  g : Gx ω₀ [] h₀ ω h X
  F : FR c ω h (m ++ mm)
  hI : Itr c.B.C ω h it i n l
  hL : IsL h D vs en
  hr : VRs c.B.C ω h accs vs.toList
/-- what the two addresses are -/
structure CA (c : Cx) (X : List Addr) (h₀ : Heap) (it D : Addr) : Prop where
  own : ∀ a ∈ c.own, h₀.get? a = none
  hD : D ∈ X
  hit : it ∈ X
  ne : D ≠ it
  Do : D ∉ c.own
  ito : it ∉ c.own
section
variable {X : List Addr} {ω₀ : Wd} {h₀ : Heap} {it D : Addr} {n : Option Nat} {l : List PV} {m mm mm' : Fm} {accs : List PV} {vs : Array Value} {en i : Nat} {ω ω' : Wd} {h h' : Heap}
theorem CL.inX (S : CL c X ω₀ h₀ it D n l m mm accs vs en i ω h) {a : Addr} (ha : a ∈ X) : a ∈ ω.ex := by rw [S.g.ex]; exact List.mem_append_right _ ha
theorem CL.gw (S : CL c X ω₀ h₀ it D n l m mm accs vs en i ω h) (a : CA c X h₀ it D) {own : List Addr} (G : Gw ω own h ω' h') (ho : ∀ b ∈ own, b ∈ c.own) (F : FR c ω' h' (m ++ mm')) : CL c X ω₀ h₀ it D n l m mm' accs vs en i ω' h' :=
  have hx : ∀ b ∈ own, b ∈ ω.ex := fun b hb => S.F.own b (ho b hb)
  have nm : ∀ {b}, b ∈ X → b ∉ ω.mu := fun hb q => S.F.apart _ q (S.inX hb)
  ⟨S.g.trans G fun b hb => .inr (a.own b (ho b hb)), F, S.hI.gw G hx (nm a.hit) (fun q => a.ito (ho _ q)), G.stay (nm a.hD) (fun q => a.Do (ho _ q)) S.hL (fun ⟨_, _, e⟩ => (nomatch e)) (fun q => (nomatch q.1)), S.hr.carry (.of_gw G hx)⟩
theorem CL.next (S : CL c X ω₀ h₀ it D n l m mm accs vs en i ω h) (a : CA c X h₀ it D) (k : Heap.ExtBut it h h') (hI : Itr c.B.C ω h' it (i + 1) n l) : CL c X ω₀ h₀ it D n l m mm accs vs en (i + 1) ω h' :=
  ⟨S.g.stepAt a.hit k, S.F.exstep (S.inX a.hit) k S.hI.plain, hI, k D _ a.ne S.hL, S.hr.carry (.of_ex (S.inX a.hit) k)⟩
theorem CL.push (S : CL c X ω₀ h₀ it D n l m mm accs vs en i ω h) (a : CA c X h₀ it D) {y : PV} {u : Value} {en' : Nat} (k : Heap.SameBut D h h') (hL : IsL h' D (vs.push u) en') (hu : VR c.B.C ω h y u) : CL c X ω₀ h₀ it D n l m mm (accs ++ [y]) (vs.push u) en' i ω h' :=
  have gc : Carry ω h ω h' := .of_ex (S.inX a.hD) k.extBut
  ⟨S.g.stepAt a.hD k.extBut, S.F.exstep (S.inX a.hD) k.extBut (fun o e => by cases S.hL.symm.trans e; exact ⟨fun ⟨_, _, q⟩ => (nomatch q), fun v q => (nomatch q)⟩), S.hI.carry gc (fun o e => k.extBut it o (Ne.symm a.ne) e), hL, by rw [Array.toList_push]; exact (S.hr.carry gc).append (.one (hu.carry gc))⟩
end
/-- the loop's invariant -/
inductive CI (c : Cx) (Φ : Nat → Option Spec) (X : List Addr) (ω₀ : Wd) (h₀ : Heap) (it D : Addr) (n : Option Nat) (l : List PV) (m : Fm) (ar : Nat) (xe : Sh.X) (xi : XL) (res : List PV) (σf : St) (s : Shared) : Nat → Prop
  | mk {r accs : List PV} {i en : Nat} {ω : Wd} {σ : St} {mm : Fm} {vs : Array Value} (hr : r = l.drop i) (go : compGo n ar (evT Φ xi) (ev Φ xe) m r i σ accs = some (res, σf)) (I : Inv c.B ω σ s) (hm : mm.length = ar) (S : CL c X ω₀ h₀ it D n l m mm accs vs en i ω s.heap) : CI c Φ X ω₀ h₀ it D n l m ar xe xi res σf s r.length
theorem comp_loop {target iter elt : Expr} {ifs : List Expr} {scope : Scope} {pos : Pos} {xe : Sh.X} {xi : XL} {m mm : Fm} {l : List PV} {it D : Addr} {X : List Addr} {ω₀ ω : Wd} {h₀ : Heap} {R : Result → Shared → Prop} {res : List PV} {σ σf : St} {ar en : Nat} {n : Option Nat} {s : Shared}
    (hh : c.A.handled = none) (ht : targT c.Γ (List.range' m.length ar) target = true) (he : SE c elt (ev Φ xe)) (hi : A2 c Φ xi ifs) (a : CA c X h₀ it D)
    (hR : ∀ ω₁ s' h' vs en mm i, CL c X ω₀ h₀ it D n l m mm res vs en i ω₁ s'.heap → Inv c.B ω₁ σf s' → Heap.ExtBut it s'.heap h' → R (.ok .next) { s' with heap := h' })
    (I : Inv c.B ω σ s) (S : CL c X ω₀ h₀ it D n l m mm [] #[] en 0 ω s.heap) (hmm : mm.length = ar) (hg : compGo n ar (evT Φ xi) (ev Φ xe) m l 0 σ [] = some (res, σf)) :
    codeAny (model c.B.prog c.B.w) c.A (.compLoop (.ListComp elt [⟨target, iter, ifs, 0⟩] scope pos) 0 (.ref it) (.ref D) c.env) R s := by
  refine compLoop_turns (fun k s' => CI c Φ X ω₀ h₀ it D n l m ar xe xi res σf s' k) (fun k s' hI => ?_) l.length (.mk (i := 0) rfl hg I hmm S)
  cases hI with
  | mk hr go I₁ hm S₁ =>
  rename_i r accs i en ω₁ σ₁ mm vs
  cases r with
  | nil => exact gd_el go fun hf go => next_end hh I₁ S₁.hI (List.drop_eq_nil_iff.mp hr.symm) hf fun h' he => hR ω₁ s' h' vs en mm i ((Prod.mk.inj (so go)).1 ▸ S₁) ((Prod.mk.inj (so go)).2 ▸ I₁) he
  | cons q r =>
    refine gd_el go fun hlen go => bd_el go fun p hp go => bd_el go fun bs hbs go => sq_el go fun t σ₂ hts go => bind_tail (m := m) hm hbs fun hbT hbl => next_item I₁ S₁.hI (S₁.inX a.hit) (drop_cons hr).1 hp fun v h₂ tk he₂ hI₂ hv => ?_
    have S₂ := S₁.next a he₂ hI₂
    refine hI₂.obj fun io ivs T hio hiod hioc hT => letOwned_ok (s := { s' with heap := h₂, toks := tk }) hio hiod hioc hT (assign_ok hh S₂.F (I₁.exstep (tk := tk) (S₁.inX a.hit) he₂ hI₂.live) ht hbT hv fun h₃ tk₃ G₃ I₃ F₃ => hi.ifs ω₁ _ σ₁ _ _ _ t σ₂ F₃ I₃ hts fun ω₄ s₄ G₄ I₄ => ?_)
    have S₄ := (S₂.gw a G₃ (fun _ q => q) F₃).gw a G₄ (fun _ q => nomatch q) (F₃.gw G₄ I₄.apart)
    cases t with
    | false => rw [if_neg Bool.false_ne_true]; exact ⟨_, Nat.lt_succ_self _, .mk (drop_cons hr).2 go I₄ hbl S₄⟩
    | true =>
      rw [if_pos rfl]
      exact sq_el (ct go) fun y σ₅ hev go => he ω₄ _ σ₂ s₄ _ _ y σ₅ S₄.F I₄ hev fun u ω₅ s₅ G₅ I₅ hu =>
        have S₅ := S₄.gw a G₅ (fun _ q => nomatch q) (S₄.F.gw G₅ I₅.apart)
        wpAny_list_append_plain ⟨en, S₅.hL⟩ (fun h' hp' hs' => hp'.elim fun en' hL₆ => ⟨_, Nat.lt_succ_self _, .mk (drop_cons hr).2 go (I₅.exstep (tk := s₅.toks) (S₅.inX a.hD) hs'.extBut (by rw [hL₆]; rfl)) hbl (S₅.push a hs' hL₆ hu)⟩) (by rw [S₅.hr.size]; exact lim_line hlen)
end
end Sh
namespace Sh
open PySem PySem.Calls PyProof.Rows PySem.W PySem.Spec
noncomputable def relK (Γ : Sc) (x : Str) (k : NameKind) : NameKind := if k == .free && Γ.names.lookup x == some .cell then .cell else k
noncomputable def relN (Γ : Sc) (names : List (Str × NameKind)) : List (Str × NameKind) := names.map fun x => (x.1, relK Γ x.1 x.2)
noncomputable def compG (Γ : Sc) (scope : Scope) (ts : List Str) : Sc := ⟨relN Γ scope.names, Γ.nt ++ ts, (scope.names.filter fun x => x.2 == .cell).map (·.1)⟩
noncomputable def compK (Γ : Sc) (ts : List Str) (x : Str × NameKind) : Bool := match x.2 with
  | .local => x.1 == (".0" : Str) || ts.contains x.1
  | .cell => ts.contains x.1
  | .free => Γ.names.lookup x.1 == some .cell || Γ.names.lookup x.1 == some .free
  | _ => true
noncomputable def compB (Γ : Sc) (scope : Scope) (ts : List Str) : Bool :=
  scope.kind == .function && scope.names.all (fun x => scope.names.lookup x.1 == some x.2) && scope.names.all (compK Γ ts) && !((Γ.nt ++ ts).contains (".0" : Str))
theorem lookup_relN (Γ : Sc) (x : Str) : ∀ names : List (Str × NameKind), (relN Γ names).lookup x = (names.lookup x).map (relK Γ x)
  | [] => rfl
  | (n, k) :: r => by
    show List.lookup x ((n, relK Γ n k) :: relN Γ r) = _
    simp only [List.lookup_cons]
    cases hb : x == n with
    | true => rw [beq_iff_eq.mp hb]; rfl
    | false => exact lookup_relN Γ x r
theorem relabel_eq {Γ : Sc} {scope : Scope} {env : Env} (hk : env.scope.kind = .function) (hn : env.scope.names = Γ.names) : (relabel scope env).names = relN Γ scope.names := by
  unfold relabel relN relK
  simp only [hk]
  congr 1
  funext x
  obtain ⟨n, k⟩ := x
  have : env.kindOf n = Γ.names.lookup n := by show env.scope.names.lookup n = _; rw [hn]
  simp only [this, beq_self_eq_true, Bool.and_true]
  split <;> rfl
noncomputable def clOf (env : Env) : List (Str × NameKind) → List (Str × Addr) → List (Str × Addr)
  | [], acc => acc
  | (n, k) :: r, acc => clOf env r (if k == .free then (n, (env.cells.lookup n).getD 0) :: acc else acc)
theorem clOf_mem {env : Env} : ∀ {names : List (Str × NameKind)} {acc : List (Str × Addr)} {x : Str} {a : Addr}, (x, a) ∈ clOf env names acc → (x, a) ∈ acc ∨ ((x, .free) ∈ names ∧ a = (env.cells.lookup x).getD 0)
  | [], _, _, _, h => .inl h
  | (n, k) :: r, acc, x, a, h => by
    rcases clOf_mem (names := r) h with h | ⟨h1, h2⟩
    · split at h
      · rename_i hk
        rcases List.mem_cons.mp h with e | h
        · cases e; rw [beq_iff_eq.mp hk]; exact .inr ⟨.head _, rfl⟩
        · exact .inl h
      · exact .inl h
    · exact .inr ⟨.tail _ h1, h2⟩
theorem clOf_has {env : Env} : ∀ {names : List (Str × NameKind)} {acc : List (Str × Addr)} {x : Str}, ((x, .free) ∈ names ∨ ∃ a, (x, a) ∈ acc) → ∃ a, (x, a) ∈ clOf env names acc
  | [], _, _, h => h.elim (fun q => nomatch q) id
  | (n, k) :: r, acc, x, h => by
    apply clOf_has (names := r)
    rcases h with h | ⟨a, h⟩
    · rcases List.mem_cons.mp h with e | h
      · cases e; exact .inr ⟨(env.cells.lookup n).getD 0, by simp⟩
      · exact .inl h
    · refine .inr ⟨a, ?_⟩
      split
      · exact .tail _ h
      · exact h
theorem lookup_of_mem {α : Type} : ∀ {l : List (Str × α)} {x : Str} {a : α}, (x, a) ∈ l → ∃ b, l.lookup x = some b
  | (k, v) :: r, x, a, h => by
    rw [List.lookup_cons]
    cases hb : x == k with
    | true => exact ⟨v, rfl⟩
    | false =>
      rcases List.mem_cons.mp h with e | h
      · cases e; simp at hb
      · exact lookup_of_mem h
theorem closure_ok {env : Env} {scope : Scope} (h : ∀ x, (x, NameKind.free) ∈ scope.names → ∃ a, env.cells.lookup x = some a) : closureFor scope env = pure (clOf env scope.names []) := by
  have key : ∀ (names : List (Str × NameKind)) (acc : List (Str × Addr)), (∀ x, (x, NameKind.free) ∈ names → ∃ a, env.cells.lookup x = some a) →
      (forIn names acc (fun (x : Str × NameKind) (r : List (Str × Addr)) => if (x.2 == NameKind.free) = true then (do let a ← cellOf env x.1; pure (ForInStep.yield ((x.1, a) :: r))) else pure (ForInStep.yield r)) : Sem (List (Str × Addr))) = pure (clOf env names acc) := by
    intro names
    induction names with
    | nil => intro acc _; rw [List.forIn_nil]; rfl
    | cons x r ih =>
      intro acc hn
      obtain ⟨n, k⟩ := x
      rw [List.forIn_cons]
      have hr : ∀ x, (x, NameKind.free) ∈ r → ∃ a, env.cells.lookup x = some a := fun x hx => hn x (.tail _ hx)
      cases hk : k == NameKind.free with
      | true =>
        obtain ⟨a, ha⟩ := hn n (by rw [beq_iff_eq.mp hk]; exact .head _)
        have hc : cellOf env n = pure a := by unfold cellOf; rw [ha]
        simp only [hk, if_true, hc, pure_bind]
        rw [ih _ hr]
        simp [clOf, ha, hk]
      | false =>
        simp only [hk, Bool.false_eq_true, if_false, pure_bind]
        rw [ih _ hr]
        simp [clOf, hk]
  unfold closureFor
  have := key scope.names [] h
  show (forIn scope.names [] _ >>= fun cs => pure cs) = _
  rw [bind_pure]
  exact this
theorem cellsFrom_app : ∀ (names : List (Str × NameKind)) (n : Nat) (acc : List (Str × Addr)), cellsFrom n names acc = cellsFrom n names [] ++ acc
  | [], _, _ => rfl
  | (x, k) :: r, n, acc => by
    unfold cellsFrom
    split
    · rw [cellsFrom_app r (n + 1) ((x, n) :: acc), cellsFrom_app r (n + 1) [(x, n)]]; simp
    · exact cellsFrom_app r n acc
theorem cellsFrom_mem : ∀ {names : List (Str × NameKind)} {n : Nat} {acc : List (Str × Addr)} {x : Str} {a : Addr}, (x, a) ∈ cellsFrom n names acc → (x, a) ∈ acc ∨ (x, .cell) ∈ names
  | [], _, _, _, _, h => .inl h
  | (y, k) :: r, n, acc, x, a, h => by
    unfold cellsFrom at h
    split at h
    · rename_i hk
      rcases cellsFrom_mem h with h | h
      · rcases List.mem_cons.mp h with e | h
        · cases e; rw [beq_iff_eq.mp hk]; exact .inr (.head _)
        · exact .inl h
      · exact .inr (.tail _ h)
    · rcases cellsFrom_mem h with h | h
      · exact .inl h
      · exact .inr (.tail _ h)
theorem cellsFrom_has : ∀ {names : List (Str × NameKind)} {n : Nat} {acc : List (Str × Addr)} {x : Str}, ((x, .cell) ∈ names ∨ ∃ a, (x, a) ∈ acc) → ∃ a, (x, a) ∈ cellsFrom n names acc
  | [], _, _, _, h => h.elim (fun q => nomatch q) id
  | (y, k) :: r, n, acc, x, h => by
    unfold cellsFrom
    split
    · apply cellsFrom_has
      rcases h with h | ⟨a, h⟩
      · rcases List.mem_cons.mp h with e | h
        · cases e; exact .inr ⟨_, .head _⟩
        · exact .inl h
      · exact .inr ⟨a, .tail _ h⟩
    · rename_i hk
      apply cellsFrom_has
      rcases h with h | h
      · rcases List.mem_cons.mp h with e | h
        · cases e; simp at hk
        · exact .inl h
      · exact .inr h
theorem newComp_ok {M : Model} {A : Around} {E : Value → Shared → Prop} {s : Shared} {scope : Scope} {globals : Addr} {cl : List (Str × Addr)} {qual : Str} {outer : Env} {builtins : Addr} {Q : Env → Shared → Prop}
    (hQ : Q (newEnv scope s.heap.objs.size globals (cellsFrom (s.heap.objs.size + 1) scope.names cl) qual none .none (some outer) builtins) { s with heap := pushCells (s.heap.push { cls := .type "dict", data := .dict #[] }) scope.names }) :
    wpAny M A (newFunctionEnv scope globals cl [] qual none .none (some outer) builtins) Q E s := by
  simp only [newFunctionEnv, Option.isSome_some, if_true]
  refine wpAny_bind (wpAny_alloc ?_)
  refine wpAny_bind (wpAny_layCells _ (fun name kind cells => by cases hkc : kind == NameKind.cell <;> simp [hkc]) _ _ _ _ ?_)
  rw [show ({ s with heap := s.heap.push { cls := .type "dict", data := .dict #[] } } : Shared).heap.objs.size = s.heap.objs.size + 1 from Heap.size_push ..]
  refine wpAny_bind ?_
  rw [List.forIn_nil]
  exact wpAny_pure (wpAny_pure hQ)
theorem compB_at {Γ : Sc} {scope : Scope} {ts : List Str} (h : compB Γ scope ts = true) : scope.kind = .function ∧ (∀ x ∈ scope.names, scope.names.lookup x.1 = some x.2) ∧ (∀ x ∈ scope.names, compK Γ ts x = true) ∧ ((".0" : Str) ∉ Γ.nt ∧ (".0" : Str) ∉ ts) := by
  simp only [compB, Bool.and_eq_true, beq_iff_eq, List.all_eq_true, Bool.not_eq_true', List.contains_eq_mem, decide_eq_false_iff_not, List.mem_append, not_or] at h
  exact ⟨h.1.1.1, fun x hx => h.1.1.2 x hx, h.1.2, h.2⟩
theorem mem_of_lookup' {α : Type} {l : List (Str × α)} {n : Str} {c : α} (h : l.lookup n = some c) : (n, c) ∈ l := mem_of_lookup h
theorem fr_comp {c : Cx} {scope : Scope} {ts : List Str} {C : Addr} {cs : List (Str × Addr)} {ω₀ : Wd} {h₀ h : Heap} {m : Fm} {X : List Addr} (F : FR c ω₀ h₀ m) (hB : compB c.Γ scope ts = true) (k : ∀ b o, h₀.get? b = some o → h.get? b = some o)
    (hexl : ∀ a ∈ ω₀.ex, (h₀.get? a).isSome = true)
    (hns : h.Ns C (fun _ => none)) (hcs : ∀ n a, (n, a) ∈ cs → h.IsCell a none ∧ h₀.get? a = none ∧ (n, .cell) ∈ scope.names) (hap : cs.Pairwise fun x y => x.2 ≠ y.2)
    (hcx : ∀ n, (n, .cell) ∈ scope.names → ∃ a, (n, a) ∈ cs) (hX1 : C ∈ X) (hX2 : ∀ n a, (n, a) ∈ cs → a ∈ X) (hXn : ∀ a ∈ X, h₀.get? a = none) (ap : ∀ a ∈ ω₀.mu, a ∉ ω₀.ex ++ X) :
    FR ⟨c.B, c.A, compEnvC scope (cs ++ clOf c.env scope.names []) C c.env, C :: cs.map (·.2), compG c.Γ scope ts⟩ ⟨ω₀.mu, ω₀.ex ++ X⟩ h (m ++ List.replicate ts.length none) := by
  obtain ⟨b1, b2, b3, b4, b5⟩ := compB_at hB
  have gc : Carry ω₀ h₀ ⟨ω₀.mu, ω₀.ex ++ X⟩ h := (Carry.more (ω := ω₀) (ω' := ⟨ω₀.mu, ω₀.ex ++ X⟩) rfl fun a ha => (List.mem_append.mp ha).imp id (hXn a)).trans (.of_keep k)
  have hbound : ∀ (i : Nat) (x : Str) (p : PV), (compG c.Γ scope ts).vis i x = true → (m ++ List.replicate ts.length none)[i]? = some (some p) → c.Γ.vis i x = true ∧ m[i]? = some (some p) ∧ x ∉ ts ∧ x ∈ c.Γ.nt := by
    intro i x p hv hm
    have hi : i < m.length := by
      by_cases q : i < m.length
      · exact q
      · rw [List.getElem?_append_right (by omega), List.getElem?_replicate] at hm
        split at hm <;> cases hm
    rw [List.getElem?_append_left hi] at hm
    obtain ⟨v1, v2⟩ := Sc.vis_at hv
    have hi' : i < c.Γ.nt.length := F.len ▸ hi
    have v1' : c.Γ.nt[i]? = some x := by
      have : (c.Γ.nt ++ ts)[i]? = some x := v1
      rwa [List.getElem?_append_left hi'] at this
    have v2' : x ∉ (c.Γ.nt ++ ts).drop (i + 1) := v2
    rw [List.drop_append, List.mem_append, not_or] at v2'
    have hz : i + 1 - c.Γ.nt.length = 0 := by omega
    rw [hz, List.drop_zero] at v2'
    refine ⟨?_, hm, v2'.2, List.mem_of_getElem? v1'⟩
    simp only [Sc.vis, v1', List.contains_eq_mem, Bool.and_eq_true, Bool.not_eq_true', decide_eq_false_iff_not, beq_self_eq_true, true_and]
    exact v2'.1
  have hlk : ∀ x k', (compG c.Γ scope ts).names.lookup x = some k' → ∃ k₀, (x, k₀) ∈ scope.names ∧ relK c.Γ x k₀ = k' := by
    intro x k' hx
    have hx' : (relN c.Γ scope.names).lookup x = some k' := hx
    rw [lookup_relN, Option.map_eq_some_iff] at hx'
    obtain ⟨k₀, e1, e2⟩ := hx'
    exact ⟨k₀, mem_of_lookup e1, e2⟩
  -- the cells
  have hcells : ∀ (x : Str) (a : Addr), (cs ++ clOf c.env scope.names []).lookup x = some a → ((x, a) ∈ cs) ∨ ((x, NameKind.free) ∈ scope.names ∧ c.env.cells.lookup x = some a) := by
    intro x a hx
    rw [List.lookup_append] at hx
    cases q : cs.lookup x with
    | some b => rw [q] at hx; cases hx; exact .inl (mem_of_lookup q)
    | none =>
      rw [q] at hx
      have hm := mem_of_lookup (l := clOf c.env scope.names []) hx
      rcases clOf_mem hm with h1 | ⟨h1, h2⟩
      · cases h1
      · refine .inr ⟨h1, ?_⟩
        have := b3 _ h1
        simp only [compK, Bool.or_eq_true, beq_iff_eq] at this
        obtain ⟨a', v, e, _⟩ := F.celo x this
        rw [e] at h2 ⊢; rw [h2]; rfl
  have hfree : ∀ x, (x, NameKind.free) ∈ scope.names → ∃ a v, (cs ++ clOf c.env scope.names []).lookup x = some a ∧ c.env.cells.lookup x = some a ∧ h₀.IsCell a v := by
    intro x hx
    have := b3 _ hx
    simp only [compK, Bool.or_eq_true, beq_iff_eq] at this
    obtain ⟨a, v, e, hc⟩ := F.celo x this
    have hnone : cs.lookup x = none := by
      cases q : cs.lookup x with
      | none => rfl
      | some b =>
        have h1 := (hcs x b (mem_of_lookup q)).2.2
        have h2 := b2 _ h1; have h3 := b2 _ hx
        simp only at h2 h3
        rw [h2] at h3; cases h3
    obtain ⟨a', ha'⟩ := clOf_has (env := c.env) (names := scope.names) (acc := []) (.inl hx)
    obtain ⟨b, hb⟩ := lookup_of_mem ha'
    have hl : (cs ++ clOf c.env scope.names []).lookup x = some b := by rw [List.lookup_append, hnone]; exact hb
    rcases hcells x b hl with q | ⟨_, q⟩
    · obtain ⟨d, hd⟩ := lookup_of_mem q; rw [hnone] at hd; cases hd
    · rw [q] at e; cases e
      exact ⟨_, v, hl, q, hc⟩
  have hcellk : ∀ x, (x, NameKind.cell) ∈ scope.names → ∃ a, (cs ++ clOf c.env scope.names []).lookup x = some a ∧ (x, a) ∈ cs := by
    intro x hx
    obtain ⟨a, ha⟩ := hcx x hx
    obtain ⟨b, hb⟩ := lookup_of_mem ha
    exact ⟨b, by rw [List.lookup_append, hb]; rfl, mem_of_lookup hb⟩
  refine ⟨?_, b1, ?_, F.glob, F.blt, fun a ha => ?_, ap, .head _, ⟨_, hns, fun i x p h1 h2 h3 => ?_⟩, fun i x p h1 h2 h3 => ?_, fun x h1 => ?_, fun x a hx => ?_, fun x hx a ha => ?_, fun x y a hx hy => ?_, ?_⟩
  · show (m ++ List.replicate ts.length none).length = (c.Γ.nt ++ ts).length
    simp [F.len]
  · exact relabel_eq F.kind F.names
  · rcases List.mem_cons.mp ha with rfl | ha
    · exact List.mem_append_right _ hX1
    · obtain ⟨⟨n, b⟩, hb, rfl⟩ := List.mem_map.mp ha
      exact List.mem_append_right _ (hX2 n b hb)
  · obtain ⟨g1, g2, g3, g4⟩ := hbound i x p h1 h2
    obtain ⟨k₀, e1, e2⟩ := hlk x _ h3
    have : k₀ = .local := by
      unfold relK at e2
      split at e2
      · cases e2
      · exact e2
    subst this
    have := b3 _ e1
    simp only [compK, Bool.or_eq_true, beq_iff_eq, List.contains_eq_mem, decide_eq_true_eq] at this
    rcases this with q | q
    · exact absurd (q ▸ g4) b4
    · exact absurd q g3
  · obtain ⟨g1, g2, g3, g4⟩ := hbound i x p h1 h2
    have hfr : (x, NameKind.free) ∈ scope.names := by
      rcases h3 with h3 | h3
      all_goals
        obtain ⟨k₀, e1, e2⟩ := hlk x _ h3
        unfold relK at e2
        split at e2
        · rename_i hc
          simp only [Bool.and_eq_true, beq_iff_eq] at hc
          rw [hc.1] at e1; exact e1
        · subst e2
          first
            | exact e1
            | (have := b3 _ e1
               simp only [compK, List.contains_eq_mem, decide_eq_true_eq] at this
               exact absurd this g3)
    obtain ⟨a, v, e1, e2, e3⟩ := hfree x hfr
    have := b3 _ hfr
    simp only [compK, Bool.or_eq_true, beq_iff_eq] at this
    obtain ⟨a', v', q1, q2, q3⟩ := F.cel i x p g1 g2 this
    rw [e2] at q1; cases q1
    exact ⟨a, v', e1, q2.keeps k, q3.carry gc⟩
  · have hk : (x, NameKind.free) ∈ scope.names ∨ (x, NameKind.cell) ∈ scope.names := by
      rcases h1 with h3 | h3
      all_goals
        obtain ⟨k₀, e1, e2⟩ := hlk x _ h3
        unfold relK at e2
        split at e2
        · rename_i hc
          simp only [Bool.and_eq_true, beq_iff_eq] at hc
          rw [hc.1] at e1; exact .inl e1
        · subst e2
          first | exact .inl e1 | exact .inr e1
    rcases hk with hk | hk
    · obtain ⟨a, v, e1, e2, e3⟩ := hfree x hk
      exact ⟨a, v, e1, e3.keeps k⟩
    · obtain ⟨a, e1, e2⟩ := hcellk x hk
      exact ⟨a, none, e1, (hcs x a e2).1⟩
  · rcases hcells x a hx with q | ⟨_, q⟩
    · exact List.mem_append_right _ (hX2 x a q)
    · exact List.mem_append_left _ (F.celx x a q)
  · rcases hcells x a ha with q | ⟨q, _⟩
    · exact .tail _ (List.mem_map.mpr ⟨(x, a), q, rfl⟩)
    · have hx' : x ∈ (scope.names.filter fun x => x.2 == .cell).map (·.1) := hx
      obtain ⟨⟨n, k₀⟩, h1, rfl⟩ := List.mem_map.mp hx'
      rw [List.mem_filter] at h1
      have hk : k₀ = .cell := beq_iff_eq.mp h1.2
      subst hk
      have e1 := b2 _ h1.1; have e2 := b2 _ q
      simp only at e1 e2
      rw [e1] at e2; cases e2
  · rcases hcells x a hx with q | ⟨_, q⟩ <;> rcases hcells y a hy with q' | ⟨_, q'⟩
    · exact name_of_addr hap q q'
    · have := hexl a (F.celx y a q'); rw [(hcs x a q).2.1] at this; cases this
    · have := hexl a (F.celx x a q); rw [(hcs y a q').2.1] at this; cases this
    · exact F.inj x y a q q'
  · obtain ⟨l, hl, hll⟩ := F.ff
    refine ⟨l, hl, fun e he => ?_⟩
    obtain ⟨h1, L, f', h2, h3, h4⟩ := hll e he
    exact ⟨h1, L, f', h2, List.mem_append_left _ h3, ns_ko h4 fun o e _ => .same (k L o e)⟩
end Sh
namespace Sh
open PySem PySem.Calls PyProof.Rows PySem.W PySem.Spec
theorem Gx.carry {ω ω' : Wd} {h h' : Heap} {X : List Addr} (g : Gx ω [] h ω' h' X) : Carry ω h ω' h' :=
  ⟨fun a o f => ⟨g.notin f.1 f.2.2.1, fun q => (List.mem_append.mp (g.ex ▸ q)).elim f.2.1 fun q => (nomatch (g.new a q).symm.trans f.2.2.1), (g.kp a o f.2.2.1 f.2.2.2.2 f.1 (fun q => nomatch q)).2 f.2.2.2.1, f.2.2.2⟩,
    fun i a ha => g.ext.elim fun e q => by rw [q.1]; exact (List.getElem?_append_left (List.getElem?_eq_some_iff.mp ha).1).trans ha⟩
theorem FR.gx {c : Cx} {ω ω' : Wd} {h h' : Heap} {m : Fm} {X : List Addr} (F : FR c ω h m) (g : Gx ω [] h ω' h' X) (ap : ∀ a ∈ ω'.mu, a ∉ ω'.ex) : FR c ω' h' m :=
  have kk : ∀ a ∈ ω.ex, ∀ o, h.get? a = some o → ¬ Tbl o → KO o (h'.get? a) := fun a ha o e ht => g.kp a o e ht (fun q => F.apart a q ha) (fun q => nomatch q)
  F.map (fun a ha => by rw [g.ex]; exact List.mem_append_left _ ha) ap g.carry (fun L _ hL q => ns_ko q (kk L hL)) fun b _ hb q => cell_ko q (kk b hb)
theorem none_of_le {h : Heap} {a : Addr} (ha : h.objs.size ≤ a) : h.get? a = none := by
  cases q : h.get? a with
  | none => rfl
  | some o => exact absurd (Heap.lt_size q) (Nat.not_lt.mpr ha)
theorem Gx.pre {ω ω₁ ω₂ : Wd} {own : List Addr} {h h₁ h₂ : Heap} {X : List Addr} (g : Gw ω own h ω₁ h₁) (g' : Gx ω₁ own h₁ ω₂ h₂ X) : Gx ω own h ω₂ h₂ X := by
  refine ⟨?_, by rw [g'.ex, g.ex], fun b o e ht hm ho => ?_, fun b o e => let ⟨o', e'⟩ := g.there b o e; g'.there b o' e', fun a ha => ?_⟩
  · obtain ⟨e, q, he⟩ := g.ext
    obtain ⟨e', q', he'⟩ := g'.ext
    refine ⟨e ++ e', by rw [q', q]; simp, fun a ha => ?_⟩
    rcases List.mem_append.mp ha with q | q
    · exact he a q
    · cases q' : h.get? a with
      | none => rfl
      | some o => obtain ⟨o', e1⟩ := g.there a o q'; rw [he' a q] at e1; cases e1
  · exact (g.kp b o e ht hm ho).trans (fun o' e' ht' => g'.kp b o' e' ht' (g.notin hm e) ho) ht
  · cases q : h.get? a with
    | none => rfl
    | some o => obtain ⟨o', e'⟩ := g.there a o q; rw [g'.new a ha] at e'; cases e'
theorem Gx.part {ω ω' : Wd} {own : List Addr} {h h' : Heap} {X X' : List Addr} (g : Gx ω own h ω' h' X) (hx : ∀ a ∈ X', a ∈ X) : Gx ω own h ⟨ω'.mu, ω.ex ++ X'⟩ h' X' :=
  ⟨g.ext, rfl, g.kp, g.there, fun a ha => g.new a (hx a ha)⟩
/- the heap with all that a comprehension makes -/
section
variable (sc : Scope) (h : Heap) (it : Addr)
noncomputable def nH3 : Heap := h.push { cls := .type "list", dict := none, data := .seq ([] : List Value).toArray }
noncomputable def nC : Nat := (nH3 h).objs.size
noncomputable def nH4 : Heap := (nH3 h).push { cls := .type "dict", data := .dict #[] }
noncomputable def nH5 : Heap := pushCells (nH4 h) sc.names
noncomputable def ncs : List (Str × Addr) := cellsFrom (nC h + 1) sc.names []
noncomputable def nX : List Addr := h.objs.size :: it :: nC h :: (ncs sc h).map (·.2)
end
structure NC (sc : Scope) (h₁ h : Heap) (it : Addr) : Prop where
  k : ∀ b o, h₁.get? b = some o → (nH5 sc h).get? b = some o
  kt : ∀ b o, h.get? b = some o → (nH5 sc h).get? b = some o
  hL : (nH5 sc h).get? h.objs.size = some { cls := .type "list", dict := none, data := .seq ([] : List Value).toArray }
  ns : (nH5 sc h).Ns (nC h) (fun _ => none)
  cells : ∀ n a, (n, a) ∈ ncs sc h → (nH5 sc h).IsCell a none ∧ h₁.get? a = none ∧ (n, .cell) ∈ sc.names
  ap : (ncs sc h).Pairwise fun x y => x.2 ≠ y.2
  Dit : h.objs.size ≠ it
  itC : it ≠ nC h
  DX : h.objs.size ∉ nC h :: (ncs sc h).map (·.2)
  itX : it ∉ nC h :: (ncs sc h).map (·.2)
  none : ∀ a ∈ nX sc h it, h₁.get? a = none
  live : ∀ a ∈ nX sc h it, ((nH5 sc h).get? a).isSome = true
theorem nc_of {sc : Scope} {h₁ h : Heap} {it : Addr} (k : ∀ b o, h₁.get? b = some o → h.get? b = some o) (hit : (h.get? it).isSome = true) (hn : h₁.get? it = none) : NC sc h₁ h it := by
  have hC : nC h = h.objs.size + 1 := Heap.size_push ..
  have hH4s : (nH4 h).objs.size = nC h + 1 := Heap.size_push ..
  have ok := cellsFrom_ok sc.names (nH4 h) (nH4 h).objs.size [] ⟨(fun _ _ hm => nomatch hm), List.Pairwise.nil⟩ (Nat.le_refl _)
  rw [hH4s] at ok
  have k35 : ∀ b o, (nH3 h).get? b = some o → (nH5 sc h).get? b = some o := fun b o e => pushCells_keeps sc.names (nH4 h) b o (keep_push _ _ b o e)
  have k25 : ∀ b o, h.get? b = some o → (nH5 sc h).get? b = some o := fun b o e => k35 b o (keep_push _ _ b o e)
  have itl : it < h.objs.size := (Option.isSome_iff_exists.mp hit).elim fun _ e => Heap.lt_size e
  have nle : ∀ a : Nat, h.objs.size ≤ a → h₁.get? a = none := fun a ha =>
    match q : h₁.get? a with
    | none => rfl
    | some o => absurd (Heap.lt_size (k a o q)) (Nat.not_lt.mpr ha)
  have gt : ∀ (n : Str) (a : Nat), (n, a) ∈ ncs sc h → nC h < a := fun n a hm => (ok.empty n a hm).2
  have ns4 : (nH4 h).Ns (nC h) (fun _ => none) := Heap.Ns.new (nH3 h) (.type "dict")
  have ns5 : (nH5 sc h).Ns (nC h) (fun _ => none) := ns_ko ns4 fun o e _ => .same (pushCells_keeps sc.names (nH4 h) _ _ e)
  have hL : (nH5 sc h).get? h.objs.size = some { cls := .type "list", dict := none, data := .seq ([] : List Value).toArray } := k35 _ _ (new_get _ _ rfl)
  have cells : ∀ n a, (n, a) ∈ ncs sc h → (nH5 sc h).IsCell a none ∧ h₁.get? a = none ∧ (n, .cell) ∈ sc.names := fun n a hm =>
    ⟨(ok.empty n a hm).1, nle a (Nat.le_of_lt (Nat.lt_of_le_of_lt (hC ▸ Nat.le_succ _) (gt n a hm))), (cellsFrom_mem hm).elim (fun q => nomatch q) id⟩
  refine ⟨fun b o e => k25 b o (k b o e), k25, hL, ns5, cells, ok.apart, Nat.ne_of_gt itl, hC ▸ Nat.ne_of_lt (Nat.lt_succ_of_lt itl), fun q => ?_, fun q => ?_, fun a ha => ?_, fun a ha => ?_⟩
  · rcases List.mem_cons.mp q with q | q
    · exact absurd (q.trans hC) (Nat.ne_of_lt (Nat.lt_succ_self _))
    · have ⟨⟨n, b⟩, hb, hbe⟩ := List.mem_map.mp q
      exact absurd (show h.objs.size + 1 < b from hC ▸ gt n b hb) (Nat.not_lt.mpr (Nat.le_trans (Nat.le_of_eq (show b = h.objs.size from hbe)) (Nat.le_succ _)))
  · rcases List.mem_cons.mp q with q | q
    · exact absurd (q.trans hC) (Nat.ne_of_lt (Nat.lt_succ_of_lt itl))
    · have ⟨⟨n, b⟩, hb, hbe⟩ := List.mem_map.mp q
      exact absurd (show h.objs.size + 1 < b from hC ▸ gt n b hb) (Nat.not_lt.mpr (Nat.le_of_lt (Nat.lt_succ_of_lt ((show b = it from hbe) ▸ itl))))
  · rcases List.mem_cons.mp ha with rfl | ha
    · exact nle _ (Nat.le_refl _)
    rcases List.mem_cons.mp ha with rfl | ha
    · exact hn
    rcases List.mem_cons.mp ha with rfl | ha
    · exact nle _ (hC ▸ Nat.le_succ _)
    have ⟨⟨n, b⟩, hb, hbe⟩ := List.mem_map.mp ha
    exact hbe ▸ (cells n b hb).2.1
  · rcases List.mem_cons.mp ha with rfl | ha
    · rw [hL]; rfl
    rcases List.mem_cons.mp ha with rfl | ha
    · exact (Option.isSome_iff_exists.mp hit).elim fun o e => by rw [k25 _ _ e]; rfl
    rcases List.mem_cons.mp ha with rfl | ha
    · exact ns5.elim fun o q => q.elim fun _ q => q.elim fun _ q => by rw [q.1]; rfl
    have ⟨⟨n, b⟩, hb, hbe⟩ := List.mem_map.mp ha
    exact (cells n b hb).1.elim fun o q => by rw [← hbe, q.1]; rfl
section
variable {c : Cx} {Φ : Nat → Option Spec}
/-- a comprehension's own frame -/
noncomputable def cx2 (c : Cx) (sc : Scope) (ts : List Str) (h : Heap) : Cx := ⟨c.B, c.A, compEnvC sc (ncs sc h ++ clOf c.env sc.names []) (nC h) c.env, nC h :: (ncs sc h).map (·.2), compG c.Γ sc ts⟩
/-- how a comprehension's text is shown -/
structure CompOk (c : Cx) (Φ : Nat → Option Spec) (ar : Nat) (xe xit : X) (xi : XL) (elt target iter : Expr) (ifs : List Expr) (scope : Scope) (ts : List Str) : Prop where
  hh : c.A.handled = none
  hit : SE c iter (ev Φ xit)
  hset : ∀ x, foldedSetIterable iter c.env x = pure x
  hB : compB c.Γ scope ts = true
  hts : ts.length = ar
  htg : targT (compG c.Γ scope ts) (List.range' c.Γ.nt.length ar) target = true
  he : ∀ c' : Cx, c'.B = c.B → c'.A = c.A → c'.Γ = compG c.Γ scope ts → SE c' elt (ev Φ xe)
  hi : ∀ c' : Cx, c'.B = c.B → c'.A = c.A → c'.Γ = compG c.Γ scope ts → A2 c' Φ xi ifs
/-- the way on where the list is used at once -/
noncomputable def KU (c : Cx) (ω : Wd) (s : Shared) (m : Fm) (σ' : St) (p : PV) (E : Value → Shared → Prop) (u : Value → Sem Unit) (Q : Value → Shared → Prop) : Prop :=
  ∀ v ω' s' X C f, Gx ω [] s.heap ω' s'.heap X → Inv c.B ω' σ' s' → FR c ω' s'.heap m → VR c.B.C ω' s'.heap p v → C ∈ X → C ∉ c.own → s'.heap.Ns C f →
      wpAny (model c.B.prog c.B.w) c.A (u v) (fun _ s'' => ∃ f, s''.heap.Ns C f ∧ ∀ h', Heap.SameBut C s''.heap h' → Q .none { s'' with heap := h' }) E s'
noncomputable def KC (c : Cx) (ω : Wd) (s : Shared) (m : Fm) (σ' : St) (p : PV) (E : Value → Shared → Prop) (use : Option (Value → Sem Unit)) (Q : Value → Shared → Prop) : Prop := match use with
  | none => KV c.B ω s.heap σ' p Q
  | some u => KU c ω s m σ' p E u Q
section
variable {sc : Scope} {ts : List Str} {ω₁ ω₂ : Wd} {σ' : St} {s₁ s' : Shared} {h h' : Heap} {it : Addr} {n : Option Nat} {l res : List PV} {m mm : Fm} {vs : Array Value} {en i : Nat}
theorem cl_ns (N : NC sc s₁.heap h it) (S : CL (cx2 c sc ts h) (nX sc h it) ω₁ s₁.heap it h.objs.size n l m mm res vs en i ω₂ s'.heap) (hext : Heap.ExtBut it s'.heap h') : ∃ f, h'.Ns (nC h) f :=
  S.F.ns.elim fun f q => ⟨f, ns_ko q.1 fun o e _ => .same (hext _ o (Ne.symm N.itC) e)⟩
theorem cl_vr {ω' : Wd} {h'' : Heap} (N : NC sc s₁.heap h it) (S : CL (cx2 c sc ts h) (nX sc h it) ω₁ s₁.heap it h.objs.size n l m mm res vs en i ω₂ s'.heap) (hm : ω'.mu = ω₂.mu) (hD : h.objs.size ∉ ω'.ex) (gc : Carry ω₂ s'.heap ω' h'') (k : ∀ o, s'.heap.get? h.objs.size = some o → h''.get? h.objs.size = some o) :
    VR c.B.C ω' h'' (.lst res) (.ref h.objs.size) :=
  .lst_in ⟨fun q => S.F.apart _ (hm ▸ q) (S.inX (.head _)), hD, k _ S.hL, fun ⟨_, _, e⟩ => (nomatch e), fun q => (nomatch q.1)⟩ rfl rfl (S.hr.carry gc)
theorem comp_none (N : NC sc s₁.heap h it) (S : CL (cx2 c sc ts h) (nX sc h it) ω₁ s₁.heap it h.objs.size n l m mm res vs en i ω₂ s'.heap) (I' : Inv c.B ω₂ σ' s') (old : ∀ b ∈ ω₁.ex, b ∉ nX sc h it) (hext : Heap.ExtBut it s'.heap h') {Q : Value → Shared → Prop}
    (k : KV c.B ω₁ s₁.heap σ' (.lst res) Q) : ∃ f, h'.Ns (nC h) f ∧ ∀ h'', Heap.SameBut (nC h) h' h'' → Q (.ref h.objs.size) { s' with heap := h'' } := by
  have hx : ∀ b ∈ ω₁.ex, b ∈ ω₂.ex := fun b hb => by rw [S.g.ex]; exact List.mem_append_left _ hb
  have hCx : nC h ∈ ω₂.ex := S.inX (.tail _ (.tail _ (.head _)))
  refine (cl_ns N S hext).elim fun f hf => ⟨f, hf, fun h'' hs => k _ ⟨ω₂.mu, ω₁.ex⟩ _ ((S.g.stepAt (.tail _ (.head _)) hext).stepAt (.tail _ (.tail _ (.head _))) hs.extBut).drop ?_
    (cl_vr N S rfl (fun q => old _ q (.head _)) (((Carry.of_ex (S.inX (.tail _ (.head _))) hext).trans (.of_ex hCx hs.extBut)).trans (.less rfl hx)) fun o e => hs.extBut _ o (fun q => N.DX (q ▸ .head _)) (hext _ o N.Dit e))⟩
  have J := I'.last (ex' := ω₁.ex ++ [nC h]) (tk := s'.toks) (S.inX (.tail _ (.head _))) (fun b hb => (List.mem_append.mp hb).elim (fun q => ⟨hx b q, fun z => old b q (z ▸ .tail _ (.head _))⟩) fun q => List.mem_singleton.mp q ▸ ⟨hCx, Ne.symm N.itC⟩) hext
  exact Inv.last (ω := ⟨ω₂.mu, ω₁.ex ++ [nC h]⟩) (s := { s' with heap := h' }) (tk := s'.toks) J (List.mem_append_right _ (.head _)) (fun b hb => ⟨List.mem_append_left _ hb, fun z => old b hb (z ▸ .tail _ (.tail _ (.head _)))⟩) hs.extBut
theorem comp_some (N : NC sc s₁.heap h it) (F₁ : FR c ω₁ s₁.heap m) (S : CL (cx2 c sc ts h) (nX sc h it) ω₁ s₁.heap it h.objs.size n l m mm res vs en i ω₂ s'.heap) (I' : Inv c.B ω₂ σ' s') (old : ∀ b ∈ ω₁.ex, b ∉ nX sc h it) (hext : Heap.ExtBut it s'.heap h') {Q E : Value → Shared → Prop} {u : Value → Sem Unit}
    (k : KU c ω₁ s₁ m σ' (.lst res) E u Q) : wpAny (model c.B.prog c.B.w) c.A (u (.ref h.objs.size)) (fun _ s'' => ∃ f, s''.heap.Ns (nC h) f ∧ ∀ h', Heap.SameBut (nC h) s''.heap h' → Q .none { s'' with heap := h' }) E { s' with heap := h' } := by
  have hx : ∀ b ∈ ω₁.ex ++ (nC h :: (ncs sc h).map (·.2)), b ∈ ω₂.ex := fun b hb => by
    rw [S.g.ex]
    exact (List.mem_append.mp hb).elim (List.mem_append_left _) fun q => List.mem_append_right _ (.tail _ (.tail _ q))
  have J := I'.last (ex' := ω₁.ex ++ (nC h :: (ncs sc h).map (·.2))) (tk := s'.toks) (S.inX (.tail _ (.head _))) (fun b hb => ⟨hx b hb, fun z => (List.mem_append.mp hb).elim (fun q => old b q (z ▸ .tail _ (.head _))) fun q => N.itX (z ▸ q)⟩) hext
  have g2 := (S.g.stepAt (.tail _ (.head _)) hext).part (X' := nC h :: (ncs sc h).map (·.2)) fun a ha => .tail _ (.tail _ ha)
  exact (cl_ns N S hext).elim fun f hf => k _ ⟨ω₂.mu, ω₁.ex ++ (nC h :: (ncs sc h).map (·.2))⟩ _ (nC h :: (ncs sc h).map (·.2)) (nC h) f g2 J (F₁.gx g2 J.apart)
    (cl_vr N S rfl (fun q => (List.mem_append.mp q).elim (fun q => old _ q (.head _)) N.DX) ((Carry.of_ex (S.inX (.tail _ (.head _))) hext).trans (.less rfl hx)) fun o e => hext _ o N.Dit e) (.head _) (fun q => old _ (F₁.own _ q) (.tail _ (.tail _ (.head _)))) hf
end
theorem comp_run {ar : Nat} {xe xit : X} {xi : XL} {elt target iter : Expr} {ifs : List Expr} {scope : Scope} {pos pos' : Pos} {ts : List Str} {ω : Wd} {m : Fm} {σ σ' : St} {s : Shared} {E Q : Value → Shared → Prop} {p : PV} {use : Option (Value → Sem Unit)}
    (K : CompOk c Φ ar xe xit xi elt target iter ifs scope ts) (F : FR c ω s.heap m) (I : Inv c.B ω σ s) (e : ev Φ (.comp ar xe xit xi) m σ = some (p, σ')) (k : ∀ (ω₁ : Wd) (s₁ : Shared), Gw ω [] s.heap ω₁ s₁.heap → KC c ω₁ s₁ m σ' p E use Q) :
    wpAny (model c.B.prog c.B.w) c.A (comprehension (.ListComp elt [⟨target, iter, ifs, 0⟩] scope pos) scope c.env pos' (newList []) false (eval iter c.env) use) Q E s := by
  refine sq_el e fun pi σ₁ e₁ e => bd_el e fun ln e₂ e => sq_el e fun res σ₂ e₃ e => ?_
  have b := compB_at K.hB
  have hfree : ∀ x, (x, NameKind.free) ∈ scope.names → ∃ a, c.env.cells.lookup x = some a := fun x hx => by
    have := b.2.2.1 _ hx
    simp only [compK, Bool.or_eq_true, beq_iff_eq] at this
    exact (F.celo x this).elim fun a q => q.elim fun _ q => ⟨a, q.1⟩
  refine wpAny_comprehension_free (use := use) rfl K.hset (closure_ok hfree) b.1 (fun x hx hl => hl ▸ b.2.1 x hx) (K.hit ω m σ s _ E pi σ₁ F I e₁ fun v ω₁ s₁ G₁ I₁ x₁ => iter_ok (l := ln.1) (n := ln.2) I₁ x₁ e₂ fun it h hitn hito hk hI => ?_)
  have F₁ := F.gw G₁ I₁.apart
  refine wpAny_newObj_type (newComp_ok ?_)
  have N : NC scope s₁.heap h it := nc_of hk hito hitn
  have I₅ : Inv c.B ⟨ω₁.mu, ω₁.ex ++ nX scope h it⟩ σ₁ { s₁ with heap := nH5 scope h } := I₁.bar (tk := s₁.toks) N.k rfl fun a ha => (List.mem_append.mp ha).imp id fun q => ⟨N.none a q, N.live a q⟩
  have F₅ := fr_comp (X := nX scope h it) F₁ K.hB N.k I₁.exl (C := nC h) (cs := ncs scope h) N.ns N.cells N.ap (fun n hn => cellsFrom_has (n := nC h + 1) (acc := []) (.inl hn)) (.tail _ (.tail _ (.head _))) (fun n a hm => .tail _ (.tail _ (.tail _ (List.mem_map.mpr ⟨(n, a), hm, rfl⟩)))) N.none I₅.apart
  have hI₅ : Itr c.B.C ⟨ω₁.mu, ω₁.ex ++ nX scope h it⟩ (nH5 scope h) it 0 ln.2 ln.1 := hI _ _ rfl (fun a ha => (List.mem_append.mp ha).imp id (N.none a)) N.kt
  have old : ∀ b ∈ ω₁.ex, b ∉ nX scope h it := fun b hb q => by have := I₁.exl b hb; rw [N.none b q] at this; exact Bool.false_ne_true this
  have loop : codeAny (model c.B.prog c.B.w) c.A (.compLoop (.ListComp elt [⟨target, iter, ifs, 0⟩] scope pos) 0 (.ref it) (.ref h.objs.size) (cx2 c scope ts h).env) (compPost (model c.B.prog c.B.w) c.A E use Q (.ref h.objs.size) (nC h)) { s₁ with heap := nH5 scope h } :=
    comp_loop (c := cx2 c scope ts h) (ω₀ := ω₁) (h₀ := s₁.heap) (X := nX scope h it) (m := m) (ar := ar) K.hh (by rw [F.len]; exact K.htg) (K.he _ rfl rfl rfl) (K.hi _ rfl rfl rfl) ⟨fun a ha => N.none a (.tail _ (.tail _ ha)), .head _, .tail _ (.head _), N.Dit, N.DX, N.itX⟩
      (fun ω₂ s' h' vs en mm i S I' hext => pr_el (P := fun p σ' => KC c ω₁ s₁ m σ' p E use Q → compPost (model c.B.prog c.B.w) c.A E use Q (.ref h.objs.size) (nC h) (.ok .next) { s' with heap := h' }) e (fun k => by
        cases use with
        | none => exact comp_none N S I' old hext k
        | some u => exact comp_some N F₁ S I' old hext k) (k ω₁ s₁ G₁))
      I₅ ⟨Gx.of_gw (.refl _ _ _) N.k N.none, F₅, hI₅, N.hL, .nil⟩ (by rw [List.length_replicate, K.hts]) e₃
  have goal := codeAny_compStart_list (prog := c.B.prog) (w := c.B.w) (A := c.A) (rest := []) loop (self_ok (B := c.B) (ω := ⟨ω₁.mu, ω₁.ex ++ nX scope h it⟩) (s := { s₁ with heap := nH5 scope h }) hI₅ loop)
  rw [cellsFrom_app]
  exact goal
end
end Sh
namespace Sh
open PySem PySem.Calls PyProof.Rows PySem.W PySem.Spec
inductive SR where
  | next | ret (p : PV) | brk | cont | exc (x : Str) | exm (x : Str)
abbrev EvS := Fm → St → Option (SR × Fm × St)
noncomputable def s3 {β : Type} (o : Option (SR × Fm × St)) (f : SR → Fm → St → Option β) : Option β := match o with | some (a, m, σ) => f a m σ | none => none
theorem s3_el {β : Type} {G : Prop} {o : Option (SR × Fm × St)} {f : SR → Fm → St → Option β} {r : β} (e : s3 o f = some r) (k : ∀ a m σ, o = some (a, m, σ) → f a m σ = some r → G) : G :=
  match o, e, k with
  | some (a, m, σ), e, k => k a m σ rfl e
  | none, e, _ => nn e
theorem r3_el {r r' : SR} {m m' : Fm} {σ σ' : St} {P : SR → Fm → St → Prop} (e : some (r, m, σ) = some (r', m', σ')) (k : P r m σ) : P r' m' σ' := by cases so e; exact k
noncomputable def isNext (r : SR) : Bool := match r with | .next => true | _ => false
/- after a turn of a loop -/
noncomputable def loopS (r : SR) (again : Option (SR × Fm × St)) (m : Fm) (σ : St) : Option (SR × Fm × St) := match r with
  | .next => again | .cont => again | .brk => some (.next, m, σ) | .ret p => some (.ret p, m, σ) | _ => none
noncomputable def WH : Nat := 100000
noncomputable def whGo (t : Fm → St → Option (Bool × St)) (b : EvS) : Nat → EvS
  | 0, _, _ => none
  | n + 1, m, σ => sq (t m σ) fun tt σ => cond tt (s3 (b m σ) fun r m σ => loopS r (whGo t b n m σ) m σ) (some (.next, m, σ))
noncomputable def foGo (n : Option Nat) (is : List Nat) (b : EvS) : List PV → Nat → EvS
  | [], k, m, σ => gd (finV n σ k) (some (.next, m, σ))
  | q :: r, k, m, σ => bd (rdV n σ k q) fun p => bd (bindsT is p m) fun m => s3 (b m σ) fun t m σ => loopS t (foGo n is b r (k + 1) m σ) m σ
noncomputable def tst (Φ : Nat → Option Spec) (x : X) (m : Fm) (σ : St) : Option (Bool × St) := sq (ev Φ x m σ) fun p σ => bd (truthyV σ p) fun b => some (b, σ)
noncomputable def augV (op : Operator) (p q : PV) : Option PV := match op with
  | .Add => i2 p q fun a b => some (.int (a + b))
  | .Sub => i2 p q fun a b => some (.int (a - b))
  | _ => none
noncomputable def setV (p q r : PV) (σ : St) : Option St := bd p.loc? fun n => bd q.int? fun k => bd (locL σ n) fun l => gd (decide (0 ≤ k) && (decide (k < l.length) && decide (l.length ≤ LIM))) (some (σ.set n (.lst (l.set k.toNat r))))
noncomputable def valV (p r : PV) (σ : St) : Option St := bd (strmD σ p) fun x => bd r.byt? fun b => gd (decide (b.size ≤ LIM)) (some (σ.set x.1 (.sdict b)))
noncomputable def outA (i : Nat) (o : Out) (m : Fm) (σ : St) : SR × Fm × St := match o with
  | .val p => (.next, m.set i (some p), σ)
  | .exc x => (.exc x, m, σ)
mutual
noncomputable def evS (Φ : Nat → Option Spec) : S → Fm → St → Option (SR × Fm × St)
  | .bad, _, _ => none
  | .ex x, m, σ => sq (ev Φ x m σ) fun _ σ => some (.next, m, σ)
  | .as i x, m, σ => sq (ev Φ x m σ) fun p σ => some (.next, m.set i (some p), σ)
  | .asT is x, m, σ => sq (ev Φ x m σ) fun p σ => bd (bindsT is p m) fun m => some (.next, m, σ)
  | .asW is xs, m, σ => sq (evL Φ xs m σ) fun ps σ => gd (decide (is.length = ps.length) && decide (ps.length ≤ LIM)) (some (.next, setAll is.reverse ps.reverse m, σ))
  | .asI a i x, m, σ => sq (ev Φ x m σ) fun r σ => sq (ev Φ a m σ) fun p σ => sq (ev Φ i m σ) fun q σ => bd (setV p q r σ) fun σ => some (.next, m, σ)
  | .asV a x, m, σ => sq (ev Φ x m σ) fun r σ => sq (ev Φ a m σ) fun p σ => bd (valV p r σ) fun σ => some (.next, m, σ)
  | .aug i op x, m, σ => bd (rdm m i) fun p => sq (ev Φ x m σ) fun q σ => bd (augV op p q) fun r => some (.next, m.set i (some r), σ)
  | .iff t b o, m, σ => sq (ev Φ t m σ) fun p σ => bd (truthyV σ p) fun t => cond t (evSL Φ b m σ) (evSL Φ o m σ)
  | .wh t b, m, σ => whGo (tst Φ t) (evSL Φ b) WH m σ
  | .fo is it b, m, σ => sq (ev Φ it m σ) fun p σ => bd (iterV σ p) fun x => foGo x.2 is (evSL Φ b) x.1 0 m σ
  | .ret x, m, σ => sq (ev Φ x m σ) fun p σ => some (.ret p, m, σ)
  | .asr t, m, σ => sq (ev Φ t m σ) fun p σ => bd (truthyV σ p) fun t => gd t (some (.next, m, σ))
  | .ra x, m, σ => sq (ev Φ x m σ) fun p σ => bd p.str? fun y => some (.exm y, m, σ)
  | .brk, m, σ => some (.brk, m, σ)
  | .cont, m, σ => some (.cont, m, σ)
  | .callA i f xs, m, σ => sq (evL Φ xs m σ) fun ps σ => bd (Φ f) fun sp => sq (sp ps σ) fun o σ => some (outA i o m σ)
  | .tryR b w o, m, σ => s3 (evSL Φ b m σ) fun r m σ => match r with
    | .next => evSL Φ o m σ
    | .exc x => some (.next, m.set w (some (.str x)), σ)
    | _ => none
noncomputable def evSL (Φ : Nat → Option Spec) : SL → Fm → St → Option (SR × Fm × St)
  | .nil, m, σ => some (.next, m, σ)
  | .cons s r, m, σ => s3 (evS Φ s m σ) fun t m σ => cond (isNext t) (evSL Φ r m σ) (some (t, m, σ))
end
/- what a function gives back: lists made in it are given as they are -/
mutual
noncomputable def fzV (n : Nat) (σ : St) : Nat → PV → Option PV
  | 0, _ => none
  | k + 1, p => match p with
    | .none => some .none
    | .bool b => some (.bool b)
    | .int i => some (.int i)
    | .str x => some (.str x)
    | .byt b => some (.byt b)
    | .tup l => (fzL n σ k l).map .tup
    | .lst l => (fzL n σ k l).map .lst
    | .loc a => cond (decide (a < n)) (some (.loc a)) (bd (locL σ a) fun l => (fzL n σ k l).map .lst)
    | _ => none
noncomputable def fzL (n : Nat) (σ : St) : Nat → List PV → Option (List PV)
  | 0, _ => none
  | k + 1, l => match l with
    | [] => some []
    | p :: r => bd (fzV n σ k p) fun q => bd (fzL n σ k r) fun t => some (q :: t)
end
mutual
noncomputable def clV (n : Nat) : PV → Bool
  | .tup l => clL n l
  | .lst l => clL n l
  | .loc a => decide (a < n)
  | .strm a => decide (a < n)
  | .app a => decide (a < n)
  | _ => true
noncomputable def clL (n : Nat) : List PV → Bool
  | [] => true
  | p :: r => clV n p && clL n r
end
noncomputable def clO (n : Nat) (o : PO) : Bool := o.lst?.elim true (clL n)
/-- a function: its parameters' count, its slots' count, its body -/
noncomputable def outF (r : SR) : Option Out := match r with
  | .ret p => some (.val p)
  | .next => some (.val .none)
  | .exc x => some (.exc x)
  | .exm x => some (.exc x)
  | _ => none
noncomputable def fnRunE (g : EvS) (np ns : Nat) : Spec := fun ps σ => gd (decide (ps.length = np)) (s3 (g (ps.map some ++ List.replicate (ns - np) none) σ) fun r _ σ => vl (outF r) σ)
noncomputable def fnRun (Φ : Nat → Option Spec) (np ns : Nat) (b : SL) : Spec := fnRunE (evSL Φ b) np ns
/-- and what is made in it is left behind -/
noncomputable def fzO (n : Nat) (σ : St) (o : Out) : Option Out := match o with
  | .val p => bd (fzV n σ 100000 p) fun q => some (.val q)
  | .exc x => some (.exc x)
noncomputable def dropS (sp : Spec) : Spec := fun ps σ => sq (sp ps σ) fun o σ' => bd (fzO σ.length σ' o) fun o => gd ((σ'.take σ.length).all (clO σ.length)) (some (o, σ'.take σ.length))
end Sh
namespace Sh
open PySem PySem.Calls PyProof.Rows PySem.W PySem.Spec
/-- an exception under way in a frame: what stands -/
structure XB (c : Cx) (ω₀ : Wd) (h₀ : Heap) (ω : Wd) (σ : St) (m : Fm) (hr : Heap) (s : Shared) : Prop where
  fr : FR c ω hr m
  gw : Gw ω₀ c.own h₀ ω hr
  inv : Inv c.B ω σ { s with heap := hr }
/-- the way on, where one flies: made just now, or come up from a call -/
noncomputable def EQ (c : Cx) (r : SR) (ω : Wd) (h : Heap) (σ' : St) (m' : Fm) (E : Value → Shared → Prop) : Prop := match r with
  | .exm x => ∀ a tk hr ω' s', XB c ω h ω' σ' m' hr s' → Heap.MadeExc hr s'.heap a "ValueError" [.str x tk] → E (.ref a) s'
  | .exc x => ∀ a t tk hr base l ω' s', c.A.frames = some l → XB c ω h ω' σ' m' hr s' → Fly c.B ω' l x a t tk hr base s'.heap → E (.ref a) s'
  | _ => True
noncomputable def FQ (c : Cx) (r : SR) (ω : Wd) (s : Shared) (Q : Flow → Shared → Prop) : Prop := match r with
  | .next => Q .next s
  | .brk => Q .brk s
  | .cont => Q .cont s
  | .ret p => ∀ v, VR c.B.C ω s.heap p v → Q (.ret v) s
  | _ => True
abbrev KQ (c : Cx) (r : SR) (ω : Wd) (h : Heap) (σ' : St) (m' : Fm) (Q : Flow → Shared → Prop) : Prop :=
  ∀ ω' s', Gw ω c.own h ω' s'.heap → Inv c.B ω' σ' s' → FR c ω' s'.heap m' → FQ c r ω' s' Q
theorem XB.pre {c : Cx} {ω₀ ω₁ ω : Wd} {h₀ h₁ hr : Heap} {σ : St} {s : Shared} {m : Fm} (g : Gw ω₀ c.own h₀ ω₁ h₁) (x : XB c ω₁ h₁ ω σ m hr s) : XB c ω₀ h₀ ω σ m hr s := ⟨x.fr, g.trans x.gw, x.inv⟩
theorem EQ.pre {c : Cx} {r : SR} {ω ω₁ : Wd} {h h₁ : Heap} {σ' : St} {m' : Fm} {E : Value → Shared → Prop} (g : Gw ω c.own h ω₁ h₁) (k : EQ c r ω h σ' m' E) : EQ c r ω₁ h₁ σ' m' E :=
  match r, k with
  | .exm _, k => fun a tk hr ω' s' x => k a tk hr ω' s' (x.pre g)
  | .exc _, k => fun a t tk hr base l ω' s' hl x => k a t tk hr base l ω' s' hl (x.pre g)
  | .next, _ => trivial
  | .brk, _ => trivial
  | .cont, _ => trivial
  | .ret _, _ => trivial
theorem KQ.pre {c : Cx} {r : SR} {ω ω₁ : Wd} {h h₁ : Heap} {σ' : St} {m' : Fm} {Q : Flow → Shared → Prop} (k : KQ c r ω h σ' m' Q) (g : Gw ω c.own h ω₁ h₁) : KQ c r ω₁ h₁ σ' m' Q := fun ω' s' G I F => k ω' s' (g.trans G) I F
/-- a statement is shown by f -/
noncomputable def SSt (c : Cx) (st : Stmt) (f : EvS) : Prop :=
  ∀ ω m σ s Q E r m' σ', FR c ω s.heap m → Inv c.B ω σ s → f m σ = some (r, m', σ') → KQ c r ω s.heap σ' m' Q → EQ c r ω s.heap σ' m' E → wpAny (model c.B.prog c.B.w) c.A (exec st c.env) Q E s
noncomputable def SSs (c : Cx) (sts : List Stmt) (f : EvS) : Prop :=
  ∀ ω m σ s Q E r m' σ', FR c ω s.heap m → Inv c.B ω σ s → f m σ = some (r, m', σ') → KQ c r ω s.heap σ' m' Q → EQ c r ω s.heap σ' m' E → wpAny (model c.B.prog c.B.w) c.A (execs sts c.env) Q E s
theorem Gw.own {ω ω' : Wd} {own : List Addr} {h h' : Heap} (g : Gw ω [] h ω' h') : Gw ω own h ω' h' := g.weak fun _ q => nomatch q
theorem Gx.own {ω ω' : Wd} {own : List Addr} {h h' : Heap} {X : List Addr} (g : Gx ω [] h ω' h' X) : Gx ω own h ω' h' X :=
  ⟨g.ext, g.ex, fun b o e ht h1 _ => g.kp b o e ht h1 (fun q => nomatch q), g.there, g.new⟩
section
variable {c : Cx} {Φ : Nat → Option Spec}
/-- a statement that goes on -/
theorem KQ.nx {ω ω' : Wd} {σ σ' : St} {s s' : Shared} {m m' : Fm} {r : SR} {Q : Flow → Shared → Prop} (e : some (SR.next, m, σ) = some (r, m', σ')) (k : KQ c r ω s.heap σ' m' Q) (G : Gw ω c.own s.heap ω' s'.heap) (I : Inv c.B ω' σ s') (F : FR c ω' s'.heap m) : Q .next s' :=
  r3_el (P := fun r m' σ' => KQ c r ω s.heap σ' m' Q → Q .next s') e (fun k => k ω' s' G I F) k
theorem sss_nil : SSs c [] (evSL Φ .nil) := fun ω m σ s Q E r m' σ' F I e k _ => wpAny_execs_nil (KQ.nx e k (.refl _ _ _) I F)
theorem sss_cons {st : Stmt} {sts : List Stmt} {x : S} {t : SL} (h1 : SSt c st (evS Φ x)) (h2 : SSs c sts (evSL Φ t)) : SSs c (st :: sts) (evSL Φ (.cons x t)) :=
  fun ω m σ s Q E r m' σ' F I e k kx => s3_el e fun a m₁ σ₁ e₁ e => wpAny_execs_cons (by
    have H := fun Q' => h1 ω m σ s Q' E a m₁ σ₁ F I e₁
    cases a <;> first
      | exact H _ (fun ω₁ s₁ G₁ I₁ F₁ => h2 ω₁ m₁ σ₁ s₁ Q E r m' σ' F₁ I₁ e (KQ.pre k G₁) (EQ.pre G₁ kx)) trivial
      | (cases so (show some _ = some (r, m', σ') from e)
         first | exact H _ k kx | exact H _ (fun _ _ _ _ _ => trivial) kx | exact H _ (fun ω₁ s₁ G₁ I₁ F₁ v hv => k ω₁ s₁ G₁ I₁ F₁ v hv) kx))
section
variable {e t te : Expr} {x y a : X} {pos p1 : Pos} {i : Nat}
theorem ss_ex (h : SE c e (ev Φ x)) (hi : ∀ {ω h m}, FR c ω h m → interactive c.env = false) (hs : swapsWith e none pos.line c.env = pure false) : SSt c (.Expr e pos) (evS Φ (.ex x)) :=
  fun ω m σ s Q E r m' σ' F I he k kx => sq_el he fun p σ₁ e₁ he => wpAny_Expr_any (h ω m σ s _ E p σ₁ F I e₁ fun v ω' s' G I' _ => KQ.nx he k G.own I' (F.gw G I'.apart)) (hi F) hs
noncomputable def notComp (e : Expr) : Bool := !isK 14 e && (!isK 19 e && !isK 20 e)
theorem swaps_no {e : Expr} (h : notComp e = true) (t : Option Expr) (n : Nat) (env : Env) : swapsWith e t n env = pure false := by
  cases e <;> first | rfl | exact absurd h Bool.false_ne_true
theorem ss_as (ht : nameT c.Γ i t = true) (h : SE c e (ev Φ x)) (hs : notComp e = true) : SSt c (.Assign [t] e pos) (evS Φ (.as i x)) :=
  fun ω m σ s Q E r m' σ' F I he k kx => sq_el he fun p σ₁ e₁ he => nameT_el ht fun y py hy hv hk => by
    rw [hy]
    exact wpAny_Assign_Name (h ω m σ s _ E p σ₁ F I e₁ fun v ω' s' G I' r => store_ok (F.gw G I'.apart) I' hv hk r fun h' tk G' I'' F' => KQ.nx (s' := { s' with heap := h', toks := tk }) he k (G.own.trans G') I'' F') (swaps_no hs _ _ _)
theorem evalListComp1 (elt target iter : Expr) (ifs : List Expr) (scope : Scope) (pos : Pos) (env : Env) : eval (.ListComp elt [⟨target, iter, ifs, 0⟩] scope pos) env =
    comprehension (.ListComp elt [⟨target, iter, ifs, 0⟩] scope pos) scope env (firstIterPos [⟨target, iter, ifs, 0⟩] pos) (newList []) false (eval iter env) := rfl
theorem evalThenUse1 (elt target iter : Expr) (ifs : List Expr) (scope : Scope) (pos : Pos) (env : Env) (use : Value → Sem Unit) : evalThenUse (.ListComp elt [⟨target, iter, ifs, 0⟩] scope pos) env use = (do
    let _ ← comprehension (.ListComp elt [⟨target, iter, ifs, 0⟩] scope pos) scope env (firstIterPos [⟨target, iter, ifs, 0⟩] pos) (newList []) false (eval iter env) (some use)) := rfl
theorem use1 (y : Str) (py : Pos) (env : Env) (v : Value) : assignAll v ((assignEach [.Name y py] env).map (·.2)) = assign (.Name y py) env v := rfl
theorem swaps_comp {elt : Expr} {gens : List Comprehension} {scope : Scope} {p py : Pos} {y : Str} {n : Nat} {env : Env} : ∃ b, swapsWith (.ListComp elt gens scope p) (some (.Name y py)) n env = pure b := ⟨_, rfl⟩
theorem comp_plain {ar : Nat} {xe xit : X} {xi : XL} {elt target iter : Expr} {ifs : List Expr} {scope : Scope} {ts : List Str} (K : CompOk c Φ ar xe xit xi elt target iter ifs scope ts) :
    SE c (.ListComp elt [⟨target, iter, ifs, 0⟩] scope p1) (ev Φ (.comp ar xe xit xi)) := fun ω m σ s Q E p σ' F I e k => by
  rw [evalListComp1]
  exact comp_run K F I e fun ω₁ s₁ G => KE.gw (c := c) k G
theorem ss_asC {ar : Nat} {xe xit : X} {xi : XL} {elt target iter : Expr} {ifs : List Expr} {scope : Scope} {ts : List Str} (ht : nameT c.Γ i t = true) (K : CompOk c Φ ar xe xit xi elt target iter ifs scope ts) :
    SSt c (.Assign [t] (.ListComp elt [⟨target, iter, ifs, 0⟩] scope p1) pos) (evS Φ (.as i (.comp ar xe xit xi))) :=
  fun ω m σ s Q E r m' σ' F I he k kx => sq_el (show sq (ev Φ (.comp ar xe xit xi) m σ) (fun p σ => some (SR.next, m.set i (some p), σ)) = some (r, m', σ') from he) fun p σ₁ e₁ he => nameT_el ht fun y py hy hv hk =>
    (swaps_comp (elt := elt) (gens := [⟨target, iter, ifs, 0⟩]) (scope := scope) (p := p1) (py := py) (y := y) (n := pos.line) (env := c.env)).elim fun b hb => by
    rw [hy] at ht ⊢
    cases b with
    | false => exact wpAny_Assign_Name (comp_plain K ω m σ s _ E p σ₁ F I e₁ fun v ω' s' G I' r => store_ok (F.gw G I'.apart) I' hv hk r fun h' tk G' I'' F' => KQ.nx (s' := { s' with heap := h', toks := tk }) he k (G.own.trans G') I'' F') hb
    | true =>
      rw [exec_Assign_arm]
      refine wpAny_bind (wpAny_standAt ?_)
      rw [show swapsWithSole [.Name y py] (.ListComp elt [⟨target, iter, ifs, 0⟩] scope p1) pos.line c.env = pure true from hb]
      refine wpAny_bind (wpAny_pure ?_)
      rw [if_pos rfl]
      refine wpAny_bind ?_
      rw [evalThenUse1]
      refine wpAny_bind (comp_run K F I e₁ fun ω₁ s₁ G₁ v ω' s' X C f g I' F' r hC hCo hns => ?_)
      refine (?_ : wpAny (model c.B.prog c.B.w) c.A (assign (.Name y py) c.env v) _ _ s')
      have hCx : C ∈ ω'.ex := by rw [g.ex]; exact List.mem_append_right _ hC
      have hnew := g.new C hC
      have up : ∀ b ∈ ω.ex, b ∈ ω'.ex ∧ b ≠ C := fun b hb => ⟨by rw [g.ex, G₁.ex]; exact List.mem_append_left _ hb, fun q => (Option.isSome_iff_exists.mp (I.exl b hb)).elim fun o e => (G₁.there b o e).elim fun o' e' => nomatch (q ▸ hnew).symm.trans e'⟩
      refine assign1_ok F' I' ht r fun h₁ tk G' I₁ F₂ => ⟨f, ns_ko hns fun o e ht => G'.kp C o e ht (fun q => I'.apart C q hCx) hCo, fun h₂ hs₂ => wpAny_pure (wpAny_pure ?_)⟩
      have hs := hs₂.extBut
      refine KQ.nx (ω' := ⟨ω'.mu, ω.ex⟩) (s' := { s' with heap := h₂, toks := tk }) he k ?_ (I₁.last (tk := tk) hCx up hs) (F₂.unbar F rfl rfl (fun b hb => (up b hb).1) ((Carry.of_ex hCx hs).trans (.less rfl fun b hb => (up b hb).1)) fun b hb o e => hs b o (up b hb).2 e)
      have g₂ := ((g.own.trans G' fun a q => .inl q).stepAt hC hs).drop
      rw [G₁.ex] at g₂
      exact G₁.own.trans g₂
theorem ss_asT {is : List Nat} (hh : c.A.handled = none) (ht : targT c.Γ is t = true) (h : SE c e (ev Φ x)) (hs : notComp e = true) (hw : swappedStores [t] e c.env = pure none) (hst : (assignEach [t] c.env).map (·.2) = [assign t c.env]) : SSt c (.Assign [t] e pos) (evS Φ (.asT is x)) :=
  fun ω m σ s Q E r m' σ' F I he k kx => sq_el he fun p σ₁ e₁ he => bd_el he fun m₂ hb he => wpAny_Assign_stores (h ω m σ s _ E p σ₁ F I e₁ fun v ω' s' G I' r => by
    rw [hst]
    exact assign_ok hh (F.gw G I'.apart) I' ht hb r fun h' tk G' I'' F' => KQ.nx (s' := { s' with heap := h', toks := tk }) he k (G.own.trans G') I'' F') (swaps_no hs _ _ _) hw
theorem ss_ret (h : SE c e (ev Φ x)) : SSt c (.Return (some e) pos) (evS Φ (.ret x)) :=
  fun ω m σ s Q E r m' σ' F I he k kx => sq_el he fun p σ₁ e₁ he => wpAny_Return_some (h ω m σ s _ E p σ₁ F I e₁ fun v ω' s' G I' x =>
    r3_el (P := fun r m' σ' => KQ c r ω s.heap σ' m' Q → Q (.ret v) s') he (fun k => k ω' s' G.own I' (F.gw G I'.apart) v x) k)
theorem ss_brk : SSt c (.Break pos) (evS Φ .brk) := fun ω m σ s Q E r m' σ' F I he k kx => wpAny_Break (r3_el (P := fun r m' σ' => KQ c r ω s.heap σ' m' Q → Q .brk s) he (fun k => k ω s (.refl _ _ _) I F) k)
theorem ss_cont : SSt c (.Continue pos) (evS Φ .cont) := fun ω m σ s Q E r m' σ' F I he k kx => wpAny_Continue (r3_el (P := fun r m' σ' => KQ c r ω s.heap σ' m' Q → Q .cont s) he (fun k => k ω s (.refl _ _ _) I F) k)
theorem ss_iff {tx : X} {b o : SL} {bs os : List Stmt} (ht : STx c Φ te tx) (hb : SSs c bs (evSL Φ b)) (ho : SSs c os (evSL Φ o)) : SSt c (.If te bs os pos) (evS Φ (.iff tx b o)) :=
  fun ω m σ s Q E r m' σ' F I he k kx => sq_el he fun p σ₁ e₁ he => bd_el he fun t e₂ he => wpAny_If (ht.run F I e₁ e₂ fun ω₁ s₁ G₁ I₁ => by
    cases t with
    | true => rw [if_pos rfl]; exact hb ω₁ m σ₁ s₁ Q E r m' σ' (F.gw G₁ I₁.apart) I₁ he (KQ.pre k G₁.own) (EQ.pre G₁.own kx)
    | false => rw [if_neg Bool.false_ne_true]; exact ho ω₁ m σ₁ s₁ Q E r m' σ' (F.gw G₁ I₁.apart) I₁ he (KQ.pre k G₁.own) (EQ.pre G₁.own kx))
theorem ss_asr {tx : X} {msg : Option Expr} (ht : STx c Φ te tx) : SSt c (.Assert te msg pos) (evS Φ (.asr tx)) :=
  fun ω m σ s Q E r m' σ' F I he k kx => sq_el he fun p σ₁ e₁ he => bd_el he fun t e₂ he => gd_el he fun ht' he => wpAny_Assert_holds (ht.run F I e₁ e₂ fun ω₁ s₁ G₁ I₁ => ⟨ht', KQ.nx he k G₁.own I₁ (F.gw G₁ I₁.apart)⟩)
/-- a loop's turn: what stands at its start -/
inductive WI (c : Cx) (Φ : Nat → Option Spec) (tx : X) (b : SL) (r : SR) (m' : Fm) (σ' : St) (ω : Wd) (h : Heap) (n : Nat) (s : Shared) : Prop
  | mk {ω₁ : Wd} {m₁ : Fm} {σ₁ : St} (G : Gw ω c.own h ω₁ s.heap) (I : Inv c.B ω₁ σ₁ s) (F : FR c ω₁ s.heap m₁) (e : whGo (tst Φ tx) (evSL Φ b) n m₁ σ₁ = some (r, m', σ'))
theorem loopS_el {r r' : SR} {m m' : Fm} {σ σ' : St} {A : Option (SR × Fm × St)} {G : Prop} (e : loopS r A m σ = some (r', m', σ')) (k1 : isNext r = true → A = some (r', m', σ') → G) (k2 : r = .cont → A = some (r', m', σ') → G) (k3 : r = .brk → some (SR.next, m, σ) = some (r', m', σ') → G) (k4 : ∀ p, r = .ret p → some (SR.ret p, m, σ) = some (r', m', σ') → G) : G :=
  match r, e, k1, k2, k3, k4 with
  | .next, e, k1, _, _, _ => k1 rfl e
  | .cont, e, _, k2, _, _ => k2 rfl e
  | .brk, e, _, _, k3, _ => k3 rfl e
  | .ret p, e, _, _, _, k4 => k4 p rfl e
  | .exc _, e, _, _, _, _ => nn e
  | .exm _, e, _, _, _, _ => nn e
theorem next_at {r : SR} (h : isNext r = true) : r = .next := match r, h with
  | .next, _ => rfl
theorem ss_wh {tx : X} {b : SL} {bs : List Stmt} (ht : STx c Φ te tx) (hb : SSs c bs (evSL Φ b)) : SSt c (.While te bs [] pos) (evS Φ (.wh tx b)) :=
  fun ω m σ s Q E r m' σ' F I he k kx => wpAny_While (codeAny_whileLoop (WI c Φ tx b r m' σ' ω s.heap) (fun n s₁ W => by
    cases W with
    | mk G₁ I₁ F₁ hw =>
    rename_i ω₁ m₁ σ₁
    cases n with
    | zero => exact nn hw
    | succ n =>
      refine sq_el hw fun t σ₂ e₂ hw => ht ω₁ m₁ σ₁ s₁ _ _ t σ₂ F₁ I₁ e₂ fun ω₂ s₂ G₂ I₂ => ?_
      have F₂ := F₁.gw G₂ I₂.apart
      have G12 := G₁.trans G₂.own
      cases t with
      | false => rw [if_neg Bool.false_ne_true]; exact wpAny_execs_nil (KQ.nx hw k G12 I₂ F₂)
      | true =>
        rw [if_pos rfl]
        refine s3_el hw fun r₃ m₃ σ₃ e₃ hw => loopS_el hw (fun hr hw => ?_) (fun hr hw => ?_) (fun hr hw => ?_) (fun p hr hw => ?_)
        · cases next_at hr; exact hb ω₂ m₁ σ₂ s₂ _ _ .next m₃ σ₃ F₂ I₂ e₃ (fun ω₃ s₃ G₃ I₃ F₃ => ⟨n, Nat.lt_succ_self _, ⟨G12.trans G₃, I₃, F₃, hw⟩⟩) trivial
        · cases hr; exact hb ω₂ m₁ σ₂ s₂ _ _ .cont m₃ σ₃ F₂ I₂ e₃ (fun ω₃ s₃ G₃ I₃ F₃ => ⟨n, Nat.lt_succ_self _, ⟨G12.trans G₃, I₃, F₃, hw⟩⟩) trivial
        · cases hr; exact hb ω₂ m₁ σ₂ s₂ _ _ .brk m₃ σ₃ F₂ I₂ e₃ (fun ω₃ s₃ G₃ I₃ F₃ => KQ.nx hw k (G12.trans G₃) I₃ F₃) trivial
        · cases hr; exact hb ω₂ m₁ σ₂ s₂ _ _ (.ret p) m₃ σ₃ F₂ I₂ e₃ (fun ω₃ s₃ G₃ I₃ F₃ => r3_el (P := fun r m' σ' => KQ c r ω s.heap σ' m' Q → ∀ v, VR c.B.C ω₃ s₃.heap p v → Q (.ret v) s₃) hw (fun k => k ω₃ s₃ (G12.trans G₃) I₃ F₃) k) trivial) WH ⟨.refl _ _ _, I, F, he⟩)
end
end
end Sh
namespace Sh
open PySem PySem.Calls PyProof.Rows PySem.W PySem.Spec
section
variable {B : Base} {A : Around} {E : Value → Shared → Prop} {ω : Wd} {σ : St} {s : Shared}
theorem aug_ok {op : Operator} {p q r : PV} {v w : Value} {Q : Value → Shared → Prop} (x : VR B.C ω s.heap p v) (y : VR B.C ω s.heap q w) (e : augV op p q = some r) (k : KK B ω s r Q) :
    wpAny (model B.prog B.w) A (inplaceOp op v w) Q E s := by
  cases op <;> first | exact nn e | skip
  · exact i2_vr x y e fun a b t u e => AutoIntOps.iadd_0 (k.int e _ _)
  · exact i2_vr x y e fun a b t u e => AutoIntOps.isub_0 (k.int e _ _)
theorem VRs.set {C : Addr} {h : Heap} : ∀ {l : List PV} {vs : List Value} {p : PV} {v : Value} (k : Nat), VRs C ω h l vs → VR C ω h p v → VRs C ω h (l.set k p) (vs.set k v)
  | [], _, p, v, k, x, _ => x.nil_el (Ps := fun vs => VRs C ω h [] (vs.set k v)) .nil
  | q :: l, _, p, v, 0, x, y => x.cons_el (Ps := fun vs => VRs C ω h (p :: l) (vs.set 0 v)) fun _ _ _ b => .cons_in y b
  | q :: l, _, p, v, k + 1, x, y => x.cons_el (Ps := fun vs => VRs C ω h (q :: l.set k p) (vs.set (k + 1) v)) fun _ _ a b => .cons_in a (VRs.set k b y)
theorem set_ok {p q r : PV} {v w u : Value} {σ' : St} {Q : Unit → Shared → Prop} (I : Inv B ω σ s) (x : VR B.C ω s.heap p v) (y : VR B.C ω s.heap q w) (z : VR B.C ω s.heap r u) (e : setV p q r σ = some σ')
    (k : ∀ h', Gw ω [] s.heap ω h' → Inv B ω σ' { s with heap := h' } → Q () { s with heap := h' }) : wpAny (model B.prog B.w) A (setItem v w u) Q E s :=
  bd_el e fun n e1 e => bd_el e fun i e2 e => bd_el e fun l hl e => gd_el e fun h e => and_el h fun h1 h => and_el h fun h2 h3 => y.int_vr e2 fun t =>
    loc_vr (P := fun v => wpAny (model B.prog B.w) A (setItem v (.int i t) u) Q E s) I (loc_at e1 ▸ x) hl fun a o ws kk hi ho c d hr =>
      set_list (isL_of ho c d) (dec h1) (by rw [hr.size]; exact dec h2) (by rw [hr.size]; exact lim_mil h3) fun h' n' hL' hs' =>
        have hm := List.mem_of_getElem? hi
        k h' (.of_ext (.inl hm) hs'.extBut ⟨_, hL'⟩) (so e ▸ I.set (tk := s.toks) hi hs'.extBut ⟨_, _, _, hL', lc_of, rfl, by rw [Array.toList_setIfInBounds]; exact (hr.set _ z).carry (.of_mu hm hs'.extBut)⟩)
end
section
variable {c : Cx} {Φ : Nat → Option Spec}
theorem Stor.in {Γ : Sc} {x : Str} (h : Stor Γ x) : Γ.names.lookup x = some .local ∨ Γ.names.lookup x = some .cell ∨ Γ.names.lookup x = some .free := h.imp id fun q => .inl q.1
theorem ss_aug {t e : Expr} {i : Nat} {op : Operator} {x : X} {pos : Pos} (ht : nameT c.Γ i t = true) (hl : ∀ y p, t = .Name y p → (y == ("__classdict__" : Str)) = false) (h : SE c e (ev Φ x)) : SSt c (.AugAssign t op e pos) (evS Φ (.aug i op x)) :=
  fun ω m σ s Q E r m' σ' F I he k kx => bd_el he fun p hm he => sq_el he fun q σ₁ e₁ he => bd_el he fun r' e₂ he => nameT_el ht fun y py hy hv hk => by
    have hl' := hl y py hy
    rw [hy]
    exact bd_el hm fun o hm hm' => wpAny_AugAssign_Name (load_ok F hv hk.in (hm.trans (congrArg some hm')) hl' fun v x₀ => h ω m σ s _ E q σ₁ F I e₁ fun w ω₁ s₁ G₁ I₁ x₁ => aug_ok (B := c.B) (x₀.gw G₁) x₁ e₂ fun v' h₁ tk hk₁ x₂ =>
      store_ok (s := { s₁ with heap := h₁, toks := tk }) (F.gw (G₁.trans (.of_keep hk₁)) I₁.apart) (I₁.keep hk₁) hv hk x₂ fun h' tk' G' I' F' => KQ.nx (s' := { s₁ with heap := h', toks := tk' }) he k ((G₁.trans (.of_keep hk₁)).own.trans G') I' F')
theorem ss_asI {o i e : Expr} {a x y : X} {p pos : Pos} (ha : SE c o (ev Φ a)) (hi : SE c i (ev Φ y)) (hx : SE c e (ev Φ x)) (hs : notComp e = true) : SSt c (.Assign [.Subscript o i p] e pos) (evS Φ (.asI a y x)) :=
  fun ω m σ s Q E r m' σ' F I he k kx => sq_el he fun p₁ σ₁ e₁ he => sq_el he fun p₂ σ₂ e₂ he => sq_el he fun p₃ σ₃ e₃ he => bd_el he fun σ₄ e₄ he =>
    wpAny_Assign_Subscript (hx ω m σ s _ E _ _ F I e₁ fun v₁ ω₁ s₁ G₁ I₁ x₁ => run2 ha hi (F.gw G₁ I₁.apart) I₁ e₂ e₃ fun v₂ v₃ ω₃ s₃ G₃ I₃ x₂ x₃ =>
      set_ok I₃ x₂ x₃ (x₁.gw G₃) e₄ fun h' G' I' =>
        have G := (G₁.trans G₃).trans G'
        KQ.nx (s' := { s₃ with heap := h' }) he k G.own I' (F.gw G I'.apart)) (swaps_no hs _ _ _)
/-- a for loop's turn: what stands at its start -/
inductive FI (c : Cx) (Φ : Nat → Option Spec) (is : List Nat) (b : SL) (r : SR) (m' : Fm) (σ' : St) (ω₁ : Wd) (h₁ : Heap) (it : Addr) (n : Option Nat) (l : List PV) (s : Shared) : Nat → Prop
  | mk {rest : List PV} {i : Nat} {ω' : Wd} {σ₂ : St} {m₂ : Fm} (hr : rest = l.drop i) (go : foGo n is (evSL Φ b) rest i m₂ σ₂ = some (r, m', σ')) (g : Gx ω₁ c.own h₁ ω' s.heap [it]) (I : Inv c.B ω' σ₂ s) (F : FR c ω' s.heap m₂) (hI : Itr c.B.C ω' s.heap it i n l) :
    FI c Φ is b r m' σ' ω₁ h₁ it n l s rest.length
section
variable {ω ω₁ ω₃ : Wd} {σ σ' : St} {s s₁ s₃ : Shared} {m m' : Fm} {it : Addr} {h₃ : Heap} {tk : Nat}
/-- the iterator goes -/
structure FoEnd (c : Cx) (ω : Wd) (s : Shared) (σ' : St) (m' : Fm) (ω' : Wd) (s' : Shared) : Prop where
  G : Gw ω c.own s.heap ω' s'.heap
  I : Inv c.B ω' σ' s'
  F : FR c ω' s'.heap m'
theorem fo_fin (G₁ : Gw ω [] s.heap ω₁ s₁.heap) (I₁ : Inv c.B ω₁ σ s₁) (F₁ : FR c ω₁ s₁.heap m) (hn : s₁.heap.get? it = none) (g₃ : Gx ω₁ c.own s₁.heap ω₃ s₃.heap [it]) (I₃ : Inv c.B ω₃ σ' s₃) (F₃ : FR c ω₃ s₃.heap m') (he₃ : Heap.ExtBut it s₃.heap h₃) :
    FoEnd c ω s σ' m' ⟨ω₃.mu, ω₁.ex⟩ { s₃ with heap := h₃, toks := tk } :=
  have hx : it ∈ ω₃.ex := by rw [g₃.ex]; exact List.mem_append_right _ (.head _)
  have up : ∀ b ∈ ω₁.ex, b ∈ ω₃.ex ∧ b ≠ it := fun b hb => ⟨by rw [g₃.ex]; exact List.mem_append_left _ hb, fun q => by have := I₁.exl b hb; rw [q, hn] at this; exact Bool.false_ne_true this⟩
  ⟨G₁.own.trans (g₃.stepAt (.head _) he₃).drop, I₃.last hx up he₃, F₃.unbar F₁ rfl rfl (fun b hb => (up b hb).1) ((Carry.of_ex hx he₃).trans (.less rfl fun b hb => (up b hb).1)) fun b hb o e => he₃ b o (up b hb).2 e⟩
end
theorem ss_fo {target iter : Expr} {is : List Nat} {xit : X} {b : SL} {bs : List Stmt} {pos : Pos} (hh : c.A.handled = none) (ht : targT c.Γ is target = true) (hit : SE c iter (ev Φ xit)) (hset : ∀ x, foldedSetIterable iter c.env x = pure x) (hb : SSs c bs (evSL Φ b)) :
    SSt c (.For target iter bs [] pos) (evS Φ (.fo is xit b)) :=
  fun ω m σ s Q E r m' σ' F I he k kx => sq_el he fun p σ₁ e₁ he => bd_el he fun x e₂ he => wpAny_For (hit ω m σ s _ E p σ₁ F I e₁ fun v ω₁ s₁ G₁ I₁ x₁ => iter_ok (l := x.1) (n := x.2) I₁ x₁ e₂ fun it h₂ hitn hz hk₂ hI₂ => by
    have F₁ := F.gw G₁ I₁.apart
    have hXn : ∀ a ∈ [it], s₁.heap.get? a = none := fun a ha => by rw [List.mem_singleton.mp ha]; exact hitn
    have hup : ∀ a ∈ ω₁.ex ++ [it], a ∈ ω₁.ex ∨ s₁.heap.get? a = none := fun a ha => (List.mem_append.mp ha).imp id (hXn a)
    have I₂ : Inv c.B ⟨ω₁.mu, ω₁.ex ++ [it]⟩ σ₁ { s₁ with heap := h₂ } := I₁.bar (tk := s₁.toks) hk₂ rfl fun a ha => (List.mem_append.mp ha).imp id fun q => ⟨hXn a q, by rw [List.mem_singleton.mp q]; exact hz⟩
    have hito : it ∉ c.own := fun q => by have := I₁.exl it (F₁.own it q); rw [hitn] at this; exact Bool.false_ne_true this
    refine codeAny_forLoop_any (fun n s' => FI c Φ is b r m' σ' ω₁ s₁.heap it x.2 x.1 s' n) (fun n s' W => ?_) x.1.length
      (.mk (i := 0) (ω' := ⟨ω₁.mu, ω₁.ex ++ [it]⟩) (m₂ := m) rfl he (Gx.of_gw (.refl _ _ _) hk₂ hXn) I₂ (F₁.bar hk₂ rfl (fun a ha => List.mem_append_left _ ha) hup I₂.apart) (hI₂ _ _ rfl hup fun _ _ e => e))
    cases W with
    | mk hr go g I' F' hI =>
    rename_i rest i ω' σ₂ m₂
    have hitx : it ∈ ω'.ex := by rw [g.ex]; exact List.mem_append_right _ (.head _)
    cases rest with
    | nil => exact gd_el go fun hf go => next_end hh I' hI (List.drop_eq_nil_iff.mp hr.symm) hf fun h' he' => wpAny_execs_nil (
        have f := fo_fin (h₃ := h') (tk := s'.toks) (σ' := σ₂) (m' := m₂) G₁ I₁ F₁ hitn g I' F' he'
        KQ.nx go k f.G f.I f.F)
    | cons q rest =>
      refine bd_el go fun p' hp go => bd_el go fun m₃ hbT go => s3_el go fun t m₅ σ₅ e₅ go => next_item I' hI hitx (drop_cons hr).1 hp fun v h₃ tk he₃ hI₃ hv => hI₃.obj fun io ivs T hio hiod hioc hT =>
        letOwned_ok (s := { s' with heap := h₃, toks := tk }) hio hiod hioc hT (assign_ok hh (F'.exstep hitx he₃ hI.plain) (I'.exstep (tk := tk) hitx he₃ hI₃.live) ht hbT hv fun h₄ tk₄ G₄ I₄ F₄ => ?_)
      have hitm : it ∉ ω'.mu := fun q => I'.apart it q hitx
      have g₄ := (g.stepAt (a := it) (.head _) he₃).trans G₄ fun a q => .inl q
      have hI₄ := hI₃.gw G₄ F'.own hitm hito
      have H := fun Q' E' => hb ω' m₃ σ₂ { s' with heap := h₄, toks := tk₄ } Q' E' t m₅ σ₅ F₄ I₄ e₅
      have again : ∀ ω₅ s₅, Gw ω' c.own h₄ ω₅ s₅.heap → Inv c.B ω₅ σ₅ s₅ → FR c ω₅ s₅.heap m₅ → foGo x.2 is (evSL Φ b) rest (i + 1) m₅ σ₅ = some (r, m', σ') → ∃ n', n' < (q :: rest).length ∧ FI c Φ is b r m' σ' ω₁ s₁.heap it x.2 x.1 s₅ n' := fun ω₅ s₅ G₅ I₅ F₅ go =>
        ⟨_, Nat.lt_succ_self _, .mk (drop_cons hr).2 go (g₄.trans G₅ fun a q => .inl q) I₅ F₅ (hI₄.gw G₅ F₄.own hitm hito)⟩
      have fin : ∀ ω₅ s₅, Gw ω' c.own h₄ ω₅ s₅.heap → Inv c.B ω₅ σ₅ s₅ → FR c ω₅ s₅.heap m₅ → FoEnd c ω s σ₅ m₅ ⟨ω₅.mu, ω₁.ex⟩ s₅ := fun ω₅ s₅ G₅ I₅ F₅ =>
        fo_fin (h₃ := s₅.heap) (tk := s₅.toks) G₁ I₁ F₁ hitn (g₄.trans G₅ fun a q => .inl q) I₅ F₅ (Heap.ExtBut.refl it s₅.heap)
      refine loopS_el go (fun hr hw => ?_) (fun hr hw => ?_) (fun hr hw => ?_) (fun p₅ hr hw => ?_)
      · cases next_at hr; exact H _ _ (fun ω₅ s₅ G₅ I₅ F₅ => again ω₅ s₅ G₅ I₅ F₅ hw) trivial
      · cases hr; exact H _ _ (fun ω₅ s₅ G₅ I₅ F₅ => again ω₅ s₅ G₅ I₅ F₅ hw) trivial
      · cases hr; exact H _ _ (fun ω₅ s₅ G₅ I₅ F₅ => have f := fin ω₅ s₅ G₅ I₅ F₅; KQ.nx hw k f.G f.I f.F) trivial
      · cases hr
        exact H _ _ (fun ω₅ s₅ G₅ I₅ F₅ v hv => have f := fin ω₅ s₅ G₅ I₅ F₅
          r3_el (P := fun r m' σ' => KQ c r ω s.heap σ' m' Q → Q (.ret v) s₅) hw (fun k => k _ _ f.G f.I f.F v (hv.carry (Carry.less (ω := ω₅) (ω' := ⟨ω₅.mu, ω₁.ex⟩) rfl fun b hb => by rw [(g₄.trans G₅ fun a q => .inl q).ex]; exact List.mem_append_left _ hb))) k) trivial) hset
theorem ss_callA {lv : Nat} {T : Nat → Option Str} {f i : Nat} {t : Expr} {n : Str} {xs : XL} {es : List Expr} {np p1 pos : Pos} (R : Rm lv c.A) (K : Known c.B lv T Φ) (ht : T f = some n) (hn : okG c.Γ n = true) (hi : nameT c.Γ i t = true) (h : A2 c Φ xs es) :
    SSt c (.Assign [t] (.Call (.Name n np) es [] p1) pos) (evS Φ (.callA i f xs)) :=
  fun ω m σ s Q E r m' σ' F I he k kx => sq_el he fun ps σ₁ e₁ he => bd_el he fun sp hsp he => sq_el he fun o σ₂ e₂ he => nameT_el hi fun y py hy hv hk => by
    rw [hy]
    refine wpAny_Assign_Name (call_ok R K ht hn h F I e₁ hsp e₂ fun ω₁ s₁ l G₁ F₁ hl => ?_) rfl
    cases o with
    | val p => exact fun v' ω' s' G' I' x' => store_ok (F₁.gw G' I'.apart) I' hv hk x' fun h' tk G'' I'' F'' => KQ.nx (s' := { s' with heap := h', toks := tk }) he k ((G₁.trans G').own.trans G'') I'' F''
    | exc x => exact r3_el (P := fun r m' σ' => EQ c r ω s.heap σ' m' E → KX c.B ω₁ s₁.heap σ₂ l x E) he (fun kx a t tk hr base ω' s' G' I' X => kx a t tk hr base l ω' s' hl.1 ⟨F.gw (G₁.trans G') I'.apart, (G₁.trans G').own, I'⟩ X) kx
theorem ss_ra {n : Str} {x : X} {e : Expr} {np cpos pos : Pos} (hh : c.A.handled = none) (hN : NoGlob c.B) (hn : n = "ValueError") (hg : okG c.Γ n = true) (h : SE c e (ev Φ x)) (hs : notStar e) :
    SSt c (.Raise (some (.Call (.Name n np) [e] [] cpos)) none pos) (evS Φ (.ra x)) :=
  fun ω m σ s Q E r m' σ' F I he k kx => sq_el he fun p σ₁ e₁ he => bd_el he fun y e₂ he => by
    subst hn
    have hst : backTo cpos (starEach [e] c.env) = [(false, eval e c.env)] := by rw [starEach_cons hs]; rfl
    refine wpAny_Raise_call PySem.F.excCall_ValueError PySem.F.excRaise_ValueError hh (by rw [hst]; rfl) (bui_ok F I hg (hN _ (by decide +kernel)) (by decide +kernel) Boot.«ValueError» ⟨rfl, ?_⟩)
    rw [hst]
    exact evalArgs_plain (spliced_cons (h ω m σ s _ E _ _ F I e₁ fun v ω₁ s₁ G₁ I₁ x₁ => x₁.str_vr e₂ fun tk => spliced_nil ⟨rfl, by show 1 ≤ sizeLine; decide, fun h' a hm =>
      r3_el (P := fun r m' σ' => EQ c r ω s.heap σ' m' E → E (.ref a) { s₁ with heap := h' }) he (fun kx => kx a tk s₁.heap ω₁ _ ⟨F.gw G₁ I₁.apart, G₁.own, I₁⟩ hm) kx⟩))
end
end Sh
namespace Sh
open PySem PySem.Calls PyProof.Rows PySem.W PySem.Spec
theorem bindL_skip {ko : Str → Option NameKind} {x : Str} : ∀ {binds : List (Str × Value)} {m : Str → Option Value}, (∀ b ∈ binds, b.1 ≠ x) → bindL ko binds m x = m x
  | [], _, _ => rfl
  | (n, v) :: r, m, h => by
    unfold bindL
    rw [bindL_skip (fun b hb => h b (.tail _ hb))]
    by_cases q : ko n = some .local
    · rw [if_pos q]; exact if_neg (fun q => h (n, v) (.head _) q.symm)
    · rw [if_neg q]
theorem bindC_skip {ko : Str → Option NameKind} {x : Str} : ∀ {binds : List (Str × Value)} {m : Str → Option Value}, (∀ b ∈ binds, b.1 ≠ x) → bindC ko binds m x = m x
  | [], _, _ => rfl
  | (n, v) :: r, m, h => by
    unfold bindC
    rw [bindC_skip (fun b hb => h b (.tail _ hb))]
    by_cases q : ko n = some .local
    · rw [if_pos q]
    · rw [if_neg q]; exact if_neg (fun q => h (n, v) (.head _) q.symm)
theorem bind_at {ko : Str → Option NameKind} {x : Str} {v : Value} : ∀ {params : List Str} {vals : List Value} {i : Nat} {m cm : Str → Option Value}, params.Nodup → params[i]? = some x → vals[i]? = some v →
    (ko x = some .local → bindL ko (params.zip vals) m x = some v) ∧ (ko x ≠ some .local → bindC ko (params.zip vals) cm x = some v)
  | [], _, _, _, _, _, h, _ => nomatch h
  | _ :: _, [], _, _, _, _, _, h => nomatch h
  | p :: ps, w :: vs, 0, m, cm, hn, h1, h2 => by
    cases so (show some p = some x from h1); cases so (show some w = some v from h2)
    have hsk : ∀ b ∈ ps.zip vs, b.1 ≠ x := fun b hb q => (List.nodup_cons.mp hn).1 (q ▸ (List.of_mem_zip hb).1)
    rw [List.zip_cons_cons]
    refine ⟨fun hk => ?_, fun hk => ?_⟩
    · unfold bindL; rw [bindL_skip hsk, if_pos hk]; exact if_pos rfl
    · unfold bindC; rw [bindC_skip hsk, if_neg hk]; exact if_pos rfl
  | p :: ps, w :: vs, i + 1, m, cm, hn, h1, h2 => by
    rw [List.zip_cons_cons]
    refine ⟨fun hk => ?_, fun hk => ?_⟩
    · unfold bindL; exact (bind_at (cm := cm) (List.nodup_cons.mp hn).2 h1 h2).1 hk
    · unfold bindC; exact (bind_at (m := m) (List.nodup_cons.mp hn).2 h1 h2).2 hk
theorem fun_frames {h base : Heap} : ∀ {l : List Env}, (∀ e ∈ l, e.scope.kind ≠ .module ∧ ∃ L f, e.frame = some L ∧ base.get? L = none ∧ h.Ns L f) → h.FunFrames base l
  | [], _ => trivial
  | e :: r, hll =>
    let ⟨h1, L, f, h2, h3, o, es, ep, h4, h5, _⟩ := hll e (.head _)
    ⟨h1, ⟨L, o, h2, h3, h4, fun vs q => (nomatch h5.symm.trans q)⟩, fun_frames fun e he => hll e (.tail _ he)⟩
/-- what a function's table of names must be like -/
noncomputable def fnB (Γ : Sc) (params : List Str) (names : List (Str × NameKind)) : Bool :=
  names.all (fun x => names.lookup x.1 == some x.2) && (names.all (fun x => x.2 != .free) && (params.all (fun x => names.lookup x == some .local || names.lookup x == some .cell) &&
    (decide (Γ.nt.take params.length = params) && (decide (Γ.names = names) && decide (Γ.ownN = (names.filter fun x => x.2 == .cell).map (·.1))))))
structure FnB (Γ : Sc) (params : List Str) (names : List (Str × NameKind)) : Prop where
  nf : ∀ x, names.lookup x ≠ some .free
  ps : ∀ x ∈ params, names.lookup x = some .local ∨ names.lookup x = some .cell
  tk : Γ.nt.take params.length = params
  nm : Γ.names = names
theorem fnB_at {Γ : Sc} {params : List Str} {names : List (Str × NameKind)} (h : fnB Γ params names = true) : FnB Γ params names :=
  and_el h fun _ h => and_el h fun h2 h => and_el h fun h3 h => and_el h fun h4 h => and_el h fun h5 _ =>
    ⟨fun x q => bne_iff_ne.mp (List.all_eq_true.mp h2 _ (mem_of_lookup q)) rfl, fun x hx => (Bool.or_eq_true_iff.mp (List.all_eq_true.mp h3 x hx)).imp beq_iff_eq.mp beq_iff_eq.mp, dec h4, dec h5⟩
/-- a function's own frame -/
structure FnCx (B : Base) (lv : Nat) (Γ : Sc) (cd : Value) (q : Str) (c : Cx) : Prop where
  hB : c.B = B
  R : Rm lv c.A
  hΓ : c.Γ = Γ
  fr : ∃ outer, c.A.frames = some (c.env :: outer)
  fl : c.env.frame = some c.env.locals
  cd : c.env.code = cd
  qual : c.env.qual = q
/-- a new frame -/
structure NE (fd : FuncData) (n : Addr) (env : Env) : Prop where
  loc : env.locals = n
  cells : env.cells = cellsFrom (n + 1) fd.scope.names []
  scope : env.scope = fd.scope
  frame : env.frame = some env.locals
  glob : env.globals = fd.globals
  blt : env.builtins = fd.builtins
  code : env.code = fd.code
  qual : env.qual = fd.qualname ++ ".<locals>."
noncomputable def caOf (env : Env) : List Addr := (env.cells.map (·.1)).filterMap fun n => env.cells.lookup n
theorem caOf_in {env : Env} {n : Str} {d : Addr} (q : env.cells.lookup n = some d) : d ∈ caOf env := List.mem_filterMap.mpr ⟨n, List.mem_map.mpr ⟨(n, d), mem_of_lookup q, rfl⟩, q⟩
theorem caOf_at {env : Env} {d : Addr} {G : Prop} (h : d ∈ caOf env) (k : ∀ n, env.cells.lookup n = some d → G) : G := (List.mem_filterMap.mp h).elim fun n q => k n q.2
section
variable {B : Base} {A : Around} {fd : FuncData} {env : Env} {Γ : Sc} {params : List Str} {vs : List Value} {ps : List PV} {ω : Wd} {σ : St} {s : Shared} {h₁ : Heap} {tk₁ : Nat} {l : List Env}
abbrev IC (s : Shared) (env : Env) (params : List Str) (vs : List Value) (h₁ : Heap) (tk₁ : Nat) : Prop :=
  InCallC s env.locals (bindL env.kindOf (params.zip vs) fun _ => none) env.cells (bindC env.kindOf (params.zip vs) fun _ => none) { s with heap := h₁, toks := tk₁ }
theorem ca_new (N : NE fd s.heap.objs.size env) (ic : IC s env params vs h₁ tk₁) : ∀ d ∈ env.locals :: caOf env, s.heap.get? d = none ∧ (h₁.get? d).isSome = true := fun d hd =>
  (List.mem_cons.mp hd).elim (fun e => e ▸ ⟨N.loc ▸ size_none _, ic.toInCall.ns.elim fun o q => q.elim fun _ q => q.elim fun _ q => by rw [q.1]; rfl⟩)
    fun hd => caOf_at hd fun n q => ⟨none_of_le (Nat.le_of_lt (N.loc ▸ ic.above n d (mem_of_lookup q))), (ic.cell n d q).elim fun o q => by rw [q.1]; rfl⟩
theorem fn_slot {n : Nat} {i : Nat} {y : Str} {p : PV} {G : Prop} (b : FnB Γ params fd.scope.names) (hpl : ps.length = params.length) (hv : Γ.vis i y = true) (hm : (ps.map some ++ List.replicate n none)[i]? = some (some p)) (k : params[i]? = some y → ps[i]? = some p → G) : G := by
  by_cases hi : i < ps.length
  · rw [List.getElem?_append_left (by rw [List.length_map]; exact hi), List.getElem?_map] at hm
    refine k ?_ (mp_el (P := fun q => q = some p → ps[i]? = some p) hm (fun p' h1 h2 => so h2 ▸ h1) rfl)
    rw [← b.tk, List.getElem?_take_of_lt (hpl ▸ hi)]
    exact (Sc.vis_at hv).1
  · rw [List.getElem?_append_right (by rw [List.length_map]; exact Nat.not_lt.mp hi), List.getElem?_replicate] at hm
    by_cases q : i - (ps.map some).length < n
    · rw [if_pos q] at hm; exact nn (so hm)
    · rw [if_neg q] at hm; exact nn hm
theorem fr_fun (N : NE fd s.heap.objs.size env) (ic : IC s env params vs h₁ tk₁) (b : FnB Γ params fd.scope.names) (hn : params.Nodup) (hg : fd.globals = mainGlobals) (hbl : fd.builtins = builtinsNs) (hk : fd.scope.kind = .function)
    (hpl : ps.length = params.length) (hle : params.length ≤ Γ.nt.length) (hl : Frs A ω s.heap l) (I₁ : Inv B ⟨ω.mu, ω.ex ++ (env.locals :: caOf env)⟩ σ { s with heap := h₁, toks := tk₁ }) (x : VRs B.C ⟨ω.mu, ω.ex ++ (env.locals :: caOf env)⟩ h₁ ps vs) :
    FR ⟨B, A.deeper env, env, env.locals :: caOf env, Γ⟩ ⟨ω.mu, ω.ex ++ (env.locals :: caOf env)⟩ h₁ (ps.map some ++ List.replicate (Γ.nt.length - params.length) none) := by
  have hko : ∀ y, env.kindOf y = Γ.names.lookup y := fun y => by show env.scope.names.lookup y = _; rw [N.scope, b.nm]
  have hcel : ∀ y, (Γ.names.lookup y = some .cell ∨ Γ.names.lookup y = some .free) → Γ.names.lookup y = some .cell := fun y h => h.elim id fun q => absurd (b.nm ▸ q) (b.nf y)
  have hhas : ∀ y, Γ.names.lookup y = some .cell → ∃ d, env.cells.lookup y = some d := fun y q => (cellsFrom_has (n := s.heap.objs.size + 1) (acc := []) (.inl (mem_of_lookup (b.nm ▸ q)))).elim fun d hd => by
    rw [N.cells]; exact lookup_of_mem hd
  refine ⟨?_, by show env.scope.kind = _; rw [N.scope]; exact hk, by show env.scope.names = _; rw [N.scope]; exact b.nm.symm, N.glob.trans hg, N.blt.trans hbl, fun d hd => List.mem_append_right _ hd, I₁.apart, .head _,
    ⟨_, ic.toInCall.ns, fun i y p h1 h2 h3 => fn_slot b hpl h1 h2 fun q1 q2 => (x.get q2).elim fun v z => ⟨v, (bind_at (cm := fun _ => none) hn q1 z.1).1 (by rw [hko]; exact h3), z.2⟩⟩,
    fun i y p h1 h2 h3 => fn_slot b hpl h1 h2 fun q1 q2 => (x.get q2).elim fun v z => (hhas y (hcel y h3)).elim fun d hd => ⟨d, v, hd, ?_, z.2⟩,
    fun y h1 => (hhas y (hcel y h1)).elim fun d hd => ⟨d, _, hd, ic.cell y d hd⟩, fun y d hd => List.mem_append_right _ (.tail _ (caOf_in hd)), fun y _ d hd => .tail _ (caOf_in hd), fun y z d h1 h2 => name_of_addr ic.apart (mem_of_lookup h1) (mem_of_lookup h2),
    ⟨env :: l, Around.frames_deeper hl.1, fun e he => (List.mem_cons.mp he).elim (fun e1 => ?_) fun he => (hl.2 e he).imp id fun r => r.elim fun L r => r.elim fun f r => ⟨L, f, r.1, List.mem_append_left _ r.2.1, ns_ko r.2.2 fun o e _ => .same (ic.toInCall.keep L o e)⟩⟩⟩
  · rw [List.length_append, List.length_map, List.length_replicate, hpl]; exact Nat.add_sub_cancel' hle
  · rw [← (bind_at (ko := env.kindOf) (m := fun _ => none) (cm := fun _ => none) hn q1 z.1).2 (by rw [hko, hcel y h3]; decide)]; exact ic.cell y d hd
  · rw [e1]; exact ⟨by rw [N.scope, hk]; decide, _, _, N.frame, List.mem_append_right _ (.head _), ic.toInCall.ns⟩
section
variable {c : Cx} {ω₁ ω₂ : Wd} {σ' : St} {m₂ : Fm} {hr h₀ : Heap} {s₂ : Shared} {a t : Addr} {y : Str} {tk : Tok} {base : Heap} {E : Value → Shared → Prop}
theorem fn_exm (hA : c.A.frames = some (env :: l)) (hf : env.frame = some env.locals) (X : XB c ω₁ h₀ ω₂ σ' m₂ hr s₂) (hm : Heap.MadeExc hr s₂.heap a "ValueError" [.str y tk]) (G' : Gw ω [] s.heap ⟨ω₂.mu, ω.ex⟩ hr) (I' : Inv c.B ⟨ω₂.mu, ω.ex⟩ σ' { s₂ with heap := hr }) (kx : KX c.B ω s.heap σ' l y E) :
    wpAny (model c.B.prog c.B.w) c.A (leaving env (.ref a)) (fun _ s'' => E (.ref a) s'') (fun e' s'' => E e' s'') s₂ :=
  X.fr.ff.elim fun l' q => by
    cases so (q.1.symm.trans hA)
    have hfr : ∀ e ∈ env :: l, e.scope.kind ≠ .module ∧ ∃ L f, e.frame = some L ∧ (hideAll hr ((env :: l).filterMap (·.frame))).get? L = none ∧ hr.Ns L f := fun e he =>
      (q.2 e he).imp id fun r => r.elim fun L r => r.elim fun f r => ⟨L, f, r.1, hideAll_none _ (List.mem_filterMap.mpr ⟨e, he, r.1⟩), r.2.2⟩
    refine wpAny_leaves_madeW (base := hideAll hr ((env :: l).filterMap (·.frame))) hA hf (fun b o q => of_hideAll _ q) (fun_frames hfr) (cls := .type "ValueError") (args := [.str y tk]) ⟨hm.keeps, hm.new, hm.there⟩ fun h' t hfl htup hbt hu =>
      kx a t tk hr _ ⟨ω₂.mu, ω.ex⟩ { s₂ with heap := h' } G' I' ⟨fun b o hb => ?_, (Heap.UpToSlots.of_keeps hm.keeps).trans hu, hfl, hbt, htup⟩
    exact (Classical.em (b ∈ (env :: l).filterMap (·.frame))).elim (fun hbf => .inl ((List.mem_filterMap.mp hbf).elim fun e r => (q.2 e r.1).2.elim fun L r' => r'.elim fun f r' => by
      cases so (r.2.symm.trans r'.1)
      exact ⟨X.inv.new _ (.inr r'.2.1), r'.2.2.elim fun o' z => z.elim fun es z => z.elim fun ep z => so (z.1.symm.trans hb) ▸ ⟨es, ep, z.2.1⟩, fun z => X.fr.apart _ z r'.2.1⟩)) fun hbf => .inr (hideAll_get _ hb hbf)
theorem fn_exc (hA : c.A.frames = some (env :: l)) (hf : env.frame = some env.locals) (X : Fly c.B ω₂ (env :: l) y a t tk hr base s₂.heap) (G' : Gw ω [] s.heap ⟨ω₂.mu, ω.ex⟩ hr) (I' : Inv c.B ⟨ω₂.mu, ω.ex⟩ σ' { s₂ with heap := hr }) (kx : KX c.B ω s.heap σ' l y E) :
    wpAny (model c.B.prog c.B.w) c.A (leaving env (.ref a)) (fun _ s'' => E (.ref a) s'') (fun e' s'' => E e' s'') s₂ :=
  wpAny_leaves_onW hA hf X.fly fun h' hfl' hu' => kx a t tk hr base ⟨ω₂.mu, ω.ex⟩ { s₂ with heap := h' } G' I' ⟨X.kp, X.up.trans hu', hfl', X.tn, X.tup.of_slots hu'⟩
end
theorem fun_ok {lv : Nat} {a : Addr} {o : Obj} {body : List Stmt} {g : EvS}
    (ho : B.h₀.get? a = some o) (hc : o.cls ≠ .none) (hd : o.data = .func fd) (hbody : fd.body = .stmts body) (hg : fd.globals = mainGlobals) (hbl : fd.builtins = builtinsNs) (hclo : fd.closure = [])
    (hcd : ∀ h : Heap, (∀ b o, B.h₀.get? b = some o → o.cls ≠ .none → h.get? b = some o) → h.CodeRec fd.code fd.qualname)
    (hbind : ∀ vals : List Value, vals.length = params.length → bindArgs fd ⟨vals, []⟩ = pure (params.zip vals)) (hn : params.Nodup) (hB : fnB Γ params fd.scope.names = true) (hle : params.length ≤ Γ.nt.length)
    (hs : ∀ c : Cx, FnCx B lv Γ fd.code (fd.qualname ++ ".<locals>.") c → SSs c body g)
    (hco : fd.scope.isCoroutine = false) (hgen : fd.scope.isGenerator = false) (hk : fd.scope.kind = .function) :
    FOK B (lv + 1) (.ref a) (fnRunE g params.length Γ.nt.length) := by
  refine ⟨⟨a, o, fd, rfl, ho, hc, hd⟩, fun A R ω σ s Q E ps vs out σ' l hl I x e k => gd_el e fun hpl e => s3_el e fun r m₂ σ₂ hr e => vl_el (P := fun σ' => KO' B ω s.heap σ' l out Q E → _) e (fun hout k => ?_) k⟩
  have hpl := dec hpl
  have b := fnB_at hB
  have hkind : ∀ y ∈ params.zip vs, fd.scope.names.lookup y.1 = some .local ∨ (fd.scope.names.lookup y.1 = some .cell ∧ ((cellsFrom (s.heap.objs.size + 1) fd.scope.names []).lookup y.1).isSome = true) := fun y hy =>
    (b.ps y.1 (List.of_mem_zip hy).1).imp id fun q => ⟨q, (cellsFrom_has (n := s.heap.objs.size + 1) (acc := []) (.inl (mem_of_lookup q))).elim fun d hd => (lookup_of_mem hd).elim fun d' hd' => by rw [hd']; rfl⟩
  refine wpAny_call (codeAny_call_cells (by have := R.depth; show A.depth < 1000; omega) (I.base ho hc) hd I.lim (hcd _ fun b o e hb => I.base e hb) hbody (hbind vs (by rw [x.length, hpl])) hclo hkind (fun s₁ ic => ?_) hco hgen hk)
  have N : NE fd s.heap.objs.size (callEnvC fd s.heap.objs.size a) := ⟨rfl, rfl, rfl, rfl, rfl, rfl, rfl, rfl⟩
  generalize callEnvC fd s.heap.objs.size a = env at ic N ⊢
  have ⟨h₁, tk₁, hs₁⟩ := ic.toInCall.same
  subst hs₁
  have hX := ca_new N ic
  have hup : ∀ d ∈ ω.ex ++ (env.locals :: caOf env), d ∈ ω.ex ∨ s.heap.get? d = none := fun d hd => (List.mem_append.mp hd).imp id fun q => (hX d q).1
  have I₁ : Inv B ⟨ω.mu, ω.ex ++ (env.locals :: caOf env)⟩ σ { s with heap := h₁, toks := tk₁ } := I.bar ic.toInCall.keep rfl fun d hd => (List.mem_append.mp hd).imp id (hX d)
  have F₁ := fr_fun N ic b hn hg hbl hk hpl hle hl I₁ (x.carry ((Carry.more (ω := ω) (ω' := ⟨ω.mu, ω.ex ++ (env.locals :: caOf env)⟩) rfl hup).trans (.of_keep ic.toInCall.keep)))
  have R' : Rm lv (A.deeper env) := ⟨R.hh, by have := R.depth; show A.depth + 1 + lv ≤ 900; omega, by have := R.units; show A.units + 3 + 10 * lv ≤ 9000; omega⟩
  have hA := Around.frames_deeper (env := env) hl.1
  have g₁ : Gx ω [] s.heap ⟨ω.mu, ω.ex ++ (env.locals :: caOf env)⟩ h₁ (env.locals :: caOf env) := Gx.of_gw (.refl _ _ _) ic.toInCall.keep fun d hd => (hX d hd).1
  have hdone : ∀ {ω₂ : Wd} {h₂ : Heap}, Gw ⟨ω.mu, ω.ex ++ (env.locals :: caOf env)⟩ (env.locals :: caOf env) h₁ ω₂ h₂ → Gw ω [] s.heap ⟨ω₂.mu, ω.ex⟩ h₂ ∧ ∀ d ∈ ω.ex, d ∈ ω₂.ex := fun G =>
    ⟨(g₁.trans G fun d hd => .inr (hX d hd).1).drop, fun d hd => by rw [G.ex]; exact List.mem_append_left _ hd⟩
  have H := fun Q' E' => hs ⟨B, A.deeper env, env, env.locals :: caOf env, Γ⟩ ⟨rfl, R', rfl, ⟨l, hA⟩, N.frame, N.code, N.qual.trans rfl⟩ _ _ _ _ Q' E' r m₂ σ₂ F₁ I₁ (hpl ▸ hr)
  cases r with
  | next => cases so hout; exact H _ _ (fun ω₂ s₂ G₂ I₂ F₂ => have d := hdone G₂; k .none _ s₂ d.1 (I₂.unbar rfl d.2) .none_in) trivial
  | ret p => cases so hout; exact H _ _ (fun ω₂ s₂ G₂ I₂ F₂ v hv => have d := hdone G₂; k v _ s₂ d.1 (I₂.unbar rfl d.2) (hv.carry (Carry.less (ω := ω₂) (ω' := ⟨ω₂.mu, ω.ex⟩) rfl d.2))) trivial
  | brk => exact nn hout
  | cont => exact nn hout
  | exc y =>
    cases so hout
    exact H _ _ (fun _ _ _ _ _ => trivial) fun e₀ t tk hr base l' ω₂ s₂ hl' X Y => by
      cases so (hl'.symm.trans hA)
      have d := hdone X.gw
      exact fn_exc hA N.frame Y d.1 (X.inv.unbar rfl d.2) k
  | exm y => cases so hout; exact H _ _ (fun _ _ _ _ _ => trivial) fun e₀ tk hr ω₂ s₂ X Y => have d := hdone X.gw; fn_exm hA N.frame X Y d.1 (X.inv.unbar rfl d.2) k
end
end Sh
namespace Sh
open PySem PySem.Calls PyProof.Rows PySem.W PySem.Spec
section
variable {B : Base} {ω ω' : Wd} {e : List Addr} {σ' : St} {s : Shared}
theorem fz_back (hm : ω'.mu = ω.mu ++ e) (hx : ω'.ex = ω.ex) {h : Heap} {a : Addr} {o : Obj} (f : Fz ω' h a o) : Fz ω h a o :=
  ⟨fun q => f.1 (by rw [hm]; exact List.mem_append_left _ q), by rw [← hx]; exact f.2.1, f.2.2⟩
theorem idx_back (hm : ω'.mu = ω.mu ++ e) {i : Nat} {a : Addr} (hi : i < ω.mu.length) (h : ω'.mu[i]? = some a) : ω.mu[i]? = some a := by
  rwa [hm, List.getElem?_append_left hi] at h
mutual
theorem cl_ok (hm : ω'.mu = ω.mu ++ e) (hx : ω'.ex = ω.ex) {h : Heap} : ∀ {p : PV} {v : Value}, clV ω.mu.length p = true → VR B.C ω' h p v → VR B.C ω h p v
  | .none, _, _, x => x
  | .bool _, _, _, x => x
  | .int _, _, _, x => x
  | .str _, _, _, x => x
  | .byt _, _, _, x => x
  | .tup l, _, q, x => x.tup_el (P := fun v => VR B.C ω h (.tup l) v) fun _ _ _ _ f c d r => .tup_in (fz_back hm hx f) c d (cls_ok hm hx q r)
  | .lst l, _, q, x => x.lst_el (P := fun v => VR B.C ω h (.lst l) v) fun _ _ _ _ f c d r => .lst_in (fz_back hm hx f) c d (cls_ok hm hx q r)
  | .rng a b c, _, _, x => x.rng_el (P := fun v => VR B.C ω h (.rng a b c) v) fun _ _ _ _ f => .rng_in (fz_back hm hx f)
  | .loc n, _, q, x => x.loc_el (P := fun v => VR B.C ω h (.loc n) v) fun _ i => .loc_in (idx_back hm (dec q) i)
  | .strm n, _, q, x => x.strm_el (P := fun v => VR B.C ω h (.strm n) v) fun _ _ f i => .strm_in (fz_back hm hx f) (idx_back hm (dec q) i)
  | .app n, _, q, x => x.app_el (P := fun v => VR B.C ω h (.app n) v) fun _ _ f i => .app_in (fz_back hm hx f) (idx_back hm (dec q) i)
theorem cls_ok (hm : ω'.mu = ω.mu ++ e) (hx : ω'.ex = ω.ex) {h : Heap} : ∀ {ps : List PV} {vs : List Value}, clL ω.mu.length ps = true → VRs B.C ω' h ps vs → VRs B.C ω h ps vs
  | [], _, _, x => x
  | p :: ps, _, q, x => and_el q fun q1 q2 => x.cons_el (Ps := fun vs => VRs B.C ω h (p :: ps) vs) fun _ _ a b => .cons_in (cl_ok hm hx q1 a) (cls_ok hm hx q2 b)
end
theorem new_frz (I : Inv B ω' σ' s) (hm : ω'.mu = ω.mu ++ e) (hx : ω'.ex = ω.ex) {i : Nat} {a : Addr} {o : Obj} (hi : ¬ i < ω.mu.length) (h : ω'.mu[i]? = some a) (ho : s.heap.get? a = some o) (hd : ¬ Dic o ∧ ¬ Tbl o) : Fz ω s.heap a o :=
  ⟨fun q => (List.mem_iff_getElem?.mp q).elim fun j hj => by
    have hjl : j < ω.mu.length := (List.getElem?_eq_some_iff.mp hj).1
    have hj' : ω'.mu[j]? = some a := by rw [hm, List.getElem?_append_left hjl]; exact hj
    have h1 := List.getElem?_eq_some_iff.mp h
    have h2 := List.getElem?_eq_some_iff.mp hj'
    exact hi ((List.getElem_inj I.nodup).mp (h1.2.trans h2.2.symm) ▸ hjl), fun q => I.apart a (List.mem_of_getElem? h) (hx ▸ q), ho, hd⟩
mutual
theorem fzV_ok (I : Inv B ω' σ' s) (hm : ω'.mu = ω.mu ++ e) (hx : ω'.ex = ω.ex) : ∀ (k : Nat) {p q : PV} {v : Value}, fzV ω.mu.length σ' k p = some q → VR B.C ω' s.heap p v → VR B.C ω s.heap q v
  | 0, _, _, _, h, _ => nn h
  | k + 1, .none, q, v, h, x => so_el (P := fun q => VR B.C ω s.heap q v) h x
  | k + 1, .bool _, q, v, h, x => so_el (P := fun q => VR B.C ω s.heap q v) h x
  | k + 1, .int _, q, v, h, x => so_el (P := fun q => VR B.C ω s.heap q v) h x
  | k + 1, .str _, q, v, h, x => so_el (P := fun q => VR B.C ω s.heap q v) h x
  | k + 1, .byt _, q, v, h, x => so_el (P := fun q => VR B.C ω s.heap q v) h x
  | k + 1, .tup l, q, v, h, x => mp_el (P := fun q => VR B.C ω s.heap q v) h fun l' h1 => x.tup_el (P := fun v => VR B.C ω s.heap (.tup l') v) fun _ _ _ _ f c d r => .tup_in (fz_back hm hx f) c d (fzL_ok I hm hx k h1 r)
  | k + 1, .lst l, q, v, h, x => mp_el (P := fun q => VR B.C ω s.heap q v) h fun l' h1 => x.lst_el (P := fun v => VR B.C ω s.heap (.lst l') v) fun _ _ _ _ f c d r => .lst_in (fz_back hm hx f) c d (fzL_ok I hm hx k h1 r)
  | k + 1, .loc i, q, v, h, x => by
    have h : cond (decide (i < ω.mu.length)) (some (.loc i)) (bd (locL σ' i) fun l => (fzL ω.mu.length σ' k l).map .lst) = some q := h
    refine VR.loc_el (P := fun v => VR B.C ω s.heap q v) x fun a hi => ?_
    cases hlt : decide (i < ω.mu.length) with
    | true => rw [hlt] at h; exact so_el (P := fun q => VR B.C ω s.heap q (.ref a)) (ct h) (.loc_in (idx_back hm (dec hlt) hi))
    | false =>
      rw [hlt] at h
      exact bd_el (cf h) fun l hl h => mp_el (P := fun q => VR B.C ω s.heap q (.ref a)) h fun l' h1 => I.lst_el hi (locL_at hl) fun o vs n ho c d r => .lst_in (new_frz I hm hx (of_decide_eq_false hlt) hi ho (seq_frz d)) c.1 d (fzL_ok I hm hx k h1 r)
  | k + 1, .rng _ _ _, _, _, h, _ => nn h
  | k + 1, .strm _, _, _, h, _ => nn h
  | k + 1, .app _, _, _, h, _ => nn h
theorem fzL_ok (I : Inv B ω' σ' s) (hm : ω'.mu = ω.mu ++ e) (hx : ω'.ex = ω.ex) : ∀ (k : Nat) {p q : List PV} {v : List Value}, fzL ω.mu.length σ' k p = some q → VRs B.C ω' s.heap p v → VRs B.C ω s.heap q v
  | 0, _, _, _, h, _ => nn h
  | k + 1, [], q, v, h, x => so_el (P := fun q => VRs B.C ω s.heap q v) h x
  | k + 1, p :: r, q, v, h, x => bd_el h fun q' h1 h => bd_el h fun t' h2 h => so_el (P := fun q => VRs B.C ω s.heap q v) h (x.cons_el (Ps := fun v => VRs B.C ω s.heap (q' :: t') v) fun _ _ a b => .cons_in (fzV_ok I hm hx k h1 a) (fzL_ok I hm hx k h2 b))
end
theorem inv_drop (I : Inv B ω' σ' s) (hm : ω'.mu = ω.mu ++ e) (hx : ω'.ex = ω.ex) (hc : (σ'.take ω.mu.length).all (clO ω.mu.length) = true) : Inv B ω (σ'.take ω.mu.length) s :=
  have hlen : ω.mu.length ≤ σ'.length := by rw [← I.len, hm, List.length_append]; exact Nat.le_add_right ..
  have up : ∀ a ∈ ω.mu, a ∈ ω'.mu := fun a q => by rw [hm]; exact List.mem_append_left _ q
  ⟨I.bok, I.lim, I.old, by rw [List.length_take]; exact (Nat.min_eq_left hlen).symm, by have := I.nodup; rw [hm, List.nodup_append] at this; exact this.1, fun a ha => I.new a (ha.imp (up a) (fun q => hx ▸ q)), fun a ha hx' => I.apart a (up a ha) (hx ▸ hx'),
    fun a ha => I.exl a (hx ▸ ha), fun i a o e1 e2 => by
      have hi : i < ω.mu.length := (List.getElem?_eq_some_iff.mp e1).1
      have e1' : ω'.mu[i]? = some a := by rw [hm, List.getElem?_append_left hi]; exact e1
      have hcl := List.all_eq_true.mp hc o (List.mem_of_getElem? e2)
      rw [List.getElem?_take_of_lt hi] at e2
      have x := I.objs i a o e1' e2
      cases o with
      | lst l => exact I.lst_el e1' e2 fun o vs n h1 h2 h3 h4 => ⟨o, vs, n, h1, h2, h3, cls_ok hm hx hcl h4⟩
      | plain => exact x
      | sdict b => exact B.Z.carry x (fun a o f => fz_back hm hx f) fun _ q => q, I.os, I.gens, I.tab.carry I.bok I.new (fun b o e _ _ _ => e) (fun a q => .inl (up a q)) fun a q => .inl (hx ▸ q)⟩
end
theorem gw_drop {ω ω' : Wd} {h h' : Heap} (g : Gw ω [] h ω' h') : Gw ω [] h ω h' := ⟨⟨[], by simp, by simp⟩, rfl, g.kp, g.there⟩
theorem drop_ok {B : Base} {lv : Nat} {v : Value} {sp : Spec} (h : FOK B lv v sp) : FOK B lv v (dropS sp) :=
  ⟨h.1, fun A R ω σ s Q E ps vs out σ' l hl I x e k => sq_el e fun o σ₂ h₂ e => bd_el e fun o' ho e => gd_el e fun hc e => pr_el (P := fun out σ' => KO' B ω s.heap σ' l out Q E → _) e (fun k => by
    rw [show σ.length = ω.mu.length from I.len.symm] at ho hc k
    refine h.2 A R ω σ s Q E ps vs o σ₂ l hl I x h₂ ?_
    exact match o, ho with
      | .val p, ho => bd_el (show bd (fzV ω.mu.length σ₂ 100000 p) (fun q => some (Out.val q)) = some o' from ho) fun q hq ho =>
          (so_el (P := fun o' => KO' B ω s.heap (σ₂.take ω.mu.length) l o' Q E → KV B ω s.heap σ₂ p Q) ho (fun k v' ω' s' G' I' x' => G'.ext.elim fun ee hm => k v' ω s' (gw_drop G') (inv_drop I' hm.1 G'.ex hc) (fzV_ok I' hm.1 G'.ex _ hq x'))) k
      | .exc y, ho =>
          (so_el (P := fun o' => KO' B ω s.heap (σ₂.take ω.mu.length) l o' Q E → KX B ω s.heap σ₂ l y E) (show some (Out.exc y) = some o' from ho) (fun k a t tk hr base ω' s' G' I' X => G'.ext.elim fun ee hm => k a t tk hr base ω s' (gw_drop G') (inv_drop I' hm.1 G'.ex hc)
            ⟨fun b o q => (X.kp b o q).imp (fun z => ⟨z.1, z.2.1, fun w => z.2.2 (by rw [hm.1]; exact List.mem_append_left _ w)⟩) id, X.up, X.fly, X.tn, X.tup⟩)) k) k⟩
end Sh
namespace Sh
open PySem PySem.Calls PyProof.Rows PySem.W PySem.Spec
theorem mro_object : mroOf (.type "object") = pure [.type "object"] := by rw [mroOf_type]; kernel_rfl
theorem lookup_object_new : typeLookup (.type "object") "__new__" = pure (some (.builtin "object.__new__")) := by rw [typeLookup_type, builtinLookup_eq_fast]; kernel_rfl
theorem called_object : TypeCalled "object" "object.__new__" "object.__init__" :=
  ⟨by decide +kernel, by decide +kernel, ⟨_, _, mro_object⟩, madeBy_type mro_object lookup_object_new (by decide +kernel), by decide +kernel, by rw [isSubtype_type]; kernel_rfl, PySem.F.slot_object_init⟩
theorem typeCall_object : checkTypeCall "object" ⟨[], []⟩ = pure () := by kernel_rfl
theorem newCall_object : checkBuiltinCall "object.__new__" ⟨[.type "object"], []⟩ = pure () := by kernel_rfl
theorem entry_object_new : entryFor table "object.__new__" = some Builtin.«object.__new__» := entryFor_of_tree (by kernel_rfl)
theorem plain_object_new : plainId "object.__new__" = true := by decide +kernel
theorem madeHere_object : Bind.madeHere "object.__new__" (.type "object") = pure () := by kernel_rfl
theorem hasDict_object : typeHasDict (.type "object") = false := by kernel_rfl
section
variable {prog : Program} {w : World} {A : Around} {E : Value → Shared → Prop} {s : Shared}
theorem code_object_new {Q₁ : Value → Shared → Prop}
    (h : Q₁ (.ref s.heap.objs.size) { s with heap := s.heap.push { cls := .type "object", data := .plain } }) :
    codeAny (model prog w) A (.call (.builtin "object.__new__") ⟨[.type "object"], []⟩) (wants Q₁ E) s := by
  refine codeAny_of_tree ?_
  show wpAny _ A.in1 (do checkBuiltinCall "object.__new__" ⟨[.type "object"], []⟩; again (.builtin "object.__new__" ⟨[.type "object"], []⟩)) _ _ s
  refine wpAny_bind (wpAny_of_eq newCall_object (wpAny_pure ⟨plainId_quiet plain_object_new _, codeAny_builtin entry_object_new ?_⟩))
  rw [Around.under_plainId plain_object_new _]
  have hm := madeHere_object
  have hd := hasDict_object
  obtain ⟨hp, g, d, tk, os⟩ := s
  wp_walk
  exact h
end
section
variable {prog : Program} {w : World} {A : Around} {E : Value → Shared → Prop} {s : Shared}
theorem call_object {Q : Value → Shared → Prop} (h : Q (.ref s.heap.objs.size) { s with heap := s.heap.push { cls := .type "object", data := .plain } }) : wpAny (model prog w) A (call (.type "object") []) Q E s := by
  refine callType_codes (Q₁ := fun obj s₁ => obj = .ref s.heap.objs.size ∧ s₁ = { s with heap := s.heap.push { cls := .type "object", data := .plain } }) called_object typeCall_object F.entry_object_init
    (code_object_new ⟨rfl, rfl⟩) fun obj s₁ h₁ => ?_
  obtain ⟨rfl, rfl⟩ := h₁
  exact ⟨⟨_, Heap.get?_push_size _ rfl, rfl⟩, F.args_object_init_1 _, wpAny_pure ⟨rfl, h⟩⟩
end
theorem md_get : typeLookup (.type "method_descriptor") "__get__" = pure (some (.builtin "method_descriptor.__get__")) := by rw [typeLookup_type, builtinLookup_eq_fast]; kernel_rfl
theorem md_set : typeLookup (.type "method_descriptor") "__set__" = pure none := by rw [typeLookup_type, builtinLookup_eq_fast]; kernel_rfl
theorem md_del : typeLookup (.type "method_descriptor") "__delete__" = pure none := by rw [typeLookup_type, builtinLookup_eq_fast]; kernel_rfl
theorem slot_md : Slot "method_descriptor" "__get__" "method_descriptor.__get__" :=
  .of (owner := "method_descriptor") (n := "__get__") md_get (by decide +kernel) (by decide +kernel) (by decide +kernel)
    (by first | exact .inl (by decide +kernel) | exact .inr (by decide +kernel)) (by rw [isSubtype_type]; kernel_rfl)
theorem entry_md : entryFor table "method_descriptor.__get__" = some Builtin.«method_descriptor.__get__» := entryFor_of_tree (by kernel_rfl)
theorem args_md (a b c : Value) : argsOk "method_descriptor.__get__" ⟨[a, b, c], []⟩ := by unfold argsOk; kernel_rfl
theorem sub_ll : isSubtype (.type "list") (.type "list") = pure true := by rw [isSubtype_type]; kernel_rfl
theorem md_told : Manifest.toldItsClass.contains "list.append" = false := by decide +kernel
theorem md_eq (a : Addr) : Builtin.«method_descriptor.__get__» ⟨[.builtin "list.append", .ref a, .type "list"], []⟩ = ((do
    if !(← isInstance (.ref a) (.type "list")) then
      rule "descr.get.wrong-instance"
      raiseError "TypeError" s!"descriptor '{(Str.ofString "append").toString}' for '{← typeName (.type "list")}' objects doesn't apply to a '{← typeNameOf (.ref a)}' object" : Sem Unit) >>= fun _ => (do
    ret (← newFields "builtin_function_or_method" [.builtin "list.append", .ref a]))) := by kernel_rfl
theorem md_run (prog : Program) (w : World) (A : Around) (Q : Fin → Shared → Prop) (E : Value → Shared → Prop) (a : Addr) (s : Shared) (hT : s.TypeIs (.ref a) "list") (h : Q (.done (.ret (.ref s.heap.objs.size))) { s with heap := s.heap.push (appObj a) }) :
    wpAny (model prog w) A (Builtin.«method_descriptor.__get__» ⟨[.builtin "list.append", .ref a, .type "list"], []⟩) Q E s := by
  rw [md_eq]
  refine wpAny_bind (wpAny_bind (wpAny_isInstance hT sub_ll ?_))
  rw [if_neg (by decide)]
  exact wpAny_pure (wpAny_bind (wpAny_newObj_type (wpAny_pure h)))
theorem meets_app (a : Addr) (xs : Array Value) (k : Nat) (u : Tok) :
    Meets (Builtin.«object.__getattribute__» ⟨[.ref a, .str "append" u], []⟩) (fun _ R s => s.heap.get? a = some { cls := .type "list", dict := none, data := .seq xs k, slots := #[] } ∧ R (.ok (.ret (.ref s.heap.objs.size))) { s with heap := s.heap.push (appObj a) }) :=
  Meets.of_wp fun prog w A R s hs => by
    obtain ⟨hx, h⟩ := hs
    obtain ⟨hp, g, d, tk, os⟩ := s
    have hT : (⟨hp, g, d, tk, os⟩ : Shared).TypeIs (.ref a) "list" := ⟨_, hx, rfl⟩
    have f3 := slot_list_append.lookup
    have f4 := type_list_append
    have f5 := md_get
    have f6 := md_set
    have f7 := md_del
    unfold Builtin.«object.__getattribute__»
    repeat (any_goals (first | assumption | wp_step))
    refine codeAny_call_builtin slot_md.plain entry_md (slot_md.check _ _ _ _ _ _ _ _ type_list_append (args_md _ _ _) (md_run _ _ _ _ _ a _ hT ?_))
    exact wpAny_pure ⟨_, rfl, h⟩
theorem getAttr_app {prog : Program} {w : World} {A : Around} {E : Value → Shared → Prop} {s : Shared} {a : Addr} {xs : Array Value} {k : Nat} {Q : Value → Shared → Prop} (hx : IsL s.heap a xs k)
    (h : ∀ tk, Q (.ref s.heap.objs.size) { s with heap := s.heap.push (appObj a), toks := tk }) : wpAny (model prog w) A (getAttr (.ref a) "append" true) Q E s := by
  obtain ⟨hp, g, d, tk, os⟩ := s
  have hT : ∀ tk', (⟨hp, g, d, tk', os⟩ : Shared).TypeIs (.ref a) "list" := fun _ => ⟨_, hx, rfl⟩
  have f3 := F.slot_list_getattribute.lookup
  have f4 := F.slot_list_getattribute.bind (.ref a)
  have f5 := am_list_getattr_none
  unfold getAttr getAttrBy
  repeat (any_goals (first | assumption | exact hT _ | ((with_reducible show wpAny _ _ (call (Value.builtin "list.__getattribute__") _ _) _ _ _); refine call_meets F.slot_list_getattribute (hT _) am_entry_list_getattribute (F.args_list_getattribute_2 _ _) (meets_app a xs k _) ⟨hx, ?_⟩) | wp_step))
  exact wpAny_pure (h (tk + 1))
theorem callWith_app {M : Model} {A : Around} {E : Value → Shared → Prop} {s : Shared} {pos : Pos} {q a : Addr} {args : List (Bool × Sem Value)} {Q : Value → Shared → Prop} (hpl : args.any (·.1) = false)
    (h : wpAny M A (PySem.evalArgs (.ref q) true args []) (fun x s₁ => s₁.heap.get? q = some (appObj a) ∧ wpAny M A (call (.ref q) x.pos x.kw) Q E s₁) E s) :
    wpAny M A (callWith pos (.ref q) [] args []) Q E s := by
  unfold callWith
  refine wpAny_bind (wpAny_holding (wpAny_mono h (fun x s₁ h₁ => wpAny_bind (wpAny_standAt ?_)) fun _ _ x => x))
  simp only [hpl, List.any_nil, Bool.or_false]
  refine wpAny_bind (m := keeperOf (.ref q)) ?_
  unfold keeperOf
  refine wpAny_bind (wpAny_load h₁.1 ?_)
  refine wpAny_pure ?_
  exact wpAny_bind (wpAny_mono h₁.2 (fun r s₂ hr => wpAny_bind (wpAny_holding (wpAny_point (wpAny_pure hr)))) fun _ _ x => x)
theorem sg_app : ∃ sig, Manifest.signature? "list.append" = some sig ∧ ∀ a v, Bind.checkArgs "list.append" { sig with full := s!"{Bind.lastOf "list"}.{Bind.lastOf "list.append"}" } ⟨[.ref a, v], []⟩ = pure () := by
  refine ⟨(Manifest.signature? "list.append").get (by decide +kernel), by simp, fun a v => by kernel_rfl⟩
theorem kind_app : builtinKind "list.append" = some .method := by decide +kernel
theorem nvar_app : Manifest.varargsMethods.contains "list.append" = false := by decide +kernel
theorem sub_lm : isSubtype (.type "list") (.type "module") = pure false := by rw [isSubtype_type]; kernel_rfl
theorem bound_app {M : Model} {A : Around} {E : Value → Shared → Prop} {s : Shared} {a : Addr} {v : Value} {xs : Array Value} {k : Nat} {Q : Unit → Shared → Prop} (hx : IsL s.heap a xs k) (h : Q () s) : wpAny M A (checkBoundCall "list.append" ⟨[.ref a, v], []⟩) Q E s := by
  obtain ⟨sig, h1, h2⟩ := sg_app
  have f1 := sub_lm
  have f2 := h2 a v
  have f3 := kind_app
  have f4 := nvar_app
  have hT : s.TypeIs (.ref a) "list" := ⟨_, hx, rfl⟩
  unfold checkBoundCall
  rw [h1, f3]
  simp only [f4]
  obtain ⟨hp, g, d, tk, os⟩ := s
  repeat (any_goals (first | assumption | wp_step))
theorem call_app {prog : Program} {w : World} {A : Around} {E : Value → Shared → Prop} {s : Shared} {q a : Addr} {v : Value} {xs : Array Value} {k : Nat} {Q : Value → Shared → Prop} (hq : s.heap.get? q = some (appObj a)) (hx : IsL s.heap a xs k) (hsz : xs.size ≤ sizeLine)
    (hQ : ∀ h' n', IsL h' a (xs.push v) n' → Heap.SameBut a s.heap h' → Q .none { s with heap := h' }) : wpAny (model prog w) A (call (.ref q) [v]) Q E s := by
  have hp : plainId "list.append" = true := slot_list_append.plain
  refine wpAny_call (codeAny_of_tree ?_)
  show wpAny _ _ (callAny (.ref q) _) _ _ _
  simp only [callAny]
  refine wpAny_bind (wpAny_load hq ?_)
  show wpAny _ _ (do checkBoundCall "list.append" ⟨[.ref a, v], []⟩; again (.builtin "list.append" ⟨[.ref a, v], []⟩)) _ _ _
  refine wpAny_bind (bound_app hx (wpAny_pure ⟨plainId_quiet hp _, codeAny_builtin entry_list_append ?_⟩))
  rw [Around.under_plainId hp _]
  show wpAny _ _ (updateSeq a (·.push v) >>= fun _ => ret .none) _ _ s
  have hz' : (xs.push v).size ≤ sizeLine + 1 := by rw [Array.size_push]; omega
  refine wpAny_bind (wpAny_updateSeq hx rfl (hz := hsz) (_hz' := hz') (wpAny_pure ?_))
  exact hQ _ _ (IsL.update hx (·.push v)) (Heap.SameBut.update ..)
section
variable {c : Cx} {Φ : Nat → Option Spec}
theorem se_star {n : Str} {np pos : Pos} (hN : NoGlob c.B) (hn : n = "object") (hg : okG c.Γ n = true) : SE c (.Call (.Name n np) [] [] pos) (ev Φ .star) :=
  fun ω m σ s Q E p σ' F I e k => by
    subst hn
    refine wpAny_Call_ofName (bui_ok F I hg (hN _ (by decide +kernel)) (by decide +kernel) Boot.«object» ?_)
    have hk := keep_push s.heap { cls := .type "object", data := .plain }
    have hn := size_none s.heap
    exact callWith_excType rfl (PySem.evalArgs_none (call_object ((KE.lit e k) _ ⟨ω.mu ++ [s.heap.objs.size], ω.ex⟩ { s with heap := s.heap.push { cls := .type "object", data := .plain } } (gw_push hn hk) (I.push (tk := s.toks) hn hk ⟨_, new_get _ _ rfl, rfl⟩) (.loc_in I.at_new))))
theorem app_frz (l : Addr) : ¬ Dic (appObj l) ∧ ¬ Tbl (appObj l) := ⟨fun ⟨_, _, e⟩ => (nomatch e), fun q => (nomatch q.1)⟩
theorem se_app {a : X} {o : Expr} {attr : Str} {pos : Pos} (ha : SE c o (ev Φ a)) (hb : plainBase o = true) (hat : attr = "append") : SE c (.Attribute o attr pos) (ev Φ (.app a)) :=
  fun ω m σ s Q E p σ' F I e k => sq_el e fun p₁ σ₁ e₁ e => bd_el e fun n e₂ e => bd_el e fun l hl e => by
    subst hat
    exact Attribute_any_ (ha ω m σ s _ E _ _ F I e₁ fun v ω₁ s₁ G₁ I₁ x₁ => loc_vr (P := fun v => wpAny (model c.B.prog c.B.w) c.A (getAttr v "append" true) Q E s₁) I₁ (loc_at e₂ ▸ x₁) hl fun d oo vs kk hi ho hc hd hr => getAttr_app (isL_of ho hc hd) fun tk =>
      (KE.gw (KE.lit e k) G₁).kk I₁ _ _ tk (keep_push _ _) (.app_in (fz_new I₁ (app_frz d) (size_none _) (new_get _ _ rfl)) hi)) (by rw [arm_eval_Attribute, base_plain hb])
theorem se_callv {i : Nat} {x : Str} {a : X} {e : Expr} {np pos : Pos} (hv : c.Γ.vis i x = true) (hk : c.Γ.names.lookup x = some .local ∨ c.Γ.names.lookup x = some .cell ∨ c.Γ.names.lookup x = some .free)
    (hx : (x == ("__classdict__" : Str)) = false) (hd : (x == ("__debug__" : Str)) = false) (h : A1 c Φ a e) : SE c (.Call (.Name x np) [e] [] pos) (ev Φ (.callv i a)) :=
  fun ω m σ s Q E p σ' F I he k => bd_el he fun q hm he => bd_el hm fun o hm ho => bd_el he fun n hq he => sq_el he fun p₁ σ₁ e₁ he =>
    wpAny_Call_ofName (wpAny_Name (load_ok F hv hk (hm.trans (congrArg some ho)) hx fun v r => VR.app_el (P := fun v => wpAny (model c.B.prog c.B.w) c.A (callWith pos v [] (backTo pos (starEach [e] c.env)) []) Q E s) (app_at hq ▸ r) fun qa d f hi => by
      have A : A2 c Φ (.cons a .nil) [e] := ⟨h, trivial⟩
      have hpl : (backTo pos (starEach [e] c.env)).any (·.1) = false := (backTo_all _ _).2.trans A.plain.2
      refine callWith_app (a := d) hpl (A.evalArgs F I (show sq (ev Φ a m σ) (fun p σ => sq (some ([], σ)) fun ps σ => some (p :: ps, σ)) = some ([p₁], σ₁) by rw [e₁]; rfl) fun vs ω₁ s₁ G₁ I₁ x₁ => ?_)
      have f₁ := f.gw G₁ (fun _ q => nomatch q)
      refine ⟨f₁.2.2.1, x₁.one_el fun v hvr => ?_⟩
      exact ql_el he (fun he => bd_el he fun _ e _ => nn e) fun he => ql_el he (fun he => bd_el he fun _ e _ => nn e) fun he => bd_el he fun n' en he => bd_el he fun l hl he => bd_el he fun y ey he => by
        cases so (show some n = some n' from en)
        have hi₁ := G₁.idx hi
        refine I₁.lst_el hi₁ (locL_at hl) fun o ws kk ho hc hdd hr => bd_el ey fun q' eq ey => gd_el ey fun hs ey => ?_
        cases so (show some p₁ = some q' from eq)
        exact call_app f₁.2.2.1 (isL_of ho hc hdd) (by rw [hr.size]; exact lim_line hs) fun h' n' hL' hs' =>
          KM.set (r := .none) (l' := l ++ [p₁]) I₁ hi₁ (fun v' h'' tk G I x => pr_el (P := fun p σ' => KE c ω s σ' p Q → Q v' _) he (fun k => k v' ω₁ { s₁ with heap := h'', toks := tk } (G₁.trans G) (so ey ▸ I) (so ey ▸ x)) k) hs' hL' (by rw [Array.toList_push]; exact hr.append (.one hvr)) .none_in) hd)
end
end Sh
namespace Sh
open PySem PySem.Calls PyProof.Rows PySem.W PySem.Spec
section
variable {c : Cx} {Φ : Nat → Option Spec}
/-- the parts of an f-string -/
noncomputable def FV1 (c : Cx) (Φ : Nat → Option Spec) (x : X) (e : Expr) : Prop := ((∃ k v p, e = .Constant k v p) ∧ SE c e (ev Φ x)) ∨ ∃ v p, e = .FormattedValue v (-1) none p ∧ SE c v (ev Φ x)
noncomputable def FV (c : Cx) (Φ : Nat → Option Spec) : XL → List Expr → Prop
  | .nil, [] => True
  | .cons x r, e :: es => FV1 c Φ x e ∧ FV c Φ r es
  | _, _ => False
theorem lim_le {n m : Nat} (h : n ≤ m) (hm : m ≤ LIM) : n ≤ sizeLine := lim_line (decide_eq_true (Nat.le_trans h hm))
theorem fv_run : ∀ {xs : XL} {es : List Expr}, FV c Φ xs es → ∀ ω m σ s (acc : Str) (Q : Str → Shared → Prop) E ps σ' ss, FR c ω s.heap m → Inv c.B ω σ s → evL Φ xs m σ = some (ps, σ') → strsOf ps = some ss → acc.length + (ss.map (·.length)).sum ≤ LIM →
    (∀ ω' s', Gw ω [] s.heap ω' s'.heap → Inv c.B ω' σ' s' → Q (ss.foldl (· ++ ·) acc) s') → Joins (model c.B.prog c.B.w) c.A E (evalEach es c.env) acc Q s
  | .nil, [], _ => fun ω m σ s acc Q E ps σ' ss F I e hs hl k => by
    cases so (show some (([] : List PV), σ) = some (ps, σ') from e)
    cases so (show some ([] : List Str) = some ss from hs)
    exact k ω s (.refl _ _ _) I
  | .cons x r, e :: es, h => fun ω m σ s acc Q E ps σ' ss F I he hs hl k => sq_el he fun p₁ σ₁ e₁ he => sq_el he fun ps' σ₂ e₂ he => by
    cases so he
    refine bd_el (show (bd p₁.str? fun i => bd (strsOf ps') fun l => some (i :: l)) = some ss from hs) fun y ey hs => bd_el hs fun ss' h1 hs => ?_
    cases so hs
    have hl' : (acc ++ y).length + (ss'.map (·.length)).sum ≤ LIM := by rw [strLen_append, Nat.add_assoc]; exact hl
    have hlen : acc.length + y.length ≤ sizeLine := strLen_append acc y ▸ lim_le (Nat.le_add_right _ _) hl'
    have fin : ∀ t ω₁ s₁, Gw ω [] s.heap ω₁ s₁.heap → Inv c.B ω₁ σ₁ s₁ → ∃ y' t', Value.str y t = .str y' t' ∧ (acc ++ y').length ≤ sizeLine ∧ Joins (model c.B.prog c.B.w) c.A E (evalEach es c.env) (acc ++ y') Q s₁ := fun t ω₁ s₁ G₁ I₁ =>
      ⟨y, t, rfl, by rw [strLen_append]; exact hlen, fv_run h.2 ω₁ m σ₁ s₁ (acc ++ y) Q E _ _ _ (F.gw G₁ I₁.apart) I₁ e₂ h1 hl' fun ω' s' G' I' => k ω' s' (G₁.trans G') I'⟩
    show wpAny _ _ (eval e c.env) _ E s
    exact h.1.elim (fun q => q.2 ω m σ s _ E _ _ F I e₁ fun v ω₁ s₁ G₁ I₁ x₁ => x₁.str_vr ey fun t => fin t ω₁ s₁ G₁ I₁) fun q => q.elim fun v q => q.elim fun p q => by
      rw [q.1]
      exact wpAny_FormattedValue_plain (q.2 ω m σ s _ E _ _ F I e₁ fun v ω₁ s₁ G₁ I₁ x₁ => x₁.str_vr ey fun t => wpAny_formatField_str (fin t ω₁ s₁ G₁ I₁) (fin _ ω₁ _ (G₁.trans (.of_keep fun _ _ e => e)) I₁.toks) (Nat.le_trans (Nat.le_add_left _ _) hlen))
  | .nil, _ :: _, h => h.elim
  | .cons _ _, [], h => h.elim
theorem fold_len : ∀ (l : List Str) (a : Str), (l.foldl (· ++ ·) a).length = a.length + (l.map (·.length)).sum
  | [], a => rfl
  | x :: r, a => by rw [List.foldl_cons, fold_len r, strLen_append, List.map_cons, List.sum_cons, Nat.add_assoc]
theorem se_fstr {xs : XL} {v₁ v₂ : Expr} {es : List Expr} {pos : Pos} (h : FV c Φ xs (v₁ :: v₂ :: es)) : SE c (.JoinedStr (v₁ :: v₂ :: es) pos) (ev Φ (.fstr xs)) :=
  fun ω m σ s Q E p σ' F I e k => sq_el e fun ps σ₁ e₁ e => KE.vl e k fun e k => bd_el e fun ss hss e => gd_el e fun hl e => by
    have h0 : Str.empty.length + (ss.map (·.length)).sum ≤ LIM := by rw [show Str.empty.length = 0 from rfl, Nat.zero_add]; exact dec hl
    exact wpAny_JoinedStr (fv_run h ω m σ s Str.empty _ E ps σ₁ ss F I e₁ hss h0 fun ω' s' G I' => ⟨by rw [fold_len]; exact lim_le (Nat.le_refl _) h0, (KK.str ((k.gw G).kk I') e _ _)⟩)
/-- two or three names at once from a display -/
noncomputable def swapB (Γ : Sc) (ts vs : List Expr) : Bool :=
  (ts.length == 2 || ts.length == 3) && vs.length == ts.length && !(vs.any fun | .Starred .. => true | _ => false) &&
    ts.all (fun | .Name id pos => Γ.names.lookup id == some .local && pos.line == (ts.head?.map (·.pos.line)).getD 0 | _ => false) &&
    decide ((ts.filterMap fun | .Name id _ => some id | _ => none).Nodup) && !vs.all (foldedForSure 8) && !vs.all (constantsAlone 8)
end
end Sh
namespace Sh
open PySem PySem.Calls PyProof.Rows PySem.W PySem.Spec
theorem old_same {h₀ h h' : Heap} (K : OldK h₀ h) (e : ∀ b, (∃ o, h₀.get? b = some o) → h'.get? b = h.get? b) : OldK h₀ h' := by
  refine ⟨fun b o q => ?_, fun b o q => by rw [e b ⟨o, q⟩]; exact K.there b o q⟩
  have hb := e b ⟨o, q⟩
  rcases K.old b o q with x | ⟨t, hc, vs, more, hv, x⟩ | ⟨rfl, hc, ⟨o', es, n, ho', r⟩, z⟩
  · exact .inl (hb.trans x)
  · exact .inr (.inl ⟨t, hc, vs, more, hv, hb.trans x⟩)
  · exact .inr (.inr ⟨rfl, hc, ⟨o', es, n, hb.trans ho', r⟩, fun key => by rw [OldK.staticOf_congr hb key]; exact z key⟩)
/-- what stands where an exception has come down -/
structure Land (c : Cx) (ω : Wd) (σ : St) (s : Shared) (hr h : Heap) (m : Fm) : Prop where
  G : Gw ω [] hr ω h
  I : Inv c.B ω σ { s with heap := h }
  F : FR c ω h m
theorem land {c : Cx} {ω : Wd} {σ : St} {s : Shared} {hr h base : Heap} {m : Fm} (I : Inv c.B ω σ { s with heap := hr }) (F : FR c ω hr m)
    (hb : ∀ b o, hr.get? b = some o → (c.B.h₀.get? b = none ∧ Dic o ∧ b ∉ ω.mu) ∨ base.get? b = some o) (hu : hr.UpToSlots h) (hst : base.StaysIn h) : Land c ω σ s hr h m :=
  have ko : ∀ b o, hr.get? b = some o → KO o (h.get? b) := fun b o e => (hb b o e).elim (fun q => ⟨hu b o e fun vs z => q.2.1.elim fun es w => w.elim fun n w => (nomatch w.symm.trans z), fun z => absurd q.2.1 z⟩) fun q => .same (hst b o q)
  have G : Gw ω [] hr ω h := ⟨⟨[], by simp, by simp⟩, rfl, fun b o e _ _ _ => ko b o e, fun b o e => (ko b o e).1.elim fun sl q => ⟨_, q⟩⟩
  have same : ∀ b o, hr.get? b = some o → (b ∈ ω.mu ∨ ∃ o, c.B.h₀.get? b = some o) → h.get? b = some o := fun b o e hx =>
    (hb b o e).elim (fun q => hx.elim (fun hx => absurd hx q.2.2) fun hx => hx.elim fun o' hx => (nomatch q.1.symm.trans hx)) fun q => hst b o q
  have agree : ∀ b, (∃ o, c.B.h₀.get? b = some o) → h.get? b = hr.get? b := fun b ⟨o, e⟩ => (I.old.there b o e).elim fun o' e' => (same b o' e' (.inr ⟨o, e⟩)).trans (show hr.get? b = some o' from e').symm
  have I' : Inv c.B ω σ { s with heap := h } :=
    ⟨I.bok, I.lim.elim fun mc q => I.bok.lim.elim fun mc₀ q₀ => ⟨mc, ns_ko q.1 fun o' e _ => .same (same _ _ e (.inr (q₀.1.elim fun o z => z.elim fun _ z => z.elim fun _ z => ⟨o, z.1⟩))), q.2⟩, old_same I.old agree, I.len, I.nodup, I.new, I.apart,
      fun a ha => (Option.isSome_iff_exists.mp (I.exl a ha)).elim fun o e => Option.isSome_iff_exists.mpr (G.there a o e), fun i a o e1 e2 => (I.objs i a o e1 e2).carry (.of_gw G fun _ q => nomatch q) fun o' e => same a o' e (.inl (List.mem_of_getElem? e1)), I.os, I.gens,
      I.tab.carry I.bok I.new (fun b o e _ _ hd => (hb b o e).elim (fun q => absurd q.2.1 hd) fun q => hst b o q) (fun _ q => .inl q) fun _ q => .inl q⟩
  ⟨G, I', F.gw G I'.apart⟩
section
variable {c : Cx} {ω : Wd} {σ : St} {s : Shared} {m : Fm}
/-- the frame's own dict, changed at a name that no slot has -/
theorem FR.other {x : Str} {h h' : Heap} {f f' : Str → Option Value} (F : FR c ω h m) (hf : h.Ns c.env.locals f) (hn : h'.Ns c.env.locals f') (hff : ∀ y, y ≠ x → f' y = f y) (hs : Heap.SameBut c.env.locals h h') (hx : x ∉ c.Γ.nt) : FR c ω h' m :=
  have gC : Carry ω h ω h' := .of_ex (F.own _ F.loc) hs.extBut
  have kc : ∀ {a v}, h.IsCell a v → h'.IsCell a v := fun hc => hc.sameBut hs fun q => cell_not_ns hc (q ▸ hf)
  ⟨F.len, F.kind, F.names, F.glob, F.blt, F.own, F.apart, F.loc, F.ns.elim fun f₀ q => ⟨f', hn, fun j y p h1 h2 h3 => (q.2 j y p h1 h2 h3).elim fun v z => ⟨v, (hff y fun e => hx (e ▸ List.mem_of_getElem? (Sc.vis_at h1).1)).trans (ns_uniq q.1 hf ▸ z.1), z.2.carry gC⟩⟩,
    fun j y q h1 h2 h3 => (F.cel j y q h1 h2 h3).elim fun a z => z.elim fun v z => ⟨a, v, z.1, kc z.2.1, z.2.2.carry gC⟩, fun y h1 => (F.celo y h1).elim fun a z => z.elim fun v z => ⟨a, v, z.1, kc z.2⟩, F.celx, F.celw, F.inj,
    F.ff.elim fun l q => ⟨l, q.1, fun e he => (q.2 e he).imp id fun z => z.elim fun L z => z.elim fun f'' z => (Classical.em (L = c.env.locals)).elim (fun e1 => ⟨L, f', z.1, z.2.1, e1 ▸ hn⟩) fun e1 => ⟨L, f'', z.1, z.2.1, z.2.2.sameBut hs e1⟩⟩⟩
theorem FR.mark (F : FR c ω s.heap m) (v : Option Value) : FR ⟨c.B, c.A.mark v, c.env, c.own, c.Γ⟩ ω s.heap m :=
  ⟨F.len, F.kind, F.names, F.glob, F.blt, F.own, F.apart, F.loc, F.ns, F.cel, F.celo, F.celx, F.celw, F.inj, F.ff⟩
theorem FR.unmark {v : Option Value} {h : Heap} (F : FR ⟨c.B, c.A.mark v, c.env, c.own, c.Γ⟩ ω h m) : FR c ω h m :=
  ⟨F.len, F.kind, F.names, F.glob, F.blt, F.own, F.apart, F.loc, F.ns, F.cel, F.celo, F.celx, F.celw, F.inj, F.ff⟩
end
end Sh
namespace Sh
open PySem PySem.Calls PyProof.Rows PySem.W PySem.Spec
section
variable {c : Cx} {Φ : Nat → Option Spec}
theorem ss_try {b o : SL} {bs os : List Stmt} {w : Nat} {x n y n' : Str} {t : Expr} {np np2 np3 p1 p2 hpos pos : Pos} {lv : Nat} (R : Rm lv c.A) (hN : NoGlob c.B) (hfr : ∃ outer, c.A.frames = some (c.env :: outer)) (hfl : c.env.frame = some c.env.locals)
    (hb : SSs c bs (evSL Φ b)) (ho : SSs c os (evSL Φ o)) (hx : x = "ValueError") (hxg : okG c.Γ x = true) (hy : y = "str") (hyg : okG c.Γ y = true) (hn' : n' = n) (hnl : c.Γ.names.lookup n = some .local) (hnt : n ∉ c.Γ.nt) (hnd : (n == ("__debug__" : Str)) = false)
    (ht : nameT c.Γ w t = true) :
    SSt c (.Try bs [.ExceptHandler (some (.Name x np)) (some n) [.Assign [t] (.Call (.Name y np2) [.Name n' np3] [] p1) p2] hpos] os [] pos) (evS Φ (.tryR b w o)) := by
  intro ω m σ s Q E r m' σ' F I he k kx
  subst hx hy hn'
  refine s3_el he fun a m₁ σ₁ e₁ he => wpAny_Try_except ?_
  have H := fun Q' E' => hb ω m σ s Q' E' a m₁ σ₁ F I e₁
  cases a with
  | next => exact H _ _ (fun ω₁ s₁ G₁ I₁ F₁ => ho ω₁ m₁ σ₁ s₁ Q E r m' σ' F₁ I₁ he (KQ.pre k G₁) (EQ.pre G₁ kx)) trivial
  | ret p => exact nn he
  | brk => exact nn he
  | cont => exact nn he
  | exm y => exact nn he
  | exc x =>
    refine H _ _ (fun _ _ _ _ _ => trivial) fun a t0 tk hr base l ω₁ s₁ hl X Y => ?_
    have ⟨outer, hout⟩ := hfr
    cases so (hl.symm.trans hout)
    refine wpAny_looks_onW hout hfl Y.fly fun h₂ held₂ hu₂ => ?_
    refine wpAny_landsW held₂ fun h₃ hfly₃ hu₃ => ?_
    have hu13 := (Y.up.trans hu₂).trans hu₃
    have L₃ := land (s := s₁) X.inv X.fr Y.kp hu13 hfly₃.1
    have F₃' : FR ⟨c.B, c.A.mark (some (.ref a)), c.env, c.own, c.Γ⟩ ω₁ h₃ m₁ := FR.mark (s := { s₁ with heap := h₃ }) L₃.F _
    obtain ⟨ob, hob, hobc⟩ := hfly₃.there
    refine wpAny_handleBy_builtin_as (X := "ValueError") (T := "ValueError") (b := true) PySem.F.isExc_ValueError PySem.F.notTuple_ValueError (by rw [isSubtype_type]; kernel_rfl)
      (bui_ok (c := ⟨c.B, c.A.mark (some (.ref a)), c.env, c.own, c.Γ⟩) (s := { s₁ with heap := h₃ }) F₃' L₃.I hxg (hN _ (by decide +kernel)) (by decide +kernel) Boot.«ValueError» ⟨rfl, ⟨ob, hob, hobc⟩, ?_⟩)
    simp only [if_true]
    refine lands_againW hfly₃ fun h₄ hfly₄ hu₄ => ?_
    have ⟨G₄, I₄, F₄⟩ := land (s := s₁) X.inv X.fr Y.kp (hu13.trans hu₄) hfly₄.1
    obtain ⟨f₄, hf₄, _⟩ := id F₄.ns
    have hLx : c.env.locals ∈ ω₁.ex := F₄.own _ F₄.loc
    refine wpAny_storeName_local (by rw [F.kindOf]; exact hnl) hf₄ (fun h₅ hn₅ hs₅ => ?_) (by rw [F.kind]; rfl)
    have F₅ := F₄.other hf₄ hn₅ (fun z hz => if_neg hz) hs₅ hnt
    have hz₅ : (h₅.get? c.env.locals).isSome = true := by obtain ⟨o, _, _, q, _⟩ := hn₅; rw [q]; rfl
    have I₅ := I₄.exstep (tk := s₁.toks + 1) hLx hs₅.extBut hz₅
    have F₅' : FR ⟨c.B, c.A.mark (some (.ref a)), c.env, c.own, c.Γ⟩ ω₁ h₅ m₁ := FR.mark (s := { s₁ with heap := h₅ }) F₅ _
    -- the exception and its words, there
    obtain ⟨oe, ws, hoe, hoec, hoed, hoe0⟩ := hfly₄.first
    have hneL : ∀ {d : Addr} {od : Obj}, h₄.get? d = some od → ¬ Dic od → d ≠ c.env.locals := fun {d od} hd hnd q => by
      obtain ⟨o', es, ep, q1, q2, _⟩ := hf₄
      rw [← q, hd] at q1; cases q1
      exact hnd ⟨es, ep, q2⟩
    have hex₅ : h₅.get? a = some oe := hs₅.extBut a oe (hneL hoe (by simp [Dic, hoed])) hoe
    obtain ⟨ot, nt, hot, hotc, hotd⟩ := ((Y.tup.of_slots hu₂).of_slots hu₃).of_slots hu₄
    have htp₅ : h₅.TupAt t0 [.str x tk] := ⟨ot, nt, hs₅.extBut t0 ot (hneL hot (by simp [Dic, hotd])) hot, hotc, hotd⟩
    refine nameT_el ht fun q yy hq hv hk => ?_
    rw [hq]
    refine wpAny_execs_cons (wpAny_Assign_Name (wpAny_Call_ofName (bui_ok (c := ⟨c.B, c.A.mark (some (.ref a)), c.env, c.own, c.Γ⟩) (s := { s₁ with heap := h₅, toks := s₁.toks + 1 }) F₅' I₅ hyg (hN _ (by decide +kernel)) (by decide +kernel) Boot.«str» ?_)) rfl)
    refine callWith_excType rfl ?_
    show wpAny _ _ (PySem.evalArgs (.type "str") true [(false, eval (.Name n' np3) c.env)] []) _ _ _
    refine evalArgs_plain (spliced_cons (wpAny_Name (wpAny_loadName_local F.kind (by rw [F.kindOf]; exact hnl) hn₅ (if_pos rfl) ?_) hnd))
    refine spliced_nil ?_
    refine PySem.P.str_of_exc_one PySem.F.excStr_ValueError (by have := R.units; show c.A.units + 2 < 9900; omega) ⟨oe, ws, hex₅, hoec, hoed, hoe0⟩ htp₅ ?_
    refine store_ok (c := ⟨c.B, c.A.mark (some (.ref a)), c.env, c.own, c.Γ⟩) (s := { s₁ with heap := h₅, toks := s₁.toks + 1 }) (p := .str x) F₅' I₅ hv hk .str_in fun h₆ tk₆ G₆ I₆ F₆ => ?_
    refine wpAny_execs_nil ?_
    have F₆' : FR c ω₁ h₆ (m₁.set w (some (.str x))) := F₆.unmark
    obtain ⟨f₆, hf₆, _⟩ := id F₆'.ns
    refine wpAny_nameGoes_keeps (by rw [F.kindOf]; exact hnl) hf₆ (by rw [F.kind]; rfl) fun h₇ v hn₇ hs₇ => ?_
    have hz₇ : (h₇.get? c.env.locals).isSome = true := by obtain ⟨o, _, _, q, _⟩ := hn₇; rw [q]; rfl
    have hz₇' : ∃ o', h₇.get? c.env.locals = some o' := Option.isSome_iff_exists.mp hz₇
    have hz₅' : ∃ o', h₅.get? c.env.locals = some o' := Option.isSome_iff_exists.mp hz₅
    have Gall : Gw ω c.own s.heap ω₁ h₇ := ((((X.gw.trans G₄.own).trans (.of_ext (.inr F₄.loc) hs₅.extBut hz₅')).trans G₆).trans (.of_ext (.inr F₄.loc) hs₇.extBut hz₇'))
    exact r3_el (P := fun r m' σ' => KQ c r ω s.heap σ' m' Q → Q .next { s₁ with heap := h₇, toks := tk₆ + 1 }) he (fun k => k ω₁ _ Gall (I₆.exstep hLx hs₇.extBut hz₇) (F₆'.other hf₆ hn₇ (fun z hz => if_neg hz) hs₇ hnt)) k
end
end Sh
namespace Sh
open PySem PySem.Calls PyProof.Rows PySem.W PySem.Spec
theorem fmtLit_eq : fmtLit = ⟨#[101, 120, 112, 101, 99, 116, 101, 100, 32, 37, 100, 32, 98, 121, 116, 101, 115, 32, 105, 110, 32, 97, 32, 115, 116, 114, 105, 110, 103, 49, 44, 32, 98, 117, 116, 32, 111, 110, 108, 121, 32, 37, 100, 32, 114, 101, 109, 97, 105, 110]⟩ := by decide +kernel
theorem fmt_meets (t u v : Tok) (b : Addr) : Meets (Builtin.«str.__mod__» ⟨[.str ⟨#[101, 120, 112, 101, 99, 116, 101, 100, 32, 37, 100, 32, 98, 121, 116, 101, 115, 32, 105, 110, 32, 97, 32, 115, 116, 114, 105, 110, 103, 49, 44, 32, 98, 117, 116, 32, 111, 110, 108, 121, 32, 37, 100, 32, 114, 101, 109, 97, 105, 110]⟩ t, .ref b], []⟩)
    (fun _ R s => IsTup s.heap b #[.int 4 u, .int 2 v] ∧ ∀ t' k, R (.ok (.ret (.str (Str.ofString "expected 4 bytes in a string1, but only 2 remain") t'))) { s with toks := k }) := by
  kpt_run
noncomputable def isStar (e : Expr) : Bool := match e with
  | .Starred .. => true
  | _ => false
theorem star_no {e : Expr} (h : isStar e = false) : notStar e := fun t p he => by rw [he] at h; exact Bool.noConfusion h
section
variable {c : Cx} {Φ : Nat → Option Spec}
theorem evL2 {a b : X} {m : Fm} {σ σ₁ σ₂ : St} {p q : PV} (e₁ : ev Φ a m σ = some (p, σ₁)) (e₂ : ev Φ b m σ₁ = some (q, σ₂)) : evL Φ (.cons a (.cons b .nil)) m σ = some ([p, q], σ₂) := by
  show sq (ev Φ a m σ) (fun p σ => sq (sq (ev Φ b m σ) fun q σ => sq (some ([], σ)) fun ps σ => some (q :: ps, σ)) fun ps σ => some (p :: ps, σ)) = _
  rw [e₁]
  show sq (sq (ev Φ b m σ₁) _) _ = _
  rw [e₂]
  rfl
theorem se_fmt {x : Str} {a b : X} {e1 e2 : Expr} {k k2 : Nat} {p p2 pos : Pos} (h : A2 c Φ (.cons a (.cons b .nil)) [e1, e2]) : SE c (.BinOp (.Constant (.str x) k p) .Mod (.Tuple [e1, e2] k2 p2) pos) (ev Φ (.fmt x a b)) :=
  fun ω m σ s Q E p σ' F I e kk => sq_el e fun q₁ σ₁ e₁ e => sq_el e fun q₂ σ₂ e₂ e => KE.vl e kk fun e kk =>
    wpAny_BinOp (wpAny_Constant_str (wpAny_Tuple (h.ses p2 ω m σ _ _ E [q₁, q₂] σ₂ F I.toks (evL2 e₁ e₂) fun vs ω₁ s₁ G₁ I₁ x₁ => x₁.two_el fun v w hv hw => i2_vr hv hw e fun i j u u' e => gd_el e fun hc e5 => and_el hc fun h1 h2 => and_el h2 fun h2 h3 => by
      cases dec h2; cases dec h3
      refine ⟨by show 2 ≤ sizeLine; decide, ?_⟩
      have hg := new_get s₁.heap { cls := .type "tuple", data := .seq #[.int 4 u, .int 2 u'] } rfl
      rw [dec h1, fmtLit_eq]
      exact KPt.bin_left (T := "str") (U := "tuple") (op := .Mod) (by decide) (typeIs_str _ _ _) ⟨_, hg, rfl⟩ PySem.F.fills_str_mod KPt.fills_tuple PySem.F.slot_str_mod
        (call_meets PySem.F.slot_str_mod (typeIs_str _ _ _) PySem.F.entry_str_mod (PySem.F.args_str_mod_2 _ _) (fmt_meets _ u u' _) ⟨⟨_, hg, rfl, _, rfl⟩, fun t' tk => ⟨(fun e => nomatch e), ((kk.gw G₁).kk I₁) _ _ tk (keep_push _ _) (so_el (P := fun r => VR c.B.C ω₁ _ r _) e5 .str_in)⟩⟩))))
/-- two names at once from a display: the second first -/
noncomputable def swap2 (Γ : Sc) (t1 t2 e1 e2 : Expr) : Bool := Γ.names.lookup (kd t1).x == some .local && (Γ.names.lookup (kd t2).x == some .local && (t2.pos.line == t1.pos.line && (!((kd t2).x == (kd t1).x) &&
    (!isStar e1 && (!isStar e2 && (!(foldedForSure 8 e1 && foldedForSure 8 e2) && !(constantsAlone 8 e1 && constantsAlone 8 e2)))))))
theorem not_at {a : Bool} (h : (!a) = true) : a = false := (Bool.not_eq_true' _).mp h
theorem pos_name {x : Str} {p : Pos} : (Expr.Name x p).pos = p := rfl
theorem swapped {a b : Str} {pa pb : Pos} {e1 e2 : Expr} {k1 k2 : Nat} {p1 p2 : Pos} {env : Env} (ha : env.kindOf a = some .local) (hb : env.kindOf b = some .local) (hbk : env.blockKind = .function) (s3 : pb.line = pa.line) (s4 : (b == a) = false) (s5 : isStar e1 = false) (s6 : isStar e2 = false)
    (s7 : (foldedForSure 8 e1 && foldedForSure 8 e2) = false) (s8 : (constantsAlone 8 e1 && constantsAlone 8 e2) = false) : swappedStores [.Tuple [.Name a pa, .Name b pb] k1 p1] (.Tuple [e1, e2] k2 p2) env = pure (some [a, b]) := by
  unfold swappedStores
  have hab : (a == b) = false := beq_eq_false_iff_ne.mpr fun q => beq_eq_false_iff_ne.mp s4 q.symm
  simp only [ha, hb, hbk, s3, List.any_cons, List.any_nil, List.length_cons, List.length_nil, List.head?_cons, Option.map_some, Option.getD_some, List.filterMap_cons, List.filterMap_nil, beq_self_eq_true, Bool.and_self, Bool.or_self, if_true, pos_name, Bool.or_false, Bool.false_eq_true, if_false, List.all_cons, List.all_nil, Bool.and_true, s7, s8]
  have he : ([a, b] : List Str).eraseDups.length = 2 := by simp [List.eraseDups_cons, hab, s4]
  rw [if_neg (by decide), if_neg (fun hq => ?_), if_neg (by rw [he]; decide)]
  exact (Bool.or_eq_true_iff.mp hq).elim (fun hq => Bool.noConfusion (s5.symm.trans hq)) fun hq => Bool.noConfusion (s6.symm.trans hq)
theorem asW_run {a b : Str} {pa pb : Pos} {e1 e2 : Expr} {i j : Nat} {k1 k2 : Nat} {p1 p2 pos : Pos} {ω : Wd} {m : Fm} {σ σ₁ : St} {s : Shared} {Q : Flow → Shared → Prop} {E : Value → Shared → Prop} {q1 q2 : PV} {xs : XL}
    (hh : c.A.handled = none) (F : FR c ω s.heap m) (I : Inv c.B ω σ s) (h : A2 c Φ xs [e1, e2]) (e₁ : evL Φ xs m σ = some ([q1, q2], σ₁)) (hsw : swappedStores [.Tuple [.Name a pa, .Name b pb] k1 p1] (.Tuple [e1, e2] k2 p2) c.env = pure (some [a, b]))
    (ha : c.Γ.vis i a = true) (ha' : Stor c.Γ a) (hb : c.Γ.vis j b = true) (hb' : Stor c.Γ b) (k : KQ c .next ω s.heap σ₁ ((m.set j (some q2)).set i (some q1)) Q) :
    wpAny (model c.B.prog c.B.w) c.A (exec (.Assign [.Tuple [.Name a pa, .Name b pb] k1 p1] (.Tuple [e1, e2] k2 p2) pos) c.env) Q E s := by
  rw [exec_Assign_arm]
  refine wpAny_bind (wpAny_standAt ?_)
  rw [show swapsWithSole [.Tuple [.Name a pa, .Name b pb] k1 p1] (.Tuple [e1, e2] k2 p2) pos.line c.env = pure false from rfl]
  refine wpAny_bind (wpAny_pure ?_)
  rw [if_neg (by decide)]
  refine wpAny_bind (wpAny_Tuple (h.ses p2 ω m σ s _ E _ _ F I e₁ fun vs ω₁ s₁ G₁ I₁ x₁ => x₁.two_el fun v w hv hw => ?_))
  refine ⟨by show 2 ≤ sizeLine; decide, ?_⟩
  rw [hsw]
  refine wpAny_bind (wpAny_pure ?_)
  show wpAny _ _ (do rule "assign.swapped-stores"; let items ← unpackItems (.ref s₁.heap.objs.size) 2 none; assignInOrder ([b, a].map fun n => bindName c.env n) items.reverse; (pure Flow.next : Sem Flow)) _ _ _
  refine wpAny_bind (wpAny_rule (wpAny_bind (wpAny_unpackItems_tuple (items := #[v, w]) hh ⟨_, new_get _ _ rfl, rfl, _, rfl⟩ fun h₃ he₃ => ?_)))
  have hk₃ : ∀ b o, s₁.heap.get? b = some o → h₃.get? b = some o := fun b o e => he₃ b o (Nat.ne_of_lt (Heap.lt_size (keep_push _ _ b o e))) (keep_push _ _ b o e)
  have gk : Gw ω₁ [] s₁.heap ω₁ h₃ := .of_keep hk₃
  have F₃ := (F.gw G₁ I₁.apart).gw gk I₁.apart
  show wpAny _ _ ((do holding [v] (bindName c.env b w); (do holding [] (bindName c.env a v); pure ())) >>= fun _ => (pure Flow.next : Sem Flow)) _ _ _
  refine wpAny_bind (wpAny_bind (wpAny_holding (wpAny_bindName (store_ok F₃ (I₁.keep (tk := s₁.toks) hk₃) hb hb' (hw.gw gk) fun h₄ tk₄ G₄ I₄ F₄ => ?_))))
  exact wpAny_bind (wpAny_holding (wpAny_bindName (store_ok (s := { s₁ with heap := h₄, toks := tk₄ }) F₄ I₄ ha ha' ((hv.gw gk).carry (.of_gw G₄ F₃.own)) fun h₅ tk₅ G₅ I₅ F₅ => wpAny_pure (wpAny_pure (k ω₁ { s₁ with heap := h₅, toks := tk₅ } (((G₁.trans gk).own.trans G₄).trans G₅) I₅ F₅)))))
theorem ss_asW {t1 t2 e1 e2 : Expr} {i j : Nat} {xs : XL} {k1 k2 : Nat} {p1 p2 pos : Pos} (hh : c.A.handled = none) (h : A2 c Φ xs [e1, e2]) (h1 : nameT c.Γ i t1 = true) (h2 : nameT c.Γ j t2 = true) (hs : swap2 c.Γ t1 t2 e1 e2 = true) :
    SSt c (.Assign [.Tuple [t1, t2] k1 p1] (.Tuple [e1, e2] k2 p2) pos) (evS Φ (.asW [i, j] xs)) :=
  fun ω m σ s Q E r m' σ' F I he k kx => sq_el he fun ps σ₁ e₁ he => gd_el he fun hl he => and_el hl fun hl _ => nameT_el h1 fun a pa ea va sa => nameT_el h2 fun b pb eb vb sb => by
    rw [ea, eb] at hs ⊢
    refine and_el hs fun s1 hs => and_el hs fun s2 hs => and_el hs fun s3 hs => and_el hs fun s4 hs => and_el hs fun s5 hs => and_el hs fun s6 hs => and_el hs fun s7 s8 => ?_
    have hsw := swapped (k1 := k1) (k2 := k2) (p1 := p1) (p2 := p2) (pa := pa) (pb := pb) (env := c.env) ((F.kindOf a).trans (beq_iff_eq.mp s1)) ((F.kindOf b).trans (beq_iff_eq.mp s2)) (by simp [Env.blockKind, F.kind, ScopeKind.isAnnotationScope]) (beq_iff_eq.mp s3) (not_at s4) (not_at s5) (not_at s6) (not_at s7) (not_at s8)
    exact match ps, dec hl, e₁, he with
    | [q1, q2], _, e₁, he => r3_el (P := fun r m' σ' => KQ c r ω s.heap σ' m' Q → _) he (fun k => asW_run hh F I h e₁ hsw va sa vb sb k) k
end
end Sh
namespace Sh
open PySem PySem.Calls PyProof.Rows PySem.W PySem.Spec PySem.SeqAt Builtin.Str
namespace Sb
open Builtin Builtin.Re
section
variable {M : Model} {A : Around} {E : Value → Shared → Prop} {s : Shared}
theorem drive : ∀ (n N : Nat) (m m' : Sre.M) {Q : Sre.M → Shared → Prop}, n ≤ N → drv n m = some m' → Q m' s → wpAny M A (reDrive N m) Q E s
  | 0, _, _, _, _, _, h, _ => by simp [drv] at h
  | n + 1, 0, _, _, _, h, _, _ => absurd h (by omega)
  | n + 1, N + 1, m, m', Q, hn, h, hq => by
    unfold drv at h
    unfold reDrive
    show wpAny M A (if (m.runFor reTurnSteps).outcome.isSome = true then _ else _) _ _ _
    have e : m.runFor reTurnSteps = m.runFor 4 := rfl
    rw [e]
    simp only at h
    split at h
    · rename_i hs; cases h; rw [if_pos hs]; exact wpAny_pure hq
    · rename_i hs; rw [if_neg hs]; exact wpAny_bind (wpAny_rule (drive n N _ _ (by omega) h hq))
theorem run_no {n : Nat} {m m' : Sre.M} {Q : Option Sre.M → Shared → Prop} (hn : n ≤ 1000) (h : drv n m = some m') (ho : m'.outcome = some .failed) (hq : Q none s) : wpAny M A (reRunToEnd m) Q E s := by
  unfold reRunToEnd
  refine wpAny_bind (drive n _ m m' (Nat.le_trans hn (by decide +kernel)) h ?_)
  refine wpAny_bind (wpAny_forIn_list _ (fun _ _ s' => s' = s) _ ?_ ?_ _ _ rfl)
  · intro x rest b s' hs'
    subst hs'
    refine wpAny_ite ?_
    split
    · exact wpAny_bind (wpAny_rule (wpAny_pure rfl))
    · exact wpAny_pure rfl
  · intro b s' hs'
    subst hs'
    rw [ho]
    exact wpAny_pure hq
end
noncomputable def PatAt (h : Heap) (p : Addr) (code : Array Nat) : Prop :=
  ∃ o fs c oc xs n, h.get? p = some o ∧ o.data = .fields fs ∧ reRawNat (fs.getD 6 .none) = 0 ∧ fs.getD 5 .none = .ref c ∧ h.get? c = some oc ∧ oc.data = .seq xs n ∧ (xs.map reRawOf).map (·.toNat) = code ∧ reRawNat (fs.getD 2 .none) = 1
noncomputable def tgt (p : Addr) (code : Array Nat) (x : Str) (t : Tok) : ReTarget := { pattern := .ref p, string := .str x t, code, text := x.cps, kind := 0, groups := 1, pos := 0, lim := x.cps.size }
section
variable {M : Model} {A : Around} {E : Value → Shared → Prop} {s : Shared}
theorem target {p : Addr} {code : Array Nat} {x : Str} {t : Tok} {Q : ReTarget → Shared → Prop} (hp : PatAt s.heap p code) (hq : Q (tgt p code x t) s) : wpAny M A (reWholeTarget (.ref p) (.str x t)) Q E s := by
  obtain ⟨o, fs, c, oc, xs, n, ho, hd, h6, h5, hc, hcd, hcode, h2⟩ := hp
  unfold reWholeTarget
  refine wpAny_bind ?_
  show wpAny M A (load p >>= _) _ E s
  refine wpAny_bind (wpAny_load ho ?_)
  rw [hd]
  refine wpAny_pure ?_
  refine wpAny_bind (wpAny_of_eq (a := (x.cps, 0)) rfl ?_)
  simp only [h6]
  show wpAny M A (reNoCollectionInside (.str x t) 0 >>= _) _ E s
  refine wpAny_bind (wpAny_of_eq (a := ()) rfl ?_)
  refine wpAny_bind ?_
  unfold reRawItems
  rw [h5]
  refine wpAny_bind (wpAny_seqItems hc hcd (wpAny_pure ?_))
  refine wpAny_pure ?_
  rw [h2]
  show Q { pattern := .ref p, string := .str x t, code := (xs.map reRawOf).map (·.toNat), text := x.cps, kind := 0, groups := 1, pos := 0, lim := x.cps.size } s
  rw [hcode]
  exact hq
end
theorem loop_no {p f l : Addr} {x : Str} {t : Tok} {code : Array Nat} {m' : Sre.M} :
    Meets («re.Pattern.sub.loop» ⟨[.ref p, .str x t, .ref f, rawInt 1, rawInt 0, rawInt 0, rawInt 0, rawInt 0, .bool false, .ref l, .bool false], []⟩) (fun _ R s =>
      PatAt s.heap p code ∧ drv 1000 (Sre.forSearch code x.cps 1 0 x.cps.size false) = some m' ∧ m'.outcome = some .failed ∧ s.heap.get? l = some { cls := .type "list", data := .seq #[] 0 } ∧ x.length ≤ 100000 ∧
      ∀ h' t' k, s.heap.SameBut l h' → R (.ok (.ret (.str x t'))) { s with heap := h', toks := k }) := by
  refine .of_wp fun prog w A R s hS => ?_
  obtain ⟨hp, hm, ho, hl, hx, k⟩ := hS
  show wpAny _ _ (reWholeTarget (.ref p) (.str x t) >>= _) _ _ _
  refine wpAny_bind (target hp ?_)
  show wpAny _ _ (reNextFound (tgt p code x t) 0 false >>= _) _ _ _
  refine wpAny_bind (run_no (Nat.le_refl 1000) hm ho ?_)
  by_cases hn : x.cps.size = 0
  · refine wpAny_ite ?_
    rw [if_neg (by show ¬ 0 < x.cps.size; omega)]
    have e : x = ⟨x.cps.extract 0 0⟩ := by
      obtain ⟨c⟩ := x
      have : c = #[] := Array.eq_empty_of_size_eq_zero hn
      subst this; simp
    show wpAny _ _ (mkStr ⟨x.cps.extract 0 0⟩ >>= _) _ _ _
    rw [← e]
    refine wpAny_bind (wpAny_mkStr ?_ (by rw [sizeLine_eq]; omega))
    refine wpAny_bind (wpAny_seqItems hl rfl ?_)
    show wpAny _ _ (pure _ >>= fun text => ret text) _ _ _
    refine wpAny_bind (wpAny_pure ?_)
    exact wpAny_pure ⟨_, rfl, k _ _ _ (Heap.SameBut.refl _ _)⟩
  · refine wpAny_ite ?_
    rw [if_pos (by show 0 < x.cps.size; omega)]
    have e : (⟨x.cps.extract 0 x.cps.size⟩ : Str) = x := by simp
    show wpAny _ _ (mkStr ⟨x.cps.extract 0 x.cps.size⟩ >>= _) _ _ _
    rw [e]
    refine wpAny_bind (wpAny_mkStr ?_ (by rw [sizeLine_eq]; omega))
    refine wpAny_bind (wpAny_updateSeq hl rfl ?_ (by simp) (by simp))
    have hu := IsL.update (n := 0) hl (fun y => y.push (.str x s.toks))
    show wpAny _ _ (mkStr ⟨x.cps.extract 0 0⟩ >>= _) _ _ _
    refine wpAny_bind (wpAny_mkStr ?_ (by simp [PySem.Str.length]))
    refine wpAny_bind (wpAny_seqItems hu rfl ?_)
    show wpAny _ _ (call (.builtin "str.join") [.str _ _, .ref l] >>= fun text => ret text) _ _ _
    refine wpAny_bind (join_listW (ys := [x]) (isl_of hu rfl rfl) (by simpa using StrsAre.cons x s.toks .nil) (by simp [PySem.Str.length]) (by simp; omega) fun t' k' => ?_)
    refine wpAny_pure ⟨_, rfl, ?_⟩
    have e2 : Txt.join ⟨x.cps.extract 0 0⟩ [x] = x := rfl
    rw [e2]
    exact k _ _ _ (Heap.SameBut.update ..)
theorem plain_loop : plainId "re.Pattern.sub.loop" = true := by decide +kernel
theorem entry_loop : entryFor table "re.Pattern.sub.loop" = some Builtin.«re.Pattern.sub.loop» := entryFor_of_tree (by kernel_rfl)
theorem entry_sub : entryFor table "re.Pattern.sub" = some Builtin.«re.Pattern.sub» := entryFor_of_tree (by kernel_rfl)
theorem look_call : typeLookup (.type "function") "__call__" = pure (some (.builtin "function.__call__")) := by rw [typeLookup_type, builtinLookup_eq_fast]; kernel_rfl
theorem PatAt.push {h : Heap} {p : Addr} {code : Array Nat} {o : Obj} (x : PatAt h p code) : PatAt (h.push o) p code := by
  obtain ⟨o, fs, c, oc, xs, n, ho, hd, h6, h5, hc, hcd, hcode, h2⟩ := x
  exact ⟨o, fs, c, oc, xs, n, Heap.get?_push_of_some _ ho, hd, h6, h5, Heap.get?_push_of_some _ hc, hcd, hcode, h2⟩
theorem not_held {id : String} {x : Str} {t : Tok} : reNotHeld id (.str x t) = pure () := by
  have e : isInstance (.str x t) (.type "bytearray") = pure false := by
    show isSubtype (.type "str") (.type "bytearray") = _
    rw [isSubtype_type]; kernel_rfl
  unfold reNotHeld
  rw [e]
  rfl
theorem sub_no {p f : Addr} {x : Str} {t : Tok} {code : Array Nat} {m' : Sre.M} {of : Obj} :
    Meets («re.Pattern.sub» ⟨[.ref p, .ref f, .str x t], []⟩) (fun _ R s =>
      PatAt s.heap p code ∧ s.heap.get? f = some of ∧ of.cls = .type "function" ∧ drv 1000 (Sre.forSearch code x.cps 1 0 x.cps.size false) = some m' ∧ m'.outcome = some .failed ∧ x.length ≤ 100000 ∧
      ∀ h' t' k, (s.heap.push { cls := .type "list", data := .seq #[] 0 }).SameBut s.heap.objs.size h' → R (.ok (.ret (.str x t'))) { s with heap := h', toks := k }) := by
  intro prog w A R s hS
  obtain ⟨hp, hf, hfc, hm, ho, hx, k⟩ := hS
  show wpAny _ _ (reSubstitute "re.Pattern.sub" "sub" false _) _ _ _
  unfold reSubstitute
  show wpAny _ _ (reNamed _ _ _ _ _ _ >>= _) _ _ _
  refine wpAny_bind (wpAny_of_eq (a := [some (.ref f), some (.str x t), none]) rfl ?_)
  refine wpAny_bind (wpAny_pure ?_)
  refine wpAny_bind (wpAny_specialOf (T := "function") ⟨_, hf, hfc⟩ look_call ?_)
  refine wpAny_bind (wpAny_pure ?_)
  refine wpAny_bind (wpAny_pure ?_)
  refine wpAny_bind (wpAny_holding (target hp ?_))
  show wpAny _ _ (reNotHeld "re.Pattern.sub" (.str x t) >>= _) _ _ _
  refine wpAny_bind (wpAny_of_eq (a := ()) not_held ?_)
  refine wpAny_bind (wpAny_newList ?_ (by decide))
  refine wpAny_pure ⟨plainId_quiet plain_loop _, codeAny_builtin entry_loop ?_⟩
  rw [Around.under_plainId plain_loop]
  refine loop_no (l := s.heap.objs.size) (code := code) (m' := m') prog w A R _ ⟨hp.push, hm, ho, Heap.get?_push_size _ rfl, hx, fun h' t' k' hs => k h' t' k' hs⟩
set_option maxRecDepth 100000 in
theorem plainAttrs_pat : PlainAttrs "re.Pattern" :=
  ⟨⟨"object.__getattribute__", by rw [typeLookup_type, builtinLookup_eq_fast]; kernel_rfl, by decide +kernel⟩, by rw [typeLookup_type, builtinLookup_eq_fast]; kernel_rfl⟩
theorem slot_sub : Slot "re.Pattern" "sub" "re.Pattern.sub" :=
  .of (owner := "re.Pattern") (n := "sub") (by rw [typeLookup_type, builtinLookup_eq_fast]; kernel_rfl) (by decide +kernel) (by decide +kernel) (by decide +kernel)
    (by first | exact .inl (by decide +kernel) | exact .inr (by decide +kernel)) (by rw [isSubtype_type]; kernel_rfl)
theorem type_sub : typeOf (.builtin "re.Pattern.sub") = pure (.type "method_descriptor") := by show builtinType _ = _; rw [builtinType_eq_fast]; kernel_rfl
theorem args_sub_3 (a b c : Value) : argsOk "re.Pattern.sub" ⟨[a, b, c], []⟩ := by
  unfold argsOk
  kernel_rfl
theorem call_sub {prog : Program} {w : World} {A : Around} {E : Value → Shared → Prop} {s : Shared} {Q : Value → Shared → Prop} {p f : Addr} {x : Str} {t : Tok} {code : Array Nat} {m' : Sre.M} {of : Obj}
    (hT : s.TypeIs (.ref p) "re.Pattern") (hp : PatAt s.heap p code) (hf : s.heap.get? f = some of) (hfc : of.cls = .type "function") (hm : drv 1000 (Sre.forSearch code x.cps 1 0 x.cps.size false) = some m') (ho : m'.outcome = some .failed) (hx : x.length ≤ 100000)
    (k : ∀ h' t' k, (s.heap.push { cls := .type "list", data := .seq #[] 0 }).SameBut s.heap.objs.size h' → Q (.str x t') { s with heap := h', toks := k }) :
    wpAny (model prog w) A (call (.builtin "re.Pattern.sub") [.ref p, .ref f, .str x t]) Q E s :=
  call_meets slot_sub hT entry_sub (args_sub_3 _ _ _) sub_no ⟨hp, hf, hfc, hm, ho, hx, k⟩
end Sb
end Sh
namespace Sh
open PySem PySem.Calls PyProof.Rows PySem.W PySem.Spec PySem.SeqAt Builtin.Str
namespace Tr
open Builtin Builtin.Str
theorem keep {c : Nat} {t : Tok} {tb : Value} {prog : Program} {w : World} {A : Around} {R : Result → Shared → Prop} {s : Shared} (hc : c < 128) {P : Shared → Prop}
    (hit : ∀ (Q : Mapped → Shared → Prop) (E : Value → Shared → Prop), (∀ s', P s' → Q .keep s') → wpAny (model prog w) A.in1 (tableLookup tb c) Q E s)
    (h : ∀ s' t' k, P s' → R (.ok (.ret (.str ⟨#[c]⟩ t'))) { s' with toks := k }) :
    wpAny (model prog w) A.in1 («str.translate» ⟨[.str ⟨#[c]⟩ t, tb], []⟩) (fun fin s' => ∃ v, fin = .done (.ret v) ∧ R (.ok (.ret v)) s') (fun e s' => R (.error e) s') s := by
  have hf : (#[c] : Array Nat).all (· < 128) = true := by simp [hc]
  show wpAny _ _ (strOneArg "translate" _ >>= _) _ _ _
  refine wpAny_bind (wpAny_of_eq (a := (.str ⟨#[c]⟩ t, ⟨#[c]⟩, tb)) rfl ?_)
  simp only [PySem.Str.length, hf]
  have h0 : tooLong 0 = false := by decide +kernel
  have h2 : tooLong 1 = false := by decide +kernel
  rw [if_neg (by simp), ← Array.forIn_toList]
  show wpAny _ _ (forIn [c] _ _ >>= _) _ _ _
  rw [List.forIn_cons]
  refine wpAny_bind (wpAny_bind ?_)
  simp only [h0, Bool.false_eq_true, if_false, if_true]
  show wpAny _ _ (tableLookup tb c >>= _) _ _ _
  refine wpAny_bind (hit _ _ fun s' hs' => ?_)
  refine wpAny_bind (wpAny_pure ?_)
  refine wpAny_pure ?_
  simp only [List.forIn_nil]
  refine wpAny_pure ?_
  simp only [Nat.zero_add, h2, Bool.false_eq_true, if_false]
  have e : (⟨List.foldl (fun acc p => acc ++ p.cps) #[] [(⟨#[c]⟩ : Str)].reverse⟩ : Str) = ⟨#[c]⟩ := by simp
  rw [e]
  show wpAny _ _ (mkStr ⟨#[c]⟩ >>= fun v => ret v) _ _ _
  exact wpAny_bind (wpAny_mkStr (wpAny_pure ⟨_, rfl, h _ _ _ hs'⟩) (by show 1 ≤ sizeLine; rw [sizeLine_eq]; decide))
theorem look_miss {c : Nat} {d : Addr} {f : Int → Option Value} {prog : Program} {w : World} {A : Around} {s : Shared} (hh : A.handled = none) (hd : (d == sysModules) = false) (hm : s.heap.MapOf (intKind prog w) d f) (hv : f c = none)
    (Q : Mapped → Shared → Prop) (E : Value → Shared → Prop) (h : ∀ h' e k', Heap.NewExc s.heap h' e "KeyError" → Q .keep { s with heap := h', toks := k' }) : wpAny (model prog w) A (tableLookup (.ref d) c) Q E s := by
  unfold tableLookup
  refine wpAny_bind (wpAny_attempt ?_)
  refine wpAny_bind (m := mkInt c) (wpAny_bind (wpAny_fresh (wpAny_pure ?_)))
  refine wpAny_getItem_slot (T := "dict") hm.typeIs (by decide +kernel) slot_dict_getitem ?_
  refine call_meetsIn slot_dict_getitem hm.typeIs entry_dict_getitem (args_dict_getitem _ _) (meets_dict_getitem_missing (knd := intKind prog w) (k := (c : Int)) d (intKind_is _ _ _ _) hd) ⟨hh, f, hm, hv, fun h' e hn => ?_⟩
  show wpAny _ _ (isInstance (.ref e) (.type "LookupError") >>= _) _ _ _
  obtain ⟨ob, tt, hob, hcl, hdt⟩ := hn.there
  refine wpAny_bind (wpAny_isInstance (T := "KeyError") (b := true) ⟨ob, hob, hcl⟩ (by rw [isSubtype_type]; kernel_rfl) ?_)
  refine wpAny_ite ?_
  rw [if_pos rfl]
  exact wpAny_bind (wpAny_rule (wpAny_pure (h _ _ _ hn)))
theorem call_keep {c : Nat} {d : Addr} {t : Tok} {f : Int → Option Value} {prog : Program} {w : World} {A : Around} {E : Value → Shared → Prop} {Q : Value → Shared → Prop} {s : Shared} (hc : c < 128) (hh : A.handled = none) (hd : (d == sysModules) = false)
    (hm : s.heap.MapOf (intKind prog w) d f) (hv : f c = none) (h : ∀ h' e t' k, Heap.NewExc s.heap h' e "KeyError" → Q (.str ⟨#[c]⟩ t') { s with heap := h', toks := k }) : wpAny (model prog w) A (call (.builtin "str.translate") [.str ⟨#[c]⟩ t, .ref d]) Q E s :=
  call_meetsIn F.slot_str_translate (typeIs_str _ _ _) F.entry_str_translate (F.args_str_translate_2 _ _)
    (.of_wp (S := fun A R s => A.handled = none ∧ s.heap.MapOf (intKind prog w) d f ∧ ∀ h' e t' k, Heap.NewExc s.heap h' e "KeyError" → R (.ok (.ret (.str ⟨#[c]⟩ t'))) { s with heap := h', toks := k })
      fun A R s ⟨hh, hm, h⟩ => keep hc (P := fun s' => ∃ h' e k', Heap.NewExc s.heap h' e "KeyError" ∧ s' = { s with heap := h', toks := k' })
        (fun Q E hq => look_miss (A := A.in1) hh hd hm hv Q E fun h' e k' hn => hq _ ⟨h', e, k', hn, rfl⟩) (fun s' t' k ⟨h', e, k', hn, hs⟩ => by subst hs; exact h h' e t' k hn)) ⟨hh, hm, h⟩
end Tr
end Sh
namespace Sh
open PySem PySem.Calls PyProof.Rows PySem.W PySem.Spec
theorem among_same {p q : Pos} (h1 : p.line = q.line) (h2 : p.col = q.col) (l : List Value) : codeAmong p l = codeAmong q l := by
  fun_induction codeAmong q l with
  | case1 a t b u x rest hc => simp only [codeAmong, h1, h2, hc, if_true]
  | case2 a t b u x rest hc ih => simp only [codeAmong, h1, h2]; rw [if_neg hc]; exact ih
  | case3 l h => unfold codeAmong; split <;> first | exact absurd rfl (h _ _ _ _ _ _) | rfl
theorem among_other {p q : Pos} {c : Value} (h : ¬ (p.line = q.line ∧ p.col = q.col)) (l : List Value) (ht : TriplesOk l) : codeAmong p (l ++ [rawInt q.line, rawInt q.col, c]) = codeAmong p l := by
  fun_induction TriplesOk l with
  | case1 =>
    simp only [List.nil_append, codeAmong, rawInt]
    rw [if_neg]
    simp only [Bool.and_eq_true, beq_iff_eq]
    rintro ⟨a, b⟩
    exact h ⟨by omega, by omega⟩
  | case2 a t b u x rest ih =>
    simp only [List.cons_append, codeAmong]
    rw [ih ht]
  | case3 l h1 h2 => exact ht.elim
section
variable {M : Model} {A : Around} {E : Value → Shared → Prop} {s : Shared} {name qual : Str} {params : Arguments} {body : Expr} {scope : Scope} {env : Env} {c P : Addr} {ps : Array Value} {pos : Pos} {firstLine : Nat} {mg : Str → Option Value}
  {clos : List (Str × Addr)} {Q : Value → Shared → Prop}
theorem lam_new (hcl : closureFor scope env = pure clos) (hge0 : env.globals = mainGlobals) (hg : s.heap.Ns mainGlobals mg) (hcode : env.code = .ref c) (C : CodeHd s.heap c P) (hP : s.heap.get? P = some (tabObj ps)) (ht : TriplesOk ps.toList)
    (hnf : codeAmong pos ps.toList = none) (hgP : mainGlobals ≠ P) (hb : s.heap.BuiltinsAt mg P)
    (h : ∀ c' o vs t ctv h' tk, Heap.ExtBut P s.heap h' → s.heap.get? c' = none → h'.get? c' = some o → o.cls = .type "code" → o.data = .fields vs → vs[1]? = some (.str qual t) → h'.get? P = some (tabObj (ps ++ #[rawInt pos.line, rawInt pos.col, .ref c'])) →
      s.heap.objs.size ≤ h'.objs.size → Q (.ref h'.objs.size) { s with heap := h'.push (kla_obj name qual params body scope clos ((mg "__name__").getD .none) c' ctv), toks := tk }) :
    wpAny M A (makeFunction name qual params (.expr body) scope env [] [] [] pos firstLine) Q E s := by
  obtain ⟨bm, ob, hbm, hne0, _, hneP, hbo, hcls, hdict, hdata⟩ := hb
  rw [makeFunction_eq]
  simp only [List.zip_nil_right, List.filterMap_nil, List.isEmpty_nil, if_true, pure_bind]
  unfold makeTail
  rw [hcl, hge0]
  refine wpAny_bind (wpAny_pure ?_)
  have fin : ∀ (s₀ : Shared) (ctv : Value), s₀.os = s.os → s₀.gens = s.gens → (∀ b o, s.heap.get? b = some o → s₀.heap.get? b = some o) → s.heap.objs.size ≤ s₀.heap.objs.size → (∃ hh tt, s₀ = { s with heap := hh, toks := tt }) →
      wpAny M A (functionCode env pos firstLine name qual params scope (.expr body) >>= fun code => do
        let b ← builtinsFor mainGlobals env.builtins
        let mn ← nsGet mainGlobals "__name__"
        newObj (.type "function") (.func { name, qualname := qual, params, body := .expr body, scope, globals := mainGlobals, closure := clos, defaults := .none, kwdefaults := .none, doc := .none, pyModule := mn.getD .none, annotations := none, code := code, closureTuple := ctv, builtins := b })) Q E s₀ := by
    rintro s₀ ctv _ _ hk hsz ⟨hh, tt, rfl⟩
    have hk' : ∀ b o, s.heap.get? b = some o → hh.get? b = some o := hk
    have C' := C.keeps hk'
    refine wpAny_bind (wpAny_functionCodeX hcode (C'.code (hk' _ _ hP) ht) (C'.tab (hk' _ _ hP)) hnf fun c' h' tk hx hge hlt _ hrec htb hnew => ?_)
    have hg' : h'.Ns mainGlobals mg := (hg.keeps hk').extBut hx hgP
    have hx' : Heap.ExtBut P s.heap h' := fun b o hb' e => hx b o hb' (hk' b o e)
    obtain ⟨P', _, _, ⟨⟨oc, vs', e1, e2, _⟩, _⟩⟩ := hnew
    obtain ⟨c₂, oc₂, vs, t, e3, e4, e5, e6⟩ := hrec
    cases e3
    rw [e1] at e4; cases e4
    have hcn : s.heap.get? c' = none := none_of_le (Nat.le_trans hsz hge)
    have hsz' : s.heap.objs.size ≤ h'.objs.size := Nat.le_trans (Nat.le_trans hsz hge) (Nat.le_of_lt hlt)
    refine wpAny_bind (wpAny_builtinsFor hg' hbm hne0 (hx' _ _ hneP hbo) hcls hdict hdata ?_)
    refine wpAny_bind (wpAny_nsGet hg' ?_)
    exact wpAny_newObj_type (h c' oc vs t ctv h' tk hx' hcn e1 e2 e5 e6 htb.2 hsz') (by size_fits)
  cases clos with
  | nil =>
    simp only [List.isEmpty_nil, if_true]
    refine wpAny_bind (wpAny_pure ?_)
    exact fin s .none rfl rfl (fun _ _ e => e) (Nat.le_refl _) ⟨_, _, rfl⟩
  | cons q r =>
    simp only [List.isEmpty_cons, Bool.false_eq_true, if_false]
    refine wpAny_bind (wpAny_newTextTuple ?_)
    exact fin _ _ rfl rfl (fun b o e => Heap.get?_push_of_some _ e) (by show _ ≤ (s.heap.push _).objs.size; rw [Heap.size_push]; omega) ⟨_, _, rfl⟩
end
theorem codeHd_in {B : Base} {ω : Wd} {σ : St} {s : Shared} {c P : Addr} (I : Inv B ω σ s) (C : CodeHd B.h₀ c P) : CodeHd s.heap c P := by
  obtain ⟨o, vs, file, tf, flags, tg, inF, text, tt, e, hc, r⟩ := C
  exact ⟨o, vs, file, tf, flags, tg, inF, text, tt, I.base e (by rw [hc]; exact fun q => nomatch q), hc, r⟩
theorem bt_in {B : Base} {ω : Wd} {σ : St} {s : Shared} {P : Addr} (I : Inv B ω σ s) (C : B.h₀.BuiltinsAt B.mg P) : s.heap.BuiltinsAt B.mg P := by
  obtain ⟨bm, o, b1, b2, b3, b4, b5, b6, r⟩ := C
  exact ⟨bm, o, b1, b2, b3, b4, I.base b5 (by rw [b6]; exact fun q => nomatch q), b6, r⟩
noncomputable def samePos (p q : Pos) : Bool := p.line == q.line && p.col == q.col
/-- a code's table is told of -/
structure TabIn (B : Base) (cc P : Addr) (pos : Pos) (qual : Str) : Prop where
  mem : ∃ ys, (P, ys) ∈ B.tabs ∧ (pos, qual) ∈ ys
  one : ∀ x ∈ B.tabs, x.1 = P → ∀ y ∈ x.2, samePos y.1 pos = true → y.2 = qual
  hd : CodeHd B.h₀ cc P
section
variable {c : Cx} {ω : Wd} {σ : St} {s : Shared} {m : Fm} {E : Value → Shared → Prop}
theorem fn_frz {name qual : Str} {params : Arguments} {body : Expr} {scope : Scope} {clos : List (Str × Addr)} {pm : Value} {c' : Addr} {ctv : Value} : ¬ Dic (kla_obj name qual params body scope clos pm c' ctv) ∧ ¬ Tbl (kla_obj name qual params body scope clos pm c' ctv) := by
  refine ⟨?_, ?_⟩ <;> simp [Dic, Tbl]
theorem lam_ok {P cc : Addr} {pos : Pos} {qual : Str} {params : Arguments} {body : Expr} {scope : Scope} {clos : List (Str × Addr)} {Q : Value → Shared → Prop} (T : TabIn c.B cc P pos qual) (hcd : c.env.code = .ref cc) (hq : c.env.qual ++ "<lambda>" = qual)
    (hdef : defaultsOf params c.env = ([], [])) (hcl : closureFor scope c.env = pure clos) (hgl : c.env.globals = mainGlobals) (I : Inv c.B ω σ s)
    (k : ∀ f c' o vs t ctv h' tk, Gw ω [] s.heap ω h' → Inv c.B ω σ { s with heap := h', toks := tk } → s.heap.get? f = none → (∀ b o, s.heap.get? b = some o → ¬ Tbl o → h'.get? b = some o) → Fz ω h' f (kla_obj "<lambda>" qual params body scope clos ((c.B.mg "__name__").getD .none) c' ctv) → Fz ω h' c' o → o.data = .fields vs → vs[1]? = some (.str qual t) →
      Q (.ref f) { s with heap := h', toks := tk }) : wpAny (model c.B.prog c.B.w) c.A (eval (.Lambda params body scope pos) c.env) Q E s := by
  refine kla_eval hdef ?_
  rw [hq]
  obtain ⟨ys, hys, hpy⟩ := T.mem
  obtain ⟨⟨o₀, e₀⟩, hgP, hbt⟩ := I.bok.tb _ hys
  obtain ⟨ps, e, tr, r⟩ := I.tab _ hys
  have C := codeHd_in I T.hd
  have hP1 : P ∉ ω.mu := fun q => by have := I.new _ (.inl q); rw [e₀] at this; cases this
  have hP2 : P ∉ ω.ex := fun q => by have := I.new _ (.inr q); rw [e₀] at this; cases this
  rcases r _ hpy with hn | ⟨c', o, vs, t, hf, fz, hd, hv⟩
  · refine lam_new hcl hgl I.gns hcd C e tr hn hgP (bt_in I hbt) fun c' o vs t ctv h' tk hx hcn hco hcl' hd hv htab hsz => ?_
    have hne : ∀ b o, s.heap.get? b = some o → ¬ Tbl o → h'.get? b = some o := fun b ob eb ht => hx b ob (fun q => ht (by rw [q, e] at eb; cases eb; exact ⟨rfl, _, rfl⟩)) eb
    let h'' := h'.push (kla_obj "<lambda>" qual params body scope clos ((c.B.mg "__name__").getD .none) c' ctv)
    have hk : ∀ b o, h'.get? b = some o → h''.get? b = some o := fun b o e => Heap.get?_push_of_some _ e
    have hfn : s.heap.get? h'.objs.size = none := none_of_le hsz
    have gC : Carry ω s.heap ω h'' := ⟨fun b ob f => ⟨f.1, f.2.1, hk _ _ (hne _ _ f.2.2.1 f.2.2.2.2), f.2.2.2⟩, fun _ _ e => e⟩
    have hmun : ∀ {a : Addr}, s.heap.get? a = none → a ∉ ω.mu ∧ a ∉ ω.ex := fun {a} hn => ⟨fun q => (by have := I.live q; rw [hn] at this; cases this), fun q => (by have := I.exl _ q; rw [hn] at this; cases this)⟩
    have fzc : Fz ω h'' c' o := ⟨(hmun hcn).1, (hmun hcn).2, hk _ _ hco, by simp [Dic, hd], by simp [Tbl, hcl']⟩
    have kb : ∀ a, a ≠ P → ∀ o, s.heap.get? a = some o → h''.get? a = some o := fun a ha o e => hk _ _ (hx a o ha e)
    have ne0 : ∀ b ob, c.B.h₀.get? b = some ob → ob.cls ≠ .none → s.heap.get? b = some ob := fun b ob eb hb => I.base eb hb
    have I' : Inv c.B ω σ { s with heap := h'', toks := tk } := by
      refine ⟨I.bok, ?_, ?_, I.len, I.nodup, I.new, I.apart, fun a ha => ?_, fun i a ob e1 e2 => ?_, I.os, I.gens, fun x hx' => ?_⟩
      · obtain ⟨mc, hn, hm⟩ := I.lim
        exact ⟨mc, ns_ko hn fun o' e' ht => .same (hk _ _ (hne _ _ e' ht)), hm⟩
      · have hPs : P ≠ cStatics := by
          obtain ⟨mc, ⟨oS, es, ep, ho, hd', _⟩, _⟩ := I.lim
          rintro rfl
          rw [e] at ho; cases ho; cases hd'
        have C₀ := T.hd
        have hc₀ : ∃ ps₀, c.B.h₀.get? P = some (tabObj ps₀) := by
          rcases I.old.old _ _ e₀ with x | ⟨t', hc, vs', more, hv', x⟩ | ⟨z, _⟩
          · rw [e] at x; cases x; exact ⟨_, e₀⟩
          · rw [e] at x
            refine ⟨vs', e₀.trans ?_⟩
            obtain ⟨a1, a2, a3, a4⟩ := o₀
            cases x
            simp only at hv'
            subst hv'
            rfl
          · exact absurd z hPs
        obtain ⟨ps₀, e₁⟩ := hc₀
        exact (I.old.step_table (T.hd.tab e₁) (C.tab e) ((C.tab e).1 |> fun z => ⟨by
          obtain ⟨oc, vs', z1, z2, z3, z4⟩ := z
          exact ⟨oc, vs', hne _ _ z1 (by simp [Tbl, z2]), z2, z3, z4⟩, htab⟩) hx hPs).step_keeps hk
      · obtain ⟨o', e'⟩ := Option.isSome_iff_exists.mp (I.exl a ha)
        have := kb a (fun q => hP2 (q ▸ ha)) o' e'
        show (h''.get? a).isSome = true
        rw [this]; rfl
      · exact (I.objs i a ob e1 e2).carry gC fun o' e' => kb a (fun q => hP1 (q ▸ List.mem_of_getElem? e1)) o' e'
      · by_cases hxP : x.1 = P
        · refine ⟨_, hxP ▸ hk _ _ htab, by rw [Array.toList_append]; exact TriplesOk_snoc _ _ _ _ tr, fun y hy => ?_⟩
          have hl : (ps ++ #[rawInt pos.line, rawInt pos.col, Value.ref c']).toList = ps.toList ++ [rawInt pos.line, rawInt pos.col, .ref c'] := by simp
          rw [hl]
          by_cases hs : samePos y.1 pos = true
          · have hs' : y.1.line = pos.line ∧ y.1.col = pos.col := by simpa [samePos] using hs
            refine .inr ⟨c', o, vs, t, ?_, fzc, hd, ?_⟩
            · rw [among_same hs'.1 hs'.2]
              exact codeAmong_snoc _ tr hn
            · rw [T.one x hx' hxP y hy hs]; exact hv
          · have hs' : ¬ (y.1.line = pos.line ∧ y.1.col = pos.col) := by simpa [samePos] using hs
            rw [among_other hs' _ tr]
            obtain ⟨ps', e', _, r'⟩ := I.tab x hx'
            rw [hxP, e] at e'; cases e'
            rcases r' y hy with r' | ⟨d, od, vd, td, d1, d2, d3, d4⟩
            · exact .inl r'
            · exact .inr ⟨d, od, vd, td, d1, gC.fz _ _ d2, d3, d4⟩
        · obtain ⟨ps', e', tr', r'⟩ := I.tab x hx'
          refine ⟨ps', kb _ hxP _ e', tr', fun y hy => ?_⟩
          rcases r' y hy with r' | ⟨d, od, vd, td, d1, d2, d3, d4⟩
          · exact .inl r'
          · exact .inr ⟨d, od, vd, td, d1, gC.fz _ _ d2, d3, d4⟩
    have G : Gw ω [] s.heap ω h'' := ⟨⟨[], by simp, by simp⟩, rfl, fun b ob eb ht _ _ => .same (hk _ _ (hne _ _ eb ht)), fun b ob eb => by
      by_cases hb : b = P
      · subst hb; exact ⟨_, hk _ _ htab⟩
      · exact ⟨_, kb _ hb _ eb⟩⟩
    exact k _ c' o vs t ctv h'' tk G I' hfn (fun b ob eb ht => hk _ _ (hne _ _ eb ht)) ⟨(hmun hfn).1, (hmun hfn).2, Heap.get?_push_size _ rfl, fn_frz⟩ fzc hd hv
  · refine kla_makeFunctionHit hcl hgl I.gns hcd C e tr hf (bt_in I hbt) fun ctv h' tk hk hsz => ?_
    have hk' : ∀ b ob, s.heap.get? b = some ob → (h'.push (kla_obj "<lambda>" qual params body scope clos ((c.B.mg "__name__").getD .none) c' ctv)).get? b = some ob := fun b o e => Heap.get?_push_of_some _ (hk b o e)
    have hfn : s.heap.get? h'.objs.size = none := none_of_le hsz
    exact k _ c' o vs t ctv _ tk (.of_keep hk') (I.keep hk') hfn (fun b ob eb _ => hk' b ob eb) ⟨fun q => (by have := I.live q; rw [hfn] at this; cases this), fun q => (by have := I.exl _ q; rw [hfn] at this; cases this), Heap.get?_push_size _ rfl, fn_frz⟩ ((Carry.of_keep hk').fz _ _ fz) hd hv
end
end Sh
namespace Sh
open PySem PySem.Calls PyProof.Rows PySem.W PySem.Spec
/-- the pattern object that a global name holds -/
structure PatF (B : Base) (n : Str) (p : Addr) (o : Obj) (fs : Array Value) (c : Addr) (oc : Obj) (xs : Array Value) (k : Nat) : Prop where
  mg : B.mg n = some (.ref p)
  ho : B.h₀.get? p = some o
  cls : o.cls = .type "re.Pattern"
  dict : o.dict = none
  data : o.data = .fields fs
  h6 : Builtin.Re.reRawNat (fs.getD 6 .none) = 0
  h5 : fs.getD 5 .none = .ref c
  hc : B.h₀.get? c = some oc
  hcc : oc.cls ≠ .none
  hcd : oc.data = .seq xs k
  code : (xs.map Builtin.Re.reRawOf).map (·.toNat) = subCode
  h2 : Builtin.Re.reRawNat (fs.getD 2 .none) = 1
noncomputable def PatIn (B : Base) (n : Str) : Prop := ∃ p o fs c oc xs k, PatF B n p o fs c oc xs k
theorem subOk_el {x : Str} {G : Prop} (h : subOk x = true) (k : ∀ m', drv 1000 (PySem.Sre.forSearch subCode x.cps 1 0 x.cps.size false) = some m' → m'.outcome = some .failed → G) : G := by
  unfold subOk at h
  split at h
  · rename_i m' hm'
    split at h
    · rename_i ho; exact k m' hm' ho
    · exact absurd h Bool.false_ne_true
  · exact absurd h Bool.false_ne_true
section
variable {c : Cx} {Φ : Nat → Option Spec}
theorem se_sub {n : Str} {np apos pos lpos : Pos} {params : Arguments} {body e : Expr} {scope : Scope} {a : X} {P cc : Addr} {qual : Str} (hP : PatIn c.B n) (hn : okG c.Γ n = true) (hl : (apos.endLine == pos.line) = true)
    (T : TabIn c.B cc P lpos qual) (hcd : c.env.code = .ref cc) (hq : c.env.qual ++ "<lambda>" = qual) (hcl : closureFor scope c.env = pure []) (hdef : defaultsOf params c.env = ([], [])) (ha : SE c e (ev Φ a)) (hst : notStar e) :
    SE c (.Call (.Attribute (.Name n np) "sub" apos) [.Lambda params body scope lpos, e] [] pos) (ev Φ (.sub a)) :=
  fun ω m σ s Q E p σ' F I he k => sq_el he fun q σ₁ e₁ he => KE.vl he k fun he k => bd_el he fun x e₂ he => gd_el he fun h he => and_el h fun h1 h2 => subOk_el h2 fun m' hm' ho => by
    have ⟨pa, o, fs, cd, oc, xs, kk, hP⟩ := hP
    have hob : ∀ {ω σ s}, Inv c.B ω σ s → s.heap.get? pa = some o := fun I => I.base hP.ho (by rw [hP.cls]; exact fun q => nomatch q)
    have hst2 : backTo pos (starEach [.Lambda params body scope lpos, e] c.env) = [(false, eval (.Lambda params body scope lpos) c.env), (false, eval e c.env)] := by rw [starEach_cons (show notStar (.Lambda params body scope lpos) from fun _ _ q => by cases q), starEach_cons hst]; rfl
    refine wpAny_Call_method_lateS rfl ?_ hl (glob_ok F I hn hP.mg ⟨"re.Pattern", "re.Pattern.sub", Sb.plainAttrs_pat, Sb.slot_sub, Sb.type_sub, ⟨o, hob I, hP.cls⟩, (fun b q => ⟨o, Value.ref.inj q ▸ hob I, hP.dict⟩), ?_⟩)
    · rw [hst2]; rfl
    rw [hst2]
    refine callWith_builtin rfl (evalArgs_plain (spliced_cons (lam_ok T hcd hq hdef hcl F.glob I fun f c' o' vs t ctv h' tk G I' hfn _ fz fzc hd hv => ?_)))
    refine spliced_cons (ha ω m σ _ _ E _ _ (F.gw G I'.apart) I' e₁ fun v ω₁ s₁ G₁ I₁ x₁ => x₁.str_vr e₂ fun tx => spliced_nil ?_)
    have fz₁ := fz.gw G₁ (fun _ q => nomatch q)
    refine Sb.call_sub (p := pa) (f := f) (code := subCode) (m' := m') ⟨o, hob I₁, hP.cls⟩ ⟨o, fs, cd, oc, xs, kk, hob I₁, hP.data, hP.h6, hP.h5, I₁.base hP.hc hP.hcc, hP.hcd, hP.code, hP.h2⟩ fz₁.2.2.1 rfl hm' ho (by have := dec h1; omega) fun h₂ t' k' hs₂ =>
      ((k.gw (G.trans G₁)).kk I₁) _ _ k' (fun b o e => hs₂.extBut b o (Nat.ne_of_lt (Heap.lt_size e)) (keep_push _ _ b o e)) (so_el (P := fun r => VR c.B.C ω₁ _ r _) he .str_in)
end
end Sh
namespace Sh
open PySem PySem.Calls PyProof.Rows PySem.W PySem.Spec
/-- what the class of the streams is like -/
structure StrF (B : Base) (K : Frag) (fI : Addr) : Prop where
  inn : ∀ {h}, OldK B.h₀ h → K.In h
  hasd : hasDictIn K B.C = true
  pg : plainGet K B.C "value" = true
  av : ∃ attr, findIn K (.ref B.C) "value" = some attr ∧ noGet K attr = true
  ar : findIn K (.ref B.C) "read" = some none
  sa : findIn K (.ref B.C) "__setattr__" = some (some (.builtin "object.__setattr__"))
  po : plainOver K B.C = true
  tv : takerIn K B.C "value" = some none
  tr : takerIn K B.C "read" = some none
  mkk : makesIn K B.C = true
  ini : findIn K (.ref B.C) "__init__" = some (some (.ref fI))
  fn : typeIn K (.ref fI) = some (.type "function")
structure LPos where
  (p0 p1 p2 p3 p4 : Pos)
noncomputable def lamQual : Str := "_law_stream.<locals>.<lambda>"
noncomputable def lamScope : Scope := { kind := .function, names := [("size", .local), ("stream", .free), ("_law_take", .globalImplicit)], isGenerator := false, isCoroutine := false, more := [] }
noncomputable def lamParams (q : LPos) : Arguments := { posonlyargs := [], args := [{ arg := "size", annotation := none, pos := q.p0 }], vararg := none, kwonlyargs := [], kw_defaults := [], kwarg := none, defaults := [] }
noncomputable def lamBody (q : LPos) : Expr := .Call (.Name "_law_take" q.p1) [.Name "stream" q.p2, .Name "size" q.p3] [] q.p4
/-- a stream's dict: its octets and its reading function -/
inductive SdF (C : Addr) (q : LPos) (ω : Wd) (h : Heap) (b : Array UInt8) (d : Addr) : Prop
  | mk {h1 h2 : Int} {t1 tb t2 tq : Tok} {f c a c' : Addr} {n : Nat} {oc ok : Obj} {pm ctv : Value} {vs : Array Value} (hd : h.get? d = some (dictOf [⟨h1, .str "value" t1, .bytes b tb⟩, ⟨h2, .str "read" t2, .ref f⟩] n))
    (r1 : Fz ω h f (kla_obj "<lambda>" lamQual (lamParams q) (lamBody q) lamScope [("stream", c)] pm c' ctv)) (r2 : Fz ω h c oc) (r3 : oc.data = .cell (some (.ref a))) (r4 : Fz ω h a (instObj C d)) (r5 : Fz ω h c' ok) (r6 : ok.data = .fields vs) (r7 : vs[1]? = some (.str lamQual tq)) : SdF C q ω h b d
noncomputable def sdp (C : Addr) (q : LPos) : SDp where
  P := SdF C q
  carry := fun x fz k => match x with
    | .mk hd r1 r2 r3 r4 r5 r6 r7 => .mk (k _ hd) (fz _ _ r1) (fz _ _ r2) r3 (fz _ _ r4) (fz _ _ r5) r6 r7
  live := fun x => match x with
    | .mk hd _ _ _ _ _ _ _ => by rw [hd]; rfl
section
variable {prog : Program} {w : World} {A : Around} {E : Value → Shared → Prop} {s : Shared} {K : Frag} {x C dx : Addr} {ox : Obj} {es : List DictEntry} {n : Nat} {name : Str} {v : Value}
theorem osa_raw {tk : Tok} {R : Result → Shared → Prop} (X : K.In s.heap) (I : InstAt s.heap x ox C (some (dictOf es n))) (hd : ox.dict = some dx) (hp : plainOver K C = true) (ht : takerIn K C name = some none) (hh : hasDictIn K C = true)
    (hl : (getL name es).isSome = true) (hz : es.length ≤ 900)
    (h : ∀ h', Heap.ExtBut dx s.heap h' → h'.get? dx = some (dictOf (putL name (PyData.keyHash w.params name) (.str name s.toks) v es) (putN name es n)) → R (.ok (.ret .none)) { s with heap := h', toks := s.toks + 1 }) :
    codeAny (model prog w) A (.call (.builtin "object.__setattr__") ⟨[.ref x, .str name tk, v], []⟩) R s := by
  refine osa_open X I hp ht fun b => ?_
  obtain ⟨cd, hc, hd'⟩ := any_some hh
  obtain ⟨hx, hcl, hn, hdd⟩ := I
  obtain ⟨oc, odi, oda, osl⟩ := ox
  dsimp only at hcl hd hdd
  subst hcl hd
  have D : s.heap.get? dx = some (dictOf es n) := hdd
  have e' := putName_dict name (PyData.keyHash w.params name) (.str name s.toks) v es n
  have D' : (s.heap.update dx (Obj.putName name (PyData.keyHash w.params name) (.str name s.toks) v)).get? dx = some (dictOf (putL name (PyData.keyHash w.params name) (.str name s.toks) v es) (putN name es n)) := by
    rw [← e']
    exact Heap.get?_update_self _ D (by rw [e']; rfl)
  have hlen : ∀ es : List DictEntry, (putL name (PyData.keyHash w.params name) (.str name s.toks) v es).length ≤ es.length + 1 := by
    intro es
    induction es with
    | nil => simp [putL]
    | cons e r ih =>
      unfold putL
      split
      · simp
      · simp only [List.length_cons]; omega
  refine wpAny_bind (wpAny_pure (wpAny_bind (wpAny_bind (wpAny_loadPart hx (wpAny_bind ((looks_clsIn X hc).here ?_))))))
  rw [hd']
  refine wpAny_pure (a := some dx) (wpAny_bind (wpAny_pure (wpAny_bind ?_)))
  unfold nsSet
  refine wpAny_bind (wpAny_bind (wpAny_askSetting (wpAny_pure (wpAny_bind (wpAny_mkText (wpAny_bind (wpAny_loadPart D ?_)))))))
  dsimp only
  have c : (!es.toArray.any (·.key.isStr name) && es.toArray.any (·.refKey)) = false := by
    rw [← Array.any_toList, ← Array.any_toList]
    unfold getL at hl
    split at hl
    · rename_i en he
      rw [List.any_eq_true.mpr ⟨en, List.mem_of_find?_eq_some he, List.find?_some he⟩]; rfl
    · split at hl
      · cases hl
      · rename_i z; rw [Bool.not_eq_true] at z
        have z' : (es.toArray.toList.any (·.refKey)) = false := z
        rw [z', Bool.and_false]
  rw [aRefKeyMayBeTheName_at, c]
  refine wpAny_updatePart D ?_
  refine wpAny_bind (wpAny_lookBehind D' (pastItsLine_dict (by rw [List.size_toArray, sizeLine_eq]; have := hlen es; omega)) ?_)
  exact wpAny_pure (h _ (Heap.SameBut.update ..).extBut D')
end
section
variable {B : Base} {A : Around} {E : Value → Shared → Prop} {s : Shared} {K : Frag} {x dx fI : Addr} {es : List DictEntry} {n : Nat} {name : Str} {v : Value}
theorem set_raw {Q : Unit → Shared → Prop} (W : StrF B K fI) (ko : OldK B.h₀ s.heap) (hx : s.heap.get? x = some (instObj B.C dx)) (hdx : s.heap.get? dx = some (dictOf es n)) (ht : takerIn K B.C name = some none) (hl : (getL name es).isSome = true) (hz : es.length ≤ 900)
    (h : ∀ h' tk, Heap.ExtBut dx s.heap h' → (∃ hs t, h'.get? dx = some (dictOf (putL name hs (.str name t) v es) (putN name es n))) → Q () { s with heap := h', toks := tk }) :
    wpAny (model B.prog B.w) A (setAttr (.ref x) name v) Q E s :=
  set_plain (od := some (dictOf es n)) (W.inn ko) ⟨hx, rfl, rfl, hdx⟩ W.sa (osa_raw (s := { s with toks := s.toks + 1 }) (dx := dx) (es := es) (n := n) (W.inn ko) ⟨hx, rfl, rfl, hdx⟩ rfl W.po ht W.hasd hl hz fun h' hs he => h h' _ hs ⟨_, _, he⟩)
theorem get_raw {Q : Value → Shared → Prop} {expr : Bool} {attr : Option Value} (W : StrF B K fI) (ko : OldK B.h₀ s.heap) (hx : s.heap.get? x = some (instObj B.C dx)) (hdx : s.heap.get? dx = some (dictOf es n)) (ha : findIn K (.ref B.C) name = some attr) (hn : noGet K attr = true)
    (hl : getL name es = some (some v)) (hv : handedIn v = true) (h : Q v { s with toks := s.toks + 1 }) : wpAny (model B.prog B.w) A (getAttr (.ref x) name expr) Q E s :=
  get_value (od := some (dictOf es n)) (W.inn ko) ⟨hx, rfl, rfl, hdx⟩ (plainGet_of W.pg).1 (findObj_own W.hasd ha hn hl) hv h
end
end Sh
namespace Sh
open PySem PySem.Calls PyProof.Rows PySem.W PySem.Spec
/-- a function of the text's own -/
structure FnIn (B : Base) (a : Addr) (fd : FuncData) : Prop where
  o : ∃ o, B.h₀.get? a = some o ∧ o.cls ≠ .none ∧ o.data = .func fd
  g : fd.globals = mainGlobals
  bl : fd.builtins = builtinsNs
  clo : fd.closure = []
  cd : ∀ h : Heap, (∀ b o, B.h₀.get? b = some o → o.cls ≠ .none → h.get? b = some o) → h.CodeRec fd.code fd.qualname
  co : fd.scope.isCoroutine = false
  gen : fd.scope.isGenerator = false
  kind : fd.scope.kind = .function
theorem fun_okF {B : Base} {Φ : Nat → Option Spec} {lv : Nat} {a : Addr} {fd : FuncData} {body : List Stmt} {params : List Str} {Γ : Sc} {b : SL} (X : FnIn B a fd) (hbody : fd.body = .stmts body)
    (hbind : ∀ vals : List Value, vals.length = params.length → bindArgs fd ⟨vals, []⟩ = pure (params.zip vals)) (hn : params.Nodup) (hB : fnB Γ params fd.scope.names = true) (hle : params.length ≤ Γ.nt.length)
    (hs : ∀ c : Cx, FnCx B lv Γ fd.code (fd.qualname ++ ".<locals>.") c → SSs c body (evSL Φ b)) : FOK B (lv + 1) (.ref a) (fnRun Φ params.length Γ.nt.length b) := by
  exact X.o.elim fun o q => fun_ok (g := evSL Φ b) q.1 q.2.1 q.2.2 hbody X.g X.bl X.clo X.cd hbind hn hB hle hs X.co X.gen X.kind
section
variable {B : Base} {ω : Wd} {σ : St} {s : Shared} {q : LPos}
theorem strmD_at {p : PV} {x : Nat × Array UInt8} {G : Prop} (e : strmD σ p = some x) (k : p = .strm x.1 → σ[x.1]? = some (.sdict x.2) → G) : G :=
  bd_el e fun n e1 e => bd_el e fun o e2 e => bd_el e fun b e3 e => k (so e ▸ strm_at' e1) (so e ▸ osd_at e3 ▸ e2)
@[elab_as_elim] theorem strm_vr {n : Nat} {v : Value} {b : Array UInt8} {P : Value → Prop} (hZ : B.Z = sdp B.C q) (I : Inv B ω σ s) (x : VR B.C ω s.heap (.strm n) v) (e : σ[n]? = some (.sdict b))
    (k : ∀ a d, s.heap.get? a = some (instObj B.C d) → ω.mu[n]? = some d → SdF B.C q ω s.heap b d → P (.ref a)) : P v :=
  x.strm_el fun a d f hi => k a d f.2.2.1 hi (by have y : B.Z.P ω s.heap b d := I.objs _ _ _ hi e; rw [hZ] at y; exact y)
end
section
variable {c : Cx} {Φ : Nat → Option Spec} {K : Frag} {fI : Addr} {q : LPos}
theorem getL_value {h1 h2 : Int} {t1 t2 : Tok} {u v : Value} : getL "value" [⟨h1, .str "value" t1, u⟩, ⟨h2, .str "read" t2, v⟩] = some (some u) := rfl
theorem getL_read {h1 h2 : Int} {t1 t2 : Tok} {u v : Value} : getL "read" [⟨h1, .str "value" t1, u⟩, ⟨h2, .str "read" t2, v⟩] = some (some v) := rfl
theorem putL_value {h1 h2 hs : Int} {t1 t2 : Tok} {u v k w : Value} : putL "value" hs k w [⟨h1, .str "value" t1, u⟩, ⟨h2, .str "read" t2, v⟩] = [⟨h1, .str "value" t1, w⟩, ⟨h2, .str "read" t2, v⟩] := rfl
theorem se_val {a : X} {o : Expr} {attr : Str} {pos : Pos} (W : StrF c.B K fI) (hZ : c.B.Z = sdp c.B.C q) (ha : SE c o (ev Φ a)) (hb : plainBase o = true) (hat : attr = "value") : SE c (.Attribute o attr pos) (ev Φ (.val a)) :=
  fun ω m σ s Q E p σ' F I e k => sq_el e fun p₁ σ₁ e₁ e => bd_el e fun x e₂ e => strmD_at e₂ fun hp hl => by
    subst hat
    refine Attribute_any_ (ha ω m σ s _ E _ _ F I e₁ fun v ω₁ s₁ G₁ I₁ x₁ => strm_vr (P := fun v => wpAny (model c.B.prog c.B.w) c.A (getAttr v "value" true) Q E s₁) hZ I₁ (hp ▸ x₁) hl fun x d hx hi S => ?_) (by rw [arm_eval_Attribute, base_plain hb])
    cases S with
    | mk hd => exact W.av.elim fun attr h => get_raw W I₁.old hx hd h.1 h.2 getL_value rfl ((KE.gw (KE.lit e k) G₁).tk I₁ .byt_in _)
theorem ss_asV {o e : Expr} {a x : X} {attr : Str} {p pos : Pos} (W : StrF c.B K fI) (hZ : c.B.Z = sdp c.B.C q) (ha : SE c o (ev Φ a)) (hx : SE c e (ev Φ x)) (hs : notComp e = true) (hat : attr = "value") : SSt c (.Assign [.Attribute o attr p] e pos) (evS Φ (.asV a x)) :=
  fun ω m σ s Q E r m' σ' F I he k kx => sq_el he fun p₁ σ₁ e₁ he => sq_el he fun p₂ σ₂ e₂ he => bd_el he fun σ₃ e₃ he => bd_el e₃ fun y ey e₃ => bd_el e₃ fun b eb e₃ => gd_el e₃ fun _ e₃ => strmD_at ey fun hp hl => by
    subst hat
    refine plainObj_wpAny_Assign_Attribute (run2 hx ha F I e₁ e₂ fun v₁ v₂ ω₂ s₂ G₂ I₂ x₁ x₂ => x₁.byt_vr eb fun t => strm_vr (P := fun v => wpAny (model c.B.prog c.B.w) c.A (setAttr v "value" (.bytes b t)) _ E s₂) hZ I₂ (hp ▸ x₂) hl fun x d hx hi S => ?_) (swaps_no hs _ _ _)
    cases S with
    | mk hd r1 r2 r3 r4 r5 r6 r7 =>
      refine set_raw W I₂.old hx hd W.tv (by rw [getL_value]; rfl) (by simp) fun h' tk hs' hd' => hd'.elim fun hh hd' => hd'.elim fun th hd' => ?_
      rw [putL_value] at hd'
      have hm := List.mem_of_getElem? hi
      have cC := Carry.of_mu hm hs'
      have I' := I₂.set (tk := tk) hi hs' (o := .sdict b) (show c.B.Z.P ω₂ h' b d by rw [hZ]; exact .mk hd' (cC.fz _ _ r1) (cC.fz _ _ r2) r3 (cC.fz _ _ r4) (cC.fz _ _ r5) r6 r7)
      have G := G₂.trans (.of_ext (.inl hm) hs' ⟨_, hd'⟩)
      exact KQ.nx (s' := { s₂ with heap := h', toks := tk }) he k G.own (so e₃ ▸ I') (F.gw G I'.apart)
end
end Sh
namespace Sh
open PySem PySem.Calls PyProof.Rows PySem.W PySem.Spec
section
variable {c : Cx} {Φ : Nat → Option Spec} {K : Frag} {fI : Addr} {q : LPos}
theorem lam_bind {pm ctv : Value} {c' cc : Addr} {v : Value} : bindArgs (kla_fn "<lambda>" lamQual (lamParams q) (lamBody q) lamScope [("stream", cc)] pm (.ref c') ctv) ⟨[v], []⟩ = pure [(("size" : Str), v)] := rfl
/-- the frame of the reading function -/
noncomputable def lamEnv (L fa c' cc : Addr) : Env := newEnv lamScope L mainGlobals [("stream", cc)] (lamQual ++ ".<locals>.") (some fa) (.ref c') none builtinsNs
theorem lam_run {lv : Nat} {sp : Spec} {ω : Wd} {σ σ' : St} {s : Shared} {Q E : Value → Shared → Prop} {n : Nat} {p₂ p : PV} {v₂ : Value} {fa cc a' c' d : Addr} {oc ok : Obj} {pm ctv : Value} {vs : Array Value} {tq : Tok} {l : List Env} (R : Rm (lv + 1) c.A) (hv : ∃ v, c.B.mg "_law_take" = some v ∧ FOK c.B lv v sp)
    (hl : Frs c.A ω s.heap l) (I : Inv c.B ω σ s) (hi : ω.mu[n]? = some d) (x₂ : VR c.B.C ω s.heap p₂ v₂)
    (r1 : Fz ω s.heap fa (kla_obj "<lambda>" lamQual (lamParams q) (lamBody q) lamScope [("stream", cc)] pm c' ctv)) (r2 : Fz ω s.heap cc oc) (r3 : oc.data = .cell (some (.ref a'))) (r4 : Fz ω s.heap a' (instObj c.B.C d)) (r5 : Fz ω s.heap c' ok) (r6 : ok.data = .fields vs) (r7 : vs[1]? = some (.str lamQual tq))
    (e : sp [.strm n, p₂] σ = some (.val p, σ')) (k : KE c ω s σ' p Q) : wpAny (model c.B.prog c.B.w) c.A (call (.ref fa) [v₂]) Q E s := by
  refine wpAny_call (kla_callFunE (by have := R.depth; show c.A.depth < 1000; omega) r1.2.2.1 rfl rfl rfl rfl ⟨c', ok, vs, tq, rfl, r5.2.2.1, r6, r7⟩ ?_)
  show wpAny _ _ (bindArgs (kla_fn "<lambda>" lamQual (lamParams q) (lamBody q) lamScope [("stream", cc)] pm (.ref c') ctv) ⟨[v₂], []⟩) _ _ _
  rw [lam_bind]
  refine wpAny_pure (wpAny_newFunctionEnv (fun y hy => by
    simp only [lamScope, List.mem_cons, List.not_mem_nil, or_false] at hy
    rcases hy with rfl | rfl | rfl <;> decide) (fun y hy => by
    rw [List.mem_singleton.mp hy]; rfl) (fun h₃ hns hsb => ⟨I.lim.fresh _ hsb, ?_⟩) rfl)
  generalize hL : s.heap.objs.size = L at *
  have hLn : s.heap.get? L = none := by rw [← hL]; exact size_none _
  have hk₃ : ∀ b o, s.heap.get? b = some o → h₃.get? b = some o := fun b o e => hsb.extBut b o (some_ne e hLn) (Heap.get?_push_of_some _ e)
  have hz₃ : (h₃.get? L).isSome = true := hns.elim fun o q => q.elim fun _ q => q.elim fun _ q => by rw [q.1]; rfl
  have hx3 : ∀ a ∈ ω.ex ++ [L], a ∈ ω.ex ∨ (s.heap.get? a = none ∧ (h₃.get? a).isSome = true) := fun a ha => (List.mem_append.mp ha).imp id fun q => by rw [List.mem_singleton.mp q]; exact ⟨hLn, hz₃⟩
  have I₃ : Inv c.B ⟨ω.mu, ω.ex ++ [L]⟩ σ { s with heap := h₃, toks := s.toks + 1 } := I.bar (tk := s.toks + 1) hk₃ rfl hx3
  have gc : Carry ω s.heap ⟨ω.mu, ω.ex ++ [L]⟩ h₃ := (Carry.more (ω := ω) (ω' := ⟨ω.mu, ω.ex ++ [L]⟩) rfl fun a ha => (hx3 a ha).imp id And.left).trans (.of_keep hk₃)
  refine kla_codeExpr ?_
  show wpAny _ _ (eval (.Call (.Name "_law_take" q.p1) [.Name "stream" q.p2, .Name "size" q.p3] [] q.p4) (lamEnv L fa c' cc)) _ _ _
  have ⟨tv, hmg, ⟨ta, to, tfd, et, hto, htc, htd⟩, hf⟩ := hv
  subst et
  refine wpAny_Call_ofName (Name_function_global rfl rfl (loadGlobal_global (mg := c.B.mg) I₃.gns hmg ?_))
  show wpAny _ _ (callWith q.p4 (.ref ta) [] [(false, eval (.Name "stream" q.p2) _), (false, eval (.Name "size" q.p3) _)] []) _ _ _
  refine callWith_function (o := to) (fd := tfd) (evalArgs_plain (spliced_cons (wpAny_Name (wpAny_loadName_free (c := cc) (v := .ref a') rfl rfl rfl ⟨oc, (gc.fz _ _ r2).2.2.1, r3⟩ (spliced_cons (wpAny_Name (wpAny_loadName_local rfl rfl hns rfl (spliced_nil ⟨⟨I₃.base hto htc, htd⟩, ?_⟩)) rfl))) rfl)))
  have hfr : Frs (c.A.deeper (lamEnv L fa c' cc)) ⟨ω.mu, ω.ex ++ [L]⟩ h₃ (lamEnv L fa c' cc :: l) := ⟨Around.frames_deeper hl.1, fun e he => (List.mem_cons.mp he).elim (fun e1 => e1 ▸ ⟨(fun q => nomatch q), L, _, rfl, List.mem_append_right _ (.head _), hns⟩)
    fun he => (hl.2 e he).imp id fun r => r.elim fun L' r => r.elim fun f' r => ⟨L', f', r.1, List.mem_append_left _ r.2.1, ns_ko r.2.2 fun o e _ => .same (hk₃ L' o e)⟩⟩
  have R' : Rm lv (c.A.deeper (lamEnv L fa c' cc)) := ⟨R.hh, by have := R.depth; show c.A.depth + 1 + lv ≤ 900; omega, by have := R.units; show c.A.units + 3 + 10 * lv ≤ 9000; omega⟩
  refine hf _ R' ⟨ω.mu, ω.ex ++ [L]⟩ σ _ _ _ [.strm n, p₂] [.ref a', v₂] _ σ' _ hfr I₃ (.cons_in (.strm_in (gc.fz _ _ r4) (gc.idx _ _ hi)) (.one (x₂.carry gc))) e fun v₄ ω₄ s₄ G₄ I₄ x₄ => ?_
  have hsub : ∀ a ∈ ω.ex, a ∈ ω₄.ex := fun a ha => by rw [G₄.ex]; exact List.mem_append_left _ ha
  have g3 : Gx ω [] s.heap ⟨ω.mu, ω.ex ++ [L]⟩ h₃ [L] := Gx.of_gw (.refl _ _ _) hk₃ (fun a ha => by rw [List.mem_singleton.mp ha]; exact hLn)
  exact k v₄ ⟨ω₄.mu, ω.ex⟩ s₄ (g3.trans G₄ fun _ q => nomatch q).drop (I₄.unbar rfl hsub) (x₄.carry (Carry.less (ω := ω₄) (ω' := ⟨ω₄.mu, ω.ex⟩) rfl hsub))
theorem strm_ex {B : Base} {ω : Wd} {σ : St} {s : Shared} {n : Nat} {v : Value} {b : Array UInt8} (hZ : B.Z = sdp B.C q) (I : Inv B ω σ s) (x : VR B.C ω s.heap (.strm n) v) (e : σ[n]? = some (.sdict b)) :
    ∃ a d, v = .ref a ∧ s.heap.get? a = some (instObj B.C d) ∧ ω.mu[n]? = some d ∧ SdF B.C q ω s.heap b d := strm_vr (P := fun v => ∃ a d, v = .ref a ∧ s.heap.get? a = some (instObj B.C d) ∧ ω.mu[n]? = some d ∧ SdF B.C q ω s.heap b d) hZ I x e fun a d h1 h2 h3 => ⟨a, d, rfl, h1, h2, h3⟩
theorem se_read {lv f : Nat} {a nx : X} {o e : Expr} {attr : Str} {apos pos : Pos} (W : StrF c.B K fI) (hZ : c.B.Z = sdp c.B.C q) (R : Rm (lv + 1) c.A) (hv : ∀ sp, Φ f = some sp → ∃ v, c.B.mg "_law_take" = some v ∧ FOK c.B lv v sp)
    (ha : SE c o (ev Φ a)) (hn : SE c e (ev Φ nx)) (hb : plainBase o = true) (hl : (apos.endLine == pos.line) = true) (hst : notStar e) (hat : attr = "read") : SE c (.Call (.Attribute o attr apos) [e] [] pos) (ev Φ (.read f a nx)) :=
  fun ω m σ s Q E p σ' F I he k => sq_el he fun p₁ σ₁ e₁ he => bd_el he fun x ex he => sq_el he fun p₂ σ₂ e₂ he => bd_el he fun sp hΦ he => sq_el he fun out σ₃ e₃ he => KE.vl he k fun ho k => strmD_at ex fun hp hσ => by
    subst hat
    have hst1 : starEach [e] c.env = [(false, eval e c.env)] := starEach_cons hst
    rw [arm_eval_Call, base_plain hb]
    refine wpAny_bind (ha ω m σ s _ E _ _ F I e₁ fun v ω₁ s₁ G₁ I₁ x₁ => wpAny_bind (wpAny_standAt ?_))
    have ⟨xa, d, ev, hx, hi, S⟩ := strm_ex hZ I₁ (hp ▸ x₁) hσ
    subst ev
    cases S with
    | mk hd r1 r2 r3 r4 r5 r6 r7 =>
    rename_i h1 h2 t1 tb t2 tq fa cc a' c' n' oc ok pm ctv vs
    have hform : methodCallForm ([e].length + ([] : List Keyword).length) (backTo pos (starEach [e] c.env)) (backToKw pos (keywordEach [] c.env)) = true := by rw [hst1]; rfl
    have hpos : methodCallPos true o c.env apos pos = pure pos := by unfold methodCallPos; simp [hl]
    unfold methodCall
    rw [hform]
    refine wpAny_bind (wpAny_holding (method_usual (K := K) (C := c.B.C) (od := some (dictOf _ n')) (W.inn I₁.old) ⟨hx, rfl, rfl, hd⟩ (plainGet_of W.pg).1 (plainGet_of W.pg).2 W.ar rfl (get_raw W I₁.old hx hd W.ar rfl getL_read rfl ?_)))
    refine wpAny_bind (wpAny_of_eq hpos ?_)
    rw [hst1]
    refine callWith_function (o := kla_obj "<lambda>" lamQual (lamParams q) (lamBody q) lamScope [("stream", cc)] pm c' ctv) (fd := kla_fn "<lambda>" lamQual (lamParams q) (lamBody q) lamScope [("stream", cc)] pm (.ref c') ctv)
      (evalArgs_plain (spliced_cons (hn ω₁ m σ₁ { s₁ with toks := s₁.toks + 1 } _ E _ _ (F.gw G₁ I₁.apart) I₁.toks e₂ fun v₂ ω₂ s₂ G₂ I₂ x₂ => spliced_nil ?_)))
    have g := Carry.of_gw G₂ (fun _ q => nomatch q)
    refine ⟨⟨(g.fz _ _ r1).2.2.1, rfl⟩, ?_⟩
    match out, ho with
    | .val p₃, ho => exact (F.gw (G₁.trans G₂) I₂.apart).frs.elim fun l hl => lam_run R (hv sp hΦ) hl I₂ (g.idx _ _ hi) x₂ (g.fz _ _ r1) (g.fz _ _ r2) r3 (g.fz _ _ r4) (g.fz _ _ r5) r6 r7 e₃ ((so ho).symm ▸ k.gw (G₁.trans G₂))
    | .exc _, ho => exact nn ho
end
end Sh
namespace Sh
open PySem PySem.Calls PyProof.Rows PySem.W PySem.Spec
section
variable {B : Base} {ω ω' : Wd} {σ : St} {s : Shared} {h' : Heap} {tk : Nat} {a : Addr} {o : PO} {od : Obj}
theorem TabOK.fz {h : Heap} (T : TabOK B ω h) (f : ∀ a o, Fz ω h a o → Fz ω' h' a o) (k : ∀ x ∈ B.tabs, ∀ o, h.get? x.1 = some o → h'.get? x.1 = some o) : TabOK B ω' h' := by
  intro x hx
  obtain ⟨ps, e, t, r⟩ := T x hx
  refine ⟨ps, k x hx _ e, t, fun y hy => ?_⟩
  rcases r y hy with r | ⟨c', o, vs, t', r1, r2, r3⟩
  · exact .inl r
  · exact .inr ⟨c', o, vs, t', r1, f _ _ r2, r3⟩
/-- a dict that nothing points to is changed -/
theorem Inv.dicstep (I : Inv B ω σ s) (ho : s.heap.get? a = some od) (hd : Dic od) (hm : a ∉ ω.mu) (hx : a ∉ ω.ex) (h0 : B.h₀.get? a = none) (k : Heap.ExtBut a s.heap h') : Inv B ω σ { s with heap := h', toks := tk } := by
  have nd : ∀ {b : Addr} {o : Obj}, s.heap.get? b = some o → ¬ Dic o → b ≠ a := fun e hnd q => hnd (by rw [q, ho] at e; cases e; exact hd)
  refine I.step ⟨fun b o f => ⟨f.1, f.2.1, k b o (nd f.2.2.1 f.2.2.2.1) f.2.2.1, f.2.2.2⟩, fun _ _ e => e⟩ (fun b hb o e => k b o (fun q => hm (q ▸ hb)) e) (old_ext I.old h0 k) (fun b hb => ?_) (I.lim.extBut k (I.stat h0)) (fun b o e _ _ hnd => k b o (nd e hnd) e)
  obtain ⟨o', e⟩ := Option.isSome_iff_exists.mp (I.exl b hb)
  rw [k b o' (fun q => hx (q ▸ hb)) e]; rfl
/-- a dict that nothing points to becomes one of the law's own -/
theorem Inv.adopt (I : Inv B ω σ s) (ho : s.heap.get? a = some od) (hd : Dic od) (hm : a ∉ ω.mu) (hx : a ∉ ω.ex) (h0 : B.h₀.get? a = none) (hO : OR B ⟨ω.mu ++ [a], ω.ex⟩ s.heap o a) : Inv B ⟨ω.mu ++ [a], ω.ex⟩ (σ ++ [o]) s := by
  have nd : ∀ {b : Addr} {o : Obj}, s.heap.get? b = some o → ¬ Dic o → b ≠ a := fun e hnd q => hnd (by rw [q, ho] at e; cases e; exact hd)
  have gC : Carry ω s.heap ⟨ω.mu ++ [a], ω.ex⟩ s.heap :=
    ⟨fun b o f => ⟨fun q => (List.mem_append.mp q).elim f.1 (fun z => nd f.2.2.1 f.2.2.2.1 (List.mem_singleton.mp z)), f.2⟩, fun i b e => by
      obtain ⟨hi, rfl⟩ := List.getElem?_eq_some_iff.mp e
      show (ω.mu ++ [a])[i]? = _
      rw [List.getElem?_append_left hi]; exact e⟩
  refine ⟨I.bok, I.lim, I.old, by simp [I.len], ?_, fun b hb => ?_, fun b hb => ?_, I.exl, fun i b p e1 e2 => ?_, I.os, I.gens, I.tab.fz gC.fz fun _ _ _ e => e⟩
  · show (ω.mu ++ [a]).Nodup
    rw [List.nodup_append]
    exact ⟨I.nodup, by simp, fun x hx y hy => by rw [List.mem_singleton.mp hy]; exact fun q => hm (q ▸ hx)⟩
  · rcases hb with hb | hb
    · rcases List.mem_append.mp hb with q | q
      · exact I.new b (.inl q)
      · rw [List.mem_singleton.mp q]; exact h0
    · exact I.new b (.inr hb)
  · rcases List.mem_append.mp hb with q | q
    · exact I.apart b q
    · rw [List.mem_singleton.mp q]; exact hx
  · by_cases hi : i < ω.mu.length
    · rw [List.getElem?_append_left hi] at e1
      rw [List.getElem?_append_left (by rw [← I.len]; exact hi)] at e2
      exact (I.objs i b p e1 e2).carry gC fun _ e => e
    · obtain ⟨h1, _⟩ := List.getElem?_eq_some_iff.mp e1
      have : i = ω.mu.length := by
        have h2 : i < ω.mu.length + 1 := by simpa using h1
        omega
      subst this
      rw [List.getElem?_append_right (Nat.le_refl _)] at e1
      rw [I.len, List.getElem?_append_right (Nat.le_refl _)] at e2
      simp at e1 e2
      subst e1; subst e2
      exact hO
end
noncomputable def strmS : Spec := fun ps σ => bd (one? ps) fun p => bd p.byt? fun b => gd (decide (b.size ≤ LIM)) (some (.val (.strm σ.length), σ ++ [.sdict b]))
theorem callWith_clsM {M : Model} {A : Around} {E : Value → Shared → Prop} {s : Shared} {pos : Pos} {C : Addr} {args : List (Bool × Sem Value)} {Q : Value → Shared → Prop} (hpl : args.any (·.1) = false)
    (h : wpAny M A (PySem.evalArgs (.ref C) true args []) (fun x s₁ => Makes M s₁.heap C ∧ wpAny M A (call (.ref C) x.pos x.kw) Q E s₁) E s) :
    wpAny M A (callWith pos (.ref C) [] args []) Q E s := by
  unfold callWith
  refine wpAny_bind (wpAny_holding (wpAny_mono h (fun x s₁ h₁ => wpAny_bind (wpAny_standAt ?_)) fun _ _ x => x))
  simp only [hpl, List.any_nil, Bool.or_false]
  refine wpAny_bind (m := keeperOf (.ref C)) ?_
  obtain ⟨⟨⟨oc, od, cd, sl, hC, _⟩, _, _, _, _, call, _⟩, h₂⟩ := h₁
  unfold keeperOf
  refine wpAny_bind (wpAny_load hC ?_)
  refine wpAny_bind (call.here ?_)
  refine wpAny_pure ?_
  exact wpAny_bind (wpAny_mono h₂ (fun r s₂ hr => wpAny_bind (wpAny_holding (wpAny_point (wpAny_pure hr)))) fun _ _ x => x)
end Sh
namespace Sh
open PySem PySem.Calls PyProof.Rows PySem.W PySem.Spec
noncomputable def strmNames : List (Str × NameKind) := [("octets", .local), ("stream", .cell), ("_Example", .globalImplicit)]
noncomputable def initNames : List (Str × NameKind) := [("self", .local), ("value", .local)]
theorem stream_ok {B : Base} {K : Frag} {fI a cC P : Addr} {q : LPos} {fd fdI : FuncData} {lv : Nat} {pa pb pc pd pe pf pg ph pi pj pk pl pm pn po : Pos} (W : StrF B K fI) (hZ : B.Z = sdp B.C q) (X : FnIn B a fd) (XI : FnIn B fI fdI)
    (hbody : fd.body = .stmts [.Assign [.Name "stream" pa] (.Call (.Name "_Example" pb) [.Name "octets" pc] [] pd) pe, .Assign [.Attribute (.Name "stream" pf) "read" pg] (.Lambda (lamParams q) (lamBody q) lamScope ph) pi, .Return (some (.Name "stream" pj)) pk])
    (hnames : fd.scope.names = strmNames) (hbind : ∀ v, bindArgs fd ⟨[v], []⟩ = pure [(("octets" : Str), v)]) (hq : fd.qualname = "_law_stream")
    (hcd : fd.code = .ref cC) (T : TabIn B cC P ph lamQual) (hC : B.mg "_Example" = some (.ref B.C))
    (hbodyI : fdI.body = .stmts [.Assign [.Attribute (.Name "self" pl) "value" pm] (.Name "value" pn) po]) (hnamesI : fdI.scope.names = initNames)
    (hbindI : ∀ u v, bindArgs fdI ⟨[u, v], []⟩ = pure [(("self" : Str), u), (("value" : Str), v)]) : FOK B (lv + 3) (.ref a) strmS := by
  obtain ⟨o, ho, hoc, hod⟩ := X.o
  obtain ⟨oI, hoI, hocI, hodI⟩ := XI.o
  refine ⟨⟨a, o, fd, rfl, ho, hoc, hod⟩, ?_⟩
  refine fun A R ω σ s Q E ps vs out σ' l hl I x e k => bd_el e fun p e1 e => bd_el e fun b e2 e => gd_el e fun hsz e => x.one_vr e1 fun v hv => ?_
  refine hv.byt_vr (P := fun v => wpAny (model B.prog B.w) A (call (.ref a) [v]) Q E s) e2 fun tv => ?_
  refine pr_el (P := fun out σ' => KO' B ω s.heap σ' l out Q E → wpAny (model B.prog B.w) A (call (.ref a) [.bytes b tv]) Q E s) e (fun k => ?_) k
  refine wpAny_call (codeAny_call_cells (by have := R.depth; show A.depth < 1000; omega) (I.base ho hoc) hod I.lim (X.cd _ fun b o e h => I.base e h) hbody (hbind _) X.clo (fun y hy => ?_) (fun s₁ ic => ?_) X.co X.gen X.kind)
  · rw [List.mem_singleton.mp hy, hnames]; exact .inl rfl
  generalize henv : callEnvC fd s.heap.objs.size a = env at ic ⊢
  have hL : env.locals = s.heap.objs.size := by rw [← henv]; rfl
  have hcells : env.cells = [(("stream" : Str), s.heap.objs.size + 1)] := by rw [← henv]; show cellsFrom _ fd.scope.names [] = _; rw [hnames]; rfl
  have hscope : env.scope = fd.scope := by rw [← henv]; rfl
  have hglob : env.globals = mainGlobals := by rw [← henv]; exact X.g
  have hcode : env.code = .ref cC := by rw [← henv]; exact hcd
  have hqual : env.qual ++ "<lambda>" = lamQual := by rw [← henv]; show (fd.qualname ++ ".<locals>.") ++ "<lambda>" = _; rw [hq]; decide +kernel
  have hkf : env.scope.kind = .function := by rw [hscope]; exact X.kind
  have hko : ∀ y, env.kindOf y = List.lookup y strmNames := fun y => by show env.scope.names.lookup y = _; rw [hscope, hnames]
  have hk1 : env.kindOf "octets" = some .local := hko _
  have hk2 : env.kindOf "stream" = some .cell := hko _
  have hk3 : env.kindOf "_Example" = some .globalImplicit := hko _
  have hcl : env.cells.lookup ("stream" : Str) = some (s.heap.objs.size + 1) := by rw [hcells]; rfl
  obtain ⟨h₁, tk₁, hs₁⟩ := ic.toInCall.same
  subst hs₁
  have hkeep₁ : ∀ b o, s.heap.get? b = some o → h₁.get? b = some o := ic.toInCall.keep
  have hns₁ := ic.toInCall.ns
  have hcell₁ := ic.cell _ _ hcl
  have hm1 : bindL env.kindOf [(("octets" : Str), Value.bytes b tv)] (fun _ => none) "octets" = some (.bytes b tv) := by simp [bindL, hk1]
  have hm2 : bindC env.kindOf [(("octets" : Str), Value.bytes b tv)] (fun _ => none) "stream" = none := by simp [bindC, hk1]
  rw [hm2] at hcell₁
  simp only at hns₁ hcell₁
  generalize hLe : s.heap.objs.size = L at *
  have hLn : ∀ d, L ≤ d → s.heap.get? d = none := fun d hd => none_of_le (hLe ▸ hd)
  have I₁ : Inv B ω σ { s with heap := h₁, toks := tk₁ } := I.keep hkeep₁
  have R₁ := R.depth
  -- the class's call
  refine wpAny_execs_cons (wpAny_Assign_Name (wpAny_Call_ofName (Name_function_global hkf hk3 (loadGlobal_global (mg := B.mg) (by rw [hglob]; exact I₁.gns) hC ?_))) rfl)
  have KX := W.inn I₁.old
  show wpAny _ _ (callWith pd (.ref B.C) [] [(false, eval (.Name "octets" pc) env)] []) _ _ _
  refine callWith_clsM rfl (evalArgs_plain (spliced_cons ?_))
  refine wpAny_Name (wpAny_loadName_local hkf hk1 hns₁ hm1 ?_)
  refine spliced_nil ⟨makes_of KX W.mkk, ?_⟩
  have hLh : L + 1 < h₁.objs.size := by obtain ⟨oc, q1, _⟩ := hcell₁; exact Heap.lt_size q1
  refine wpAny_call (make_core (makes_of KX W.mkk) (looks_findIn KX W.ini) (fun self => bind_fn KX self W.fn) (.inl rfl) ?_)
  generalize hd : h₁.objs.size = d at *
  have hk12 : ∀ b o, h₁.get? b = some o → ((h₁.push emptyDict).push (instObj B.C d)).get? b = some o := fun b o e => Heap.get?_push_of_some _ (Heap.get?_push_of_some _ e)
  have hH2d : ((h₁.push emptyDict).push (instObj B.C d)).get? d = some emptyDict := Heap.get?_push_of_some _ (by rw [← hd]; exact Heap.get?_push_size _ rfl)
  have hH2x : ((h₁.push emptyDict).push (instObj B.C d)).get? (d + 1) = some (instObj B.C d) := by
    have : (h₁.push emptyDict).objs.size = d + 1 := by rw [Heap.size_push, hd]
    rw [← this]; exact Heap.get?_push_size _ rfl
  generalize hH2 : (h₁.push emptyDict).push (instObj B.C d) = H2 at *
  have I₂ : Inv B ω σ ⟨H2, s.gens, s.drawn, tk₁, s.os⟩ := I₁.keep (tk := tk₁) hk12
  -- the class's own start
  have hsz2 : H2.objs.size = d + 2 := by rw [← hH2, Heap.size_push, Heap.size_push, hd]
  refine codeAny_call_cells (s := ⟨H2, s.gens, s.drawn, tk₁, s.os⟩) ?room (I₂.base hoI hocI) hodI I₂.lim (XI.cd _ fun b o e h => I₂.base e h) hbodyI (hbindI _ _) XI.clo (fun y hy => ?_) (fun s₃ ic₃ => ?_) XI.co XI.gen XI.kind
  case room =>
    have := R.depth
    simp only [depth_under_make, recursionLimit]
    show A.depth + 1 + 1 < 1000
    omega
  · rw [hnamesI]
    simp only [List.mem_cons, List.not_mem_nil, or_false] at hy
    rcases hy with rfl | rfl
    · exact .inl rfl
    · exact .inl rfl
  generalize henv3 : callEnvC fdI (Shared.heap ⟨H2, s.gens, s.drawn, tk₁, s.os⟩).objs.size fI = env3 at ic₃ ⊢
  have hscope3 : env3.scope = fdI.scope := by rw [← henv3]; rfl
  have hkf3 : env3.scope.kind = .function := by rw [hscope3]; exact XI.kind
  have hko3 : ∀ y, env3.kindOf y = List.lookup y initNames := fun y => by show env3.scope.names.lookup y = _; rw [hscope3, hnamesI]
  have hk31 : env3.kindOf "self" = some .local := hko3 _
  have hk32 : env3.kindOf "value" = some .local := hko3 _
  obtain ⟨h₃, tk₃, hs₃⟩ := ic₃.toInCall.same
  subst hs₃
  have hkeep₃ : ∀ b o, H2.get? b = some o → h₃.get? b = some o := ic₃.toInCall.keep
  have hns₃ := ic₃.toInCall.ns
  simp only at hns₃
  have hm31 : bindL env3.kindOf [(("self" : Str), Value.ref (d + 1)), (("value" : Str), Value.bytes b tv)] (fun _ => none) "self" = some (.ref (d + 1)) := by
    simp only [bindL, hk31, hk32, if_true]
    rw [if_neg (by decide)]
  have hm32 : bindL env3.kindOf [(("self" : Str), Value.ref (d + 1)), (("value" : Str), Value.bytes b tv)] (fun _ => none) "value" = some (.bytes b tv) := by
    simp only [bindL, hk31, hk32, if_true]
  refine wpAny_execs_cons (plainObj_wpAny_Assign_Attribute (wpAny_Name (wpAny_loadName_local hkf3 hk32 hns₃ hm32 ?_)) rfl)
  refine wpAny_Name (wpAny_loadName_local hkf3 hk31 hns₃ hm31 ?_)
  have I₃ : Inv B ω σ ⟨h₃, s.gens, s.drawn, tk₃, s.os⟩ := I₂.keep (tk := tk₃) hkeep₃
  refine set_raw (es := []) (n := 0) W I₃.old (hkeep₃ _ _ hH2x) (hkeep₃ _ _ hH2d) W.tv rfl (by simp) fun h₄ tk₄ hs₄ hd₄ => ?_
  obtain ⟨hsh, th, hd₄⟩ := hd₄
  have hd₄' : h₄.get? d = some (dictOf [⟨hsh, .str "value" th, .bytes b tv⟩] 1) := hd₄
  refine wpAny_execs_nil ?_
  refine ⟨rfl, ?_⟩
  have kcell : ∀ {h h' : Heap} {w}, h.IsCell (L + 1) w → (∀ o, h.get? (L + 1) = some o → ¬ Tbl o → h'.get? (L + 1) = some o) → h'.IsCell (L + 1) w := fun hc k => cell_ko hc fun o e ht => .same (k o e ht)
  have hcell₄ : h₄.IsCell (L + 1) none := kcell hcell₁ fun o e _ => hs₄ _ _ (Nat.ne_of_lt hLh) (hkeep₃ _ _ (hk12 _ _ e))
  refine wpAny_storeName_cell hkf hk2 hcl hcell₄ fun h₅ hc₅ hs₅ => ?_
  have hdc : d ≠ L + 1 := Nat.ne_of_gt hLh
  have hxc : d + 1 ≠ L + 1 := Nat.ne_of_gt (Nat.lt_succ_of_lt hLh)
  have hxd : d + 1 ≠ d := Nat.succ_ne_self d
  have hdn : s.heap.get? d = none := hLn _ (Nat.le_of_lt (Nat.lt_of_succ_lt hLh))
  have hxn : s.heap.get? (d + 1) = none := hLn _ (Nat.le_succ_of_le (Nat.le_of_lt (Nat.lt_of_succ_lt hLh)))
  have hcn : s.heap.get? (L + 1) = none := hLn _ (Nat.le_succ _)
  have k15 : ∀ b o, s.heap.get? b = some o → h₅.get? b = some o := fun b o e =>
    hs₅.extBut b o (some_ne e hcn) (hs₄ b o (some_ne e hdn) (hkeep₃ _ _ (hk12 _ _ (hkeep₁ b o e))))
  have hd₅ : h₅.get? d = some (dictOf [⟨hsh, .str "value" th, .bytes b tv⟩] 1) := hs₅.extBut _ _ hdc hd₄'
  have hx₅ : h₅.get? (d + 1) = some (instObj B.C d) := hs₅.extBut _ _ hxc (hs₄ _ _ hxd (hkeep₃ _ _ hH2x))
  have I₅ : Inv B ω σ { s with heap := h₅, toks := tk₄ } := I.keep (tk := tk₄) k15
  have hclos : closureFor lamScope env = pure [(("stream" : Str), L + 1)] := by
    rw [closure_ok (env := env) (scope := lamScope) fun y hy => ?_]
    · show pure ([(("stream" : Str), (env.cells.lookup ("stream" : Str)).getD 0)]) = _
      rw [hcl]; rfl
    · simp only [lamScope, List.mem_cons, Prod.mk.injEq, List.not_mem_nil, or_false] at hy
      rcases hy with ⟨_, q⟩ | ⟨rfl, _⟩ | ⟨_, q⟩
      · cases q
      · exact ⟨_, hcl⟩
      · cases q
  refine wpAny_execs_cons (plainObj_wpAny_Assign_Attribute (lam_ok (c := ⟨B, A.deeper env, env, [], ⟨[], [], []⟩⟩) (s := { s with heap := h₅, toks := tk₄ }) T hcode hqual rfl hclos hglob I₅ fun f c' ok vs t ctv h₆ tk₆ G₆ I₆ hfn kp fz fzc hdv hvv => ?_) rfl)
  have hd₆ := kp _ _ hd₅ (by simp [Tbl])
  have hx₆ := kp _ _ hx₅ (by simp [Tbl])
  have hc₆ : h₆.IsCell (L + 1) (some (.ref (d + 1))) := kcell hc₅ fun o e ht => kp _ _ e ht
  refine wpAny_Name (wpAny_loadName_cell hkf hk2 hcl hc₆ ?_)
  refine set_raw (s := { s with heap := h₆, toks := tk₆ }) W I₆.old hx₆ hd₆ W.tr rfl (by simp) fun h₇ tk₇ hs₇ hd₇ => ?_
  obtain ⟨hsh2, th2, hd₇⟩ := hd₇
  have hd₇' : h₇.get? d = some (dictOf [⟨hsh, .str "value" th, .bytes b tv⟩, ⟨hsh2, .str "read" th2, .ref f⟩] 2) := hd₇
  have hc₇ : h₇.IsCell (L + 1) (some (.ref (d + 1))) := kcell hc₆ fun o e ht => hs₇ _ _ hdc.symm e
  have hx₇ : h₇.get? (d + 1) = some (instObj B.C d) := hs₇ _ _ hxd hx₆
  refine wpAny_execs_cons (wpAny_Return_some (wpAny_Name (wpAny_loadName_cell hkf hk2 hcl hc₇ ?_)))
  have mun : ∀ {a : Addr}, s.heap.get? a = none → a ∉ ω.mu ∧ a ∉ ω.ex := fun {a} hn => ⟨fun q => (by have := I.live q; rw [hn] at this; cases this), fun q => (by have := I.exl _ q; rw [hn] at this; cases this)⟩
  have hDic : Dic (dictOf [⟨hsh, .str "value" th, .bytes b tv⟩] 1) := ⟨_, _, rfl⟩
  have hDic2 : Dic (dictOf [⟨hsh, .str "value" th, .bytes b tv⟩, ⟨hsh2, .str "read" th2, .ref f⟩] 2) := ⟨_, _, rfl⟩
  have I₇ : Inv B ω σ { s with heap := h₇, toks := tk₇ } := Inv.dicstep (s := { s with heap := h₆, toks := tk₆ }) (tk := tk₇) I₆ hd₆ hDic (mun hdn).1 (mun hdn).2 (I.fresh hdn) hs₇
  -- what stands fast
  have fzx : ∀ {a : Addr} {o : Obj}, Fz ω h₆ a o → Fz ⟨ω.mu ++ [d], ω.ex⟩ h₇ a o := fun {a o} z => by
    have hne : a ≠ d := fun q => z.2.2.2.1 (by have := z.2.2.1; rw [q, hd₆] at this; cases this; exact hDic)
    exact ⟨fun q => (List.mem_append.mp q).elim z.1 (fun q => hne (List.mem_singleton.mp q)), z.2.1, hs₇ _ _ hne z.2.2.1, z.2.2.2⟩
  have fzn : ∀ {a : Addr} {o : Obj}, s.heap.get? a = none → a ≠ d → h₇.get? a = some o → ¬ Dic o ∧ ¬ Tbl o → Fz ⟨ω.mu ++ [d], ω.ex⟩ h₇ a o := fun {a o} hn hne e nd =>
    ⟨fun q => (List.mem_append.mp q).elim (mun hn).1 (fun q => hne (List.mem_singleton.mp q)), (mun hn).2, e, nd⟩
  obtain ⟨occ, hocc, hoccd⟩ := hc₇
  have hcellf : ¬ Dic occ ∧ ¬ Tbl occ := by constructor <;> simp [Dic, Tbl, hoccd]
  have I₈ := Inv.adopt (s := { s with heap := h₇, toks := tk₇ }) (o := .sdict b) I₇ hd₇' hDic2 (mun hdn).1 (mun hdn).2 (I.fresh hdn) (by
    show B.Z.P _ h₇ b d
    rw [hZ]
    exact .mk hd₇' (fzx fz) (fzn hcn hdc.symm hocc hcellf) hoccd (fzn hxn hxd hx₇ (inst_frz _ _)) (fzx fzc) hdv hvv)
  refine k (.ref (d + 1)) ⟨ω.mu ++ [d], ω.ex⟩ _ ?_ I₈ (.strm_in (fzn hxn hxd hx₇ (inst_frz _ _)) I₁.at_new)
  refine ⟨⟨[d], rfl, fun b hb => by rw [List.mem_singleton.mp hb]; exact hdn⟩, rfl, fun b ob eb ht _ _ => .same ?_, fun b ob eb => ?_⟩
  · exact hs₇ _ _ (some_ne eb hdn) (kp _ _ (k15 _ _ eb) ht)
  · obtain ⟨o', e'⟩ := G₆.there b ob (k15 _ _ eb)
    exact ⟨o', hs₇ _ _ (some_ne eb hdn) e'⟩
end Sh
namespace Sh
open PySem PySem.Calls PyProof.Rows PySem.W PySem.Spec
theorem fun_okE {B : Base} {g : EvS} {lv : Nat} {a : Addr} {fd : FuncData} {body : List Stmt} {params : List Str} {Γ : Sc} (X : FnIn B a fd) (hbody : fd.body = .stmts body)
    (hbind : ∀ vals : List Value, vals.length = params.length → bindArgs fd ⟨vals, []⟩ = pure (params.zip vals)) (hn : params.Nodup) (hB : fnB Γ params fd.scope.names = true) (hle : params.length ≤ Γ.nt.length)
    (hs : ∀ c : Cx, FnCx B lv Γ fd.code (fd.qualname ++ ".<locals>.") c → SSs c body g) : FOK B (lv + 1) (.ref a) (fnRunE g params.length Γ.nt.length) :=
  X.o.elim fun o q => fun_ok q.1 q.2.1 q.2.2 hbody X.g X.bl X.clo X.cd hbind hn hB hle hs X.co X.gen X.kind
noncomputable def keysB (es : Array DictEntry) : Bool := es.toList.all fun e => match e.key with
  | .int k _ => e.hash == hashInt k
  | _ => false
/-- the dict of the signs that want a stroke ahead -/
structure MapIn (B : Base) (n : Str) (D : Addr) (o : Obj) (es : Array DictEntry) (ep : Nat) : Prop where
  g : B.mg n = some (.ref D)
  ne : (D == sysModules) = false
  pl : B.h₀.get? D = some o
  cls : o.cls ≠ .none
  ex : o.ExactDict
  d : o.data = .dict es ep
  k : keysB es = true
  a : findBy Value.isInt es 97 = none
  b : findBy Value.isInt es 98 = none
theorem map_of {B : Base} {ω : Wd} {σ : St} {s : Shared} {n : Str} {D : Addr} {o : Obj} {es : Array DictEntry} {ep : Nat} (I : Inv B ω σ s) (M : MapIn B n D o es ep) : s.heap.MapOf (intKind B.prog B.w) D (findBy Value.isInt es) := by
  refine ⟨o, es, ep, I.base M.pl M.cls, M.ex, M.d, fun e he => ?_, fun _ => rfl⟩
  have := List.all_eq_true.mp M.k e (Array.mem_toList_iff.mpr he)
  split at this
  · rename_i k t hk
    refine ⟨k, ?_, by have h := beq_iff_eq.mp this; exact h⟩
    rw [hk]; show Value.isInt k (.int k t) = true; simp [Value.isInt]
  · cases this
theorem type_translate : typeOf (.builtin "str.translate") = pure (.type "method_descriptor") := by show builtinType _ = _; rw [builtinType_eq_fast]; kernel_rfl
noncomputable def escG : EvS := fun m σ => bd (rdm m 0) fun p => bd (trsV p) fun q => some (.ret q, m, σ)
noncomputable def escS : Spec := fnRunE escG 1 1
noncomputable def escNames : List (Str × NameKind) := [("pattern", .local), ("isinstance", .globalImplicit), ("str", .globalImplicit), ("_special_chars_map", .globalImplicit)]
noncomputable def escΓ : Sc := ⟨escNames, ["pattern"], []⟩
section
variable {c : Cx} {ω : Wd} {σ : St} {s : Shared} {E : Value → Shared → Prop}
theorem esc_keep {ch : Nat} {D : Addr} {o : Obj} {es : Array DictEntry} {ep : Nat} {t : Tok} {Q : Value → Shared → Prop} (hh : c.A.handled = none) (I : Inv c.B ω σ s) (M : MapIn c.B "_special_chars_map" D o es ep) (hlt : ch < 128) (hfn : findBy Value.isInt es ch = none) (k : KE c ω s σ (.str ⟨#[ch]⟩) Q) :
    wpAny (model c.B.prog c.B.w) c.A (call (.builtin "str.translate") [.str ⟨#[ch]⟩ t, .ref D]) Q E s :=
  Tr.call_keep hlt hh M.ne (map_of I M) hfn fun h' e t₂ tk₂ hne => k _ ω _ (.of_keep hne.keeps) (I.keep hne.keeps) .str_in
theorem str1_eq {x : Str} {n : Nat} (h : (x.cps == #[n]) = true) : x = ⟨#[n]⟩ := by
  cases x; exact congrArg Str.mk (beq_iff_eq.mp h)
theorem esc_call {D : Addr} {o : Obj} {es : Array DictEntry} {ep : Nat} {t : Tok} {x : Str} {q : PV} {Q : Value → Shared → Prop} (hh : c.A.handled = none) (I : Inv c.B ω σ s) (M : MapIn c.B "_special_chars_map" D o es ep) (h : trsV (.str x) = some q) (k : KE c ω s σ q Q) :
    wpAny (model c.B.prog c.B.w) c.A (call (.builtin "str.translate") [.str x t, .ref D]) Q E s :=
  gd_el (show gd _ _ = _ from h) fun hc h => (Bool.or_eq_true_iff.mp hc).elim (fun hx => by rw [← so h, str1_eq hx] at k; rw [str1_eq hx]; exact esc_keep hh I M (by decide) M.a k) fun hx => by rw [← so h, str1_eq hx] at k; rw [str1_eq hx]; exact esc_keep hh I M (by decide) M.b k
end
theorem esc_ok {B : Base} {lv : Nat} {a : Addr} {fd : FuncData} {os : List Stmt} {p1 p2 p3 p4 p5 p6 p7 p8 p9 p10 : Pos} {D : Addr} {o : Obj} {es : Array DictEntry} {ep : Nat} (X : FnIn B a fd) (hN : NoGlob B) (hM : MapIn B "_special_chars_map" D o es ep)
    (hbody : fd.body = .stmts [.If (.Call (.Name "isinstance" p1) [.Name "pattern" p2, .Name "str" p3] [] p4) [.Return (some (.Call (.Attribute (.Name "pattern" p5) "translate" p6) [.Name "_special_chars_map" p7] [] p8)) p9] os p10])
    (hl : (p6.endLine == p8.line) = true) (hnames : fd.scope.names = escNames) (hbind : ∀ v, bindArgs fd ⟨[v], []⟩ = pure [(("pattern" : Str), v)]) : FOK B (lv + 1) (.ref a) escS := by
  refine fun_okE (g := escG) (params := ["pattern"]) (Γ := escΓ) X hbody (fun vals hv => ?_) (by decide) (by rw [hnames]; decide +kernel) (by decide) fun c hc => ?_
  · match vals, hv with
    | [v], _ => exact hbind v
  refine fun ω m σ s Q E r m' σ' F I he k kx => bd_el he fun p hm he1 => bd_el he1 fun q h1 he2 => ?_
  have R := hc.R
  have okG : ∀ y : Str, okG escΓ y = true → Sh.okG c.Γ y = true := fun y h => by rw [hc.hΓ]; exact h
  have hB := hc.hB
  subst hB
  have ld : ∀ {s' : Shared} {pos : Pos} {Q : Value → Shared → Prop}, FR c ω s'.heap m → (∀ v, VR c.B.C ω s'.heap p v → Q v s') → wpAny (model c.B.prog c.B.w) c.A (eval (.Name "pattern" pos) c.env) Q E s' := fun F' kk =>
    wpAny_Name (load_ok F' (i := 0) (by rw [hc.hΓ]; decide +kernel) (.inl (by rw [hc.hΓ]; rfl)) (bd_el hm fun o e1 e2 => e1.trans (congrArg some e2)) (by decide +kernel) kk)
  refine bd_el h1 fun x hx _ => ?_
  have hp := str_at hx
  subst hp
  refine wpAny_execs_cons (wpAny_If ?_)
  refine wpAny_isTrue_value ?_ rfl
  refine wpAny_Call_ofName (bui_ok F I (okG _ (by decide +kernel)) (hN _ (by decide +kernel)) (by decide +kernel) Boot.«isinstance» ?_)
  show wpAny _ _ (callWith p4 (.builtin "isinstance") [] [(false, eval (.Name "pattern" p2) c.env), (false, eval (.Name "str" p3) c.env)] []) _ _ _
  refine callWith_builtin rfl (evalArgs_plain (spliced_cons (ld F fun v hv => ?_)))
  refine spliced_cons (bui_ok F I (okG _ (by decide +kernel)) (hN _ (by decide +kernel)) (by decide +kernel) Boot.«str» (spliced_nil ?_))
  refine hv.str_el (P := fun v => wpAny (model c.B.prog c.B.w) c.A (call (.builtin "isinstance") [v, .type "str"]) _ E s) fun t => IsiPair.str_str (wpAny_truthy_bool ?_)
  rw [if_pos rfl]
  refine wpAny_execs_cons (wpAny_Return_some ?_)
  refine wpAny_Call_method_lateS rfl rfl hl (ld F fun v hv => hv.str_el fun t' => ?_)
  refine ⟨"str", "str.translate", PySem.F.plainAttrs_str, PySem.F.slot_str_translate, type_translate, typeIs_str _ _ _, (fun _ q => nomatch q), ?_⟩
  show wpAny _ _ (callWith p8 (.builtin "str.translate") [.str x t'] [(false, eval (.Name "_special_chars_map" p7) c.env)] []) _ _ _
  refine callWith_builtin rfl (evalArgs_plain (spliced_cons (glob_ok F I (okG _ (by decide +kernel)) hM.g (spliced_nil ?_))))
  exact esc_call R.hh I hM h1 fun v ω' s' G I' xv => r3_el (P := fun r m' σ' => KQ c r ω s.heap σ' m' Q → Q (.ret v) s') he2 (fun k => k ω' s' G.own I' (F.gw G I'.apart) v xv) k
end Sh
namespace Sh
open PySem PySem.Calls PyProof.Rows PySem.W PySem.Spec
/- the checker: an IR term stands for a text -/
noncomputable def okN (Γ : Sc) (x : Str) : Bool := (Γ.names.lookup x == some .local || (Γ.names.lookup x == some .cell || Γ.names.lookup x == some .free)) && (!(x == ("__classdict__" : Str)) && !(x == ("__debug__" : Str)))
noncomputable def Seen (Γ : Sc) (x : Str) : Prop := Γ.names.lookup x = some .local ∨ Γ.names.lookup x = some .cell ∨ Γ.names.lookup x = some .free
theorem okN_el {Γ : Sc} {x : Str} {G : Prop} (h : okN Γ x = true) (k : Seen Γ x → (x == ("__classdict__" : Str)) = false → (x == ("__debug__" : Str)) = false → G) : G :=
  and_el h fun h1 h => and_el h fun h2 h3 => k ((Bool.or_eq_true_iff.mp h1).imp beq_iff_eq.mp fun h => (Bool.or_eq_true_iff.mp h).imp beq_iff_eq.mp beq_iff_eq.mp) (not_at h2) (not_at h3)
noncomputable def hd1 (l : List Expr) : Expr := l.headD e0
noncomputable def isC {α : Type} (l : List α) : Bool := !l.isEmpty
noncomputable def is0 {α : Type} (l : List α) : Bool := l.isEmpty
noncomputable def is1 {α : Type} (l : List α) : Bool := isC l && is0 l.tail
noncomputable def is2 {α : Type} (l : List α) : Bool := isC l && is1 l.tail
theorem is0_at {α : Type} {l : List α} (h : is0 l = true) : l = [] := List.isEmpty_iff.mp h
theorem isC_at {l : List Expr} (h : isC l = true) : l = hd1 l :: l.tail := match l, h with
  | _ :: _, _ => rfl
theorem is1_at {l : List Expr} (h : is1 l = true) : l = [hd1 l] := and_el h fun h1 h2 => (isC_at h1).trans (congrArg _ (is0_at h2))
theorem is2_at {l : List Expr} (h : is2 l = true) : l = [hd1 l, hd1 l.tail] := and_el h fun h1 h2 => (isC_at h1).trans (congrArg _ (is1_at h2))
noncomputable def tnames (e : Expr) : List Str := cond (isK 0 e) [(kd e).x] ((kd e).l.map fun e => (kd e).x)
noncomputable def notSlice (e : Expr) : Bool := !isK 12 e
noncomputable def notSet (e : Expr) : Bool := !isK 18 e
theorem set_no {e : Expr} (h : notSet e = true) (env : Env) (x : Value) : foldedSetIterable e env x = pure x := by
  cases e <;> first | rfl | exact Bool.noConfusion (show false = true from h)
theorem slice_no {e : Expr} (h : notSlice e = true) (o i : Value) : ∃ ops, subscripted e false o i = operate ops (getItem o i) := by
  cases e <;> first | exact ⟨_, rfl⟩ | exact Bool.noConfusion (show false = true from h)
noncomputable def noFree (sc : Scope) : Bool := sc.names.all fun x => !(x.2 == .free)
noncomputable def noDflt (a : Arguments) : Bool := match a with
  | ⟨_, _, _, _, [], _, []⟩ => true
  | _ => false
theorem noDflt_at {a : Arguments} (h : noDflt a = true) (env : Env) : defaultsOf a env = ([], []) := match a, h with
  | ⟨_, _, _, _, [], _, []⟩, _ => rfl
theorem clOf_no {env : Env} : ∀ {l : List (Str × NameKind)} {acc : List (Str × Addr)}, l.all (fun x => !(x.2 == .free)) = true → clOf env l acc = acc
  | [], _, _ => rfl
  | (n, k) :: r, acc, h => and_el h fun h1 h2 => by
    unfold clOf
    rw [show (k == NameKind.free) = false from not_at h1]
    exact clOf_no h2
theorem noFree_at {sc : Scope} (h : noFree sc = true) (env : Env) : closureFor sc env = pure [] :=
  (closure_ok fun x hm => absurd (List.all_eq_true.mp h _ hm) Bool.false_ne_true).trans (congrArg _ (clOf_no h))
noncomputable def patName : Str := "_twin_re_1"
noncomputable def takeName : Str := "_law_take"
/- a text by its form -/
noncomputable def isConst (c : Const) (e : Expr) : Bool := isK 1 e && decide ((kd e).c = c)
noncomputable def isCN (e : Expr) : Bool := isK 9 e && (isK 0 (kd e).a && is0 (kd e).kw)
noncomputable def cnN (e : Expr) : Str := (kd (kd e).a).x
noncomputable def isCM (n : Str) (e : Expr) : Bool := isK 9 e && (isK 10 (kd e).a && (is0 (kd e).kw && (decide ((kd (kd e).a).x = n) && (kd (kd e).a).p.endLine == (kd e).p.line)))
noncomputable def cmO (e : Expr) : Expr := (kd (kd e).a).a
section
variable {e : Expr} {P : Expr → Prop}
@[elab_as_elim] theorem const_el {c : Const} (h : isConst c e = true) (k : ∀ q p, P (.Constant c q p)) : P e :=
  and_el h fun h1 h2 => (show ∃ q p, e = .Constant (kd e).c q p from isK_at h1).elim fun q h => h.elim fun p h => by rw [h, dec h2]; exact k q p
@[elab_as_elim] theorem name_el (h : isK 0 e = true) (k : ∀ p, P (.Name (kd e).x p)) : P e := (show ∃ p, e = .Name (kd e).x p from isK_at h).elim fun p h => by rw [h]; exact k p
@[elab_as_elim] theorem call_el (h : isCN e = true) (k : ∀ p, P (.Call (.Name (cnN e) p) (kd e).l [] (kd e).p)) : P e :=
  and_el h fun h1 h => and_el h fun h2 h3 => name_el (P := fun a => e = .Call a (kd e).l (kd e).kw (kd e).p → P e) h2 (fun p he => by rw [he, is0_at h3]; exact k p) (isK_at h1)
@[elab_as_elim] theorem meth_el {n : Str} (h : isCM n e = true) (k : ∀ ap p, (ap.endLine == p.line) = true → P (.Call (.Attribute (cmO e) n ap) (kd e).l [] p)) : P e :=
  and_el h fun h1 h => and_el h fun h2 h => and_el h fun h3 h => and_el h fun h4 h5 => by
    rw [show e = .Call (kd e).a (kd e).l (kd e).kw (kd e).p from isK_at h1, show (kd e).a = .Attribute (kd (kd e).a).a (kd (kd e).a).x (kd (kd e).a).p from isK_at h2, is0_at h3, dec h4]
    exact k _ _ h5
theorem ex1_el {f : Pos → Expr} (h : ∃ p, e = f p) (k : ∀ p, P (f p)) : P e := h.elim fun p h => by rw [h]; exact k p
@[elab_as_elim] theorem bin_el {o : Operator} (h : isK 2 e = true) (h2 : decide ((kd e).o = o) = true) (k : ∀ p, P (.BinOp (kd e).a o (kd e).b p)) : P e := ex1_el (P := P) (f := fun p => .BinOp (kd e).a o (kd e).b p) (show ∃ p, e = .BinOp (kd e).a o (kd e).b p from dec h2 ▸ isK_at h) k
@[elab_as_elim] theorem un_el {o : UnaryOp} (h : isK 3 e = true) (h2 : decide ((kd e).u = o) = true) (k : ∀ p, P (.UnaryOp o (kd e).a p)) : P e := ex1_el (P := P) (f := fun p => .UnaryOp o (kd e).a p) (show ∃ p, e = .UnaryOp o (kd e).a p from dec h2 ▸ isK_at h) k
@[elab_as_elim] theorem cmp_el {o : CmpOp} (h : isK 4 e = true) (h2 : decide ((kd e).cs = [o]) = true) (h3 : is1 (kd e).l = true) (k : ∀ p, P (.Compare (kd e).a [o] [hd1 (kd e).l] p)) : P e :=
  ex1_el (P := P) (f := fun p => .Compare (kd e).a [o] [hd1 (kd e).l] p) (show ∃ p, e = .Compare (kd e).a [o] [hd1 (kd e).l] p from is1_at h3 ▸ dec h2 ▸ isK_at h) k
@[elab_as_elim] theorem bo_el {o : BoolOp} (h : isK 5 e = true) (h2 : decide ((kd e).bo = o) = true) (k : ∀ p, P (.BoolOp o (kd e).l p)) : P e := ex1_el (P := P) (f := fun p => .BoolOp o (kd e).l p) (show ∃ p, e = .BoolOp o (kd e).l p from dec h2 ▸ isK_at h) k
@[elab_as_elim] theorem ite_el (h : isK 6 e = true) (k : ∀ p, P (.IfExp (kd e).a (kd e).b (kd e).d p)) : P e := ex1_el (P := P) (f := fun p => .IfExp (kd e).a (kd e).b (kd e).d p) (show ∃ p, e = .IfExp (kd e).a (kd e).b (kd e).d p from isK_at h) k
@[elab_as_elim] theorem tup_el {l : List Expr} (hl : (kd e).l = l) (h : isK 7 e = true) (k : ∀ q p, P (.Tuple l q p)) : P e := (show ∃ q p, e = .Tuple (kd e).l q p from isK_at h).elim fun q h => ex1_el (P := P) (f := fun p => .Tuple l q p) (show ∃ p, e = .Tuple l q p from hl ▸ h) (k q)
@[elab_as_elim] theorem list_el (h : isK 8 e = true) (k : ∀ p, P (.List (kd e).l p)) : P e := ex1_el (P := P) (f := fun p => .List (kd e).l p) (show ∃ p, e = .List (kd e).l p from isK_at h) k
@[elab_as_elim] theorem att_el {n : Str} (h : isK 10 e = true) (h2 : decide ((kd e).x = n) = true) (k : ∀ p, P (.Attribute (kd e).a n p)) : P e := by
  rw [show e = .Attribute (kd e).a (kd e).x (kd e).p from isK_at h, dec h2]; exact k _
@[elab_as_elim] theorem sub_el (h : isK 11 e = true) (k : ∀ p, P (.Subscript (kd e).a (kd e).b p)) : P e := ex1_el (P := P) (f := fun p => .Subscript (kd e).a (kd e).b p) (show ∃ p, e = .Subscript (kd e).a (kd e).b p from isK_at h) k
@[elab_as_elim] theorem slc_el (h : isK 12 e = true) (h2 : (kd e).oc.isNone = true) (k : ∀ p, P (.Slice (kd e).oa (kd e).ob none p)) : P e := ex1_el (P := P) (f := fun p => .Slice (kd e).oa (kd e).ob none p) (show ∃ p, e = .Slice (kd e).oa (kd e).ob none p from Option.isNone_iff_eq_none.mp h2 ▸ isK_at h) k
theorem list2 {l : List Expr} {Q : List Expr → Prop} (h2 : isC l = true) (h3 : isC l.tail = true) (k : Q (hd1 l :: hd1 l.tail :: l.tail.tail)) : Q l := match l, h2, h3, k with
  | _ :: _ :: _, _, _, k => k
@[elab_as_elim] theorem join_el (h : isK 15 e = true) (h2 : isC (kd e).l = true) (h3 : isC (kd e).l.tail = true) (k : ∀ p, P (.JoinedStr (hd1 (kd e).l :: hd1 (kd e).l.tail :: (kd e).l.tail.tail) p)) : P e :=
  ex1_el (P := P) (f := fun p => .JoinedStr (kd e).l p) (isK_at h) fun p => list2 (Q := fun l => P (.JoinedStr l p)) h2 h3 (k p)
@[elab_as_elim] theorem fv_el (h : isK 16 e = true) (h2 : decide ((kd e).i = -1) = true) (h3 : (kd e).ob.isNone = true) (k : ∀ p, P (.FormattedValue (kd e).a (-1) none p)) : P e :=
  ex1_el (P := P) (f := fun p => .FormattedValue (kd e).a (-1) none p) (show ∃ p, e = .FormattedValue (kd e).a (-1) none p from Option.isNone_iff_eq_none.mp h3 ▸ dec h2 ▸ isK_at h) k
end
/- a comprehension's one generator -/
noncomputable def gen (e : Expr) : Comprehension := (kd e).g.headD ⟨e0, e0, [], 0⟩
noncomputable def isGen (e : Expr) : Bool := isK 14 e && (is1 (kd e).g && decide ((gen e).is_async = 0))
@[elab_as_elim] theorem gen_el {e : Expr} {P : Expr → Prop} (h : isGen e = true) (k : ∀ p, P (.ListComp (kd e).a [⟨(gen e).target, (gen e).iter, (gen e).ifs, 0⟩] (kd e).sc p)) : P e :=
  and_el h fun h1 h => and_el h fun h2 h3 => by
    have hg : (kd e).g = [⟨(gen e).target, (gen e).iter, (gen e).ifs, 0⟩] := by
      rw [← dec h3]
      exact match hq : (kd e).g, h2 with
        | [⟨t, i, f, a⟩], _ => by
          have hx : gen e = ⟨t, i, f, a⟩ := by unfold gen; rw [hq]; rfl
          rw [hx]
        | _ :: _ :: _, h2 => Bool.noConfusion (show false = true from h2)
    exact ex1_el (P := P) (f := fun p => .ListComp (kd e).a [⟨(gen e).target, (gen e).iter, (gen e).ifs, 0⟩] (kd e).sc p) (show ∃ p, e = .ListComp (kd e).a [⟨(gen e).target, (gen e).iter, (gen e).ifs, 0⟩] (kd e).sc p from hg ▸ isK_at h1) k
noncomputable def gSc (Γ : Sc) (e : Expr) : Sc := compG Γ (kd e).sc (tnames (gen e).target)
noncomputable def genB (Γ : Sc) (ar : Nat) (e : Expr) : Bool := notSet (gen e).iter && (compB Γ (kd e).sc (tnames (gen e).target) && (decide ((tnames (gen e).target).length = ar) && targT (gSc Γ e) (List.range' Γ.nt.length ar) (gen e).target))
section
variable (T : Nat → Option Str)
mutual
noncomputable def mX : X → Option Pos → Sc → Expr → Bool
  | .none, _, _, e => isConst .none e
  | .bool b, _, _, e => isConst (.bool b) e
  | .int i, _, _, e => isConst (.int i) e
  | .str x, _, _, e => isConst (.str x) e
  | .byt l, _, _, e => isConst (.bytes l) e
  | .v i, _, Γ, e => isK 0 e && (Γ.vis i (kd e).x && okN Γ (kd e).x)
  | .bin op a b, L, Γ, e => isK 2 e && (decide ((kd e).o = op) && (mX a L Γ (kd e).a && mX b L Γ (kd e).b))
  | .neg a, L, Γ, e => isK 3 e && (decide ((kd e).u = .USub) && mX a L Γ (kd e).a)
  | .no a, L, Γ, e => isK 3 e && (decide ((kd e).u = .Not) && mX a L Γ (kd e).a)
  | .cmp op a b, L, Γ, e => isK 4 e && (decide ((kd e).cs = [op]) && (is1 (kd e).l && (!behindInMarks op (hd1 (kd e).l) && (mX a L Γ (kd e).a && mX b L Γ (hd1 (kd e).l)))))
  | .bo op xs, L, Γ, e => isK 5 e && (decide ((kd e).bo = op) && mL xs L Γ (kd e).l)
  | .ite t a b, L, Γ, e => isK 6 e && (mX t L Γ (kd e).a && (mX a L Γ (kd e).b && mX b L Γ (kd e).d))
  | .tup xs, L, Γ, e => isK 7 e && mL xs L Γ (kd e).l
  | .list xs, L, Γ, e => isK 8 e && mL xs L Γ (kd e).l
  | .mlist xs, L, Γ, e => isK 8 e && mL xs L Γ (kd e).l
  | .call f xs, L, Γ, e => isCN e && (decide (T f = some (cnN e)) && (okG Γ (cnN e) && mL xs L Γ (kd e).l))
  | .callv i a, L, Γ, e => isCN e && (Γ.vis i (cnN e) && (okN Γ (cnN e) && (is1 (kd e).l && (!isStar (hd1 (kd e).l) && mX a L Γ (hd1 (kd e).l)))))
  | .bi f xs, L, Γ, e => isCN e && (decide (cnN e = biName f) && (okG Γ (cnN e) && mL xs L Γ (kd e).l))
  | .me k a xs, L, Γ, e => isCM (meName k) e && (plainBase (cmO e) && (decide ((kd e).l.length < 29) && (mX a L Γ (cmO e) && mL xs L Γ (kd e).l)))
  | .idx a i, L, Γ, e => isK 11 e && (notSlice (kd e).b && (mX a L Γ (kd e).a && mX i L Γ (kd e).b))
  | .slc a lo hi, L, Γ, e => isK 11 e && (isK 12 (kd e).b && ((kd (kd e).b).oc.isNone && (mX a L Γ (kd e).a && (mO lo L Γ (kd (kd e).b).oa && mO hi L Γ (kd (kd e).b).ob))))
  | .app a, L, Γ, e => isK 10 e && (decide ((kd e).x = "append") && (plainBase (kd e).a && mX a L Γ (kd e).a))
  | .val a, L, Γ, e => isK 10 e && (decide ((kd e).x = "value") && (plainBase (kd e).a && mX a L Γ (kd e).a))
  | .read f a n, L, Γ, e => isCM "read" e && (plainBase (cmO e) && (decide (T f = some takeName) && (is1 (kd e).l && (mX a L Γ (cmO e) && (!isStar (hd1 (kd e).l) && mX n L Γ (hd1 (kd e).l))))))
  | .comp ar elt it ifs, L, Γ, e => isGen e && (genB Γ ar e && (mX it L Γ (gen e).iter && (mX elt none (gSc Γ e) (kd e).a && mL ifs none (gSc Γ e) (gen e).ifs)))
  | .fstr xs, L, Γ, e => isK 15 e && (isC (kd e).l && (isC (kd e).l.tail && mF xs L Γ (hd1 (kd e).l :: hd1 (kd e).l.tail :: (kd e).l.tail.tail)))
  | .sub a, L, Γ, e => isCM "sub" e && (isK 0 (cmO e) && (decide ((kd (cmO e)).x = patName) && (okG Γ (kd (cmO e)).x && (is2 (kd e).l && (isK 13 (hd1 (kd e).l) && (decide (L = some (kd (hd1 (kd e).l)).p) &&
      (noFree (kd (hd1 (kd e).l)).sc && (noDflt (kd (hd1 (kd e).l)).ar && (!isStar (hd1 (kd e).l.tail) && mX a L Γ (hd1 (kd e).l.tail))))))))))
  | .star, _, Γ, e => isCN e && (decide (cnN e = "object") && (okG Γ (cnN e) && is0 (kd e).l))
  | .fmt x a b, L, Γ, e => isK 2 e && (decide ((kd e).o = .Mod) && (isConst (.str x) (kd e).a && (isK 7 (kd e).b && (is2 (kd (kd e).b).l && ((!isStar (hd1 (kd (kd e).b).l) && mX a L Γ (hd1 (kd (kd e).b).l)) && (!isStar (hd1 (kd (kd e).b).l.tail) && mX b L Γ (hd1 (kd (kd e).b).l.tail)))))))
  | .bad, _, _, _ => true
  | .trs _, _, _, _ => false
noncomputable def mL : XL → Option Pos → Sc → List Expr → Bool
  | .nil, _, _, es => is0 es
  | .cons x r, L, Γ, es => isC es && ((!isStar (hd1 es) && mX x L Γ (hd1 es)) && mL r L Γ es.tail)
noncomputable def mO : XO → Option Pos → Sc → Option Expr → Bool
  | .no, _, _, e => e.isNone
  | .yes x, L, Γ, e => e.elim false fun e => mX x L Γ e
noncomputable def mF : XL → Option Pos → Sc → List Expr → Bool
  | .nil, _, _, es => is0 es
  | .cons x r, L, Γ, es => isC es && (((isK 1 (hd1 es) && mX x L Γ (hd1 es)) || (isK 16 (hd1 es) && (decide ((kd (hd1 es)).i = -1) && ((kd (hd1 es)).ob.isNone && mX x L Γ (kd (hd1 es)).a)))) && mF r L Γ es.tail)
end
end
/-- all that the checker's word rests on -/
structure CkOK (lv : Nat) (T : Nat → Option Str) (Φ : Nat → Option Spec) (L : Option Pos) (c : Cx) : Prop where
  R : Rm (lv + 1) c.A
  K : Known c.B lv T Φ
  N : NoGlob c.B
  P : PatIn c.B patName
  lam : ∀ p, L = some p → ∃ cc P qual, TabIn c.B cc P p qual ∧ c.env.code = .ref cc ∧ c.env.qual ++ "<lambda>" = qual
  str : ∃ K fI q, StrF c.B K fI ∧ c.B.Z = sdp c.B.C q
section
variable {lv : Nat} {T : Nat → Option Str} {Φ : Nat → Option Spec}
theorem st_ite {c : Cx} {t a b : X} {te l r : Expr} {pos : Pos} (ht : STx c Φ te t) (ha : STx c Φ l a) (hb : STx c Φ r b) : STx c Φ (.IfExp te l r pos) (.ite t a b) :=
  .of fun ω m σ s Q E p bb σ' F I e1 e2 k => sq_el e1 fun p₁ σ₁ e₁ e => bd_el e fun t e₃ e => by
    show wpAny _ _ (do if ← isTrue te c.env (eval te c.env) then isTrue l c.env (eval l c.env) else isTrue r c.env (eval r c.env)) _ _ _
    refine wpAny_bind (ht.run F I e₁ e₃ fun ω₁ s₁ G₁ I₁ => ?_)
    cases t with
    | true => rw [if_pos rfl]; exact ha.run (F.gw G₁ I₁.apart) I₁ (ct e) e2 fun ω₂ s₂ G₂ I₂ => k ω₂ s₂ (G₁.trans G₂) I₂
    | false => rw [if_neg Bool.false_ne_true]; exact hb.run (F.gw G₁ I₁.apart) I₁ (cf e) e2 fun ω₂ s₂ G₂ I₂ => k ω₂ s₂ (G₁.trans G₂) I₂
theorem CkOK.inner {L : Option Pos} {c c' : Cx} (h : CkOK lv T Φ L c) (hB : c'.B = c.B) (hA : c'.A = c.A) : CkOK lv T Φ none c' :=
  ⟨hA ▸ h.R, hB ▸ h.K, hB ▸ h.N, hB ▸ h.P, fun _ q => nn q, hB ▸ h.str⟩
theorem CkOK.R0 {L : Option Pos} {c : Cx} (h : CkOK lv T Φ L c) : Rm lv c.A := h.R.less (Nat.le_succ _)
structure Both (c : Cx) (Φ : Nat → Option Spec) (x : X) (e : Expr) : Prop where
  se : SE c e (ev Φ x)
  st : STx c Φ e x
theorem both {c : Cx} {e : Expr} {x : X} (h : SE c e (ev Φ x)) (he : ∀ whole, isTrue e c.env whole = (do let v ← whole; standAt e.pos; holding [v] (truthy v))) : Both c Φ x e := ⟨h, stx_value h he⟩
theorem comp_ok {c : Cx} {ar : Nat} {elt it : X} {ifs : XL} {L : Option Pos} {e : Expr} (H : CkOK lv T Φ L c) (h0 : genB c.Γ ar e = true) (h1 : Both c Φ it (gen e).iter) (h2 : ∀ c' : Cx, CkOK lv T Φ none c' → c'.Γ = gSc c.Γ e → Both c' Φ elt (kd e).a) (h3 : ∀ c' : Cx, CkOK lv T Φ none c' → c'.Γ = gSc c.Γ e → A2 c' Φ ifs (gen e).ifs) :
    CompOk c Φ ar elt it ifs (kd e).a (gen e).target (gen e).iter (gen e).ifs (kd e).sc (tnames (gen e).target) := and_el h0 fun g1 h0 => and_el h0 fun g2 h0 => and_el h0 fun g3 g4 =>
    ⟨H.R.hh, h1.se, set_no g1 _, g2, dec g3, g4, fun c' e1 e2 e3 => (h2 c' (H.inner e1 e2) e3).se, fun c' e1 e2 e3 => h3 c' (H.inner e1 e2) e3⟩
mutual
theorem mX_ok : ∀ (x : X) (L : Option Pos) (e : Expr) (c : Cx), CkOK lv T Φ L c → mX T x L c.Γ e = true → Both c Φ x e
  | .none, L, e, c, H, h => const_el (show isConst .none e = true from h) fun _ _ => both se_none fun _ => rfl
  | .bool b, L, e, c, H, h => const_el (show isConst (.bool b) e = true from h) fun _ _ => both se_bool fun _ => rfl
  | .int b, L, e, c, H, h => const_el (show isConst (.int b) e = true from h) fun _ _ => both se_int fun _ => rfl
  | .str b, L, e, c, H, h => const_el (show isConst (.str b) e = true from h) fun _ _ => both se_str fun _ => rfl
  | .byt b, L, e, c, H, h => const_el (show isConst (.bytes b) e = true from h) fun _ _ => both se_byt fun _ => rfl
  | .v i, L, e, c, H, h => and_el (a := isK 0 e) h fun h0 h => and_el h fun h1 h2 => okN_el h2 fun h3 h4 h5 => name_el h0 fun _ => both (se_v h1 h3 h4 h5) fun _ => rfl
  | .bin op a b, L, e, c, H, h => and_el (a := isK 2 e) h fun h0 h => and_el h fun h1 h => and_el h fun h2 h3 => bin_el h0 h1 fun _ => both (se_bin (mX_ok a L _ c H h2).se (mX_ok b L _ c H h3).se) fun _ => rfl
  | .neg a, L, e, c, H, h => and_el (a := isK 3 e) h fun h0 h => and_el h fun h1 h2 => un_el h0 h1 fun _ => both (se_neg (mX_ok a L _ c H h2).se) fun _ => rfl
  | .no a, L, e, c, H, h => and_el (a := isK 3 e) h fun h0 h => and_el h fun h1 h2 => un_el h0 h1 fun _ => have x := mX_ok a L _ c H h2; ⟨se_no x.se, st_no x.st⟩
  | .cmp op a b, L, e, c, H, h => and_el (a := isK 4 e) h fun h0 h => and_el h fun h1 h => and_el h fun h2 h => and_el h fun h3 h => and_el h fun h4 h5 => cmp_el h0 h1 h2 fun _ =>
    have x := mX_ok a L _ c H h4; have y := mX_ok b L _ c H h5; ⟨se_cmp H.R x.se y.se (not_at h3), st_cmp H.R x.se y.se (not_at h3)⟩
  | .bo op xs, L, e, c, H, h => and_el (a := isK 5 e) h fun h0 h => and_el h fun h1 h2 => bo_el h0 h1 fun _ => have x := mL_ok xs L _ c H h2; ⟨se_bo x, st_bo x⟩
  | .ite t a b, L, e, c, H, h => and_el (a := isK 6 e) h fun h0 h => and_el h fun h1 h => and_el h fun h2 h3 => ite_el h0 fun _ =>
    have x := mX_ok t L _ c H h1; have y := mX_ok a L _ c H h2; have z := mX_ok b L _ c H h3; ⟨se_ite x.st y.se z.se, st_ite x.st y.st z.st⟩
  | .tup xs, L, e, c, H, h => and_el (a := isK 7 e) h fun h0 h => tup_el rfl h0 fun _ _ => both (se_tup (mL_ok xs L _ c H h).ses) fun _ => rfl
  | .list xs, L, e, c, H, h => and_el (a := isK 8 e) h fun h0 h => list_el h0 fun _ => both (se_list (mL_ok xs L _ c H h).ses) fun _ => rfl
  | .mlist xs, L, e, c, H, h => and_el (a := isK 8 e) h fun h0 h => list_el h0 fun _ => both (se_mlist (mL_ok xs L _ c H h).ses) fun _ => rfl
  | .call f xs, L, e, c, H, h => and_el (a := isCN e) h fun h0 h => and_el h fun h1 h => and_el h fun h2 h3 => call_el h0 fun _ => both (se_call H.R0 H.K (dec h1) h2 (mL_ok xs L _ c H h3)) fun _ => rfl
  | .callv i a, L, e, c, H, h => and_el (a := isCN e) h fun h0 h => and_el h fun h1 h => and_el h fun h2 h => and_el h fun h3 h => and_el h fun h4 h5 => okN_el h2 fun g1 g2 g3 => call_el h0 fun _ => by
    have x := mX_ok a L _ c H h5
    rw [is1_at h3]
    exact both (se_callv h1 g1 g2 g3 ⟨x.se, x.st, star_no (not_at h4)⟩) fun _ => rfl
  | .bi f xs, L, e, c, H, h => and_el (a := isCN e) h fun h0 h => and_el h fun h1 h => and_el h fun h2 h3 => call_el h0 fun _ => both (se_bi H.R0 H.N (dec h1) h2 (mL_ok xs L _ c H h3)) fun _ => rfl
  | .me k a xs, L, e, c, H, h => and_el (a := isCM (meName k) e) h fun h0 h => and_el h fun h1 h => and_el h fun h2 h => and_el h fun h3 h4 => meth_el h0 fun _ _ hl => both (se_me (mX_ok a L _ c H h3).se rfl h1 hl (dec h2) (mL_ok xs L _ c H h4)) fun _ => rfl
  | .idx a i, L, e, c, H, h => and_el (a := isK 11 e) h fun h0 h => and_el h fun h1 h => and_el h fun h2 h3 => sub_el h0 fun _ => both (se_idx (mX_ok a L _ c H h2).se (mX_ok i L _ c H h3).se (slice_no h1)) fun _ => rfl
  | .slc a lo hi, L, e, c, H, h => and_el (a := isK 11 e) h fun h0 h => and_el h fun h1 h => and_el h fun h2 h => and_el h fun h3 h => and_el h fun h4 h5 => sub_el h0 fun p =>
    slc_el (P := fun q => Both c Φ (.slc a lo hi) (.Subscript (kd e).a q p)) h1 h2 fun _ => both (se_slc (mX_ok a L _ c H h3).se (mO_ok lo L _ c H h4) (mO_ok hi L _ c H h5)) fun _ => rfl
  | .app a, L, e, c, H, h => and_el (a := isK 10 e) h fun h0 h => and_el h fun h1 h => and_el h fun h2 h3 => att_el h0 h1 fun _ => both (se_app (mX_ok a L _ c H h3).se h2 rfl) fun _ => rfl
  | .val a, L, e, c, H, h => and_el (a := isK 10 e) h fun h0 h => and_el h fun h1 h => and_el h fun h2 h3 => att_el h0 h1 fun _ => H.str.elim fun K q => q.elim fun fI q => q.elim fun q W => both (se_val W.1 W.2 (mX_ok a L _ c H h3).se h2 rfl) fun _ => rfl
  | .read f a n, L, e, c, H, h => and_el (a := isCM "read" e) h fun h0 h => and_el h fun h1 h => and_el h fun h2 h => and_el h fun h3 h => and_el h fun h4 h => and_el h fun h5 h6 => meth_el h0 fun _ _ hl => H.str.elim fun K q => q.elim fun fI q => q.elim fun q W => by
    rw [is1_at h3]
    exact both (se_read W.1 W.2 H.R (fun sp hp => H.K f _ sp (dec h2) hp) (mX_ok a L _ c H h4).se (mX_ok n L _ c H h6).se h1 hl (star_no (not_at h5)) rfl) fun _ => rfl
  | .comp ar elt it ifs, L, e, c, H, h => and_el (a := isGen e) h fun h0 h => and_el h fun h1 h => and_el h fun h2 h => and_el h fun h3 h4 => gen_el h0 fun _ =>
    both (comp_plain (comp_ok H h1 (mX_ok it L _ c H h2) (fun c' H' e3 => mX_ok elt none _ c' H' (e3 ▸ h3)) fun c' H' e3 => mL_ok ifs none _ c' H' (e3 ▸ h4))) fun _ => rfl
  | .fstr xs, L, e, c, H, h => and_el (a := isK 15 e) h fun h0 h => and_el h fun h1 h => and_el h fun h2 h3 => join_el h0 h1 h2 fun _ => both (se_fstr (mF_ok xs L _ c H h3)) fun _ => rfl
  | .sub a, L, e, c, H, h => and_el (a := isCM "sub" e) h fun h0 h => and_el h fun h1 h => and_el h fun h2 h => and_el h fun h3 h => and_el h fun h4 h => and_el h fun h5 h => and_el h fun h6 h => and_el h fun h7 h => and_el h fun h8 h => and_el h fun h9 h10 =>
    meth_el h0 fun ap p hl => name_el (P := fun o => Both c Φ (.sub a) (.Call (.Attribute o "sub" ap) (kd e).l [] p)) h1 fun _ => (show ∃ b, hd1 (kd e).l = .Lambda (kd (hd1 (kd e).l)).ar b (kd (hd1 (kd e).l)).sc (kd (hd1 (kd e).l)).p from isK_at h5).elim fun b hf =>
    (H.lam _ (dec h6)).elim fun cc q => q.elim fun P q => q.elim fun qual t => by
      rw [is2_at h4, hf]
      exact both (se_sub ((dec h2).symm ▸ H.P) h3 hl t.1 t.2.1 t.2.2 (noFree_at h7 _) (noDflt_at h8 _) (mX_ok a L _ c H h10).se (star_no (not_at h9))) fun _ => rfl
  | .star, L, e, c, H, h => and_el (a := isCN e) h fun h0 h => and_el h fun h1 h => and_el h fun h2 h3 => call_el h0 fun _ => by
    rw [is0_at h3]
    exact both (se_star H.N (dec h1) h2) fun _ => rfl
  | .fmt x a b, L, e, c, H, h => and_el (a := isK 2 e) h fun h0 h => and_el h fun h1 h => and_el h fun h2 h => and_el h fun h3 h => and_el h fun h4 h => and_el h fun h h' => and_el h fun h5 h6 => and_el h' fun h7 h8 => bin_el h0 h1 fun p =>
    const_el (P := fun l => Both c Φ (.fmt x a b) (.BinOp l .Mod (kd e).b p)) h2 fun q1 q2 => tup_el (P := fun r => Both c Φ (.fmt x a b) (.BinOp (.Constant (.str x) q1 q2) .Mod r p)) (is2_at h4) h3 fun _ _ =>
      have x := mX_ok a L _ c H h6; have y := mX_ok b L _ c H h8; both (se_fmt ⟨⟨x.se, x.st, star_no (not_at h5)⟩, ⟨y.se, y.st, star_no (not_at h7)⟩, trivial⟩) fun _ => rfl
  | .bad, L, e, c, H, h => ⟨fun ω m σ s Q E p σ' F I e kk => nn e, .of fun ω m σ s Q E p b σ' F I e1 e2 k => nn e1⟩
  | .trs _, L, e, c, H, h => Bool.noConfusion (show false = true from h)
theorem mL_ok : ∀ (xs : XL) (L : Option Pos) (es : List Expr) (c : Cx), CkOK lv T Φ L c → mL T xs L c.Γ es = true → A2 c Φ xs es
  | .nil, L, es, c, H, h => by rw [is0_at (l := es) h]; trivial
  | .cons x r, L, es, c, H, h => and_el (a := isC es) h fun h0 h => and_el h fun h h3 => and_el h fun h1 h2 => by
    rw [isC_at h0]
    have y := mX_ok x L _ c H h2
    exact ⟨⟨y.se, y.st, star_no (not_at h1)⟩, mL_ok r L _ c H h3⟩
theorem mO_ok : ∀ (x : XO) (L : Option Pos) (e : Option Expr) (c : Cx), CkOK lv T Φ L c → mO T x L c.Γ e = true → SEo c Φ e x
  | .no, L, none, c, H, h => trivial
  | .yes x, L, some e, c, H, h => (mX_ok x L e c H h).se
  | .no, L, some e, c, H, h => Bool.noConfusion (show false = true from h)
  | .yes x, L, none, c, H, h => Bool.noConfusion (show false = true from h)
theorem mF_ok : ∀ (xs : XL) (L : Option Pos) (es : List Expr) (c : Cx), CkOK lv T Φ L c → mF T xs L c.Γ es = true → FV c Φ xs es
  | .nil, L, es, c, H, h => by rw [is0_at (l := es) h]; trivial
  | .cons x r, L, es, c, H, h => and_el (a := isC es) h fun h0 h => and_el h fun h h3 => by
    rw [isC_at h0]
    exact ⟨(Bool.or_eq_true_iff.mp h).elim (fun h => and_el h fun h1 h2 => .inl ⟨(show ∃ q p, hd1 es = .Constant (kd (hd1 es)).c q p from isK_at h1).elim fun q h => h.elim fun p h => ⟨_, q, p, h⟩, (mX_ok x L _ c H h2).se⟩)
      fun h => and_el h fun h1 h => and_el h fun h2 h => and_el h fun h4 h5 => .inr (fv_el (P := fun e => ∃ v p, e = .FormattedValue v (-1) none p ∧ SE c v (ev Φ x)) h1 h2 h4 fun p => ⟨_, p, rfl, (mX_ok x L _ c H h5).se⟩), mF_ok r L _ c H h3⟩
end
end
end Sh
namespace Sh
open PySem PySem.Calls PyProof.Rows PySem.W PySem.Spec
/- a statement taken apart -/
structure SK where
  tag : Nat
  e : Expr := e0
  f : Expr := e0
  ts : List Expr := []
  b : List Stmt := []
  o : List Stmt := []
  w : List Stmt := []
  oe : Option Expr := none
  oc : Option Expr := none
  op : Operator := .Add
  hs : List ExceptHandler := []
noncomputable def sd (st : Stmt) : SK := match st with
  | .Expr e _ => { tag := 0, e := e }
  | .Assign ts e _ => { tag := 1, ts := ts, e := e }
  | .AugAssign t o e _ => { tag := 2, f := t, op := o, e := e }
  | .If t b o _ => { tag := 3, e := t, b := b, o := o }
  | .While t b o _ => { tag := 4, e := t, b := b, o := o }
  | .For t i b o _ => { tag := 5, f := t, e := i, b := b, o := o }
  | .Return e _ => { tag := 6, oe := e }
  | .Assert t _ _ => { tag := 7, e := t }
  | .Raise e c _ => { tag := 8, oe := e, oc := c }
  | .Try b h o w _ => { tag := 9, b := b, hs := h, o := o, w := w }
  | .Break _ => { tag := 10 }
  | .Continue _ => { tag := 11 }
  | _ => { tag := 99 }
noncomputable def formsS (st : Stmt) (k : SK) : List Prop := [
  ∃ p, st = .Expr k.e p,
  ∃ p, st = .Assign k.ts k.e p,
  ∃ p, st = .AugAssign k.f k.op k.e p,
  ∃ p, st = .If k.e k.b k.o p,
  ∃ p, st = .While k.e k.b k.o p,
  ∃ p, st = .For k.f k.e k.b k.o p,
  ∃ p, st = .Return k.oe p,
  ∃ p, ∃ m, st = .Assert k.e m p,
  ∃ p, st = .Raise k.oe k.oc p,
  ∃ p, st = .Try k.b k.hs k.o k.w p,
  ∃ p, st = .Break p,
  ∃ p, st = .Continue p]
theorem sd_at (e : Stmt) : (formsS e (sd e)).getD (sd e).tag True := by
  cases e <;> first | exact trivial | exact ⟨_, rfl⟩ | exact ⟨_, _, rfl⟩
noncomputable def isS (n : Nat) (e : Stmt) : Bool := (sd e).tag == n
theorem isS_at {n : Nat} {e : Stmt} (h : isS n e = true) : (formsS e (sd e)).getD n True := (beq_iff_eq.mp h : (sd e).tag = n) ▸ sd_at e
noncomputable def oe (o : Option Expr) : Expr := o.getD e0
theorem oe_at {o : Option Expr} (h : o.isSome = true) : o = some (oe o) := match o, h with
  | some _, _ => rfl
/-- a store to one target -/
noncomputable def isA (st : Stmt) : Bool := isS 1 st && is1 (sd st).ts
noncomputable def tg (st : Stmt) : Expr := hd1 (sd st).ts
section
variable {st : Stmt} {P : Stmt → Prop}
theorem st1_el {f : Pos → Stmt} (h : ∃ p, st = f p) (k : ∀ p, P (f p)) : P st := h.elim fun p h => by rw [h]; exact k p
@[elab_as_elim] theorem asg_el (h : isA st = true) (k : ∀ p, P (.Assign [tg st] (sd st).e p)) : P st :=
  and_el h fun h1 h2 => st1_el (P := P) (f := fun p => .Assign [tg st] (sd st).e p) (show ∃ p, st = .Assign [hd1 (sd st).ts] (sd st).e p from is1_at h2 ▸ isS_at h1) k
end
noncomputable def notCd (t : Expr) : Bool := !((kd t).x == ("__classdict__" : Str))
theorem cd_no {t : Expr} (h : notCd t = true) : ∀ y p, t = .Name y p → (y == ("__classdict__" : Str)) = false := fun y p he => by
  rw [he] at h; exact not_at h
noncomputable def xComp (x : X) : Option (Nat × X × X × XL) := match x with
  | .comp a b c d => some (a, b, c, d)
  | _ => none
theorem xComp_at {x : X} {t : Nat × X × X × XL} (h : xComp x = some t) : x = .comp t.1 t.2.1 t.2.2.1 t.2.2.2 := by cases x <;> first | exact nn h | (rw [← so h])
noncomputable def isCompX (x : X) : Bool := (xComp x).isSome
/-- a handler -/
structure HK where
  t : Option Expr
  n : Option Str
  b : List Stmt
noncomputable def hk (h : ExceptHandler) : HK := match h with
  | .ExceptHandler t n b _ => ⟨t, n, b⟩
theorem hk_eq (h : ExceptHandler) : ∃ p, h = .ExceptHandler (hk h).t (hk h).n (hk h).b p := by cases h; exact ⟨_, rfl⟩
noncomputable def hs1 (k : SK) : ExceptHandler := k.hs.headD (.ExceptHandler none none [] ⟨0, 0, 0, 0⟩)
noncomputable def hsN (h : ExceptHandler) : Str := (hk h).n.getD ""
noncomputable def hsS (h : ExceptHandler) : Stmt := (hk h).b.headD (.Pass ⟨0, 0, 0, 0⟩)
theorem hd_at {α : Type} {l : List α} {d : α} (h : is1 l = true) : l = [l.headD d] := match l, h with
  | [_], _ => rfl
  | _ :: _ :: _, h => Bool.noConfusion (show false = true from h)
theorem get_at {α : Type} {o : Option α} {d : α} (h : o.isSome = true) : o = some (o.getD d) := match o, h with
  | some _, _ => rfl
/-- the handler's shape -/
noncomputable def hdlB (Γ : Sc) (w : Nat) (h : ExceptHandler) : Bool := (hk h).t.isSome && (isK 0 (oe (hk h).t) && (decide ((kd (oe (hk h).t)).x = "ValueError") && (okG Γ (kd (oe (hk h).t)).x && ((hk h).n.isSome && (is1 (hk h).b && (isA (hsS h) &&
  (isCN (sd (hsS h)).e && (decide (cnN (sd (hsS h)).e = "str") && (okG Γ (cnN (sd (hsS h)).e) && (is1 (kd (sd (hsS h)).e).l && (isK 0 (hd1 (kd (sd (hsS h)).e).l) && (decide ((kd (hd1 (kd (sd (hsS h)).e).l)).x = hsN h) && (Γ.names.lookup (hsN h) == some .local &&
  (!Γ.nt.contains (hsN h) && (!(hsN h == ("__debug__" : Str)) && nameT Γ w (tg (hsS h)))))))))))))))))
section
variable (T : Nat → Option Str) (L : Option Pos) (Γ : Sc)
mutual
noncomputable def mS : S → Stmt → Bool
  | .bad, _ => true
  | .ex x, st => isS 0 st && (notComp (sd st).e && mX T x L Γ (sd st).e)
  | .as i x, st => isA st && (nameT Γ i (tg st) && (mX T x L Γ (sd st).e && (notComp (sd st).e || isCompX x)))
  | .asT is x, st => isA st && (isK 7 (tg st) && (isK 9 (sd st).e && (targT Γ is (tg st) && mX T x L Γ (sd st).e)))
  | .asW is xs, st => isA st && (isK 7 (tg st) && (isK 7 (sd st).e && (is2 (kd (tg st)).l && (is2 (kd (sd st).e).l && (decide (is = [is.headD 0, is.tail.headD 0]) && (nameT Γ (is.headD 0) (hd1 (kd (tg st)).l) && (nameT Γ (is.tail.headD 0) (hd1 (kd (tg st)).l.tail) &&
      (swap2 Γ (hd1 (kd (tg st)).l) (hd1 (kd (tg st)).l.tail) (hd1 (kd (sd st).e).l) (hd1 (kd (sd st).e).l.tail) && mL T xs L Γ [hd1 (kd (sd st).e).l, hd1 (kd (sd st).e).l.tail]))))))))
  | .asI a i x, st => isA st && (isK 11 (tg st) && (notComp (sd st).e && (mX T a L Γ (kd (tg st)).a && (mX T i L Γ (kd (tg st)).b && mX T x L Γ (sd st).e))))
  | .asV a x, st => isA st && (isK 10 (tg st) && (decide ((kd (tg st)).x = "value") && (notComp (sd st).e && (mX T a L Γ (kd (tg st)).a && mX T x L Γ (sd st).e))))
  | .aug i op x, st => isS 2 st && (decide ((sd st).op = op) && (nameT Γ i (sd st).f && (notCd (sd st).f && mX T x L Γ (sd st).e)))
  | .iff t b o, st => isS 3 st && (mX T t L Γ (sd st).e && (mSL b (sd st).b && mSL o (sd st).o))
  | .wh t b, st => isS 4 st && (is0 (sd st).o && (mX T t L Γ (sd st).e && mSL b (sd st).b))
  | .fo is it b, st => isS 5 st && (is0 (sd st).o && (targT Γ is (sd st).f && (notSet (sd st).e && (mX T it L Γ (sd st).e && mSL b (sd st).b))))
  | .ret x, st => isS 6 st && ((sd st).oe.isSome && mX T x L Γ (oe (sd st).oe))
  | .asr t, st => isS 7 st && mX T t L Γ (sd st).e
  | .ra x, st => isS 8 st && ((sd st).oe.isSome && ((sd st).oc.isNone && (isCN (oe (sd st).oe) && (decide (cnN (oe (sd st).oe) = "ValueError") && (okG Γ (cnN (oe (sd st).oe)) && (is1 (kd (oe (sd st).oe)).l && (!isStar (hd1 (kd (oe (sd st).oe)).l) && mX T x L Γ (hd1 (kd (oe (sd st).oe)).l))))))))
  | .brk, st => isS 10 st
  | .cont, st => isS 11 st
  | .callA i f xs, st => isA st && (nameT Γ i (tg st) && (isCN (sd st).e && (decide (T f = some (cnN (sd st).e)) && (okG Γ (cnN (sd st).e) && mL T xs L Γ (kd (sd st).e).l))))
  | .tryR b w o, st => isS 9 st && (is0 (sd st).w && (is1 (sd st).hs && (hdlB Γ w (hs1 (sd st)) && (mSL b (sd st).b && mSL o (sd st).o))))
noncomputable def mSL : SL → List Stmt → Bool
  | .nil, sts => is0 sts
  | .cons s r, sts => isC sts && (mS s (sts.headD (.Pass ⟨0, 0, 0, 0⟩)) && mSL r sts.tail)
end
end
/-- in a function's own frame -/
structure CkF (lv : Nat) (T : Nat → Option Str) (Φ : Nat → Option Spec) (L : Option Pos) (c : Cx) : Prop where
  ck : CkOK lv T Φ L c
  fr : ∃ outer, c.A.frames = some (c.env :: outer)
  fl : c.env.frame = some c.env.locals
section
variable {lv : Nat} {T : Nat → Option Str} {Φ : Nat → Option Spec} {L : Option Pos} {c : Cx}
theorem inter {ω : Wd} {h : Heap} {m : Fm} (F : FR c ω h m) : interactive c.env = false := by
  unfold interactive; rw [F.kind]; rfl
theorem as_ok (H : CkF lv T Φ L c) {i : Nat} {x : X} {t e : Expr} {pos : Pos} (h1 : nameT c.Γ i t = true) (h2 : mX T x L c.Γ e = true) (h3 : (notComp e || isCompX x) = true) : SSt c (.Assign [t] e pos) (evS Φ (.as i x)) :=
  (Bool.or_eq_true_iff.mp h3).elim (fun hn => ss_as h1 (mX_ok x L _ c H.ck h2).se hn) fun hc => (Option.isSome_iff_exists.mp hc).elim fun t' ht => by
    rw [xComp_at ht] at h2 ⊢
    exact and_el (a := isGen e) h2 fun h0 h => and_el h fun g1 h => and_el h fun g2 h => and_el h fun g3 g4 => gen_el (P := fun e => SSt c (.Assign [t] e pos) (evS Φ (.as i (.comp t'.1 t'.2.1 t'.2.2.1 t'.2.2.2)))) h0 fun _ =>
      ss_asC h1 (comp_ok H.ck g1 (mX_ok t'.2.2.1 L _ c H.ck g2) (fun c' H' e3 => mX_ok t'.2.1 none _ c' H' (e3 ▸ g3)) fun c' H' e3 => mL_ok t'.2.2.2 none _ c' H' (e3 ▸ g4))
theorem asT_ok (H : CkF lv T Φ L c) {is : List Nat} {x : X} {t e : Expr} {pos : Pos} (h1 : isK 7 t = true) (h2 : isK 9 e = true) (h3 : targT c.Γ is t = true) (h4 : mX T x L c.Γ e = true) : SSt c (.Assign [t] e pos) (evS Φ (.asT is x)) := by
  have y := (mX_ok x L _ c H.ck h4).se
  refine ss_asT H.ck.R.hh h3 y ?_ ?_ ?_
  · rw [show e = .Call (kd e).a (kd e).l (kd e).kw (kd e).p from isK_at h2]; rfl
  · rw [show e = .Call (kd e).a (kd e).l (kd e).kw (kd e).p from isK_at h2]
    exact tup_el (P := fun t => swappedStores [t] (.Call (kd e).a (kd e).l (kd e).kw (kd e).p) c.env = pure none) rfl h1 fun _ _ => rfl
  · exact tup_el (P := fun t => (assignEach [t] c.env).map (·.2) = [assign t c.env]) rfl h1 fun _ _ => rfl
theorem try_ok (H : CkF lv T Φ L c) {b o : SL} {bs os : List Stmt} {w : Nat} {h : ExceptHandler} {pos : Pos} (hB : hdlB c.Γ w h = true) (hb : SSs c bs (evSL Φ b)) (ho : SSs c os (evSL Φ o)) : SSt c (.Try bs [h] os [] pos) (evS Φ (.tryR b w o)) :=
  and_el hB fun h1 hB => and_el hB fun h2 hB => and_el hB fun h3 hB => and_el hB fun h4 hB => and_el hB fun h5 hB => and_el hB fun h6 hB => and_el hB fun h7 hB => and_el hB fun h8 hB => and_el hB fun h9 hB => and_el hB fun h10 hB => and_el hB fun h11 hB => and_el hB fun h12 hB =>
  and_el hB fun h13 hB => and_el hB fun h14 hB => and_el hB fun h15 hB => and_el hB fun h16 h17 => (hk_eq h).elim fun q hq => by
    have e1 : (hk h).b = [hsS h] := hd_at h6
    have e2 : (hk h).n = some (hsN h) := get_at h5
    rw [hq, oe_at h1, e1, e2]
    refine name_el (P := fun x => SSt c (.Try bs [.ExceptHandler (some x) (some (hsN h)) [hsS h] q] os [] pos) (evS Φ (.tryR b w o))) h2 fun p1 => ?_
    refine asg_el (P := fun s => SSt c (.Try bs [.ExceptHandler (some (.Name (kd (oe (hk h).t)).x p1)) (some (hsN h)) [s] q] os [] pos) (evS Φ (.tryR b w o))) h7 fun p2 => ?_
    refine call_el (P := fun s => SSt c (.Try bs [.ExceptHandler (some (.Name (kd (oe (hk h).t)).x p1)) (some (hsN h)) [.Assign [tg (hsS h)] s p2] q] os [] pos) (evS Φ (.tryR b w o))) h8 fun p3 => ?_
    rw [is1_at h11]
    refine name_el (P := fun s => SSt c (.Try bs [.ExceptHandler (some (.Name (kd (oe (hk h).t)).x p1)) (some (hsN h)) [.Assign [tg (hsS h)] (.Call (.Name (cnN (sd (hsS h)).e) p3) [s] [] (kd (sd (hsS h)).e).p) p2] q] os [] pos) (evS Φ (.tryR b w o))) h12 fun p4 => ?_
    exact ss_try H.ck.R H.ck.N H.fr H.fl hb ho (dec h3) h4 (dec h9) h10 (dec h13) (beq_iff_eq.mp h14) (fun hm => Bool.noConfusion ((not_at h15).symm.trans (List.contains_iff_mem.mpr hm))) (not_at h16) h17
theorem ra_eq {a a' b b' : Option Expr} {p : Pos} (h1 : a = a') (h2 : b = b') : Stmt.Raise a b p = Stmt.Raise a' b' p := by rw [h1, h2]
theorem tr_eq {b o w w' : List Stmt} {h h' : List ExceptHandler} {p : Pos} (h1 : h = h') (h2 : w = w') : Stmt.Try b h o w p = Stmt.Try b h' o w' p := by rw [h1, h2]
mutual
theorem mS_ok : ∀ (x : S) (st : Stmt), CkF lv T Φ L c → mS T L c.Γ x st = true → SSt c st (evS Φ x)
  | .bad, st, H, h => fun ω m σ s Q E r m' σ' F I he k kx => nn he
  | .ex x, st, H, h => and_el (a := isS 0 st) h fun h0 h => and_el h fun h1 h2 => st1_el (P := fun st => SSt c st (evS Φ (.ex x))) (f := fun p => .Expr (sd st).e p) (isS_at h0) fun p => ss_ex (mX_ok x L _ c H.ck h2).se (fun F => inter F) (swaps_no h1 _ _ _)
  | .as i x, st, H, h => and_el (a := isA st) h fun h0 h => and_el h fun h1 h => and_el h fun h2 h3 => asg_el h0 fun p => as_ok H h1 h2 h3
  | .asT is x, st, H, h => and_el (a := isA st) h fun h0 h => and_el h fun h1 h => and_el h fun h2 h => and_el h fun h3 h4 => asg_el h0 fun p => asT_ok H h1 h2 h3 h4
  | .asW is xs, st, H, h => and_el (a := isA st) h fun h0 h => and_el h fun h1 h => and_el h fun h2 h => and_el h fun h3 h => and_el h fun h4 h => and_el h fun h5 h => and_el h fun h6 h => and_el h fun h7 h => and_el h fun h8 h9 => asg_el h0 fun p => by
    rw [dec h5]
    refine tup_el (P := fun t => SSt c (.Assign [t] (sd st).e p) (evS Φ (.asW [is.headD 0, is.tail.headD 0] xs))) (is2_at h3) h1 fun q1 q2 => ?_
    refine tup_el (P := fun t => SSt c (.Assign [.Tuple [hd1 (kd (tg st)).l, hd1 (kd (tg st)).l.tail] q1 q2] t p) (evS Φ (.asW [is.headD 0, is.tail.headD 0] xs))) (is2_at h4) h2 fun q3 q4 => ?_
    exact ss_asW H.ck.R.hh (mL_ok xs L _ c H.ck h9) h6 h7 h8
  | .asI a i x, st, H, h => and_el (a := isA st) h fun h0 h => and_el h fun h1 h => and_el h fun h2 h => and_el h fun h3 h => and_el h fun h4 h5 => asg_el h0 fun p =>
    sub_el (P := fun t => SSt c (.Assign [t] (sd st).e p) (evS Φ (.asI a i x))) h1 fun _ => ss_asI (mX_ok a L _ c H.ck h3).se (mX_ok i L _ c H.ck h4).se (mX_ok x L _ c H.ck h5).se h2
  | .asV a x, st, H, h => and_el (a := isA st) h fun h0 h => and_el h fun h1 h => and_el h fun h2 h => and_el h fun h3 h => and_el h fun h4 h5 => asg_el h0 fun p =>
    att_el (P := fun t => SSt c (.Assign [t] (sd st).e p) (evS Φ (.asV a x))) h1 h2 fun _ => H.ck.str.elim fun K q => q.elim fun fI q => q.elim fun q W => ss_asV W.1 W.2 (mX_ok a L _ c H.ck h4).se (mX_ok x L _ c H.ck h5).se h3 rfl
  | .aug i op x, st, H, h => and_el (a := isS 2 st) h fun h0 h => and_el h fun h1 h => and_el h fun h2 h => and_el h fun h3 h4 => st1_el (P := fun st => SSt c st (evS Φ (.aug i op x))) (f := fun p => .AugAssign (sd st).f op (sd st).e p) (show ∃ p, st = .AugAssign (sd st).f op (sd st).e p from dec h1 ▸ isS_at h0) fun p =>
    ss_aug h2 (cd_no h3) (mX_ok x L _ c H.ck h4).se
  | .iff t b o, st, H, h => and_el (a := isS 3 st) h fun h0 h => and_el h fun h1 h => and_el h fun h2 h3 => st1_el (P := fun st => SSt c st (evS Φ (.iff t b o))) (f := fun p => .If (sd st).e (sd st).b (sd st).o p) (isS_at h0) fun p => ss_iff (mX_ok t L _ c H.ck h1).st (mSL_ok b _ H h2) (mSL_ok o _ H h3)
  | .wh t b, st, H, h => and_el (a := isS 4 st) h fun h0 h => and_el h fun h1 h => and_el h fun h2 h3 => st1_el (P := fun st => SSt c st (evS Φ (.wh t b))) (f := fun p => .While (sd st).e (sd st).b [] p) (show ∃ p, st = .While (sd st).e (sd st).b [] p from is0_at h1 ▸ isS_at h0) fun p => ss_wh (mX_ok t L _ c H.ck h2).st (mSL_ok b _ H h3)
  | .fo is it b, st, H, h => and_el (a := isS 5 st) h fun h0 h => and_el h fun h1 h => and_el h fun h2 h => and_el h fun h3 h => and_el h fun h4 h5 => st1_el (P := fun st => SSt c st (evS Φ (.fo is it b))) (f := fun p => .For (sd st).f (sd st).e (sd st).b [] p) (show ∃ p, st = .For (sd st).f (sd st).e (sd st).b [] p from is0_at h1 ▸ isS_at h0) fun p =>
    ss_fo H.ck.R.hh h2 (mX_ok it L _ c H.ck h4).se (set_no h3 _) (mSL_ok b _ H h5)
  | .ret x, st, H, h => and_el (a := isS 6 st) h fun h0 h => and_el h fun h1 h2 => st1_el (P := fun st => SSt c st (evS Φ (.ret x))) (f := fun p => .Return (some (oe (sd st).oe)) p) (show ∃ p, st = .Return (some (oe (sd st).oe)) p from oe_at h1 ▸ isS_at h0) fun p => ss_ret (mX_ok x L _ c H.ck h2).se
  | .asr t, st, H, h => and_el (a := isS 7 st) h fun h0 h => (show ∃ p, ∃ m, st = .Assert (sd st).e m p from isS_at h0).elim fun p q => q.elim fun m q => by rw [q]; exact ss_asr (mX_ok t L _ c H.ck h).st
  | .ra x, st, H, h => and_el (a := isS 8 st) h fun h0 h => and_el h fun h1 h => and_el h fun h2 h => and_el h fun h3 h => and_el h fun h4 h => and_el h fun h5 h => and_el h fun h6 h => and_el h fun h7 h8 =>
    st1_el (P := fun st => SSt c st (evS Φ (.ra x))) (f := fun p => .Raise (some (oe (sd st).oe)) none p) (show ∃ p, st = .Raise (some (oe (sd st).oe)) none p from (isS_at h0 : ∃ p, st = .Raise (sd st).oe (sd st).oc p).elim fun p q => ⟨p, q.trans (ra_eq (oe_at h1) (Option.isNone_iff_eq_none.mp h2))⟩) fun p =>
    call_el (P := fun e => SSt c (.Raise (some e) none p) (evS Φ (.ra x))) h3 fun p1 => by
      rw [is1_at h6]
      exact ss_ra H.ck.R.hh H.ck.N (dec h4) h5 (mX_ok x L _ c H.ck h8).se (star_no (not_at h7))
  | .brk, st, H, h => st1_el (P := fun st => SSt c st (evS Φ .brk)) (f := fun p => .Break p) (isS_at (n := 10) h) fun p => ss_brk
  | .cont, st, H, h => st1_el (P := fun st => SSt c st (evS Φ .cont)) (f := fun p => .Continue p) (isS_at (n := 11) h) fun p => ss_cont
  | .callA i f xs, st, H, h => and_el (a := isA st) h fun h0 h => and_el h fun h1 h => and_el h fun h2 h => and_el h fun h3 h => and_el h fun h4 h5 => asg_el h0 fun p =>
    call_el (P := fun e => SSt c (.Assign [tg st] e p) (evS Φ (.callA i f xs))) h2 fun _ => ss_callA H.ck.R0 H.ck.K (dec h3) h4 h1 (mL_ok xs L _ c H.ck h5)
  | .tryR b w o, st, H, h => and_el (a := isS 9 st) h fun h0 h => and_el h fun h1 h => and_el h fun h2 h => and_el h fun h3 h => and_el h fun h4 h5 =>
    st1_el (P := fun st => SSt c st (evS Φ (.tryR b w o))) (f := fun p => .Try (sd st).b [hs1 (sd st)] (sd st).o [] p) (show ∃ p, st = .Try (sd st).b [hs1 (sd st)] (sd st).o [] p from (isS_at h0 : ∃ p, st = .Try (sd st).b (sd st).hs (sd st).o (sd st).w p).elim fun p q => ⟨p, q.trans (tr_eq (h' := [hs1 (sd st)]) (hd_at h2) (is0_at h1))⟩) fun p =>
    try_ok H h3 (mSL_ok b _ H h4) (mSL_ok o _ H h5)
theorem mSL_ok : ∀ (x : SL) (sts : List Stmt), CkF lv T Φ L c → mSL T L c.Γ x sts = true → SSs c sts (evSL Φ x)
  | .nil, sts, H, h => by rw [is0_at (l := sts) h]; exact sss_nil
  | .cons s r, st :: sts, H, h => and_el h fun _ h => and_el h fun h1 h2 => sss_cons (mS_ok s st H h1) (mSL_ok r sts H h2)
  | .cons s r, [], H, h => Bool.noConfusion (show false = true from h)
end
end
end Sh
namespace Sh
open PySem PySem.Calls PyProof.Rows PySem.W PySem.Spec
noncomputable def tab : List (Nat × Spec) → Nat → Option Spec
  | [], _ => none
  | x :: r, f => cond (f == x.1) (some x.2) (tab r f)
noncomputable def tNames : List Str := [(Str.ofString "heappush"), (Str.ofString "heappop"), (Str.ofString "_siftdown"), (Str.ofString "_siftup"), (Str.ofString "translate"), (Str.ofString "escape"), (Str.ofString "_translate"), (Str.ofString "_join_translated_parts"), (Str.ofString "read_uint1"), (Str.ofString "read_string1"), (Str.ofString "_law_take"), (Str.ofString "_law_stream"), (Str.ofString "_law_counted"), (Str.ofString "_law_wish"), (Str.ofString "_law_halves"), (Str.ofString "_law_given"), (Str.ofString "_law_served"), (Str.ofString "_law_due"), (Str.ofString "_law_dressed"), (Str.ofString "_law_tests"), (Str.ofString "_law_takes"), (Str.ofString "law")]
/- 2 _siftdown(heap, startpos, pos): heap, startpos, pos, newitem, parentpos, parent; calls [] -/
noncomputable def tNT2 : List Str := [(Str.ofString "heap"), (Str.ofString "startpos"), (Str.ofString "pos"), (Str.ofString "newitem"), (Str.ofString "parentpos"), (Str.ofString "parent")]
noncomputable def tB2 : SL := (SL.cons (S.as 3 (X.idx (X.v 0) (X.v 2)))
  (SL.cons (S.wh (X.cmp .Gt (X.v 2) (X.v 1))
  (SL.cons (S.as 4 (X.bin .RShift (X.bin .Sub (X.v 2) (X.int 1)) (X.int 1)))
  (SL.cons (S.as 5 (X.idx (X.v 0) (X.v 4)))
  (SL.cons (S.iff (X.cmp .Lt (X.v 3) (X.v 5))
  (SL.cons (S.asI (X.v 0) (X.v 2) (X.v 5))
  (SL.cons (S.as 2 (X.v 4))
  (SL.cons S.cont
  SL.nil)))
  SL.nil)
  (SL.cons S.brk
  SL.nil)))))
  (SL.cons (S.asI (X.v 0) (X.v 2) (X.v 3))
  SL.nil)))
noncomputable def tL2 : List (Nat × Spec) := []
noncomputable def tS2 : Spec := dropS (fnRun (tab tL2) 3 6 tB2)
/- 0 heappush(heap, item): heap, item; calls [2] -/
noncomputable def tNT0 : List Str := [(Str.ofString "heap"), (Str.ofString "item")]
noncomputable def tB0 : SL := (SL.cons (S.ex (X.me .append (X.v 0) (XL.cons (X.v 1) XL.nil)))
  (SL.cons (S.ex (X.call 2 (XL.cons (X.v 0) (XL.cons (X.int 0) (XL.cons (X.bin .Sub (X.bi .len (XL.cons (X.v 0) XL.nil)) (X.int 1)) XL.nil)))))
  SL.nil))
noncomputable def tL0 : List (Nat × Spec) := [(2, tS2)]
noncomputable def tS0 : Spec := dropS (fnRun (tab tL0) 2 2 tB0)
/- 3 _siftup(heap, pos): heap, pos, endpos, startpos, newitem, childpos, rightpos; calls [2] -/
noncomputable def tNT3 : List Str := [(Str.ofString "heap"), (Str.ofString "pos"), (Str.ofString "endpos"), (Str.ofString "startpos"), (Str.ofString "newitem"), (Str.ofString "childpos"), (Str.ofString "rightpos")]
noncomputable def tB3 : SL := (SL.cons (S.as 2 (X.bi .len (XL.cons (X.v 0) XL.nil)))
  (SL.cons (S.as 3 (X.v 1))
  (SL.cons (S.as 4 (X.idx (X.v 0) (X.v 1)))
  (SL.cons (S.as 5 (X.bin .Add (X.bin .Mult (X.int 2) (X.v 1)) (X.int 1)))
  (SL.cons (S.wh (X.cmp .Lt (X.v 5) (X.v 2))
  (SL.cons (S.as 6 (X.bin .Add (X.v 5) (X.int 1)))
  (SL.cons (S.iff (X.bo .And (XL.cons (X.cmp .Lt (X.v 6) (X.v 2)) (XL.cons (X.no (X.cmp .Lt (X.idx (X.v 0) (X.v 5)) (X.idx (X.v 0) (X.v 6)))) XL.nil)))
  (SL.cons (S.as 5 (X.v 6))
  SL.nil)
  SL.nil)
  (SL.cons (S.asI (X.v 0) (X.v 1) (X.idx (X.v 0) (X.v 5)))
  (SL.cons (S.as 1 (X.v 5))
  (SL.cons (S.as 5 (X.bin .Add (X.bin .Mult (X.int 2) (X.v 1)) (X.int 1)))
  SL.nil))))))
  (SL.cons (S.asI (X.v 0) (X.v 1) (X.v 4))
  (SL.cons (S.ex (X.call 2 (XL.cons (X.v 0) (XL.cons (X.v 3) (XL.cons (X.v 1) XL.nil)))))
  SL.nil)))))))
noncomputable def tL3 : List (Nat × Spec) := [(2, tS2)]
noncomputable def tS3 : Spec := dropS (fnRun (tab tL3) 2 7 tB3)
/- 1 heappop(heap): heap, lastelt, returnitem; calls [3] -/
noncomputable def tNT1 : List Str := [(Str.ofString "heap"), (Str.ofString "lastelt"), (Str.ofString "returnitem")]
noncomputable def tB1 : SL := (SL.cons (S.as 1 (X.me .pop (X.v 0) XL.nil))
  (SL.cons (S.iff (X.v 0)
  (SL.cons (S.as 2 (X.idx (X.v 0) (X.int 0)))
  (SL.cons (S.asI (X.v 0) (X.int 0) (X.v 1))
  (SL.cons (S.ex (X.call 3 (XL.cons (X.v 0) (XL.cons (X.int 0) XL.nil))))
  (SL.cons (S.ret (X.v 2))
  SL.nil))))
  SL.nil)
  (SL.cons (S.ret (X.v 1))
  SL.nil)))
noncomputable def tL1 : List (Nat × Spec) := [(3, tS3)]
noncomputable def tS1 : Spec := dropS (fnRun (tab tL1) 1 3 tB1)
/- 5 escape(pattern): pattern; calls [] -/
noncomputable def tS5 : Spec := escS
/- 6 _translate(pat, STAR, QUESTION_MARK): pat, STAR, QUESTION_MARK, res, add, i, n, c, j, stuff, chunks, k, chunk; calls [5] -/
noncomputable def tNT6 : List Str := [(Str.ofString "pat"), (Str.ofString "STAR"), (Str.ofString "QUESTION_MARK"), (Str.ofString "res"), (Str.ofString "add"), (Str.ofString "i"), (Str.ofString "n"), (Str.ofString "c"), (Str.ofString "j"), (Str.ofString "stuff"), (Str.ofString "chunks"), (Str.ofString "k"), (Str.ofString "chunk")]
noncomputable def tB6 : SL := (SL.cons (S.as 3 (X.mlist XL.nil))
  (SL.cons (S.as 4 (X.app (X.v 3)))
  (SL.cons (S.asW [5, 6] (XL.cons (X.int 0) (XL.cons (X.bi .len (XL.cons (X.v 0) XL.nil)) XL.nil)))
  (SL.cons (S.wh (X.cmp .Lt (X.v 5) (X.v 6))
  (SL.cons (S.as 7 (X.idx (X.v 0) (X.v 5)))
  (SL.cons (S.as 5 (X.bin .Add (X.v 5) (X.int 1)))
  (SL.cons (S.iff (X.cmp .Eq (X.v 7) (X.str (Str.ofString "*")))
  (SL.cons (S.iff (X.bo .Or (XL.cons (X.no (X.v 3)) (XL.cons (X.cmp .IsNot (X.idx (X.v 3) (X.neg (X.int 1))) (X.v 1)) XL.nil)))
  (SL.cons (S.ex (X.callv 4 (X.v 1)))
  SL.nil)
  SL.nil)
  SL.nil)
  (SL.cons (S.iff (X.cmp .Eq (X.v 7) (X.str (Str.ofString "?")))
  (SL.cons (S.ex (X.callv 4 (X.v 2)))
  SL.nil)
  (SL.cons (S.iff (X.cmp .Eq (X.v 7) (X.str (Str.ofString "[")))
  (SL.cons (S.as 8 (X.v 5))
  (SL.cons (S.iff (X.bo .And (XL.cons (X.cmp .Lt (X.v 8) (X.v 6)) (XL.cons (X.cmp .Eq (X.idx (X.v 0) (X.v 8)) (X.str (Str.ofString "!"))) XL.nil)))
  (SL.cons (S.as 8 (X.bin .Add (X.v 8) (X.int 1)))
  SL.nil)
  SL.nil)
  (SL.cons (S.iff (X.bo .And (XL.cons (X.cmp .Lt (X.v 8) (X.v 6)) (XL.cons (X.cmp .Eq (X.idx (X.v 0) (X.v 8)) (X.str (Str.ofString "]"))) XL.nil)))
  (SL.cons (S.as 8 (X.bin .Add (X.v 8) (X.int 1)))
  SL.nil)
  SL.nil)
  (SL.cons (S.wh (X.bo .And (XL.cons (X.cmp .Lt (X.v 8) (X.v 6)) (XL.cons (X.cmp .NotEq (X.idx (X.v 0) (X.v 8)) (X.str (Str.ofString "]"))) XL.nil)))
  (SL.cons (S.as 8 (X.bin .Add (X.v 8) (X.int 1)))
  SL.nil))
  (SL.cons (S.iff (X.cmp .GtE (X.v 8) (X.v 6))
  (SL.cons (S.ex (X.callv 4 (X.str (Str.ofString "\\["))))
  SL.nil)
  (SL.cons (S.as 9 (X.slc (X.v 0) (XO.yes (X.v 5)) (XO.yes (X.v 8))))
  (SL.cons (S.iff (X.cmp .NotIn (X.str (Str.ofString "-")) (X.v 9))
  (SL.cons (S.as 9 (X.me .replace (X.v 9) (XL.cons (X.str (Str.ofString "\\")) (XL.cons (X.str (Str.ofString "\\\\")) XL.nil))))
  SL.nil)
  (SL.cons (S.as 10 (X.mlist XL.nil))
  (SL.cons (S.as 11 (X.ite (X.cmp .Eq (X.idx (X.v 0) (X.v 5)) (X.str (Str.ofString "!"))) (X.bin .Add (X.v 5) (X.int 2)) (X.bin .Add (X.v 5) (X.int 1))))
  (SL.cons (S.wh (X.bool true)
  (SL.cons (S.as 11 (X.me .find (X.v 0) (XL.cons (X.str (Str.ofString "-")) (XL.cons (X.v 11) (XL.cons (X.v 8) XL.nil)))))
  (SL.cons (S.iff (X.cmp .Lt (X.v 11) (X.int 0))
  (SL.cons S.brk
  SL.nil)
  SL.nil)
  (SL.cons (S.ex (X.me .append (X.v 10) (XL.cons (X.slc (X.v 0) (XO.yes (X.v 5)) (XO.yes (X.v 11))) XL.nil)))
  (SL.cons (S.as 5 (X.bin .Add (X.v 11) (X.int 1)))
  (SL.cons (S.as 11 (X.bin .Add (X.v 11) (X.int 3)))
  SL.nil))))))
  (SL.cons (S.as 12 (X.slc (X.v 0) (XO.yes (X.v 5)) (XO.yes (X.v 8))))
  (SL.cons (S.iff (X.v 12)
  (SL.cons (S.ex (X.me .append (X.v 10) (XL.cons (X.v 12) XL.nil)))
  SL.nil)
  (SL.cons S.bad
  SL.nil))
  (SL.cons (S.fo [11] (X.bi .range (XL.cons (X.bin .Sub (X.bi .len (XL.cons (X.v 10) XL.nil)) (X.int 1)) (XL.cons (X.int 0) (XL.cons (X.neg (X.int 1)) XL.nil))))
  (SL.cons (S.iff (X.cmp .Gt (X.idx (X.idx (X.v 10) (X.bin .Sub (X.v 11) (X.int 1))) (X.neg (X.int 1))) (X.idx (X.idx (X.v 10) (X.v 11)) (X.int 0)))
  (SL.cons (S.asI (X.v 10) (X.bin .Sub (X.v 11) (X.int 1)) (X.bin .Add (X.slc (X.idx (X.v 10) (X.bin .Sub (X.v 11) (X.int 1))) XO.no (XO.yes (X.neg (X.int 1)))) (X.slc (X.idx (X.v 10) (X.v 11)) (XO.yes (X.int 1)) XO.no)))
  (SL.cons S.bad
  SL.nil))
  SL.nil)
  SL.nil))
  (SL.cons S.bad
  SL.nil))))))))
  (SL.cons (S.as 9 (X.sub (X.v 9)))
  (SL.cons (S.as 5 (X.bin .Add (X.v 8) (X.int 1)))
  (SL.cons (S.iff (X.no (X.v 9))
  (SL.cons (S.ex (X.callv 4 (X.str (Str.ofString "(?!)"))))
  SL.nil)
  (SL.cons (S.iff (X.cmp .Eq (X.v 9) (X.str (Str.ofString "!")))
  (SL.cons (S.ex (X.callv 4 (X.str (Str.ofString "."))))
  SL.nil)
  (SL.cons (S.iff (X.cmp .Eq (X.idx (X.v 9) (X.int 0)) (X.str (Str.ofString "!")))
  (SL.cons (S.as 9 (X.bin .Add (X.str (Str.ofString "^")) (X.slc (X.v 9) (XO.yes (X.int 1)) XO.no)))
  SL.nil)
  (SL.cons (S.iff (X.cmp .In (X.idx (X.v 9) (X.int 0)) (X.tup (XL.cons (X.str (Str.ofString "^")) (XL.cons (X.str (Str.ofString "[")) XL.nil))))
  (SL.cons (S.as 9 (X.bin .Add (X.str (Str.ofString "\\")) (X.v 9)))
  SL.nil)
  SL.nil)
  SL.nil))
  (SL.cons (S.ex (X.callv 4 (X.fstr (XL.cons (X.str (Str.ofString "[")) (XL.cons (X.v 9) (XL.cons (X.str (Str.ofString "]")) XL.nil))))))
  SL.nil)))
  SL.nil))
  SL.nil))))))
  SL.nil)))))
  (SL.cons (S.ex (X.callv 4 (X.call 5 (XL.cons (X.v 7) XL.nil))))
  SL.nil))
  SL.nil))
  SL.nil))
  SL.nil))))
  (SL.cons (S.asr (X.cmp .Eq (X.v 5) (X.v 6)))
  (SL.cons (S.ret (X.v 3))
  SL.nil))))))
noncomputable def tL6 : List (Nat × Spec) := [(5, tS5)]
noncomputable def tS6 : Spec := dropS (fnRun (tab tL6) 3 13 tB6)
/- 7 _join_translated_parts(inp, STAR): inp, STAR, res, add, i, n, fixed; calls [] -/
noncomputable def tNT7 : List Str := [(Str.ofString "inp"), (Str.ofString "STAR"), (Str.ofString "res"), (Str.ofString "add"), (Str.ofString "i"), (Str.ofString "n"), (Str.ofString "fixed")]
noncomputable def tB7 : SL := (SL.cons (S.as 2 (X.mlist XL.nil))
  (SL.cons (S.as 3 (X.app (X.v 2)))
  (SL.cons (S.asW [4, 5] (XL.cons (X.int 0) (XL.cons (X.bi .len (XL.cons (X.v 0) XL.nil)) XL.nil)))
  (SL.cons (S.wh (X.bo .And (XL.cons (X.cmp .Lt (X.v 4) (X.v 5)) (XL.cons (X.cmp .IsNot (X.idx (X.v 0) (X.v 4)) (X.v 1)) XL.nil)))
  (SL.cons (S.ex (X.callv 3 (X.idx (X.v 0) (X.v 4))))
  (SL.cons (S.aug 4 .Add (X.int 1))
  SL.nil)))
  (SL.cons (S.wh (X.cmp .Lt (X.v 4) (X.v 5))
  (SL.cons (S.asr (X.cmp .Is (X.idx (X.v 0) (X.v 4)) (X.v 1)))
  (SL.cons (S.aug 4 .Add (X.int 1))
  (SL.cons (S.iff (X.cmp .Eq (X.v 4) (X.v 5))
  (SL.cons (S.ex (X.callv 3 (X.str (Str.ofString ".*"))))
  (SL.cons S.brk
  SL.nil))
  SL.nil)
  (SL.cons (S.asr (X.cmp .IsNot (X.idx (X.v 0) (X.v 4)) (X.v 1)))
  (SL.cons (S.as 6 (X.mlist XL.nil))
  (SL.cons (S.wh (X.bo .And (XL.cons (X.cmp .Lt (X.v 4) (X.v 5)) (XL.cons (X.cmp .IsNot (X.idx (X.v 0) (X.v 4)) (X.v 1)) XL.nil)))
  (SL.cons (S.ex (X.me .append (X.v 6) (XL.cons (X.idx (X.v 0) (X.v 4)) XL.nil)))
  (SL.cons (S.aug 4 .Add (X.int 1))
  SL.nil)))
  (SL.cons (S.as 6 (X.me .join (X.str (Str.ofString "")) (XL.cons (X.v 6) XL.nil)))
  (SL.cons (S.iff (X.cmp .Eq (X.v 4) (X.v 5))
  (SL.cons (S.ex (X.callv 3 (X.str (Str.ofString ".*"))))
  (SL.cons (S.ex (X.callv 3 (X.v 6)))
  SL.nil))
  (SL.cons (S.ex (X.callv 3 (X.fstr (XL.cons (X.str (Str.ofString "(?>.*?")) (XL.cons (X.v 6) (XL.cons (X.str (Str.ofString ")")) XL.nil))))))
  SL.nil))
  SL.nil)))))))))
  (SL.cons (S.asr (X.cmp .Eq (X.v 4) (X.v 5)))
  (SL.cons (S.as 2 (X.me .join (X.str (Str.ofString "")) (XL.cons (X.v 2) XL.nil)))
  (SL.cons (S.ret (X.fstr (XL.cons (X.str (Str.ofString "(?s:")) (XL.cons (X.v 2) (XL.cons (X.str (Str.ofString ")\\Z")) XL.nil)))))
  SL.nil))))))))
noncomputable def tL7 : List (Nat × Spec) := []
noncomputable def tS7 : Spec := dropS (fnRun (tab tL7) 2 7 tB7)
/- 4 translate(pat): pat, STAR, parts; calls [6, 7] -/
noncomputable def tNT4 : List Str := [(Str.ofString "pat"), (Str.ofString "STAR"), (Str.ofString "parts")]
noncomputable def tB4 : SL := (SL.cons (S.as 1 X.star)
  (SL.cons (S.as 2 (X.call 6 (XL.cons (X.v 0) (XL.cons (X.v 1) (XL.cons (X.str (Str.ofString ".")) XL.nil)))))
  (SL.cons (S.ret (X.call 7 (XL.cons (X.v 2) (XL.cons (X.v 1) XL.nil))))
  SL.nil)))
noncomputable def tL4 : List (Nat × Spec) := [(6, tS6), (7, tS7)]
noncomputable def tS4 : Spec := dropS (fnRun (tab tL4) 1 3 tB4)
/- 10 _law_take(stream, size): stream, size, took; calls [] -/
noncomputable def tNT10 : List Str := [(Str.ofString "stream"), (Str.ofString "size"), (Str.ofString "took")]
noncomputable def tB10 : SL := (SL.cons (S.as 2 (X.slc (X.val (X.v 0)) XO.no (XO.yes (X.v 1))))
  (SL.cons (S.asV (X.v 0) (X.slc (X.val (X.v 0)) (XO.yes (X.v 1)) XO.no))
  (SL.cons (S.ret (X.v 2))
  SL.nil)))
noncomputable def tL10 : List (Nat × Spec) := []
noncomputable def tS10 : Spec := dropS (fnRun (tab tL10) 2 3 tB10)
/- 8 read_uint1(f): f, data; calls [10] -/
noncomputable def tNT8 : List Str := [(Str.ofString "f"), (Str.ofString "data")]
noncomputable def tB8 : SL := (SL.cons (S.as 1 (X.read 10 (X.v 0) (X.int 1)))
  (SL.cons (S.iff (X.v 1)
  (SL.cons (S.ret (X.idx (X.v 1) (X.int 0)))
  SL.nil)
  SL.nil)
  (SL.cons (S.ra (X.str (Str.ofString "not enough data in stream to read uint1")))
  SL.nil)))
noncomputable def tL8 : List (Nat × Spec) := [(10, tS10)]
noncomputable def tS8 : Spec := dropS (fnRun (tab tL8) 1 2 tB8)
/- 9 read_string1(f): f, n, data; calls [8, 10] -/
noncomputable def tNT9 : List Str := [(Str.ofString "f"), (Str.ofString "n"), (Str.ofString "data")]
noncomputable def tB9 : SL := (SL.cons (S.callA 1 8 (XL.cons (X.v 0) XL.nil))
  (SL.cons (S.asr (X.cmp .GtE (X.v 1) (X.int 0)))
  (SL.cons (S.as 2 (X.read 10 (X.v 0) (X.v 1)))
  (SL.cons (S.iff (X.cmp .Eq (X.bi .len (XL.cons (X.v 2) XL.nil)) (X.v 1))
  (SL.cons (S.ret (X.me .decode (X.v 2) (XL.cons (X.str (Str.ofString "latin-1")) XL.nil)))
  SL.nil)
  SL.nil)
  (SL.cons (S.ra (X.fmt (Str.ofString "expected %d bytes in a string1, but only %d remain") (X.v 1) (X.bi .len (XL.cons (X.v 2) XL.nil))))
  SL.nil)))))
noncomputable def tL9 : List (Nat × Spec) := [(8, tS8), (10, tS10)]
noncomputable def tS9 : Spec := dropS (fnRun (tab tL9) 1 3 tB9)
/- 11 _law_stream(octets): octets, stream; calls [10] -/
noncomputable def tS11 : Spec := strmS
/- 12 _law_counted(text): text; calls [] -/
noncomputable def tNT12 : List Str := [(Str.ofString "text")]
noncomputable def tB12 : SL := (SL.cons (S.ret (X.bin .Add (X.bi .bytes (XL.cons (X.list (XL.cons (X.bi .len (XL.cons (X.v 0) XL.nil)) XL.nil)) XL.nil)) (X.me .encode (X.v 0) (XL.cons (X.str (Str.ofString "latin-1")) XL.nil))))
  SL.nil)
noncomputable def tL12 : List (Nat × Spec) := []
noncomputable def tS12 : Spec := dropS (fnRun (tab tL12) 1 1 tB12)
/- 13 _law_wish(number): number, size; calls [] -/
noncomputable def tNT13 : List Str := [(Str.ofString "number"), (Str.ofString "size")]
noncomputable def tB13 : SL := (SL.cons (S.as 1 (X.idx (X.list (XL.cons (X.int 4) (XL.cons (X.int 3) (XL.cons (X.int 2) (XL.cons (X.int 4) (XL.cons (X.int 3) (XL.cons (X.int 1) (XL.cons (X.int 4) (XL.cons (X.int 0) XL.nil))))))))) (X.bin .Mod (X.v 0) (X.int 8))))
  (SL.cons (S.ret (X.me .join (X.str (Str.ofString "")) (XL.cons (X.comp 1 (X.idx (X.str (Str.ofString "ab")) (X.bin .Mod (X.bin .FloorDiv (X.bin .FloorDiv (X.v 0) (X.int 8)) (X.bin .Pow (X.int 2) (X.v 2))) (X.int 2))) (X.bi .range (XL.cons (X.v 1) XL.nil)) XL.nil) XL.nil)))
  SL.nil))
noncomputable def tL13 : List (Nat × Spec) := []
noncomputable def tS13 : Spec := dropS (fnRun (tab tL13) 1 2 tB13)
/- 14 _law_halves(word, wish): word, wish, given; calls [] -/
noncomputable def tNT14 : List Str := [(Str.ofString "word"), (Str.ofString "wish"), (Str.ofString "given")]
noncomputable def tB14 : SL := (SL.cons (S.as 2 (X.bin .Add (X.v 0) (X.slc (X.v 1) (XO.yes (X.bi .len (XL.cons (X.v 0) XL.nil))) XO.no)))
  (SL.cons (S.ret (X.comp 1 (X.bin .Add (X.slc (X.v 2) XO.no (XO.yes (X.v 3))) (X.ite (X.cmp .Eq (X.idx (X.v 1) (X.v 3)) (X.str (Str.ofString "a"))) (X.str (Str.ofString "b")) (X.str (Str.ofString "a")))) (X.bi .range (XL.cons (X.bi .len (XL.cons (X.v 0) XL.nil)) (XL.cons (X.bi .len (XL.cons (X.v 1) XL.nil)) XL.nil))) XL.nil))
  SL.nil))
noncomputable def tL14 : List (Nat × Spec) := []
noncomputable def tS14 : Spec := dropS (fnRun (tab tL14) 2 3 tB14)
/- 15 _law_given(heap, wish): heap, wish, aside, given, one, word, half; calls [0, 1, 14] -/
noncomputable def tNT15 : List Str := [(Str.ofString "heap"), (Str.ofString "wish"), (Str.ofString "aside"), (Str.ofString "given"), (Str.ofString "one"), (Str.ofString "word"), (Str.ofString "half")]
noncomputable def tB15 : SL := (SL.cons (S.as 2 (X.mlist XL.nil))
  (SL.cons (S.wh (X.bo .And (XL.cons (X.cmp .NotEq (X.v 0) (X.list XL.nil)) (XL.cons (X.cmp .Lt (X.idx (X.idx (X.v 0) (X.int 0)) (X.int 0)) (X.bin .Sub (X.int 4) (X.bi .len (XL.cons (X.v 1) XL.nil)))) XL.nil)))
  (SL.cons (S.ex (X.me .append (X.v 2) (XL.cons (X.call 1 (XL.cons (X.v 0) XL.nil)) XL.nil)))
  SL.nil))
  (SL.cons (S.as 3 X.none)
  (SL.cons (S.iff (X.cmp .NotEq (X.v 0) (X.list XL.nil))
  (SL.cons (S.as 5 (X.idx (X.call 1 (XL.cons (X.v 0) XL.nil)) (X.int 1)))
  (SL.cons (S.as 3 (X.bin .Add (X.v 5) (X.slc (X.v 1) (XO.yes (X.bi .len (XL.cons (X.v 5) XL.nil))) XO.no)))
  (SL.cons (S.fo [6] (X.call 14 (XL.cons (X.v 5) (XL.cons (X.v 1) XL.nil)))
  (SL.cons (S.ex (X.call 0 (XL.cons (X.v 0) (XL.cons (X.tup (XL.cons (X.bin .Sub (X.int 4) (X.bi .len (XL.cons (X.v 6) XL.nil))) (XL.cons (X.v 6) XL.nil))) XL.nil))))
  SL.nil))
  SL.nil)))
  SL.nil)
  (SL.cons (S.fo [4] (X.v 2)
  (SL.cons (S.ex (X.call 0 (XL.cons (X.v 0) (XL.cons (X.v 4) XL.nil))))
  SL.nil))
  (SL.cons (S.ret (X.v 3))
  SL.nil))))))
noncomputable def tL15 : List (Nat × Spec) := [(0, tS0), (1, tS1), (14, tS14)]
noncomputable def tS15 : Spec := dropS (fnRun (tab tL15) 2 7 tB15)
/- 16 _law_served(stream): stream, heap, notes, words, free, wish; calls [1, 9, 15] -/
noncomputable def tNT16 : List Str := [(Str.ofString "stream"), (Str.ofString "heap"), (Str.ofString "notes"), (Str.ofString "words"), (Str.ofString "free"), (Str.ofString "wish")]
noncomputable def tB16 : SL := (SL.cons (S.as 1 (X.mlist (XL.cons (X.tup (XL.cons (X.int 4) (XL.cons (X.str (Str.ofString "")) XL.nil))) XL.nil)))
  (SL.cons (S.as 2 (X.mlist XL.nil))
  (SL.cons (S.as 3 (X.str (Str.ofString "")))
  (SL.cons (S.wh (X.cmp .Eq (X.v 3) (X.str (Str.ofString "")))
  (SL.cons (S.tryR (SL.cons (S.callA 5 9 (XL.cons (X.v 0) XL.nil))
  SL.nil) 3
  (SL.cons (S.ex (X.me .append (X.v 2) (XL.cons (X.tup (XL.cons (X.call 15 (XL.cons (X.v 1) (XL.cons (X.v 5) XL.nil))) (XL.cons (X.bi .sorted (XL.cons (X.comp 2 (X.bin .Sub (X.int 4) (X.v 6)) (X.v 1) XL.nil) XL.nil)) XL.nil))) XL.nil)))
  SL.nil))
  SL.nil))
  (SL.cons (S.as 4 (X.mlist XL.nil))
  (SL.cons (S.wh (X.cmp .NotEq (X.v 1) (X.list XL.nil))
  (SL.cons (S.ex (X.me .append (X.v 4) (XL.cons (X.idx (X.call 1 (XL.cons (X.v 1) XL.nil)) (X.int 1)) XL.nil)))
  SL.nil))
  (SL.cons (S.ret (X.tup (XL.cons (X.v 2) (XL.cons (X.v 4) (XL.cons (X.v 3) XL.nil)))))
  SL.nil)))))))
noncomputable def tL16 : List (Nat × Spec) := [(1, tS1), (9, tS9), (15, tS15)]
noncomputable def tS16 : Spec := dropS (fnRun (tab tL16) 1 6 tB16)
/- 17 _law_due(wishes): wishes, free, left, due, wish, near, given, most, taken; calls [14] -/
noncomputable def tNT17 : List Str := [(Str.ofString "wishes"), (Str.ofString "free"), (Str.ofString "left"), (Str.ofString "due"), (Str.ofString "wish"), (Str.ofString "near"), (Str.ofString "given"), (Str.ofString "most"), (Str.ofString "taken")]
noncomputable def tB17 : SL := (SL.cons (S.as 1 (X.list (XL.cons (X.str (Str.ofString "")) XL.nil)))
  (SL.cons (S.as 2 (X.int 16))
  (SL.cons (S.as 3 (X.mlist XL.nil))
  (SL.cons (S.fo [4] (X.v 0)
  (SL.cons (S.as 5 (X.comp 1 (X.v 9) (X.v 1) (XL.cons (X.cmp .LtE (X.bi .len (XL.cons (X.v 9) XL.nil)) (X.bi .len (XL.cons (X.v 4) XL.nil))) XL.nil)))
  (SL.cons (S.as 6 X.none)
  (SL.cons (S.iff (X.cmp .NotEq (X.v 5) (X.list XL.nil))
  (SL.cons (S.as 7 (X.bi .max (XL.cons (X.comp 1 (X.bi .len (XL.cons (X.v 9) XL.nil)) (X.v 5) XL.nil) XL.nil)))
  (SL.cons (S.as 8 (X.idx (X.comp 1 (X.v 9) (X.v 5) (XL.cons (X.cmp .Eq (X.bi .len (XL.cons (X.v 9) XL.nil)) (X.v 7)) XL.nil)) (X.int 0)))
  (SL.cons (S.as 6 (X.bin .Add (X.v 8) (X.slc (X.v 4) (XO.yes (X.v 7)) XO.no)))
  (SL.cons (S.as 1 (X.bin .Add (X.comp 1 (X.v 9) (X.v 1) (XL.cons (X.cmp .NotEq (X.v 9) (X.v 8)) XL.nil)) (X.call 14 (XL.cons (X.v 8) (XL.cons (X.v 4) XL.nil)))))
  SL.nil))))
  SL.nil)
  (SL.cons (S.iff (X.cmp .LtE (X.bin .Pow (X.int 2) (X.bin .Sub (X.int 4) (X.bi .len (XL.cons (X.v 4) XL.nil)))) (X.v 2))
  (SL.cons (S.aug 2 .Sub (X.bin .Pow (X.int 2) (X.bin .Sub (X.int 4) (X.bi .len (XL.cons (X.v 4) XL.nil)))))
  SL.nil)
  SL.nil)
  (SL.cons (S.ex (X.me .append (X.v 3) (XL.cons (X.tup (XL.cons (X.v 6) (XL.cons (X.comp 1 (X.v 9) (X.bi .range (XL.cons (X.int 5) XL.nil)) (XL.cons (X.cmp .Eq (X.bin .Mod (X.bin .FloorDiv (X.v 2) (X.bin .Pow (X.int 2) (X.bin .Sub (X.int 4) (X.v 9)))) (X.int 2)) (X.int 1)) XL.nil)) XL.nil))) XL.nil)))
  SL.nil))))))
  (SL.cons (S.ret (X.tup (XL.cons (X.v 3) (XL.cons (X.bi .sorted (XL.cons (X.v 1) XL.nil)) (XL.cons (X.v 2) XL.nil)))))
  SL.nil)))))
noncomputable def tL17 : List (Nat × Spec) := [(14, tS14)]
noncomputable def tS17 : Spec := dropS (fnRun (tab tL17) 1 9 tB17)
/- 18 _law_dressed(word, turn): word, turn, k, other; calls [] -/
noncomputable def tNT18 : List Str := [(Str.ofString "word"), (Str.ofString "turn"), (Str.ofString "k"), (Str.ofString "other")]
noncomputable def tB18 : SL := (SL.cons (S.iff (X.cmp .Eq (X.v 0) (X.str (Str.ofString "")))
  (SL.cons (S.ret (X.str (Str.ofString "*")))
  SL.nil)
  SL.nil)
  (SL.cons (S.as 2 (X.bin .Mod (X.v 1) (X.bi .len (XL.cons (X.v 0) XL.nil))))
  (SL.cons (S.as 3 (X.ite (X.cmp .Eq (X.idx (X.v 0) (X.v 2)) (X.str (Str.ofString "a"))) (X.str (Str.ofString "b")) (X.str (Str.ofString "a"))))
  (SL.cons (S.ret (X.bin .Add (X.bin .Add (X.bin .Add (X.slc (X.v 0) XO.no (XO.yes (X.v 2))) (X.idx (X.list (XL.cons (X.bin .Add (X.bin .Add (X.str (Str.ofString "[")) (X.idx (X.v 0) (X.v 2))) (X.str (Str.ofString "]"))) (XL.cons (X.bin .Add (X.bin .Add (X.str (Str.ofString "[!")) (X.v 3)) (X.str (Str.ofString "]"))) XL.nil))) (X.bin .Mod (X.bin .FloorDiv (X.v 1) (X.int 2)) (X.int 2)))) (X.slc (X.v 0) (XO.yes (X.bin .Add (X.v 2) (X.int 1))) XO.no)) (X.str (Str.ofString "*"))))
  SL.nil))))
noncomputable def tL18 : List (Nat × Spec) := []
noncomputable def tS18 : Spec := dropS (fnRun (tab tL18) 2 4 tB18)
/- 19 _law_tests(text): text, inner, tests, k, size, piece; calls [] -/
noncomputable def tNT19 : List Str := [(Str.ofString "text"), (Str.ofString "inner"), (Str.ofString "tests"), (Str.ofString "k"), (Str.ofString "size"), (Str.ofString "piece")]
noncomputable def tB19 : SL := (SL.cons (S.iff (X.bo .Or (XL.cons (X.cmp .NotEq (X.slc (X.v 0) XO.no (XO.yes (X.int 4))) (X.str (Str.ofString "(?s:"))) (XL.cons (X.cmp .NotEq (X.slc (X.v 0) (XO.yes (X.neg (X.int 5))) XO.no) (X.str (Str.ofString ".*)\\Z"))) XL.nil)))
  (SL.cons (S.ret X.none)
  SL.nil)
  SL.nil)
  (SL.cons (S.as 1 (X.slc (X.v 0) (XO.yes (X.int 4)) (XO.yes (X.neg (X.int 5)))))
  (SL.cons (S.as 2 (X.mlist XL.nil))
  (SL.cons (S.as 3 (X.int 0))
  (SL.cons (S.wh (X.cmp .Lt (X.v 3) (X.bi .len (XL.cons (X.v 1) XL.nil)))
  (SL.cons (S.as 4 (X.ite (X.cmp .Eq (X.idx (X.v 1) (X.v 3)) (X.str (Str.ofString "["))) (X.bi .max (XL.cons (X.int 1) (XL.cons (X.bin .Sub (X.bin .Add (X.me .find (X.v 1) (XL.cons (X.str (Str.ofString "]")) (XL.cons (X.v 3) XL.nil))) (X.int 1)) (X.v 3)) XL.nil))) (X.int 1)))
  (SL.cons (S.as 5 (X.slc (X.v 1) (XO.yes (X.v 3)) (XO.yes (X.bin .Add (X.v 3) (X.v 4)))))
  (SL.cons (S.ex (X.me .append (X.v 2) (XL.cons (X.me .join (X.str (Str.ofString "")) (XL.cons (X.comp 1 (X.v 6) (X.str (Str.ofString "ab")) (XL.cons (X.cmp .NotEq (X.cmp .In (X.v 6) (X.v 5)) (X.cmp .Eq (X.slc (X.v 5) XO.no (XO.yes (X.int 2))) (X.str (Str.ofString "[^")))) XL.nil)) XL.nil)) XL.nil)))
  (SL.cons (S.aug 3 .Add (X.v 4))
  SL.nil)))))
  (SL.cons (S.ret (X.v 2))
  SL.nil))))))
noncomputable def tL19 : List (Nat × Spec) := []
noncomputable def tS19 : Spec := dropS (fnRun (tab tL19) 1 6 tB19)
/- 20 _law_takes(tests, word): tests, word; calls [] -/
noncomputable def tNT20 : List Str := [(Str.ofString "tests"), (Str.ofString "word")]
noncomputable def tB20 : SL := (SL.cons (S.ret (X.bo .And (XL.cons (X.cmp .LtE (X.bi .len (XL.cons (X.v 0) XL.nil)) (X.bi .len (XL.cons (X.v 1) XL.nil))) (XL.cons (X.cmp .Eq (X.comp 1 (X.v 2) (X.bi .range (XL.cons (X.bi .len (XL.cons (X.v 0) XL.nil)) XL.nil)) (XL.cons (X.cmp .NotIn (X.idx (X.v 1) (X.v 2)) (X.idx (X.v 0) (X.v 2))) XL.nil)) (X.list XL.nil)) XL.nil))))
  SL.nil)
noncomputable def tL20 : List (Nat × Spec) := []
noncomputable def tS20 : Spec := dropS (fnRun (tab tL20) 2 2 tB20)
/- 21 law(script): script, wishes, stream, notes, free, words, due, bare, left, laid, tests, leaves, table, heap, k, order; calls [0, 1, 4, 11, 12, 13, 16, 17, 18, 19, 20] -/
noncomputable def tNT21 : List Str := [(Str.ofString "script"), (Str.ofString "wishes"), (Str.ofString "stream"), (Str.ofString "notes"), (Str.ofString "free"), (Str.ofString "words"), (Str.ofString "due"), (Str.ofString "bare"), (Str.ofString "left"), (Str.ofString "laid"), (Str.ofString "tests"), (Str.ofString "leaves"), (Str.ofString "table"), (Str.ofString "heap"), (Str.ofString "k"), (Str.ofString "order")]
noncomputable def tB21 : SL := (SL.cons (S.as 1 (X.bin .Add (X.comp 1 (X.call 13 (XL.cons (X.bin .Mod (X.v 16) (X.bin .Pow (X.int 10) (X.int 6))) XL.nil)) (X.slc (X.v 0) XO.no (XO.yes (X.int 8))) XL.nil) (X.list (XL.cons (X.str (Str.ofString "ab")) (XL.cons (X.str (Str.ofString "b")) (XL.cons (X.str (Str.ofString "a")) (XL.cons (X.str (Str.ofString "bbb")) XL.nil)))))))
  (SL.cons (S.as 2 (X.call 11 (XL.cons (X.bin .Add (X.me .join (X.byt []) (XL.cons (X.comp 1 (X.call 12 (XL.cons (X.v 16) XL.nil)) (X.v 1) XL.nil) XL.nil)) (X.byt [4, 97, 98])) XL.nil)))
  (SL.cons (S.asT [3, 4, 5] (X.call 16 (XL.cons (X.v 2) XL.nil)))
  (SL.cons (S.asT [6, 7, 8] (X.call 17 (XL.cons (X.v 1) XL.nil)))
  (SL.cons (S.iff (X.bo .Or (XL.cons (X.cmp .NotEq (X.v 3) (X.v 6)) (XL.cons (X.cmp .NotEq (X.bi .sorted (XL.cons (X.v 4) XL.nil)) (X.v 7)) (XL.cons (X.cmp .NotEq (X.v 5) (X.str (Str.ofString "expected 4 bytes in a string1, but only 2 remain"))) (XL.cons (X.cmp .NotEq (X.val (X.v 2)) (X.byt [])) XL.nil)))))
  (SL.cons (S.ret (X.bool false))
  SL.nil)
  SL.nil)
  (SL.cons (S.iff (X.cmp .NotEq (X.comp 1 (X.bi .len (XL.cons (X.v 16) XL.nil)) (X.v 4) XL.nil) (X.comp 1 (X.bin .Sub (X.int 4) (X.v 16)) (X.bi .range (XL.cons (X.int 5) XL.nil)) (XL.cons (X.cmp .Eq (X.bin .Mod (X.bin .FloorDiv (X.v 8) (X.bin .Pow (X.int 2) (X.v 16))) (X.int 2)) (X.int 1)) XL.nil)))
  (SL.cons (S.ret (X.bool false))
  SL.nil)
  SL.nil)
  (SL.cons (S.as 9 (X.bin .Add (X.comp 2 (X.v 16) (X.v 3) (XL.cons (X.cmp .IsNot (X.v 16) X.none) XL.nil)) (X.v 4)))
  (SL.cons (S.as 10 (X.comp 1 (X.call 19 (XL.cons (X.call 4 (XL.cons (X.call 18 (XL.cons (X.idx (X.v 9) (X.v 16)) (XL.cons (X.v 16) XL.nil))) XL.nil)) XL.nil)) (X.bi .range (XL.cons (X.bi .len (XL.cons (X.v 9) XL.nil)) XL.nil)) XL.nil))
  (SL.cons (S.iff (X.cmp .NotEq (X.comp 1 (X.v 16) (X.v 10) (XL.cons (X.cmp .Is (X.v 16) X.none) XL.nil)) (X.list XL.nil))
  (SL.cons (S.ret (X.bool false))
  SL.nil)
  SL.nil)
  (SL.cons (S.as 11 (X.comp 1 (X.bin .Add (X.bin .Add (X.bin .Add (X.idx (X.str (Str.ofString "ab")) (X.bin .FloorDiv (X.v 16) (X.int 8))) (X.idx (X.str (Str.ofString "ab")) (X.bin .Mod (X.bin .FloorDiv (X.v 16) (X.int 4)) (X.int 2)))) (X.idx (X.str (Str.ofString "ab")) (X.bin .Mod (X.bin .FloorDiv (X.v 16) (X.int 2)) (X.int 2)))) (X.idx (X.str (Str.ofString "ab")) (X.bin .Mod (X.v 16) (X.int 2)))) (X.bi .range (XL.cons (X.int 16) XL.nil)) XL.nil))
  (SL.cons (S.as 12 (X.comp 1 (X.comp 1 (X.v 17) (X.v 11) (XL.cons (X.call 20 (XL.cons (X.v 16) (XL.cons (X.v 17) XL.nil))) XL.nil)) (X.v 10) XL.nil))
  (SL.cons (S.iff (X.cmp .NotEq (X.comp 1 (X.bi .len (XL.cons (X.v 16) XL.nil)) (X.v 12) XL.nil) (X.comp 1 (X.bin .Pow (X.int 2) (X.bin .Sub (X.int 4) (X.bi .len (XL.cons (X.v 16) XL.nil)))) (X.v 9) XL.nil))
  (SL.cons (S.ret (X.bool false))
  SL.nil)
  SL.nil)
  (SL.cons (S.as 13 (X.mlist XL.nil))
  (SL.cons (S.fo [14] (X.bi .range (XL.cons (X.bi .len (XL.cons (X.v 9) XL.nil)) XL.nil))
  (SL.cons (S.ex (X.call 0 (XL.cons (X.v 13) (XL.cons (X.tup (XL.cons (X.idx (X.v 9) (X.v 14)) (XL.cons (X.v 14) XL.nil))) XL.nil))))
  SL.nil))
  (SL.cons (S.as 15 (X.mlist XL.nil))
  (SL.cons (S.wh (X.cmp .NotEq (X.v 13) (X.list XL.nil))
  (SL.cons (S.ex (X.me .extend (X.v 15) (XL.cons (X.idx (X.v 12) (X.idx (X.call 1 (XL.cons (X.v 13) XL.nil)) (X.int 1))) XL.nil)))
  SL.nil))
  (SL.cons (S.ret (X.cmp .Eq (X.v 15) (X.v 11)))
  SL.nil)))))))))))))))))
noncomputable def tL21 : List (Nat × Spec) := [(0, tS0), (1, tS1), (4, tS4), (11, tS11), (12, tS12), (13, tS13), (16, tS16), (17, tS17), (18, tS18), (19, tS19), (20, tS20)]
noncomputable def tS21 : Spec := dropS (fnRun (tab tL21) 1 16 tB21)
end Sh
namespace Sh
open PySem PySem.Calls PyProof.Rows PySem.W PySem.Spec
/- what stands of the top's end, beside what the head tells -/
noncomputable def fragOf (h : Heap) (as : List Addr) : Frag := as.filterMap fun a => (h.get? a).map fun o => (a, o)
theorem frag_get {h : Heap} {a : Addr} {o : Obj} : ∀ {as : List Addr}, (fragOf h as).lookup a = some o → h.get? a = some o
  | [], e => nn e
  | b :: as, e => by
    unfold fragOf at e
    rw [List.filterMap_cons] at e
    cases hb : h.get? b with
    | none => rw [hb] at e; exact frag_get (as := as) e
    | some o' =>
      rw [hb] at e
      have e : List.lookup a ((b, o') :: fragOf h as) = some o := e
      rw [List.lookup_cons] at e
      cases q : a == b with
      | true => rw [q] at e; rw [beq_iff_eq.mp q, hb]; exact e
      | false => rw [q] at e; exact frag_get (as := as) e
noncomputable def refOf (v : Value) : Option Addr := match v with
  | .ref b => some b
  | _ => none
theorem refOf_at {v : Value} {a : Addr} (h : refOf v = some a) : v = .ref a := by cases v <;> first | exact nn h | exact congrArg _ (so h)
theorem oe_el {α : Type} {G : Prop} {o : Option α} {f : α → Bool} (h : o.elim false f = true) (k : ∀ a, o = some a → f a = true → G) : G := match o, h, k with
  | some a, h, k => k a rfl h
noncomputable def isRefV (v : Value) (a : Addr) : Bool := (refOf v).elim false fun b => b == a
theorem isRefV_at {v : Value} {a : Addr} (h : isRefV v a = true) : v = .ref a := oe_el h fun b e h => by rw [refOf_at e, beq_iff_eq.mp h]
noncomputable def isRefO (v : Option Value) (a : Addr) : Bool := v.elim false fun v => isRefV v a
theorem isRefO_at {v : Option Value} {a : Addr} (h : isRefO v a = true) : v = some (.ref a) := oe_el h fun w e h => by rw [e, isRefV_at h]
noncomputable def hasCls (o : Obj) : Bool := match o.cls with
  | .none => false
  | _ => true
theorem hasCls_at {o : Obj} (h : hasCls o = true) : o.cls ≠ .none := fun q => by unfold hasCls at h; rw [q] at h; exact Bool.noConfusion h
/-- the class of the streams -/
noncomputable def strB (K : Frag) (C fI : Addr) : Bool := K.all (fun x => hasCls x.2) && (hasDictIn K C && (plainGet K C "value" && ((findIn K (.ref C) "value").elim false (noGet K) && (findIn K (.ref C) "read" == some none &&
  (findIn K (.ref C) "__setattr__" == some (some (.builtin "object.__setattr__")) && (plainOver K C && (takerIn K C "value" == some none && (takerIn K C "read" == some none && (makesIn K C && (findIn K (.ref C) "__init__" == some (some (.ref fI)) && typeIn K (.ref fI) == some (.type "function")))))))))))
noncomputable def fldsOf (d : Data) : Option (Array Value) := match d with | .fields vs => some vs | _ => none
noncomputable def seqOf (d : Data) : Option (Array Value × Nat) := match d with | .seq vs n => some (vs, n) | _ => none
noncomputable def dictE (d : Data) : Option (Array DictEntry × Nat) := match d with | .dict vs n => some (vs, n) | _ => none
noncomputable def funOf (d : Data) : Option FuncData := match d with | .func f => some f | _ => none
/-- the pattern -/
noncomputable def patB (h : Heap) (p c : Addr) : Bool := (h.get? p).elim false fun o => o.cls == .type "re.Pattern" && (o.dict.isNone && (fldsOf o.data).elim false fun fs => Builtin.Re.reRawNat (fs.getD 6 .none) == 0 && (isRefV (fs.getD 5 .none) c && (Builtin.Re.reRawNat (fs.getD 2 .none) == 1 &&
  (h.get? c).elim false fun oc => hasCls oc && (seqOf oc.data).elim false fun xs => decide ((xs.1.map Builtin.Re.reRawOf).map (·.toNat) = subCode))))
/-- the signs that want a stroke -/
noncomputable def mapB (h : Heap) (D : Addr) : Bool := (h.get? D).elim false fun o => hasCls o && (o.cls == .type "dict" && (o.dict.isNone && (o.slots.isEmpty && (dictE o.data).elim false fun es => keysB es.1 && ((findBy Value.isInt es.1 97).isNone && (findBy Value.isInt es.1 98).isNone))))
noncomputable def strOf (v : Value) : Option (Str × Tok) := match v with
  | .str x t => some (x, t)
  | _ => none
theorem strOf_at {v : Value} {x : Str × Tok} (h : strOf v = some x) : v = .str x.1 x.2 := by cases v <;> first | exact nn h | (cases so h; rfl)
noncomputable def isStrO (v : Option Value) (q : Str) : Bool := v.elim false fun v => (strOf v).elim false fun x => x.1 == q
/-- the class's own start -/
noncomputable def iniB (h : Heap) (f : Addr) (q : Str) : Bool := (h.get? f).elim false fun o => hasCls o && (funOf o.data).elim false fun d => d.closure.isEmpty && (d.qualname == q && (d.globals == mainGlobals && (d.builtins == builtinsNs && (d.defaults == .none && (d.kwdefaults == .none &&
  (refOf d.code).elim false fun c => (h.get? c).elim false fun oc => hasCls oc && (fldsOf oc.data).elim false fun vs => isStrO vs[1]? q)))))
noncomputable def iniP (h : Heap) (f : Addr) : Option (Arguments × FuncBody × Scope) := (h.get? f).bind fun o => (funOf o.data).map fun d => (d.params, d.body, d.scope)
noncomputable def hasClsAt (h : Heap) (a : Addr) : Bool := (h.get? a).elim false hasCls
structure Ad where
  as : List Addr
  C : Addr
  fI : Addr
  p : Addr
  pc : Addr
  D : Addr
  fns : List (Str × Addr)
noncomputable def okH (d : Ad) (h : Heap) : Bool := strB (fragOf h d.as) d.C d.fI && (patB h d.p d.pc && (mapB h d.D && (iniB h d.fI "_Example.__init__" && (d.fns.all fun x => isRefO (h.nsMap mainGlobals x.1) x.2 && hasClsAt h x.2) && (hasClsAt h mainGlobals && hasClsAt h builtinsNs))))
noncomputable def ad2 : Ad := ⟨[124, 125, 126, 127, 128, 129, 130], 128, 125, 64, 63, 73, [("_twin_re_1", 64), ("_special_chars_map", 73), ("_Example", 128), ("heappush", 38), ("heappop", 45), ("_siftdown", 52), ("_siftup", 59), ("translate", 71), ("escape", 83), ("_translate", 90), ("_join_translated_parts", 97), ("read_uint1", 104), ("read_string1", 111), ("_law_take", 139), ("_law_stream", 146), ("_law_counted", 153), ("_law_wish", 158), ("_law_halves", 163), ("_law_given", 170), ("_law_served", 175), ("_law_due", 180), ("_law_dressed", 187), ("_law_tests", 192), ("_law_takes", 197), ("law", 202)]⟩
noncomputable def initParts (p : Program) (c : Str) : Option (Arguments × FuncBody × Scope) := p.main.body.findSome? fun s => match s with
  | .ClassDef n _ _ (.FunctionDef _ as b _ _ _ sc _ _ _ :: _) .. => cond (n == c) (some (as, .stmts b, sc)) none
  | _ => none
noncomputable def vw : Program := view PySem.Challenge.pw_rx0126_02 [0, 2, 3, 4, 5, 8, 11, 13, 14, 16, 17, 18, 20, 21, 22, 23, 24, 25, 26, 27, 28, 29, 30, 31]
noncomputable def lo : List PySem.Str := ["_twin_re_1", "_special_chars_map"]
noncomputable def obsH (d : Ad) (s : Shared) : Bool × Option (Arguments × FuncBody × Scope) := (okH d s.heap, iniP s.heap d.fI)
noncomputable def hk2 : Hook where
  α := Bool × Option (Arguments × FuncBody × Scope)
  obs := obsH ad2
  val := fun _ => (true, initParts PySem.Challenge.pw_rx0126_02 "_Example")
  says := fun _ h => ∃ h₁ : Heap, (okH ad2 h₁ = true ∧ iniP h₁ ad2.fI = initParts PySem.Challenge.pw_rx0126_02 "_Example") ∧ ∀ b o, h₁.get? b = some o → h.get? b = some o
  of := fun w s x => ⟨s.heap, ⟨(Prod.mk.inj x).1, (Prod.mk.inj x).2⟩, fun _ _ e => e⟩
  keeps := fun w h h' x k => x.elim fun h₁ x => ⟨h₁, x.1, fun b o e => k _ _ (x.2 b o e)⟩
end Sh
namespace Sh
open PySem PySem.Calls PyProof.Rows PySem.W PySem.Spec
/- the worlds at the cuts, as a program of the kit prints them (tools/states.lean, tools/head.py) -/
abbrev pwH : Program := PySem.Challenge.pw_rx0126_02
abbrev psH (a b c d : Nat) : Pos := { line := a, col := b, endLine := c, endCol := d }
abbrev ps0 : Pos := psH 0 0 0 0
noncomputable def envT : Env := { scope := pwH.main.scope, locals := mainNs, globals := mainNs, cells := [], code := (.ref 30), frame := some 31 }
noncomputable def bT : List Stmt := behindTheImports pwH
noncomputable def cT : Code := .body bT envT
noncomputable def fnIn (n : Str) (s : Stmt) : Option (Arguments × List Stmt × Scope) := match s with
  | .FunctionDef m as b _ _ _ sc _ _ _ => cond (n == m) (some (as, b, sc)) none
  | _ => none
noncomputable def fnAt (n : Str) : Arguments × List Stmt × Scope := (bT.findSome? fun s => match s with
  | .ClassDef _ _ _ b .. => b.findSome? (fnIn n)
  | s => fnIn n s).getD default
noncomputable def mkF (n q : Str) (g : Addr) (cl : List (Str × Addr)) (df kd doc pm : Value) (an : Option Addr) (c ct : Value) (bl : Addr) : FuncData := ⟨n, q, (fnAt n).1, .stmts (fnAt n).2.1, (fnAt n).2.2, g, cl, df, kd, doc, pm, an, c, ct, bl⟩
noncomputable def ho0 (P : Params) : Obj := ⟨(.type "dict"), none, (.dict #[⟨PyData.keyHash P (Str.ofString "__name__"), (.str (Str.ofString "__name__") 1), (.str (Str.ofString "builtins") 160)⟩, ⟨PyData.keyHash P (Str.ofString "__doc__"), (.str (Str.ofString "__doc__") 2), (.builtin "builtins.__doc__:str#opaque")⟩, ⟨PyData.keyHash P (Str.ofString "__package__"), (.str (Str.ofString "__package__") 3), (.builtin "builtins.__package__:str#opaque")⟩, ⟨PyData.keyHash P (Str.ofString "__loader__"), (.str (Str.ofString "__loader__") 4), (.builtin "builtins.__loader__:shared#opaque")⟩, ⟨PyData.keyHash P (Str.ofString "__spec__"), (.str (Str.ofString "__spec__") 5), (.builtin "builtins.__spec__#opaque")⟩, ⟨PyData.keyHash P (Str.ofString "__build_class__"), (.str (Str.ofString "__build_class__") 6), (.builtin "__build_class__")⟩, ⟨PyData.keyHash P (⟨#[95, 95, 105, 109, 112, 111, 114, 116, 95, 95]⟩ : Str), (.str (⟨#[95, 95, 105, 109, 112, 111, 114, 116, 95, 95]⟩ : Str) 7), (.builtin "__import__")⟩, ⟨PyData.keyHash P (Str.ofString "abs"), (.str (Str.ofString "abs") 8), (.builtin "abs")⟩, ⟨PyData.keyHash P (Str.ofString "all"), (.str (Str.ofString "all") 9), (.builtin "all")⟩, ⟨PyData.keyHash P (Str.ofString "any"), (.str (Str.ofString "any") 10), (.builtin "any")⟩, ⟨PyData.keyHash P (Str.ofString "ascii"), (.str (Str.ofString "ascii") 11), (.builtin "ascii")⟩, ⟨PyData.keyHash P (Str.ofString "bin"), (.str (Str.ofString "bin") 12), (.builtin "bin")⟩, ⟨PyData.keyHash P (Str.ofString "breakpoint"), (.str (Str.ofString "breakpoint") 13), (.builtin "breakpoint")⟩, ⟨PyData.keyHash P (Str.ofString "callable"), (.str (Str.ofString "callable") 14), (.builtin "callable")⟩, ⟨PyData.keyHash P (Str.ofString "chr"), (.str (Str.ofString "chr") 15), (.builtin "chr")⟩, ⟨PyData.keyHash P (Str.ofString "compile"), (.str (Str.ofString "compile") 16), (.builtin "compile")⟩, ⟨PyData.keyHash P (Str.ofString "delattr"), (.str (Str.ofString "delattr") 17), (.builtin "delattr")⟩, ⟨PyData.keyHash P (Str.ofString "dir"), (.str (Str.ofString "dir") 18), (.builtin "dir")⟩, ⟨PyData.keyHash P (Str.ofString "divmod"), (.str (Str.ofString "divmod") 19), (.builtin "divmod")⟩, ⟨PyData.keyHash P (Str.ofString "eval"), (.str (Str.ofString "eval") 20), (.builtin "eval")⟩, ⟨PyData.keyHash P (Str.ofString "exec"), (.str (Str.ofString "exec") 21), (.builtin "exec")⟩, ⟨PyData.keyHash P (Str.ofString "format"), (.str (Str.ofString "format") 22), (.builtin "format")⟩, ⟨PyData.keyHash P (Str.ofString "getattr"), (.str (Str.ofString "getattr") 23), (.builtin "getattr")⟩, ⟨PyData.keyHash P (Str.ofString "globals"), (.str (Str.ofString "globals") 24), (.builtin "globals")⟩, ⟨PyData.keyHash P (Str.ofString "hasattr"), (.str (Str.ofString "hasattr") 25), (.builtin "hasattr")⟩, ⟨PyData.keyHash P (Str.ofString "hash"), (.str (Str.ofString "hash") 26), (.builtin "hash")⟩, ⟨PyData.keyHash P (Str.ofString "hex"), (.str (Str.ofString "hex") 27), (.builtin "hex")⟩, ⟨PyData.keyHash P (Str.ofString "id"), (.str (Str.ofString "id") 28), (.builtin "id")⟩, ⟨PyData.keyHash P (Str.ofString "input"), (.str (Str.ofString "input") 29), (.builtin "input")⟩, ⟨PyData.keyHash P (Str.ofString "isinstance"), (.str (Str.ofString "isinstance") 30), (.builtin "isinstance")⟩, ⟨PyData.keyHash P (Str.ofString "issubclass"), (.str (Str.ofString "issubclass") 31), (.builtin "issubclass")⟩, ⟨PyData.keyHash P (Str.ofString "iter"), (.str (Str.ofString "iter") 32), (.builtin "iter")⟩, ⟨PyData.keyHash P (Str.ofString "aiter"), (.str (Str.ofString "aiter") 33), (.builtin "aiter")⟩, ⟨PyData.keyHash P (Str.ofString "len"), (.str (Str.ofString "len") 34), (.builtin "len")⟩, ⟨PyData.keyHash P (Str.ofString "locals"), (.str (Str.ofString "locals") 35), (.builtin "locals")⟩, ⟨PyData.keyHash P (Str.ofString "max"), (.str (Str.ofString "max") 36), (.builtin "max")⟩, ⟨PyData.keyHash P (Str.ofString "min"), (.str (Str.ofString "min") 37), (.builtin "min")⟩, ⟨PyData.keyHash P (Str.ofString "next"), (.str (Str.ofString "next") 38), (.builtin "next")⟩, ⟨PyData.keyHash P (Str.ofString "anext"), (.str (Str.ofString "anext") 39), (.builtin "anext")⟩, ⟨PyData.keyHash P (Str.ofString "oct"), (.str (Str.ofString "oct") 40), (.builtin "oct")⟩, ⟨PyData.keyHash P (Str.ofString "ord"), (.str (Str.ofString "ord") 41), (.builtin "ord")⟩, ⟨PyData.keyHash P (Str.ofString "pow"), (.str (Str.ofString "pow") 42), (.builtin "pow")⟩, ⟨PyData.keyHash P (Str.ofString "print"), (.str (Str.ofString "print") 43), (.builtin "print")⟩, ⟨PyData.keyHash P (Str.ofString "repr"), (.str (Str.ofString "repr") 44), (.builtin "repr")⟩, ⟨PyData.keyHash P (Str.ofString "round"), (.str (Str.ofString "round") 45), (.builtin "round")⟩, ⟨PyData.keyHash P (Str.ofString "setattr"), (.str (Str.ofString "setattr") 46), (.builtin "setattr")⟩, ⟨PyData.keyHash P (Str.ofString "sorted"), (.str (Str.ofString "sorted") 47), (.builtin "sorted")⟩, ⟨PyData.keyHash P (Str.ofString "sum"), (.str (Str.ofString "sum") 48), (.builtin "sum")⟩, ⟨PyData.keyHash P (Str.ofString "vars"), (.str (Str.ofString "vars") 49), (.builtin "vars")⟩, ⟨PyData.keyHash P (Str.ofString "None"), (.str (Str.ofString "None") 50), .none⟩, ⟨PyData.keyHash P (Str.ofString "Ellipsis"), (.str (Str.ofString "Ellipsis") 51), .ellipsis⟩, ⟨PyData.keyHash P (Str.ofString "NotImplemented"), (.str (Str.ofString "NotImplemented") 52), .notImplemented⟩, ⟨PyData.keyHash P (Str.ofString "False"), (.str (Str.ofString "False") 53), (.bool false)⟩, ⟨PyData.keyHash P (Str.ofString "True"), (.str (Str.ofString "True") 54), (.bool true)⟩, ⟨PyData.keyHash P (Str.ofString "bool"), (.str (Str.ofString "bool") 55), (.type "bool")⟩, ⟨PyData.keyHash P (Str.ofString "memoryview"), (.str (Str.ofString "memoryview") 56), (.type "memoryview")⟩, ⟨PyData.keyHash P (Str.ofString "bytearray"), (.str (Str.ofString "bytearray") 57), (.type "bytearray")⟩, ⟨PyData.keyHash P (Str.ofString "bytes"), (.str (Str.ofString "bytes") 58), (.type "bytes")⟩, ⟨PyData.keyHash P (Str.ofString "classmethod"), (.str (Str.ofString "classmethod") 59), (.type "classmethod")⟩, ⟨PyData.keyHash P (Str.ofString "complex"), (.str (Str.ofString "complex") 60), (.type "complex")⟩, ⟨PyData.keyHash P (Str.ofString "dict"), (.str (Str.ofString "dict") 61), (.type "dict")⟩, ⟨PyData.keyHash P (Str.ofString "enumerate"), (.str (Str.ofString "enumerate") 62), (.type "enumerate")⟩, ⟨PyData.keyHash P (Str.ofString "filter"), (.str (Str.ofString "filter") 63), (.type "filter")⟩, ⟨PyData.keyHash P (Str.ofString "float"), (.str (Str.ofString "float") 64), (.type "float")⟩, ⟨PyData.keyHash P (Str.ofString "frozenset"), (.str (Str.ofString "frozenset") 65), (.type "frozenset")⟩, ⟨PyData.keyHash P (Str.ofString "property"), (.str (Str.ofString "property") 66), (.type "property")⟩, ⟨PyData.keyHash P (Str.ofString "int"), (.str (Str.ofString "int") 67), (.type "int")⟩, ⟨PyData.keyHash P (Str.ofString "list"), (.str (Str.ofString "list") 68), (.type "list")⟩, ⟨PyData.keyHash P (Str.ofString "map"), (.str (Str.ofString "map") 69), (.type "map")⟩, ⟨PyData.keyHash P (Str.ofString "object"), (.str (Str.ofString "object") 70), (.type "object")⟩, ⟨PyData.keyHash P (Str.ofString "range"), (.str (Str.ofString "range") 71), (.type "range")⟩, ⟨PyData.keyHash P (Str.ofString "reversed"), (.str (Str.ofString "reversed") 72), (.type "reversed")⟩, ⟨PyData.keyHash P (Str.ofString "set"), (.str (Str.ofString "set") 73), (.type "set")⟩, ⟨PyData.keyHash P (Str.ofString "slice"), (.str (Str.ofString "slice") 74), (.type "slice")⟩, ⟨PyData.keyHash P (Str.ofString "staticmethod"), (.str (Str.ofString "staticmethod") 75), (.type "staticmethod")⟩, ⟨PyData.keyHash P (Str.ofString "str"), (.str (Str.ofString "str") 76), (.type "str")⟩, ⟨PyData.keyHash P (Str.ofString "super"), (.str (Str.ofString "super") 77), (.type "super")⟩, ⟨PyData.keyHash P (Str.ofString "tuple"), (.str (Str.ofString "tuple") 78), (.type "tuple")⟩, ⟨PyData.keyHash P (Str.ofString "type"), (.str (Str.ofString "type") 79), (.type "type")⟩, ⟨PyData.keyHash P (Str.ofString "zip"), (.str (Str.ofString "zip") 80), (.type "zip")⟩, ⟨PyData.keyHash P (Str.ofString "__debug__"), (.str (Str.ofString "__debug__") 81), (.bool true)⟩, ⟨PyData.keyHash P (Str.ofString "BaseException"), (.str (Str.ofString "BaseException") 82), (.type "BaseException")⟩, ⟨PyData.keyHash P (Str.ofString "BaseExceptionGroup"), (.str (Str.ofString "BaseExceptionGroup") 83), (.type "BaseExceptionGroup")⟩, ⟨PyData.keyHash P (Str.ofString "Exception"), (.str (Str.ofString "Exception") 84), (.type "Exception")⟩, ⟨PyData.keyHash P (Str.ofString "GeneratorExit"), (.str (Str.ofString "GeneratorExit") 85), (.type "GeneratorExit")⟩, ⟨PyData.keyHash P (Str.ofString "KeyboardInterrupt"), (.str (Str.ofString "KeyboardInterrupt") 86), (.type "KeyboardInterrupt")⟩, ⟨PyData.keyHash P (Str.ofString "SystemExit"), (.str (Str.ofString "SystemExit") 87), (.type "SystemExit")⟩, ⟨PyData.keyHash P (Str.ofString "ArithmeticError"), (.str (Str.ofString "ArithmeticError") 88), (.type "ArithmeticError")⟩, ⟨PyData.keyHash P (Str.ofString "AssertionError"), (.str (Str.ofString "AssertionError") 89), (.type "AssertionError")⟩, ⟨PyData.keyHash P (Str.ofString "AttributeError"), (.str (Str.ofString "AttributeError") 90), (.type "AttributeError")⟩, ⟨PyData.keyHash P (Str.ofString "BufferError"), (.str (Str.ofString "BufferError") 91), (.type "BufferError")⟩, ⟨PyData.keyHash P (Str.ofString "EOFError"), (.str (Str.ofString "EOFError") 92), (.type "EOFError")⟩, ⟨PyData.keyHash P (Str.ofString "ImportError"), (.str (Str.ofString "ImportError") 93), (.type "ImportError")⟩, ⟨PyData.keyHash P (Str.ofString "LookupError"), (.str (Str.ofString "LookupError") 94), (.type "LookupError")⟩, ⟨PyData.keyHash P (Str.ofString "MemoryError"), (.str (Str.ofString "MemoryError") 95), (.type "MemoryError")⟩, ⟨PyData.keyHash P (Str.ofString "NameError"), (.str (Str.ofString "NameError") 96), (.type "NameError")⟩, ⟨PyData.keyHash P (Str.ofString "OSError"), (.str (Str.ofString "OSError") 97), (.type "OSError")⟩, ⟨PyData.keyHash P (Str.ofString "ReferenceError"), (.str (Str.ofString "ReferenceError") 98), (.type "ReferenceError")⟩, ⟨PyData.keyHash P (Str.ofString "RuntimeError"), (.str (Str.ofString "RuntimeError") 99), (.type "RuntimeError")⟩, ⟨PyData.keyHash P (Str.ofString "StopAsyncIteration"), (.str (Str.ofString "StopAsyncIteration") 100), (.type "StopAsyncIteration")⟩, ⟨PyData.keyHash P (Str.ofString "StopIteration"), (.str (Str.ofString "StopIteration") 101), (.type "StopIteration")⟩, ⟨PyData.keyHash P (Str.ofString "SyntaxError"), (.str (Str.ofString "SyntaxError") 102), (.type "SyntaxError")⟩, ⟨PyData.keyHash P (Str.ofString "SystemError"), (.str (Str.ofString "SystemError") 103), (.type "SystemError")⟩, ⟨PyData.keyHash P (Str.ofString "TypeError"), (.str (Str.ofString "TypeError") 104), (.type "TypeError")⟩, ⟨PyData.keyHash P (Str.ofString "ValueError"), (.str (Str.ofString "ValueError") 105), (.type "ValueError")⟩, ⟨PyData.keyHash P (Str.ofString "Warning"), (.str (Str.ofString "Warning") 106), (.type "Warning")⟩, ⟨PyData.keyHash P (Str.ofString "FloatingPointError"), (.str (Str.ofString "FloatingPointError") 107), (.type "FloatingPointError")⟩, ⟨PyData.keyHash P (Str.ofString "OverflowError"), (.str (Str.ofString "OverflowError") 108), (.type "OverflowError")⟩, ⟨PyData.keyHash P (Str.ofString "ZeroDivisionError"), (.str (Str.ofString "ZeroDivisionError") 109), (.type "ZeroDivisionError")⟩, ⟨PyData.keyHash P (Str.ofString "BytesWarning"), (.str (Str.ofString "BytesWarning") 110), (.type "BytesWarning")⟩, ⟨PyData.keyHash P (Str.ofString "DeprecationWarning"), (.str (Str.ofString "DeprecationWarning") 111), (.type "DeprecationWarning")⟩, ⟨PyData.keyHash P (Str.ofString "EncodingWarning"), (.str (Str.ofString "EncodingWarning") 112), (.type "EncodingWarning")⟩, ⟨PyData.keyHash P (Str.ofString "FutureWarning"), (.str (Str.ofString "FutureWarning") 113), (.type "FutureWarning")⟩, ⟨PyData.keyHash P (Str.ofString "ImportWarning"), (.str (Str.ofString "ImportWarning") 114), (.type "ImportWarning")⟩, ⟨PyData.keyHash P (Str.ofString "PendingDeprecationWarning"), (.str (Str.ofString "PendingDeprecationWarning") 115), (.type "PendingDeprecationWarning")⟩, ⟨PyData.keyHash P (Str.ofString "ResourceWarning"), (.str (Str.ofString "ResourceWarning") 116), (.type "ResourceWarning")⟩, ⟨PyData.keyHash P (Str.ofString "RuntimeWarning"), (.str (Str.ofString "RuntimeWarning") 117), (.type "RuntimeWarning")⟩, ⟨PyData.keyHash P (Str.ofString "SyntaxWarning"), (.str (Str.ofString "SyntaxWarning") 118), (.type "SyntaxWarning")⟩, ⟨PyData.keyHash P (Str.ofString "UnicodeWarning"), (.str (Str.ofString "UnicodeWarning") 119), (.type "UnicodeWarning")⟩, ⟨PyData.keyHash P (Str.ofString "UserWarning"), (.str (Str.ofString "UserWarning") 120), (.type "UserWarning")⟩, ⟨PyData.keyHash P (Str.ofString "BlockingIOError"), (.str (Str.ofString "BlockingIOError") 121), (.type "BlockingIOError")⟩, ⟨PyData.keyHash P (Str.ofString "ChildProcessError"), (.str (Str.ofString "ChildProcessError") 122), (.type "ChildProcessError")⟩, ⟨PyData.keyHash P (Str.ofString "ConnectionError"), (.str (Str.ofString "ConnectionError") 123), (.type "ConnectionError")⟩, ⟨PyData.keyHash P (Str.ofString "FileExistsError"), (.str (Str.ofString "FileExistsError") 124), (.type "FileExistsError")⟩, ⟨PyData.keyHash P (Str.ofString "FileNotFoundError"), (.str (Str.ofString "FileNotFoundError") 125), (.type "FileNotFoundError")⟩, ⟨PyData.keyHash P (Str.ofString "InterruptedError"), (.str (Str.ofString "InterruptedError") 126), (.type "InterruptedError")⟩, ⟨PyData.keyHash P (Str.ofString "IsADirectoryError"), (.str (Str.ofString "IsADirectoryError") 127), (.type "IsADirectoryError")⟩, ⟨PyData.keyHash P (Str.ofString "NotADirectoryError"), (.str (Str.ofString "NotADirectoryError") 128), (.type "NotADirectoryError")⟩, ⟨PyData.keyHash P (Str.ofString "PermissionError"), (.str (Str.ofString "PermissionError") 129), (.type "PermissionError")⟩, ⟨PyData.keyHash P (Str.ofString "ProcessLookupError"), (.str (Str.ofString "ProcessLookupError") 130), (.type "ProcessLookupError")⟩, ⟨PyData.keyHash P (Str.ofString "TimeoutError"), (.str (Str.ofString "TimeoutError") 131), (.type "TimeoutError")⟩, ⟨PyData.keyHash P (Str.ofString "IndentationError"), (.str (Str.ofString "IndentationError") 132), (.type "IndentationError")⟩, ⟨PyData.keyHash P (Str.ofString "_IncompleteInputError"), (.str (Str.ofString "_IncompleteInputError") 133), (.type "_IncompleteInputError")⟩, ⟨PyData.keyHash P (Str.ofString "IndexError"), (.str (Str.ofString "IndexError") 134), (.type "IndexError")⟩, ⟨PyData.keyHash P (Str.ofString "KeyError"), (.str (Str.ofString "KeyError") 135), (.type "KeyError")⟩, ⟨PyData.keyHash P (Str.ofString "ModuleNotFoundError"), (.str (Str.ofString "ModuleNotFoundError") 136), (.type "ModuleNotFoundError")⟩, ⟨PyData.keyHash P (Str.ofString "NotImplementedError"), (.str (Str.ofString "NotImplementedError") 137), (.type "NotImplementedError")⟩, ⟨PyData.keyHash P (Str.ofString "PythonFinalizationError"), (.str (Str.ofString "PythonFinalizationError") 138), (.type "PythonFinalizationError")⟩, ⟨PyData.keyHash P (Str.ofString "RecursionError"), (.str (Str.ofString "RecursionError") 139), (.type "RecursionError")⟩, ⟨PyData.keyHash P (Str.ofString "UnboundLocalError"), (.str (Str.ofString "UnboundLocalError") 140), (.type "UnboundLocalError")⟩, ⟨PyData.keyHash P (Str.ofString "UnicodeError"), (.str (Str.ofString "UnicodeError") 141), (.type "UnicodeError")⟩, ⟨PyData.keyHash P (Str.ofString "BrokenPipeError"), (.str (Str.ofString "BrokenPipeError") 142), (.type "BrokenPipeError")⟩, ⟨PyData.keyHash P (Str.ofString "ConnectionAbortedError"), (.str (Str.ofString "ConnectionAbortedError") 143), (.type "ConnectionAbortedError")⟩, ⟨PyData.keyHash P (Str.ofString "ConnectionRefusedError"), (.str (Str.ofString "ConnectionRefusedError") 144), (.type "ConnectionRefusedError")⟩, ⟨PyData.keyHash P (Str.ofString "ConnectionResetError"), (.str (Str.ofString "ConnectionResetError") 145), (.type "ConnectionResetError")⟩, ⟨PyData.keyHash P (Str.ofString "TabError"), (.str (Str.ofString "TabError") 146), (.type "TabError")⟩, ⟨PyData.keyHash P (Str.ofString "UnicodeDecodeError"), (.str (Str.ofString "UnicodeDecodeError") 147), (.type "UnicodeDecodeError")⟩, ⟨PyData.keyHash P (Str.ofString "UnicodeEncodeError"), (.str (Str.ofString "UnicodeEncodeError") 148), (.type "UnicodeEncodeError")⟩, ⟨PyData.keyHash P (Str.ofString "UnicodeTranslateError"), (.str (Str.ofString "UnicodeTranslateError") 149), (.type "UnicodeTranslateError")⟩, ⟨PyData.keyHash P (Str.ofString "ExceptionGroup"), (.str (Str.ofString "ExceptionGroup") 150), (.type "ExceptionGroup")⟩, ⟨PyData.keyHash P (Str.ofString "EnvironmentError"), (.str (Str.ofString "EnvironmentError") 151), (.type "OSError")⟩, ⟨PyData.keyHash P (Str.ofString "IOError"), (.str (Str.ofString "IOError") 152), (.type "OSError")⟩, ⟨PyData.keyHash P (Str.ofString "open"), (.str (Str.ofString "open") 153), (.builtin "open")⟩, ⟨PyData.keyHash P (Str.ofString "quit"), (.str (Str.ofString "quit") 154), (.builtin "builtins.quit#opaque")⟩, ⟨PyData.keyHash P (Str.ofString "exit"), (.str (Str.ofString "exit") 155), (.builtin "builtins.exit#opaque")⟩, ⟨PyData.keyHash P (Str.ofString "copyright"), (.str (Str.ofString "copyright") 156), (.builtin "builtins.copyright#opaque")⟩, ⟨PyData.keyHash P (Str.ofString "credits"), (.str (Str.ofString "credits") 157), (.builtin "builtins.credits#opaque")⟩, ⟨PyData.keyHash P (Str.ofString "license"), (.str (Str.ofString "license") 158), (.builtin "builtins.license#opaque")⟩, ⟨PyData.keyHash P (Str.ofString "help"), (.str (Str.ofString "help") 159), (.builtin "builtins.help#opaque")⟩] 159), #[]⟩
noncomputable def ho1 (P : Params) : Obj := ⟨(.type "dict"), none, (.dict #[⟨PyData.keyHash P (Str.ofString "builtins"), (.str (Str.ofString "builtins") 162), (.ref 4)⟩, ⟨PyData.keyHash P (Str.ofString "__main__"), (.str (Str.ofString "__main__") 163), (.ref 5)⟩, ⟨PyData.keyHash P (Str.ofString "_sre"), (.str (Str.ofString "_sre") 244), (.ref 12)⟩] 3), #[]⟩
noncomputable def ho2 (P : Params) : Obj := ⟨.none, none, (.dict #[⟨PyData.keyHash P (⟨#[105, 109, 112, 111, 114, 116, 46, 108, 111, 97, 100, 101, 100, 46, 95, 115, 114, 101]⟩ : Str), (.str (⟨#[105, 109, 112, 111, 114, 116, 46, 108, 111, 97, 100, 101, 100, 46, 95, 115, 114, 101]⟩ : Str) 183), (.bool true)⟩, ⟨PyData.keyHash P (⟨#[99, 108, 97, 115, 115, 46, 95, 102, 114, 111, 122, 101, 110, 95, 105, 109, 112, 111, 114, 116, 108, 105, 98, 46, 66, 117, 105, 108, 116, 105, 110, 73, 109, 112, 111, 114, 116, 101, 114]⟩ : Str), (.str (⟨#[99, 108, 97, 115, 115, 46, 95, 102, 114, 111, 122, 101, 110, 95, 105, 109, 112, 111, 114, 116, 108, 105, 98, 46, 66, 117, 105, 108, 116, 105, 110, 73, 109, 112, 111, 114, 116, 101, 114]⟩ : Str) 185), (.ref 14)⟩, ⟨PyData.keyHash P (⟨#[119, 97, 116, 99, 104, 101, 100, 46, 105, 109, 112, 111, 114, 116]⟩ : Str), (.str (⟨#[119, 97, 116, 99, 104, 101, 100, 46, 105, 109, 112, 111, 114, 116]⟩ : Str) 206), (.ref 18)⟩, ⟨PyData.keyHash P (⟨#[99, 108, 97, 115, 115, 46, 95, 102, 114, 111, 122, 101, 110, 95, 105, 109, 112, 111, 114, 116, 108, 105, 98, 46, 77, 111, 100, 117, 108, 101, 83, 112, 101, 99]⟩ : Str), (.str (⟨#[99, 108, 97, 115, 115, 46, 95, 102, 114, 111, 122, 101, 110, 95, 105, 109, 112, 111, 114, 116, 108, 105, 98, 46, 77, 111, 100, 117, 108, 101, 83, 112, 101, 99]⟩ : Str) 216), (.ref 22)⟩, ⟨PyData.keyHash P (Str.ofString "sys.modules.booked-epoch"), (.str (Str.ofString "sys.modules.booked-epoch") 245), (.int 3 0)⟩, ⟨PyData.keyHash P (⟨#[105, 109, 112, 111, 114, 116, 46, 108, 97, 116, 101, 114, 45, 108, 97, 105, 100, 46, 95, 115, 114, 101]⟩ : Str), (.str (⟨#[105, 109, 112, 111, 114, 116, 46, 108, 97, 116, 101, 114, 45, 108, 97, 105, 100, 46, 95, 115, 114, 101]⟩ : Str) 270), (.bool true)⟩, ⟨PyData.keyHash P (Str.ofString "watched.library"), (.str (Str.ofString "watched.library") 272), (.ref 27)⟩, ⟨PyData.keyHash P (Str.ofString "watched.library-objects"), (.str (Str.ofString "watched.library-objects") 0), (.str (⟨#[12]⟩ : Str) 0)⟩, ⟨PyData.keyHash P (Str.ofString "watched.library-deep._sre"), (.str (Str.ofString "watched.library-deep._sre") 273), (.str (⟨#[4, 0, 0, 11, 4, 0, 0, 11, 4, 0, 0, 3, 4, 0, 0, 11, 8, 4, 100, 105, 99, 116, 2]⟩ : Str) 0)⟩] 9), #[]⟩
noncomputable def ho3 (P : Params) : Obj := ⟨(.type "dict"), none, (.dict #[⟨PyData.keyHash P (Str.ofString "__name__"), (.str (Str.ofString "__name__") 165), (.str (Str.ofString "__main__") 164)⟩, ⟨PyData.keyHash P (Str.ofString "__doc__"), (.str (Str.ofString "__doc__") 166), .none⟩, ⟨PyData.keyHash P (Str.ofString "__package__"), (.str (Str.ofString "__package__") 167), .none⟩, ⟨PyData.keyHash P (Str.ofString "__loader__"), (.str (Str.ofString "__loader__") 168), (.builtin "__main__.__loader__#opaque")⟩, ⟨PyData.keyHash P (Str.ofString "__spec__"), (.str (Str.ofString "__spec__") 169), .none⟩, ⟨PyData.keyHash P (Str.ofString "__annotations__"), (.str (Str.ofString "__annotations__") 170), (.ref 6)⟩, ⟨PyData.keyHash P (Str.ofString "__builtins__"), (.str (Str.ofString "__builtins__") 171), (.ref 4)⟩, ⟨PyData.keyHash P (Str.ofString "__file__"), (.str (Str.ofString "__file__") 173), (.str (Str.ofString "/claim/cut.py") 172)⟩, ⟨PyData.keyHash P (Str.ofString "__cached__"), (.str (Str.ofString "__cached__") 174), .none⟩, ⟨PyData.keyHash P (Str.ofString "_sre"), (.str (Str.ofString "_sre") 275), (.ref 12)⟩] 10), #[]⟩
noncomputable def ho4 (P : Params) : Obj := ⟨(.type "module"), (some 0), .plain, #[]⟩
noncomputable def ho5 (P : Params) : Obj := ⟨(.type "module"), (some 3), .plain, #[]⟩
noncomputable def ho6 (P : Params) : Obj := ⟨(.type "dict"), none, (.dict #[] 0), #[]⟩
noncomputable def ho7 (P : Params) : Obj := ⟨(.type "tuple"), none, (.seq #[] 0), #[]⟩
noncomputable def ho8 (P : Params) : Obj := ⟨.none, none, (.fields #[]), #[]⟩
noncomputable def ho9 (P : Params) : Obj := ⟨(.type "code"), none, (.fields #[(.str (Str.ofString "<module>") 176), (.str (Str.ofString "<module>") 177), (.str (Str.ofString "/claim/cut.py") 178), (.int 1 0), (.int 0 0), (.int 0 0), (.int 0 0), (.int 0 0), (.ref 7), (.bool false), (.int 175 0), (.ref 8), .none, .none, .none, .none, (.int 179 0), (.int 1 0), (.str (Str.ofString "/claim/cut.py") 180)]), #[]⟩
noncomputable def ho10 (P : Params) : Obj := ⟨(.type "frame"), none, .plain, #[(some (.ref 9)), (some (.ref 3)), (some (.ref 3)), none, (some (.str (Str.ofString "__main__") 164)), none, (some (.ref 0))]⟩
noncomputable def ho11 (P : Params) : Obj := ⟨(.type "dict"), none, (.dict #[⟨PyData.keyHash P (Str.ofString "__name__"), (.str (Str.ofString "__name__") 247), (.str (Str.ofString "_sre") 246)⟩, ⟨PyData.keyHash P (Str.ofString "__doc__"), (.str (Str.ofString "__doc__") 248), .none⟩, ⟨PyData.keyHash P (Str.ofString "__package__"), (.str (Str.ofString "__package__") 250), (.str (Str.ofString "") 249)⟩, ⟨PyData.keyHash P (Str.ofString "__loader__"), (.str (Str.ofString "__loader__") 251), (.builtin "off-the-table:_sre.__loader__:shared#opaque")⟩, ⟨PyData.keyHash P (Str.ofString "__spec__"), (.str (Str.ofString "__spec__") 252), (.builtin "off-the-table:_sre.__spec__:shared#opaque")⟩, ⟨PyData.keyHash P (Str.ofString "compile"), (.str (Str.ofString "compile") 253), (.builtin "_sre.compile")⟩, ⟨PyData.keyHash P (Str.ofString "template"), (.str (Str.ofString "template") 254), (.builtin "off-the-table:_sre.template:shared#opaque")⟩, ⟨PyData.keyHash P (Str.ofString "getcodesize"), (.str (Str.ofString "getcodesize") 255), (.builtin "off-the-table:_sre.getcodesize:shared#opaque")⟩, ⟨PyData.keyHash P (Str.ofString "ascii_iscased"), (.str (Str.ofString "ascii_iscased") 256), (.builtin "off-the-table:_sre.ascii_iscased:shared#opaque")⟩, ⟨PyData.keyHash P (Str.ofString "unicode_iscased"), (.str (Str.ofString "unicode_iscased") 257), (.builtin "off-the-table:_sre.unicode_iscased:shared#opaque")⟩, ⟨PyData.keyHash P (Str.ofString "ascii_tolower"), (.str (Str.ofString "ascii_tolower") 258), (.builtin "off-the-table:_sre.ascii_tolower:shared#opaque")⟩, ⟨PyData.keyHash P (Str.ofString "unicode_tolower"), (.str (Str.ofString "unicode_tolower") 259), (.builtin "off-the-table:_sre.unicode_tolower:shared#opaque")⟩, ⟨PyData.keyHash P (Str.ofString "MAGIC"), (.str (Str.ofString "MAGIC") 261), (.int 20230612 260)⟩, ⟨PyData.keyHash P (Str.ofString "CODESIZE"), (.str (Str.ofString "CODESIZE") 263), (.int 4 262)⟩, ⟨PyData.keyHash P (Str.ofString "MAXREPEAT"), (.str (Str.ofString "MAXREPEAT") 265), (.int 4294967295 264)⟩, ⟨PyData.keyHash P (Str.ofString "MAXGROUPS"), (.str (Str.ofString "MAXGROUPS") 267), (.int 1073741823 266)⟩, ⟨PyData.keyHash P (Str.ofString "copyright"), (.str (Str.ofString "copyright") 269), (.str (Str.ofString " SRE 2.2.2 Copyright (c) 1997-2002 by Secret Labs AB ") 268)⟩] 17), #[]⟩
noncomputable def ho12 (P : Params) : Obj := ⟨(.type "module"), (some 11), .plain, #[]⟩
noncomputable def ho13 (P : Params) : Obj := ⟨(.type "dict"), none, (.dict #[⟨PyData.keyHash P (Str.ofString "__module__"), (.str (Str.ofString "__module__") 189), (.str (⟨#[95, 102, 114, 111, 122, 101, 110, 95, 105, 109, 112, 111, 114, 116, 108, 105, 98]⟩ : Str) 186)⟩, ⟨PyData.keyHash P (Str.ofString "__firstlineno__"), (.str (Str.ofString "__firstlineno__") 190), (.int 971 187)⟩, ⟨PyData.keyHash P (Str.ofString "__doc__"), (.str (Str.ofString "__doc__") 191), (.builtin "_frozen_importlib.BuiltinImporter.__doc__:str#opaque")⟩, ⟨PyData.keyHash P (Str.ofString "_ORIGIN"), (.str (Str.ofString "_ORIGIN") 192), (.str (Str.ofString "built-in") 188)⟩, ⟨PyData.keyHash P (Str.ofString "find_spec"), (.str (Str.ofString "find_spec") 193), (.builtin "_frozen_importlib.BuiltinImporter.find_spec#opaque")⟩, ⟨PyData.keyHash P (Str.ofString "create_module"), (.str (Str.ofString "create_module") 194), (.builtin "_frozen_importlib.BuiltinImporter.create_module#opaque")⟩, ⟨PyData.keyHash P (Str.ofString "exec_module"), (.str (Str.ofString "exec_module") 195), (.builtin "_frozen_importlib.BuiltinImporter.exec_module#opaque")⟩, ⟨PyData.keyHash P (Str.ofString "get_code"), (.str (Str.ofString "get_code") 196), (.builtin "_frozen_importlib.BuiltinImporter.get_code#opaque")⟩, ⟨PyData.keyHash P (Str.ofString "get_source"), (.str (Str.ofString "get_source") 197), (.builtin "_frozen_importlib.BuiltinImporter.get_source#opaque")⟩, ⟨PyData.keyHash P (Str.ofString "is_package"), (.str (Str.ofString "is_package") 198), (.builtin "_frozen_importlib.BuiltinImporter.is_package#opaque")⟩, ⟨PyData.keyHash P (Str.ofString "load_module"), (.str (Str.ofString "load_module") 199), (.builtin "_frozen_importlib.BuiltinImporter.load_module#opaque")⟩, ⟨PyData.keyHash P (Str.ofString "__static_attributes__"), (.str (Str.ofString "__static_attributes__") 200), (.ref 15)⟩, ⟨PyData.keyHash P (Str.ofString "__dict__"), (.str (Str.ofString "__dict__") 202), (.ref 16)⟩, ⟨PyData.keyHash P (Str.ofString "__weakref__"), (.str (Str.ofString "__weakref__") 204), (.ref 17)⟩] 14), #[]⟩
noncomputable def ho14 (P : Params) : Obj := ⟨(.type "type"), none, (.cls { name := (Str.ofString "BuiltinImporter"), bases := [(.type "object")], mro := [(.ref 14), (.type "object")], ns := 13, qualname := (Str.ofString "BuiltinImporter"), hasDict := true, slotNames := [], subclasses := [], abstract := false, collection := none, hasDel := false }), #[]⟩
noncomputable def ho15 (P : Params) : Obj := ⟨(.type "getset_descriptor"), none, (.fields #[(.str (Str.ofString "__dict__") 201), (.ref 14), (.builtin "function.__dict__"), (.builtin "function.__dict__#set")]), #[]⟩
noncomputable def ho16 (P : Params) : Obj := ⟨(.type "getset_descriptor"), none, (.fields #[(.str (Str.ofString "__weakref__") 203), (.ref 14), (.builtin "ExceptionGroup.__weakref__"), .none]), #[]⟩
noncomputable def ho17 (P : Params) : Obj := ⟨.none, none, (.seq #[(.int 13 0), (.str (⟨#[6, 189, 10, 95, 95, 109, 111, 100, 117, 108, 101, 95, 95, 6, 186, 17, 95, 102, 114, 111, 122, 101, 110, 95, 105, 109, 112, 111, 114, 116, 108, 105, 98, 6, 190, 15, 95, 95, 102, 105, 114, 115, 116, 108, 105, 110, 101, 110, 111, 95, 95, 4, 187, 0, 971, 6, 191, 7, 95, 95, 100, 111, 99, 95, 95, 9, 52, 95, 102, 114, 111, 122, 101, 110, 95, 105, 109, 112, 111, 114, 116, 108, 105, 98, 46, 66, 117, 105, 108, 116, 105, 110, 73, 109, 112, 111, 114, 116, 101, 114, 46, 95, 95, 100, 111, 99, 95, 95, 58, 115, 116, 114, 35, 111, 112, 97, 113, 117, 101, 6, 192, 7, 95, 79, 82, 73, 71, 73, 78, 6, 188, 8, 98, 117, 105, 108, 116, 45, 105, 110, 6, 193, 9, 102, 105, 110, 100, 95, 115, 112, 101, 99, 9, 50, 95, 102, 114, 111, 122, 101, 110, 95, 105, 109, 112, 111, 114, 116, 108, 105, 98, 46, 66, 117, 105, 108, 116, 105, 110, 73, 109, 112, 111, 114, 116, 101, 114, 46, 102, 105, 110, 100, 95, 115, 112, 101, 99, 35, 111, 112, 97, 113, 117, 101, 6, 194, 13, 99, 114, 101, 97, 116, 101, 95, 109, 111, 100, 117, 108, 101, 9, 54, 95, 102, 114, 111, 122, 101, 110, 95, 105, 109, 112, 111, 114, 116, 108, 105, 98, 46, 66, 117, 105, 108, 116, 105, 110, 73, 109, 112, 111, 114, 116, 101, 114, 46, 99, 114, 101, 97, 116, 101, 95, 109, 111, 100, 117, 108, 101, 35, 111, 112, 97, 113, 117, 101, 6, 195, 11, 101, 120, 101, 99, 95, 109, 111, 100, 117, 108, 101, 9, 52, 95, 102, 114, 111, 122, 101, 110, 95, 105, 109, 112, 111, 114, 116, 108, 105, 98, 46, 66, 117, 105, 108, 116, 105, 110, 73, 109, 112, 111, 114, 116, 101, 114, 46, 101, 120, 101, 99, 95, 109, 111, 100, 117, 108, 101, 35, 111, 112, 97, 113, 117, 101, 6, 196, 8, 103, 101, 116, 95, 99, 111, 100, 101, 9, 49, 95, 102, 114, 111, 122, 101, 110, 95, 105, 109, 112, 111, 114, 116, 108, 105, 98, 46, 66, 117, 105, 108, 116, 105, 110, 73, 109, 112, 111, 114, 116, 101, 114, 46, 103, 101, 116, 95, 99, 111, 100, 101, 35, 111, 112, 97, 113, 117, 101, 6, 197, 10, 103, 101, 116, 95, 115, 111, 117, 114, 99, 101, 9, 51, 95, 102, 114, 111, 122, 101, 110, 95, 105, 109, 112, 111, 114, 116, 108, 105, 98, 46, 66, 117, 105, 108, 116, 105, 110, 73, 109, 112, 111, 114, 116, 101, 114, 46, 103, 101, 116, 95, 115, 111, 117, 114, 99, 101, 35, 111, 112, 97, 113, 117, 101, 6, 198, 10, 105, 115, 95, 112, 97, 99, 107, 97, 103, 101, 9, 51, 95, 102, 114, 111, 122, 101, 110, 95, 105, 109, 112, 111, 114, 116, 108, 105, 98, 46, 66, 117, 105, 108, 116, 105, 110, 73, 109, 112, 111, 114, 116, 101, 114, 46, 105, 115, 95, 112, 97, 99, 107, 97, 103, 101, 35, 111, 112, 97, 113, 117, 101, 6, 199, 11, 108, 111, 97, 100, 95, 109, 111, 100, 117, 108, 101, 9, 52, 95, 102, 114, 111, 122, 101, 110, 95, 105, 109, 112, 111, 114, 116, 108, 105, 98, 46, 66, 117, 105, 108, 116, 105, 110, 73, 109, 112, 111, 114, 116, 101, 114, 46, 108, 111, 97, 100, 95, 109, 111, 100, 117, 108, 101, 35, 111, 112, 97, 113, 117, 101, 6, 200, 21, 95, 95, 115, 116, 97, 116, 105, 99, 95, 97, 116, 116, 114, 105, 98, 117, 116, 101, 115, 95, 95, 4, 0, 0, 15, 6, 202, 8, 95, 95, 100, 105, 99, 116, 95, 95, 4, 0, 0, 16, 6, 204, 11, 95, 95, 119, 101, 97, 107, 114, 101, 102, 95, 95, 4, 0, 0, 17]⟩ : Str) 0), (.bool true), (.bool true), (.str (Str.ofString "") 205), (.int 21 0), (.str (⟨#[6, 227, 10, 95, 95, 109, 111, 100, 117, 108, 101, 95, 95, 6, 217, 17, 95, 102, 114, 111, 122, 101, 110, 95, 105, 109, 112, 111, 114, 116, 108, 105, 98, 6, 228, 15, 95, 95, 102, 105, 114, 115, 116, 108, 105, 110, 101, 110, 111, 95, 95, 4, 218, 0, 562, 6, 229, 7, 95, 95, 100, 111, 99, 95, 95, 9, 47, 95, 102, 114, 111, 122, 101, 110, 95, 105, 109, 112, 111, 114, 116, 108, 105, 98, 46, 77, 111, 100, 117, 108, 101, 83, 112, 101, 99, 46, 95, 95, 100, 111, 99, 95, 95, 58, 115, 116, 114, 35, 111, 112, 97, 113, 117, 101, 6, 230, 8, 95, 95, 105, 110, 105, 116, 95, 95, 9, 44, 95, 102, 114, 111, 122, 101, 110, 95, 105, 109, 112, 111, 114, 116, 108, 105, 98, 46, 77, 111, 100, 117, 108, 101, 83, 112, 101, 99, 46, 95, 95, 105, 110, 105, 116, 95, 95, 35, 111, 112, 97, 113, 117, 101, 6, 231, 8, 95, 95, 114, 101, 112, 114, 95, 95, 9, 44, 95, 102, 114, 111, 122, 101, 110, 95, 105, 109, 112, 111, 114, 116, 108, 105, 98, 46, 77, 111, 100, 117, 108, 101, 83, 112, 101, 99, 46, 95, 95, 114, 101, 112, 114, 95, 95, 35, 111, 112, 97, 113, 117, 101, 6, 232, 6, 95, 95, 101, 113, 95, 95, 9, 42, 95, 102, 114, 111, 122, 101, 110, 95, 105, 109, 112, 111, 114, 116, 108, 105, 98, 46, 77, 111, 100, 117, 108, 101, 83, 112, 101, 99, 46, 95, 95, 101, 113, 95, 95, 35, 111, 112, 97, 113, 117, 101, 6, 233, 6, 99, 97, 99, 104, 101, 100, 9, 42, 95, 102, 114, 111, 122, 101, 110, 95, 105, 109, 112, 111, 114, 116, 108, 105, 98, 46, 77, 111, 100, 117, 108, 101, 83, 112, 101, 99, 46, 99, 97, 99, 104, 101, 100, 35, 111, 112, 97, 113, 117, 101, 6, 234, 6, 112, 97, 114, 101, 110, 116, 9, 42, 95, 102, 114, 111, 122, 101, 110, 95, 105, 109, 112, 111, 114, 116, 108, 105, 98, 46, 77, 111, 100, 117, 108, 101, 83, 112, 101, 99, 46, 112, 97, 114, 101, 110, 116, 35, 111, 112, 97, 113, 117, 101, 6, 235, 12, 104, 97, 115, 95, 108, 111, 99, 97, 116, 105, 111, 110, 9, 48, 95, 102, 114, 111, 122, 101, 110, 95, 105, 109, 112, 111, 114, 116, 108, 105, 98, 46, 77, 111, 100, 117, 108, 101, 83, 112, 101, 99, 46, 104, 97, 115, 95, 108, 111, 99, 97, 116, 105, 111, 110, 35, 111, 112, 97, 113, 117, 101, 6, 236, 21, 95, 95, 115, 116, 97, 116, 105, 99, 95, 97, 116, 116, 114, 105, 98, 117, 116, 101, 115, 95, 95, 4, 0, 0, 23, 6, 238, 8, 95, 95, 100, 105, 99, 116, 95, 95, 4, 0, 0, 24, 6, 240, 11, 95, 95, 119, 101, 97, 107, 114, 101, 102, 95, 95, 4, 0, 0, 25, 6, 241, 8, 95, 95, 104, 97, 115, 104, 95, 95, 0]⟩ : Str) 0), (.bool true), (.bool true), (.str (Str.ofString "") 242)] 1), #[]⟩
noncomputable def ho18 (P : Params) : Obj := ⟨(.type "list"), none, (.seq #[] 0), #[]⟩
noncomputable def ho19 (P : Params) : Obj := ⟨(.type "dict"), none, (.dict #[⟨PyData.keyHash P (Str.ofString "name"), (.str (Str.ofString "name") 208), (.str (Str.ofString "_sre") 207)⟩, ⟨PyData.keyHash P (Str.ofString "loader"), (.str (Str.ofString "loader") 209), (.ref 14)⟩, ⟨PyData.keyHash P (Str.ofString "origin"), (.str (Str.ofString "origin") 210), (.str (Str.ofString "built-in") 184)⟩, ⟨PyData.keyHash P (Str.ofString "loader_state"), (.str (Str.ofString "loader_state") 211), .none⟩, ⟨PyData.keyHash P (Str.ofString "submodule_search_locations"), (.str (Str.ofString "submodule_search_locations") 212), .none⟩, ⟨PyData.keyHash P (Str.ofString "_uninitialized_submodules"), (.str (Str.ofString "_uninitialized_submodules") 213), (.ref 19)⟩, ⟨PyData.keyHash P (Str.ofString "_set_fileattr"), (.str (Str.ofString "_set_fileattr") 214), (.bool false)⟩, ⟨PyData.keyHash P (Str.ofString "_cached"), (.str (Str.ofString "_cached") 215), .none⟩, ⟨PyData.keyHash P (Str.ofString "_initializing"), (.str (Str.ofString "_initializing") 243), (.bool false)⟩] 9), #[]⟩
noncomputable def ho20 (P : Params) : Obj := ⟨(.type "dict"), none, (.dict #[⟨PyData.keyHash P (Str.ofString "__module__"), (.str (Str.ofString "__module__") 227), (.str (⟨#[95, 102, 114, 111, 122, 101, 110, 95, 105, 109, 112, 111, 114, 116, 108, 105, 98]⟩ : Str) 217)⟩, ⟨PyData.keyHash P (Str.ofString "__firstlineno__"), (.str (Str.ofString "__firstlineno__") 228), (.int 562 218)⟩, ⟨PyData.keyHash P (Str.ofString "__doc__"), (.str (Str.ofString "__doc__") 229), (.builtin "_frozen_importlib.ModuleSpec.__doc__:str#opaque")⟩, ⟨PyData.keyHash P (Str.ofString "__init__"), (.str (Str.ofString "__init__") 230), (.builtin "_frozen_importlib.ModuleSpec.__init__#opaque")⟩, ⟨PyData.keyHash P (Str.ofString "__repr__"), (.str (Str.ofString "__repr__") 231), (.builtin "_frozen_importlib.ModuleSpec.__repr__#opaque")⟩, ⟨PyData.keyHash P (Str.ofString "__eq__"), (.str (Str.ofString "__eq__") 232), (.builtin "_frozen_importlib.ModuleSpec.__eq__#opaque")⟩, ⟨PyData.keyHash P (Str.ofString "cached"), (.str (Str.ofString "cached") 233), (.builtin "_frozen_importlib.ModuleSpec.cached#opaque")⟩, ⟨PyData.keyHash P (Str.ofString "parent"), (.str (Str.ofString "parent") 234), (.builtin "_frozen_importlib.ModuleSpec.parent#opaque")⟩, ⟨PyData.keyHash P (Str.ofString "has_location"), (.str (Str.ofString "has_location") 235), (.builtin "_frozen_importlib.ModuleSpec.has_location#opaque")⟩, ⟨PyData.keyHash P (Str.ofString "__static_attributes__"), (.str (Str.ofString "__static_attributes__") 236), (.ref 23)⟩, ⟨PyData.keyHash P (Str.ofString "__dict__"), (.str (Str.ofString "__dict__") 238), (.ref 24)⟩, ⟨PyData.keyHash P (Str.ofString "__weakref__"), (.str (Str.ofString "__weakref__") 240), (.ref 25)⟩, ⟨PyData.keyHash P (Str.ofString "__hash__"), (.str (Str.ofString "__hash__") 241), .none⟩] 13), #[]⟩
noncomputable def ho21 (P : Params) : Obj := ⟨(.type "type"), none, (.cls { name := (Str.ofString "ModuleSpec"), bases := [(.type "object")], mro := [(.ref 22), (.type "object")], ns := 21, qualname := (Str.ofString "ModuleSpec"), hasDict := true, slotNames := [], subclasses := [], abstract := false, collection := none, hasDel := false }), #[]⟩
noncomputable def ho22 (P : Params) : Obj := ⟨(.type "tuple"), none, (.seq #[(.str (Str.ofString "_cached") 219), (.str (Str.ofString "_set_fileattr") 220), (.str (Str.ofString "_uninitialized_submodules") 221), (.str (Str.ofString "loader") 222), (.str (Str.ofString "loader_state") 223), (.str (Str.ofString "name") 224), (.str (Str.ofString "origin") 225), (.str (Str.ofString "submodule_search_locations") 226)] 0), #[]⟩
noncomputable def ho23 (P : Params) : Obj := ⟨(.type "getset_descriptor"), none, (.fields #[(.str (Str.ofString "__dict__") 237), (.ref 22), (.builtin "function.__dict__"), (.builtin "function.__dict__#set")]), #[]⟩
noncomputable def ho24 (P : Params) : Obj := ⟨(.type "getset_descriptor"), none, (.fields #[(.str (Str.ofString "__weakref__") 239), (.ref 22), (.builtin "ExceptionGroup.__weakref__"), .none]), #[]⟩
noncomputable def ho25 (P : Params) : Obj := ⟨(.ref 22), (some 20), .plain, #[]⟩
noncomputable def ho26 (P : Params) : Obj := ⟨.none, none, (.seq #[(.int 11 0), (.str (⟨#[6, 247, 8, 95, 95, 110, 97, 109, 101, 95, 95, 6, 246, 4, 95, 115, 114, 101, 6, 248, 7, 95, 95, 100, 111, 99, 95, 95, 0, 6, 250, 11, 95, 95, 112, 97, 99, 107, 97, 103, 101, 95, 95, 6, 249, 0, 6, 251, 10, 95, 95, 108, 111, 97, 100, 101, 114, 95, 95, 4, 0, 0, 14, 6, 252, 8, 95, 95, 115, 112, 101, 99, 95, 95, 4, 0, 0, 26, 6, 253, 7, 99, 111, 109, 112, 105, 108, 101, 9, 12, 95, 115, 114, 101, 46, 99, 111, 109, 112, 105, 108, 101, 6, 254, 8, 116, 101, 109, 112, 108, 97, 116, 101, 9, 13, 95, 115, 114, 101, 46, 116, 101, 109, 112, 108, 97, 116, 101, 6, 255, 11, 103, 101, 116, 99, 111, 100, 101, 115, 105, 122, 101, 9, 16, 95, 115, 114, 101, 46, 103, 101, 116, 99, 111, 100, 101, 115, 105, 122, 101, 6, 256, 13, 97, 115, 99, 105, 105, 95, 105, 115, 99, 97, 115, 101, 100, 9, 18, 95, 115, 114, 101, 46, 97, 115, 99, 105, 105, 95, 105, 115, 99, 97, 115, 101, 100, 6, 257, 15, 117, 110, 105, 99, 111, 100, 101, 95, 105, 115, 99, 97, 115, 101, 100, 9, 20, 95, 115, 114, 101, 46, 117, 110, 105, 99, 111, 100, 101, 95, 105, 115, 99, 97, 115, 101, 100, 6, 258, 13, 97, 115, 99, 105, 105, 95, 116, 111, 108, 111, 119, 101, 114, 9, 18, 95, 115, 114, 101, 46, 97, 115, 99, 105, 105, 95, 116, 111, 108, 111, 119, 101, 114, 6, 259, 15, 117, 110, 105, 99, 111, 100, 101, 95, 116, 111, 108, 111, 119, 101, 114, 9, 20, 95, 115, 114, 101, 46, 117, 110, 105, 99, 111, 100, 101, 95, 116, 111, 108, 111, 119, 101, 114, 6, 261, 5, 77, 65, 71, 73, 67, 4, 260, 0, 20230612, 6, 263, 8, 67, 79, 68, 69, 83, 73, 90, 69, 4, 262, 0, 4, 6, 265, 9, 77, 65, 88, 82, 69, 80, 69, 65, 84, 4, 264, 0, 4294967295, 6, 267, 9, 77, 65, 88, 71, 82, 79, 85, 80, 83, 4, 266, 0, 1073741823, 6, 269, 9, 99, 111, 112, 121, 114, 105, 103, 104, 116, 6, 268, 53, 32, 83, 82, 69, 32, 50, 46, 50, 46, 50, 32, 67, 111, 112, 121, 114, 105, 103, 104, 116, 32, 40, 99, 41, 32, 49, 57, 57, 55, 45, 50, 48, 48, 50, 32, 98, 121, 32, 83, 101, 99, 114, 101, 116, 32, 76, 97, 98, 115, 32, 65, 66, 32]⟩ : Str) 0), (.bool true), (.bool false), (.str (Str.ofString "_sre") 271)] 0), #[]⟩
noncomputable def ho27 (P : Params) : Obj := ⟨(.type "code"), none, (.fields #[(.str (Str.ofString "<module>") 277), (.str (Str.ofString "<module>") 278), (.str (Str.ofString "/claim/cut.py") 279), (.int 1 0), (.int 0 0), (.int 0 0), (.int 0 0), (.int 0 0), (.ref 28), (.bool false), (.int 276 0), (.ref 29), .none, .none, .none, .none, (.int 280 0), (.int 1 0), (.str (Str.ofString "/claim/cut.py") 281)]), #[]⟩
noncomputable def ho28 (P : Params) : Obj := ⟨(.type "frame"), none, .plain, #[(some (.ref 30)), (some (.ref 3)), (some (.ref 3)), none, (some (.str (Str.ofString "__main__") 164)), none, (some (.ref 0))]⟩
noncomputable def ho29 (P : Params) : Obj := ⟨(.type "dict"), none, (.dict #[⟨PyData.keyHash P (Str.ofString "__name__"), (.str (Str.ofString "__name__") 165), (.str (Str.ofString "re") 375)⟩, ⟨PyData.keyHash P (Str.ofString "__doc__"), (.str (Str.ofString "__doc__") 166), .none⟩, ⟨PyData.keyHash P (Str.ofString "__package__"), (.str (Str.ofString "__package__") 167), .none⟩, ⟨PyData.keyHash P (Str.ofString "__loader__"), (.str (Str.ofString "__loader__") 168), (.builtin "__main__.__loader__#opaque")⟩, ⟨PyData.keyHash P (Str.ofString "__spec__"), (.str (Str.ofString "__spec__") 169), .none⟩, ⟨PyData.keyHash P (Str.ofString "__annotations__"), (.str (Str.ofString "__annotations__") 170), (.ref 6)⟩, ⟨PyData.keyHash P (Str.ofString "__builtins__"), (.str (Str.ofString "__builtins__") 171), (.ref 4)⟩, ⟨PyData.keyHash P (Str.ofString "__file__"), (.str (Str.ofString "__file__") 173), (.str (Str.ofString "/claim/cut.py") 172)⟩, ⟨PyData.keyHash P (Str.ofString "__cached__"), (.str (Str.ofString "__cached__") 174), .none⟩, ⟨PyData.keyHash P (Str.ofString "_sre"), (.str (Str.ofString "_sre") 275), (.ref 12)⟩, ⟨PyData.keyHash P (Str.ofString "heappush"), (.str (Str.ofString "heappush") 291), (.ref 38)⟩, ⟨PyData.keyHash P (Str.ofString "heappop"), (.str (Str.ofString "heappop") 300), (.ref 45)⟩, ⟨PyData.keyHash P (Str.ofString "_siftdown"), (.str (Str.ofString "_siftdown") 312), (.ref 52)⟩, ⟨PyData.keyHash P (Str.ofString "_siftup"), (.str (Str.ofString "_siftup") 325), (.ref 59)⟩, ⟨PyData.keyHash P (Str.ofString "_twin_re_1"), (.str (Str.ofString "_twin_re_1") 365), (.ref 64)⟩, ⟨PyData.keyHash P (Str.ofString "translate"), (.str (Str.ofString "translate") 374), (.ref 71)⟩, ⟨PyData.keyHash P (Str.ofString "_special_chars_map"), (.str (Str.ofString "_special_chars_map") 522), (.ref 73)⟩] 17), #[]⟩
noncomputable def ho30 (P : Params) : Obj := ⟨.none, none, (.fields #[(.int 3 0), (.int 0 0), (.ref 37), (.int 6 0), (.int 0 0), (.ref 44), (.int 14 0), (.int 0 0), (.ref 51), (.int 25 0), (.int 0 0), (.ref 58), (.int 41 0), (.int 0 0), (.ref 70)]), #[]⟩
noncomputable def ho31 (P : Params) : Obj := ⟨(.type "tuple"), none, (.seq #[(.str (Str.ofString "heap") 287), (.str (Str.ofString "item") 288)] 0), #[]⟩
noncomputable def ho32 (P : Params) : Obj := ⟨.none, none, (.func (mkF "heappush" (Str.ofString "heappush") 0 [] .none .none .none .none none .none .none 0)), #[]⟩
noncomputable def ho33 (P : Params) : Obj := ⟨(.type "code"), none, (.fields #[(.str (Str.ofString "heappush") 284), (.str (Str.ofString "heappush") 285), (.str (Str.ofString "/claim/cut.py") 286), (.int 3 0), (.int 2 0), (.int 0 0), (.int 0 0), (.int 3 0), (.ref 32), (.bool true), (.int 276 0), (.ref 33), .none, (.ref 34), (.ref 35), (.ref 36), (.int 289 0), (.int 3 0), (.str (Str.ofString "/claim/cut.py") 290)]), #[]⟩
noncomputable def ho34 (P : Params) : Obj := ⟨(.type "function"), none, (.func (mkF "heappush" (Str.ofString "heappush") 3 [] .none .none .none (.str (Str.ofString "cpy313.heapq") 282) none (.ref 37) .none 0)), #[]⟩
noncomputable def ho35 (P : Params) : Obj := ⟨(.type "tuple"), none, (.seq #[(.str (Str.ofString "heap") 295), (.str (Str.ofString "lastelt") 296), (.str (Str.ofString "returnitem") 297)] 0), #[]⟩
noncomputable def ho36 (P : Params) : Obj := ⟨.none, none, (.func (mkF "heappop" (Str.ofString "heappop") 0 [] .none .none .none .none none .none .none 0)), #[]⟩
noncomputable def ho37 (P : Params) : Obj := ⟨(.type "code"), none, (.fields #[(.str (Str.ofString "heappop") 292), (.str (Str.ofString "heappop") 293), (.str (Str.ofString "/claim/cut.py") 294), (.int 6 0), (.int 1 0), (.int 0 0), (.int 0 0), (.int 3 0), (.ref 39), (.bool true), (.int 276 0), (.ref 40), .none, (.ref 41), (.ref 42), (.ref 43), (.int 298 0), (.int 6 0), (.str (Str.ofString "/claim/cut.py") 299)]), #[]⟩
noncomputable def ho38 (P : Params) : Obj := ⟨(.type "function"), none, (.func (mkF "heappop" (Str.ofString "heappop") 3 [] .none .none .none (.str (Str.ofString "cpy313.heapq") 282) none (.ref 44) .none 0)), #[]⟩
noncomputable def ho39 (P : Params) : Obj := ⟨(.type "tuple"), none, (.seq #[(.str (Str.ofString "heap") 304), (.str (Str.ofString "startpos") 305), (.str (Str.ofString "pos") 306), (.str (Str.ofString "newitem") 307), (.str (Str.ofString "parentpos") 308), (.str (Str.ofString "parent") 309)] 0), #[]⟩
noncomputable def ho40 (P : Params) : Obj := ⟨.none, none, (.func (mkF "_siftdown" (Str.ofString "_siftdown") 0 [] .none .none .none .none none .none .none 0)), #[]⟩
noncomputable def ho41 (P : Params) : Obj := ⟨(.type "code"), none, (.fields #[(.str (Str.ofString "_siftdown") 301), (.str (Str.ofString "_siftdown") 302), (.str (Str.ofString "/claim/cut.py") 303), (.int 14 0), (.int 3 0), (.int 0 0), (.int 0 0), (.int 3 0), (.ref 46), (.bool true), (.int 276 0), (.ref 47), .none, (.ref 48), (.ref 49), (.ref 50), (.int 310 0), (.int 14 0), (.str (Str.ofString "/claim/cut.py") 311)]), #[]⟩
noncomputable def ho42 (P : Params) : Obj := ⟨(.type "function"), none, (.func (mkF "_siftdown" (Str.ofString "_siftdown") 3 [] .none .none .none (.str (Str.ofString "cpy313.heapq") 282) none (.ref 51) .none 0)), #[]⟩
noncomputable def ho43 (P : Params) : Obj := ⟨(.type "tuple"), none, (.seq #[(.str (Str.ofString "heap") 316), (.str (Str.ofString "pos") 317), (.str (Str.ofString "endpos") 318), (.str (Str.ofString "startpos") 319), (.str (Str.ofString "newitem") 320), (.str (Str.ofString "childpos") 321), (.str (Str.ofString "rightpos") 322)] 0), #[]⟩
noncomputable def ho44 (P : Params) : Obj := ⟨.none, none, (.func (mkF "_siftup" (Str.ofString "_siftup") 0 [] .none .none .none .none none .none .none 0)), #[]⟩
noncomputable def ho45 (P : Params) : Obj := ⟨(.type "code"), none, (.fields #[(.str (Str.ofString "_siftup") 313), (.str (Str.ofString "_siftup") 314), (.str (Str.ofString "/claim/cut.py") 315), (.int 25 0), (.int 2 0), (.int 0 0), (.int 0 0), (.int 3 0), (.ref 53), (.bool true), (.int 276 0), (.ref 54), .none, (.ref 55), (.ref 56), (.ref 57), (.int 323 0), (.int 25 0), (.str (Str.ofString "/claim/cut.py") 324)]), #[]⟩
noncomputable def ho46 (P : Params) : Obj := ⟨(.type "function"), none, (.func (mkF "_siftup" (Str.ofString "_siftup") 3 [] .none .none .none (.str (Str.ofString "cpy313.heapq") 282) none (.ref 58) .none 0)), #[]⟩
noncomputable def ho47 (P : Params) : Obj := ⟨(.type "list"), none, (.seq #[(.int 14 331), (.int 14 332), (.int 4 333), (.int 1 334), (.int 1 335), (.int 9 336), (.int 0 337), (.int 64 338), (.int 0 339), (.int 1342177280 340), (.int 0 341), (.int 0 342), (.int 0 343), (.int 0 344), (.int 0 345), (.int 17 346), (.int 0 347), (.int 13 348), (.int 11 349), (.int 9 350), (.int 0 351), (.int 64 352), (.int 0 353), (.int 1342177280 354), (.int 0 355), (.int 0 356), (.int 0 357), (.int 0 358), (.int 0 359), (.int 17 360), (.int 1 361), (.int 1 362)] 0), #[]⟩
noncomputable def ho48 (P : Params) : Obj := ⟨(.type "tuple"), none, (.seq #[.none, .none] 0), #[]⟩
noncomputable def ho49 (P : Params) : Obj := ⟨(.type "tuple"), none, (.seq #[(.int 14 0), (.int 14 0), (.int 4 0), (.int 1 0), (.int 1 0), (.int 9 0), (.int 0 0), (.int 64 0), (.int 0 0), (.int 1342177280 0), (.int 0 0), (.int 0 0), (.int 0 0), (.int 0 0), (.int 0 0), (.int 17 0), (.int 0 0), (.int 13 0), (.int 11 0), (.int 9 0), (.int 0 0), (.int 64 0), (.int 0 0), (.int 1342177280 0), (.int 0 0), (.int 0 0), (.int 0 0), (.int 0 0), (.int 0 0), (.int 17 0), (.int 1 0), (.int 1 0)] 0), #[]⟩
noncomputable def ho50 (P : Params) : Obj := ⟨(.type "re.Pattern"), none, (.fields #[(.str (Str.ofString "([&~|])") 329), (.int 32 364), (.int 1 0), .none, .none, (.ref 63), (.int 0 0)]), #[]⟩
noncomputable def ho51 (P : Params) : Obj := ⟨(.type "tuple"), none, (.seq #[(.str (Str.ofString "pat") 369), (.str (Str.ofString "STAR") 370), (.str (Str.ofString "parts") 371)] 0), #[]⟩
noncomputable def ho52 (P : Params) : Obj := ⟨.none, none, (.func (mkF "translate" (Str.ofString "translate") 0 [] .none .none .none .none none .none .none 0)), #[]⟩
noncomputable def ho53 (P : Params) : Obj := ⟨(.type "code"), none, (.fields #[(.str (Str.ofString "translate") 366), (.str (Str.ofString "translate") 367), (.str (Str.ofString "/claim/cut.py") 368), (.int 41 0), (.int 1 0), (.int 0 0), (.int 0 0), (.int 3 0), (.ref 65), (.bool true), (.int 276 0), (.ref 66), .none, (.ref 67), (.ref 68), (.ref 69), (.int 372 0), (.int 41 0), (.str (Str.ofString "/claim/cut.py") 373)]), #[]⟩
noncomputable def ho54 (P : Params) : Obj := ⟨(.type "function"), none, (.func (mkF "translate" (Str.ofString "translate") 3 [] .none .none .none (.str (Str.ofString "cpy313.fnmatch") 326) none (.ref 70) .none 0)), #[]⟩
noncomputable def ho55 (P : Params) : Obj := ⟨(.type "bytes_iterator"), none, (.fields #[.none, (.int 24 0)]), #[]⟩
noncomputable def ho56 (P : Params) : Obj := ⟨(.type "dict"), none, (.dict #[⟨40, (.int 40 378), (.str (⟨#[92, 40]⟩ : Str) 382)⟩, ⟨41, (.int 41 384), (.str (⟨#[92, 41]⟩ : Str) 388)⟩, ⟨91, (.int 91 390), (.str (⟨#[92, 91]⟩ : Str) 394)⟩, ⟨93, (.int 93 396), (.str (⟨#[92, 93]⟩ : Str) 400)⟩, ⟨123, (.int 123 402), (.str (⟨#[92, 123]⟩ : Str) 406)⟩, ⟨125, (.int 125 408), (.str (⟨#[92, 125]⟩ : Str) 412)⟩, ⟨63, (.int 63 414), (.str (⟨#[92, 63]⟩ : Str) 418)⟩, ⟨42, (.int 42 420), (.str (⟨#[92, 42]⟩ : Str) 424)⟩, ⟨43, (.int 43 426), (.str (⟨#[92, 43]⟩ : Str) 430)⟩, ⟨45, (.int 45 432), (.str (⟨#[92, 45]⟩ : Str) 436)⟩, ⟨124, (.int 124 438), (.str (⟨#[92, 124]⟩ : Str) 442)⟩, ⟨94, (.int 94 444), (.str (⟨#[92, 94]⟩ : Str) 448)⟩, ⟨36, (.int 36 450), (.str (⟨#[92, 36]⟩ : Str) 454)⟩, ⟨92, (.int 92 456), (.str (⟨#[92, 92]⟩ : Str) 460)⟩, ⟨46, (.int 46 462), (.str (⟨#[92, 46]⟩ : Str) 466)⟩, ⟨38, (.int 38 468), (.str (⟨#[92, 38]⟩ : Str) 472)⟩, ⟨126, (.int 126 474), (.str (⟨#[92, 126]⟩ : Str) 478)⟩, ⟨35, (.int 35 480), (.str (⟨#[92, 35]⟩ : Str) 484)⟩, ⟨32, (.int 32 486), (.str (⟨#[92, 32]⟩ : Str) 490)⟩, ⟨9, (.int 9 492), (.str (⟨#[92, 9]⟩ : Str) 496)⟩, ⟨10, (.int 10 498), (.str (⟨#[92, 10]⟩ : Str) 502)⟩, ⟨13, (.int 13 504), (.str (⟨#[92, 13]⟩ : Str) 508)⟩, ⟨11, (.int 11 510), (.str (⟨#[92, 11]⟩ : Str) 514)⟩, ⟨12, (.int 12 516), (.str (⟨#[92, 12]⟩ : Str) 520)⟩] 24), #[]⟩
noncomputable def ho57 (P : Params) : Obj := ⟨(.type "dict"), none, (.dict #[] 2), #[]⟩
noncomputable def ho58 (P : Params) : Obj := ⟨(.type "StopIteration"), none, (.fields #[(.ref 75), .none, .none, .none, (.bool false), .none]), #[]⟩
noncomputable def ho59 (P : Params) : Obj := ⟨(.type "dict"), none, (.dict #[⟨PyData.keyHash P (Str.ofString "__name__"), (.str (Str.ofString "__name__") 165), (.str (Str.ofString "cpy313.pickletools") 564)⟩, ⟨PyData.keyHash P (Str.ofString "__doc__"), (.str (Str.ofString "__doc__") 166), .none⟩, ⟨PyData.keyHash P (Str.ofString "__package__"), (.str (Str.ofString "__package__") 167), .none⟩, ⟨PyData.keyHash P (Str.ofString "__loader__"), (.str (Str.ofString "__loader__") 168), (.builtin "__main__.__loader__#opaque")⟩, ⟨PyData.keyHash P (Str.ofString "__spec__"), (.str (Str.ofString "__spec__") 169), .none⟩, ⟨PyData.keyHash P (Str.ofString "__annotations__"), (.str (Str.ofString "__annotations__") 170), (.ref 6)⟩, ⟨PyData.keyHash P (Str.ofString "__builtins__"), (.str (Str.ofString "__builtins__") 171), (.ref 4)⟩, ⟨PyData.keyHash P (Str.ofString "__file__"), (.str (Str.ofString "__file__") 173), (.str (Str.ofString "/claim/cut.py") 172)⟩, ⟨PyData.keyHash P (Str.ofString "__cached__"), (.str (Str.ofString "__cached__") 174), .none⟩, ⟨PyData.keyHash P (Str.ofString "_sre"), (.str (Str.ofString "_sre") 275), (.ref 12)⟩, ⟨PyData.keyHash P (Str.ofString "heappush"), (.str (Str.ofString "heappush") 291), (.ref 38)⟩, ⟨PyData.keyHash P (Str.ofString "heappop"), (.str (Str.ofString "heappop") 300), (.ref 45)⟩, ⟨PyData.keyHash P (Str.ofString "_siftdown"), (.str (Str.ofString "_siftdown") 312), (.ref 52)⟩, ⟨PyData.keyHash P (Str.ofString "_siftup"), (.str (Str.ofString "_siftup") 325), (.ref 59)⟩, ⟨PyData.keyHash P (Str.ofString "_twin_re_1"), (.str (Str.ofString "_twin_re_1") 365), (.ref 64)⟩, ⟨PyData.keyHash P (Str.ofString "translate"), (.str (Str.ofString "translate") 374), (.ref 71)⟩, ⟨PyData.keyHash P (Str.ofString "_special_chars_map"), (.str (Str.ofString "_special_chars_map") 522), (.ref 73)⟩, ⟨PyData.keyHash P (Str.ofString "escape"), (.str (Str.ofString "escape") 529), (.ref 83)⟩, ⟨PyData.keyHash P (Str.ofString "_translate"), (.str (Str.ofString "_translate") 550), (.ref 90)⟩, ⟨PyData.keyHash P (Str.ofString "_join_translated_parts"), (.str (Str.ofString "_join_translated_parts") 563), (.ref 97)⟩, ⟨PyData.keyHash P (Str.ofString "read_uint1"), (.str (Str.ofString "read_uint1") 573), (.ref 104)⟩, ⟨PyData.keyHash P (Str.ofString "read_string1"), (.str (Str.ofString "read_string1") 582), (.ref 111)⟩] 22), #[]⟩
noncomputable def ho60 (P : Params) : Obj := ⟨.none, none, (.fields #[(.int 3 0), (.int 0 0), (.ref 37), (.int 6 0), (.int 0 0), (.ref 44), (.int 14 0), (.int 0 0), (.ref 51), (.int 25 0), (.int 0 0), (.ref 58), (.int 41 0), (.int 0 0), (.ref 70), (.int 47 0), (.int 0 0), (.ref 82), (.int 54 0), (.int 0 0), (.ref 89), (.int 116 0), (.int 0 0), (.ref 96), (.int 144 0), (.int 0 0), (.ref 103), (.int 149 0), (.int 0 0), (.ref 110)]), #[]⟩
noncomputable def ho61 (P : Params) : Obj := ⟨(.type "tuple"), none, (.seq #[(.str (Str.ofString "pattern") 526)] 0), #[]⟩
noncomputable def ho62 (P : Params) : Obj := ⟨.none, none, (.func (mkF "escape" (Str.ofString "escape") 0 [] .none .none .none .none none .none .none 0)), #[]⟩
noncomputable def ho63 (P : Params) : Obj := ⟨(.type "code"), none, (.fields #[(.str (Str.ofString "escape") 523), (.str (Str.ofString "escape") 524), (.str (Str.ofString "/claim/cut.py") 525), (.int 47 0), (.int 1 0), (.int 0 0), (.int 0 0), (.int 3 0), (.ref 77), (.bool true), (.int 276 0), (.ref 78), .none, (.ref 79), (.ref 80), (.ref 81), (.int 527 0), (.int 47 0), (.str (Str.ofString "/claim/cut.py") 528)]), #[]⟩
noncomputable def ho64 (P : Params) : Obj := ⟨(.type "function"), none, (.func (mkF "escape" (Str.ofString "escape") 3 [] .none .none .none (.str (Str.ofString "re") 375) none (.ref 82) .none 0)), #[]⟩
noncomputable def ho65 (P : Params) : Obj := ⟨(.type "tuple"), none, (.seq #[(.str (Str.ofString "pat") 535), (.str (Str.ofString "STAR") 536), (.str (Str.ofString "QUESTION_MARK") 537), (.str (Str.ofString "res") 538), (.str (Str.ofString "add") 539), (.str (Str.ofString "i") 540), (.str (Str.ofString "n") 541), (.str (Str.ofString "c") 542), (.str (Str.ofString "j") 543), (.str (Str.ofString "stuff") 544), (.str (Str.ofString "chunks") 545), (.str (Str.ofString "k") 546), (.str (Str.ofString "chunk") 547)] 0), #[]⟩
noncomputable def ho66 (P : Params) : Obj := ⟨.none, none, (.func (mkF "_translate" (Str.ofString "_translate") 0 [] .none .none .none .none none .none .none 0)), #[]⟩
noncomputable def ho67 (P : Params) : Obj := ⟨(.type "code"), none, (.fields #[(.str (Str.ofString "_translate") 532), (.str (Str.ofString "_translate") 533), (.str (Str.ofString "/claim/cut.py") 534), (.int 54 0), (.int 3 0), (.int 0 0), (.int 0 0), (.int 3 0), (.ref 84), (.bool true), (.int 276 0), (.ref 85), .none, (.ref 86), (.ref 87), (.ref 88), (.int 548 0), (.int 54 0), (.str (Str.ofString "/claim/cut.py") 549)]), #[]⟩
noncomputable def ho68 (P : Params) : Obj := ⟨(.type "function"), none, (.func (mkF "_translate" (Str.ofString "_translate") 3 [] .none .none .none (.str (Str.ofString "cpy313.fnmatch") 530) none (.ref 89) .none 0)), #[]⟩
noncomputable def ho69 (P : Params) : Obj := ⟨(.type "tuple"), none, (.seq #[(.str (Str.ofString "inp") 554), (.str (Str.ofString "STAR") 555), (.str (Str.ofString "res") 556), (.str (Str.ofString "add") 557), (.str (Str.ofString "i") 558), (.str (Str.ofString "n") 559), (.str (Str.ofString "fixed") 560)] 0), #[]⟩
noncomputable def ho70 (P : Params) : Obj := ⟨.none, none, (.func (mkF "_join_translated_parts" (Str.ofString "_join_translated_parts") 0 [] .none .none .none .none none .none .none 0)), #[]⟩
noncomputable def ho71 (P : Params) : Obj := ⟨(.type "code"), none, (.fields #[(.str (Str.ofString "_join_translated_parts") 551), (.str (Str.ofString "_join_translated_parts") 552), (.str (Str.ofString "/claim/cut.py") 553), (.int 116 0), (.int 2 0), (.int 0 0), (.int 0 0), (.int 3 0), (.ref 91), (.bool true), (.int 276 0), (.ref 92), .none, (.ref 93), (.ref 94), (.ref 95), (.int 561 0), (.int 116 0), (.str (Str.ofString "/claim/cut.py") 562)]), #[]⟩
noncomputable def ho72 (P : Params) : Obj := ⟨(.type "function"), none, (.func (mkF "_join_translated_parts" (Str.ofString "_join_translated_parts") 3 [] .none .none .none (.str (Str.ofString "cpy313.fnmatch") 530) none (.ref 96) .none 0)), #[]⟩
noncomputable def ho73 (P : Params) : Obj := ⟨(.type "tuple"), none, (.seq #[(.str (Str.ofString "f") 569), (.str (Str.ofString "data") 570)] 0), #[]⟩
noncomputable def ho74 (P : Params) : Obj := ⟨.none, none, (.func (mkF "read_uint1" (Str.ofString "read_uint1") 0 [] .none .none .none .none none .none .none 0)), #[]⟩
noncomputable def ho75 (P : Params) : Obj := ⟨(.type "code"), none, (.fields #[(.str (Str.ofString "read_uint1") 566), (.str (Str.ofString "read_uint1") 567), (.str (Str.ofString "/claim/cut.py") 568), (.int 144 0), (.int 1 0), (.int 0 0), (.int 0 0), (.int 3 0), (.ref 98), (.bool true), (.int 276 0), (.ref 99), .none, (.ref 100), (.ref 101), (.ref 102), (.int 571 0), (.int 144 0), (.str (Str.ofString "/claim/cut.py") 572)]), #[]⟩
noncomputable def ho76 (P : Params) : Obj := ⟨(.type "function"), none, (.func (mkF "read_uint1" (Str.ofString "read_uint1") 3 [] .none .none .none (.str (Str.ofString "cpy313.pickletools") 564) none (.ref 103) .none 0)), #[]⟩
noncomputable def ho77 (P : Params) : Obj := ⟨(.type "tuple"), none, (.seq #[(.str (Str.ofString "f") 577), (.str (Str.ofString "n") 578), (.str (Str.ofString "data") 579)] 0), #[]⟩
noncomputable def ho78 (P : Params) : Obj := ⟨.none, none, (.func (mkF "read_string1" (Str.ofString "read_string1") 0 [] .none .none .none .none none .none .none 0)), #[]⟩
noncomputable def ho79 (P : Params) : Obj := ⟨(.type "code"), none, (.fields #[(.str (Str.ofString "read_string1") 574), (.str (Str.ofString "read_string1") 575), (.str (Str.ofString "/claim/cut.py") 576), (.int 149 0), (.int 1 0), (.int 0 0), (.int 0 0), (.int 3 0), (.ref 105), (.bool true), (.int 276 0), (.ref 106), .none, (.ref 107), (.ref 108), (.ref 109), (.int 580 0), (.int 149 0), (.str (Str.ofString "/claim/cut.py") 581)]), #[]⟩
noncomputable def ho80 (P : Params) : Obj := ⟨(.type "function"), none, (.func (mkF "read_string1" (Str.ofString "read_string1") 3 [] .none .none .none (.str (Str.ofString "cpy313.pickletools") 564) none (.ref 110) .none 0)), #[]⟩
noncomputable def ho81 (P : Params) : Obj := ⟨(.type "dict"), none, (.dict #[⟨PyData.keyHash P (Str.ofString "__name__"), (.str (Str.ofString "__name__") 165), (.str (Str.ofString "law_rx0126_02") 612)⟩, ⟨PyData.keyHash P (Str.ofString "__doc__"), (.str (Str.ofString "__doc__") 166), .none⟩, ⟨PyData.keyHash P (Str.ofString "__package__"), (.str (Str.ofString "__package__") 167), .none⟩, ⟨PyData.keyHash P (Str.ofString "__loader__"), (.str (Str.ofString "__loader__") 168), (.builtin "__main__.__loader__#opaque")⟩, ⟨PyData.keyHash P (Str.ofString "__spec__"), (.str (Str.ofString "__spec__") 169), .none⟩, ⟨PyData.keyHash P (Str.ofString "__annotations__"), (.str (Str.ofString "__annotations__") 170), (.ref 6)⟩, ⟨PyData.keyHash P (Str.ofString "__builtins__"), (.str (Str.ofString "__builtins__") 171), (.ref 4)⟩, ⟨PyData.keyHash P (Str.ofString "__file__"), (.str (Str.ofString "__file__") 173), (.str (Str.ofString "/claim/cut.py") 172)⟩, ⟨PyData.keyHash P (Str.ofString "__cached__"), (.str (Str.ofString "__cached__") 174), .none⟩, ⟨PyData.keyHash P (Str.ofString "_sre"), (.str (Str.ofString "_sre") 275), (.ref 12)⟩, ⟨PyData.keyHash P (Str.ofString "heappush"), (.str (Str.ofString "heappush") 291), (.ref 38)⟩, ⟨PyData.keyHash P (Str.ofString "heappop"), (.str (Str.ofString "heappop") 300), (.ref 45)⟩, ⟨PyData.keyHash P (Str.ofString "_siftdown"), (.str (Str.ofString "_siftdown") 312), (.ref 52)⟩, ⟨PyData.keyHash P (Str.ofString "_siftup"), (.str (Str.ofString "_siftup") 325), (.ref 59)⟩, ⟨PyData.keyHash P (Str.ofString "_twin_re_1"), (.str (Str.ofString "_twin_re_1") 365), (.ref 64)⟩, ⟨PyData.keyHash P (Str.ofString "translate"), (.str (Str.ofString "translate") 374), (.ref 71)⟩, ⟨PyData.keyHash P (Str.ofString "_special_chars_map"), (.str (Str.ofString "_special_chars_map") 522), (.ref 73)⟩, ⟨PyData.keyHash P (Str.ofString "escape"), (.str (Str.ofString "escape") 529), (.ref 83)⟩, ⟨PyData.keyHash P (Str.ofString "_translate"), (.str (Str.ofString "_translate") 550), (.ref 90)⟩, ⟨PyData.keyHash P (Str.ofString "_join_translated_parts"), (.str (Str.ofString "_join_translated_parts") 563), (.ref 97)⟩, ⟨PyData.keyHash P (Str.ofString "read_uint1"), (.str (Str.ofString "read_uint1") 573), (.ref 104)⟩, ⟨PyData.keyHash P (Str.ofString "read_string1"), (.str (Str.ofString "read_string1") 582), (.ref 111)⟩, ⟨PyData.keyHash P (Str.ofString "_Example"), (.str (Str.ofString "_Example") 611), (.ref 128)⟩, ⟨PyData.keyHash P (Str.ofString "_law_take"), (.str (Str.ofString "_law_take") 622), (.ref 139)⟩, ⟨PyData.keyHash P (Str.ofString "_law_stream"), (.str (Str.ofString "_law_stream") 630), (.ref 146)⟩, ⟨PyData.keyHash P (Str.ofString "_law_counted"), (.str (Str.ofString "_law_counted") 637), (.ref 153)⟩] 26), #[]⟩
noncomputable def ho82 (P : Params) : Obj := ⟨.none, none, (.fields #[(.int 3 0), (.int 0 0), (.ref 37), (.int 6 0), (.int 0 0), (.ref 44), (.int 14 0), (.int 0 0), (.ref 51), (.int 25 0), (.int 0 0), (.ref 58), (.int 41 0), (.int 0 0), (.ref 70), (.int 47 0), (.int 0 0), (.ref 82), (.int 54 0), (.int 0 0), (.ref 89), (.int 116 0), (.int 0 0), (.ref 96), (.int 144 0), (.int 0 0), (.ref 103), (.int 149 0), (.int 0 0), (.ref 110), (.int 156 0), (.int 0 0), (.ref 117), (.int 161 0), (.int 0 0), (.ref 138), (.int 165 0), (.int 0 0), (.ref 145), (.int 169 0), (.int 0 0), (.ref 152)]), #[]⟩
noncomputable def ho83 (P : Params) : Obj := ⟨(.type "builtin_function_or_method"), none, (.fields #[(.builtin "type.__prepare__"), (.type "type")]), #[]⟩
noncomputable def ho84 (P : Params) : Obj := ⟨(.type "dict"), none, (.dict #[⟨PyData.keyHash P (Str.ofString "__module__"), (.str (Str.ofString "__module__") 590), (.str (Str.ofString "cpy313.pickletools") 564)⟩, ⟨PyData.keyHash P (Str.ofString "__qualname__"), (.str (Str.ofString "__qualname__") 592), (.str (Str.ofString "_Example") 591)⟩, ⟨PyData.keyHash P (Str.ofString "__firstlineno__"), (.str (Str.ofString "__firstlineno__") 594), (.int 156 593)⟩, ⟨PyData.keyHash P (Str.ofString "__init__"), (.str (Str.ofString "__init__") 602), (.ref 125)⟩, ⟨PyData.keyHash P (Str.ofString "__static_attributes__"), (.str (Str.ofString "__static_attributes__") 604), (.ref 126)⟩] 5), #[]⟩
noncomputable def ho85 (P : Params) : Obj := ⟨.none, none, (.fields #[(.int 158 0), (.int 4 0), (.ref 124)]), #[]⟩
noncomputable def ho86 (P : Params) : Obj := ⟨(.type "code"), none, (.fields #[(.str (Str.ofString "_Example") 585), (.str (Str.ofString "_Example") 586), (.str (Str.ofString "/claim/cut.py") 587), (.int 156 0), (.int 0 0), (.int 0 0), (.int 0 0), (.int 0 0), (.ref 115), (.bool false), (.int 276 0), (.ref 116), .none, .none, .none, .none, (.int 588 0), (.int 156 0), (.str (Str.ofString "/claim/cut.py") 589)]), #[]⟩
noncomputable def ho87 (P : Params) : Obj := ⟨(.type "frame"), none, .plain, #[(some (.ref 117)), (some (.ref 3)), (some (.ref 114)), none, (some (.str (Str.ofString "cpy313.pickletools") 564)), none, (some (.ref 0))]⟩
noncomputable def ho88 (P : Params) : Obj := ⟨(.type "tuple"), none, (.seq #[(.str (Str.ofString "self") 598), (.str (Str.ofString "value") 599)] 0), #[]⟩
noncomputable def ho89 (P : Params) : Obj := ⟨.none, none, (.func (mkF "__init__" (Str.ofString "_Example.__init__") 0 [] .none .none .none .none none .none .none 0)), #[]⟩
noncomputable def ho90 (P : Params) : Obj := ⟨(.type "code"), none, (.fields #[(.str (Str.ofString "__init__") 595), (.str (Str.ofString "_Example.__init__") 596), (.str (Str.ofString "/claim/cut.py") 597), (.int 158 0), (.int 2 0), (.int 0 0), (.int 0 0), (.int 3 0), (.ref 119), (.bool true), (.int 276 0), (.ref 120), .none, (.ref 121), (.ref 122), (.ref 123), (.int 600 0), (.int 158 0), (.str (Str.ofString "/claim/cut.py") 601)]), #[]⟩
noncomputable def ho91 (P : Params) : Obj := ⟨(.type "function"), none, (.func (mkF "__init__" (Str.ofString "_Example.__init__") 3 [] .none .none .none (.str (Str.ofString "cpy313.pickletools") 564) none (.ref 124) .none 0)), #[]⟩
noncomputable def ho92 (P : Params) : Obj := ⟨(.type "tuple"), none, (.seq #[(.str (Str.ofString "value") 603)] 0), #[]⟩
noncomputable def ho93 (P : Params) : Obj := ⟨(.type "dict"), none, (.dict #[⟨PyData.keyHash P (Str.ofString "__module__"), (.str (Str.ofString "__module__") 590), (.str (Str.ofString "cpy313.pickletools") 564)⟩, ⟨PyData.keyHash P (Str.ofString "__firstlineno__"), (.str (Str.ofString "__firstlineno__") 594), (.int 156 593)⟩, ⟨PyData.keyHash P (Str.ofString "__init__"), (.str (Str.ofString "__init__") 602), (.ref 125)⟩, ⟨PyData.keyHash P (Str.ofString "__static_attributes__"), (.str (Str.ofString "__static_attributes__") 604), (.ref 126)⟩, ⟨PyData.keyHash P (Str.ofString "__dict__"), (.str (Str.ofString "__dict__") 606), (.ref 129)⟩, ⟨PyData.keyHash P (Str.ofString "__weakref__"), (.str (Str.ofString "__weakref__") 608), (.ref 130)⟩, ⟨PyData.keyHash P (Str.ofString "__doc__"), (.str (Str.ofString "__doc__") 609), .none⟩] 4), #[]⟩
noncomputable def ho94 (P : Params) : Obj := ⟨(.type "type"), none, (.cls { name := (Str.ofString "_Example"), bases := [(.type "object")], mro := [(.ref 128), (.type "object")], ns := 127, qualname := (Str.ofString "_Example"), hasDict := true, slotNames := [], subclasses := [], abstract := false, collection := none, hasDel := false }), #[none, none, (some (.str (Str.ofString "_Example") 583)), (some (.str (Str.ofString "_Example") 591)), (some (.builtin "object.__new__")), (some (.bool true))]⟩
noncomputable def ho95 (P : Params) : Obj := ⟨(.type "getset_descriptor"), none, (.fields #[(.str (Str.ofString "__dict__") 605), (.ref 128), (.builtin "function.__dict__"), (.builtin "function.__dict__#set")]), #[]⟩
noncomputable def ho96 (P : Params) : Obj := ⟨(.type "getset_descriptor"), none, (.fields #[(.str (Str.ofString "__weakref__") 607), (.ref 128), (.builtin "ExceptionGroup.__weakref__"), .none]), #[]⟩
noncomputable def ho97 (P : Params) : Obj := ⟨(.type "super"), none, (.fields #[(.ref 128), (.ref 128), (.ref 128)]), #[]⟩
noncomputable def ho98 (P : Params) : Obj := ⟨(.type "builtin_function_or_method"), none, (.fields #[(.builtin "object.__init_subclass__"), (.ref 128)]), #[]⟩
noncomputable def ho99 (P : Params) : Obj := ⟨(.type "tuple"), none, (.seq #[(.str (Str.ofString "stream") 617), (.str (Str.ofString "size") 618), (.str (Str.ofString "took") 619)] 0), #[]⟩
noncomputable def ho100 (P : Params) : Obj := ⟨.none, none, (.func (mkF "_law_take" (Str.ofString "_law_take") 0 [] .none .none .none .none none .none .none 0)), #[]⟩
noncomputable def ho101 (P : Params) : Obj := ⟨(.type "code"), none, (.fields #[(.str (Str.ofString "_law_take") 614), (.str (Str.ofString "_law_take") 615), (.str (Str.ofString "/claim/cut.py") 616), (.int 161 0), (.int 2 0), (.int 0 0), (.int 0 0), (.int 3 0), (.ref 133), (.bool true), (.int 276 0), (.ref 134), .none, (.ref 135), (.ref 136), (.ref 137), (.int 620 0), (.int 161 0), (.str (Str.ofString "/claim/cut.py") 621)]), #[]⟩
noncomputable def ho102 (P : Params) : Obj := ⟨(.type "function"), none, (.func (mkF "_law_take" (Str.ofString "_law_take") 3 [] .none .none .none (.str (Str.ofString "law_rx0126_02") 612) none (.ref 138) .none 0)), #[]⟩
noncomputable def ho103 (P : Params) : Obj := ⟨(.type "tuple"), none, (.seq #[(.str (Str.ofString "octets") 626)] 0), #[]⟩
noncomputable def ho104 (P : Params) : Obj := ⟨(.type "tuple"), none, (.seq #[(.str (Str.ofString "stream") 627)] 0), #[]⟩
noncomputable def ho105 (P : Params) : Obj := ⟨.none, none, (.func (mkF "_law_stream" (Str.ofString "_law_stream") 0 [] .none .none .none .none none .none .none 0)), #[]⟩
noncomputable def ho106 (P : Params) : Obj := ⟨(.type "code"), none, (.fields #[(.str (Str.ofString "_law_stream") 623), (.str (Str.ofString "_law_stream") 624), (.str (Str.ofString "/claim/cut.py") 625), (.int 165 0), (.int 1 0), (.int 0 0), (.int 0 0), (.int 3 0), (.ref 140), (.bool true), (.int 276 0), (.ref 141), .none, (.ref 142), (.ref 143), (.ref 144), (.int 628 0), (.int 165 0), (.str (Str.ofString "/claim/cut.py") 629)]), #[]⟩
noncomputable def ho107 (P : Params) : Obj := ⟨(.type "function"), none, (.func (mkF "_law_stream" (Str.ofString "_law_stream") 3 [] .none .none .none (.str (Str.ofString "law_rx0126_02") 612) none (.ref 145) .none 0)), #[]⟩
noncomputable def ho108 (P : Params) : Obj := ⟨(.type "tuple"), none, (.seq #[(.str (Str.ofString "text") 634)] 0), #[]⟩
noncomputable def ho109 (P : Params) : Obj := ⟨.none, none, (.func (mkF "_law_counted" (Str.ofString "_law_counted") 0 [] .none .none .none .none none .none .none 0)), #[]⟩
noncomputable def ho110 (P : Params) : Obj := ⟨(.type "code"), none, (.fields #[(.str (Str.ofString "_law_counted") 631), (.str (Str.ofString "_law_counted") 632), (.str (Str.ofString "/claim/cut.py") 633), (.int 169 0), (.int 1 0), (.int 0 0), (.int 0 0), (.int 3 0), (.ref 147), (.bool true), (.int 276 0), (.ref 148), .none, (.ref 149), (.ref 150), (.ref 151), (.int 635 0), (.int 169 0), (.str (Str.ofString "/claim/cut.py") 636)]), #[]⟩
noncomputable def ho111 (P : Params) : Obj := ⟨(.type "function"), none, (.func (mkF "_law_counted" (Str.ofString "_law_counted") 3 [] .none .none .none (.str (Str.ofString "law_rx0126_02") 612) none (.ref 152) .none 0)), #[]⟩
noncomputable def ho112 (P : Params) : Obj := ⟨(.type "dict"), none, (.dict #[⟨PyData.keyHash P (Str.ofString "__name__"), (.str (Str.ofString "__name__") 165), (.str (Str.ofString "law_rx0126_02") 612)⟩, ⟨PyData.keyHash P (Str.ofString "__doc__"), (.str (Str.ofString "__doc__") 166), .none⟩, ⟨PyData.keyHash P (Str.ofString "__package__"), (.str (Str.ofString "__package__") 167), .none⟩, ⟨PyData.keyHash P (Str.ofString "__loader__"), (.str (Str.ofString "__loader__") 168), (.builtin "__main__.__loader__#opaque")⟩, ⟨PyData.keyHash P (Str.ofString "__spec__"), (.str (Str.ofString "__spec__") 169), .none⟩, ⟨PyData.keyHash P (Str.ofString "__annotations__"), (.str (Str.ofString "__annotations__") 170), (.ref 6)⟩, ⟨PyData.keyHash P (Str.ofString "__builtins__"), (.str (Str.ofString "__builtins__") 171), (.ref 4)⟩, ⟨PyData.keyHash P (Str.ofString "__file__"), (.str (Str.ofString "__file__") 173), (.str (Str.ofString "/claim/cut.py") 172)⟩, ⟨PyData.keyHash P (Str.ofString "__cached__"), (.str (Str.ofString "__cached__") 174), .none⟩, ⟨PyData.keyHash P (Str.ofString "_sre"), (.str (Str.ofString "_sre") 275), (.ref 12)⟩, ⟨PyData.keyHash P (Str.ofString "heappush"), (.str (Str.ofString "heappush") 291), (.ref 38)⟩, ⟨PyData.keyHash P (Str.ofString "heappop"), (.str (Str.ofString "heappop") 300), (.ref 45)⟩, ⟨PyData.keyHash P (Str.ofString "_siftdown"), (.str (Str.ofString "_siftdown") 312), (.ref 52)⟩, ⟨PyData.keyHash P (Str.ofString "_siftup"), (.str (Str.ofString "_siftup") 325), (.ref 59)⟩, ⟨PyData.keyHash P (Str.ofString "_twin_re_1"), (.str (Str.ofString "_twin_re_1") 365), (.ref 64)⟩, ⟨PyData.keyHash P (Str.ofString "translate"), (.str (Str.ofString "translate") 374), (.ref 71)⟩, ⟨PyData.keyHash P (Str.ofString "_special_chars_map"), (.str (Str.ofString "_special_chars_map") 522), (.ref 73)⟩, ⟨PyData.keyHash P (Str.ofString "escape"), (.str (Str.ofString "escape") 529), (.ref 83)⟩, ⟨PyData.keyHash P (Str.ofString "_translate"), (.str (Str.ofString "_translate") 550), (.ref 90)⟩, ⟨PyData.keyHash P (Str.ofString "_join_translated_parts"), (.str (Str.ofString "_join_translated_parts") 563), (.ref 97)⟩, ⟨PyData.keyHash P (Str.ofString "read_uint1"), (.str (Str.ofString "read_uint1") 573), (.ref 104)⟩, ⟨PyData.keyHash P (Str.ofString "read_string1"), (.str (Str.ofString "read_string1") 582), (.ref 111)⟩, ⟨PyData.keyHash P (Str.ofString "_Example"), (.str (Str.ofString "_Example") 611), (.ref 128)⟩, ⟨PyData.keyHash P (Str.ofString "_law_take"), (.str (Str.ofString "_law_take") 622), (.ref 139)⟩, ⟨PyData.keyHash P (Str.ofString "_law_stream"), (.str (Str.ofString "_law_stream") 630), (.ref 146)⟩, ⟨PyData.keyHash P (Str.ofString "_law_counted"), (.str (Str.ofString "_law_counted") 637), (.ref 153)⟩, ⟨PyData.keyHash P (Str.ofString "_law_wish"), (.str (Str.ofString "_law_wish") 643), (.ref 158)⟩, ⟨PyData.keyHash P (Str.ofString "_law_halves"), (.str (Str.ofString "_law_halves") 649), (.ref 163)⟩, ⟨PyData.keyHash P (Str.ofString "_law_given"), (.str (Str.ofString "_law_given") 662), (.ref 170)⟩, ⟨PyData.keyHash P (Str.ofString "_law_served"), (.str (Str.ofString "_law_served") 668), (.ref 175)⟩, ⟨PyData.keyHash P (Str.ofString "_law_due"), (.str (Str.ofString "_law_due") 674), (.ref 180)⟩] 31), #[]⟩
noncomputable def ho113 (P : Params) : Obj := ⟨.none, none, (.fields #[(.int 3 0), (.int 0 0), (.ref 37), (.int 6 0), (.int 0 0), (.ref 44), (.int 14 0), (.int 0 0), (.ref 51), (.int 25 0), (.int 0 0), (.ref 58), (.int 41 0), (.int 0 0), (.ref 70), (.int 47 0), (.int 0 0), (.ref 82), (.int 54 0), (.int 0 0), (.ref 89), (.int 116 0), (.int 0 0), (.ref 96), (.int 144 0), (.int 0 0), (.ref 103), (.int 149 0), (.int 0 0), (.ref 110), (.int 156 0), (.int 0 0), (.ref 117), (.int 161 0), (.int 0 0), (.ref 138), (.int 165 0), (.int 0 0), (.ref 145), (.int 169 0), (.int 0 0), (.ref 152), (.int 171 0), (.int 0 0), (.ref 157), (.int 174 0), (.int 0 0), (.ref 162), (.int 177 0), (.int 0 0), (.ref 169), (.int 190 0), (.int 0 0), (.ref 174), (.int 205 0), (.int 0 0), (.ref 179)]), #[]⟩
noncomputable def ho114 (P : Params) : Obj := ⟨.none, none, (.func (mkF "_law_wish" (Str.ofString "_law_wish") 0 [] .none .none .none .none none .none .none 0)), #[]⟩
noncomputable def ho115 (P : Params) : Obj := ⟨(.type "code"), none, (.fields #[(.str (Str.ofString "_law_wish") 638), (.str (Str.ofString "_law_wish") 639), (.str (Str.ofString "/claim/cut.py") 640), (.int 171 0), (.int 1 0), (.int 0 0), (.int 0 0), (.int 3 0), (.ref 154), (.bool true), (.int 276 0), (.ref 155), .none, .none, .none, (.ref 156), (.int 641 0), (.int 171 0), (.str (Str.ofString "/claim/cut.py") 642)]), #[]⟩
noncomputable def ho116 (P : Params) : Obj := ⟨(.type "function"), none, (.func (mkF "_law_wish" (Str.ofString "_law_wish") 3 [] .none .none .none (.str (Str.ofString "law_rx0126_02") 612) none (.ref 157) .none 0)), #[]⟩
noncomputable def ho117 (P : Params) : Obj := ⟨.none, none, (.func (mkF "_law_halves" (Str.ofString "_law_halves") 0 [] .none .none .none .none none .none .none 0)), #[]⟩
noncomputable def ho118 (P : Params) : Obj := ⟨(.type "code"), none, (.fields #[(.str (Str.ofString "_law_halves") 644), (.str (Str.ofString "_law_halves") 645), (.str (Str.ofString "/claim/cut.py") 646), (.int 174 0), (.int 2 0), (.int 0 0), (.int 0 0), (.int 3 0), (.ref 159), (.bool true), (.int 276 0), (.ref 160), .none, .none, .none, (.ref 161), (.int 647 0), (.int 174 0), (.str (Str.ofString "/claim/cut.py") 648)]), #[]⟩
noncomputable def ho119 (P : Params) : Obj := ⟨(.type "function"), none, (.func (mkF "_law_halves" (Str.ofString "_law_halves") 3 [] .none .none .none (.str (Str.ofString "law_rx0126_02") 612) none (.ref 162) .none 0)), #[]⟩
noncomputable def ho120 (P : Params) : Obj := ⟨(.type "tuple"), none, (.seq #[(.str (Str.ofString "heap") 653), (.str (Str.ofString "wish") 654), (.str (Str.ofString "aside") 655), (.str (Str.ofString "given") 656), (.str (Str.ofString "word") 657), (.str (Str.ofString "half") 658), (.str (Str.ofString "one") 659)] 0), #[]⟩
noncomputable def ho121 (P : Params) : Obj := ⟨.none, none, (.func (mkF "_law_given" (Str.ofString "_law_given") 0 [] .none .none .none .none none .none .none 0)), #[]⟩
noncomputable def ho122 (P : Params) : Obj := ⟨(.type "code"), none, (.fields #[(.str (Str.ofString "_law_given") 650), (.str (Str.ofString "_law_given") 651), (.str (Str.ofString "/claim/cut.py") 652), (.int 177 0), (.int 2 0), (.int 0 0), (.int 0 0), (.int 3 0), (.ref 164), (.bool true), (.int 276 0), (.ref 165), .none, (.ref 166), (.ref 167), (.ref 168), (.int 660 0), (.int 177 0), (.str (Str.ofString "/claim/cut.py") 661)]), #[]⟩
noncomputable def ho123 (P : Params) : Obj := ⟨(.type "function"), none, (.func (mkF "_law_given" (Str.ofString "_law_given") 3 [] .none .none .none (.str (Str.ofString "law_rx0126_02") 612) none (.ref 169) .none 0)), #[]⟩
noncomputable def ho124 (P : Params) : Obj := ⟨.none, none, (.func (mkF "_law_served" (Str.ofString "_law_served") 0 [] .none .none .none .none none .none .none 0)), #[]⟩
noncomputable def ho125 (P : Params) : Obj := ⟨(.type "code"), none, (.fields #[(.str (Str.ofString "_law_served") 663), (.str (Str.ofString "_law_served") 664), (.str (Str.ofString "/claim/cut.py") 665), (.int 190 0), (.int 1 0), (.int 0 0), (.int 0 0), (.int 3 0), (.ref 171), (.bool true), (.int 276 0), (.ref 172), .none, .none, .none, (.ref 173), (.int 666 0), (.int 190 0), (.str (Str.ofString "/claim/cut.py") 667)]), #[]⟩
noncomputable def ho126 (P : Params) : Obj := ⟨(.type "function"), none, (.func (mkF "_law_served" (Str.ofString "_law_served") 3 [] .none .none .none (.str (Str.ofString "law_rx0126_02") 612) none (.ref 174) .none 0)), #[]⟩
noncomputable def ho127 (P : Params) : Obj := ⟨.none, none, (.func (mkF "_law_due" (Str.ofString "_law_due") 0 [] .none .none .none .none none .none .none 0)), #[]⟩
noncomputable def ho128 (P : Params) : Obj := ⟨(.type "code"), none, (.fields #[(.str (Str.ofString "_law_due") 669), (.str (Str.ofString "_law_due") 670), (.str (Str.ofString "/claim/cut.py") 671), (.int 205 0), (.int 1 0), (.int 0 0), (.int 0 0), (.int 3 0), (.ref 176), (.bool true), (.int 276 0), (.ref 177), .none, .none, .none, (.ref 178), (.int 672 0), (.int 205 0), (.str (Str.ofString "/claim/cut.py") 673)]), #[]⟩
noncomputable def ho129 (P : Params) : Obj := ⟨(.type "function"), none, (.func (mkF "_law_due" (Str.ofString "_law_due") 3 [] .none .none .none (.str (Str.ofString "law_rx0126_02") 612) none (.ref 179) .none 0)), #[]⟩
noncomputable def ho130 (P : Params) : Obj := ⟨(.type "dict"), none, (.dict #[⟨PyData.keyHash P (Str.ofString "__name__"), (.str (Str.ofString "__name__") 165), (.str (Str.ofString "law_rx0126_02") 612)⟩, ⟨PyData.keyHash P (Str.ofString "__doc__"), (.str (Str.ofString "__doc__") 166), .none⟩, ⟨PyData.keyHash P (Str.ofString "__package__"), (.str (Str.ofString "__package__") 167), .none⟩, ⟨PyData.keyHash P (Str.ofString "__loader__"), (.str (Str.ofString "__loader__") 168), (.builtin "__main__.__loader__#opaque")⟩, ⟨PyData.keyHash P (Str.ofString "__spec__"), (.str (Str.ofString "__spec__") 169), .none⟩, ⟨PyData.keyHash P (Str.ofString "__annotations__"), (.str (Str.ofString "__annotations__") 170), (.ref 6)⟩, ⟨PyData.keyHash P (Str.ofString "__builtins__"), (.str (Str.ofString "__builtins__") 171), (.ref 4)⟩, ⟨PyData.keyHash P (Str.ofString "__file__"), (.str (Str.ofString "__file__") 173), (.str (Str.ofString "/claim/cut.py") 172)⟩, ⟨PyData.keyHash P (Str.ofString "__cached__"), (.str (Str.ofString "__cached__") 174), .none⟩, ⟨PyData.keyHash P (Str.ofString "_sre"), (.str (Str.ofString "_sre") 275), (.ref 12)⟩, ⟨PyData.keyHash P (Str.ofString "heappush"), (.str (Str.ofString "heappush") 291), (.ref 38)⟩, ⟨PyData.keyHash P (Str.ofString "heappop"), (.str (Str.ofString "heappop") 300), (.ref 45)⟩, ⟨PyData.keyHash P (Str.ofString "_siftdown"), (.str (Str.ofString "_siftdown") 312), (.ref 52)⟩, ⟨PyData.keyHash P (Str.ofString "_siftup"), (.str (Str.ofString "_siftup") 325), (.ref 59)⟩, ⟨PyData.keyHash P (Str.ofString "_twin_re_1"), (.str (Str.ofString "_twin_re_1") 365), (.ref 64)⟩, ⟨PyData.keyHash P (Str.ofString "translate"), (.str (Str.ofString "translate") 374), (.ref 71)⟩, ⟨PyData.keyHash P (Str.ofString "_special_chars_map"), (.str (Str.ofString "_special_chars_map") 522), (.ref 73)⟩, ⟨PyData.keyHash P (Str.ofString "escape"), (.str (Str.ofString "escape") 529), (.ref 83)⟩, ⟨PyData.keyHash P (Str.ofString "_translate"), (.str (Str.ofString "_translate") 550), (.ref 90)⟩, ⟨PyData.keyHash P (Str.ofString "_join_translated_parts"), (.str (Str.ofString "_join_translated_parts") 563), (.ref 97)⟩, ⟨PyData.keyHash P (Str.ofString "read_uint1"), (.str (Str.ofString "read_uint1") 573), (.ref 104)⟩, ⟨PyData.keyHash P (Str.ofString "read_string1"), (.str (Str.ofString "read_string1") 582), (.ref 111)⟩, ⟨PyData.keyHash P (Str.ofString "_Example"), (.str (Str.ofString "_Example") 611), (.ref 128)⟩, ⟨PyData.keyHash P (Str.ofString "_law_take"), (.str (Str.ofString "_law_take") 622), (.ref 139)⟩, ⟨PyData.keyHash P (Str.ofString "_law_stream"), (.str (Str.ofString "_law_stream") 630), (.ref 146)⟩, ⟨PyData.keyHash P (Str.ofString "_law_counted"), (.str (Str.ofString "_law_counted") 637), (.ref 153)⟩, ⟨PyData.keyHash P (Str.ofString "_law_wish"), (.str (Str.ofString "_law_wish") 643), (.ref 158)⟩, ⟨PyData.keyHash P (Str.ofString "_law_halves"), (.str (Str.ofString "_law_halves") 649), (.ref 163)⟩, ⟨PyData.keyHash P (Str.ofString "_law_given"), (.str (Str.ofString "_law_given") 662), (.ref 170)⟩, ⟨PyData.keyHash P (Str.ofString "_law_served"), (.str (Str.ofString "_law_served") 668), (.ref 175)⟩, ⟨PyData.keyHash P (Str.ofString "_law_due"), (.str (Str.ofString "_law_due") 674), (.ref 180)⟩, ⟨PyData.keyHash P (Str.ofString "_law_dressed"), (.str (Str.ofString "_law_dressed") 684), (.ref 187)⟩, ⟨PyData.keyHash P (Str.ofString "_law_tests"), (.str (Str.ofString "_law_tests") 690), (.ref 192)⟩, ⟨PyData.keyHash P (Str.ofString "_law_takes"), (.str (Str.ofString "_law_takes") 696), (.ref 197)⟩, ⟨PyData.keyHash P (Str.ofString "law"), (.str (Str.ofString "law") 702), (.ref 202)⟩] 35), #[]⟩
noncomputable def ho131 (P : Params) : Obj := ⟨.none, none, (.fields #[(.int 3 0), (.int 0 0), (.ref 37), (.int 6 0), (.int 0 0), (.ref 44), (.int 14 0), (.int 0 0), (.ref 51), (.int 25 0), (.int 0 0), (.ref 58), (.int 41 0), (.int 0 0), (.ref 70), (.int 47 0), (.int 0 0), (.ref 82), (.int 54 0), (.int 0 0), (.ref 89), (.int 116 0), (.int 0 0), (.ref 96), (.int 144 0), (.int 0 0), (.ref 103), (.int 149 0), (.int 0 0), (.ref 110), (.int 156 0), (.int 0 0), (.ref 117), (.int 161 0), (.int 0 0), (.ref 138), (.int 165 0), (.int 0 0), (.ref 145), (.int 169 0), (.int 0 0), (.ref 152), (.int 171 0), (.int 0 0), (.ref 157), (.int 174 0), (.int 0 0), (.ref 162), (.int 177 0), (.int 0 0), (.ref 169), (.int 190 0), (.int 0 0), (.ref 174), (.int 205 0), (.int 0 0), (.ref 179), (.int 221 0), (.int 0 0), (.ref 186), (.int 227 0), (.int 0 0), (.ref 191), (.int 239 0), (.int 0 0), (.ref 196), (.int 241 0), (.int 0 0), (.ref 201)]), #[]⟩
noncomputable def ho132 (P : Params) : Obj := ⟨(.type "tuple"), none, (.seq #[(.str (Str.ofString "word") 678), (.str (Str.ofString "turn") 679), (.str (Str.ofString "k") 680), (.str (Str.ofString "other") 681)] 0), #[]⟩
noncomputable def ho133 (P : Params) : Obj := ⟨.none, none, (.func (mkF "_law_dressed" (Str.ofString "_law_dressed") 0 [] .none .none .none .none none .none .none 0)), #[]⟩
noncomputable def ho134 (P : Params) : Obj := ⟨(.type "code"), none, (.fields #[(.str (Str.ofString "_law_dressed") 675), (.str (Str.ofString "_law_dressed") 676), (.str (Str.ofString "/claim/cut.py") 677), (.int 221 0), (.int 2 0), (.int 0 0), (.int 0 0), (.int 3 0), (.ref 181), (.bool true), (.int 276 0), (.ref 182), .none, (.ref 183), (.ref 184), (.ref 185), (.int 682 0), (.int 221 0), (.str (Str.ofString "/claim/cut.py") 683)]), #[]⟩
noncomputable def ho135 (P : Params) : Obj := ⟨(.type "function"), none, (.func (mkF "_law_dressed" (Str.ofString "_law_dressed") 3 [] .none .none .none (.str (Str.ofString "law_rx0126_02") 612) none (.ref 186) .none 0)), #[]⟩
noncomputable def ho136 (P : Params) : Obj := ⟨.none, none, (.func (mkF "_law_tests" (Str.ofString "_law_tests") 0 [] .none .none .none .none none .none .none 0)), #[]⟩
noncomputable def ho137 (P : Params) : Obj := ⟨(.type "code"), none, (.fields #[(.str (Str.ofString "_law_tests") 685), (.str (Str.ofString "_law_tests") 686), (.str (Str.ofString "/claim/cut.py") 687), (.int 227 0), (.int 1 0), (.int 0 0), (.int 0 0), (.int 3 0), (.ref 188), (.bool true), (.int 276 0), (.ref 189), .none, .none, .none, (.ref 190), (.int 688 0), (.int 227 0), (.str (Str.ofString "/claim/cut.py") 689)]), #[]⟩
noncomputable def ho138 (P : Params) : Obj := ⟨(.type "function"), none, (.func (mkF "_law_tests" (Str.ofString "_law_tests") 3 [] .none .none .none (.str (Str.ofString "law_rx0126_02") 612) none (.ref 191) .none 0)), #[]⟩
noncomputable def ho139 (P : Params) : Obj := ⟨.none, none, (.func (mkF "_law_takes" (Str.ofString "_law_takes") 0 [] .none .none .none .none none .none .none 0)), #[]⟩
noncomputable def ho140 (P : Params) : Obj := ⟨(.type "code"), none, (.fields #[(.str (Str.ofString "_law_takes") 691), (.str (Str.ofString "_law_takes") 692), (.str (Str.ofString "/claim/cut.py") 693), (.int 239 0), (.int 2 0), (.int 0 0), (.int 0 0), (.int 3 0), (.ref 193), (.bool true), (.int 276 0), (.ref 194), .none, .none, .none, (.ref 195), (.int 694 0), (.int 239 0), (.str (Str.ofString "/claim/cut.py") 695)]), #[]⟩
noncomputable def ho141 (P : Params) : Obj := ⟨(.type "function"), none, (.func (mkF "_law_takes" (Str.ofString "_law_takes") 3 [] .none .none .none (.str (Str.ofString "law_rx0126_02") 612) none (.ref 196) .none 0)), #[]⟩
noncomputable def ho142 (P : Params) : Obj := ⟨.none, none, (.func (mkF "law" (Str.ofString "law") 0 [] .none .none .none .none none .none .none 0)), #[]⟩
noncomputable def ho143 (P : Params) : Obj := ⟨(.type "code"), none, (.fields #[(.str (Str.ofString "law") 697), (.str (Str.ofString "law") 698), (.str (Str.ofString "/claim/cut.py") 699), (.int 241 0), (.int 1 0), (.int 0 0), (.int 0 0), (.int 3 0), (.ref 198), (.bool true), (.int 276 0), (.ref 199), .none, .none, .none, (.ref 200), (.int 700 0), (.int 241 0), (.str (Str.ofString "/claim/cut.py") 701)]), #[]⟩
noncomputable def ho144 (P : Params) : Obj := ⟨(.type "function"), none, (.func (mkF "law" (Str.ofString "law") 3 [] .none .none .none (.str (Str.ofString "law_rx0126_02") 612) none (.ref 201) .none 0)), #[]⟩
noncomputable def fH (P : Params) : Heap := ⟨#[ho0 P, ho1 P, ho2 P, ho3 P, ho4 P, ho5 P, ho6 P, ho7 P, ho8 P, ho9 P, ho10 P, ho11 P, ho12 P, ho13 P, ho14 P, ho7 P, ho15 P, ho16 P, ho17 P, ho18 P, ho19 P, ho20 P, ho21 P, ho22 P, ho23 P, ho24 P, ho25 P, ho26 P], {}⟩
noncomputable def fS (w : World) : Shared := ⟨fH w.params, #[], {}, 276, (start (opening pwH)).1.os⟩
noncomputable def tT1 (P : Params) : BT := (.node (ho0 P) (.node (ho1 P) (.node (ho3 P) (.node (ho7 P) (.node (ho7 P) (.node (ho28 P) .nil .nil) .nil) (.node (ho22 P) .nil .nil)) (.node (ho11 P) (.node (ho18 P) .nil .nil) (.node (ho26 P) .nil .nil))) (.node (ho5 P) (.node (ho9 P) (.node (ho16 P) .nil .nil) (.node (ho24 P) .nil .nil)) (.node (ho13 P) (.node (ho20 P) .nil .nil) (.node (ho8 P) .nil .nil)))) (.node (ho2 P) (.node (ho4 P) (.node (ho8 P) (.node (ho15 P) .nil .nil) (.node (ho23 P) .nil .nil)) (.node (ho12 P) (.node (ho19 P) .nil .nil) (.node (ho7 P) .nil .nil))) (.node (ho6 P) (.node (ho10 P) (.node (ho17 P) .nil .nil) (.node (ho25 P) .nil .nil)) (.node (ho14 P) (.node (ho21 P) .nil .nil) (.node (ho27 P) .nil .nil)))))
noncomputable def sT1 (w : World) : SharedT := ⟨tT1 w.params, 32, {}, #[], {}, 282, (start (opening pwH)).1.os⟩
noncomputable def tT2 (P : Params) : BT := (.node (ho0 P) (.node (ho1 P) (.node (ho29 P) (.node (ho7 P) (.node (ho7 P) (.node (ho28 P) (.node (ho49 P) .nil .nil) .nil) (.node (ho8 P) .nil .nil)) (.node (ho22 P) (.node (ho7 P) (.node (ho54 P) .nil .nil) .nil) (.node (ho43 P) .nil .nil))) (.node (ho11 P) (.node (ho18 P) (.node (ho7 P) (.node (ho51 P) .nil .nil) .nil) (.node (ho41 P) .nil .nil)) (.node (ho26 P) (.node (ho36 P) (.node (ho7 P) .nil .nil) .nil) (.node (ho46 P) .nil .nil)))) (.node (ho5 P) (.node (ho9 P) (.node (ho16 P) (.node (ho8 P) (.node (ho7 P) .nil .nil) .nil) (.node (ho7 P) .nil .nil)) (.node (ho24 P) (.node (ho35 P) (.node (ho56 P) .nil .nil) .nil) (.node (ho44 P) .nil .nil))) (.node (ho13 P) (.node (ho20 P) (.node (ho33 P) (.node (ho52 P) .nil .nil) .nil) (.node (ho7 P) .nil .nil)) (.node (ho30 P) (.node (ho38 P) .nil .nil) (.node (ho6 P) .nil .nil))))) (.node (ho2 P) (.node (ho4 P) (.node (ho8 P) (.node (ho15 P) (.node (ho7 P) (.node (ho50 P) .nil .nil) .nil) (.node (ho39 P) .nil .nil)) (.node (ho23 P) (.node (ho8 P) (.node (ho55 P) .nil .nil) .nil) (.node (ho7 P) .nil .nil))) (.node (ho12 P) (.node (ho19 P) (.node (ho32 P) (.node (ho7 P) .nil .nil) .nil) (.node (ho42 P) .nil .nil)) (.node (ho7 P) (.node (ho37 P) (.node (ho58 P) .nil .nil) .nil) (.node (ho47 P) .nil .nil)))) (.node (ho6 P) (.node (ho10 P) (.node (ho17 P) (.node (ho31 P) (.node (ho8 P) .nil .nil) .nil) (.node (ho40 P) .nil .nil)) (.node (ho25 P) (.node (ho7 P) (.node (ho57 P) .nil .nil) .nil) (.node (ho45 P) .nil .nil))) (.node (ho14 P) (.node (ho21 P) (.node (ho34 P) (.node (ho53 P) .nil .nil) .nil) (.node (ho8 P) .nil .nil)) (.node (ho27 P) (.node (ho7 P) .nil .nil) (.node (ho48 P) .nil .nil))))))
noncomputable def sT2 (w : World) : SharedT := ⟨tT2 w.params, 77, {}, #[], {}, 523, (start (opening pwH)).1.os⟩
noncomputable def tT3 (P : Params) : BT := (.node (ho0 P) (.node (ho1 P) (.node (ho59 P) (.node (ho7 P) (.node (ho7 P) (.node (ho28 P) (.node (ho49 P) .nil .nil) (.node (ho70 P) .nil .nil)) (.node (ho8 P) (.node (ho61 P) .nil .nil) (.node (ho80 P) .nil .nil))) (.node (ho22 P) (.node (ho7 P) (.node (ho54 P) .nil .nil) (.node (ho75 P) .nil .nil)) (.node (ho43 P) (.node (ho7 P) .nil .nil) .nil))) (.node (ho11 P) (.node (ho18 P) (.node (ho7 P) (.node (ho51 P) .nil .nil) (.node (ho8 P) .nil .nil)) (.node (ho41 P) (.node (ho64 P) .nil .nil) .nil)) (.node (ho26 P) (.node (ho36 P) (.node (ho7 P) .nil .nil) (.node (ho77 P) .nil .nil)) (.node (ho46 P) (.node (ho7 P) .nil .nil) .nil)))) (.node (ho5 P) (.node (ho9 P) (.node (ho16 P) (.node (ho8 P) (.node (ho7 P) .nil .nil) (.node (ho72 P) .nil .nil)) (.node (ho7 P) (.node (ho62 P) .nil .nil) .nil)) (.node (ho24 P) (.node (ho35 P) (.node (ho56 P) .nil .nil) (.node (ho7 P) .nil .nil)) (.node (ho44 P) (.node (ho67 P) .nil .nil) .nil))) (.node (ho13 P) (.node (ho20 P) (.node (ho33 P) (.node (ho52 P) .nil .nil) (.node (ho7 P) .nil .nil)) (.node (ho7 P) (.node (ho8 P) .nil .nil) .nil)) (.node (ho60 P) (.node (ho38 P) (.node (ho7 P) .nil .nil) (.node (ho78 P) .nil .nil)) (.node (ho6 P) (.node (ho69 P) .nil .nil) .nil))))) (.node (ho2 P) (.node (ho4 P) (.node (ho8 P) (.node (ho15 P) (.node (ho7 P) (.node (ho50 P) .nil .nil) (.node (ho71 P) .nil .nil)) (.node (ho39 P) (.node (ho7 P) .nil .nil) .nil)) (.node (ho23 P) (.node (ho8 P) (.node (ho55 P) .nil .nil) (.node (ho76 P) .nil .nil)) (.node (ho7 P) (.node (ho66 P) .nil .nil) .nil))) (.node (ho12 P) (.node (ho19 P) (.node (ho32 P) (.node (ho7 P) .nil .nil) (.node (ho73 P) .nil .nil)) (.node (ho42 P) (.node (ho7 P) .nil .nil) .nil)) (.node (ho7 P) (.node (ho37 P) (.node (ho58 P) .nil .nil) (.node (ho7 P) .nil .nil)) (.node (ho47 P) (.node (ho8 P) .nil .nil) .nil)))) (.node (ho6 P) (.node (ho10 P) (.node (ho17 P) (.node (ho31 P) (.node (ho8 P) .nil .nil) (.node (ho7 P) .nil .nil)) (.node (ho40 P) (.node (ho63 P) .nil .nil) .nil)) (.node (ho25 P) (.node (ho7 P) (.node (ho57 P) .nil .nil) (.node (ho8 P) .nil .nil)) (.node (ho45 P) (.node (ho68 P) .nil .nil) .nil))) (.node (ho14 P) (.node (ho21 P) (.node (ho34 P) (.node (ho53 P) .nil .nil) (.node (ho74 P) .nil .nil)) (.node (ho8 P) (.node (ho65 P) .nil .nil) .nil)) (.node (ho27 P) (.node (ho7 P) (.node (ho8 P) .nil .nil) (.node (ho79 P) .nil .nil)) (.node (ho48 P) (.node (ho7 P) .nil .nil) .nil))))))
noncomputable def sT3 (w : World) : SharedT := ⟨tT3 w.params, 112, {}, #[], {}, 583, (start (opening pwH)).1.os⟩
noncomputable def tT4 (P : Params) : BT := (.node (ho0 P) (.node (ho1 P) (.node (ho81 P) (.node (ho7 P) (.node (ho7 P) (.node (ho28 P) (.node (ho49 P) (.node (ho93 P) .nil .nil) .nil) (.node (ho70 P) .nil .nil)) (.node (ho8 P) (.node (ho61 P) (.node (ho104 P) .nil .nil) .nil) (.node (ho80 P) .nil .nil))) (.node (ho22 P) (.node (ho7 P) (.node (ho54 P) (.node (ho99 P) .nil .nil) .nil) (.node (ho75 P) .nil .nil)) (.node (ho43 P) (.node (ho7 P) (.node (ho109 P) .nil .nil) .nil) (.node (ho7 P) .nil .nil)))) (.node (ho11 P) (.node (ho18 P) (.node (ho7 P) (.node (ho51 P) (.node (ho97 P) .nil .nil) .nil) (.node (ho8 P) .nil .nil)) (.node (ho41 P) (.node (ho64 P) (.node (ho7 P) .nil .nil) .nil) (.node (ho7 P) .nil .nil))) (.node (ho26 P) (.node (ho36 P) (.node (ho7 P) (.node (ho102 P) .nil .nil) .nil) (.node (ho77 P) .nil .nil)) (.node (ho46 P) (.node (ho7 P) .nil .nil) (.node (ho89 P) .nil .nil))))) (.node (ho5 P) (.node (ho9 P) (.node (ho16 P) (.node (ho8 P) (.node (ho7 P) (.node (ho95 P) .nil .nil) .nil) (.node (ho72 P) .nil .nil)) (.node (ho7 P) (.node (ho62 P) (.node (ho106 P) .nil .nil) .nil) (.node (ho83 P) .nil .nil))) (.node (ho24 P) (.node (ho35 P) (.node (ho56 P) (.node (ho100 P) .nil .nil) .nil) (.node (ho7 P) .nil .nil)) (.node (ho44 P) (.node (ho67 P) (.node (ho111 P) .nil .nil) .nil) (.node (ho88 P) .nil .nil)))) (.node (ho13 P) (.node (ho20 P) (.node (ho33 P) (.node (ho52 P) (.node (ho7 P) .nil .nil) .nil) (.node (ho7 P) .nil .nil)) (.node (ho7 P) (.node (ho8 P) (.node (ho108 P) .nil .nil) .nil) (.node (ho86 P) .nil .nil))) (.node (ho82 P) (.node (ho38 P) (.node (ho7 P) (.node (ho8 P) .nil .nil) .nil) (.node (ho78 P) .nil .nil)) (.node (ho6 P) (.node (ho69 P) .nil .nil) (.node (ho91 P) .nil .nil)))))) (.node (ho2 P) (.node (ho4 P) (.node (ho8 P) (.node (ho15 P) (.node (ho7 P) (.node (ho50 P) (.node (ho94 P) .nil .nil) .nil) (.node (ho71 P) .nil .nil)) (.node (ho39 P) (.node (ho7 P) (.node (ho105 P) .nil .nil) .nil) (.node (ho7 P) .nil .nil))) (.node (ho23 P) (.node (ho8 P) (.node (ho55 P) (.node (ho7 P) .nil .nil) .nil) (.node (ho76 P) .nil .nil)) (.node (ho7 P) (.node (ho66 P) (.node (ho110 P) .nil .nil) .nil) (.node (ho8 P) .nil .nil)))) (.node (ho12 P) (.node (ho19 P) (.node (ho32 P) (.node (ho7 P) (.node (ho98 P) .nil .nil) .nil) (.node (ho73 P) .nil .nil)) (.node (ho42 P) (.node (ho7 P) (.node (ho8 P) .nil .nil) .nil) (.node (ho85 P) .nil .nil))) (.node (ho7 P) (.node (ho37 P) (.node (ho58 P) (.node (ho7 P) .nil .nil) .nil) (.node (ho7 P) .nil .nil)) (.node (ho47 P) (.node (ho8 P) .nil .nil) (.node (ho90 P) .nil .nil))))) (.node (ho6 P) (.node (ho10 P) (.node (ho17 P) (.node (ho31 P) (.node (ho8 P) (.node (ho96 P) .nil .nil) .nil) (.node (ho7 P) .nil .nil)) (.node (ho40 P) (.node (ho63 P) (.node (ho107 P) .nil .nil) .nil) (.node (ho84 P) .nil .nil))) (.node (ho25 P) (.node (ho7 P) (.node (ho57 P) (.node (ho101 P) .nil .nil) .nil) (.node (ho8 P) .nil .nil)) (.node (ho45 P) (.node (ho68 P) .nil .nil) (.node (ho7 P) .nil .nil)))) (.node (ho14 P) (.node (ho21 P) (.node (ho34 P) (.node (ho53 P) (.node (ho8 P) .nil .nil) .nil) (.node (ho74 P) .nil .nil)) (.node (ho8 P) (.node (ho65 P) (.node (ho7 P) .nil .nil) .nil) (.node (ho87 P) .nil .nil))) (.node (ho27 P) (.node (ho7 P) (.node (ho8 P) (.node (ho103 P) .nil .nil) .nil) (.node (ho79 P) .nil .nil)) (.node (ho48 P) (.node (ho7 P) .nil .nil) (.node (ho92 P) .nil .nil)))))))
noncomputable def sT4 (w : World) : SharedT := ⟨tT4 w.params, 154, {}, #[], {}, 638, (start (opening pwH)).1.os⟩
noncomputable def tT5 (P : Params) : BT := (.node (ho0 P) (.node (ho1 P) (.node (ho112 P) (.node (ho7 P) (.node (ho7 P) (.node (ho28 P) (.node (ho49 P) (.node (ho93 P) .nil .nil) .nil) (.node (ho70 P) (.node (ho7 P) .nil .nil) .nil)) (.node (ho8 P) (.node (ho61 P) (.node (ho104 P) .nil .nil) .nil) (.node (ho80 P) (.node (ho126 P) .nil .nil) .nil))) (.node (ho22 P) (.node (ho7 P) (.node (ho54 P) (.node (ho99 P) .nil .nil) .nil) (.node (ho75 P) (.node (ho7 P) .nil .nil) .nil)) (.node (ho43 P) (.node (ho7 P) (.node (ho109 P) .nil .nil) .nil) (.node (ho7 P) .nil .nil)))) (.node (ho11 P) (.node (ho18 P) (.node (ho7 P) (.node (ho51 P) (.node (ho97 P) .nil .nil) .nil) (.node (ho8 P) (.node (ho119 P) .nil .nil) .nil)) (.node (ho41 P) (.node (ho64 P) (.node (ho7 P) .nil .nil) .nil) (.node (ho7 P) (.node (ho128 P) .nil .nil) .nil))) (.node (ho26 P) (.node (ho36 P) (.node (ho7 P) (.node (ho102 P) .nil .nil) .nil) (.node (ho77 P) (.node (ho7 P) .nil .nil) .nil)) (.node (ho46 P) (.node (ho7 P) (.node (ho8 P) .nil .nil) .nil) (.node (ho89 P) .nil .nil))))) (.node (ho5 P) (.node (ho9 P) (.node (ho16 P) (.node (ho8 P) (.node (ho7 P) (.node (ho95 P) .nil .nil) .nil) (.node (ho72 P) (.node (ho117 P) .nil .nil) .nil)) (.node (ho7 P) (.node (ho62 P) (.node (ho106 P) .nil .nil) .nil) (.node (ho83 P) (.node (ho8 P) .nil .nil) .nil))) (.node (ho24 P) (.node (ho35 P) (.node (ho56 P) (.node (ho100 P) .nil .nil) .nil) (.node (ho7 P) (.node (ho122 P) .nil .nil) .nil)) (.node (ho44 P) (.node (ho67 P) (.node (ho111 P) .nil .nil) .nil) (.node (ho88 P) .nil .nil)))) (.node (ho13 P) (.node (ho20 P) (.node (ho33 P) (.node (ho52 P) (.node (ho7 P) .nil .nil) .nil) (.node (ho7 P) (.node (ho8 P) .nil .nil) .nil)) (.node (ho7 P) (.node (ho8 P) (.node (ho108 P) .nil .nil) .nil) (.node (ho86 P) .nil .nil))) (.node (ho113 P) (.node (ho38 P) (.node (ho7 P) (.node (ho8 P) .nil .nil) .nil) (.node (ho78 P) (.node (ho124 P) .nil .nil) .nil)) (.node (ho6 P) (.node (ho69 P) (.node (ho115 P) .nil .nil) .nil) (.node (ho91 P) .nil .nil)))))) (.node (ho2 P) (.node (ho4 P) (.node (ho8 P) (.node (ho15 P) (.node (ho7 P) (.node (ho50 P) (.node (ho94 P) .nil .nil) .nil) (.node (ho71 P) (.node (ho8 P) .nil .nil) .nil)) (.node (ho39 P) (.node (ho7 P) (.node (ho105 P) .nil .nil) .nil) (.node (ho7 P) (.node (ho7 P) .nil .nil) .nil))) (.node (ho23 P) (.node (ho8 P) (.node (ho55 P) (.node (ho7 P) .nil .nil) .nil) (.node (ho76 P) (.node (ho121 P) .nil .nil) .nil)) (.node (ho7 P) (.node (ho66 P) (.node (ho110 P) .nil .nil) .nil) (.node (ho8 P) .nil .nil)))) (.node (ho12 P) (.node (ho19 P) (.node (ho32 P) (.node (ho7 P) (.node (ho98 P) .nil .nil) .nil) (.node (ho73 P) (.node (ho7 P) .nil .nil) .nil)) (.node (ho42 P) (.node (ho7 P) (.node (ho8 P) .nil .nil) .nil) (.node (ho85 P) (.node (ho129 P) .nil .nil) .nil))) (.node (ho7 P) (.node (ho37 P) (.node (ho58 P) (.node (ho7 P) .nil .nil) .nil) (.node (ho7 P) (.node (ho8 P) .nil .nil) .nil)) (.node (ho47 P) (.node (ho8 P) (.node (ho114 P) .nil .nil) .nil) (.node (ho90 P) .nil .nil))))) (.node (ho6 P) (.node (ho10 P) (.node (ho17 P) (.node (ho31 P) (.node (ho8 P) (.node (ho96 P) .nil .nil) .nil) (.node (ho7 P) (.node (ho118 P) .nil .nil) .nil)) (.node (ho40 P) (.node (ho63 P) (.node (ho107 P) .nil .nil) .nil) (.node (ho84 P) (.node (ho127 P) .nil .nil) .nil))) (.node (ho25 P) (.node (ho7 P) (.node (ho57 P) (.node (ho101 P) .nil .nil) .nil) (.node (ho8 P) (.node (ho123 P) .nil .nil) .nil)) (.node (ho45 P) (.node (ho68 P) (.node (ho7 P) .nil .nil) .nil) (.node (ho7 P) .nil .nil)))) (.node (ho14 P) (.node (ho21 P) (.node (ho34 P) (.node (ho53 P) (.node (ho8 P) .nil .nil) .nil) (.node (ho74 P) (.node (ho120 P) .nil .nil) .nil)) (.node (ho8 P) (.node (ho65 P) (.node (ho7 P) .nil .nil) .nil) (.node (ho87 P) .nil .nil))) (.node (ho27 P) (.node (ho7 P) (.node (ho8 P) (.node (ho103 P) .nil .nil) .nil) (.node (ho79 P) (.node (ho125 P) .nil .nil) .nil)) (.node (ho48 P) (.node (ho7 P) (.node (ho116 P) .nil .nil) .nil) (.node (ho92 P) .nil .nil)))))))
noncomputable def sT5 (w : World) : SharedT := ⟨tT5 w.params, 181, {}, #[], {}, 675, (start (opening pwH)).1.os⟩
noncomputable def tT6 (P : Params) : BT := (.node (ho0 P) (.node (ho1 P) (.node (ho130 P) (.node (ho7 P) (.node (ho7 P) (.node (ho28 P) (.node (ho49 P) (.node (ho93 P) .nil .nil) (.node (ho137 P) .nil .nil)) (.node (ho70 P) (.node (ho7 P) .nil .nil) .nil)) (.node (ho8 P) (.node (ho61 P) (.node (ho104 P) .nil .nil) .nil) (.node (ho80 P) (.node (ho126 P) .nil .nil) .nil))) (.node (ho22 P) (.node (ho7 P) (.node (ho54 P) (.node (ho99 P) .nil .nil) (.node (ho8 P) .nil .nil)) (.node (ho75 P) (.node (ho7 P) .nil .nil) .nil)) (.node (ho43 P) (.node (ho7 P) (.node (ho109 P) .nil .nil) .nil) (.node (ho7 P) (.node (ho132 P) .nil .nil) .nil)))) (.node (ho11 P) (.node (ho18 P) (.node (ho7 P) (.node (ho51 P) (.node (ho97 P) .nil .nil) (.node (ho139 P) .nil .nil)) (.node (ho8 P) (.node (ho119 P) .nil .nil) .nil)) (.node (ho41 P) (.node (ho64 P) (.node (ho7 P) .nil .nil) .nil) (.node (ho7 P) (.node (ho128 P) .nil .nil) .nil))) (.node (ho26 P) (.node (ho36 P) (.node (ho7 P) (.node (ho102 P) .nil .nil) .nil) (.node (ho77 P) (.node (ho7 P) .nil .nil) .nil)) (.node (ho46 P) (.node (ho7 P) (.node (ho8 P) .nil .nil) .nil) (.node (ho89 P) (.node (ho135 P) .nil .nil) .nil))))) (.node (ho5 P) (.node (ho9 P) (.node (ho16 P) (.node (ho8 P) (.node (ho7 P) (.node (ho95 P) .nil .nil) (.node (ho7 P) .nil .nil)) (.node (ho72 P) (.node (ho117 P) .nil .nil) .nil)) (.node (ho7 P) (.node (ho62 P) (.node (ho106 P) .nil .nil) .nil) (.node (ho83 P) (.node (ho8 P) .nil .nil) .nil))) (.node (ho24 P) (.node (ho35 P) (.node (ho56 P) (.node (ho100 P) .nil .nil) (.node (ho143 P) .nil .nil)) (.node (ho7 P) (.node (ho122 P) .nil .nil) .nil)) (.node (ho44 P) (.node (ho67 P) (.node (ho111 P) .nil .nil) .nil) (.node (ho88 P) (.node (ho133 P) .nil .nil) .nil)))) (.node (ho13 P) (.node (ho20 P) (.node (ho33 P) (.node (ho52 P) (.node (ho7 P) .nil .nil) (.node (ho141 P) .nil .nil)) (.node (ho7 P) (.node (ho8 P) .nil .nil) .nil)) (.node (ho7 P) (.node (ho8 P) (.node (ho108 P) .nil .nil) .nil) (.node (ho86 P) (.node (ho7 P) .nil .nil) .nil))) (.node (ho131 P) (.node (ho38 P) (.node (ho7 P) (.node (ho8 P) .nil .nil) .nil) (.node (ho78 P) (.node (ho124 P) .nil .nil) .nil)) (.node (ho6 P) (.node (ho69 P) (.node (ho115 P) .nil .nil) .nil) (.node (ho91 P) (.node (ho8 P) .nil .nil) .nil)))))) (.node (ho2 P) (.node (ho4 P) (.node (ho8 P) (.node (ho15 P) (.node (ho7 P) (.node (ho50 P) (.node (ho94 P) .nil .nil) (.node (ho138 P) .nil .nil)) (.node (ho71 P) (.node (ho8 P) .nil .nil) .nil)) (.node (ho39 P) (.node (ho7 P) (.node (ho105 P) .nil .nil) .nil) (.node (ho7 P) (.node (ho7 P) .nil .nil) .nil))) (.node (ho23 P) (.node (ho8 P) (.node (ho55 P) (.node (ho7 P) .nil .nil) (.node (ho142 P) .nil .nil)) (.node (ho76 P) (.node (ho121 P) .nil .nil) .nil)) (.node (ho7 P) (.node (ho66 P) (.node (ho110 P) .nil .nil) .nil) (.node (ho8 P) (.node (ho7 P) .nil .nil) .nil)))) (.node (ho12 P) (.node (ho19 P) (.node (ho32 P) (.node (ho7 P) (.node (ho98 P) .nil .nil) (.node (ho140 P) .nil .nil)) (.node (ho73 P) (.node (ho7 P) .nil .nil) .nil)) (.node (ho42 P) (.node (ho7 P) (.node (ho8 P) .nil .nil) .nil) (.node (ho85 P) (.node (ho129 P) .nil .nil) .nil))) (.node (ho7 P) (.node (ho37 P) (.node (ho58 P) (.node (ho7 P) .nil .nil) .nil) (.node (ho7 P) (.node (ho8 P) .nil .nil) .nil)) (.node (ho47 P) (.node (ho8 P) (.node (ho114 P) .nil .nil) .nil) (.node (ho90 P) (.node (ho7 P) .nil .nil) .nil))))) (.node (ho6 P) (.node (ho10 P) (.node (ho17 P) (.node (ho31 P) (.node (ho8 P) (.node (ho96 P) .nil .nil) (.node (ho8 P) .nil .nil)) (.node (ho7 P) (.node (ho118 P) .nil .nil) .nil)) (.node (ho40 P) (.node (ho63 P) (.node (ho107 P) .nil .nil) .nil) (.node (ho84 P) (.node (ho127 P) .nil .nil) .nil))) (.node (ho25 P) (.node (ho7 P) (.node (ho57 P) (.node (ho101 P) .nil .nil) (.node (ho144 P) .nil .nil)) (.node (ho8 P) (.node (ho123 P) .nil .nil) .nil)) (.node (ho45 P) (.node (ho68 P) (.node (ho7 P) .nil .nil) .nil) (.node (ho7 P) (.node (ho134 P) .nil .nil) .nil)))) (.node (ho14 P) (.node (ho21 P) (.node (ho34 P) (.node (ho53 P) (.node (ho8 P) .nil .nil) (.node (ho7 P) .nil .nil)) (.node (ho74 P) (.node (ho120 P) .nil .nil) .nil)) (.node (ho8 P) (.node (ho65 P) (.node (ho7 P) .nil .nil) .nil) (.node (ho87 P) (.node (ho8 P) .nil .nil) .nil))) (.node (ho27 P) (.node (ho7 P) (.node (ho8 P) (.node (ho103 P) .nil .nil) .nil) (.node (ho79 P) (.node (ho125 P) .nil .nil) .nil)) (.node (ho48 P) (.node (ho7 P) (.node (ho116 P) .nil .nil) .nil) (.node (ho92 P) (.node (ho136 P) .nil .nil) .nil)))))))
noncomputable def sT6 (w : World) : SharedT := ⟨tT6 w.params, 203, {}, #[], {}, 703, (start (opening pwH)).1.os⟩
theorem fence_at (w : World) : fencedOpening treeTable pwH w 4676 = some (fS w) := by kernel_rfl
theorem pre_at (w : World) : topGo treeTable pwH w 28 (some (.ref 6)) 12 (fS w) (topStub pwH) = some ((sT1 w).abs, ⟨denote treeTable cT, cT, ps0, [topFrame ps0]⟩) := by kernel_rfl
theorem block_at (w : World) : segRun treeTable pwH w 28 (some (.ref 6)) 1 1 (sT1 w).abs (blockOf bT envT cT ps0 [topFrame ps0]) = some (.next, (sT1 w).abs, cT, ps0) := by kernel_rfl
theorem size_at (w : World) : (fS w).heap.isNs mainGlobals = true ∧ (fS w).gens.size = 0 ∧ (fS w).heap.objs.size = 28 ∧ (fS w).heap.nsMap mainGlobals "__annotations__" = (some (.ref 6)) := ⟨by kernel_rfl, rfl, rfl, by kernel_rfl⟩
noncomputable def bL2 : List Stmt := (bT.drop 0).take 10
abbrev Go2 (w : World) : Prop := segRunT treeTable pwH w 28 (some (.ref 6)) 1 1911 (sT1 w) (piecesOf bL2 envT cT ps0 [topFrame ps0]) = some (Flow.next, sT2 w, cT, (psH 46 0 46 18))
theorem go2_ff (w : World) : Go2 ((w.withFollow "special-get-raises" false).withFollow "comprehension-iter-twice" false) := by kernel_rfl
theorem go2_ft (w : World) : Go2 ((w.withFollow "special-get-raises" false).withFollow "comprehension-iter-twice" true) := by kernel_rfl
theorem go2_tf (w : World) : Go2 ((w.withFollow "special-get-raises" true).withFollow "comprehension-iter-twice" false) := by kernel_rfl
theorem go2_tt (w : World) : Go2 ((w.withFollow "special-get-raises" true).withFollow "comprehension-iter-twice" true) := by kernel_rfl
theorem go2 (w : World) : Go2 w := byRow2 "comprehension-iter-twice" (byRow2 "special-get-raises" go2_ff go2_tf) (byRow2 "special-get-raises" go2_ft go2_tt) w
noncomputable def bL3 : List Stmt := (bT.drop 10).take 7
abbrev Go3 (w : World) : Prop := segRunT treeTable pwH w 28 (some (.ref 6)) 1 194 (sT2 w) (piecesOf bL3 envT cT (psH 46 0 46 18) [topFrame ps0]) = some (Flow.next, sT3 w, cT, (psH 149 0 155 91))
theorem go3 (w : World) : Go3 w := by kernel_rfl
noncomputable def bL4 : List Stmt := (bT.drop 17).take 5
abbrev Go4 (w : World) : Prop := segRunT treeTable pwH w 28 (some (.ref 6)) 1 331 (sT3 w) (piecesOf bL4 envT cT (psH 149 0 155 91) [topFrame ps0]) = some (Flow.next, sT4 w, cT, (psH 169 0 170 54))
theorem go4 (w : World) : Go4 w := by kernel_rfl
noncomputable def bL5 : List Stmt := (bT.drop 22).take 5
abbrev Go5 (w : World) : Prop := segRunT treeTable pwH w 28 (some (.ref 6)) 1 149 (sT4 w) (piecesOf bL5 envT cT (psH 169 0 170 54) [topFrame ps0]) = some (Flow.next, sT5 w, cT, (psH 205 0 220 36))
theorem go5 (w : World) : Go5 w := by kernel_rfl
noncomputable def bL6 : List Stmt := (bT.drop 27).take 4
abbrev Go6 (w : World) : Prop := segRunT treeTable pwH w 28 (some (.ref 6)) 1 120 (sT5 w) (piecesOf bL6 envT cT (psH 205 0 220 36) [topFrame ps0]) = some (Flow.next, sT6 w, cT, (psH 241 0 264 26))
theorem go6 (w : World) : Go6 w := by kernel_rfl
theorem b_all : bT = bL2 ++ (bL3 ++ (bL4 ++ (bL5 ++ (bL6 ++ [])))) := by kernel_rfl
theorem end_at (w : World) : topRun treeTable pwH w 28 (some (.ref 6)) (12 + (1 + (1911 + (194 + (331 + (149 + (120 + 2))))))) (fS w) (topStub pwH) = some (sT6 w).abs := go_top (pre_at w) (piece_block (block_at w) (by rw [b_all]; exact piece_app (segRun_of (go2 w)) (piece_app (segRun_of (go3 w)) (piece_app (segRun_of (go4 w)) (piece_app (segRun_of (go5 w)) (piece_app (segRun_of (go6 w)) (piece_nil (show topRun treeTable pwH w 28 (some (.ref 6)) 2 (sT6 w).abs ⟨doneF .next, cT, (psH 241 0 264 26), [topFrame ps0]⟩ = some (sT6 w).abs from rfl))))))))
theorem look_a (w : World) : openSeen vw lo (importedModules pwH.main.body) (fun s => xlAt vw [] s && recOk [] s) true (sT6 w).abs = openGood vw lo := by kernel_rfl
theorem look_b (w : World) : obsH ad2 (sT6 w).abs = (true, initParts pwH "_Example") := by kernel_rfl
theorem look_c (w : World) : (staticsOk (importedModules pwH.main.body) (fS w).heap (sT6 w).abs.heap && namesBound pwH (sT6 w).abs.heap && gensDone (sT6 w).abs && laidKept (fS w).heap (sT6 w).abs.heap) = true := by kernel_rfl
theorem runs (w : World) : (openEnds treeTable pwH w 4676).map (fun s => (openSeen vw lo (importedModules pwH.main.body) (fun s => xlAt vw [] s && recOk [] s) true s, obsH ad2 s)) = some (openGood vw lo, (true, initParts pwH "_Example")) := by
  have t : topFrom treeTable pwH w 4676 (fS w) = some (sT6 w).abs := by
    unfold topFrom
    rw [(size_at w).1, (size_at w).2.1, (size_at w).2.2.1, (size_at w).2.2.2, show (4676 : Nat) = 2720 + 1956 from rfl, topRun_mono 1956 2720 _ _ _ (end_at w)]
    show (match staticsOk (importedModules pwH.main.body) (fS w).heap (sT6 w).abs.heap && namesBound pwH (sT6 w).abs.heap && gensDone (sT6 w).abs && laidKept (fS w).heap (sT6 w).abs.heap with | true => _ | false => _) = _
    rw [look_c]
  unfold openEnds
  rw [fence_at w]
  show (topFrom treeTable pwH w 4676 (fS w)).map _ = _
  rw [t]
  exact congrArg some (Prod.ext (look_a w) (look_b w))
end Sh
namespace Sh
open PySem PySem.Calls PyProof.Rows PySem.W PySem.Spec
noncomputable def d00 : DefRec := ⟨"", ⟨[], [], none, [], [], none, []⟩, [], ⟨.function, [], false, false, []⟩, ⟨0, 0, 0, 0⟩⟩
noncomputable def recF (n : Str) : Option DefRec := (recsOf vw).find? fun e => e.name == n
noncomputable def scOf (d : DefRec) (nt : List Str) : Sc := ⟨d.scope.names, nt, (d.scope.names.filter fun x => x.2 == .cell).map (·.1)⟩
noncomputable def parsOf (d : DefRec) : List Str := d.params.args.map (·.arg)
noncomputable def chkB (T : Nat → Option Str) (L : Option Pos) (nt : List Str) (b : SL) (d : DefRec) : Bool :=
  mSL T L (scOf d nt) b d.body && (fnB (scOf d nt) (parsOf d) d.scope.names && (decide (parsOf d).Nodup && decide ((parsOf d).length ≤ nt.length)))
noncomputable def scopeOk (s : Scope) : Bool := s.kind == .function && (!s.isCoroutine && !s.isGenerator)
noncomputable def tT (f : Nat) : Option Str := tNames[f]?
noncomputable def d0 : DefRec := (recF "heappush").getD d00
theorem rec0 : recF "heappush" = some d0 := by kernel_rfl
theorem sco0 : scopeOk d0.scope = true := by decide +kernel
theorem bin0 (pm c doc : Value) (v w : Value) : bindArgs (docDef d0.name d0.params d0.body d0.scope pm c doc) ⟨[v, w], []⟩ = pure [(("heap" : Str), v), (("item" : Str), w)] := by kernel_rfl
theorem nam0 : d0.name = "heappush" := by decide +kernel
theorem chk0 : chkB tT none tNT0 tB0 d0 = true := by decide +kernel
noncomputable def d1 : DefRec := (recF "heappop").getD d00
theorem rec1 : recF "heappop" = some d1 := by kernel_rfl
theorem sco1 : scopeOk d1.scope = true := by decide +kernel
theorem bin1 (pm c doc : Value) (v : Value) : bindArgs (docDef d1.name d1.params d1.body d1.scope pm c doc) ⟨[v], []⟩ = pure [(("heap" : Str), v)] := by kernel_rfl
theorem nam1 : d1.name = "heappop" := by decide +kernel
theorem chk1 : chkB tT none tNT1 tB1 d1 = true := by decide +kernel
noncomputable def d2 : DefRec := (recF "_siftdown").getD d00
theorem rec2 : recF "_siftdown" = some d2 := by kernel_rfl
theorem sco2 : scopeOk d2.scope = true := by decide +kernel
theorem bin2 (pm c doc : Value) (v w u : Value) : bindArgs (docDef d2.name d2.params d2.body d2.scope pm c doc) ⟨[v, w, u], []⟩ = pure [(("heap" : Str), v), (("startpos" : Str), w), (("pos" : Str), u)] := by kernel_rfl
theorem nam2 : d2.name = "_siftdown" := by decide +kernel
theorem chk2 : chkB tT none tNT2 tB2 d2 = true := by decide +kernel
noncomputable def d3 : DefRec := (recF "_siftup").getD d00
theorem rec3 : recF "_siftup" = some d3 := by kernel_rfl
theorem sco3 : scopeOk d3.scope = true := by decide +kernel
theorem bin3 (pm c doc : Value) (v w : Value) : bindArgs (docDef d3.name d3.params d3.body d3.scope pm c doc) ⟨[v, w], []⟩ = pure [(("heap" : Str), v), (("pos" : Str), w)] := by kernel_rfl
theorem nam3 : d3.name = "_siftup" := by decide +kernel
theorem chk3 : chkB tT none tNT3 tB3 d3 = true := by decide +kernel
noncomputable def d4 : DefRec := (recF "translate").getD d00
theorem rec4 : recF "translate" = some d4 := by kernel_rfl
theorem sco4 : scopeOk d4.scope = true := by decide +kernel
theorem bin4 (pm c doc : Value) (v : Value) : bindArgs (docDef d4.name d4.params d4.body d4.scope pm c doc) ⟨[v], []⟩ = pure [(("pat" : Str), v)] := by kernel_rfl
theorem nam4 : d4.name = "translate" := by decide +kernel
theorem chk4 : chkB tT none tNT4 tB4 d4 = true := by decide +kernel
noncomputable def d5 : DefRec := (recF "escape").getD d00
theorem rec5 : recF "escape" = some d5 := by kernel_rfl
theorem sco5 : scopeOk d5.scope = true := by decide +kernel
theorem bin5 (pm c doc : Value) (v : Value) : bindArgs (docDef d5.name d5.params d5.body d5.scope pm c doc) ⟨[v], []⟩ = pure [(("pattern" : Str), v)] := by kernel_rfl
theorem nam5 : d5.name = "escape" := by decide +kernel
noncomputable def d6 : DefRec := (recF "_translate").getD d00
theorem rec6 : recF "_translate" = some d6 := by kernel_rfl
theorem sco6 : scopeOk d6.scope = true := by decide +kernel
theorem bin6 (pm c doc : Value) (v w u : Value) : bindArgs (docDef d6.name d6.params d6.body d6.scope pm c doc) ⟨[v, w, u], []⟩ = pure [(("pat" : Str), v), (("STAR" : Str), w), (("QUESTION_MARK" : Str), u)] := by kernel_rfl
theorem nam6 : d6.name = "_translate" := by decide +kernel
noncomputable def lpT : Option Pos := some ⟨100, 39, 100, 76⟩
theorem chk6 : chkB tT lpT tNT6 tB6 d6 = true := by decide +kernel
noncomputable def d7 : DefRec := (recF "_join_translated_parts").getD d00
theorem rec7 : recF "_join_translated_parts" = some d7 := by kernel_rfl
theorem sco7 : scopeOk d7.scope = true := by decide +kernel
theorem bin7 (pm c doc : Value) (v w : Value) : bindArgs (docDef d7.name d7.params d7.body d7.scope pm c doc) ⟨[v, w], []⟩ = pure [(("inp" : Str), v), (("STAR" : Str), w)] := by kernel_rfl
theorem nam7 : d7.name = "_join_translated_parts" := by decide +kernel
theorem chk7 : chkB tT none tNT7 tB7 d7 = true := by decide +kernel
noncomputable def d8 : DefRec := (recF "read_uint1").getD d00
theorem rec8 : recF "read_uint1" = some d8 := by kernel_rfl
theorem sco8 : scopeOk d8.scope = true := by decide +kernel
theorem bin8 (pm c doc : Value) (v : Value) : bindArgs (docDef d8.name d8.params d8.body d8.scope pm c doc) ⟨[v], []⟩ = pure [(("f" : Str), v)] := by kernel_rfl
theorem nam8 : d8.name = "read_uint1" := by decide +kernel
theorem chk8 : chkB tT none tNT8 tB8 d8 = true := by decide +kernel
noncomputable def d9 : DefRec := (recF "read_string1").getD d00
theorem rec9 : recF "read_string1" = some d9 := by kernel_rfl
theorem sco9 : scopeOk d9.scope = true := by decide +kernel
theorem bin9 (pm c doc : Value) (v : Value) : bindArgs (docDef d9.name d9.params d9.body d9.scope pm c doc) ⟨[v], []⟩ = pure [(("f" : Str), v)] := by kernel_rfl
theorem nam9 : d9.name = "read_string1" := by decide +kernel
theorem chk9 : chkB tT none tNT9 tB9 d9 = true := by decide +kernel
noncomputable def d10 : DefRec := (recF "_law_take").getD d00
theorem rec10 : recF "_law_take" = some d10 := by kernel_rfl
theorem sco10 : scopeOk d10.scope = true := by decide +kernel
theorem bin10 (pm c doc : Value) (v w : Value) : bindArgs (docDef d10.name d10.params d10.body d10.scope pm c doc) ⟨[v, w], []⟩ = pure [(("stream" : Str), v), (("size" : Str), w)] := by kernel_rfl
theorem nam10 : d10.name = "_law_take" := by decide +kernel
theorem chk10 : chkB tT none tNT10 tB10 d10 = true := by decide +kernel
noncomputable def d11 : DefRec := (recF "_law_stream").getD d00
theorem rec11 : recF "_law_stream" = some d11 := by kernel_rfl
theorem sco11 : scopeOk d11.scope = true := by decide +kernel
theorem bin11 (pm c doc : Value) (v : Value) : bindArgs (docDef d11.name d11.params d11.body d11.scope pm c doc) ⟨[v], []⟩ = pure [(("octets" : Str), v)] := by kernel_rfl
theorem nam11 : d11.name = "_law_stream" := by decide +kernel
noncomputable def d12 : DefRec := (recF "_law_counted").getD d00
theorem rec12 : recF "_law_counted" = some d12 := by kernel_rfl
theorem sco12 : scopeOk d12.scope = true := by decide +kernel
theorem bin12 (pm c doc : Value) (v : Value) : bindArgs (docDef d12.name d12.params d12.body d12.scope pm c doc) ⟨[v], []⟩ = pure [(("text" : Str), v)] := by kernel_rfl
theorem nam12 : d12.name = "_law_counted" := by decide +kernel
theorem chk12 : chkB tT none tNT12 tB12 d12 = true := by decide +kernel
noncomputable def d13 : DefRec := (recF "_law_wish").getD d00
theorem rec13 : recF "_law_wish" = some d13 := by kernel_rfl
theorem sco13 : scopeOk d13.scope = true := by decide +kernel
theorem bin13 (pm c doc : Value) (v : Value) : bindArgs (docDef d13.name d13.params d13.body d13.scope pm c doc) ⟨[v], []⟩ = pure [(("number" : Str), v)] := by kernel_rfl
theorem nam13 : d13.name = "_law_wish" := by decide +kernel
theorem chk13 : chkB tT none tNT13 tB13 d13 = true := by decide +kernel
noncomputable def d14 : DefRec := (recF "_law_halves").getD d00
theorem rec14 : recF "_law_halves" = some d14 := by kernel_rfl
theorem sco14 : scopeOk d14.scope = true := by decide +kernel
theorem bin14 (pm c doc : Value) (v w : Value) : bindArgs (docDef d14.name d14.params d14.body d14.scope pm c doc) ⟨[v, w], []⟩ = pure [(("word" : Str), v), (("wish" : Str), w)] := by kernel_rfl
theorem nam14 : d14.name = "_law_halves" := by decide +kernel
theorem chk14 : chkB tT none tNT14 tB14 d14 = true := by decide +kernel
noncomputable def d15 : DefRec := (recF "_law_given").getD d00
theorem rec15 : recF "_law_given" = some d15 := by kernel_rfl
theorem sco15 : scopeOk d15.scope = true := by decide +kernel
theorem bin15 (pm c doc : Value) (v w : Value) : bindArgs (docDef d15.name d15.params d15.body d15.scope pm c doc) ⟨[v, w], []⟩ = pure [(("heap" : Str), v), (("wish" : Str), w)] := by kernel_rfl
theorem nam15 : d15.name = "_law_given" := by decide +kernel
theorem chk15 : chkB tT none tNT15 tB15 d15 = true := by decide +kernel
noncomputable def d16 : DefRec := (recF "_law_served").getD d00
theorem rec16 : recF "_law_served" = some d16 := by kernel_rfl
theorem sco16 : scopeOk d16.scope = true := by decide +kernel
theorem bin16 (pm c doc : Value) (v : Value) : bindArgs (docDef d16.name d16.params d16.body d16.scope pm c doc) ⟨[v], []⟩ = pure [(("stream" : Str), v)] := by kernel_rfl
theorem nam16 : d16.name = "_law_served" := by decide +kernel
theorem chk16 : chkB tT none tNT16 tB16 d16 = true := by decide +kernel
noncomputable def d17 : DefRec := (recF "_law_due").getD d00
theorem rec17 : recF "_law_due" = some d17 := by kernel_rfl
theorem sco17 : scopeOk d17.scope = true := by decide +kernel
theorem bin17 (pm c doc : Value) (v : Value) : bindArgs (docDef d17.name d17.params d17.body d17.scope pm c doc) ⟨[v], []⟩ = pure [(("wishes" : Str), v)] := by kernel_rfl
theorem nam17 : d17.name = "_law_due" := by decide +kernel
theorem chk17 : chkB tT none tNT17 tB17 d17 = true := by decide +kernel
noncomputable def d18 : DefRec := (recF "_law_dressed").getD d00
theorem rec18 : recF "_law_dressed" = some d18 := by kernel_rfl
theorem sco18 : scopeOk d18.scope = true := by decide +kernel
theorem bin18 (pm c doc : Value) (v w : Value) : bindArgs (docDef d18.name d18.params d18.body d18.scope pm c doc) ⟨[v, w], []⟩ = pure [(("word" : Str), v), (("turn" : Str), w)] := by kernel_rfl
theorem nam18 : d18.name = "_law_dressed" := by decide +kernel
theorem chk18 : chkB tT none tNT18 tB18 d18 = true := by decide +kernel
noncomputable def d19 : DefRec := (recF "_law_tests").getD d00
theorem rec19 : recF "_law_tests" = some d19 := by kernel_rfl
theorem sco19 : scopeOk d19.scope = true := by decide +kernel
theorem bin19 (pm c doc : Value) (v : Value) : bindArgs (docDef d19.name d19.params d19.body d19.scope pm c doc) ⟨[v], []⟩ = pure [(("text" : Str), v)] := by kernel_rfl
theorem nam19 : d19.name = "_law_tests" := by decide +kernel
theorem chk19 : chkB tT none tNT19 tB19 d19 = true := by decide +kernel
noncomputable def d20 : DefRec := (recF "_law_takes").getD d00
theorem rec20 : recF "_law_takes" = some d20 := by kernel_rfl
theorem sco20 : scopeOk d20.scope = true := by decide +kernel
theorem bin20 (pm c doc : Value) (v w : Value) : bindArgs (docDef d20.name d20.params d20.body d20.scope pm c doc) ⟨[v, w], []⟩ = pure [(("tests" : Str), v), (("word" : Str), w)] := by kernel_rfl
theorem nam20 : d20.name = "_law_takes" := by decide +kernel
theorem chk20 : chkB tT none tNT20 tB20 d20 = true := by decide +kernel
noncomputable def d21 : DefRec := (recF "law").getD d00
theorem rec21 : recF "law" = some d21 := by kernel_rfl
theorem sco21 : scopeOk d21.scope = true := by decide +kernel
theorem bin21 (pm c doc : Value) (v : Value) : bindArgs (docDef d21.name d21.params d21.body d21.scope pm c doc) ⟨[v], []⟩ = pure [(("script" : Str), v)] := by kernel_rfl
theorem nam21 : d21.name = "law" := by decide +kernel
theorem chk21 : chkB tT none tNT21 tB21 d21 = true := by decide +kernel
end Sh
namespace Sh
open PySem PySem.Calls PyProof.Rows PySem.W PySem.Spec
/-- a def of the text, as it stands -/
structure FA (h : Heap) (mg : Str → Option Value) (n : Str) (d : DefRec) (a c P : Addr) (pm doc : Value) : Prop where
  g : mg n = some (.ref a)
  o : ∃ o, h.get? a = some o ∧ o.cls ≠ .none ∧ o.data = .func (docDef d.name d.params d.body d.scope pm (.ref c) doc)
  cr : h.CodeRec (.ref c) d.name
  hd : CodeHd h c P
  tb : h.get? P = some (tabObj #[])
theorem fa_of {p : Program} {loose : List Str} {mean : ExcName → Option Value} {mg mb : Str → Option Value} {h : Heap} {n : Str} {d : DefRec} (T : Top p loose mean mg mb h) (hf : (recsOf p).find? (fun e => e.name == n) = some d)
    (hc : ∀ a o, mg n = some (.ref a) → h.get? a = some o → o.cls ≠ .none) : ∃ a c P pm doc, FA h mg n d a c P pm doc := by
  have hn : d.name = n := beq_iff_eq.mp (List.find?_some (p := fun e : DefRec => e.name == n) hf)
  have hm := List.mem_of_find?_eq_some hf
  obtain ⟨a, o, pm, cd, doc, h1, h2, h3, h4⟩ := T.fn d hm
  obtain ⟨a', o', fd, c, P, k1, k2, k3, k4, k5, k6⟩ := T.tab d hm
  cases so (h1.symm.trans k1)
  cases so (h2.symm.trans k2)
  cases h3.symm.trans k3
  cases (show cd = .ref c from k4)
  exact ⟨a, c, P, pm, doc, hn ▸ h1, ⟨o, h2, hc a o (hn ▸ h1) h2, h3⟩, h4, .of k5 k6, k6.2⟩
theorem codeHd_el {h : Heap} {c P : Addr} {G : Prop} (x : CodeHd h c P) (k : ∀ o vs, h.get? c = some o → o.cls = .type "code" → o.data = .fields vs → vs[11]? = some (.ref P) → G) : G :=
  x.elim fun o x => x.elim fun vs x => x.elim fun _ x => x.elim fun _ x => x.elim fun _ x => x.elim fun _ x => x.elim fun _ x => x.elim fun _ x => x.elim fun _ x => k o vs x.1 x.2.1 x.2.2.1 x.2.2.2.1
theorem FA.fn {B : Base} {n : Str} {d : DefRec} {a c P : Addr} {pm doc : Value} (F : FA B.h₀ B.mg n d a c P pm doc) (hs : scopeOk d.scope = true) : FnIn B a (docDef d.name d.params d.body d.scope pm (.ref c) doc) :=
  and_el hs fun s1 hs => and_el hs fun s2 s3 => ⟨F.o, rfl, rfl, rfl, fun h k => codeHd_el F.hd fun o vs e1 e2 _ _ => F.cr.elim fun c' q => q.elim fun o' q => q.elim fun vs' q => q.elim fun t q =>
    ⟨c', o', vs', t, q.1, k _ _ q.2.1 (by rw [← Value.ref.inj q.1] at q; rw [so (q.2.1.symm.trans e1), e2]; exact fun q => nomatch q), q.2.2⟩, not_at s2, not_at s3, eq_of_beq s1⟩
/-- a function known by its name -/
noncomputable def Fn (B : Base) (lv : Nat) (n : Str) (sp : Spec) : Prop := ∃ v, B.mg n = some v ∧ FOK B lv v sp
theorem Fn.more {B : Base} {lv lv' : Nat} {n : Str} {sp : Spec} (h : Fn B lv n sp) (hl : lv ≤ lv') : Fn B lv' n sp := h.imp fun _ q => ⟨q.1, q.2.more hl⟩
theorem known_nil {B : Base} {lv : Nat} {T : Nat → Option Str} : Known B lv T (tab []) := fun f n sp _ h2 => nn h2
theorem known_cons {B : Base} {lv i lv' : Nat} {T : Nat → Option Str} {n : Str} {sp : Spec} {r : List (Nat × Spec)} (hT : T i = some n) (h : Fn B lv' n sp) (hl : lv' ≤ lv) (K : Known B lv T (tab r)) : Known B lv T (tab ((i, sp) :: r)) := fun f n' sp' h1 h2 => by
  have h2 : cond (f == i) (some sp) (tab r f) = some sp' := h2
  cases hb : f == i with
  | true => rw [hb] at h2; cases beq_iff_eq.mp hb; cases so (hT.symm.trans h1); cases so (ct h2); exact h.more hl
  | false => rw [hb] at h2; exact K f n' sp' h1 (cf h2)
/-- what all functions' proofs rest on -/
structure Wst (B : Base) : Prop where
  N : NoGlob B
  P : PatIn B patName
  str : ∃ K fI q, StrF B K fI ∧ B.Z = sdp B.C q
noncomputable def lamQ (n : Str) : Str := n ++ ".<locals>." ++ "<lambda>"
theorem fok_of {B : Base} {lv : Nat} {T : Nat → Option Str} {L : Option Pos} {Φ : Nat → Option Spec} {nt : List Str} {b : SL} {n : Str} {d : DefRec} {a c P : Addr} {pm doc : Value} (W : Wst B) (F : FA B.h₀ B.mg n d a c P pm doc) (hs : scopeOk d.scope = true)
    (hL : ∀ p, L = some p → TabIn B c P p (lamQ d.name)) (hk : chkB T L nt b d = true) (K : Known B lv T Φ)
    (hb : ∀ vals : List Value, vals.length = (parsOf d).length → bindArgs (docDef d.name d.params d.body d.scope pm (.ref c) doc) ⟨vals, []⟩ = pure ((parsOf d).zip vals)) : FOK B (lv + 2) (.ref a) (dropS (fnRun Φ (parsOf d).length nt.length b)) :=
  and_el hk fun k1 hk => and_el hk fun k2 hk => and_el hk fun k3 k4 => drop_ok (fun_okF (Γ := scOf d nt) (F.fn hs) rfl hb (dec k3) k2 (dec k4) fun cx hc =>
    mSL_ok (T := T) (L := L) b d.body ⟨⟨hc.R, hc.hB ▸ K, hc.hB ▸ W.N, hc.hB ▸ W.P, fun p hp => ⟨c, P, lamQ d.name, hc.hB ▸ hL p hp, hc.cd, by rw [hc.qual]; rfl⟩, hc.hB ▸ W.str⟩, hc.fr, hc.fl⟩ (hc.hΓ ▸ k1))
theorem len_s {α : Type} {P : List α → Prop} {l : List α} {n : Nat} (h : l.length = n + 1) (k : ∀ a t, t.length = n → P (a :: t)) : P l := by
  cases l with
  | nil => exact Nat.noConfusion h
  | cons a t => exact k a t (Nat.succ.inj h)
theorem len_0 {α : Type} {P : List α → Prop} {l : List α} (h : l.length = 0) (k : P []) : P l := List.eq_nil_of_length_eq_zero h ▸ k
theorem bnd1 {fd : FuncData} {n : Str} (h : ∀ v, bindArgs fd ⟨[v], []⟩ = pure [(n, v)]) (vals : List Value) (hv : vals.length = 1) : bindArgs fd ⟨vals, []⟩ = pure ([n].zip vals) :=
  len_s (P := fun vals => bindArgs fd ⟨vals, []⟩ = pure ([n].zip vals)) hv fun v t ht => len_0 (P := fun t => bindArgs fd ⟨v :: t, []⟩ = pure ([n].zip (v :: t))) ht (h v)
theorem bnd2 {fd : FuncData} {n m : Str} (h : ∀ v w, bindArgs fd ⟨[v, w], []⟩ = pure [(n, v), (m, w)]) (vals : List Value) (hv : vals.length = 2) : bindArgs fd ⟨vals, []⟩ = pure ([n, m].zip vals) :=
  len_s (P := fun vals => bindArgs fd ⟨vals, []⟩ = pure ([n, m].zip vals)) hv fun v t ht => len_s (P := fun t => bindArgs fd ⟨v :: t, []⟩ = pure ([n, m].zip (v :: t))) ht fun w t ht => len_0 (P := fun t => bindArgs fd ⟨v :: w :: t, []⟩ = pure ([n, m].zip (v :: w :: t))) ht (h v w)
theorem bnd3 {fd : FuncData} {n m k : Str} (h : ∀ v w u, bindArgs fd ⟨[v, w, u], []⟩ = pure [(n, v), (m, w), (k, u)]) (vals : List Value) (hv : vals.length = 3) : bindArgs fd ⟨vals, []⟩ = pure ([n, m, k].zip vals) :=
  len_s (P := fun vals => bindArgs fd ⟨vals, []⟩ = pure ([n, m, k].zip vals)) hv fun v t ht => len_s (P := fun t => bindArgs fd ⟨v :: t, []⟩ = pure ([n, m, k].zip (v :: t))) ht fun w t ht => len_s (P := fun t => bindArgs fd ⟨v :: w :: t, []⟩ = pure ([n, m, k].zip (v :: w :: t))) ht fun u t ht =>
    len_0 (P := fun t => bindArgs fd ⟨v :: w :: u :: t, []⟩ = pure ([n, m, k].zip (v :: w :: u :: t))) ht (h v w u)
end Sh
namespace Sh
open PySem PySem.Calls PyProof.Rows PySem.W PySem.Spec
noncomputable def qL : LPos := ⟨⟨167, 25, 167, 29⟩, ⟨167, 31, 167, 40⟩, ⟨167, 41, 167, 47⟩, ⟨167, 49, 167, 53⟩, ⟨167, 31, 167, 54⟩⟩
noncomputable def lpS : Pos := ⟨167, 18, 167, 54⟩
theorem bod11 : d11.body = [.Assign [.Name "stream" ⟨166, 4, 166, 10⟩] (.Call (.Name "_Example" ⟨166, 13, 166, 21⟩) [.Name "octets" ⟨166, 22, 166, 28⟩] [] ⟨166, 13, 166, 29⟩) ⟨166, 4, 166, 29⟩, .Assign [.Attribute (.Name "stream" ⟨167, 4, 167, 10⟩) "read" ⟨167, 4, 167, 15⟩] (.Lambda (lamParams qL) (lamBody qL) lamScope lpS) ⟨167, 4, 167, 54⟩, .Return (some (.Name "stream" ⟨168, 11, 168, 17⟩)) ⟨168, 4, 168, 17⟩] := by kernel_rfl
theorem nms11 : d11.scope.names = strmNames := by kernel_rfl
noncomputable def osE : List Stmt := match d5.body with | [.If _ _ o _] => o | _ => []
theorem bod5 : d5.body = [.If (.Call (.Name "isinstance" ⟨48, 7, 48, 17⟩) [.Name "pattern" ⟨48, 18, 48, 25⟩, .Name "str" ⟨48, 27, 48, 30⟩] [] ⟨48, 7, 48, 31⟩) [.Return (some (.Call (.Attribute (.Name "pattern" ⟨49, 15, 49, 22⟩) "translate" ⟨49, 15, 49, 32⟩) [.Name "_special_chars_map" ⟨49, 33, 49, 51⟩] [] ⟨49, 15, 49, 52⟩)) ⟨49, 8, 49, 52⟩] osE ⟨48, 4, 52, 69⟩] := by kernel_rfl
theorem nms5 : d5.scope.names = escNames := by kernel_rfl
noncomputable def iBod : List Stmt := [.Assign [.Attribute (.Name "self" ⟨159, 8, 159, 12⟩) "value" ⟨159, 8, 159, 18⟩] (.Name "value" ⟨159, 21, 159, 26⟩) ⟨159, 8, 159, 26⟩]
noncomputable def iPar : Arguments := ((initParts PySem.Challenge.pw_rx0126_02 "_Example").getD (d00.params, .stmts [], d00.scope)).1
noncomputable def iSco : Scope := ((initParts PySem.Challenge.pw_rx0126_02 "_Example").getD (d00.params, .stmts [], d00.scope)).2.2
theorem ini2 : initParts PySem.Challenge.pw_rx0126_02 "_Example" = some (iPar, .stmts iBod, iSco) := by kernel_rfl
theorem nmsI : iSco.names = initNames := by kernel_rfl
theorem scoI : scopeOk iSco = true := by decide +kernel
theorem binI (name doc pm an co ct) (u v : Value) : bindArgs ⟨name, "_Example.__init__", iPar, .stmts iBod, iSco, mainGlobals, [], .none, .none, doc, pm, an, co, ct, builtinsNs⟩ ⟨[u, v], []⟩ = pure [(("self" : Str), u), (("value" : Str), v)] := by kernel_rfl
theorem par0 : parsOf d0 = (["heap", "item"] : List Str) := by decide +kernel
theorem par1 : parsOf d1 = (["heap"] : List Str) := by decide +kernel
theorem par2 : parsOf d2 = (["heap", "startpos", "pos"] : List Str) := by decide +kernel
theorem par3 : parsOf d3 = (["heap", "pos"] : List Str) := by decide +kernel
theorem par4 : parsOf d4 = (["pat"] : List Str) := by decide +kernel
theorem par5 : parsOf d5 = (["pattern"] : List Str) := by decide +kernel
theorem par6 : parsOf d6 = (["pat", "STAR", "QUESTION_MARK"] : List Str) := by decide +kernel
theorem par7 : parsOf d7 = (["inp", "STAR"] : List Str) := by decide +kernel
theorem par8 : parsOf d8 = (["f"] : List Str) := by decide +kernel
theorem par9 : parsOf d9 = (["f"] : List Str) := by decide +kernel
theorem par10 : parsOf d10 = (["stream", "size"] : List Str) := by decide +kernel
theorem par11 : parsOf d11 = (["octets"] : List Str) := by decide +kernel
theorem par12 : parsOf d12 = (["text"] : List Str) := by decide +kernel
theorem par13 : parsOf d13 = (["number"] : List Str) := by decide +kernel
theorem par14 : parsOf d14 = (["word", "wish"] : List Str) := by decide +kernel
theorem par15 : parsOf d15 = (["heap", "wish"] : List Str) := by decide +kernel
theorem par16 : parsOf d16 = (["stream"] : List Str) := by decide +kernel
theorem par17 : parsOf d17 = (["wishes"] : List Str) := by decide +kernel
theorem par18 : parsOf d18 = (["word", "turn"] : List Str) := by decide +kernel
theorem par19 : parsOf d19 = (["text"] : List Str) := by decide +kernel
theorem par20 : parsOf d20 = (["tests", "word"] : List Str) := by decide +kernel
theorem par21 : parsOf d21 = (["script"] : List Str) := by decide +kernel
theorem nbFree : nbNames.all (fun x => !startupNames.contains x && (!(looseW vw lo).contains x && (!((recsOf vw).map (·.name)).contains x && (!((litsOf vw).map (·.1)).contains x && !((clssOf vw (looseW vw lo)).map (·.name)).contains x)))) = true := by decide +kernel
theorem lpne : (samePos lpS ⟨100, 39, 100, 76⟩) = false := by decide +kernel
end Sh
namespace Sh
open PySem PySem.Calls PyProof.Rows PySem.W PySem.Spec
theorem flds_at {d : Data} {v : Array Value} (h : fldsOf d = some v) : d = .fields v := by cases d <;> first | exact nn h | exact congrArg _ (so h)
theorem seq_at {d : Data} {v : Array Value × Nat} (h : seqOf d = some v) : d = .seq v.1 v.2 := by cases d <;> first | exact nn h | (cases so h; rfl)
theorem dictE_at {d : Data} {v : Array DictEntry × Nat} (h : dictE d = some v) : d = .dict v.1 v.2 := by cases d <;> first | exact nn h | (cases so h; rfl)
theorem fun_at {d : Data} {v : FuncData} (h : funOf d = some v) : d = .func v := by cases d <;> first | exact nn h | exact congrArg _ (so h)
theorem isStrO_at {v : Option Value} {q : Str} (h : isStrO v q = true) : ∃ t, v = some (.str q t) := oe_el h fun w e h => oe_el h fun x e2 h => ⟨x.2, by rw [e, strOf_at e2, eq_of_beq h]⟩
section
variable {B : Base} {h₁ : Heap}
theorem str_at' {as : List Addr} {fI : Addr} (h : strB (fragOf h₁ as) B.C fI = true) (k : ∀ b o, h₁.get? b = some o → B.h₀.get? b = some o) : StrF B (fragOf h₁ as) fI :=
  and_el h fun a1 h => and_el h fun a2 h => and_el h fun a3 h => and_el h fun a4 h => and_el h fun a5 h => and_el h fun a6 h => and_el h fun a7 h => and_el h fun a8 h => and_el h fun a9 h => and_el h fun a10 h => and_el h fun a11 a12 =>
    ⟨fun KO a o e => KO.get_of_cls (k _ _ (frag_get e)) (hasCls_at (List.all_eq_true.mp a1 (a, o) (mem_of_lookup' e))), a2, a3, oe_el a4 fun attr q1 q2 => ⟨attr, q1, q2⟩, eq_of_beq a5, eq_of_beq a6, a7, eq_of_beq a8, eq_of_beq a9, a10, eq_of_beq a11, eq_of_beq a12⟩
where mem_of_lookup' {α : Type} : ∀ {l : List (Addr × α)} {n : Addr} {c : α}, l.lookup n = some c → (n, c) ∈ l
  | [], _, _, h => nn h
  | (m, d) :: r, n, c, h => by
    rw [List.lookup_cons] at h
    cases q : n == m with
    | true => rw [q] at h; rw [beq_iff_eq.mp q, so (show some d = some c from h)]; exact .head _
    | false => rw [q] at h; exact .tail _ (mem_of_lookup' h)
theorem pat_at {n : Str} {p c : Addr} (h : patB h₁ p c = true) (k : ∀ b o, h₁.get? b = some o → B.h₀.get? b = some o) (hg : B.mg n = some (.ref p)) : PatIn B n :=
  oe_el h fun o e1 h => and_el h fun a1 h => and_el h fun a2 h => oe_el h fun fs e2 h => and_el h fun a3 h => and_el h fun a4 h => and_el h fun a5 h => oe_el h fun oc e3 h => and_el h fun a6 h => oe_el h fun xs e4 h =>
    ⟨p, o, fs, c, oc, xs.1, xs.2, hg, k _ _ e1, eq_of_beq a1, Option.isNone_iff_eq_none.mp a2, flds_at e2, eq_of_beq a3, isRefV_at a4, k _ _ e3, hasCls_at a6, seq_at e4, dec h, eq_of_beq a5⟩
theorem map_at {n : Str} {D : Addr} {G : Prop} (h : mapB h₁ D = true) (k : ∀ b o, h₁.get? b = some o → B.h₀.get? b = some o) (hg : B.mg n = some (.ref D)) (hD : (D == sysModules) = false) (g : ∀ o es ep, MapIn B n D o es ep → G) : G :=
  oe_el h fun o e1 h => and_el h fun a1 h => and_el h fun a2 h => and_el h fun a3 h => and_el h fun a4 h => oe_el h fun es e2 h => and_el h fun a5 h => and_el h fun a6 a7 =>
    g o es.1 es.2 ⟨hg, hD, k _ _ e1, hasCls_at a1, ⟨eq_of_beq a2, Option.isNone_iff_eq_none.mp a3, Array.isEmpty_iff.mp a4⟩, dictE_at e2, a5, Option.isNone_iff_eq_none.mp a6, Option.isNone_iff_eq_none.mp a7⟩
/-- the class's own start -/
structure IniD (d : FuncData) : Prop where
  q : d.qualname = "_Example.__init__"
  pr : d.params = iPar
  bd : d.body = .stmts iBod
  sc : d.scope = iSco
  gl : d.globals = mainGlobals
  cl : d.closure = []
  df : d.defaults = .none
  kd : d.kwdefaults = .none
  bl : d.builtins = builtinsNs
theorem IniD.bind {d : FuncData} (I : IniD d) (u v : Value) : bindArgs d ⟨[u, v], []⟩ = pure [(("self" : Str), u), (("value" : Str), v)] :=
  (congrArg (fun d => bindArgs d ⟨[u, v], []⟩) (show d = ⟨d.name, "_Example.__init__", iPar, .stmts iBod, iSco, mainGlobals, [], .none, .none, d.doc, d.pyModule, d.annotations, d.code, d.closureTuple, builtinsNs⟩ by
    have e : d = ⟨d.name, d.qualname, d.params, d.body, d.scope, d.globals, d.closure, d.defaults, d.kwdefaults, d.doc, d.pyModule, d.annotations, d.code, d.closureTuple, d.builtins⟩ := rfl
    rw [I.q, I.pr, I.bd, I.sc, I.gl, I.cl, I.df, I.kd, I.bl] at e
    exact e)).trans (binI _ _ _ _ _ _ u v)
theorem ini_at {f : Addr} {G : Prop} (h : iniB h₁ f "_Example.__init__" = true) (hp : iniP h₁ f = some (iPar, .stmts iBod, iSco)) (k : ∀ b o, h₁.get? b = some o → B.h₀.get? b = some o)
    (g : ∀ d, IniD d → FnIn B f d → G) : G :=
  oe_el h fun o e1 h => and_el h fun a1 h => oe_el h fun d e2 h => and_el h fun a2 h => and_el h fun a3 h => and_el h fun a4 h => and_el h fun a5 h => and_el h fun a6 h => and_el h fun a7 h => by
    unfold iniP at hp
    rw [e1, Option.bind_some, e2] at hp
    have hp := so (show some (d.params, d.body, d.scope) = some (iPar, .stmts iBod, iSco) from hp)
    have hq := eq_of_beq a3
    have hs : scopeOk d.scope = true := (congrArg (fun x => scopeOk x.2.2) hp).trans scoI
    refine and_el hs fun s1 hs => and_el hs fun s2 s3 => g d ⟨hq, congrArg (·.1) hp, congrArg (·.2.1) hp, congrArg (·.2.2) hp, eq_of_beq a4, List.isEmpty_iff.mp a2, eq_of_beq a6, eq_of_beq a7, eq_of_beq a5⟩
      ⟨⟨o, k _ _ e1, hasCls_at a1, fun_at e2⟩, eq_of_beq a4, eq_of_beq a5, List.isEmpty_iff.mp a2, fun hh kk => ?_, not_at s2, not_at s3, eq_of_beq s1⟩
    exact oe_el h fun c ec h => oe_el h fun oc e3 h => and_el h fun b1 h => oe_el h fun vs e4 h => (isStrO_at h).elim fun t ht => ⟨c, oc, vs, t, refOf_at ec, kk _ _ (k _ _ e3) (hasCls_at b1), flds_at e4, hq ▸ ht⟩
end
/-- the base -/
noncomputable def bs2 (w : World) (s : Shared) (mg mb : Str → Option Value) (P6 P11 : Addr) : Base :=
  ⟨PySem.Challenge.pw_rx0126_02, w, s.heap, mg, mb, s.os, ad2.C, sdp ad2.C qL, [(P6, [(⟨100, 39, 100, 76⟩, lamQ d6.name)]), (P11, [(lpS, lamQual)])]⟩
section
variable {w : World} {s : Shared} {mg mb : Str → Option Value} {mean : ExcName → Option Value} {loose : List Str}
theorem tab_ne {h : Heap} {P Q : Addr} (h1 : h.get? P = some (tabObj #[])) (h2 : hasClsAt h Q = true) : Q ≠ P := fun e => oe_el h2 fun o e1 h2 => by
  rw [e, h1] at e1; cases e1; exact hasCls_at h2 rfl
theorem bmain_at {h : Heap} {P : Addr} (T : Top vw loose mean mg mb h) (h1 : h.get? P = some (tabObj #[])) : h.BuiltinsAt mg P := by
  obtain ⟨bm, ob, b1, b2, b3, b4, b5, b6⟩ := T.bmain
  refine ⟨bm, ob, b1, b2, fun e => ?_, fun e => ?_, b3, b4, b5, b6⟩
  · obtain ⟨o, es, ep, q1, q2, _⟩ := T.g
    rw [e, q1] at b3; cases b3; rw [q2] at b6; cases b6
  · rw [e, h1] at b3; cases b3; cases b4
theorem base_ok {P6 P11 : Addr} (T : Top vw loose mean mg mb s.heap) (h1 : s.heap.get? P6 = some (tabObj #[])) (h2 : s.heap.get? P11 = some (tabObj #[])) (g1 : hasClsAt s.heap mainGlobals = true) (g2 : hasClsAt s.heap builtinsNs = true) : (bs2 w s mg mb P6 P11).OK :=
  ⟨T.g, T.b, T.builtins, T.nolimit, oe_el g1 fun o e h => ⟨o, e, hasCls_at h⟩, oe_el g2 fun o e h => ⟨o, e, hasCls_at h⟩, fun x hx => by
    have key : ∀ P, s.heap.get? P = some (tabObj #[]) → (∃ o, s.heap.get? P = some o) ∧ mainGlobals ≠ P ∧ s.heap.BuiltinsAt mg P := fun P hP => ⟨⟨_, hP⟩, tab_ne hP g1, bmain_at T hP⟩
    rcases List.mem_cons.mp hx with e | hx
    · rw [e]; exact key _ h1
    · rw [List.mem_singleton.mp hx]; exact key _ h2⟩
theorem inv_0 {P6 P11 : Addr} (ok : (bs2 w s mg mb P6 P11).OK) (h1 : s.heap.get? P6 = some (tabObj #[])) (h2 : s.heap.get? P11 = some (tabObj #[])) (hg : s.gens = #[]) : Inv (bs2 w s mg mb P6 P11) ⟨[], []⟩ [] s :=
  ⟨ok, ok.lim, .refl _, rfl, .nil, fun a q => q.elim (fun q => (nomatch q)) fun q => (nomatch q), fun a q => (nomatch q), fun a q => (nomatch q), fun i a o e => nn e, rfl, .of_eq hg, fun x hx => by
    have key : ∀ P (ys : List (Pos × Str)), s.heap.get? P = some (tabObj #[]) → ∃ ps, s.heap.get? P = some (tabObj ps) ∧ TriplesOk ps.toList ∧ ∀ y ∈ ys, codeAmong y.1 ps.toList = none ∨ ∃ c' o vs t, codeAmong y.1 ps.toList = some (.ref c') ∧ Fz ⟨[], []⟩ s.heap c' o ∧ o.data = .fields vs ∧ vs[1]? = some (.str y.2 t) := fun P ys hP => ⟨_, hP, trivial, fun y _ => .inl rfl⟩
    rcases List.mem_cons.mp hx with e | hx
    · rw [e]; exact key _ _ h1
    · rw [List.mem_singleton.mp hx]; exact key _ _ h2⟩
end
theorem mem0 : (("heappush" : Str), (38 : Addr)) ∈ ad2.fns := by decide +kernel
theorem mem1 : (("heappop" : Str), (45 : Addr)) ∈ ad2.fns := by decide +kernel
theorem mem2 : (("_siftdown" : Str), (52 : Addr)) ∈ ad2.fns := by decide +kernel
theorem mem3 : (("_siftup" : Str), (59 : Addr)) ∈ ad2.fns := by decide +kernel
theorem mem4 : (("translate" : Str), (71 : Addr)) ∈ ad2.fns := by decide +kernel
theorem mem5 : (("escape" : Str), (83 : Addr)) ∈ ad2.fns := by decide +kernel
theorem mem6 : (("_translate" : Str), (90 : Addr)) ∈ ad2.fns := by decide +kernel
theorem mem7 : (("_join_translated_parts" : Str), (97 : Addr)) ∈ ad2.fns := by decide +kernel
theorem mem8 : (("read_uint1" : Str), (104 : Addr)) ∈ ad2.fns := by decide +kernel
theorem mem9 : (("read_string1" : Str), (111 : Addr)) ∈ ad2.fns := by decide +kernel
theorem mem10 : (("_law_take" : Str), (139 : Addr)) ∈ ad2.fns := by decide +kernel
theorem mem11 : (("_law_stream" : Str), (146 : Addr)) ∈ ad2.fns := by decide +kernel
theorem mem12 : (("_law_counted" : Str), (153 : Addr)) ∈ ad2.fns := by decide +kernel
theorem mem13 : (("_law_wish" : Str), (158 : Addr)) ∈ ad2.fns := by decide +kernel
theorem mem14 : (("_law_halves" : Str), (163 : Addr)) ∈ ad2.fns := by decide +kernel
theorem mem15 : (("_law_given" : Str), (170 : Addr)) ∈ ad2.fns := by decide +kernel
theorem mem16 : (("_law_served" : Str), (175 : Addr)) ∈ ad2.fns := by decide +kernel
theorem mem17 : (("_law_due" : Str), (180 : Addr)) ∈ ad2.fns := by decide +kernel
theorem mem18 : (("_law_dressed" : Str), (187 : Addr)) ∈ ad2.fns := by decide +kernel
theorem mem19 : (("_law_tests" : Str), (192 : Addr)) ∈ ad2.fns := by decide +kernel
theorem mem20 : (("_law_takes" : Str), (197 : Addr)) ∈ ad2.fns := by decide +kernel
theorem mem21 : (("law" : Str), (202 : Addr)) ∈ ad2.fns := by decide +kernel
theorem memP : ((patName : Str), (64 : Addr)) ∈ ad2.fns := by decide +kernel
theorem memD : (("_special_chars_map" : Str), (73 : Addr)) ∈ ad2.fns := by decide +kernel
theorem memC : (("_Example" : Str), (128 : Addr)) ∈ ad2.fns := by decide +kernel
theorem nb_at {mg mb : Str → Option Value} {mean : ExcName → Option Value} {h : Heap} (T : Top vw (looseW vw lo) mean mg mb h) : ∀ x ∈ nbNames, mg x = none := fun x hx =>
  and_el (List.all_eq_true.mp nbFree x hx) fun h1 h => and_el h fun h2 h => and_el h fun h3 h => and_el h fun h4 h5 =>
    T.free x (nc (not_at h1)) (nc (not_at h2)) (nc (not_at h3)) (nc (not_at h4)) (nc (not_at h5))
where nc {l : List Str} {x : Str} (h : l.contains x = false) : x ∉ l := fun q => Bool.noConfusion (h.symm.trans (List.contains_iff_mem.mpr q))
theorem pos_same (x y : Pos) : samePos x y = samePos y x := by unfold samePos; rw [Bool.beq_comm (a := x.line), Bool.beq_comm (a := x.col)]
theorem fa_uniq {h : Heap} {mg : Str → Option Value} {n : Str} {d : DefRec} {a c P a' c' P' : Addr} {pm doc pm' doc' : Value} (F : FA h mg n d a c P pm doc) (F' : FA h mg n d a' c' P' pm' doc') : c = c' ∧ P = P' := by
  cases so (F.g.symm.trans F'.g)
  obtain ⟨o, e1, _, e2⟩ := F.o
  obtain ⟨o', e1', _, e2'⟩ := F'.o
  cases so (e1.symm.trans e1')
  cases (show Value.ref c = Value.ref c' from congrArg (fun x => (funOf x).elim Value.none FuncData.code) (e2.symm.trans e2'))
  exact ⟨rfl, codeHd_el F.hd fun o vs q1 _ q2 q3 => codeHd_el F'.hd fun o' vs' q1' _ q2' q3' => by
    rw [so (q1.symm.trans q1')] at q2
    rw [Data.fields.inj (q2.symm.trans q2')] at q3
    exact Value.ref.inj (so (q3.symm.trans q3'))⟩
/-- all that the functions' proofs take from the world -/
structure WF (B : Base) : Prop where
  W : Wst B
  fa : ∀ n d, recF n = some d → (∃ a, (n, a) ∈ ad2.fns) → ∃ a c P pm doc, FA B.h₀ B.mg n d a c P pm doc
  t6 : ∀ a c P pm doc, FA B.h₀ B.mg "_translate" d6 a c P pm doc → TabIn B c P ⟨100, 39, 100, 76⟩ (lamQ d6.name)
  t11 : ∀ a c P pm doc, FA B.h₀ B.mg "_law_stream" d11 a c P pm doc → TabIn B c P lpS lamQual
  map : ∃ o es ep, MapIn B "_special_chars_map" 73 o es ep
  ini : ∃ K fI d, StrF B K fI ∧ IniD d ∧ FnIn B fI d
  Z : B.Z = sdp B.C qL
  ex : B.mg "_Example" = some (.ref B.C)
theorem fn_of {B : Base} {lv : Nat} {T : Nat → Option Str} {L : Option Pos} {Φ : Nat → Option Spec} {nt ps : List Str} {b : SL} {n : Str} {d : DefRec} {ad : Addr} (w : WF B) (hr : recF n = some d) (hm : (n, ad) ∈ ad2.fns) (hs : scopeOk d.scope = true)
    (hL : ∀ p, L = some p → ∀ a c P pm doc, FA B.h₀ B.mg n d a c P pm doc → TabIn B c P p (lamQ d.name)) (hk : chkB T L nt b d = true) (K : Known B lv T Φ) (hp : parsOf d = ps)
    (hb : ∀ (pm c doc : Value) (vals : List Value), vals.length = ps.length → bindArgs (docDef d.name d.params d.body d.scope pm c doc) ⟨vals, []⟩ = pure (ps.zip vals)) : Fn B (lv + 2) n (dropS (fnRun Φ ps.length nt.length b)) := by
  subst hp
  obtain ⟨a, c, P, pm, doc, F⟩ := w.fa n d hr ⟨ad, hm⟩
  exact ⟨_, F.g, fok_of w.W F hs (fun p h => hL p h _ _ _ _ _ F) hk K (hb pm (.ref c) doc)⟩
theorem f2 {B : Base} (w : WF B) : Fn B 2 "_siftdown" tS2 := fn_of (lv := 0) (Φ := tab tL2) w rec2 mem2 sco2 (fun p hp => nn hp) chk2 known_nil par2 fun pm c doc => bnd3 (bin2 pm c doc)
theorem f0 {B : Base} (w : WF B) : Fn B 4 "heappush" tS0 := fn_of (lv := 2) (Φ := tab tL0) w rec0 mem0 sco0 (fun p hp => nn hp) chk0 (known_cons (show tT 2 = some "_siftdown" from rfl) (f2 w) (by decide) known_nil) par0 fun pm c doc => bnd2 (bin0 pm c doc)
theorem f3 {B : Base} (w : WF B) : Fn B 4 "_siftup" tS3 := fn_of (lv := 2) (Φ := tab tL3) w rec3 mem3 sco3 (fun p hp => nn hp) chk3 (known_cons (show tT 2 = some "_siftdown" from rfl) (f2 w) (by decide) known_nil) par3 fun pm c doc => bnd2 (bin3 pm c doc)
theorem f1 {B : Base} (w : WF B) : Fn B 6 "heappop" tS1 := fn_of (lv := 4) (Φ := tab tL1) w rec1 mem1 sco1 (fun p hp => nn hp) chk1 (known_cons (show tT 3 = some "_siftup" from rfl) (f3 w) (by decide) known_nil) par1 fun pm c doc => bnd1 (bin1 pm c doc)
theorem f5 {B : Base} (w : WF B) : Fn B 1 "escape" tS5 := by
  obtain ⟨a, c, P, pm, doc, F⟩ := w.fa _ _ rec5 ⟨_, mem5⟩
  obtain ⟨o, es, ep, M⟩ := w.map
  exact ⟨_, F.g, esc_ok (lv := 0) (F.fn sco5) w.W.N M (congrArg FuncBody.stmts bod5) rfl nms5 (bin5 _ _ _)⟩
theorem f6 {B : Base} (w : WF B) : Fn B 3 "_translate" tS6 := fn_of (lv := 1) (Φ := tab tL6) w rec6 mem6 sco6 (fun p hp => so hp ▸ w.t6) chk6 (known_cons (show tT 5 = some "escape" from rfl) (f5 w) (by decide) known_nil) par6 fun pm c doc => bnd3 (bin6 pm c doc)
theorem f7 {B : Base} (w : WF B) : Fn B 2 "_join_translated_parts" tS7 := fn_of (lv := 0) (Φ := tab tL7) w rec7 mem7 sco7 (fun p hp => nn hp) chk7 known_nil par7 fun pm c doc => bnd2 (bin7 pm c doc)
theorem f4 {B : Base} (w : WF B) : Fn B 5 "translate" tS4 := fn_of (lv := 3) (Φ := tab tL4) w rec4 mem4 sco4 (fun p hp => nn hp) chk4 (known_cons (show tT 6 = some "_translate" from rfl) (f6 w) (by decide) (known_cons (show tT 7 = some "_join_translated_parts" from rfl) (f7 w) (by decide) known_nil)) par4 fun pm c doc => bnd1 (bin4 pm c doc)
theorem f10 {B : Base} (w : WF B) : Fn B 2 "_law_take" tS10 := fn_of (lv := 0) (Φ := tab tL10) w rec10 mem10 sco10 (fun p hp => nn hp) chk10 known_nil par10 fun pm c doc => bnd2 (bin10 pm c doc)
theorem f8 {B : Base} (w : WF B) : Fn B 4 "read_uint1" tS8 := fn_of (lv := 2) (Φ := tab tL8) w rec8 mem8 sco8 (fun p hp => nn hp) chk8 (known_cons (show tT 10 = some "_law_take" from rfl) (f10 w) (by decide) known_nil) par8 fun pm c doc => bnd1 (bin8 pm c doc)
theorem f9 {B : Base} (w : WF B) : Fn B 6 "read_string1" tS9 := fn_of (lv := 4) (Φ := tab tL9) w rec9 mem9 sco9 (fun p hp => nn hp) chk9 (known_cons (show tT 8 = some "read_uint1" from rfl) (f8 w) (by decide) (known_cons (show tT 10 = some "_law_take" from rfl) (f10 w) (by decide) known_nil)) par9 fun pm c doc => bnd1 (bin9 pm c doc)
theorem f11 {B : Base} (w : WF B) : Fn B 3 "_law_stream" tS11 := by
  obtain ⟨a, c, P, pm, doc, F⟩ := w.fa _ _ rec11 ⟨_, mem11⟩
  obtain ⟨K, fI, d, S, I, XI⟩ := w.ini
  exact ⟨_, F.g, stream_ok (lv := 0) S w.Z (F.fn sco11) XI (congrArg FuncBody.stmts bod11) nms11 (bin11 _ _ _) nam11 rfl (w.t11 _ _ _ _ _ F) w.ex I.bd ((congrArg Scope.names I.sc).trans nmsI) I.bind⟩
theorem f12 {B : Base} (w : WF B) : Fn B 2 "_law_counted" tS12 := fn_of (lv := 0) (Φ := tab tL12) w rec12 mem12 sco12 (fun p hp => nn hp) chk12 known_nil par12 fun pm c doc => bnd1 (bin12 pm c doc)
theorem f13 {B : Base} (w : WF B) : Fn B 2 "_law_wish" tS13 := fn_of (lv := 0) (Φ := tab tL13) w rec13 mem13 sco13 (fun p hp => nn hp) chk13 known_nil par13 fun pm c doc => bnd1 (bin13 pm c doc)
theorem f14 {B : Base} (w : WF B) : Fn B 2 "_law_halves" tS14 := fn_of (lv := 0) (Φ := tab tL14) w rec14 mem14 sco14 (fun p hp => nn hp) chk14 known_nil par14 fun pm c doc => bnd2 (bin14 pm c doc)
theorem f15 {B : Base} (w : WF B) : Fn B 8 "_law_given" tS15 := fn_of (lv := 6) (Φ := tab tL15) w rec15 mem15 sco15 (fun p hp => nn hp) chk15 (known_cons (show tT 0 = some "heappush" from rfl) (f0 w) (by decide) (known_cons (show tT 1 = some "heappop" from rfl) (f1 w) (by decide) (known_cons (show tT 14 = some "_law_halves" from rfl) (f14 w) (by decide) known_nil))) par15 fun pm c doc => bnd2 (bin15 pm c doc)
theorem f16 {B : Base} (w : WF B) : Fn B 10 "_law_served" tS16 := fn_of (lv := 8) (Φ := tab tL16) w rec16 mem16 sco16 (fun p hp => nn hp) chk16 (known_cons (show tT 1 = some "heappop" from rfl) (f1 w) (by decide) (known_cons (show tT 9 = some "read_string1" from rfl) (f9 w) (by decide) (known_cons (show tT 15 = some "_law_given" from rfl) (f15 w) (by decide) known_nil))) par16 fun pm c doc => bnd1 (bin16 pm c doc)
theorem f17 {B : Base} (w : WF B) : Fn B 4 "_law_due" tS17 := fn_of (lv := 2) (Φ := tab tL17) w rec17 mem17 sco17 (fun p hp => nn hp) chk17 (known_cons (show tT 14 = some "_law_halves" from rfl) (f14 w) (by decide) known_nil) par17 fun pm c doc => bnd1 (bin17 pm c doc)
theorem f18 {B : Base} (w : WF B) : Fn B 2 "_law_dressed" tS18 := fn_of (lv := 0) (Φ := tab tL18) w rec18 mem18 sco18 (fun p hp => nn hp) chk18 known_nil par18 fun pm c doc => bnd2 (bin18 pm c doc)
theorem f19 {B : Base} (w : WF B) : Fn B 2 "_law_tests" tS19 := fn_of (lv := 0) (Φ := tab tL19) w rec19 mem19 sco19 (fun p hp => nn hp) chk19 known_nil par19 fun pm c doc => bnd1 (bin19 pm c doc)
theorem f20 {B : Base} (w : WF B) : Fn B 2 "_law_takes" tS20 := fn_of (lv := 0) (Φ := tab tL20) w rec20 mem20 sco20 (fun p hp => nn hp) chk20 known_nil par20 fun pm c doc => bnd2 (bin20 pm c doc)
theorem f21 {B : Base} (w : WF B) : Fn B 12 "law" tS21 := fn_of (lv := 10) (Φ := tab tL21) w rec21 mem21 sco21 (fun p hp => nn hp) chk21 (known_cons (show tT 0 = some "heappush" from rfl) (f0 w) (by decide) (known_cons (show tT 1 = some "heappop" from rfl) (f1 w) (by decide) (known_cons (show tT 4 = some "translate" from rfl) (f4 w) (by decide) (known_cons (show tT 11 = some "_law_stream" from rfl) (f11 w) (by decide) (known_cons (show tT 12 = some "_law_counted" from rfl) (f12 w) (by decide) (known_cons (show tT 13 = some "_law_wish" from rfl) (f13 w) (by decide) (known_cons (show tT 16 = some "_law_served" from rfl) (f16 w) (by decide) (known_cons (show tT 17 = some "_law_due" from rfl) (f17 w) (by decide) (known_cons (show tT 18 = some "_law_dressed" from rfl) (f18 w) (by decide) (known_cons (show tT 19 = some "_law_tests" from rfl) (f19 w) (by decide) (known_cons (show tT 20 = some "_law_takes" from rfl) (f20 w) (by decide) known_nil))))))))))) par21 fun pm c doc => bnd1 (bin21 pm c doc)
theorem world_ok {w : World} {s : Shared} {mg mb : Str → Option Value} {mean : ExcName → Option Value} (T : Top vw (looseW vw lo) mean mg mb s.heap) (Y : hk2.says w s.heap) (hg : s.gens = #[]) :
    ∃ B : Base, B.prog = PySem.Challenge.pw_rx0126_02 ∧ B.w = w ∧ B.h₀ = s.heap ∧ B.mg = mg ∧ B.os = s.os ∧ Inv B ⟨[], []⟩ [] s ∧ Fn B 12 "law" tS21 :=
  Y.elim fun h₁ Y => and_el Y.1.1 fun y1 y => and_el y fun y2 y => and_el y fun y3 y => and_el y fun y' y => and_el y' fun y4 y5 => and_el y fun y6 y7 => by
  have k := Y.2
  have yI := Y.1.2
  have ka : ∀ a, hasClsAt h₁ a = true → hasClsAt s.heap a = true := fun a q => oe_el q fun o e h => by unfold hasClsAt; rw [k _ _ e]; exact h
  have at1 : ∀ n a, (n, a) ∈ ad2.fns → mg n = some (.ref a) ∧ hasClsAt s.heap a = true := fun n a q => and_el (List.all_eq_true.mp y5 (n, a) q) fun q1 q2 => ⟨oe_el y6 fun o e _ => by
    rw [T.g.eq_nsMap, ← isRefO_at q1]; unfold Heap.nsMap; rw [e, k _ _ e], ka a q2⟩
  have fa : ∀ n d, recF n = some d → (∃ a, (n, a) ∈ ad2.fns) → ∃ a c P pm doc, FA s.heap mg n d a c P pm doc := fun n d hr hm => fa_of T hr fun a' o e1 e2 => hm.elim fun a q => by
    have ea : a' = a := by injection so (e1.symm.trans (at1 n a q).1)
    rw [ea] at e2
    exact oe_el (at1 n a q).2 fun o' e h => by rw [e2] at e; cases e; exact hasCls_at h
  obtain ⟨a6, c6, P6, m6, o6, F6⟩ := fa _ _ rec6 ⟨_, mem6⟩
  obtain ⟨a11, c11, P11, m11, o11, F11⟩ := fa _ _ rec11 ⟨_, mem11⟩
  have ok := base_ok (w := w) T F6.tb F11.tb (ka _ y6) (ka _ y7)
  have S := str_at' (B := bs2 w s mg mb P6 P11) (h₁ := h₁) (as := ad2.as) (fI := ad2.fI) y1 k
  refine ⟨bs2 w s mg mb P6 P11, rfl, rfl, rfl, rfl, rfl, inv_0 ok F6.tb F11.tb hg, f21 ⟨⟨nb_at T, pat_at y2 k (at1 _ _ memP).1, ⟨_, _, _, S, rfl⟩⟩, fa, fun a c P pm doc F => ?_, fun a c P pm doc F => ?_,
    map_at (B := bs2 w s mg mb P6 P11) y3 k (at1 _ _ memD).1 (by decide) fun o es ep M => ⟨o, es, ep, M⟩, ini_at (B := bs2 w s mg mb P6 P11) y4 (yI.trans ini2) k fun d I XI => ⟨_, _, d, S, I, XI⟩, rfl, (at1 _ _ memC).1⟩⟩
  · have u := fa_uniq F F6
    rw [u.1, u.2]
    exact ⟨⟨_, .head _, .head _⟩, fun x hx e y hy hp => (List.mem_cons.mp hx).elim (fun e => by rw [e] at hy; rw [List.mem_singleton.mp hy]) fun hx => by
      rw [List.mem_singleton.mp hx] at hy; rw [List.mem_singleton.mp hy] at hp; exact Bool.noConfusion (lpne.symm.trans hp), F6.hd⟩
  · have u := fa_uniq F F11
    rw [u.1, u.2]
    exact ⟨⟨_, .tail _ (.head _), .head _⟩, fun x hx e y hy hp => (List.mem_cons.mp hx).elim (fun e => by rw [e] at hy; rw [List.mem_singleton.mp hy, pos_same] at hp; exact Bool.noConfusion (lpne.symm.trans hp)) fun hx => by
      rw [List.mem_singleton.mp hx] at hy; rw [List.mem_singleton.mp hy], F11.hd⟩
end Sh
namespace Sh
open PySem PySem.Calls PyProof.Rows PySem.W PySem.Spec
abbrev P2 : Prop := LeftO PySem.Challenge.pw_rx0126_02 vw lo (fun s => xlAt vw [] s && recOk [] s) (obsH ad2) (fun _ => (true, initParts PySem.Challenge.pw_rx0126_02 "_Example")) 4676
noncomputable def Plain : Prop := ∀ l : List Int, l.length ≤ 63 → tS21 [.lst (l.map .int)] [] = some (.val (.bool true), [])
theorem def21 : defOf vw "law" = some (d21, []) := by kernel_rfl
theorem the21 : PySem.Challenge.pw_rx0126_02.theDef "law" = some (d21.params, d21.body, d21.scope) := by kernel_rfl
theorem kw21 : kwWritten? d21.params.kwonlyargs d21.params.kw_defaults = some [] := by kernel_rfl
theorem said2 : PySem.Challenge.rw_rx0126_02.wellSaid = true := by decide +kernel
theorem good2 : (chainsOk vw && opensWell PySem.Challenge.pw_rx0126_02 && (frees PySem.Challenge.rw_rx0126_02.row.toRowW && PySem.Challenge.rw_rx0126_02.row.toRowW.within.isEmpty)) = true := by decide +kernel
theorem bare2 : PySem.Challenge.pw_rx0126_02.bare := ⟨rfl, rfl, rfl, rfl, rfl, by decide +kernel⟩
theorem prom2 : PySem.Challenge.rw_rx0126_02.row.toRowW.promised := by w_witness2
theorem ints_vr {C : Addr} {ω : Wd} {h : Heap} : ∀ {vs : List Value} {ns : List Int}, IntsAre vs ns → VRs C ω h (ns.map .int) vs
  | _, _, .nil => .nil
  | _, _, .cons n t r => .cons_in .int_in (ints_vr r)
theorem rm12 : Rm 12 callerA := ⟨rfl, by decide +kernel, by decide +kernel⟩
theorem call_law {w : World} {s : Shared} {mg mb : Str → Option Value} {mean : ExcName → Option Value} {fa a : Addr} {vs : List Value} {l : List Int} {E Q : Value → Shared → Prop} (T : Top vw (looseW vw lo) mean mg mb s.heap) (Y : hk2.says w s.heap) (hg : s.gens = #[]) (hmg : mg d21.name = some (.ref fa))
    (hp : Plain) (hL : s.heap.IsList a vs.toArray) (hI : IntsAre vs l) (hl : l.length ≤ 63) (k : ∀ s', OldK s.heap s'.heap → s'.os = s.os → AllBare s'.gens → Q (.bool true) s') : wpAny (model PySem.Challenge.pw_rx0126_02 w) callerA (call (.ref fa) [.ref a]) Q E s := by
  obtain ⟨B, b1, b2, b3, b4, b5, I, v, hv, hf⟩ := world_ok T Y hg
  rw [b4, ← nam21, hmg] at hv
  cases so hv
  obtain ⟨o, e1, e2, n, e3⟩ := hL
  have fz : Fz ⟨[], []⟩ s.heap a o := ⟨(fun q => nomatch q), (fun q => nomatch q), e1, seq_frz e3⟩
  have := hf.2 callerA rm12 ⟨[], []⟩ [] s Q E [.lst (l.map .int)] [.ref a] _ [] [] ⟨rfl, (fun e he => nomatch he)⟩ I (.one (.lst_in fz e2 e3 (by rw [List.toList_toArray]; exact ints_vr hI))) (hp l hl) fun v ω' s' G I' x => VR.bool_el (P := fun v => Q v s') x (k s' (b3 ▸ I'.old) (I'.os.trans b5) I'.gens)
  rw [b1, b2] at this
  exact this
theorem law_of (hp : Plain) (hr : P2) : PySem.Challenge.rw_rx0126_02.Holds := by
  refine holds_law said2 fun said => ?_
  refine PySem.W.holds_open (q := vw) (loose := lo) (d := d21) (kwd := []) (Xt := fun s => xlAt vw [] s && recOk [] s) (XP := PySem.W.XL vw []) (Yf := Hook.obs hk2) (Ya := Hook.val hk2) (YP := Hook.says hk2) (N := 4676) hr (Hook.of hk2) (Hook.keeps hk2) (fun s e => xl_of s (Bool.and_eq_true_iff.mp e).1) PySem.W.XL.keeps def21 the21 kw21 (fun s e => recFacts_of (Bool.and_eq_true_iff.mp e).2) (by rfl) said good2 bare2 prom2 ?hc
  intro w s₀ s₁ mg mb G Y fa o pm cd doc dV kV ho hd hcd hD hmg hg args vals as hpre hlay hrd hwl hlo
  wrow_args hpre hlay hrd hwl hlo
  rename_i l hs hlay0 hL1 hr1 hl2 w4 w3 a vs w0 hL ra w1 r0 hI hr' hc1 hc2
  refine call_law G.T Y hg hmg hp hL hI (by omega) fun s' ok os gens => ⟨.inl ⟨.bool true, .bool true, [], rfl, ?_, .bool _, ?_, fun _ => ⟨.nil, fun a q => (nomatch q)⟩⟩, ok, os, gens⟩
  · exact raisesW_false (r := PySem.Challenge.rw_rx0126_02.row.toRowW) (by wrow_none_raised)
  · wrow_post
end Sh
namespace Sh
open PySem PySem.Calls
section
variable {α β : Type}
theorem bd_in {o : Option α} {f : α → Option β} {a : α} {r : Option β} (h : o = some a) (k : f a = r) : bd o f = r := h ▸ k
theorem sq_in {o : Option (α × St)} {f : α → St → Option β} {a : α} {σ : St} {r : Option β} (h : o = some (a, σ)) (k : f a σ = r) : sq o f = r := h ▸ k
theorem s3_in {o : Option (SR × Fm × St)} {f : SR → Fm → St → Option β} {t : SR} {m : Fm} {σ : St} {r : Option β} (h : o = some (t, m, σ)) (k : f t m σ = r) : s3 o f = r := h ▸ k
theorem gd_in {b : Bool} {x r : Option α} (h : b = true) (k : x = r) : gd b x = r := h ▸ k
theorem vl_in {o : Option α} {σ : St} {x : α} (h : o = some x) : vl o σ = some (x, σ) := h ▸ rfl
theorem ql_l {a b : Option α} {x : α} (h : a = some x) : ql a b = some x := by rw [h]; rfl
theorem ql_r {a b r : Option α} (h : a = none) (k : b = r) : ql a b = r := h ▸ k
theorem ct_in {b : Bool} {x y r : Option α} (h : b = true) (k : x = r) : cond b x y = r := h ▸ k
theorem cf_in {b : Bool} {x y r : Option α} (h : b = false) (k : y = r) : cond b x y = r := h ▸ k
end
theorem lim_of {n : Nat} (h : n ≤ 1000) : decide (n ≤ LIM) = true := decide_eq_true (Nat.le_trans h (by decide))
section
variable {Φ : Nat → Option Spec} {s : S} {r : SL} {m m' : Fm} {σ σ' : St} {t : SR}
theorem sl_in {R : Option (SR × Fm × St)} (h : evS Φ s m σ = some (.next, m', σ')) (k : evSL Φ r m' σ' = R) : evSL Φ (.cons s r) m σ = R := s3_in h k
theorem sl_out (h : evS Φ s m σ = some (t, m', σ')) (ht : isNext t = false) : evSL Φ (.cons s r) m σ = some (t, m', σ') := s3_in h (by rw [ht]; rfl)
theorem sl_end : evSL Φ .nil m σ = some (.next, m, σ) := rfl
end
section
variable {Φ : Nat → Option Spec} {m m' : Fm} {σ σ₁ σ₂ σ₃ σ₄ : St} {p q r u : PV} {x y z a : X} {xs : XL} {ps : List PV} {R : Option (SR × Fm × St)} {b o : SL} {i f : Nat}
theorem s_as (h : ev Φ x m σ = some (p, σ₁)) : evS Φ (.as i x) m σ = some (.next, m.set i (some p), σ₁) := sq_in h rfl
theorem s_ex (h : ev Φ x m σ = some (p, σ₁)) : evS Φ (.ex x) m σ = some (.next, m, σ₁) := sq_in h rfl
theorem s_ret (h : ev Φ x m σ = some (p, σ₁)) : evS Φ (.ret x) m σ = some (.ret p, m, σ₁) := sq_in h rfl
theorem s_asI (h1 : ev Φ x m σ = some (r, σ₁)) (h2 : ev Φ y m σ₁ = some (p, σ₂)) (h3 : ev Φ z m σ₂ = some (q, σ₃)) (h4 : setV p q r σ₃ = some σ₄) : evS Φ (.asI y z x) m σ = some (.next, m, σ₄) := sq_in h1 (sq_in h2 (sq_in h3 (bd_in h4 rfl)))
theorem s_ift (h : ev Φ x m σ = some (p, σ₁)) (h2 : truthyV σ₁ p = some true) (h3 : evSL Φ b m σ₁ = R) : evS Φ (.iff x b o) m σ = R := sq_in h (bd_in h2 h3)
theorem s_iff (h : ev Φ x m σ = some (p, σ₁)) (h2 : truthyV σ₁ p = some false) (h3 : evSL Φ o m σ₁ = R) : evS Φ (.iff x b o) m σ = R := sq_in h (bd_in h2 h3)
theorem e_idx (h1 : ev Φ x m σ = some (p, σ₁)) (h2 : ev Φ y m σ₁ = some (q, σ₂)) (h3 : idxV σ₂ p q = some r) : ev Φ (.idx x y) m σ = some (r, σ₂) := sq_in h1 (sq_in h2 (vl_in h3))
theorem e_bin {op : Operator} (h1 : ev Φ x m σ = some (p, σ₁)) (h2 : ev Φ y m σ₁ = some (q, σ₂)) (h3 : binV op p q σ₂ = some r) : ev Φ (.bin op x y) m σ = some (r, σ₂) := sq_in h1 (sq_in h2 (vl_in h3))
theorem e_cmp {op : CmpOp} {t : Bool} (h1 : ev Φ x m σ = some (p, σ₁)) (h2 : ev Φ y m σ₁ = some (q, σ₂)) (h3 : cmpV op p q σ₂ = some t) : ev Φ (.cmp op x y) m σ = some (.bool t, σ₂) := sq_in h1 (sq_in h2 (bd_in h3 rfl))
theorem e_call {sp : Spec} (h1 : evL Φ xs m σ = some (ps, σ₁)) (h2 : Φ f = some sp) (h3 : sp ps σ₁ = some (.val r, σ₂)) : ev Φ (.call f xs) m σ = some (r, σ₂) := sq_in h1 (bd_in h2 (sq_in h3 rfl))
theorem e_bi {k : BI} (h1 : evL Φ xs m σ = some (ps, σ₁)) (h2 : biV k ps σ₁ = some r) : ev Φ (.bi k xs) m σ = some (r, σ₁) := sq_in h1 (vl_in h2)
theorem e_me {k : MT} (h1 : ev Φ x m σ = some (p, σ₁)) (h2 : meOk k p σ₁ = some ()) (h3 : evL Φ xs m σ₁ = some (ps, σ₂)) (h4 : meV k p ps σ₂ = some (r, σ₃)) : ev Φ (.me k x xs) m σ = some (r, σ₃) := sq_in h1 (bd_in h2 (sq_in h3 h4))
theorem l_nil : evL Φ .nil m σ = some ([], σ) := rfl
theorem l_cons (h1 : ev Φ x m σ = some (p, σ₁)) (h2 : evL Φ xs m σ₁ = some (ps, σ₂)) : evL Φ (.cons x xs) m σ = some (p :: ps, σ₂) := sq_in h1 (sq_in h2 rfl)
end
/- loops -/
inductive Turn (t : Fm → St → Option (Bool × St)) (b : EvS) (I : Nat → Fm → St → Prop) (Q : Fm → St → Prop) (k : Nat) (m : Fm) (σ : St) : Prop
  | stop {σ' : St} (h : t m σ = some (false, σ')) (q : Q m σ')
  | go {σ₁ σ' : St} {r : SR} {m' : Fm} {k' : Nat} (h : t m σ = some (true, σ₁)) (hb : b m σ₁ = some (r, m', σ')) (hr : r = .next ∨ r = .cont) (hk : k' < k) (i : I k' m' σ')
  | brk {σ₁ σ' : St} {m' : Fm} (h : t m σ = some (true, σ₁)) (hb : b m σ₁ = some (.brk, m', σ')) (q : Q m' σ')
theorem wh_in {t : Fm → St → Option (Bool × St)} {b : EvS} {I : Nat → Fm → St → Prop} {Q : Fm → St → Prop} (step : ∀ k m σ, I k m σ → Turn t b I Q k m σ) :
    ∀ (n k : Nat) (m : Fm) (σ : St), k < n → I k m σ → ∃ m' σ', whGo t b n m σ = some (.next, m', σ') ∧ Q m' σ'
  | 0, _, _, _, h, _ => absurd h (Nat.not_lt_zero _)
  | n + 1, k, m, σ, h, i => match step k m σ i with
    | .stop (σ' := σ') h q => ⟨m, σ', sq_in h rfl, q⟩
    | .go h1 hb hr hk i => (wh_in step n _ _ _ (Nat.lt_of_lt_of_le hk (Nat.le_of_lt_succ h)) i).elim fun m' q => q.elim fun σ' q => ⟨m', σ', sq_in h1 (s3_in hb (by rcases hr with e | e <;> (rw [e]; exact q.1))), q.2⟩
    | .brk (m' := m') (σ' := σ') h1 hb q => ⟨m', σ', sq_in h1 (s3_in hb rfl), q⟩
/- what is made in a function and given back whole -/
noncomputable def Clo (σ : St) : Prop := ∀ n, σ.all (clO n) = true
theorem drop_in {sp : Spec} {ps : List PV} {σ σ' e : St} {p q : PV} (h : sp ps σ = some (.val p, σ' ++ e)) (hl : σ'.length = σ.length) (hp : fzV σ.length (σ' ++ e) 100000 p = some q) (hc : Clo σ') : dropS sp ps σ = some (.val q, σ') := by
  have ht : (σ' ++ e).take σ.length = σ' := by rw [← hl]; exact List.take_left
  exact sq_in h (bd_in (bd_in hp rfl) (gd_in (by rw [ht]; exact hc _) (by rw [ht])))
/- lists in the store -/
section
variable {σ : St} {n : Nat} {l : List PV}
theorem locL_in (h : σ[n]? = some (.lst l)) : locL σ n = some l := bd_in h rfl
theorem lstOf_in (h : σ[n]? = some (.lst l)) : lstOf σ (.loc n) = some l := ql_r rfl (bd_in rfl (locL_in h))
theorem idx_loc {i : Nat} {p : PV} (h : σ[n]? = some (.lst l)) (hl : l.length ≤ 1000) (hi : l[i]? = some p) : idxV σ (.loc n) (.int i) = some p := by
  have hlt : i < l.length := (List.getElem?_eq_some_iff.mp hi).1
  refine gd_in (decide_eq_true ?_) (ql_r rfl (ql_r rfl (ql_r rfl (bd_in (lstOf_in h) (gd_in (lim_of hl) (bd_in (a := i) ?_ hi))))))
  · show i < 2 ^ 60; omega
  · unfold seqIndex?; simp; omega
theorem set_loc {i : Nat} {p : PV} (h : σ[n]? = some (.lst l)) (hl : l.length ≤ 1000) (hi : i < l.length) : setV (.loc n) (.int i) p σ = some (σ.set n (.lst (l.set i p))) :=
  bd_in rfl (bd_in rfl (bd_in (locL_in h) (gd_in (Bool.and_eq_true_iff.mpr ⟨decide_eq_true (Int.natCast_nonneg _), Bool.and_eq_true_iff.mpr ⟨decide_eq_true (Int.ofNat_lt.mpr hi), lim_of hl⟩⟩) rfl)))
theorem len_loc (h : σ[n]? = some (.lst l)) (hl : l.length ≤ 1000) : lenV σ (.loc n) = some (.int l.length) := ql_r rfl (ql_r rfl (bd_in (lstOf_in h) (gd_in (lim_of hl) rfl)))
theorem tru_loc (h : σ[n]? = some (.lst l)) (hl : l.length ≤ 1000) : truthyV σ (.loc n) = some (!l.isEmpty) := bd_in (locL_in h) (gd_in (lim_of hl) rfl)
theorem get_set {o : PO} (h : n < σ.length) : (σ.set n o)[n]? = some o := List.getElem?_set_self h
theorem lt_of_get {o : PO} (h : σ[n]? = some o) : n < σ.length := (List.getElem?_eq_some_iff.mp h).1
end
end Sh
namespace Sh
open PySem PySem.Calls
/- a heap's order, by the keys alone -/
noncomputable def Hp (g : Nat → Nat) (n : Nat) : Prop := ∀ i, 0 < i → i < n → g ((i - 1) / 2) ≤ g i
structure Hole (g : Nat → Nat) (n p : Nat) : Prop where
  far : ∀ i, 0 < i → i < n → i ≠ p → (i - 1) / 2 ≠ p → g ((i - 1) / 2) ≤ g i
  skip : ∀ i, 0 < i → i < n → (i - 1) / 2 = p → 0 < p → g ((p - 1) / 2) ≤ g i
noncomputable def Chi (g : Nat → Nat) (n p x : Nat) : Prop := ∀ i, 0 < i → i < n → (i - 1) / 2 = p → x ≤ g i
section
variable {g g' : Nat → Nat} {n p x c : Nat}
theorem hole_up (H : Hole g n p) (hc : Chi g n p x) (hp : 0 < p) (hpn : p < n) (hx : x < g ((p - 1) / 2)) (hg : ∀ j, g' j = if j = p then g ((p - 1) / 2) else g j) : Hole g' n ((p - 1) / 2) ∧ Chi g' n ((p - 1) / 2) x := by
  refine ⟨⟨fun i h1 h2 h3 h4 => ?_, fun i h1 h2 h3 h4 => ?_⟩, fun i h1 h2 h3 => ?_⟩
  · rw [hg, hg, if_neg (show ¬ i = p from fun e => h4 (by rw [e]))]
    by_cases q : (i - 1) / 2 = p
    · rw [if_pos q]; exact H.skip i h1 h2 q hp
    · rw [if_neg q]; exact H.far i h1 h2 (fun e => h4 (by rw [e])) q
  · have hq := H.far ((p - 1) / 2) h4 (by omega) (by omega) (by omega)
    rw [hg, hg, if_neg (show ¬ ((p - 1) / 2 - 1) / 2 = p by omega)]
    by_cases q : i = p
    · rw [if_pos q]; exact hq
    · rw [if_neg q]; have := H.far i h1 h2 q (by omega); rw [h3] at this; omega
  · rw [hg]
    by_cases q : i = p
    · rw [if_pos q]; omega
    · rw [if_neg q]; have := H.far i h1 h2 q (by omega); rw [h3] at this; omega
theorem hole_fill (H : Hole g n p) (hc : Chi g n p x) (hq : 0 < p → g ((p - 1) / 2) ≤ x) (hg : ∀ j, g' j = if j = p then x else g j) : Hp g' n := fun i h1 h2 => by
  rw [hg, hg]
  by_cases q : i = p
  · rw [if_pos q, if_neg (by omega), q]; exact hq (by omega)
  · rw [if_neg q]
    by_cases q' : (i - 1) / 2 = p
    · rw [if_pos q']; exact hc i h1 h2 q'
    · rw [if_neg q']; exact H.far i h1 h2 q q'
theorem hole_down (H : Hole g n p) (h0 : 0 < c) (hcp : (c - 1) / 2 = p) (hcn : c < n) (hmin : Chi g n p (g c)) (hg : ∀ j, g' j = if j = p then g c else g j) : Hole g' n c := by
  refine ⟨fun i h1 h2 h3 h4 => ?_, fun i h1 h2 h3 h4 => ?_⟩
  · rw [hg, hg]
    by_cases q : i = p
    · rw [if_pos q, if_neg (by omega), q]; exact H.skip c h0 hcn hcp (by omega)
    · rw [if_neg q]
      by_cases q' : (i - 1) / 2 = p
      · rw [if_pos q']; exact hmin i h1 h2 q'
      · rw [if_neg q']; exact H.far i h1 h2 q q'
  · rw [hg, hg, hcp, if_pos rfl, if_neg (by omega)]
    have := H.far i h1 h2 (by omega) (by omega)
    rw [h3] at this; exact this
theorem hole_of (H : Hp g n) : Hole g n 0 := ⟨fun i h1 h2 _ _ => H i h1 h2, fun i _ _ _ h => absurd h (Nat.lt_irrefl 0)⟩
theorem hp_min (H : Hp g n) : ∀ i, i < n → g 0 ≤ g i := fun i => by
  induction i using Nat.strongRecOn with
  | _ i ih => exact fun h => (Nat.eq_zero_or_pos i).elim (fun e => e ▸ Nat.le_refl _) fun h0 => Nat.le_trans (ih ((i - 1) / 2) (by omega) (by omega)) (H i h0 h)
theorem hp_less (H : Hp g n) {m : Nat} (h : m ≤ n) : Hp g m := fun i h1 h2 => H i h1 (Nat.lt_of_lt_of_le h2 h)
end
section
variable {α : Type} {κ : α → Nat} {f : α → PV}
noncomputable def ky (κ : α → Nat) (l : List α) (i : Nat) : Nat := (l[i]?).elim 0 κ
theorem ky_at {l : List α} {i : Nat} {a : α} (h : l[i]? = some a) : ky κ l i = κ a := by unfold ky; rw [h]; rfl
theorem ky_set {l : List α} {p : Nat} {x : α} (h : p < l.length) (j : Nat) : ky κ (l.set p x) j = if j = p then κ x else ky κ l j := by
  unfold ky
  by_cases q : j = p
  · rw [if_pos q, q, List.getElem?_set_self h]; rfl
  · rw [if_neg q, List.getElem?_set_ne (Ne.symm q)]
theorem swap_perm {l : List α} {p q : Nat} {x y : α} (hp : p < l.length) (hq : q < l.length) (hpq : p ≠ q) (hy : l[q]? = some y) : ((l.set p y).set q x).Perm (l.set p x) := by
  have h1 : p < (l.set p x).length := by rw [List.length_set]; exact hp
  have h2 : q < (l.set p x).length := by rw [List.length_set]; exact hq
  have := List.set_set_perm h1 h2
  rw [List.getElem_set_self, List.getElem_set_ne hpq, List.set_set] at this
  rw [show l[q] = y from Option.some.inj ((List.getElem?_eq_getElem hq).symm.trans hy)] at this
  exact this
noncomputable def sdT : X := .cmp .Gt (.v 2) (.v 1)
noncomputable def sdB : SL := .cons (.as 4 (.bin .RShift (.bin .Sub (.v 2) (.int 1)) (.int 1))) (.cons (.as 5 (.idx (.v 0) (.v 4))) (.cons (.iff (.cmp .Lt (.v 3) (.v 5)) (.cons (.asI (.v 0) (.v 2) (.v 5)) (.cons (.as 2 (.v 4)) (.cons .cont .nil))) .nil) (.cons .brk .nil)))
theorem tB2_eq : tB2 = .cons (.as 3 (.idx (.v 0) (.v 2))) (.cons (.wh sdT sdB) (.cons (.asI (.v 0) (.v 2) (.v 3)) .nil)) := rfl
variable {Φ : Nat → Option Spec} {σ : St} {n N : Nat} {x : α}
structure SdI (f : α → PV) (κ : α → Nat) (σ : St) (n N : Nat) (x : α) (L₀ : List α) (p : Nat) (L : List α) : Prop where
  lt : p < N
  len : L.length = N
  hole : Hole (ky κ L) N p
  chi : Chi (ky κ L) N p (κ x)
  perm : (L.set p x).Perm L₀
noncomputable def sdM (f : α → PV) (n p : Nat) (x : α) (o4 o5 : Option PV) : Fm := [some (.loc n), some (.int 0), some (.int p), some (f x), o4, o5]
theorem sd_loop (hlt : ∀ a b, ltV (f a) (f b) = some (decide (κ a < κ b))) (hn : n < σ.length) (hN : N ≤ 900) {L₀ L : List α} {p : Nat} (I : SdI f κ σ n N x L₀ p L) {o4 o5 : Option PV} :
    ∃ m' σ', whGo (tst Φ sdT) (evSL Φ sdB) WH (sdM f n p x o4 o5) (σ.set n (.lst (L.map f))) = some (.next, m', σ') ∧ ∃ (p : Nat) (L : List α) (o4 o5 : Option PV), m' = sdM f n p x o4 o5 ∧ σ' = σ.set n (.lst (L.map f)) ∧ L.length = N ∧ p < N ∧ (L.set p x).Perm L₀ ∧ Hp (ky κ (L.set p x)) N := by
  refine wh_in (I := fun k m σ' => ∃ (L : List α) (o4 o5 : Option PV), m = sdM f n k x o4 o5 ∧ σ' = σ.set n (.lst (L.map f)) ∧ SdI f κ σ n N x L₀ k L) (fun k m σ' ⟨L, o4, o5, hm, hσ, I⟩ => ?_) WH p _ _ (by have := I.lt; show p < 100000; omega) ⟨L, o4, o5, rfl, rfl, I⟩
  subst hm hσ
  have hk : k < L.length := by rw [I.len]; exact I.lt
  have ht : tst Φ sdT (sdM f n k x o4 o5) (σ.set n (.lst (L.map f))) = some (decide ((0 : Int) < (k : Int)), σ.set n (.lst (L.map f))) := rfl
  have fin : (0 < k → ky κ L ((k - 1) / 2) ≤ κ x) → Hp (ky κ (L.set k x)) N := fun h => hole_fill I.hole I.chi h (ky_set hk)
  by_cases h0 : k = 0
  · rw [show decide ((0 : Int) < (k : Int)) = false from decide_eq_false (by omega)] at ht
    exact .stop ht ⟨k, L, o4, o5, rfl, rfl, I.len, I.lt, I.perm, fin fun h => absurd h (by omega)⟩
  · rw [show decide ((0 : Int) < (k : Int)) = true from decide_eq_true (by omega)] at ht
    have hq : (k - 1) / 2 < L.length := by omega
    obtain ⟨y, hy⟩ : ∃ y, L[(k - 1) / 2]? = some y := ⟨_, List.getElem?_eq_getElem hq⟩
    have hσn := get_set (o := .lst (L.map f)) hn
    have hl : (L.map f).length ≤ 1000 := by rw [List.length_map, I.len]; omega
    have e4 : evS Φ (.as 4 (.bin .RShift (.bin .Sub (.v 2) (.int 1)) (.int 1))) (sdM f n k x o4 o5) (σ.set n (.lst (L.map f))) = some (.next, sdM f n k x (some (.int ((k - 1) / 2 : Nat))) o5, σ.set n (.lst (L.map f))) := by
      show some (SR.next, sdM f n k x (some (.int (((k : Int) - 1).fdiv (2 ^ ((1 : Int).toNat))))) o5, _) = _
      rw [show ((k : Int) - 1).fdiv (2 ^ ((1 : Int).toNat)) = ((k - 1) / 2 : Nat) by
        rw [show (2 : Int) ^ ((1 : Int).toNat) = 2 from rfl, Int.fdiv_eq_ediv_of_nonneg _ (by decide)]; omega]
    have e5 : evS Φ (.as 5 (.idx (.v 0) (.v 4))) (sdM f n k x (some (.int ((k - 1) / 2 : Nat))) o5) (σ.set n (.lst (L.map f))) = some (.next, sdM f n k x (some (.int ((k - 1) / 2 : Nat))) (some (f y)), σ.set n (.lst (L.map f))) :=
      sq_in (sq_in rfl (sq_in rfl (vl_in (idx_loc hσn hl (by rw [List.getElem?_map, hy]; rfl))))) rfl
    by_cases hc : κ x < κ y
    · have e6 : evS Φ (.iff (.cmp .Lt (.v 3) (.v 5)) (.cons (.asI (.v 0) (.v 2) (.v 5)) (.cons (.as 2 (.v 4)) (.cons .cont .nil))) .nil) (sdM f n k x (some (.int ((k - 1) / 2 : Nat))) (some (f y))) (σ.set n (.lst (L.map f))) =
          some (.cont, sdM f n ((k - 1) / 2) x (some (.int ((k - 1) / 2 : Nat))) (some (f y)), (σ.set n (.lst (L.map f))).set n (.lst ((L.map f).set k (f y)))) :=
        s_ift (e_cmp rfl rfl (hlt x y)) (congrArg some (decide_eq_true hc)) (sl_in (s_asI rfl rfl rfl (set_loc hσn hl (by rw [List.length_map]; exact hk))) (sl_in (s_as rfl) rfl))
      refine .go ht (sl_in e4 (sl_in e5 (sl_out e6 rfl))) (.inr rfl) (show (k - 1) / 2 < k by omega) ⟨L.set k y, some (.int ((k - 1) / 2 : Nat)), some (f y), rfl, ?_, ?_⟩
      · rw [List.set_set, List.map_set]
      · have u := hole_up (g' := ky κ (L.set k y)) I.hole I.chi (by omega) I.lt (by rw [ky_at hy]; exact hc) (fun j => by rw [ky_set hk, ky_at hy])
        exact ⟨by have := I.lt; omega, by rw [List.length_set]; exact I.len, u.1, u.2, (swap_perm hk hq (by omega) hy).trans I.perm⟩
    · exact .brk ht (sl_in e4 (sl_in e5 (sl_in (s_iff (e_cmp rfl rfl (hlt x y)) (congrArg some (decide_eq_false hc)) rfl) (sl_out (t := .brk) rfl rfl))))
        ⟨k, L, _, _, rfl, rfl, I.len, I.lt, I.perm, fin fun _ => by rw [ky_at hy]; omega⟩
theorem sd_run (hlt : ∀ a b, ltV (f a) (f b) = some (decide (κ a < κ b))) {L : List α} {p : Nat} (h : σ[n]? = some (.lst (L.map f))) (hN : L.length ≤ 900) (hx : L[p]? = some x) (H : Hole (ky κ L) L.length p) (hc : Chi (ky κ L) L.length p (κ x)) :
    ∃ L', fnRun Φ 3 6 tB2 [.loc n, .int 0, .int p] σ = some (.val .none, σ.set n (.lst (L'.map f))) ∧ L'.Perm L ∧ Hp (ky κ L') L.length := by
  have hn := lt_of_get h
  have hp : p < L.length := (List.getElem?_eq_some_iff.mp hx).1
  have hσ : σ = σ.set n (.lst (L.map f)) := by
    refine List.ext_getElem? fun i => ?_
    by_cases q : i = n
    · rw [q, h, get_set hn]
    · rw [List.getElem?_set_ne (Ne.symm q)]
  have hs : L.set p x = L := by
    refine List.ext_getElem? fun i => ?_
    by_cases q : i = p
    · rw [q, hx, List.getElem?_set_self hp]
    · rw [List.getElem?_set_ne (Ne.symm q)]
  obtain ⟨m', σ', h1, p', L', o4, o5, hm, hσ', hl, hp', pm, hh⟩ := sd_loop (Φ := Φ) (x := x) hlt hn hN (L₀ := L) (L := L) (p := p) ⟨hp, rfl, H, hc, by rw [hs]⟩ (o4 := none) (o5 := none)
  rw [← hσ] at h1
  subst hm hσ'
  have h3 : evS Φ (.as 3 (.idx (.v 0) (.v 2))) [some (.loc n), some (.int 0), some (.int p), none, none, none] σ = some (.next, sdM f n p x none none, σ) :=
    sq_in (sq_in rfl (sq_in rfl (vl_in (idx_loc h (by rw [List.length_map]; omega) (by rw [List.getElem?_map, hx]; rfl))))) rfl
  refine ⟨L'.set p' x, gd_in rfl (s3_in (t := .next) (m := sdM f n p' x o4 o5) (σ := (σ.set n (.lst (L'.map f))).set n (.lst ((L'.map f).set p' (f x)))) ?_ ?_), pm, hh⟩
  · show evSL Φ tB2 _ _ = _
    rw [tB2_eq]
    exact sl_in h3 (sl_in h1 (sl_in (s_asI rfl rfl rfl (set_loc (get_set hn) (by rw [List.length_map]; omega) (by rw [List.length_map]; omega))) rfl))
  · rw [List.set_set, List.map_set]; rfl
end
end Sh
namespace Sh
open PySem PySem.Calls
theorem drop0 {sp : Spec} {ps : List PV} {σ σ' : St} {p q : PV} (h : sp ps σ = some (.val p, σ')) (hl : σ'.length = σ.length) (hp : fzV σ.length σ' 100000 p = some q) (hc : Clo σ') : dropS sp ps σ = some (.val q, σ') :=
  drop_in (e := []) (by rw [List.append_nil]; exact h) hl (by rw [List.append_nil]; exact hp) hc
theorem clo_set {σ : St} {n : Nat} {o : PO} (h : Clo σ) (ho : ∀ k, clO k o = true) : Clo (σ.set n o) := fun k => List.all_eq_true.mpr fun x hx => (List.mem_or_eq_of_mem_set hx).elim (List.all_eq_true.mp (h k) x) fun e => e ▸ ho k
theorem cl_map {α : Type} {f : α → PV} (h : ∀ a k, clV k (f a) = true) (k : Nat) : ∀ l : List α, clL k (l.map f) = true
  | [] => rfl
  | a :: l => Bool.and_eq_true_iff.mpr ⟨h a k, cl_map h k l⟩
section
variable {Φ : Nat → Option Spec} {m : Fm} {σ σ₁ σ₂ : St} {p q : PV} {x y : X}
theorem e_and_f (h : ev Φ x m σ = some (p, σ₁)) (t : truthyV σ₁ p = some false) : ev Φ (.bo .And (.cons x (.cons y .nil))) m σ = some (p, σ₁) := sq_in h (bd_in t rfl)
theorem e_and_t (h : ev Φ x m σ = some (p, σ₁)) (t : truthyV σ₁ p = some true) (h2 : ev Φ y m σ₁ = some (q, σ₂)) : ev Φ (.bo .And (.cons x (.cons y .nil))) m σ = some (q, σ₂) := sq_in h (bd_in t (sq_in h2 rfl))
theorem e_no {b : Bool} (h : ev Φ x m σ = some (p, σ₁)) (t : truthyV σ₁ p = some b) : ev Φ (.no x) m σ = some (.bool (!b), σ₁) := sq_in h (bd_in t rfl)
theorem mul2 {p : Nat} (h : p ≤ 1000) : binV .Mult (.int 2) (.int p) σ = some (.int (2 * p : Nat)) := gd_in (Bool.and_eq_true_iff.mpr ⟨rfl, decide_eq_true (by show p < 2 ^ 60; omega)⟩) rfl
end
/-- a heap's items: how they are written, what they are weighed by -/
structure HQ (α : Type) where
  f : α → PV
  κ : α → Nat
  lt : ∀ a b, ltV (f a) (f b) = some (decide (κ a < κ b))
  cl : ∀ a k, clV k (f a) = true
  fz : ∀ a n σ, fzV n σ 100000 (f a) = some (f a)
section
variable {α : Type} (H : HQ α) {σ : St} {n : Nat} {x : α} {L : List α}
noncomputable def HQ.lst (L : List α) : PO := .lst (L.map H.f)
noncomputable def HQ.Hp (L : List α) : Prop := Sh.Hp (ky H.κ L) L.length
variable {H}
theorem clo_lst (h : Clo σ) (L : List α) : Clo (σ.set n (H.lst L)) := clo_set h fun k => cl_map H.cl k L
theorem sd_call {p : Nat} (h : σ[n]? = some (H.lst L)) (hN : L.length ≤ 900) (hx : L[p]? = some x) (Ho : Hole (ky H.κ L) L.length p) (hc : Chi (ky H.κ L) L.length p (H.κ x)) (c : Clo σ) :
    ∃ L', tS2 [.loc n, .int 0, .int p] σ = some (.val .none, σ.set n (H.lst L')) ∧ L'.Perm L ∧ H.Hp L' :=
  (sd_run (Φ := tab tL2) H.lt h hN hx Ho hc).imp fun L' q => ⟨drop0 q.1 List.length_set rfl (clo_lst c L'), q.2.1, by unfold HQ.Hp; rw [q.2.1.length_eq]; exact q.2.2⟩
theorem push_hole (h : H.Hp L) (y : α) : Hole (ky H.κ (L ++ [y])) (L ++ [y]).length L.length ∧ ∀ z, Chi (ky H.κ (L ++ [y])) (L ++ [y]).length L.length z := by
  have hl : (L ++ [y]).length = L.length + 1 := by simp
  have hk : ∀ i, i < L.length → ky H.κ (L ++ [y]) i = ky H.κ L i := fun i hi => by unfold ky; rw [List.getElem?_append_left hi]
  rw [hl]
  refine ⟨⟨fun i h1 h2 h3 h4 => ?_, fun i h1 h2 h3 _ => by omega⟩, fun z i h1 h2 h3 => by omega⟩
  rw [hk i (by omega), hk _ (by omega)]
  exact h i h1 (by omega)
theorem push_run (h : σ[n]? = some (H.lst L)) (hN : L.length ≤ 800) (hp : H.Hp L) (c : Clo σ) : ∃ L', tS0 [.loc n, H.f x] σ = some (.val .none, σ.set n (H.lst L')) ∧ L'.Perm (L ++ [x]) ∧ H.Hp L' := by
  have hn := lt_of_get h
  have hl : (L ++ [x]).length = L.length + 1 := by simp
  have hσ : (σ.set n (H.lst (L ++ [x])))[n]? = some (H.lst (L ++ [x])) := get_set hn
  obtain ⟨L', h1, h2, h3⟩ := sd_call (p := L.length) (x := x) hσ (by omega) (by simp) (push_hole hp x).1 ((push_hole hp x).2 _) (clo_lst c _)
  rw [List.set_set] at h1
  refine ⟨L', drop0 (gd_in rfl (s3_in (t := .next) (m := [some (.loc n), some (H.f x)]) ?_ rfl)) List.length_set rfl (clo_lst c L'), h2, h3⟩
  have e1 : meV .append (.loc n) [H.f x] σ = some (.none, σ.set n (H.lst (L ++ [x]))) :=
    ql_r rfl (ql_r rfl (bd_in rfl (bd_in (locL_in h) (bd_in (gd_in (lim_of (by rw [List.length_map]; omega)) rfl) (by show some (PV.none, σ.set n (.lst (L.map H.f ++ [H.f x]))) = _; unfold HQ.lst; rw [List.map_append]; rfl)))))
  have e0 : meOk .append (.loc n) σ = some () := ql_r rfl (ql_r rfl (bd_in rfl (bd_in (locL_in h) rfl)))
  have e2 : biV .len [.loc n] (σ.set n (H.lst (L ++ [x]))) = some (.int (L.length + 1 : Nat)) := bd_in rfl ((len_loc hσ (by rw [List.length_map]; omega)).trans (by rw [List.length_map, hl]))
  have e3 : binV .Sub (.int (L.length + 1 : Nat)) (.int 1) (σ.set n (H.lst (L ++ [x]))) = some (.int L.length) := by
    show some (PV.int (((L.length + 1 : Nat) : Int) - 1)) = _
    rw [show (((L.length + 1 : Nat) : Int) - 1) = (L.length : Int) by omega]
  exact sl_in (s_ex (e_me rfl e0 (l_cons rfl l_nil) e1)) (sl_in (s_ex (e_call (l_cons rfl (l_cons rfl (l_cons (e_bin (e_bi (l_cons rfl l_nil) e2) rfl e3) l_nil))) rfl h1)) rfl)
/- the hole sinks -/
noncomputable def suT : X := .cmp .Lt (.v 5) (.v 2)
noncomputable def suC : X := .bo .And (.cons (.cmp .Lt (.v 6) (.v 2)) (.cons (.no (.cmp .Lt (.idx (.v 0) (.v 5)) (.idx (.v 0) (.v 6)))) .nil))
noncomputable def suI : S := .iff suC (.cons (.as 5 (.v 6)) .nil) .nil
noncomputable def suK : X := .bin .Add (.bin .Mult (.int 2) (.v 1)) (.int 1)
noncomputable def suB : SL := .cons (.as 6 (.bin .Add (.v 5) (.int 1))) (.cons suI (.cons (.asI (.v 0) (.v 1) (.idx (.v 0) (.v 5))) (.cons (.as 1 (.v 5)) (.cons (.as 5 suK) .nil))))
theorem tB3_eq : tB3 = .cons (.as 2 (.bi .len (.cons (.v 0) .nil))) (.cons (.as 3 (.v 1)) (.cons (.as 4 (.idx (.v 0) (.v 1))) (.cons (.as 5 suK) (.cons (.wh suT suB) (.cons (.asI (.v 0) (.v 1) (.v 4)) (.cons (.ex (.call 2 (.cons (.v 0) (.cons (.v 3) (.cons (.v 1) .nil))))) .nil)))))) := rfl
noncomputable def suM (H : HQ α) (n N p c : Nat) (x : α) (o6 : Option PV) : Fm := [some (.loc n), some (.int p), some (.int N), some (.int 0), some (H.f x), some (.int c), o6]
structure SuI (H : HQ α) (N : Nat) (x : α) (L₀ : List α) (p : Nat) (L : List α) : Prop where
  lt : p < N
  len : L.length = N
  hole : Hole (ky H.κ L) N p
  perm : (L.set p x).Perm L₀
theorem su_loop {Φ : Nat → Option Spec} {N : Nat} (hn : n < σ.length) (hN : N ≤ 400) {L₀ : List α} {p : Nat} (I : SuI H N x L₀ p L) : ∃ m' σ', whGo (tst Φ suT) (evSL Φ suB) WH (suM H n N p (2 * p + 1) x none) (σ.set n (H.lst L)) = some (.next, m', σ') ∧
    ∃ (p : Nat) (L : List α) (o6 : Option PV), m' = suM H n N p (2 * p + 1) x o6 ∧ σ' = σ.set n (H.lst L) ∧ N ≤ 2 * p + 1 ∧ SuI H N x L₀ p L := by
  refine wh_in (I := fun k m σ' => ∃ (p : Nat) (L : List α) (o6 : Option PV), m = suM H n N p (2 * p + 1) x o6 ∧ σ' = σ.set n (H.lst L) ∧ SuI H N x L₀ p L ∧ k = N - p) (fun k m σ' ⟨p, L, o6, hm, hσ, I, hk⟩ => ?_) WH (N - p) _ _ (by show N - p < 100000; omega) ⟨p, L, none, rfl, rfl, I, rfl⟩
  subst hm hσ
  have hp : p < L.length := by rw [I.len]; exact I.lt
  have ht : tst Φ suT (suM H n N p (2 * p + 1) x o6) (σ.set n (H.lst L)) = some (decide (((2 * p + 1 : Nat) : Int) < (N : Int)), σ.set n (H.lst L)) := rfl
  by_cases hc : 2 * p + 1 < N
  · rw [show decide (((2 * p + 1 : Nat) : Int) < (N : Int)) = true from decide_eq_true (by omega)] at ht
    have hσn : (σ.set n (H.lst L))[n]? = some (H.lst L) := get_set hn
    have hl : (L.map H.f).length ≤ 1000 := by rw [List.length_map, I.len]; omega
    obtain ⟨y, hy⟩ : ∃ y, L[2 * p + 1]? = some y := ⟨_, List.getElem?_eq_getElem (by rw [I.len]; exact hc)⟩
    have hat : ∀ {i : Nat} {a : α}, L[i]? = some a → (L.map H.f)[i]? = some (H.f a) := fun h => by rw [List.getElem?_map, h]; rfl
    have e6 : evS Φ (.as 6 (.bin .Add (.v 5) (.int 1))) (suM H n N p (2 * p + 1) x o6) (σ.set n (H.lst L)) = some (.next, suM H n N p (2 * p + 1) x (some (.int (2 * p + 2 : Nat))), σ.set n (H.lst L)) := rfl
    obtain ⟨c, z, hz, hc1, hc2, hmin, e7⟩ : ∃ (c : Nat) (z : α), L[c]? = some z ∧ (c - 1) / 2 = p ∧ 0 < c ∧ Chi (ky H.κ L) N p (ky H.κ L c) ∧
        evS Φ suI (suM H n N p (2 * p + 1) x (some (.int (2 * p + 2 : Nat)))) (σ.set n (H.lst L)) = some (.next, suM H n N p c x (some (.int (2 * p + 2 : Nat))), σ.set n (H.lst L)) := by
      have h1 : ev Φ (.cmp .Lt (.v 6) (.v 2)) (suM H n N p (2 * p + 1) x (some (.int (2 * p + 2 : Nat)))) (σ.set n (H.lst L)) = some (.bool (decide (((2 * p + 2 : Nat) : Int) < (N : Int))), σ.set n (H.lst L)) := rfl
      by_cases hr : 2 * p + 2 < N
      · rw [show decide (((2 * p + 2 : Nat) : Int) < (N : Int)) = true from decide_eq_true (by omega)] at h1
        obtain ⟨w, hw⟩ : ∃ w, L[2 * p + 2]? = some w := ⟨_, List.getElem?_eq_getElem (by rw [I.len]; exact hr)⟩
        have h2 := e_no (Φ := Φ) (m := suM H n N p (2 * p + 1) x (some (.int (2 * p + 2 : Nat)))) (e_cmp (op := .Lt) (e_idx (x := .v 0) (y := .v 5) rfl rfl (idx_loc hσn hl (hat hy))) (e_idx (x := .v 0) (y := .v 6) rfl rfl (idx_loc hσn hl (hat hw))) (H.lt y w)) rfl
        by_cases hq : H.κ y < H.κ w
        · refine ⟨2 * p + 1, y, hy, by omega, by omega, fun i a1 a2 a3 => ?_, s_iff (e_and_t h1 rfl h2) (by rw [decide_eq_true hq]; rfl) rfl⟩
          rcases (show i = 2 * p + 1 ∨ i = 2 * p + 2 by omega) with e | e
          · rw [e]; exact Nat.le_refl _
          · rw [e, ky_at hy, ky_at hw]; omega
        · refine ⟨2 * p + 2, w, hw, by omega, by omega, fun i a1 a2 a3 => ?_, s_ift (e_and_t h1 rfl h2) (by rw [decide_eq_false hq]; rfl) (sl_in (s_as rfl) rfl)⟩
          rcases (show i = 2 * p + 1 ∨ i = 2 * p + 2 by omega) with e | e
          · rw [e, ky_at hy, ky_at hw]; omega
          · rw [e]; exact Nat.le_refl _
      · rw [show decide (((2 * p + 2 : Nat) : Int) < (N : Int)) = false from decide_eq_false (by omega)] at h1
        refine ⟨2 * p + 1, y, hy, by omega, by omega, fun i a1 a2 a3 => ?_, s_iff (e_and_f h1 rfl) rfl rfl⟩
        rw [show i = 2 * p + 1 by omega]; exact Nat.le_refl _
    have hcn : c < N := by have := (List.getElem?_eq_some_iff.mp hz).1; rw [I.len] at this; exact this
    have e8 : evS Φ (.asI (.v 0) (.v 1) (.idx (.v 0) (.v 5))) (suM H n N p c x (some (.int (2 * p + 2 : Nat)))) (σ.set n (H.lst L)) = some (.next, suM H n N p c x (some (.int (2 * p + 2 : Nat))), σ.set n (H.lst (L.set p z))) :=
      (s_asI (e_idx rfl rfl (idx_loc hσn hl (hat hz))) rfl rfl (set_loc hσn hl (by rw [List.length_map]; exact hp))).trans (by rw [List.set_set]; unfold HQ.lst; rw [List.map_set])
    have e9 : evS Φ (.as 5 suK) (suM H n N c c x (some (.int (2 * p + 2 : Nat)))) (σ.set n (H.lst (L.set p z))) = some (.next, suM H n N c (2 * c + 1) x (some (.int (2 * p + 2 : Nat))), σ.set n (H.lst (L.set p z))) :=
      s_as (e_bin (e_bin rfl rfl (mul2 (by omega))) rfl rfl)
    refine .go ht (sl_in e6 (sl_in e7 (sl_in e8 (sl_in (s_as rfl) (sl_in e9 rfl))))) (.inl rfl) (show N - c < k by have := I.lt; omega) ⟨c, L.set p z, some (.int (2 * p + 2 : Nat)), rfl, rfl, ⟨hcn, by rw [List.length_set]; exact I.len, ?_, ?_⟩, rfl⟩
    · exact hole_down I.hole hc2 hc1 hcn hmin fun j => by rw [ky_set hp, ky_at hz]
    · exact (swap_perm hp (by rw [I.len]; exact hcn) (by omega) hz).trans I.perm
  · rw [show decide (((2 * p + 1 : Nat) : Int) < (N : Int)) = false from decide_eq_false (by omega)] at ht
    exact .stop ht ⟨p, L, o6, rfl, rfl, by omega, I⟩
theorem set_self {α : Type} {l : List α} {p : Nat} {x : α} (h : l[p]? = some x) : l.set p x = l := List.ext_getElem? fun i => by
  by_cases q : i = p
  · rw [q, h, List.getElem?_set_self (List.getElem?_eq_some_iff.mp h).1]
  · rw [List.getElem?_set_ne (Ne.symm q)]
theorem su_run (h : σ[n]? = some (H.lst L)) (hN : L.length ≤ 400) (hx : L[0]? = some x) (Ho : Hole (ky H.κ L) L.length 0) (c : Clo σ) : ∃ L', tS3 [.loc n, .int 0] σ = some (.val .none, σ.set n (H.lst L')) ∧ L'.Perm L ∧ H.Hp L' := by
  have hn := lt_of_get h
  have h0 : 0 < L.length := (List.getElem?_eq_some_iff.mp hx).1
  obtain ⟨m', σ', h1, p, L1, o6, hm, hσ, hp, I⟩ := su_loop (Φ := tab tL3) hn hN (L₀ := L) (p := 0) (x := x) (L := L) ⟨h0, rfl, Ho, by rw [set_self hx]⟩
  rw [set_self h] at h1
  subst hm hσ
  have hp1 : p < L1.length := by rw [I.len]; exact I.lt
  have hg : ∀ i, i ≠ p → ky H.κ (L1.set p x) i = ky H.κ L1 i := fun i hi => by rw [ky_set hp1, if_neg hi]
  have hl : (L1.set p x).length = L.length := by rw [List.length_set]; exact I.len
  obtain ⟨L', h2, h3, h4⟩ := sd_call (σ := σ.set n (H.lst (L1.set p x))) (n := n) (L := L1.set p x) (p := p) (x := x) (get_set hn) (by omega) (List.getElem?_set_self hp1)
    ⟨fun i a1 a2 a3 a4 => by rw [hl] at a2; rw [hg i a3, hg _ a4]; exact I.hole.far i a1 a2 a3 a4, fun i a1 a2 a3 _ => by rw [hl] at a2; omega⟩ (fun i a1 a2 a3 => by rw [hl] at a2; omega) (clo_lst c _)
  rw [List.set_set] at h2
  refine ⟨L', drop0 (gd_in rfl (s3_in (t := .next) (m := suM H n L.length p (2 * p + 1) x o6) ?_ rfl)) List.length_set rfl (clo_lst c L'), h3.trans I.perm, h4⟩
  have a2 : evS (tab tL3) (.as 2 (.bi .len (.cons (.v 0) .nil))) [some (.loc n), some (.int 0), none, none, none, none, none] σ = some (.next, [some (.loc n), some (.int 0), some (.int L.length), none, none, none, none], σ) :=
    s_as (e_bi (l_cons rfl l_nil) (bd_in rfl ((len_loc h (by rw [List.length_map]; omega)).trans (by rw [List.length_map]))))
  have a4 : evS (tab tL3) (.as 4 (.idx (.v 0) (.v 1))) [some (.loc n), some (.int 0), some (.int L.length), some (.int 0), none, none, none] σ = some (.next, [some (.loc n), some (.int 0), some (.int L.length), some (.int 0), some (H.f x), none, none], σ) :=
    s_as (e_idx rfl rfl (idx_loc (i := 0) h (by rw [List.length_map]; omega) (by rw [List.getElem?_map, hx]; rfl)))
  have a7 : evS (tab tL3) (.asI (.v 0) (.v 1) (.v 4)) (suM H n L.length p (2 * p + 1) x o6) (σ.set n (H.lst L1)) = some (.next, suM H n L.length p (2 * p + 1) x o6, σ.set n (H.lst (L1.set p x))) :=
    (s_asI rfl rfl rfl (set_loc (get_set hn) (by rw [List.length_map, I.len]; omega) (by rw [List.length_map]; exact hp1))).trans (by rw [List.set_set]; unfold HQ.lst; rw [List.map_set])
  show evSL _ tB3 _ _ = _
  rw [tB3_eq]
  exact sl_in a2 (sl_in (s_as rfl) (sl_in a4 (sl_in rfl (sl_in h1 (sl_in a7 (sl_in (s_ex (e_call (l_cons rfl (l_cons rfl (l_cons rfl l_nil))) rfl h2)) rfl))))))
end
end Sh
namespace Sh
open PySem PySem.Calls
section
variable {α : Type} {H : HQ α} {σ : St} {n : Nat} {x : α} {L : List α}
theorem pop_run (h : σ[n]? = some (H.lst L)) (hN : L.length ≤ 400) (hp : H.Hp L) (hne : L ≠ []) (c : Clo σ) : ∃ x L', tS1 [.loc n] σ = some (.val (H.f x), σ.set n (H.lst L')) ∧ (x :: L').Perm L ∧ H.Hp L' ∧ ∀ y ∈ L, H.κ x ≤ H.κ y := by
  have hn := lt_of_get h
  obtain ⟨l0, z, rfl⟩ : ∃ l0 z, L = l0 ++ [z] := ⟨L.dropLast, L.getLast hne, (List.dropLast_concat_getLast hne).symm⟩
  have hl : (l0 ++ [z]).length = l0.length + 1 := by simp
  have e0 : meOk .pop (.loc n) σ = some () := ql_r rfl (ql_r rfl (bd_in rfl (bd_in (locL_in h) rfl)))
  have e1 : meV .pop (.loc n) [] σ = some (H.f z, σ.set n (H.lst l0)) := by
    refine ql_r rfl (ql_r rfl (bd_in rfl (bd_in (locL_in h) (bd_in (a := (H.f z, l0.map H.f)) (bd_in rfl (bd_in (a := H.f z) ?_ (gd_in (lim_of (by rw [List.length_map]; omega)) ?_))) rfl))))
    · rw [List.map_append]; exact List.getLast?_concat
    · rw [List.map_append]; exact congrArg (fun l => some (H.f z, l)) List.dropLast_concat
  have hσ1 : (σ.set n (H.lst l0))[n]? = some (H.lst l0) := get_set hn
  have hk : ∀ i, i < l0.length → ky H.κ (l0 ++ [z]) i = ky H.κ l0 i := fun i hi => by unfold ky; rw [List.getElem?_append_left hi]
  have b1 := s_as (Φ := tab tL1) (i := 1) (m := [some (.loc n), none, none]) (e_me (x := .v 0) rfl e0 l_nil e1)
  cases l0 with
  | nil =>
    refine ⟨z, [], drop0 (gd_in rfl (s3_in (t := .ret (H.f z)) (m := [some (.loc n), some (H.f z), none]) (sl_in b1 (sl_in (s_iff rfl (tru_loc hσ1 (Nat.zero_le _)) rfl) (sl_out (s_ret rfl) rfl))) rfl)) List.length_set (H.fz z _ _) (clo_lst c []), List.Perm.refl _, fun i _ h => absurd h (Nat.not_lt_zero _), fun y hy => ?_⟩
    rw [List.mem_singleton.mp hy]; exact Nat.le_refl _
  | cons a t =>
    have hl2 : (z :: t).length = (a :: t).length := rfl
    have hk2 : ∀ i, i ≠ 0 → i < (z :: t).length → ky H.κ (z :: t) i = ky H.κ ((a :: t) ++ [z]) i := fun i h1 h2 => by
      rw [hk i h2]
      cases i with
      | zero => exact absurd rfl h1
      | succ i => rfl
    have hh : Hole (ky H.κ (z :: t)) (z :: t).length 0 := ⟨fun i h1 h2 h3 h4 => by
      rw [hk2 i h3 h2, hk2 _ h4 (by omega)]
      exact hp i h1 (by rw [hl]; exact Nat.lt_succ_of_lt h2), fun i _ _ _ h => absurd h (Nat.lt_irrefl 0)⟩
    obtain ⟨L', h1, h2, h3⟩ := su_run (σ := σ.set n (H.lst (z :: t))) (n := n) (x := z) (L := z :: t) (get_set hn) (by rw [hl] at hN; rw [hl2]; omega) rfl hh (clo_lst c _)
    rw [List.set_set] at h1
    have hs : setV (.loc n) (.int 0) (H.f z) (σ.set n (H.lst (a :: t))) = some (σ.set n (H.lst (z :: t))) := (set_loc (i := 0) hσ1 (by rw [List.length_map]; omega) (by simp)).trans (by rw [List.set_set]; rfl)
    have b2 : evSL (tab tL1) (.cons (.as 2 (.idx (.v 0) (.int 0))) (.cons (.asI (.v 0) (.int 0) (.v 1)) (.cons (.ex (.call 3 (.cons (.v 0) (.cons (.int 0) .nil)))) (.cons (.ret (.v 2)) .nil)))) [some (.loc n), some (H.f z), none] (σ.set n (H.lst (a :: t))) =
        some (.ret (H.f a), [some (.loc n), some (H.f z), some (H.f a)], σ.set n (H.lst L')) :=
      sl_in (s_as (e_idx rfl rfl (idx_loc (i := 0) hσ1 (by rw [List.length_map]; omega) rfl))) (sl_in (s_asI rfl rfl rfl hs) (sl_in (s_ex (e_call (l_cons rfl (l_cons rfl l_nil)) rfl h1)) (sl_out (s_ret rfl) rfl)))
    refine ⟨a, L', drop0 (gd_in rfl (s3_in (t := .ret (H.f a)) (m := [some (.loc n), some (H.f z), some (H.f a)]) (sl_in b1 (sl_out (s_ift rfl (tru_loc hσ1 (by rw [List.length_map]; omega)) b2) rfl)) rfl)) List.length_set (H.fz a _ _) (clo_lst c L'), ?_, h3, fun y hy => ?_⟩
    · exact (h2.cons a).trans ((List.perm_append_singleton z t).symm.cons a)
    · obtain ⟨i, hi⟩ := List.mem_iff_getElem?.mp hy
      have := hp_min hp i (List.getElem?_eq_some_iff.mp hi).1
      rwa [ky_at hi, show ky H.κ (a :: t ++ [z]) 0 = H.κ a from rfl] at this
end
/- for and comprehension -/
section
variable {α : Type} {g val : α → PV} {keep : α → Bool} {Φ : Nat → Option Spec} {is : List Nat} {b : EvS} {n : Option Nat} {full : List α}
theorem fo_in {I : List α → Fm → St → Prop} (hn : ∀ r m σ, I r m σ → ∀ j, n = some j → locL σ j = some (full.map g))
    (step : ∀ a r m σ, I (a :: r) m σ → ∃ m1 m2 σ', bindsT is (g a) m = some m1 ∧ b m1 σ = some (.next, m2, σ') ∧ I r m2 σ') :
    ∀ (l : List α) (k : Nat) (m : Fm) (σ : St), full.drop k = l → k + l.length = full.length → I l m σ → ∃ m' σ', foGo n is b (l.map g) k m σ = some (.next, m', σ') ∧ I [] m' σ'
  | [], k, m, σ, hd, hk, i => ⟨m, σ, gd_in (by
      cases n with
      | none => rfl
      | some j => show (locL σ j).elim false _ = true; rw [hn _ _ _ i j rfl]; show (((full.map g).length) == k) = true; rw [List.length_map, ← hk]; exact beq_self_eq_true _) rfl, i⟩
  | a :: r, k, m, σ, hd, hk, i => by
    obtain ⟨m1, m2, σ', h1, h2, h3⟩ := step a r m σ i
    have hd' : full.drop (k + 1) = r := by rw [← List.drop_drop, hd]; rfl
    obtain ⟨m', σ'', h4, h5⟩ := fo_in hn step r (k + 1) m2 σ' hd' (by rw [← hk]; simp; omega) h3
    refine ⟨m', σ'', bd_in (a := g a) ?_ (bd_in h1 (s3_in h2 h4)), h5⟩
    cases n with
    | none => rfl
    | some j =>
      refine bd_in (hn _ _ _ i j rfl) ?_
      rw [List.getElem?_map, show full[k]? = some a by rw [← List.head?_drop, hd]; rfl]; rfl
theorem comp_in {ar : Nat} {ts : Fm → St → Option (Bool × St)} {f : EvE} {m : Fm} {σ : St} (hn : ∀ j, n = some j → locL σ j = some (full.map g))
    (hb : ∀ a ∈ full, ∃ bs, bindN ar (g a) = some bs ∧ ts (m ++ bs) σ = some (keep a, σ) ∧ (keep a = true → f (m ++ bs) σ = some (val a, σ))) (hl : full.length ≤ 1000) :
    ∀ (l : List α) (k : Nat) (acc : List PV), full.drop k = l → k + l.length = full.length → acc.length ≤ k → compGo n ar ts f m (l.map g) k σ acc = some (acc ++ (l.filter keep).map val, σ)
  | [], k, acc, hd, hk, ha => gd_in (by
      cases n with
      | none => rfl
      | some j => show (locL σ j).elim false _ = true; rw [hn j rfl]; show (((full.map g).length) == k) = true; rw [List.length_map, ← hk]; exact beq_self_eq_true _) (by rw [List.filter_nil, List.map_nil, List.append_nil])
  | a :: r, k, acc, hd, hk, ha => by
    have hd' : full.drop (k + 1) = r := by rw [← List.drop_drop, hd]; rfl
    have hk' : k + 1 + r.length = full.length := by rw [← hk]; simp; omega
    obtain ⟨bs, h1, h2, h3⟩ := hb a (List.mem_of_mem_drop (i := k) (by rw [hd]; exact .head _))
    refine gd_in (lim_of (by omega)) (bd_in (a := g a) ?_ (bd_in h1 (sq_in h2 ?_)))
    · cases n with
      | none => rfl
      | some j =>
        refine bd_in (hn j rfl) ?_
        rw [List.getElem?_map, show full[k]? = some a by rw [← List.head?_drop, hd]; rfl]; rfl
    · rw [List.filter_cons]
      cases hk : keep a with
      | true =>
        refine ct_in rfl (sq_in (h3 hk) ((comp_in hn hb hl r (k + 1) (acc ++ [val a]) hd' hk' (by simp; omega)).trans ?_))
        rw [if_pos rfl, List.map_cons, List.append_assoc]; rfl
      | false => exact cf_in rfl ((comp_in hn hb hl r (k + 1) acc hd' hk' (by omega)).trans (by rw [if_neg Bool.false_ne_true]))
theorem e_comp {ar : Nat} {elt it : X} {ifs : XL} {m : Fm} {σ : St} {p : PV} (h1 : ev Φ it m σ = some (p, σ)) (h2 : iterV σ p = some (full.map g, n)) (hn : ∀ j, n = some j → locL σ j = some (full.map g)) (hl : full.length ≤ 1000)
    (hb : ∀ a ∈ full, ∃ bs, bindN ar (g a) = some bs ∧ evT Φ ifs (m ++ bs) σ = some (keep a, σ) ∧ (keep a = true → ev Φ elt (m ++ bs) σ = some (val a, σ))) : ev Φ (.comp ar elt it ifs) m σ = some (.lst ((full.filter keep).map val), σ) :=
  sq_in h1 (bd_in h2 (sq_in (comp_in hn hb hl full 0 [] rfl (Nat.zero_add _) (Nat.le_refl _)) rfl))
theorem evT0 {m : Fm} {σ : St} : evT Φ .nil m σ = some (true, σ) := rfl
theorem evT1 {m : Fm} {σ : St} {x : X} {b : Bool} (h : ev Φ x m σ = some (.bool b, σ)) : evT Φ (.cons x .nil) m σ = some (b, σ) := sq_in h (bd_in rfl (by cases b <;> rfl))
theorem it_lst {σ : St} {l : List PV} : iterV σ (.lst l) = some (l, none) := rfl
theorem it_loc {σ : St} {j : Nat} {l : List PV} (h : σ[j]? = some (.lst l)) : iterV σ (.loc j) = some (l, some j) := bd_in (locL_in h) rfl
end
end Sh
namespace Sh
open PySem PySem.Calls
/- the words, in order -/
abbrev W := Fin 31
noncomputable def wAll : Nat → List (List Nat)
  | 0 => [[]]
  | n + 1 => [] :: ((wAll n).map (97 :: ·) ++ (wAll n).map (98 :: ·))
noncomputable def wl (w : W) : List Nat := (wAll 4).getD w.val []
noncomputable def ws (w : W) : Str := ⟨(wl w).toArray⟩
noncomputable def ln (w : W) : Nat := (wl w).length
noncomputable def wOf (l : List Nat) : W := Fin.ofNat 31 ((wAll 4).idxOf l)
noncomputable def gv (u v : W) : W := wOf (wl u ++ (wl v).drop (ln u))
noncomputable def hv (u v : W) : List W := (List.range' (ln u) (ln v - ln u)).map fun k => wOf ((wl (gv u v)).take k ++ [if (wl v).getD k 0 = 97 then 98 else 97])
noncomputable def lo4 (w : W) : Nat := (wl w ++ List.replicate (4 - ln w) 97).foldl (fun x c => 2 * x + (c - 97)) 0
noncomputable def lvs (w : W) : List Nat := List.range' (lo4 w) (2 ^ (4 - ln w))
noncomputable def pW (w : W) : PV := .str (ws w)
noncomputable def fA (w : W) : PV := .tup [.int (4 - (ln w : Int)), .str (ws w)]
noncomputable def kA (w : W) : Nat := (4 - ln w) * 31 + w.val
noncomputable def allW : List W := (List.range 31).map (Fin.ofNat 31)
theorem mem_allW : ∀ w : W, w ∈ allW := by decide +kernel
theorem ln4 : ∀ w : W, ln w ≤ 4 := by decide +kernel
noncomputable def pairW : List (W × W) := (allW.flatMap fun u => allW.map fun v => (u, v)).filter fun x => decide (ln x.1 ≤ ln x.2)
theorem mem_pairW {u v : W} (h : ln u ≤ ln v) : (u, v) ∈ pairW := List.mem_filter.mpr ⟨List.mem_flatMap.mpr ⟨u, mem_allW u, List.mem_map.mpr ⟨v, mem_allW v, rfl⟩⟩, decide_eq_true h⟩
theorem all1 {β : Type} {f g : W → β} (h : allW.map f = allW.map g) (w : W) : f w = g w := List.map_inj_left.mp h w (mem_allW w)
theorem all2 {β : Type} {f g : W → W → β} (h : pairW.map (fun x => f x.1 x.2) = pairW.map (fun x => g x.1 x.2)) {u v : W} (hl : ln u ≤ ln v) : f u v = g u v := List.map_inj_left.mp h (u, v) (mem_pairW hl)
theorem lt_fA : ∀ a b : W, ltV (fA a) (fA b) = some (decide (kA a < kA b)) := by decide +kernel
noncomputable def HA : HQ W := ⟨fA, kA, lt_fA, fun _ _ => rfl, fun _ _ _ => rfl⟩
/- what the words' texts give -/
theorem len_w (σ : St) : ∀ w : W, lenV σ (pW w) = some (.int (ln w)) := all1 (by kernel_rfl)
theorem gv_x (σ : St) {u v : W} (h : ln u ≤ ln v) : (bd (slcV σ (pW v) (some (.int (ln u))) none) fun q => binV .Add (pW u) q σ) = some (pW (gv u v)) :=
  all2 (f := fun u v => bd (slcV σ (pW v) (some (.int (ln u))) none) fun q => binV .Add (pW u) q σ) (g := fun u v => some (pW (gv u v))) (by kernel_rfl) h
theorem hv_x (σ : St) {u v : W} (h : ln u ≤ ln v) : fnRun (tab tL14) 2 3 tB14 [pW u, pW v] σ = some (.val (.lst ((hv u v).map pW)), σ) :=
  all2 (f := fun u v => fnRun (tab tL14) 2 3 tB14 [pW u, pW v] σ) (g := fun u v => some (.val (.lst ((hv u v).map pW)), σ)) (by kernel_rfl) h
theorem hv_fz (n : Nat) (σ : St) {u v : W} (h : ln u ≤ ln v) : fzV n σ 100000 (.lst ((hv u v).map pW)) = some (.lst ((hv u v).map pW)) :=
  all2 (f := fun u v => fzV n σ 100000 (.lst ((hv u v).map pW))) (g := fun u v => some (.lst ((hv u v).map pW))) (by kernel_rfl) h
theorem hv_call {σ : St} {u v : W} (h : ln u ≤ ln v) (c : Clo σ) : tS14 [pW u, pW v] σ = some (.val (.lst ((hv u v).map pW)), σ) := drop0 (hv_x σ h) rfl (hv_fz _ _ h) c
theorem gv_ln {u v : W} (h : ln u ≤ ln v) : ln (gv u v) = ln v := all2 (f := fun u v => ln (gv u v)) (g := fun _ v => ln v) (by kernel_rfl) h
theorem hv_ln {u v : W} (h : ln u ≤ ln v) : (hv u v).map ln = List.range' (ln u + 1) (ln v - ln u) := all2 (f := fun u v => (hv u v).map ln) (g := fun u v => List.range' (ln u + 1) (ln v - ln u)) (by kernel_rfl) h
theorem hv_lvs {u v : W} (h : ln u ≤ ln v) : (lvs u).Perm (lvs (gv u v) ++ (hv u v).flatMap lvs) := of_decide_eq_true (all2 (f := fun u v => decide ((lvs u).Perm (lvs (gv u v) ++ (hv u v).flatMap lvs))) (g := fun _ _ => true) (by kernel_rfl) h)
end Sh
namespace Sh
open PySem PySem.Calls
/- values that are compared as data -/
structure PD (p : PV) (d : PyData) (k : Nat) : Prop where
  py : pyOf p = some d
  dp : d.depth ≤ k
  lay : d.canLay0 = true
theorem PD.more {p : PV} {d : PyData} {k k' : Nat} (h : PD p d k) (hk : k ≤ k') : PD p d k' := ⟨h.py, Nat.le_trans h.dp hk, h.lay⟩
structure PDs (l : List PV) (d : List PyData) (k : Nat) : Prop where
  py : pyOfs l = some d
  dp : PyData.depthAll d ≤ k
  lay : PyData.canLayAll0 d = true
section
variable {k : Nat}
theorem PDs.nil : PDs [] [] k := ⟨rfl, Nat.zero_le _, rfl⟩
theorem PDs.cons {p : PV} {l : List PV} {d : PyData} {ds : List PyData} (h : PD p d k) (t : PDs l ds k) : PDs (p :: l) (d :: ds) k :=
  ⟨bd_in h.py (bd_in t.py rfl), by show max d.depth (PyData.depthAll ds) ≤ k; exact Nat.max_le.mpr ⟨h.dp, t.dp⟩, Bool.and_eq_true_iff.mpr ⟨h.lay, t.lay⟩⟩
theorem PDs.map {α : Type} {g : α → PV} {d : α → PyData} : ∀ l : List α, (∀ a ∈ l, PD (g a) (d a) k) → PDs (l.map g) (l.map d) k
  | [], _ => .nil
  | a :: l, h => .cons (h a (.head _)) (PDs.map l fun b hb => h b (.tail _ hb))
theorem PDs.list {l : List PV} {ds : List PyData} (h : PDs l ds k) : PD (.lst l) (.list ds) (k + 1) := ⟨by show (pyOfs l).map PyData.list = _; rw [h.py]; rfl, Nat.succ_le_succ h.dp, h.lay⟩
theorem PDs.tup {l : List PV} {ds : List PyData} (h : PDs l ds k) : PD (.tup l) (.tuple ds) (k + 1) := ⟨by show (pyOfs l).map PyData.tuple = _; rw [h.py]; rfl, Nat.succ_le_succ h.dp, h.lay⟩
theorem PD.int (i : Int) : PD (.int i) (.int i) 1 := ⟨rfl, Nat.zero_le _, rfl⟩
theorem PD.none : PD .none .none 1 := ⟨rfl, Nat.zero_le _, rfl⟩
theorem pw_ok : ∀ w : W, PyData.strOk (ws w) = true := by decide +kernel
theorem PD.word (w : W) : PD (pW w) (.str (ws w)) 1 := ⟨gd_in (pw_ok w) rfl, Nat.zero_le _, pw_ok w⟩
theorem PD.fA (w : W) : PD (fA w) (.tuple [.int (4 - (ln w : Int)), .str (ws w)]) 2 := PDs.tup (.cons (.int _) (.cons (.word w) .nil))
variable {σ : St} {p q : PV} {d e : PyData}
theorem eq_in {b : Bool} (hb : b2 p q (fun x y => some (x.toList == y.toList)) = Option.none) (h1 : PD (resolve σ p) d 8) (h2 : PD (resolve σ q) e 8) (h : PyData.eqv d e = b) : eqV σ p q = some b :=
  ql_r hb (bd_in h1.py (bd_in h2.py (gd_in (Bool.and_eq_true_iff.mpr ⟨decide_eq_true h1.dp, decide_eq_true h2.dp⟩) (congrArg some h))))
theorem ne_in {b : Bool} (hb : b2 p q (fun x y => some (x.toList == y.toList)) = Option.none) (h1 : PD (resolve σ p) d 8) (h2 : PD (resolve σ q) e 8) (h : PyData.eqv d e = b) : cmpV .NotEq p q σ = some (!b) := by
  show (eqV σ p q).map _ = _; rw [eq_in hb h1 h2 h]; rfl
theorem res_loc {n : Nat} {l : List PV} (h : σ[n]? = some (.lst l)) : resolve σ (.loc n) = .lst l := by
  show (bd (some n) (locL σ)).elim _ _ = _; rw [show bd (some n) (locL σ) = some l from locL_in h]; rfl
theorem ne_nil {α : Type} {g : α → PV} {d : α → PyData} {n : Nat} {l : List α} (h : σ[n]? = some (.lst (l.map g))) (hg : ∀ a ∈ l, PD (g a) (d a) 7) : cmpV .NotEq (.loc n) (.lst []) σ = some (!l.isEmpty) :=
  ne_in (d := .list (l.map d)) (e := .list []) rfl (by rw [res_loc h]; exact (PDs.map l hg).list) PDs.nil.list (by cases l <;> rfl)
theorem ne_lst {α : Type} {g : α → PV} {d : α → PyData} {l : List α} (hg : ∀ a ∈ l, PD (g a) (d a) 7) : cmpV .NotEq (.lst (l.map g)) (.lst []) σ = some (!l.isEmpty) :=
  ne_in (d := .list (l.map d)) (e := .list []) rfl (PDs.map l hg).list PDs.nil.list (by cases l <;> rfl)
theorem ne_same (h : PD p d 8) (hb : p.byt? = Option.none) (hr : resolve σ p = p) : cmpV .NotEq p p σ = some false :=
  ne_in (by show bd p.byt? _ = _; rw [hb]; rfl) (by rw [hr]; exact h) (by rw [hr]; exact h) (PySem.SeqAt.eqv_refl d h.lay)
end
/- what _law_given does -/
noncomputable def gvT : X := .bo .And (.cons (.cmp .NotEq (.v 0) (.list .nil)) (.cons (.cmp .Lt (.idx (.idx (.v 0) (.int 0)) (.int 0)) (.bin .Sub (.int 4) (.bi .len (.cons (.v 1) .nil)))) .nil))
noncomputable def gvB : SL := .cons (.ex (.me .append (.v 2) (.cons (.call 1 (.cons (.v 0) .nil)) .nil))) .nil
noncomputable def gvF : SL := .cons (.ex (.call 0 (.cons (.v 0) (.cons (.tup (.cons (.bin .Sub (.int 4) (.bi .len (.cons (.v 6) .nil))) (.cons (.v 6) .nil))) .nil)))) .nil
noncomputable def gvI : SL := .cons (.as 5 (.idx (.call 1 (.cons (.v 0) .nil)) (.int 1))) (.cons (.as 3 (.bin .Add (.v 5) (.slc (.v 1) (.yes (.bi .len (.cons (.v 5) .nil))) .no))) (.cons (.fo [6] (.call 14 (.cons (.v 5) (.cons (.v 1) .nil))) gvF) .nil))
noncomputable def gvE : SL := .cons (.ex (.call 0 (.cons (.v 0) (.cons (.v 4) .nil)))) .nil
theorem tB15_eq : tB15 = .cons (.as 2 (.mlist .nil)) (.cons (.wh gvT gvB) (.cons (.as 3 .none) (.cons (.iff (.cmp .NotEq (.v 0) (.list .nil)) gvI .nil) (.cons (.fo [4] (.v 2) gvE) (.cons (.ret (.v 3)) .nil))))) := rfl
noncomputable def G0 (S N : PO) (L A : List W) : St := [S, HA.lst L, N, HA.lst A]
structure Cl2 (S N : PO) : Prop where
  s : ∀ n, clO n S = true
  n : ∀ n, clO n N = true
theorem cl_G {S N : PO} (c : Cl2 S N) (L A : List W) : Clo (G0 S N L A) := fun n => by
  show (clO n S && (clO n (HA.lst L) && (clO n N && (clO n (HA.lst A) && true)))) = true
  rw [c.s, c.n, show clO n (HA.lst L) = true from cl_map HA.cl n L, show clO n (HA.lst A) = true from cl_map HA.cl n A]; rfl
theorem ke_ln {x y : W} (h : kA x ≤ kA y) : ln y ≤ ln x := by
  unfold kA at h
  have := ln4 x; have := ln4 y; have := x.isLt; have := y.isLt
  omega
structure GvI (v : W) (L₀ L A : List W) : Prop where
  hp : HA.Hp L
  perm : (A ++ L).Perm L₀
  big : ∀ a ∈ A, ln v < ln a
theorem gv_loop {Φ : Nat → Option Spec} (hΦ : Φ 1 = some tS1) {S N : PO} (c : Cl2 S N) {v : W} {L : List W} (hp : HA.Hp L) (hl : L.length ≤ 100) {o3 o4 o5 o6 : Option PV} :
    ∃ m' σ', whGo (tst Φ gvT) (evSL Φ gvB) WH [some (.loc 1), some (pW v), some (.loc 3), o3, o4, o5, o6] (G0 S N L []) = some (.next, m', σ') ∧
      ∃ L1 A, m' = [some (.loc 1), some (pW v), some (.loc 3), o3, o4, o5, o6] ∧ σ' = G0 S N L1 A ∧ GvI v L L1 A ∧ ∀ y ∈ L1, ln y ≤ ln v := by
  refine wh_in (I := fun k m σ => ∃ L1 A, m = [some (.loc 1), some (pW v), some (.loc 3), o3, o4, o5, o6] ∧ σ = G0 S N L1 A ∧ GvI v L L1 A ∧ k = L1.length) (fun k m σ ⟨L1, A, hm, hσ, I, hk⟩ => ?_) WH L.length _ _ (by show L.length < 100000; omega) ⟨L, [], rfl, rfl, ⟨hp, by simp, fun a h => (nomatch h)⟩, rfl⟩
  subst hm hσ
  have hl1 : A.length + L1.length ≤ 100 := by have := I.perm.length_eq; rw [List.length_append] at this; omega
  have hσ1 : (G0 S N L1 A)[1]? = some (HA.lst L1) := rfl
  have hσ3 : (G0 S N L1 A)[3]? = some (HA.lst A) := rfl
  have hne : ev Φ (.cmp .NotEq (.v 0) (.list .nil)) [some (.loc 1), some (pW v), some (.loc 3), o3, o4, o5, o6] (G0 S N L1 A) = some (.bool (!L1.isEmpty), G0 S N L1 A) :=
    e_cmp rfl rfl (ne_nil hσ1 fun a _ => (PD.fA a).more (by decide))
  cases L1 with
  | nil => exact .stop (σ' := G0 S N [] A) (sq_in (e_and_f hne rfl) rfl) ⟨[], A, rfl, rfl, I, fun y h => (nomatch h)⟩
  | cons r t =>
    have hlt : ev Φ (.cmp .Lt (.idx (.idx (.v 0) (.int 0)) (.int 0)) (.bin .Sub (.int 4) (.bi .len (.cons (.v 1) .nil)))) [some (.loc 1), some (pW v), some (.loc 3), o3, o4, o5, o6] (G0 S N (r :: t) A) = some (.bool (decide (4 - (ln r : Int) < 4 - (ln v : Int))), G0 S N (r :: t) A) :=
      e_cmp (e_idx (e_idx rfl rfl (idx_loc (i := 0) (p := fA r) hσ1 (by rw [List.length_map]; omega) rfl)) rfl (r := .int (4 - (ln r : Int))) rfl) (e_bin rfl (e_bi (l_cons rfl l_nil) (bd_in rfl (len_w _ v))) rfl) rfl
    by_cases hc : ln v < ln r
    · obtain ⟨x, L2, h1, h2, h3, h4⟩ := pop_run (H := HA) (L := r :: t) hσ1 (by omega) I.hp (fun e => nomatch e) (cl_G c _ _)
      have hx : ln v < ln x := Nat.lt_of_lt_of_le hc (ke_ln (h4 r (.head _)))
      have e1 : meV .append (.loc 3) [fA x] (G0 S N L2 A) = some (.none, G0 S N L2 (A ++ [x])) :=
        ql_r rfl (ql_r rfl (bd_in rfl (bd_in (a := A.map fA) rfl (bd_in (gd_in (lim_of (by rw [List.length_map]; omega)) rfl) (by show some (PV.none, [S, HA.lst L2, N, .lst (A.map fA ++ [fA x])]) = _; unfold G0 HQ.lst; rw [List.map_append]; rfl)))))
      refine .go (r := .next) (σ₁ := G0 S N (r :: t) A) (sq_in (e_and_t hne rfl hlt) ?_) (sl_in (s_ex (e_me rfl rfl (l_cons (e_call (l_cons rfl l_nil) hΦ h1) l_nil) e1)) rfl) (.inl rfl) (k' := L2.length) (by have := h2.length_eq; simp at this hk; omega) ⟨L2, A ++ [x], rfl, rfl, ⟨h3, ?_, ?_⟩, rfl⟩
      · rw [decide_eq_true (show 4 - (ln r : Int) < 4 - (ln v : Int) by omega)]; rfl
      · rw [List.append_assoc]; exact (h2.append_left A).trans I.perm
      · intro a ha
        rcases List.mem_append.mp ha with q | q
        · exact I.big a q
        · rw [List.mem_singleton.mp q]; exact hx
    · refine .stop (σ' := G0 S N (r :: t) A) (sq_in (e_and_t hne rfl hlt) ?_) ⟨r :: t, A, rfl, rfl, I, fun y hy => ?_⟩
      · rw [decide_eq_false (show ¬ 4 - (ln r : Int) < 4 - (ln v : Int) by omega)]; rfl
      · obtain ⟨i, hi⟩ := List.mem_iff_getElem?.mp hy
        have := hp_min I.hp i (List.getElem?_eq_some_iff.mp hi).1
        rw [ky_at hi, show ky HA.κ (r :: t) 0 = kA r from rfl] at this
        exact Nat.le_trans (ke_ln this) (Nat.not_lt.mp hc)
end Sh
namespace Sh
open PySem PySem.Calls
section
variable {Φ : Nat → Option Spec} {S N : PO} {v : W} {L A : List W} {o3 o4 o5 o6 : Option PV}
noncomputable def gvM (v : W) (o3 o4 o5 o6 : Option PV) : Fm := [some (.loc 1), some (pW v), some (.loc 3), o3, o4, o5, o6]
theorem back_run (hΦ : Φ 0 = some tS0) (c : Cl2 S N) (hp : HA.Hp L) (hl : L.length + A.length ≤ 100) : ∃ L' o4', evS Φ (.fo [4] (.v 2) gvE) (gvM v o3 o4 o5 o6) (G0 S N L A) = some (.next, gvM v o3 o4' o5 o6, G0 S N L' A) ∧ HA.Hp L' ∧ L'.Perm (L ++ A) := by
  obtain ⟨m', σ', h1, L', o, hm, hσ, h2, h3⟩ := fo_in (g := fA) (is := [4]) (b := evSL Φ gvE) (n := some 3) (full := A) (I := fun r m σ => ∃ L' o, m = gvM v o3 o o5 o6 ∧ σ = G0 S N L' A ∧ HA.Hp L' ∧ (L' ++ r).Perm (L ++ A))
    (fun r m σ ⟨L', o, hm, hσ, _⟩ j hj => by subst hσ; cases so hj; rfl) (fun a r m σ ⟨L', o, hm, hσ, h2, h3⟩ => by
      subst hm hσ
      have hl' := h3.length_eq
      simp only [List.length_append, List.length_cons] at hl'
      obtain ⟨L2, k1, k2, k3⟩ := push_run (H := HA) (σ := G0 S N L' A) (n := 1) (x := a) (L := L') rfl (by omega) h2 (cl_G c _ _)
      refine ⟨gvM v o3 (some (fA a)) o5 o6, _, _, rfl, sl_in (s_ex (e_call (l_cons rfl (l_cons rfl l_nil)) hΦ k1)) rfl, L2, some (fA a), rfl, rfl, k3, ?_⟩
      exact (k2.append_right r).trans (by rw [List.append_assoc]; exact h3)) A 0 (gvM v o3 o4 o5 o6) (G0 S N L A) rfl (Nat.zero_add _) ⟨L, o4, rfl, rfl, hp, .refl _⟩
  subst hm hσ
  exact ⟨L', o, sq_in rfl h1, h2, by rw [List.append_nil] at h3; exact h3⟩
theorem half_run (hΦ : Φ 0 = some tS0) (c : Cl2 S N) (hp : HA.Hp L) (ys : List W) (hl : L.length + ys.length ≤ 100) : ∃ L' o6', foGo none [6] (evSL Φ gvF) (ys.map pW) 0 (gvM v o3 o4 o5 o6) (G0 S N L A) = some (.next, gvM v o3 o4 o5 o6', G0 S N L' A) ∧ HA.Hp L' ∧ L'.Perm (L ++ ys) := by
  obtain ⟨m', σ', h1, L', o, hm, hσ, h2, h3⟩ := fo_in (g := pW) (is := [6]) (b := evSL Φ gvF) (n := none) (full := ys) (I := fun r m σ => ∃ L' o, m = gvM v o3 o4 o5 o ∧ σ = G0 S N L' A ∧ HA.Hp L' ∧ (L' ++ r).Perm (L ++ ys))
    (fun r m σ _ j hj => nn hj) (fun a r m σ ⟨L', o, hm, hσ, h2, h3⟩ => by
      subst hm hσ
      have hl' := h3.length_eq
      simp only [List.length_append, List.length_cons] at hl'
      obtain ⟨L2, k1, k2, k3⟩ := push_run (H := HA) (σ := G0 S N L' A) (n := 1) (x := a) (L := L') rfl (by omega) h2 (cl_G c _ _)
      have e1 : ev Φ (.tup (.cons (.bin .Sub (.int 4) (.bi .len (.cons (.v 6) .nil))) (.cons (.v 6) .nil))) (gvM v o3 o4 o5 (some (pW a))) (G0 S N L' A) = some (fA a, G0 S N L' A) :=
        sq_in (l_cons (e_bin rfl (e_bi (l_cons rfl l_nil) (bd_in rfl (len_w _ a))) rfl) (l_cons rfl l_nil)) rfl
      refine ⟨gvM v o3 o4 o5 (some (pW a)), _, _, rfl, sl_in (s_ex (e_call (l_cons rfl (l_cons e1 l_nil)) hΦ k1)) rfl, L2, some (pW a), rfl, rfl, k3, ?_⟩
      exact (k2.append_right r).trans (by rw [List.append_assoc]; exact h3)) ys 0 (gvM v o3 o4 o5 o6) (G0 S N L A) rfl (Nat.zero_add _) ⟨L, o6, rfl, rfl, hp, .refl _⟩
  subst hm hσ
  exact ⟨L', o, h1, h2, by rw [List.append_nil] at h3; exact h3⟩
end
/-- what one wish gets -/
inductive Gave (v : W) (L L' : List W) : Option W → Prop
  | no (h : ∀ y ∈ L, ln v < ln y) (p : L'.Perm L) : Gave v L L' none
  | yes {u : W} {R : List W} (p : L.Perm (u :: R)) (q : L'.Perm (R ++ hv u v)) (h : ln u ≤ ln v) (t : ∀ y ∈ L, ln y ≤ ln v → ln y ≤ ln u) : Gave v L L' (some (gv u v))
noncomputable def pO (o : Option W) : PV := o.elim .none pW
theorem given_run {S N : PO} (c : Cl2 S N) {v : W} {L : List W} (hp : HA.Hp L) (hl : L.length ≤ 60) : ∃ L' o, tS15 [.loc 1, pW v] [S, HA.lst L, N] = some (.val (pO o), [S, HA.lst L', N]) ∧ HA.Hp L' ∧ Gave v L L' o := by
  obtain ⟨m', σ', h1, L1, A, hm, hσ, I, hle⟩ := gv_loop (Φ := tab tL15) rfl c hp (show L.length ≤ 100 by omega) (v := v) (o3 := none) (o4 := none) (o5 := none) (o6 := none)
  subst hm hσ
  have hlen : A.length + L1.length = L.length := by have := I.perm.length_eq; rw [List.length_append] at this; exact this
  have cl3 : ∀ L', Clo [S, HA.lst L', N] := fun L' n => by
    show (clO n S && (clO n (HA.lst L') && (clO n N && true))) = true
    rw [c.s, c.n, show clO n (HA.lst L') = true from cl_map HA.cl n L']; rfl
  have fin : ∀ (L' : List W) (o : Option W) (m : Fm), evSL (tab tL15) tB15 [some (.loc 1), some (pW v), none, none, none, none, none] [S, HA.lst L, N] = some (.ret (pO o), m, G0 S N L' A) → tS15 [.loc 1, pW v] [S, HA.lst L, N] = some (.val (pO o), [S, HA.lst L', N]) := fun L' o m h =>
    drop_in (e := [HA.lst A]) (gd_in rfl (s3_in (t := .ret (pO o)) (m := m) (σ := G0 S N L' A) h rfl)) rfl (by cases o <;> rfl) (cl3 L')
  have hne : ev (tab tL15) (.cmp .NotEq (.v 0) (.list .nil)) (gvM v (some .none) none none none) (G0 S N L1 A) = some (.bool (!L1.isEmpty), G0 S N L1 A) := e_cmp rfl rfl (ne_nil (n := 1) rfl fun a _ => (PD.fA a).more (by decide))
  cases L1 with
  | nil =>
    obtain ⟨L', o4', b1, b2, b3⟩ := back_run (Φ := tab tL15) (A := A) (o3 := some .none) (o4 := none) (o5 := none) (o6 := none) (v := v) rfl c I.hp (by rw [show ([] : List W).length = 0 from rfl]; omega)
    refine ⟨L', none, fin L' none (gvM v (some .none) o4' none none) ?_, b2, .no (fun y hy => ?_) (b3.trans (by have := I.perm; rw [List.append_nil] at this; exact this))⟩
    · rw [tB15_eq]; exact sl_in rfl (sl_in h1 (sl_in rfl (sl_in (s_iff hne rfl rfl) (sl_in b1 (sl_out (s_ret rfl) rfl)))))
    · have := I.perm.symm.subset hy; rw [List.append_nil] at this; exact I.big y this
  | cons r t =>
    obtain ⟨u, R1, k1, k2, k3, k4⟩ := pop_run (H := HA) (σ := G0 S N (r :: t) A) (n := 1) (L := r :: t) rfl (by omega) I.hp (fun e => nomatch e) (cl_G c _ _)
    have hu : ln u ≤ ln v := hle u (k2.subset (.head _))
    have hR : R1.length + 1 = (r :: t).length := by have := k2.length_eq; exact this
    have hhv : (hv u v).length ≤ 4 := by have := congrArg List.length (hv_ln hu); rw [List.length_map, List.length_range'] at this; have := ln4 v; omega
    obtain ⟨L3, o6', q1, q2, q3⟩ := half_run (Φ := tab tL15) (A := A) (o3 := some (pW (gv u v))) (o4 := none) (o5 := some (pW u)) (o6 := none) (v := v) rfl c k3 (hv u v) (by omega)
    have hL3 : L3.length = R1.length + (hv u v).length := by rw [q3.length_eq, List.length_append]
    obtain ⟨L', o4', b1, b2, b3⟩ := back_run (Φ := tab tL15) (A := A) (o3 := some (pW (gv u v))) (o4 := none) (o5 := some (pW u)) (o6 := o6') (v := v) rfl c q2 (show L3.length + A.length ≤ 100 by omega)
    have i1 : evS (tab tL15) (.as 5 (.idx (.call 1 (.cons (.v 0) .nil)) (.int 1))) (gvM v (some .none) none none none) (G0 S N (r :: t) A) = some (.next, gvM v (some .none) none (some (pW u)) none, G0 S N R1 A) :=
      s_as (e_idx (p := fA u) (e_call (l_cons rfl l_nil) rfl k1) rfl rfl)
    have i2 : evS (tab tL15) (.as 3 (.bin .Add (.v 5) (.slc (.v 1) (.yes (.bi .len (.cons (.v 5) .nil))) .no))) (gvM v (some .none) none (some (pW u)) none) (G0 S N R1 A) = some (.next, gvM v (some (pW (gv u v))) none (some (pW u)) none, G0 S N R1 A) :=
      bd_el (gv_x (G0 S N R1 A) hu) fun q z1 z2 => s_as (e_bin rfl (sq_in rfl (sq_in (sq_in (e_bi (l_cons rfl l_nil) (bd_in rfl (len_w _ u))) rfl) (sq_in rfl (vl_in z1)))) z2)
    have i3 : evS (tab tL15) (.fo [6] (.call 14 (.cons (.v 5) (.cons (.v 1) .nil))) gvF) (gvM v (some (pW (gv u v))) none (some (pW u)) none) (G0 S N R1 A) = some (.next, gvM v (some (pW (gv u v))) none (some (pW u)) o6', G0 S N L3 A) :=
      sq_in (e_call (l_cons rfl (l_cons rfl l_nil)) rfl (hv_call hu (cl_G c _ _))) (bd_in it_lst q1)
    refine ⟨L', some (gv u v), fin L' (some (gv u v)) (gvM v (some (pW (gv u v))) o4' (some (pW u)) o6') ?_, b2, .yes (R := A ++ R1) ?_ ?_ hu fun y hy hyv => ?_⟩
    · rw [tB15_eq]; exact sl_in rfl (sl_in h1 (sl_in rfl (sl_in (s_ift hne rfl (sl_in i1 (sl_in i2 (sl_in i3 rfl)))) (sl_in b1 (sl_out (s_ret rfl) rfl)))))
    · exact (I.perm.symm.trans (k2.symm.append_left A)).trans List.perm_middle
    · exact b3.trans ((q3.append_right A).trans (List.perm_append_comm.trans (by rw [List.append_assoc])))
    · rcases List.mem_append.mp (I.perm.symm.subset hy) with q | q
      · exact absurd (I.big y q) (Nat.not_lt.mpr hyv)
      · exact ke_ln (k4 y q)
end Sh
namespace Sh
open PySem PySem.Calls
/- the lengths of what is left, by its binary figures -/
noncomputable def bl (l : Nat) : List Nat := (List.range 5).filter fun k => l / 2 ^ (4 - k) % 2 == 1
theorem blA : ∀ l < 17, ∀ m < 5, (∀ y ∈ bl l, m < y) → ¬ 2 ^ (4 - m) ≤ l := by decide +kernel
theorem blB : ∀ l < 17, ∀ m < 5, ∀ j ∈ bl l, (j ≤ m ∧ ∀ y ∈ bl l, y ≤ m → y ≤ j) → (2 ^ (4 - m) ≤ l ∧ decide (((bl l).erase j ++ List.range' (j + 1) (m - j)).Perm (bl (l - 2 ^ (4 - m)))) = true) := by decide +kernel
theorem bl_nd (l : Nat) : (bl l).Nodup := List.Pairwise.filter _ List.nodup_range
structure Good (F : List W) (l : Nat) : Prop where
  lens : (F.map ln).Perm (bl l)
  le : l ≤ 16
theorem Good.nd {F : List W} {l : Nat} (g : Good F l) : (F.map ln).Nodup := g.lens.nodup_iff.mpr (bl_nd l)
theorem Good.len {F : List W} {l : Nat} (g : Good F l) : F.length ≤ 5 := by
  have h := g.lens.length_eq
  rw [List.length_map] at h
  rw [h]; exact Nat.le_trans (List.length_filter_le _ _) (by rw [List.length_range]; exact Nat.le_refl _)
theorem Good.perm {F F' : List W} {l : Nat} (g : Good F l) (h : F'.Perm F) : Good F' l := ⟨(h.map ln).trans g.lens, g.le⟩
noncomputable def nxL (l : Nat) (v : W) : Nat := if 2 ^ (4 - ln v) ≤ l then l - 2 ^ (4 - ln v) else l
theorem mem_bl {F : List W} {l : Nat} (g : Good F l) {y : Nat} (h : y ∈ bl l) : ∃ w ∈ F, ln w = y := List.mem_map.mp (g.lens.symm.subset h)
theorem good_nx {F F' : List W} {l : Nat} {v : W} {o : Option W} (g : Good F l) (h : Gave v F F' o) : Good F' (nxL l v) := by
  have hv4 : ln v < 5 := Nat.lt_succ_of_le (ln4 v)
  have hl : l < 17 := Nat.lt_succ_of_le g.le
  cases h with
  | no h p =>
    have := blA l hl (ln v) hv4 fun y hy => let ⟨w, hw, e⟩ := mem_bl g hy; e ▸ h w hw
    unfold nxL; rw [if_neg this]
    exact g.perm p
  | @yes u R p q h t =>
    have hm := p.map ln
    have hu : ln u ∈ bl l := g.lens.subset (hm.symm.subset (.head _))
    obtain ⟨b1, b2⟩ := blB l hl (ln v) hv4 (ln u) hu ⟨h, fun y hy hyv => by obtain ⟨w, hw, e⟩ := mem_bl g hy; rw [← e] at hyv ⊢; exact t w hw hyv⟩
    have b2 := of_decide_eq_true b2
    unfold nxL; rw [if_pos b1]
    refine ⟨?_, Nat.le_trans (Nat.sub_le _ _) g.le⟩
    have hR : (R.map ln).Perm ((bl l).erase (ln u)) := by
      have := (g.lens.symm.trans hm).erase (ln u)
      rw [List.map_cons, List.erase_cons_head] at this
      exact this.symm
    have := (q.map ln)
    rw [List.map_append, hv_ln h] at this
    exact this.trans ((hR.append_right _).trans b2)
theorem inj_of : ∀ {F : List W}, (F.map ln).Nodup → ∀ {a b : W}, a ∈ F → b ∈ F → ln a = ln b → a = b
  | c :: F, nd, a, b, ha, hb, e => by
    have h := List.nodup_cons.mp nd
    rcases List.mem_cons.mp ha with q | q <;> rcases List.mem_cons.mp hb with q' | q'
    · rw [q, q']
    · exact absurd (List.mem_map.mpr ⟨b, q', by rw [← e, q]⟩) h.1
    · exact absurd (List.mem_map.mpr ⟨a, q, by rw [e, q']⟩) h.1
    · exact inj_of h.2 q q' e
theorem gave_uniq {L L' F F' : List W} {v : W} {o o' : Option W} (h : Gave v L L' o) (h' : Gave v F F' o') (p : L.Perm F) (nd : (F.map ln).Nodup) : o = o' ∧ L'.Perm F' := by
  have inj := fun a (ha : a ∈ F) b (hb : b ∈ F) => inj_of nd ha hb
  cases h with
  | no h q => cases h' with
    | no h' q' => exact ⟨rfl, q.trans (p.trans q'.symm)⟩
    | @yes u' R' q1 q2 h1 t1 => exact absurd h1 (Nat.not_le.mpr (h u' (p.symm.subset (q1.symm.subset (.head _)))))
  | @yes u R q1 q2 h1 t1 => cases h' with
    | no h' q' => exact absurd h1 (Nat.not_le.mpr (h' u (p.subset (q1.symm.subset (.head _)))))
    | @yes u' R' r1 r2 h2 t2 =>
      have m1 : u ∈ L := q1.symm.subset (.head _)
      have m2 : u' ∈ F := r1.symm.subset (.head _)
      have e : u = u' := inj u (p.subset m1) u' m2 (Nat.le_antisymm (t2 u (p.subset m1) h1) (t1 u' (p.symm.subset m2) h2))
      subst e
      exact ⟨rfl, q2.trans ((((q1.symm.trans p).trans r1).cons_inv.append_right _).trans r2.symm)⟩
/- the law's own plain list -/
noncomputable def best (F : List W) (v w : W) : Bool := decide (ln w ≤ ln v) && decide (∀ y ∈ F, ln y ≤ ln v → ln y ≤ ln w)
noncomputable def tkn (F : List W) (v : W) : Option W := (F.filter (best F v)).head?
noncomputable def nxF (F : List W) (v : W) : List W := (tkn F v).elim F fun u => F.filter (fun w => !decide (w = u)) ++ hv u v
noncomputable def outF' (F : List W) (v : W) : Option W := (tkn F v).map fun u => gv u v
theorem ex_max {p : W → Prop} [DecidablePred p] : ∀ {F : List W} {a : W}, a ∈ F → p a → ∃ u ∈ F, p u ∧ ∀ y ∈ F, p y → ln y ≤ ln u
  | b :: F, a, ha, hp => by
    by_cases h : ∃ c ∈ F, p c
    · obtain ⟨c, hc, pc⟩ := h
      obtain ⟨u, hu, pu, mu⟩ := ex_max hc pc
      by_cases hb : p b ∧ ln u ≤ ln b
      · exact ⟨b, .head _, hb.1, fun y hy py => (List.mem_cons.mp hy).elim (fun e => e ▸ Nat.le_refl _) fun hy => Nat.le_trans (mu y hy py) hb.2⟩
      · exact ⟨u, .tail _ hu, pu, fun y hy py => (List.mem_cons.mp hy).elim (fun e => Nat.le_of_lt (Nat.lt_of_not_le fun q => hb ⟨e ▸ py, e ▸ q⟩)) fun hy => mu y hy py⟩
    · have ha' : a = b := (List.mem_cons.mp ha).elim id fun q => absurd ⟨a, q, hp⟩ h
      subst ha'
      exact ⟨a, .head _, hp, fun y hy py => (List.mem_cons.mp hy).elim (fun e => e ▸ Nat.le_refl _) fun hy => absurd ⟨y, hy, py⟩ h⟩
theorem tkn_some {F : List W} {v u : W} (h : tkn F v = some u) : u ∈ F ∧ ln u ≤ ln v ∧ ∀ y ∈ F, ln y ≤ ln v → ln y ≤ ln u := by
  have := List.mem_filter.mp (List.mem_of_head? h)
  exact and_el this.2 fun a b => ⟨this.1, of_decide_eq_true a, of_decide_eq_true b⟩
theorem tkn_none {F : List W} {v : W} (h : tkn F v = none) : ∀ y ∈ F, ln v < ln y := fun y hy => Nat.lt_of_not_le fun q => by
  obtain ⟨u, hu, pu, mu⟩ := ex_max (p := fun w => ln w ≤ ln v) hy q
  have : u ∈ F.filter (best F v) := List.mem_filter.mpr ⟨hu, Bool.and_eq_true_iff.mpr ⟨decide_eq_true pu, decide_eq_true mu⟩⟩
  rw [List.head?_eq_none_iff.mp h] at this
  exact nomatch this
theorem nd_of {F : List W} (h : (F.map ln).Nodup) : F.Nodup := (List.pairwise_map.mp h).imp fun h e => h (by rw [e])
theorem gave_nx {F : List W} {v : W} (nd : (F.map ln).Nodup) : Gave v F (nxF F v) (outF' F v) := by
  unfold nxF outF'
  cases h : tkn F v with
  | none => exact .no (tkn_none h) (.refl _)
  | some u =>
    have t := tkn_some h
    refine .yes (R := F.filter fun w => !decide (w = u)) ?_ (.refl _) t.2.1 t.2.2
    have := List.perm_cons_erase t.1
    rw [(nd_of nd).erase_eq_filter] at this
    refine this.trans (.of_eq (congrArg _ (List.filter_congr fun w _ => ?_)))
    by_cases e : w = u
    · rw [e]; simp
    · simp [e]
/-- all wishes, one behind another -/
noncomputable def runW : List W → List W → Nat → List (Option W × Nat) × List W × Nat
  | [], F, l => ([], F, l)
  | v :: r, F, l => ((outF' F v, nxL l v) :: (runW r (nxF F v) (nxL l v)).1, (runW r (nxF F v) (nxL l v)).2)
noncomputable def nP (x : Option W × Nat) : PV := .tup [pO x.1, .lst ((bl x.2).map fun (k : Nat) => PV.int k)]
end Sh
namespace Sh
open PySem PySem.Calls
/- sorting -/
section
variable {α : Type} {le : α → α → Bool}
theorem ins_map {β : Type} {f : α → β} {le' : β → β → Bool} (h : ∀ a b, le' (f a) (f b) = le a b) (a : α) : ∀ l : List α, ins le' (f a) (l.map f) = (ins le a l).map f
  | [] => rfl
  | b :: r => by
    show cond (le' (f a) (f b)) (f a :: f b :: r.map f) (f b :: ins le' (f a) (r.map f)) = (cond (le a b) (a :: b :: r) (b :: ins le a r)).map f
    rw [h]
    cases le a b with
    | true => rfl
    | false => exact congrArg (f b :: ·) (ins_map h a r)
theorem srt_map {β : Type} {f : α → β} {le' : β → β → Bool} (h : ∀ a b, le' (f a) (f b) = le a b) : ∀ l : List α, srt le' (l.map f) = (srt le l).map f
  | [] => rfl
  | a :: r => by show ins le' (f a) (srt le' (r.map f)) = _; rw [srt_map h r]; exact ins_map h a _
end
noncomputable def leW (a b : W) : Bool := decide (a.val ≤ b.val)
theorem leS_w : ∀ a b : W, leS (ws a) (ws b) = leW a b := by decide +kernel
theorem totW : Tot leW := ⟨fun a b c h h' => decide_eq_true (Nat.le_trans (of_decide_eq_true h) (of_decide_eq_true h')), fun a b h h' => Fin.ext (Nat.le_antisymm (of_decide_eq_true h) (of_decide_eq_true h')), fun a b h => decide_eq_true (Nat.le_of_lt (Nat.lt_of_not_le (of_decide_eq_false h)))⟩
theorem srtW_eq {l l' : List W} (h : l.Perm l') : srt leW l = srt leW l' := srt_eq totW ((srt_perm l).trans h) (srt_sorted totW l)
theorem ints_of {α : Type} (f : α → Int) : ∀ l : List α, intsOf (l.map fun a => .int (f a)) = some (l.map f)
  | [] => rfl
  | a :: r => by show bd (intsOf (r.map fun a => .int (f a))) (fun l => some (f a :: l)) = _; rw [ints_of f r]; rfl
theorem strs_w : ∀ l : List W, strsOf (l.map pW) = some (l.map ws)
  | [] => rfl
  | a :: r => by show bd (strsOf (r.map pW)) (fun l => some (ws a :: l)) = _; rw [strs_w r]; rfl
theorem sorted_w {σ : St} {l : List W} (h : l.length < 60) : biV .sorted [.lst (l.map pW)] σ = some (.lst ((srt leW l).map pW)) := by
  refine bd_in rfl (bd_in (a := l.map pW) rfl (gd_in (decide_eq_true (by rw [List.length_map]; exact h)) ?_))
  cases l with
  | nil => rfl
  | cons a r =>
    refine ql_r rfl (bd_in (strs_w (a :: r)) ?_)
    show some (PV.lst ((srt leS ((a :: r).map ws)).map .str)) = _
    rw [srt_map leS_w, List.map_map]; rfl
/- one turn of the law's plain list -/
theorem idx_hd {σ : St} {l : List PV} {p : PV} (hl : l.length ≤ 1000) (hi : l.head? = some p) : idxV σ (.lst l) (.int 0) = some p := by
  match l, hi with
  | a :: r, hi =>
    refine (show idxV σ (.lst (a :: r)) (.int 0) = gd (decide ((a :: r).length ≤ LIM)) (bd (seqIndex? 0 (a :: r).length) fun j => (a :: r)[j]?) from rfl).trans (gd_in (lim_of hl) (bd_in (a := 0) ?_ hi))
    unfold seqIndex?; simp
theorem eq_w (σ : St) (a b : W) : eqV σ (pW a) (pW b) = some (decide (a = b)) := by
  refine eq_in rfl ((PD.word a).more (by decide)) ((PD.word b).more (by decide)) ?_
  show (ws a == ws b) = _
  revert a b; decide +kernel
theorem pow_w (σ : St) : ∀ w : W, binV .Pow (.int 2) (.int (4 - (ln w : Int))) σ = some (.int (2 ^ (4 - ln w) : Nat)) := all1 (by kernel_rfl)
noncomputable def duX : X := .comp 1 (.v 9) (.bi .range (.cons (.int 5) .nil)) (.cons (.cmp .Eq (.bin .Mod (.bin .FloorDiv (.v 2) (.bin .Pow (.int 2) (.bin .Sub (.int 4) (.v 9)))) (.int 2)) (.int 1)) .nil)
noncomputable def duI : SL := .cons (.as 7 (.bi .max (.cons (.comp 1 (.bi .len (.cons (.v 9) .nil)) (.v 5) .nil) .nil))) (.cons (.as 8 (.idx (.comp 1 (.v 9) (.v 5) (.cons (.cmp .Eq (.bi .len (.cons (.v 9) .nil)) (.v 7)) .nil)) (.int 0)))
  (.cons (.as 6 (.bin .Add (.v 8) (.slc (.v 4) (.yes (.v 7)) .no))) (.cons (.as 1 (.bin .Add (.comp 1 (.v 9) (.v 1) (.cons (.cmp .NotEq (.v 9) (.v 8)) .nil)) (.call 14 (.cons (.v 8) (.cons (.v 4) .nil))))) .nil)))
noncomputable def duP : X := .bin .Pow (.int 2) (.bin .Sub (.int 4) (.bi .len (.cons (.v 4) .nil)))
noncomputable def duN : X := .comp 1 (.v 9) (.v 1) (.cons (.cmp .LtE (.bi .len (.cons (.v 9) .nil)) (.bi .len (.cons (.v 4) .nil))) .nil)
noncomputable def duB : SL := .cons (.as 5 duN) (.cons (.as 6 .none) (.cons (.iff (.cmp .NotEq (.v 5) (.list .nil)) duI .nil) (.cons (.iff (.cmp .LtE duP (.v 2)) (.cons (.aug 2 .Sub duP) .nil) .nil) (.cons (.ex (.me .append (.v 3) (.cons (.tup (.cons (.v 6) (.cons duX .nil))) .nil))) .nil))))
theorem tB17_eq : tB17 = .cons (.as 1 (.list (.cons (.str (Str.ofString "")) .nil))) (.cons (.as 2 (.int 16)) (.cons (.as 3 (.mlist .nil)) (.cons (.fo [4] (.v 0) duB) (.cons (.ret (.tup (.cons (.v 3) (.cons (.bi .sorted (.cons (.v 1) .nil)) (.cons (.v 2) .nil))))) .nil)))) := rfl
noncomputable def duM (P : PV) (F : List W) (l : Nat) (o4 o5 o6 o7 o8 : Option PV) : Fm := [some P, some (.lst (F.map pW)), some (.int l), some (.loc 1), o4, o5, o6, o7, o8]
section
variable {Φ : Nat → Option Spec} {P : PV} {F : List W} {l : Nat} {o4 o5 o6 o7 o8 : Option PV}
theorem du_bits (σ : St) (h : l ≤ 16) : ev Φ duX (duM P F l o4 o5 o6 o7 o8) σ = some (.lst ((bl l).map fun (k : Nat) => PV.int k), σ) :=
  List.map_inj_left.mp (show (List.range 17).map (fun l => ev Φ duX (duM P F l o4 o5 o6 o7 o8) σ) = (List.range 17).map (fun l => some (.lst ((bl l).map fun (k : Nat) => PV.int k), σ)) by kernel_rfl) l (List.mem_range.mpr (by omega))
end
end Sh
namespace Sh
open PySem PySem.Calls
theorem fold_max {M : Int} : ∀ {l : List Int} {x : Int}, x ≤ M → (∀ y ∈ l, y ≤ M) → (x = M ∨ M ∈ l) → l.foldl max x = M
  | [], x, h, _, e => e.elim id fun q => nomatch q
  | y :: r, x, h, hl, e => fold_max (l := r) (x := max x y) (Int.max_le.mpr ⟨h, hl y (.head _)⟩) (fun z hz => hl z (.tail _ hz)) (by
      rcases e with e | e
      · left; have := hl y (.head _); omega
      · rcases List.mem_cons.mp e with e | e
        · left; omega
        · exact .inr e)
theorem add_lst {σ : St} {a b : List PV} (h : a.length + b.length ≤ 1000) : binV .Add (.lst a) (.lst b) σ = some (.lst (a ++ b)) :=
  (show binV .Add (.lst a) (.lst b) σ = gd (decide (a.length + b.length ≤ LIM)) (some (.lst (a ++ b))) from rfl).trans (gd_in (lim_of h) rfl)
theorem app_loc {σ : St} {n : Nat} {l : List PV} {p : PV} (h : σ[n]? = some (.lst l)) (hl : l.length ≤ 1000) : meV .append (.loc n) [p] σ = some (.none, σ.set n (.lst (l ++ [p]))) :=
  ql_r rfl (ql_r rfl (bd_in rfl (bd_in (locL_in h) (bd_in (gd_in (lim_of hl) rfl) rfl))))
theorem app_ok {σ : St} {n : Nat} {l : List PV} (h : σ[n]? = some (.lst l)) : meOk .append (.loc n) σ = some () := ql_r rfl (ql_r rfl (bd_in rfl (bd_in (locL_in h) rfl)))
section
variable {P : PV} {F : List W} {l : Nat} {v : W} {o4 o5 o6 o7 o8 : Option PV} {S : PO} {D : List (Option W × Nat)}
noncomputable def nrL (F : List W) (v : W) : List W := F.filter fun w => decide ((ln w : Int) ≤ (ln v : Int))
theorem du_near (σ : St) (hF : F.length ≤ 100) : ev (tab tL17) duN (duM P F l (some (pW v)) o5 o6 o7 o8) σ = some (.lst ((nrL F v).map pW), σ) :=
  e_comp (g := pW) (val := pW) (full := F) (n := none) (keep := fun w => decide ((ln w : Int) ≤ (ln v : Int))) rfl it_lst (fun j h => nn h) (by omega) fun w _ =>
    ⟨[some (pW w)], rfl, evT1 (e_cmp (e_bi (l_cons rfl l_nil) (bd_in rfl (len_w _ w))) (e_bi (l_cons rfl l_nil) (bd_in rfl (len_w _ v))) rfl), fun _ => rfl⟩
theorem nr_len : (nrL F v).length ≤ F.length := List.length_filter_le _ _
theorem nr_best : (nrL F v).filter (fun w => decide (∀ y ∈ F, ln y ≤ ln v → ln y ≤ ln w)) = F.filter (best F v) := by
  unfold nrL
  rw [List.filter_filter]
  exact List.filter_congr fun w _ => by
    unfold best
    rw [Bool.and_comm]
    congr 1
    exact decide_eq_decide.mpr Int.ofNat_le
theorem du_max (σ : St) {u : W} (hF : F.length ≤ 100) (hu : u ∈ nrL F v) (hm : ∀ y ∈ nrL F v, ln y ≤ ln u) :
    ev (tab tL17) (.bi .max (.cons (.comp 1 (.bi .len (.cons (.v 9) .nil)) (.v 5) .nil) .nil)) (duM P F l (some (pW v)) (some (.lst ((nrL F v).map pW))) o6 o7 o8) σ = some (.int (ln u), σ) := by
  have h1 : ev (tab tL17) (.comp 1 (.bi .len (.cons (.v 9) .nil)) (.v 5) .nil) (duM P F l (some (pW v)) (some (.lst ((nrL F v).map pW))) o6 o7 o8) σ = some (.lst (((nrL F v).filter fun _ => true).map fun w => .int (ln w : Int)), σ) :=
    e_comp (g := pW) (val := fun w => .int (ln w : Int)) (full := nrL F v) (n := none) (keep := fun _ => true) rfl it_lst (fun j h => nn h) (Nat.le_trans nr_len (by omega)) fun w _ => ⟨[some (pW w)], rfl, rfl, fun _ => e_bi (l_cons rfl l_nil) (bd_in rfl (len_w _ w))⟩
  rw [List.filter_eq_self.mpr fun _ _ => rfl] at h1
  refine e_bi (l_cons h1 l_nil) (ql_l (bd_in rfl (bd_in (a := (nrL F v).map fun w => .int (ln w : Int)) rfl (bd_in (ints_of (fun w : W => (ln w : Int)) _) ?_))))
  cases hn : nrL F v with
  | nil => rw [hn] at hu; exact nomatch hu
  | cons a t =>
    rw [hn] at hu hm
    have hl : t.length ≤ 1000 := by have := nr_len (F := F) (v := v); rw [hn] at this; simp at this; omega
    refine gd_in (lim_of (by rw [List.length_map]; exact hl)) (congrArg (fun x => some (PV.int x)) (fold_max (Int.ofNat_le.mpr (hm a (.head _))) (fun y hy => ?_) ?_))
    · obtain ⟨w, hw, e⟩ := List.mem_map.mp hy; rw [← e]; exact Int.ofNat_le.mpr (hm w (.tail _ hw))
    · rcases List.mem_cons.mp hu with e | e
      · left; rw [e]
      · right; exact List.mem_map.mpr ⟨u, e, rfl⟩
theorem du_take (σ : St) {u : W} (hF : F.length ≤ 100) (ht : tkn F v = some u) :
    ev (tab tL17) (.idx (.comp 1 (.v 9) (.v 5) (.cons (.cmp .Eq (.bi .len (.cons (.v 9) .nil)) (.v 7)) .nil)) (.int 0)) (duM P F l (some (pW v)) (some (.lst ((nrL F v).map pW))) o6 (some (.int (ln u))) o8) σ = some (pW u, σ) := by
  have h1 : ev (tab tL17) (.comp 1 (.v 9) (.v 5) (.cons (.cmp .Eq (.bi .len (.cons (.v 9) .nil)) (.v 7)) .nil)) (duM P F l (some (pW v)) (some (.lst ((nrL F v).map pW))) o6 (some (.int (ln u))) o8) σ = some (.lst (((nrL F v).filter fun w => (ln w : Int) == (ln u : Int)).map pW), σ) :=
    e_comp (g := pW) (val := pW) (full := nrL F v) (n := none) (keep := fun w => (ln w : Int) == (ln u : Int)) rfl it_lst (fun j h => nn h) (Nat.le_trans nr_len (by omega)) fun w _ => ⟨[some (pW w)], rfl, evT1 (e_cmp (e_bi (l_cons rfl l_nil) (bd_in rfl (len_w _ w))) rfl rfl), fun _ => rfl⟩
  have t := tkn_some ht
  have hq : (nrL F v).filter (fun w => (ln w : Int) == (ln u : Int)) = F.filter (best F v) := by
    rw [← nr_best]
    refine List.filter_congr fun w hw => ?_
    have hw' := List.mem_filter.mp hw
    have hwv : ln w ≤ ln v := Int.ofNat_le.mp (of_decide_eq_true hw'.2)
    rw [Bool.eq_iff_iff, beq_iff_eq, decide_eq_true_iff]
    exact ⟨fun e y hy hyv => by have := t.2.2 y hy hyv; omega, fun h => by have := h u t.1 t.2.1; have := t.2.2 w hw'.1 hwv; omega⟩
  rw [hq] at h1
  refine e_idx h1 rfl (idx_hd (by rw [List.length_map]; exact Nat.le_trans (List.length_filter_le _ _) (by omega)) ?_)
  rw [List.head?_map, show (F.filter (best F v)).head? = some u from ht]; rfl
theorem du_free (σ : St) (c : Clo σ) {u : W} (hF : F.length ≤ 100) (hu : ln u ≤ ln v) :
    ev (tab tL17) (.bin .Add (.comp 1 (.v 9) (.v 1) (.cons (.cmp .NotEq (.v 9) (.v 8)) .nil)) (.call 14 (.cons (.v 8) (.cons (.v 4) .nil)))) (duM P F l (some (pW v)) o5 o6 o7 (some (pW u))) σ = some (.lst ((F.filter (fun w => !decide (w = u)) ++ hv u v).map pW), σ) := by
  have h1 : ev (tab tL17) (.comp 1 (.v 9) (.v 1) (.cons (.cmp .NotEq (.v 9) (.v 8)) .nil)) (duM P F l (some (pW v)) o5 o6 o7 (some (pW u))) σ = some (.lst ((F.filter fun w => !decide (w = u)).map pW), σ) :=
    e_comp (g := pW) (val := pW) (full := F) (n := none) (keep := fun w => !decide (w = u)) rfl it_lst (fun j h => nn h) (by omega) fun w _ => ⟨[some (pW w)], rfl, evT1 (e_cmp rfl rfl (by show (eqV σ (pW w) (pW u)).map _ = _; rw [eq_w]; rfl)), fun _ => rfl⟩
  have hh : (hv u v).length ≤ 4 := by have := congrArg List.length (hv_ln hu); rw [List.length_map, List.length_range'] at this; have := ln4 v; omega
  refine (e_bin h1 (e_call (l_cons rfl (l_cons rfl l_nil)) rfl (hv_call hu c)) (add_lst (by rw [List.length_map, List.length_map]; have := List.length_filter_le (fun w => !decide (w = u)) F; omega))).trans ?_
  rw [List.map_append]
theorem du_turn (c : ∀ n, clO n S = true) (g : Good F l) (hD : D.length ≤ 100) : ∃ o5' o6' o7' o8', evSL (tab tL17) duB (duM P F l (some (pW v)) o5 o6 o7 o8) [S, .lst (D.map nP)] =
    some (.next, duM P (nxF F v) (nxL l v) (some (pW v)) o5' o6' o7' o8', [S, .lst ((D ++ [(outF' F v, nxL l v)]).map nP)]) := by
  have hF : F.length ≤ 100 := Nat.le_trans g.len (by decide)
  have cD : Clo [S, .lst (D.map nP)] := fun n => by
    show (clO n S && (clL n (D.map nP) && true)) = true
    rw [c, cl_map (f := nP) (fun a k => ?_)]
    · rfl
    · obtain ⟨o, l⟩ := a
      show (clV k (pO o) && (clL k ((bl l).map fun (k : Nat) => PV.int k) && true)) = true
      rw [cl_map (f := fun (k : Nat) => PV.int k) (fun _ _ => rfl)]
      cases o <;> rfl
  have hg := good_nx g (gave_nx (v := v) g.nd)
  have b1 := s_as (i := 5) (du_near (P := P) (l := l) (v := v) (o5 := o5) (o6 := o6) (o7 := o7) (o8 := o8) [S, .lst (D.map nP)] hF)
  have fin : ∀ {F' : List W} {p6 : PV} {q5 q7 q8 : Option PV}, evSL (tab tL17) (.cons (.iff (.cmp .LtE duP (.v 2)) (.cons (.aug 2 .Sub duP) .nil) .nil) (.cons (.ex (.me .append (.v 3) (.cons (.tup (.cons (.v 6) (.cons duX .nil))) .nil))) .nil)) (duM P F' l (some (pW v)) q5 (some p6) q7 q8) [S, .lst (D.map nP)] =
      some (.next, duM P F' (nxL l v) (some (pW v)) q5 (some p6) q7 q8, [S, .lst (D.map nP ++ [.tup [p6, .lst ((bl (nxL l v)).map fun (k : Nat) => PV.int k)]])]) := fun {F' p6 q5 q7 q8} => by
    have p1 : ev (tab tL17) duP (duM P F' l (some (pW v)) q5 (some p6) q7 q8) [S, .lst (D.map nP)] = some (.int (2 ^ (4 - ln v) : Nat), [S, .lst (D.map nP)]) := e_bin rfl (e_bin rfl (e_bi (l_cons rfl l_nil) (bd_in rfl (len_w _ v))) rfl) (pow_w _ v)
    have p2 : evS (tab tL17) (.iff (.cmp .LtE duP (.v 2)) (.cons (.aug 2 .Sub duP) .nil) .nil) (duM P F' l (some (pW v)) q5 (some p6) q7 q8) [S, .lst (D.map nP)] = some (.next, duM P F' (nxL l v) (some (pW v)) q5 (some p6) q7 q8, [S, .lst (D.map nP)]) := by
      unfold nxL
      by_cases h : 2 ^ (4 - ln v) ≤ l
      · rw [if_pos h]
        refine s_ift (e_cmp p1 rfl rfl) (congrArg some (decide_eq_true (Int.ofNat_le.mpr h))) (sl_in (m' := duM P F' (l - 2 ^ (4 - ln v)) (some (pW v)) q5 (some p6) q7 q8) (bd_in rfl (sq_in p1 (bd_in (a := .int (l - 2 ^ (4 - ln v) : Nat)) ?_ rfl))) rfl)
        show some (PV.int ((l : Int) - (2 ^ (4 - ln v) : Nat))) = _
        rw [Int.ofNat_sub h]
      · rw [if_neg h]
        exact s_iff (e_cmp p1 rfl rfl) (congrArg some (decide_eq_false fun q => h (Int.ofNat_le.mp q))) rfl
    have p3 : ev (tab tL17) (.tup (.cons (.v 6) (.cons duX .nil))) (duM P F' (nxL l v) (some (pW v)) q5 (some p6) q7 q8) [S, .lst (D.map nP)] = some (.tup [p6, .lst ((bl (nxL l v)).map fun (k : Nat) => PV.int k)], [S, .lst (D.map nP)]) :=
      sq_in (l_cons rfl (l_cons (du_bits _ hg.le) l_nil)) rfl
    exact sl_in p2 (sl_in (s_ex (e_me rfl (app_ok (n := 1) rfl) (l_cons p3 l_nil) (app_loc (n := 1) rfl (by rw [List.length_map]; omega)))) rfl)
  have hne : ev (tab tL17) (.cmp .NotEq (.v 5) (.list .nil)) (duM P F l (some (pW v)) (some (.lst ((nrL F v).map pW))) (some .none) o7 o8) [S, .lst (D.map nP)] = some (.bool (!(nrL F v).isEmpty), [S, .lst (D.map nP)]) :=
    e_cmp rfl rfl (ne_lst fun a _ => (PD.word a).more (by decide))
  have hD' : ∀ p, D.map nP ++ [.tup [p, .lst ((bl (nxL l v)).map fun (k : Nat) => PV.int k)]] = (D.map nP ++ [.tup [p, .lst ((bl (nxL l v)).map fun (k : Nat) => PV.int k)]]) := fun _ => rfl
  rw [List.map_append]
  cases ht : tkn F v with
  | none =>
    have hn : nrL F v = [] := List.filter_eq_nil_iff.mpr fun w hw => by have := tkn_none ht w hw; simp; omega
    rw [hn] at hne b1
    rw [show outF' F v = none by unfold outF'; rw [ht]; rfl, show nxF F v = F by unfold nxF; rw [ht]; rfl]
    exact ⟨_, some (pO none), _, _, sl_in b1 (sl_in rfl (sl_in (s_iff hne rfl rfl) fin))⟩
  | some u =>
    have t := tkn_some ht
    have hu : u ∈ nrL F v := List.mem_filter.mpr ⟨t.1, decide_eq_true (Int.ofNat_le.mpr t.2.1)⟩
    have hm : ∀ y ∈ nrL F v, ln y ≤ ln u := fun y hy => t.2.2 y (List.mem_filter.mp hy).1 (Int.ofNat_le.mp (of_decide_eq_true (List.mem_filter.mp hy).2))
    have hn : (nrL F v).isEmpty = false := by cases h : nrL F v with | nil => rw [h] at hu; exact nomatch hu | cons => rfl
    rw [hn] at hne
    rw [show outF' F v = some (gv u v) by unfold outF'; rw [ht]; rfl, show nxF F v = F.filter (fun w => !decide (w = u)) ++ hv u v by unfold nxF; rw [ht]; rfl]
    have i6 : evS (tab tL17) (.as 6 (.bin .Add (.v 8) (.slc (.v 4) (.yes (.v 7)) .no))) (duM P F l (some (pW v)) (some (.lst ((nrL F v).map pW))) (some .none) (some (.int (ln u))) (some (pW u))) [S, .lst (D.map nP)] = some (.next, duM P F l (some (pW v)) (some (.lst ((nrL F v).map pW))) (some (pW (gv u v))) (some (.int (ln u))) (some (pW u)), [S, .lst (D.map nP)]) :=
      bd_el (gv_x [S, .lst (D.map nP)] t.2.1) fun q z1 z2 => s_as (e_bin rfl (sq_in rfl (sq_in rfl (sq_in rfl (vl_in z1)))) z2)
    exact ⟨_, some (pO (some (gv u v))), _, _, sl_in b1 (sl_in rfl (sl_in (s_ift hne rfl (sl_in (s_as (du_max _ hF hu hm)) (sl_in (s_as (du_take _ hF ht)) (sl_in i6 (sl_in (s_as (du_free _ cD hF t.2.1)) rfl))))) fin))⟩
end
end Sh
namespace Sh
open PySem PySem.Calls
/- values given back as they are -/
noncomputable def Fz1 (p : PV) (K : Nat) : Prop := ∀ n σ k, K ≤ k → fzV n σ k p = some p
noncomputable def FzL (l : List PV) (K : Nat) : Prop := ∀ n σ k, K ≤ k → fzL n σ k l = some l
theorem fz_suc {K : Nat} {Q : Nat → Prop} (h : ∀ k, K ≤ k → Q (k + 1)) : ∀ k, K + 1 ≤ k → Q k
  | k + 1, hk => h k (Nat.le_of_succ_le_succ hk)
theorem fz_int (i : Int) : Fz1 (.int i) 1 := fun n σ => fz_suc fun k _ => rfl
theorem fz_str (x : Str) : Fz1 (.str x) 1 := fun n σ => fz_suc fun k _ => rfl
theorem fz_none : Fz1 .none 1 := fun n σ => fz_suc fun k _ => rfl
theorem fzl_nil : FzL [] 1 := fun n σ => fz_suc fun k _ => rfl
theorem fzl_cons {p : PV} {l : List PV} {K : Nat} (h : Fz1 p K) (t : FzL l K) : FzL (p :: l) (K + 1) := fun n σ => fz_suc fun k hk => bd_in (h n σ k hk) (bd_in (t n σ k hk) rfl)
theorem fz_tup {l : List PV} {K : Nat} (h : FzL l K) : Fz1 (.tup l) (K + 1) := fun n σ => fz_suc fun k hk => by show (fzL n σ k l).map PV.tup = _; rw [h n σ k hk]; rfl
theorem fz_lst {l : List PV} {K : Nat} (h : FzL l K) : Fz1 (.lst l) (K + 1) := fun n σ => fz_suc fun k hk => by show (fzL n σ k l).map PV.lst = _; rw [h n σ k hk]; rfl
theorem Fz1.more {p : PV} {K K' : Nat} (h : Fz1 p K) (hk : K ≤ K') : Fz1 p K' := fun n σ k q => h n σ k (Nat.le_trans hk q)
theorem FzL.more {l : List PV} {K K' : Nat} (h : FzL l K) (hk : K ≤ K') : FzL l K' := fun n σ k q => h n σ k (Nat.le_trans hk q)
theorem fzl_map {α : Type} {f : α → PV} {K : Nat} : ∀ {l : List α}, (∀ a ∈ l, Fz1 (f a) K) → FzL (l.map f) (K + l.length + 1)
  | [], _ => fzl_nil.more (by omega)
  | a :: l, h => fzl_cons ((h a (.head _)).more (by rw [List.length_cons]; omega)) (fzl_map fun b hb => h b (.tail _ hb))
/-- a list made here -/
theorem fz_loc {n j k K : Nat} {σ : St} {l : List PV} (hj : n ≤ j) (h : σ[j]? = some (.lst l)) (hl : FzL l K) (hk : K + 1 ≤ k) : fzV n σ k (.loc j) = some (.lst l) := by
  match k, hk with
  | k + 1, hk => exact cf_in (decide_eq_false (Nat.not_lt.mpr hj)) (bd_in (locL_in h) (by rw [hl n σ k (by omega)]; rfl))
theorem fzl_to {n K : Nat} {σ : St} {p q : PV} {l l' : List PV} (h : ∀ k, K ≤ k → fzV n σ k p = some q) (t : ∀ k, K ≤ k → fzL n σ k l = some l') : ∀ k, K + 1 ≤ k → fzL n σ k (p :: l) = some (q :: l') := fz_suc fun k hk => bd_in (h k hk) (bd_in (t k hk) rfl)
theorem fzt_to {n K : Nat} {σ : St} {l l' : List PV} (t : ∀ k, K ≤ k → fzL n σ k l = some l') : ∀ k, K + 1 ≤ k → fzV n σ k (.tup l) = some (.tup l') := fz_suc fun k hk => by show (fzL n σ k l).map PV.tup = _; rw [t k hk]; rfl
theorem up_to {n K K' : Nat} {σ : St} {l l' : List PV} (h : K ≤ K') (t : ∀ k, K ≤ k → fzL n σ k l = some l') : ∀ k, K' ≤ k → fzL n σ k l = some l' := fun k hk => t k (Nat.le_trans h hk)
theorem bl_len (l : Nat) : (bl l).length ≤ 5 := Nat.le_trans (List.length_filter_le _ _) (by rw [List.length_range]; exact Nat.le_refl _)
theorem fz_nP (x : Option W × Nat) : Fz1 (nP x) 20 := by
  have h1 : Fz1 (pO x.1) 10 := by
    cases x.1 with
    | none => exact fz_none.more (by decide)
    | some w => exact (fz_str (ws w)).more (by decide)
  have h2 : Fz1 (.lst ((bl x.2).map fun (k : Nat) => PV.int k)) 9 := (fz_lst (fzl_map fun a _ => fz_int _)).more (by have := bl_len x.2; omega)
  exact (fz_tup (fzl_cons h1 (fzl_cons h2 (fzl_nil.more (by decide))))).more (by decide)
theorem fz_words (l : List W) : FzL (l.map pW) (l.length + 2) := (fzl_map fun a _ => fz_str (ws a)).more (by omega)
theorem w0_eq : PV.str (Str.ofString "") = pW 0 := by kernel_rfl
theorem good_0 : Good [0] 16 := ⟨by decide +kernel, Nat.le_refl _⟩
inductive DuI (S : PO) (vs : List W) : List W → Fm → St → Prop
  | mk {r F : List W} {l : Nat} {D : List (Option W × Nat)} {o4 o5 o6 o7 o8 : Option PV} (g : Good F l) (hl : D.length + r.length ≤ 50) (e1 : D ++ (runW r F l).1 = (runW vs [0] 16).1) (e2 : (runW r F l).2 = (runW vs [0] 16).2) :
      DuI S vs r (duM (.lst (vs.map pW)) F l o4 o5 o6 o7 o8) [S, .lst (D.map nP)]
theorem du_run {S : PO} (c : ∀ n, clO n S = true) {vs : List W} (hv : vs.length ≤ 50) : tS17 [.lst (vs.map pW)] [S] = some (.val (.tup [.lst ((runW vs [0] 16).1.map nP), .lst ((srt leW (runW vs [0] 16).2.1).map pW), .int (runW vs [0] 16).2.2]), [S]) ∧ Good (runW vs [0] 16).2.1 (runW vs [0] 16).2.2 := by
  obtain ⟨m', σ', h1, I⟩ := fo_in (g := pW) (is := [4]) (b := evSL (tab tL17) duB) (n := none) (full := vs) (I := DuI S vs) (fun r m σ _ j hj => nn hj) (fun a r m σ I => by
      cases I with
      | @mk F l D o4 o5 o6 o7 o8 g hl e1 e2 =>
        obtain ⟨q5, q6, q7, q8, h⟩ := du_turn (P := .lst (vs.map pW)) (v := a) (o5 := o5) (o6 := o6) (o7 := o7) (o8 := o8) c g (D := D) (by omega)
        exact ⟨_, _, _, rfl, h, .mk (good_nx g (gave_nx g.nd)) (by rw [List.length_append]; exact (Nat.add_right_comm D.length 1 r.length).symm ▸ hl) (by rw [← e1, List.append_assoc]; rfl) e2⟩)
    vs 0 (duM (.lst (vs.map pW)) [0] 16 none none none none none) [S, .lst []] rfl (Nat.zero_add _) (.mk (D := []) good_0 (by rw [List.length_nil, Nat.zero_add]; exact hv) rfl rfl)
  cases I with
  | @mk F l D o4 o5 o6 o7 o8 g hl e1 e2 =>
  have e1 : D = (runW vs [0] 16).1 := by rw [← e1]; show D = D ++ []; rw [List.append_nil]
  have e2 : (F, l) = (runW vs [0] 16).2 := e2
  rw [← e2, ← e1]
  refine ⟨?_, g⟩
  have b1 : evS (tab tL17) (.as 1 (.list (.cons (.str (Str.ofString "")) .nil))) [some (.lst (vs.map pW)), none, none, none, none, none, none, none, none] [S] = some (.next, [some (.lst (vs.map pW)), some (.lst ([0].map pW)), none, none, none, none, none, none, none], [S]) :=
    (s_as (p := .lst [.str (Str.ofString "")]) rfl).trans (by rw [w0_eq]; rfl)
  have b4 : evS (tab tL17) (.fo [4] (.v 0) duB) (duM (.lst (vs.map pW)) [0] 16 none none none none none) [S, .lst []] = _ := sq_in rfl h1
  have b5 : ev (tab tL17) (.tup (.cons (.v 3) (.cons (.bi .sorted (.cons (.v 1) .nil)) (.cons (.v 2) .nil)))) (duM (.lst (vs.map pW)) F l o4 o5 o6 o7 o8) [S, .lst (D.map nP)] = some (.tup [.loc 1, .lst ((srt leW F).map pW), .int l], [S, .lst (D.map nP)]) :=
    sq_in (l_cons rfl (l_cons (e_bi (l_cons rfl l_nil) (sorted_w (by have := g.len; omega))) (l_cons rfl l_nil))) rfl
  have hD : D.length ≤ 50 := by simp at hl; exact hl
  refine drop_in (σ' := [S]) (e := [.lst (D.map nP)]) (p := .tup [.loc 1, .lst ((srt leW F).map pW), .int l]) (gd_in rfl (s3_in (t := .ret (.tup [.loc 1, .lst ((srt leW F).map pW), .int l])) (m := duM (.lst (vs.map pW)) F l o4 o5 o6 o7 o8) (σ := [S, .lst (D.map nP)]) ?_ rfl)) rfl ?_ (fun n => by show (clO n S && true) = true; rw [c]; rfl)
  · show evSL _ tB17 _ _ = _
    rw [tB17_eq]
    exact sl_in b1 (sl_in rfl (sl_in rfl (sl_in b4 (sl_out (s_ret b5) rfl))))
  · exact fzt_to (fzl_to (K := 600) (fun k hk => fz_loc (K := 500) (Nat.le_refl _) rfl ((fzl_map fun a _ => fz_nP a).more (by omega)) (by omega)) (up_to (by decide) (fzl_to (K := 500) (((fz_lst (fz_words (srt leW F))).more (by have := (srt_perm (le := leW) F).length_eq; have := g.len; omega)) 1 _) ((fzl_cons ((fz_int l).more (K' := 2) (by decide)) (fzl_nil.more (by decide))).more (by decide) 1 _)))) 100000 (by decide)
end Sh
namespace Sh
open PySem PySem.Calls
theorem s_callA {Φ : Nat → Option Spec} {i f : Nat} {xs : XL} {m : Fm} {σ σ₁ σ₂ : St} {ps : List PV} {sp : Spec} {o : Out} (h1 : evL Φ xs m σ = some (ps, σ₁)) (h2 : Φ f = some sp) (h3 : sp ps σ₁ = some (o, σ₂)) : evS Φ (.callA i f xs) m σ = some (outA i o m σ₂) := sq_in h1 (bd_in h2 (sq_in h3 rfl))
theorem s_asr {Φ : Nat → Option Spec} {x : X} {m : Fm} {σ σ₁ : St} {p : PV} (h : ev Φ x m σ = some (p, σ₁)) (h2 : truthyV σ₁ p = some true) : evS Φ (.asr x) m σ = some (.next, m, σ₁) := sq_in h (bd_in h2 rfl)
/- the stream -/
theorem clip_nat (n k : Nat) : clipAt n (k : Int) = min k n := by unfold clipAt; rw [if_neg (by omega)]; omega
theorem slL_take {α : Type} (l : List α) (k : Nat) : slL l none (some (k : Int)) = l.take k := by
  show (l.drop 0).take (clipAt l.length k - 0) = _
  rw [clip_nat, List.drop_zero, Nat.sub_zero]
  by_cases h : k ≤ l.length
  · rw [Nat.min_eq_left h]
  · rw [Nat.min_eq_right (by omega), List.take_length, List.take_of_length_le (by omega)]
theorem slL_drop {α : Type} (l : List α) (k : Nat) : slL l (some (k : Int)) none = l.drop k := by
  show (l.drop (clipAt l.length k)).take (l.length - clipAt l.length k) = _
  rw [clip_nat]
  by_cases h : k ≤ l.length
  · rw [Nat.min_eq_left h, List.take_of_length_le (by rw [List.length_drop]; exact Nat.le_refl _)]
  · rw [Nat.min_eq_right (by omega), Nat.sub_self, List.take_zero, List.drop_of_length_le (by omega)]
noncomputable def sB (l : List UInt8) : PO := .sdict l.toArray
theorem slc_b {σ : St} {l : List UInt8} {lo hi : Option PV} {a b : Option Int} (h1 : parV lo = some a) (h2 : parV hi = some b) (hl : l.length ≤ 1000) : slcV σ (.byt l.toArray) lo hi = some (.byt (slL l a b).toArray) :=
  bd_in h1 (bd_in h2 (ql_r rfl (ql_l (bd_in rfl (gd_in (lim_of hl) rfl)))))
theorem par_nat {k : Nat} (h : k ≤ 1000) : parV (some (.int (k : Int))) = some (some (k : Int)) := bd_in rfl (gd_in (decide_eq_true (by show k < 2 ^ 60; omega)) rfl)
section
variable {σ : St} {l : List UInt8}
theorem strm_in (h : σ[0]? = some (sB l)) : strmD σ (.strm 0) = some (0, l.toArray) := bd_in rfl (bd_in h rfl)
theorem clo_s (c : Clo σ) (l : List UInt8) : Clo (σ.set 0 (sB l)) := clo_set c fun _ => rfl
theorem take_run (h : σ[0]? = some (sB l)) (hl : l.length ≤ 1000) {k : Nat} (hk : k ≤ 1000) (c : Clo σ) : tS10 [.strm 0, .int k] σ = some (.val (.byt (l.take k).toArray), σ.set 0 (sB (l.drop k))) := by
  have e1 : evS (tab tL10) (.as 2 (.slc (.val (.v 0)) .no (.yes (.v 1)))) [some (.strm 0), some (.int k), none] σ = some (.next, [some (.strm 0), some (.int k), some (.byt (l.take k).toArray)], σ) :=
    s_as (sq_in (sq_in rfl (bd_in (strm_in h) rfl)) (sq_in rfl (sq_in rfl (vl_in ((slc_b rfl (par_nat hk) hl).trans (by rw [slL_take]))))))
  have e2 : evS (tab tL10) (.asV (.v 0) (.slc (.val (.v 0)) (.yes (.v 1)) .no)) [some (.strm 0), some (.int k), some (.byt (l.take k).toArray)] σ = some (.next, [some (.strm 0), some (.int k), some (.byt (l.take k).toArray)], σ.set 0 (sB (l.drop k))) :=
    sq_in (sq_in (sq_in rfl (bd_in (strm_in h) rfl)) (sq_in rfl (sq_in rfl (vl_in ((slc_b (par_nat hk) rfl hl).trans (by rw [slL_drop])))))) (sq_in rfl (bd_in (bd_in (strm_in h) (bd_in (a := (l.drop k).toArray) rfl (gd_in (lim_of (show (l.drop k).length ≤ 1000 by rw [List.length_drop]; omega)) rfl))) rfl))
  exact drop0 (gd_in rfl (s3_in (t := .ret (.byt (l.take k).toArray)) (m := [some (.strm 0), some (.int k), some (.byt (l.take k).toArray)]) (sl_in e1 (sl_in e2 (sl_out (s_ret rfl) rfl))) rfl)) List.length_set rfl (clo_s c _)
theorem get_s (h : σ[0]? = some (sB l)) (l' : List UInt8) : (σ.set 0 (sB l'))[0]? = some (sB l') := get_set (lt_of_get h)
theorem read_in {Φ : Nat → Option Spec} {m : Fm} {a n : X} (hΦ : Φ 10 = some tS10) (h : σ[0]? = some (sB l)) (hl : l.length ≤ 1000) {k : Nat} (hk : k ≤ 1000) (c : Clo σ) (h1 : ev Φ a m σ = some (.strm 0, σ)) (h2 : ev Φ n m σ = some (.int k, σ)) :
    ev Φ (.read 10 a n) m σ = some (.byt (l.take k).toArray, σ.set 0 (sB (l.drop k))) := sq_in h1 (bd_in (strm_in h) (sq_in h2 (bd_in hΦ (sq_in (take_run h hl hk c) rfl))))
theorem uint_run {b : UInt8} (h : σ[0]? = some (sB (b :: l))) (hl : l.length ≤ 900) (c : Clo σ) : tS8 [.strm 0] σ = some (.val (.int b.toNat), σ.set 0 (sB l)) := by
  have e1 : evS (tab tL8) (.as 1 (.read 10 (.v 0) (.int 1))) [some (.strm 0), none] σ = some (.next, [some (.strm 0), some (.byt #[b])], σ.set 0 (sB l)) := s_as (read_in (k := 1) rfl h (show l.length + 1 ≤ 1000 by omega) (by decide) c rfl rfl)
  exact drop0 (gd_in rfl (s3_in (t := .ret (.int b.toNat)) (m := [some (.strm 0), some (.byt #[b])]) (sl_in e1 (sl_out (s_ift rfl rfl (sl_out (s_ret rfl) rfl)) rfl)) rfl)) List.length_set rfl (clo_s c _)
noncomputable def wb (w : W) : List UInt8 := (wl w).map Nat.toUInt8
noncomputable def cb (w : W) : List UInt8 := (ln w).toUInt8 :: wb w
theorem wb_len : ∀ w : W, (wb w).length = ln w := fun w => List.length_map _
theorem cb_hd : ∀ w : W, (((ln w).toUInt8).toNat : Nat) = ln w := by decide +kernel
theorem dec_w (σ : St) : ∀ w : W, meV .decode (.byt (wb w).toArray) [.str (Str.ofString "latin-1")] σ = some (pW w, σ) := all1 (by kernel_rfl)
theorem str_run {w : W} (h : σ[0]? = some (sB (cb w ++ l))) (hl : l.length ≤ 800) (c : Clo σ) : tS9 [.strm 0] σ = some (.val (pW w), σ.set 0 (sB l)) := by
  have h4 := ln4 w
  have hw := wb_len w
  have k1 : evS (tab tL9) (.callA 1 8 (.cons (.v 0) .nil)) [some (.strm 0), none, none] σ = some (.next, [some (.strm 0), some (.int (ln w)), none], σ.set 0 (sB (wb w ++ l))) :=
    (s_callA (l_cons rfl l_nil) rfl (uint_run (l := wb w ++ l) h (by rw [List.length_append]; omega) c)).trans (by rw [cb_hd]; rfl)
  have hs := get_s h (wb w ++ l)
  have hc := clo_s c (wb w ++ l)
  have k2 : evS (tab tL9) (.asr (.cmp .GtE (.v 1) (.int 0))) [some (.strm 0), some (.int (ln w)), none] (σ.set 0 (sB (wb w ++ l))) = some (.next, [some (.strm 0), some (.int (ln w)), none], σ.set 0 (sB (wb w ++ l))) :=
    s_asr (e_cmp (t := decide ((0 : Int) ≤ (ln w : Int))) rfl rfl rfl) (congrArg some (decide_eq_true (Int.natCast_nonneg _)))
  have k3 : evS (tab tL9) (.as 2 (.read 10 (.v 0) (.v 1))) [some (.strm 0), some (.int (ln w)), none] (σ.set 0 (sB (wb w ++ l))) = some (.next, [some (.strm 0), some (.int (ln w)), some (.byt (wb w).toArray)], σ.set 0 (sB l)) := by
    refine (s_as (read_in (k := ln w) rfl hs (by rw [List.length_append]; omega) (by omega) hc rfl rfl)).trans ?_
    rw [List.set_set, ← hw, List.take_left, List.drop_left]; rfl
  have k4 : ev (tab tL9) (.cmp .Eq (.bi .len (.cons (.v 2) .nil)) (.v 1)) [some (.strm 0), some (.int (ln w)), some (.byt (wb w).toArray)] (σ.set 0 (sB l)) = some (.bool true, σ.set 0 (sB l)) := by
    refine e_cmp (e_bi (l_cons rfl l_nil) (bd_in rfl (ql_r rfl (ql_l (bd_in rfl (gd_in (lim_of (show (wb w).length ≤ 1000 by omega)) rfl)))))) rfl (eq_in rfl ((PD.int _).more (by decide)) ((PD.int _).more (by decide)) ?_)
    show (((wb w).length : Int) == (ln w : Int)) = true
    rw [hw]; exact beq_self_eq_true _
  exact drop0 (gd_in rfl (s3_in (t := .ret (pW w)) (m := [some (.strm 0), some (.int (ln w)), some (.byt (wb w).toArray)]) (sl_in k1 (sl_in k2 (sl_in k3 (sl_out (s_ift k4 rfl (sl_out (s_ret (e_me rfl rfl (l_cons rfl l_nil) (dec_w _ w))) rfl)) rfl)))) rfl)) List.length_set rfl (clo_s c _)
noncomputable def endW : Str := Str.ofString "expected 4 bytes in a string1, but only 2 remain"
theorem str_end (h : σ[0]? = some (sB [4, 97, 98])) (c : Clo σ) : tS9 [.strm 0] σ = some (.exc endW, σ.set 0 (sB [])) := by
  have k1 : evS (tab tL9) (.callA 1 8 (.cons (.v 0) .nil)) [some (.strm 0), none, none] σ = some (.next, [some (.strm 0), some (.int 4), none], σ.set 0 (sB [97, 98])) :=
    (s_callA (l_cons rfl l_nil) rfl (uint_run (l := [97, 98]) h (by decide) c)).trans rfl
  have hs := get_s h [97, 98]
  have hc := clo_s c [97, 98]
  have k3 : evS (tab tL9) (.as 2 (.read 10 (.v 0) (.v 1))) [some (.strm 0), some (.int 4), none] (σ.set 0 (sB [97, 98])) = some (.next, [some (.strm 0), some (.int 4), some (.byt #[97, 98])], σ.set 0 (sB [])) :=
    (s_as (read_in (k := 4) rfl hs (by decide) (by decide) hc rfl rfl)).trans (by rw [List.set_set]; rfl)
  have hd : fnRun (tab tL9) 1 3 tB9 [.strm 0] σ = some (.exc endW, σ.set 0 (sB [])) :=
    gd_in rfl (s3_in (t := .exm endW) (m := [some (.strm 0), some (.int 4), some (.byt #[97, 98])]) (sl_in k1 (sl_in rfl (sl_in k3 (sl_in rfl (sl_out rfl rfl))))) rfl)
  refine sq_in hd (bd_in rfl ?_)
  rw [show (σ.set 0 (sB [])).take σ.length = σ.set 0 (sB []) by rw [← List.length_set (as := σ) (i := 0) (a := sB [])]; exact List.take_length]
  exact gd_in (clo_s c _ _) rfl
end
end Sh
namespace Sh
open PySem PySem.Calls
theorem eq_st (σ : St) : eqV σ (pW 0) (.str (Str.ofString "")) = some true := by kernel_rfl
theorem eq_en (σ : St) : eqV σ (.str endW) (.str (Str.ofString "")) = some false := by kernel_rfl
theorem bl_up (l : Nat) : ((bl l).map fun (k : Nat) => (k : Int)).Pairwise (· ≤ ·) :=
  List.pairwise_map.mpr ((List.Pairwise.filter _ (List.pairwise_lt_range (n := 5))).imp fun h => Int.ofNat_le.mpr (Nat.le_of_lt h))
noncomputable def svT : X := .cmp .Eq (.v 3) (.str (Str.ofString ""))
noncomputable def svN : X := .tup (.cons (.call 15 (.cons (.v 1) (.cons (.v 5) .nil))) (.cons (.bi .sorted (.cons (.comp 2 (.bin .Sub (.int 4) (.v 6)) (.v 1) .nil) .nil)) .nil))
noncomputable def svB : SL := .cons (.tryR (.cons (.callA 5 9 (.cons (.v 0) .nil)) .nil) 3 (.cons (.ex (.me .append (.v 2) (.cons svN .nil))) .nil)) .nil
noncomputable def svU : X := .cmp .NotEq (.v 1) (.list .nil)
noncomputable def svC : SL := .cons (.ex (.me .append (.v 4) (.cons (.idx (.call 1 (.cons (.v 1) .nil)) (.int 1)) .nil))) .nil
theorem tB16_eq : tB16 = .cons (.as 1 (.mlist (.cons (.tup (.cons (.int 4) (.cons (.str (Str.ofString "")) .nil))) .nil))) (.cons (.as 2 (.mlist .nil)) (.cons (.as 3 (.str (Str.ofString ""))) (.cons (.wh svT svB) (.cons (.as 4 (.mlist .nil)) (.cons (.wh svU svC) (.cons (.ret (.tup (.cons (.v 2) (.cons (.v 4) (.cons (.v 3) .nil))))) .nil)))))) := rfl
noncomputable def tailB : List UInt8 := [4, 97, 98]
noncomputable def bytesW (vs : List W) : List UInt8 := vs.flatMap cb ++ tailB
noncomputable def svM (p3 : PV) (o4 o5 : Option PV) : Fm := [some (.strm 0), some (.loc 1), some (.loc 2), some p3, o4, o5]
noncomputable def svS (b : List UInt8) (L : List W) (D : List (Option W × Nat)) : St := [sB b, HA.lst L, .lst (D.map nP)]
theorem cl_nP (k : Nat) (D : List (Option W × Nat)) : clL k (D.map nP) = true := cl_map (f := nP) (fun a k => by
  obtain ⟨o, l⟩ := a
  show (clV k (pO o) && (clL k ((bl l).map fun (k : Nat) => PV.int k) && true)) = true
  rw [cl_map (f := fun (k : Nat) => PV.int k) (fun _ _ => rfl)]
  cases o <;> rfl) k D
theorem cl_sv (b : List UInt8) (L : List W) (D : List (Option W × Nat)) : Clo (svS b L D) := fun n => by
  show (clO n (sB b) && (clO n (HA.lst L) && (clL n (D.map nP) && true))) = true
  rw [show clO n (HA.lst L) = true from cl_map HA.cl n L, cl_nP]; rfl
theorem cl2_sv (b : List UInt8) (D : List (Option W × Nat)) : Cl2 (sB b) (.lst (D.map nP)) := ⟨fun _ => rfl, fun n => cl_nP n D⟩
theorem cb_len (w : W) : (cb w).length ≤ 5 := by show (wb w).length + 1 ≤ 5; rw [wb_len]; have := ln4 w; omega
theorem bytes_len : ∀ vs : List W, (bytesW vs).length ≤ 5 * vs.length + 3
  | [] => Nat.le_refl _
  | v :: r => by
    have := bytes_len r
    have h := cb_len v
    show ((cb v ++ r.flatMap cb) ++ tailB).length ≤ _
    rw [List.append_assoc, List.length_append, List.length_cons]
    show (cb v).length + (bytesW r).length ≤ _
    omega
theorem sv_note {L : List W} {D : List (Option W × Nat)} {b : List UInt8} {a : W} {F : List W} {l : Nat} (g : Good F l) (hp : HA.Hp L) (hL : L.Perm F) :
    ∃ L', ev (tab tL16) svN (svM (pW 0) none (some (pW a))) (svS b L D) = some (nP (outF' F a, nxL l a), svS b L' D) ∧ HA.Hp L' ∧ L'.Perm (nxF F a) := by
  obtain ⟨L', o, h1, h2, h3⟩ := given_run (cl2_sv b D) (v := a) hp (by have := hL.length_eq; have := g.len; omega)
  obtain ⟨e, hp'⟩ := gave_uniq h3 (gave_nx g.nd) hL g.nd
  have g' := good_nx g (gave_nx (v := a) g.nd)
  have hl : L'.length ≤ 5 := by have := hp'.length_eq; have := g'.len; omega
  have c1 : ev (tab tL16) (.comp 2 (.bin .Sub (.int 4) (.v 6)) (.v 1) .nil) (svM (pW 0) none (some (pW a))) (svS b L' D) = some (.lst ((L'.filter fun _ => true).map fun w => .int (4 - (4 - (ln w : Int)))), svS b L' D) :=
    e_comp (g := fA) (val := fun w => .int (4 - (4 - (ln w : Int)))) (full := L') (n := some 1) (keep := fun _ => true) rfl (it_loc (j := 1) rfl) (fun j h => by cases so h; rfl) (by omega) fun w _ => ⟨[some (.int (4 - (ln w : Int))), some (pW w)], rfl, rfl, fun _ => e_bin rfl rfl rfl⟩
  rw [List.filter_eq_self.mpr fun _ _ => rfl] at c1
  have hs : (bl (nxL l a)).map (fun (k : Nat) => (k : Int)) = srtI (L'.map fun w => 4 - (4 - (ln w : Int))) := by
    refine srtI_eq ?_ (bl_up _)
    rw [show (L'.map fun w => 4 - (4 - (ln w : Int))) = (L'.map ln).map fun (k : Nat) => (k : Int) by rw [List.map_map]; exact List.map_congr_left fun w _ => by show 4 - (4 - (ln w : Int)) = (ln w : Int); omega]
    exact (g'.lens.symm.trans (hp'.map ln).symm).map _
  have c2 : biV .sorted [.lst (L'.map fun w => .int (4 - (4 - (ln w : Int))))] (svS b L' D) = some (.lst ((bl (nxL l a)).map fun (k : Nat) => PV.int k)) := by
    refine bd_in rfl (bd_in (a := L'.map fun w => .int (4 - (4 - (ln w : Int)))) rfl (gd_in (decide_eq_true (by rw [List.length_map]; omega)) (ql_l (bd_in (ints_of (fun w : W => 4 - (4 - (ln w : Int))) L') ?_))))
    rw [← hs, List.map_map]; rfl
  refine ⟨L', ?_, h2, hp'⟩
  rw [← e]
  exact sq_in (l_cons (e_call (l_cons rfl (l_cons rfl l_nil)) rfl h1) (l_cons (e_bi (l_cons c1 l_nil) c2) l_nil)) rfl
structure SvI (vs : List W) (r : List W) (F : List W) (l : Nat) (L : List W) (D : List (Option W × Nat)) : Prop where
  g : Good F l
  hp : HA.Hp L
  p : L.Perm F
  len : D.length + r.length ≤ 50
  e1 : D ++ (runW r F l).1 = (runW vs [0] 16).1
  e2 : (runW r F l).2 = (runW vs [0] 16).2
theorem sv_loop {vs : List W} (hv : vs.length ≤ 50) : ∃ m' σ', whGo (tst (tab tL16) svT) (evSL (tab tL16) svB) WH (svM (pW 0) none none) (svS (bytesW vs) [0] []) = some (.next, m', σ') ∧ ∃ F l L D o5, m' = svM (.str endW) none o5 ∧ σ' = svS [] L D ∧ SvI vs [] F l L D := by
  refine wh_in (I := fun k m σ => (∃ r F l L D o5, k = r.length + 1 ∧ m = svM (pW 0) none o5 ∧ σ = svS (bytesW r) L D ∧ SvI vs r F l L D) ∨ (∃ F l L D o5, m = svM (.str endW) none o5 ∧ σ = svS [] L D ∧ SvI vs [] F l L D))
    (fun k m σ I => ?_) WH (vs.length + 1) _ _ (by show vs.length + 1 < 100000; omega) (.inl ⟨vs, [0], 16, [0], [], none, rfl, rfl, rfl, good_0, (fun i h1 h2 => by have : i < 1 := h2; omega), .refl _, by simp; omega, rfl, rfl⟩)
  rcases I with ⟨r, F, l, L, D, o5, hk, hm, hσ, I⟩ | ⟨F, l, L, D, o5, hm, hσ, I⟩
  · subst hm hσ
    have ht : tst (tab tL16) svT (svM (pW 0) none o5) (svS (bytesW r) L D) = some (true, svS (bytesW r) L D) := sq_in (e_cmp rfl rfl (eq_st _)) rfl
    cases r with
    | nil =>
      have h1 : evSL (tab tL16) svB (svM (pW 0) none o5) (svS (bytesW []) L D) = some (.next, svM (.str endW) none o5, svS [] L D) :=
        sl_in (s3_in (t := .exc endW) (sl_out (s_callA (o := .exc endW) (l_cons rfl l_nil) rfl (str_end (σ := svS (bytesW []) L D) rfl (cl_sv _ _ _))) rfl) rfl) rfl
      exact .go ht h1 (.inl rfl) (k' := 0) (by rw [hk]; exact Nat.succ_pos _) (.inr ⟨F, l, L, D, o5, rfl, rfl, I⟩)
    | cons a r =>
      have hl : (bytesW r).length ≤ 800 := by have := bytes_len r; have := I.len; simp at this; omega
      obtain ⟨L', n1, n2, n3⟩ := sv_note (b := bytesW r) (D := D) (a := a) I.g I.hp I.p
      have h0 : tS9 [.strm 0] (svS (bytesW (a :: r)) L D) = some (.val (pW a), svS (bytesW r) L D) := str_run (w := a) (l := bytesW r) (σ := svS (bytesW (a :: r)) L D) (by show some (sB ((cb a ++ r.flatMap cb) ++ tailB)) = _; rw [List.append_assoc]; rfl) hl (cl_sv _ _ _)
      have h1 : evSL (tab tL16) svB (svM (pW 0) none o5) (svS (bytesW (a :: r)) L D) = some (.next, svM (pW 0) none (some (pW a)), svS (bytesW r) L' (D ++ [(outF' F a, nxL l a)])) := by
        refine sl_in (s3_in (t := .next) (m := svM (pW 0) none (some (pW a))) (σ := svS (bytesW r) L D) (sl_in (s_callA (o := .val (pW a)) (l_cons rfl l_nil) rfl h0) rfl) (sl_in (s_ex (e_me rfl (app_ok (n := 2) (l := D.map nP) rfl) (l_cons n1 l_nil) (app_loc (n := 2) (l := D.map nP) rfl (by rw [List.length_map]; have := I.len; omega)))) ?_)) rfl
        show some (SR.next, svM (pW 0) none (some (pW a)), [sB (bytesW r), HA.lst L', .lst (D.map nP ++ [nP (outF' F a, nxL l a)])]) = _
        unfold svS; rw [List.map_append]; rfl
      refine .go ht h1 (.inl rfl) (k' := r.length + 1) (by rw [hk]; exact Nat.lt_succ_self _) (.inl ⟨r, nxF F a, nxL l a, L', D ++ [(outF' F a, nxL l a)], some (pW a), rfl, rfl, rfl, good_nx I.g (gave_nx I.g.nd), n2, n3, ?_, ?_, I.e2⟩)
      · have := I.len; simp at this ⊢; omega
      · rw [← I.e1, List.append_assoc]; rfl
  · subst hm hσ
    exact .stop (σ' := svS [] L D) (sq_in (e_cmp rfl rfl (eq_en _)) rfl) ⟨F, l, L, D, o5, rfl, rfl, I⟩
end Sh
namespace Sh
open PySem PySem.Calls
section
variable {D : List (Option W × Nat)} {F : List W} {o5 : Option PV}
noncomputable def svX (L X : List W) (D : List (Option W × Nat)) : St := [sB [], HA.lst L, .lst (D.map nP), .lst (X.map pW)]
theorem cl_words (k : Nat) (X : List W) : clL k (X.map pW) = true := cl_map (f := pW) (fun _ _ => rfl) k X
theorem cl_svX (L X : List W) (D : List (Option W × Nat)) : Clo (svX L X D) := fun n => by
  show (clO n (HA.lst L) && (clL n (D.map nP) && (clL n (X.map pW) && true))) = true
  rw [show clO n (HA.lst L) = true from cl_map HA.cl n L, cl_nP, cl_words]; rfl
structure SvJ (F L X : List W) : Prop where
  hp : HA.Hp L
  p : (X ++ L).Perm F
  up : X.Pairwise fun a b => kA a ≤ kA b
  le : ∀ x ∈ X, ∀ y ∈ L, kA x ≤ kA y
theorem sv_pops (hF : F.length ≤ 50) {L : List W} (J : SvJ F L []) : ∃ m' σ', whGo (tst (tab tL16) svU) (evSL (tab tL16) svC) WH (svM (.str endW) (some (.loc 3)) o5) (svX L [] D) = some (.next, m', σ') ∧ m' = svM (.str endW) (some (.loc 3)) o5 ∧ ∃ X : List W, σ' = svX [] X D ∧ SvJ F [] X := by
  refine wh_in (Q := fun m' σ' => m' = svM (.str endW) (some (.loc 3)) o5 ∧ ∃ X : List W, σ' = svX [] X D ∧ SvJ F [] X) (I := fun k m σ => ∃ L X : List W, k = L.length ∧ m = svM (.str endW) (some (.loc 3)) o5 ∧ σ = svX L X D ∧ SvJ F L X) (fun k m σ ⟨L, X, hk, hm, hσ, J⟩ => ?_) WH L.length _ _
    (by have := J.p.length_eq; simp at this; show L.length < 100000; omega) ⟨L, [], rfl, rfl, rfl, J⟩
  subst hm hσ
  have hl := J.p.length_eq
  rw [List.length_append] at hl
  have hne : tst (tab tL16) svU (svM (.str endW) (some (.loc 3)) o5) (svX L X D) = some (!L.isEmpty, svX L X D) := sq_in (e_cmp rfl rfl (ne_nil (n := 1) rfl fun a _ => (PD.fA a).more (by decide))) rfl
  cases L with
  | nil => exact .stop hne ⟨rfl, X, rfl, J⟩
  | cons r t =>
    obtain ⟨x, L', h1, h2, h3, h4⟩ := pop_run (H := HA) (σ := svX (r :: t) X D) (n := 1) (L := r :: t) rfl (by omega) J.hp (fun e => nomatch e) (cl_svX _ _ _)
    refine .go (r := .next) hne (sl_in (s_ex (e_me (x := .v 4) rfl (app_ok (n := 3) (l := X.map pW) rfl) (l_cons (e_idx (p := fA x) (r := pW x) (e_call (l_cons rfl l_nil) rfl h1) rfl rfl) l_nil) (app_loc (n := 3) (l := X.map pW) rfl (by rw [List.length_map]; omega)))) rfl) (.inl rfl) (k' := L'.length)
      (by have := h2.length_eq; rw [hk, ← this]; exact Nat.lt_succ_self _) ⟨L', X ++ [x], rfl, rfl, ?_, h3, ?_, ?_, ?_⟩
    · show [sB [], HA.lst L', .lst (D.map nP), .lst (X.map pW ++ [pW x])] = _
      unfold svX; rw [List.map_append]; rfl
    · rw [List.append_assoc]; exact (h2.append_left X).trans J.p
    · refine List.pairwise_append.mpr ⟨J.up, List.pairwise_singleton _ _, fun a ha b hb => ?_⟩
      rw [List.mem_singleton.mp hb]; exact J.le a ha x (h2.subset (.head _))
    · intro a ha y hy
      have hy' : y ∈ r :: t := h2.subset (.tail _ hy)
      rcases List.mem_append.mp ha with q | q
      · exact J.le a q y hy'
      · rw [List.mem_singleton.mp q]; exact h4 y hy'
theorem sv_run {vs : List W} (hv : vs.length ≤ 50) : ∃ X : List W, tS16 [.strm 0] [sB (bytesW vs)] = some (.val (.tup [.lst ((runW vs [0] 16).1.map nP), .lst (X.map pW), .str endW]), [sB []]) ∧ X.Perm (runW vs [0] 16).2.1 ∧ X.Pairwise fun a b => kA a ≤ kA b := by
  obtain ⟨m', σ', h1, F, l, L, D, o5, hm, hσ, I⟩ := sv_loop hv
  subst hm hσ
  have e1 : D = (runW vs [0] 16).1 := by rw [← I.e1]; show D = D ++ []; rw [List.append_nil]
  have e2 : F = (runW vs [0] 16).2.1 := congrArg Prod.fst I.e2
  have hF : F.length ≤ 5 := I.g.len
  obtain ⟨m2, σ2, h2, hm2, X, hσ2, J⟩ := sv_pops (D := D) (o5 := o5) (F := F) (by omega) (L := L) ⟨I.hp, I.p, .nil, fun x h => (nomatch h)⟩
  subst hm2 hσ2
  have hX := J.p
  rw [List.append_nil] at hX
  rw [← e1, ← e2]
  refine ⟨X, ?_, hX, J.up⟩
  have hD : D.length ≤ 50 := I.len
  have b1 : evS (tab tL16) (.as 1 (.mlist (.cons (.tup (.cons (.int 4) (.cons (.str (Str.ofString "")) .nil))) .nil))) [some (.strm 0), none, none, none, none, none] [sB (bytesW vs)] = some (.next, [some (.strm 0), some (.loc 1), none, none, none, none], [sB (bytesW vs), HA.lst [0]]) := by
    show some (SR.next, _, [sB (bytesW vs), .lst [.tup [.int 4, .str (Str.ofString "")]]]) = _
    rw [w0_eq]; rfl
  have b3 : evS (tab tL16) (.as 3 (.str (Str.ofString ""))) [some (.strm 0), some (.loc 1), some (.loc 2), none, none, none] (svS (bytesW vs) [0] []) = some (.next, svM (pW 0) none none, svS (bytesW vs) [0] []) := by
    show some (SR.next, svM (.str (Str.ofString "")) none none, _) = _
    rw [w0_eq]
  refine drop_in (σ' := [sB []]) (e := [HA.lst [], .lst (D.map nP), .lst (X.map pW)]) (p := .tup [.loc 2, .loc 3, .str endW]) (gd_in rfl (s3_in (t := .ret (.tup [.loc 2, .loc 3, .str endW])) (m := svM (.str endW) (some (.loc 3)) o5) (σ := svX [] X D) ?_ rfl)) rfl ?_ (fun n => rfl)
  · show evSL _ tB16 _ _ = _
    rw [tB16_eq]
    exact sl_in b1 (sl_in rfl (sl_in b3 (sl_in h1 (sl_in rfl (sl_in h2 (sl_out (s_ret rfl) rfl))))))
  · exact fzt_to (fzl_to (K := 600) (fun k hk => fz_loc (K := 500) (show 1 ≤ 2 by decide) rfl ((fzl_map fun a _ => fz_nP a).more (by omega)) (by omega)) (up_to (by decide) (fzl_to (K := 500) (fun k hk => fz_loc (K := 200) (show 1 ≤ 3 by decide) rfl ((fz_words X).more (by have := hX.length_eq; omega)) (by omega))
      ((fzl_cons ((fz_str endW).more (K' := 2) (by decide)) (fzl_nil.more (by decide))).more (by decide) 1 _)))) 100000 (by decide)
end
end Sh
namespace Sh
open PySem PySem.Calls
/- a word dressed, translated, read back -/
noncomputable def dl (w : W) (i j : Nat) : List Nat := if ln w = 0 then [42] else
  (wl w).take i ++ ((if j = 0 then [91, (wl w).getD i 0, 93] else [91, 33, 195 - (wl w).getD i 0, 93]) ++ ((wl w).drop (i + 1) ++ [42]))
noncomputable def dS (w : W) (i j : Nat) : Str := ⟨(dl w i j).toArray⟩
noncomputable def turnI (w : W) (k : Nat) : Nat := if ln w = 0 then 0 else k % ln w
noncomputable def wk : List (W × Nat) := allW.flatMap fun w => (List.range 17).map fun k => (w, k)
theorem mem_wk {w : W} {k : Nat} (h : k < 17) : (w, k) ∈ wk := List.mem_flatMap.mpr ⟨w, mem_allW w, List.mem_map.mpr ⟨k, List.mem_range.mpr h, rfl⟩⟩
theorem dr_x (σ : St) {w : W} {k : Nat} (h : k < 17) : fnRun (tab tL18) 2 4 tB18 [pW w, .int k] σ = some (.val (.str (dS w (turnI w k) (k / 2 % 2))), σ) :=
  List.map_inj_left.mp (show wk.map (fun x => fnRun (tab tL18) 2 4 tB18 [pW x.1, .int x.2] σ) = wk.map (fun x => some (.val (.str (dS x.1 (turnI x.1 x.2) (x.2 / 2 % 2))), σ)) by kernel_rfl) (w, k) (mem_wk h)
noncomputable def tsW (w : W) : List PV := (wl w).map fun c => .str ⟨#[c]⟩
noncomputable def combos : List (W × Nat × Nat) := allW.flatMap fun w => (List.range (max 1 (ln w))).flatMap fun i => [(w, i, 0), (w, i, 1)]
theorem turn_lt (w : W) (k : Nat) : turnI w k < max 1 (ln w) := by
  unfold turnI
  by_cases h : ln w = 0
  · rw [if_pos h, h]; decide
  · rw [if_neg h]; exact Nat.lt_of_lt_of_le (Nat.mod_lt _ (Nat.pos_of_ne_zero h)) (Nat.le_max_right _ _)
theorem mem_combos (w : W) (k : Nat) : (w, turnI w k, k / 2 % 2) ∈ combos := List.mem_flatMap.mpr ⟨w, mem_allW w, List.mem_flatMap.mpr ⟨turnI w k, List.mem_range.mpr (turn_lt w k), by
  rcases Nat.mod_two_eq_zero_or_one (k / 2) with e | e <;> rw [e]
  · exact .head _
  · exact .tail _ (.head _)⟩⟩
noncomputable def pipe (p : PV) (σ : St) : Option (Out × St) := sq (tS4 [p] σ) fun o σ => bd (outV o) fun q => tS19 [q] σ
noncomputable def lfW (i : Nat) : PV := pW (wOf [97 + i / 8, 97 + i / 4 % 2, 97 + i / 2 % 2, 97 + i % 2])
noncomputable def wi : List (W × Nat) := allW.flatMap fun w => (List.range 16).map fun i => (w, i)
theorem mem_wi {w : W} {i : Nat} (h : i < 16) : (w, i) ∈ wi := List.mem_flatMap.mpr ⟨w, mem_allW w, List.mem_map.mpr ⟨i, List.mem_range.mpr h, rfl⟩⟩
theorem takes_x {w : W} {i : Nat} (h : i < 16) : tS20 [.lst (tsW w), lfW i] [sB []] = some (.val (.bool (decide (i ∈ lvs w))), [sB []]) :=
  List.map_inj_left.mp (show wi.map (fun x => tS20 [.lst (tsW x.1), lfW x.2] [sB []]) = wi.map (fun x => some (.val (.bool (decide (x.2 ∈ lvs x.1))), [sB []])) by kernel_rfl) (w, i) (mem_wi h)
end Sh
namespace Sh
open PySem PySem.Calls
noncomputable def pF (x : W × Nat × Nat) : Option (Out × St) := pipe (.str (dS x.1 x.2.1 x.2.2)) [sB []]
noncomputable def pG (x : W × Nat × Nat) : Option (Out × St) := some (.val (.lst (tsW x.1)), [sB []])
theorem part {α β : Type} {f g : α → β} {l : List α} (k n m : Nat) (hm : k + n = m) (h1 : ((l.drop k).take n).map f = ((l.drop k).take n).map g) (h2 : (l.drop m).map f = (l.drop m).map g) : (l.drop k).map f = (l.drop k).map g := by
  subst hm
  rw [← List.take_append_drop n (l.drop k), List.map_append, List.map_append, h1, List.drop_drop, h2]
theorem pipe_0 : ((combos.drop 0).take 18).map pF = ((combos.drop 0).take 18).map pG := by kernel_rfl
theorem pipe_1 : ((combos.drop 18).take 18).map pF = ((combos.drop 18).take 18).map pG := by kernel_rfl
theorem pipe_2 : ((combos.drop 36).take 18).map pF = ((combos.drop 36).take 18).map pG := by kernel_rfl
theorem pipe_3 : ((combos.drop 54).take 18).map pF = ((combos.drop 54).take 18).map pG := by kernel_rfl
theorem pipe_4 : ((combos.drop 72).take 18).map pF = ((combos.drop 72).take 18).map pG := by kernel_rfl
theorem pipe_5 : ((combos.drop 90).take 18).map pF = ((combos.drop 90).take 18).map pG := by kernel_rfl
theorem pipe_6 : ((combos.drop 108).take 18).map pF = ((combos.drop 108).take 18).map pG := by kernel_rfl
theorem pipe_7 : ((combos.drop 126).take 18).map pF = ((combos.drop 126).take 18).map pG := by kernel_rfl
theorem pipe_8 : ((combos.drop 144).take 18).map pF = ((combos.drop 144).take 18).map pG := by kernel_rfl
theorem pipe_9 : ((combos.drop 162).take 18).map pF = ((combos.drop 162).take 18).map pG := by kernel_rfl
theorem pipe_10 : ((combos.drop 180).take 18).map pF = ((combos.drop 180).take 18).map pG := by kernel_rfl
theorem pipe_x {w : W} {i j : Nat} (h : (w, i, j) ∈ combos) : pipe (.str (dS w i j)) [sB []] = some (.val (.lst (tsW w)), [sB []]) :=
  List.map_inj_left.mp (show combos.map pF = combos.map pG from (part 0 18 18 rfl pipe_0 (part 18 18 36 rfl pipe_1 (part 36 18 54 rfl pipe_2 (part 54 18 72 rfl pipe_3 (part 72 18 90 rfl pipe_4 (part 90 18 108 rfl pipe_5 (part 108 18 126 rfl pipe_6 (part 126 18 144 rfl pipe_7 (part 144 18 162 rfl pipe_8 (part 162 18 180 rfl pipe_9 (part 180 18 198 rfl pipe_10 (show (combos.drop 198).map pF = (combos.drop 198).map pG by kernel_rfl))))))))))))) (w, i, j) h
end Sh
namespace Sh
open PySem PySem.Calls
/- the wishes -/
noncomputable def szs : List Nat := [4, 3, 2, 4, 3, 1, 4, 0]
theorem szs_x (σ : St) {r : Nat} (h : r < 8) : idxV σ (.lst [.int 4, .int 3, .int 2, .int 4, .int 3, .int 1, .int 4, .int 0]) (.int (r : Int)) = some (.int (szs.getD r 0 : Nat)) :=
  List.map_inj_left.mp (show (List.range 8).map (fun (r : Nat) => idxV σ (.lst [.int 4, .int 3, .int 2, .int 4, .int 3, .int 1, .int 4, .int 0]) (.int (r : Int))) = (List.range 8).map (fun r => some (.int (szs.getD r 0 : Nat))) by kernel_rfl) r (List.mem_range.mpr h)
theorem szs_le : ∀ r < 8, szs.getD r 0 ≤ 4 := by decide +kernel
noncomputable def bitY (y : Int) (k : Nat) : Int := ((y.fdiv 8).fdiv (2 ^ k)).fmod 2
theorem bit01 (y : Int) (k : Nat) : bitY y k = 0 ∨ bitY y k = 1 := by unfold bitY; rw [Int.fmod_eq_emod_of_nonneg _ (by decide)]; omega
noncomputable def wiE : X := .idx (.str (Str.ofString "ab")) (.bin .Mod (.bin .FloorDiv (.bin .FloorDiv (.v 0) (.int 8)) (.bin .Pow (.int 2) (.v 2))) (.int 2))
theorem bit_x {y : Int} {p : PV} {k : Nat} (hk : k < 4) : ev (tab tL13) wiE [some (.int y), some p, some (.int k)] [] = some (.str ⟨#[97 + (bitY y k).toNat]⟩, []) := by
  have h : ev (tab tL13) wiE [some (.int y), some p, some (.int k)] [] = vl (idxV [] (.str (Str.ofString "ab")) (.int (bitY y k))) [] := by
    match k, hk with
    | 0, _ => rfl
    | 1, _ => rfl
    | 2, _ => rfl
    | 3, _ => rfl
  rw [h]
  rcases bit01 y k with e | e <;> rw [e] <;> rfl
theorem rng_x (σ : St) {n : Nat} (h : n < 1000) : iterV σ (.rng 0 (n : Int) 1) = some ((List.range n).map fun (k : Nat) => .int (k : Int), none) := by
  have h1 : Builtin.Range.rangeSize 0 (n : Int) 1 = (n : Int) := by
    unfold Builtin.Range.rangeSize
    rw [if_pos (by decide)]
    by_cases q : (0 : Int) < (n : Int)
    · rw [if_pos q, Int.ediv_one]; omega
    · rw [if_neg q]; omega
  have h2 : Builtin.Range.small 0 (n : Int) 1 = true := by
    unfold Builtin.Range.small
    rw [h1, if_pos (by decide)]
    unfold Builtin.Range.rangeFitsLong
    simp
    omega
  refine gd_in (Bool.and_eq_true_iff.mpr ⟨h2, decide_eq_true (by rw [h1]; show (n : Int) ≤ 100000; omega)⟩) ?_
  unfold rngL
  rw [h1]
  refine congrArg (fun l => some (l, none)) (List.map_congr_left fun k _ => ?_)
  show PV.int (0 + (k : Int) * 1) = _
  rw [Int.zero_add, Int.mul_one]
noncomputable def lt4 (a b c d : Nat) (s : Nat) : List PV := ([a, b, c, d].map fun x => PV.str ⟨#[97 + x]⟩).take s
theorem join_x : ∀ x ∈ (List.range 16).flatMap (fun b => (List.range 5).map fun s => (b, s)), meV .join (.str (Str.ofString "")) [.lst (lt4 (x.1 % 2) (x.1 / 2 % 2) (x.1 / 4 % 2) (x.1 / 8) x.2)] [] = some (pW (wOf (([x.1 % 2, x.1 / 2 % 2, x.1 / 4 % 2, x.1 / 8].map fun x => 97 + x).take x.2)), []) :=
  List.map_inj_left.mp (by kernel_rfl)
theorem rng4 (f : Nat → PV) {s : Nat} (h : s ≤ 4) : (List.range s).map f = [f 0, f 1, f 2, f 3].take s := by
  rcases (show s = 0 ∨ s = 1 ∨ s = 2 ∨ s = 3 ∨ s = 4 by omega) with e | e | e | e | e <;> rw [e] <;> rfl
theorem wish_run (y : Int) : ∃ w, tS13 [.int y] [] = some (.val (pW w), []) := by
  have hm : y.fmod 8 = y % 8 := Int.fmod_eq_emod_of_nonneg _ (by decide)
  obtain ⟨r, hr⟩ : ∃ r : Nat, y.fmod 8 = (r : Int) := ⟨(y.fmod 8).toNat, (Int.toNat_of_nonneg (by omega)).symm⟩
  have hr8 : r < 8 := by omega
  have hs := szs_le r hr8
  generalize hsz : szs.getD r 0 = s at hs
  have e1 : evS (tab tL13) (.as 1 (.idx (.list (.cons (.int 4) (.cons (.int 3) (.cons (.int 2) (.cons (.int 4) (.cons (.int 3) (.cons (.int 1) (.cons (.int 4) (.cons (.int 0) .nil))))))))) (.bin .Mod (.v 0) (.int 8)))) [some (.int y), none] [] = some (.next, [some (.int y), some (.int (s : Nat))], []) :=
    s_as (e_idx rfl (q := .int (r : Int)) (by show some (PV.int (y.fmod 8), ([] : St)) = _; rw [hr]) (by rw [szs_x _ hr8, hsz]))
  have e2 : ev (tab tL13) (.comp 1 wiE (.bi .range (.cons (.v 1) .nil)) .nil) [some (.int y), some (.int (s : Nat))] [] = some (.lst (((List.range s).filter fun _ => true).map fun k => .str ⟨#[97 + (bitY y k).toNat]⟩), []) :=
    e_comp (g := fun (k : Nat) => .int (k : Int)) (val := fun k => .str ⟨#[97 + (bitY y k).toNat]⟩) (full := List.range s) (n := none) (keep := fun _ => true) (p := .rng 0 (s : Int) 1) rfl (rng_x _ (by omega)) (fun j h => nn h) (by rw [List.length_range]; omega) fun k hk => ⟨[some (.int (k : Int))], rfl, rfl, fun _ => bit_x (by have := List.mem_range.mp hk; omega)⟩
  rw [List.filter_eq_self.mpr fun _ _ => rfl] at e2
  obtain ⟨b, hb, e3⟩ : ∃ b < 16, ((List.range s).map fun k => PV.str ⟨#[97 + (bitY y k).toNat]⟩) = lt4 (b % 2) (b / 2 % 2) (b / 4 % 2) (b / 8) s := by
    refine ⟨(bitY y 0).toNat + 2 * (bitY y 1).toNat + 4 * (bitY y 2).toNat + 8 * (bitY y 3).toNat, ?_, ?_⟩
    · rcases bit01 y 0 with a | a <;> rcases bit01 y 1 with b | b <;> rcases bit01 y 2 with c | c <;> rcases bit01 y 3 with d | d <;> rw [a, b, c, d] <;> decide
    · have : ((List.range s).map fun k => PV.str ⟨#[97 + (bitY y k).toNat]⟩) = lt4 (bitY y 0).toNat (bitY y 1).toNat (bitY y 2).toNat (bitY y 3).toNat s := rng4 (fun k => PV.str ⟨#[97 + (bitY y k).toNat]⟩) hs
      rw [this]
      rcases bit01 y 0 with a | a <;> rcases bit01 y 1 with b | b <;> rcases bit01 y 2 with c | c <;> rcases bit01 y 3 with d | d <;> rw [a, b, c, d] <;> rfl
  rw [e3] at e2
  have e4 := join_x (b, s) (List.mem_flatMap.mpr ⟨b, List.mem_range.mpr hb, List.mem_map.mpr ⟨s, List.mem_range.mpr (by omega), rfl⟩⟩)
  refine ⟨_, drop0 (gd_in rfl (s3_in (t := .ret _) (m := [some (.int y), some (.int (s : Nat))]) (sl_in e1 (sl_out (s_ret (e_me rfl rfl (l_cons e2 l_nil) e4)) rfl)) rfl)) rfl rfl fun n => rfl⟩
noncomputable def wishW (y : Int) : W := (wish_run y).choose
theorem wish_x (y : Int) : tS13 [.int y] [] = some (.val (pW (wishW y)), []) := (wish_run y).choose_spec
theorem cnt_x : ∀ w : W, tS12 [pW w] [] = some (.val (.byt (cb w).toArray), []) := all1 (by kernel_rfl)
end Sh
namespace Sh
open PySem PySem.Calls
/- words and their places on a heap -/
abbrev WK := W × Fin 32
noncomputable def fB (x : WK) : PV := .tup [pW x.1, .int (x.2.val : Int)]
noncomputable def kB (x : WK) : Nat := x.1.val * 32 + x.2.val
theorem eqS : ∀ a b : W, (ws a == ws b) = decide (a = b) := by decide +kernel
theorem ltS : ∀ a b : W, decide ((ws a).cps.toList < (ws b).cps.toList) = decide (a.val < b.val) := by decide +kernel
theorem lt_fB (a b : WK) : ltV (fB a) (fB b) = some (decide (kB a < kB b)) := by
  have ha := a.2.isLt
  have hb := b.2.isLt
  have e : bd (eqA (pW a.1) (pW b.1)) (fun t => cond t (bd (eqA (.int (a.2.val : Int)) (.int (b.2.val : Int))) fun t => cond t (some false) (ltA (.int (a.2.val : Int)) (.int (b.2.val : Int)))) (ltA (pW a.1) (pW b.1))) = some (decide (kB a < kB b)) := by
    by_cases h : a.1 = b.1
    · refine bd_in (a := true) (congrArg some ((eqS _ _).trans (decide_eq_true h))) ?_
      by_cases q : a.2.val = b.2.val
      · refine bd_in (a := true) (congrArg some (by rw [q]; exact beq_self_eq_true _)) ?_
        show some false = _
        rw [decide_eq_false]; unfold kB; rw [h, q]; omega
      · refine bd_in (a := false) (congrArg some (beq_false_of_ne fun z => q (Int.ofNat_inj.mp z))) ?_
        show some (decide ((a.2.val : Int) < (b.2.val : Int))) = _
        unfold kB; rw [h]
        exact congrArg some (decide_eq_decide.mpr (by omega))
    · refine bd_in (a := false) (congrArg some ((eqS _ _).trans (decide_eq_false h))) ?_
      show some (decide ((ws a.1).cps.toList < (ws b.1).cps.toList)) = _
      rw [ltS]
      have hv : a.1.val ≠ b.1.val := fun q => h (Fin.ext q)
      unfold kB
      exact congrArg some (decide_eq_decide.mpr (by omega))
  exact ql_l (bd_in rfl (bd_in rfl (bd_in rfl (bd_in rfl e))))
noncomputable def HB : HQ WK := ⟨fB, kB, lt_fB, fun _ _ => rfl, fun a n σ => fz_tup (fzl_cons ((fz_str (ws a.1)).more (K' := 2) (by decide)) (fzl_cons (fz_int (a.2.val : Int)) fzl_nil)) n σ 100000 (by decide)⟩
/- what is given and what is left: all words of four letters, each once -/
noncomputable def given (N : List (Option W × Nat)) : List W := N.filterMap (·.1)
theorem gave_lvs {v : W} {F F' : List W} {o : Option W} (h : Gave v F F' o) : (F.flatMap lvs).Perm (o.toList.flatMap lvs ++ F'.flatMap lvs) := by
  cases h with
  | no _ p => exact (p.symm.flatMap_right lvs)
  | @yes u R p q h t =>
    refine (p.flatMap_right lvs).trans ?_
    show ((lvs u) ++ R.flatMap lvs).Perm _
    refine ((hv_lvs h).append_right _).trans ?_
    show ((lvs (gv u v) ++ (hv u v).flatMap lvs) ++ R.flatMap lvs).Perm (([gv u v].flatMap lvs) ++ F'.flatMap lvs)
    rw [List.append_assoc, List.flatMap_singleton]
    refine List.Perm.append_left _ ?_
    refine List.perm_append_comm.trans ?_
    rw [← List.flatMap_append]
    exact (q.symm.flatMap_right lvs)
theorem run_lvs : ∀ {vs F : List W} {l : Nat}, Good F l → (F.flatMap lvs).Perm ((given (runW vs F l).1).flatMap lvs ++ (runW vs F l).2.1.flatMap lvs)
  | [], F, l, g => .refl _
  | v :: r, F, l, g => by
    have h := gave_nx (v := v) g.nd
    have ih := run_lvs (vs := r) (good_nx g h)
    refine (gave_lvs h).trans ((ih.append_left _).trans (.of_eq ?_))
    rw [← List.append_assoc, ← List.flatMap_append]
    congr 2
    show (outF' F v).toList ++ given (runW r (nxF F v) (nxL l v)).1 = given ((outF' F v, nxL l v) :: (runW r (nxF F v) (nxL l v)).1)
    unfold given
    rw [List.filterMap_cons]
    cases outF' F v <;> rfl
theorem run_len : ∀ {vs F : List W} {l : Nat}, (runW vs F l).1.length = vs.length
  | [], _, _ => rfl
  | v :: r, F, l => congrArg (· + 1) (run_len (vs := r))
theorem lvs_0 : [(0 : W)].flatMap lvs = List.range 16 := by decide +kernel
theorem lvs_lt : ∀ u v : W, u.val ≤ v.val → (∃ x ∈ lvs u, x ∈ lvs v) ∨ ∀ x ∈ lvs u, ∀ y ∈ lvs v, x < y := by decide +kernel
theorem lvs_up : ∀ u : W, (lvs u).Pairwise (· < ·) := by decide +kernel
theorem lvs_16 : ∀ u : W, (List.range 16).filter (fun i => decide (i ∈ lvs u)) = lvs u := by decide +kernel
theorem lvs_len : ∀ u : W, (lvs u).length = 2 ^ (4 - ln u) := fun u => List.length_range'
theorem order_16 {P : List W} (h : (P.flatMap lvs).Perm (List.range 16)) (hs : P.Pairwise fun a b => a.val ≤ b.val) : P.flatMap lvs = List.range 16 := by
  have nd : (P.flatMap lvs).Nodup := h.nodup_iff.mpr List.nodup_range
  refine List.Perm.eq_of_pairwise (le := fun a b => a < b) (fun a b _ _ x y => absurd x (Nat.lt_asymm y)) ?_ List.pairwise_lt_range h
  rw [List.pairwise_flatMap]
  refine ⟨fun u _ => lvs_up u, ?_⟩
  have := (List.pairwise_flatMap.mp nd).2
  exact (hs.and this).imp fun {a b} q => (lvs_lt a b q.1).elim (fun ⟨x, h1, h2⟩ => absurd rfl (q.2 x h1 x h2)) id
/- the free words, the longest first -/
theorem lens_down {X : List W} {l : Nat} (g : Good X l) (hs : X.Pairwise fun a b => kA a ≤ kA b) : X.map ln = (bl l).reverse := by
  refine List.Perm.eq_of_pairwise (le := fun a b => b ≤ a) (fun a b _ _ x y => Nat.le_antisymm y x) ?_ ?_ (g.lens.trans (List.reverse_perm _).symm)
  · exact List.pairwise_map.mpr (hs.imp fun h => ke_ln h)
  · exact List.pairwise_reverse.mpr ((List.Pairwise.filter _ (List.pairwise_lt_range (n := 5))).imp fun h => Nat.le_of_lt h)
end Sh
namespace Sh
open PySem PySem.Calls
/- the law's own frame -/
noncomputable def lM (a0 a1 a2 a3 a4 a5 a6 a7 a8 a9 a10 a11 a12 a13 a14 a15 : Option PV) : Fm := [a0, a1, a2, a3, a4, a5, a6, a7, a8, a9, a10, a11, a12, a13, a14, a15]
theorem s_asT {Φ : Nat → Option Spec} {is : List Nat} {x : X} {m m' : Fm} {σ σ₁ : St} {p : PV} (h : ev Φ x m σ = some (p, σ₁)) (h2 : bindsT is p m = some m') : evS Φ (.asT is x) m σ = some (.next, m', σ₁) := sq_in h (bd_in h2 rfl)
theorem slc_l {σ : St} {l : List PV} {lo hi : Option PV} {a b : Option Int} (h1 : parV lo = some a) (h2 : parV hi = some b) (hl : l.length ≤ 1000) : slcV σ (.lst l) lo hi = some (.lst (slL l a b)) :=
  bd_in h1 (bd_in h2 (ql_r rfl (ql_r rfl (bd_in (a := l) rfl (gd_in (lim_of hl) rfl)))))
noncomputable def wE : List W := [wOf [97, 98], wOf [98], wOf [97], wOf [98, 98, 98]]
theorem wE_eq : ([.str (Str.ofString "ab"), .str (Str.ofString "b"), .str (Str.ofString "a"), .str (Str.ofString "bbb")] : List PV) = wE.map pW := by kernel_rfl
noncomputable def vsOf (l : List Int) : List W := (l.take 8).map (fun x => wishW (x.fmod 1000000)) ++ wE
theorem vs_len (l : List Int) : (vsOf l).length ≤ 12 := by
  unfold vsOf
  rw [List.length_append, List.length_map, List.length_take]
  show min 8 l.length + 4 ≤ 12
  omega
noncomputable def lwA : X := .bin .Add (.comp 1 (.call 13 (.cons (.bin .Mod (.v 16) (.bin .Pow (.int 10) (.int 6))) .nil)) (.slc (.v 0) .no (.yes (.int 8))) .nil) (.list (.cons (.str (Str.ofString "ab")) (.cons (.str (Str.ofString "b")) (.cons (.str (Str.ofString "a")) (.cons (.str (Str.ofString "bbb")) .nil)))))
theorem lw_1 {l : List Int} (hl : l.length ≤ 63) : ev (tab tL21) lwA (lM (some (.lst (l.map .int))) none none none none none none none none none none none none none none none) [] = some (.lst ((vsOf l).map pW), []) := by
  have h0 : slcV [] (.lst (l.map PV.int)) none (some (.int 8)) = some (.lst ((l.take 8).map PV.int)) := (slc_l (a := none) (b := some ((8 : Nat) : Int)) rfl (par_nat (by decide)) (by rw [List.length_map]; omega)).trans (by rw [slL_take, List.map_take])
  have h1 := e_comp (Φ := tab tL21) (ar := 1) (elt := .call 13 (.cons (.bin .Mod (.v 16) (.bin .Pow (.int 10) (.int 6))) .nil)) (it := .slc (.v 0) .no (.yes (.int 8))) (ifs := .nil) (m := lM (some (.lst (l.map .int))) none none none none none none none none none none none none none none none) (σ := [])
    (g := PV.int) (val := fun x => pW (wishW (x.fmod 1000000))) (full := l.take 8) (n := none) (keep := fun _ => true) (sq_in rfl (sq_in rfl (sq_in rfl (vl_in h0)))) it_lst (fun j h => nn h) (by rw [List.length_take]; omega)
    fun x _ => ⟨[some (.int x)], rfl, rfl, fun _ => e_call (l_cons (e_bin rfl (e_bin rfl rfl rfl) rfl) l_nil) rfl (wish_x (x.fmod 1000000))⟩
  rw [List.filter_eq_self.mpr fun _ _ => rfl] at h1
  have h2 : ev (tab tL21) (.list (.cons (.str (Str.ofString "ab")) (.cons (.str (Str.ofString "b")) (.cons (.str (Str.ofString "a")) (.cons (.str (Str.ofString "bbb")) .nil))))) (lM (some (.lst (l.map .int))) none none none none none none none none none none none none none none none) [] = some (.lst (wE.map pW), []) := by rw [← wE_eq]; rfl
  refine (e_bin h1 h2 (add_lst (by rw [List.length_map, List.length_map, List.length_take]; show min 8 l.length + 4 ≤ 1000; omega))).trans ?_
  unfold vsOf
  rw [List.map_append, List.map_map]; rfl
theorem byts_of : ∀ vs : List W, bytsOf (vs.map fun w => .byt (cb w).toArray) = some (vs.map fun w => (cb w).toArray)
  | [] => rfl
  | a :: r => by show bd (bytsOf (r.map fun w => .byt (cb w).toArray)) (fun l => some ((cb a).toArray :: l)) = _; rw [byts_of r]; rfl
theorem fold_cat : ∀ (vs : List W) (acc : List UInt8), (vs.map fun w => (cb w).toArray).foldl (· ++ ·) acc.toArray = (acc ++ vs.flatMap cb).toArray
  | [], acc => by rw [List.flatMap_nil, List.append_nil]; rfl
  | a :: r, acc => by
    show (r.map fun w => (cb w).toArray).foldl (· ++ ·) (acc.toArray ++ (cb a).toArray) = _
    rw [List.append_toArray, fold_cat r (acc ++ cb a), List.flatMap_cons, List.append_assoc]
theorem sum_le : ∀ vs : List W, ((vs.map fun w => (cb w).toArray).map Array.size).sum ≤ 5 * vs.length
  | [] => Nat.le_refl _
  | a :: r => by
    have := sum_le r
    have h := cb_len a
    rw [List.map_cons, List.map_cons, List.sum_cons, List.length_cons]
    show (cb a).length + _ ≤ _
    omega
noncomputable def lwB : X := .call 11 (.cons (.bin .Add (.me .join (.byt []) (.cons (.comp 1 (.call 12 (.cons (.v 16) .nil)) (.v 1) .nil) .nil)) (.byt [4, 97, 98])) .nil)
theorem lw_2 {p : PV} {vs : List W} (h2 : 2 ≤ vs.length) (hl : vs.length ≤ 50) : ev (tab tL21) lwB (lM (some p) (some (.lst (vs.map pW))) none none none none none none none none none none none none none none) [] = some (.strm 0, [sB (bytesW vs)]) := by
  have h1 := e_comp (Φ := tab tL21) (ar := 1) (elt := .call 12 (.cons (.v 16) .nil)) (it := .v 1) (ifs := .nil) (m := lM (some p) (some (.lst (vs.map pW))) none none none none none none none none none none none none none none) (σ := [])
    (g := pW) (val := fun w => .byt (cb w).toArray) (full := vs) (n := none) (keep := fun _ => true) rfl it_lst (fun j h => nn h) (by omega) fun w _ => ⟨[some (pW w)], rfl, rfl, fun _ => e_call (l_cons rfl l_nil) rfl (cnt_x w)⟩
  rw [List.filter_eq_self.mpr fun _ _ => rfl] at h1
  have h3 : meV .join (.byt #[]) [.lst (vs.map fun w => .byt (cb w).toArray)] [] = some (.byt (vs.flatMap cb).toArray, []) := by
    refine ql_r rfl (ql_l (bd_in (a := #[]) rfl (vl_in ((show meB .join #[] [.lst (vs.map fun w => .byt (cb w).toArray)] [] = bd (bytsOf (vs.map fun w => .byt (cb w).toArray)) (fun bs => gd (decide ((#[] : Array UInt8).size = 0) && (decide (2 ≤ bs.length) && decide (bs.length ≤ LIM) && decide ((bs.map Array.size).sum ≤ LIM))) (some (.byt (bs.foldl (· ++ ·) #[])))) from rfl).trans
      (bd_in (byts_of vs) (gd_in (Bool.and_eq_true_iff.mpr ⟨rfl, ?_⟩) ?_))))))
    · have := sum_le vs
      rw [List.length_map, Bool.and_eq_true_iff, Bool.and_eq_true_iff, decide_eq_true_iff, decide_eq_true_iff, decide_eq_true_iff]
      exact ⟨⟨h2, by show vs.length ≤ 100000; omega⟩, by show _ ≤ 100000; omega⟩
    · exact congrArg (fun a => some (PV.byt a)) (fold_cat vs [])
  have hb : (bytesW vs).length ≤ 1000 := Nat.le_trans (bytes_len vs) (by omega)
  have h4 : binV .Add (.byt (vs.flatMap cb).toArray) (.byt #[4, 97, 98]) [] = some (.byt (bytesW vs).toArray) := by
    refine ql_r rfl (ql_r rfl (ql_l (bd_in rfl (bd_in rfl (gd_in (lim_of ?_) ?_)))))
    · show (vs.flatMap cb).length + 3 ≤ 1000
      have : (bytesW vs).length = (vs.flatMap cb).length + 3 := List.length_append
      omega
    · show some (PV.byt ((vs.flatMap cb).toArray ++ [4, 97, 98].toArray)) = _
      rw [List.append_toArray]; rfl
  exact e_call (l_cons (e_bin (e_me rfl rfl (l_cons h1 l_nil) h3) rfl h4) l_nil) rfl (bd_in rfl (bd_in rfl (gd_in (lim_of hb) rfl)))
end Sh
namespace Sh
open PySem PySem.Calls
section
variable {Φ : Nat → Option Spec} {m : Fm} {σ : St} {x y : X} {r : XL} {p : PV}
theorem or_F (h : ev Φ x m σ = some (.bool false, σ)) (k : evB Φ .Or (.cons y r) m σ = some (p, σ)) : evB Φ .Or (.cons x (.cons y r)) m σ = some (p, σ) := sq_in h (bd_in rfl k)
theorem or_E (h : ev Φ x m σ = some (p, σ)) : evB Φ .Or (.cons x .nil) m σ = some (p, σ) := sq_in h rfl
end
noncomputable def dO (o : Option W) : PyData := o.elim .none fun w => .str (ws w)
noncomputable def dP (x : Option W × Nat) : PyData := .tuple [dO x.1, .list ((bl x.2).map fun (k : Nat) => .int k)]
theorem PD.nP (x : Option W × Nat) : PD (nP x) (dP x) 3 := by
  have h1 : PD (pO x.1) (dO x.1) 2 := by
    cases x.1 with
    | none => exact PD.none.more (by decide)
    | some w => exact (PD.word w).more (by decide)
  exact PDs.tup (.cons h1 (.cons (PDs.list (PDs.map _ fun a _ => PD.int _)) .nil))
theorem PD.ints (l : List Nat) : PD (.lst (l.map fun (k : Nat) => PV.int k)) (.list (l.map fun (k : Nat) => PyData.int k)) 2 := PDs.list (PDs.map _ fun a _ => PD.int _)
theorem PD.words (l : List W) : PD (.lst (l.map pW)) (.list (l.map fun w => PyData.str (ws w))) 2 := PDs.list (PDs.map _ fun a _ => PD.word a)
theorem PD.endW : PD (.str endW) (.str endW) 1 := ⟨gd_in (by decide +kernel) rfl, Nat.zero_le _, by decide +kernel⟩
theorem idx_nth {σ : St} {l : List PV} {k : Nat} {p : PV} (hl : l.length ≤ 1000) (hi : l[k]? = some p) : idxV σ (.lst l) (.int (k : Int)) = some p := by
  have hk : k < l.length := (List.getElem?_eq_some_iff.mp hi).1
  refine gd_in (decide_eq_true (by show k < 2 ^ 60; omega)) (ql_r rfl (ql_r rfl (ql_r rfl ((show bd (lstOf σ (.lst l)) (fun l => gd (decide (l.length ≤ LIM)) (bd (seqIndex? (k : Int) l.length) fun j => l[j]?)) = gd (decide (l.length ≤ LIM)) (bd (seqIndex? (k : Int) l.length) fun j => l[j]?) from rfl).trans (gd_in (lim_of hl) (bd_in (a := k) ?_ hi))))))
  unfold seqIndex?; simp; omega
theorem len_l {σ : St} {l : List PV} {n : Nat} (h : l.length = n) (hl : n ≤ 1000) : lenV σ (.lst l) = some (.int (n : Int)) := ql_r rfl (ql_r rfl ((show bd (lstOf σ (.lst l)) (fun l => gd (decide (l.length ≤ LIM)) (some (PV.int (l.length : Int)))) = gd (decide (l.length ≤ LIM)) (some (PV.int (l.length : Int))) from rfl).trans (gd_in (lim_of (h ▸ hl)) (by rw [h]))))
theorem map_getD {α β : Type} (f : α → β) (d : α) : ∀ l : List α, (List.range l.length).map (fun k => f (l.getD k d)) = l.map f
  | [] => rfl
  | a :: r => by
    rw [List.length_cons, List.range_succ_eq_map, List.map_cons, List.map_map, List.map_cons, ← map_getD f d r]; rfl
section
variable {a0 a1 a2 a3 a4 a5 a6 a7 a8 a9 a10 a11 a12 a13 a14 a15 : Option PV}
noncomputable def lwO : X := .bo .Or (.cons (.cmp .NotEq (.v 3) (.v 6)) (.cons (.cmp .NotEq (.bi .sorted (.cons (.v 4) .nil)) (.v 7)) (.cons (.cmp .NotEq (.v 5) (.str (Str.ofString "expected 4 bytes in a string1, but only 2 remain"))) (.cons (.cmp .NotEq (.val (.v 2)) (.byt [])) .nil))))
theorem lw_5 {N : List (Option W × Nat)} {X F : List W} (hX : X.Perm F) (hl : F.length ≤ 50) :
    ev (tab tL21) lwO (lM a0 a1 (some (.strm 0)) (some (.lst (N.map nP))) (some (.lst (X.map pW))) (some (.str endW)) (some (.lst (N.map nP))) (some (.lst ((srt leW F).map pW))) a8 a9 a10 a11 a12 a13 a14 a15) [sB []] = some (.bool false, [sB []]) :=
  or_F (e_cmp rfl rfl (ne_same ((PDs.map N fun a _ => PD.nP a).list.more (by decide)) rfl rfl))
    (or_F (e_cmp (e_bi (l_cons rfl l_nil) (sorted_w (by rw [hX.length_eq]; omega))) rfl (by rw [srtW_eq hX]; exact ne_same ((PD.words _).more (by decide)) rfl rfl))
      (or_F (e_cmp rfl rfl (ne_same (PD.endW.more (by decide)) rfl rfl)) (or_E (e_cmp (sq_in rfl (bd_in rfl rfl)) rfl rfl))))
noncomputable def lwL : X := .comp 1 (.bin .Sub (.int 4) (.v 16)) (.bi .range (.cons (.int 5) .nil)) (.cons (.cmp .Eq (.bin .Mod (.bin .FloorDiv (.v 8) (.bin .Pow (.int 2) (.v 16))) (.int 2)) (.int 1)) .nil)
theorem lw_bits (σ : St) {l : Nat} (h : l ≤ 16) : ev (tab tL21) lwL (lM a0 a1 a2 a3 a4 a5 a6 a7 (some (.int (l : Nat))) a9 a10 a11 a12 a13 a14 a15) σ = some (.lst ((bl l).reverse.map fun (k : Nat) => PV.int k), σ) :=
  List.map_inj_left.mp (show (List.range 17).map (fun (l : Nat) => ev (tab tL21) lwL (lM a0 a1 a2 a3 a4 a5 a6 a7 (some (.int l)) a9 a10 a11 a12 a13 a14 a15) σ) = (List.range 17).map (fun l => some (.lst ((bl l).reverse.map fun (k : Nat) => PV.int k), σ)) by kernel_rfl) l (List.mem_range.mpr (by omega))
theorem lw_6 {X : List W} {l : Nat} (g : Good X l) (hs : X.Pairwise fun a b => kA a ≤ kA b) :
    ev (tab tL21) (.cmp .NotEq (.comp 1 (.bi .len (.cons (.v 16) .nil)) (.v 4) .nil) lwL) (lM a0 a1 a2 a3 (some (.lst (X.map pW))) a5 a6 a7 (some (.int (l : Nat))) a9 a10 a11 a12 a13 a14 a15) [sB []] = some (.bool false, [sB []]) := by
  have h1 := e_comp (Φ := tab tL21) (ar := 1) (elt := .bi .len (.cons (.v 16) .nil)) (it := .v 4) (ifs := .nil) (m := lM a0 a1 a2 a3 (some (.lst (X.map pW))) a5 a6 a7 (some (.int (l : Nat))) a9 a10 a11 a12 a13 a14 a15) (σ := [sB []])
    (g := pW) (val := fun w => .int (ln w : Nat)) (full := X) (n := none) (keep := fun _ => true) rfl it_lst (fun j h => nn h) (by have := g.len; omega) fun w _ => ⟨[some (pW w)], rfl, rfl, fun _ => e_bi (l_cons rfl l_nil) (bd_in rfl (len_w _ w))⟩
  rw [List.filter_eq_self.mpr fun _ _ => rfl, show (X.map fun w => PV.int (ln w : Nat)) = (bl l).reverse.map fun (k : Nat) => PV.int k by rw [← lens_down g hs, List.map_map]; rfl] at h1
  exact e_cmp h1 (lw_bits _ g.le) (ne_same ((PD.ints _).more (by decide)) rfl rfl)
theorem given_map : ∀ N : List (Option W × Nat), (N.filter fun x => x.1.isSome).map (fun x => pO x.1) = (given N).map pW
  | [] => rfl
  | (none, _) :: r => given_map r
  | (some w, _) :: r => congrArg (pW w :: ·) (given_map r)
noncomputable def lwG : X := .bin .Add (.comp 2 (.v 16) (.v 3) (.cons (.cmp .IsNot (.v 16) .none) .nil)) (.v 4)
theorem lw_7 {N : List (Option W × Nat)} {X : List W} (hN : N.length ≤ 50) (hX : X.length ≤ 50) :
    ev (tab tL21) lwG (lM a0 a1 a2 (some (.lst (N.map nP))) (some (.lst (X.map pW))) a5 a6 a7 a8 a9 a10 a11 a12 a13 a14 a15) [sB []] = some (.lst ((given N ++ X).map pW), [sB []]) := by
  have h1 := e_comp (Φ := tab tL21) (ar := 2) (elt := .v 16) (it := .v 3) (ifs := .cons (.cmp .IsNot (.v 16) .none) .nil) (m := lM a0 a1 a2 (some (.lst (N.map nP))) (some (.lst (X.map pW))) a5 a6 a7 a8 a9 a10 a11 a12 a13 a14 a15) (σ := [sB []])
    (g := nP) (val := fun x => pO x.1) (full := N) (n := none) (keep := fun x => x.1.isSome) rfl it_lst (fun j h => nn h) (by omega) fun x _ => ⟨[some (pO x.1), some (.lst ((bl x.2).map fun (k : Nat) => PV.int k))], rfl, evT1 (e_cmp rfl rfl (by cases x.1 <;> rfl)), fun _ => rfl⟩
  rw [given_map] at h1
  have hg : (given N).length ≤ N.length := List.length_filterMap_le _ _
  exact (e_bin h1 rfl (add_lst (by rw [List.length_map, List.length_map]; omega))).trans (by rw [List.map_append])
noncomputable def lwT : X := .call 19 (.cons (.call 4 (.cons (.call 18 (.cons (.idx (.v 9) (.v 16)) (.cons (.v 16) .nil))) .nil)) .nil)
theorem dr_call {w : W} {k : Nat} (h : k < 17) : tS18 [pW w, .int k] [sB []] = some (.val (.str (dS w (turnI w k) (k / 2 % 2))), [sB []]) := drop0 (dr_x _ h) rfl (fz_str _ _ _ 100000 (by decide)) fun _ => rfl
theorem lw_8 {ld : List W} (hl : ld.length ≤ 17) : ev (tab tL21) (.comp 1 lwT (.bi .range (.cons (.bi .len (.cons (.v 9) .nil)) .nil)) .nil) (lM a0 a1 a2 a3 a4 a5 a6 a7 a8 (some (.lst (ld.map pW))) a10 a11 a12 a13 a14 a15) [sB []] = some (.lst (ld.map fun w => .lst (tsW w)), [sB []]) := by
  have h1 := e_comp (Φ := tab tL21) (ar := 1) (elt := lwT) (it := .bi .range (.cons (.bi .len (.cons (.v 9) .nil)) .nil)) (ifs := .nil) (m := lM a0 a1 a2 a3 a4 a5 a6 a7 a8 (some (.lst (ld.map pW))) a10 a11 a12 a13 a14 a15) (σ := [sB []]) (p := .rng 0 (ld.length : Int) 1)
    (g := fun (k : Nat) => .int (k : Int)) (val := fun k => .lst (tsW (ld.getD k 0))) (full := List.range ld.length) (n := none) (keep := fun _ => true)
    (e_bi (l_cons (e_bi (r := .int (ld.length : Int)) (l_cons rfl l_nil) (bd_in rfl (len_l (List.length_map _) (by omega)))) l_nil) rfl) (rng_x _ (by omega)) (fun j h => nn h) (by rw [List.length_range]; omega) fun k hk => ⟨[some (.int (k : Int))], rfl, rfl, fun _ => by
      have hk := List.mem_range.mp hk
      have hi : (ld.map pW)[k]? = some (pW (ld.getD k 0)) := by rw [List.getElem?_map, List.getD_eq_getElem?_getD, List.getElem?_eq_getElem hk]; rfl
      refine sq_el (pipe_x (mem_combos (ld.getD k 0) k)) fun o σ₁ z1 z2 => bd_el z2 fun q z2 z3 => ?_
      cases o with
      | exc _ => exact nn z2
      | val p =>
        cases so z2
        exact e_call (l_cons (e_call (l_cons (e_call (l_cons (e_idx rfl rfl (idx_nth (by rw [List.length_map]; omega) hi)) (l_cons rfl l_nil)) rfl (dr_call (by omega))) l_nil) rfl z1) l_nil) rfl z3⟩
  rw [List.filter_eq_self.mpr fun _ _ => rfl, map_getD (fun w => PV.lst (tsW w)) 0 ld] at h1
  exact h1
noncomputable def lwN : X := .cmp .NotEq (.comp 1 (.v 16) (.v 10) (.cons (.cmp .Is (.v 16) .none) .nil)) (.list .nil)
theorem lw_9 {ld : List W} (hl : ld.length ≤ 17) : ev (tab tL21) lwN (lM a0 a1 a2 a3 a4 a5 a6 a7 a8 a9 (some (.lst (ld.map fun w => .lst (tsW w)))) a11 a12 a13 a14 a15) [sB []] = some (.bool false, [sB []]) := by
  have h1 := e_comp (Φ := tab tL21) (ar := 1) (elt := .v 16) (it := .v 10) (ifs := .cons (.cmp .Is (.v 16) .none) .nil) (m := lM a0 a1 a2 a3 a4 a5 a6 a7 a8 a9 (some (.lst (ld.map fun w => .lst (tsW w)))) a11 a12 a13 a14 a15) (σ := [sB []])
    (g := fun w => .lst (tsW w)) (val := fun w => .lst (tsW w)) (full := ld) (n := none) (keep := fun _ => false) rfl it_lst (fun j h => nn h) (by omega) fun w _ => ⟨[some (.lst (tsW w))], rfl, evT1 (e_cmp rfl rfl rfl), fun h => absurd h Bool.false_ne_true⟩
  rw [List.filter_eq_nil_iff.mpr fun _ _ => Bool.false_ne_true] at h1
  exact e_cmp h1 rfl (ne_lst (g := pW) (d := fun w => PyData.str (ws w)) (l := []) fun _ h => nomatch h)
noncomputable def lwF : X := .comp 1 (.bin .Add (.bin .Add (.bin .Add (.idx (.str (Str.ofString "ab")) (.bin .FloorDiv (.v 16) (.int 8))) (.idx (.str (Str.ofString "ab")) (.bin .Mod (.bin .FloorDiv (.v 16) (.int 4)) (.int 2)))) (.idx (.str (Str.ofString "ab")) (.bin .Mod (.bin .FloorDiv (.v 16) (.int 2)) (.int 2)))) (.idx (.str (Str.ofString "ab")) (.bin .Mod (.v 16) (.int 2)))) (.bi .range (.cons (.int 16) .nil)) .nil
theorem lw_10 : ev (tab tL21) lwF (lM a0 a1 a2 a3 a4 a5 a6 a7 a8 a9 a10 a11 a12 a13 a14 a15) [sB []] = some (.lst ((List.range 16).map lfW), [sB []]) := by kernel_rfl
noncomputable def lwR : X := .comp 1 (.comp 1 (.v 17) (.v 11) (.cons (.call 20 (.cons (.v 16) (.cons (.v 17) .nil))) .nil)) (.v 10) .nil
noncomputable def rowW (w : W) : List PV := (lvs w).map lfW
theorem lw_11 {ld : List W} (hl : ld.length ≤ 17) : ev (tab tL21) lwR (lM a0 a1 a2 a3 a4 a5 a6 a7 a8 a9 (some (.lst (ld.map fun w => .lst (tsW w)))) (some (.lst ((List.range 16).map lfW))) a12 a13 a14 a15) [sB []] = some (.lst (ld.map fun w => .lst (rowW w)), [sB []]) := by
  have h2 : ∀ w : W, ev (tab tL21) (.comp 1 (.v 17) (.v 11) (.cons (.call 20 (.cons (.v 16) (.cons (.v 17) .nil))) .nil)) (lM a0 a1 a2 a3 a4 a5 a6 a7 a8 a9 (some (.lst (ld.map fun w => .lst (tsW w)))) (some (.lst ((List.range 16).map lfW))) a12 a13 a14 a15 ++ [some (.lst (tsW w))]) [sB []] = some (.lst (rowW w), [sB []]) := fun w => by
    have h1 := e_comp (Φ := tab tL21) (ar := 1) (elt := .v 17) (it := .v 11) (ifs := .cons (.call 20 (.cons (.v 16) (.cons (.v 17) .nil))) .nil) (m := lM a0 a1 a2 a3 a4 a5 a6 a7 a8 a9 (some (.lst (ld.map fun w => .lst (tsW w)))) (some (.lst ((List.range 16).map lfW))) a12 a13 a14 a15 ++ [some (.lst (tsW w))]) (σ := [sB []])
      (g := lfW) (val := lfW) (full := List.range 16) (n := none) (keep := fun i => decide (i ∈ lvs w)) rfl it_lst (fun j h => nn h) (by decide) fun i hi => ⟨[some (lfW i)], rfl, evT1 (e_call (l_cons rfl (l_cons rfl l_nil)) rfl (takes_x (List.mem_range.mp hi))), fun _ => rfl⟩
    rw [lvs_16] at h1
    exact h1
  have h1 := e_comp (Φ := tab tL21) (ar := 1) (elt := .comp 1 (.v 17) (.v 11) (.cons (.call 20 (.cons (.v 16) (.cons (.v 17) .nil))) .nil)) (it := .v 10) (ifs := .nil) (m := lM a0 a1 a2 a3 a4 a5 a6 a7 a8 a9 (some (.lst (ld.map fun w => .lst (tsW w)))) (some (.lst ((List.range 16).map lfW))) a12 a13 a14 a15) (σ := [sB []])
    (g := fun w => .lst (tsW w)) (val := fun w => .lst (rowW w)) (full := ld) (n := none) (keep := fun _ => true) rfl it_lst (fun j h => nn h) (by omega) fun w _ => ⟨[some (.lst (tsW w))], rfl, rfl, fun _ => h2 w⟩
  rw [List.filter_eq_self.mpr fun _ _ => rfl] at h1
  exact h1
noncomputable def lwC : X := .cmp .NotEq (.comp 1 (.bi .len (.cons (.v 16) .nil)) (.v 12) .nil) (.comp 1 (.bin .Pow (.int 2) (.bin .Sub (.int 4) (.bi .len (.cons (.v 16) .nil)))) (.v 9) .nil)
theorem lw_12 {ld : List W} (hl : ld.length ≤ 17) : ev (tab tL21) lwC (lM a0 a1 a2 a3 a4 a5 a6 a7 a8 (some (.lst (ld.map pW))) a10 a11 (some (.lst (ld.map fun w => .lst (rowW w)))) a13 a14 a15) [sB []] = some (.bool false, [sB []]) := by
  have h1 := e_comp (Φ := tab tL21) (ar := 1) (elt := .bi .len (.cons (.v 16) .nil)) (it := .v 12) (ifs := .nil) (m := lM a0 a1 a2 a3 a4 a5 a6 a7 a8 (some (.lst (ld.map pW))) a10 a11 (some (.lst (ld.map fun w => .lst (rowW w)))) a13 a14 a15) (σ := [sB []])
    (g := fun w => .lst (rowW w)) (val := fun w => .int (2 ^ (4 - ln w) : Nat)) (full := ld) (n := none) (keep := fun _ => true) rfl it_lst (fun j h => nn h) (by omega) fun w _ => ⟨[some (.lst (rowW w))], rfl, rfl, fun _ => by
      have hr : (rowW w).length = 2 ^ (4 - ln w) := by unfold rowW; rw [List.length_map, lvs_len]
      exact e_bi (l_cons rfl l_nil) (bd_in rfl (len_l hr (Nat.le_trans (Nat.pow_le_pow_right (by decide) (Nat.sub_le 4 _)) (by decide))))⟩
  have h2 := e_comp (Φ := tab tL21) (ar := 1) (elt := .bin .Pow (.int 2) (.bin .Sub (.int 4) (.bi .len (.cons (.v 16) .nil)))) (it := .v 9) (ifs := .nil) (m := lM a0 a1 a2 a3 a4 a5 a6 a7 a8 (some (.lst (ld.map pW))) a10 a11 (some (.lst (ld.map fun w => .lst (rowW w)))) a13 a14 a15) (σ := [sB []])
    (g := pW) (val := fun w => .int (2 ^ (4 - ln w) : Nat)) (full := ld) (n := none) (keep := fun _ => true) rfl it_lst (fun j h => nn h) (by omega) fun w _ => ⟨[some (pW w)], rfl, rfl, fun _ => e_bin rfl (e_bin rfl (e_bi (l_cons rfl l_nil) (bd_in rfl (len_w _ w))) rfl) (pow_w _ w)⟩
  rw [List.filter_eq_self.mpr fun _ _ => rfl] at h1 h2
  exact e_cmp h1 h2 (ne_same (PDs.list (k := 1) (PDs.map (d := fun w => PyData.int (2 ^ (4 - ln w) : Nat)) ld fun a _ => PD.int _) |>.more (by decide)) rfl rfl)
end
end Sh
namespace Sh
open PySem PySem.Calls
noncomputable def lwP : SL := .cons (.ex (.call 0 (.cons (.v 13) (.cons (.tup (.cons (.idx (.v 9) (.v 14)) (.cons (.v 14) .nil))) .nil)))) .nil
noncomputable def lwQ : SL := .cons (.ex (.me .extend (.v 15) (.cons (.idx (.v 12) (.idx (.call 1 (.cons (.v 13) .nil)) (.int 1))) .nil))) .nil
noncomputable def lwU : X := .cmp .NotEq (.v 13) (.list .nil)
noncomputable def lwI : X := .bi .range (.cons (.bi .len (.cons (.v 9) .nil)) .nil)
noncomputable def lwX : X := .cmp .NotEq (.comp 1 (.bi .len (.cons (.v 16) .nil)) (.v 4) .nil) lwL
noncomputable def rF : SL := .cons (.ret (.bool false)) .nil
theorem tB21_eq : tB21 = .cons (.as 1 lwA) (.cons (.as 2 lwB) (.cons (.asT [3, 4, 5] (.call 16 (.cons (.v 2) .nil))) (.cons (.asT [6, 7, 8] (.call 17 (.cons (.v 1) .nil))) (.cons (.iff lwO rF .nil) (.cons (.iff lwX rF .nil) (.cons (.as 9 lwG) (.cons (.as 10 (.comp 1 lwT lwI .nil)) (.cons (.iff lwN rF .nil)
  (.cons (.as 11 lwF) (.cons (.as 12 lwR) (.cons (.iff lwC rF .nil) (.cons (.as 13 (.mlist .nil)) (.cons (.fo [14] lwI lwP) (.cons (.as 15 (.mlist .nil)) (.cons (.wh lwU lwQ) (.cons (.ret (.cmp .Eq (.v 15) (.v 11))) .nil)))))))))))))))) := rfl
section
variable {a0 a1 a2 a3 a4 a5 a6 a7 a8 a9 a10 a11 a12 a14 a15 : Option PV} {ld : List W}
noncomputable def mk (ld : List W) (k : Nat) : WK := (ld.getD k 0, Fin.ofNat 32 k)
noncomputable def lS (L : List WK) : St := [sB [], HB.lst L]
theorem cl_lS (L : List WK) : Clo (lS L) := fun n => by
  show (clO n (HB.lst L) && true) = true
  rw [show clO n (HB.lst L) = true from cl_map HB.cl n L]; rfl
theorem lw_push (hl : ld.length ≤ 17) : ∃ L o, evS (tab tL21) (.fo [14] lwI lwP) (lM a0 a1 a2 a3 a4 a5 a6 a7 a8 (some (.lst (ld.map pW))) a10 a11 a12 (some (.loc 1)) a14 a15) (lS []) = some (.next, lM a0 a1 a2 a3 a4 a5 a6 a7 a8 (some (.lst (ld.map pW))) a10 a11 a12 (some (.loc 1)) o a15, lS L) ∧ HB.Hp L ∧ L.Perm ((List.range ld.length).map (mk ld)) := by
  obtain ⟨m', σ', h1, L, o, hm, hσ, h2, h3, _⟩ := fo_in (g := fun (k : Nat) => .int (k : Int)) (is := [14]) (b := evSL (tab tL21) lwP) (n := none) (full := List.range ld.length)
    (I := fun r m σ => ∃ L o, m = lM a0 a1 a2 a3 a4 a5 a6 a7 a8 (some (.lst (ld.map pW))) a10 a11 a12 (some (.loc 1)) o a15 ∧ σ = lS L ∧ HB.Hp L ∧ (L ++ r.map (mk ld)).Perm ((List.range ld.length).map (mk ld)) ∧ ∀ k ∈ r, k < ld.length)
    (fun r m σ _ j hj => nn hj) (fun k r m σ ⟨L, o, hm, hσ, h2, h3, h4⟩ => by
      subst hm hσ
      have hlen := h3.length_eq
      simp only [List.length_append, List.length_map, List.length_cons, List.length_range] at hlen
      have hkl := h4 k (.head _)
      have hi : (ld.map pW)[k]? = some (pW (ld.getD k 0)) := by rw [List.getElem?_map, List.getD_eq_getElem?_getD, List.getElem?_eq_getElem hkl]; rfl
      obtain ⟨L2, k1, k2, k3⟩ := push_run (H := HB) (σ := lS L) (n := 1) (x := mk ld k) (L := L) rfl (by omega) h2 (cl_lS L)
      have e1 : ev (tab tL21) (.tup (.cons (.idx (.v 9) (.v 14)) (.cons (.v 14) .nil))) (lM a0 a1 a2 a3 a4 a5 a6 a7 a8 (some (.lst (ld.map pW))) a10 a11 a12 (some (.loc 1)) (some (.int (k : Int))) a15) (lS L) = some (fB (mk ld k), lS L) := by
        refine (sq_in (l_cons (e_idx rfl rfl (idx_nth (by rw [List.length_map]; omega) hi)) (l_cons rfl l_nil)) rfl).trans ?_
        show some (PV.tup [pW (ld.getD k 0), .int (k : Int)], _) = some (PV.tup [pW (ld.getD k 0), .int ((k % 32 : Nat) : Int)], _)
        rw [Nat.mod_eq_of_lt (by omega)]
      refine ⟨lM a0 a1 a2 a3 a4 a5 a6 a7 a8 (some (.lst (ld.map pW))) a10 a11 a12 (some (.loc 1)) (some (.int (k : Int))) a15, _, _, rfl, sl_in (s_ex (e_call (l_cons rfl (l_cons e1 l_nil)) rfl k1)) rfl, L2, some (.int (k : Int)), rfl, rfl, k3, ?_, fun j hj => h4 j (.tail _ hj)⟩
      exact (k2.append_right _).trans (by rw [List.append_assoc]; exact h3)) (List.range ld.length) 0 (lM a0 a1 a2 a3 a4 a5 a6 a7 a8 (some (.lst (ld.map pW))) a10 a11 a12 (some (.loc 1)) a14 a15) (lS []) rfl (Nat.zero_add _) ⟨[], a14, rfl, rfl, fun i _ h => absurd h (Nat.not_lt_zero _), .refl _, fun k hk => List.mem_range.mp hk⟩
  subst hm hσ
  exact ⟨L, o, sq_in (e_bi (l_cons (e_bi (r := .int (ld.length : Int)) (l_cons rfl l_nil) (bd_in rfl (len_l (List.length_map _) (by omega)))) l_nil) rfl) (bd_in (rng_x _ (by omega)) h1), h2, by rw [List.map_nil, List.append_nil] at h3; exact h3⟩
/-- the pops, and the rows one behind another -/
noncomputable def lR (P : List WK) : List PV := (P.flatMap fun x => lvs x.1).map lfW
noncomputable def lQ (L P : List WK) : St := [sB [], HB.lst L, .lst (lR P)]
theorem cl_lQ (L P : List WK) : Clo (lQ L P) := fun n => by
  show (clO n (HB.lst L) && (clL n (lR P) && true)) = true
  rw [show clO n (HB.lst L) = true from cl_map HB.cl n L, show clL n (lR P) = true from cl_map (f := lfW) (fun _ _ => rfl) n _]; rfl
theorem lR_len {P : List WK} : (lR P).length ≤ 16 * P.length := by
  unfold lR
  rw [List.length_map]
  induction P with
  | nil => exact Nat.le_refl _
  | cons a r ih =>
    rw [List.flatMap_cons, List.length_append, List.length_cons, lvs_len]
    have := Nat.pow_le_pow_right (show 0 < 2 by decide) (Nat.sub_le 4 (ln a.1))
    omega
structure LwJ (T L P : List WK) : Prop where
  hp : HB.Hp L
  p : (P ++ L).Perm T
  up : P.Pairwise fun a b => kB a ≤ kB b
  le : ∀ x ∈ P, ∀ y ∈ L, kB x ≤ kB y
theorem lw_pops (hl : ld.length ≤ 17) {L : List WK} (J : LwJ ((List.range ld.length).map (mk ld)) L []) : ∃ m' σ', whGo (tst (tab tL21) lwU) (evSL (tab tL21) lwQ) WH (lM a0 a1 a2 a3 a4 a5 a6 a7 a8 a9 a10 a11 (some (.lst (ld.map fun w => .lst (rowW w)))) (some (.loc 1)) a14 (some (.loc 2))) (lQ L []) = some (.next, m', σ') ∧
    m' = lM a0 a1 a2 a3 a4 a5 a6 a7 a8 a9 a10 a11 (some (.lst (ld.map fun w => .lst (rowW w)))) (some (.loc 1)) a14 (some (.loc 2)) ∧ ∃ P : List WK, σ' = lQ [] P ∧ LwJ ((List.range ld.length).map (mk ld)) [] P := by
  refine wh_in (Q := fun m' σ' => m' = lM a0 a1 a2 a3 a4 a5 a6 a7 a8 a9 a10 a11 (some (.lst (ld.map fun w => .lst (rowW w)))) (some (.loc 1)) a14 (some (.loc 2)) ∧ ∃ P : List WK, σ' = lQ [] P ∧ LwJ ((List.range ld.length).map (mk ld)) [] P)
    (I := fun k m σ => ∃ L P : List WK, k = L.length ∧ m = lM a0 a1 a2 a3 a4 a5 a6 a7 a8 a9 a10 a11 (some (.lst (ld.map fun w => .lst (rowW w)))) (some (.loc 1)) a14 (some (.loc 2)) ∧ σ = lQ L P ∧ LwJ ((List.range ld.length).map (mk ld)) L P) (fun k m σ ⟨L, P, hk, hm, hσ, J⟩ => ?_) WH L.length _ _
    (by have := J.p.length_eq; simp at this; show L.length < 100000; omega) ⟨L, [], rfl, rfl, rfl, J⟩
  subst hm hσ
  have hlen := J.p.length_eq
  rw [List.length_append, List.length_map, List.length_range] at hlen
  have hne : tst (tab tL21) lwU (lM a0 a1 a2 a3 a4 a5 a6 a7 a8 a9 a10 a11 (some (.lst (ld.map fun w => .lst (rowW w)))) (some (.loc 1)) a14 (some (.loc 2))) (lQ L P) = some (!L.isEmpty, lQ L P) :=
    sq_in (e_cmp rfl rfl (ne_nil (g := fB) (d := fun x : WK => .tuple [.str (ws x.1), .int (x.2.val : Int)]) (l := L) (n := 1) rfl fun a _ => (PDs.tup (.cons (.word a.1) (.cons (.int _) .nil))).more (by decide))) rfl
  cases L with
  | nil => exact .stop hne ⟨rfl, P, rfl, J⟩
  | cons r t =>
    obtain ⟨x, L', h1, h2, h3, h4⟩ := pop_run (H := HB) (σ := lQ (r :: t) P) (n := 1) (L := r :: t) rfl (by omega) J.hp (fun e => nomatch e) (cl_lQ _ _)
    have hx : x ∈ (List.range ld.length).map (mk ld) := J.p.subset (List.mem_append_right _ (h2.subset (.head _)))
    obtain ⟨k, hk', e⟩ := List.mem_map.mp hx
    have hkl := List.mem_range.mp hk'
    have hrow : (ld.map fun w => PV.lst (rowW w))[x.2.val]? = some (.lst (rowW x.1)) := by
      rw [← e, List.getElem?_map]
      show (ld[k % 32]?).map _ = _
      rw [Nat.mod_eq_of_lt (by omega), List.getElem?_eq_getElem hkl]
      show some (PV.lst (rowW ld[k])) = some (PV.lst (rowW (ld.getD k 0)))
      rw [List.getD_eq_getElem?_getD, List.getElem?_eq_getElem hkl]; rfl
    have hr := lR_len (P := P)
    have hr1 : (rowW x.1).length ≤ 16 := by unfold rowW; rw [List.length_map, lvs_len]; exact Nat.le_trans (Nat.pow_le_pow_right (by decide) (Nat.sub_le 4 _)) (by decide)
    have e1 : meV .extend (.loc 2) [.lst (rowW x.1)] (lQ L' P) = some (.none, lQ L' (P ++ [x])) := by
      refine (show meV .extend (.loc 2) [.lst (rowW x.1)] (lQ L' P) = bd (gd (decide ((lR P).length ≤ LIM) && decide ((rowW x.1).length ≤ LIM)) (some (PV.none, lR P ++ rowW x.1))) (fun y => some (y.1, [sB [], HB.lst L', .lst y.2])) from rfl).trans (bd_in (gd_in (Bool.and_eq_true_iff.mpr ⟨lim_of (by omega), lim_of (by omega)⟩) rfl) ?_)
      show some (PV.none, [sB [], HB.lst L', .lst (lR P ++ rowW x.1)]) = _
      unfold lQ lR rowW
      rw [List.flatMap_append, List.map_append, List.flatMap_singleton]
    refine .go (r := .next) hne (sl_in (s_ex (e_me (x := .v 15) rfl rfl (l_cons (e_idx (q := .int (x.2.val : Int)) (r := .lst (rowW x.1)) rfl (e_idx (p := fB x) (e_call (l_cons rfl l_nil) rfl h1) rfl rfl) (idx_nth (by rw [List.length_map]; omega) hrow)) l_nil) e1)) rfl) (.inl rfl) (k' := L'.length)
      (by have := h2.length_eq; rw [hk, ← this]; exact Nat.lt_succ_self _) ⟨L', P ++ [x], rfl, rfl, rfl, h3, ?_, ?_, ?_⟩
    · rw [List.append_assoc]; exact (h2.append_left P).trans J.p
    · refine List.pairwise_append.mpr ⟨J.up, List.pairwise_singleton _ _, fun a ha b hb => ?_⟩
      rw [List.mem_singleton.mp hb]; exact J.le a ha x (h2.subset (.head _))
    · intro a ha y hy
      have hy' : y ∈ r :: t := h2.subset (.tail _ hy)
      rcases List.mem_append.mp ha with q | q
      · exact J.le a q y hy'
      · rw [List.mem_singleton.mp q]; exact h4 y hy'
end
theorem mk_words (ld : List W) : ((List.range ld.length).map (mk ld)).map (·.1) = ld := by
  rw [List.map_map]
  exact (map_getD (fun w => w) 0 ld).trans (List.map_id _)
theorem kB_le {x y : WK} (h : kB x ≤ kB y) : x.1.val ≤ y.1.val := by unfold kB at h; have := x.2.isLt; have := y.2.isLt; omega
theorem order_ok {ld : List W} {P : List WK} (J : LwJ ((List.range ld.length).map (mk ld)) [] P) (h : (ld.flatMap lvs).Perm (List.range 16)) : lR P = (List.range 16).map lfW := by
  have hp := J.p
  rw [List.append_nil] at hp
  have e : (P.map (·.1)).flatMap lvs = List.range 16 := order_16 (((hp.map (·.1)).trans (.of_eq (mk_words ld))).flatMap_right lvs |>.trans h) (List.pairwise_map.mpr (J.up.imp fun h => kB_le h))
  unfold lR
  rw [← e, List.flatMap_map]
end Sh
namespace Sh
open PySem PySem.Calls
theorem plain_2 (l : List Int) (hl : l.length ≤ 63) : tS21 [.lst (l.map .int)] [] = some (.val (.bool true), []) := by
  have hv := vs_len l
  have hv2 : 2 ≤ (vsOf l).length := by unfold vsOf; rw [List.length_append]; show 2 ≤ _ + 4; omega
  generalize hvs : vsOf l = vs at hv hv2
  obtain ⟨h17, g⟩ := du_run (S := sB []) (fun _ => rfl) (vs := vs) (by omega)
  obtain ⟨X, h16, hX, hup⟩ := sv_run (vs := vs) (by omega)
  have hN := run_len (vs := vs) (F := [0]) (l := 16)
  have hlv := run_lvs (vs := vs) good_0
  rw [lvs_0] at hlv
  generalize hR : runW vs [0] 16 = R at h17 g h16 hX hN hlv
  obtain ⟨N, F, l'⟩ := R
  have gX : Good X l' := g.perm hX
  have hF : F.length ≤ 5 := g.len
  have hXl : X.length ≤ 5 := gX.len
  have hg : (given N).length ≤ N.length := List.length_filterMap_le _ _
  have hN : N.length ≤ 12 := by rw [hN]; exact hv
  have hld : (given N ++ X).length ≤ 17 := by rw [List.length_append]; omega
  have hperm : ((given N ++ X).flatMap lvs).Perm (List.range 16) := by
    rw [List.flatMap_append]
    exact ((hX.flatMap_right lvs).append_left _).trans hlv.symm
  have e1 := lw_1 hl
  rw [hvs] at e1
  obtain ⟨L, o, b13, c1, c2⟩ := lw_push (a0 := some (.lst (l.map .int))) (a1 := some (.lst (vs.map pW))) (a2 := some (.strm 0)) (a3 := some (.lst (N.map nP))) (a4 := some (.lst (X.map pW))) (a5 := some (.str endW)) (a6 := some (.lst (N.map nP))) (a7 := some (.lst ((srt leW F).map pW))) (a8 := some (.int (l' : Int)))
    (a10 := some (.lst ((given N ++ X).map fun w => .lst (tsW w)))) (a11 := some (.lst ((List.range 16).map lfW))) (a12 := some (.lst ((given N ++ X).map fun w => .lst (rowW w)))) (a14 := none) (a15 := none) hld
  obtain ⟨m', σ', b15, hm, P, hσ, J⟩ := lw_pops (a0 := some (.lst (l.map .int))) (a1 := some (.lst (vs.map pW))) (a2 := some (.strm 0)) (a3 := some (.lst (N.map nP))) (a4 := some (.lst (X.map pW))) (a5 := some (.str endW)) (a6 := some (.lst (N.map nP))) (a7 := some (.lst ((srt leW F).map pW))) (a8 := some (.int (l' : Int)))
    (a9 := some (.lst ((given N ++ X).map pW))) (a10 := some (.lst ((given N ++ X).map fun w => .lst (tsW w)))) (a11 := some (.lst ((List.range 16).map lfW))) (a14 := o) hld (L := L) ⟨c1, c2, .nil, fun x h => (nomatch h)⟩
  subst hm hσ
  have hq := order_ok J hperm
  have eL : PD (.lst ((List.range 16).map lfW)) (.list ((List.range 16).map fun i => PyData.str (ws (wOf [97 + i / 8, 97 + i / 4 % 2, 97 + i / 2 % 2, 97 + i % 2])))) 2 := PDs.list (PDs.map _ fun a _ => PD.word _)
  have e16 : eqV (lQ [] P) (.loc 2) (.lst ((List.range 16).map lfW)) = some true := by
    refine eq_in rfl ?_ (eL.more (by decide)) (PySem.SeqAt.eqv_refl _ eL.lay)
    rw [res_loc (n := 2) (l := lR P) rfl, hq]
    exact eL.more (by decide)
  refine drop_in (σ' := []) (e := lQ [] P) (p := .bool true) (gd_in rfl (s3_in (t := .ret (.bool true)) (σ := lQ [] P)
    (m := lM (some (.lst (l.map .int))) (some (.lst (vs.map pW))) (some (.strm 0)) (some (.lst (N.map nP))) (some (.lst (X.map pW))) (some (.str endW)) (some (.lst (N.map nP))) (some (.lst ((srt leW F).map pW))) (some (.int (l' : Int))) (some (.lst ((given N ++ X).map pW))) (some (.lst ((given N ++ X).map fun w => .lst (tsW w)))) (some (.lst ((List.range 16).map lfW))) (some (.lst ((given N ++ X).map fun w => .lst (rowW w)))) (some (.loc 1)) o (some (.loc 2))) ?_ rfl)) rfl rfl (fun n => rfl)
  show evSL (tab tL21) tB21 (lM (some (.lst (l.map .int))) none none none none none none none none none none none none none none none) [] = _
  rw [tB21_eq]
  exact sl_in (s_as e1) (sl_in (s_as (lw_2 hv2 (by omega))) (sl_in (s_asT (e_call (l_cons rfl l_nil) rfl h16) rfl) (sl_in (s_asT (e_call (l_cons rfl l_nil) rfl h17) rfl) (sl_in (s_iff (lw_5 hX (Nat.le_trans hF (by decide))) rfl rfl) (sl_in (s_iff (lw_6 gX hup) rfl rfl) (sl_in (s_as (lw_7 (by omega) (by omega))) (sl_in (s_as (lw_8 hld)) (sl_in (s_iff (lw_9 hld) rfl rfl)
    (sl_in (s_as lw_10) (sl_in (s_as (lw_11 hld)) (sl_in (s_iff (lw_12 hld) rfl rfl) (sl_in rfl (sl_in b13 (sl_in rfl (sl_in b15 (sl_out (s_ret (e_cmp rfl rfl e16)) rfl))))))))))))))))
end Sh
end
theorem PySem.Challenge.cw_rx0126_02_holds : PySem.Challenge.rw_rx0126_02.Holds := by
  exact Sh.law_of Sh.plain_2 Sh.runs
