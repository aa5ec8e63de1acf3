import PyProof.Rows.All
import Wide.All
import OpenK.AllK
import Wide.FinOn
import PySem.Challenge.RW_in0093_01
/-! Calc1 -/
open PySem PySem.W PyProof.Rows
set_option Elab.async false
set_option maxRecDepth 100000
namespace Mine

/-! ## heaps that grow -/
noncomputable abbrev Sub (g h : Heap) : Prop := ∀ b o, g.get? b = some o → h.get? b = some o

theorem Sub.refl (h : Heap) : Sub h h := fun _ _ e => e
theorem Sub.trans {a b c : Heap} (x : Sub a b) (y : Sub b c) : Sub a c := fun _ _ e => y _ _ (x _ _ e)
theorem sub_get_none {a b : Heap} (x : Sub a b) {i : Addr} (h : b.get? i = none) : a.get? i = none := by
  cases e : a.get? i with
  | none => rfl
  | some o => rw [x _ _ e] at h; cases h

/-- data, or a type -/
inductive PV where
  | d (x : PyData)
  | ty (n : String)
  | tk (x : Str) (t : Tok)

mutual
/-- v is the datum x in g, made of plain objects -/
inductive Rp (g : Heap) : Value → PyData → Prop
  | none : Rp g .none .none
  | bool (b) : Rp g (.bool b) (.bool b)
  | int (i t) : Rp g (.int i t) (.int i)
  | str (x t) : Rp g (.str x t) (.str x)
  | list {a vs n xs} : g.get? a = some { cls := .type "list", data := .seq vs n } → a ≠ sysModules → RdAll g vs.toList xs → Rp g (.ref a) (.list xs)
  | tuple {a vs n xs} : g.get? a = some { cls := .type "tuple", data := .seq vs n } → RdAll g vs.toList xs → Rp g (.ref a) (.tuple xs)
  | dict {a es n kvs} : g.get? a = some { cls := .type "dict", data := .dict es n } → a ≠ sysModules → RdAll g (es.toList.map (·.key)) (kvs.map (·.1)) →
      RdAll g (es.toList.map (·.val)) (kvs.map (·.2)) → Rp g (.ref a) (.dict kvs)
inductive RdAll (g : Heap) : List Value → List PyData → Prop
  | nil : RdAll g [] []
  | cons {v vs d ds} : Rp g v d → RdAll g vs ds → RdAll g (v :: vs) (d :: ds)
end

theorem RdAll.ind {g : Heap} {p : List Value → List PyData → Prop} (h0 : p [] []) (h1 : ∀ {v d vs ds}, Rp g v d → RdAll g vs ds → p vs ds → p (v :: vs) (d :: ds)) {vs : List Value} {ds : List PyData} (h : RdAll g vs ds) : p vs ds :=
  RdAll.rec (motive_1 := fun _ _ _ => True) (motive_2 := fun vs ds _ => p vs ds) trivial (fun _ => trivial) (fun _ _ => trivial) (fun _ _ => trivial) (fun _ _ _ _ => trivial) (fun _ _ _ => trivial) (fun _ _ _ _ _ _ => trivial) h0 (fun r rs _ ih => h1 r rs ih) h
theorem Rp.reads {g : Heap} {v : Value} {x : PyData} (h : Rp g v x) : ∃ as, Reads g v x as ∧ sysModules ∉ as :=
  Rp.rec (motive_1 := fun v x _ => ∃ as, Reads g v x as ∧ sysModules ∉ as) (motive_2 := fun vs xs _ => ∃ as, ReadsAll g vs xs as ∧ sysModules ∉ as)
    ⟨[], .none, List.not_mem_nil⟩ (fun b => ⟨[], .bool b, List.not_mem_nil⟩) (fun i t => ⟨[], .int i t, List.not_mem_nil⟩) (fun x t => ⟨[], .str x t, List.not_mem_nil⟩)
    (fun h1 h2 _ ih => ih.elim fun _ r => ⟨_, .list h1 rfl rfl r.1, fun hm => (List.mem_cons.mp hm).elim (fun e => h2 e.symm) r.2⟩) (fun h1 _ ih => ih.elim fun _ r => ⟨_, .tuple h1 rfl rfl r.1, r.2⟩)
    (fun h1 h2 _ _ ih ih' => ih.elim fun _ r => ih'.elim fun _ r' => ⟨_, .dict h1 rfl rfl r.1 r'.1, fun hm => (List.mem_cons.mp hm).elim (fun e => h2 e.symm) fun hm => (List.mem_append.mp hm).elim r.2 r'.2⟩) ⟨[], .nil, List.not_mem_nil⟩
    (fun _ _ ih ih' => ih.elim fun _ r => ih'.elim fun _ r' => ⟨_, .cons r.1 r'.1, fun hm => (List.mem_append.mp hm).elim r.2 r'.2⟩) h
theorem Rp.mono {g g' : Heap} (k : Sub g g') {v : Value} {x : PyData} (h : Rp g v x) : Rp g' v x :=
  Rp.rec (motive_1 := fun v x _ => Rp g' v x) (motive_2 := fun vs xs _ => RdAll g' vs xs) .none .bool .int .str (fun h1 h2 _ ih => .list (k _ _ h1) h2 ih) (fun h1 _ ih => .tuple (k _ _ h1) ih) (fun h1 h2 _ _ ih ih' => .dict (k _ _ h1) h2 ih ih') .nil (fun _ _ ih ih' => .cons ih ih') h
theorem RdAll.mono {g g' : Heap} (k : Sub g g') {vs : List Value} {xs : List PyData} (h : RdAll g vs xs) : RdAll g' vs xs := h.ind (p := fun vs xs => RdAll g' vs xs) .nil fun r _ ih => .cons (r.mono k) ih

noncomputable def Rd (g : Heap) (v : Value) : PV → Prop
  | .d x => Rp g v x
  | .ty n => v = .type n
  | .tk x t => v = .str x t

noncomputable def RdL (g : Heap) : List Value → List PV → Prop
  | [], [] => True
  | v :: vs, d :: ds => Rd g v d ∧ RdL g vs ds
  | _, _ => False

theorem Rd.mono {g g' : Heap} (k : Sub g g') {v : Value} : ∀ {d : PV}, Rd g v d → Rd g' v d
  | .d _, h => Rp.mono k h
  | .ty _, h => h
  | .tk _ _, h => h
theorem RdL.mono {g g' : Heap} (k : Sub g g') : ∀ {vs : List Value} {ds : List PV}, RdL g vs ds → RdL g' vs ds
  | [], [], _ => trivial
  | _ :: _, _ :: _, ⟨a, b⟩ => ⟨a.mono k, RdL.mono k b⟩
  | [], _ :: _, h => h.elim
  | _ :: _, [], h => h.elim

theorem rdl_cons {g : Heap} {vs : List Value} {d : PV} {ds : List PV} (h : RdL g vs (d :: ds)) : ∃ v us, vs = v :: us ∧ Rd g v d ∧ RdL g us ds := by
  cases vs with
  | nil => exact h.elim
  | cons v us => exact ⟨v, us, rfl, h⟩
theorem rdl_nil {g : Heap} {vs : List Value} (h : RdL g vs []) : vs = [] := by
  cases vs with
  | nil => rfl
  | cons v us => exact h.elim
theorem rdl_all {g : Heap} {xs : List PyData} : ∀ {vs : List Value}, RdL g vs (xs.map .d) → RdAll g vs xs := by
  induction xs with
  | nil => exact fun h => rdl_nil h ▸ .nil
  | cons d ds ih =>
    intro vs h
    obtain ⟨v, us, rfl, a, b⟩ := rdl_cons h
    exact .cons a (ih b)
theorem rdl_length {g : Heap} {xs : List PV} : ∀ {vs : List Value}, RdL g vs xs → vs.length = xs.length := by
  induction xs with
  | nil => exact fun h => rdl_nil h ▸ rfl
  | cons d ds ih =>
    intro vs h
    obtain ⟨v, us, rfl, _, b⟩ := rdl_cons h
    exact congrArg Nat.succ (ih b)
theorem RdAll.toL {g : Heap} {vs : List Value} {ds : List PyData} (h : RdAll g vs ds) : RdL g vs (ds.map .d) := h.ind (p := fun vs ds => RdL g vs (ds.map .d)) trivial fun r _ ih => ⟨r, ih⟩
theorem RdAll.head {g : Heap} {v : Value} {d : PyData} {vs : List Value} {ds : List PyData} (h : RdAll g (v :: vs) (d :: ds)) : Rp g v d := h.toL.1
theorem RdAll.tail {g : Heap} {v : Value} {d : PyData} {vs : List Value} {ds : List PyData} (h : RdAll g (v :: vs) (d :: ds)) : RdAll g vs ds := rdl_all h.toL.2
theorem RdAll.consL {g : Heap} {d : PyData} {vs : List Value} {ds : List PyData} (h : RdAll g vs (d :: ds)) : ∃ v us, vs = v :: us ∧ Rp g v d ∧ RdAll g us ds :=
  (rdl_cons h.toL).imp fun _ h => h.imp fun _ h => ⟨h.1, h.2.1, rdl_all h.2.2⟩
theorem RdAll.nilL {g : Heap} {vs : List Value} (h : RdAll g vs []) : vs = [] := rdl_nil h.toL
theorem RdAll.length {g : Heap} {vs : List Value} {ds : List PyData} (h : RdAll g vs ds) : vs.length = ds.length := h.ind (p := fun vs ds => vs.length = ds.length) rfl fun _ _ ih => congrArg Nat.succ ih
theorem RdAll.get {g : Heap} {vs : List Value} {ds : List PyData} (h : RdAll g vs ds) : ∀ (i : Nat) (v : Value) (d : PyData), vs[i]? = some v → ds[i]? = some d → Rd g v (.d d) :=
  h.ind (p := fun vs ds => ∀ (i : Nat) (v : Value) (d : PyData), vs[i]? = some v → ds[i]? = some d → Rd g v (.d d)) (fun _ _ _ e => nomatch e) fun r _ ih i v d e1 e2 => by
    cases i with
    | zero => exact Option.some.inj e1 ▸ Option.some.inj e2 ▸ r
    | succ i => exact ih i v d e1 e2
theorem RdAll.of_get {g : Heap} {vs : List Value} : ∀ {ds : List PyData}, vs.length = ds.length → (∀ (i : Nat) (v : Value) (d : PyData), vs[i]? = some v → ds[i]? = some d → Rd g v (.d d)) → RdAll g vs ds := by
  induction vs with
  | nil => exact fun hl _ => List.eq_nil_of_length_eq_zero hl.symm ▸ .nil
  | cons v vs ih =>
    intro ds hl h
    obtain ⟨d, ds, rfl⟩ := List.exists_cons_of_length_eq_add_one hl.symm
    exact .cons (h 0 v d rfl rfl) (ih (Nat.succ.inj hl) fun i v d e1 e2 => h (i + 1) v d e1 e2)
theorem RdAll.append {g : Heap} {vs us : List Value} {ds es : List PyData} (h : RdAll g vs ds) (k : RdAll g us es) : RdAll g (vs ++ us) (ds ++ es) := h.ind (p := fun vs ds => RdAll g (vs ++ us) (ds ++ es)) k fun r _ ih => .cons r ih
theorem RdAll.drop {g : Heap} {vs : List Value} {ds : List PyData} (h : RdAll g vs ds) (n : Nat) : RdAll g (vs.drop n) (ds.drop n) :=
  .of_get (by rw [List.length_drop, List.length_drop, h.length]) fun i v d e1 e2 => h.get (n + i) v d (by simpa using e1) (by simpa using e2)
theorem RdAll.take {g : Heap} {vs : List Value} {ds : List PyData} (h : RdAll g vs ds) (n : Nat) : RdAll g (vs.take n) (ds.take n) :=
  .of_get (by rw [List.length_take, List.length_take, h.length]) fun i v d e1 e2 => by
    rw [List.getElem?_take] at e1 e2
    split at e1 <;> simp_all
    exact h.get i v d e1 e2

/-- from one state to the next: all that stood stands; g grows by new things alone -/
structure Grow (g : Heap) (s : Shared) (g' : Heap) (s' : Shared) : Prop where
  same : ∃ h tk, s' = { s with heap := h, toks := tk }
  keep : Sub s.heap s'.heap
  sub : Sub g g'
  le : Sub g' s'.heap
  fresh : ∀ b o, g'.get? b = some o → g.get? b = some o ∨ (s.heap.get? b = none ∧ b ≠ sysModules)
  tok : s.toks ≤ s'.toks

theorem Grow.refl {g : Heap} {s : Shared} (h : Sub g s.heap) : Grow g s g s :=
  ⟨⟨s.heap, s.toks, rfl⟩, Sub.refl _, Sub.refl _, h, fun _ _ e => .inl e, Nat.le_refl _⟩
theorem Grow.trans {g g₁ g₂ : Heap} {s s₁ s₂ : Shared} (x : Grow g s g₁ s₁) (y : Grow g₁ s₁ g₂ s₂) : Grow g s g₂ s₂ where
  same := by
    obtain ⟨h, tk, e⟩ := x.same
    obtain ⟨h', tk', e'⟩ := y.same
    exact ⟨h', tk', by rw [e', e]⟩
  keep := x.keep.trans y.keep
  sub := x.sub.trans y.sub
  le := y.le
  fresh := fun b o e => by
    rcases y.fresh b o e with h | ⟨h, n⟩
    · exact x.fresh b o h
    · exact .inr ⟨sub_get_none x.keep h, n⟩
  tok := Nat.le_trans x.tok y.tok
theorem Grow.toks {g : Heap} {s : Shared} (h : Sub g s.heap) (t : Nat) (ht : s.toks ≤ t := by omega) : Grow g s g { s with toks := t } :=
  ⟨⟨s.heap, t, rfl⟩, Sub.refl _, Sub.refl _, h, fun _ _ e => .inl e, ht⟩

/-- the part of h at the addresses of P -/
noncomputable def part (h : Heap) (P : Addr → Prop) : Heap :=
  open Classical in ⟨h.objs.mapIdx fun i o => if P i then o else { o with data := .freed }, h.life⟩

theorem part_get_of {h : Heap} {P : Addr → Prop} {b : Addr} {o : Obj} (hP : P b) (e : h.get? b = some o) : (part h P).get? b = some o := by
  obtain ⟨e1, e2⟩ := Heap.get?_some_iff.mp e
  refine Heap.get?_some_iff.mpr ⟨?_, e2⟩
  simp only [part, Array.getElem?_mapIdx, e1, Option.map_some, if_pos hP]
theorem part_get {h : Heap} {P : Addr → Prop} {b : Addr} {o : Obj} (e : (part h P).get? b = some o) : P b ∧ h.get? b = some o := by
  obtain ⟨e1, e2⟩ := Heap.get?_some_iff.mp e
  simp only [part, Array.getElem?_mapIdx] at e1
  cases hx : h.objs[b]? with
  | none => rw [hx] at e1; cases e1
  | some x =>
    rw [hx] at e1
    simp only [Option.map_some, Option.some.injEq] at e1
    by_cases hP : P b
    · rw [if_pos hP] at e1; subst e1
      exact ⟨hP, Heap.get?_some_iff.mpr ⟨hx, e2⟩⟩
    · rw [if_neg hP] at e1; subst e1; cases e2

/-- all that is new may enter g -/
theorem grow_all {g : Heap} {s s' : Shared} (hs : Sub g s.heap) (same : ∃ h tk, s' = { s with heap := h, toks := tk }) (keep : Sub s.heap s'.heap) (ht : s.toks ≤ s'.toks := by exact Nat.le_refl _) :
    ∃ g', Grow g s g' s' ∧ ∀ b o, s'.heap.get? b = some o → s.heap.get? b = none → b ≠ sysModules → g'.get? b = some o := by
  refine ⟨part s'.heap fun b => (g.get? b).isSome ∨ (s.heap.get? b = none ∧ b ≠ sysModules), ⟨same, keep, fun b o e => ?_, fun b o e => (part_get e).2, fun b o e => ?_, ht⟩, fun b o e hn hne => part_get_of (.inr ⟨hn, hne⟩) e⟩
  · exact part_get_of (.inl (by rw [e]; rfl)) (keep _ _ (hs _ _ e))
  · obtain ⟨h1, h2⟩ := part_get e
    rcases h1 with h1 | h1
    · obtain ⟨o', ho'⟩ := Option.isSome_iff_exists.mp h1
      have := keep _ _ (hs _ _ ho')
      rw [h2] at this; cases this
      exact .inl ho'
    · exact .inr h1

theorem none_ne {α : Type} {o : Option α} {x : α} (h : o = none) (e : o = some x) : False := by rw [h] at e; cases e
theorem get_ne {h : Heap} {a b : Addr} {o : Obj} (n : h.get? a = none) (e : h.get? b = some o) : b ≠ a := fun hb => none_ne (hb ▸ n) e
theorem get_inj {h : Heap} {a : Addr} {o o' : Obj} (e : h.get? a = some o) (e' : h.get? a = some o') : o = o' := Option.some.inj (e.symm.trans e')

/-- g and the thing at D -/
noncomputable def addTo (h g : Heap) (D : Addr) : Heap := part h fun b => (g.get? b).isSome ∨ b = D
theorem addTo_sub {h g : Heap} {D : Addr} (k : Sub g h) : Sub g (addTo h g D) := fun b o e => part_get_of (.inl (by rw [e]; rfl)) (k b o e)
theorem addTo_le {h g : Heap} {D : Addr} : Sub (addTo h g D) h := fun _ _ e => (part_get e).2
theorem addTo_new {h g : Heap} {D : Addr} {o : Obj} (e : h.get? D = some o) : (addTo h g D).get? D = some o := part_get_of (.inr rfl) e
theorem addTo_key {h g : Heap} {D b : Addr} {o : Obj} (k : Sub g h) (e : (addTo h g D).get? b = some o) : g.get? b = some o ∨ b = D := by
  obtain ⟨h1, h2⟩ := part_get e
  refine h1.imp (fun h1 => ?_) id
  obtain ⟨o', e'⟩ := Option.isSome_iff_exists.mp h1
  rw [get_inj h2 (k _ _ e')]; exact e'
theorem addTo_off {h g : Heap} {D b : Addr} (k : Sub g h) (n : g.get? b = none) (hb : b ≠ D) : (addTo h g D).get? b = none := by
  cases e : (addTo h g D).get? b with
  | none => rfl
  | some o => exact (addTo_key k e).elim (fun h => (none_ne n h).elim) fun h => absurd h hb
theorem Grow.addTo {g g' : Heap} {s s' : Shared} {D : Addr} (G : Grow g s g' s') (hD : s.heap.get? D = none) (hne : D ≠ sysModules) : Grow g s (addTo s'.heap g' D) s' :=
  ⟨G.same, G.keep, G.sub.trans (addTo_sub G.le), addTo_le, fun b o e => (addTo_key G.le e).elim (G.fresh b o) fun h => .inr (h ▸ ⟨hD, hne⟩), G.tok⟩
theorem Grow.move {g g' : Heap} {s s' : Shared} {h : Heap} {t : Nat} (G : Grow g s g' s') (X : Addr → Prop) (hk : ∀ b o, ¬ X b → s'.heap.get? b = some o → h.get? b = some o) (hX : ∀ b, X b → g'.get? b = none ∧ s.heap.get? b = none)
    (ht : s'.toks ≤ t) : Grow g s g' { s' with heap := h, toks := t } where
  same := let ⟨_, _, e⟩ := G.same; ⟨h, t, by rw [e]⟩
  keep := fun b o e => hk b o (fun x => none_ne (hX b x).2 e) (G.keep b o e)
  sub := G.sub
  le := fun b o e => hk b o (fun x => none_ne (hX b x).1 e) (G.le b o e)
  fresh := G.fresh
  tok := Nat.le_trans G.tok ht

theorem get?_size_none (h : Heap) : h.get? h.objs.size = none := by
  cases e : h.get? h.objs.size with
  | none => rfl
  | some o => exact absurd (Heap.lt_size e) (Nat.lt_irrefl _)

end Mine

/-! Calc2 -/
open PySem PySem.W PyProof.Rows
set_option Elab.async false
set_option maxRecDepth 100000
namespace Mine

/-- what stands for a datum -/
noncomputable def RpC (g : Heap) (v : Value) : PyData → Prop
  | .none => v = .none
  | .bool b => v = .bool b
  | .int i => ∃ t, v = .int i t
  | .str x => ∃ t, v = .str x t
  | .list xs => ∃ a vs, v = .ref a ∧ g.PlainList a vs ∧ RdAll g vs.toList xs
  | .tuple xs => ∃ a vs n, v = .ref a ∧ g.get? a = some { cls := .type "tuple", data := .seq vs n } ∧ RdAll g vs.toList xs
  | .dict _ => True
theorem Rp.inv {g : Heap} {v : Value} {x : PyData} (h : Rp g v x) : RpC g v x := by
  cases h with
  | none | bool | dict => first | rfl | exact trivial
  | int | str => exact ⟨_, rfl⟩
  | list h1 h2 h3 => exact ⟨_, _, rfl, ⟨_, h1⟩, h3⟩
  | tuple h1 h3 => exact ⟨_, _, _, rfl, h1, h3⟩
theorem rd_int {g : Heap} {v : Value} {i : Int} (h : Rd g v (.d (.int i))) : ∃ t, v = .int i t := Rp.inv h
theorem rd_str {g : Heap} {v : Value} {x : Str} (h : Rd g v (.d (.str x))) : ∃ t, v = .str x t := Rp.inv h
theorem rd_bool {g : Heap} {v : Value} {b : Bool} (h : Rd g v (.d (.bool b))) : v = .bool b := Rp.inv h
theorem rd_none {g : Heap} {v : Value} (h : Rd g v (.d .none)) : v = .none := Rp.inv h
theorem rd_list {g : Heap} {v : Value} {xs : List PyData} (h : Rd g v (.d (.list xs))) : ∃ a vs, v = .ref a ∧ g.PlainList a vs ∧ RdAll g vs.toList xs := Rp.inv h
theorem rd_tuple {g : Heap} {v : Value} {xs : List PyData} (h : Rd g v (.d (.tuple xs))) : ∃ a vs n, v = .ref a ∧ g.get? a = some { cls := .type "tuple", data := .seq vs n } ∧ RdAll g vs.toList xs := Rp.inv h
theorem rd_mk_int {g : Heap} (i : Int) (t : Tok) : Rd g (.int i t) (.d (.int i)) := Rp.int i t
theorem rd_mk_str {g : Heap} (x : Str) (t : Tok) : Rd g (.str x t) (.d (.str x)) := Rp.str x t
theorem rd_mk_bool {g : Heap} (b : Bool) : Rd g (.bool b) (.d (.bool b)) := Rp.bool b
theorem rd_mk_none {g : Heap} : Rd g .none (.d .none) := Rp.none
theorem rd_mk_list {g : Heap} {a : Addr} {vs : Array Value} {n : Nat} {xs : List PyData} (h1 : g.get? a = some { cls := .type "list", data := .seq vs n }) (h4 : RdAll g vs.toList xs) (ha : a ≠ sysModules) :
    Rd g (.ref a) (.d (.list xs)) := Rp.list h1 ha h4
theorem rd_mk_tuple {g : Heap} {a : Addr} {vs : Array Value} {n : Nat} {xs : List PyData} (h1 : g.get? a = some { cls := .type "tuple", data := .seq vs n }) (h4 : RdAll g vs.toList xs) :
    Rd g (.ref a) (.d (.tuple xs)) := Rp.tuple h1 h4

/-! ## where we stand -/
structure Cx where
  prog : Program
  w : World
  p : Program
  loose : List Str
  mean : ExcName → Option Value
  mg : Str → Option Value
  mb : Str → Option Value
  K : Frag

/-- what the text has laid and no step touches -/
structure Bs (p : Program) (mg mb : Str → Option Value) (h : Heap) : Prop where
  g : h.Ns mainGlobals mg
  b : h.Ns builtinsNs mb
  nolimit : h.NoLimit
  fn : ∀ d ∈ recsOf p, ∃ a o pm code doc, mg d.name = some (.ref a) ∧ h.get? a = some o ∧ o.data = .func (Calls.docDef d.name d.params d.body d.scope pm code doc) ∧ h.CodeRec code d.name
  builtins : ∀ x : Str, x ≠ "__name__" → mb x = bootBuiltins x
  bmain : ∃ bm ob, mg "__builtins__" = some (.ref bm) ∧ bm ≠ builtinsNs ∧ h.get? bm = some ob ∧ ob.cls = .type "module" ∧ ob.dict = some builtinsNs ∧ ob.data = .plain
theorem Bs.keeps {p : Program} {mg mb : Str → Option Value} {h h' : Heap} (T : Bs p mg mb h) (hk : Sub h h') : Bs p mg mb h' where
  g := T.g.keeps hk
  b := T.b.keeps hk
  nolimit := T.nolimit.keeps hk
  fn := fun d hd => (T.fn d hd).imp fun _ h => h.imp fun _ h => h.imp fun _ h => h.imp fun _ h => h.imp fun _ h => ⟨h.1, hk _ _ h.2.1, h.2.2.1, h.2.2.2.keeps hk⟩
  builtins := T.builtins
  bmain := T.bmain.imp fun _ h => h.imp fun _ h => ⟨h.1, h.2.1, hk _ _ h.2.2.1, h.2.2.2⟩
noncomputable def Cx.Base (c : Cx) (g : Heap) : Prop := Bs c.p c.mg c.mb g ∧ c.K.In g ∧ True
theorem Cx.Base.mono {c : Cx} {g g' : Heap} (k : Sub g g') (b : c.Base g) : c.Base g' := ⟨b.1.keeps k, b.2.1.keeps k, trivial⟩
noncomputable abbrev Cx.M (c : Cx) : Model := model c.prog c.w

noncomputable def Room (A : Around) (k : Nat) : Prop := A.handled = none ∧ (2 ≤ k → A.guards = some []) ∧ A.depth + k < recursionLimit ∧ A.units + 16 * k + 400 < cLine
theorem Room.less {A : Around} {k j : Nat} (h : Room A k) (hj : j ≤ k) : Room A j :=
  ⟨h.1, fun h5 => h.2.1 (Nat.le_trans h5 hj), by have := h.2.2.1; omega, by have := h.2.2.2; omega⟩
theorem Room.deeper {A : Around} {k : Nat} (h : Room A (k + 1)) (env : Env) : Room (A.deeper env) k :=
  ⟨h.1, fun h5 => h.2.1 (Nat.le_succ_of_le h5), by have := h.2.2.1; show A.depth + 1 + k < _; omega, by have := h.2.2.2; show A.units + 3 + 16 * k + 400 < _; omega⟩
theorem Room.in1 {A : Around} {k : Nat} (h : Room A (k + 1)) : Room A.in1 k :=
  ⟨h.1, fun h5 => h.2.1 (Nat.le_succ_of_le h5), by have := h.2.2.1; show A.depth + k < _; (first | decide | assumption | exact Nat.le_trans (by assumption) (by decide) | exact Nat.le_of_lt (by assumption) | exact Nat.le_of_not_lt (by assumption) | exact Nat.lt_of_not_le (by assumption) | exact Nat.le_trans (by assumption) (by assumption) | exact Nat.lt_of_lt_of_le (by assumption) (by assumption) | exact Nat.lt_of_le_of_lt (by assumption) (by assumption) | lia | omega), by have := h.2.2.2; show A.units + 1 + 16 * k + 400 < _; omega⟩

/-- there was a token ahead -/
noncomputable def Tk (k : Nat) (s : Shared) : Prop := 2 ≤ k → 1 ≤ s.toks
theorem Tk.trans {k : Nat} {s s' : Shared} (h : Tk k s) (t : s.toks ≤ s'.toks) : Tk k s' := fun h2 => Nat.le_trans (h h2) t
theorem Tk.less {k j : Nat} {s : Shared} (h : Tk k s) (hj : j ≤ k) : Tk j s := fun h2 => h (Nat.le_trans h2 hj)

structure EnvOk (sc : Scope) (env : Env) : Prop where
  scope : env.scope = sc
  kind : sc.kind = .function
  globals : env.globals = mainGlobals
  builtins : env.builtins = builtinsNs
  cells : ∀ x, sc.names.lookup x = some .cell → ∃ a, env.cells.lookup x = some a

theorem EnvOk.kindOf {sc : Scope} {env : Env} (h : EnvOk sc env) (x : Str) : env.kindOf x = sc.names.lookup x := by rw [← h.scope]; rfl

inductive LV where
  | p (v : PV)
  | own (xs : List PyData)
noncomputable abbrev LM := List (Str × LV)
noncomputable def lset : LM → Str → LV → LM
  | [], x, v => [(x, v)]
  | (y, u) :: r, x, v => if y == x then (y, v) :: r else (y, u) :: lset r x v

theorem lset_lookup (x : Str) (v : LV) : ∀ (lm : LM) (y : Str), (lset lm x v).lookup y = if y == x then some v else lm.lookup y
  | [], y => by
    show List.lookup y [(x, v)] = _
    rw [List.lookup_cons]
    cases h : y == x <;> simp
  | (z, u) :: r, y => by
    show List.lookup y (if z == x then (z, v) :: r else (z, u) :: lset r x v) = _
    by_cases hz : z == x
    · rw [if_pos hz, List.lookup_cons, List.lookup_cons]
      have : z = x := beq_iff_eq.mp hz
      subst this
      cases y == z <;> simp
    · rw [if_neg hz, List.lookup_cons, lset_lookup x v r y, List.lookup_cons]
      cases hyz : y == z with
      | true =>
        have e : y = z := beq_iff_eq.mp hyz
        subst e
        simp [hz]
      | false => rfl

noncomputable def LvOk (g h : Heap) (v : Value) : LV → Prop
  | .p d => Rd g v d
  | .own xs => ∃ l vs, v = .ref l ∧ h.PlainList l vs ∧ RdAll g vs.toList xs
theorem LvOk.mono {g g' h h' : Heap} (k : Sub g g') (k' : Sub h h') {v : Value} : ∀ {d : LV}, LvOk g h v d → LvOk g' h' v d
  | .p _, x => Rd.mono k x
  | .own _, ⟨l, vs, e, n, r⟩ => ⟨l, vs, e, n.at fun o e => k' _ o e, r.mono k⟩

/-- the name x holds v in the frame of env -/
noncomputable def Has (env : Env) (h : Heap) (x : Str) (v : Value) : Prop :=
  (env.kindOf x = some .local ∧ ∃ m, h.Ns env.locals m ∧ m x = some v) ∨
  (env.kindOf x = some .cell ∧ ∃ cc, env.cells.lookup x = some cc ∧ h.IsCell cc (some v)) ∨
  (env.kindOf x = some .free ∧ (x == ("__classdict__" : Str)) = false ∧ ∃ cc, env.cells.lookup x = some cc ∧ h.IsCell cc (some v))
theorem Has.mono {env : Env} {h h' : Heap} (k : Sub h h') {x : Str} {v : Value} (a : Has env h x v) : Has env h' x v :=
  a.imp (.imp id fun m => m.imp fun _ n => ⟨n.1.keeps k, n.2⟩) (.imp (.imp id fun c => c.imp fun _ n => ⟨n.1, n.2.keeps k⟩) (.imp id (.imp id fun c => c.imp fun _ n => ⟨n.1, n.2.keeps k⟩)))

noncomputable def Loc (env : Env) (g h : Heap) (lm : LM) : Prop := ∀ x d, lm.lookup x = some d → ∃ v, Has env h x v ∧ LvOk g h v d
theorem Loc.mono {env : Env} {g g' h h' : Heap} {lm : LM} (k : Sub g g') (k' : Sub h h') (l : Loc env g h lm) : Loc env g' h' lm := fun x d e =>
  let ⟨v, a, b⟩ := l x d e
  ⟨v, a.mono k', b.mono k k'⟩

structure At (c : Cx) (k : Nat) (sc : Scope) (lm : LM) (A : Around) (env : Env) (g : Heap) (s : Shared) : Prop where
  room : Room A k
  envOk : EnvOk sc env
  base : c.Base g
  sub : Sub g s.heap
  loc : Loc env g s.heap lm
  tk : Tk k s
theorem At.grow {c : Cx} {k : Nat} {sc : Scope} {lm : LM} {A : Around} {env : Env} {g g' : Heap} {s s' : Shared} (a : At c k sc lm A env g s) (x : Grow g s g' s') : At c k sc lm A env g' s' :=
  ⟨a.room, a.envOk, a.base.mono x.sub, x.le, a.loc.mono x.sub x.keep, a.tk.trans x.tok⟩
theorem At.less {c : Cx} {k j : Nat} {sc : Scope} {lm : LM} {A : Around} {env : Env} {g : Heap} {s : Shared} (a : At c k sc lm A env g s) (hj : j ≤ k) : At c j sc lm A env g s :=
  ⟨a.room.less hj, a.envOk, a.base, a.sub, a.loc, a.tk.less hj⟩

noncomputable abbrev Bot : Value → Shared → Prop := fun _ _ => False
/-- the tree ends with a value that is r, all that stood stands -/
noncomputable def VE (c : Cx) (A : Around) (t : Sem Value) (g : Heap) (s : Shared) (r : PV) : Prop :=
  wpAny c.M A t (fun v s' => ∃ g', Grow g s g' s' ∧ Rd g' v r) Bot s
noncomputable def PE (c : Cx) (k : Nat) (sc : Scope) (lm : LM) (e : Expr) (r : PV) : Prop :=
  ∀ A env g s, At c k sc lm A env g s → VE c A (eval e env) g s r
/-- a test -/
noncomputable def PT (c : Cx) (k : Nat) (sc : Scope) (lm : LM) (e : Expr) (b : Bool) : Prop :=
  ∀ A env g s, At c k sc lm A env g s → wpAny c.M A (isTrue e env (eval e env)) (fun b' s' => b' = b ∧ ∃ g', Grow g s g' s') Bot s

theorem VE.go {c : Cx} {A : Around} {t : Sem Value} {g : Heap} {s : Shared} {r : PV} {Q E : Value → Shared → Prop} (h : VE c A t g s r) (hf : ∀ v s' g', Grow g s g' s' → Rd g' v r → Q v s') : wpAny c.M A t Q E s :=
  wpAny_mono h (fun v s' ⟨g', G, hv⟩ => hf v s' g' G hv) fun _ _ x => x.elim
theorem te_go {c : Cx} {A : Around} {t : Sem Bool} {g : Heap} {s : Shared} {b : Bool} {Q : Bool → Shared → Prop} {E : Value → Shared → Prop} (h : wpAny c.M A t (fun b' s' => b' = b ∧ ∃ g', Grow g s g' s') Bot s)
    (hf : ∀ s' g', Grow g s g' s' → Q b s') : wpAny c.M A t Q E s :=
  wpAny_mono h (fun b' s' ⟨e, g', G⟩ => e ▸ hf s' g' G) fun _ _ x => x.elim
theorem VE.up {c : Cx} {A : Around} {t : Sem Value} {g g₁ : Heap} {s s₁ : Shared} {r : PV} (h : VE c A t g₁ s₁ r) (G : Grow g s g₁ s₁) : wpAny c.M A t (fun v s' => ∃ g', Grow g s g' s' ∧ Rd g' v r) Bot s₁ :=
  wpAny_mono h (fun _ _ h => h.imp fun _ h => ⟨G.trans h.1, h.2⟩) fun _ _ x => x
theorem gr_go {c : Cx} {α : Type} {A : Around} {t : Sem α} {g : Heap} {s : Shared} {R : Heap → α → Prop} {Q : α → Shared → Prop} {E : Value → Shared → Prop} (h : wpAny c.M A t (fun v s' => ∃ g', Grow g s g' s' ∧ R g' v) Bot s)
    (hf : ∀ v s' g', Grow g s g' s' → R g' v → Q v s') : wpAny c.M A t Q E s :=
  wpAny_mono h (fun v s' ⟨g', G, hv⟩ => hf v s' g' G hv) fun _ _ x => x.elim
theorem PE.less {c : Cx} {k j : Nat} {sc : Scope} {lm : LM} {e : Expr} {r : PV} (h : PE c j sc lm e r) (hj : j ≤ k) : PE c k sc lm e r :=
  fun A env g s a => h A env g s (a.less hj)
theorem PE.weaken {c : Cx} {k : Nat} {sc : Scope} {lm lm' : LM} {e : Expr} {r : PV} (h : PE c k sc lm e r) (hl : ∀ x d, lm.lookup x = some d → lm'.lookup x = some d) : PE c k sc lm' e r :=
  fun A env g s a => h A env g s ⟨a.room, a.envOk, a.base, a.sub, fun x d e => a.loc x d (hl x d e), a.tk⟩

section
variable {c : Cx} {k : Nat} {sc : Scope} {lm : LM}

theorem VE.bind {A : Around} {t : Sem Value} {f : Value → Sem Value} {g : Heap} {s : Shared} {r r' : PV} (h : VE c A t g s r) (hf : ∀ v g' s', Grow g s g' s' → Rd g' v r → VE c A (f v) g' s' r') : VE c A (t >>= f) g s r' := by
  refine wpAny_bind (VE.go h (fun v s' g' G hv => ?_))
  exact VE.up (hf v g' s' G hv) G
theorem VE.pure {A : Around} {g : Heap} {s : Shared} {v : Value} {r : PV} (hs : Sub g s.heap) (hv : Rd g v r) : VE c A (Pure.pure v) g s r := wpAny_pure ⟨g, Grow.refl hs, hv⟩

theorem PE.local_ {x : Str} {pos : Pos} {d : PV} (h : lm.lookup x = some (.p d)) (hd : (x == ("__debug__" : Str)) = false := by decide) : PE c k sc lm (.Name x pos) d := by
  intro A env g s a
  obtain ⟨v, hv, hd'⟩ := a.loc x _ h
  have kf : env.scope.kind = .function := by rw [a.envOk.scope]; exact a.envOk.kind
  refine wpAny_Name ?_ hd
  rcases hv with ⟨hk, m, hn, hm⟩ | ⟨hk, cc, hc, hm⟩ | ⟨hk, hcd, cc, hc, hm⟩
  · exact wpAny_loadName_local kf hk hn hm ⟨g, Grow.refl a.sub, hd'⟩
  · exact wpAny_loadName_cell kf hk hc hm ⟨g, Grow.refl a.sub, hd'⟩
  · exact wpAny_loadName_free kf hk hc hm ⟨g, Grow.refl a.sub, hd'⟩ hcd

theorem PE.int_ {i : Int} {q : Nat} {pos : Pos} : PE c k sc lm (.Constant (.int i) q pos) (.d (.int i)) :=
  fun _ _ g _ a => wpAny_Constant_int ⟨g, Grow.toks a.sub _, rd_mk_int _ _⟩
theorem PE.str_ {x : Str} {q : Nat} {pos : Pos} : PE c k sc lm (.Constant (.str x) q pos) (.d (.str x)) :=
  fun _ _ g _ a => wpAny_Constant_str ⟨g, Grow.toks a.sub _, rd_mk_str _ _⟩
theorem PE.bool_ {b : Bool} {q : Nat} {pos : Pos} : PE c k sc lm (.Constant (.bool b) q pos) (.d (.bool b)) :=
  fun _ _ g _ a => wpAny_Constant_bool ⟨g, Grow.refl a.sub, rd_mk_bool _⟩
theorem PE.none_ {q : Nat} {pos : Pos} : PE c k sc lm (.Constant .none q pos) (.d .none) :=
  fun _ _ g _ a => wpAny_Constant_none ⟨g, Grow.refl a.sub, rd_mk_none⟩

/-- a global name that holds immediate data -/
theorem PE.global {x : Str} {pos : Pos} {v : Value} {r : PV} (hx : sc.names.lookup x = some .globalImplicit) (hv : c.mg x = some v) (hr : ∀ g, Rd g v r) (hd : (x == ("__debug__" : Str)) = false := by decide) :
    PE c k sc lm (.Name x pos) r := by
  intro A env g s a
  refine Calls.Name_function_global (by rw [a.envOk.scope]; exact a.envOk.kind) (by rw [a.envOk.kindOf]; exact hx) ?_ hd
  exact Calls.loadGlobal_global (mg := c.mg) (by rw [a.envOk.globals]; exact a.base.1.g.keeps a.sub) hv ⟨g, Grow.refl a.sub, hr g⟩
/-- a built-in's name that stands for a type -/
theorem PE.type {x : Str} {pos : Pos} {n : String} (hx : sc.names.lookup x = some .globalImplicit) (hm : c.mg x = none) (hb : bootBuiltins x = some (.type n)) (hn : x ≠ "__name__" := by decide) (hd : (x == ("__debug__" : Str)) = false := by decide) :
    PE c k sc lm (.Name x pos) (.ty n) := by
  intro A env g s a
  refine Calls.Name_function_global (by rw [a.envOk.scope]; exact a.envOk.kind) (by rw [a.envOk.kindOf]; exact hx) ?_ hd
  exact Calls.loadGlobal_builtin (mg := c.mg) (mb := c.mb) (by rw [a.envOk.globals]; exact a.base.1.g.keeps a.sub) hm (by rw [a.envOk.builtins]; exact a.base.1.b.keeps a.sub) ((a.base.1.builtins x hn).trans hb) ⟨g, Grow.refl a.sub, rfl⟩

/-- a built-in's name -/
theorem At.bn {A : Around} {env : Env} {g : Heap} {s : Shared} {x : Str} {pos : Pos} {v : Value} {Q E : Value → Shared → Prop} (a : At c k sc lm A env g s) (hx : sc.names.lookup x = some .globalImplicit) (hm : c.mg x = none) (hb : bootBuiltins x = some v) (h : Q v s)
    (hn : x ≠ "__name__" := by decide) (hd : (x == ("__debug__" : Str)) = false := by decide) : wpAny c.M A (eval (.Name x pos) env) Q E s := by
  refine Calls.Name_function_global (by rw [a.envOk.scope]; exact a.envOk.kind) (by rw [a.envOk.kindOf]; exact hx) ?_ hd
  exact Calls.loadGlobal_builtin (mg := c.mg) (mb := c.mb) (by rw [a.envOk.globals]; exact a.base.1.g.keeps a.sub) hm (by rw [a.envOk.builtins]; exact a.base.1.b.keeps a.sub) ((a.base.1.builtins x hn).trans hb) h

/-! operators -/
noncomputable def BinSem (c : Cx) (k : Nat) (op : Operator) (x y z : PV) : Prop :=
  ∀ A g s a b, Room A k → c.Base g → Sub g s.heap → Rd g a x → Rd g b y → VE c A (binaryOp op a b) g s z
noncomputable def CmpSem (c : Cx) (k : Nat) (op : CmpOp) (x y : PV) (b : Bool) : Prop :=
  ∀ A g s u v, Room A k → c.Base g → Sub g s.heap → Rd g u x → Rd g v y → VE c A (compareOp op u v) g s (.d (.bool b))
noncomputable def UnSem (c : Cx) (k : Nat) (op : UnaryOp) (x z : PV) : Prop :=
  ∀ A g s a, Room A k → c.Base g → Sub g s.heap → Rd g a x → VE c A (unaryOp op a) g s z
/-- truth of a value -/
noncomputable def TruSem (c : Cx) (k : Nat) (x : PV) (b : Bool) : Prop :=
  ∀ A g s a, Room A k → c.Base g → Sub g s.heap → Rd g a x → wpAny c.M A (truthy a) (fun b' s' => b' = b ∧ ∃ g', Grow g s g' s') Bot s

theorem PE.bin {op : Operator} {l r : Expr} {pos : Pos} {x y z : PV} (hl : PE c k sc lm l x) (hr : PE c k sc lm r y) (ho : BinSem c k op x y z) : PE c k sc lm (.BinOp l op r pos) z := by
  intro A env g s a
  refine wpAny_BinOp (VE.go (hl A env g s a) (fun u s₁ g₁ G₁ hu => ?_))
  refine VE.go (hr A env g₁ s₁ (a.grow G₁)) (fun v s₂ g₂ G₂ hv => ?_)
  refine VE.go (ho A g₂ s₂ u v a.room ((a.grow G₁).grow G₂).base ((a.grow G₁).grow G₂).sub (hu.mono G₂.sub) hv) (fun z s₃ g₃ G₃ hz => ?_)
  exact ⟨g₃, (G₁.trans G₂).trans G₃, hz⟩
theorem PE.cmp {op : CmpOp} {l r : Expr} {pos : Pos} {x y : PV} {b : Bool} (hl : PE c k sc lm l x) (hr : PE c k sc lm r y) (ho : CmpSem c k op x y b) (hm : behindInMarks op r = false := by with_unfolding_all rfl) :
    PE c k sc lm (.Compare l [op] [r] pos) (.d (.bool b)) := by
  intro A env g s a
  refine wpAny_Compare1 (VE.go (hl A env g s a) (fun u s₁ g₁ G₁ hu => ?_)) hm
  refine VE.go (hr A env g₁ s₁ (a.grow G₁)) (fun v s₂ g₂ G₂ hv => ?_)
  refine VE.go (ho A g₂ s₂ u v a.room ((a.grow G₁).grow G₂).base ((a.grow G₁).grow G₂).sub (hu.mono G₂.sub) hv) (fun z s₃ g₃ G₃ hz => ?_)
  exact ⟨g₃, (G₁.trans G₂).trans G₃, hz⟩
theorem PE.un {op : UnaryOp} {e : Expr} {pos : Pos} {x z : PV} (he : PE c k sc lm e x) (ho : UnSem c k op x z) : PE c k sc lm (.UnaryOp op e pos) z := by
  intro A env g s a
  refine wpAny_UnaryOp (VE.go (he A env g s a) (fun u s₁ g₁ G₁ hu => ?_))
  refine VE.go (ho A g₁ s₁ u a.room (a.grow G₁).base (a.grow G₁).sub hu) (fun z s₂ g₂ G₂ hz => ?_)
  exact ⟨g₂, G₁.trans G₂, hz⟩
theorem PE.ifExp {t b o : Expr} {pos : Pos} {q : Bool} {r : PV} (ht : PT c k sc lm t q) (hb : q = true → PE c k sc lm b r) (ho : q = false → PE c k sc lm o r) : PE c k sc lm (.IfExp t b o pos) r := by
  intro A env g s a
  refine wpAny_IfExp (te_go (ht A env g s a) (fun s₁ g₁ G₁ => ?_))
  cases q with
  | true => exact VE.up (hb rfl A env g₁ s₁ (a.grow G₁)) G₁
  | false => exact VE.up (ho rfl A env g₁ s₁ (a.grow G₁)) G₁

/-! tests -/
theorem PT.cmp {op : CmpOp} {l r : Expr} {pos : Pos} {x y : PV} {b : Bool} (hl : PE c k sc lm l x) (hr : PE c k sc lm r y) (ho : CmpSem c k op x y b) (hm : behindInMarks op r = false := by with_unfolding_all rfl) :
    PT c k sc lm (.Compare l [op] [r] pos) b := by
  intro A env g s a
  refine wpAny_isTrue_Compare1 (VE.go (hl A env g s a) (fun u s₁ g₁ G₁ hu => ?_)) hm
  refine VE.go (hr A env g₁ s₁ (a.grow G₁)) (fun v s₂ g₂ G₂ hv => ?_)
  refine VE.go (ho A g₂ s₂ u v a.room ((a.grow G₁).grow G₂).base ((a.grow G₁).grow G₂).sub (hu.mono G₂.sub) hv) (fun z s₃ g₃ G₃ hz => ?_)
  rw [rd_bool hz]
  exact wpAny_truthy_bool ⟨rfl, g₃, (G₁.trans G₂).trans G₃⟩
theorem PT.not {e : Expr} {pos : Pos} {b : Bool} (h : PT c k sc lm e b) : PT c k sc lm (.UnaryOp .Not e pos) (!b) := by
  intro A env g s a
  exact wpAny_isTrue_Not (wpAny_mono (h A env g s a) (fun b' s₁ ⟨e, G⟩ => ⟨by rw [e], G⟩) fun _ _ x => x)
theorem PT.value {e : Expr} {x : PV} {b : Bool} (he : PE c k sc lm e x) (ht : TruSem c k x b) (hf : ∀ env whole, isTrue e env whole = (do let v ← whole; standAt e.pos; holding [v] (truthy v)) := by intros; rfl) : PT c k sc lm e b := by
  intro A env g s a
  refine wpAny_isTrue_value (VE.go (he A env g s a) (fun u s₁ g₁ G₁ hu => ?_)) (hf _ _)
  exact wpAny_mono (ht A g₁ s₁ u a.room (a.grow G₁).base (a.grow G₁).sub hu) (fun b' s₂ ⟨e, g₂, G₂⟩ => ⟨e, g₂, G₁.trans G₂⟩) fun _ _ x => x

noncomputable def PAll (c : Cx) (k : Nat) (sc : Scope) (lm : LM) (op : BoolOp) (es : List Expr) (b : Bool) : Prop :=
  ∀ A env g s, At c k sc lm A env g s → wpAny c.M A (allTrue op es env) (fun b' s' => b' = b ∧ ∃ g', Grow g s g' s') Bot s
theorem PT.boolOp {op : BoolOp} {es : List Expr} {pos : Pos} {b : Bool} (h : PAll c k sc lm op es b) : PT c k sc lm (.BoolOp op es pos) b :=
  fun A env g s a => wpAny_isTrue_BoolOp (h A env g s a)
theorem PAll.andNil : PAll c k sc lm .And [] true := fun _ _ g _ a => wpAny_allTrue_And_nil ⟨rfl, g, Grow.refl a.sub⟩
theorem PAll.orNil : PAll c k sc lm .Or [] false := fun _ _ g _ a => wpAny_allTrue_Or_nil ⟨rfl, g, Grow.refl a.sub⟩
theorem PAll.and {e : Expr} {es : List Expr} {b q : Bool} (h : PT c k sc lm e b) (hs : b = true → PAll c k sc lm .And es q) : PAll c k sc lm .And (e :: es) (b && q) := by
  intro A env g s a
  refine wpAny_allTrue_And_cons (te_go (h A env g s a) (fun s₁ g₁ G₁ => ?_))
  cases b with
  | false => exact ⟨rfl, g₁, G₁⟩
  | true => exact te_go (hs rfl A env g₁ s₁ (a.grow G₁)) fun s₂ g₂ G₂ => ⟨rfl, g₂, G₁.trans G₂⟩
theorem PAll.or {e : Expr} {es : List Expr} {b q : Bool} (h : PT c k sc lm e b) (hs : b = false → PAll c k sc lm .Or es q) : PAll c k sc lm .Or (e :: es) (b || q) := by
  intro A env g s a
  refine wpAny_allTrue_Or_cons (te_go (h A env g s a) (fun s₁ g₁ G₁ => ?_))
  cases b with
  | true => exact ⟨rfl, g₁, G₁⟩
  | false => exact te_go (hs rfl A env g₁ s₁ (a.grow G₁)) fun s₂ g₂ G₂ => ⟨rfl, g₂, G₁.trans G₂⟩

/-! displays, arguments -/
noncomputable def PL (c : Cx) (k : Nat) (sc : Scope) (lm : LM) (es : List Expr) (rs : List PV) : Prop :=
  ∀ A env g s pos, At c k sc lm A env g s → wpAny c.M A (spliced (backTo pos (starEach es env))) (fun vs s' => ∃ g', Grow g s g' s' ∧ RdL g' vs rs) Bot s
theorem PL.nil : PL c k sc lm [] [] := fun _ _ g _ _ a => spliced_none ⟨g, Grow.refl a.sub, trivial⟩
theorem PL.cons {e : Expr} {es : List Expr} {r : PV} {rs : List PV} (h : PE c k sc lm e r) (hs : PL c k sc lm es rs) (he : ∀ env, starEach (e :: es) env = (false, eval e env) :: starEach es env := by intro _; rfl) :
    PL c k sc lm (e :: es) (r :: rs) := by
  intro A env g s pos a
  refine spliced_more (VE.go (h A env g s a) (fun u s₁ g₁ G₁ hu => ?_)) (he env)
  exact gr_go (hs A env g₁ s₁ pos (a.grow G₁)) (fun vs s₂ g₂ G₂ hv => ⟨g₂, G₁.trans G₂, hu.mono G₂.sub, hv⟩)

/-- a new object of g -/
theorem grow_new {g : Heap} {s : Shared} (hb : c.Base g) (hs : Sub g s.heap) (o : Obj) (ho : o.isFreed = false) :
    ∃ g', Grow g s g' { s with heap := s.heap.push o } ∧ g'.get? s.heap.objs.size = some o ∧ s.heap.objs.size ≠ sysModules := by
  have hne : s.heap.objs.size ≠ sysModules := by
    have h : (3 : Nat) < s.heap.objs.size := (hb.1.g.keeps hs).lt
    intro e
    have e' : s.heap.objs.size = (1 : Nat) := e
    (first | lia | omega)
  obtain ⟨g', G, hn⟩ := grow_all (s' := { s with heap := s.heap.push o }) hs ⟨_, s.toks, rfl⟩ (fun b o' e => Heap.get?_push_of_some _ e)
  exact ⟨g', G, hn _ _ (Heap.get?_push_size _ ho) (get?_size_none _) hne, hne⟩

theorem VE.newList {A : Around} {g : Heap} {s : Shared} {vs : List Value} {xs : List PyData} (hb : c.Base g) (hs : Sub g s.heap) (hv : RdAll g vs xs) (hsz : vs.length ≤ sizeLine) : VE c A (newList vs) g s (.d (.list xs)) := by
  obtain ⟨g', G, hg, hne⟩ := grow_new hb hs { cls := .type "list", data := .seq vs.toArray } rfl
  exact wpAny_newList (h := ⟨g', G, rd_mk_list hg (by simpa using hv.mono G.sub) hne⟩) hsz
theorem VE.newTuple {A : Around} {g : Heap} {s : Shared} {vs : List Value} {xs : List PyData} (hb : c.Base g) (hs : Sub g s.heap) (hv : RdAll g vs xs) (hsz : vs.length ≤ sizeLine) : VE c A (newTuple vs) g s (.d (.tuple xs)) := by
  obtain ⟨g', G, hg, hne⟩ := grow_new hb hs { cls := .type "tuple", data := .seq vs.toArray } rfl
  exact wpAny_newTuple (h := ⟨g', G, rd_mk_tuple hg (by simpa using hv.mono G.sub)⟩) hsz

theorem PE.list {es : List Expr} {pos : Pos} {xs : List PyData} (h : PL c k sc lm es (xs.map .d)) (hsz : xs.length ≤ sizeLine) : PE c k sc lm (.List es pos) (.d (.list xs)) := by
  intro A env g s a
  refine List_ (gr_go (h A env g s pos a) (fun vs s₁ g₁ G₁ hv => ?_))
  exact VE.up (VE.newList (a.grow G₁).base (a.grow G₁).sub (rdl_all hv) (by rw [rdl_length hv, List.length_map]; exact hsz)) G₁
theorem PE.tuple {es : List Expr} {q : Nat} {pos : Pos} {xs : List PyData} (h : PL c k sc lm es (xs.map .d)) (hsz : xs.length ≤ sizeLine) : PE c k sc lm (.Tuple es q pos) (.d (.tuple xs)) := by
  intro A env g s a
  refine Tuple_ (gr_go (h A env g s pos a) (fun vs s₁ g₁ G₁ hv => ?_))
  exact VE.up (VE.newTuple (a.grow G₁).base (a.grow G₁).sub (rdl_all hv) (by rw [rdl_length hv, List.length_map]; exact hsz)) G₁
end
end Mine

/-! Calc3 -/
open PySem PySem.W PyProof.Rows
set_option Elab.async false
set_option maxRecDepth 100000
namespace Mine

/-- what a name of the frame holds -/
noncomputable def held (env : Env) (m cm : Str → Option Value) (x : Str) : Option Value :=
  match env.kindOf x with
  | some .local => m x
  | some .cell => cm x
  | _ => none

noncomputable def Held (env : Env) (g q h : Heap) (s₀ : Shared) (m cm : Str → Option Value) (lm : LM) : Prop :=
  ∀ x d, lm.lookup x = some d → ∃ v, held env m cm x = some v ∧ LvOk g h v d ∧
    ∀ xs l, d = .own xs → v = .ref l → g.get? l = none ∧ q.get? l = none ∧ s₀.heap.get? l = none ∧ l ≠ sysModules

/-- a run of a frame: it began at s₀ with g₀; q must not be touched -/
structure Run (c : Cx) (g₀ : Heap) (s₀ : Shared) (q : Heap) (env : Env) (g : Heap) (lm : LM) (s : Shared) : Prop where
  sub0 : Sub g₀ g
  fresh : ∀ b o, g.get? b = some o → g₀.get? b = some o ∨ (s₀.heap.get? b = none ∧ b ≠ sysModules)
  sub : Sub g s.heap
  subq : Sub q s.heap
  frame : ∃ m cm, InCallC s₀ env.locals m env.cells cm s ∧ Held env g q s.heap s₀ m cm lm
  gq : ∀ b, q.get? b ≠ none → g.get? b = none
  tok : s₀.toks ≤ s.toks
  offL : g.get? env.locals = none ∧ q.get? env.locals = none
  offC : ∀ x cc, (x, cc) ∈ env.cells → g.get? cc = none ∧ q.get? cc = none

section
variable {c : Cx} {g₀ g g' q : Heap} {s₀ s s' : Shared} {env : Env} {lm : LM}

theorem Run.grow (r : Run c g₀ s₀ q env g lm s) : Grow g₀ s₀ g s := by
  obtain ⟨m, cm, x, _⟩ := r.frame
  exact ⟨x.toInCall.same, x.toInCall.keep, r.sub0, r.sub, r.fresh, r.tok⟩

theorem Heap.IsCell.live {h : Heap} {cc : Addr} {v : Option Value} (x : h.IsCell cc v) : h.get? cc ≠ none := by
  obtain ⟨o, e, _⟩ := x; rw [e]; exact fun h => nomatch h
theorem ns_live {h : Heap} {a : Addr} {m : Str → Option Value} (x : h.Ns a m) : h.get? a ≠ none := by
  obtain ⟨o, _, _, e, _⟩ := x; rw [e]; exact fun h => nomatch h
theorem plain_live {h : Heap} {a : Addr} {vs : Array Value} (x : h.PlainList a vs) : h.get? a ≠ none := by
  obtain ⟨n, e⟩ := x; rw [e]; exact fun h => nomatch h

theorem ns_data {h : Heap} {a : Addr} {m : Str → Option Value} {o : Obj} (x : h.Ns a m) (e : h.get? a = some o) : ∃ es ep, o.data = .dict es ep := by
  obtain ⟨o', es, ep, e1, e2, _⟩ := x
  exact ⟨es, ep, get_inj e e1 ▸ e2⟩
theorem cell_data {h : Heap} {a : Addr} {v : Option Value} {o : Obj} (x : h.IsCell a v) (e : h.get? a = some o) : o.data = .cell v := by
  obtain ⟨o', e1, e2⟩ := x
  exact get_inj e e1 ▸ e2
theorem ns_list {h : Heap} {a l : Addr} {m : Str → Option Value} {vs : Array Value} {n : Nat} (x : h.Ns a m) (e : h.get? l = some { cls := .type "list", data := .seq vs n }) : a ≠ l := by
  rintro rfl
  obtain ⟨_, _, e'⟩ := ns_data x e
  cases e'
theorem cell_list {h : Heap} {a l : Addr} {v : Option Value} {vs : Array Value} {n : Nat} (x : h.IsCell a v) (e : h.get? l = some { cls := .type "list", data := .seq vs n }) : a ≠ l := by
  rintro rfl
  cases cell_data x e
noncomputable def Fld (h : Heap) (b : Addr) : Prop := ∃ o vs, h.get? b = some o ∧ o.data = .fields vs
theorem Fld.live {h : Heap} {b : Addr} (x : Fld h b) : h.get? b ≠ none := let ⟨_, _, e, _⟩ := x; fun h => none_ne h e
theorem Fld.ns {h : Heap} {b : Addr} {m : Str → Option Value} (x : Fld h b) (y : h.Ns b m) : False := by
  obtain ⟨_, _, e, e2⟩ := x
  obtain ⟨_, _, e'⟩ := ns_data y e
  rw [e2] at e'; cases e'
theorem Fld.cell {h : Heap} {b : Addr} {v : Option Value} (x : Fld h b) (y : h.IsCell b v) : False := by
  obtain ⟨_, _, e, e2⟩ := x
  have e' := cell_data y e
  rw [e2] at e'; cases e'
theorem Fld.list {h : Heap} {b : Addr} {vs : Array Value} {n : Nat} (x : Fld h b) (y : h.get? b = some { cls := .type "list", data := .seq vs n }) : False := by
  obtain ⟨_, _, e, e2⟩ := x
  rw [← get_inj y e] at e2; cases e2
theorem LvOk.move {g h h' : Heap} {u : Value} {e : LV} (x : LvOk g h u e) (k : ∀ l n vs, h.get? l = some ({ cls := .type "list", data := .seq vs n } : Obj) → h'.get? l = h.get? l) : LvOk g h' u e := by
  cases e with
  | p d => exact x
  | own xs =>
    obtain ⟨l, vs, e1, ⟨n, e2⟩, e3⟩ := x
    exact ⟨l, vs, e1, ⟨n, (k l n vs e2).trans e2⟩, e3⟩
theorem same_same {s₀ s : Shared} {h' : Heap} {t : Nat} (e : ∃ h tk, s = { s₀ with heap := h, toks := tk }) : ∃ h tk, ({ s with heap := h', toks := t } : Shared) = { s₀ with heap := h, toks := tk } :=
  let ⟨_, _, e⟩ := e; ⟨h', t, by rw [e]⟩

/-- nothing that was alive and outside g comes into g' -/
theorem Grow.off (x : Grow g s g' s') {a : Addr} (h : g.get? a = none) (hl : s.heap.get? a ≠ none) : g'.get? a = none := by
  cases e : g'.get? a with
  | none => rfl
  | some o =>
    rcases x.fresh a o e with h1 | h1
    · rw [h] at h1; cases h1
    · exact absurd h1.1 hl

theorem mem_lookup {α : Type} {n : Str} {cc : α} : ∀ {l : List (Str × α)}, (n, cc) ∈ l → ∃ d, l.lookup n = some d
  | (k, v) :: r, h => by
    rw [List.lookup_cons]
    cases hb : n == k with
    | true => exact ⟨v, rfl⟩
    | false =>
      rcases List.mem_cons.mp h with e | h
      · cases e; simp at hb
      · exact mem_lookup h

theorem Run.stepQ {q' : Heap} (hc : ∀ x cc, (x, cc) ∈ env.cells → s.heap.get? cc ≠ none) (r : Run c g₀ s₀ q env g lm s) (x : Grow g s g' s') (hs : Sub q' s'.heap) (hg : ∀ b, q'.get? b ≠ none → g'.get? b = none) (hl : ∀ b, q.get? b = none → s.heap.get? b ≠ none → q'.get? b = none) : Run c g₀ s₀ q' env g' lm s' := by
  obtain ⟨m, cm, f, hh⟩ := r.frame
  have G := r.grow.trans x
  refine ⟨G.sub, G.fresh, x.le, hs, ⟨m, cm, ⟨⟨G.same, f.toInCall.ns.keeps x.keep, G.keep, f.toInCall.fresh⟩, fun n cc e => (f.cell n cc e).keeps x.keep, f.apart, f.above⟩, fun y d e => ?_⟩, hg, G.tok,
    ⟨x.off r.offL.1 (ns_live f.toInCall.ns), hl _ r.offL.2 (ns_live f.toInCall.ns)⟩, fun n cc e => ⟨x.off (r.offC n cc e).1 (hc n cc e), hl _ (r.offC n cc e).2 (hc n cc e)⟩⟩
  obtain ⟨v, h1, h2, h3⟩ := hh y d e
  refine ⟨v, h1, h2.mono x.sub x.keep, fun xs l e1 e2 => ?_⟩
  obtain ⟨a1, a2, a34⟩ := h3 xs l e1 e2
  subst e1
  obtain ⟨l', vs, e3, hp, _⟩ := h2
  cases e2.symm.trans e3
  exact ⟨x.off a1 (plain_live hp), hl l a2 (plain_live hp), a34⟩
theorem Run.step (hc : ∀ x cc, (x, cc) ∈ env.cells → s.heap.get? cc ≠ none) (r : Run c g₀ s₀ q env g lm s) (x : Grow g s g' s') : Run c g₀ s₀ q env g' lm s' :=
  r.stepQ hc x (r.subq.trans x.keep) (fun b hb => x.off (r.gq b hb) (fun e => hb (sub_get_none r.subq e))) fun _ h _ => h

/-- every cell of the frame is alive -/
theorem Run.cellsLive (r : Run c g₀ s₀ q env g lm s) : ∀ x cc, (x, cc) ∈ env.cells → env.cells.lookup x = some cc → s.heap.get? cc ≠ none := by
  obtain ⟨m, cm, f, hl⟩ := r.frame
  exact fun x cc _ e => Heap.IsCell.live (f.cell x cc e)
end

structure AtS (c : Cx) (k : Nat) (sc : Scope) (lm : LM) (A : Around) (env : Env) (g₀ : Heap) (s₀ : Shared) (q g : Heap) (s : Shared) : Prop where
  room : Room A k
  envOk : EnvOk sc env
  base : c.Base g₀
  run : Run c g₀ s₀ q env g lm s
  once : ∀ x cc, (x, cc) ∈ env.cells → env.cells.lookup x = some cc
  tk : Tk k s

section
variable {c : Cx} {k : Nat} {sc : Scope} {g₀ g g' q : Heap} {s₀ s s' : Shared} {env : Env} {lm : LM} {A : Around}

theorem AtS.live (a : AtS c k sc lm A env g₀ s₀ q g s) : ∀ x cc, (x, cc) ∈ env.cells → s.heap.get? cc ≠ none := fun x cc h => a.run.cellsLive x cc h (a.once x cc h)
theorem AtS.grow (a : AtS c k sc lm A env g₀ s₀ q g s) (x : Grow g s g' s') : AtS c k sc lm A env g₀ s₀ q g' s' := ⟨a.room, a.envOk, a.base, a.run.step a.live x, a.once, a.tk.trans x.tok⟩
theorem AtS.less {j : Nat} (a : AtS c k sc lm A env g₀ s₀ q g s) (h : j ≤ k) : AtS c j sc lm A env g₀ s₀ q g s := ⟨a.room.less h, a.envOk, a.base, a.run, a.once, a.tk.less h⟩
theorem AtS.toAt (a : AtS c k sc lm A env g₀ s₀ q g s) : At c k sc lm A env g s := by
  refine ⟨a.room, a.envOk, a.base.mono a.run.sub0, a.run.sub, fun x d e => ?_, a.tk⟩
  obtain ⟨m, cm, f, hl⟩ := a.run.frame
  obtain ⟨v, h1, h2, _⟩ := hl x d e
  refine ⟨v, ?_, h2⟩
  unfold held at h1
  cases hk : env.kindOf x with
  | none => rw [hk] at h1; cases h1
  | some kd =>
    rw [hk] at h1
    cases kd <;> first | (cases h1; done) | skip
    · exact .inl ⟨hk, m, f.toInCall.ns, h1⟩
    · obtain ⟨cc, hcc⟩ := a.envOk.cells x (by rw [← a.envOk.kindOf]; exact hk)
      refine .inr (.inl ⟨hk, cc, hcc, ?_⟩)
      have h1' : cm x = some v := h1
      have := f.cell x cc hcc
      rw [h1'] at this; exact this
end

inductive PFlow where
  | next | brk | cont
  | ret (d : PV)
noncomputable def FlowOk (g : Heap) : Flow → PFlow → Prop
  | .next, .next => True
  | .brk, .brk => True
  | .cont, .cont => True
  | .ret v, .ret d => Rd g v d
  | _, _ => False

noncomputable abbrev Post := PFlow → LM → Prop
noncomputable def SE (c : Cx) (k : Nat) (sc : Scope) (A : Around) (env : Env) (t : Sem Flow) (g₀ : Heap) (s₀ : Shared) (q g : Heap) (s : Shared) (P : Post) : Prop :=
  wpAny c.M A t (fun f s' => ∃ g' lm' pf, FlowOk g' f pf ∧ Sub g g' ∧ AtS c k sc lm' A env g₀ s₀ q g' s' ∧ P pf lm') Bot s
noncomputable def PX (c : Cx) (k : Nat) (sc : Scope) (ss : List Stmt) (lm : LM) (P : Post) : Prop :=
  ∀ A env g₀ s₀ q g s, AtS c k sc lm A env g₀ s₀ q g s → SE c k sc A env (execs ss env) g₀ s₀ q g s P
noncomputable def PX1 (c : Cx) (k : Nat) (sc : Scope) (st : Stmt) (lm : LM) (P : Post) : Prop :=
  ∀ A env g₀ s₀ q g s, AtS c k sc lm A env g₀ s₀ q g s → SE c k sc A env (exec st env) g₀ s₀ q g s P
/-- a target takes data -/
noncomputable def PAs (c : Cx) (k : Nat) (sc : Scope) (t : Expr) (d : PV) (lm lm' : LM) : Prop :=
  ∀ A env g₀ s₀ q g s v, AtS c k sc lm A env g₀ s₀ q g s → Rd g v d →
    wpAny c.M A (assign t env v) (fun _ s' => ∃ g', AtS c k sc lm' A env g₀ s₀ q g' s' ∧ Sub g g') Bot s

section
variable {c : Cx} {k : Nat} {sc : Scope} {lm lm' : LM} {P : Post}

theorem PX.nil (h : P .next lm) : PX c k sc [] lm P := fun _ _ _ _ _ g _ a => wpAny_execs_nil ⟨g, lm, .next, trivial, Sub.refl g, a, h⟩
theorem SE.up {A : Around} {env : Env} {t : Sem Flow} {g₀ q g g₁ : Heap} {s₀ s : Shared} (h : SE c k sc A env t g₀ s₀ q g₁ s P) (hs : Sub g g₁) : SE c k sc A env t g₀ s₀ q g s P :=
  wpAny_mono h (fun _ _ h => h.imp fun _ h => h.imp fun _ h => h.imp fun _ h => ⟨h.1, hs.trans h.2.1, h.2.2⟩) fun _ _ x => x
theorem SE.mono {A : Around} {env : Env} {t : Sem Flow} {g₀ q g : Heap} {s₀ s : Shared} {P' : Post} (h : SE c k sc A env t g₀ s₀ q g s P) (hp : ∀ pf lm', P pf lm' → P' pf lm') : SE c k sc A env t g₀ s₀ q g s P' :=
  wpAny_mono h (fun _ _ h => h.imp fun _ h => h.imp fun _ h => h.imp fun _ h => ⟨h.1, h.2.1, h.2.2.1, hp _ _ h.2.2.2⟩) fun _ _ x => x
noncomputable abbrev Then (c : Cx) (k : Nat) (sc : Scope) (ss : List Stmt) (P : Post) : Post := fun pf lm' => match pf with | .next => PX c k sc ss lm' P | pf => P pf lm'
/-- behind a turn of a loop -/
noncomputable abbrev LoopP (X : LM → Prop) (P : Post) : Post := fun pf lm' => match pf with
  | .next | .cont => X lm'
  | .brk => P .next lm'
  | .ret r => P (.ret r) lm'
noncomputable abbrev RetOk (r : PV) : Post := fun pf _ => ∃ r', pf = .ret r' ∧ ∀ g v, Rd g v r' → Rd g v r
/-- a statement, then others -/
theorem seq_end {A : Around} {env : Env} {t : Sem Flow} {g₀ q g : Heap} {s₀ s : Shared} {ss : List Stmt} {E : Value → Shared → Prop}
    (h : SE c k sc A env t g₀ s₀ q g s (Then c k sc ss P)) :
    wpAny c.M A t (fun f s' => match f with
      | .next => wpAny c.M A (execs ss env) (fun f s' => ∃ g' lm' pf, FlowOk g' f pf ∧ Sub g g' ∧ AtS c k sc lm' A env g₀ s₀ q g' s' ∧ P pf lm') Bot s'
      | f => ∃ g' lm' pf, FlowOk g' f pf ∧ Sub g g' ∧ AtS c k sc lm' A env g₀ s₀ q g' s' ∧ P pf lm') E s := by
  refine wpAny_mono h (fun f s' h => ?_) fun _ _ x => x.elim
  obtain ⟨g', lm', pf, hf, hg, a', hp⟩ := h
  cases f <;> cases pf <;> first | exact hf.elim | skip
  · exact SE.up (hp A env g₀ s₀ q g' s' a') hg
  · exact ⟨g', lm', .brk, hf, hg, a', hp⟩
  · exact ⟨g', lm', .cont, hf, hg, a', hp⟩
  · exact ⟨g', lm', .ret _, hf, hg, a', hp⟩
theorem PX.cons {st : Stmt} {ss : List Stmt} (h : PX1 c k sc st lm (Then c k sc ss P)) : PX c k sc (st :: ss) lm P :=
  fun A env g₀ s₀ q g s a => wpAny_execs_cons (seq_end (h A env g₀ s₀ q g s a))
theorem PX1.mono {st : Stmt} {P' : Post} (h : PX1 c k sc st lm P) (hp : ∀ pf lm', P pf lm' → P' pf lm') : PX1 c k sc st lm P' := fun A env g₀ s₀ q g s a => (h A env g₀ s₀ q g s a).mono hp
theorem PX.mono {ss : List Stmt} {P' : Post} (h : PX c k sc ss lm P) (hp : ∀ pf lm', P pf lm' → P' pf lm') : PX c k sc ss lm P' := fun A env g₀ s₀ q g s a => (h A env g₀ s₀ q g s a).mono hp

theorem AtS.forget {A : Around} {env : Env} {g₀ q g : Heap} {s₀ s : Shared} (a : AtS c k sc lm' A env g₀ s₀ q g s) (hl : ∀ x d, lm.lookup x = some d → lm'.lookup x = some d) : AtS c k sc lm A env g₀ s₀ q g s := by
  obtain ⟨m, cm, f, h⟩ := a.run.frame
  exact ⟨a.room, a.envOk, a.base, ⟨a.run.sub0, a.run.fresh, a.run.sub, a.run.subq, ⟨m, cm, f, fun x d e => h x d (hl x d e)⟩, a.run.gq, a.run.tok, a.run.offL, a.run.offC⟩, a.once, a.tk⟩
theorem PX.weaken {ss : List Stmt} (h : PX c k sc ss lm P) (hl : ∀ x d, lm.lookup x = some d → lm'.lookup x = some d) : PX c k sc ss lm' P :=
  fun A env g₀ s₀ q g s a => h A env g₀ s₀ q g s (a.forget hl)

/-- the heap changes at some places, the frame too -/
theorem AtS.alter {A : Around} {env : Env} {g₀ q g h' : Heap} {s₀ s : Shared} {t : Nat} {m' cm' : Str → Option Value} (a : AtS c k sc lm A env g₀ s₀ q g s) (X : Addr → Prop)
    (hk : ∀ b o, ¬ X b → s.heap.get? b = some o → h'.get? b = some o) (hX : ∀ b, X b → g.get? b = none ∧ q.get? b = none ∧ s₀.heap.get? b = none) (ht : s.toks ≤ t)
    (hn : h'.Ns env.locals m') (hc : ∀ n cc, env.cells.lookup n = some cc → h'.IsCell cc (cm' n)) (hh : Held env g q h' s₀ m' cm' lm') : AtS c k sc lm' A env g₀ s₀ q g { s with heap := h', toks := t } := by
  obtain ⟨_, _, f, _⟩ := a.run.frame
  exact ⟨a.room, a.envOk, a.base, ⟨a.run.sub0, a.run.fresh, fun b o e => hk b o (fun x => none_ne (hX b x).1 e) (a.run.sub b o e), fun b o e => hk b o (fun x => none_ne (hX b x).2.1 e) (a.run.subq b o e),
    ⟨m', cm', ⟨⟨same_same f.toInCall.same, hn, fun b o e => hk b o (fun x => none_ne (hX b x).2.2 e) (f.toInCall.keep b o e), f.toInCall.fresh⟩, hc, f.apart, f.above⟩, hh⟩, a.run.gq, Nat.le_trans a.run.tok ht, a.run.offL, a.run.offC⟩, a.once, a.tk.trans ht⟩
theorem Held.set {env : Env} {g q h h' : Heap} {s₀ : Shared} {m cm m' cm' : Str → Option Value} {x : Str} {v : Value} {d : LV} (hl : Held env g q h s₀ m cm lm) (he : ∀ y, held env m' cm' y = if y = x then some v else held env m cm y) (hv : LvOk g h' v d)
    (ho : ∀ xs l, d = .own xs → v = .ref l → g.get? l = none ∧ q.get? l = none ∧ s₀.heap.get? l = none ∧ l ≠ sysModules) (hm : ∀ y e u, y ≠ x → lm.lookup y = some e → LvOk g h u e → LvOk g h' u e) : Held env g q h' s₀ m' cm' (lset lm x d) := by
  intro y e hy
  rw [lset_lookup] at hy
  rw [he y]
  by_cases hyx : y = x
  · rw [if_pos (beq_iff_eq.mpr hyx)] at hy
    cases hy
    exact ⟨v, if_pos hyx, hv, ho⟩
  · rw [if_neg (fun h => hyx (beq_iff_eq.mp h))] at hy
    obtain ⟨u, h1, h2, h3⟩ := hl y e hy
    exact ⟨u, (if_neg hyx).trans h1, hm y e u hyx hy h2, h3⟩
theorem held_local {env : Env} {m cm : Str → Option Value} {x : Str} {v : Value} (hk : env.kindOf x = some .local) (y : Str) : held env (fun y => if y = x then some v else m y) cm y = if y = x then some v else held env m cm y := by
  unfold held
  by_cases e : y = x
  · rw [e, hk, if_pos rfl]; exact if_pos rfl
  · simp only [if_neg e]
theorem held_cell {env : Env} {m cm : Str → Option Value} {x : Str} {v : Value} (hk : env.kindOf x = some .cell) (y : Str) : held env m (fun y => if y = x then some v else cm y) y = if y = x then some v else held env m cm y := by
  unfold held
  by_cases e : y = x
  · rw [e, hk, if_pos rfl]; exact if_pos rfl
  · simp only [if_neg e]

/-- storing data under a name of the frame -/
theorem storeName_ok {A : Around} {env : Env} {g₀ q g : Heap} {s₀ s : Shared} {x : Str} {v : Value} {d : LV} (a : AtS c k sc lm A env g₀ s₀ q g s)
    (hx : sc.names.lookup x = some .local ∨ sc.names.lookup x = some .cell) (hv : LvOk g s.heap v d)
    (ho : ∀ xs l, d = .own xs → v = .ref l → g.get? l = none ∧ q.get? l = none ∧ s₀.heap.get? l = none ∧ l ≠ sysModules) :
    wpAny c.M A (storeName env x v) (fun _ s' => AtS c k sc (lset lm x d) A env g₀ s₀ q g s') Bot s := by
  obtain ⟨m, cm, f, hl⟩ := a.run.frame
  have kf : env.scope.kind = .function := by rw [a.envOk.scope]; exact a.envOk.kind
  have dead : ∀ b, env.locals ≤ b → s₀.heap.get? b = none := fun b h => Heap.get?_none_of_le (Nat.le_trans f.toInCall.fresh h)
  rcases hx with hx | hx
  · have hk : env.kindOf x = some .local := (a.envOk.kindOf x).trans hx
    refine wpAny_storeName_local hk f.toInCall.ns (fun h' hn' hs' => ?_) (by rw [kf]; rfl)
    have mv : ∀ {u e}, LvOk g s.heap u e → LvOk g h' u e := fun z => z.move fun l n vs e => hs'.2 l (Ne.symm (ns_list f.toInCall.ns e))
    exact a.alter (· = env.locals) (hs'.extBut · · · ·) (fun b hb => hb ▸ ⟨a.run.offL.1, a.run.offL.2, dead _ (Nat.le_refl _)⟩) (Nat.le_succ _) hn' (fun n cc e => (f.cell n cc e).sameBut hs' (Nat.ne_of_gt (f.above n cc (mem_of_lookup e))))
      (hl.set (held_local hk) (mv hv) ho fun _ _ _ _ _ => mv)
  · have hk : env.kindOf x = some .cell := (a.envOk.kindOf x).trans hx
    obtain ⟨cc, hcc⟩ := a.envOk.cells x hx
    have hLc := f.above x cc (mem_of_lookup hcc)
    refine wpAny_storeName_cell kf hk hcc (f.cell x cc hcc) fun h' hc' hs' => ?_
    have mv : ∀ {u e}, LvOk g s.heap u e → LvOk g h' u e := fun z => z.move fun l n vs e => hs'.2 l (Ne.symm (cell_list (f.cell x cc hcc) e))
    have off := a.run.offC x cc (mem_of_lookup hcc)
    refine a.alter (t := s.toks) (cm' := fun y => if y = x then some v else cm y) (· = cc) (hs'.extBut · · · ·) (fun b hb => hb ▸ ⟨off.1, off.2, dead _ (Nat.le_of_lt hLc)⟩) (Nat.le_refl _) (f.toInCall.ns.sameBut hs' (Nat.ne_of_lt hLc)) (fun n c2 e => ?_)
      (hl.set (held_cell hk) (mv hv) ho fun _ _ _ _ _ => mv)
    by_cases hn : n = x
    · rw [if_pos hn, show c2 = cc from Option.some.inj (e.symm.trans (hn ▸ hcc))]; exact hc'
    · rw [if_neg hn]
      exact (f.cell n c2 e).sameBut hs' fun e' => hn (name_of_addr f.apart (mem_of_lookup e) (e' ▸ mem_of_lookup hcc))

theorem PAs.name {x : Str} {pos : Pos} {d : PV} (hx : sc.names.lookup x = some .local ∨ sc.names.lookup x = some .cell) : PAs c k sc (.Name x pos) d lm (lset lm x (.p d)) := by
  intro A env g₀ s₀ q g s v a hv
  exact wpAny_assign_Name (wpAny_mono (storeName_ok a hx (d := .p d) hv (fun _ _ e => nomatch e)) (fun _ s' a' => ⟨g, a', Sub.refl g⟩) fun _ _ x => x)

theorem PX1.assign {x : Str} {px pos : Pos} {e : Expr} {d : PV} (he : PE c k sc lm e d) (hx : sc.names.lookup x = some .local ∨ sc.names.lookup x = some .cell) (hp : P .next (lset lm x (.p d)))
    (hs : ∀ env, swapsWith e (some (.Name x px)) pos.line env = pure false := by intro _; rfl) : PX1 c k sc (.Assign [.Name x px] e pos) lm P := by
  intro A env g₀ s₀ q g s a
  refine wpAny_Assign_Name (VE.go (he A env g s a.toAt) (fun v s₁ g₁ G₁ hv => ?_)) (hs env)
  exact wpAny_mono (storeName_ok (a.grow G₁) hx (d := .p d) hv (fun _ _ e => nomatch e)) (fun _ s' a' => ⟨g₁, _, .next, trivial, G₁.sub, a', hp⟩) fun _ _ x => x

theorem PX1.ret {e : Expr} {pos : Pos} {d : PV} (he : PE c k sc lm e d) (hp : P (.ret d) lm) : PX1 c k sc (.Return (some e) pos) lm P := by
  intro A env g₀ s₀ q g s a
  exact wpAny_Return_some (VE.go (he A env g s a.toAt) (fun v s₁ g₁ G₁ hv => ⟨g₁, lm, .ret d, hv, G₁.sub, a.grow G₁, hp⟩))
theorem PX1.brk {pos : Pos} (hp : P .brk lm) : PX1 c k sc (.Break pos) lm P := by
  intro A env g₀ s₀ q g s a
  exact (show wpAny c.M A (do standAt pos; pure Flow.brk) _ _ s from wpAny_bind (wpAny_standAt (wpAny_pure ⟨g, lm, .brk, trivial, Sub.refl g, a, hp⟩)))
theorem PX1.if_ {t : Expr} {b o : List Stmt} {pos : Pos} {w : Bool} (ht : PT c k sc lm t w) (hb : w = true → PX c k sc b lm P) (ho : w = false → PX c k sc o lm P) : PX1 c k sc (.If t b o pos) lm P := by
  intro A env g₀ s₀ q g s a
  refine wpAny_If (te_go (ht A env g s a.toAt) (fun s₁ g₁ G₁ => ?_))
  cases w with
  | true => exact SE.up (hb rfl A env g₀ s₀ q g₁ s₁ (a.grow G₁)) G₁.sub
  | false => exact SE.up (ho rfl A env g₀ s₀ q g₁ s₁ (a.grow G₁)) G₁.sub

/-- a name takes a new list that only it holds -/
theorem PX1.assignOwn {x : Str} {px pos lp : Pos} {es : List Expr} {xs : List PyData} (he : PL c k sc lm es (xs.map .d)) (hx : sc.names.lookup x = some .local ∨ sc.names.lookup x = some .cell) (hsz : xs.length ≤ sizeLine)
    (hp : P .next (lset lm x (.own xs))) : PX1 c k sc (.Assign [.Name x px] (.List es lp) pos) lm P := by
  intro A env g₀ s₀ q g s a
  refine wpAny_Assign_Name (List_ (gr_go (he A env g s lp a.toAt) (fun vs s₁ g₁ G₁ hv => ?_))) rfl
  have hl := rdl_length hv
  rw [List.length_map] at hl
  refine wpAny_newList (h := ?_) (by rw [hl]; exact hsz)
  have a₁ := a.grow G₁
  obtain ⟨m, cm, f, hh⟩ := a₁.run.frame
  have hnone : s₁.heap.get? s₁.heap.objs.size = none := get?_size_none _
  have hne : s₁.heap.objs.size ≠ sysModules := by
    have h : (3 : Nat) < s₁.heap.objs.size := (a₁.toAt.base.1.g.keeps a₁.run.sub).lt
    intro e
    have e' : s₁.heap.objs.size = (1 : Nat) := e
    (first | lia | omega)
  have a₂ : AtS c k sc lm A env g₀ s₀ q g₁ { s₁ with heap := s₁.heap.push { cls := .type "list", data := .seq vs.toArray } } :=
    a₁.grow ⟨⟨_, s₁.toks, rfl⟩, fun b o e => Heap.get?_push_of_some _ e, Sub.refl _, fun b o e => Heap.get?_push_of_some _ (a₁.run.sub b o e), fun b o e => .inl e, Nat.le_refl _⟩
  refine wpAny_mono (storeName_ok (d := .own xs) a₂ hx ⟨_, vs.toArray, rfl, ⟨0, Heap.get?_push_size _ rfl⟩, by simpa using rdl_all hv⟩ ?_) (fun _ s' a' => ⟨g₁, _, .next, trivial, G₁.sub, a', hp⟩) fun _ _ x => x
  intro xs' l e1 e2
  cases e2
  exact ⟨sub_get_none a₁.run.sub hnone, sub_get_none a₁.run.subq hnone, sub_get_none a₁.run.grow.keep hnone, hne⟩

/-- the list is not changed any more -/
theorem AtS.freeze {A : Around} {env : Env} {g₀ q g : Heap} {s₀ s : Shared} {x : Str} {xs : List PyData} (a : AtS c k sc lm A env g₀ s₀ q g s) (hl : lm.lookup x = some (.own xs)) (h1 : ∀ y ys, lm.lookup y = some (.own ys) → y = x) :
    ∃ g', Sub g g' ∧ AtS c k sc (lset lm x (.p (.d (.list xs)))) A env g₀ s₀ q g' s := by
  obtain ⟨m, cm, f, hh⟩ := a.run.frame
  obtain ⟨v, hv1, ⟨l, vs, rfl, ⟨n, hp⟩, hr⟩, hv3⟩ := hh x _ hl
  obtain ⟨o1, o2, o3, o4⟩ := hv3 xs l rfl rfl
  have sub1 : Sub g (addTo s.heap g l) := addTo_sub a.run.sub
  refine ⟨addTo s.heap g l, sub1, a.room, a.envOk, a.base, ⟨a.run.sub0.trans sub1, fun b o e => (addTo_key a.run.sub e).elim (a.run.fresh b o) fun h => .inr (h ▸ ⟨o3, o4⟩), addTo_le, a.run.subq, ⟨m, cm, f, fun y d e => ?_⟩, fun b hb => addTo_off a.run.sub (a.run.gq b hb) fun h => hb (h ▸ o2), a.run.tok,
    ⟨addTo_off a.run.sub a.run.offL.1 (ns_list f.toInCall.ns hp), a.run.offL.2⟩, fun n cc e => ⟨addTo_off a.run.sub (a.run.offC n cc e).1 (cell_list (f.cell n cc (a.once n cc e)) hp), (a.run.offC n cc e).2⟩⟩, a.once, a.tk⟩
  rw [lset_lookup] at e
  by_cases hy : y = x
  · rw [if_pos (beq_iff_eq.mpr hy)] at e; cases e
    exact ⟨.ref l, hy ▸ hv1, rd_mk_list (addTo_new hp) (hr.mono sub1) o4, fun _ _ e => nomatch e⟩
  · rw [if_neg (fun h => hy (beq_iff_eq.mp h))] at e
    obtain ⟨u, u1, u2, u3⟩ := hh y d e
    exact ⟨u, u1, u2.mono sub1 (Sub.refl _), fun ys l' e1 _ => absurd (h1 y ys (e1 ▸ e)) hy⟩
theorem PX.freeze {ss : List Stmt} {x : Str} {xs : List PyData} (hl : lm.lookup x = some (.own xs)) (h1 : ∀ y ys, lm.lookup y = some (.own ys) → y = x) (h : PX c k sc ss (lset lm x (.p (.d (.list xs)))) P) : PX c k sc ss lm P := by
  intro A env g₀ s₀ q g s a
  obtain ⟨g', hs, a'⟩ := a.freeze hl h1
  exact SE.up (h A env g₀ s₀ q g' s a') hs

/-- x.append(e) -/
theorem PX1.append {x : Str} {px ap pos spos : Pos} {e : Expr} {xs : List PyData} {d : PyData} (hl : lm.lookup x = some (.own xs)) (h1 : ∀ y ys, lm.lookup y = some (.own ys) → y = x) (hx : sc.names.lookup x = some .local)
    (he : PE c k sc lm e (.d d)) (hsz : xs.length ≤ sizeLine) (hp : P .next (lset lm x (.own (xs ++ [d]))))
    (hse : ∀ env, starEach [e] env = [(false, eval e env)] := by intro _; rfl) (hline : (ap.endLine == pos.line) = true := by rfl) (hd : (x == ("__debug__" : Str)) = false := by decide) :
    PX1 c k sc (.Expr (.Call (.Attribute (.Name x px) "append" ap) [e] [] pos) spos) lm P := by
  intro A env g₀ s₀ q g s a
  have kf : env.scope.kind = .function := by rw [a.envOk.scope]; exact a.envOk.kind
  refine wpAny_Expr ?_ (by unfold interactive; rw [kf]; rfl) rfl
  refine wpAny_Call_append rfl (by rw [hse]; rfl) hline (by unfold backTo; rw [hse]; rfl) ?_
  obtain ⟨m, cm, f, hh⟩ := a.run.frame
  obtain ⟨v, hv1, ⟨l, vs, rfl, ⟨n, hpl⟩, hr⟩, hv3⟩ := hh x _ hl
  have hk : env.kindOf x = some .local := by rw [a.envOk.kindOf]; exact hx
  have hm : m x = some (.ref l) := by unfold held at hv1; rw [hk] at hv1; exact hv1
  refine wpAny_Name (wpAny_loadName_local kf hk f.toInCall.ns hm ?_) hd
  refine ⟨l, vs, rfl, ⟨_, n, hpl, rfl, rfl, rfl⟩, ?_⟩
  refine VE.go (he A env g s a.toAt) (fun y s₁ g₁ G₁ hy => ?_)
  have a₁ := a.grow G₁
  obtain ⟨m₁, cm₁, f₁, hh₁⟩ := a₁.run.frame
  have hm₁ : m₁ x = some (.ref l) := by
    obtain ⟨o, es, ep, e1, e2, _, e3⟩ := f.toInCall.ns.keeps G₁.keep
    obtain ⟨o', es', ep', e1', e2', _, e3'⟩ := f₁.toInCall.ns
    rw [e1] at e1'; cases e1'
    rw [e2] at e2'; cases e2'
    rw [← e3', e3]; exact hm
  obtain ⟨o1, o2, o3, o4⟩ := hv3 xs l rfl rfl
  have og : g₁.get? l = none := G₁.off o1 (fun h => none_ne h hpl)
  refine wpAny_list_append_plain ⟨n, G₁.keep _ _ hpl⟩ (fun h' hl' hs' => ?_) (by rw [← Array.length_toList, hr.length]; exact hsz)
  refine ⟨g₁, _, .next, trivial, G₁.sub, a₁.alter (t := s₁.toks) (· = l) (hs'.extBut · · · ·) (fun b hb => hb ▸ ⟨og, o2, o3⟩) (Nat.le_refl _) (f₁.toInCall.ns.sameBut hs' (ns_list f.toInCall.ns hpl)) (fun n cc e => (f₁.cell n cc e).sameBut hs' (cell_list (f.cell n cc e) hpl))
    (hh₁.set (x := x) (v := .ref l) (d := .own (xs ++ [d])) (fun y => ?_) ⟨l, vs.push y, rfl, hl', ?_⟩ (fun _ l' _ e2 => ?_) fun y' d' u hne e z => ?_), hp⟩
  · by_cases hy : y = x
    · rw [if_pos hy, hy]; unfold held; rw [hk]; exact hm₁
    · rw [if_neg hy]
  · rw [Array.toList_push]; exact (hr.mono G₁.sub).append (.cons hy .nil)
  · cases e2; exact ⟨og, o2, o3, o4⟩
  · cases d' with
    | p d' => exact z
    | own ys => exact absurd (h1 y' ys e) hne
end
end Mine

/-! Calc4 -/
open PySem PySem.W PyProof.Rows
set_option Elab.async false
set_option maxRecDepth 100000
namespace Mine

section
variable {c : Cx} {k : Nat} {sc : Scope} {g₀ g g' q : Heap} {s₀ s s' : Shared} {env : Env} {lm : LM} {A : Around}

/-- only iterators turn -/
theorem AtS.but (a : AtS c k sc lm A env g₀ s₀ q g s) {wr : List Addr} {h' : Heap} {tk : Nat} (hk : ∀ b o, b ∉ wr → s.heap.get? b = some o → h'.get? b = some o) (ht : s.toks ≤ tk)
    (hw : ∀ b ∈ wr, g.get? b = none ∧ q.get? b = none ∧ s₀.heap.get? b = none) (hf : ∀ b ∈ wr, Fld s.heap b) : AtS c k sc lm A env g₀ s₀ q g { s with heap := h', toks := tk } := by
  obtain ⟨m, cm, f, hl⟩ := a.run.frame
  refine a.alter (· ∈ wr) hk hw ht (f.toInCall.ns.at' fun o e => hk _ o (fun hb => (hf _ hb).ns f.toInCall.ns) e) (fun n cc e => (f.cell n cc e).imp fun o h => ⟨hk _ o (fun hb => (hf _ hb).cell (f.cell n cc e)) h.1, h.2⟩) fun x d e => ?_
  obtain ⟨v, h1, h2, h3⟩ := hl x d e
  exact ⟨v, h1, h2.move fun l n vs e => (hk l _ (fun hb => (hf _ hb).list e) e).trans e.symm, h3⟩

/-- what the turn must leave alone -/
noncomputable def guardOf (h q : Heap) (wr : List Addr) : Heap := part h fun b => q.get? b ≠ none ∨ b ∈ wr
theorem guard_sub {h q : Heap} {wr : List Addr} (k : Sub q h) : Sub q (guardOf h q wr) := fun b o e => part_get_of (.inl fun h => none_ne h e) (k b o e)
theorem guard_in {h q : Heap} {wr : List Addr} {b : Addr} {o : Obj} (hb : b ∈ wr) (e : h.get? b = some o) : (guardOf h q wr).get? b = some o := part_get_of (.inr hb) e
theorem guard_off {h q : Heap} {wr : List Addr} {b : Addr} (n : q.get? b = none) (hb : b ∉ wr) : (guardOf h q wr).get? b = none := by
  cases e : (guardOf h q wr).get? b with
  | none => rfl
  | some o => exact ((part_get e).1.elim (fun h => h n) hb).elim
/-- iterators that the turn must leave alone -/
theorem AtS.guard (a : AtS c k sc lm A env g₀ s₀ q g s) {wr : List Addr} (hg : ∀ b ∈ wr, g.get? b = none) (hf : ∀ b ∈ wr, Fld s.heap b) : AtS c k sc lm A env g₀ s₀ (guardOf s.heap q wr) g s := by
  obtain ⟨m, cm, f, hl⟩ := a.run.frame
  refine ⟨a.room, a.envOk, a.base, ⟨a.run.sub0, a.run.fresh, a.run.sub, fun b o e => (part_get e).2, ⟨m, cm, f, fun x d e => ?_⟩, fun b hb => ?_, a.run.tok, ⟨a.run.offL.1, guard_off a.run.offL.2 fun hb => (hf _ hb).ns f.toInCall.ns⟩,
    fun n cc e => ⟨(a.run.offC n cc e).1, guard_off (a.run.offC n cc e).2 fun hb => (hf _ hb).cell (f.cell n cc (a.once n cc e))⟩⟩, a.once, a.tk⟩
  · obtain ⟨v, h1, h2, h3⟩ := hl x d e
    refine ⟨v, h1, h2, fun xs l e1 e2 => ?_⟩
    obtain ⟨o1, o2, o3, o4⟩ := h3 xs l e1 e2
    refine ⟨o1, guard_off o2 fun hb => ?_, o3, o4⟩
    subst e1
    obtain ⟨l', vs, e3, ⟨n, e4⟩, _⟩ := h2
    cases e2.symm.trans e3
    exact (hf _ hb).list e4
  · exact Classical.byContradiction fun h => hb (guard_off (Classical.byContradiction fun hq => h (a.run.gq b hq)) fun hw => h (hg b hw))
theorem AtS.unguard {q' : Heap} (a : AtS c k sc lm A env g₀ s₀ q' g s) (h : Sub q q') : AtS c k sc lm A env g₀ s₀ q g s := by
  obtain ⟨m, cm, f, hl⟩ := a.run.frame
  have up : ∀ b, q.get? b ≠ none → q'.get? b ≠ none := fun b hb e => hb (sub_get_none h e)
  refine ⟨a.room, a.envOk, a.base, ⟨a.run.sub0, a.run.fresh, a.run.sub, h.trans a.run.subq, ⟨m, cm, f, fun x d e => ?_⟩, fun b hb => a.run.gq b (up b hb), a.run.tok, ⟨a.run.offL.1, sub_get_none h a.run.offL.2⟩, fun n cc e => ⟨(a.run.offC n cc e).1, sub_get_none h (a.run.offC n cc e).2⟩⟩, a.once, a.tk⟩
  obtain ⟨v, h1, h2, h3⟩ := hl x d e
  exact ⟨v, h1, h2, fun xs l e1 e2 => ⟨(h3 xs l e1 e2).1, sub_get_none h (h3 xs l e1 e2).2.1, (h3 xs l e1 e2).2.2⟩⟩
end

/-- an iterator over data -/
structure Walk (c : Cx) (A : Around) (g : Heap) (s : Shared) (I : Addr) (wr : List Addr) (fp : List Addr) (P : Nat → Value → Prop) (St : Nat → Heap → Prop) (ds : List PV) : Prop where
  W : Walks c.prog c.w A I fp wr ds.length P St
  st : St 0 s.heap
  item : ∀ i v, i < ds.length → P i v → ∃ d, ds[i]? = some d ∧ Rd g v d
  fpOld : ∀ b ∈ fp, b ∈ wr ∨ g.get? b ≠ none
  flds : ∀ i h, St i h → ∀ b ∈ wr, Fld h b
  go : ∀ i (s : Shared) target v (Q : Unit → Shared → Prop), St i s.heap → Q () s → wpAny c.M A (letOwnedTupleGo target (.ref I) v) Q Bot s
  off : ∀ b ∈ wr, g.get? b = none

noncomputable def PIt (c : Cx) (k : Nat) (sc : Scope) (lm : LM) (e : Expr) (ds : List PV) : Prop :=
  ∀ A env g s, At c k sc lm A env g s → wpAny c.M A (eval e env) (fun xv s₁ => wpAny c.M A (pyIter xv) (fun it s₂ => ∃ g₂ I wr fp P St, it = .ref I ∧ Grow g s g₂ s₂ ∧ Walk c A g₂ s₂ I wr fp P St ds ∧ ∀ b ∈ wr, s.heap.get? b = none) Bot s₁) Bot s

theorem PIt.go {c : Cx} {k : Nat} {sc : Scope} {lm : LM} {e : Expr} {ds : List PV} {A : Around} {env : Env} {g : Heap} {s : Shared} {Q E : Value → Shared → Prop} (hi : PIt c k sc lm e ds) (a : At c k sc lm A env g s)
    (hf : ∀ s₂ g₂ I wr fp P St, Grow g s g₂ s₂ → Walk c A g₂ s₂ I wr fp P St ds → (∀ b ∈ wr, s.heap.get? b = none) → Q (.ref I) s₂) : wpAny c.M A (eval e env) (fun xv s₁ => wpAny c.M A (pyIter xv) Q E s₁) E s := by
  refine wpAny_mono (hi A env g s a) (fun xv s₁ h₁ => wpAny_mono h₁ (fun it s₂ h => ?_) fun _ _ x => x.elim) fun _ _ x => x.elim
  obtain ⟨g₂, I, wr, fp, Pi, St, rfl, G, W, hwr⟩ := h
  exact hf s₂ g₂ I wr fp Pi St G W hwr

noncomputable def PFor (c : Cx) (k : Nat) (sc : Scope) (target : Expr) (body : List Stmt) (P : Post) : List PV → LM → Prop
  | [], lm => P .next lm
  | d :: ds, lm => ∃ lm', PAs c k sc target d lm lm' ∧ PX c k sc body lm' (LoopP (fun lm'' => PFor c k sc target body P ds lm'') P)
noncomputable def PW (c : Cx) (k : Nat) (sc : Scope) (test : Expr) (body : List Stmt) (P : Post) : Nat → LM → Prop
  | 0, _ => False
  | n + 1, lm => (PT c k sc lm test false ∧ P .next lm) ∨ (PT c k sc lm test true ∧ PX c k sc body lm (LoopP (fun lm' => PW c k sc test body P n lm') P))

section
variable {c : Cx} {k : Nat} {sc : Scope} {lm lm' : LM} {P : Post}

/-- the body of a loop, once -/
theorem PX.turn {A : Around} {env : Env} {g₀ q g : Heap} {s₀ s : Shared} {body : List Stmt} {X : LM → Prop} {N : Shared → Prop} {R : Result → Shared → Prop} {E : Value → Shared → Prop}
    (hb : PX c k sc body lm (LoopP (fun lm'' => X lm'') P)) (a : AtS c k sc lm A env g₀ s₀ q g s) (h1 : ∀ g' lm' s', Sub g g' → AtS c k sc lm' A env g₀ s₀ q g' s' → X lm' → N s')
    (h2 : ∀ g' lm' s' f pf, FlowOk g' f pf → Sub g g' → AtS c k sc lm' A env g₀ s₀ q g' s' → P pf lm' → R (.ok f) s') :
    wpAny c.M A (execs body env) (fun f s₃ => match f with
      | .next | .cont => N s₃
      | .brk => R (.ok .next) s₃
      | .ret v => R (.ok (.ret v)) s₃) E s := by
  refine wpAny_mono (hb A env g₀ s₀ q g s a) (fun f s' ⟨g', lm', pf, hf, hg, a', hp⟩ => ?_) fun _ _ x => x.elim
  cases f <;> cases pf <;> first | exact hf.elim | skip
  · exact h1 g' lm' s' hg a' hp
  · exact h2 g' lm' s' .next .next trivial hg a' hp
  · exact h1 g' lm' s' hg a' hp
  · exact h2 g' lm' s' _ _ hf hg a' hp

theorem while_walk {A : Around} {env : Env} {g₀ q g : Heap} {s₀ s : Shared} {test : Expr} {body : List Stmt} {R : Result → Shared → Prop} {n : Nat} (a : AtS c k sc lm A env g₀ s₀ q g s) (h : PW c k sc test body P n lm)
    (hR : ∀ g' lm' s' f pf, FlowOk g' f pf → Sub g g' → AtS c k sc lm' A env g₀ s₀ q g' s' → P pf lm' → R (.ok f) s') : codeAny c.M A (.whileLoop test body [] env) R s := by
  refine codeAny_whileLoop (fun n s' => ∃ g' lm', Sub g g' ∧ AtS c k sc lm' A env g₀ s₀ q g' s' ∧ PW c k sc test body P n lm') ?_ n ⟨g, lm, Sub.refl g, a, h⟩
  rintro n s' ⟨g', lm', hg, a', hw⟩
  cases n with
  | zero => exact hw.elim
  | succ n =>
    refine hw.elim (fun w => te_go (w.1 A env g' s' a'.toAt) fun s₁ g₁ G₁ => ?_) fun w => te_go (w.1 A env g' s' a'.toAt) fun s₁ g₁ G₁ => ?_
    · rw [if_neg Bool.false_ne_true]
      exact wpAny_execs_nil (hR g₁ lm' _ .next .next trivial (hg.trans G₁.sub) (a'.grow G₁) w.2)
    · rw [if_pos rfl]
      exact w.2.turn (a'.grow G₁) (fun g₂ lm₂ s₂ hg₂ a₂ hp => ⟨n, Nat.lt_succ_self n, g₂, lm₂, hg.trans (G₁.sub.trans hg₂), a₂, hp⟩) fun g₂ lm₂ s₂ f pf hf hg₂ a₂ hp => hR g₂ lm₂ s₂ f pf hf (hg.trans (G₁.sub.trans hg₂)) a₂ hp
theorem PX1.while_ {test : Expr} {body : List Stmt} {pos : Pos} (n : Nat) (h : PW c k sc test body P n lm) : PX1 c k sc (.While test body [] pos) lm P := by
  intro A env g₀ s₀ q g s a
  exact wpAny_While (while_walk a h fun g' lm' s' f pf hf hg a' hp => ⟨g', lm', pf, hf, hg, a', hp⟩)

/-- between two turns of a for -/
structure FInv (c : Cx) (k : Nat) (sc : Scope) (A : Around) (env : Env) (g₀ : Heap) (s₀ : Shared) (q : Heap) (g₂ : Heap) (wr : List Addr) (St : Nat → Heap → Prop) (N : Nat) (PF : Nat → LM → Prop) (i : Nat) (g : Heap) (lm : LM) (s : Shared) : Prop where
  le : i ≤ N
  st : St i s.heap
  up : Sub g₂ g
  at_ : AtS c k sc lm A env g₀ s₀ q g s
  off : ∀ b ∈ wr, g.get? b = none
  pf : PF i lm

theorem for_walk {A : Around} {env : Env} {g₀ q g₂ : Heap} {s₀ s₂ : Shared} {target : Expr} {body : List Stmt} {ds : List PV} {I : Addr} {wr fp : List Addr} {Pi : Nat → Value → Prop} {St : Nat → Heap → Prop} {R : Result → Shared → Prop}
    (a₂ : AtS c k sc lm A env g₀ s₀ q g₂ s₂) (W : Walk c A g₂ s₂ I wr fp Pi St ds) (hq : ∀ b ∈ wr, q.get? b = none ∧ s₀.heap.get? b = none) (h : PFor c k sc target body P ds lm)
    (hR : ∀ g' lm' s' f pf, FlowOk g' f pf → Sub g₂ g' → AtS c k sc lm' A env g₀ s₀ q g' s' → P pf lm' → R (.ok f) s') : codeAny c.M A (.forLoop target (.ref I) body [] env) R s₂ := by
  refine codeAny_forLoop_any (fun n s' => ∃ i g' lm', n = ds.length + 1 - i ∧ FInv c k sc A env g₀ s₀ q g₂ wr St ds.length (fun i lm => PFor c k sc target body P (ds.drop i) lm) i g' lm' s') ?_ (ds.length + 1)
    ⟨0, g₂, lm, rfl, Nat.zero_le _, W.st, Sub.refl _, a₂, W.off, h⟩
  rintro n s' ⟨i, g', lm', rfl, V⟩
  have hw : ∀ b ∈ wr, g'.get? b = none ∧ q.get? b = none ∧ s₀.heap.get? b = none := fun b hb => ⟨V.off b hb, hq b hb⟩
  by_cases hlt : i < ds.length
  · refine wpAny_with_toks (Nat.le_refl _) (W.W.item i s' _ _ hlt V.st fun v h₁ tk₁ hv hst₁ hk₁ ht₁ => ?_)
    obtain ⟨d, hd, hr⟩ := W.item i v hlt hv
    have a₁ := V.at_.but hk₁ ht₁ hw (W.flds i _ V.st)
    have hp := V.pf
    rw [List.drop_eq_getElem_cons hlt, Option.some.inj ((List.getElem?_eq_getElem hlt).symm.trans hd)] at hp
    obtain ⟨lm₁, hpa, hpx⟩ := hp
    refine W.go (i + 1) { s' with heap := h₁, toks := tk₁ } target v _ hst₁ ?_ |> (wpAny_mono · (fun _ _ x => x) fun _ _ x => x.elim)
    refine wpAny_mono (hpa A env g₀ s₀ _ g' _ v (a₁.guard V.off (W.flds _ _ hst₁)) (hr.mono V.up)) (fun _ s₃ ⟨g₃, a₃, hg₃⟩ => ?_) fun _ _ x => x.elim
    have sq := guard_sub (wr := wr) a₁.run.subq
    refine hpx.turn a₃ (fun g₄ lm₄ s₄ hg₄ a₄ hpf => ⟨ds.length + 1 - (i + 1), Nat.sub_lt_sub_left (Nat.lt_succ_of_lt hlt) (Nat.lt_succ_self i), i + 1, g₄, lm₄, rfl, hlt, ?_, V.up.trans (hg₃.trans hg₄), a₄.unguard sq, fun b hb => ?_, hpf⟩)
      fun g₄ lm₄ s₄ f pf hf hg₄ a₄ hpf => hR g₄ lm₄ s₄ f pf hf (V.up.trans (hg₃.trans hg₄)) (a₄.unguard sq) hpf
    · refine W.W.frame _ _ _ hst₁ fun b hb o e => (W.fpOld b hb).elim (fun h => a₄.run.subq b o (guard_in h e)) fun h => ?_
      cases e' : g₂.get? b with
      | none => exact absurd e' h
      | some o' => exact a₄.run.sub b o (get_inj (a₁.run.sub b o' (V.up b o' e')) e ▸ hg₄ b o' (hg₃ b o' (V.up b o' e')))
    · obtain ⟨o, vs, e, _⟩ := W.flds _ _ hst₁ b hb
      exact a₄.run.gq b (fun h => none_ne h (guard_in hb e))
  · have hi : ds.length ≤ i := Nat.le_of_not_lt hlt
    have hp := V.pf
    rw [List.drop_of_length_le hi] at hp
    refine wpAny_with_toks (Nat.le_refl _) (W.W.done s' _ _ (Nat.le_antisymm V.le hi ▸ V.st) fun h₁ tk₁ hk₁ ht₁ => ?_)
    exact wpAny_execs_nil (hR g' lm' _ .next .next trivial V.up (V.at_.but hk₁ ht₁ hw (W.flds i _ V.st)) hp)

theorem PX1.for_ {target iter : Expr} {body : List Stmt} {pos : Pos} {ds : List PV} (hi : PIt c k sc lm iter ds) (h : PFor c k sc target body P ds lm) (hs : ∀ env x, foldedSetIterable iter env x = pure x := by intros; rfl) :
    PX1 c k sc (.For target iter body [] pos) lm P := by
  intro A env g₀ s₀ q g s a
  exact wpAny_For (hi.go a.toAt fun s₂ g₂ I wr fp Pi St G W hwr => for_walk (a.grow G) W (fun b hb => ⟨sub_get_none a.run.subq (hwr b hb), sub_get_none a.run.grow.keep (hwr b hb)⟩) h fun g' lm' s' f pf hf hg a' hp => ⟨g', lm', pf, hf, G.sub.trans hg, a', hp⟩) (hs env)

/-! iterables -/
theorem go_listiter {A : Around} {I l : Addr} {i : Nat} {s : Shared} {target : Expr} {v : Value} {Q : Unit → Shared → Prop} (h : s.heap.IsListIter I l i) (hQ : Q () s) : wpAny c.M A (letOwnedTupleGo target (.ref I) v) Q Bot s := by
  unfold letOwnedTupleGo
  obtain ⟨o, e1, e2, e3⟩ := h
  have key : wpAny c.M A (match ((Value.ref I), v) with
      | (.ref r, .ref a) => (do
        let o ← load r
        match o.cls, o.data with
        | .type n, .fields vs =>
          if ["enumerate", "zip", "dict_itemiterator", "dict_reverseitemiterator", "odict_iterator", "itertools.zip_longest", "itertools.pairwise"].contains n && vs[0]? == some (rawInt a) then
            rule "for.unpacks-the-owned-tuple"
            updateField r 0 .none
        | _, _ => pure () : Sem Unit)
      | _ => pure ()) Q Bot s := by
    cases v <;> first | exact wpAny_pure hQ | skip
    refine wpAny_bind (wpAny_load e1 ?_)
    rw [e2, e3]
    exact wpAny_pure hQ
  cases target <;> first | exact wpAny_pure hQ | exact key

theorem PIt.of_list {e : Expr} {xs : List PyData} (he : PE c k sc lm e (.d (.list xs))) : PIt c k sc lm e (xs.map .d) := by
  intro A env g s a
  refine VE.go (he A env g s a) (fun xv s₁ g₁ G₁ hv => ?_)
  obtain ⟨l, vs, rfl, hl, hr⟩ := rd_list hv
  have hl₁ : s₁.heap.IsList l vs := (hl.at fun o e => G₁.le _ _ e).isList
  have hlg : g₁.get? l ≠ none := plain_live hl
  have hnone := get?_size_none s₁.heap
  have hne : l ≠ s₁.heap.objs.size := by obtain ⟨o, e, _⟩ := hl₁; exact Nat.ne_of_lt (Heap.lt_size e)
  refine wpAny_pyIter_list hl₁ ?_
  have G₂ : Grow g₁ s₁ g₁ { s₁ with heap := s₁.heap.push { cls := .type "list_iterator", data := .fields #[.ref l, .int 0 0] } } :=
    ⟨⟨_, s₁.toks, rfl⟩, fun b o e => Heap.get?_push_of_some _ e, Sub.refl _, fun b o e => Heap.get?_push_of_some _ (G₁.le b o e), fun b o e => .inl e, Nat.le_refl _⟩
  have hlen := hr.length
  have hsz : vs.toList.length = vs.size := by simp
  refine ⟨g₁, s₁.heap.objs.size, [s₁.heap.objs.size], [s₁.heap.objs.size, l], fun i v => vs[i]? = some v, fun i h => h.IsListIter s₁.heap.objs.size l i ∧ h.IsList l vs, rfl, G₁.trans G₂, ⟨?_, ⟨⟨_, Heap.get?_push_size _ rfl, rfl, rfl⟩, hl₁.push _⟩, fun i v _ hv => ?_, fun b hb => ?_, fun i h st b hb => ?_, fun i s' t v Q st hQ => go_listiter st.1 hQ, fun b hb => ?_⟩, fun b hb => ?_⟩
  · have := Walks.list (prog := c.prog) (w := c.w) (A := A) a.room.1 s₁.heap.objs.size l hne vs
    rw [show (xs.map PV.d).length = vs.size by rw [List.length_map]; (first | lia | omega)]
    exact this
  · have hi : i < vs.size := by
      rcases Nat.lt_or_ge i vs.size with h | h
      · exact h
      · rw [Array.getElem?_eq_none h] at hv; cases hv
    have hix : i < xs.length := by omega
    exact ⟨.d xs[i], by rw [List.getElem?_map, List.getElem?_eq_getElem hix]; rfl, hr.get i v _ (by simpa using hv) (List.getElem?_eq_getElem hix)⟩
  · rcases List.mem_cons.mp hb with e | hb
    · exact .inl (by simp [e])
    · exact .inr (by simp at hb; rw [hb]; exact hlg)
  · simp at hb; subst hb
    obtain ⟨o, e1, e2, e3⟩ := st.1
    exact ⟨o, _, e1, e3⟩
  · simp at hb; subst hb
    exact sub_get_none G₁.le hnone
  · simp at hb; subst hb
    exact sub_get_none G₁.keep hnone
end
end Mine

/-! Calc5 -/
open PySem PySem.W PyProof.Rows
set_option Elab.async false
set_option maxRecDepth 100000
namespace Mine

/-- texts as lists of signs -/
noncomputable def S (l : List Nat) : Str := ⟨l.toArray⟩
theorem S_inj {a b : List Nat} (h : S a = S b) : a = b := by
  have := congrArg (fun x : Str => x.cps.toList) h
  simpa [S] using this
theorem S_toList (x : Str) : S x.cps.toList = x := by cases x; simp [S]
theorem S_length (l : List Nat) : (S l).length = l.length := by simp [S, Str.length]
theorem S_append (a b : List Nat) : S a ++ S b = S (a ++ b) := by
  show Str.append _ _ = _
  simp [S, Str.append]

noncomputable abbrev pint (i : Int) : PV := .d (.int i)
noncomputable abbrev pstr (l : List Nat) : PV := .d (.str (S l))
noncomputable abbrev pbool (b : Bool) : PV := .d (.bool b)
noncomputable abbrev plist (l : List PyData) : PV := .d (.list l)
noncomputable abbrev ptuple (l : List PyData) : PV := .d (.tuple l)

section
variable {c : Cx} {k : Nat} {sc : Scope} {lm : LM}

theorem ve_int {A : Around} {t : Sem Value} {g : Heap} {s : Shared} {i : Int} (hs : Sub g s.heap) (h : ∀ Q : Value → Shared → Prop, Q (.int i s.toks) { s with toks := s.toks + 1 } → wpAny c.M A t Q Bot s) : VE c A t g s (pint i) :=
  h _ ⟨g, Grow.toks hs _, rd_mk_int _ _⟩
theorem ve_bool {A : Around} {t : Sem Value} {g : Heap} {s : Shared} {b : Bool} (hs : Sub g s.heap) (h : ∀ Q : Value → Shared → Prop, Q (.bool b) s → wpAny c.M A t Q Bot s) : VE c A t g s (pbool b) :=
  h _ ⟨g, Grow.refl hs, rd_mk_bool _⟩

/-! ints -/
theorem sem_add (a b : Int) : BinSem c k .Add (pint a) (pint b) (pint (a + b)) := by
  intro A g s u v _ _ hs hu hv
  obtain ⟨t, rfl⟩ := rd_int hu; obtain ⟨t', rfl⟩ := rd_int hv
  exact ve_int hs fun Q h => wpAny_add_int h
theorem sem_sub (a b : Int) : BinSem c k .Sub (pint a) (pint b) (pint (a - b)) := by
  intro A g s u v _ _ hs hu hv
  obtain ⟨t, rfl⟩ := rd_int hu; obtain ⟨t', rfl⟩ := rd_int hv
  exact ve_int hs fun Q h => sub_int h
theorem sem_mod (a b : Int) (hb : b ≠ 0) : BinSem c k .Mod (pint a) (pint b) (pint (a.fmod b)) := by
  intro A g s u v _ _ hs hu hv
  obtain ⟨t, rfl⟩ := rd_int hu; obtain ⟨t', rfl⟩ := rd_int hv
  exact ve_int hs fun Q h => mod_int hb h
theorem sem_div (a b : Int) (hb : b ≠ 0) (hp : Builtin.divisionGoesByPylong a b = false) : BinSem c k .FloorDiv (pint a) (pint b) (pint (a.fdiv b)) := by
  intro A g s u v _ _ hs hu hv
  obtain ⟨t, rfl⟩ := rd_int hu; obtain ⟨t', rfl⟩ := rd_int hv
  refine ve_int hs fun Q h => AutoIntOps.floordiv_1 (by simpa using hb) (by rw [hp]; exact Bool.false_ne_true) ?_
  exact h
theorem sem_neg (a : Int) : UnSem c k .USub (pint a) (pint (-a)) := by
  intro A g s u _ _ hs hu
  obtain ⟨t, rfl⟩ := rd_int hu
  exact ve_int hs fun Q h => PyProof.Rows.neg_int h
theorem sem_lt (a b : Int) : CmpSem c k .Lt (pint a) (pint b) (decide (a < b)) := by
  intro A g s u v _ _ hs hu hv
  obtain ⟨t, rfl⟩ := rd_int hu; obtain ⟨t', rfl⟩ := rd_int hv
  exact ve_bool hs fun Q h => wpAny_lt_int h
theorem sem_le (a b : Int) : CmpSem c k .LtE (pint a) (pint b) (decide (a ≤ b)) := by
  intro A g s u v _ _ hs hu hv
  obtain ⟨t, rfl⟩ := rd_int hu; obtain ⟨t', rfl⟩ := rd_int hv
  exact ve_bool hs fun Q h => PyProof.Rows.le_int h
theorem sem_gt (a b : Int) : CmpSem c k .Gt (pint a) (pint b) (decide (b < a)) := by
  intro A g s u v _ _ hs hu hv
  obtain ⟨t, rfl⟩ := rd_int hu; obtain ⟨t', rfl⟩ := rd_int hv
  exact ve_bool hs fun Q h => PyProof.Rows.gt_int h
theorem sem_ge (a b : Int) : CmpSem c k .GtE (pint a) (pint b) (decide (b ≤ a)) := by
  intro A g s u v _ _ hs hu hv
  obtain ⟨t, rfl⟩ := rd_int hu; obtain ⟨t', rfl⟩ := rd_int hv
  exact ve_bool hs fun Q h => PySem.P.ge_int h
theorem sem_eq (a b : Int) : CmpSem c k .Eq (pint a) (pint b) (a == b) := by
  intro A g s u v _ _ hs hu hv
  obtain ⟨t, rfl⟩ := rd_int hu; obtain ⟨t', rfl⟩ := rd_int hv
  exact ve_bool hs fun Q h => PyProof.Rows.eq_int h

/-! texts -/
theorem sem_str_add (a b : List Nat) (hz : a.length + b.length ≤ sizeLine) : BinSem c k .Add (pstr a) (pstr b) (pstr (a ++ b)) := by
  intro A g s u v _ _ hs hu hv
  obtain ⟨t, rfl⟩ := rd_str hu; obtain ⟨t', rfl⟩ := rd_str hv
  refine wpAny_with_toks (Nat.le_refl _) (PyProof.Rows.add_str (fun t'' tk ht => ⟨g, Grow.toks hs _ ht, ?_⟩) (by rw [S_length, S_length]; exact hz))
  rw [S_append]; exact rd_mk_str _ _
theorem s_beq (a b : List Nat) : (S a == S b) = (a == b) := by
  rw [Bool.eq_iff_iff, beq_iff_eq, beq_iff_eq]
  exact ⟨S_inj, fun h => by rw [h]⟩
theorem sem_str_eq (a b : List Nat) : CmpSem c k .Eq (pstr a) (pstr b) (a == b) := by
  intro A g s u v _ _ hs hu hv
  obtain ⟨t, rfl⟩ := rd_str hu; obtain ⟨t', rfl⟩ := rd_str hv
  refine ve_bool hs fun Q h => PyProof.Rows.eq_str ?_
  rw [s_beq]; exact h
theorem sem_str_ne (a b : List Nat) : CmpSem c k .NotEq (pstr a) (pstr b) (a != b) := by
  intro A g s u v _ _ hs hu hv
  obtain ⟨t, rfl⟩ := rd_str hu; obtain ⟨t', rfl⟩ := rd_str hv
  refine ve_bool hs fun Q h => PyProof.Rows.ne_str ?_
  have : (S a != S b) = (a != b) := by simp only [bne, s_beq]
  rw [this]; exact h
theorem sem_in (a b : List Nat) : CmpSem c k .In (pstr a) (pstr b) (Txt.contains (S b) (S a)) := by
  intro A g s u v _ _ hs hu hv
  obtain ⟨t, rfl⟩ := rd_str hu; obtain ⟨t', rfl⟩ := rd_str hv
  exact ve_bool hs fun Q h => SB.contains h
theorem sem_notin (a b : List Nat) : CmpSem c k .NotIn (pstr a) (pstr b) (!Txt.contains (S b) (S a)) := by
  intro A g s u v _ _ hs hu hv
  obtain ⟨t, rfl⟩ := rd_str hu; obtain ⟨t', rfl⟩ := rd_str hv
  exact ve_bool hs fun Q h => SB.notContains h

/-! is -/
theorem sem_is_ty (a b : String) : CmpSem c k .Is (.ty a) (.ty b) (Value.type a == Value.type b) := by
  intro A g s u v _ _ hs hu hv
  cases hu; cases hv
  exact ve_bool hs fun Q h => wpAny_is_plain rfl h
theorem sem_isnot_ty (a b : String) : CmpSem c k .IsNot (.ty a) (.ty b) (!(Value.type a == Value.type b)) := by
  intro A g s u v _ _ hs hu hv
  cases hu; cases hv
  exact ve_bool hs fun Q h => wpAny_isNot_plain rfl h

/-! lists -/
theorem sem_list_add (a b : List PyData) (hz : a.length + b.length ≤ sizeLine) : BinSem c k .Add (plist a) (plist b) (plist (a ++ b)) := by
  intro A g s u v _ hb hs hu hv
  obtain ⟨la, va, rfl, ⟨na, ha⟩, hra⟩ := rd_list hu
  obtain ⟨lb, vb, rfl, ⟨nb, hb'⟩, hrb⟩ := rd_list hv
  obtain ⟨g', G, hg, hne⟩ := grow_new hb hs { cls := .type "list", data := .seq (va ++ vb) } rfl
  have e1 := hra.length
  have e2 := hrb.length
  simp only [Array.length_toList] at e1 e2
  exact PySem.P.add_list (hs _ _ ha) (hs _ _ hb') ⟨g', G, rd_mk_list hg (by simpa using (hra.mono G.sub).append (hrb.mono G.sub)) hne⟩ (by (first | lia | omega))

/-! truth -/
theorem tru_bool (b : Bool) : TruSem c k (pbool b) b := by
  intro A g s a _ _ hs ha
  rw [rd_bool ha]
  exact wpAny_truthy_bool ⟨rfl, g, Grow.refl hs⟩
end
end Mine

/-! Calc6 -/
open PySem PySem.W PyProof.Rows
set_option Elab.async false
set_option maxRecDepth 100000
namespace Mine

/-- f is a def of the text -/
noncomputable def IsDef (c : Cx) (f : Str) : Prop := ∀ g, c.Base g → ∃ a o fd, c.mg f = some (.ref a) ∧ g.get? a = some o ∧ o.data = .func fd
theorem IsDef.of {c : Cx} {d : DefRec} (hd : d ∈ recsOf c.p) : IsDef c d.name := fun g hb =>
  (hb.1.fn d hd).imp fun _ h => h.imp fun _ h => let ⟨_, _, _, h⟩ := h; ⟨_, h.1, h.2.1, h.2.2.1⟩

/-- a call of the def f with such data ends with r, all that stood stands -/
noncomputable def PF (c : Cx) (k : Nat) (f : Str) (args : List PV) (r : PV) : Prop :=
  ∀ A g s a vs, Room A k → c.Base g → Sub g s.heap → Tk k s → c.mg f = some (.ref a) → RdL g vs args →
    codeAny c.M A (.call (.ref a) ⟨vs, []⟩) (fun r' s' => ∃ v, r' = .ok (.ret v) ∧ ∃ g', Grow g s g' s' ∧ Rd g' v r) s

theorem PF.less {c : Cx} {k j : Nat} {f : Str} {args : List PV} {r : PV} (h : PF c j f args r) (hj : j ≤ k) : PF c k f args r :=
  fun A g s a vs hr hb hs ht => h A g s a vs (hr.less hj) hb hs (ht.less hj)

section
variable {c : Cx} {k : Nat} {sc : Scope} {lm : LM}

theorem VE.callDef {A : Around} {g : Heap} {s : Shared} {f : Str} {a : Addr} {vs : List Value} {args : List PV} {r : PV} (h : PF c k f args r) (hr : Room A k) (hb : c.Base g) (hs : Sub g s.heap) (ht : Tk k s) (hm : c.mg f = some (.ref a)) (hv : RdL g vs args) :
    VE c A (call (.ref a) vs) g s r := by
  refine wpAny_call (codeAny_mono (h A g s a vs hr hb hs ht hm hv) fun r' s' ⟨v, e, g', G, hv'⟩ => ?_)
  subst e
  exact ⟨g', G, hv'⟩

theorem PE.call {f : Str} {np pos : Pos} {e : Expr} {es : List Expr} {args : List PV} {r : PV} (hx : sc.names.lookup f = some .globalImplicit) (hf : IsDef c f) (ha : PL c k sc lm (e :: es) args) (h : PF c k f args r)
    (he : ∀ env, starEach (e :: es) env = (false, eval e env) :: starEach es env := by intro _; rfl) (hd : (f == ("__debug__" : Str)) = false := by decide) :
    PE c k sc lm (.Call (.Name f np) (e :: es) [] pos) r := by
  intro A env g s a
  obtain ⟨fa, o, fd, hm, ho, hdat⟩ := hf g a.base
  refine wpAny_Call_NameR ?_
  refine Calls.Name_function_global (by rw [a.envOk.scope]; exact a.envOk.kind) (by rw [a.envOk.kindOf]; exact hx) ?_ hd
  refine Calls.loadGlobal_global (mg := c.mg) (by rw [a.envOk.globals]; exact a.base.1.g.keeps a.sub) hm ?_
  refine callWith_def (o := o) hdat (gr_go (ha A env g s pos a) (fun vs s₁ g₁ G₁ hv => ⟨G₁.keep _ _ (a.sub _ _ ho), ?_⟩)) (he env)
  exact VE.up (VE.callDef h a.room (a.grow G₁).base (a.grow G₁).sub (a.grow G₁).tk hm hv) G₁

theorem bindL_get (kindOf : Str → Option NameKind) (x : Str) (hx : kindOf x = some .local) : ∀ (binds : List (Str × Value)) (m : Str → Option Value), bindL kindOf binds m x = (binds.reverse.lookup x).or (m x)
  | [], m => by simp [bindL]
  | (n, v) :: r, m => by
    unfold bindL
    rw [bindL_get kindOf x hx r, List.reverse_cons, List.lookup_append]
    cases hr : r.reverse.lookup x with
    | some u => simp
    | none =>
      by_cases hn : x = n
      · subst hn; simp [hx]
      · have : (x == n) = false := beq_eq_false_iff_ne.mpr hn
        split <;> simp [List.lookup_cons, this, hn]
theorem bindC_get (kindOf : Str → Option NameKind) (x : Str) (hx : kindOf x = some .cell) : ∀ (binds : List (Str × Value)) (m : Str → Option Value), bindC kindOf binds m x = (binds.reverse.lookup x).or (m x)
  | [], m => by simp [bindC]
  | (n, v) :: r, m => by
    unfold bindC
    rw [bindC_get kindOf x hx r, List.reverse_cons, List.lookup_append]
    cases hr : r.reverse.lookup x with
    | some u => simp
    | none =>
      by_cases hn : x = n
      · subst hn; simp [hx]
      · have : (x == n) = false := beq_eq_false_iff_ne.mpr hn
        split <;> simp [List.lookup_cons, this, hn]

theorem zip_both {g : Heap} {x : Str} {ns : List Str} : ∀ {vs : List Value} {ds : List PV}, RdL g vs ds →
    ((ns.zip (ds.map LV.p)).reverse.lookup x = none ∧ (ns.zip vs).reverse.lookup x = none) ∨ ∃ v p, (ns.zip (ds.map LV.p)).reverse.lookup x = some (.p p) ∧ (ns.zip vs).reverse.lookup x = some v ∧ Rd g v p := by
  induction ns with
  | nil => exact fun _ => .inl ⟨rfl, rfl⟩
  | cons n ns ih =>
    intro vs ds h
    cases ds with
    | nil => rw [rdl_nil h]; exact .inl ⟨rfl, rfl⟩
    | cons d ds =>
      obtain ⟨v, us, rfl, h1, h2⟩ := rdl_cons h
      rw [List.map_cons, List.zip_cons_cons, List.zip_cons_cons, List.reverse_cons, List.reverse_cons, List.lookup_append, List.lookup_append]
      rcases ih h2 with ⟨e1, e2⟩ | ⟨v', p, e1, e2, r⟩
      · rw [e1, e2, Option.none_or, Option.none_or, List.lookup_cons, List.lookup_cons]
        cases x == n with
        | true => exact .inr ⟨v, d, rfl, rfl, h1⟩
        | false => exact .inl ⟨rfl, rfl⟩
      · rw [e1, e2]; exact .inr ⟨v', p, rfl, rfl, r⟩
theorem zip_rdl {g : Heap} {ns : List Str} {vs : List Value} {ds : List PV} (h : RdL g vs ds) (x : Str) (d : LV) (e : (ns.zip (ds.map LV.p)).reverse.lookup x = some d) : ∃ v p, d = .p p ∧ (ns.zip vs).reverse.lookup x = some v ∧ Rd g v p :=
  (zip_both h).elim (fun n => (none_ne n.1 e).elim) fun ⟨v, p, e1, e2, r⟩ => ⟨v, p, Option.some.inj (e.symm.trans e1), e2, r⟩

/-- the locals at the start -/
noncomputable def lmStart (ns : List Str) (args : List PV) : LM := (ns.zip (args.map LV.p)).reverse

theorem part_none (h : Heap) (a : Addr) : (part h fun _ => False).get? a = none := by
  cases e : (part h fun _ => False).get? a with
  | none => rfl
  | some o => exact (part_get e).1.elim

end
end Mine

/-! Calc7 -/
open PySem PySem.W PyProof.Rows
set_option Elab.async false
set_option maxRecDepth 100000
namespace Mine

/-- a call of a built-in with such data -/
noncomputable def CallSem (c : Cx) (k : Nat) (f : Value) (args : List PV) (r : PV) : Prop :=
  ∀ A g s vs, Room A k → c.Base g → Sub g s.heap → RdL g vs args → VE c A (call f vs) g s r
noncomputable def SubSem (c : Cx) (k : Nat) (x y r : PV) : Prop :=
  ∀ A g s o i value slice, Room A k → c.Base g → Sub g s.heap → Rd g o x → Rd g i y → (∀ o i, subscripted slice false o i = operate [o, i] (getItem o i)) → VE c A (subscriptTail value slice o i) g s r

theorem rdl1 {g : Heap} {vs : List Value} {d : PV} (h : RdL g vs [d]) : ∃ v, vs = [v] ∧ Rd g v d := by
  obtain ⟨v, us, rfl, a, b⟩ := rdl_cons h
  exact ⟨v, by rw [rdl_nil b], a⟩
theorem rdl2 {g : Heap} {vs : List Value} {d e : PV} (h : RdL g vs [d, e]) : ∃ v u, vs = [v, u] ∧ Rd g v d ∧ Rd g u e := by
  obtain ⟨v, us, rfl, a, h⟩ := rdl_cons h
  obtain ⟨u, rfl, b⟩ := rdl1 h
  exact ⟨v, u, rfl, a, b⟩

section
variable {c : Cx} {k : Nat} {sc : Scope} {lm : LM}

theorem PE.callB {x : Str} {id : String} {np pos : Pos} {e : Expr} {es : List Expr} {args : List PV} {r : PV} (hx : sc.names.lookup x = some .globalImplicit) (hm : c.mg x = none) (hb : bootBuiltins x = some (.builtin id)) (ha : PL c k sc lm (e :: es) args) (h : CallSem c k (.builtin id) args r)
    (he : ∀ env, starEach (e :: es) env = (false, eval e env) :: starEach es env := by intro _; rfl) (hplain : ∀ env pos, (backTo pos (starEach es env)).any (·.1) = false := by intro _ _; rfl) (hn : x ≠ "__name__" := by decide) (hd : (x == ("__debug__" : Str)) = false := by decide) :
    PE c k sc lm (.Call (.Name x np) (e :: es) [] pos) r := by
  intro A env g s a
  refine wpAny_Call_NameR ?_
  refine a.bn hx hm hb ?_ hn hd
  refine PyProof.Rows.callWith_builtin1 (gr_go (ha A env g s pos a) (fun vs s₁ g₁ G₁ hv => ?_)) (he env) (hplain env pos)
  exact VE.up (h A g₁ s₁ vs a.room (a.grow G₁).base (a.grow G₁).sub hv) G₁
theorem PE.callT {x : Str} {T : String} {np pos : Pos} {e : Expr} {es : List Expr} {args : List PV} {r : PV} (hx : sc.names.lookup x = some .globalImplicit) (hm : c.mg x = none) (hb : bootBuiltins x = some (.type T)) (ha : PL c k sc lm (e :: es) args) (h : CallSem c k (.type T) args r)
    (he : ∀ env, starEach (e :: es) env = (false, eval e env) :: starEach es env := by intro _; rfl) (hplain : ∀ env pos, (backTo pos (starEach es env)).any (·.1) = false := by intro _ _; rfl) (hn : x ≠ "__name__" := by decide) (hd : (x == ("__debug__" : Str)) = false := by decide) :
    PE c k sc lm (.Call (.Name x np) (e :: es) [] pos) r := by
  intro A env g s a
  refine wpAny_Call_NameR ?_
  refine a.bn hx hm hb ?_ hn hd
  refine PyProof.Rows.callWith_type1 (gr_go (ha A env g s pos a) (fun vs s₁ g₁ G₁ hv => ?_)) (he env) (hplain env pos)
  exact VE.up (h A g₁ s₁ vs a.room (a.grow G₁).base (a.grow G₁).sub hv) G₁

/-! items -/
theorem tail_ok {A : Around} {g : Heap} {s : Shared} {value slice : Expr} {o i : Value} {T id : String} {r : PV} (hT : s.TypeIs o T) (hl : typeLookup (.type T) "__getitem__" = pure (some (.builtin id))) (h : VE c A (getItem o i) g s r)
    (hs : subscripted slice false o i = operate [o, i] (getItem o i)) : VE c A (subscriptTail value slice o i) g s r := by
  unfold subscriptTail
  refine wpAny_bind ?_
  rw [getitemInPython_of_ne hT.not_modules]
  refine wpAny_bind (wpAny_specialOf hT hl ?_)
  have fin : VE c A (subscripted slice false o i >>= fun r => letTemporaryGo value o r >>= fun _ => pure r) g s r := by
    rw [hs]
    exact wpAny_bind (wpAny_operating (wpAny_mono h (fun r s₃ h₃ => wpAny_bind (wpAny_letTemporaryGo (wpAny_pure h₃))) fun _ _ x => x))
  first
    | exact wpAny_pure fin
    | exact wpAny_bind (wpAny_pure fin)
    | exact fin

theorem PE.sub {value slice : Expr} {pos : Pos} {x y r : PV} (hv : PE c k sc lm value x) (hi : PE c k sc lm slice y) (h : SubSem c k x y r) (hs : ∀ o i, subscripted slice false o i = operate [o, i] (getItem o i) := by intros; rfl) :
    PE c k sc lm (.Subscript value slice pos) r := by
  intro A env g s a
  refine Subscript_ (VE.go (hv A env g s a) (fun o s₁ g₁ G₁ ho => ?_))
  refine VE.go (hi A env g₁ s₁ (a.grow G₁)) (fun i s₂ g₂ G₂ hi => ?_)
  exact VE.go (h A g₂ s₂ o i value slice a.room ((a.grow G₁).grow G₂).base ((a.grow G₁).grow G₂).sub (ho.mono G₂.sub) hi hs) (fun v s₃ g₃ G₃ h => ⟨g₃, (G₁.trans G₂).trans G₃, h⟩)

theorem sub_list {xs : List PyData} {i : Int} {d : PyData} (h0 : 0 ≤ i) (hf : i < 2 ^ 63) (hx : xs[i.toNat]? = some d) : SubSem c k (plist xs) (pint i) (.d d) := by
  intro A g s o j value slice _ _ hs ho hj hss
  obtain ⟨l, vs, rfl, hl, hr⟩ := rd_list ho
  obtain ⟨t, rfl⟩ := rd_int hj
  have hl' : s.heap.IsList l vs := (hl.at fun o e => hs _ _ e).isList
  have hlen := hr.length
  have hi : i.toNat < vs.toList.length := by
    rw [hlen]
    rcases Nat.lt_or_ge i.toNat xs.length with h | h
    · exact h
    · rw [List.getElem?_eq_none h] at hx; cases hx
  have hv : vs.toList[i.toNat]? = some vs.toList[i.toNat] := List.getElem?_eq_getElem hi
  refine tail_ok hl'.typeIs PySem.slot_list_getitem.lookup (wpAny_getItem_list hl' h0 hf (x := vs.toList[i.toNat]) (by simpa using hv) ⟨g, Grow.refl hs, hr.get _ _ _ hv hx⟩) (hss _ _)
theorem sub_list_neg {xs : List PyData} {i : Int} {d : PyData} (h0 : i < 0) (h1 : -(xs.length : Int) ≤ i) (hf : -(2 ^ 63) ≤ i) (hx : xs[(i + xs.length).toNat]? = some d) : SubSem c k (plist xs) (pint i) (.d d) := by
  intro A g s o j value slice _ _ hs ho hj hss
  obtain ⟨l, vs, rfl, hl, hr⟩ := rd_list ho
  obtain ⟨t, rfl⟩ := rd_int hj
  have hl' : s.heap.IsList l vs := (hl.at fun o e => hs _ _ e).isList
  have hlen := hr.length
  have hsz : (vs.size : Int) = xs.length := by simp only [Array.length_toList] at hlen; (first | lia | omega)
  have hi : (i + xs.length).toNat < vs.toList.length := by
    rw [hlen]
    rcases Nat.lt_or_ge (i + xs.length).toNat xs.length with h | h
    · exact h
    · rw [List.getElem?_eq_none h] at hx; cases hx
  have hv : vs.toList[(i + xs.length).toNat]? = some vs.toList[(i + xs.length).toNat] := List.getElem?_eq_getElem hi
  refine tail_ok hl'.typeIs PySem.slot_list_getitem.lookup (wpAny_getItem_list_neg hl' h0 (by rw [hsz]; exact h1) hf (x := vs.toList[(i + xs.length).toNat]) (by rw [hsz]; simpa using hv) ⟨g, Grow.refl hs, hr.get _ _ _ hv hx⟩) (hss _ _)
theorem sub_tuple {xs : List PyData} {i : Int} {d : PyData} (h0 : 0 ≤ i) (hf : i < 2 ^ 63) (hx : xs[i.toNat]? = some d) : SubSem c k (ptuple xs) (pint i) (.d d) := by
  intro A g s o j value slice _ _ hs ho hj hss
  obtain ⟨l, vs, n, rfl, hl, hr⟩ := rd_tuple ho
  obtain ⟨t, rfl⟩ := rd_int hj
  have hl' := hs _ _ hl
  have hlen := hr.length
  have hi : i.toNat < vs.toList.length := by
    rw [hlen]
    rcases Nat.lt_or_ge i.toNat xs.length with h | h
    · exact h
    · rw [List.getElem?_eq_none h] at hx; cases hx
  have hv : vs.toList[i.toNat]? = some vs.toList[i.toNat] := List.getElem?_eq_getElem hi
  have hT : s.TypeIs (.ref l) "tuple" := ⟨_, hl', rfl⟩
  have hk : seqIndex? i vs.size = some i.toNat := by
    simp only [Array.length_toList] at hi
    have hn : ¬ i < 0 := by omega
    simp only [seqIndex?, hn, if_false]
    rw [if_pos (by simp; omega)]
  refine tail_ok hT F.slot_tuple_getitem.lookup (PySem.P.getItem_tuple hl' (by (first | lia | omega)) hf hk (y := vs.toList[i.toNat]) (by simpa using hv) ⟨g, Grow.refl hs, hr.get _ _ _ hv hx⟩) (hss _ _)
theorem sub_str {l : List Nat} {i : Int} {x : Nat} (h0 : 0 ≤ i) (hf : i < 2 ^ 63) (hx : l[i.toNat]? = some x) : SubSem c k (pstr l) (pint i) (pstr [x]) := by
  intro A g s o j value slice _ _ hs ho hj hss
  obtain ⟨t, rfl⟩ := rd_str ho
  obtain ⟨t', rfl⟩ := rd_int hj
  have hi : i.toNat < l.length := by
    rcases Nat.lt_or_ge i.toNat l.length with h | h
    · exact h
    · rw [List.getElem?_eq_none h] at hx; cases hx
  refine tail_ok (typeIs_str _ _ _) F.slot_str_getitem.lookup (PyProof.Rows.getItem_str (c := x) ?_ ?_ ⟨g, Grow.toks hs _, rd_mk_str _ _⟩) (hss _ _)
  · simp; omega
  · have hk : seqIndex? i (S l).length = some i.toNat := by
      have hn : ¬ i < 0 := by (first | lia | omega)
      simp only [seqIndex?, hn, if_false, S_length]
      rw [if_pos (by simp; omega)]
    rw [hk]
    simpa [S] using hx

/-! slices -/
noncomputable def cut {α : Type} (lo hi : Option Int) (l : List α) : List α := (l.drop (lo.elim 0 (clipAt l.length))).take (hi.elim l.length (clipAt l.length) - lo.elim 0 (clipAt l.length))

open PySem.Builtin.Str (strSliceIndices) in
theorem indices_plain (lo hi : Option Int) (n : Nat) : strSliceIndices lo hi 1 n = (List.range (hi.elim n (clipAt n) - lo.elim 0 (clipAt n))).map (lo.elim 0 (clipAt n) + ·) := by
  have e : strSliceIndices lo hi 1 n = sliceRange (sliceBounds lo hi none n).1 (sliceBounds lo hi none n).2.1 (sliceBounds lo hi none n).2.2 := by
    cases lo <;> cases hi <;> rfl
  rw [e, sliceBounds_plain]
  exact sliceRange_one _ _
open PySem.Builtin.Str (strSliceIndices) in
theorem slice_cut (l : List Nat) (lo hi : Option Int) : Txt.slice (S l) lo hi = S (cut lo hi l) := by
  have e : (S l).length = l.length := S_length l
  have e2 : ((strSliceIndices lo hi 1 l.length).filterMap ((S l).cps[·]?)) = cut lo hi l := by
    rw [indices_plain]
    have := pick_run (S l).cps (lo.elim 0 (clipAt l.length)) (hi.elim l.length (clipAt l.length) - lo.elim 0 (clipAt l.length))
    unfold cut
    simpa [S] using this
  unfold Txt.slice
  rw [e, e2]
  split
  · rename_i h
    have hlen : (strSliceIndices lo hi 1 l.length).length = l.length := by simpa using h
    rw [indices_plain] at hlen
    simp only [List.length_map, List.length_range] at hlen
    have c1 : ∀ i : Int, clipAt l.length i ≤ l.length := fun i => by
      have := clipAt_cast l.length i
      omega
    unfold cut
    rw [hlen]
    have h0 : lo.elim 0 (clipAt l.length) = 0 ∨ l.length = 0 := by
      cases hi with
      | none => simp only [Option.elim] at hlen ⊢; omega
      | some j => simp only [Option.elim] at hlen ⊢; have := c1 j; omega
    rcases h0 with h0 | h0
    · rw [h0]; simp
    · have : l = [] := List.eq_nil_of_length_eq_zero h0
      subst this; simp
  · rfl

/-- a part of a slice -/
noncomputable def PPart (c : Cx) (k : Nat) (sc : Scope) (lm : LM) : Option Expr → Option Int → Prop
  | none, none => True
  | some e, some i => PE c k sc lm e (pint i)
  | _, _ => False
theorem PPart.eval {A : Around} {env : Env} {g : Heap} {s : Shared} {e : Option Expr} {i : Option Int} (h : PPart c k sc lm e i) (a : At c k sc lm A env g s) :
    wpAny c.M A (evalPart e env) (fun v s' => ∃ g', Grow g s g' s' ∧ ∃ p : Option (Int × Tok), v = partValue p ∧ p.map (·.1) = i) Bot s := by
  cases e with
  | none =>
    cases i with
    | none => exact wpAny_pure ⟨g, Grow.refl a.sub, none, rfl, rfl⟩
    | some i => exact h.elim
  | some e =>
    cases i with
    | none => exact h.elim
    | some i =>
      refine VE.go (h A env g s a) (fun v s' g' G hv => ?_)
      obtain ⟨t, rfl⟩ := rd_int hv
      exact ⟨g', G, some (i, t), rfl, rfl⟩

theorem PE.sliceStr {x : Str} {px : Pos} {lower upper : Option Expr} {p pos : Pos} {l : List Nat} {lo hi : Option Int} (hv : PE c k sc lm (.Name x px) (pstr l)) (hl : PPart c k sc lm lower lo) (hu : PPart c k sc lm upper hi) (hz : l.length ≤ sizeLine) :
    PE c k sc lm (.Subscript (.Name x px) (.Slice lower upper none p) pos) (pstr (cut lo hi l)) := by
  intro A env g s a
  refine wpAny_Subscript_str_slice (VE.go (hv A env g s a) (fun o s₁ g₁ G₁ ho => ?_)) (fun _ _ => rfl)
  refine wpAny_mono (hl.eval (a.grow G₁)) (fun vl s₂ ⟨g₂, G₂, pl, el, il⟩ => ?_) fun _ _ x => x
  refine wpAny_mono (hu.eval ((a.grow G₁).grow G₂)) (fun vu s₃ ⟨g₃, G₃, pu, eu, iu⟩ => ?_) fun _ _ x => x
  obtain ⟨t, rfl⟩ := rd_str ho
  refine ⟨_, t, pl, pu, rfl, el, eu, ?_⟩
  subst el; subst eu
  have hb := (((a.grow G₁).grow G₂).grow G₃).base
  obtain ⟨g₄, G₄, _⟩ := grow_all (s' := { s₃ with heap := s₃.heap.push { cls := .type "slice", data := .fields #[partValue pl, partValue pu, .none] } }) G₃.le ⟨_, s₃.toks, rfl⟩ fun b o e => Heap.get?_push_of_some _ e
  have G := ((G₁.trans G₂).trans G₃).trans G₄
  have e : Txt.slice (S l) (pl.map (·.1)) (pu.map (·.1)) = S (cut lo hi l) := by rw [slice_cut, il, iu]
  have e' : (if ((Option.map (·.1) (none : Option (Int × Tok))).getD 1 == 1 && (slicePicked (S l) pl pu none).length == (S l).length) = true then (S l) else ⟨((slicePicked (S l) pl pu none).filterMap ((S l).cps[·]?)).toArray⟩) = S (cut lo hi l) := e
  unfold sliceMade
  split
  · rename_i h
    rw [if_pos h] at e'
    exact ⟨g₄, G, by show Rd g₄ _ (.d (.str (S (cut lo hi l)))); rw [← e']; exact rd_mk_str _ _⟩
  · rename_i h
    rw [if_neg h] at e'
    refine ⟨?_, g₄, G.trans (Grow.toks G₄.le _), ?_⟩
    · rw [e', S_length]
      unfold cut
      simp only [List.length_take, List.length_drop]; omega
    · show Rd g₄ _ (.d (.str (S (cut lo hi l)))); rw [e']; exact rd_mk_str _ _

theorem cut_length_le {α : Type} (lo hi : Option Int) (l : List α) : (cut lo hi l).length ≤ l.length := by
  unfold cut; simp only [List.length_take, List.length_drop]; omega
theorem cut_map {α β : Type} (f : α → β) (lo hi : Option Int) (l : List α) : cut lo hi (l.map f) = (cut lo hi l).map f := by
  unfold cut; simp [List.map_take, List.map_drop]

theorem PPart.isPart {p : Option (Int × Tok)} {i : Option Int} (h : p.map (·.1) = i) : IsPart (partValue p) i := by
  cases p with
  | none => cases h; exact .none
  | some q => cases h; exact .int _ _

theorem RdAll.cut {g : Heap} {vs : List Value} {xs : List PyData} (h : RdAll g vs xs) (lo hi : Option Int) : RdAll g (cut lo hi vs) (Mine.cut lo hi xs) := by
  unfold Mine.cut
  rw [h.length]
  exact (h.drop _).take _

/-- a slice of a list, the one that a name alone holds too -/
theorem sliceList {A : Around} {env : Env} {g : Heap} {s : Shared} {x : Str} {px : Pos} {lower upper : Option Expr} {p pos : Pos} {xs : List PyData} {lo hi : Option Int} (a : At c k sc lm A env g s)
    (hv : wpAny c.M A (eval (.Name x px) env) (fun v s' => ∃ g', Grow g s g' s' ∧ ∃ l vs, v = .ref l ∧ s'.heap.IsList l vs ∧ RdAll g' vs.toList xs) Bot s)
    (hl : PPart c k sc lm lower lo) (hu : PPart c k sc lm upper hi) (hz : xs.length ≤ sizeLine) :
    VE c A (eval (.Subscript (.Name x px) (.Slice lower upper none p) pos) env) g s (plist (cut lo hi xs)) := by
  refine wpAny_Subscript_list_slice (wpAny_mono hv (fun o s₁ ⟨g₁, G₁, l, vs, e, hls, hr⟩ => ?_) fun _ _ x => x) (fun _ _ => rfl)
  refine wpAny_mono (hl.eval (a.grow G₁)) (fun vl s₂ ⟨g₂, G₂, pl, el, il⟩ => ?_) fun _ _ x => x
  refine wpAny_mono (hu.eval ((a.grow G₁).grow G₂)) (fun vu s₃ ⟨g₃, G₃, pu, eu, iu⟩ => ?_) fun _ _ x => x
  subst e; subst el; subst eu
  have hlen := hr.length
  simp only [Array.length_toList] at hlen
  have hl₃ : s₃.heap.IsList l vs := by
    obtain ⟨o, e, r⟩ := hls
    exact ⟨o, G₃.keep _ _ (G₂.keep _ _ e), r⟩
  refine ⟨l, vs, lo, hi, rfl, hl₃, by omega, PPart.isPart il, PPart.isPart iu, ?_⟩
  have hb := (((a.grow G₁).grow G₂).grow G₃).base
  obtain ⟨g₄, G₄, _⟩ := grow_new hb G₃.le { cls := .type "slice", data := .fields #[partValue pl, partValue pu, .none] } rfl
  obtain ⟨g₅, G₅, hg, hne⟩ := grow_new (hb.mono G₄.sub) G₄.le { cls := .type "list", data := .seq (slicePick vs lo hi none) } rfl
  have e : s₃.heap.objs.size + 1 = (s₃.heap.push { cls := .type "slice", data := .fields #[partValue pl, partValue pu, .none] }).objs.size := (Heap.size_push _ _).symm
  refine ⟨g₅, (((G₁.trans G₂).trans G₃).trans G₄).trans G₅, ?_⟩
  rw [e]
  refine rd_mk_list hg ?_ hne
  rw [slicePick_plain]
  have h5 := (hr.mono (((G₂.trans G₃).trans G₄).trans G₅).sub).cut lo hi
  unfold Mine.cut at h5 ⊢
  simpa using h5

theorem PE.sliceList {x : Str} {px : Pos} {lower upper : Option Expr} {p pos : Pos} {xs : List PyData} {lo hi : Option Int} (hv : PE c k sc lm (.Name x px) (plist xs)) (hl : PPart c k sc lm lower lo) (hu : PPart c k sc lm upper hi) (hz : xs.length ≤ sizeLine) :
    PE c k sc lm (.Subscript (.Name x px) (.Slice lower upper none p) pos) (plist (cut lo hi xs)) := by
  intro A env g s a
  refine Mine.sliceList a (VE.go (hv A env g s a) (fun v s' g' G h => ?_)) hl hu hz
  obtain ⟨l, vs, rfl, hp, hr⟩ := rd_list h
  exact ⟨g', G, l, vs, rfl, (hp.at fun o e => G.le _ _ e).isList, hr⟩
/-- the same of a list that the name alone holds -/
theorem PE.sliceOwn {x : Str} {px : Pos} {lower upper : Option Expr} {p pos : Pos} {xs : List PyData} {lo hi : Option Int} (hx : lm.lookup x = some (.own xs)) (hl : PPart c k sc lm lower lo) (hu : PPart c k sc lm upper hi) (hz : xs.length ≤ sizeLine) (hd : (x == ("__debug__" : Str)) = false := by decide) :
    PE c k sc lm (.Subscript (.Name x px) (.Slice lower upper none p) pos) (plist (cut lo hi xs)) := by
  intro A env g s a
  refine Mine.sliceList a ?_ hl hu hz
  obtain ⟨v, hv, l, vs, rfl, hp, hr⟩ := a.loc x _ hx
  have kf : env.scope.kind = .function := by rw [a.envOk.scope]; exact a.envOk.kind
  refine wpAny_Name ?_ hd
  rcases hv with ⟨hk, m, hn, hm⟩ | ⟨hk, cc, hc, hm⟩ | ⟨hk, hcd, cc, hc, hm⟩
  · exact wpAny_loadName_local kf hk hn hm ⟨g, Grow.refl a.sub, l, vs, rfl, hp.isList, hr⟩
  · exact wpAny_loadName_cell kf hk hc hm ⟨g, Grow.refl a.sub, l, vs, rfl, hp.isList, hr⟩
  · exact wpAny_loadName_free kf hk hc hm ⟨g, Grow.refl a.sub, l, vs, rfl, hp.isList, hr⟩ hcd
end
end Mine

/-! Calc8 -/
open PySem PySem.W PyProof.Rows
set_option Elab.async false
set_option maxRecDepth 100000
namespace Mine

/-- the signs of a written text -/
noncomputable def lit (x : String) : List Nat := (Str.ofString x).cps.toList
theorem S_lit (x : String) : S (lit x) = Str.ofString x := S_toList _
noncomputable def itx (i : Int) : List Nat := lit (toString i)

section
variable {c : Cx} {k : Nat} {sc : Scope} {lm : LM}

theorem PE.lit {x : String} {q : Nat} {pos : Pos} : PE c k sc lm (.Constant (.str (Str.ofString x)) q pos) (pstr (lit x)) := by
  have : pstr (Mine.lit x) = .d (.str (Str.ofString x)) := by rw [← S_lit]
  rw [this]; exact PE.str_

theorem fit63 {n : Nat} (h : n ≤ sizeLine) : (n : Int) < 2 ^ 63 := by
  have : sizeLine = 16777216 := by decide
  omega

theorem call_len_str (l : List Nat) (hz : l.length ≤ sizeLine) : CallSem c k (.builtin "len") [pstr l] (pint l.length) := by
  intro A g s vs _ _ hs hv
  obtain ⟨v, rfl, hw⟩ := rdl1 hv
  obtain ⟨t, rfl⟩ := rd_str hw
  have e : ((S l).length : Int) = l.length := by rw [S_length]
  refine PySem.P.len_str (by rw [e]; have := fit63 hz; (first | lia | omega)) ?_
  rw [e]
  exact ⟨g, Grow.toks hs _, rd_mk_int _ _⟩
theorem call_len_list (xs : List PyData) (hz : xs.length ≤ sizeLine) : CallSem c k (.builtin "len") [plist xs] (pint xs.length) := by
  intro A g s vs _ _ hs hv
  obtain ⟨v, rfl, hw⟩ := rdl1 hv
  obtain ⟨l, us, rfl, hl, hr⟩ := rd_list hw
  have hlen := hr.length
  simp only [Array.length_toList] at hlen
  refine Calls.call_len_list (hl.at fun o e => hs _ _ e).isList (by rw [hlen]; exact fit63 hz) ?_
  rw [hlen]
  exact ⟨g, Grow.toks hs _, rd_mk_int _ _⟩
theorem call_len_tuple (xs : List PyData) (hz : xs.length ≤ sizeLine) : CallSem c k (.builtin "len") [ptuple xs] (pint xs.length) := by
  intro A g s vs _ _ hs hv
  obtain ⟨v, rfl, hw⟩ := rdl1 hv
  obtain ⟨l, us, n, rfl, hl, hr⟩ := rd_tuple hw
  have hlen := hr.length
  simp only [Array.length_toList] at hlen
  refine PyProof.Rows.len_tuple ⟨_, hs _ _ hl, rfl, n, rfl⟩ (by rw [hlen]; exact fit63 hz) ?_
  rw [hlen]
  exact ⟨g, Grow.toks hs _, rd_mk_int _ _⟩
/-- len of a list that the name alone holds -/
theorem PE.lenOwn {x : Str} {np px pos : Pos} {xs : List PyData} (hn : sc.names.lookup (Str.ofString "len") = some .globalImplicit) (hm : c.mg (Str.ofString "len") = none) (hx : lm.lookup x = some (.own xs)) (hz : xs.length ≤ sizeLine) (hd : (x == ("__debug__" : Str)) = false := by decide) :
    PE c k sc lm (.Call (.Name (Str.ofString "len") np) [.Name x px] [] pos) (pint xs.length) := by
  intro A env g s a
  have kf : env.scope.kind = .function := by rw [a.envOk.scope]; exact a.envOk.kind
  refine wpAny_Call_NameR ?_
  refine a.bn hn hm (show bootBuiltins (Str.ofString "len") = some (.builtin "len") by kernel_rfl) ?_
  obtain ⟨v, hv, l, vs, rfl, hp, hr⟩ := a.loc x _ hx
  have hlen := hr.length
  simp only [Array.length_toList] at hlen
  refine PyProof.Rows.callWith_builtin1 (spliced_more (wpAny_Name ?_ hd))
  have fin : wpAny c.M A (spliced (backTo pos (starEach [] env))) (fun vs s₂ => wpAny c.M A (PySem.call (.builtin "len") (.ref l :: vs)) (fun v s' => ∃ g', Grow g s g' s' ∧ Rd g' v (pint xs.length)) Bot s₂) Bot s := by
    refine spliced_none (Calls.call_len_list hp.isList (by rw [hlen]; exact fit63 hz) ?_)
    rw [hlen]
    exact ⟨g, Grow.toks a.sub _, rd_mk_int _ _⟩
  rcases hv with ⟨hk, m, hn, hm⟩ | ⟨hk, cc, hc, hm⟩ | ⟨hk, hcd, cc, hc, hm⟩
  · exact wpAny_loadName_local kf hk hn hm fin
  · exact wpAny_loadName_cell kf hk hc hm fin
  · exact wpAny_loadName_free kf hk hc hm fin hcd

theorem call_str_int (i : Int) (hi : i.natAbs.log2 < 1920) : CallSem c k (.type "str") [pint i] (pstr (itx i)) := by
  intro A g s vs _ _ hs hv
  obtain ⟨v, rfl, hw⟩ := rdl1 hv
  obtain ⟨t, rfl⟩ := rd_int hw
  refine PySem.P.str_of_int hi ⟨g, Grow.toks hs _, ?_⟩
  show Rd g _ (.d (.str (S (lit (toString i)))))
  rw [S_lit]; exact rd_mk_str _ _
theorem call_str_bool (b : Bool) : CallSem c k (.type "str") [pbool b] (pstr (if b then lit "True" else lit "False")) := by
  intro A g s vs _ _ hs hv
  obtain ⟨v, rfl, hw⟩ := rdl1 hv
  rw [rd_bool hw]
  refine PySem.P.str_of_bool ⟨g, Grow.toks hs _, ?_⟩
  cases b
  · show Rd g _ (.d (.str (S (lit "False"))))
    rw [S_lit]; exact rd_mk_str _ _
  · show Rd g _ (.d (.str (S (lit "True"))))
    rw [S_lit]; exact rd_mk_str _ _
theorem call_str_none : CallSem c k (.type "str") [.d .none] (pstr (lit "None")) := by
  intro A g s vs _ _ hs hv
  obtain ⟨v, rfl, hw⟩ := rdl1 hv
  rw [rd_none hw]
  refine PySem.P.str_of_none ⟨g, Grow.toks hs _, ?_⟩
  show Rd g _ (.d (.str (S (lit "None"))))
  rw [S_lit]; exact rd_mk_str _ _

theorem call_abs (i : Int) : CallSem c k (.builtin "abs") [pint i] (pint (if i < 0 then -i else i)) := by
  intro A g s vs _ _ hs hv
  obtain ⟨v, rfl, hw⟩ := rdl1 hv
  obtain ⟨t, rfl⟩ := rd_int hw
  exact wpAny_with_toks (Nat.le_refl _) (PyProof.Rows.call_abs_int fun u tk ht => ⟨g, Grow.toks hs _ ht, rd_mk_int _ _⟩)

/-- the heap may have grown by things that nobody needs -/
theorem grow_any {g : Heap} {s : Shared} {h' : Heap} {tk : Nat} (hs : Sub g s.heap) (hk : Sub s.heap h') (ht : s.toks ≤ tk) : Grow g s g { s with heap := h', toks := tk } :=
  ⟨⟨h', tk, rfl⟩, hk, Sub.refl _, hs.trans hk, fun _ _ e => .inl e, ht⟩

theorem call_max2 (a b : Int) : CallSem c k (.builtin "max") [pint a, pint b] (pint (if b > a then b else a)) := by
  intro A g s vs hr _ hs hv
  obtain ⟨v, u, rfl, hw, hu⟩ := rdl2 hv
  obtain ⟨t, rfl⟩ := rd_int hw
  obtain ⟨t', rfl⟩ := rd_int hu
  refine wpAny_with_toks (Nat.le_refl _) (max_two_ints hr.1 fun h' tk hk ht => ⟨g, grow_any hs hk ht, ?_⟩)
  split <;> exact rd_mk_int _ _
theorem call_min2 (a b : Int) : CallSem c k (.builtin "min") [pint a, pint b] (pint (if b < a then b else a)) := by
  intro A g s vs hr _ hs hv
  obtain ⟨v, u, rfl, hw, hu⟩ := rdl2 hv
  obtain ⟨t, rfl⟩ := rd_int hw
  obtain ⟨t', rfl⟩ := rd_int hu
  refine wpAny_with_toks (Nat.le_refl _) (min_two_ints hr.1 fun h' tk hk ht => ⟨g, grow_any hs hk ht, ?_⟩)
  split <;> exact rd_mk_int _ _

theorem ints_of {g : Heap} : ∀ {vs : List Value} {ns : List Int}, RdAll g vs (ns.map .int) → ∃ xs : List (Int × Tok), vs = xs.map (fun p => .int p.1 p.2) ∧ xs.map (·.1) = ns
  | [], [], _ => ⟨[], rfl, rfl⟩
  | v :: vs, n :: ns, h => by
    obtain ⟨t, rfl⟩ := rd_int (show Rd g v (pint n) from h.head)
    obtain ⟨xs, e1, e2⟩ := ints_of (vs := vs) (ns := ns) h.tail
    exact ⟨(n, t) :: xs, by rw [e1]; rfl, by rw [← e2]; rfl⟩
  | [], _ :: _, h => nomatch h
  | _ :: _, [], h => nomatch h
theorem call_max_list (ns : List Int) (M : Int) (h1 : M ∈ ns) (h2 : ∀ a ∈ ns, a ≤ M) : CallSem c k (.builtin "max") [plist (ns.map .int)] (pint M) := by
  intro A g s vs hr _ hs hv
  obtain ⟨v, rfl, hw⟩ := rdl1 hv
  obtain ⟨l, us, rfl, hl, hra⟩ := rd_list hw
  obtain ⟨xs, e1, e2⟩ := ints_of hra
  have hI : us = intItems xs.toArray := by
    apply Array.toList_inj.mp
    rw [e1]; simp [intItems]
  have hne : 0 < xs.toArray.size := by
    rw [List.size_toArray]
    rcases Nat.eq_zero_or_pos xs.length with h | h
    · have : xs = [] := List.eq_nil_of_length_eq_zero h
      subst this; subst e2; simp at h1
    · exact h
  rw [hI] at hl
  refine wpAny_with_toks (Nat.le_refl _) (max_intList hr.1 (hl.at fun o e => hs _ _ e).isList hne fun v h' tk hv hk ht => ⟨g, grow_any hs hk ht, ?_⟩)
  obtain ⟨t, rfl⟩ := intItems_at hv
  obtain ⟨k1, k2⟩ := argBest_gt (numAt xs.toArray) (xs.toArray.size - 1)
  have hnum : ∀ j, numAt xs.toArray j = ns.getD j 0 := fun j => by rw [numAt_eq]; simp [e2]
  have hlen : ns.length = xs.length := by rw [← e2]; simp
  rw [List.size_toArray] at k1 k2 hne
  have : numAt xs.toArray (argBest (fun i j => decide (numAt xs.toArray i > numAt xs.toArray j)) (xs.toArray.size - 1)) = M := by
    rw [List.size_toArray]
    apply Int.le_antisymm
    · apply h2; rw [hnum]; exact getD_mem (by omega)
    · obtain ⟨j, hj, e⟩ := mem_getD h1
      rw [← e, ← hnum j]; exact k2 j (by omega)
  rw [this]; exact rd_mk_int _ _
theorem call_min_list (ns : List Int) (M : Int) (h1 : M ∈ ns) (h2 : ∀ a ∈ ns, M ≤ a) : CallSem c k (.builtin "min") [plist (ns.map .int)] (pint M) := by
  intro A g s vs hr _ hs hv
  obtain ⟨v, rfl, hw⟩ := rdl1 hv
  obtain ⟨l, us, rfl, hl, hra⟩ := rd_list hw
  obtain ⟨xs, e1, e2⟩ := ints_of hra
  have hI : us = intItems xs.toArray := by
    apply Array.toList_inj.mp
    rw [e1]; simp [intItems]
  have hne : 0 < xs.toArray.size := by
    rw [List.size_toArray]
    rcases Nat.eq_zero_or_pos xs.length with h | h
    · have : xs = [] := List.eq_nil_of_length_eq_zero h
      subst this; subst e2; simp at h1
    · exact h
  rw [hI] at hl
  refine wpAny_with_toks (Nat.le_refl _) (min_intList hr.1 (hl.at fun o e => hs _ _ e).isList hne fun v h' tk hv hk ht => ⟨g, grow_any hs hk ht, ?_⟩)
  obtain ⟨t, rfl⟩ := intItems_at hv
  obtain ⟨k1, k2⟩ := argBest_lt (numAt xs.toArray) (xs.toArray.size - 1)
  have hnum : ∀ j, numAt xs.toArray j = ns.getD j 0 := fun j => by rw [numAt_eq]; simp [e2]
  have hlen : ns.length = xs.length := by rw [← e2]; simp
  rw [List.size_toArray] at k1 k2 hne
  have : numAt xs.toArray (argBest (fun i j => decide (numAt xs.toArray i < numAt xs.toArray j)) (xs.toArray.size - 1)) = M := by
    rw [List.size_toArray]
    apply Int.le_antisymm
    · obtain ⟨j, hj, e⟩ := mem_getD h1
      rw [← e, ← hnum j]; exact k2 j (by omega)
    · apply h2; rw [hnum]; exact getD_mem (by omega)
  rw [this]; exact rd_mk_int _ _

/-! join -/
theorem strs_of {g : Heap} : ∀ {vs : List Value} {ts : List (List Nat)}, RdAll g vs (ts.map fun t => .str (S t)) → StrsAre vs (ts.map S)
  | [], [], _ => .nil
  | v :: vs, n :: ns, h => by
    obtain ⟨t, rfl⟩ := rd_str (show Rd g v (pstr n) from h.head)
    exact .cons _ _ (strs_of h.tail)
  | [], _ :: _, h => nomatch h
  | _ :: _, [], h => nomatch h
noncomputable def joinL (sep : List Nat) : List (List Nat) → List Nat
  | [] => []
  | [x] => x
  | x :: r => x ++ sep ++ joinL sep r
theorem sjoin (sep : List Nat) : ∀ ts : List (List Nat), Str.join (S sep) (ts.map S) = S (joinL sep ts)
  | [] => by simp [Str.join, joinL]; rfl
  | [x] => rfl
  | x :: y :: r => by
    show S x ++ S sep ++ Str.join (S sep) ((y :: r).map S) = S (x ++ sep ++ joinL sep (y :: r))
    rw [sjoin sep (y :: r), S_append, S_append]
end
end Mine

/-! Calc9 -/
open PySem PySem.W PyProof.Rows
set_option Elab.async false
set_option maxRecDepth 100000
namespace Mine

/-- the scope of a comprehension, its free names that are cells of the frame turned into cells -/
noncomputable def relabelS (scope sc : Scope) : Scope := { scope with names := scope.names.map fun (n, k) => if (k == .free && sc.kind == .function && sc.names.lookup n == some .cell) then (n, .cell) else (n, k) }
theorem relabel_eq {scope sc : Scope} {env : Env} (h : env.scope = sc) : relabel scope env = relabelS scope sc := by
  unfold relabel relabelS Env.kindOf
  rw [h]

noncomputable def lmComp (names : List (Str × NameKind)) (lm : LM) (x : Str) (d : PV) : LM :=
  (x, .p d) :: names.filterMap fun nk => if nk.2 == .free then (match lm.lookup nk.1 with | some (.p v) => some (nk.1, .p v) | _ => none) else none

theorem closure_go (env : Env) : ∀ (l : List (Str × NameKind)) (cs : List (Str × Addr)), (∀ x, (x, NameKind.free) ∈ l → ∃ a, env.cells.lookup x = some a) →
    ∃ cl, (forIn l cs fun (x : Str × NameKind) (cs : List (Str × Addr)) => (if x.2 == .free then (do let a ← cellOf env x.1; pure (ForInStep.yield ((x.1, a) :: cs))) else pure (ForInStep.yield cs) : Sem (ForInStep (List (Str × Addr))))) = (pure cl : Sem (List (Str × Addr))) ∧
      ∀ x, ((x, NameKind.free) ∈ l → cl.lookup x = env.cells.lookup x) ∧ ((x, NameKind.free) ∉ l → cl.lookup x = cs.lookup x) := by
  intro l
  induction l with
  | nil => intro cs _; exact ⟨cs, by rw [List.forIn_nil], fun x => ⟨fun h => by simp at h, fun _ => rfl⟩⟩
  | cons y l ih =>
    intro cs h
    obtain ⟨n, k⟩ := y
    rw [List.forIn_cons]
    have hl : ∀ x, (x, NameKind.free) ∈ l → ∃ a, env.cells.lookup x = some a := fun x hx => h x (List.mem_cons_of_mem _ hx)
    by_cases hk : k = .free
    · subst hk
      obtain ⟨a, ha⟩ := h n List.mem_cons_self
      obtain ⟨cl, e1, e2⟩ := ih ((n, a) :: cs) hl
      refine ⟨cl, ?_, fun x => ⟨fun hx => ?_, fun hx => ?_⟩⟩
      · simp only [beq_self_eq_true, if_true, cellOf, ha, pure_bind]
        exact e1
      · by_cases hm : (x, NameKind.free) ∈ l
        · exact (e2 x).1 hm
        · rw [(e2 x).2 hm]
          rcases List.mem_cons.mp hx with e | hx
          · cases e; simp [ha]
          · exact absurd hx hm
      · have hm : (x, NameKind.free) ∉ l := fun hm => hx (List.mem_cons_of_mem _ hm)
        rw [(e2 x).2 hm, List.lookup_cons]
        have : (x == n) = false := beq_eq_false_iff_ne.mpr fun e => hx (by rw [e]; exact List.mem_cons_self)
        rw [this]
    · obtain ⟨cl, e1, e2⟩ := ih cs hl
      have hb : (k == NameKind.free) = false := by simpa using hk
      refine ⟨cl, ?_, fun x => ⟨fun hx => ?_, fun hx => ?_⟩⟩
      · simp only [hb, Bool.false_eq_true, if_false, pure_bind]
        exact e1
      · rcases List.mem_cons.mp hx with e | hx
        · cases e; exact absurd rfl hk
        · exact (e2 x).1 hx
      · exact (e2 x).2 fun hm => hx (List.mem_cons_of_mem _ hm)
theorem closure_ok (scope : Scope) (env : Env) (h : ∀ x, (x, NameKind.free) ∈ scope.names → ∃ a, env.cells.lookup x = some a) :
    ∃ cl, closureFor scope env = pure cl ∧ ∀ x, (x, NameKind.free) ∈ scope.names → cl.lookup x = env.cells.lookup x := by
  obtain ⟨cl, e1, e2⟩ := closure_go env scope.names [] h
  refine ⟨cl, ?_, fun x => (e2 x).1⟩
  unfold closureFor
  have : (forIn scope.names ([] : List (Str × Addr)) fun (x : Str × NameKind) (cs : List (Str × Addr)) => (if x.2 == .free then (do let a ← cellOf env x.1; pure (ForInStep.yield ((x.1, a) :: cs))) else pure (ForInStep.yield cs) : Sem (ForInStep (List (Str × Addr))))) = pure cl := e1
  exact (congrArg (fun m => m >>= fun cs => pure cs) this).trans (pure_bind _ _) |>.trans rfl

structure CompOk (scope sc : Scope) (x : Str) : Prop where
  kind : scope.kind = .function
  nocell : ∀ y ∈ scope.names, y.2 ≠ .cell
  names : ∀ y ∈ scope.names, y.2 = .local → scope.names.lookup y.1 = some .local
  free : ∀ y, (y, NameKind.free) ∈ scope.names → sc.names.lookup y = some .cell ∧ scope.names.lookup y = some .free
  var : scope.names.lookup x = some .local

theorem lookup_relabel {scope sc : Scope} {y : Str} : (relabelS scope sc).names.lookup y = (scope.names.lookup y).map fun k => if (k == .free && sc.kind == .function && sc.names.lookup y == some .cell) then .cell else k := by
  unfold relabelS
  dsimp only
  induction scope.names with
  | nil => rfl
  | cons z r ih =>
    obtain ⟨n, k⟩ := z
    simp only [List.map_cons]
    cases h : y == n with
    | true =>
      have e : y = n := beq_iff_eq.mp h
      subst e
      by_cases hc : (k == NameKind.free && sc.kind == ScopeKind.function && List.lookup y sc.names == some NameKind.cell) = true
      · simp only [List.lookup_cons, if_pos hc, beq_self_eq_true, Option.map_some]
      · simp only [List.lookup_cons, if_neg hc, beq_self_eq_true, Option.map_some]
    | false =>
      split <;> simp only [List.lookup_cons, h, ih]

section
variable {c : Cx} {k : Nat} {sc : Scope} {lm : LM} {A : Around} {env : Env}

theorem lmComp_cases {names : List (Str × NameKind)} {x y : Str} {d : PV} {e : LV} (hy : (lmComp names lm x d).lookup y = some e) :
    (y = x ∧ e = .p d) ∨ ∃ u, e = .p u ∧ (y, NameKind.free) ∈ names ∧ lm.lookup y = some (.p u) := by
  unfold lmComp at hy
  rw [List.lookup_cons] at hy
  cases hyx : y == x with
  | true => rw [hyx] at hy; cases hy; exact .inl ⟨beq_iff_eq.mp hyx, rfl⟩
  | false =>
    rw [hyx] at hy
    obtain ⟨⟨n, kd⟩, hm1, hm2⟩ := List.mem_filterMap.mp (mem_of_lookup hy)
    dsimp only at hm2
    cases hk : kd == NameKind.free with
    | false => rw [hk] at hm2; cases hm2
    | true =>
      rw [hk, if_pos rfl] at hm2
      cases hl : lm.lookup n with
      | none => rw [hl] at hm2; cases hm2
      | some v =>
        rw [hl] at hm2
        cases v with
        | own xs => cases hm2
        | p u =>
          cases Option.some.inj hm2
          exact .inr ⟨u, rfl, (beq_iff_eq.mp hk : kd = .free) ▸ hm1, hl⟩
theorem At.cellOf {g : Heap} {s : Shared} {n : Str} {u : PV} (a : At c k sc lm A env g s) (h : lm.lookup n = some (.p u)) (f : sc.names.lookup n = some .cell) :
    ∃ w cc, env.cells.lookup n = some cc ∧ s.heap.IsCell cc (some w) ∧ Rd g w u := by
  obtain ⟨w, hw, hr⟩ := a.loc n _ h
  have f' : env.kindOf n = some .cell := (a.envOk.kindOf n).trans f
  unfold Has at hw
  rw [f'] at hw
  rcases hw with h | ⟨_, cc, h2, h3⟩ | h
  · cases h.1
  · exact ⟨w, cc, h2, h3, hr⟩
  · cases h.1

structure CInv (g : Heap) (s : Shared) (g₂ : Heap) (wr : List Addr) (St : Nat → Heap → Prop) (n : Nat) (rs : List PyData) (D C : Addr) (i : Nat) (g' : Heap) (m : Str → Option Value) (ys : Array Value) (s' : Shared) : Prop where
  le : i ≤ n
  st : St i s'.heap
  acc : s'.heap.PlainList D ys
  all : RdAll g' ys.toList (rs.take i)
  ns : s'.heap.Ns C m
  up : Sub g₂ g'
  G : Grow g s g' s'
  oD : g'.get? D = none
  oC : g'.get? C = none
  oW : ∀ b ∈ wr, g'.get? b = none

/-- the turns of a list comprehension -/
theorem comp_loop {scope sc' : Scope} {elt iter : Expr} {x : Str} {px pos : Pos} {ds : List PV} {rs : List PyData} {g g₂ : Heap} {s s₂ s₃ : Shared} {I D C : Addr} {wr fp : List Addr} {Pi : Nat → Value → Prop} {St : Nat → Heap → Prop} {lmC : PV → LM} {E : Env} {m₀ : Str → Option Value}
    {R : Result → Shared → Prop} (W : Walk c A g₂ s₂ I wr fp Pi St ds) (hwr : ∀ b ∈ wr, s.heap.get? b = none) (hfp : ∀ b ∈ fp, b ≠ D ∧ b ≠ C) (hlen : rs.length = ds.length) (hsz : rs.length ≤ sizeLine)
    (he : ∀ (i : Nat) (d : PV) (r : PyData), ds[i]? = some d → rs[i]? = some r → PE c k sc' (lmC d) elt (.d r))
    (hat : ∀ g' (s' : Shared) m v d, Sub g₂ g' → Grow g s g' s' → s'.heap.Ns C m → m x = some v → Rd g' v d → At c k sc' (lmC d) A E g' s')
    (xl : E.kindOf x = some .local) (hE : E.locals = C) (hk : (E.scope.kind == .class || (E.scope.kind == .module && E.locals != E.globals)) = false)
    (hD : s.heap.get? D = none) (hC : s.heap.get? C = none) (hDC : D ≠ C) (hne : D ≠ sysModules) (V : CInv g s g₂ wr St ds.length rs D C 0 g₂ m₀ #[] s₃)
    (fin : ∀ g' s' m, Grow g s g' s' → Rd g' (.ref D) (plist rs) → s'.heap.Ns C m → g'.get? C = none → R (.ok .next) s') :
    codeAny c.M A (.compLoop (.ListComp elt [⟨.Name x px, iter, [], 0⟩] scope pos) 0 (.ref I) (.ref D) E) R s₃ := by
  refine codeAny_compLoop_list (fun n s' => ∃ i g' m ys, n = ds.length + 1 - i ∧ CInv g s g₂ wr St ds.length rs D C i g' m ys s') ?_ (ds.length + 1) ⟨0, g₂, m₀, #[], rfl, V⟩
  clear V
  rintro n s' ⟨i, g', m, ys, rfl, V⟩
  have wD : ∀ b ∈ wr, b ≠ D ∧ b ≠ C := fun b hb => hfp b (W.W.sub b hb)
  by_cases hlt : i < ds.length
  · refine wpAny_with_toks (n := s'.toks) (Nat.le_refl _) (W.W.item i s' _ _ hlt V.st fun v h₃ tk₃ hv hst₃ hk₃ ht₃ => ?_)
    obtain ⟨d, hd, hr⟩ := W.item i v hlt hv
    have hri : i < rs.length := hlen ▸ hlt
    have G₃ := V.G.move (· ∈ wr) hk₃ (fun b hb => ⟨V.oW b hb, hwr b hb⟩) ht₃
    refine wpAny_assign_Name (wpAny_storeName_local xl (Heap.Ns.at' (hE.symm ▸ V.ns) fun o e => hk₃ _ o (fun hb => (wD _ hb).2 hE) e) (fun h₄ hn₄ hs₄ => ?_) hk)
    rw [hE] at hn₄ hs₄
    have G₄ := G₃.move (t := tk₃ + 1) (· = C) (hs₄.extBut · · · ·) (fun b hb => hb ▸ ⟨V.oC, hC⟩) (Nat.le_succ _)
    have acc₄ : h₄.PlainList D ys := V.acc.imp fun n e => hs₄.extBut _ _ hDC (hk₃ _ _ (fun hb => (wD _ hb).1 rfl) e)
    refine VE.go (he i d rs[i] hd (List.getElem?_eq_getElem hri) A _ g' _ (hat g' _ _ v d V.up G₄ hn₄ (if_pos rfl) (hr.mono V.up))) (fun y s₅ g₅ G₅ hy => ?_)
    have hys : ys.size = i := by
      have := V.all.length
      rw [Array.length_toList, List.length_take, Nat.min_eq_left (Nat.le_of_lt hri)] at this; exact this
    refine wpAny_list_append_plain (acc₄.at fun o e => G₅.keep _ _ e) (fun h₆ hl₆ hs₆ => ?_) (by rw [hys]; exact Nat.le_trans (Nat.le_of_lt hri) hsz)
    have oD₅ := G₅.off V.oD (plain_live acc₄)
    have st₄ : St (i + 1) h₄ := W.W.frame _ _ _ hst₃ fun b hb o e => hs₄.extBut b o (hfp b hb).2 e
    refine ⟨ds.length + 1 - (i + 1), Nat.sub_lt_sub_left (Nat.lt_succ_of_lt hlt) (Nat.lt_succ_self i), i + 1, g₅, _, ys.push y, rfl, hlt, ?_, hl₆, ?_, (hn₄.keeps G₅.keep).sameBut hs₆ (Ne.symm hDC), V.up.trans G₅.sub, ?_, oD₅, G₅.off V.oC (ns_live hn₄), fun b hb => ?_⟩
    · exact W.W.frame _ _ _ st₄ fun b hb o e => hs₆.extBut b o (hfp b hb).1 (G₅.keep b o e)
    · rw [Array.toList_push, List.take_add_one, List.getElem?_eq_getElem hri]
      exact (V.all.mono G₅.sub).append (.cons hy .nil)
    · exact (G₄.trans G₅).move (t := s₅.toks) (· = D) (hs₆.extBut · · · ·) (fun b hb => hb ▸ ⟨oD₅, hD⟩) (Nat.le_refl _)
    · obtain ⟨o, vs, e, _⟩ := W.flds _ _ st₄ b hb
      exact G₅.off (V.oW b hb) (fun h => none_ne h e)
  · have hi : i = ds.length := Nat.le_antisymm V.le (Nat.le_of_not_lt hlt)
    refine wpAny_with_toks (n := s'.toks) (Nat.le_refl _) (W.W.done s' _ _ (hi ▸ V.st) fun h₃ tk₃ hk₃ ht₃ => ?_)
    have G₃ := V.G.move (· ∈ wr) hk₃ (fun b hb => ⟨V.oW b hb, hwr b hb⟩) ht₃
    obtain ⟨nD, eD⟩ := V.acc
    have all := V.all
    rw [List.take_of_length_le (Nat.le_of_eq (hlen.trans hi.symm))] at all
    exact fin (addTo h₃ g' D) _ m (G₃.addTo hD hne) (rd_mk_list (addTo_new (hk₃ _ _ (fun hb => (wD _ hb).1 rfl) eD)) (all.mono (addTo_sub G₃.le)) hne) (Heap.Ns.at' V.ns fun o e => hk₃ _ o (fun hb => (wD _ hb).2 rfl) e) (addTo_off G₃.le V.oC (Ne.symm hDC))

theorem comp_core {scope : Scope} {elt iter : Expr} {x : Str} {px pos : Pos} {ds : List PV} {rs : List PyData} {g g₂ : Heap} {s s₂ : Shared} {I : Addr} {wr fp : List Addr} {Pi : Nat → Value → Prop} {St : Nat → Heap → Prop} {cl : List (Str × Addr)}
    {RR : Value → Addr → Result → Shared → Prop} (a : At c k sc lm A env g s) (ck : CompOk scope sc x) (G : Grow g s g₂ s₂) (W : Walk c A g₂ s₂ I wr fp Pi St ds) (hwr : ∀ b ∈ wr, s.heap.get? b = none)
    (hcl : ∀ y, (y, NameKind.free) ∈ scope.names → cl.lookup y = env.cells.lookup y) (hlen : rs.length = ds.length) (hsz : rs.length ≤ sizeLine)
    (he : ∀ (i : Nat) (d : PV) (r : PyData), ds[i]? = some d → rs[i]? = some r → PE c k (relabelS scope sc) (lmComp scope.names lm x d) elt (.d r))
    (hRR : ∀ D C g' s' m, Grow g s g' s' → Rd g' (.ref D) (plist rs) → s'.heap.Ns C m → g'.get? C = none → s.heap.get? C = none → RR (.ref D) C (.ok .next) s') :
    wpAny c.M A (newList []) (fun acc s₃ => wpAny c.M A (newFunctionEnv scope env.globals cl [] env.qual none .none (some env)) (fun cenv s₄ =>
      codeAny c.M A (.compStart (.ListComp elt [⟨.Name x px, iter, [], 0⟩] scope pos) 0 (.ref I) acc { cenv with scope := relabel scope env }) (RR acc cenv.locals) s₄) Bot s₃) Bot s₂ := by
  refine wpAny_newObj_type (wpAny_newFunctionEnv ck.nocell (by intro y hy; simp at hy) (fun h₁ hns₁ hsb₁ => ?_) ck.kind)
  rw [relabel_eq a.envOk.scope]
  have a₂ := a.grow G
  have hDne : s₂.heap.objs.size ≠ sysModules := fun e => Nat.not_lt.mpr (Nat.le_of_eq e) (Nat.lt_of_le_of_lt (by decide) (show (3 : Nat) < s₂.heap.objs.size from (a₂.base.1.g.keeps a₂.sub).lt))
  have acc₀ := Heap.get?_push_size s₂.heap (o := { cls := .type "list", dict := none, data := .seq ([] : List Value).toArray }) rfl
  have keep₀ : Sub s₂.heap (s₂.heap.push { cls := .type "list", dict := none, data := .seq ([] : List Value).toArray }) := fun b o e => Heap.get?_push_of_some _ e
  have hDC := Nat.ne_of_lt (Heap.lt_size acc₀)
  have deadD := get?_size_none s₂.heap
  have deadC := sub_get_none keep₀ (get?_size_none (s₂.heap.push { cls := .type "list", dict := none, data := .seq ([] : List Value).toArray }))
  dsimp only at hns₁ hsb₁ ⊢
  generalize (s₂.heap.push { cls := .type "list", dict := none, data := .seq ([] : List Value).toArray }) = H2 at *
  generalize s₂.heap.objs.size = D at *
  generalize H2.objs.size = C at *
  have keep₁ : Sub s₂.heap h₁ := fun b o e => hsb₁.extBut b o (get_ne deadC e) (Heap.get?_push_of_some _ (keep₀ b o e))
  have ok : EnvOk (relabelS scope sc) (compEnvC scope cl C env) := ⟨relabel_eq a.envOk.scope, ck.kind, a.envOk.globals, a.envOk.builtins, fun y hy => by
    rw [lookup_relabel] at hy
    cases hk : scope.names.lookup y with
    | none => rw [hk] at hy; cases hy
    | some kd =>
      rw [hk] at hy
      replace hy := Option.some.inj hy
      dsimp only at hy
      have hmem := mem_of_lookup hk
      split at hy
      · rename_i hc
        have : kd = .free := by simp at hc; exact hc.1.1
        subst this
        exact (a.envOk.cells y (ck.free y hmem).1).imp fun cc hcc => (hcl y hmem).trans hcc
      · exact absurd hy (ck.nocell _ hmem)⟩
  have xl : (compEnvC scope cl C env).kindOf x = some .local := by
    rw [ok.kindOf, lookup_relabel, ck.var]; rfl
  have hW : ∀ b ∈ fp, s₂.heap.get? b ≠ none := fun b hb e => (W.fpOld b hb).elim (fun h => let ⟨_, _, e', _⟩ := W.flds _ _ W.st b h; none_ne e e') fun h => h (sub_get_none a₂.sub e)
  have st₁ : St 0 h₁ := W.W.frame _ _ _ W.st fun b _ o e => keep₁ b o e
  have L := fun s₃ V => comp_loop (elt := elt) (iter := iter) (scope := scope) (px := px) (pos := pos) (s₃ := s₃) (R := RR (.ref D) C) W hwr (fun b hb => ⟨fun e => hW b hb (e ▸ deadD), fun e => hW b hb (e ▸ deadC)⟩) hlen hsz he (fun g' s' m v d hg G' hn hm hr => ⟨a.room, ok, a₂.base.mono hg, G'.le, fun y e hy => by
      rcases lmComp_cases hy with ⟨rfl, rfl⟩ | ⟨u, rfl, h1, h2⟩
      · exact ⟨v, .inl ⟨xl, m, hn, hm⟩, hr⟩
      · obtain ⟨f1, f2⟩ := ck.free y h1
        obtain ⟨w, cc, c1, c2, c3⟩ := a.cellOf h2 f1
        refine ⟨w, .inr (.inl ⟨?_, cc, (hcl y h1).trans c1, c2.keeps G'.keep⟩), Rd.mono (G.sub.trans hg) c3⟩
        rw [ok.kindOf, lookup_relabel, f2]
        simp [f1, a.envOk.kind], a.tk.trans G'.tok⟩) xl rfl (by rw [ok.scope, ok.kind]; rfl) (sub_get_none G.keep deadD) (sub_get_none G.keep deadC) hDC hDne (m₀ := fun x => (([] : List (Str × Value)).reverse).lookup x) V fun g' s' m G' hr hn oC => hRR D C g' s' m G' hr hn oC (sub_get_none G.keep deadC)
  have L := L { s₂ with heap := h₁, toks := s₂.toks + ([] : List (Str × Value)).length } ⟨Nat.zero_le _, st₁, ⟨0, hsb₁.extBut _ _ hDC (Heap.get?_push_of_some _ acc₀)⟩, by rw [List.take_zero]; exact .nil, hns₁, Sub.refl _, G.trans ⟨⟨h₁, s₂.toks, rfl⟩, keep₁, Sub.refl _, a₂.sub.trans keep₁, fun _ _ e => .inl e, Nat.le_refl _⟩, sub_get_none a₂.sub deadD, sub_get_none a₂.sub deadC, W.off⟩
  have fin := codeAny_compStart_list (scope := scope) (pos := pos) (rest := []) L (W.W.self 0 _ _ (notedBy c.M A (compEnvC scope cl C env) fun x s' => RR (.ref D) C (.error x) s') st₁ L)
  rw [show compEnvC scope cl C env = { ({ scope := scope, locals := C, globals := env.globals, cells := cl, qual := env.qual, func := none, code := env.code, frame := env.frame, builtins := env.builtins } : Env) with scope := relabelS scope sc } from by unfold compEnvC; rw [relabel_eq a.envOk.scope]] at fin
  exact fin
end
end Mine

/-! Calc10 -/
open PySem PySem.W PyProof.Rows
set_option Elab.async false
set_option maxRecDepth 100000
namespace Mine

section
variable {c : Cx} {k : Nat} {sc : Scope} {lm : LM} {P : Post}

theorem closure_at {scope : Scope} {x : Str} {A : Around} {env : Env} {g : Heap} {s : Shared} (a : At c k sc lm A env g s) (ck : CompOk scope sc x) :
    ∃ cl, closureFor scope env = pure cl ∧ ∀ x, (x, NameKind.free) ∈ scope.names → cl.lookup x = env.cells.lookup x :=
  closure_ok scope env fun y hy => a.envOk.cells y (ck.free y hy).1

theorem Grow.sameBut {g g' : Heap} {s s' : Shared} {C : Addr} {h' : Heap} (G : Grow g s g' s') (hs : Heap.SameBut C s'.heap h') (oC : g'.get? C = none) (dC : s.heap.get? C = none) : Grow g s g' { s' with heap := h' } := by
  obtain ⟨h, tk, rfl⟩ := G.same
  exact ⟨⟨h', tk, rfl⟩, fun b o e => hs.extBut b o (get_ne dC e) (G.keep b o e), G.sub, fun b o e => hs.extBut b o (get_ne oC e) (G.le b o e), G.fresh, G.tok⟩

theorem PE.comp {scope : Scope} {elt iter : Expr} {x : Str} {px pos : Pos} {ds : List PV} {rs : List PyData} (hi : PIt c k sc lm iter ds) (ck : CompOk scope sc x) (hlen : rs.length = ds.length) (hsz : rs.length ≤ sizeLine)
    (he : ∀ (i : Nat) (d : PV) (r : PyData), ds[i]? = some d → rs[i]? = some r → PE c k (relabelS scope sc) (lmComp scope.names lm x d) elt (.d r))
    (hs : ∀ env x, foldedSetIterable iter env x = pure x := by intros; rfl) :
    PE c k sc lm (.ListComp elt [⟨.Name x px, iter, [], 0⟩] scope pos) (plist rs) := by
  intro A env g s a
  obtain ⟨cl, e1, e2⟩ := closure_at a ck
  show wpAny c.M A (eval _ env) _ Bot s
  rw [eval_ListComp]
  refine wpAny_comprehension_free (use := none) rfl (hs env) e1 ck.kind ck.names (hi.go a fun s₂ g₂ I wr fp Pi St G W hwr => ?_)
  refine comp_core (RR := fun acc C => compPost c.M A Bot none _ acc C) a ck G W hwr e2 hlen hsz he fun D C g' s' m G' hr hn oC dC => ?_
  exact ⟨m, hn, fun h' hs' => ⟨g', G'.sameBut hs' oC dC, hr⟩⟩

/-- a new thing that the next step must leave alone -/
theorem AtS.guardNew {A : Around} {env : Env} {g₀ q g g' : Heap} {s₀ s s' : Shared} {C : Addr} (a : AtS c k sc lm A env g₀ s₀ q g s) (G : Grow g s g' s') (dC : s.heap.get? C = none) (oC : g'.get? C = none) :
    AtS c k sc lm A env g₀ s₀ (guardOf s'.heap q [C]) g' s' :=
  ⟨a.room, a.envOk, a.base, a.run.stepQ a.live G (fun _ _ e => (part_get e).2) (fun b hb => Classical.byContradiction fun h => hb (guard_off (Classical.byContradiction fun hq => h (G.off (a.run.gq b hq) fun e => hq (sub_get_none a.run.subq e))) fun hw => h (List.mem_singleton.mp hw ▸ oC)))
    fun b h1 h2 => guard_off h1 fun hw => h2 (List.mem_singleton.mp hw ▸ dC), a.once, a.tk.trans G.tok⟩

theorem PX1.assignComp {scope : Scope} {elt iter : Expr} {x y : Str} {px py pos spos : Pos} {ds : List PV} {rs : List PyData} (hi : PIt c k sc lm iter ds) (ck : CompOk scope sc x) (hlen : rs.length = ds.length) (hsz : rs.length ≤ sizeLine)
    (he : ∀ (i : Nat) (d : PV) (r : PyData), ds[i]? = some d → rs[i]? = some r → PE c k (relabelS scope sc) (lmComp scope.names lm x d) elt (.d r))
    (hy : sc.names.lookup y = some .local) (hp : P .next (lset lm y (.p (plist rs))))
    (hsw : ∀ env, env.scope = sc → swapsWith (.ListComp elt [⟨.Name x px, iter, [], 0⟩] scope pos) (some (.Name y py)) spos.line env = pure true)
    (hs : ∀ env x, foldedSetIterable iter env x = pure x := by intros; rfl) :
    PX1 c k sc (.Assign [.Name y py] (.ListComp elt [⟨.Name x px, iter, [], 0⟩] scope pos) spos) lm P := by
  intro A env g₀ s₀ q g s a
  obtain ⟨cl, e1, e2⟩ := closure_at a.toAt ck
  show wpAny c.M A (exec _ env) _ Bot s
  rw [exec_Assign_Name_used _ _ _ _ (hsw env a.envOk.scope)]
  refine wpAny_bind (wpAny_standAt (wpAny_bind ?_))
  show wpAny _ A (do let _ ← comprehension (.ListComp elt [⟨.Name x px, iter, [], 0⟩] scope pos) scope env _ (newList []) false (eval iter env) (some (PySem.assign (.Name y py) env))) _ _ s
  refine wpAny_bind (wpAny_mono (wpAny_comprehension_free (use := some (PySem.assign (.Name y py) env)) (Q := fun _ s' => ∃ g' lm' pf, FlowOk g' .next pf ∧ Sub g g' ∧ AtS c k sc lm' A env g₀ s₀ q g' s' ∧ P pf lm') rfl (hs env) e1 ck.kind ck.names
    (hi.go a.toAt fun s₂ g₂ I wr fp Pi St G W hwr => ?_)) (fun _ s' hq => wpAny_pure (wpAny_pure hq)) fun _ _ e => e)
  refine comp_core (RR := fun acc C => compPost c.M A Bot (some (PySem.assign (.Name y py) env)) _ acc C) a.toAt ck G W hwr e2 hlen hsz he fun D C g' s' m G' hr hn oC dC => ?_
  show wpAny c.M A (PySem.assign (.Name y py) env (.ref D)) _ Bot s'
  have ag := a.guardNew G' dC oC
  refine wpAny_assign_Name (wpAny_mono (storeName_ok ag (.inl hy) (d := .p (plist rs)) hr (fun _ _ e => nomatch e)) (fun _ s'' a'' => ?_) fun _ _ x => x)
  have hn' : s''.heap.Ns C m := hn.at' fun o e => a''.run.subq _ _ (guard_in (List.mem_singleton_self C) e)
  refine ⟨m, hn', fun h'' hs'' => ⟨g', _, .next, trivial, G'.sub, ?_, hp⟩⟩
  have au := a''.unguard (guard_sub (wr := [C]) (a.run.subq.trans G'.keep))
  -- the names of the comprehension go
  obtain ⟨m₂, cm₂, f₂, hl₂⟩ := au.run.frame
  have hLC : env.locals ≠ C := fun e => by
    obtain ⟨m₁, cm₁, f₁, _⟩ := a.run.frame
    exact ns_live f₁.toInCall.ns (e ▸ dC)
  refine au.alter (t := s''.toks) (· = C) (hs''.extBut · · · ·) (fun b hb => hb ▸ ⟨oC, sub_get_none a.run.subq dC, sub_get_none a.run.grow.keep dC⟩) (Nat.le_refl _) (f₂.toInCall.ns.sameBut hs'' hLC) (fun n cc e => (f₂.cell n cc e).sameBut hs'' fun h => a.live n cc (mem_of_lookup e) (h ▸ dC)) fun z d e => ?_
  obtain ⟨v, h1, h2, h3⟩ := hl₂ z d e
  exact ⟨v, h1, h2.move fun l n vs e => hs''.2 l (Ne.symm (ns_list hn' e)), h3⟩
end
end Mine

/-! Calc11 -/
open PySem PySem.W PyProof.Rows
set_option Elab.async false
set_option maxRecDepth 100000
namespace Mine

section
variable {c : Cx} {k : Nat} {sc : Scope} {lm lm' : LM} {P : Post}

theorem live_lt {h : Heap} {b : Addr} {o : Obj} (e : h.get? b = some o) : b ≠ h.objs.size := Nat.ne_of_lt (Heap.lt_size e)

/-! a pair of names takes a list of two -/
theorem PAs.pair {x y : Str} {px py pos : Pos} {q : Nat} {d e : PyData} (hx : sc.names.lookup x = some .local ∨ sc.names.lookup x = some .cell) (hy : sc.names.lookup y = some .local ∨ sc.names.lookup y = some .cell) :
    PAs c k sc (.Tuple [.Name x px, .Name y py] q pos) (plist [d, e]) lm (lset (lset lm x (.p (.d d))) y (.p (.d e))) := by
  intro A env g₀ s₀ qh g s v a hv
  obtain ⟨l, vs, rfl, hl, hr⟩ := rd_list hv
  obtain ⟨l1, us, e1, r1, hr⟩ := hr.consL
  obtain ⟨w, us, rfl, r2, hr⟩ := hr.consL
  cases (Array.toList_inj.mp (e1.trans (congrArg (fun t => l1 :: w :: t) hr.nilL)) : vs = #[l1, w])
  have hl' : s.heap.IsList l #[l1, w] := (hl.at fun o e => a.run.sub _ _ e).isList
  show wpAny c.M A (PySem.assign (.Tuple [.Name x px, .Name y py] q pos) env (.ref l)) _ Bot s
  rw [PyProof.Rows.assign_Tuple]
  refine wpAny_bind (wpAny_standAt ?_)
  unfold unpack
  refine wpAny_bind (wpAny_holding (kun_itemsOf (items := #[l1, w]) a.room.1 hl' fun h' he => ?_))
  have a₁ : AtS c k sc lm A env g₀ s₀ qh g { s with heap := h' } := a.grow ⟨⟨h', s.toks, rfl⟩, fun b o e => he b o (live_lt e) e, Sub.refl _, fun b o e => he b o (live_lt (a.run.sub b o e)) (a.run.sub b o e), fun b o e => .inl e, Nat.le_refl _⟩
  refine wpAny_assignInOrder_more ?_
  refine wpAny_mono (PAs.name (d := .d d) hx A env g₀ s₀ qh g _ l1 a₁ r1) (fun _ s₂ ⟨g₂, a₂, hg⟩ => ?_) fun _ _ x => x
  refine wpAny_assignInOrder_more ?_
  refine wpAny_mono (PAs.name (d := .d e) hy A env g₀ s₀ qh g₂ _ w a₂ (Rd.mono hg (d := .d e) r2)) (fun _ s₃ ⟨g₃, a₃, hg'⟩ => ?_) fun _ _ x => x
  exact wpAny_assignInOrder_none ⟨g₃, a₃, hg.trans hg'⟩

theorem PX1.assignPair {x y : Str} {px py tpos pos : Pos} {q : Nat} {v : Expr} {d e : PyData} (hv : PE c k sc lm v (plist [d, e])) (hx : sc.names.lookup x = some .local ∨ sc.names.lookup x = some .cell) (hy : sc.names.lookup y = some .local ∨ sc.names.lookup y = some .cell)
    (hp : P .next (lset (lset lm x (.p (.d d))) y (.p (.d e)))) (hs : swapsWithSole [.Tuple [.Name x px, .Name y py] q tpos] v pos.line = fun _ => pure false := by rfl)
    (hw : ∀ env, env.scope = sc → swappedStores [.Tuple [.Name x px, .Name y py] q tpos] v env = pure none) : PX1 c k sc (.Assign [.Tuple [.Name x px, .Name y py] q tpos] v pos) lm P := by
  intro A env g₀ s₀ qh g s a
  refine PyProof.Rows.Assign_Tuple (VE.go (hv A env g s a.toAt) (fun u s₁ g₁ G₁ hu => ?_)) (by rw [hs]) (hw env a.envOk.scope)
  exact wpAny_mono (PAs.pair hx hy A env g₀ s₀ qh g₁ s₁ u (a.grow G₁) hu) (fun _ s₂ ⟨g₂, a₂, hg⟩ => ⟨g₂, _, .next, trivial, G₁.sub.trans hg, a₂, hp⟩) fun _ _ x => x

/-! more iterables -/
theorem go_plain {A : Around} {I : Addr} {s : Shared} {target : Expr} {v : Value} {Q : Unit → Shared → Prop} {n : String} {vs : Array Value} {o : Obj} (e1 : s.heap.get? I = some o) (e2 : o.cls = .type n) (e3 : o.data = .fields vs)
    (hn : ["enumerate", "zip", "dict_itemiterator", "dict_reverseitemiterator", "odict_iterator", "itertools.zip_longest", "itertools.pairwise"].contains n = false) (hQ : Q () s) : wpAny c.M A (letOwnedTupleGo target (.ref I) v) Q Bot s := by
  unfold letOwnedTupleGo
  have key : wpAny c.M A (match ((Value.ref I), v) with
      | (.ref r, .ref a) => (do
        let o ← load r
        match o.cls, o.data with
        | .type n, .fields vs =>
          if ["enumerate", "zip", "dict_itemiterator", "dict_reverseitemiterator", "odict_iterator", "itertools.zip_longest", "itertools.pairwise"].contains n && vs[0]? == some (rawInt a) then
            rule "for.unpacks-the-owned-tuple"
            updateField r 0 .none
        | _, _ => pure () : Sem Unit)
      | _ => pure ()) Q Bot s := by
    cases v <;> first | exact wpAny_pure hQ | skip
    refine wpAny_bind (wpAny_load e1 ?_)
    rw [e2, e3]
    dsimp only
    rw [hn, Bool.false_and, if_neg Bool.false_ne_true]
    exact wpAny_pure hQ
  cases target <;> first | exact wpAny_pure hQ | exact key

theorem PIt.of_tuple {e : Expr} {xs : List PyData} (he : PE c k sc lm e (.d (.tuple xs))) : PIt c k sc lm e (xs.map .d) := by
  intro A env g s a
  refine VE.go (he A env g s a) (fun xv s₁ g₁ G₁ hv => ?_)
  obtain ⟨l, vs, n, rfl, hl, hr⟩ := rd_tuple hv
  have hl₁ : s₁.heap.IsTuple l vs := ⟨_, G₁.le _ _ hl, rfl, n, rfl⟩
  have hlg : g₁.get? l ≠ none := by rw [hl]; exact fun e => nomatch e
  have hnone := get?_size_none s₁.heap
  have hne : l ≠ s₁.heap.objs.size := live_lt (G₁.le _ _ hl)
  refine wpAny_pyIter_tuple hl₁ ?_
  have G₂ : Grow g₁ s₁ g₁ { s₁ with heap := s₁.heap.push { cls := .type "tuple_iterator", data := .fields #[.ref l, .int 0 0] } } :=
    ⟨⟨_, s₁.toks, rfl⟩, fun b o e => Heap.get?_push_of_some _ e, Sub.refl _, fun b o e => Heap.get?_push_of_some _ (G₁.le b o e), fun b o e => .inl e, Nat.le_refl _⟩
  have hlen := hr.length
  have hsz : vs.toList.length = vs.size := by simp
  have hl₂ : (s₁.heap.push { cls := .type "tuple_iterator", data := .fields #[.ref l, .int 0 0] }).IsTuple l vs := hl₁.at fun o e => Heap.get?_push_of_some _ e
  refine ⟨g₁, s₁.heap.objs.size, [s₁.heap.objs.size], [s₁.heap.objs.size, l], fun i v => vs[i]? = some v, fun i h => h.IsTupleIter s₁.heap.objs.size l i ∧ h.IsTuple l vs, rfl, G₁.trans G₂, ⟨?_, ⟨⟨_, Heap.get?_push_size _ rfl, rfl, rfl⟩, hl₂⟩, fun i v _ hv => ?_, fun b hb => ?_, fun i h st b hb => ?_, fun i s' t v Q st hQ => ?_, fun b hb => ?_⟩, fun b hb => ?_⟩
  · have := Walks.tuple (prog := c.prog) (w := c.w) (A := A) a.room.1 s₁.heap.objs.size l hne vs
    rw [show (xs.map PV.d).length = vs.size by rw [List.length_map]; (first | lia | omega)]
    exact this
  · have hi : i < vs.size := by
      rcases Nat.lt_or_ge i vs.size with h | h
      · exact h
      · rw [Array.getElem?_eq_none h] at hv; cases hv
    have hix : i < xs.length := by omega
    exact ⟨.d xs[i], by rw [List.getElem?_map, List.getElem?_eq_getElem hix]; rfl, hr.get i v _ (by simpa using hv) (List.getElem?_eq_getElem hix)⟩
  · rcases List.mem_cons.mp hb with e | hb
    · exact .inl (by simp [e])
    · exact .inr (by simp at hb; rw [hb]; exact hlg)
  · simp at hb; subst hb
    obtain ⟨o, e1, e2, e3⟩ := st.1
    exact ⟨o, _, e1, e3⟩
  · obtain ⟨o, e1, e2, e3⟩ := st.1
    exact go_plain e1 e2 e3 (by decide) hQ
  · simp at hb; subst hb
    exact sub_get_none G₁.le hnone
  · simp at hb; subst hb
    exact sub_get_none G₁.keep hnone

theorem PIt.range {np pos : Pos} {e : Expr} {n : Nat} (hx : sc.names.lookup (Str.ofString "range") = some .globalImplicit) (hm : c.mg (Str.ofString "range") = none) (he : PE c k sc lm e (pint n)) (hz : n ≤ sizeLine)
    (hse : ∀ env, starEach [e] env = [(false, eval e env)] := by intro _; rfl) :
    PIt c k sc lm (.Call (.Name (Str.ofString "range") np) [e] [] pos) ((List.range n).map fun i => pint (i : Nat)) := by
  intro A env g s a
  refine wpAny_Call_NameR ?_
  refine a.bn hx hm (show bootBuiltins (Str.ofString "range") = some (.type "range") by kernel_rfl) ?_
  refine PyProof.Rows.callWith_type1 (gr_go ((PL.cons he PL.nil hse) A env g s pos a) (fun vs s₁ g₁ G₁ hv => ?_)) (hse env) (by rfl)
  obtain ⟨v, rfl, hw⟩ := rdl1 hv
  obtain ⟨t, rfl⟩ := rd_int hw
  refine call_range_1 ?_
  have hnone := get?_size_none s₁.heap
  generalize hR : s₁.heap.objs.size = R at hnone ⊢
  generalize hH : s₁.heap.push { cls := .type "range", data := .fields #[.int 0 s₁.toks, .int n t, .int 1 (s₁.toks + 1)] } = H
  have hsz := fit63 hz
  have size_eq : Builtin.Range.rangeSize 0 (n : Int) 1 = n := by
    unfold Builtin.Range.rangeSize
    simp
    (first | lia | omega)
  have keepH : Sub s₁.heap H := fun b o e => hH ▸ Heap.get?_push_of_some _ e
  have hRg : H.get? R = some { cls := .type "range", data := .fields #[.int 0 s₁.toks, .int n t, .int 1 (s₁.toks + 1)] } := by rw [← hH, ← hR]; exact Heap.get?_push_size _ rfl
  have fl : ∀ i : Int, -(2 ^ 63) ≤ i → i < 2 ^ 63 → Builtin.Range.rangeFitsLong i = true := fun i h1 h2 => by
    unfold Builtin.Range.rangeFitsLong
    simp
    (first | lia | omega)
  refine wpAny_pyIter_range (a := 0) (b := n) (c := 1) hRg ?_ ?_
  · unfold Builtin.Range.small
    rw [size_eq, fl 0 (by (first | decide | assumption | exact Nat.le_trans (by assumption) (by decide) | exact Nat.le_of_lt (by assumption) | exact Nat.le_of_not_lt (by assumption) | exact Nat.lt_of_not_le (by assumption) | exact Nat.le_trans (by assumption) (by assumption) | exact Nat.lt_of_lt_of_le (by assumption) (by assumption) | exact Nat.lt_of_le_of_lt (by assumption) (by assumption) | lia | omega)) (by (first | decide | assumption | exact Nat.le_trans (by assumption) (by decide) | exact Nat.le_of_lt (by assumption) | exact Nat.le_of_not_lt (by assumption) | exact Nat.lt_of_not_le (by assumption) | exact Nat.le_trans (by assumption) (by assumption) | exact Nat.lt_of_lt_of_le (by assumption) (by assumption) | exact Nat.lt_of_le_of_lt (by assumption) (by assumption) | lia | omega)), fl n (by (first | lia | omega)) hsz, fl 1 (by (first | decide | assumption | exact Nat.le_trans (by assumption) (by decide) | exact Nat.le_of_lt (by assumption) | exact Nat.le_of_not_lt (by assumption) | exact Nat.lt_of_not_le (by assumption) | exact Nat.le_trans (by assumption) (by assumption) | exact Nat.lt_of_lt_of_le (by assumption) (by assumption) | exact Nat.lt_of_le_of_lt (by assumption) (by assumption) | lia | omega)) (by (first | decide | assumption | exact Nat.le_trans (by assumption) (by decide) | exact Nat.le_of_lt (by assumption) | exact Nat.le_of_not_lt (by assumption) | exact Nat.lt_of_not_le (by assumption) | exact Nat.le_trans (by assumption) (by assumption) | exact Nat.lt_of_lt_of_le (by assumption) (by assumption) | exact Nat.lt_of_le_of_lt (by assumption) (by assumption) | lia | omega))]
    have h3 : sizeLine = 16777216 := by decide
    simp only [Bool.true_and, Bool.or_eq_true]
    refine .inr ?_
    rw [if_pos (by decide)]
    exact fl _ (by (first | lia | omega)) (by (first | decide | assumption | exact Nat.le_trans (by assumption) (by decide) | exact Nat.le_of_lt (by assumption) | exact Nat.le_of_not_lt (by assumption) | exact Nat.lt_of_not_le (by assumption) | exact Nat.le_trans (by assumption) (by assumption) | exact Nat.lt_of_lt_of_le (by assumption) (by assumption) | exact Nat.lt_of_le_of_lt (by assumption) (by assumption) | lia | omega))
  · rw [size_eq]
    dsimp only
    have hnone2 : s₁.heap.get? H.objs.size = none := sub_get_none keepH (get?_size_none H)
    generalize hI : H.objs.size = I at hnone2 ⊢
    have G₂ : Grow g₁ s₁ g₁ { s₁ with heap := H.push { cls := .type "range_iterator", data := .fields #[rawInt 0, rawInt n, rawInt 1] }, toks := s₁.toks + 1 + 1 } :=
      grow_any G₁.le (fun b o e => Heap.get?_push_of_some _ (keepH b o e)) (by (first | lia | omega))
    refine ⟨g₁, I, [I], [I], _, _, rfl, G₁.trans G₂, ⟨by
      have := Walks.range (prog := c.prog) (w := c.w) (A := A) a.room.1 I 0 1 n
      rw [show ((List.range n).map fun i => pint (i : Nat)).length = n by simp]
      exact this, ?_, fun i v hlt hv => ?_, fun b hb => .inl hb, fun i h st b hb => ?_, fun i s' t v Q st hQ => ?_, fun b hb => ?_⟩, fun b hb => ?_⟩
    · show IsRangeIter _ I _ _ _
      rw [← hI]
      simpa using Heap.get?_push_size (h := H) (o := { cls := .type "range_iterator", data := .fields #[rawInt 0, rawInt n, rawInt 1] }) rfl
    · obtain ⟨t, rfl⟩ := hv
      rw [List.length_map, List.length_range] at hlt
      refine ⟨pint (i : Nat), by rw [List.getElem?_map, List.getElem?_range hlt]; rfl, ?_⟩
      rw [show (0 : Int) + (i : Int) * 1 = (i : Nat) by (first | lia | omega)]
      exact rd_mk_int _ _
    · simp at hb; subst hb
      exact ⟨_, _, st, rfl⟩
    · exact go_plain st rfl rfl (by decide) hQ
    · simp at hb; subst hb
      exact sub_get_none G₁.le hnone2
    · simp at hb; subst hb
      exact sub_get_none G₁.keep hnone2
end
end Mine

/-! Calc12 -/
open PySem PySem.W PyProof.Rows
set_option Elab.async false
set_option maxRecDepth 100000
namespace Mine

section
variable {c : Cx} {k : Nat} {sc : Scope} {lm lm' : LM} {P : Post}

/-! join -/
theorem sum_len (ts : List (List Nat)) : ((ts.map S).map (·.length)).sum = (ts.map (·.length)).sum := by
  rw [List.map_map]; congr 1
theorem PE.join {x : String} {q : Nat} {cp ap pos : Pos} {e : Expr} {ts : List (List Nat)} (he : PE c k sc lm e (plist (ts.map fun t => .str (S t)))) (hok : (ts.map (·.length)).sum + ts.length * (Mine.lit x).length ≤ 16777216)
    (hse : ∀ env, starEach [e] env = (false, eval e env) :: starEach [] env := by intro _; rfl)
    (hm : ∀ env, ∃ pl, eval (.Call (.Attribute (.Constant (.str (Str.ofString x)) q cp) "join" ap) [e] [] pos) env = (do
      let ov ← eval (.Constant (.str (Str.ofString x)) q cp) env
      standAt ap.atName
      let (f, first) ← holding [ov] (getMethod ov "join" pl)
      callWith pos f first (backTo pos (starEach [e] env)) []) := by intro _; exact ⟨_, rfl⟩) :
    PE c k sc lm (.Call (.Attribute (.Constant (.str (Str.ofString x)) q cp) "join" ap) [e] [] pos) (pstr (joinL (Mine.lit x) ts)) := by
  intro A env g s a
  obtain ⟨pl, hpl⟩ := hm env
  refine PyProof.Rows.MethodCall_ (pl := pl) (wpAny_Constant_str (GM.join (PyProof.Rows.callWith_method1 ?_ (hse env)))) hpl
  have G₀ : Grow g s g { s with toks := s.toks + 1 } := Grow.toks a.sub _
  refine gr_go ((PL.cons he PL.nil hse) A env g _ pos (a.grow G₀)) (fun vs s₁ g₁ G₁ hv => ?_)
  obtain ⟨v, rfl, hw⟩ := rdl1 hv
  obtain ⟨l, us, rfl, hl, hr⟩ := rd_list hw
  have e1 : (Str.ofString x).length = (Mine.lit x).length := by rw [← S_lit, S_length]
  refine wpAny_with_toks (Nat.le_refl _) (PyProof.Rows.join_list (hl.at fun o e => G₁.le _ _ e).isList (strs_of hr) (by rw [sum_len, List.length_map, e1]; exact hok) fun t' tk ht => ?_)
  refine ⟨g₁, (G₀.trans G₁).trans (Grow.toks G₁.le tk ht), ?_⟩
  have e2 : Txt.join (Str.ofString x) (ts.map S) = S (joinL (Mine.lit x) ts) := by
    rw [← S_lit, ← sjoin]; exact StrLaws.glued_eq_join _ _
  rw [e2]; exact rd_mk_str _ _

/-! powers of written ints -/
theorem sem_pow (a b : Int) (h0 : b ≥ 0) (h1 : ¬(b == 0) = true) (h2 : ¬(a == 0 || a == 1) = true) (h3 : ¬(a == -1) = true) (h4 : ¬Builtin.Int.intTooBig (((Builtin.Int.intBits a : Nat) : Int) * b) = true) : BinSem c k .Pow (pint a) (pint b) (pint (a ^ b.toNat)) := by
  intro A g s u v _ _ hs hu hv
  obtain ⟨t, rfl⟩ := rd_int hu; obtain ⟨t', rfl⟩ := rd_int hv
  refine ve_int hs fun Q h => AutoIntOps.pow_4 h0 h1 h2 h3 h4 ?_
  exact h

/-! truth of texts, tuples -/
theorem tru_str (l : List Nat) (hz : l.length ≤ sizeLine) : TruSem c k (pstr l) (!l.isEmpty) := by
  intro A g s a _ _ hs ha
  obtain ⟨t, rfl⟩ := rd_str ha
  refine PySem.P.truthy_str (by rw [S_length]; have := fit63 hz; omega) ⟨?_, g, Grow.toks hs _⟩
  rw [S_length]
  cases l with
  | nil => rfl
  | cons x r =>
    have : ((x :: r).length : Int) ≠ 0 := by rw [List.length_cons]; omega
    simpa using this
theorem tru_tuple (l : List PyData) (hz : l.length ≤ sizeLine) : TruSem c k (ptuple l) (!l.isEmpty) := by
  intro A g s a _ _ hs ha
  obtain ⟨p, vs, n, rfl, hl, hr⟩ := rd_tuple ha
  have hlen := hr.length
  simp only [Array.length_toList] at hlen
  refine PyProof.Rows.truthy_tuple (t := p) (items := vs) ⟨_, hs _ _ hl, rfl, n, rfl⟩ (by rw [hlen]; exact fit63 hz) ⟨?_, g, Grow.toks hs _⟩
  have e : vs.isEmpty = l.isEmpty := by
    obtain ⟨vl⟩ := vs
    cases vl <;> cases l <;> simp_all
  rw [e]

/-! types -/
theorem sem_isNone (x : PyData) (b : Bool) (hb : ∀ g v, Rp g v x → (v == .none) = b) : CmpSem c k .Is (.d x) (.d .none) b := by
  intro A g s u v _ _ hs hu hv
  rw [rd_none hv]
  refine ve_bool hs fun Q h => PyProof.Rows.is_none_gen ?_
  rw [hb g u hu]; exact h
theorem call_type_str (l : List Nat) : CallSem c k (.type "type") [pstr l] (.ty "str") := by
  intro A g s vs _ _ hs hv
  obtain ⟨v, rfl, hw⟩ := rdl1 hv
  obtain ⟨t, rfl⟩ := rd_str hw
  exact call_type_of (typeIs_str _ _ _) (by decide) ⟨g, Grow.refl hs, rfl⟩
theorem call_type_tuple (l : List PyData) : CallSem c k (.type "type") [ptuple l] (.ty "tuple") := by
  intro A g s vs _ _ hs hv
  obtain ⟨v, rfl, hw⟩ := rdl1 hv
  obtain ⟨p, us, n, rfl, hl, hr⟩ := rd_tuple hw
  exact call_type_of (Tx := "tuple") ⟨_, hs _ _ hl, rfl⟩ (by decide) ⟨g, Grow.refl hs, rfl⟩

/-! tuple(list) -/
theorem call_tuple_of_list (l : List PyData) (hz : l.length ≤ sizeLine) : CallSem c k (.type "tuple") [plist l] (ptuple l) := by
  intro A g s vs _ hb hs hv
  obtain ⟨v, rfl, hw⟩ := rdl1 hv
  obtain ⟨p, us, rfl, hl, hr⟩ := rd_list hw
  have hlen := hr.length
  simp only [Array.length_toList] at hlen
  refine call_tuple_list (hl.at fun o e => hs _ _ e).isList (fun h' hk => ?_) (by (first | lia | omega))
  have G₁ : Grow g s g { s with heap := h' } := grow_any hs hk (Nat.le_refl _)
  obtain ⟨g₂, G₂, hg, hne⟩ := grow_new (s := { s with heap := h' }) hb G₁.le { cls := .type "tuple", data := .seq us } rfl
  exact ⟨g₂, G₁.trans G₂, rd_mk_tuple hg (hr.mono G₂.sub)⟩

/-! statements -/
theorem PX1.assert_ {t : Expr} {pos : Pos} (ht : PT c k sc lm t true) (hp : P .next lm) : PX1 c k sc (.Assert t none pos) lm P := by
  intro A env g₀ s₀ q g s a
  exact wpAny_Assert_holds (wpAny_mono (ht A env g s a.toAt) (fun b s₁ ⟨e, g₁, G₁⟩ => ⟨e, g₁, lm, .next, trivial, G₁.sub, a.grow G₁, hp⟩) fun _ _ x => x)
theorem PX1.exprStr {e : Expr} {pos : Pos} {l : List Nat} (he : PE c k sc lm e (pstr l)) (hp : P .next lm) (hs : ∀ env, swapsWith e none pos.line env = pure false := by intro _; rfl) : PX1 c k sc (.Expr e pos) lm P := by
  intro A env g₀ s₀ q g s a
  have kf : env.scope.kind = .function := by rw [a.envOk.scope]; exact a.envOk.kind
  refine wpAny_Expr (VE.go (he A env g s a.toAt) (fun v s₁ g₁ G₁ hv => ?_)) (by unfold interactive; rw [kf]; rfl) (hs env)
  obtain ⟨t, rfl⟩ := rd_str hv
  exact ⟨g₁, lm, .next, trivial, G₁.sub, a.grow G₁, hp⟩
theorem PX1.pass_ {pos : Pos} (hp : P .next lm) : PX1 c k sc (.Pass pos) lm P := by
  intro A env g₀ s₀ q g s a
  exact wpAny_Pass ⟨g, lm, .next, trivial, Sub.refl g, a, hp⟩
end
end Mine

/-! Calc13 -/
open PySem PySem.W PyProof.Rows
set_option Elab.async false
set_option maxRecDepth 100000
namespace Mine

/-- lm tells all that base tells -/
noncomputable def Inc (base lm : LM) : Prop := ∀ x d, base.lookup x = some d → lm.lookup x = some d
noncomputable abbrev StepP (base : LM) : Post := fun pf lm' => pf = .next ∧ Inc base lm'
theorem Inc.refl (lm : LM) : Inc lm lm := fun _ _ e => e
theorem Inc.nil (lm : LM) : Inc [] lm := fun _ _ e => by simp at e
theorem Inc.cons {x : Str} {d : LV} {r lm : LM} (h : lm.lookup x = some d) (hr : Inc r lm) : Inc ((x, d) :: r) lm := fun y e hy => by
  rw [List.lookup_cons] at hy
  cases hxy : y == x with
  | true =>
    have : y = x := beq_iff_eq.mp hxy
    subst this
    simp at hy
    rw [h, hy]
  | false => rw [hxy] at hy; exact hr y e hy
theorem Inc.lset {base lm : LM} (h : Inc base lm) (x : Str) (d : LV) : Inc (lset base x d) (lset lm x d) := fun y e hy => by
  rw [lset_lookup] at hy ⊢
  by_cases hyx : y == x
  · rw [if_pos hyx] at hy ⊢; exact hy
  · rw [if_neg hyx] at hy ⊢; exact h y e hy

section
variable {c : Cx} {k : Nat} {sc : Scope} {lm lm' : LM} {P : Post}

theorem PT.weaken {e : Expr} {b : Bool} (h : PT c k sc lm e b) (hl : Inc lm lm') : PT c k sc lm' e b :=
  fun A env g s a => h A env g s ⟨a.room, a.envOk, a.base, a.sub, fun x d e => a.loc x d (hl x d e), a.tk⟩

theorem PFor.inv {target : Expr} {body : List Stmt} {ds : List PV} (B : Nat → LM)
    (h : ∀ i d, ds[i]? = some d → ∃ lm', PAs c k sc target d (B i) lm' ∧ PX c k sc body lm' (LoopP (fun lm'' => Inc (B (i + 1)) lm'') P))
    (hend : ∀ lm, Inc (B ds.length) lm → P .next lm) (h0 : Inc (B 0) lm) : PFor c k sc target body P ds lm := by
  have key : ∀ n i lm, n + i = ds.length → Inc (B i) lm → PFor c k sc target body P (ds.drop i) lm := by
    intro n
    induction n with
    | zero =>
      intro i lm hn hi
      have : i = ds.length := by omega
      subst this
      rw [List.drop_length]
      exact hend lm hi
    | succ n ih =>
      intro i lm hn hi
      have hlt : i < ds.length := by omega
      rw [List.drop_eq_getElem_cons hlt]
      obtain ⟨lm', ha, hb⟩ := h i ds[i] (List.getElem?_eq_getElem hlt)
      refine ⟨lm', fun A env g₀ s₀ q g s v a hv => ha A env g₀ s₀ q g s v (a.forget hi) hv, hb.mono fun pf lm'' hp => ?_⟩
      cases pf with
      | next => exact ih (i + 1) lm'' (by omega) hp
      | cont => exact ih (i + 1) lm'' (by omega) hp
      | brk => exact hp
      | ret r => exact hp
  have := key ds.length 0 lm rfl h0
  simpa using this

theorem PW.inv {α : Type} {test : Expr} {body : List Stmt} (B : α → LM) (I : α → Prop) (μ : α → Nat)
    (h : ∀ a, I a → (PT c k sc (B a) test false ∧ ∀ lm, Inc (B a) lm → P .next lm) ∨ (PT c k sc (B a) test true ∧ PX c k sc body (B a) (LoopP (fun lm'' => ∃ b, I b ∧ μ b < μ a ∧ Inc (B b) lm'') P))) (a : α) (ha : I a) (h0 : Inc (B a) lm) : PW c k sc test body P (μ a + 1) lm := by
  have key : ∀ n a lm, I a → μ a < n → Inc (B a) lm → PW c k sc test body P n lm := by
    intro n
    induction n with
    | zero => intro a lm _ h; omega
    | succ n ih =>
      intro a lm ha hn hi
      rcases h a ha with ⟨ht, hp⟩ | ⟨ht, hb⟩
      · exact .inl ⟨ht.weaken hi, hp lm hi⟩
      · refine .inr ⟨ht.weaken hi, (hb.mono fun pf lm'' hp => ?_).weaken hi⟩
        cases pf with
        | next => obtain ⟨b, hb, hm, hi'⟩ := hp; exact ih b lm'' hb (by omega) hi'
        | cont => obtain ⟨b, hb, hm, hi'⟩ := hp; exact ih b lm'' hb (by omega) hi'
        | brk => exact hp
        | ret r => exact hp
  exact key _ a lm ha (Nat.lt_succ_self _) h0
end
end Mine

/-! Calc14 -/
open PySem PySem.W PyProof.Rows
set_option Elab.async false
set_option maxRecDepth 100000
namespace Mine

/-! replace of one sign -/
noncomputable def repl (c : Nat) (z : List Nat) (l : List Nat) : List Nat := l.flatMap fun x => if x = c then z else [x]
theorem repl_append (c : Nat) (z a b : List Nat) : repl c z (a ++ b) = repl c z a ++ repl c z b := by
  unfold repl; exact List.flatMap_append
theorem repl_free (c : Nat) (z : List Nat) : ∀ l : List Nat, c ∉ l → repl c z l = l
  | [], _ => rfl
  | x :: r, h => by
    have h1 : ¬ x = c := fun e => h (e ▸ List.mem_cons_self ..)
    have h2 : c ∉ r := fun m => h (List.mem_cons_of_mem _ m)
    unfold repl
    rw [List.flatMap_cons, if_neg h1]
    have := repl_free c z r h2
    unfold repl at this
    rw [this]; rfl
theorem repl_join (c : Nat) (z : List Nat) : ∀ parts : List Str, (∀ p ∈ parts, c ∉ p.cps.toList) → repl c z (Str.join ⟨#[c]⟩ parts).cps.toList = (Str.join (S z) parts).cps.toList
  | [], _ => rfl
  | [p], h => repl_free c z _ (h p (List.mem_singleton.mpr rfl))
  | p :: q :: r, h => by
    have ih := repl_join c z (q :: r) fun a ha => h a (List.mem_cons_of_mem _ ha)
    show repl c z (p ++ ⟨#[c]⟩ ++ Str.join ⟨#[c]⟩ (q :: r)).cps.toList = (p ++ S z ++ Str.join (S z) (q :: r)).cps.toList
    simp only [Str.cps_append, Array.toList_append]
    rw [repl_append, repl_append, ih, repl_free c z _ (h p (List.mem_cons_self ..))]
    show p.cps.toList ++ repl c z [c] ++ _ = _
    simp [repl, S]
theorem replace_repl (l z : List Nat) (c : Nat) : Txt.replace (S l) (S [c]) (S z) = S (repl c z l) := by
  have e : Txt.replace (S l) ⟨#[c]⟩ (S z) = Str.join (S z) (Txt.split (S l) ⟨#[c]⟩) := StrLaws.replace_one _ _ _
  have e2 := repl_join c z _ (StrLaws.split_free (S l) c)
  rw [StrLaws.join_split] at e2
  show Txt.replace (S l) ⟨#[c]⟩ (S z) = _
  rw [e, ← S_toList (Str.join (S z) _), ← e2]
  simp [S]

section
variable {c : Cx} {k : Nat} {sc : Scope} {lm lm' : LM} {P : Post}

theorem lit_len (x : String) : (Str.ofString x).length = (Mine.lit x).length := by rw [← S_lit, S_length]

theorem S_ne {a b : List Nat} (h : a ≠ b) : (S a == S b) = false := by
  rw [s_beq]; exact beq_eq_false_iff_ne.mpr h

theorem PE.replaceC {o : Expr} {w : List Nat} {x y : String} {a : Nat} {q1 q2 : Nat} {p1 p2 ap pos : Pos} (hk2 : 2 ≤ k) (ho : PE c k sc lm o (pstr w)) (hx : Mine.lit x = [a]) (hne : Mine.lit x ≠ Mine.lit y) (hz : w.length + (w.length + 1) * (Mine.lit y).length ≤ 16777216)
    (hm : ∀ env, ∃ pl, eval (.Call (.Attribute o "replace" ap) [.Constant (.str (Str.ofString x)) q1 p1, .Constant (.str (Str.ofString y)) q2 p2] [] pos) env = (do
      let ov ← eval o env
      standAt ap.atName
      let (f, first) ← holding [ov] (getMethod ov "replace" pl)
      callWith pos f first (backTo pos (starEach [.Constant (.str (Str.ofString x)) q1 p1, .Constant (.str (Str.ofString y)) q2 p2] env)) []) := by intro _; exact ⟨_, rfl⟩) :
    PE c k sc lm (.Call (.Attribute o "replace" ap) [.Constant (.str (Str.ofString x)) q1 p1, .Constant (.str (Str.ofString y)) q2 p2] [] pos) (pstr (repl a (Mine.lit y) w)) := by
  intro A env g s a'
  obtain ⟨pl, hpl⟩ := hm env
  refine PyProof.Rows.MethodCall_ (pl := pl) (VE.go (ho A env g s a') (fun ov s₁ g₁ G₁ hov => ?_)) hpl
  obtain ⟨t, rfl⟩ := rd_str hov
  have htk : 1 ≤ s₁.toks := Nat.le_trans (a'.tk hk2) G₁.tok
  refine GM.replace (PyProof.Rows.callWith_method1 (spliced_more (wpAny_Constant_str (spliced_more (wpAny_Constant_str (spliced_none ?_))))))
  show wpAny c.M A (PySem.call (.builtin "str.replace") [.str (S w) t, .str (Str.ofString x) s₁.toks, .str (Str.ofString y) (s₁.toks + 1)]) _ Bot { s₁ with toks := s₁.toks + 1 + 1 }
  refine wpAny_with_toks (n := s₁.toks) (by show s₁.toks ≤ s₁.toks + 1 + 1; (first | lia | omega)) (SC.replace (Nat.pos_iff_ne_zero.mp htk) (Nat.succ_ne_zero _) (Nat.ne_of_lt (Nat.lt_succ_self _)) (by rw [← S_lit, ← S_lit]; exact S_ne hne) (by rw [S_length, lit_len]; exact hz) fun t' tk ht => ?_)
  refine ⟨g₁, G₁.trans (Grow.toks G₁.le tk ht), ?_⟩
  rw [← S_lit, hx, ← S_lit y, replace_repl]
  exact rd_mk_str _ _

theorem AtS.relax {A : Around} {env : Env} {g₀ q g : Heap} {s₀ s : Shared} (a : AtS c k sc lm' A env g₀ s₀ q g s) (h : ∀ x d, lm.lookup x = some d → lm'.lookup x = some d ∨ ∃ y t, d = .p (.d (.str y)) ∧ lm'.lookup x = some (.p (.tk y t))) : AtS c k sc lm A env g₀ s₀ q g s := by
  obtain ⟨m, cm, f, hh⟩ := a.run.frame
  refine ⟨a.room, a.envOk, a.base, ⟨a.run.sub0, a.run.fresh, a.run.sub, a.run.subq, ⟨m, cm, f, fun x d e => ?_⟩, a.run.gq, a.run.tok, a.run.offL, a.run.offC⟩, a.once, a.tk⟩
  rcases h x d e with h | ⟨y, t, rfl, h⟩
  · exact hh x d h
  · obtain ⟨v, h1, h2, h3⟩ := hh x _ h
    refine ⟨v, h1, ?_, fun _ _ e => nomatch e⟩
    have : v = .str y t := h2
    subst this
    exact rd_mk_str _ _

theorem PX.textTwo {ss : List Stmt} {test o : Expr} {x1 x2 bs : String} {quote inside : Str} {q1 q2 q5 : Nat} {pq pq2 pq3 pi p1 p2 p3 p4 p5 p6 p7 p8 ap : Pos} {b : Bool} {a : Nat} {w : List Nat} (hk2 : 2 ≤ k)
    (ht : PT c k sc lm test b) (hq : (if b then Mine.lit x1 else Mine.lit x2) = [a]) (hqs : sc.names.lookup quote = some .local ∨ sc.names.lookup quote = some .cell) (his : sc.names.lookup inside = some .local ∨ sc.names.lookup inside = some .cell)
    (ho : ∀ T, PE c k sc (lset lm quote (.p (.tk (S [a]) T))) o (pstr w)) (hbs : (Mine.lit bs).length = 1) (hz : w.length + (w.length + 1) * 2 ≤ 16777216) (hd : (quote == ("__debug__" : Str)) = false) (hqi : (quote == inside) = false)
    (h : PX c k sc ss (lset (lset lm quote (.p (pstr [a]))) inside (.p (pstr (repl a (Mine.lit bs ++ [a]) w)))) P)
    (hs1 : ∀ env, swapsWith (.IfExp test (.Constant (.str (Str.ofString x1)) q1 p1) (.Constant (.str (Str.ofString x2)) q2 p2) p3) (some (.Name quote pq)) p4.line env = pure false := by intro _; rfl)
    (hs2 : ∀ env, swapsWith (.Call (.Attribute o "replace" ap) [.Name quote pq2, .BinOp (.Constant (.str (Str.ofString bs)) q5 p5) .Add (.Name quote pq3) p6] [] p7) (some (.Name inside pi)) p8.line env = pure false := by intro _; rfl)
    (hm : ∀ env, ∃ pl, eval (.Call (.Attribute o "replace" ap) [.Name quote pq2, .BinOp (.Constant (.str (Str.ofString bs)) q5 p5) .Add (.Name quote pq3) p6] [] p7) env = (do
      let ov ← eval o env
      standAt ap.atName
      let (f, first) ← holding [ov] (getMethod ov "replace" pl)
      callWith p7 f first (backTo p7 (starEach [.Name quote pq2, .BinOp (.Constant (.str (Str.ofString bs)) q5 p5) .Add (.Name quote pq3) p6] env)) []) := by intro _; exact ⟨_, rfl⟩) :
    PX c k sc (.Assign [.Name quote pq] (.IfExp test (.Constant (.str (Str.ofString x1)) q1 p1) (.Constant (.str (Str.ofString x2)) q2 p2) p3) p4 ::
      .Assign [.Name inside pi] (.Call (.Attribute o "replace" ap) [.Name quote pq2, .BinOp (.Constant (.str (Str.ofString bs)) q5 p5) .Add (.Name quote pq3) p6] [] p7) p8 :: ss) lm P := by
  intro A env g₀ s₀ qh g s a'
  -- the first statement
  have first : wpAny c.M A (eval (.IfExp test (.Constant (.str (Str.ofString x1)) q1 p1) (.Constant (.str (Str.ofString x2)) q2 p2) p3) env) (fun v s₁ => ∃ g₁ T, Grow g s g₁ s₁ ∧ v = .str (S [a]) T ∧ 1 ≤ T ∧ T < s₁.toks) Bot s := by
    refine wpAny_IfExp (wpAny_mono (ht A env g s a'.toAt) (fun b' s₁ ⟨e, g₁, G₁⟩ => ?_) fun _ _ x => x)
    subst e
    have htk : 1 ≤ s₁.toks := Nat.le_trans (a'.tk hk2) G₁.tok
    cases b' with
    | true => exact wpAny_Constant_str ⟨g₁, s₁.toks, G₁.trans (Grow.toks G₁.le _), by rw [← hq, if_pos rfl, S_lit], htk, Nat.lt_succ_self _⟩
    | false => exact wpAny_Constant_str ⟨g₁, s₁.toks, G₁.trans (Grow.toks G₁.le _), by rw [← hq, if_neg Bool.false_ne_true, S_lit], htk, Nat.lt_succ_self _⟩
  refine wpAny_execs_cons (wpAny_Assign_Name (wpAny_mono first (fun v s₁ ⟨g₁, T, G₁, hv, hT1, hT2⟩ => ?_) fun _ _ x => x) (hs1 env))
  refine wpAny_with_toks (n := T + 1) hT2 (wpAny_mono (storeName_ok (a'.grow G₁) hqs (d := .p (.tk (S [a]) T)) hv (fun _ _ e => nomatch e)) (fun _ s₂ a₂ ht₂ => ?_) fun _ _ x _ => x)
  -- the second
  have second : ∀ g₂ s₂, AtS c k sc (lset lm quote (.p (.tk (S [a]) T))) A env g₀ s₀ qh g₂ s₂ → T + 1 ≤ s₂.toks → wpAny c.M A (eval (.Call (.Attribute o "replace" ap) [.Name quote pq2, .BinOp (.Constant (.str (Str.ofString bs)) q5 p5) .Add (.Name quote pq3) p6] [] p7) env) (fun v s₃ => ∃ g₃, Grow g₂ s₂ g₃ s₃ ∧ Rd g₃ v (pstr (repl a (Mine.lit bs ++ [a]) w))) Bot s₂ := by
    intro g₂ s₂ a₂ hT
    obtain ⟨pl, hpl⟩ := hm env
    have hl : (lset lm quote (.p (.tk (S [a]) T))).lookup quote = some (.p (.tk (S [a]) T)) := by rw [lset_lookup]; simp
    refine PyProof.Rows.MethodCall_ (pl := pl) (VE.go (ho T A env g₂ s₂ a₂.toAt) (fun ov s₃ g₃ G₃ hov => ?_)) hpl
    obtain ⟨t, rfl⟩ := rd_str hov
    have a₃ := a₂.grow G₃
    have hT₃ : T + 1 ≤ s₃.toks := Nat.le_trans hT G₃.tok
    have nm : ∀ (p : Pos) (s₄ : Shared) (g₄ : Heap), AtS c k sc (lset lm quote (.p (.tk (S [a]) T))) A env g₀ s₀ qh g₄ s₄ → wpAny c.M A (eval (.Name quote p) env) (fun v s₅ => ∃ g₅, Grow g₄ s₄ g₅ s₅ ∧ v = .str (S [a]) T) Bot s₄ := fun p s₄ g₄ a₄ =>
      VE.go (PE.local_ (pos := p) hl hd A env g₄ s₄ a₄.toAt) (fun v s₅ g₅ G₅ hv => ⟨g₅, G₅, hv⟩)
    refine GM.replace (PyProof.Rows.callWith_method1 (spliced_more (gr_go (nm _ s₃ g₃ a₃) (fun v s₄ g₄ G₄ hv => ?_))))
    subst hv
    have hT₄ : T + 1 ≤ s₄.toks := Nat.le_trans hT₃ G₄.tok
    have a₄ := a₃.grow G₄
    have G₅ : Grow g₄ s₄ g₄ { s₄ with toks := s₄.toks + 1 } := Grow.toks G₄.le _
    refine spliced_more (wpAny_BinOp (wpAny_Constant_str (gr_go (nm _ _ g₄ (a₄.grow G₅)) (fun v s₆ g₆ G₆ hv => ?_))))
    subst hv
    have hT₆ : T + 1 ≤ s₆.toks := Nat.le_trans (Nat.le_trans hT₄ G₅.tok) G₆.tok
    refine PySem.P.add_str ?_
    have e1 : ((Str.ofString bs).length == 0) = false := by rw [lit_len, hbs]; rfl
    have e2 : ((S [a]).length == 0) = false := by rw [S_length]; rfl
    rw [e1, e2, if_neg Bool.false_ne_true, if_neg Bool.false_ne_true]
    have e3 : Str.ofString bs ++ S [a] = S (Mine.lit bs ++ [a]) := by rw [← S_lit, S_append]
    rw [e3]
    refine ⟨by rw [S_length, List.length_append, hbs]; exact (show 2 ≤ sizeLine by decide), spliced_none ?_⟩
    show wpAny c.M A (PySem.call (.builtin "str.replace") [.str (S w) t, .str (S [a]) T, .str (S (Mine.lit bs ++ [a])) s₆.toks]) _ Bot { s₆ with toks := s₆.toks + 1 }
    have ne : ([a] : List Nat) ≠ Mine.lit bs ++ [a] := fun e => by
      have := congrArg List.length e
      rw [List.length_append, hbs] at this
      simp at this
    refine wpAny_with_toks (n := s₆.toks) (Nat.le_succ _) (SC.replace (Nat.pos_iff_ne_zero.mp hT1) (Nat.pos_iff_ne_zero.mp (Nat.lt_of_lt_of_le (Nat.succ_pos _) hT₆)) (Nat.ne_of_lt hT₆) (S_ne ne) (by rw [S_length, S_length, List.length_append, hbs]; exact hz) fun t' tk ht => ?_)
    refine ⟨g₆, (((G₃.trans G₄).trans G₅).trans G₆).trans (Grow.toks G₆.le tk ht), ?_⟩
    rw [replace_repl]
    exact rd_mk_str _ _
  dsimp only
  refine wpAny_execs_cons (wpAny_Assign_Name (VE.go (second g₁ s₂ a₂ ht₂) (fun v s₃ g₃ G₃ hv => ?_)) (hs2 env))
  refine wpAny_mono (storeName_ok (a₂.grow G₃) his (d := .p (pstr (repl a (Mine.lit bs ++ [a]) w))) hv (fun _ _ e => nomatch e)) (fun _ s₄ a₄ => ?_) fun _ _ x => x
  dsimp only
  have a₅ : AtS c k sc (lset (lset lm quote (.p (pstr [a]))) inside (.p (pstr (repl a (Mine.lit bs ++ [a]) w)))) A env g₀ s₀ qh g₃ s₄ := a₄.relax fun x d e => by
    rw [lset_lookup] at e ⊢
    by_cases hxi : x == inside
    · rw [if_pos hxi] at e ⊢; exact .inl e
    · rw [if_neg hxi, lset_lookup] at e
      rw [if_neg hxi, lset_lookup]
      by_cases hxq : x == quote
      · rw [if_pos hxq] at e ⊢; exact .inr ⟨_, _, (Option.some.inj e).symm, rfl⟩
      · rw [if_neg hxq] at e ⊢; exact .inl e
  exact SE.up (h A env g₀ s₀ qh g₃ s₄ a₅) (G₁.sub.trans G₃.sub)
end
end Mine

/-! Calc15 -/
open PySem PySem.W PyProof.Rows
set_option Elab.async false
set_option maxRecDepth 100000
namespace Mine

section
variable {c : Cx} {k : Nat} {sc : Scope} {lm : LM}

/-- the way into a def, however its arguments are bound -/
theorem enterDef {A : Around} {g : Heap} {s : Shared} {R : Result → Shared → Prop} {a : Addr} {o : Obj} {fd : FuncData} {body : List Stmt} {vs : List Value} {ns : List Str} {args' : List PV} (hr : Room A (k + 1)) (hb : c.Base g) (hs : Sub g s.heap) (htk : Tk (k + 1) s)
    (ho : g.get? a = some o) (hd : o.data = .func fd) (hbody : fd.body = .stmts body) (hcd : g.CodeRec fd.code fd.qualname) (hscope : fd.scope = sc) (hglob : fd.globals = mainGlobals) (hblt : fd.builtins = builtinsNs) (hclo : fd.closure = [])
    (hbind : wpAny c.M A.in1 (bindArgs fd ⟨vs, []⟩) (fun binds s' => ∃ g' vs', Grow g s g' s' ∧ RdL g' vs' args' ∧ binds = ns.zip vs') Bot s)
    (hkind : ∀ n ∈ ns, sc.names.lookup n = some .local ∨ sc.names.lookup n = some .cell)
    (honce : ∀ n, ∀ x cc, (x, cc) ∈ cellsFrom n sc.names [] → (cellsFrom n sc.names []).lookup x = some cc)
    (hco : sc.isCoroutine = false) (hgen : sc.isGenerator = false) (hk : sc.kind = .function)
    (h : ∀ g' s' q s₁ L, Grow g s g' s' → AtS c k sc (lmStart ns args') (A.deeper (callEnvC fd L a)) (callEnvC fd L a) g' s' q g' s₁ →
      wpAny c.M (A.deeper (callEnvC fd L a)) (execs body (callEnvC fd L a)) (fun f s'' => ∃ v, f = .ret v ∧ R (.ok (.ret v)) s'') Bot s₁) :
    codeAny c.M A (.call (.ref a) ⟨vs, []⟩) R s := by
  refine codeAny_call_function (fd := fd) (body := body) (by have := hr.2.2.1; omega) (hs _ _ ho) hd (by rw [hscope]; exact hco) (by rw [hscope]; exact hgen) hbody (hcd.keeps hs) ?_
  refine wpAny_mono hbind (fun binds s' ⟨g', vs', G, hv, eb⟩ => ?_) fun _ _ x => x.elim
  subst eb
  have hlen := rdl_length hv
  have hkind' : ∀ x ∈ ns.zip vs', fd.scope.names.lookup x.1 = some .local ∨ (fd.scope.names.lookup x.1 = some .cell ∧ ((cellsFrom (s'.heap.objs.size + 1) fd.scope.names []).lookup x.1).isSome = true) := by
    intro x hx
    rw [hscope]
    rcases hkind x.1 (List.of_mem_zip hx).1 with h | h
    · exact .inl h
    · exact .inr ⟨h, cellsFrom_some _ _ _ (.inl h)⟩
  rw [hclo]
  have hb' := hb.mono G.sub
  have hs' := G.le
  have htk' : Tk (k + 1) s' := htk.trans G.tok
  refine wpAny_with_toks (Nat.le_refl _) (wpAny_newFunctionEnv_cells (by rw [hscope]; exact hk) hkind' fun env he s₁ f ht => ?_)
  subst he
  replace ht : s'.toks ≤ s₁.toks := ht
  refine ⟨(hb'.1.nolimit.keeps hs').keeps f.toInCall.keep, codeAny_func ?_⟩
  show wpAny _ (A.deeper (callEnvC fd s'.heap.objs.size a)) (execs body (callEnvC fd s'.heap.objs.size a)) _ _ _
  change InCallC s' (callEnvC fd s'.heap.objs.size a).locals (bindL (callEnvC fd s'.heap.objs.size a).kindOf (ns.zip vs') fun _ => none) (callEnvC fd s'.heap.objs.size a).cells (bindC (callEnvC fd s'.heap.objs.size a).kindOf (ns.zip vs') fun _ => none) s₁ at f
  have hL : (callEnvC fd s'.heap.objs.size a).locals = s'.heap.objs.size := rfl
  have hcells : (callEnvC fd s'.heap.objs.size a).cells = cellsFrom (s'.heap.objs.size + 1) sc.names [] := by show cellsFrom (s'.heap.objs.size + 1) fd.scope.names [] = _; rw [hscope]
  have none_of : ∀ b, s'.heap.objs.size ≤ b → g'.get? b = none := fun b hb => by
    cases e : g'.get? b with
    | none => rfl
    | some o => exact absurd (Heap.lt_size (hs' _ _ e)) (Nat.not_lt.mpr hb)
  have ok : EnvOk sc (callEnvC fd s'.heap.objs.size a) := ⟨hscope, hk, hglob, hblt, fun x hx => by
    rw [hcells]
    exact Option.isSome_iff_exists.mp (cellsFrom_some _ _ _ (.inl hx))⟩
  have st : AtS c k sc (lmStart ns args') (A.deeper (callEnvC fd s'.heap.objs.size a)) (callEnvC fd s'.heap.objs.size a) g' s' (part s'.heap fun _ => False) g' s₁ := by
    refine ⟨hr.deeper _, ok, hb', ⟨Sub.refl g', fun b o e => .inl e, hs'.trans f.toInCall.keep, fun b o e => (part_get e).1.elim, ⟨_, _, f, fun x dd hx => ?_⟩, fun b hb => absurd (part_none _ b) hb, ht, ⟨none_of _ (Nat.le_refl _), part_none _ _⟩, fun x cc hx => ⟨none_of _ (Nat.le_of_lt (f.above x cc hx)), part_none _ _⟩⟩, fun x cc hx => ?_, (htk'.less (Nat.le_succ k)).trans ht⟩
    · obtain ⟨v, p, rfl, e2, e3⟩ := zip_rdl hv x dd hx
      refine ⟨v, ?_, e3, fun _ _ e => nomatch e⟩
      have hmem : x ∈ ns := by
        obtain ⟨l1, l2, he, _⟩ := List.lookup_eq_some_iff.mp e2
        have hm' : (x, v) ∈ ns.zip vs' := by rw [← List.mem_reverse, he]; simp
        exact (List.of_mem_zip hm').1
      unfold held
      rcases hkind x hmem with hl | hl
      · have hl' : (callEnvC fd s'.heap.objs.size a).kindOf x = some .local := by rw [ok.kindOf]; exact hl
        rw [hl']
        show bindL _ _ _ x = _
        rw [bindL_get _ x hl', e2]; rfl
      · have hl' : (callEnvC fd s'.heap.objs.size a).kindOf x = some .cell := by rw [ok.kindOf]; exact hl
        rw [hl']
        show bindC _ _ _ x = _
        rw [bindC_get _ x hl', e2]; rfl
    · rw [hcells] at hx ⊢; exact honce _ x cc hx
  refine wpAny_mono (h g' s' _ s₁ _ G st) (fun fl s'' ⟨v, e, hR⟩ => ?_) fun _ _ x => x.elim
  subst e
  exact hR

/-- a call whose arguments are bound in some such way -/
theorem PF.of_bind {f : Str} {args args' : List PV} {ns : List Str} {body : List Stmt} {r : PV}
    (hf : ∀ g a, c.Base g → c.mg f = some (.ref a) → ∃ o fd, g.get? a = some o ∧ o.data = .func fd ∧ fd.body = .stmts body ∧ g.CodeRec fd.code fd.qualname ∧ fd.scope = sc ∧ fd.globals = mainGlobals ∧ fd.builtins = builtinsNs ∧ fd.closure = [] ∧
      ∀ A s vs, Sub g s.heap → RdL g vs args → wpAny c.M A (bindArgs fd ⟨vs, []⟩) (fun binds s' => ∃ g' vs', Grow g s g' s' ∧ RdL g' vs' args' ∧ binds = ns.zip vs') Bot s)
    (hkind : ∀ n ∈ ns, sc.names.lookup n = some .local ∨ sc.names.lookup n = some .cell)
    (honce : ∀ n, ∀ x cc, (x, cc) ∈ cellsFrom n sc.names [] → (cellsFrom n sc.names []).lookup x = some cc)
    (h : PX c k sc body (lmStart ns args') (RetOk r))
    (hco : sc.isCoroutine = false := by rfl) (hgen : sc.isGenerator = false := by rfl) (hk : sc.kind = .function := by rfl) :
    PF c (k + 1) f args r := by
  intro A g s a vs hr hb hs htk hm hv
  obtain ⟨o, fd, ho, hd, hbody, hcd, hscope, hglob, hblt, hclo, hbind⟩ := hf g a hb hm
  refine enterDef hr hb hs htk ho hd hbody hcd hscope hglob hblt hclo (hbind A.in1 s vs hs hv) hkind honce hco hgen hk fun g' s' q s₁ L G st => ?_
  refine wpAny_mono (h _ _ g' s' q g' s₁ st) (fun fl s'' ⟨g'', lm', pf, hf, hg, a2, r', e, hr'⟩ => ?_) fun _ _ x => x.elim
  subst e
  cases fl with
  | ret v => exact ⟨v, rfl, v, rfl, g'', G.trans a2.run.grow, hr' g'' v hf⟩
  | _ => exact hf.elim

theorem bind1 {fd : FuncData} {ns : List Str} (h : ∀ a, bindArgs fd ⟨[a], []⟩ = pure (ns.zip [a])) {vs : List Value} (hl : vs.length = 1) : bindArgs fd ⟨vs, []⟩ = pure (ns.zip vs) := by
  obtain ⟨a, rfl⟩ := List.length_eq_one_iff.mp hl
  exact h a
theorem bind2 {fd : FuncData} {ns : List Str} (h : ∀ a b, bindArgs fd ⟨[a, b], []⟩ = pure (ns.zip [a, b])) {vs : List Value} (hl : vs.length = 2) : bindArgs fd ⟨vs, []⟩ = pure (ns.zip vs) := by
  obtain ⟨a, t, rfl⟩ := List.exists_cons_of_length_eq_add_one hl
  obtain ⟨b, rfl⟩ := List.length_eq_one_iff.mp (Nat.succ.inj hl)
  exact h a b
theorem bind3 {fd : FuncData} {ns : List Str} (h : ∀ a b c, bindArgs fd ⟨[a, b, c], []⟩ = pure (ns.zip [a, b, c])) {vs : List Value} (hl : vs.length = 3) : bindArgs fd ⟨vs, []⟩ = pure (ns.zip vs) := by
  obtain ⟨a, t, rfl⟩ := List.exists_cons_of_length_eq_add_one hl
  obtain ⟨b, t, rfl⟩ := List.exists_cons_of_length_eq_add_one (Nat.succ.inj hl)
  obtain ⟨d, rfl⟩ := List.length_eq_one_iff.mp (Nat.succ.inj (Nat.succ.inj hl))
  exact h a b d
theorem PF.of_body {d : DefRec} {args : List PV} {r : PV} (hd : d ∈ recsOf c.p)
    (hbind : ∀ pm code doc vs, vs.length = args.length → bindArgs (Calls.docDef d.name d.params d.body d.scope pm code doc) ⟨vs, []⟩ = pure ((d.params.args.map (·.arg)).zip vs))
    (hkind : ∀ n ∈ d.params.args.map (·.arg), d.scope.names.lookup n = some .local ∨ d.scope.names.lookup n = some .cell)
    (honce : ∀ n, ∀ x cc, (x, cc) ∈ cellsFrom n d.scope.names [] → (cellsFrom n d.scope.names []).lookup x = some cc)
    (h : PX c k d.scope d.body (lmStart (d.params.args.map (·.arg)) args) (RetOk r))
    (hco : d.scope.isCoroutine = false := by rfl) (hgen : d.scope.isGenerator = false := by rfl) (hk : d.scope.kind = .function := by rfl) :
    PF c (k + 1) d.name args r :=
  PF.of_bind (sc := d.scope) (ns := d.params.args.map (·.arg)) (body := d.body) (fun g a hb hm => by
    obtain ⟨a', o, pm, code, doc, h1, h2, h3, h4⟩ := hb.1.fn d hd
    cases hm.symm.trans h1
    exact ⟨o, _, h2, h3, rfl, h4, rfl, rfl, rfl, rfl, fun A s vs hs hv => by rw [hbind pm code doc vs (rdl_length hv)]; exact wpAny_pure ⟨g, vs, Grow.refl hs, hv, rfl⟩⟩) hkind honce h hco hgen hk

/-- a try whose body does not raise -/
theorem PX1.try_ {P : Post} {body orelse : List Stmt} {h₀ : ExceptHandler} {hs : List ExceptHandler} {pos : Pos} (h : PX c k sc body lm (Then c k sc orelse P)) :
    PX1 c k sc (.Try body (h₀ :: hs) orelse [] pos) lm P :=
  fun A env g₀ s₀ q g s a => wpAny_Try_except (seq_end (h A env g₀ s₀ q g s a))

/-! repr -/
theorem call_repr (hk5 : 2 ≤ k) (x : PyData) (hsh : x.showable = true) (hsz : x.shown.length ≤ sizeLine) (hd : x.depth + 2 ≤ 400) : CallSem c k (.builtin "repr") [.d x] (.d (.str x.shown)) := by
  intro A g s vs hr _ hs hv
  obtain ⟨v, rfl, hw⟩ := rdl1 hv
  have hu : A.units + (x.depth + 1) < cLine := by have := hr.2.2.2; (first | lia | omega)
  have refCase : ∀ a, v = .ref a → VE c A (PySem.call (.builtin "repr") [v]) g s (.d (.str x.shown)) := fun a e => by
    subst e
    obtain ⟨as, r, hn⟩ := Rp.reads hw
    refine wpAny_with_toks (Nat.le_refl _) (repr_of_reads' r hsh (fun _ => hn) (hr.2.1 hk5) hu hs (fun h' u tk hk ht => ?_) hsz)
    exact ⟨g, grow_any hs hk ht, rd_mk_str _ _⟩
  cases (show Rp g v x from hw) with
  | none =>
    refine PySem.P.repr_of_none ⟨g, Grow.toks hs _, ?_⟩
    simp only [PyData.shown]; exact rd_mk_str _ _
  | bool b =>
    refine PySem.P.repr_of_bool ⟨g, Grow.toks hs _, ?_⟩
    simp only [PyData.shown]; exact rd_mk_str _ _
  | int i t =>
    refine PySem.P.repr_of_int (by simpa [PyData.showable] using hsh) ⟨g, Grow.toks hs _, ?_⟩
    simp only [PyData.shown]; exact rd_mk_str _ _
  | str y t =>
    refine PySem.P.repr_of_str (h := ⟨g, Grow.toks hs _, ?_⟩) (by simpa only [PyData.shown] using hsz)
    simp only [PyData.shown]; exact rd_mk_str _ _
  | list h1 h2 h3 => exact refCase _ rfl
  | tuple h1 h3 => exact refCase _ rfl
  | dict h1 h2 h3 h4 => exact refCase _ rfl
end
end Mine

/-! Mp1 -/
open PySem PySem.W PyProof.Rows
set_option Elab.async false
set_option maxRecDepth 100000
namespace Mine

/-! map -/
theorem mp_owner : Manifest.owners.lookup (String.ofList ['p', 'a', 'm'].reverse) = some Manifest.sig_map := by kernel_rfl
theorem mp_slot_init : Slot "map" "__init__" "object.__init__" :=
  .of (owner := "object") (n := "__init__") (by rw [typeLookup_type, builtinLookup_eq_fast]; kernel_rfl) (by decide +kernel) (by decide +kernel) (by decide +kernel)
    (by first | exact .inl (by decide +kernel) | exact .inr (by decide +kernel)) (by rw [isSubtype_type]; kernel_rfl)
theorem mp_slot_iter : Slot "map" "__iter__" "map.__iter__" :=
  .of (owner := "map") (n := "__iter__") (by rw [typeLookup_type, builtinLookup_eq_fast]; kernel_rfl) (by decide +kernel) (by decide +kernel) (by decide +kernel)
    (by first | exact .inl (by decide +kernel) | exact .inr (by decide +kernel)) (by rw [isSubtype_type]; kernel_rfl)
theorem mp_args_iter (a : Value) : argsOk "map.__iter__" ⟨[a], []⟩ := by
  unfold argsOk; rw [signature?_of (id := "map.__iter__") (n := ['_', '_', 'r', 'e', 't', 'i', '_', '_']) (o := ['p', 'a', 'm']) (by kernel_rfl) mp_owner]; kernel_rfl
theorem mp_slot_next : Slot "map" "__next__" "map.__next__" :=
  .of (owner := "map") (n := "__next__") (by rw [typeLookup_type, builtinLookup_eq_fast]; kernel_rfl) (by decide +kernel) (by decide +kernel) (by decide +kernel)
    (by first | exact .inl (by decide +kernel) | exact .inr (by decide +kernel)) (by rw [isSubtype_type]; kernel_rfl)
theorem mp_entry_next : entryFor table "map.__next__" = some Builtin.«map.__next__» := entryFor_of_tree (by kernel_rfl)
theorem mp_args_next (a : Value) : argsOk "map.__next__" ⟨[a], []⟩ := by
  unfold argsOk; rw [signature?_of (id := "map.__next__") (n := ['_', '_', 't', 'x', 'e', 'n', '_', '_']) (o := ['p', 'a', 'm']) (by kernel_rfl) mp_owner]; kernel_rfl
theorem mp_entry_iter : entryFor table "map.__iter__" = some Builtin.«dict_keyiterator.__iter__» :=
  entryFor_alias (id' := "dict_keyiterator.__iter__") (by kernel_rfl) (by first | rfl | decide +kernel | (unfold String.splitOn; simp +decide [String.splitOnAux])) (by decide +kernel) (by kernel_rfl)
theorem mp_mro : mroOf (.type "map") = pure [.type "map", .type "object"] := by rw [mroOf_type]; kernel_rfl
theorem mp_lookup_new : typeLookup (.type "map") "__new__" = pure (some (.builtin "map.__new__")) := by rw [typeLookup_type, builtinLookup_eq_fast]; kernel_rfl
theorem mp_called : TypeCalled "map" "map.__new__" "object.__init__" :=
  ⟨by decide +kernel, by decide +kernel, ⟨_, _, mp_mro⟩, madeBy_type mp_mro mp_lookup_new (by decide +kernel), by decide +kernel, by rw [isSubtype_type]; kernel_rfl, mp_slot_init⟩
theorem mp_typeCall (a b : Value) : checkTypeCall "map" ⟨[a, b], []⟩ = pure () := by kernel_rfl
theorem mp_newCall (a b : Value) : checkBuiltinCall "map.__new__" ⟨[.type "map", a, b], []⟩ = pure () := by kernel_rfl
theorem mp_entry_new : entryFor table "map.__new__" = some Builtin.«map.__new__» := entryFor_of_tree (by kernel_rfl)
theorem mp_sub : isSubtype (.type "map") (.type "map") = pure true := by rw [isSubtype_type]; kernel_rfl
theorem mp_no_len : typeLookup (.type "map") "__len__" = pure none := by rw [typeLookup_type, builtinLookup_eq_fast]; kernel_rfl
theorem mp_no_hint : typeLookup (.type "map") "__length_hint__" = pure none := by rw [typeLookup_type, builtinLookup_eq_fast]; kernel_rfl

noncomputable abbrev IsMap (h : Heap) (I T : Addr) (f : Value) : Prop := h.get? I = some { cls := .type "map", dict := none, data := .fields #[.ref T, f], slots := #[] }
noncomputable abbrev IsOne (h : Heap) (T it : Addr) : Prop := h.get? T = some { cls := .type "tuple", dict := none, data := .seq #[.ref it], slots := #[] }
end Mine

/-! Mp2 -/
open PySem PySem.W PyProof.Rows
set_option Elab.async false
set_option maxRecDepth 100000
namespace Mine

section
variable {prog : Program} {w : World} {A : Around} {E : Value → Shared → Prop} {s : Shared}

theorem nextOf_tuple_item {it l : Addr} {i : Nat} {items : Array Value} {x : Value} {Q : Value → Shared → Prop} (hit : s.heap.IsTupleIter it l i)
    (hl : s.heap.IsTuple l items) (hx : items[i]? = some x)
    (hQ : ∀ h', h'.IsTupleIter it l (i + 1) → Heap.SameBut it s.heap h' → Q x { s with heap := h' }) :
    wpAny (model prog w) A (Builtin.SmallTypes.nextOf (.ref it)) Q E s := by
  obtain ⟨o, ho, hc, hd⟩ := id hit
  obtain ⟨ol, hol, _, nl, hdl⟩ := hl
  unfold Builtin.SmallTypes.nextOf
  refine wpAny_bind (wpAny_callSpecial?_slot (name := Str.ofString "__next__") hit.typeIs F.slot_tuple_iterator_next
    (wpAny_call_entry F.slot_tuple_iterator_next hit.typeIs F.entry_tuple_iterator_next ?_ (F.args_tuple_iterator_next_1 _)))
  show wpAny _ _ (field (.ref it) 0 >>= _) _ _ s
  refine wpAny_bind (wpAny_field ho hd (x := .ref l) rfl ?_)
  show wpAny _ _ (if (Value.ref l == Value.none) = true then _ else _) _ _ s
  rw [if_neg (show ¬ ((Value.ref l == Value.none) = true) from Bool.false_ne_true)]
  show wpAny _ _ (field (.ref it) 1 >>= _) _ _ s
  refine wpAny_bind (wpAny_field ho hd (x := .int i 0) rfl ?_)
  show wpAny _ _ (seqItems? (.ref l) >>= _) _ _ s
  refine wpAny_bind (wpAny_seqItems hol hdl ?_)
  simp only [Int.toNat_natCast, hx]
  refine wpAny_bind (wpAny_setField ho hd (by simp) (wpAny_pure ⟨x, rfl, wpAny_pure (hQ _ ?_ (Heap.SameBut.update ..))⟩))
  exact ⟨_, Heap.get?_update_self _ ho (Obj.isFreed_of_fields (Obj.data_mapFields hd _)), (Obj.cls_mapFields ..).trans hc, by
    rw [Obj.data_mapFields hd]; simp [rawInt]⟩

theorem nextOf_tuple_end {it l : Addr} {i : Nat} {items : Array Value} {Q : Value → Shared → Prop} (hh : A.handled = none)
    (hit : s.heap.IsTupleIter it l i) (hl : s.heap.IsTuple l items) (hx : items[i]? = none)
    (hE : ∀ h' e, Heap.ExtBut it s.heap h' → (∃ o, h'.get? e = some o ∧ o.cls = .type "StopIteration") → E (.ref e) { s with heap := h' }) :
    wpAny (model prog w) A (Builtin.SmallTypes.nextOf (.ref it)) Q E s := by
  obtain ⟨o, ho, hc, hd⟩ := id hit
  obtain ⟨ol, hol, _, nl, hdl⟩ := hl
  unfold Builtin.SmallTypes.nextOf
  refine wpAny_bind (wpAny_callSpecial?_slot (name := Str.ofString "__next__") hit.typeIs F.slot_tuple_iterator_next
    (wpAny_call_entry F.slot_tuple_iterator_next hit.typeIs F.entry_tuple_iterator_next ?_ (F.args_tuple_iterator_next_1 _)))
  show wpAny _ _ (field (.ref it) 0 >>= _) _ _ s
  refine wpAny_bind (wpAny_field ho hd (x := .ref l) rfl ?_)
  show wpAny _ _ (if (Value.ref l == Value.none) = true then _ else _) _ _ s
  rw [if_neg (show ¬ ((Value.ref l == Value.none) = true) from Bool.false_ne_true)]
  show wpAny _ _ (field (.ref it) 1 >>= _) _ _ s
  refine wpAny_bind (wpAny_field ho hd (x := .int i 0) rfl ?_)
  show wpAny _ _ (seqItems? (.ref l) >>= _) _ _ s
  refine wpAny_bind (wpAny_seqItems hol hdl ?_)
  simp only [Int.toNat_natCast, hx]
  refine wpAny_bind (wpAny_rule (wpAny_bind (wpAny_setField ho hd (by simp) ?_)))
  show wpAny _ _ (newExc (.type "StopIteration") [] >>= _) _ _ _
  refine wpAny_bind ?_
  simp only [newExc, newTuple]
  refine wpAny_bind (wpAny_newObj_type ?_ (by size_fits))
  refine wpAny_bind (m := firstArgMember _ _) (wpAny_of_eq (a := Value.none) (by first | rfl | (simp only [firstArgMember]; rfl)) ?_)
  refine wpAny_newObj_type ?_ (by size_fits)
  simp only [raiseNew]
  refine wpAny_bind (wpAny_handled ?_)
  first | rw [show A.in1.handled = none from hh] | rw [hh]
  refine wpAny_bind (wpAny_pure (wpAny_throw ?_))
  exact hE _ _ (((Heap.SameBut.update ..).extBut.push _).push _) ⟨_, Heap.get?_push_size _ rfl, rfl⟩

/-- map's next: the next of the tuple, handed to f -/
theorem map_item {I T it l : Addr} {f : Value} {i : Nat} {items : Array Value} {x : Value} {Q : Option Value → Shared → Prop} (hm : IsMap s.heap I T f) (h1 : IsOne s.heap T it) (hit : s.heap.IsTupleIter it l i) (hl : s.heap.IsTuple l items) (hx : items[i]? = some x) (hIt : I ≠ it) (hTt : T ≠ it)
    (hf : ∀ h', h'.IsTupleIter it l (i + 1) → Heap.SameBut it s.heap h' → wpAny (model prog w) A.in1 (PySem.call f [x]) (fun r s' => Q (some r) s') (fun _ _ => False) { s with heap := h' }) :
    wpAny (model prog w) A (pyNext (.ref I)) Q E s := by
  have hT : s.TypeIs (.ref I) "map" := ⟨_, hm, rfl⟩
  unfold pyNext
  refine wpAny_bind (wpAny_attempt (wpAny_callSpecial?_slot (name := Str.ofString "__next__") hT mp_slot_next
    (wpAny_call_entry mp_slot_next hT mp_entry_next ?_ (mp_args_next _))))
  show wpAny _ _ (field (.ref I) 0 >>= _) _ _ s
  refine wpAny_bind (wpAny_field hm rfl (x := .ref T) rfl ?_)
  refine wpAny_bind (wpAny_seqItems h1 rfl ?_)
  dsimp only
  rw [List.forIn_toArray]
  simp only [List.forIn_cons, List.forIn_nil]
  refine wpAny_bind (wpAny_bind (wpAny_bind (wpAny_holding (nextOf_tuple_item hit hl hx fun h' hit' hs' => ?_))))
  refine wpAny_pure (wpAny_pure ?_)
  have hm' : IsMap h' I T f := hs'.extBut _ _ hIt hm
  refine wpAny_bind (wpAny_field hm' rfl (x := f) rfl ?_)
  refine wpAny_bind (wpAny_holding ?_)
  show wpAny _ A.in1 (PySem.call f [x]) _ _ _
  refine wpAny_mono (hf h' hit' hs') (fun r s' hq => ?_) fun _ _ x => x.elim
  refine wpAny_bind (wpAny_letGo (wpAny_pure ⟨r, rfl, wpAny_pure hq⟩))

theorem map_end {I T it l : Addr} {f : Value} {i : Nat} {items : Array Value} {Q : Option Value → Shared → Prop} (hh : A.handled = none) (hm : IsMap s.heap I T f) (h1 : IsOne s.heap T it) (hit : s.heap.IsTupleIter it l i) (hl : s.heap.IsTuple l items) (hx : items[i]? = none)
    (hQ : ∀ h', Heap.ExtBut it s.heap h' → Q none { s with heap := h' }) : wpAny (model prog w) A (pyNext (.ref I)) Q E s := by
  have hT : s.TypeIs (.ref I) "map" := ⟨_, hm, rfl⟩
  unfold pyNext
  refine wpAny_bind (wpAny_attempt (wpAny_callSpecial?_slot (name := Str.ofString "__next__") hT mp_slot_next
    (wpAny_call_entry mp_slot_next hT mp_entry_next ?_ (mp_args_next _))))
  show wpAny _ _ (field (.ref I) 0 >>= _) _ _ s
  refine wpAny_bind (wpAny_field hm rfl (x := .ref T) rfl ?_)
  refine wpAny_bind (wpAny_seqItems h1 rfl ?_)
  dsimp only
  rw [List.forIn_toArray]
  simp only [List.forIn_cons, List.forIn_nil]
  refine wpAny_bind (wpAny_bind (wpAny_bind (wpAny_holding (nextOf_tuple_end hh hit hl hx fun h' e he' hx' => ?_))))
  obtain ⟨o, ho, hc⟩ := hx'
  refine wpAny_bind (wpAny_isInstance (T := "StopIteration") (b := true) ⟨o, ho, hc⟩ isSubtype_stop ?_)
  exact wpAny_pure (hQ _ he')

theorem map_iter {I T : Addr} {f : Value} {Q : Value → Shared → Prop} (hm : IsMap s.heap I T f) (h : Q (.ref I) s) : wpAny (model prog w) A (pyIter (.ref I)) Q E s := by
  have hT : s.TypeIs (.ref I) "map" := ⟨_, hm, rfl⟩
  refine wpAny_pyIter_slot hT mp_slot_iter (wpAny_call_entry mp_slot_iter hT mp_entry_iter ?_ (mp_args_iter _))
  show wpAny _ _ (ret (.ref I)) _ _ s
  exact wpAny_pure ⟨_, rfl, "map", _, hT, mp_slot_next.lookup, h⟩

set_option maxHeartbeats 8000000 in
theorem mp_meets_new (f : Value) (l : Addr) (items : Array Value) (n : Nat) :
    Meets (Builtin.«map.__new__» ⟨[.type "map", f, .ref l], []⟩) (fun _ R s => s.heap.get? l = some { cls := .type "tuple", dict := none, data := .seq items n, slots := #[] } ∧
      ∀ h' I T it, I = s.heap.objs.size + 2 → T = s.heap.objs.size + 1 → it = s.heap.objs.size → IsMap h' I T f → IsOne h' T it → h'.IsTupleIter it l 0 → Sub s.heap h' → R (.ok (.ret (.ref I))) { s with heap := h' }) :=
  .of_wp fun prog w A R s h => by
    obtain ⟨hp, g, d, tk, os⟩ := s; obtain ⟨hl, h⟩ := h
    have hsub := mp_sub
    have hL : Heap.IsTuple (Shared.heap ⟨hp, g, d, tk, os⟩) l items := ⟨_, hl, rfl, n, rfl⟩
    unfold Builtin.«map.__new__»
    wp_walk using AutoSeq1.wpAny_loadPart' hl, wpAny_pyIter_tuple hL
    have z1 : (hp.push { cls := .type "tuple_iterator", data := .fields #[.ref l, .int 0 0] }).objs.size = hp.objs.size + 1 := Heap.size_push ..
    refine ⟨_, rfl, h _ _ _ _ ?_ z1 rfl (Heap.get?_push_size _ rfl) (Heap.get?_push_of_some _ (Heap.get?_push_size _ rfl)) ⟨_, Heap.get?_push_of_some _ (Heap.get?_push_of_some _ (Heap.get?_push_size _ rfl)), rfl, rfl⟩ fun b o e => Heap.get?_push_of_some _ (Heap.get?_push_of_some _ (Heap.get?_push_of_some _ e))⟩
    rw [Heap.size_push, z1]

theorem call_map {f : Value} {l : Addr} {items : Array Value} {n : Nat} {Q : Value → Shared → Prop} (hl : s.heap.get? l = some { cls := .type "tuple", dict := none, data := .seq items n, slots := #[] })
    (h : ∀ h' I T it, I = s.heap.objs.size + 2 → T = s.heap.objs.size + 1 → it = s.heap.objs.size → IsMap h' I T f → IsOne h' T it → h'.IsTupleIter it l 0 → Sub s.heap h' → Q (.ref I) { s with heap := h' }) :
    wpAny (model prog w) A (PySem.call (.type "map") [f, .ref l]) Q E s :=
  callType_new mp_called (by decide) (mp_typeCall _ _) (mp_newCall _ _) (fun obj => F.args_object_init_3 obj _ _) mp_entry_new
    (mp_meets_new f l items n) ⟨hl, fun h' I T it e1 e2 e3 hm h1 hi hk => ⟨⟨_, hm, rfl⟩, h h' I T it e1 e2 e3 hm h1 hi hk⟩⟩
end

/-- the addresses of g -/
noncomputable def liveOf (g : Heap) (n : Nat) : List Addr := open Classical in (List.range n).filter fun b => g.get? b ≠ none
theorem mem_liveOf {g h : Heap} (hs : Sub g h) {b : Addr} {o : Obj} (e : g.get? b = some o) : b ∈ liveOf g h.objs.size := by
  unfold liveOf
  rw [List.mem_filter]
  exact ⟨List.mem_range.mpr (Heap.lt_size (hs _ _ e)), by rw [e]; simp⟩
theorem liveOf_mem {g : Heap} {n : Nat} {b : Addr} (h : b ∈ liveOf g n) : b < n ∧ g.get? b ≠ none := by
  unfold liveOf at h
  rw [List.mem_filter] at h
  exact ⟨List.mem_range.mp h.1, by simpa using h.2⟩

section
variable {c : Cx} {A : Around}
noncomputable def MapSt (g : Heap) (I T it l : Addr) (f : Value) (items : Array Value) (i : Nat) (s : Shared) : Prop :=
  IsMap s.heap I T f ∧ IsOne s.heap T it ∧ s.heap.IsTupleIter it l i ∧ s.heap.IsTuple l items ∧ Sub g s.heap ∧ 1 ≤ s.toks

theorem map_walk {g h₀ : Heap} {I T it l : Addr} {f : Value} {items : Array Value} {P : Nat → Value → Prop} (hh : A.handled = none) (hg : Sub g h₀) (hIt : I ≠ it) (hTt : T ≠ it) (hlt : l ≠ it) (hgit : g.get? it = none)
    (hcall : ∀ i x s, items[i]? = some x → Sub g s.heap → 1 ≤ s.toks → wpAny c.M A.in1 (PySem.call f [x]) (fun r s' => P i r ∧ ∃ g', Grow g s g' s') Bot s) :
    WalksS c.prog c.w A I ([I, T, it, l] ++ liveOf g h₀.objs.size) [it] (fun a b => b = a) items.size P (MapSt g I T it l f items) where
  sub := fun b hb => by simp at hb; subst hb; simp
  grefl := fun _ => rfl
  gtrans := fun a b c e1 e2 => e2.trans e1
  frame := fun i s h' tk st ht hk => by
    obtain ⟨s1, s2, ⟨o3, s3, r3⟩, ⟨o4, s4, r4⟩, s5, s6⟩ := st
    exact ⟨hk I (by simp) _ s1, hk T (by simp) _ s2, ⟨o3, hk it (by simp) _ s3, r3⟩, ⟨o4, hk l (by simp) _ s4, r4⟩, fun b o e => hk b (List.mem_append_right _ (mem_liveOf hg e)) o (s5 b o e), Nat.le_trans s6 ht⟩
  item := fun i s Q E hi st hQ => by
    obtain ⟨s1, s2, s3, s4, s5, s6⟩ := st
    have hx : items[i]? = some items[i] := by simp [hi]
    refine map_item s1 s2 s3 s4 hx hIt hTt fun h' hit' hs' => ?_
    have s5' : Sub g h' := fun b o e => hs'.extBut b o (get_ne hgit e) (s5 b o e)
    refine wpAny_mono (hcall i items[i] { s with heap := h' } hx s5' s6) (fun r s' ⟨hP, g', G⟩ => ?_) fun _ _ x => x
    obtain ⟨h'', tk, rfl⟩ := G.same
    refine hQ r _ hP ⟨G.keep _ _ (hs'.extBut _ _ hIt s1), G.keep _ _ (hs'.extBut _ _ hTt s2), ?_, ?_, s5'.trans G.keep, Nat.le_trans s6 G.tok⟩ ⟨fun b o hb e => G.keep b o (hs'.extBut b o (by simpa using hb) e), rfl, rfl, rfl, G.tok⟩
    · obtain ⟨o, e, r⟩ := hit'; exact ⟨o, G.keep _ _ e, r⟩
    · obtain ⟨o, e, r⟩ := s4; exact ⟨o, G.keep _ _ (hs'.extBut _ _ hlt e), r⟩
  done := fun s Q E st hQ => by
    obtain ⟨s1, s2, s3, s4, s5, s6⟩ := st
    exact map_end hh s1 s2 s3 s4 (by simp) fun h' he => hQ _ ⟨fun b o hb e => he b o (by simpa using hb) e, rfl, rfl, rfl, Nat.le_refl _⟩
  self := fun i s Q E st hQ => map_iter st.1 hQ
end


section
variable {prog : Program} {w : World} {A : Around} {E : Value → Shared → Prop} {s : Shared} {I : Addr} {fp wr : List Addr} {G : Array GenState → Array GenState → Prop} {n : Nat} {P : Nat → Value → Prop} {St : Nat → Shared → Prop}

theorem collect_map {Q : List Value → Shared → Prop} (W : WalksS prog w A.in1 I fp wr G n P St) (hT : ∀ i s, St i s → s.TypeIs (.ref I) "map") (hst : St 0 s) (hfp : ∀ b ∈ fp, b < s.heap.objs.size) (hI : I ∈ fp)
    (hQ : ∀ s' acc, Moved wr G s s' → ItemsOf P acc n → Q acc.toList s') (hn : n ≤ sizeLine) : wpAny (model prog w) A (collect (.ref I)) Q E s := by
  have hSf : s.heap.objs.size ∉ fp := fun hm => Nat.lt_irrefl _ (hfp _ hm)
  have hSI : s.heap.objs.size ≠ I := fun e => hSf (e ▸ hI)
  unfold collect
  refine wpAny_bind (wpAny_runValue (codeAny_builtin F.entry_proto_collect ?_))
  rw [Around.under_plainId F.plain_proto_collect _]
  show wpAny _ A.in1 (newList [] >>= fun l => again (.builtin "list.__iadd__" ⟨[l, .ref I], []⟩)) _ _ s
  refine wpAny_bind (wpAny_newObj_type ?_)
  refine wpAny_pure ⟨plainId_quiet F.plain_list_iadd _, codeAny_builtin F.entry_list_iadd ?_⟩
  rw [Around.under_plainId F.plain_list_iadd _]
  have hst₁ := W.frame 0 s (s.heap.push { cls := .type "list", data := .seq ([] : List Value).toArray }) s.toks hst (Nat.le_refl _) fun b _ o e => Heap.get?_push_of_some _ e
  show wpAny _ A.in1 (Builtin.List.listExtendWith (.ref s.heap.objs.size) (.ref I) (.ref s.heap.objs.size)) _ _ _
  unfold Builtin.List.listExtendWith
  refine wpAny_bind (wpAny_typeOf (hT 0 _ hst₁) ?_)
  have h1 : Builtin.List.listSameRef (.ref s.heap.objs.size) (.ref I) = false := by simp [Builtin.List.listSameRef, hSI]
  have h2 : (Value.type "map" == Value.type "list") = false := by decide
  have h3 : (Value.type "map" == Value.type "tuple") = false := by decide
  simp only [h1, h2, h3, Bool.or_false, Bool.false_eq_true, if_false]
  refine wpAny_bind (W.self 0 _ _ _ hst₁ ?_)
  refine wpAny_bind (wpAny_holding ?_)
  unfold Builtin.List.listLengthHint
  refine wpAny_bind (wpAny_specialOf (hT 0 _ hst₁) mp_no_len ?_)
  show wpAny _ A.in1 (specialOf (Value.ref I) (Str.ofString "__length_hint__") >>= _) _ _ _
  refine wpAny_bind (wpAny_specialOf (hT 0 _ hst₁) mp_no_hint ?_)
  refine wpAny_pure ?_
  show wpAny _ A.in1 (rule "list.extend.makes-room" >>= fun _ => Builtin.List.listTouch (.ref s.heap.objs.size) >>= fun _ =>
    again (.builtin "list.extend.loop" ⟨[.ref s.heap.objs.size, .ref I, .ref s.heap.objs.size], []⟩)) _ _ _
  refine wpAny_bind (wpAny_rule ?_)
  have hS₁ : (s.heap.push { cls := .type "list", data := .seq ([] : List Value).toArray }).get? s.heap.objs.size = some { cls := .type "list", data := .seq ([] : List Value).toArray } := Heap.get?_push_size _ rfl
  refine wpAny_bind ?_
  show wpAny _ A.in1 (updateSeq s.heap.objs.size (·.push .none) >>= fun _ => updateSeq s.heap.objs.size (·.pop)) _ _ _
  refine wpAny_bind (wpAny_updateSeq hS₁ rfl ?_)
  have hS₂ := Heap.get?_update_self (Obj.mapSeq (·.push Value.none)) hS₁ rfl
  refine wpAny_updateSeq hS₂ rfl ?_
  have hS₃ := Heap.get?_update_self (Obj.mapSeq (·.pop)) hS₂ rfl
  have oth : ∀ b o, b ≠ s.heap.objs.size → (s.heap.push { cls := .type "list", data := .seq ([] : List Value).toArray }).get? b = some o →
      (((s.heap.push { cls := .type "list", data := .seq ([] : List Value).toArray }).update s.heap.objs.size (Obj.mapSeq (·.push Value.none))).update s.heap.objs.size (Obj.mapSeq (·.pop))).get? b = some o :=
    fun b o hb e => (Heap.get?_update_other _ _ (Ne.symm hb)).trans ((Heap.get?_update_other _ _ (Ne.symm hb)).trans e)
  refine wpAny_pure ⟨plainId_quiet F.plain_extend_loop _, codeAny_extend_loopS W hn _ hSf _ n 0 _ _ _ rfl (Nat.zero_le _)
    (W.frame 0 ({ s with heap := s.heap.push { cls := .type "list", data := .seq ([] : List Value).toArray } } : Shared) _ s.toks hst₁ (Nat.le_refl _) fun b hb o e => oth b o (fun h => hSf (h ▸ hb)) e) hS₃ (ItemsOf.nil P) fun s' acc' c' hm hS' hacc => ?_⟩
  show wpAny _ A (load s.heap.objs.size >>= _) _ _ s'
  refine wpAny_bind (wpAny_load hS' ?_)
  refine wpAny_pure (hQ s' acc' (Moved.drop_new (o := { cls := .type "list", data := .seq ([] : List Value).toArray }) (tk := s.toks) (Moved.trans W.gtrans ((Moved.refl W.grefl).then_heap (by first | exact Nat.le_refl _ | exact Nat.le_succ _ | omega) fun b o hb e => ?_) hm) (Nat.le_refl _)) hacc)
  exact oth b o (fun h => hb (by rw [h]; exact List.mem_cons_self)) e

theorem code_tuple_map {Q₁ : Value → Shared → Prop} (W : WalksS prog w A.in1.in1 I fp wr G n P St) (hT : ∀ i s, St i s → s.TypeIs (.ref I) "map") (hst : St 0 s) (hfp : ∀ b ∈ fp, b < s.heap.objs.size) (hI : I ∈ fp)
    (h : ∀ s' acc, Moved wr G s s' → ItemsOf P acc n → Q₁ (.ref s'.heap.objs.size) { s' with heap := s'.heap.push { cls := .type "tuple", data := .seq acc } }) (hsz : n ≤ sizeLine) :
    codeAny (model prog w) A (.call (.builtin "tuple.__new__") ⟨[.type "tuple", .ref I], []⟩) (wants Q₁ E) s := by
  refine codeAny_of_tree ?_
  show wpAny _ A.in1 (do checkBuiltinCall "tuple.__new__" ⟨[.type "tuple", .ref I], []⟩; again (.builtin "tuple.__new__" ⟨[.type "tuple", .ref I], []⟩)) _ _ s
  refine wpAny_bind (wpAny_of_eq (F.newCall_tuple_1 _) (wpAny_pure ⟨plainId_quiet F.plain_tuple_new _, codeAny_builtin F.entry_tuple_new ?_⟩))
  rw [Around.under_plainId F.plain_tuple_new _]
  have hsub := sub_tuple_self
  have hinit := init_tuple_lookup
  have hmh := madeHere_tuple
  have hTI := hT 0 s hst
  wp_walk using wpAny_typeOf hTI, collect_map (hn := hsz) W hT hst hfp hI
  intro s' acc hm hacc
  show wpAny _ _ (Builtin.Tuple.tupleExact acc.toList.toArray >>= fun v => ret v) _ _ _
  unfold Builtin.Tuple.tupleExact
  refine wpAny_bind (wpAny_newObj_type ?_ (by show acc.toList.toArray.size ≤ sizeLine; simp only [Array.toArray_toList]; rw [hacc.1]; exact hsz))
  refine wpAny_pure ?_
  have e : acc.toList.toArray = acc := by simp
  rw [e]
  exact h s' acc hm hacc

theorem call_tuple_map {Q : Value → Shared → Prop} (W : WalksS prog w A.in1.in1.in1 I fp wr G n P St) (hT : ∀ i s, St i s → s.TypeIs (.ref I) "map") (hst : St 0 s) (hfp : ∀ b ∈ fp, b < s.heap.objs.size) (hI : I ∈ fp)
    (hQ : ∀ s' acc, Moved wr G s s' → ItemsOf P acc n → Q (.ref s'.heap.objs.size) { s' with heap := s'.heap.push { cls := .type "tuple", data := .seq acc } }) (hsz : n ≤ sizeLine) :
    wpAny (model prog w) A (PySem.call (.type "tuple") [.ref I]) Q E s := by
  refine callType_codes (Q₁ := fun obj s₁ => s₁.TypeIs obj "tuple" ∧ Q obj s₁) F.called_tuple (F.typeCall_tuple_1 _) F.entry_object_init
    (code_tuple_map (hsz := hsz) W hT hst hfp hI fun s' acc hm hacc => ⟨⟨_, Heap.get?_push_size _ rfl, rfl⟩, hQ s' acc hm hacc⟩) fun obj s₁ h₁ => ?_
  exact ⟨h₁.1, F.args_object_init_2 obj _, object_init_meets F.called_tuple.init.lookup F.called_tuple.made (by decide) prog w A.in1 _ s₁ ⟨h₁.1, rfl, h₁.2⟩⟩
end
end Mine

/-! Mp3 -/
open PySem PySem.W PyProof.Rows
set_option Elab.async false
set_option maxRecDepth 100000
namespace Mine

theorem Room.in_ {A : Around} {k : Nat} (n : Nat) (h : Room A (k + n)) : Room (Nat.repeat Around.in1 n A) k := by
  induction n generalizing k with
  | zero => exact h
  | succ n ih => exact (ih (k := k + 1) (by rw [Nat.add_assoc, Nat.add_comm 1 n]; exact h)).in1

section
variable {c : Cx} {k : Nat} {sc : Scope} {lm : LM}

/-- map(f, e), e a tuple -/
theorem evalMap {A : Around} {env : Env} {g : Heap} {s : Shared} {np2 p2 fp : Pos} {x : Str} {e : Expr} {f : Value} {xs : List PyData} {Q : Value → Shared → Prop} (a : At c k sc lm A env g s) (h2 : sc.names.lookup (Str.ofString "map") = some .globalImplicit) (m2 : c.mg (Str.ofString "map") = none)
    (hf : ∀ g' s', Grow g s g' s' → ∀ R : Value → Shared → Prop, R f s' → wpAny c.M A (eval (.Name x fp) env) R Bot s') (he : PE c k sc lm e (ptuple xs))
    (hse : starEach [.Name x fp, e] env = (false, eval (.Name x fp) env) :: starEach [e] env) (hse2 : starEach [e] env = (false, eval e env) :: starEach [] env) (hplain : (backTo p2 (starEach [e] env)).any (·.1) = false)
    (hQ : ∀ g₁ s₁ l us, Grow g s g₁ s₁ → RdAll g₁ us.toList xs → s₁.heap.IsTuple l us → ∀ h' I T it, it = s₁.heap.objs.size → T ≠ it → I ≠ it → l ≠ it → IsMap h' I T f → IsOne h' T it → h'.IsTupleIter it l 0 → Sub s₁.heap h' → Q (.ref I) { s₁ with heap := h' }) :
    wpAny c.M A (eval (.Call (.Name (Str.ofString "map") np2) [.Name x fp, e] [] p2) env) Q Bot s := by
  refine wpAny_Call_NameR ?_
  refine a.bn h2 m2 (show bootBuiltins (Str.ofString "map") = some (.type "map") by kernel_rfl) ?_
  refine PyProof.Rows.callWith_type1 (spliced_more (hf g s (Grow.refl a.sub) _ (spliced_more (VE.go (he A env g s a) (fun v s₁ g₁ G₁ hv => ?_)) hse2)) hse) hse hplain
  obtain ⟨l, us, n, rfl, hl, hr⟩ := rd_tuple hv
  refine spliced_none ?_
  have hl₁ := G₁.le _ _ hl
  refine call_map hl₁ fun h' I T it e1 e2 e3 hm h1 hi hk => hQ g₁ s₁ l us G₁ hr ⟨_, hl₁, rfl, n, rfl⟩ h' I T it e3 ?_ ?_ ?_ hm h1 hi hk
  · rw [e2, e3]; exact Nat.succ_ne_self _
  · rw [e1, e3]; exact Nat.ne_of_gt (Nat.lt_add_of_pos_right (by decide))
  · rw [e3]; exact live_lt hl₁

theorem PE.tupleMap {np np2 p2 pos fp : Pos} {f : Str} {e : Expr} {xs : List PyData} {ws : List (List Nat)} (h1 : sc.names.lookup (Str.ofString "tuple") = some .globalImplicit) (h2 : sc.names.lookup (Str.ofString "map") = some .globalImplicit) (h3 : sc.names.lookup f = some .globalImplicit)
    (m1 : c.mg (Str.ofString "tuple") = none) (m2 : c.mg (Str.ofString "map") = none) (hf : IsDef c f) (he : PE c (k + 4) sc lm e (ptuple xs)) (hz : xs.length ≤ sizeLine) (hlen : ws.length = xs.length)
    (hcall : ∀ (i : Nat) (x : PyData) (w : List Nat), xs[i]? = some x → ws[i]? = some w → PF c k f [.d x] (pstr w)) (hd : (f == ("__debug__" : Str)) = false)
    (hse : ∀ env, starEach [.Name f fp, e] env = (false, eval (.Name f fp) env) :: starEach [e] env := by intro _; rfl) (hse2 : ∀ env, starEach [e] env = (false, eval e env) :: starEach [] env := by intro _; rfl) (hplain : ∀ env, (backTo p2 (starEach [e] env)).any (·.1) = false := by intro _; rfl)
    (hse3 : ∀ env, starEach [.Call (.Name (Str.ofString "map") np2) [.Name f fp, e] [] p2] env = (false, eval (.Call (.Name (Str.ofString "map") np2) [.Name f fp, e] [] p2) env) :: starEach [] env := by intro _; rfl) :
    PE c (k + 4) sc lm (.Call (.Name (Str.ofString "tuple") np) [.Call (.Name (Str.ofString "map") np2) [.Name f fp, e] [] p2] [] pos) (ptuple (ws.map fun t => .str (S t))) := by
  intro A env g s a
  obtain ⟨fa, fo, fd, hm, ho, hdat⟩ := hf g a.base
  have kf : env.scope.kind = .function := by rw [a.envOk.scope]; exact a.envOk.kind
  refine wpAny_Call_NameR ?_
  refine a.bn h1 m1 (show bootBuiltins (Str.ofString "tuple") = some (.type "tuple") by kernel_rfl) ?_
  refine PyProof.Rows.callWith_type1 (spliced_more ?_ (hse3 env)) (hse3 env) (by rfl)
  refine evalMap (f := .ref fa) a h2 m2 (fun g' s' G R hR => ?_) he (hse env) (hse2 env) (hplain env) fun g₁ s₁ l us G₁ hr hl h' I T it e1 hTt hIt hlt hM hO hi hk => spliced_none ?_
  · refine Calls.Name_function_global kf (by rw [a.envOk.kindOf]; exact h3) ?_ hd
    exact Calls.loadGlobal_global (mg := c.mg) (by rw [a.envOk.globals]; exact (a.base.1.g.keeps a.sub).keeps G.keep) hm hR
  · have hlen' := hr.length
    simp only [Array.length_toList] at hlen'
    have a₁ := a.grow G₁
    have hg₁ : Sub g₁ h' := G₁.le.trans hk
    have hit : s₁.heap.get? it = none := by rw [e1]; exact get?_size_none _
    have hgit := sub_get_none G₁.le hit
    show wpAny c.M A (PySem.call (.type "tuple") [.ref I]) _ Bot _
    have W := map_walk (c := c) (A := A.in1.in1.in1) (g := g₁) (h₀ := h') (I := I) (T := T) (it := it) (l := l) (f := .ref fa) (items := us) (P := fun i v => ∃ t, v = .str (S (ws.getD i [])) t) a.room.1 hg₁ hIt hTt hlt hgit (fun i x s' hx hs' ht' => by
      have hi' : i < xs.length := by
        rcases Nat.lt_or_ge i xs.length with h | h
        · exact h
        · rw [Array.getElem?_eq_none (by omega)] at hx; cases hx
      have hxi : xs[i]? = some xs[i] := List.getElem?_eq_getElem hi'
      have hwi : ws[i]? = some (ws.getD i []) := by rw [List.getD_eq_getElem?_getD, List.getElem?_eq_getElem (by omega)]; rfl
      have hrx := hr.get i x xs[i] (by simpa using hx) hxi
      refine VE.go (VE.callDef (hcall i _ _ hxi hwi) (Room.in_ 4 a.room) a₁.base hs' (fun _ => ht') hm ⟨hrx, trivial⟩) (fun r s'' g' G' hr' => ⟨rd_str hr', g', G'⟩))
    have lI : I < h'.objs.size := Heap.lt_size hM
    have lT : T < h'.objs.size := Heap.lt_size hO
    have lit' : it < h'.objs.size := by obtain ⟨o, e, _⟩ := hi; exact Heap.lt_size e
    have ll : l < h'.objs.size := by obtain ⟨o, e, _⟩ := hl; exact Heap.lt_size (hk _ _ e)
    refine call_tuple_map W (fun i s' st => ⟨_, st.1, rfl⟩) ⟨hM, hO, hi, by obtain ⟨o, e, r⟩ := hl; exact ⟨o, hk _ _ e, r⟩, hg₁, a₁.tk (by (first | lia | omega))⟩ (fun b hb => ?_) (by simp) (fun s' acc hmv hacc => ?_) (by (first | lia | omega))
    · rcases List.mem_append.mp hb with hb | hb
      · simp at hb
        rcases hb with rfl | rfl | rfl | rfl
        · exact lI
        · exact lT
        · exact lit'
        · exact ll
      · exact (liveOf_mem hb).1
    · -- the new tuple
      obtain ⟨hp', gn', dn', tk', os'⟩ := s'
      have e2 : gn' = s₁.gens := hmv.gens
      have e3 : dn' = s₁.drawn := hmv.drawn
      have e4 : os' = s₁.os := hmv.os
      subst e2 e3 e4
      have htk : s₁.toks ≤ tk' := hmv.toks
      have keep : Sub s₁.heap hp' := fun b o e => hmv.heap b o (by simp; intro hb; rw [hb, hit] at e; cases e) (hk b o e)
      have G₂ : Grow g₁ s₁ g₁ { s₁ with heap := hp', toks := tk' } := grow_any G₁.le keep htk
      obtain ⟨g₃, G₃, hg, hne⟩ := grow_new (s := { s₁ with heap := hp', toks := tk' }) a₁.base G₂.le { cls := .type "tuple", data := .seq acc } rfl
      refine ⟨g₃, (G₁.trans G₂).trans G₃, rd_mk_tuple hg ?_⟩
      refine RdAll.of_get (by rw [List.length_map, Array.length_toList, hacc.1]; (first | lia | omega)) fun i v d hv hd' => ?_
      obtain ⟨t, rfl⟩ := hacc.2 i v (by simpa using hv)
      rw [List.getElem?_map] at hd'
      cases hw : ws[i]? with
      | none => rw [hw] at hd'; cases hd'
      | some w =>
        rw [hw] at hd'; cases hd'
        rw [List.getD_eq_getElem?_getD, hw]
        exact rd_mk_str _ _
end
end Mine

/-! Mp4 -/
open PySem PySem.W PyProof.Rows
set_option Elab.async false
set_option maxRecDepth 100000
namespace Mine
section
variable {c : Cx} {k : Nat} {sc : Scope} {lm : LM}

theorem PE.maxMapLen {np np2 p2 pos fp : Pos} {e : Expr} {ws : List (List Nat)} {M : Nat} (h1 : sc.names.lookup (Str.ofString "max") = some .globalImplicit) (h2 : sc.names.lookup (Str.ofString "map") = some .globalImplicit) (h3 : sc.names.lookup (Str.ofString "len") = some .globalImplicit)
    (m1 : c.mg (Str.ofString "max") = none) (m2 : c.mg (Str.ofString "map") = none) (m3 : c.mg (Str.ofString "len") = none) (he : PE c (k + 2) sc lm e (ptuple (ws.map fun t => .str (S t)))) (hz : ∀ w ∈ ws, w.length ≤ sizeLine)
    (hM1 : ∃ w ∈ ws, w.length = M) (hM2 : ∀ w ∈ ws, w.length ≤ M)
    (hse : ∀ env, starEach [.Name (Str.ofString "len") fp, e] env = (false, eval (.Name (Str.ofString "len") fp) env) :: starEach [e] env := by intro _; rfl) (hse2 : ∀ env, starEach [e] env = (false, eval e env) :: starEach [] env := by intro _; rfl) (hplain : ∀ env, (backTo p2 (starEach [e] env)).any (·.1) = false := by intro _; rfl)
    (hse3 : ∀ env, starEach [.Call (.Name (Str.ofString "map") np2) [.Name (Str.ofString "len") fp, e] [] p2] env = (false, eval (.Call (.Name (Str.ofString "map") np2) [.Name (Str.ofString "len") fp, e] [] p2) env) :: starEach [] env := by intro _; rfl) :
    PE c (k + 2) sc lm (.Call (.Name (Str.ofString "max") np) [.Call (.Name (Str.ofString "map") np2) [.Name (Str.ofString "len") fp, e] [] p2] [] pos) (pint M) := by
  intro A env g s a
  have kf : env.scope.kind = .function := by rw [a.envOk.scope]; exact a.envOk.kind
  refine wpAny_Call_NameR ?_
  refine a.bn h1 m1 (show bootBuiltins (Str.ofString "max") = some (.builtin "max") by kernel_rfl) ?_
  refine PyProof.Rows.callWith_builtin1 (spliced_more ?_ (hse3 env)) (hse3 env) (by rfl)
  refine evalMap (f := .builtin "len") a h2 m2 (fun g' s' G R hR => ?_) he (hse env) (hse2 env) (hplain env) fun g₁ s₁ l us G₁ hr hl h' I T it e1 hTt hIt hlt hM hO hi hk => spliced_none ?_
  · refine Calls.Name_function_global kf (by rw [a.envOk.kindOf]; exact h3) ?_ (by decide)
    exact Calls.loadGlobal_builtin (mg := c.mg) (mb := c.mb) (by rw [a.envOk.globals]; exact (a.base.1.g.keeps a.sub).keeps G.keep) m3 (by rw [a.envOk.builtins]; exact (a.base.1.b.keeps a.sub).keeps G.keep) ((a.base.1.builtins (Str.ofString "len") (by decide)).trans (show bootBuiltins (Str.ofString "len") = some (.builtin "len") by kernel_rfl)) hR
  · have hlen' := hr.length
    rw [List.length_map, Array.length_toList] at hlen'
    have a₁ := a.grow G₁
    have hg₁ : Sub g₁ h' := G₁.le.trans hk
    have hit : s₁.heap.get? it = none := by rw [e1]; exact get?_size_none _
    have hgit := sub_get_none G₁.le hit
    show wpAny c.M A (PySem.call (.builtin "max") [.ref I]) _ Bot _
    have W := map_walk (c := c) (A := A.in1) (g := g₁) (h₀ := h') (I := I) (T := T) (it := it) (l := l) (f := .builtin "len") (items := us) (P := fun i v => ∃ t, v = .int ((ws.getD i []).length : Nat) t) a.room.1 hg₁ hIt hTt hlt hgit (fun i x s' hx hs' ht' => by
      have hi' : i < ws.length := by
        rcases Nat.lt_or_ge i ws.length with h | h
        · exact h
        · rw [Array.getElem?_eq_none (by (first | lia | omega))] at hx; cases hx
      have hwi : ws[i]? = some (ws.getD i []) := by rw [List.getD_eq_getElem?_getD, List.getElem?_eq_getElem hi']; rfl
      have hrx := hr.get i x (.str (S (ws.getD i []))) (by simpa using hx) (by rw [List.getElem?_map, hwi]; rfl)
      refine VE.go (call_len_str (ws.getD i []) (hz _ (List.mem_of_getElem? hwi)) A.in1.in1 g₁ s' [x] (Room.in_ 2 a.room) a₁.base hs' ⟨hrx, trivial⟩) (fun r s'' g' G' hr' => ⟨rd_int hr', g', G'⟩))
    have lI : I < h'.objs.size := Heap.lt_size hM
    have lT : T < h'.objs.size := Heap.lt_size hO
    have lit' : it < h'.objs.size := by obtain ⟨o, e, _⟩ := hi; exact Heap.lt_size e
    have ll : l < h'.objs.size := by obtain ⟨o, e, _⟩ := hl; exact Heap.lt_size (hk _ _ e)
    have hpos : 0 < us.size := by
      obtain ⟨w, hw, _⟩ := hM1
      have := List.length_pos_of_mem hw; omega
    refine call_max_walkS (map_iter hM ⟨I, _, _, _, _, _, _, _, rfl, W, ⟨hM, hO, hi, by obtain ⟨o, e, r⟩ := hl; exact ⟨o, hk _ _ e, r⟩, hg₁, a₁.tk (by (first | lia | omega))⟩, fun b hb => ?_, hpos, CmpOf.ints_gt (fun i => ((ws.getD i []).length : Int)) (fun i v h => h), fun v s' hv hmv => ?_⟩)
    · rcases List.mem_append.mp hb with hb | hb
      · simp at hb
        rcases hb with rfl | rfl | rfl | rfl
        · exact lI
        · exact lT
        · exact lit'
        · exact ll
      · exact (liveOf_mem hb).1
    · obtain ⟨t, rfl⟩ := hv
      obtain ⟨hp', gn', dn', tk', os'⟩ := s'
      have e2 : gn' = s₁.gens := hmv.gens
      have e3 : dn' = s₁.drawn := hmv.drawn
      have e4 : os' = s₁.os := hmv.os
      subst e2 e3 e4
      have htk : s₁.toks ≤ tk' := hmv.toks
      have keep : Sub s₁.heap hp' := fun b o e => hmv.heap b o (by simp; intro hb; rw [hb, hit] at e; cases e) (hk b o e)
      have G₂ : Grow g₁ s₁ g₁ { s₁ with heap := hp', toks := tk' } := grow_any G₁.le keep htk
      obtain ⟨k1, k2⟩ := argBest_gt (fun i => ((ws.getD i []).length : Int)) (us.size - 1)
      have e : ((ws.getD (argBest (fun i j => decide (((ws.getD i []).length : Int) > ((ws.getD j []).length : Int))) (us.size - 1)) []).length : Int) = M := by
        apply Int.le_antisymm
        · have := hM2 (ws.getD (argBest (fun i j => decide (((ws.getD i []).length : Int) > ((ws.getD j []).length : Int))) (us.size - 1)) []) (by
            rw [List.getD_eq_getElem?_getD, List.getElem?_eq_getElem (by omega)]; exact List.getElem_mem _)
          omega
        · obtain ⟨w, hw, ew⟩ := hM1
          obtain ⟨j, hj, ej⟩ := List.mem_iff_getElem.mp hw
          have := k2 j (by omega)
          have ej' : ws.getD j [] = w := by rw [List.getD_eq_getElem?_getD, List.getElem?_eq_getElem hj]; exact ej
          rw [ej', ew] at this
          exact this
      refine ⟨g₁, G₁.trans G₂, ?_⟩
      rw [e]; exact rd_mk_int _ _
end
end Mine

/-! Gx -/
open PySem PySem.W PyProof.Rows
set_option Elab.async false
set_option maxRecDepth 100000
namespace Mine

/-- as Grow, but the table P may change and generators may come -/
structure GrowP (P : Addr) (g : Heap) (s : Shared) (g' : Heap) (s' : Shared) : Prop where
  keep : ∀ b o, b ≠ P → s.heap.get? b = some o → s'.heap.get? b = some o
  sub : Sub g g'
  le : Sub g' s'.heap
  os : s'.os = s.os
  bare : AllBare s.gens → AllBare s'.gens
  tab : ∃ ps, s'.heap.get? P = some { cls := .none, data := .fields ps }

theorem passing_all (n : Nat) : passing (fun _ => true) n 0 = List.range n := by
  unfold passing; rw [List.drop_zero, List.filter_eq_self]; intro _ _; rfl

section
variable {c : Cx} {k : Nat} {sc : Scope} {lm : LM}

theorem VE.goTuple {A : Around} {t : Sem Value} {g : Heap} {s : Shared} {xs : List PyData} {Q E : Value → Shared → Prop} (h : VE c A t g s (ptuple xs)) (hf : ∀ l us n s' g', Grow g s g' s' → g'.get? l = some { cls := .type "tuple", data := .seq us n } → RdAll g' us.toList xs → Q (.ref l) s') : wpAny c.M A t Q E s :=
  VE.go h fun v s' g' G hv => by
    obtain ⟨l, us, n, rfl, hl, hr⟩ := rd_tuple hv
    exact hf l us n s' g' G hl hr
theorem bfor {A : Around} {env : Env} {g : Heap} {s : Shared} {Q : Addr → Shared → Prop} {E : Value → Shared → Prop} (he : env.globals = mainGlobals) (hb : c.Base g) (hs : Sub g s.heap) (h : Q builtinsNs s) : wpAny c.M A (builtinsFor env.globals env.builtins) Q E s := by
  obtain ⟨bm, ob, b1, b2, b3, b4, b5, b6⟩ := hb.1.bmain
  exact wpAny_builtinsFor (m := c.mg) (by rw [he]; exact hb.1.g.keeps hs) b1 b2 (hs _ _ b3) b4 b5 b6 h
theorem gen_go {A : Around} {t : Sem Value} {g : Heap} {s : Shared} {P : Addr} {r : PV} {Q E : Value → Shared → Prop} (h : wpAny c.M A t (fun v s' => ∃ g', GrowP P g s g' s' ∧ Rd g' v r) Bot s) (hf : ∀ v s' g', GrowP P g s g' s' → Rd g' v r → Q v s') : wpAny c.M A t Q E s :=
  wpAny_mono h (fun v s' ⟨g', G, hv⟩ => hf v s' g' G hv) fun _ _ x => x.elim
theorem code_tab {h : Heap} {cd P : Addr} {ps : Array Value} (x : h.IsCode cd P ps) : Fld h P := by
  obtain ⟨_, _, _, _, _, _, _, _, _, op, _, _, _, _, _, _, _, h1, h2, _⟩ := x
  exact ⟨op, _, h1, h2⟩
/-- the names of a generator expression -/
theorem gen_at {A A' : Around} {env : Env} {g g₁ : Heap} {s s₁ s₂ : Shared} {x : Str} {scope : Scope} {cl : List (Str × Addr)} {d : PV} {v : Value} {C : Addr} {code : Value} {m : Str → Option Value} (hk3 : 3 ≤ k) (a : At c k sc lm A env g s) (G₁ : Grow g s g₁ s₁)
    (e2 : ∀ x, (x, NameKind.free) ∈ scope.names → cl.lookup x = env.cells.lookup x) (ck : CompOk scope sc x) (hcdn : ∀ y, (y, NameKind.free) ∈ scope.names → (y == ("__classdict__" : Str)) = false)
    (hA : A'.handled = none) (hd : A'.depth ≤ A.depth + 2) (hu : A'.units ≤ A.units + 32) (g₂ : Sub g₁ s₂.heap) (up : ∀ b o, (∀ ps, o.data ≠ .fields ps) → s₁.heap.get? b = some o → s₂.heap.get? b = some o) (hn : s₂.heap.Ns C m) (hm : m x = some v) (hr : Rd g₁ v d) :
    At c 1 scope (lmComp scope.names lm x d) A' (genEnv scope cl C code builtinsNs env) g₁ s₂ := by
  refine ⟨⟨hA, fun h => absurd h (by decide), by have := a.room.2.2.1; omega, by have := a.room.2.2.2; (first | lia | omega)⟩, ⟨rfl, ck.kind, a.envOk.globals, rfl, fun y hy => absurd rfl (ck.nocell (y, .cell) (mem_of_lookup hy))⟩, (a.grow G₁).base, g₂, fun y e hy => ?_, fun h => absurd h (by decide)⟩
  rcases lmComp_cases hy with ⟨rfl, rfl⟩ | ⟨u, rfl, h1, h2⟩
  · exact ⟨v, .inl ⟨ck.var, m, hn, hm⟩, hr⟩
  · obtain ⟨f1, f2⟩ := ck.free y h1
    obtain ⟨w, cc, c1, c2, c3⟩ := a.cellOf h2 f1
    exact ⟨w, .inr (.inr ⟨f2, hcdn y h1, cc, (e2 y h1).trans c1, c2.imp fun o h => ⟨up cc o (fun ps e => by cases h.2.symm.trans e) (G₁.keep _ _ h.1), h.2⟩⟩), Rd.mono G₁.sub c3⟩

theorem evalTupleGen {A : Around} {env : Env} {g : Heap} {s : Shared} {np px pos gpos : Pos} {x : Str} {elt iter : Expr} {scope : Scope} {xs : List PyData} {rs : List (List Nat)} {cd P : Addr} (hk3 : 3 ≤ k) (a : At c k sc lm A env g s)
    (h1 : sc.names.lookup (Str.ofString "tuple") = some .globalImplicit) (m1 : c.mg (Str.ofString "tuple") = none) (hcode : env.code = .ref cd) (hic : s.heap.IsCode cd P #[]) (htab : s.heap.TableAt cd P #[]) (hgP : g.get? P = none)
    (ck : CompOk scope sc x) (h0 : scope.names.lookup (".0" : Str) = some .local) (hco : scope.isCoroutine = false) (hi : PE c k sc lm iter (ptuple xs)) (hlen : rs.length = xs.length) (hz : xs.length ≤ sizeLine) (hcdn : ∀ y, (y, NameKind.free) ∈ scope.names → (y == ("__classdict__" : Str)) = false)
    (he : ∀ (i : Nat) (d : PyData) (r : List Nat), xs[i]? = some d → rs[i]? = some r → PE c 1 scope (lmComp scope.names lm x (.d d)) elt (pstr r))
    (hse3 : starEach [.GeneratorExp elt [⟨.Name x px, iter, [], 0⟩] scope gpos] env = (false, eval (.GeneratorExp elt [⟨.Name x px, iter, [], 0⟩] scope gpos) env) :: starEach [] env)
    (hs : ∀ v, genFold iter env v = pure v) :
    wpAny c.M A (eval (.Call (.Name (Str.ofString "tuple") np) [.GeneratorExp elt [⟨.Name x px, iter, [], 0⟩] scope gpos] [] pos) env) (fun v s' => ∃ g', GrowP P g s g' s' ∧ Rd g' v (ptuple (rs.map fun t => .str (S t)))) Bot s := by
  have kf : env.scope.kind = .function := by rw [a.envOk.scope]; exact a.envOk.kind
  obtain ⟨cl, e1, e2⟩ := closure_at a ck
  have hPlive := (code_tab hic).live
  refine wpAny_Call_NameR ?_
  refine a.bn h1 m1 (show bootBuiltins (Str.ofString "tuple") = some (.type "tuple") by kernel_rfl) ?_
  refine PyProof.Rows.callWith_type1 (spliced_more ?_ hse3) hse3 (by rfl)
  refine wpAny_GeneratorExp_walksQD a.room.1 hco e1 ck.nocell h0 ck.var ck.kind (by have := a.room.2.2.1; omega) ?_ hs
  refine VE.goTuple (hi A env g s a) (fun l us n s₁ g₁ G₁ hl hr => ?_)
  have a₁ := a.grow G₁
  have hl₁ : s₁.heap.IsTuple l us := ⟨_, G₁.le _ _ hl, rfl, n, rfl⟩
  have hlen' := hr.length
  simp only [Array.length_toList] at hlen'
  refine wpAny_pyIter_tuple hl₁ ?_
  have hnone := get?_size_none s₁.heap
  have hP₁ : s₁.heap.get? P ≠ none := fun e => hPlive (sub_get_none G₁.keep e)
  have hgP₁ : g₁.get? P = none := G₁.off hgP hPlive
  have hlI : l ≠ s₁.heap.objs.size := live_lt (G₁.le _ _ hl)
  generalize hI : s₁.heap.objs.size = I at hnone hlI ⊢
  have hPI : P ≠ I := fun e => hP₁ (e ▸ hnone)
  have hlP : l ≠ P := get_ne hgP₁ hl
  have hitI : (s₁.heap.push { cls := .type "tuple_iterator", data := .fields #[.ref l, .int 0 0] }).IsTupleIter I l 0 := ⟨_, by rw [← hI]; exact Heap.get?_push_size _ rfl, rfl, rfl⟩
  generalize hH : s₁.heap.push { cls := .type "tuple_iterator", data := .fields #[.ref l, .int 0 0] } = H at hitI ⊢
  have keepH : Sub s₁.heap H := fun b o e => hH ▸ Heap.get?_push_of_some _ e
  refine ⟨(a₁.base.1.nolimit.keeps a₁.sub).keeps keepH, ?_⟩
  refine wpAny_genexprCodeX (s := { s₁ with heap := H }) hcode ((hic.keeps G₁.keep).keeps keepH) ((htab.keeps G₁.keep).keeps keepH) rfl fun c₃ h₃ tk₃ hex _ _ _ _ htab₃ _ => ?_
  replace htab₃ := htab₃.2
  have kp₃ : ∀ b o, b ≠ P → s₁.heap.get? b = some o → h₃.get? b = some o := fun b o hb e => hex b o hb (keepH b o e)
  have g₃ : Sub g₁ h₃ := fun b o e => kp₃ b o (get_ne hgP₁ e) (G₁.le b o e)
  refine bfor (s := { s₁ with heap := h₃, toks := tk₃ }) a.envOk.globals a₁.base g₃ ?_
  have hit₃ : h₃.IsTupleIter I l 0 := by obtain ⟨o, e, r⟩ := hitI; exact ⟨o, hex I o (Ne.symm hPI) e, r⟩
  have hl₃ : h₃.IsTuple l us := by obtain ⟨o, e, r⟩ := hl₁; exact ⟨o, kp₃ l o hlP e, r⟩
  have nl₃ : h₃.NoLimit := a₁.base.1.nolimit.keeps g₃
  refine ⟨I, [I, l], [I], us.size, fun i v => us[i]? = some v, fun i h => h.IsTupleIter I l i ∧ h.IsTuple l us, fun _ => true, fun i y => ∃ t, y = .str (S (rs.getD i [])) t, rfl, fun A' hA' => Walks.tuple hA' I l hlI us, ⟨hit₃, hl₃⟩, fun b hb => ?_, nl₃, ?_, fun href hkref => ⟨fun A' E' i v s₂ m₂ hA' _ _ _ _ _ _ => ?_, fun A' E' i v s₂ m₂ hA' hd hu hv _ hn hm hkeep => ?_⟩, fun ga h₅ tk gs hbare hlt hsz₅ hk₅ W hst => ?_⟩
  · simp at hb
    rcases hb with rfl | rfl
    · obtain ⟨o, e, _⟩ := hit₃; exact Heap.lt_size e
    · obtain ⟨o, e, _⟩ := hl₃; exact Heap.lt_size e
  · simp
    intro e
    obtain ⟨_, hn, _⟩ := a₁.base.1.nolimit.keeps a₁.sub
    have := hn.lt
    rw [hI, e] at this
    exact Nat.lt_irrefl _ this
  · exact wpAny_pure ⟨rfl, s₂.heap, s₂.toks, rfl, fun _ _ e => e⟩
  · -- one element
    have hi' : i < xs.length := by
      rcases Nat.lt_or_ge i xs.length with h | h
      · exact h
      · rw [Array.getElem?_eq_none (by (first | lia | omega))] at hv; cases hv
    have hxi : xs[i]? = some xs[i] := List.getElem?_eq_getElem hi'
    have hri : rs[i]? = some (rs.getD i []) := by rw [List.getD_eq_getElem?_getD, List.getElem?_eq_getElem (by omega)]; rfl
    have hrx := hr.get i v xs[i] (by simpa using hv) hxi
    have up : ∀ b o, b ≠ P → b ≠ I → s₁.heap.get? b = some o → s₂.heap.get? b = some o := fun b o hbP hbI e =>
      hkeep b (List.mem_range.mpr (Heap.lt_size (kp₃ b o hbP e))) (fun h => hbI (List.mem_singleton.mp h)) o (hkref b o (kp₃ b o hbP e))
    have tabP := code_tab (hic.keeps G₁.keep)
    have at₂ := gen_at (C := h₃.objs.size) (code := .ref c₃) hk3 a G₁ e2 ck hcdn hA' (by (first | lia | omega)) (by (first | lia | omega)) (fun b o e => up b o (get_ne hgP₁ e) (hI ▸ live_lt (G₁.le b o e)) (G₁.le b o e)) (fun b o hnf e => up b o (fun h => by obtain ⟨o', vs, e1, e2⟩ := tabP; exact hnf vs (get_inj (h ▸ e) e1 ▸ e2)) (get_ne hnone e) e) hn hm hrx
    refine wpAny_mono (E := Bot) (he i xs[i] (rs.getD i []) hxi hri A' _ g₁ s₂ at₂) (fun y s₄ ⟨g₄, G₄, hy⟩ => ⟨rd_str hy, ?_⟩) fun _ _ x => x.elim
    obtain ⟨h', tk', rfl⟩ := G₄.same
    exact ⟨h', tk', rfl, G₄.keep⟩
  · -- the tuple of them
    refine spliced_none ?_
    show wpAny c.M A (PySem.call (.type "tuple") [.ref ga]) _ Bot _
    dsimp only at hlt hk₅ W hst
    refine (call_tuple_gen (W.in4_3) (fun i s' st => st.1.typeIs) hst (fun b hb => ?_) (by simp) (fun s' acc hmv hacc => ?_) (by rw [passing_all, List.length_range]; (first | lia | omega)))
    · show b < h₅.objs.size
      rw [hsz₅]
      rcases List.mem_cons.mp hb with e | hb
      · rw [e]; exact Nat.lt_succ_self _
      · rcases List.mem_cons.mp hb with e | hb
        · rw [e]; exact Nat.lt_succ_of_lt hlt
        · exact Nat.lt_succ_of_lt (Nat.lt_trans (List.mem_range.mp hb) hlt)
    · -- all that stood stands, but for the table
      dsimp only at hmv
      have kp : ∀ b o, b ≠ P → s₁.heap.get? b = some o → s'.heap.get? b = some o := fun b o hb e => by
        have e3 := kp₃ b o hb e
        refine hmv.heap b o (fun hm => ?_) (hk₅ b o e3)
        rcases List.mem_cons.mp hm with h | h
        · rw [h] at e3; exact absurd (Heap.lt_size e3) (Nat.lt_irrefl _)
        · simp at h; rw [h, hnone] at e; cases e
      have gs' : Sub g₁ s'.heap := fun b o e => kp b o (get_ne hgP₁ e) (G₁.le b o e)
      have up : Sub s'.heap (s'.heap.push { cls := .type "tuple", data := .seq acc }) := fun b o e => Heap.get?_push_of_some _ e
      have sub' := addTo_sub (D := s'.heap.objs.size) (gs'.trans up)
      refine ⟨addTo (s'.heap.push { cls := .type "tuple", data := .seq acc }) g₁ s'.heap.objs.size, ⟨fun b o hb e => up b o (kp b o hb (G₁.keep b o e)), G₁.sub.trans sub', addTo_le, ?_, fun hba => ?_, ?_⟩, ?_⟩
      · obtain ⟨_, _, es⟩ := G₁.same
        have : s₁.os = s.os := by rw [es]
        exact hmv.os.trans this
      · obtain ⟨_, _, es⟩ := G₁.same
        have : s₁.gens = s.gens := by rw [es]
        exact hmv.gens.bare (AllBare.push (by rw [this]; exact hba) hbare)
      · refine ⟨_, up P _ (hmv.heap P _ (fun hm => ?_) (hk₅ P _ htab₃))⟩
        rcases List.mem_cons.mp hm with h | h
        · rw [h] at htab₃; exact absurd (Heap.lt_size htab₃) (Nat.lt_irrefl _)
        · simp at h; exact hPI h
      · refine rd_mk_tuple (addTo_new (Heap.get?_push_size _ rfl)) ?_
        rw [passing_all, List.length_range] at hacc
        refine RdAll.of_get (by rw [List.length_map, Array.length_toList, hacc.1]; (first | lia | omega)) fun i v d hv hd' => ?_
        obtain ⟨j, hj, t, rfl⟩ := hacc.2 i v (by simpa using hv)
        have hji : j = i := by
          have : i < us.size := by
            rcases Nat.lt_or_ge i us.size with h | h
            · exact h
            · rw [List.getElem?_eq_none (by simpa using h)] at hj; cases hj
          rw [List.getElem?_range this] at hj; cases hj; rfl
        subst hji
        rw [List.getElem?_map] at hd'
        cases hw : rs[j]? with
        | none => rw [hw] at hd'; cases hd'
        | some w =>
          rw [hw] at hd'; cases hd'
          rw [List.getD_eq_getElem?_getD, hw]
          exact rd_mk_str _ _
end
end Mine

/-! HdTop -/
open PySem PySem.W PyProof.Rows
set_option Elab.async false
set_option maxRecDepth 100000
set_option maxHeartbeats 8000000
namespace Mine
open_top hd for PySem.Challenge.rw_in0093_01
end Mine

/-! Lw -/
open PySem PySem.W PyProof.Rows
set_option Elab.async false
set_option maxRecDepth 100000
namespace Mine

theorem PE.cast {c : Cx} {k : Nat} {sc : Scope} {lm : LM} {e : Expr} {r r' : PV} (h : PE c k sc lm e r) (he : r = r') : PE c k sc lm e r' := he ▸ h
theorem PT.cast {c : Cx} {k : Nat} {sc : Scope} {lm : LM} {e : Expr} {b b' : Bool} (h : PT c k sc lm e b) (he : b = b') : PT c k sc lm e b' := he ▸ h

noncomputable def usedBuiltins : List Str := [Str.ofString "len", Str.ofString "range", Str.ofString "str", Str.ofString "abs", Str.ofString "min", Str.ofString "max", Str.ofString "dict", Str.ofString "enumerate", Str.ofString "tuple", Str.ofString "type", Str.ofString "map", Str.ofString "repr",
  Str.ofString "int", Str.ofString "float", Str.ofString "bool", Str.ofString "list", Str.ofString "set"]
/-- where the text of the law stands -/
structure Lw (c : Cx) : Prop where
  p : c.p = Mine.hd.view_39
  bs : ∀ x ∈ usedBuiltins, c.mg x = none
  c1 : ∃ t, c.mg (Str.ofString "_MAX_LENGTH") = some (.int 80 t)
  c2 : ∃ t, c.mg (Str.ofString "_PLACEHOLDER_LEN") = some (.int 12 t)
  c3 : ∃ t, c.mg (Str.ofString "_MIN_BEGIN_LEN") = some (.int 5 t)
  c4 : ∃ t, c.mg (Str.ofString "_MIN_END_LEN") = some (.int 5 t)
  c5 : ∃ t, c.mg (Str.ofString "_MIN_COMMON_LEN") = some (.int 5 t)
  c6 : ∃ t, c.mg (Str.ofString "_MIN_DIFF_LEN") = some (.int 41 t)
  k : ∃ P, c.K = Mine.hd.heap_39 P

theorem mem_at {l : List DefRec} {i : Nat} {d : DefRec} (h : l[i]? = some d) : d ∈ l := List.mem_of_getElem? h

theorem nodup_lookup : ∀ {l : List (Str × Addr)}, (l.map (·.1)).Nodup → ∀ x cc, (x, cc) ∈ l → l.lookup x = some cc
  | [], _, x, cc, h => by simp at h
  | (y, a) :: r, hn, x, cc, h => by
    rw [List.map_cons, List.nodup_cons] at hn
    rw [List.lookup_cons]
    rcases List.mem_cons.mp h with e | h
    · cases e; simp
    · have hne : x ≠ y := fun e => hn.1 (by rw [← e]; exact List.mem_map.mpr ⟨_, h, rfl⟩)
      rw [beq_eq_false_iff_ne.mpr hne]
      exact nodup_lookup hn.2 x cc h
theorem cellsFrom_nodup : ∀ (names : List (Str × NameKind)) (n : Nat) (acc : List (Str × Addr)), (names.map (·.1)).Nodup → (acc.map (·.1)).Nodup → (∀ x ∈ names.map (·.1), x ∉ acc.map (·.1)) → ((cellsFrom n names acc).map (·.1)).Nodup
  | [], _, acc, _, h, _ => h
  | (x, kd) :: r, n, acc, hn, ha, hd => by
    rw [List.map_cons, List.nodup_cons] at hn
    unfold cellsFrom
    split
    · refine cellsFrom_nodup r _ _ hn.2 ?_ fun y hy => ?_
      · rw [List.map_cons, List.nodup_cons]
        exact ⟨hd x (by simp), ha⟩
      · rw [List.map_cons, List.mem_cons, not_or]
        exact ⟨fun e => hn.1 (e ▸ hy), hd y (by rw [List.map_cons]; exact List.mem_cons_of_mem _ hy)⟩
    · exact cellsFrom_nodup r _ _ hn.2 ha fun y hy => hd y (by rw [List.map_cons]; exact List.mem_cons_of_mem _ hy)
theorem once_of {names : List (Str × NameKind)} (h : (names.map (·.1)).Nodup) (n : Nat) (x : Str) (cc : Addr) (hm : (x, cc) ∈ cellsFrom n names []) : (cellsFrom n names []).lookup x = some cc :=
  nodup_lookup (cellsFrom_nodup names n [] h (by simp) (by simp)) x cc hm

section
variable {c : Cx} {k : Nat} {sc : Scope} {lm : LM} {np pos : Pos} {e e2 : Expr}

theorem PE.max80 (hc : Lw c) (hx : sc.names.lookup (Str.ofString "_MAX_LENGTH") = some .globalImplicit := by rfl) : PE c k sc lm (.Name (Str.ofString "_MAX_LENGTH") np) (pint 80) := hc.c1.elim fun t h => PE.global hx h fun _ => rd_mk_int _ _
theorem PE.ph12 (hc : Lw c) (hx : sc.names.lookup (Str.ofString "_PLACEHOLDER_LEN") = some .globalImplicit := by rfl) : PE c k sc lm (.Name (Str.ofString "_PLACEHOLDER_LEN") np) (pint 12) := hc.c2.elim fun t h => PE.global hx h fun _ => rd_mk_int _ _
theorem PE.mb5 (hc : Lw c) (hx : sc.names.lookup (Str.ofString "_MIN_BEGIN_LEN") = some .globalImplicit := by rfl) : PE c k sc lm (.Name (Str.ofString "_MIN_BEGIN_LEN") np) (pint 5) := hc.c3.elim fun t h => PE.global hx h fun _ => rd_mk_int _ _
theorem PE.me5 (hc : Lw c) (hx : sc.names.lookup (Str.ofString "_MIN_END_LEN") = some .globalImplicit := by rfl) : PE c k sc lm (.Name (Str.ofString "_MIN_END_LEN") np) (pint 5) := hc.c4.elim fun t h => PE.global hx h fun _ => rd_mk_int _ _
theorem PE.mc5 (hc : Lw c) (hx : sc.names.lookup (Str.ofString "_MIN_COMMON_LEN") = some .globalImplicit := by rfl) : PE c k sc lm (.Name (Str.ofString "_MIN_COMMON_LEN") np) (pint 5) := hc.c5.elim fun t h => PE.global hx h fun _ => rd_mk_int _ _
theorem PE.md41 (hc : Lw c) (hx : sc.names.lookup (Str.ofString "_MIN_DIFF_LEN") = some .globalImplicit := by rfl) : PE c k sc lm (.Name (Str.ofString "_MIN_DIFF_LEN") np) (pint 41) := hc.c6.elim fun t h => PE.global hx h fun _ => rd_mk_int _ _

theorem bb_len : bootBuiltins (Str.ofString "len") = some (.builtin "len") := by kernel_rfl
theorem bb_abs : bootBuiltins (Str.ofString "abs") = some (.builtin "abs") := by kernel_rfl
theorem bb_min : bootBuiltins (Str.ofString "min") = some (.builtin "min") := by kernel_rfl
theorem bb_max : bootBuiltins (Str.ofString "max") = some (.builtin "max") := by kernel_rfl
theorem bb_str : bootBuiltins (Str.ofString "str") = some (.type "str") := by kernel_rfl
theorem bb_int : bootBuiltins (Str.ofString "int") = some (.type "int") := by kernel_rfl
theorem bb_list : bootBuiltins (Str.ofString "list") = some (.type "list") := by kernel_rfl
theorem bb_tuple : bootBuiltins (Str.ofString "tuple") = some (.type "tuple") := by kernel_rfl
theorem bb_type : bootBuiltins (Str.ofString "type") = some (.type "type") := by kernel_rfl
theorem bb_dict : bootBuiltins (Str.ofString "dict") = some (.type "dict") := by kernel_rfl
theorem bb_enumerate : bootBuiltins (Str.ofString "enumerate") = some (.type "enumerate") := by kernel_rfl
theorem bb_map : bootBuiltins (Str.ofString "map") = some (.type "map") := by kernel_rfl
theorem bb_repr : bootBuiltins (Str.ofString "repr") = some (.builtin "repr") := by kernel_rfl

theorem Lw.len (hc : Lw c) : c.mg (Str.ofString "len") = none := hc.bs _ (by decide)
theorem Lw.range (hc : Lw c) : c.mg (Str.ofString "range") = none := hc.bs _ (by decide)
theorem Lw.str (hc : Lw c) : c.mg (Str.ofString "str") = none := hc.bs _ (by decide)
theorem Lw.abs (hc : Lw c) : c.mg (Str.ofString "abs") = none := hc.bs _ (by decide)
theorem Lw.min (hc : Lw c) : c.mg (Str.ofString "min") = none := hc.bs _ (by decide)
theorem Lw.max (hc : Lw c) : c.mg (Str.ofString "max") = none := hc.bs _ (by decide)
theorem Lw.tuple (hc : Lw c) : c.mg (Str.ofString "tuple") = none := hc.bs _ (by decide)
theorem Lw.list (hc : Lw c) : c.mg (Str.ofString "list") = none := hc.bs _ (by decide)
theorem Lw.type (hc : Lw c) : c.mg (Str.ofString "type") = none := hc.bs _ (by decide)
theorem Lw.repr (hc : Lw c) : c.mg (Str.ofString "repr") = none := hc.bs _ (by decide)

theorem PE.lenStr (hc : Lw c) {l : List Nat} (he : PE c k sc lm e (pstr l)) (hz : l.length ≤ sizeLine) (hx : sc.names.lookup (Str.ofString "len") = some .globalImplicit := by rfl)
    (h1 : ∀ env, starEach [e] env = (false, eval e env) :: starEach [] env := by intro _; rfl) : PE c k sc lm (.Call (.Name (Str.ofString "len") np) [e] [] pos) (pint l.length) := PE.callB hx hc.len bb_len (PL.cons he PL.nil h1) (call_len_str l hz) h1
theorem PE.lenList (hc : Lw c) {l : List PyData} (he : PE c k sc lm e (plist l)) (hz : l.length ≤ sizeLine) (hx : sc.names.lookup (Str.ofString "len") = some .globalImplicit := by rfl)
    (h1 : ∀ env, starEach [e] env = (false, eval e env) :: starEach [] env := by intro _; rfl) : PE c k sc lm (.Call (.Name (Str.ofString "len") np) [e] [] pos) (pint l.length) := PE.callB hx hc.len bb_len (PL.cons he PL.nil h1) (call_len_list l hz) h1
theorem PE.strInt (hc : Lw c) {i : Int} (he : PE c k sc lm e (pint i)) (hz : i.natAbs.log2 < 1920) (hx : sc.names.lookup (Str.ofString "str") = some .globalImplicit := by rfl)
    (h1 : ∀ env, starEach [e] env = (false, eval e env) :: starEach [] env := by intro _; rfl) : PE c k sc lm (.Call (.Name (Str.ofString "str") np) [e] [] pos) (pstr (itx i)) := PE.callT hx hc.str bb_str (PL.cons he PL.nil h1) (call_str_int i hz) h1
theorem PE.strBool (hc : Lw c) {b : Bool} (he : PE c k sc lm e (pbool b)) (hx : sc.names.lookup (Str.ofString "str") = some .globalImplicit := by rfl)
    (h1 : ∀ env, starEach [e] env = (false, eval e env) :: starEach [] env := by intro _; rfl) : PE c k sc lm (.Call (.Name (Str.ofString "str") np) [e] [] pos) (pstr (if b then Mine.lit "True" else Mine.lit "False")) := PE.callT hx hc.str bb_str (PL.cons he PL.nil h1) (call_str_bool b) h1
theorem PE.strNone (hc : Lw c) (he : PE c k sc lm e (.d .none)) (hx : sc.names.lookup (Str.ofString "str") = some .globalImplicit := by rfl)
    (h1 : ∀ env, starEach [e] env = (false, eval e env) :: starEach [] env := by intro _; rfl) : PE c k sc lm (.Call (.Name (Str.ofString "str") np) [e] [] pos) (pstr (Mine.lit "None")) := PE.callT hx hc.str bb_str (PL.cons he PL.nil h1) call_str_none h1
theorem PE.abs_ (hc : Lw c) {i : Int} (he : PE c k sc lm e (pint i)) (hx : sc.names.lookup (Str.ofString "abs") = some .globalImplicit := by rfl)
    (h1 : ∀ env, starEach [e] env = (false, eval e env) :: starEach [] env := by intro _; rfl) : PE c k sc lm (.Call (.Name (Str.ofString "abs") np) [e] [] pos) (pint (if i < 0 then -i else i)) := PE.callB hx hc.abs bb_abs (PL.cons he PL.nil h1) (call_abs i) h1
theorem PE.min2 (hc : Lw c) {a b : Int} (he : PE c k sc lm e (pint a)) (he2 : PE c k sc lm e2 (pint b)) (hx : sc.names.lookup (Str.ofString "min") = some .globalImplicit := by rfl)
    (h1 : ∀ env, starEach [e, e2] env = (false, eval e env) :: starEach [e2] env := by intro _; rfl) (h2 : ∀ env, starEach [e2] env = (false, eval e2 env) :: starEach [] env := by intro _; rfl)
    (h3 : ∀ env pos, (backTo pos (starEach [e2] env)).any (·.1) = false := by intro _ _; rfl) : PE c k sc lm (.Call (.Name (Str.ofString "min") np) [e, e2] [] pos) (pint (if b < a then b else a)) := PE.callB hx hc.min bb_min (PL.cons he (PL.cons he2 PL.nil h2) h1) (call_min2 a b) h1 h3
theorem PE.max2 (hc : Lw c) {a b : Int} (he : PE c k sc lm e (pint a)) (he2 : PE c k sc lm e2 (pint b)) (hx : sc.names.lookup (Str.ofString "max") = some .globalImplicit := by rfl)
    (h1 : ∀ env, starEach [e, e2] env = (false, eval e env) :: starEach [e2] env := by intro _; rfl) (h2 : ∀ env, starEach [e2] env = (false, eval e2 env) :: starEach [] env := by intro _; rfl)
    (h3 : ∀ env pos, (backTo pos (starEach [e2] env)).any (·.1) = false := by intro _ _; rfl) : PE c k sc lm (.Call (.Name (Str.ofString "max") np) [e, e2] [] pos) (pint (if b > a then b else a)) := PE.callB hx hc.max bb_max (PL.cons he (PL.cons he2 PL.nil h2) h1) (call_max2 a b) h1 h3
theorem PE.minList (hc : Lw c) {ns : List Int} (M : Int) (he : PE c k sc lm e (plist (ns.map .int))) (m1 : M ∈ ns) (m2 : ∀ a ∈ ns, M ≤ a) (hx : sc.names.lookup (Str.ofString "min") = some .globalImplicit := by rfl)
    (h1 : ∀ env, starEach [e] env = (false, eval e env) :: starEach [] env := by intro _; rfl) : PE c k sc lm (.Call (.Name (Str.ofString "min") np) [e] [] pos) (pint M) := PE.callB hx hc.min bb_min (PL.cons he PL.nil h1) (call_min_list ns M m1 m2) h1
theorem PE.maxList (hc : Lw c) {ns : List Int} (M : Int) (he : PE c k sc lm e (plist (ns.map .int))) (m1 : M ∈ ns) (m2 : ∀ a ∈ ns, a ≤ M) (hx : sc.names.lookup (Str.ofString "max") = some .globalImplicit := by rfl)
    (h1 : ∀ env, starEach [e] env = (false, eval e env) :: starEach [] env := by intro _; rfl) : PE c k sc lm (.Call (.Name (Str.ofString "max") np) [e] [] pos) (pint M) := PE.callB hx hc.max bb_max (PL.cons he PL.nil h1) (call_max_list ns M m1 m2) h1
theorem PE.tupleOf (hc : Lw c) {l : List PyData} (he : PE c k sc lm e (plist l)) (hz : l.length ≤ sizeLine) (hx : sc.names.lookup (Str.ofString "tuple") = some .globalImplicit := by rfl)
    (h1 : ∀ env, starEach [e] env = (false, eval e env) :: starEach [] env := by intro _; rfl) : PE c k sc lm (.Call (.Name (Str.ofString "tuple") np) [e] [] pos) (ptuple l) := PE.callT hx hc.tuple bb_tuple (PL.cons he PL.nil h1) (call_tuple_of_list l hz) h1
theorem PE.typeStr (hc : Lw c) {l : List Nat} (he : PE c k sc lm e (pstr l)) (hx : sc.names.lookup (Str.ofString "type") = some .globalImplicit := by rfl)
    (h1 : ∀ env, starEach [e] env = (false, eval e env) :: starEach [] env := by intro _; rfl) : PE c k sc lm (.Call (.Name (Str.ofString "type") np) [e] [] pos) (.ty "str") := PE.callT hx hc.type bb_type (PL.cons he PL.nil h1) (call_type_str l) h1
theorem PE.typeTuple (hc : Lw c) {l : List PyData} (he : PE c k sc lm e (ptuple l)) (hx : sc.names.lookup (Str.ofString "type") = some .globalImplicit := by rfl)
    (h1 : ∀ env, starEach [e] env = (false, eval e env) :: starEach [] env := by intro _; rfl) : PE c k sc lm (.Call (.Name (Str.ofString "type") np) [e] [] pos) (.ty "tuple") := PE.callT hx hc.type bb_type (PL.cons he PL.nil h1) (call_type_tuple l) h1
theorem PE.tyStr (hc : Lw c) (hx : sc.names.lookup (Str.ofString "str") = some .globalImplicit := by rfl) : PE c k sc lm (.Name (Str.ofString "str") np) (.ty "str") := PE.type hx hc.str bb_str
theorem PE.tyList (hc : Lw c) (hx : sc.names.lookup (Str.ofString "list") = some .globalImplicit := by rfl) : PE c k sc lm (.Name (Str.ofString "list") np) (.ty "list") := PE.type hx hc.list bb_list
theorem PE.tyTuple (hc : Lw c) (hx : sc.names.lookup (Str.ofString "tuple") = some .globalImplicit := by rfl) : PE c k sc lm (.Name (Str.ofString "tuple") np) (.ty "tuple") := PE.type hx hc.tuple bb_tuple
end
end Mine

/-! F1 -/
open PySem PySem.W PyProof.Rows
set_option Elab.async false
set_option maxRecDepth 100000
namespace Mine
noncomputable def sgn : List Nat := lit "a'\"\\\n"
theorem sgn_is : sgn = [97, 39, 34, 92, 10] := by unfold sgn lit; decide +kernel
noncomputable def signsF : Nat → Nat → List Nat
  | 0, _ => []
  | k + 1, n => if n = 0 then [] else sgn.getD ((n - 1) % 5) 0 :: signsF k ((n - 1) / 5)
noncomputable def signsL (n : Nat) : List Nat := signsF n n
theorem signsF_same : ∀ (k j n : Nat), n ≤ k → n ≤ j → signsF k n = signsF j n
  | 0, 0, _, _, _ => rfl
  | 0, j + 1, n, h, _ => by cases Nat.le_zero.mp h; rfl
  | k + 1, 0, n, _, h => by cases Nat.le_zero.mp h; rfl
  | k + 1, j + 1, n, h, h' => by
    have e : (n - 1) / 5 ≤ n - 1 := Nat.div_le_self _ _
    unfold signsF
    rw [signsF_same k j ((n - 1) / 5) (Nat.le_trans e (Nat.sub_le_of_le_add h)) (Nat.le_trans e (Nat.sub_le_of_le_add h'))]
theorem signsL_nil : signsL 0 = [] := rfl
theorem signsL_eq {n : Nat} (h : n ≠ 0) : signsL n = sgn.getD ((n - 1) % 5) 0 :: signsL ((n - 1) / 5) := by
  cases n with
  | zero => exact absurd rfl h
  | succ k =>
    have e : (k + 1 - 1) / 5 ≤ k := Nat.div_le_self _ _
    show signsF (k + 1) (k + 1) = _ :: signsF _ _
    rw [signsF, if_neg h, signsF_same k _ _ e (Nat.le_refl _)]

set_option maxHeartbeats 400000 in
theorem pf_signs (c : Cx) (hc : Lw c) (k : Nat) (n : Nat) (hz : (signsL n).length ≤ 1000) : PF c (k+1) (Str.ofString "_law_signs") [pint n] (pstr (signsL n)) := by
  refine PF.of_body (d := _) (mem_at (i := 7) (by rw [hc.p]; rfl)) ?_ ?_ ?_ ?_
  · exact fun _ _ _ _ hl => bind1 (fun _ => rfl) hl
  · intro x hx
    simp at hx
    subst hx
    exact .inl rfl
  · exact fun n => once_of (by decide) n
  · dsimp only
    refine PX.cons (PX1.assign PE.lit (.inl rfl) ?_)
    refine PX.cons (PX1.while_ (n + 1) (PW.inv (α := Nat × List Nat) (fun p => [(Str.ofString "n", .p (pint p.1)), (Str.ofString "signs", .p (pstr p.2))]) (fun p => p.2 ++ signsL p.1 = signsL n) (fun p => p.1) ?_ (n, []) rfl ?_))
    · rintro ⟨m, acc⟩ hI
      dsimp only at hI ⊢
      by_cases hm : m = 0
      · subst hm
        left
        refine ⟨?_, fun lm hi => PX.weaken ?_ hi⟩
        · refine' PT.cmp (PE.local_ (by rfl)) PE.int_ (sem_gt _ _)
        · refine PX.cons (PX1.ret (PE.local_ (by rfl)) ?_)
          refine ⟨_, rfl, fun g v h => ?_⟩
          have : acc = signsL n := by rw [← hI, signsL_nil, List.append_nil]
          rw [← this]; exact h
      · right
        refine ⟨?_, ?_⟩
        · exact PT.cast (PT.cmp (PE.local_ (by rfl)) PE.int_ (sem_gt _ _)) (decide_eq_true (by omega))
        · have hs : signsL m = sgn.getD ((m - 1) % 5) 0 :: signsL ((m - 1) / 5) := signsL_eq hm
          have hlen := congrArg List.length hI
          rw [hs, List.length_append, List.length_cons] at hlen
          refine PX.cons (PX1.assign (d := pint ((m - 1 : Nat) : Int)) (PE.cast (PE.bin (PE.local_ (by rfl)) PE.int_ (sem_sub _ _)) (by congr 2; omega)) (.inl rfl) ?_)
          refine PX.cons (PX1.assign (d := pstr (acc ++ [sgn.getD ((m - 1) % 5) 0])) (PE.bin (PE.local_ (by rfl)) (PE.sub PE.lit (PE.cast (r' := pint ((m - 1) % 5 : Nat)) (PE.bin (PE.local_ (by rfl)) PE.int_ (sem_mod _ _ (by decide))) ?_) (sub_str ?_ ?_ ?_)) (sem_str_add _ _ ?_)) (.inl rfl) ?_)
          · rw [Int.fmod_eq_emod_of_nonneg _ (by decide)]; congr 2
          · omega
          · omega
          · show sgn[_]? = _
            have hb : (m - 1) % 5 < sgn.length := by rw [sgn_is]; exact Nat.mod_lt _ (by decide)
            rw [Int.toNat_natCast, List.getElem?_eq_getElem hb, List.getD_eq_getElem?_getD, List.getElem?_eq_getElem hb]; rfl
          · have : sizeLine = 16777216 := by decide
            simp only [List.length_cons, List.length_nil]; (first | lia | omega)
          · refine PX.cons (PX1.assign (d := pint ((m - 1) / 5 : Nat)) (PE.cast (PE.bin (PE.local_ (by rfl)) PE.int_ (sem_div _ _ (by decide) (PyProof.noPylong_small (by decide)))) ?_) (.inl rfl) ?_)
            · rw [Int.fdiv_eq_ediv_of_nonneg _ (by decide)]; congr 2
            · refine PX.nil ?_
              refine ⟨((m - 1) / 5, acc ++ [sgn.getD ((m - 1) % 5) 0]), ?_, ?_, ?_⟩
              · dsimp only
                rw [List.append_assoc, ← hI, hs]; rfl
              · dsimp only; omega
              · exact Inc.cons (by rfl) (Inc.cons (by rfl) (Inc.nil _))
    · exact Inc.cons (by rfl) (Inc.cons (by rfl) (Inc.nil _))
end Mine

/-! F2 -/
open PySem PySem.W PyProof.Rows
set_option Elab.async false
set_option maxRecDepth 100000
set_option exponentiation.threshold 5000
namespace Mine

theorem sizeLine_is : sizeLine = 16777216 := by decide
theorem itx_len {i : Int} {k : Nat} (hk : 0 < k) (h : i.natAbs < 10 ^ k) : (itx i).length ≤ k + 1 := by
  have := int_text_length_le10 hk h
  unfold itx lit
  rw [show ((Str.ofString (toString i)).cps.toList.length) = (Str.ofString (toString i)).length from Array.length_toList, PySem.ofString_length]
  exact this
theorem log2_small {n : Nat} (h : n < 10 ^ 100) : n.log2 < 1920 := by
  rcases Nat.eq_zero_or_pos n with e | e
  · subst e; decide
  · rw [Nat.log2_lt (by (first | lia | omega))]
    exact Nat.lt_of_lt_of_le h (Nat.le_trans (show 10 ^ 100 ≤ 2 ^ 350 by decide) (Nat.pow_le_pow_right (by decide) (by decide)))

/-! _law_left_out -/
noncomputable abbrev runsD (runs : List (Int × Int)) : List PyData := runs.map fun r => .list [.int r.1, .int r.2]
noncomputable def loStep (w : List Nat) (s : List Nat × Int) (r : Int × Int) : List Nat × Int :=
  if 12 < r.2 - r.1 then (s.1 ++ cut (some s.2) (some r.1) w ++ lit "[" ++ itx (r.2 - r.1) ++ lit " chars]", r.2) else s
noncomputable def loAt (w : List Nat) (runs : List (Int × Int)) (i : Nat) : List Nat × Int := (runs.take i).foldl (loStep w) ([], 0)
noncomputable def leftOut (w : List Nat) (runs : List (Int × Int)) : List Nat :=
  (loAt w runs runs.length).1 ++ cut (some (loAt w runs runs.length).2) none w
theorem lit_chars : (lit " chars]").length = 7 := by decide +kernel
theorem lit_open : (lit "[").length = 1 := by decide +kernel
theorem loAt_succ {w : List Nat} {runs : List (Int × Int)} {i : Nat} {r : Int × Int} (h : runs[i]? = some r) : loAt w runs (i + 1) = loStep w (loAt w runs i) r := by
  unfold loAt
  rw [List.take_add_one, h, List.foldl_append]
  rfl
theorem loAt_len {w : List Nat} {runs : List (Int × Int)} (hr : ∀ r ∈ runs, (r.2 - r.1).natAbs < 10 ^ 6) : ∀ i, i ≤ runs.length → (loAt w runs i).1.length ≤ i * (w.length + 20)
  | 0, _ => by simp [loAt]
  | i + 1, h => by
    have hi : i < runs.length := by (first | decide | assumption | exact Nat.le_trans (by assumption) (by decide) | exact Nat.le_of_lt (by assumption) | exact Nat.le_of_not_lt (by assumption) | exact Nat.lt_of_not_le (by assumption) | exact Nat.le_trans (by assumption) (by assumption) | exact Nat.lt_of_lt_of_le (by assumption) (by assumption) | exact Nat.lt_of_le_of_lt (by assumption) (by assumption) | lia | omega)
    have ih := loAt_len (w := w) hr i (by (first | decide | assumption | exact Nat.le_trans (by assumption) (by decide) | exact Nat.le_of_lt (by assumption) | exact Nat.le_of_not_lt (by assumption) | exact Nat.lt_of_not_le (by assumption) | exact Nat.le_trans (by assumption) (by assumption) | exact Nat.lt_of_lt_of_le (by assumption) (by assumption) | exact Nat.lt_of_le_of_lt (by assumption) (by assumption) | lia | omega))
    rw [loAt_succ (List.getElem?_eq_getElem hi)]
    unfold loStep
    rw [Nat.succ_mul]
    split
    · have h1 := cut_length_le (some (loAt w runs i).2) (some runs[i].1) w
      have h2 := itx_len (i := runs[i].2 - runs[i].1) (k := 6) (by decide) (hr _ (List.getElem_mem hi))
      have h3 := lit_chars
      have h4 := lit_open
      simp only [List.length_append]
      omega
    · omega

set_option maxHeartbeats 400000 in
theorem pf_leftOut (c : Cx) (hc : Lw c) (k : Nat) (w : List Nat) (runs : List (Int × Int)) (hw : w.length ≤ 100000) (hl : runs.length ≤ 2) (hr : ∀ r ∈ runs, (r.2 - r.1).natAbs < 10 ^ 6) :
    PF c (k+1) (Str.ofString "_law_left_out") [pstr w, plist (runsD runs)] (pstr (leftOut w runs)) := by
  have hsz := sizeLine_is
  refine PF.of_body (d := _) (mem_at (i := 13) (by rw [hc.p]; rfl)) ?_ ?_ ?_ ?_
  · exact fun _ _ _ _ hl => bind2 (fun _ _ => rfl) hl
  · intro x hx
    simp at hx
    rcases hx with rfl | rfl <;> exact .inl rfl
  · exact fun n => once_of (by decide) n
  · dsimp only
    refine PX.cons (PX1.assign PE.lit (.inl rfl) ?_)
    refine PX.cons (PX1.assign PE.int_ (.inl rfl) ?_)
    refine PX.cons (PX1.for_ (PIt.of_list (PE.local_ (by rfl))) (PFor.inv (fun i => [(Str.ofString "writing", .p (pstr w)), (Str.ofString "answer", .p (pstr (loAt w runs i).1)), (Str.ofString "place", .p (pint (loAt w runs i).2))]) ?_ ?_ ?_))
    · intro i d hd
      rw [List.getElem?_map, List.getElem?_map] at hd
      cases hri : runs[i]? with
      | none => rw [hri] at hd; cases hd
      | some r =>
        rw [hri] at hd; cases hd
        have hlt : i < runs.length := by
          rcases Nat.lt_or_ge i runs.length with h | h
          · exact h
          · rw [List.getElem?_eq_none h] at hri; cases hri
        have hrr := hr r (List.mem_of_getElem? hri)
        have hlen := loAt_len (w := w) hr i (by (first | decide | assumption | exact Nat.le_trans (by assumption) (by decide) | exact Nat.le_of_lt (by assumption) | exact Nat.le_of_not_lt (by assumption) | exact Nat.lt_of_not_le (by assumption) | exact Nat.le_trans (by assumption) (by assumption) | exact Nat.lt_of_lt_of_le (by assumption) (by assumption) | exact Nat.lt_of_le_of_lt (by assumption) (by assumption) | lia | omega))
        have hlen' : (loAt w runs i).1.length ≤ 200040 := Nat.le_trans hlen (Nat.le_trans (Nat.mul_le_mul (show i ≤ 2 by (first | lia | omega)) (show w.length + 20 ≤ 100020 by omega)) (by decide))
        have h1 := cut_length_le (some (loAt w runs i).2) (some r.1) w
        have h2 := itx_len (i := r.2 - r.1) (k := 6) (by decide) hrr
        have h3 := lit_chars
        have h4 := lit_open
        refine ⟨_, PAs.pair (.inl rfl) (.inl rfl), ?_⟩
        refine PX.cons (PX1.if_ (w := decide (12 < r.2 - r.1)) (PT.cmp (PE.bin (PE.local_ (by rfl)) (PE.local_ (by rfl)) (sem_sub _ _)) PE.int_ (sem_gt _ _)) (fun hb => ?_) (fun hb => ?_))
        · have hb' : 12 < r.2 - r.1 := by simpa using hb
          refine PX.cons (PX1.assign (PE.bin (PE.bin (PE.bin (PE.bin (PE.local_ (by rfl)) (PE.sliceStr (lo := some _) (hi := some _) (PE.local_ (by rfl)) (PE.local_ (by rfl)) (PE.local_ (by rfl)) (by (first | decide | assumption | exact Nat.le_trans (by assumption) (by decide) | exact Nat.le_of_lt (by assumption) | exact Nat.le_of_not_lt (by assumption) | exact Nat.lt_of_not_le (by assumption) | exact Nat.le_trans (by assumption) (by assumption) | exact Nat.lt_of_lt_of_le (by assumption) (by assumption) | exact Nat.lt_of_le_of_lt (by assumption) (by assumption) | lia | omega))) (sem_str_add _ _ ?_)) PE.lit (sem_str_add _ _ ?_)) (PE.strInt hc (PE.bin (PE.local_ (by rfl)) (PE.local_ (by rfl)) (sem_sub _ _)) (log2_small (Nat.lt_trans hrr (by decide)))) (sem_str_add _ _ ?_)) PE.lit (sem_str_add _ _ ?_)) (.inl rfl) ?_)
          iterate 4 (· (try simp only [List.length_append]); (first | lia | omega))
          refine PX.cons (PX1.assign (PE.local_ (by rfl)) (.inl rfl) ?_)
          refine PX.nil (PX.nil ?_)
          have e : loAt w runs (i + 1) = ((loAt w runs i).1 ++ cut (some (loAt w runs i).2) (some r.1) w ++ lit "[" ++ itx (r.2 - r.1) ++ lit " chars]", r.2) := by
            rw [loAt_succ hri]; unfold loStep; rw [if_pos hb']
          show Inc _ _
          rw [e]
          exact Inc.cons (by rfl) (Inc.cons (by rfl) (Inc.cons (by rfl) (Inc.nil _)))
        · have hb' : ¬ 12 < r.2 - r.1 := by simpa using hb
          refine PX.nil (PX.nil ?_)
          have e : loAt w runs (i + 1) = loAt w runs i := by
            rw [loAt_succ hri]; unfold loStep; rw [if_neg hb']
          show Inc _ _
          rw [e]
          exact Inc.cons (by rfl) (Inc.cons (by rfl) (Inc.cons (by rfl) (Inc.nil _)))
    · intro lm hi
      refine PX.weaken ?_ hi
      have hlen := loAt_len (w := w) hr runs.length (Nat.le_refl _)
      have hlen' : (loAt w runs runs.length).1.length ≤ 200040 := Nat.le_trans hlen (Nat.le_trans (Nat.mul_le_mul hl (show w.length + 20 ≤ 100020 by omega)) (by decide))
      have h1 := cut_length_le (some (loAt w runs runs.length).2) none w
      have e : ((runsD runs).map PV.d).length = runs.length := by simp
      rw [e]
      refine PX.cons (PX1.ret (PE.bin (PE.local_ (by rfl)) (PE.sliceStr (lo := some _) (hi := none) (PE.local_ (by rfl)) (PE.local_ (by rfl)) trivial (by (first | decide | assumption | exact Nat.le_trans (by assumption) (by decide) | exact Nat.le_of_lt (by assumption) | exact Nat.le_of_not_lt (by assumption) | exact Nat.lt_of_not_le (by assumption) | exact Nat.le_trans (by assumption) (by assumption) | exact Nat.lt_of_lt_of_le (by assumption) (by assumption) | exact Nat.lt_of_le_of_lt (by assumption) (by assumption) | lia | omega))) (sem_str_add _ _ (by (first | lia | omega)))) ?_)
      exact ⟨_, rfl, fun g v h => h⟩
    · exact Inc.cons (by rfl) (Inc.cons (by rfl) (Inc.cons (by rfl) (Inc.nil _)))
end Mine

/-! F3 -/
open PySem PySem.W PyProof.Rows
set_option Elab.async false
set_option maxRecDepth 100000
namespace Mine

theorem CompOk.of {scope sc : Scope} {x : Str} (h1 : scope.kind = .function) (h2 : ∀ y ∈ scope.names, y.2 ≠ .cell) (h3 : ∀ y ∈ scope.names, y.2 = .local → scope.names.lookup y.1 = some .local)
    (h4 : ∀ y ∈ scope.names, y.2 = .free → sc.names.lookup y.1 = some .cell ∧ scope.names.lookup y.1 = some .free) (h5 : scope.names.lookup x = some .local) : CompOk scope sc x :=
  ⟨h1, h2, h3, fun y hy => h4 (y, .free) hy rfl, h5⟩

section
variable {c : Cx} {k : Nat} {sc : Scope} {lm lm' : LM} {P : Post}
theorem PFor.invI {target : Expr} {body : List Stmt} {ds : List PV} (B : Nat → LM) (I : Nat → Prop)
    (h : ∀ i d, ds[i]? = some d → I i → ∃ lm', PAs c k sc target d (B i) lm' ∧ PX c k sc body lm' (LoopP (fun lm'' => Inc (B (i + 1)) lm'' ∧ I (i + 1)) P))
    (hend : ∀ lm, I ds.length → Inc (B ds.length) lm → P .next lm) (hI : I 0) (h0 : Inc (B 0) lm) : PFor c k sc target body P ds lm := by
  have key : ∀ n i lm, n + i = ds.length → I i → Inc (B i) lm → PFor c k sc target body P (ds.drop i) lm := by
    intro n
    induction n with
    | zero =>
      intro i lm hn hI hi
      have : i = ds.length := by omega
      subst this
      rw [List.drop_length]
      exact hend lm hI hi
    | succ n ih =>
      intro i lm hn hI hi
      have hlt : i < ds.length := by omega
      rw [List.drop_eq_getElem_cons hlt]
      obtain ⟨lm', ha, hb⟩ := h i ds[i] (List.getElem?_eq_getElem hlt) hI
      refine ⟨lm', fun A env g₀ s₀ q g s v a hv => ha A env g₀ s₀ q g s v (a.forget hi) hv, hb.mono fun pf lm'' hp => ?_⟩
      cases pf with
      | next => exact ih (i + 1) lm'' (by omega) hp.2 hp.1
      | cont => exact ih (i + 1) lm'' (by omega) hp.2 hp.1
      | brk => exact hp
      | ret r => exact hp
  have := key ds.length 0 lm rfl hI h0
  simpa using this
end

theorem map_get {α β : Type} {f : α → β} {l : List α} {i : Nat} {d : β} (h : (l.map f)[i]? = some d) : ∃ a, l[i]? = some a ∧ d = f a ∧ i < l.length := by
  rw [List.getElem?_map] at h
  cases hl : l[i]? with
  | none => rw [hl] at h; cases h
  | some a =>
    rw [hl] at h; cases h
    exact ⟨a, rfl, rfl, by
      rcases Nat.lt_or_ge i l.length with h | h
      · exact h
      · rw [List.getElem?_eq_none h] at hl; cases hl⟩

/-! _law_shared -/
noncomputable def differ (w0 : List Nat) (ws : List (List Nat)) (k : Nat) : Bool := ws.any fun w => w.getD k 0 != w0.getD k 0
noncomputable def sharedL (w0 : List Nat) (ws : List (List Nat)) (m : Nat) : Nat := ((List.range m).find? (differ w0 ws)).getD m
noncomputable abbrev wsD (ws : List (List Nat)) : List PyData := ws.map fun t => .str (S t)

theorem PE.lens {c : Cx} {k : Nat} {sc scope : Scope} {lm : LM} {np2 px px' p2 spos : Pos} {x : Str} {iter : Expr} (hc : Lw c) {ws : List (List Nat)} (hi : PE c k sc lm iter (plist (wsD ws))) (ck : CompOk scope sc x) (hw : ∀ w ∈ ws, w.length ≤ 100000) (hl : ws.length ≤ 1000)
    (h2 : (relabelS scope sc).names.lookup (Str.ofString "len") = some .globalImplicit := by rfl) (hd : (x == ("__debug__" : Str)) = false := by decide) (hs : ∀ env x, foldedSetIterable iter env x = pure x := by intros; rfl) :
    PE c k sc lm (.ListComp (.Call (.Name (Str.ofString "len") np2) [.Name x px] [] p2) [⟨.Name x px', iter, [], 0⟩] scope spos) (plist ((ws.map fun w => (w.length : Int)).map .int)) := by
  have hsz := sizeLine_is
  refine PE.comp (rs := (ws.map fun w => (w.length : Int)).map .int) (PIt.of_list hi) ck (by simp) (by simp; (first | decide | assumption | exact Nat.le_trans (by assumption) (by decide) | exact Nat.le_of_lt (by assumption) | exact Nat.le_of_not_lt (by assumption) | exact Nat.lt_of_not_le (by assumption) | exact Nat.le_trans (by assumption) (by assumption) | exact Nat.lt_of_lt_of_le (by assumption) (by assumption) | exact Nat.lt_of_le_of_lt (by assumption) (by assumption) | lia | omega)) (fun i d r hd' hr => ?_) hs
  obtain ⟨_, hd1, rfl, _⟩ := map_get hd'
  obtain ⟨w, hd2, rfl, hlt⟩ := map_get hd1
  rw [List.getElem?_map, List.getElem?_map, hd2] at hr
  cases hr
  exact PE.lenStr hc (PE.local_ (by unfold lmComp; rw [List.lookup_cons]; simp) hd) (by have := hw w (List.mem_of_getElem? hd2); (first | decide | assumption | exact Nat.le_trans (by assumption) (by decide) | exact Nat.le_of_lt (by assumption) | exact Nat.le_of_not_lt (by assumption) | exact Nat.lt_of_not_le (by assumption) | exact Nat.le_trans (by assumption) (by assumption) | exact Nat.lt_of_lt_of_le (by assumption) (by assumption) | exact Nat.lt_of_le_of_lt (by assumption) (by assumption) | lia | omega)) h2

theorem sharedL_hit {w0 : List Nat} {ws : List (List Nat)} {m i : Nat} (h1 : ∀ j < i, differ w0 ws j = false) (h2 : differ w0 ws i = true) (h3 : i < m) : sharedL w0 ws m = i := by
  unfold sharedL
  have : (List.range m).find? (differ w0 ws) = some i := by
    rw [List.find?_eq_some_iff_getElem]
    refine ⟨h2, i, by simpa using h3, by simp, fun j hj => ?_⟩
    simp [h1 j hj]
  rw [this]; rfl
theorem sharedL_none {w0 : List Nat} {ws : List (List Nat)} {m : Nat} (h1 : ∀ j < m, differ w0 ws j = false) : sharedL w0 ws m = m := by
  unfold sharedL
  have : (List.range m).find? (differ w0 ws) = none := by
    rw [List.find?_eq_none]
    intro j hj
    simp [h1 j (by simpa using hj)]
  rw [this]; rfl

set_option maxHeartbeats 400000 in
theorem pf_shared (c : Cx) (hc : Lw c) (k : Nat) (w0 : List Nat) (r : List (List Nat)) (m : Nat) (hw : ∀ w ∈ w0 :: r, w.length ≤ 100000) (hl : (w0 :: r).length ≤ 1000) (hm1 : ∃ w ∈ w0 :: r, w.length = m) (hm2 : ∀ w ∈ w0 :: r, m ≤ w.length) :
    PF c (k+1) (Str.ofString "_law_shared") [plist (wsD (w0 :: r))] (pint (sharedL w0 (w0 :: r) m : Nat)) := by
  have hsz := sizeLine_is
  generalize hws : w0 :: r = ws at *
  have h0 : ws[0]? = some w0 := by rw [← hws]; rfl
  refine PF.of_body (d := _) (mem_at (i := 12) (by rw [hc.p]; rfl)) ?_ ?_ ?_ ?_
  · exact fun _ _ _ _ hl => bind1 (fun _ => rfl) hl
  · intro x hx
    simp at hx
    subst hx
    exact .inl rfl
  · exact fun n => once_of (by decide) n
  · dsimp only
    have hM1 : (m : Int) ∈ ws.map fun w => (w.length : Int) := by obtain ⟨w, h1, h2⟩ := hm1; exact List.mem_map.mpr ⟨w, h1, by rw [h2]⟩
    have hM2 : ∀ a ∈ ws.map fun w => (w.length : Int), (m : Int) ≤ a := by intro a ha; obtain ⟨w, h1, h2⟩ := List.mem_map.mp ha; have := hm2 w h1; omega
    refine PX.cons (PX1.for_ (PIt.range (n := m) (by rfl) hc.range (PE.minList hc m (PE.lens hc (ws := ws) (PE.local_ (by rfl)) (CompOk.of rfl (by decide) (by decide) (by decide) (by rfl)) hw hl) hM1 hM2) ?_) (PFor.invI (fun i => [(Str.ofString "writings", .p (plist (wsD ws)))]) (fun i => ∀ j < i, differ w0 ws j = false) ?_ ?_ ?_ ?_))
    · obtain ⟨w, h1, h2⟩ := hm1
      have := hw w h1; omega
    · intro i d hd hI
      obtain ⟨_, hd1, rfl, hlt0⟩ := map_get hd
      rw [List.length_range] at hlt0
      rw [List.getElem?_range hlt0] at hd1
      cases hd1
      refine ⟨_, PAs.name (.inl rfl), ?_⟩
      refine PX.cons (PX1.for_ (PIt.of_list (PE.local_ (by rfl))) (PFor.invI (fun j => [(Str.ofString "writings", .p (plist (wsD ws))), (Str.ofString "k", .p (pint (i : Nat)))]) (fun j => ∀ w ∈ ws.take j, w.getD i 0 = w0.getD i 0) ?_ ?_ ?_ ?_))
      · intro j d hd hJ
        obtain ⟨_, hd1, rfl, _⟩ := map_get hd
        obtain ⟨w, hd2, rfl, hlt⟩ := map_get hd1
        have hwm : i < w.length := by have := hm2 w (List.mem_of_getElem? hd2); (first | decide | assumption | exact Nat.le_trans (by assumption) (by decide) | exact Nat.le_of_lt (by assumption) | exact Nat.le_of_not_lt (by assumption) | exact Nat.lt_of_not_le (by assumption) | exact Nat.le_trans (by assumption) (by assumption) | exact Nat.lt_of_lt_of_le (by assumption) (by assumption) | exact Nat.lt_of_le_of_lt (by assumption) (by assumption) | lia | omega)
        have hw0m : i < w0.length := by have := hm2 w0 (List.mem_of_getElem? h0); omega
        have hwl := hw w (List.mem_of_getElem? hd2)
        refine ⟨_, PAs.name (.inl rfl), ?_⟩
        refine PX.cons (PX1.if_ (w := ([w.getD i 0] != [w0.getD i 0])) (PT.cmp (PE.sub (PE.local_ (by rfl)) (PE.local_ (by rfl)) (sub_str (x := w.getD i 0) (by omega) (by omega) ?_)) (PE.sub (PE.sub (PE.local_ (by rfl)) PE.int_ (sub_list (by decide) (by decide) (d := .str (S w0)) ?_)) (PE.local_ (by rfl)) (sub_str (x := w0.getD i 0) (by omega) (by omega) ?_)) (sem_str_ne _ _)) (fun hb => ?_) (fun hb => ?_))
        · rw [Int.toNat_natCast, List.getD_eq_getElem?_getD, List.getElem?_eq_getElem hwm]; rfl
        · show (wsD ws)[0]? = _
          rw [List.getElem?_map, h0]; rfl
        · rw [Int.toNat_natCast, List.getD_eq_getElem?_getD, List.getElem?_eq_getElem hw0m]; rfl
        · refine PX.cons (PX1.ret (PE.local_ (by rfl)) ?_)
          refine ⟨_, rfl, fun g v h => ?_⟩
          have hne : w.getD i 0 ≠ w0.getD i 0 := by simpa using hb
          rw [sharedL_hit hI (i := i) ?_ hlt0]; exact h
          unfold differ
          rw [List.any_eq_true]
          exact ⟨w, List.mem_of_getElem? hd2, by simpa using hne⟩
        · have he : w.getD i 0 = w0.getD i 0 := by simpa using hb
          refine PX.nil (PX.nil ?_)
          refine ⟨Inc.cons (by rfl) (Inc.cons (by rfl) (Inc.nil _)), fun w' hw' => ?_⟩
          rw [List.take_add_one, hd2] at hw'
          rcases List.mem_append.mp hw' with h | h
          · exact hJ w' h
          · simp at h; rw [h]; exact he
      · intro lm hJ hi
        refine PX.nil ⟨fun x d e => hi x d ?_, fun j hj => ?_⟩
        · exact Inc.cons (lm := [(Str.ofString "writings", .p (plist (wsD ws))), (Str.ofString "k", .p (pint (i : Nat)))]) (by rfl) (Inc.nil _) x d e
        · rcases Nat.lt_succ_iff_lt_or_eq.mp hj with h | h
          · exact hI j h
          · subst h
            unfold differ
            rw [List.any_eq_false]
            intro w hw'
            have := hJ w (by rw [List.length_map, List.length_map, List.take_length]; exact hw')
            rw [this]; simp
      · intro w hw'; simp at hw'
      · exact Inc.cons (by rfl) (Inc.cons (by rfl) (Inc.nil _))
    · intro lm hI hi
      refine PX.weaken ?_ hi
      refine PX.cons (PX1.ret (PE.minList hc m (PE.lens hc (ws := ws) (PE.local_ (by rfl)) (CompOk.of rfl (by decide) (by decide) (by decide) (by rfl)) hw hl) hM1 hM2) ?_)
      refine ⟨_, rfl, fun g v h => ?_⟩
      rw [List.length_map, List.length_range] at hI
      rw [sharedL_none hI]; exact h
    · intro j hj; (first | lia | omega)
    · exact Inc.cons (by rfl) (Inc.nil _)
end Mine

/-! F4 -/
open PySem PySem.W PyProof.Rows
set_option Elab.async false
set_option maxRecDepth 100000
namespace Mine

/-! plans -/
inductive Kd where
  | lst | tup | tab
inductive Plan where
  | int (i : Int)
  | bool (b : Bool)
  | none
  | text (t : List Nat)
  | node (k : Kd) (ps : List Plan)
noncomputable def Kd.name : Kd → List Nat
  | .lst => lit "list"
  | .tup => lit "tuple"
  | .tab => lit "table"
mutual
noncomputable def Plan.pd : Plan → PyData
  | .int i => .list [.str (S (lit "plain")), .int i]
  | .bool b => .list [.str (S (lit "plain")), .bool b]
  | .none => .list [.str (S (lit "plain")), .none]
  | .text t => .list [.str (S (lit "text")), .str (S t)]
  | .node k ps => .list [.str (S k.name), .list (Plan.pdL ps)]
noncomputable def Plan.pdL : List Plan → List PyData
  | [] => []
  | p :: ps => p.pd :: Plan.pdL ps
end
theorem Plan.pdL_map : ∀ ps : List Plan, Plan.pdL ps = ps.map Plan.pd
  | [] => rfl
  | p :: ps => by
    show p.pd :: Plan.pdL ps = p.pd :: ps.map Plan.pd
    rw [Plan.pdL_map ps]
theorem Plan.pd_node (k : Kd) (ps : List Plan) : (Plan.node k ps).pd = .list [.str (S k.name), .list (ps.map Plan.pd)] := by
  rw [← Plan.pdL_map]; rfl

/-- the two parts of a plan -/
noncomputable def Plan.kd : Plan → List Nat
  | .int _ => lit "plain"
  | .bool _ => lit "plain"
  | .none => lit "plain"
  | .text _ => lit "text"
  | .node k _ => k.name
noncomputable def Plan.what : Plan → PyData
  | .int i => .int i
  | .bool b => .bool b
  | .none => .none
  | .text t => .str (S t)
  | .node _ ps => .list (ps.map Plan.pd)
theorem Plan.pd_eq (p : Plan) : p.pd = .list [.str (S p.kd), p.what] := by
  cases p with
  | node k ps => exact Plan.pd_node k ps
  | _ => rfl
theorem Plan.of_node {p : Plan} (h1 : (p.kd == lit "plain") = false) (h2 : (p.kd == lit "text") = false) : ∃ kk ps, p = .node kk ps := by
  cases p with
  | node k ps => exact ⟨k, ps, rfl⟩
  | text t => exact nomatch (beq_self_eq_true (lit "text")).symm.trans h2
  | _ => exact nomatch (beq_self_eq_true (lit "plain")).symm.trans h1

theorem cut_to {α : Type} (l : List α) (p : Nat) : cut none (some (p : Int)) l = l.take p := by
  unfold cut
  simp only [Option.elim, clipAt_nat, List.drop_zero]
  rw [Nat.sub_zero, List.take_eq_take_iff]; (first | lia | omega)
theorem cut_from {α : Type} (l : List α) (p : Nat) : cut (some (p : Int)) none l = l.drop p := by
  unfold cut
  simp only [Option.elim, clipAt_nat]
  rw [List.take_of_length_le (by simp)]
  rcases Nat.le_total p l.length with h | h
  · rw [Nat.min_eq_left h]
  · rw [Nat.min_eq_right h, List.drop_length, List.drop_eq_nil_of_le h]

section
variable {c : Cx} {k : Nat} {sc : Scope} {lm : LM}
theorem PE.takeList {x : Str} {px p pos : Pos} {e : Expr} {l : List PyData} {i : Int} {n : Nat} (hv : PE c k sc lm (.Name x px) (plist l)) (he : PE c k sc lm e (pint i)) (hi : i = n) (hz : l.length ≤ sizeLine) :
    PE c k sc lm (.Subscript (.Name x px) (.Slice none (some e) none p) pos) (plist (l.take n)) :=
  PE.cast (PE.sliceList (lo := none) (hi := some i) hv trivial he hz) (by rw [hi, cut_to])
theorem PE.dropList {x : Str} {px p pos : Pos} {e : Expr} {l : List PyData} {i : Int} {n : Nat} (hv : PE c k sc lm (.Name x px) (plist l)) (he : PE c k sc lm e (pint i)) (hi : i = n) (hz : l.length ≤ sizeLine) :
    PE c k sc lm (.Subscript (.Name x px) (.Slice (some e) none none p) pos) (plist (l.drop n)) :=
  PE.cast (PE.sliceList (lo := some i) (hi := none) hv he trivial hz) (by rw [hi, cut_from])
theorem PE.list1 {e : Expr} {pos : Pos} {x : PyData} (h : PE c k sc lm e (.d x)) (he : ∀ env, starEach [e] env = (false, eval e env) :: starEach [] env := by intro _; rfl) : PE c k sc lm (.List [e] pos) (plist [x]) :=
  PE.list (PL.cons h PL.nil he) (show 1 ≤ sizeLine by decide)
theorem PE.list2 {e e2 : Expr} {pos : Pos} {x y : PyData} (h : PE c k sc lm e (.d x)) (h2 : PE c k sc lm e2 (.d y)) (he : ∀ env, starEach [e, e2] env = (false, eval e env) :: starEach [e2] env := by intro _; rfl) (he2 : ∀ env, starEach [e2] env = (false, eval e2 env) :: starEach [] env := by intro _; rfl) : PE c k sc lm (.List [e, e2] pos) (plist [x, y]) :=
  PE.list (PL.cons h (PL.cons h2 PL.nil he2) he) (show 2 ≤ sizeLine by decide)
end

/-! _law_changed -/
noncomputable def placeOf (row : List Plan) (y : Int) : Nat := (y.fmod ((row.length : Int) + 1)).toNat
noncomputable def howOf (row : List Plan) (y : Int) : Int := (y.fdiv ((row.length : Int) + 1)).fmod 6
noncomputable def changed (row : List Plan) (y k : Int) : Plan :=
  if howOf row y = 0 then .node .lst (row.take (placeOf row y))
  else if howOf row y = 1 then .node .lst (row.take (placeOf row y) ++ [.int k] ++ row.drop (placeOf row y + 1))
  else if howOf row y = 2 then .node .lst (row.take (placeOf row y) ++ row.drop (placeOf row y + 1))
  else if howOf row y = 3 then .node .lst (row ++ [.int (y.fmod 1000)])
  else if howOf row y = 4 then .node .tup row
  else (row ++ [Plan.node .lst []]).getD (placeOf row y) .none

set_option maxHeartbeats 400000 in
theorem pf_changed (c : Cx) (hc : Lw c) (k : Nat) (row : List Plan) (y kk : Int) (hl : row.length ≤ 1000) :
    PF c (k+1) (Str.ofString "_law_changed") [plist (row.map Plan.pd), pint y, pint kk] (.d (changed row y kk).pd) := by
  have hsz := sizeLine_is
  have hlen : (row.map Plan.pd).length = row.length := List.length_map ..
  have hpos : (0 : Int) < (row.length : Int) + 1 := by omega
  have hp0 : 0 ≤ y.fmod ((row.length : Int) + 1) := Int.fmod_nonneg_of_pos _ hpos
  have hp1 : y.fmod ((row.length : Int) + 1) < (row.length : Int) + 1 := Int.fmod_lt_of_pos _ hpos
  have hpl : y.fmod ((row.length : Int) + 1) = (placeOf row y : Nat) := (Int.toNat_of_nonneg hp0).symm
  have hpn : placeOf row y ≤ row.length := by omega
  refine PF.of_body (d := _) (mem_at (i := 11) (by rw [hc.p]; rfl)) ?_ ?_ ?_ ?_
  · exact fun _ _ _ _ hl => bind3 (fun _ _ _ => rfl) hl
  · intro x hx
    simp at hx
    rcases hx with rfl | rfl | rfl <;> exact .inl rfl
  · exact fun n => once_of (by decide) n
  · dsimp only
    have done : ∀ p : Plan, changed row y kk = p → ∀ r : PV, r = .d p.pd → ∃ r', PFlow.ret r = .ret r' ∧ ∀ (g : Heap) (v : Value), Rd g v r' → Rd g v (.d (changed row y kk).pd) := fun p hp r hr => ⟨r, rfl, fun g v h => by rw [hp, ← hr]; exact h⟩
    refine PX.cons (PX1.assign (d := pint (placeOf row y : Nat)) (PE.cast (PE.bin (PE.local_ (by rfl)) (PE.bin (PE.lenList hc (PE.local_ (by rfl)) (by omega)) PE.int_ (sem_add _ _)) (sem_mod _ _ ?_)) ?_) (.inl rfl) ?_)
    · rw [hlen]; omega
    · rw [hlen, hpl]
    refine PX.cons (PX1.assign (d := pint (howOf row y)) (PE.cast (PE.bin (PE.bin (PE.local_ (by rfl)) (PE.bin (PE.lenList hc (PE.local_ (by rfl)) (by omega)) PE.int_ (sem_add _ _)) (sem_div _ _ ?_ ?_)) PE.int_ (sem_mod _ _ (by decide))) ?_) (.inl rfl) ?_)
    · rw [hlen]; omega
    · rw [hlen]; exact PyProof.noPylong_small (by omega)
    · rw [hlen]; rfl
    have hTl : ∀ n, (row.map Plan.pd |>.take n).length ≤ 1000 := fun n => by rw [List.length_take, hlen]; omega
    have hDl : ∀ n, (row.map Plan.pd |>.drop n).length ≤ 1000 := fun n => by rw [List.length_drop, hlen]; omega
    refine PX.cons (PX1.if_ (w := (howOf row y == 0)) (PT.cmp (PE.local_ (by rfl)) PE.int_ (sem_eq _ _)) (fun hb => ?_) (fun hb => PX.nil ?_))
    · have hb' : howOf row y = 0 := by simpa using hb
      refine PX.cons (PX1.ret (PE.list2 PE.lit (PE.takeList (n := placeOf row y) (PE.local_ (by rfl)) (PE.local_ (by rfl)) rfl (by omega))) (done _ (by unfold changed; rw [if_pos hb']) _ ?_))
      rw [Plan.pd_node, List.map_take]; rfl
    have n0 : howOf row y ≠ 0 := by simpa using hb
    refine PX.cons (PX1.if_ (w := (howOf row y == 1)) (PT.cmp (PE.local_ (by rfl)) PE.int_ (sem_eq _ _)) (fun hb => ?_) (fun hb => PX.nil ?_))
    · have hb' : howOf row y = 1 := by simpa using hb
      refine PX.cons (PX1.ret (PE.list2 PE.lit (PE.bin (PE.bin (PE.takeList (n := placeOf row y) (PE.local_ (by rfl)) (PE.local_ (by rfl)) rfl (by omega)) (PE.list1 (PE.list2 PE.lit (PE.local_ (by rfl)))) (sem_list_add _ _ ?_)) (PE.dropList (n := placeOf row y + 1) (PE.local_ (by rfl)) (PE.bin (PE.local_ (by rfl)) PE.int_ (sem_add _ _)) rfl (by omega)) (sem_list_add _ _ ?_))) (done _ (by unfold changed; rw [if_neg n0, if_pos hb']) _ ?_))
      · have := hTl (placeOf row y); simp only [List.length_cons, List.length_nil]; omega
      · have := hTl (placeOf row y); have := hDl (placeOf row y + 1); simp only [List.length_append, List.length_cons, List.length_nil]; omega
      · rw [Plan.pd_node, List.map_append, List.map_append, List.map_take, List.map_drop]; rfl
    have n1 : howOf row y ≠ 1 := by simpa using hb
    refine PX.cons (PX1.if_ (w := (howOf row y == 2)) (PT.cmp (PE.local_ (by rfl)) PE.int_ (sem_eq _ _)) (fun hb => ?_) (fun hb => PX.nil ?_))
    · have hb' : howOf row y = 2 := by simpa using hb
      refine PX.cons (PX1.ret (PE.list2 PE.lit (PE.bin (PE.takeList (n := placeOf row y) (PE.local_ (by rfl)) (PE.local_ (by rfl)) rfl (by omega)) (PE.dropList (n := placeOf row y + 1) (PE.local_ (by rfl)) (PE.bin (PE.local_ (by rfl)) PE.int_ (sem_add _ _)) rfl (by omega)) (sem_list_add _ _ ?_))) (done _ (by unfold changed; rw [if_neg n0, if_neg n1, if_pos hb']) _ ?_))
      · have := hTl (placeOf row y); have := hDl (placeOf row y + 1); omega
      · rw [Plan.pd_node, List.map_append, List.map_take, List.map_drop]; rfl
    have n2 : howOf row y ≠ 2 := by simpa using hb
    refine PX.cons (PX1.if_ (w := (howOf row y == 3)) (PT.cmp (PE.local_ (by rfl)) PE.int_ (sem_eq _ _)) (fun hb => ?_) (fun hb => PX.nil ?_))
    · have hb' : howOf row y = 3 := by simpa using hb
      refine PX.cons (PX1.ret (PE.list2 PE.lit (PE.bin (PE.local_ (by rfl)) (PE.list1 (PE.list2 PE.lit (PE.bin (PE.local_ (by rfl)) PE.int_ (sem_mod _ _ (by decide))))) (sem_list_add _ _ ?_))) (done _ (by unfold changed; rw [if_neg n0, if_neg n1, if_neg n2, if_pos hb']) _ ?_))
      · simp only [List.length_cons, List.length_nil]; omega
      · rw [Plan.pd_node, List.map_append]; rfl
    have n3 : howOf row y ≠ 3 := by simpa using hb
    refine PX.cons (PX1.if_ (w := (howOf row y == 4)) (PT.cmp (PE.local_ (by rfl)) PE.int_ (sem_eq _ _)) (fun hb => ?_) (fun hb => PX.nil ?_))
    · have hb' : howOf row y = 4 := by simpa using hb
      refine PX.cons (PX1.ret (PE.list2 PE.lit (PE.local_ (by rfl))) (done _ (by unfold changed; rw [if_neg n0, if_neg n1, if_neg n2, if_neg n3, if_pos hb']) _ ?_))
      rw [Plan.pd_node]; rfl
    have n4 : howOf row y ≠ 4 := by simpa using hb
    have hin : placeOf row y < (row ++ [Plan.node .lst []]).length := by simp; omega
    refine PX.cons (PX1.ret (PE.sub (PE.bin (PE.local_ (by rfl)) (PE.list1 (PE.list2 PE.lit (PE.list (xs := []) PL.nil (by decide)))) (sem_list_add _ _ ?_)) (PE.local_ (by rfl)) (sub_list (d := ((row ++ [Plan.node .lst []])[placeOf row y]'hin).pd) (by omega) (by omega) ?_)) (done _ (by unfold changed; rw [if_neg n0, if_neg n1, if_neg n2, if_neg n3, if_neg n4]) _ ?_))
    · simp only [List.length_cons, List.length_nil]; omega
    · rw [Int.toNat_natCast]
      have e : row.map Plan.pd ++ [.list [.str (S (lit "list")), .list []]] = (row ++ [Plan.node .lst []]).map Plan.pd := by rw [List.map_append]; rfl
      refine (congrArg (fun l : List PyData => l[placeOf row y]?) e).trans ?_
      rw [List.getElem?_map, List.getElem?_eq_getElem hin]; rfl
    · rw [List.getD_eq_getElem?_getD, List.getElem?_eq_getElem hin]; rfl
end Mine

/-! F5 -/
open PySem PySem.W PyProof.Rows
set_option Elab.async false
set_option maxRecDepth 100000
namespace Mine

/-! _law_written -/
noncomputable def quoteOf (t : List Nat) : Nat := if Txt.contains (S t) (S [39]) && !Txt.contains (S t) (S [34]) then 34 else 39
noncomputable def escd (t : List Nat) : List Nat := repl (quoteOf t) ([92] ++ [quoteOf t]) (repl 10 [92, 110] (repl 92 [92, 92] t))
noncomputable def wrText (t : List Nat) : List Nat := [quoteOf t] ++ escd t ++ [quoteOf t]
noncomputable def keyed : Nat → List (List Nat) → List (List Nat)
  | _, [] => []
  | i, t :: ts => (itx i ++ lit ": " ++ t) :: keyed (i + 1) ts
mutual
noncomputable def Plan.wr : Plan → List Nat
  | .int i => itx i
  | .bool b => if b then lit "True" else lit "False"
  | .none => lit "None"
  | .text t => wrText t
  | .node .tab ps => lit "{" ++ joinL (lit ", ") (keyed 0 (Plan.wrL ps)) ++ lit "}"
  | .node .lst ps => lit "[" ++ joinL (lit ", ") (Plan.wrL ps) ++ lit "]"
  | .node .tup ps => lit "(" ++ joinL (lit ", ") (Plan.wrL ps) ++ (if ps.length == 1 then lit "," else lit "") ++ lit ")"
noncomputable def Plan.wrL : List Plan → List (List Nat)
  | [] => []
  | p :: ps => p.wr :: Plan.wrL ps
end
mutual
noncomputable def Plan.depth : Plan → Nat
  | .int _ => 1
  | .bool _ => 1
  | .none => 1
  | .text _ => 1
  | .node _ ps => Plan.depthL ps + 1
noncomputable def Plan.depthL : List Plan → Nat
  | [] => 0
  | p :: ps => max p.depth (Plan.depthL ps)
end
mutual
noncomputable def Plan.small : Plan → Prop
  | .int i => i.natAbs < 10 ^ 100
  | .bool _ => True
  | .none => True
  | .text _ => True
  | .node _ ps => Plan.smallL ps
noncomputable def Plan.smallL : List Plan → Prop
  | [] => True
  | p :: ps => p.small ∧ Plan.smallL ps
end
theorem Plan.wrL_map : ∀ ps : List Plan, Plan.wrL ps = ps.map Plan.wr
  | [] => rfl
  | p :: ps => by
    show p.wr :: Plan.wrL ps = p.wr :: ps.map Plan.wr
    rw [Plan.wrL_map ps]
theorem Plan.depthL_le : ∀ {ps : List Plan} {p : Plan}, p ∈ ps → p.depth ≤ Plan.depthL ps
  | q :: ps, p, h => by
    show p.depth ≤ max q.depth (Plan.depthL ps)
    rcases List.mem_cons.mp h with e | h
    · subst e; omega
    · have := Plan.depthL_le h; omega
theorem Plan.depthL_of : ∀ {ps : List Plan} {n : Nat}, (∀ p ∈ ps, p.depth ≤ n) → Plan.depthL ps ≤ n
  | [], n, _ => Nat.zero_le _
  | q :: ps, n, h => by
    show max q.depth (Plan.depthL ps) ≤ n
    have h1 := h q (List.mem_cons_self ..)
    have h2 := Plan.depthL_of fun p hp => h p (List.mem_cons_of_mem q hp)
    omega
theorem Plan.smallL_iff : ∀ {ps : List Plan}, Plan.smallL ps ↔ ∀ p ∈ ps, p.small
  | [] => ⟨fun _ _ h => by simp at h, fun _ => trivial⟩
  | q :: ps => by
    show q.small ∧ Plan.smallL ps ↔ _
    rw [Plan.smallL_iff (ps := ps)]; simp
theorem Plan.depth_pos : ∀ p : Plan, 1 ≤ p.depth
  | .int _ => Nat.le_refl 1
  | .bool _ => Nat.le_refl 1
  | .none => Nat.le_refl 1
  | .text _ => Nat.le_refl 1
  | .node _ ps => Nat.le_add_left 1 (Plan.depthL ps)
theorem keyed_length : ∀ (n : Nat) (ts : List (List Nat)), (keyed n ts).length = ts.length
  | _, [] => rfl
  | n, t :: ts => by show (keyed (n + 1) ts).length + 1 = ts.length + 1; rw [keyed_length]
theorem keyed_get : ∀ (n : Nat) (ts : List (List Nat)) (i : Nat), (keyed n ts)[i]? = ts[i]?.map fun t => itx ((n + i : Nat) : Int) ++ lit ": " ++ t
  | _, [], i => by simp [keyed]
  | n, t :: ts, 0 => rfl
  | n, t :: ts, i + 1 => by
    show (keyed (n + 1) ts)[i]? = ts[i]?.map _
    rw [keyed_get (n + 1) ts i]
    rw [show n + 1 + i = n + (i + 1) by (first | lia | omega)]
theorem joinL_sum : ∀ (sep : List Nat) (ts : List (List Nat)), (ts.map (·.length)).sum + (ts.length - 1) * sep.length = (joinL sep ts).length
  | _, [] => by simp [joinL]
  | _, [x] => by simp [joinL]
  | sep, x :: y :: r => by
    have ih := joinL_sum sep (y :: r)
    show _ = (x ++ sep ++ joinL sep (y :: r)).length
    rw [List.length_append, List.length_append, ← ih]
    simp only [List.map_cons, List.sum_cons, List.length_cons]
    rw [show r.length + 1 + 1 - 1 = (r.length + 1 - 1) + 1 by (first | lia | omega), Nat.succ_mul]
    (first | lia | omega)
theorem sum_ge {l : List Nat} {x : Nat} (h : x ∈ l) : x ≤ l.sum := by
  induction l with
  | nil => simp at h
  | cons y r ih =>
    rw [List.sum_cons]
    rcases List.mem_cons.mp h with e | h
    · omega
    · have := ih h; omega
theorem joinL_ge {sep : List Nat} {ts : List (List Nat)} {t : List Nat} (h : t ∈ ts) : t.length ≤ (joinL sep ts).length := by
  rw [← joinL_sum]
  have := sum_ge (List.mem_map.mpr ⟨t, h, rfl⟩ : t.length ∈ ts.map (·.length))
  omega
theorem joinL_count {sep : List Nat} {ts : List (List Nat)} (hs : 1 ≤ sep.length) : ts.length ≤ (joinL sep ts).length + 1 := by
  rw [← joinL_sum]
  have := Nat.mul_le_mul_left (ts.length - 1) hs
  omega
theorem repl_len (c : Nat) (z : List Nat) (hz : 1 ≤ z.length) : ∀ l : List Nat, l.length ≤ (repl c z l).length ∧ (repl c z l).length ≤ l.length * z.length
  | [] => by simp [repl]
  | x :: r => by
    have ih := repl_len c z hz r
    unfold repl at ih ⊢
    rw [List.flatMap_cons, List.length_append, List.length_cons, Nat.succ_mul]
    split
    · omega
    · simp only [List.length_singleton]; omega
theorem escd_len (t : List Nat) : t.length ≤ (escd t).length ∧ (repl 10 [92, 110] (repl 92 [92, 92] t)).length ≤ 4 * t.length ∧ (repl 92 [92, 92] t).length ≤ 2 * t.length ∧ t.length + 2 ≤ (wrText t).length := by
  have h1 := repl_len 92 [92, 92] (by decide) t
  have h2 := repl_len 10 [92, 110] (by decide) (repl 92 [92, 92] t)
  have h3 := repl_len (quoteOf t) ([92] ++ [quoteOf t]) (by simp) (repl 10 [92, 110] (repl 92 [92, 92] t))
  have e1 : ([92, 92] : List Nat).length = 2 := rfl
  have e2 : ([92, 110] : List Nat).length = 2 := rfl
  rw [e1] at h1; rw [e2] at h2
  unfold escd wrText escd
  refine ⟨by omega, by omega, by omega, ?_⟩
  simp only [List.length_append, List.length_singleton]
  simp only [List.length_append, List.length_singleton] at h3
  omega

theorem l_plain_text : (lit "plain" == lit "text") = false := by decide +kernel
theorem l_text_plain : (lit "text" == lit "plain") = false := by decide +kernel
theorem kd_plain (k : Kd) : (k.name == lit "plain") = false := by cases k <;> decide +kernel
theorem kd_text (k : Kd) : (k.name == lit "text") = false := by cases k <;> decide +kernel
theorem kd_table (k : Kd) : (k.name == lit "table") = (match k with | .tab => true | _ => false) := by cases k <;> decide +kernel
theorem kd_list (k : Kd) : (k.name == lit "list") = (match k with | .lst => true | _ => false) := by cases k <;> decide +kernel
theorem l_q1 : lit "'" = [39] := by unfold lit; decide +kernel
theorem l_q2 : lit "\"" = [34] := by unfold lit; decide +kernel
theorem l_bs : lit "\\" = [92] := by unfold lit; decide +kernel
theorem l_bs2 : lit "\\\\" = [92, 92] := by unfold lit; decide +kernel
theorem l_nl : lit "\n" = [10] := by unfold lit; decide +kernel
theorem l_bn : lit "\\n" = [92, 110] := by unfold lit; decide +kernel
theorem l_sep : (lit ", ").length = 2 := by decide +kernel
theorem l_colon : (lit ": ").length = 2 := by decide +kernel
theorem l_one : (lit "{").length = 1 ∧ (lit "}").length = 1 ∧ (lit "[").length = 1 ∧ (lit "]").length = 1 ∧ (lit "(").length = 1 ∧ (lit ")").length = 1 ∧ (lit ",").length = 1 ∧ (lit "").length = 0 := by decide +kernel

theorem written_def (c : Cx) (hc : Lw c) : IsDef c (Str.ofString "_law_written") := IsDef.of (d := _) (mem_at (i := 8) (by rw [hc.p]; rfl))

set_option maxHeartbeats 1000000 in
theorem pf_written (c : Cx) (hc : Lw c) : ∀ (n : Nat) (p : Plan), p.depth ≤ n → p.small → p.wr.length ≤ 100000 → PF c (n + 2) (Str.ofString "_law_written") [.d p.pd] (pstr p.wr) := by
  have hsz := sizeLine_is
  intro n
  induction n with
  | zero => intro p hd; have := p.depth_pos; omega
  | succ n ih =>
  intro p hd hs hw
  have hdef := written_def c hc
  refine PF.of_body (d := _) (mem_at (i := 8) (by rw [hc.p]; rfl)) ?_ ?_ ?_ ?_
  · exact fun _ _ _ _ hl => bind1 (fun _ => rfl) hl
  · intro x hx
    simp at hx
    subst hx
    exact .inl rfl
  · exact fun n => once_of (by decide) n
  · dsimp only
    refine PX.cons (PX1.assignPair (d := .str (S p.kd)) (e := p.what) (PE.cast (PE.local_ (d := .d p.pd) (by rfl)) (by rw [p.pd_eq])) (.inl rfl) (.inr rfl) ?_ (by rfl) (by intro _ _; rfl))
    refine PX.cons (PX1.if_ (w := (p.kd == lit "plain")) (PT.cmp (PE.local_ (by rfl)) PE.lit (sem_str_eq _ _)) (fun hb => ?_) (fun hb => PX.nil ?_))
    · cases p with
      | int i => exact PX.cons (PX1.ret (PE.strInt hc (PE.local_ (by rfl)) (log2_small hs)) ⟨_, rfl, fun g v h => h⟩)
      | bool b => exact PX.cons (PX1.ret (PE.strBool hc (PE.local_ (by rfl))) ⟨_, rfl, fun g v h => h⟩)
      | none => exact PX.cons (PX1.ret (PE.strNone hc (PE.local_ (by rfl))) ⟨_, rfl, fun g v h => h⟩)
      | text t => exact nomatch l_text_plain.symm.trans hb
      | node k ps => exact nomatch (kd_plain k).symm.trans hb
    refine PX.cons (PX1.if_ (w := (p.kd == lit "text")) (PT.cmp (PE.local_ (by rfl)) PE.lit (sem_str_eq _ _)) (fun hb2 => ?_) (fun hb2 => PX.nil ?_))
    · cases p with
      | int i => exact nomatch (beq_self_eq_true (lit "plain")).symm.trans hb
      | bool b => exact nomatch (beq_self_eq_true (lit "plain")).symm.trans hb
      | none => exact nomatch (beq_self_eq_true (lit "plain")).symm.trans hb
      | node k ps => exact nomatch (kd_text k).symm.trans hb2
      | text t =>
        have hlen := escd_len t
        have hwl : (wrText t).length ≤ 100000 := hw
        have hel : (escd t).length + 2 ≤ 100000 := by
          unfold wrText at hwl
          simp only [List.length_append, List.length_singleton] at hwl
          omega
        refine PX.textTwo (hk2 := by omega) (a := quoteOf t) (w := repl 10 (lit "\\n") (repl 92 (lit "\\\\") t)) (PT.boolOp (PAll.and (b := Txt.contains (S t) (S (lit "'"))) (PT.cmp PE.lit (PE.local_ (by rfl)) (sem_in _ _)) (fun _ => PAll.and (b := !Txt.contains (S t) (S (lit "\""))) (q := true) (PT.cmp PE.lit (PE.local_ (by rfl)) (sem_notin _ _)) (fun _ => PAll.andNil)))) ?_ (.inl rfl) (.inl rfl) (fun T => ?_) (by rw [l_bs]; rfl) ?_ (by decide) (by decide) ?_
        · rw [l_q1, l_q2]
          unfold quoteOf
          simp only [Bool.and_true]
          split <;> rfl
        · exact PE.replaceC (by omega) (PE.replaceC (by omega) (PE.local_ (by rfl)) l_bs (by rw [l_bs, l_bs2]; decide) (by rw [l_bs2]; simp only [List.length_cons, List.length_nil]; omega)) l_nl (by rw [l_nl, l_bn]; decide) (by rw [l_bn, l_bs2]; simp only [List.length_cons, List.length_nil]; omega)
        · rw [l_bn, l_bs2]; omega
        · rw [l_bn, l_bs2, l_bs]
          have e3 : repl (quoteOf t) ([92] ++ [quoteOf t]) (repl 10 [92, 110] (repl 92 [92, 92] t)) = escd t := rfl
          rw [e3]
          refine PX.cons (PX1.ret (PE.bin (PE.bin (PE.local_ (by rfl)) (PE.local_ (by rfl)) (sem_str_add _ _ ?_)) (PE.local_ (by rfl)) (sem_str_add _ _ ?_)) ⟨_, rfl, fun g v h => h⟩)
          · simp only [List.length_singleton]; omega
          · simp only [List.length_append, List.length_singleton]; omega
    obtain ⟨kk, ps, rfl⟩ := Plan.of_node hb hb2
    have hds : ∀ p ∈ ps, p.depth ≤ n := fun p hp => by
      have h1 := Plan.depthL_le hp
      have h2 : Plan.depthL ps + 1 ≤ n + 1 := hd
      omega
    have hss : ∀ p ∈ ps, p.small := Plan.smallL_iff.mp hs
    have hone := l_one
    have hsep := l_sep
    have hcol := l_colon
    refine PX.cons (PX1.if_ (w := (kk.name == lit "table")) (PT.cmp (PE.local_ (by rfl)) PE.lit (sem_str_eq _ _)) (fun hb => ?_) (fun hb => PX.nil ?_))
    · rw [kd_table] at hb
      cases kk with
      | lst => cases hb
      | tup => cases hb
      | tab =>
      have hwr : (Plan.node .tab ps).wr = lit "{" ++ joinL (lit ", ") (keyed 0 (ps.map Plan.wr)) ++ lit "}" := by rw [← Plan.wrL_map]; rfl
      rw [hwr] at hw ⊢
      have hk := keyed_length 0 (ps.map Plan.wr)
      rw [List.length_map] at hk
      have hj := joinL_sum (lit ", ") (keyed 0 (ps.map Plan.wr))
      have hjc := joinL_count (sep := lit ", ") (ts := keyed 0 (ps.map Plan.wr)) (by (first | decide | assumption | exact Nat.le_trans (by assumption) (by decide) | exact Nat.le_of_lt (by assumption) | exact Nat.le_of_not_lt (by assumption) | exact Nat.lt_of_not_le (by assumption) | exact Nat.le_trans (by assumption) (by assumption) | exact Nat.lt_of_lt_of_le (by assumption) (by assumption) | exact Nat.lt_of_le_of_lt (by assumption) (by assumption) | lia | omega))
      simp only [List.length_append] at hw
      have hel : ∀ (i : Nat) (p : Plan), ps[i]? = some p → (itx (i : Nat) ++ lit ": " ++ p.wr).length ≤ 100000 := fun i p hp => by
        have : (itx (i : Nat) ++ lit ": " ++ p.wr) ∈ keyed 0 (ps.map Plan.wr) := by
          apply List.mem_of_getElem? (i := i)
          rw [keyed_get, List.getElem?_map, hp]
          simp
        have := joinL_ge (sep := lit ", ") this
        omega
      refine PX.cons (PX1.ret (PE.bin (PE.bin PE.lit (PE.join (ts := keyed 0 (ps.map Plan.wr)) (PE.comp (rs := (keyed 0 (ps.map Plan.wr)).map fun t => .str (S t)) (PIt.range (n := ps.length) (by rfl) hc.range (PE.cast (PE.lenList hc (PE.local_ (by rfl)) ?_) ?_) ?_) (CompOk.of rfl (by decide) (by decide) (by decide) (by rfl)) ?_ ?_ (fun i d r hd hr => ?_)) ?_) (sem_str_add _ _ ?_)) PE.lit (sem_str_add _ _ ?_)) ⟨_, rfl, fun g v h => h⟩)
      · rw [List.length_map]; omega
      · rw [List.length_map]
      · omega
      · simp [hk]
      · rw [List.length_map]; omega
      · obtain ⟨j, hd1, rfl, hlt⟩ := map_get hd
        rw [List.length_range] at hlt
        rw [List.getElem?_range hlt] at hd1
        cases hd1
        have hpi : ps[i]? = some ps[i] := List.getElem?_eq_getElem hlt
        have hmem := List.getElem_mem hlt
        rw [List.getElem?_map, keyed_get, List.getElem?_map, hpi] at hr
        simp only [Option.map_some, Option.some.injEq] at hr
        subst hr
        have hl1 := hel i _ hpi
        rw [Nat.zero_add]
        simp only [List.length_append] at hl1
        refine PE.bin (PE.bin (PE.strInt hc (PE.local_ (by rfl)) (log2_small ?_)) PE.lit (sem_str_add _ _ ?_)) (PE.call (by rfl) hdef (PL.cons (PE.sub (PE.local_ (by rfl)) (PE.local_ (by rfl)) (sub_list (d := ps[i].pd) ?_ ?_ ?_)) PL.nil) (ih _ (hds _ hmem) (hss _ hmem) ?_)) (sem_str_add _ _ ?_)
        · exact Nat.lt_of_lt_of_le (show i < 10 ^ 7 by omega) (Nat.pow_le_pow_right (by decide) (by decide))
        · omega
        · (first | lia | omega)
        · omega
        · rw [Int.toNat_natCast, List.getElem?_map, hpi]; rfl
        · omega
        · simp only [List.length_append]; (first | decide | assumption | exact Nat.le_trans (by assumption) (by decide) | exact Nat.le_of_lt (by assumption) | exact Nat.le_of_not_lt (by assumption) | exact Nat.lt_of_not_le (by assumption) | exact Nat.le_trans (by assumption) (by assumption) | exact Nat.lt_of_lt_of_le (by assumption) (by assumption) | exact Nat.lt_of_le_of_lt (by assumption) (by assumption) | lia | omega)
      · have := Nat.mul_le_mul_left (keyed 0 (ps.map Plan.wr)).length (show (lit ", ").length ≤ 2 by (first | decide | assumption | exact Nat.le_trans (by assumption) (by decide) | exact Nat.le_of_lt (by assumption) | exact Nat.le_of_not_lt (by assumption) | exact Nat.lt_of_not_le (by assumption) | exact Nat.le_trans (by assumption) (by assumption) | exact Nat.lt_of_lt_of_le (by assumption) (by assumption) | exact Nat.lt_of_le_of_lt (by assumption) (by assumption) | lia | omega))
        omega
      · omega
      · simp only [List.length_append]; (first | decide | assumption | exact Nat.le_trans (by assumption) (by decide) | exact Nat.le_of_lt (by assumption) | exact Nat.le_of_not_lt (by assumption) | exact Nat.lt_of_not_le (by assumption) | exact Nat.le_trans (by assumption) (by assumption) | exact Nat.lt_of_lt_of_le (by assumption) (by assumption) | exact Nat.lt_of_le_of_lt (by assumption) (by assumption) | lia | omega)
    · rw [kd_table] at hb
      have hps : ∀ p ∈ ps, p.wr.length ≤ (joinL (lit ", ") (ps.map Plan.wr)).length := fun p hp => joinL_ge (List.mem_map.mpr ⟨p, hp, rfl⟩)
      have hj := joinL_sum (lit ", ") (ps.map Plan.wr)
      have hjc := joinL_count (sep := lit ", ") (ts := ps.map Plan.wr) (by (first | decide | assumption | exact Nat.le_trans (by assumption) (by decide) | exact Nat.le_of_lt (by assumption) | exact Nat.le_of_not_lt (by assumption) | exact Nat.lt_of_not_le (by assumption) | exact Nat.le_trans (by assumption) (by assumption) | exact Nat.lt_of_lt_of_le (by assumption) (by assumption) | exact Nat.lt_of_le_of_lt (by assumption) (by assumption) | lia | omega))
      have hwr : (Plan.node kk ps).wr = (match kk with | .lst => lit "[" | _ => lit "(") ++ joinL (lit ", ") (ps.map Plan.wr) ++ (match kk with | .lst => lit "]" | _ => (if ps.length == 1 then lit "," else lit "") ++ lit ")") := by
        rw [← Plan.wrL_map]
        cases kk with
        | lst => rfl
        | tup => show _ ++ _ ++ _ ++ _ = _ ++ _ ++ (_ ++ _); simp only [List.append_assoc]
        | tab => cases hb
      have hw' : (joinL (lit ", ") (ps.map Plan.wr)).length ≤ 100000 := by
        rw [hwr] at hw
        simp only [List.length_append] at hw
        omega
      rw [List.length_map] at hj hjc
      refine PX.cons (PX1.assign (PE.join (ts := ps.map Plan.wr) (PE.comp (rs := (ps.map Plan.wr).map fun t => .str (S t)) (PIt.of_list (PE.local_ (by rfl))) (CompOk.of rfl (by decide) (by decide) (by decide) (by rfl)) (by simp) ?_ (fun i d r hd hr => ?_)) ?_) (.inl rfl) ?_)
      · rw [List.length_map, List.length_map]; omega
      · obtain ⟨_, hd1, rfl, _⟩ := map_get hd
        obtain ⟨p, hd2, rfl, hlt⟩ := map_get hd1
        have hmem := List.mem_of_getElem? hd2
        rw [List.getElem?_map, List.getElem?_map, hd2] at hr
        cases hr
        exact PE.call (by rfl) hdef (PL.cons (PE.local_ (by rfl)) PL.nil) (ih _ (hds _ hmem) (hss _ hmem) (Nat.le_trans (hps _ hmem) hw'))
      · rw [List.length_map]
        have := Nat.mul_le_mul_left ps.length (show (lit ", ").length ≤ 2 by (first | decide | assumption | exact Nat.le_trans (by assumption) (by decide) | exact Nat.le_of_lt (by assumption) | exact Nat.le_of_not_lt (by assumption) | exact Nat.lt_of_not_le (by assumption) | exact Nat.le_trans (by assumption) (by assumption) | exact Nat.lt_of_lt_of_le (by assumption) (by assumption) | exact Nat.lt_of_le_of_lt (by assumption) (by assumption) | lia | omega))
        omega
      · refine PX.cons (PX1.if_ (w := (kk.name == lit "list")) (PT.cmp (PE.local_ (by rfl)) PE.lit (sem_str_eq _ _)) (fun hb3 => ?_) (fun hb3 => PX.nil ?_))
        · rw [kd_list] at hb3
          cases kk with
          | tup => cases hb3
          | tab => cases hb3
          | lst =>
            rw [hwr]
            refine PX.cons (PX1.ret (PE.bin (PE.bin PE.lit (PE.local_ (by rfl)) (sem_str_add _ _ ?_)) PE.lit (sem_str_add _ _ ?_)) ⟨_, rfl, fun g v h => h⟩)
            · omega
            · simp only [List.length_append]; omega
        · rw [kd_list] at hb3
          cases kk with
          | lst => cases hb3
          | tab => cases hb
          | tup =>
            have e : (Plan.node .tup ps).wr = lit "(" ++ joinL (lit ", ") (ps.map Plan.wr) ++ (if ps.length == 1 then lit "," else lit "") ++ lit ")" := by rw [← Plan.wrL_map]; rfl
            rw [e]
            have hif : (if ps.length == 1 then lit "," else lit "").length ≤ 1 := by split <;> (first | decide | assumption | exact Nat.le_trans (by assumption) (by decide) | exact Nat.le_of_lt (by assumption) | exact Nat.le_of_not_lt (by assumption) | exact Nat.lt_of_not_le (by assumption) | exact Nat.le_trans (by assumption) (by assumption) | exact Nat.lt_of_lt_of_le (by assumption) (by assumption) | exact Nat.lt_of_le_of_lt (by assumption) (by assumption) | lia | omega)
            refine PX.cons (PX1.ret (PE.bin (PE.bin (PE.bin PE.lit (PE.local_ (by rfl)) (sem_str_add _ _ ?_)) (PE.ifExp (q := ((ps.length : Int) == 1)) (r := pstr (if ps.length == 1 then lit "," else lit "")) (PT.cmp (PE.cast (PE.lenList hc (PE.local_ (by rfl)) ?_) ?_) PE.int_ (sem_eq _ _)) (fun hq => PE.cast PE.lit ?_) (fun hq => PE.cast PE.lit ?_)) (sem_str_add _ _ ?_)) PE.lit (sem_str_add _ _ ?_)) ⟨_, rfl, fun g v h => h⟩)
            · omega
            · rw [List.length_map]; omega
            · rw [List.length_map]
            · rw [if_pos (by simpa using (show (ps.length : Int) = 1 by simpa using hq) |> fun h : (ps.length : Int) = 1 => (by omega : ps.length = 1))]
            · rw [if_neg (by have h : (ps.length : Int) ≠ 1 := by simpa using hq
                             simp; omega)]
            · simp only [List.length_append]; omega
            · simp only [List.length_append]; omega
end Mine

/-! En1 -/
open PySem PySem.W PyProof.Rows
set_option Elab.async false
set_option maxRecDepth 100000
namespace Mine

/-! an enumerate has no keys -/
theorem en_getattr_none : typeLookup (.type "enumerate") "__getattr__" = pure none := by rw [typeLookup_type, builtinLookup_eq_fast]; kernel_rfl
theorem en_keys_none : typeLookup (.type "enumerate") "keys" = pure none := by rw [typeLookup_type, builtinLookup_eq_fast]; kernel_rfl
theorem en_entry_getattribute : entryFor table "enumerate.__getattribute__" = some Builtin.«object.__getattribute__» :=
  entryFor_alias (id' := "object.__getattribute__") (by kernel_rfl) (by decide +kernel) (by decide +kernel) (by kernel_rfl)
theorem en_hname : (["__module__", "__name__", "__qualname__", "__doc__", "__annotations__"] : List Str).contains (Str.ofString "keys") = false := by decide +kernel
theorem en_fits : (Str.ofString "keys").length + 100 ≤ sizeLine := by decide +kernel

theorem en_meets_miss (a : Addr) (vs : Array Value) (u : Tok) :
    Meets (Builtin.«object.__getattribute__» ⟨[.ref a, .str (Str.ofString "keys") u], []⟩) (fun A R s => s.heap.get? a = some { cls := .type "enumerate", dict := none, data := .fields vs, slots := #[] } ∧ raisesAttr (.ref a) (Str.ofString "keys") A R s) :=
  Meets.of_wp fun prog w A R s hs => by
    obtain ⟨hp, g, d, tk, os⟩ := s
    obtain ⟨hx, hs⟩ := hs
    have hT : (⟨hp, g, d, tk, os⟩ : Shared).TypeIs (.ref a) "enumerate" := ⟨_, hx, rfl⟩
    have hmiss := en_keys_none
    unfold Builtin.«object.__getattribute__»
    repeat (any_goals (first | assumption | wp_step))
    exact wpAny_raiseAttrError hs.1 hs.2 (attrMsg_fits (by decide +kernel) en_fits)

theorem en_getAttr_miss {prog : Program} {w : World} {A : Around} {E : Value → Shared → Prop} {s : Shared} {a : Addr} {vs : Array Value} {Q : Option Value → Shared → Prop}
    (hx : s.heap.get? a = some { cls := .type "enumerate", dict := none, data := .fields vs, slots := #[] }) (hA : A.handled = none)
    (h : ∀ h' tk, Sub s.heap h' → Q none { s with heap := h', toks := tk }) :
    wpAny (model prog w) A (getAttr? (.ref a) "keys") Q E s := by
  obtain ⟨hp, g, d, tk, os⟩ := s
  have hT : ∀ tk', (⟨hp, g, d, tk', os⟩ : Shared).TypeIs (.ref a) "enumerate" := fun _ => ⟨_, hx, rfl⟩
  have f1 := sub_AttributeError
  have f3 := F.slot_enumerate_getattribute.lookup
  have f4 := F.slot_enumerate_getattribute.bind (.ref a)
  have f5 := en_getattr_none
  unfold getAttr? getAttrBy? getAttrBy
  repeat (any_goals (first | assumption | exact hT _ | ((with_reducible show wpAny _ _ (call (Value.builtin "enumerate.__getattribute__") _ _) _ _ _); refine call_meets F.slot_enumerate_getattribute (hT _) en_entry_getattribute (F.args_enumerate_getattribute_2 _ _) (en_meets_miss a vs _) ⟨hx, hA, fun h' tk' e hx' => ?_⟩) | wp_step))
  obtain ⟨t', u', he⟩ := hx'.there
  show wpAny _ _ (getattributeRaised _ _ _ _ _ _ _) _ _ _
  unfold getattributeRaised
  repeat (any_goals (first | assumption | wp_step))
  exact h _ _ hx'.keeps

section
variable {prog : Program} {w : World} {A : Around} {E : Value → Shared → Prop} {s : Shared}

theorem alive_ {a : Addr} {Q : Option Obj → Shared → Prop} (h : Q (s.heap.get? a) s) : wpAny (model prog w) A (loadIfAlive a) Q E s := fun Γ p hΓ => by
  show Sem.wp _ _ (Sem.loadIfAlive a .pure) _ _ _ _
  rw [Sem.wp_loadIfAlive]; exact h
noncomputable abbrev IsHeld (h : Heap) (e it : Addr) (i : Int) (a : Addr) (b : Bool) (old : Value) : Prop :=
  h.get? e = some { cls := .type "enumerate", dict := none, data := .fields #[rawInt a, .bool b, .ref it, rawInt i, .none, old], slots := #[] }
/-- an enumerate that nobody unpacks -/
noncomputable def EnS (h : Heap) (e it : Addr) (i : Int) : Prop :=
  (∃ old, IsEnum h e it i old) ∨ ∃ a b old, IsHeld h e it i a b old ∧ (∃ o, h.get? a = some o ∧ a ≠ it ∧ a ≠ e)

theorem en_next {e it l : Addr} {i : Nat} {items : Array Value} {x : Value} {Q : Option Value → Shared → Prop}
    (he : EnS s.heap e it i) (hit : s.heap.IsListIter it l i) (hl : s.heap.IsList l items) (hx : items[i]? = some x) (hne : e ≠ it)
    (hQ : ∀ h', EnS h' e it ((i : Int) + 1) → h'.IsListIter it l (i + 1) → h'.get? s.heap.objs.size = some { cls := .type "tuple", data := .seq #[.int i s.toks, x] } →
      (∀ b o, b ≠ e → b ≠ it → s.heap.get? b = some o → h'.get? b = some o) → Q (some (.ref s.heap.objs.size)) { s with heap := h', toks := s.toks + 1 }) :
    wpAny (model prog w) A (pyNext (.ref e)) Q E s := by
  rcases he with ⟨old, he⟩ | ⟨a, b, old, he, oa, ha, hai, hae⟩
  · refine wpAny_pyNext_enum_item he hit hl hx hne fun h' h1 h2 h3 h4 h5 => hQ h' (.inr ⟨s.heap.objs.size, false, x, h1, _, h3, ?_, ?_⟩) h2 h3 h5
    · obtain ⟨o, e, _⟩ := hit; exact fun h => absurd (Heap.lt_size e) (by rw [← h]; exact Nat.lt_irrefl _)
    · exact fun h => absurd (Heap.lt_size he) (by rw [← h]; exact Nat.lt_irrefl _)
  have hT : s.TypeIs (.ref e) "enumerate" := ⟨_, he, rfl⟩
  unfold pyNext
  refine wpAny_bind (wpAny_attempt (wpAny_callSpecial?_slot (name := Str.ofString "__next__") hT F.slot_enumerate_next
    (wpAny_call_entry F.slot_enumerate_next hT F.entry_enumerate_next ?_ (F.args_enumerate_next_1 _))))
  obtain ⟨hp, g, d, tk, os⟩ := s
  show wpAny _ _ (field (.ref e) 2 >>= _) _ _ _
  refine wpAny_bind (wpAny_field he rfl (x := .ref it) rfl ?_)
  refine wpAny_bind (wpAny_nextOf_list_item hit hl hx fun h₁ hit₁ hs₁ => ?_)
  replace hs₁ : Heap.SameBut it hp h₁ := hs₁
  have he₁ : IsHeld h₁ e it i a b old := (hs₁.2 e hne).trans he
  show wpAny _ _ (field (.ref e) 3 >>= _) _ _ ⟨h₁, g, d, tk, os⟩
  refine wpAny_bind (wpAny_field he₁ rfl (x := rawInt i) rfl ?_)
  show wpAny _ _ (field (.ref e) 4 >>= _) _ _ ⟨h₁, g, d, tk, os⟩
  refine wpAny_bind (wpAny_field he₁ rfl (x := .none) rfl ?_)
  show wpAny _ _ (mkInt i >>= _) _ _ ⟨h₁, g, d, tk, os⟩
  refine wpAny_bind (wpAny_mkInt ?_)
  show wpAny _ _ (setField (.ref e) 3 (rawInt ((i : Int) + 1)) >>= _) _ _ ⟨h₁, g, d, tk + 1, os⟩
  refine wpAny_bind (wpAny_setField_rec he₁ (by simp) fun h₂ he₂ hs₂ => ?_)
  replace hs₂ : Heap.SameBut e h₁ h₂ := hs₂
  replace he₂ : IsHeld h₂ e it ((i : Int) + 1) a b old := he₂
  show wpAny _ _ (setField (.ref e) 4 .none >>= _) _ _ ⟨h₂, g, d, tk + 1, os⟩
  refine wpAny_bind (wpAny_setField_rec he₂ (by simp) fun h₃ he₃ hs₃ => ?_)
  replace hs₃ : Heap.SameBut e h₂ h₃ := hs₃
  replace he₃ : IsHeld h₃ e it ((i : Int) + 1) a b old := he₃
  show wpAny _ _ (newTuple [.int i tk, x] >>= _) _ _ ⟨h₃, g, d, tk + 1, os⟩
  refine wpAny_bind (wpAny_newTuple ?_)
  have he₄ : IsHeld (h₃.push { cls := .type "tuple", data := .seq #[.int i tk, x] }) e it ((i : Int) + 1) a b old := Heap.get?_push_of_some _ he₃
  generalize hh₄ : h₃.push { cls := .type "tuple", data := .seq #[.int i tk, x] } = h₄ at he₄
  have hsz : h₃.objs.size = hp.objs.size := by rw [hs₃.1, hs₂.1, hs₁.1]
  have hel : e < hp.objs.size := Heap.lt_size he
  have ht₄ : h₄.get? hp.objs.size = some { cls := .type "tuple", data := .seq #[.int i tk, x] } := by rw [← hh₄, ← hsz]; exact Heap.get?_push_size _ rfl
  have hk₄ : ∀ b o, b ≠ e → b ≠ it → hp.get? b = some o → h₄.get? b = some o := fun b o hbe hbi hb => by
    rw [← hh₄]; exact Heap.get?_push_of_some _ (hs₃.extBut b o hbe (hs₂.extBut b o hbe (hs₁.extBut b o hbi hb)))
  have hit₄ : h₄.IsListIter it l (i + 1) := by
    rw [← hh₄]; obtain ⟨o, ho, r⟩ := (hit₁.extBut hs₂.extBut (Ne.symm hne)).extBut hs₃.extBut (Ne.symm hne); exact ⟨o, Heap.get?_push_of_some _ ho, r⟩
  show wpAny _ _ (Builtin.SmallTypes.ownedTupleIsFree (.ref e) >>= _) _ _ ⟨h₄, g, d, tk + 1, os⟩
  rw [hsz]
  clear hh₄ he₃ hs₃ he₂ hs₂ he₁ hs₁ hit₁ hsz h₃ h₂ h₁
  have ha₄ : h₄.get? a = some oa := hk₄ a oa hae hai ha
  have fin : ∀ h₅ b', IsHeld h₅ e it ((i : Int) + 1) a b' old → (∀ c o, c ≠ e → h₄.get? c = some o → h₅.get? c = some o) → Q (some (.ref hp.objs.size)) ⟨h₅, g, d, tk + 1, os⟩ := fun h₅ b' h1 h2 => by
    refine hQ h₅ (.inr ⟨a, b', old, h1, oa, h2 a oa hae ha₄, hai, hae⟩) ?_ (h2 _ _ (Nat.ne_of_gt hel) ht₄) fun c o hce hci hc => h2 c o hce (hk₄ c o hce hci hc)
    obtain ⟨o, ho, r⟩ := hit₄
    exact ⟨o, h2 it o (Ne.symm hne) ho, r⟩
  refine wpAny_bind ?_
  unfold Builtin.SmallTypes.ownedTupleIsFree
  refine wpAny_bind (wpAny_field he₄ rfl (x := rawInt a) rfl ?_)
  unfold rawInt
  dsimp only
  have ha' : h₄.get? ((a : Int).toNat) = some oa := by rw [Int.toNat_natCast]; exact ha₄
  refine wpAny_bind (alive_ ?_)
  rw [ha']
  simp only [Option.isNone_some, Bool.false_eq_true, if_false]
  refine wpAny_bind (wpAny_field he₄ rfl (x := .bool b) rfl ?_)
  cases b with
  | true =>
    rw [if_neg (by decide)]
    refine wpAny_pure ?_
    rw [if_neg Bool.false_ne_true]
    exact wpAny_pure ⟨_, rfl, wpAny_pure (fin h₄ true he₄ fun _ _ _ h => h)⟩
  | false =>
    rw [if_pos (by decide)]
    refine wpAny_bind (wpAny_setField_rec he₄ (by simp) fun h₅ he₅ hs₅ => ?_)
    replace hs₅ : Heap.SameBut e h₄ h₅ := hs₅
    replace he₅ : IsHeld h₅ e it ((i : Int) + 1) a true old := he₅
    refine wpAny_pure ?_
    rw [if_neg Bool.false_ne_true]
    exact wpAny_pure ⟨_, rfl, wpAny_pure (fin h₅ true he₅ fun c o hc h => hs₅.extBut c o hc h)⟩

theorem en_end {e it l : Addr} {i : Nat} {items : Array Value} {Q : Option Value → Shared → Prop} (hh : A.handled = none)
    (he : EnS s.heap e it i) (hit : s.heap.IsListIter it l i) (hl : s.heap.IsList l items) (hx : items[i]? = none)
    (hQ : ∀ h', Heap.ExtBut it s.heap h' → Q none { s with heap := h' }) : wpAny (model prog w) A (pyNext (.ref e)) Q E s := by
  rcases he with ⟨old, he⟩ | ⟨a, b, old, he, _⟩
  · exact wpAny_pyNext_enum_end hh he hit hl hx hQ
  have hT : s.TypeIs (.ref e) "enumerate" := ⟨_, he, rfl⟩
  unfold pyNext
  refine wpAny_bind (wpAny_attempt (wpAny_callSpecial?_slot (name := Str.ofString "__next__") hT F.slot_enumerate_next
    (wpAny_call_entry F.slot_enumerate_next hT F.entry_enumerate_next ?_ (F.args_enumerate_next_1 _))))
  show wpAny _ _ (field (.ref e) 2 >>= _) _ _ _
  refine wpAny_bind (wpAny_field he rfl (x := .ref it) rfl ?_)
  refine wpAny_bind (wpAny_nextOf_list_end hh hit hl hx fun h' x he' hx' => ?_)
  obtain ⟨o, ho, hc⟩ := hx'
  refine wpAny_bind (wpAny_isInstance (T := "StopIteration") (b := true) ⟨o, ho, hc⟩ isSubtype_stop ?_)
  exact wpAny_pure (hQ _ he')
end
end Mine

/-! En2 -/
open PySem PySem.W PyProof.Rows
set_option Elab.async false
set_option maxRecDepth 100000
namespace Mine

theorem plain_dul : plainId "dict.update.loop" = true := by decide +kernel
theorem entry_dul : entryFor table "dict.update.loop" = some Builtin.«dict.update.loop» := entryFor_of_tree (by kernel_rfl)

section
variable {prog : Program} {w : World} {A : Around} {E : Value → Shared → Prop} {R : Result → Shared → Prop}

noncomputable def idxd (items : List Value) (i : Nat) : List (Int × Value) := (items.take i).mapIdx fun j v => ((j : Int), v)
theorem idxd_succ {items : List Value} {i : Nat} {x : Value} (h : items[i]? = some x) : idxd items (i + 1) = idxd items i ++ [((i : Int), x)] := by
  have hi : i < items.length := by
    rcases Nat.lt_or_ge i items.length with h' | h'
    · exact h'
    · rw [List.getElem?_eq_none h'] at h; cases h
  unfold idxd
  rw [List.take_add_one, h, List.mapIdx_append]
  simp
  omega
theorem idxd_stored {items : List Value} {i : Nat} {x : Value} (h : items[i]? = some x) : stored (idxd items i) (i : Int) x = idxd items (i + 1) := by
  rw [idxd_succ h]
  unfold stored
  rw [if_neg]
  intro hany
  rw [List.any_eq_true] at hany
  obtain ⟨kv, hm, he⟩ := hany
  unfold idxd at hm
  rw [List.mem_mapIdx] at hm
  obtain ⟨j, hj, rfl⟩ := hm
  have : (j : Int) = i := of_decide_eq_true he
  rw [List.length_take] at hj
  omega

theorem code_dul (D e it l : Addr) (items : Array Value) (hDe : D ≠ e) (hDi : D ≠ it) (hDl : D ≠ l) (hei : e ≠ it) (hle : l ≠ e) (hli : l ≠ it) (hsz : items.size ≤ sizeLine) (hh : A.handled = none) : ∀ (k i : Nat) (s : Shared), items.size - i = k → i ≤ items.size →
    s.heap.DictOf (intKind prog w) D (idxd items.toList i) → EnS s.heap e it i → s.heap.IsListIter it l i → s.heap.IsList l items →
    (∀ h' tk, h'.DictOf (intKind prog w) D (idxd items.toList items.size) → (∀ b o, b ≠ e → b ≠ it → b ≠ D → s.heap.get? b = some o → h'.get? b = some o) → s.toks ≤ tk → R (.ok (.ret .none)) { s with heap := h', toks := tk }) →
    ∀ j : Int, codeAny (model prog w) A (.builtin "dict.update.loop" ⟨[.ref D, .ref e, rawInt j, .none], []⟩) R s := by
  intro k
  induction k with
  | zero =>
    intro i s hk hi hD he hit hl hR j
    have hin : i = items.size := by omega
    refine codeAny_builtin entry_dul ?_
    rw [Around.under_plainId plain_dul _]
    show wpAny _ A.in1 (pyNext (.ref e) >>= _) _ _ s
    refine wpAny_bind (en_end hh he hit hl (by simp [hin]) fun h' he' => ?_)
    show wpAny _ A.in1 (Builtin.Dict.addKeywords D [] >>= _) _ _ _
    refine wpAny_bind (wpAny_pure (wpAny_pure ?_))
    exact hR h' s.toks (by obtain ⟨o, es, ep, h1, r⟩ := hD; exact hin ▸ ⟨o, es, ep, he' D o hDi h1, r⟩) (fun b o _ hb _ h => he' b o hb h) (Nat.le_refl _)
  | succ k ih =>
    intro i s hk hi hD he hit hl hR j
    have hlt : i < items.size := by omega
    have hx : items[i]? = some items[i] := by simp [hlt]
    refine codeAny_builtin entry_dul ?_
    rw [Around.under_plainId plain_dul _]
    show wpAny _ A.in1 (pyNext (.ref e) >>= _) _ _ s
    have hnew : s.heap.get? s.heap.objs.size = none := get?_size_none _
    have nD : D ≠ s.heap.objs.size := by obtain ⟨o, es, ep, h1, r⟩ := hD; exact live_lt h1
    refine wpAny_bind (en_next he hit hl hx hei fun h₁ he₁ hit₁ ht₁ hk₁ => ?_)
    dsimp only
    refine wpAny_bind (wpAny_holding (wpAny_bind (wpAny_tryCatch ?_)))
    unfold Builtin.Dict.pairItems
    refine wpAny_bind (wpAny_typeOf (T := "tuple") ⟨_, ht₁, rfl⟩ ?_)
    rw [if_pos (by decide)]
    refine wpAny_bind (wpAny_seqItems ht₁ rfl (wpAny_pure ?_))
    dsimp only [Option.getD]
    refine wpAny_holding ?_
    have hD₁ : h₁.DictOf (intKind prog w) D (idxd items.toList i) := by obtain ⟨o, es, ep, h1, r⟩ := hD; exact ⟨o, es, ep, hk₁ D o hDe hDi h1, r⟩
    refine wpAny_dictSet_pairs (s := { s with heap := h₁, toks := s.toks + 1 }) (k := (i : Int)) (intKind_is prog w i _) hD₁ (fun h₂ hD₂ hs₂ => ?_) ?_
    · refine wpAny_pure ⟨plainId_quiet plain_dul _, ?_⟩
      have hx' : items.toList[i]? = some items[i] := by simp [hlt]
      rw [idxd_stored hx'] at hD₂
      have k₂ : ∀ b o, b ≠ e → b ≠ it → b ≠ D → s.heap.get? b = some o → h₂.get? b = some o := fun b o h1 h2 h3 h => hs₂.extBut b o h3 (hk₁ b o h1 h2 h)
      refine ih (i + 1) _ (by omega) (by (first | decide | assumption | exact Nat.le_trans (by assumption) (by decide) | exact Nat.le_of_lt (by assumption) | exact Nat.le_of_not_lt (by assumption) | exact Nat.lt_of_not_le (by assumption) | exact Nat.le_trans (by assumption) (by assumption) | exact Nat.lt_of_lt_of_le (by assumption) (by assumption) | exact Nat.lt_of_le_of_lt (by assumption) (by assumption) | lia | omega)) hD₂ ?_ ?_ ?_ ?_ _
      · rcases he₁ with ⟨old, h⟩ | ⟨a, b, old, h, o, ha, h2, h3⟩
        · exact .inl ⟨old, by push_cast; exact hs₂.extBut _ _ (Ne.symm hDe) h⟩
        · by_cases haD : a = D
          · subst haD
            obtain ⟨o', es, ep, h1, _⟩ := hD₂
            exact .inr ⟨a, b, old, by push_cast; exact hs₂.extBut _ _ (Ne.symm hDe) h, o', h1, h2, h3⟩
          · exact .inr ⟨a, b, old, by push_cast; exact hs₂.extBut _ _ (Ne.symm hDe) h, o, hs₂.extBut _ _ haD ha, h2, h3⟩
      · obtain ⟨o, h1, r⟩ := hit₁
        exact ⟨o, hs₂.extBut _ _ (Ne.symm hDi) h1, r⟩
      · obtain ⟨o, h1, r⟩ := hl
        exact ⟨o, k₂ l o hle hli (Ne.symm hDl) h1, r⟩
      · intro h' tk h1 h2 h3
        exact hR h' tk h1 (fun b o b1 b2 b3 h => h2 b o b1 b2 b3 (k₂ b o b1 b2 b3 h)) (Nat.le_trans (Nat.le_add_right _ 2) h3)
    · unfold idxd
      simp
      (first | lia | omega)

theorem call_dict_enum {s : Shared} {e it l : Addr} {items : Array Value} {Q : Value → Shared → Prop} (hh : A.handled = none) (he : IsEnum s.heap e it 0 .none) (hit : s.heap.IsListIter it l 0) (hl : s.heap.IsList l items) (hsz : items.size ≤ sizeLine)
    (hei : e ≠ it) (hle : l ≠ e) (hli : l ≠ it)
    (hQ : ∀ h' tk, h'.DictOf (intKind prog w) s.heap.objs.size (idxd items.toList items.size) → (∀ b o, b ≠ e → b ≠ it → s.heap.get? b = some o → h'.get? b = some o) → s.toks ≤ tk → Q (.ref s.heap.objs.size) { s with heap := h', toks := tk }) :
    wpAny (model prog w) A (PySem.call (.type "dict") [.ref e]) Q E s := by
  refine callType_codes (Q₁ := fun obj s₁ => obj = .ref s.heap.objs.size ∧ s₁ = { s with heap := s.heap.push { cls := .type "dict", data := .dict #[] } }) F.kt_called_dict (F.kt_typeCall_dict_1 _) F.entry_dict_init (kt_code_dict_new _ ⟨rfl, rfl⟩) ?_
  rintro obj s₁ ⟨rfl, rfl⟩
  have hnew : (s.heap.push { cls := .type "dict", data := .dict #[] }).DictOf (intKind prog w) s.heap.objs.size [] := Heap.DictOf.new s.heap
  have keep : Sub s.heap (s.heap.push { cls := .type "dict", data := .dict #[] }) := fun b o e => Heap.get?_push_of_some _ e
  have he₁ : IsEnum (s.heap.push { cls := .type "dict", data := .dict #[] }) e it 0 .none := keep _ _ he
  have nE : s.heap.objs.size ≠ e := Ne.symm (live_lt he)
  have nI : s.heap.objs.size ≠ it := by obtain ⟨o, h, _⟩ := hit; exact Ne.symm (live_lt h)
  have nL : s.heap.objs.size ≠ l := by obtain ⟨o, h, _⟩ := hl; exact Ne.symm (live_lt h)
  refine ⟨hnew.typeIs, F.args_dict_init_2 _ _, ?_⟩
  unfold Builtin.«dict.__init__»
  refine wpAny_bind ?_
  unfold Builtin.Dict.selfAndRest
  refine wpAny_bind (wpAny_notOrdered_dict hnew.typeIs ?_)
  show wpAny _ _ (pure (s.heap.objs.size, [Value.ref e])) _ _ _
  refine wpAny_pure ?_
  show wpAny _ _ (Builtin.Dict.updateFrom "dict.__init__" s.heap.objs.size (.ref e) [] .none) _ _ _
  unfold Builtin.Dict.updateFrom
  refine wpAny_bind (wpAny_typeOf (T := "enumerate") ⟨_, he₁, rfl⟩ ?_)
  rw [if_pos (by decide)]
  refine wpAny_bind (wpAny_with_toks (Nat.le_refl _) (en_getAttr_miss he₁ hh fun h₂ tk₂ hk₂ ht₂ => ?_))
  replace ht₂ : s.toks ≤ tk₂ := ht₂
  rw [if_pos (show (none : Option Value).isNone = true from rfl)]
  refine wpAny_bind (wpAny_rule (wpAny_bind (wpAny_pyIter_enum (hk₂ _ _ he₁) ?_)))
  refine wpAny_pure ⟨plainId_quiet plain_dul _, ?_⟩
  have k₂ : Sub s.heap h₂ := keep.trans hk₂
  refine code_dul (A := A.in1) s.heap.objs.size e it l items nE nI nL hei hle hli hsz hh items.size 0 _ (by (first | lia | omega)) (Nat.zero_le _) ?_ ?_ ?_ ?_ (fun h' tk h1 h2 h3 => ?_) 0
  · obtain ⟨o, es, ep, h1, r⟩ := hnew
    have e0 : idxd items.toList 0 = [] := by simp [idxd]
    rw [e0]
    exact ⟨o, es, ep, hk₂ _ _ h1, r⟩
  · exact .inl ⟨.none, hk₂ _ _ he₁⟩
  · obtain ⟨o, h1, r⟩ := hit; exact ⟨o, k₂ _ _ h1, r⟩
  · obtain ⟨o, h1, r⟩ := hl; exact ⟨o, k₂ _ _ h1, r⟩
  · exact ⟨rfl, hQ h' tk h1 (fun b o b1 b2 h => h2 b o b1 b2 (live_lt h) (k₂ b o h)) (Nat.le_trans ht₂ h3)⟩
end

theorem RdAll.consR {g : Heap} {v : Value} {vs : List Value} {xs : List PyData} (h : RdAll g (v :: vs) xs) : ∃ d ds, xs = d :: ds ∧ Rp g v d ∧ RdAll g vs ds := by
  cases h with
  | cons h hs => exact ⟨_, _, rfl, h, hs⟩
theorem pairs_rd {prog : Program} {w : World} {g : Heap} {es : List DictEntry} {kvs : List (Int × Value)} (P : Pairs (intKind prog w) es kvs) : ∀ {xs : List PyData}, RdAll g (kvs.map (·.2)) xs →
    RdAll g (es.map (·.key)) (kvs.map fun kv => .int kv.1) ∧ RdAll g (es.map (·.val)) xs := by
  induction P with
  | nil => exact fun h => ⟨.nil, h⟩
  | cons h1 h2 _ ih =>
    intro xs h
    obtain ⟨d, ds, rfl, r, rs⟩ := RdAll.consR h
    obtain ⟨t, ht⟩ := Value.isInt_shape h1
    obtain ⟨a, b⟩ := ih rs
    refine ⟨.cons ?_ a, .cons (?_ : Rp g _ _) b⟩
    · dsimp only; rw [ht]; exact .int _ _
    · dsimp only; rw [h2]; exact r

/-- the table of things by their places -/
noncomputable def tabD (xs : List PyData) : List (PyData × PyData) := xs.mapIdx fun i x => (.int (i : Int), x)

theorem PE.dictEnum {c : Cx} {k : Nat} {sc : Scope} {lm : LM} {np np2 p2 pos : Pos} {e : Expr} {xs : List PyData} (h1 : sc.names.lookup (Str.ofString "dict") = some .globalImplicit) (h2 : sc.names.lookup (Str.ofString "enumerate") = some .globalImplicit)
    (m1 : c.mg (Str.ofString "dict") = none) (m2 : c.mg (Str.ofString "enumerate") = none) (he : PE c k sc lm e (plist xs)) (hz : xs.length ≤ sizeLine)
    (hse : ∀ env, starEach [e] env = [(false, eval e env)] := by intro _; rfl) (hse2 : ∀ env, starEach [.Call (.Name (Str.ofString "enumerate") np2) [e] [] p2] env = [(false, eval (.Call (.Name (Str.ofString "enumerate") np2) [e] [] p2) env)] := by intro _; rfl) :
    PE c k sc lm (.Call (.Name (Str.ofString "dict") np) [.Call (.Name (Str.ofString "enumerate") np2) [e] [] p2] [] pos) (.d (.dict (tabD xs))) := by
  intro A env g s a
  refine wpAny_Call_NameR ?_
  refine a.bn h1 m1 (show bootBuiltins (Str.ofString "dict") = some (.type "dict") by kernel_rfl) ?_
  refine PyProof.Rows.callWith_type1 (spliced_more ?_ (hse2 env)) (hse2 env) (by rfl)
  refine wpAny_Call_NameR ?_
  refine a.bn h2 m2 (show bootBuiltins (Str.ofString "enumerate") = some (.type "enumerate") by kernel_rfl) ?_
  refine PyProof.Rows.callWith_type1 (gr_go ((PL.cons he PL.nil hse) A env g s p2 a) (fun vs s₁ g₁ G₁ hv => ?_)) (hse env) (by rfl)
  obtain ⟨v, rfl, hw⟩ := rdl1 hv
  obtain ⟨l, us, rfl, hl, hr⟩ := rd_list hw
  have hlen := hr.length
  simp only [Array.length_toList] at hlen
  have hl₁ : s₁.heap.IsList l us := (hl.at fun o e => G₁.le _ _ e).isList
  have nl : l ≠ s₁.heap.objs.size ∧ l ≠ s₁.heap.objs.size + 1 := by
    obtain ⟨o, h, _⟩ := hl₁
    have h3 := Heap.lt_size h
    exact ⟨Nat.ne_of_lt h3, Nat.ne_of_lt (Nat.lt_succ_of_lt h3)⟩
  refine call_enumerate_list hl₁ fun h₂ e₂ i₂ sz₂ k₂ => spliced_none ?_
  show wpAny c.M A (PySem.call (.type "dict") [.ref (s₁.heap.objs.size + 1)]) _ Bot _
  refine call_dict_enum (l := l) (items := us) a.room.1 e₂ i₂ (by obtain ⟨o, h, r⟩ := hl₁; exact ⟨o, k₂ _ _ h, r⟩) (by omega) (Nat.succ_ne_self _) nl.2 nl.1 fun h' tk hd hk ht => ?_
  have keep : Sub s₁.heap h' := fun b o e => hk b o (fun hb => by rw [hb] at e; exact absurd (Heap.lt_size e) (Nat.not_lt.mpr (Nat.le_succ _))) (live_lt e) (k₂ b o e)
  dsimp only at hd ht ⊢
  rw [sz₂] at hd ⊢
  obtain ⟨g', G', hn⟩ := grow_all (s := s₁) (s' := { s₁ with heap := h', toks := tk }) G₁.le ⟨h', tk, rfl⟩ keep ht
  refine ⟨g', G₁.trans G', ?_⟩
  have hne : s₁.heap.objs.size + 2 ≠ sysModules := by
    have h : (3 : Nat) < s₁.heap.objs.size := ((a.grow G₁).base.1.g.keeps (a.grow G₁).sub).lt
    intro e
    have e' : s₁.heap.objs.size + 2 = (1 : Nat) := e
    (first | lia | omega)
  obtain ⟨o, es, ep, ho, ⟨hc, hdn, hsl⟩, hdat, _, hp, _⟩ := hd
  obtain ⟨oc, od, odt, osl⟩ := o
  dsimp only at hc hdn hsl hdat
  subst hc hdn hsl hdat
  have hfree : s₁.heap.get? (s₁.heap.objs.size + 2) = none := Heap.get?_none_of_le (Nat.le_add_right _ 2)
  have hval : RdAll g' ((idxd us.toList us.size).map (·.2)) xs := by
    have e : (idxd us.toList us.size).map (·.2) = us.toList := by
      unfold idxd
      apply List.ext_getElem?
      intro i
      rw [List.getElem?_map, List.getElem?_mapIdx, List.take_of_length_le (by simp)]
      cases us.toList[i]? <;> rfl
    rw [e]
    exact hr.mono G'.sub
  obtain ⟨k1, k2⟩ := pairs_rd hp hval
  have e1 : (tabD xs).map (·.1) = (idxd us.toList us.size).map fun kv => .int kv.1 := by
    unfold tabD idxd
    apply List.ext_getElem?
    intro i
    rw [List.getElem?_map, List.getElem?_map, List.getElem?_mapIdx, List.getElem?_mapIdx, List.take_of_length_le (by simp)]
    have := hr.length
    by_cases hi : i < xs.length
    · have hi' : i < us.toList.length := by rw [this]; exact hi
      rw [List.getElem?_eq_getElem hi, List.getElem?_eq_getElem hi']; rfl
    · rw [List.getElem?_eq_none (by omega), List.getElem?_eq_none (by rw [this]; omega)]; rfl
  have e2 : (tabD xs).map (·.2) = xs := by
    unfold tabD
    apply List.ext_getElem?
    intro i
    rw [List.getElem?_map, List.getElem?_mapIdx]
    cases xs[i]? <;> rfl
  refine Rp.dict (hn _ _ ho hfree hne) hne ?_ ?_
  · rw [e1]; exact k1
  · rw [e2]; exact k2
end Mine

/-! F6 -/
open PySem PySem.W PyProof.Rows
set_option Elab.async false
set_option maxRecDepth 100000
namespace Mine

/-! _law_thing -/
mutual
noncomputable def Plan.thing : Plan → PyData
  | .int i => .int i
  | .bool b => .bool b
  | .none => .none
  | .text t => .str (S t)
  | .node .lst ps => .list (Plan.thingL ps)
  | .node .tup ps => .tuple (Plan.thingL ps)
  | .node .tab ps => .dict (tabD (Plan.thingL ps))
noncomputable def Plan.thingL : List Plan → List PyData
  | [] => []
  | p :: ps => p.thing :: Plan.thingL ps
end
theorem Plan.thingL_map : ∀ ps : List Plan, Plan.thingL ps = ps.map Plan.thing
  | [] => rfl
  | p :: ps => by
    show p.thing :: Plan.thingL ps = p.thing :: ps.map Plan.thing
    rw [Plan.thingL_map ps]

mutual
noncomputable def Plan.lean : Plan → Prop
  | .int _ => True
  | .bool _ => True
  | .none => True
  | .text _ => True
  | .node _ ps => ps.length ≤ 100000 ∧ Plan.leanL ps
noncomputable def Plan.leanL : List Plan → Prop
  | [] => True
  | p :: ps => p.lean ∧ Plan.leanL ps
end
theorem Plan.leanL_iff : ∀ {ps : List Plan}, Plan.leanL ps ↔ ∀ p ∈ ps, p.lean
  | [] => ⟨fun _ _ h => by simp at h, fun _ => trivial⟩
  | q :: ps => by
    show q.lean ∧ Plan.leanL ps ↔ _
    rw [Plan.leanL_iff (ps := ps)]; simp

theorem thing_def (c : Cx) (hc : Lw c) : IsDef c (Str.ofString "_law_thing") := IsDef.of (d := _) (mem_at (i := 9) (by rw [hc.p]; rfl))
theorem Lw.dict {c : Cx} (hc : Lw c) : c.mg (Str.ofString "dict") = none := hc.bs _ (by decide)
theorem Lw.enumerate {c : Cx} (hc : Lw c) : c.mg (Str.ofString "enumerate") = none := hc.bs _ (by decide)

set_option maxHeartbeats 1000000 in
theorem pf_thing (c : Cx) (hc : Lw c) : ∀ (n : Nat) (p : Plan), p.depth ≤ n → p.lean → PF c n (Str.ofString "_law_thing") [.d p.pd] (.d p.thing) := by
  have hsz := sizeLine_is
  intro n
  induction n with
  | zero => intro p hd; have := p.depth_pos; omega
  | succ n ih =>
  intro p hd hs
  have hdef := thing_def c hc
  refine PF.of_body (d := _) (mem_at (i := 9) (by rw [hc.p]; rfl)) ?_ ?_ ?_ ?_
  · exact fun _ _ _ _ hl => bind1 (fun _ => rfl) hl
  · intro x hx
    simp at hx
    subst hx
    exact .inl rfl
  · exact fun n => once_of (by decide) n
  · dsimp only
    refine PX.cons (PX1.assignPair (d := .str (S p.kd)) (e := p.what) (PE.cast (PE.local_ (d := .d p.pd) (by rfl)) (by rw [p.pd_eq])) (.inl rfl) (.inl rfl) ?_ (by rfl) (by intro _ _; rfl))
    refine PX.cons (PX1.if_ (w := (p.kd == lit "plain" || (p.kd == lit "text" || false))) (PT.boolOp (PAll.or (PT.cmp (PE.local_ (by rfl)) PE.lit (sem_str_eq _ _)) (fun _ => PAll.or (PT.cmp (PE.local_ (by rfl)) PE.lit (sem_str_eq _ _)) (fun _ => PAll.orNil)))) (fun hb => ?_) (fun hb => PX.nil ?_))
    · have hw : p.what = p.thing := by
        cases p with
        | node k ps =>
          replace hb : (k.name == lit "plain" || (k.name == lit "text" || false)) = true := hb
          rw [kd_plain, kd_text] at hb; cases hb
        | _ => rfl
      exact PX.cons (PX1.ret (PE.local_ (by rfl)) ⟨_, rfl, fun g v h => hw ▸ h⟩)
    rw [Bool.or_false, Bool.or_eq_false_iff] at hb
    obtain ⟨kk, ps, rfl⟩ := Plan.of_node hb.1 hb.2
    have hds : ∀ p ∈ ps, p.depth ≤ n := fun p hp => by
      have h1 := Plan.depthL_le hp
      have h2 : Plan.depthL ps + 1 ≤ n + 1 := hd
      (first | lia | omega)
    have hss : ∀ p ∈ ps, p.lean := Plan.leanL_iff.mp hs.2
    have hlen : ps.length ≤ 100000 := hs.1
    refine PX.cons (PX1.assignComp (rs := ps.map Plan.thing) (PIt.of_list (PE.local_ (by rfl))) (CompOk.of rfl (by decide) (by decide) (by decide) (by rfl)) (by simp) (by rw [List.length_map]; omega) (fun i d r hd hr => ?_) (by rfl) ?_ (by intro env h; cases env; cases h; rfl))
    · obtain ⟨_, hd1, rfl, _⟩ := map_get hd
      obtain ⟨p, hd2, rfl, hlt⟩ := map_get hd1
      have hmem := List.mem_of_getElem? hd2
      rw [List.getElem?_map, hd2] at hr
      cases hr
      exact PE.call (by rfl) hdef (PL.cons (PE.local_ (by rfl)) PL.nil) (ih _ (hds _ hmem) (hss _ hmem))
    refine PX.cons (PX1.if_ (w := (kk.name == lit "table")) (PT.cmp (PE.local_ (by rfl)) PE.lit (sem_str_eq _ _)) (fun hb => ?_) (fun hb => PX.nil ?_))
    · rw [kd_table] at hb
      cases kk with
      | lst => cases hb
      | tup => cases hb
      | tab =>
        have e : (Plan.node .tab ps).thing = .dict (tabD (ps.map Plan.thing)) := by rw [← Plan.thingL_map]; rfl
        rw [e]
        exact PX.cons (PX1.ret (PE.dictEnum (by rfl) (by rfl) hc.dict hc.enumerate (PE.local_ (by rfl)) (by rw [List.length_map]; (first | decide | assumption | exact Nat.le_trans (by assumption) (by decide) | exact Nat.le_of_lt (by assumption) | exact Nat.le_of_not_lt (by assumption) | exact Nat.lt_of_not_le (by assumption) | exact Nat.le_trans (by assumption) (by assumption) | exact Nat.lt_of_lt_of_le (by assumption) (by assumption) | exact Nat.lt_of_le_of_lt (by assumption) (by assumption) | lia | omega))) ⟨_, rfl, fun g v h => h⟩)
    · rw [kd_table] at hb
      have e : (Plan.node kk ps).thing = (match kk with | .lst => .list (ps.map Plan.thing) | _ => .tuple (ps.map Plan.thing)) := by
        rw [← Plan.thingL_map]
        cases kk with
        | lst => rfl
        | tup => rfl
        | tab => cases hb
      rw [e]
      refine PX.cons (PX1.ret (PE.ifExp (q := (kk.name == lit "list")) (PT.cmp (PE.local_ (by rfl)) PE.lit (sem_str_eq _ _)) (fun hq => PE.cast (PE.local_ (by rfl)) ?_) (fun hq => PE.cast (PE.tupleOf hc (PE.local_ (by rfl)) (by rw [List.length_map]; omega)) ?_)) ⟨_, rfl, fun g v h => h⟩)
      · rw [kd_list] at hq
        cases kk with
        | lst => rfl
        | tup => cases hq
        | tab => cases hq
      · rw [kd_list] at hq
        cases kk with
        | lst => cases hq
        | tup => rfl
        | tab => cases hb
end Mine

/-! F7 -/
open PySem PySem.W PyProof.Rows
set_option Elab.async false
set_option maxRecDepth 100000
namespace Mine

/-! _law_pieces: what it makes -/
noncomputable def kdOf (m : Int) : Kd := if m = 3 then .lst else if m = 4 then .tup else .tab
noncomputable def plan0 (ps : List Plan) (x : Int) : Plan :=
  if x.fmod 6 = 0 then .int (if 0 ≤ x.fdiv 6 then (x.fdiv 6).fmod (10 ^ 90) else -((-(x.fdiv 6)).fmod (10 ^ 90)))
  else if x.fmod 6 = 1 then .text (signsL ((x.fdiv 6).natAbs % 5 ^ 12))
  else if x.fmod 6 = 2 then (if (x.fdiv 6).fmod 3 = 0 then .none else if (x.fdiv 6).fmod 3 = 1 then .bool true else .bool false)
  else .node (kdOf (x.fmod 6)) (ps.drop (ps.length - ((x.fdiv 6).fmod 4).toNat))
noncomputable def plan1 (ps : List Plan) (x : Int) : Plan := if 100 < (plan0 ps x).wr.length then .int ((x.fdiv 6).fmod 1000) else plan0 ps x
noncomputable def stepP (st : List Plan × Nat) (x : Int) : List Plan × Nat := (st.1 ++ [plan1 st.1 x], st.2 + (plan1 st.1 x).wr.length + 2)
noncomputable def runP {σ α : Type} (step : σ → α → σ) (stop : σ → Bool) : List α → σ → σ
  | [], s => s
  | x :: xs, s => if stop (step s x) then step s x else runP step stop xs (step s x)
noncomputable def piecesOf (xs : List Int) : List Plan × Nat := runP stepP (fun st => decide (300 < st.2)) (xs.take 63) ([], 0)

structure Piece (p : Plan) : Prop where
  len : p.wr.length ≤ 100
  depth : p.depth ≤ p.wr.length + 1
  small : p.small
  lean : p.lean

theorem signsL_len : ∀ (k n : Nat), n < 5 ^ k → (signsL n).length ≤ k
  | 0, n, h => by
    have : n = 0 := by simpa using h
    subst this; exact Nat.zero_le _
  | k + 1, n, h => by
    by_cases hn : n = 0
    · subst hn; exact Nat.zero_le _
    · rw [signsL_eq hn, List.length_cons]
      have := signsL_len k ((n - 1) / 5) (by rw [Nat.pow_succ] at h; omega)
      omega
theorem wrText_len (t : List Nat) : (wrText t).length ≤ 8 * t.length + 2 := by
  have h1 := escd_len t
  have h3 := repl_len (quoteOf t) ([92] ++ [quoteOf t]) (by simp) (repl 10 [92, 110] (repl 92 [92, 92] t))
  unfold wrText escd
  simp only [List.length_append, List.length_singleton] at h3 ⊢
  (first | lia | omega)
theorem joinL_le {sep : List Nat} {ts : List (List Nat)} {m : Nat} (h : ∀ t ∈ ts, t.length ≤ m) : (joinL sep ts).length ≤ ts.length * (m + sep.length) := by
  rw [← joinL_sum]
  have : (ts.map (·.length)).sum ≤ ts.length * m := by
    induction ts with
    | nil => simp
    | cons t r ih =>
      have h1 := h t (List.mem_cons_self ..)
      have h2 := ih fun t ht => h t (List.mem_cons_of_mem _ ht)
      rw [List.map_cons, List.sum_cons, List.length_cons, Nat.succ_mul]; omega
  have h2 := Nat.mul_le_mul_right sep.length (show ts.length - 1 ≤ ts.length by omega)
  rw [Nat.mul_add]; omega

theorem Plan.wr_node (k : Kd) (ps : List Plan) : (Plan.node k ps).wr = match k with
    | .tab => lit "{" ++ joinL (lit ", ") (keyed 0 (ps.map Plan.wr)) ++ lit "}"
    | .lst => lit "[" ++ joinL (lit ", ") (ps.map Plan.wr) ++ lit "]"
    | .tup => lit "(" ++ joinL (lit ", ") (ps.map Plan.wr) ++ (if ps.length == 1 then lit "," else lit "") ++ lit ")" := by
  rw [← Plan.wrL_map]; cases k <;> rfl
theorem keyed_mem {n : Nat} {ts : List (List Nat)} {t : List Nat} (h : t ∈ keyed n ts) : ∃ i, i < ts.length ∧ ∃ u ∈ ts, t = itx ((n + i : Nat) : Int) ++ lit ": " ++ u := by
  obtain ⟨i, hi⟩ := List.mem_iff_getElem?.mp h
  rw [keyed_get] at hi
  cases hu : ts[i]? with
  | none => rw [hu] at hi; cases hi
  | some u =>
    rw [hu] at hi; cases hi
    have hlt : i < ts.length := by
      rcases Nat.lt_or_ge i ts.length with h | h
      · exact h
      · rw [List.getElem?_eq_none h] at hu; cases hu
    exact ⟨i, hlt, u, List.mem_of_getElem? hu, rfl⟩
/-- how long the writing of a row is -/
theorem wr_node_len (k : Kd) (ps : List Plan) (m : Nat) (h : ∀ p ∈ ps, p.wr.length ≤ m) (hl : ps.length ≤ 10000) : (Plan.node k ps).wr.length ≤ ps.length * (m + 20) + 5 := by
  have hone := l_one
  have hsep := l_sep
  have hcol := l_colon
  have h1 : (joinL (lit ", ") (ps.map Plan.wr)).length ≤ ps.length * (m + 20) := by
    have := joinL_le (sep := lit ", ") (ts := ps.map Plan.wr) (m := m) fun t ht => by
      obtain ⟨p, hp, rfl⟩ := List.mem_map.mp ht
      exact h p hp
    rw [List.length_map] at this
    exact Nat.le_trans this (Nat.mul_le_mul_left _ (by (first | lia | omega)))
  rw [Plan.wr_node]
  cases k with
  | lst => simp only [List.length_append]; omega
  | tup =>
    have hif : (if ps.length == 1 then lit "," else lit "").length ≤ 1 := by split <;> (first | decide | assumption | exact Nat.le_trans (by assumption) (by decide) | exact Nat.le_of_lt (by assumption) | exact Nat.le_of_not_lt (by assumption) | exact Nat.lt_of_not_le (by assumption) | exact Nat.le_trans (by assumption) (by assumption) | exact Nat.lt_of_lt_of_le (by assumption) (by assumption) | exact Nat.lt_of_le_of_lt (by assumption) (by assumption) | lia | omega)
    simp only [List.length_append]; omega
  | tab =>
    have := joinL_le (sep := lit ", ") (ts := keyed 0 (ps.map Plan.wr)) (m := m + 10) fun t ht => by
      obtain ⟨i, hi, u, hu, rfl⟩ := keyed_mem ht
      obtain ⟨p, hp, rfl⟩ := List.mem_map.mp hu
      have h2 := h p hp
      rw [List.length_map] at hi
      have h3 := itx_len (i := ((0 + i : Nat) : Int)) (k := 5) (by decide) (by
        have : (10 : Nat) ^ 5 = 100000 := by decide
        omega)
      simp only [List.length_append]; omega
    rw [keyed_length, List.length_map] at this
    have h5 := Nat.mul_le_mul_left ps.length (show m + 10 + (lit ", ").length ≤ m + 20 by (first | lia | omega))
    simp only [List.length_append]; omega
theorem wr_node_ge (k : Kd) (ps : List Plan) : ∀ p ∈ ps, p.wr.length + 2 ≤ (Plan.node k ps).wr.length := by
  intro p hp
  have hone := l_one
  have h1 : p.wr.length ≤ (joinL (lit ", ") (ps.map Plan.wr)).length := joinL_ge (List.mem_map.mpr ⟨p, hp, rfl⟩)
  rw [Plan.wr_node]
  cases k with
  | lst => simp only [List.length_append]; omega
  | tup => simp only [List.length_append]; omega
  | tab =>
    obtain ⟨i, hi⟩ := List.mem_iff_getElem?.mp hp
    have hm : (itx ((0 + i : Nat) : Int) ++ lit ": " ++ p.wr) ∈ keyed 0 (ps.map Plan.wr) := by
      apply List.mem_of_getElem? (i := i)
      rw [keyed_get, List.getElem?_map, hi]; rfl
    have := joinL_ge (sep := lit ", ") hm
    simp only [List.length_append] at this ⊢
    omega

theorem node_depth {k : Kd} {ps : List Plan} (h : ∀ p ∈ ps, p.depth ≤ p.wr.length + 1) : (Plan.node k ps).depth ≤ (Plan.node k ps).wr.length + 1 := by
  show Plan.depthL ps + 1 ≤ _
  have := Plan.depthL_of (ps := ps) (n := (Plan.node k ps).wr.length) fun p hp => by
    have h1 := h p hp
    have h2 := wr_node_ge k ps p hp
    omega
  omega

theorem int_piece {i : Int} (h : i.natAbs < 10 ^ 91) : Piece (.int i) := by
  have := itx_len (i := i) (k := 91) (by decide) h
  exact ⟨by show (itx i).length ≤ 100; (first | decide | assumption | exact Nat.le_trans (by assumption) (by decide) | exact Nat.le_of_lt (by assumption) | exact Nat.le_of_not_lt (by assumption) | exact Nat.lt_of_not_le (by assumption) | exact Nat.le_trans (by assumption) (by assumption) | exact Nat.lt_of_lt_of_le (by assumption) (by assumption) | exact Nat.lt_of_le_of_lt (by assumption) (by assumption) | lia | omega), by show 1 ≤ _; (first | lia | omega), Nat.lt_trans h (by decide), trivial⟩

theorem fmod_lt_natAbs (a : Int) (m : Nat) (hm : 0 < m) : (a.fmod (m : Int)).natAbs < m := by
  have h1 := Int.fmod_nonneg_of_pos a (show (0 : Int) < m by omega)
  have h2 := Int.fmod_lt_of_pos a (show (0 : Int) < m by omega)
  omega
theorem p90 : ((10 : Int) ^ 90) = ((10 ^ 90 : Nat) : Int) := by rw [Int.natCast_pow]; rfl

/-- what plan0 is -/
theorem plan0_ok {ps : List Plan} (hp : ∀ p ∈ ps, Piece p) (x : Int) : (plan0 ps x).depth ≤ 102 ∧ (plan0 ps x).depth ≤ (plan0 ps x).wr.length + 1 ∧ (plan0 ps x).small ∧ (plan0 ps x).lean ∧ (plan0 ps x).wr.length ≤ 10000 := by
  have ip : ∀ p, Piece p → p.depth ≤ 102 ∧ p.depth ≤ p.wr.length + 1 ∧ p.small ∧ p.lean ∧ p.wr.length ≤ 10000 := fun p h => by
    have h1 := h.len; have h2 := h.depth
    exact ⟨by omega, h.depth, h.small, h.lean, by (first | decide | assumption | exact Nat.le_trans (by assumption) (by decide) | exact Nat.le_of_lt (by assumption) | exact Nat.le_of_not_lt (by assumption) | exact Nat.lt_of_not_le (by assumption) | exact Nat.le_trans (by assumption) (by assumption) | exact Nat.lt_of_lt_of_le (by assumption) (by assumption) | exact Nat.lt_of_le_of_lt (by assumption) (by assumption) | lia | omega)⟩
  have h90 : 0 < 10 ^ 90 := by decide
  unfold plan0
  split
  · refine ip _ (int_piece ?_)
    split
    · have := fmod_lt_natAbs (x.fdiv 6) (10 ^ 90) h90
      rw [p90]; exact Nat.lt_trans this (by decide)
    · have := fmod_lt_natAbs (-(x.fdiv 6)) (10 ^ 90) h90
      rw [p90, Int.natAbs_neg]; exact Nat.lt_trans this (by decide)
  split
  · have h1 := signsL_len 12 ((x.fdiv 6).natAbs % 5 ^ 12) (Nat.mod_lt _ (by decide))
    have h2 := wrText_len (signsL ((x.fdiv 6).natAbs % 5 ^ 12))
    exact ⟨by show 1 ≤ 102; (first | decide | assumption | exact Nat.le_trans (by assumption) (by decide) | exact Nat.le_of_lt (by assumption) | exact Nat.le_of_not_lt (by assumption) | exact Nat.lt_of_not_le (by assumption) | exact Nat.le_trans (by assumption) (by assumption) | exact Nat.lt_of_lt_of_le (by assumption) (by assumption) | exact Nat.lt_of_le_of_lt (by assumption) (by assumption) | lia | omega), by show 1 ≤ _; omega, trivial, trivial, by show (wrText _).length ≤ 10000; omega⟩
  split
  · split
    · exact ip _ ⟨by show (lit "None").length ≤ 100; decide +kernel, by show 1 ≤ _; (first | decide | assumption | exact Nat.le_trans (by assumption) (by decide) | exact Nat.le_of_lt (by assumption) | exact Nat.le_of_not_lt (by assumption) | exact Nat.lt_of_not_le (by assumption) | exact Nat.le_trans (by assumption) (by assumption) | exact Nat.lt_of_lt_of_le (by assumption) (by assumption) | exact Nat.lt_of_le_of_lt (by assumption) (by assumption) | lia | omega), trivial, trivial⟩
    split
    · exact ip _ ⟨by show (lit "True").length ≤ 100; decide +kernel, by show 1 ≤ _; (first | decide | assumption | exact Nat.le_trans (by assumption) (by decide) | exact Nat.le_of_lt (by assumption) | exact Nat.le_of_not_lt (by assumption) | exact Nat.lt_of_not_le (by assumption) | exact Nat.le_trans (by assumption) (by assumption) | exact Nat.lt_of_lt_of_le (by assumption) (by assumption) | exact Nat.lt_of_le_of_lt (by assumption) (by assumption) | lia | omega), trivial, trivial⟩
    · exact ip _ ⟨by show (lit "False").length ≤ 100; decide +kernel, by show 1 ≤ _; (first | decide | assumption | exact Nat.le_trans (by assumption) (by decide) | exact Nat.le_of_lt (by assumption) | exact Nat.le_of_not_lt (by assumption) | exact Nat.lt_of_not_le (by assumption) | exact Nat.le_trans (by assumption) (by assumption) | exact Nat.lt_of_lt_of_le (by assumption) (by assumption) | exact Nat.lt_of_le_of_lt (by assumption) (by assumption) | lia | omega), trivial, trivial⟩
  · have hsub : ∀ p ∈ ps.drop (ps.length - ((x.fdiv 6).fmod 4).toNat), Piece p := fun p h => hp p (List.mem_of_mem_drop h)
    have hn : (ps.drop (ps.length - ((x.fdiv 6).fmod 4).toNat)).length ≤ 4 := by
      have := Int.fmod_lt_of_pos (x.fdiv 6) (show (0 : Int) < 4 by (first | decide | assumption | exact Nat.le_trans (by assumption) (by decide) | exact Nat.le_of_lt (by assumption) | exact Nat.le_of_not_lt (by assumption) | exact Nat.lt_of_not_le (by assumption) | exact Nat.le_trans (by assumption) (by assumption) | exact Nat.lt_of_lt_of_le (by assumption) (by assumption) | exact Nat.lt_of_le_of_lt (by assumption) (by assumption) | lia | omega))
      rw [List.length_drop]; omega
    generalize ps.drop (ps.length - ((x.fdiv 6).fmod 4).toNat) = qs at hsub hn
    refine ⟨?_, node_depth fun p h => (hsub p h).depth, ?_, ?_, ?_⟩
    · show Plan.depthL qs + 1 ≤ 102
      have := Plan.depthL_of (ps := qs) (n := 101) fun p h => by have h1 := (hsub p h).depth; have h2 := (hsub p h).len; omega
      omega
    · exact Plan.smallL_iff.mpr fun p h => (hsub p h).small
    · exact ⟨by (first | decide | assumption | exact Nat.le_trans (by assumption) (by decide) | exact Nat.le_of_lt (by assumption) | exact Nat.le_of_not_lt (by assumption) | exact Nat.lt_of_not_le (by assumption) | exact Nat.le_trans (by assumption) (by assumption) | exact Nat.lt_of_lt_of_le (by assumption) (by assumption) | exact Nat.lt_of_le_of_lt (by assumption) (by assumption) | lia | omega), Plan.leanL_iff.mpr fun p h => (hsub p h).lean⟩
    · have := wr_node_len (kdOf (x.fmod 6)) qs 100 (fun p h => (hsub p h).len) (by (first | decide | assumption | exact Nat.le_trans (by assumption) (by decide) | exact Nat.le_of_lt (by assumption) | exact Nat.le_of_not_lt (by assumption) | exact Nat.lt_of_not_le (by assumption) | exact Nat.le_trans (by assumption) (by assumption) | exact Nat.lt_of_lt_of_le (by assumption) (by assumption) | exact Nat.lt_of_le_of_lt (by assumption) (by assumption) | lia | omega))
      have h2 := Nat.mul_le_mul_right (100 + 20) hn
      omega
theorem plan1_ok {ps : List Plan} (hp : ∀ p ∈ ps, Piece p) (x : Int) : Piece (plan1 ps x) := by
  obtain ⟨h1, h2, h3, h4, h5⟩ := plan0_ok hp x
  unfold plan1
  split
  · refine int_piece (Nat.lt_of_lt_of_le (fmod_lt_natAbs (x.fdiv 6) 1000 (by decide)) (by decide))
  · exact ⟨by (first | decide | assumption | exact Nat.le_trans (by assumption) (by decide) | exact Nat.le_of_lt (by assumption) | exact Nat.le_of_not_lt (by assumption) | exact Nat.lt_of_not_le (by assumption) | exact Nat.le_trans (by assumption) (by assumption) | exact Nat.lt_of_lt_of_le (by assumption) (by assumption) | exact Nat.lt_of_le_of_lt (by assumption) (by assumption) | lia | omega), h2, h3, h4⟩
end Mine

/-! F8 -/
open PySem PySem.W PyProof.Rows
set_option Elab.async false
set_option maxRecDepth 100000
namespace Mine

theorem ownUniq {x : Str} : ∀ {lm : LM}, (lm.filterMap fun kv => match kv.2 with | .own _ => some kv.1 | _ => none) = [x] → ∀ y ys, lm.lookup y = some (.own ys) → y = x := by
  intro lm h y ys hy
  have hm : y ∈ lm.filterMap fun kv => match kv.2 with | .own _ => some kv.1 | _ => none := by
    obtain ⟨l1, l2, e, _⟩ := List.lookup_eq_some_iff.mp hy
    rw [List.mem_filterMap]
    exact ⟨(y, .own ys), by rw [e]; simp, rfl⟩
  rw [h] at hm
  simpa using hm

section
variable {c : Cx} {k : Nat} {sc : Scope} {lm lm' : LM} {P : Post}
theorem PX.consMid {st : Stmt} {ss : List Stmt} (base : LM) (h1 : PX1 c k sc st lm (StepP base)) (h2 : PX c k sc ss base P) : PX c k sc (st :: ss) lm P :=
  PX.cons (h1.mono fun pf lm' ⟨e, hi⟩ => by subst e; exact h2.weaken hi)
theorem Inc.ok {base lm : LM} (h : Inc base lm) : PFlow.next = .next ∧ Inc base lm := ⟨rfl, h⟩
theorem PIt.cast {e : Expr} {ds ds' : List PV} (h : PIt c k sc lm e ds) (he : ds = ds') : PIt c k sc lm e ds' := he ▸ h
noncomputable abbrev FoldP (X Y : LM → Prop) : Post := fun pf lm' => match pf with
  | .next => X lm'
  | .brk => Y lm'
  | _ => False
theorem PFor.fold {σ α : Type} {target : Expr} {body : List Stmt} (B : σ → LM) (J I : σ → Prop) (f : α → PV) (step : σ → α → σ) (stop : σ → Bool)
    (h : ∀ s x, J s → ∃ lm', PAs c k sc target (f x) (B s) lm' ∧ PX c k sc body lm' (FoldP (fun lm'' => stop (step s x) = false ∧ J (step s x) ∧ Inc (B (step s x)) lm'') fun lm'' => stop (step s x) = true ∧ I (step s x) ∧ Inc (B (step s x)) lm'')) (hJ : ∀ s, J s → I s) : ∀ (xs : List α) (s : σ) (lm : LM), J s → (∀ lm, I (runP step stop xs s) → Inc (B (runP step stop xs s)) lm → P .next lm) → Inc (B s) lm → PFor c k sc target body P (xs.map f) lm
  | [], s, lm, hI, hend, hi => hend lm (hJ _ hI) hi
  | x :: xs, s, lm, hI, hend, hi => by
    obtain ⟨lm', ha, hb⟩ := h s x hI
    refine ⟨lm', fun A env g₀ s₀ q g s v a hv => ha A env g₀ s₀ q g s v (a.forget hi) hv, hb.mono fun pf lm'' hp => ?_⟩
    unfold runP at hend
    cases pf with
    | next =>
      obtain ⟨h1, h2, h3⟩ := hp
      rw [h1] at hend
      exact PFor.fold B J I f step stop h hJ xs _ lm'' h2 hend h3
    | brk =>
      obtain ⟨h1, h2, h3⟩ := hp
      rw [h1] at hend
      exact hend lm'' h2 h3
    | cont => exact hp.elim
    | ret r => exact hp.elim
end

theorem signs_def (c : Cx) (hc : Lw c) : IsDef c (Str.ofString "_law_signs") := IsDef.of (d := _) (mem_at (i := 7) (by rw [hc.p]; rfl))
theorem pow90 {c : Cx} {k : Nat} : BinSem c k .Pow (pint 10) (pint 90) (pint (10 ^ 90)) := sem_pow 10 90 (by decide) (by decide) (by decide) (by decide) (by decide +kernel)
theorem pow12 {c : Cx} {k : Nat} : BinSem c k .Pow (pint 5) (pint 12) (pint (5 ^ 12)) := sem_pow 5 12 (by decide) (by decide) (by decide) (by decide) (by decide +kernel)

theorem kdOf_name {m : Int} (h3 : 3 ≤ m) (h5 : m ≤ 5) : ([.str (S (lit "list")), .str (S (lit "tuple")), .str (S (lit "table"))] : List PyData)[(m - 3).toNat]? = some (.str (S (kdOf m).name)) := by
  have : m = 3 ∨ m = 4 ∨ m = 5 := by (first | lia | omega)
  rcases this with e | e | e <;> subst e <;> rfl

set_option maxHeartbeats 2000000 in
theorem pf_pieces (c : Cx) (hc : Lw c) (k : Nat) (hk : 104 ≤ k) (xs : List Int) (hxl : xs.length ≤ 10000) : PF c (k+1) (Str.ofString "_law_pieces") [plist (xs.map .int)] (plist ((piecesOf xs).1.map Plan.pd)) := by
  have hsz := sizeLine_is
  have hwdef := written_def c hc
  have hsdef := signs_def c hc
  refine PF.of_body (d := _) (mem_at (i := 10) (by rw [hc.p]; rfl)) ?_ ?_ ?_ ?_
  · exact fun _ _ _ _ hl => bind1 (fun _ => rfl) hl
  · intro x hx
    simp at hx
    subst hx
    exact .inl rfl
  · exact fun n => once_of (by decide) n
  · dsimp only
    refine PX.cons (PX1.assignOwn (xs := []) PL.nil (.inl rfl) (by decide) ?_)
    refine PX.cons (PX1.assign PE.int_ (.inl rfl) ?_)
    have hend : ∀ st : List Plan × Nat, ((∀ p ∈ st.1, Piece p) ∧ st.1.length * 2 ≤ st.2 ∧ st.2 ≤ 300) → ((∀ p ∈ st.1, Piece p) ∧ st.1.length * 2 ≤ st.2 ∧ st.2 ≤ 402) := fun st h => ⟨h.1, h.2.1, by omega⟩
    refine PX.cons (PX1.for_ (ds := (xs.take 63).map pint) (PIt.cast (PIt.of_list (PE.takeList (n := 63) (l := xs.map .int) (PE.local_ (by rfl)) PE.int_ rfl (by rw [List.length_map]; (first | decide | assumption | exact Nat.le_trans (by assumption) (by decide) | exact Nat.le_of_lt (by assumption) | exact Nat.le_of_not_lt (by assumption) | exact Nat.lt_of_not_le (by assumption) | exact Nat.le_trans (by assumption) (by assumption) | exact Nat.lt_of_lt_of_le (by assumption) (by assumption) | exact Nat.lt_of_le_of_lt (by assumption) (by assumption) | lia | omega)))) (by rw [← List.map_take, List.map_map]; rfl))
      (PFor.fold (fun st : List Plan × Nat => [(Str.ofString "pieces", .own (st.1.map Plan.pd)), (Str.ofString "size", .p (pint (st.2 : Nat)))]) (fun st => (∀ p ∈ st.1, Piece p) ∧ st.1.length * 2 ≤ st.2 ∧ st.2 ≤ 300) (fun st => (∀ p ∈ st.1, Piece p) ∧ st.1.length * 2 ≤ st.2 ∧ st.2 ≤ 402) pint stepP (fun st => decide (300 < st.2)) ?_ hend (xs.take 63) ([], 0) _ ?_ ?_ ?_))
    · rintro ⟨ps, size⟩ x ⟨hps, hpz, hs3⟩
      dsimp only at hps hpz hs3 ⊢
      have hpl : ps.length ≤ 150 := by omega
      obtain ⟨ok1, ok2, ok3, ok4, ok5⟩ := plan0_ok hps x
      have piece := plan1_ok hps x
      have hlm : (ps.map Plan.pd).length = ps.length := List.length_map ..
      refine ⟨_, PAs.name (.inl rfl), ?_⟩
      refine PX.cons (PX1.assign (d := pint (x.fdiv 6)) (PE.bin (PE.local_ (by rfl)) PE.int_ (sem_div _ _ (by decide) (PyProof.noPylong_small (by decide)))) (.inl rfl) ?_)
      have hm4 := Int.fmod_nonneg_of_pos (x.fdiv 6) (show (0 : Int) < 4 by decide)
      refine PX.cons (PX1.assign (d := plist ((ps.drop (ps.length - ((x.fdiv 6).fmod 4).toNat)).map Plan.pd)) (PE.cast (PE.sliceOwn (lo := some ((ps.length - ((x.fdiv 6).fmod 4).toNat : Nat) : Int)) (hi := none) (by rfl) (PE.cast (PE.max2 hc PE.int_ (PE.bin (PE.lenOwn (by rfl) hc.len (by rfl) (by omega)) (PE.bin (PE.local_ (by rfl)) PE.int_ (sem_mod _ _ (by decide))) (sem_sub _ _))) ?_) trivial (by omega)) ?_) (.inl rfl) ?_)
      · rw [hlm]; congr 2; split <;> omega
      · rw [cut_from, List.map_drop]
      have inc4 : ∀ {lm : LM} {a b d e : Str} {va vb vd ve : LV}, lm.lookup a = some va → lm.lookup b = some vb → lm.lookup d = some vd → lm.lookup e = some ve → Inc [(a, va), (b, vb), (d, vd), (e, ve)] lm := fun h1 h2 h3 h4 => Inc.cons h1 (Inc.cons h2 (Inc.cons h3 (Inc.cons h4 (Inc.nil _))))
      refine PX.consMid [(Str.ofString "pieces", .own (ps.map Plan.pd)), (Str.ofString "size", .p (pint (size : Nat))), (Str.ofString "left", .p (pint (x.fdiv 6))), (Str.ofString "plan", .p (.d (plan0 ps x).pd))] ?_ ?_
      · have hm6a := Int.fmod_nonneg_of_pos x (show (0 : Int) < 6 by decide)
        have hm6b := Int.fmod_lt_of_pos x (show (0 : Int) < 6 by decide)
        refine PX1.if_ (w := (x.fmod 6 == 0)) (PT.cmp (PE.bin (PE.local_ (by rfl)) PE.int_ (sem_mod _ _ (by decide))) PE.int_ (sem_eq _ _)) (fun hb => ?_) (fun hb => ?_)
        · have hb' : x.fmod 6 = 0 := by simpa using hb
          have e0 : plan0 ps x = .int (if 0 ≤ x.fdiv 6 then (x.fdiv 6).fmod (10 ^ 90) else -((-(x.fdiv 6)).fmod (10 ^ 90))) := by unfold plan0; rw [if_pos hb']
          refine PX.cons (PX1.assign (d := .d (plan0 ps x).pd) (PE.cast (PE.list2 (y := .int (if 0 ≤ x.fdiv 6 then (x.fdiv 6).fmod (10 ^ 90) else -((-(x.fdiv 6)).fmod (10 ^ 90)))) PE.lit (PE.ifExp (q := decide (0 ≤ x.fdiv 6)) (PT.cmp (PE.local_ (by rfl)) PE.int_ (sem_ge _ _)) (fun hq => ?_) (fun hq => ?_))) (by rw [e0]; rfl)) (.inl rfl) (PX.nil (Inc.ok (inc4 (by rfl) (by rfl) (by rfl) (by rfl)))))
          · rw [if_pos (by simpa using hq)]
            exact PE.bin (PE.local_ (by rfl)) (PE.bin PE.int_ PE.int_ pow90) (sem_mod _ _ (by decide))
          · rw [if_neg (by simpa using hq)]
            exact PE.un (PE.bin (PE.un (PE.local_ (by rfl)) (sem_neg _)) (PE.bin PE.int_ PE.int_ pow90) (sem_mod _ _ (by decide))) (sem_neg _)
        have n0 : x.fmod 6 ≠ 0 := by simpa using hb
        refine PX.cons (PX1.mono (PX1.if_ (w := (x.fmod 6 == 1)) (P := StepP [(Str.ofString "pieces", .own (ps.map Plan.pd)), (Str.ofString "size", .p (pint (size : Nat))), (Str.ofString "left", .p (pint (x.fdiv 6))), (Str.ofString "plan", .p (.d (plan0 ps x).pd))]) (PT.cmp (PE.bin (PE.local_ (by rfl)) PE.int_ (sem_mod _ _ (by decide))) PE.int_ (sem_eq _ _)) (fun hb => ?_) (fun hb => ?_)) (fun pf lm' ⟨e, hi⟩ => by subst e; exact PX.nil ⟨rfl, hi⟩))
        · have hb' : x.fmod 6 = 1 := by simpa using hb
          have e0 : plan0 ps x = .text (signsL ((x.fdiv 6).natAbs % 5 ^ 12)) := by unfold plan0; rw [if_neg n0, if_pos hb']
          have h1 := signsL_len 12 ((x.fdiv 6).natAbs % 5 ^ 12) (Nat.mod_lt _ (by decide))
          refine PX.cons (PX1.assign (d := .d (plan0 ps x).pd) (PE.cast (PE.list2 (y := .str (S (signsL ((x.fdiv 6).natAbs % 5 ^ 12)))) PE.lit (PE.call (by rfl) hsdef (PL.cons (PE.cast (r' := pint ((x.fdiv 6).natAbs % 5 ^ 12 : Nat)) (PE.bin (PE.abs_ hc (PE.local_ (by rfl))) (PE.bin PE.int_ PE.int_ pow12) (sem_mod _ _ (by decide))) ?_) PL.nil) ((pf_signs c hc 0 _ (by (first | decide | assumption | exact Nat.le_trans (by assumption) (by decide) | exact Nat.le_of_lt (by assumption) | exact Nat.le_of_not_lt (by assumption) | exact Nat.lt_of_not_le (by assumption) | exact Nat.le_trans (by assumption) (by assumption) | exact Nat.lt_of_lt_of_le (by assumption) (by assumption) | exact Nat.lt_of_le_of_lt (by assumption) (by assumption) | lia | omega))).less (by omega)))) (by rw [e0]; rfl)) (.inl rfl) (PX.nil (Inc.ok (inc4 (by rfl) (by rfl) (by rfl) (by rfl)))))
          have e1 : (if x.fdiv 6 < 0 then -(x.fdiv 6) else x.fdiv 6) = ((x.fdiv 6).natAbs : Int) := by split <;> omega
          rw [e1, Int.fmod_eq_emod_of_nonneg _ (by decide)]
          congr 2
        have n1 : x.fmod 6 ≠ 1 := by simpa using hb
        refine PX.cons (PX1.mono (PX1.if_ (w := (x.fmod 6 == 2)) (P := StepP [(Str.ofString "pieces", .own (ps.map Plan.pd)), (Str.ofString "size", .p (pint (size : Nat))), (Str.ofString "left", .p (pint (x.fdiv 6))), (Str.ofString "plan", .p (.d (plan0 ps x).pd))]) (PT.cmp (PE.bin (PE.local_ (by rfl)) PE.int_ (sem_mod _ _ (by decide))) PE.int_ (sem_eq _ _)) (fun hb => ?_) (fun hb => ?_)) (fun pf lm' ⟨e, hi⟩ => by subst e; exact PX.nil ⟨rfl, hi⟩))
        · have hb' : x.fmod 6 = 2 := by simpa using hb
          have h3a := Int.fmod_nonneg_of_pos (x.fdiv 6) (show (0 : Int) < 3 by decide)
          have h3b := Int.fmod_lt_of_pos (x.fdiv 6) (show (0 : Int) < 3 by decide)
          obtain ⟨w, hw1, hw2⟩ : ∃ w, ([.none, .bool true, .bool false] : List PyData)[((x.fdiv 6).fmod 3).toNat]? = some w ∧ (plan0 ps x).pd = .list [.str (S (lit "plain")), w] := by
            have e0 : plan0 ps x = (if (x.fdiv 6).fmod 3 = 0 then .none else if (x.fdiv 6).fmod 3 = 1 then .bool true else .bool false) := by unfold plan0; rw [if_neg n0, if_neg n1, if_pos hb']
            rw [e0]
            have : (x.fdiv 6).fmod 3 = 0 ∨ (x.fdiv 6).fmod 3 = 1 ∨ (x.fdiv 6).fmod 3 = 2 := by omega
            rcases this with e | e | e <;> rw [e] <;> exact ⟨_, rfl, rfl⟩
          exact PX.cons (PX1.assign (d := .d (plan0 ps x).pd) (PE.cast (PE.list2 (y := w) PE.lit (PE.sub (PE.list (xs := [.none, .bool true, .bool false]) (PL.cons PE.none_ (PL.cons PE.bool_ (PL.cons PE.bool_ PL.nil))) (show 3 ≤ sizeLine by decide)) (PE.bin (PE.local_ (by rfl)) PE.int_ (sem_mod _ _ (by decide))) (sub_list h3a (by omega) hw1))) (by rw [hw2])) (.inl rfl) (PX.nil (Inc.ok (inc4 (by rfl) (by rfl) (by rfl) (by rfl)))))
        have n2 : x.fmod 6 ≠ 2 := by simpa using hb
        have e0 : plan0 ps x = .node (kdOf (x.fmod 6)) (ps.drop (ps.length - ((x.fdiv 6).fmod 4).toNat)) := by unfold plan0; rw [if_neg n0, if_neg n1, if_neg n2]
        exact PX.cons (PX1.assign (d := .d (plan0 ps x).pd) (PE.cast (PE.list2 (PE.sub (PE.list (xs := [.str (S (lit "list")), .str (S (lit "tuple")), .str (S (lit "table"))]) (PL.cons PE.lit (PL.cons PE.lit (PL.cons PE.lit PL.nil))) (show 3 ≤ sizeLine by decide)) (PE.bin (PE.bin (PE.local_ (by rfl)) PE.int_ (sem_mod _ _ (by decide))) PE.int_ (sem_sub _ _)) (sub_list (d := .str (S (kdOf (x.fmod 6)).name)) (by omega) (by omega) (kdOf_name (by omega) (by omega)))) (PE.local_ (by rfl))) (by rw [e0, Plan.pd_node])) (.inl rfl) (PX.nil (Inc.ok (inc4 (by rfl) (by rfl) (by rfl) (by rfl)))))
      · have wcall : PF c k (Str.ofString "_law_written") [.d (plan0 ps x).pd] (pstr (plan0 ps x).wr) := (pf_written c hc 102 _ ok1 ok3 (by (first | decide | assumption | exact Nat.le_trans (by assumption) (by decide) | exact Nat.le_of_lt (by assumption) | exact Nat.le_of_not_lt (by assumption) | exact Nat.lt_of_not_le (by assumption) | exact Nat.le_trans (by assumption) (by assumption) | exact Nat.lt_of_lt_of_le (by assumption) (by assumption) | exact Nat.lt_of_le_of_lt (by assumption) (by assumption) | lia | omega))).less hk
        refine PX.consMid [(Str.ofString "pieces", .own (ps.map Plan.pd)), (Str.ofString "size", .p (pint (size : Nat))), (Str.ofString "plan", .p (.d (plan1 ps x).pd))] ?_ ?_
        · refine PX1.if_ (w := decide ((100 : Int) < (plan0 ps x).wr.length)) (PT.cmp (PE.lenStr hc (PE.call (by rfl) hwdef (PL.cons (PE.local_ (by rfl)) PL.nil) wcall) (by (first | decide | assumption | exact Nat.le_trans (by assumption) (by decide) | exact Nat.le_of_lt (by assumption) | exact Nat.le_of_not_lt (by assumption) | exact Nat.lt_of_not_le (by assumption) | exact Nat.le_trans (by assumption) (by assumption) | exact Nat.lt_of_lt_of_le (by assumption) (by assumption) | exact Nat.lt_of_le_of_lt (by assumption) (by assumption) | lia | omega))) PE.int_ (sem_gt _ _)) (fun hb => ?_) (fun hb => ?_)
          · have hb' : 100 < (plan0 ps x).wr.length := by have : (100 : Int) < (plan0 ps x).wr.length := by simpa using hb
                                                          omega
            have e1 : plan1 ps x = .int ((x.fdiv 6).fmod 1000) := by unfold plan1; rw [if_pos hb']
            exact PX.cons (PX1.assign (d := .d (plan1 ps x).pd) (PE.cast (PE.list2 PE.lit (PE.bin (PE.local_ (by rfl)) PE.int_ (sem_mod _ _ (by decide)))) (by rw [e1]; rfl)) (.inl rfl) (PX.nil (Inc.ok (Inc.cons (by rfl) (Inc.cons (by rfl) (Inc.cons (by rfl) (Inc.nil _)))))))
          · have hb' : ¬ 100 < (plan0 ps x).wr.length := by have : ¬ (100 : Int) < (plan0 ps x).wr.length := by simpa using hb
                                                            omega
            have e1 : plan1 ps x = plan0 ps x := by unfold plan1; rw [if_neg hb']
            rw [e1]
            exact PX.nil (Inc.ok (Inc.cons (by rfl) (Inc.cons (by rfl) (Inc.cons (by rfl) (Inc.nil _)))))
        have wcall1 : PF c k (Str.ofString "_law_written") [.d (plan1 ps x).pd] (pstr (plan1 ps x).wr) := (pf_written c hc 102 _ (by have := piece.depth; have := piece.len; (first | lia | omega)) piece.small (by have := piece.len; (first | decide | assumption | exact Nat.le_trans (by assumption) (by decide) | exact Nat.le_of_lt (by assumption) | exact Nat.le_of_not_lt (by assumption) | exact Nat.lt_of_not_le (by assumption) | exact Nat.le_trans (by assumption) (by assumption) | exact Nat.lt_of_lt_of_le (by assumption) (by assumption) | exact Nat.lt_of_le_of_lt (by assumption) (by assumption) | lia | omega))).less hk
        have pl1 := piece.len
        refine PX.cons (PX1.append (by rfl) (ownUniq (by rfl)) (by rfl) (PE.local_ (by rfl)) (by omega) ?_)
        refine PX.cons (PX1.assign (d := pint ((stepP (ps, size) x).2 : Nat)) (PE.cast (PE.bin (PE.bin (PE.local_ (by rfl)) (PE.lenStr hc (PE.call (by rfl) hwdef (PL.cons (PE.local_ (by rfl)) PL.nil) wcall1) (by (first | decide | assumption | exact Nat.le_trans (by assumption) (by decide) | exact Nat.le_of_lt (by assumption) | exact Nat.le_of_not_lt (by assumption) | exact Nat.lt_of_not_le (by assumption) | exact Nat.le_trans (by assumption) (by assumption) | exact Nat.lt_of_lt_of_le (by assumption) (by assumption) | exact Nat.lt_of_le_of_lt (by assumption) (by assumption) | lia | omega))) (sem_add _ _)) PE.int_ (sem_add _ _)) ?_) (.inl rfl) ?_)
        · show pint _ = pint ((size + (plan1 ps x).wr.length + 2 : Nat) : Int)
          congr 2
        · have st1 : (stepP (ps, size) x).1.map Plan.pd = ps.map Plan.pd ++ [(plan1 ps x).pd] := by unfold stepP; rw [List.map_append]; rfl
          have st2 : (stepP (ps, size) x).2 = size + (plan1 ps x).wr.length + 2 := rfl
          have st3 : (stepP (ps, size) x).1.length = ps.length + 1 := by unfold stepP; simp
          have st4 : ∀ p ∈ (stepP (ps, size) x).1, Piece p := fun p hp => by
            rcases List.mem_append.mp (show p ∈ ps ++ [plan1 ps x] from hp) with h | h
            · exact hps p h
            · simp at h; rw [h]; exact piece
          have inc2 : Inc [(Str.ofString "pieces", .own ((stepP (ps, size) x).1.map Plan.pd)), (Str.ofString "size", .p (pint ((stepP (ps, size) x).2 : Nat)))] (lset (lset [(Str.ofString "pieces", .own (ps.map Plan.pd)), (Str.ofString "size", .p (pint (size : Nat))), (Str.ofString "plan", .p (.d (plan1 ps x).pd))] (Str.ofString "pieces") (.own (ps.map Plan.pd ++ [(plan1 ps x).pd]))) (Str.ofString "size") (.p (pint ((stepP (ps, size) x).2 : Nat)))) := by
            rw [st1]; exact Inc.cons (by rfl) (Inc.cons (by rfl) (Inc.nil _))
          refine PX.cons (PX1.if_ (w := decide ((300 : Int) < ((stepP (ps, size) x).2 : Nat))) (PT.cmp (PE.local_ (by rfl)) PE.int_ (sem_gt _ _)) (fun hb => ?_) (fun hb => ?_))
          · have hb' : (300 : Int) < ((stepP (ps, size) x).2 : Nat) := by simpa using hb
            exact PX.cons (PX1.brk ⟨by simp; omega, ⟨st4, by omega, by (first | lia | omega)⟩, inc2⟩)
          · have hb' : ¬ (300 : Int) < ((stepP (ps, size) x).2 : Nat) := by simpa using hb
            exact PX.nil (PX.nil ⟨by simp; omega, ⟨st4, by omega, by omega⟩, inc2⟩)
    · exact ⟨by simp, by simp, by simp⟩
    · intro lm hI hi
      refine PX.weaken ?_ hi
      refine PX.freeze (x := Str.ofString "pieces") (by rfl) (ownUniq (by rfl)) ?_
      exact PX.cons (PX1.ret (PE.local_ (by rfl)) ⟨_, rfl, fun g v h => h⟩)
    · exact Inc.cons (by rfl) (Inc.cons (by rfl) (Inc.nil _))
end Mine

/-! F9 -/
open PySem PySem.W PyProof.Rows
set_option Elab.async false
set_option maxRecDepth 100000
namespace Mine

set_option maxHeartbeats 8000000 in
theorem fmt_meets (a d : Str) (t ta td tn : Tok) (n : Int) (hn0 : 0 ≤ n) (hn1 : n < 10 ^ 10) (hd : n.natAbs.log2 < 1920) (hd' : ((n.natAbs : Nat) : Int).natAbs.log2 < 1920) (ha : a.length ≤ 1000000) (hd0 : d.length ≤ 1000000) (b : Addr) :
    Meets (Builtin.«str.__mod__» ⟨[.str ⟨#[37,115,91,37,100,32,99,104,97,114,115,93,37,115]⟩ t, .ref b], []⟩) (fun _ R s => IsTup s.heap b #[.str a ta, .int n tn, .str d td] ∧ ∀ t' k, R (.ok (.ret (.str (a ++ Str.ofString "[" ++ Str.ofString (toString n) ++ Str.ofString " chars]" ++ d) t'))) { s with toks := k }) := by
  kpt_run
theorem fmt_is : Str.ofString "%s[%d chars]%s" = ⟨#[37,115,91,37,100,32,99,104,97,114,115,93,37,115]⟩ := by decide +kernel

theorem sem_fmt {c : Cx} {k : Nat} (a d : List Nat) (n : Int) (hn0 : 0 ≤ n) (hn1 : n < 10 ^ 10) (ha : a.length ≤ 1000000) (hd0 : d.length ≤ 1000000) :
    BinSem c k .Mod (pstr (lit "%s[%d chars]%s")) (ptuple [.str (S a), .int n, .str (S d)]) (pstr (a ++ lit "[" ++ itx n ++ lit " chars]" ++ d)) := by
  intro A g s u v _ _ hs hu hv
  obtain ⟨t, rfl⟩ := rd_str hu
  obtain ⟨b, vs, m, rfl, hl, hr⟩ := rd_tuple hv
  obtain ⟨vl⟩ := vs
  obtain ⟨v1, w1, e1, r1, q1⟩ := RdAll.consL (vs := vl) hr
  obtain ⟨v2, w2, e2, r2, q2⟩ := q1.consL
  obtain ⟨v3, w3, e3, r3, q3⟩ := q2.consL
  obtain ⟨ta, f1⟩ := rd_str (show Rd g v1 (pstr a) from r1)
  obtain ⟨tn, f2⟩ := rd_int (show Rd g v2 (pint n) from r2)
  obtain ⟨td, f3⟩ := rd_str (show Rd g v3 (pstr d) from r3)
  rw [e1, e2, e3, q3.nilL, f1, f2, f3] at hl
  clear hr q1 q2 q3 r1 r2 r3
  have hT : s.TypeIs (.ref b) "tuple" := ⟨_, hs _ _ hl, rfl⟩
  have hlog : n.natAbs.log2 < 1920 := log2_small (Nat.lt_of_lt_of_le (show n.natAbs < 10 ^ 10 by omega) (Nat.pow_le_pow_right (by decide) (by decide)))
  rw [S_lit, fmt_is]
  refine wpAny_with_toks (Nat.le_refl _) (KPt.bin_left (T := "str") (U := "tuple") (op := .Mod) (by decide) (typeIs_str s _ t) hT F.fills_str_mod KPt.fills_tuple F.slot_str_mod
    (call_meets F.slot_str_mod (typeIs_str s _ t) F.entry_str_mod (F.args_str_mod_2 _ _) (fmt_meets (S a) (S d) t ta td tn n hn0 hn1 hlog (KPt.hd2 hlog) (by rw [S_length]; exact ha) (by rw [S_length]; exact hd0) b) ⟨⟨_, hs _ _ hl, rfl, m, rfl⟩, fun t' k => ⟨(fun e => nomatch e), fun ht => ?_⟩⟩))
  refine ⟨g, Grow.toks hs k ht, ?_⟩
  have e : S a ++ Str.ofString "[" ++ Str.ofString (toString n) ++ Str.ofString " chars]" ++ S d = S (a ++ lit "[" ++ itx n ++ lit " chars]" ++ d) := by
    rw [← S_lit "[", ← S_lit " chars]", ← S_lit (toString n), S_append, S_append, S_append, S_append]; rfl
  rw [e]; exact rd_mk_str _ _

/-! _shorten -/
noncomputable def shortenL (s : List Nat) (p q : Nat) : List Nat := if p + q + 12 < s.length then s.take p ++ lit "[" ++ itx ((s.length - p - q : Nat) : Int) ++ lit " chars]" ++ s.drop (s.length - q) else s
theorem shorten_def (c : Cx) (hc : Lw c) : IsDef c (Str.ofString "_shorten") := IsDef.of (d := _) (mem_at (i := 1) (by rw [hc.p]; rfl))

set_option maxHeartbeats 1000000 in
theorem pf_shorten (c : Cx) (hc : Lw c) (k : Nat) (s : List Nat) (p q : Nat) (hl : s.length ≤ 1000000) (hp : p ≤ 1000000) (hq : q ≤ 1000000) : PF c (k+1) (Str.ofString "_shorten") [pstr s, pint p, pint q] (pstr (shortenL s p q)) := by
  have hsz := sizeLine_is
  refine PF.of_body (d := _) (mem_at (i := 1) (by rw [hc.p]; rfl)) ?_ ?_ ?_ ?_
  · exact fun _ _ _ _ hl => bind3 (fun _ _ _ => rfl) hl
  · intro x hx
    simp at hx
    rcases hx with rfl | rfl | rfl <;> exact .inl rfl
  · exact fun n => once_of (by decide) n
  · dsimp only
    refine PX.cons (PX1.assign (d := pint ((s.length : Int) - p - q)) (PE.bin (PE.bin (PE.lenStr hc (PE.local_ (by rfl)) (by (first | decide | assumption | exact Nat.le_trans (by assumption) (by decide) | exact Nat.le_of_lt (by assumption) | exact Nat.le_of_not_lt (by assumption) | exact Nat.lt_of_not_le (by assumption) | exact Nat.le_trans (by assumption) (by assumption) | exact Nat.lt_of_lt_of_le (by assumption) (by assumption) | exact Nat.lt_of_le_of_lt (by assumption) (by assumption) | lia | omega))) (PE.local_ (by rfl)) (sem_sub _ _)) (PE.local_ (by rfl)) (sem_sub _ _)) (.inl rfl) ?_)
    refine PX.cons (PX1.if_ (w := decide ((12 : Int) < (s.length : Int) - p - q)) (PT.cmp (PE.local_ (by rfl)) (PE.ph12 hc) (sem_gt _ _)) (fun hb => ?_) (fun hb => PX.nil ?_))
    · have hb' : (12 : Int) < (s.length : Int) - p - q := by simpa using hb
      have hlt : p + q + 12 < s.length := by omega
      have e : shortenL s p q = s.take p ++ lit "[" ++ itx ((s.length - p - q : Nat) : Int) ++ lit " chars]" ++ s.drop (s.length - q) := by unfold shortenL; rw [if_pos hlt]
      rw [e]
      have e2 : ((s.length : Int) - p - q) = ((s.length - p - q : Nat) : Int) := by omega
      have p10 : (10 : Int) ^ 10 = 10000000000 := by decide
      refine PX.cons (PX1.assign (PE.bin PE.lit (PE.tuple (xs := [.str (S (s.take p)), .int ((s.length - p - q : Nat) : Int), .str (S (s.drop (s.length - q)))]) (PL.cons (PE.cast (PE.sliceStr (lo := none) (hi := some (p : Int)) (PE.local_ (by rfl)) trivial (PE.local_ (by rfl)) (by omega)) (by rw [cut_to])) (PL.cons (PE.cast (PE.local_ (by rfl)) (by rw [e2])) (PL.cons (PE.cast (PE.sliceStr (lo := some ((s.length : Int) - q)) (hi := none) (PE.local_ (by rfl)) (PE.bin (PE.lenStr hc (PE.local_ (by rfl)) (by omega)) (PE.local_ (by rfl)) (sem_sub _ _)) trivial (by omega)) ?_) PL.nil))) (show 3 ≤ sizeLine by decide)) (sem_fmt _ _ _ (by omega) (by rw [p10]; omega) (by rw [List.length_take]; omega) (by rw [List.length_drop]; (first | lia | omega)))) (.inl rfl) ?_)
      · rw [show (s.length : Int) - q = ((s.length - q : Nat) : Int) by (first | lia | omega), cut_from]
      · exact PX.nil (PX.cons (PX1.ret (PE.local_ (by rfl)) ⟨_, rfl, fun g v h => h⟩))
    · have hb' : ¬ (12 : Int) < (s.length : Int) - p - q := by simpa using hb
      have e : shortenL s p q = s := by unfold shortenL; rw [if_neg (by omega)]
      rw [e]
      exact PX.cons (PX1.ret (PE.local_ (by rfl)) ⟨_, rfl, fun g v h => h⟩)
end Mine

/-! En3 -/
open PySem PySem.W PyProof.Rows
set_option Elab.async false
set_option maxRecDepth 100000
namespace Mine

noncomputable def PForE (c : Cx) (k : Nat) (sc : Scope) (x y : Str) (body : List Stmt) (P : Post) : List (PyData × PyData) → LM → Prop
  | [], lm => P .next lm
  | d :: ds, lm => PX c k sc body (lset (lset lm x (.p (.d d.1))) y (.p (.d d.2))) (LoopP (fun lm'' => PForE c k sc x y body P ds lm'') P)

section
variable {c : Cx} {k : Nat} {sc : Scope} {lm lm' : LM} {P : Post}
theorem PForE.invI {x y : Str} {body : List Stmt} {ds : List (PyData × PyData)} (B : Nat → LM) (I : Nat → Prop)
    (h : ∀ i d, ds[i]? = some d → I i → PX c k sc body (lset (lset (B i) x (.p (.d d.1))) y (.p (.d d.2))) (LoopP (fun lm'' => Inc (B (i + 1)) lm'' ∧ I (i + 1)) P))
    (hend : ∀ lm, I ds.length → Inc (B ds.length) lm → P .next lm) (hI : I 0) (h0 : Inc (B 0) lm) : PForE c k sc x y body P ds lm := by
  have key : ∀ n i lm, n + i = ds.length → I i → Inc (B i) lm → PForE c k sc x y body P (ds.drop i) lm := by
    intro n
    induction n with
    | zero =>
      intro i lm hn hI hi
      have : i = ds.length := by omega
      subst this
      rw [List.drop_length]
      exact hend lm hI hi
    | succ n ih =>
      intro i lm hn hI hi
      have hlt : i < ds.length := by omega
      rw [List.drop_eq_getElem_cons hlt]
      have hb := h i ds[i] (List.getElem?_eq_getElem hlt) hI
      refine PX.weaken (hb.mono fun pf lm'' hp => ?_) ((hi.lset x _).lset y _)
      cases pf with
      | next => exact ih (i + 1) lm'' (by omega) hp.2 hp.1
      | cont => exact ih (i + 1) lm'' (by omega) hp.2 hp.1
      | brk => exact hp
      | ret r => exact hp
  have := key ds.length 0 lm rfl hI h0
  simpa using this

noncomputable def signsD (l : List Nat) : List (PyData × PyData) := l.mapIdx fun i c => (.int (i : Int), .str (S [c]))

/-- a for over pairs -/
theorem pair_walk {A : Around} {env : Env} {g₀ q g₁ : Heap} {s₀ s₂ : Shared} {x y : Str} {px py tp : Pos} {tq N : Nat} {body : List Stmt} {ds : List (PyData × PyData)} {En : Addr} {wr fp : List Addr} {Pt : Nat → Array Value → Prop} {St : Nat → Heap → Prop} {Mid : Nat → Addr → Heap → Prop} {R : Result → Shared → Prop}
    (a₂ : AtS c k sc lm A env g₀ s₀ q g₁ s₂) (W : WalksT c.prog c.w A En fp wr N Pt St Mid) (hst : St 0 s₂.heap) (hfp : ∀ b ∈ fp, b ∈ wr) (fldS : ∀ i h, St i h → ∀ b ∈ wr, Fld h b) (fldM : ∀ i T h, Mid i T h → ∀ b ∈ wr, Fld h b)
    (item : ∀ i vals, Pt i vals → ∃ v₁ v₂ d, vals = #[v₁, v₂] ∧ (∀ g, Rd g v₁ (.d d.1)) ∧ (∀ g, Rd g v₂ (.d d.2)) ∧ ds[i]? = some d) (hN : ds.length = N)
    (hx : sc.names.lookup x = some .local ∨ sc.names.lookup x = some .cell) (hy : sc.names.lookup y = some .local ∨ sc.names.lookup y = some .cell)
    (hq : ∀ b ∈ wr, g₁.get? b = none ∧ q.get? b = none ∧ s₀.heap.get? b = none) (h : PForE c k sc x y body P ds lm)
    (hR : ∀ g' lm' s' f pf, FlowOk g' f pf → Sub g₁ g' → AtS c k sc lm' A env g₀ s₀ q g' s' → P pf lm' → R (.ok f) s') :
    codeAny c.M A (.forLoop (.Tuple [.Name x px, .Name y py] tq tp) (.ref En) body [] env) R s₂ := by
  refine codeAny_forLoop_any (fun n s' => ∃ i g' lm', n = N + 1 - i ∧ FInv c k sc A env g₀ s₀ q g₁ wr St N (fun i lm => PForE c k sc x y body P (ds.drop i) lm) i g' lm' s') ?_ (N + 1)
    ⟨0, g₁, lm, rfl, Nat.zero_le _, hst, Sub.refl _, a₂, fun b hb => (hq b hb).1, h⟩
  rintro n s' ⟨i, g', lm', rfl, V⟩
  have hw : ∀ b ∈ wr, g'.get? b = none ∧ q.get? b = none ∧ s₀.heap.get? b = none := fun b hb => ⟨V.off b hb, (hq b hb).2⟩
  by_cases hlt : i < N
  · refine wpAny_with_toks (Nat.le_refl _) (W.item i s' _ _ hlt V.st fun T vals h₃ tk₃ hv hT hTup hmid hk₃ ht₃ => ?_)
    have a₃ := V.at_.but hk₃ ht₃ hw (fldS i _ V.st)
    refine W.go [.Name x px, .Name y py] tq tp i T { s' with heap := h₃, toks := tk₃ } _ _ hmid fun h₄ hst₄ hk₄ => ?_
    have a₄ := a₃.but (tk := tk₃) hk₄ (Nat.le_refl _) hw (fldM i T h₃ hmid)
    have hTup₄ : h₄.IsTuple T vals := hTup.imp fun o h => ⟨hk₄ T o (W.apart i T h₃ hmid) h.1, h.2⟩
    obtain ⟨v₁, v₂, d, rfl, r₁, r₂, hd⟩ := item i vals hv
    refine wpAny_assign_Tuple a₂.room.1 hTup₄ rfl rfl fun h₅ he₅ => ?_
    have hkeep₅ : Sub h₄ h₅ := fun b o e => he₅ b o (live_lt e) e
    have a₅ := a₄.grow (grow_any a₄.run.sub hkeep₅ (Nat.le_refl tk₃))
    have hst₅ : St (i + 1) h₅ := W.frame _ _ _ hst₄ fun b _ o e => hkeep₅ b o e
    have hp := V.pf
    have hlt' : i < ds.length := hN ▸ hlt
    rw [List.drop_eq_getElem_cons hlt', Option.some.inj ((List.getElem?_eq_getElem hlt').symm.trans hd)] at hp
    refine wpAny_assignInOrder_more (wpAny_mono (PAs.name (d := .d d.1) hx A env g₀ s₀ _ g' _ v₁ (a₅.guard V.off (fldS _ _ hst₅)) (r₁ _)) (fun _ s₆ ⟨g₆, a₆, hg₆⟩ => ?_) fun _ _ x => x.elim)
    refine wpAny_assignInOrder_more (wpAny_mono (PAs.name (d := .d d.2) hy A env g₀ s₀ _ g₆ s₆ v₂ a₆ (r₂ _)) (fun _ s₇ ⟨g₇, a₇, hg₇⟩ => wpAny_assignInOrder_none ?_) fun _ _ x => x.elim)
    have sq := guard_sub (wr := wr) a₅.run.subq
    have hgg := V.up.trans (hg₆.trans hg₇)
    refine PX.turn (X := PForE c k sc x y body P (ds.drop (i + 1))) hp a₇ (fun g₈ lm₈ s₈ hg₈ a₈ hpf => ⟨N + 1 - (i + 1), Nat.sub_lt_sub_left (Nat.lt_succ_of_lt hlt) (Nat.lt_succ_self i), i + 1, g₈, lm₈, rfl, hlt, ?_, hgg.trans hg₈, a₈.unguard sq, fun b hb => ?_, hpf⟩)
      fun g₈ lm₈ s₈ f pf hf hg₈ a₈ hpf => hR g₈ lm₈ s₈ f pf hf (hgg.trans hg₈) (a₈.unguard sq) hpf
    · exact W.frame _ _ _ hst₅ fun b hb o e => a₈.run.subq b o (guard_in (hfp b hb) e)
    · obtain ⟨o, vs, e, _⟩ := fldS _ _ hst₅ b hb
      exact a₈.run.gq b fun h => none_ne h (guard_in hb e)
  · have hi : N ≤ i := Nat.le_of_not_lt hlt
    have hp := V.pf
    rw [List.drop_of_length_le (hN ▸ hi)] at hp
    refine wpAny_with_toks (Nat.le_refl _) (W.done s' _ _ (Nat.le_antisymm V.le hi ▸ V.st) fun h₁ tk₁ hk₁ ht₁ => ?_)
    exact wpAny_execs_nil (hR g' lm' _ .next .next trivial V.up (V.at_.but hk₁ ht₁ hw (fldS i _ V.st)) hp)

theorem PX1.forEnum {x y : Str} {np px py tp pos cp : Pos} {tq : Nat} {e : Expr} {body : List Stmt} {l : List Nat} (h2 : sc.names.lookup (Str.ofString "enumerate") = some .globalImplicit) (m2 : c.mg (Str.ofString "enumerate") = none) (he : PE c k sc lm e (pstr l))
    (hx : sc.names.lookup x = some .local ∨ sc.names.lookup x = some .cell) (hy : sc.names.lookup y = some .local ∨ sc.names.lookup y = some .cell)
    (h : PForE c k sc x y body P (signsD l) lm) (hse : ∀ env, starEach [e] env = [(false, eval e env)] := by intro _; rfl)
    (hs : ∀ env x, foldedSetIterable (.Call (.Name (Str.ofString "enumerate") np) [e] [] cp) env x = pure x := by intros; rfl) :
    PX1 c k sc (.For (.Tuple [.Name x px, .Name y py] tq tp) (.Call (.Name (Str.ofString "enumerate") np) [e] [] cp) body [] pos) lm P := by
  intro A env g₀ s₀ q g s a
  refine wpAny_For (wpAny_Call_NameR ?_) (hs env)
  have at' := a.toAt
  refine at'.bn h2 m2 (show bootBuiltins (Str.ofString "enumerate") = some (.type "enumerate") by kernel_rfl) ?_
  refine PyProof.Rows.callWith_type1 (gr_go ((PL.cons he PL.nil hse) A env g s cp at') (fun vs s₁ g₁ G₁ hv => ?_)) (hse env) (by rfl)
  obtain ⟨v, hvs, hw⟩ := rdl1 hv
  obtain ⟨t, hvt⟩ := rd_str hw
  rw [hvs, hvt]
  have a₁ := a.grow G₁
  refine call_enumerate_str fun h₂ e₂ i₂ sz₂ k₂ => wpAny_pyIter_enum e₂ ?_
  have hnone := get?_size_none s₁.heap
  have hnone' : s₁.heap.get? (s₁.heap.objs.size + 1) = none := Heap.get?_none_of_le (Nat.le_succ _)
  have hne : s₁.heap.objs.size + 1 ≠ s₁.heap.objs.size := Nat.succ_ne_self _
  have hlen : (S l).cps.size = l.length := List.size_toArray
  have D : Draws c.prog c.w A.in1 s₁.heap.objs.size [s₁.heap.objs.size] (S l).cps.size (fun i v => ∃ z u, (S l).cps[i]? = some z ∧ v = .str ⟨#[z]⟩ u) (fun i h => h.IsStrIter s₁.heap.objs.size (strIterType (S l)) (S l) t i) := by
    unfold strIterType
    split
    · exact Draws.strAscii (A := A.in1) a.room.1 _ (S l) t
    · exact Draws.strWide (A := A.in1) a.room.1 _ (S l) t
  refine pair_walk (a₁.grow (grow_any a₁.run.sub k₂ (Nat.le_refl _))) (WalksT.enumerateD D _ hne (fun h => hne (List.mem_singleton.mp h)) (List.mem_singleton_self _)) ⟨⟨_, e₂⟩, i₂⟩ (fun b hb => hb) (fun i h st b hb => ?_) (fun i T h st b hb => ?_) (fun i vals hv => ?_) ?_ hx hy (fun b hb => ?_) h
    fun g' lm' s' f pf hf hg a' hp => ⟨g', lm', pf, hf, G₁.sub.trans hg, a', hp⟩
  · rcases List.mem_cons.mp hb with e | hb
    · rw [e]; exact ⟨_, _, st.1.choose_spec, rfl⟩
    · exact (List.mem_singleton.mp hb).symm ▸ (let ⟨o, h1, _, h2⟩ := st.2; ⟨o, _, h1, h2⟩ : Fld h s₁.heap.objs.size)
  · rcases List.mem_cons.mp hb with e | hb
    · rw [e]; exact ⟨_, _, st.1.choose_spec, rfl⟩
    · exact (List.mem_singleton.mp hb).symm ▸ (let ⟨o, h1, _, h2⟩ := st.2.1; ⟨o, _, h1, h2⟩ : Fld h s₁.heap.objs.size)
  · obtain ⟨t', xv, ⟨z, u, hz, rfl⟩, rfl⟩ := hv
    refine ⟨_, _, (.int (i : Int), .str (S [z])), rfl, fun _ => rd_mk_int _ _, fun _ => rd_mk_str _ _, ?_⟩
    have hz' : l[i]? = some z := by rw [← hz]; exact List.getElem?_toArray.symm
    unfold signsD; rw [List.getElem?_mapIdx, hz']; rfl
  · unfold signsD; rw [List.length_mapIdx, hlen]
  · have this : s₁.heap.get? b = none := (List.mem_cons.mp hb).elim (fun e => e ▸ hnone') fun hb => List.mem_singleton.mp hb ▸ hnone
    exact ⟨sub_get_none a₁.run.sub this, sub_get_none a₁.run.subq this, sub_get_none a₁.run.grow.keep this⟩
end
end Mine

/-! F10 -/
open PySem PySem.W PyProof.Rows
set_option Elab.async false
set_option maxRecDepth 100000
namespace Mine

/-! the least and the greatest text -/
theorem best_lt (f : Nat → List Nat) : ∀ k, argBest (fun i j => decide (f i < f j)) k ≤ k ∧ ∀ j, j ≤ k → ¬ f j < f (argBest (fun i j => decide (f i < f j)) k)
  | 0 => ⟨Nat.le_refl _, fun j hj => by
      have : j = 0 := by omega
      subst this; exact List.lt_irrefl _⟩
  | k + 1 => by
    obtain ⟨h1, h2⟩ := best_lt f k
    simp only [argBest]
    by_cases hc : f (k + 1) < f (argBest (fun i j => decide (f i < f j)) k)
    · rw [if_pos (by simpa using hc)]
      refine ⟨Nat.le_refl _, fun j hj => ?_⟩
      rcases Nat.lt_or_ge j (k + 1) with hlt | hge
      · exact fun h => h2 j (by omega) (List.lt_trans h hc)
      · have : j = k + 1 := by omega
        subst this; exact List.lt_irrefl _
    · rw [if_neg (by simpa using hc)]
      refine ⟨by omega, fun j hj => ?_⟩
      rcases Nat.lt_or_ge j (k + 1) with hlt | hge
      · exact h2 j (by omega)
      · have : j = k + 1 := by omega
        subst this; exact hc
theorem best_gt (f : Nat → List Nat) : ∀ k, argBest (fun i j => decide (f j < f i)) k ≤ k ∧ ∀ j, j ≤ k → ¬ f (argBest (fun i j => decide (f j < f i)) k) < f j
  | 0 => ⟨Nat.le_refl _, fun j hj => by
      have : j = 0 := by omega
      subst this; exact List.lt_irrefl _⟩
  | k + 1 => by
    obtain ⟨h1, h2⟩ := best_gt f k
    simp only [argBest]
    by_cases hc : f (argBest (fun i j => decide (f j < f i)) k) < f (k + 1)
    · rw [if_pos (by simpa using hc)]
      refine ⟨Nat.le_refl _, fun j hj => ?_⟩
      rcases Nat.lt_or_ge j (k + 1) with hlt | hge
      · exact fun h => h2 j (by omega) (List.lt_trans hc h)
      · have : j = k + 1 := by omega
        subst this; exact List.lt_irrefl _
    · rw [if_neg (by simpa using hc)]
      refine ⟨by omega, fun j hj => ?_⟩
      rcases Nat.lt_or_ge j (k + 1) with hlt | hge
      · exact h2 j (by omega)
      · have : j = k + 1 := by omega
        subst this; exact hc

section
variable {c : Cx} {k : Nat} {sc : Scope} {lm : LM}

theorem strs_get {g : Heap} {vs : List Value} {ts : List (List Nat)} (h : RdAll g vs (wsD ts)) {i : Nat} {v : Value} (hv : vs[i]? = some v) : ∃ t, v = .str (S (ts.getD i [])) t := by
  have hl := h.length
  rw [List.length_map] at hl
  have hi : i < vs.length := by
    rcases Nat.lt_or_ge i vs.length with h | h
    · exact h
    · rw [List.getElem?_eq_none h] at hv; cases hv
  have hd : (wsD ts)[i]? = some (.str (S (ts.getD i []))) := by
    rw [List.getElem?_map, List.getElem?_eq_getElem (by omega), List.getD_eq_getElem?_getD, List.getElem?_eq_getElem (by omega)]; rfl
  exact rd_str (h.get i v _ hv hd)
theorem cmp_lt_strs {prog : Program} {w : World} {A : Around} {P : Nat → Value → Prop} (f : Nat → List Nat) (h : ∀ i v, P i v → ∃ t, v = .str (S (f i)) t) : CmpOf prog w A .Lt P (fun i j => decide (f i < f j)) := fun i j vi vj s Q E hi hj hq => by
  obtain ⟨t, rfl⟩ := h i vi hi
  obtain ⟨u, rfl⟩ := h j vj hj
  refine richCompare_gives (op := .Lt) (typeIs_str s _ t) (typeIs_str s _ u) F.slot_str_lt F.entry_str_lt (F.args_str_lt_2 _ _) (gives_str_lt _ _ t u) (fun x => nomatch x) ?_
  exact hq
theorem cmp_gt_strs {prog : Program} {w : World} {A : Around} {P : Nat → Value → Prop} (f : Nat → List Nat) (h : ∀ i v, P i v → ∃ t, v = .str (S (f i)) t) : CmpOf prog w A .Gt P (fun i j => decide (f j < f i)) := fun i j vi vj s Q E hi hj hq => by
  obtain ⟨t, rfl⟩ := h i vi hi
  obtain ⟨u, rfl⟩ := h j vj hj
  refine richCompare_gives (op := .Gt) (typeIs_str s _ t) (typeIs_str s _ u) F.slot_str_gt F.entry_str_gt (F.args_str_gt_2 _ _) (gives_str_gt _ _ t u) (fun x => nomatch x) ?_
  exact hq

theorem getD_get {ts : List (List Nat)} {t : List Nat} (h : t ∈ ts) : ∃ i, i < ts.length ∧ ts.getD i [] = t := by
  obtain ⟨i, hi, e⟩ := List.mem_iff_getElem.mp h
  exact ⟨i, hi, by rw [List.getD_eq_getElem?_getD, List.getElem?_eq_getElem hi]; exact e⟩

theorem call_min_strs (ts : List (List Nat)) (M : List Nat) (h1 : M ∈ ts) (h2 : ∀ t ∈ ts, ¬ t < M) : CallSem c k (.builtin "min") [ptuple (wsD ts)] (pstr M) := by
  intro A g s vs hr _ hs hv
  obtain ⟨v, rfl, hw⟩ := rdl1 hv
  obtain ⟨l, us, n, rfl, hl, hra⟩ := rd_tuple hw
  have hlen := hra.length
  rw [List.length_map, Array.length_toList] at hlen
  have hl' : s.heap.IsTuple l us := ⟨_, hs _ _ hl, rfl, n, rfl⟩
  have hne : 0 < us.size := by
    have := List.length_pos_of_mem h1; omega
  have hli := live_lt (hs _ _ hl)
  have hlI : l < s.heap.objs.size := Heap.lt_size (hs _ _ hl)
  refine wpAny_with_toks (Nat.le_refl _) (call_min_walk (wpAny_pyIter_tuple hl' ?_))
  refine ⟨s.heap.objs.size, [s.heap.objs.size, l], [s.heap.objs.size], us.size, _, _, _, rfl, Walks.tuple (A := A.in1) hr.1 s.heap.objs.size l hli us, ⟨⟨_, Heap.get?_push_size _ rfl, rfl, rfl⟩, hl'.at fun o e => Heap.get?_push_of_some _ e⟩, fun b hb => ?_, hne, cmp_lt_strs (fun i => ts.getD i []) (fun i v hv => strs_get hra (by simpa using hv)), fun v h' tk hv hk ht => ?_⟩
  · show b < (s.heap.push _).objs.size
    rw [Heap.size_push]
    simp at hb
    rcases hb with rfl | rfl
    · exact Nat.lt_succ_self _
    · exact Nat.lt_succ_of_lt hlI
  · obtain ⟨t, rfl⟩ := strs_get hra (i := argBest (fun i j => decide (ts.getD i [] < ts.getD j [])) (us.size - 1)) (by simpa using hv)
    obtain ⟨k1, k2⟩ := best_lt (fun i => ts.getD i []) (us.size - 1)
    have e : ts.getD (argBest (fun i j => decide (ts.getD i [] < ts.getD j [])) (us.size - 1)) [] = M := by
      have m1 : ts.getD (argBest (fun i j => decide (ts.getD i [] < ts.getD j [])) (us.size - 1)) [] ∈ ts := by
        rw [List.getD_eq_getElem?_getD, List.getElem?_eq_getElem (by omega)]; exact List.getElem_mem _
      obtain ⟨j, hj, ej⟩ := getD_get h1
      have m2 := k2 j (by omega)
      rw [ej] at m2
      exact List.le_antisymm (show ¬ M < _ from m2) (show ¬ _ < M from h2 _ m1)
    refine ⟨g, grow_any hs (fun b o e => hk b o (by simp; exact live_lt e) (Heap.get?_push_of_some _ e)) ht, ?_⟩
    rw [e]; exact rd_mk_str _ _
theorem call_max_strs (ts : List (List Nat)) (M : List Nat) (h1 : M ∈ ts) (h2 : ∀ t ∈ ts, ¬ M < t) : CallSem c k (.builtin "max") [ptuple (wsD ts)] (pstr M) := by
  intro A g s vs hr _ hs hv
  obtain ⟨v, rfl, hw⟩ := rdl1 hv
  obtain ⟨l, us, n, rfl, hl, hra⟩ := rd_tuple hw
  have hlen := hra.length
  rw [List.length_map, Array.length_toList] at hlen
  have hl' : s.heap.IsTuple l us := ⟨_, hs _ _ hl, rfl, n, rfl⟩
  have hne : 0 < us.size := by
    have := List.length_pos_of_mem h1; omega
  have hli := live_lt (hs _ _ hl)
  have hlI : l < s.heap.objs.size := Heap.lt_size (hs _ _ hl)
  refine wpAny_with_toks (Nat.le_refl _) (call_max_walk (wpAny_pyIter_tuple hl' ?_))
  refine ⟨s.heap.objs.size, [s.heap.objs.size, l], [s.heap.objs.size], us.size, _, _, _, rfl, Walks.tuple (A := A.in1) hr.1 s.heap.objs.size l hli us, ⟨⟨_, Heap.get?_push_size _ rfl, rfl, rfl⟩, hl'.at fun o e => Heap.get?_push_of_some _ e⟩, fun b hb => ?_, hne, cmp_gt_strs (fun i => ts.getD i []) (fun i v hv => strs_get hra (by simpa using hv)), fun v h' tk hv hk ht => ?_⟩
  · show b < (s.heap.push _).objs.size
    rw [Heap.size_push]
    simp at hb
    rcases hb with rfl | rfl
    · exact Nat.lt_succ_self _
    · exact Nat.lt_succ_of_lt hlI
  · obtain ⟨t, rfl⟩ := strs_get hra (i := argBest (fun i j => decide (ts.getD j [] < ts.getD i [])) (us.size - 1)) (by simpa using hv)
    obtain ⟨k1, k2⟩ := best_gt (fun i => ts.getD i []) (us.size - 1)
    have e : ts.getD (argBest (fun i j => decide (ts.getD j [] < ts.getD i [])) (us.size - 1)) [] = M := by
      have m1 : ts.getD (argBest (fun i j => decide (ts.getD j [] < ts.getD i [])) (us.size - 1)) [] ∈ ts := by
        rw [List.getD_eq_getElem?_getD, List.getElem?_eq_getElem (by omega)]; exact List.getElem_mem _
      obtain ⟨j, hj, ej⟩ := getD_get h1
      have m2 := k2 j (by omega)
      rw [ej] at m2
      exact List.le_antisymm (show ¬ M < _ from h2 _ m1) (show ¬ _ < M from m2)
    refine ⟨g, grow_any hs (fun b o e => hk b o (by simp; exact live_lt e) (Heap.get?_push_of_some _ e)) ht, ?_⟩
    rw [e]; exact rd_mk_str _ _
end
end Mine

/-! F11 -/
open PySem PySem.W PyProof.Rows
set_option Elab.async false
set_option maxRecDepth 100000
namespace Mine

/-! _kind, _fspath -/
theorem kind_def (c : Cx) (hc : Lw c) : IsDef c (Str.ofString "_kind") := IsDef.of (d := _) (mem_at (i := 2) (by rw [hc.p]; rfl))
theorem fspath_def (c : Cx) (hc : Lw c) : IsDef c (Str.ofString "_fspath") := IsDef.of (d := _) (mem_at (i := 3) (by rw [hc.p]; rfl))
theorem prefix_def (c : Cx) (hc : Lw c) : IsDef c (Str.ofString "_prefix") := IsDef.of (d := _) (mem_at (i := 4) (by rw [hc.p]; rfl))
theorem cp_def (c : Cx) (hc : Lw c) : IsDef c (Str.ofString "commonprefix") := IsDef.of (d := _) (mem_at (i := 5) (by rw [hc.p]; rfl))
theorem l_empty : lit "" = [] := by unfold lit; decide +kernel

theorem pf_kind (c : Cx) (hc : Lw c) (k : Nat) (nm x : List Nat) : PF c (k+1) (Str.ofString "_kind") [pstr nm, pstr x] (pstr []) := by
  refine PF.of_body (d := _) (mem_at (i := 2) (by rw [hc.p]; rfl)) ?_ ?_ ?_ ?_
  · exact fun _ _ _ _ hl => bind2 (fun _ _ => rfl) hl
  · intro x hx
    simp at hx
    rcases hx with rfl | rfl <;> exact .inl rfl
  · exact fun n => once_of (by decide) n
  · dsimp only
    refine PX.cons (PX1.assign (PE.typeStr hc (PE.local_ (by rfl))) (.inl rfl) ?_)
    refine PX.cons (PX1.if_ (w := true) (PT.cast (PT.cmp (PE.local_ (by rfl)) (PE.tyStr hc) (sem_is_ty _ _)) (by decide)) (fun _ => ?_) (fun h => nomatch h))
    exact PX.cons (PX1.ret PE.lit ⟨_, rfl, fun g v h => by rw [← l_empty]; exact h⟩)

theorem pf_fspath (c : Cx) (hc : Lw c) (k : Nat) (nm x : List Nat) : PF c (k+2) (Str.ofString "_fspath") [pstr nm, pstr x] (pstr x) := by
  refine PF.of_body (d := _) (mem_at (i := 3) (by rw [hc.p]; rfl)) ?_ ?_ ?_ ?_
  · exact fun _ _ _ _ hl => bind2 (fun _ _ => rfl) hl
  · intro x hx
    simp at hx
    rcases hx with rfl | rfl <;> exact .inl rfl
  · exact fun n => once_of (by decide) n
  · dsimp only
    refine PX.cons (PX1.assign (PE.call (by rfl) (kind_def c hc) (PL.cons (PE.local_ (by rfl)) (PL.cons (PE.local_ (by rfl)) PL.nil)) (pf_kind c hc k nm x)) (.inl rfl) ?_)
    refine PX.cons (PX1.if_ (w := false) (PT.cast (PT.value (PE.local_ (by rfl)) (tru_str [] (by decide))) (by rfl)) (fun h => nomatch h) (fun _ => PX.nil ?_))
    exact PX.cons (PX1.ret (PE.local_ (by rfl)) ⟨_, rfl, fun g v h => h⟩)

/-! _prefix -/
noncomputable def lcp : List Nat → List Nat → List Nat
  | x :: xs, y :: ys => if x = y then x :: lcp xs ys else []
  | _, _ => []
theorem lcp_at : ∀ (i : Nat) (a b : List Nat), a.take i = b.take i → i < a.length → i < b.length → a.getD i 0 ≠ b.getD i 0 → lcp a b = a.take i
  | 0, x :: xs, y :: ys, _, _, _, h => by
    have : x ≠ y := by simpa using h
    unfold lcp
    rw [if_neg this]; rfl
  | i + 1, x :: xs, y :: ys, h, h1, h2, h3 => by
    simp only [List.take_succ_cons, List.cons.injEq] at h
    unfold lcp
    rw [if_pos h.1, List.take_succ_cons, lcp_at i xs ys h.2 (by simpa using h1) (by simpa using h2) (by simpa using h3)]
  | _, [], _, _, h, _, _ => by simp at h
  | _, _ :: _, [], _, _, h, _ => by simp at h
theorem lcp_all : ∀ (a b : List Nat), a = b.take a.length → lcp a b = a
  | [], _, _ => by unfold lcp; rfl
  | x :: xs, [], h => by simp at h
  | x :: xs, y :: ys, h => by
    simp only [List.length_cons, List.take_succ_cons, List.cons.injEq] at h
    unfold lcp
    rw [if_pos h.1, lcp_all xs ys h.2]
/-- a text that begins as a greater one does not outrun it -/
theorem not_outrun : ∀ (i : Nat) (a b : List Nat), ¬ b < a → a.take i = b.take i → i < a.length → i < b.length
  | 0, x :: xs, [], h, _, _ => absurd (List.nil_lt_cons x xs) h
  | 0, x :: xs, y :: ys, _, _, _ => by simp
  | i + 1, x :: xs, [], h, _, _ => absurd (List.nil_lt_cons x xs) h
  | i + 1, x :: xs, y :: ys, h, h1, h2 => by
    simp only [List.take_succ_cons, List.cons.injEq] at h1
    obtain ⟨e, h1⟩ := h1
    subst e
    have := not_outrun i xs ys (fun hh => h (List.cons_lt_cons_self.mpr hh)) h1 (by simpa using h2)
    simpa using this
  | _, [], _, _, _, h => by simp at h

set_option maxHeartbeats 1000000 in
theorem pf_prefix (c : Cx) (hc : Lw c) (k : Nat) (ts : List (List Nat)) (mn mx : List Nat) (h1 : mn ∈ ts) (h2 : ∀ t ∈ ts, ¬ t < mn) (h3 : mx ∈ ts) (h4 : ∀ t ∈ ts, ¬ mx < t) (hl : ∀ t ∈ ts, t.length ≤ 1000000) :
    PF c (k+1) (Str.ofString "_prefix") [ptuple (wsD ts)] (pstr (lcp mn mx)) := by
  have hsz := sizeLine_is
  have l1 := hl mn h1
  have l2 := hl mx h3
  have hord : ¬ mx < mn := h2 mx h3
  refine PF.of_body (d := _) (mem_at (i := 4) (by rw [hc.p]; rfl)) ?_ ?_ ?_ ?_
  · exact fun _ _ _ _ hl => bind1 (fun _ => rfl) hl
  · intro x hx
    simp at hx
    subst hx; exact .inl rfl
  · exact fun n => once_of (by decide) n
  · dsimp only
    refine PX.cons (PX1.assign (PE.callB (by rfl) hc.min bb_min (PL.cons (PE.local_ (by rfl)) PL.nil) (call_min_strs ts mn h1 h2)) (.inl rfl) ?_)
    refine PX.cons (PX1.assign (PE.callB (by rfl) hc.max bb_max (PL.cons (PE.local_ (by rfl)) PL.nil) (call_max_strs ts mx h3 h4)) (.inl rfl) ?_)
    refine PX.cons (PX1.forEnum (l := mn) (by rfl) hc.enumerate (PE.local_ (by rfl)) (.inl rfl) (.inl rfl) (PForE.invI (fun _ => [(Str.ofString "s1", .p (pstr mn)), (Str.ofString "s2", .p (pstr mx))]) (fun i => mn.take i = mx.take i) ?_ ?_ ?_ ?_))
    · intro i d hd hI
      unfold signsD at hd
      rw [List.getElem?_mapIdx] at hd
      cases hz : mn[i]? with
      | none => rw [hz] at hd; cases hd
      | some z =>
        rw [hz] at hd; cases hd
        have hi : i < mn.length := by
          rcases Nat.lt_or_ge i mn.length with h | h
          · exact h
          · rw [List.getElem?_eq_none h] at hz; cases hz
        have hi2 := not_outrun i mn mx hord hI hi
        have hz2 : mx[i]? = some (mx.getD i 0) := by rw [List.getD_eq_getElem?_getD, List.getElem?_eq_getElem hi2]; rfl
        have hz1 : mn.getD i 0 = z := by rw [List.getD_eq_getElem?_getD, hz]; rfl
        refine PX.cons (PX1.if_ (w := ([z] != [mx.getD i 0])) (PT.cmp (PE.local_ (by rfl)) (PE.sub (PE.local_ (by rfl)) (PE.local_ (by rfl)) (sub_str (x := mx.getD i 0) (by (first | lia | omega)) (by omega) (by rw [Int.toNat_natCast]; exact hz2))) (sem_str_ne _ _)) (fun hb => ?_) (fun hb => ?_))
        · have hne : z ≠ mx.getD i 0 := by simpa using hb
          refine PX.cons (PX1.ret (PE.cast (PE.sliceStr (lo := none) (hi := some (i : Int)) (PE.local_ (by rfl)) trivial (PE.local_ (by rfl)) (by (first | decide | assumption | exact Nat.le_trans (by assumption) (by decide) | exact Nat.le_of_lt (by assumption) | exact Nat.le_of_not_lt (by assumption) | exact Nat.lt_of_not_le (by assumption) | exact Nat.le_trans (by assumption) (by assumption) | exact Nat.lt_of_lt_of_le (by assumption) (by assumption) | exact Nat.lt_of_le_of_lt (by assumption) (by assumption) | lia | omega))) (by rw [cut_to])) ⟨_, rfl, fun g v h => ?_⟩)
          rw [lcp_at i mn mx hI hi hi2 (by rw [hz1]; exact hne)]; exact h
        · have he : z = mx.getD i 0 := by simpa using hb
          refine PX.nil (PX.nil ⟨Inc.cons (by rfl) (Inc.cons (by rfl) (Inc.nil _)), ?_⟩)
          rw [List.take_add_one, List.take_add_one, hz, hz2, hI, he]
    · intro lm hI hi
      refine PX.weaken ?_ hi
      have hdl : (signsD mn).length = mn.length := by unfold signsD; simp
      rw [hdl, List.take_length] at hI
      refine PX.cons (PX1.ret (PE.local_ (by rfl)) ⟨_, rfl, fun g v h => ?_⟩)
      rw [lcp_all mn mx hI]; exact h
    · rfl
    · exact Inc.cons (by rfl) (Inc.cons (by rfl) (Inc.nil _))

set_option maxHeartbeats 1000000 in
theorem pf_commonprefix (c : Cx) (hc : Lw c) (k : Nat) (ts : List (List Nat)) (mn mx : List Nat) (h1 : mn ∈ ts) (h2 : ∀ t ∈ ts, ¬ t < mn) (h3 : mx ∈ ts) (h4 : ∀ t ∈ ts, ¬ mx < t) (hl : ∀ t ∈ ts, t.length ≤ 1000000) (hn : ts.length ≤ 10000) :
    PF c (k+3) (Str.ofString "commonprefix") [ptuple (wsD ts)] (pstr (lcp mn mx)) := by
  have hsz := sizeLine_is
  have hlen : (wsD ts).length = ts.length := List.length_map ..
  obtain ⟨t0, r, rfl⟩ : ∃ t0 r, ts = t0 :: r := by
    cases ts with
    | nil => simp at h1
    | cons a b => exact ⟨a, b, rfl⟩
  refine PF.of_body (d := _) (mem_at (i := 5) (by rw [hc.p]; rfl)) ?_ ?_ ?_ ?_
  · exact fun _ _ _ _ hl => bind1 (fun _ => rfl) hl
  · intro x hx
    simp at hx
    subst hx; exact .inl rfl
  · exact fun n => once_of (by decide) n
  · dsimp only
    refine PX.cons (PX1.if_ (w := false) (PT.cast (PT.boolOp (PAll.and (PT.cmp (PE.typeTuple hc (PE.local_ (by rfl))) (PE.tyList hc) (sem_isnot_ty _ _)) (fun _ => PAll.and (PT.cmp (PE.typeTuple hc (PE.local_ (by rfl))) (PE.tyTuple hc) (sem_isnot_ty _ _)) (fun _ => PAll.andNil)))) (by decide)) (fun h => nomatch h) (fun _ => PX.nil ?_))
    refine PX.cons (PX1.if_ (w := false) (PT.cast (PT.not (PT.value (PE.local_ (by rfl)) (tru_tuple (wsD (t0 :: r)) (by omega)))) (by rfl)) (fun h => nomatch h) (fun _ => PX.nil ?_))
    refine PX.cons (PX1.assign (PE.typeStr hc (l := t0) (PE.sub (PE.local_ (by rfl)) PE.int_ (sub_tuple (d := .str (S t0)) (by decide) (by decide) (by rfl)))) (.inl rfl) ?_)
    refine PX.cons (PX1.if_ (w := false) (PT.cast (PT.boolOp (PAll.or (PT.cmp (PE.local_ (by rfl)) (PE.tyList hc) (sem_is_ty _ _)) (fun _ => PAll.or (PT.cmp (PE.local_ (by rfl)) (PE.tyTuple hc) (sem_is_ty _ _)) (fun _ => PAll.orNil)))) (by decide)) (fun h => nomatch h) (fun _ => PX.nil ?_))
    refine PX.cons (PX1.for_ (PIt.of_tuple (PE.local_ (by rfl))) (PFor.inv (fun _ => [(Str.ofString "m", .p (ptuple (wsD (t0 :: r))))]) ?_ ?_ ?_))
    · intro i d hd
      obtain ⟨_, hd1, rfl, _⟩ := map_get hd
      obtain ⟨w, hd2, rfl, hlt⟩ := map_get hd1
      refine ⟨_, PAs.name (.inl rfl), ?_⟩
      refine PX.cons (PX1.exprStr (PE.call (by rfl) (kind_def c hc) (PL.cons PE.lit (PL.cons (PE.local_ (by rfl)) PL.nil)) ((pf_kind c hc k _ w).less (by (first | lia | omega)))) (PX.nil ?_))
      exact Inc.cons (by rfl) (Inc.nil _)
    · intro lm hi
      refine PX.weaken ?_ hi
      refine PX.cons (PX1.ret (PE.call (by rfl) (prefix_def c hc) (PL.cons (PE.tupleOf hc (l := wsD (t0 :: r)) (PE.comp (rs := wsD (t0 :: r)) (PIt.of_tuple (PE.local_ (by rfl))) (CompOk.of rfl (by decide) (by decide) (by decide) (by rfl)) (by simp) (by omega) (fun i d r' hd hr => ?_)) (by omega)) PL.nil) ((pf_prefix c hc k _ mn mx h1 h2 h3 h4 hl).less (by (first | lia | omega)))) ⟨_, rfl, fun g v h => h⟩)
      obtain ⟨_, hd1, rfl, _⟩ := map_get hd
      obtain ⟨w, hd2, rfl, hlt⟩ := map_get hd1
      rw [List.getElem?_map, hd2] at hr
      cases hr
      exact PE.call (by rfl) (fspath_def c hc) (PL.cons PE.lit (PL.cons (PE.local_ (by rfl)) PL.nil)) (pf_fspath c hc k _ w)
    · exact Inc.cons (by rfl) (Inc.nil _)
end Mine

/-! F12 -/
open PySem PySem.W PyProof.Rows
set_option Elab.async false
set_option maxRecDepth 100000
namespace Mine

theorem memw_at {l : List (DefRec × List (Str × Expr))} {i : Nat} {d : DefRec × List (Str × Expr)} (h : l[i]? = some d) : d ∈ l := List.mem_of_getElem? h


theorem frag_at {K : Frag} {g : Heap} (h : K.In g) {a : Addr} {o : Obj} (e : K.lookup a = some o) : g.get? a = some o := h _ _ e

/-- what the text's own names stand for -/
noncomputable def globEs (P : Params) : Array DictEntry := match (Mine.hd.heap_39 P).lookup 3 with
  | some o => (match o.data with | .dict es _ => es | _ => #[])
  | none => #[]
theorem glob_at {P : Params} {h : Heap} {m : Str → Option Value} {x : Str} {v : Option Value} (K : (Mine.hd.heap_39 P).In h) (hn : h.Ns mainGlobals m) (hx : nsFind (globEs P) x = v) : m x = v := by
  obtain ⟨o, es, ep, e1, e2, _, e4⟩ := hn
  have e := get_inj e1 (frag_at (a := 3) (o := _) K (by rfl))
  have e3 : globEs P = es := (Data.dict.inj ((congrArg Obj.data e).symm.trans e2)).1
  rw [← e4, ← e3]; exact hx
theorem safe_at (c : Cx) (P : Params) (hK : c.K = Mine.hd.heap_39 P) (g : Heap) (hb : c.Base g) : c.mg (Str.ofString "safe_repr") = some (.ref 69) := glob_at (hK ▸ hb.2.1) hb.1.g (by rfl)

theorem safe_def (c : Cx) (hc : Lw c) : IsDef c (Str.ofString "safe_repr") := fun g hb => by
  obtain ⟨P, hK⟩ := hc.k
  have h69 := frag_at (a := 69) (o := _) hb.2.1 (by rw [hK]; rfl)
  exact ⟨69, _, _, safe_at c P hK g hb, h69, rfl⟩

set_option maxHeartbeats 1000000 in
theorem pf_safe_repr (c : Cx) (hc : Lw c) (k : Nat) (hk5 : 2 ≤ k) (x : PyData) (hsh : x.showable = true) (hsz : x.shown.length ≤ 1000000) (hd : x.depth + 2 ≤ 400) : PF c (k+1) (Str.ofString "safe_repr") [.d x] (.d (.str x.shown)) := by
  have hsl := sizeLine_is
  obtain ⟨P, hK⟩ := hc.k
  have h69 : ∀ g, c.Base g → g.get? 69 = some _ := fun g hb => frag_at (a := 69) (o := _) hb.2.1 (by rw [hK]; rfl)
  refine' PF.of_bind (ns := [Str.ofString "obj", Str.ofString "short"]) (args' := [.d x, pbool false]) ?inn ?kinds ?once ?run ?c1 ?c2 ?c3
  case inn =>
    intro g a hb hma
    have hma' := (safe_at c P hK g hb).symm.trans hma
    cases hma'
    have h68 := frag_at (a := 68) (o := _) hb.2.1 (by rw [hK]; rfl)
    have h62 := frag_at (a := 62) (o := _) hb.2.1 (by rw [hK]; rfl)
    refine ⟨_, _, h69 g hb, rfl, rfl, ⟨68, _, _, _, rfl, h68, rfl, rfl⟩, rfl, rfl, rfl, rfl, fun A s us hs hus => ?_⟩
    obtain ⟨u, rfl, hu⟩ := rdl1 hus
    refine BindsTo.of_defaults (binds := [(Str.ofString "obj", u), (Str.ofString "short", .bool false)]) rfl (hs _ _ h62) rfl rfl rfl _ _ _ _ ?_
    exact ⟨g, [u, .bool false], Grow.refl hs, ⟨hu, rd_mk_bool _, trivial⟩, rfl⟩
  case kinds =>
    intro x hx
    simp at hx
    rcases hx with rfl | rfl <;> exact .inl rfl
  case once => exact fun n => once_of (by decide) n
  case run =>
    refine PX.cons (PX1.try_ (PX.cons (PX1.assign (PE.callB (by rfl) hc.repr bb_repr (PL.cons (PE.local_ (by rfl)) PL.nil) (call_repr hk5 x hsh (by (first | decide | assumption | exact Nat.le_trans (by assumption) (by decide) | exact Nat.le_of_lt (by assumption) | exact Nat.le_of_not_lt (by assumption) | exact Nat.lt_of_not_le (by assumption) | exact Nat.le_trans (by assumption) (by assumption) | exact Nat.lt_of_lt_of_le (by assumption) (by assumption) | exact Nat.lt_of_le_of_lt (by assumption) (by assumption) | lia | omega)) hd)) (.inl rfl) (PX.nil (PX.nil ?_)))))
    refine PX.cons (PX1.if_ (w := true) (PT.cast (PT.boolOp (PAll.or (b := true) (q := true) (PT.cast (PT.not (PT.value (PE.local_ (by rfl)) (tru_bool false))) (by rfl)) (fun h => nomatch h))) (by rfl)) (fun _ => ?_) (fun h => nomatch h))
    exact PX.cons (PX1.ret (PE.local_ (by rfl)) ⟨_, rfl, fun g v h => h⟩)
  case c1 => rfl
  case c2 => rfl
  case c3 => rfl
end Mine

/-! F13 -/
open PySem PySem.W PyProof.Rows
set_option Elab.async false
set_option maxRecDepth 100000
namespace Mine

theorem GrowP.of_grow {P : Addr} {g g' : Heap} {s s' : Shared} {ps : Array Value} (G : Grow g s g' s') (hP : s.heap.get? P = some { cls := .none, data := .fields ps }) : GrowP P g s g' s' := by
  obtain ⟨h, tk, e⟩ := G.same
  exact ⟨fun b o _ e => G.keep b o e, G.sub, G.le, by rw [e], fun hb => by rw [e]; exact hb, ps, G.keep _ _ hP⟩
theorem GrowP.after {P : Addr} {g g₁ g' : Heap} {s s₁ s' : Shared} (G : Grow g s g₁ s₁) (x : GrowP P g₁ s₁ g' s') : GrowP P g s g' s' := by
  obtain ⟨h, tk, e⟩ := G.same
  exact ⟨fun b o hb e => x.keep b o hb (G.keep b o e), G.sub.trans x.sub, x.le, by rw [x.os, e], fun hb => x.bare (by rw [e]; exact hb), x.tab⟩

section
variable {c : Cx} {k : Nat} {sc : Scope} {lm : LM}
theorem stepThen {A : Around} {env : Env} {g₀ q g : Heap} {s₀ s : Shared} {st : Stmt} {ss : List Stmt} (base : LM) {Q : Flow → Shared → Prop} (h : PX1 c k sc st lm (StepP base)) (a : AtS c k sc lm A env g₀ s₀ q g s)
    (hk : ∀ g' s', Sub g g' → AtS c k sc base A env g₀ s₀ q g' s' → wpAny c.M A (execs ss env) Q Bot s') : wpAny c.M A (execs (st :: ss) env) Q Bot s := by
  refine wpAny_execs_cons (wpAny_mono (h A env g₀ s₀ q g s a) (fun f s' ⟨g', lm', pf, hf, hg, a', e, hi⟩ => ?_) fun _ _ x => x)
  subst e
  cases f with
  | next => exact hk g' s' hg (a'.forget hi)
  | _ => exact hf.elim
end

section
variable {c : Cx} {k : Nat} {sc : Scope} {lm : LM} {A : Around} {env : Env} {g₀ q g : Heap} {s₀ s : Shared}
theorem runT {e : Expr} {b : Bool} (a : AtS c k sc lm A env g₀ s₀ q g s) (h : PT c k sc lm e b) : wpAny c.M A (isTrue e env (eval e env)) (fun b' s' => b' = b ∧ ∃ g', Grow g s g' s') Bot s := h A env g s a.toAt
theorem runE {e : Expr} {r : PV} (a : AtS c k sc lm A env g₀ s₀ q g s) (h : PE c k sc lm e r) : wpAny c.M A (eval e env) (fun v s' => ∃ g', Grow g s g' s' ∧ Rd g' v r) Bot s := h A env g s a.toAt
end

/-- what is due -/
noncomputable def shortAll (ws : List (List Nat)) (p : List Nat) (M : Nat) : List (List Nat) :=
  if M ≤ 80 then ws
  else if (5 : Int) < 80 - ((M : Int) - p.length + 5 + 12) then ws.map fun s => shortenL p 5 (80 - ((M : Int) - p.length + 5 + 12)).toNat ++ s.drop p.length
  else ws.map fun s => shortenL p 5 5 ++ shortenL (s.drop p.length) 41 5

theorem csr_at (c : Cx) (P : Params) (hK : c.K = Mine.hd.heap_39 P) (g : Heap) (hb : c.Base g) : c.mg (Str.ofString "_common_shorten_repr") = some (.ref 61) := glob_at (hK ▸ hb.2.1) hb.1.g (by rfl)

theorem lcp_len : ∀ a b : List Nat, (lcp a b).length ≤ a.length
  | x :: xs, y :: ys => by
    unfold lcp
    split
    · have := lcp_len xs ys
      simp only [List.length_cons]; (first | lia | omega)
    · simp
  | [], _ => by unfold lcp; simp
  | _ :: _, [] => by unfold lcp; simp

theorem shorten_len (s : List Nat) (p q : Nat) (h : s.length ≤ 100000) : (shortenL s p q).length ≤ 200020 := by
  unfold shortenL
  split
  · have h1 := lit_chars
    have h2 := lit_open
    have h3 := itx_len (i := ((s.length - p - q : Nat) : Int)) (k := 6) (by decide) (by
      have : (10 : Nat) ^ 6 = 1000000 := by decide
      omega)
    simp only [List.length_append, List.length_take, List.length_drop]
    (first | lia | omega)
  · (first | decide | assumption | exact Nat.le_trans (by assumption) (by decide) | exact Nat.le_of_lt (by assumption) | exact Nat.le_of_not_lt (by assumption) | exact Nat.lt_of_not_le (by assumption) | exact Nat.le_trans (by assumption) (by assumption) | exact Nat.lt_of_lt_of_le (by assumption) (by assumption) | exact Nat.lt_of_le_of_lt (by assumption) (by assumption) | lia | omega)

set_option maxHeartbeats 4000000 in
theorem call_csr (c : Cx) (hc : Lw c) {A : Around} {g : Heap} {s : Shared} {P : Addr} {vs : List Value} {xs : List PyData} {ws : List (List Nat)} {mn mx : List Nat} {M : Nat} (hr : Room A 8) (hb : c.Base g) (hs : Sub g s.heap) (htk : 1 ≤ s.toks) (hv : RdL g vs (xs.map .d))
    (hic : s.heap.IsCode 60 P #[]) (htab : s.heap.TableAt 60 P #[]) (hgP : g.get? P = none)
    (hlen : ws.length = xs.length) (hxl : xs.length ≤ 1000) (hshow : ∀ (i : Nat) (x : PyData) (w : List Nat), xs[i]? = some x → ws[i]? = some w → x.showable = true ∧ x.depth + 2 ≤ 400 ∧ x.shown = S w) (hwl : ∀ w ∈ ws, w.length ≤ 100000)
    (hM1 : ∃ w ∈ ws, w.length = M) (hM2 : ∀ w ∈ ws, w.length ≤ M) (h1 : mn ∈ ws) (h2 : ∀ t ∈ ws, ¬ t < mn) (h3 : mx ∈ ws) (h4 : ∀ t ∈ ws, ¬ mx < t) :
    codeAny c.M A (.call (.ref 61) ⟨vs, []⟩) (fun r' s' => ∃ v, r' = .ok (.ret v) ∧ ∃ g', GrowP P g s g' s' ∧ Rd g' v (ptuple (wsD (shortAll ws (lcp mn mx) M)))) s := by
  have hsl := sizeLine_is
  obtain ⟨PP, hK⟩ := hc.k
  have h61 : ∀ g, c.Base g → g.get? 61 = some _ := fun g hb => frag_at (a := 61) (o := _) hb.2.1 (by rw [hK]; rfl)
  have h60 := frag_at (a := 60) (o := _) hb.2.1 (by rw [hK]; rfl)
  have hM : M ≤ 100000 := by obtain ⟨w, hw, e⟩ := hM1; have := hwl w hw; omega
  have hpl := lcp_len mn mx
  have hmnM := hM2 mn h1
  refine enterDef (k := 7) (ns := [Str.ofString "args"]) (args' := [ptuple xs]) hr hb hs (fun _ => htk) (h61 g hb) rfl rfl ⟨60, _, _, _, rfl, h60, rfl, rfl⟩ rfl rfl rfl rfl ?_ ?_ (fun n => once_of (by decide) n) rfl rfl rfl (fun g' s' q s₁ L G st => ?_)
  · have hvl : vs.length = xs.length := by rw [rdl_length hv, List.length_map]
    have key : ∀ Q : List (Str × Value) → Shared → Prop, (∀ g' s' t, Grow g s g' s' → Rd g' t (ptuple xs) → Q [(Str.ofString "args", t)] s') → wpAny c.M A.in1 (newTuple vs >>= fun t => pure [(Str.ofString "args", t)]) Q Bot s := fun Q hQ =>
      wpAny_bind (VE.go (VE.newTuple hb hs (rdl_all hv) (by omega)) (fun t s' g' G ht => wpAny_pure (hQ g' s' t G ht)))
    cases vs with
    | nil => exact key _ fun g' s' t G ht => ⟨g', [t], G, ⟨ht, trivial⟩, rfl⟩
    | cons v r => exact key _ fun g' s' t G ht => ⟨g', [t], G, ⟨ht, trivial⟩, rfl⟩
  · intro x hx
    simp at hx
    subst hx; exact .inl rfl
  · have hlw : (wsD ws).length = ws.length := List.length_map ..
    have hsd := safe_def c hc
    have hP0 : s.heap.get? P = some { cls := .none, data := .fields #[] } := htab.2
    have hgP' : g'.get? P = none := G.off hgP (by rw [hP0]; exact fun e => nomatch e)
    have s1 : ∀ lm, lm.lookup (Str.ofString "args") = some (.p (ptuple xs)) → Inc [(Str.ofString "args", .p (ptuple (wsD ws)))] (lset lm (Str.ofString "args") (.p (ptuple (wsD ws)))) := fun lm _ => Inc.cons (by rw [lset_lookup]; simp) (Inc.nil _)
    refine stepThen [(Str.ofString "args", .p (ptuple (wsD ws)))] (PX1.assign (PE.tupleMap (k := 3) (by rfl) (by rfl) (by rfl) hc.tuple (hc.bs _ (by decide)) hsd (PE.local_ (by rfl)) (by (first | decide | assumption | exact Nat.le_trans (by assumption) (by decide) | exact Nat.le_of_lt (by assumption) | exact Nat.le_of_not_lt (by assumption) | exact Nat.lt_of_not_le (by assumption) | exact Nat.le_trans (by assumption) (by assumption) | exact Nat.lt_of_lt_of_le (by assumption) (by assumption) | exact Nat.lt_of_le_of_lt (by assumption) (by assumption) | lia | omega)) hlen (fun i x w hx hw => ?_) (by decide)) (.inl rfl) ⟨rfl, Inc.cons (by rfl) (Inc.nil _)⟩) st fun g₁ t₁ sg₁ st₁ => ?_
    · obtain ⟨k1, k2, k3⟩ := hshow i x w hx hw
      have := pf_safe_repr c hc 2 (by (first | decide | assumption | exact Nat.le_trans (by assumption) (by decide) | exact Nat.le_of_lt (by assumption) | exact Nat.le_of_not_lt (by assumption) | exact Nat.lt_of_not_le (by assumption) | exact Nat.le_trans (by assumption) (by assumption) | exact Nat.lt_of_lt_of_le (by assumption) (by assumption) | exact Nat.lt_of_le_of_lt (by assumption) (by assumption) | lia | omega)) x k1 (by rw [k3, S_length]; have := hwl w (List.mem_of_getElem? hw); (first | decide | assumption | exact Nat.le_trans (by assumption) (by decide) | exact Nat.le_of_lt (by assumption) | exact Nat.le_of_not_lt (by assumption) | exact Nat.lt_of_not_le (by assumption) | exact Nat.le_trans (by assumption) (by assumption) | exact Nat.lt_of_lt_of_le (by assumption) (by assumption) | exact Nat.lt_of_le_of_lt (by assumption) (by assumption) | lia | omega)) k2
      rw [k3] at this; exact this
    refine stepThen [(Str.ofString "args", .p (ptuple (wsD ws))), (Str.ofString "maxlen", .p (pint M))] (PX1.assign (PE.maxMapLen (k := 5) (by rfl) (by rfl) (by rfl) hc.max (hc.bs _ (by decide)) hc.len (PE.local_ (by rfl)) (fun w hw => by have := hwl w hw; (first | decide | assumption | exact Nat.le_trans (by assumption) (by decide) | exact Nat.le_of_lt (by assumption) | exact Nat.le_of_not_lt (by assumption) | exact Nat.lt_of_not_le (by assumption) | exact Nat.le_trans (by assumption) (by assumption) | exact Nat.lt_of_lt_of_le (by assumption) (by assumption) | exact Nat.lt_of_le_of_lt (by assumption) (by assumption) | lia | omega)) hM1 hM2) (.inl rfl) ⟨rfl, Inc.cons (by rfl) (Inc.cons (by rfl) (Inc.nil _))⟩) st₁ fun g₂ t₂ sg₂ st₂ => ?_
    by_cases hM80 : M ≤ 80
    · -- short enough
      have e : shortAll ws (lcp mn mx) M = ws := by unfold shortAll; rw [if_pos hM80]
      rw [e]
      refine wpAny_execs_cons (wpAny_If (wpAny_mono (runT (b := decide ((M : Int) ≤ 80)) st₂ (PT.cmp (PE.local_ (by rfl)) (PE.max80 hc) (sem_le _ _))) (fun b t₃ ⟨eb, g₃, G₃⟩ => ?_) fun _ _ x => x))
      have eb' : b = true := by rw [eb]; simpa using (show (M : Int) ≤ 80 by omega)
      subst eb'
      refine wpAny_execs_cons (wpAny_Return_some (VE.go (runE (r := ptuple (wsD ws)) (st₂.grow G₃) (PE.local_ (by rfl))) (fun v t₄ g₄ G₄ hv4 => ?_)))
      refine ⟨v, rfl, v, rfl, g₄, ?_, hv4⟩
      exact GrowP.of_grow ((G.trans ((st₂.grow G₃).grow G₄).run.grow)) hP0
    refine stepThen [(Str.ofString "args", .p (ptuple (wsD ws))), (Str.ofString "maxlen", .p (pint M))] (PX1.if_ (w := false) (PT.cast (PT.cmp (PE.local_ (by rfl)) (PE.max80 hc) (sem_le _ _)) (by simpa using (show (80 : Int) < M by omega))) (fun h => nomatch h) (fun _ => PX.nil ⟨rfl, Inc.refl _⟩)) st₂ fun g₃ t₃ sg₃ st₃ => ?_
    refine stepThen [(Str.ofString "args", .p (ptuple (wsD ws))), (Str.ofString "maxlen", .p (pint M)), (Str.ofString "prefix", .p (pstr (lcp mn mx)))] (PX1.assign (PE.call (by rfl) (cp_def c hc) (PL.cons (PE.local_ (by rfl)) PL.nil) (pf_commonprefix c hc 4 ws mn mx h1 h2 h3 h4 (fun w hw => by have := hwl w hw; (first | decide | assumption | exact Nat.le_trans (by assumption) (by decide) | exact Nat.le_of_lt (by assumption) | exact Nat.le_of_not_lt (by assumption) | exact Nat.lt_of_not_le (by assumption) | exact Nat.le_trans (by assumption) (by assumption) | exact Nat.lt_of_lt_of_le (by assumption) (by assumption) | exact Nat.lt_of_le_of_lt (by assumption) (by assumption) | lia | omega)) (by (first | lia | omega)))) (.inr rfl) ⟨rfl, Inc.cons (by rfl) (Inc.cons (by rfl) (Inc.cons (by rfl) (Inc.nil _)))⟩) st₃ fun g₄ t₄ sg₄ st₄ => ?_
    refine stepThen [(Str.ofString "args", .p (ptuple (wsD ws))), (Str.ofString "maxlen", .p (pint M)), (Str.ofString "prefix", .p (pstr (lcp mn mx))), (Str.ofString "prefixlen", .p (pint (lcp mn mx).length))] (PX1.assign (PE.lenStr hc (PE.local_ (by rfl)) (by (first | lia | omega))) (.inr rfl) ⟨rfl, Inc.cons (by rfl) (Inc.cons (by rfl) (Inc.cons (by rfl) (Inc.cons (by rfl) (Inc.nil _))))⟩) st₄ fun g₅ t₅ sg₅ st₅ => ?_
    refine stepThen [(Str.ofString "args", .p (ptuple (wsD ws))), (Str.ofString "maxlen", .p (pint M)), (Str.ofString "prefix", .p (pstr (lcp mn mx))), (Str.ofString "prefixlen", .p (pint (lcp mn mx).length)), (Str.ofString "common_len", .p (pint (80 - ((M : Int) - (lcp mn mx).length + 5 + 12))))] (PX1.assign (PE.bin (PE.max80 hc) (PE.bin (PE.bin (PE.bin (PE.local_ (by rfl)) (PE.local_ (by rfl)) (sem_sub _ _)) (PE.mb5 hc) (sem_add _ _)) (PE.ph12 hc) (sem_add _ _)) (sem_sub _ _)) (.inl rfl) ⟨rfl, Inc.cons (by rfl) (Inc.cons (by rfl) (Inc.cons (by rfl) (Inc.cons (by rfl) (Inc.cons (by rfl) (Inc.nil _)))))⟩) st₅ fun g₆ t₆ sg₆ st₆ => ?_
    have table : ∀ (sc : Scope) (lm : LM) (A : Around) (env : Env) (g₇ : Heap) (t₇ : Shared), AtS c 7 sc lm A env g' s' q g₇ t₇ → Grow g s g₇ t₇ ∧ t₇.heap.IsCode 60 P #[] ∧ t₇.heap.TableAt 60 P #[] ∧ g₇.get? P = none := fun sc lm A env g₇ t₇ st₇ => by
      have G₇ := G.trans st₇.run.grow
      exact ⟨G₇, hic.keeps G₇.keep, htab.keeps G₇.keep, G₇.off hgP (by rw [hP0]; exact fun e => nomatch e)⟩
    by_cases hcl : (5 : Int) < 80 - ((M : Int) - (lcp mn mx).length + 5 + 12)
    · have e : shortAll ws (lcp mn mx) M = ws.map fun s => shortenL (lcp mn mx) 5 (80 - ((M : Int) - (lcp mn mx).length + 5 + 12)).toNat ++ s.drop (lcp mn mx).length := by unfold shortAll; rw [if_neg hM80, if_pos hcl]
      rw [e]
      have ecl : (80 - ((M : Int) - (lcp mn mx).length + 5 + 12)) = ((80 - ((M : Int) - (lcp mn mx).length + 5 + 12)).toNat : Int) := (Int.toNat_of_nonneg (by omega)).symm
      generalize hcN : (80 - ((M : Int) - (lcp mn mx).length + 5 + 12)).toNat = cN at ecl ⊢
      have hsh : (shortenL (lcp mn mx) 5 cN).length ≤ 200020 := shorten_len _ _ _ (by (first | lia | omega))
      refine wpAny_execs_cons (wpAny_If (wpAny_mono (runT (b := decide ((5 : Int) < 80 - ((M : Int) - (lcp mn mx).length + 5 + 12))) st₆ (PT.cmp (PE.local_ (by rfl)) (PE.mc5 hc) (sem_gt _ _))) (fun b t₇ ⟨eb, g₇, G₇⟩ => ?_) fun _ _ x => x))
      have eb' : b = true := by rw [eb]; simpa using hcl
      subst eb'
      have st₇ := st₆.grow G₇
      refine stepThen [(Str.ofString "args", .p (ptuple (wsD ws))), (Str.ofString "prefix", .p (pstr (lcp mn mx))), (Str.ofString "prefixlen", .p (pint (lcp mn mx).length)), (Str.ofString "common_len", .p (pint (80 - ((M : Int) - (lcp mn mx).length + 5 + 12))))] (PX1.assert_ (PT.cast (PT.cmp (PE.bin (PE.bin (PE.bin (PE.mb5 hc) (PE.ph12 hc) (sem_add _ _)) (PE.mc5 hc) (sem_add _ _)) (PE.bin (PE.local_ (by rfl)) (PE.local_ (by rfl)) (sem_sub _ _)) (sem_add _ _)) (PE.max80 hc) (sem_lt _ _)) (by simp; omega)) ⟨rfl, Inc.cons (by rfl) (Inc.cons (by rfl) (Inc.cons (by rfl) (Inc.cons (by rfl) (Inc.nil _))))⟩) st₇ fun g₈ t₈ sg₈ st₈ => ?_
      refine stepThen [(Str.ofString "args", .p (ptuple (wsD ws))), (Str.ofString "prefix", .p (pstr (shortenL (lcp mn mx) 5 cN))), (Str.ofString "prefixlen", .p (pint (lcp mn mx).length))] (PX1.assign (PE.call (by rfl) (shorten_def c hc) (PL.cons (PE.local_ (by rfl)) (PL.cons (PE.mb5 hc) (PL.cons (PE.cast (PE.local_ (by rfl)) (by rw [ecl])) PL.nil))) (pf_shorten c hc 6 (lcp mn mx) 5 cN (by (first | lia | omega)) (by (first | decide | assumption | exact Nat.le_trans (by assumption) (by decide) | exact Nat.le_of_lt (by assumption) | exact Nat.le_of_not_lt (by assumption) | exact Nat.lt_of_not_le (by assumption) | exact Nat.le_trans (by assumption) (by assumption) | exact Nat.lt_of_lt_of_le (by assumption) (by assumption) | exact Nat.lt_of_le_of_lt (by assumption) (by assumption) | lia | omega)) (by omega))) (.inr rfl) ⟨rfl, Inc.cons (by rfl) (Inc.cons (by rfl) (Inc.cons (by rfl) (Inc.nil _)))⟩) st₈ fun g₉ t₉ sg₉ st₉ => ?_
      obtain ⟨G₉, ic₉, tb₉, gp₉⟩ := table _ _ _ _ g₉ t₉ st₉
      refine wpAny_execs_cons (wpAny_Return_some (gen_go (evalTupleGen (P := P) (cd := 60) (rs := ws.map fun s => shortenL (lcp mn mx) 5 cN ++ s.drop (lcp mn mx).length) (by (first | decide | assumption | exact Nat.le_trans (by assumption) (by decide) | exact Nat.le_of_lt (by assumption) | exact Nat.le_of_not_lt (by assumption) | exact Nat.lt_of_not_le (by assumption) | exact Nat.le_trans (by assumption) (by assumption) | exact Nat.lt_of_lt_of_le (by assumption) (by assumption) | exact Nat.lt_of_le_of_lt (by assumption) (by assumption) | lia | omega)) st₉.toAt (by rfl) hc.tuple rfl ic₉ tb₉ gp₉ (CompOk.of rfl (by decide) (by decide) (by decide) (by rfl)) (by rfl) (by rfl) (PE.local_ (by rfl)) (by simp) (by omega) (fun y hy => ?_) (fun i d r hd hr => ?_) (by rfl) (by intro _; rfl)) (fun v t' g'' G'' hv'' => ?_)))
      · simp at hy
        rcases hy with rfl | rfl <;> decide
      · obtain ⟨w, hd2, rfl, _⟩ := map_get hd
        rw [List.getElem?_map, hd2] at hr
        cases hr
        have hwl' := hwl w (List.mem_of_getElem? hd2)
        exact PE.bin (PE.local_ (by rfl)) (PE.cast (PE.sliceStr (lo := some ((lcp mn mx).length : Int)) (hi := none) (PE.local_ (by rfl)) (PE.local_ (by rfl)) trivial (by (first | decide | assumption | exact Nat.le_trans (by assumption) (by decide) | exact Nat.le_of_lt (by assumption) | exact Nat.le_of_not_lt (by assumption) | exact Nat.lt_of_not_le (by assumption) | exact Nat.le_trans (by assumption) (by assumption) | exact Nat.lt_of_lt_of_le (by assumption) (by assumption) | exact Nat.lt_of_le_of_lt (by assumption) (by assumption) | lia | omega))) (by rw [cut_from])) (sem_str_add _ _ (by rw [List.length_drop]; omega))
      · exact ⟨v, rfl, v, rfl, g'', GrowP.after G₉ G'', hv''⟩
    · have e : shortAll ws (lcp mn mx) M = ws.map fun s => shortenL (lcp mn mx) 5 5 ++ shortenL (s.drop (lcp mn mx).length) 41 5 := by unfold shortAll; rw [if_neg hM80, if_neg hcl]
      rw [e]
      have hsh : (shortenL (lcp mn mx) 5 5).length ≤ 200020 := shorten_len _ _ _ (by omega)
      refine stepThen [(Str.ofString "args", .p (ptuple (wsD ws))), (Str.ofString "prefix", .p (pstr (lcp mn mx))), (Str.ofString "prefixlen", .p (pint (lcp mn mx).length))] (PX1.if_ (w := false) (PT.cast (PT.cmp (PE.local_ (by rfl)) (PE.mc5 hc) (sem_gt _ _)) (decide_eq_false hcl)) (fun h => nomatch h) (fun _ => PX.nil ⟨rfl, Inc.cons (by rfl) (Inc.cons (by rfl) (Inc.cons (by rfl) (Inc.nil _)))⟩)) st₆ fun g₈ t₈ sg₈ st₈ => ?_
      refine stepThen [(Str.ofString "args", .p (ptuple (wsD ws))), (Str.ofString "prefix", .p (pstr (shortenL (lcp mn mx) 5 5))), (Str.ofString "prefixlen", .p (pint (lcp mn mx).length))] (PX1.assign (PE.call (by rfl) (shorten_def c hc) (PL.cons (PE.local_ (by rfl)) (PL.cons (PE.mb5 hc) (PL.cons (PE.mc5 hc) PL.nil))) (pf_shorten c hc 6 (lcp mn mx) 5 5 (by omega) (by omega) (by omega))) (.inr rfl) ⟨rfl, Inc.cons (by rfl) (Inc.cons (by rfl) (Inc.cons (by rfl) (Inc.nil _)))⟩) st₈ fun g₉ t₉ sg₉ st₉ => ?_
      obtain ⟨G₉, ic₉, tb₉, gp₉⟩ := table _ _ _ _ g₉ t₉ st₉
      refine wpAny_execs_cons (wpAny_Return_some (gen_go (evalTupleGen (P := P) (cd := 60) (rs := ws.map fun s => shortenL (lcp mn mx) 5 5 ++ shortenL (s.drop (lcp mn mx).length) 41 5) (by (first | decide | assumption | exact Nat.le_trans (by assumption) (by decide) | exact Nat.le_of_lt (by assumption) | exact Nat.le_of_not_lt (by assumption) | exact Nat.lt_of_not_le (by assumption) | exact Nat.le_trans (by assumption) (by assumption) | exact Nat.lt_of_lt_of_le (by assumption) (by assumption) | exact Nat.lt_of_le_of_lt (by assumption) (by assumption) | lia | omega)) st₉.toAt (by rfl) hc.tuple rfl ic₉ tb₉ gp₉ (CompOk.of rfl (by decide) (by decide) (by decide) (by rfl)) (by rfl) (by rfl) (PE.local_ (by rfl)) (by simp) (by omega) (fun y hy => ?_) (fun i d r hd hr => ?_) (by rfl) (by intro _; rfl)) (fun v t' g'' G'' hv'' => ?_)))
      · simp at hy
        rcases hy with rfl | rfl <;> decide
      · obtain ⟨w, hd2, rfl, _⟩ := map_get hd
        rw [List.getElem?_map, hd2] at hr
        cases hr
        have hwl' := hwl w (List.mem_of_getElem? hd2)
        have hdl : (w.drop (lcp mn mx).length).length ≤ 100000 := by rw [List.length_drop]; omega
        have hsh2 := shorten_len (w.drop (lcp mn mx).length) 41 5 hdl
        exact PE.bin (PE.local_ (by rfl)) (PE.call (by rfl) (shorten_def c hc) (PL.cons (PE.cast (PE.sliceStr (lo := some ((lcp mn mx).length : Int)) (hi := none) (PE.local_ (by rfl)) (PE.local_ (by rfl)) trivial (by (first | decide | assumption | exact Nat.le_trans (by assumption) (by decide) | exact Nat.le_of_lt (by assumption) | exact Nat.le_of_not_lt (by assumption) | exact Nat.lt_of_not_le (by assumption) | exact Nat.le_trans (by assumption) (by assumption) | exact Nat.lt_of_lt_of_le (by assumption) (by assumption) | exact Nat.lt_of_le_of_lt (by assumption) (by assumption) | lia | omega))) (by rw [cut_from])) (PL.cons (PE.md41 hc) (PL.cons (PE.me5 hc) PL.nil))) (pf_shorten c hc 0 (w.drop (lcp mn mx).length) 41 5 (by (first | decide | assumption | exact Nat.le_trans (by assumption) (by decide) | exact Nat.le_of_lt (by assumption) | exact Nat.le_of_not_lt (by assumption) | exact Nat.lt_of_not_le (by assumption) | exact Nat.le_trans (by assumption) (by assumption) | exact Nat.lt_of_lt_of_le (by assumption) (by assumption) | exact Nat.lt_of_le_of_lt (by assumption) (by assumption) | lia | omega)) (by (first | decide | assumption | exact Nat.le_trans (by assumption) (by decide) | exact Nat.le_of_lt (by assumption) | exact Nat.le_of_not_lt (by assumption) | exact Nat.lt_of_not_le (by assumption) | exact Nat.le_trans (by assumption) (by assumption) | exact Nat.lt_of_lt_of_le (by assumption) (by assumption) | exact Nat.lt_of_le_of_lt (by assumption) (by assumption) | lia | omega)) (by (first | decide | assumption | exact Nat.le_trans (by assumption) (by decide) | exact Nat.le_of_lt (by assumption) | exact Nat.le_of_not_lt (by assumption) | exact Nat.lt_of_not_le (by assumption) | exact Nat.le_trans (by assumption) (by assumption) | exact Nat.lt_of_lt_of_le (by assumption) (by assumption) | exact Nat.lt_of_le_of_lt (by assumption) (by assumption) | lia | omega)))) (sem_str_add _ _ (by (first | lia | omega)))
      · exact ⟨v, rfl, v, rfl, g'', GrowP.after G₉ G'', hv''⟩
end Mine

/-! F14 -/
open PySem PySem.W PyProof.Rows
set_option Elab.async false
set_option maxRecDepth 100000
namespace Mine

noncomputable def lawPlans (ns : List Int) : List Plan := .node .lst (piecesOf ns).1 :: (List.range (min ns.length 4)).map fun k => changed (piecesOf ns).1 (ns.getD (ns.length - 1 - k) 0) (k : Nat)
noncomputable def runsOf (sh M len : Nat) : List (Int × Int) := if M ≤ 80 then [] else if (M : Int) - sh ≤ 57 then [(5, (M : Int) - 63)] else [(5, (sh : Int) - 5), ((sh : Int) + 41, (len : Int) - 5)]
noncomputable def dueOf (ws : List (List Nat)) (sh M : Nat) : List (List Nat) := ws.map fun w => leftOut w (runsOf sh M w.length)

theorem lawPlans_take (ns : List Int) (i : Nat) : (lawPlans ns).take (i + 1) = .node .lst (piecesOf ns).1 :: ((List.range (min ns.length 4)).map fun k => changed (piecesOf ns).1 (ns.getD (ns.length - 1 - k) 0) (k : Nat)).take i := rfl
theorem lawPlans_len (ns : List Int) : (lawPlans ns).length = min ns.length 4 + 1 := by unfold lawPlans; simp

section
variable {c : Cx} {k : Nat} {sc : Scope} {lm : LM}
/-- a list that only one name holds is not changed any more -/
theorem freezeThen {A : Around} {env : Env} {g₀ q g : Heap} {s₀ s : Shared} {x : Str} {xs : List PyData} {base : LM} {Z : Prop} (a : AtS c k sc lm A env g₀ s₀ q g s) (hl : lm.lookup x = some (.own xs)) (h1 : (lm.filterMap fun kv => match kv.2 with | .own _ => some kv.1 | _ => none) = [x])
    (hb : Inc base (lset lm x (.p (plist xs)))) (hk : ∀ g', Sub g g' → AtS c k sc base A env g₀ s₀ q g' s → Z) : Z := by
  obtain ⟨g', hs, a'⟩ := a.freeze hl (ownUniq h1)
  exact hk g' hs (a'.forget hb)
end

theorem pieces_def (c : Cx) (hc : Lw c) : IsDef c (Str.ofString "_law_pieces") := IsDef.of (d := _) (mem_at (i := 10) (by rw [hc.p]; rfl))
theorem changed_def (c : Cx) (hc : Lw c) : IsDef c (Str.ofString "_law_changed") := IsDef.of (d := _) (mem_at (i := 11) (by rw [hc.p]; rfl))
theorem shared_def (c : Cx) (hc : Lw c) : IsDef c (Str.ofString "_law_shared") := IsDef.of (d := _) (mem_at (i := 12) (by rw [hc.p]; rfl))
theorem leftOut_def (c : Cx) (hc : Lw c) : IsDef c (Str.ofString "_law_left_out") := IsDef.of (d := _) (mem_at (i := 13) (by rw [hc.p]; rfl))

set_option maxHeartbeats 4000000 in
theorem law_walk (c : Cx) (hc : Lw c) {d : DefRec} (hd : (recsOf Mine.hd.view_39)[14]? = some d) {A : Around} {env : Env} {g₀ q g : Heap} {s₀ s : Shared} (ns : List Int) (hns : ns.length ≤ 63)
    (a : AtS c 120 d.scope [(Str.ofString "script", .p (plist (ns.map .int)))] A env g₀ s₀ q g s) {M m : Nat} {w0 : List Nat} {r : List (List Nat)} (hws : (lawPlans ns).map Plan.wr = w0 :: r)
    (hg : ∀ p ∈ lawPlans ns, p.depth ≤ 110 ∧ p.small ∧ p.lean ∧ p.wr.length ≤ 50000) (hpl : (piecesOf ns).1.length ≤ 300) (hM1 : ∃ w ∈ w0 :: r, w.length = M) (hM2 : ∀ w ∈ w0 :: r, w.length ≤ M) (hm1 : ∃ w ∈ w0 :: r, w.length = m) (hm2 : ∀ w ∈ w0 :: r, m ≤ w.length)
    {Q : Flow → Shared → Prop}
    (hk : ∀ g' s', AtS c 120 d.scope [(Str.ofString "plans", .p (plist ((lawPlans ns).map Plan.pd))), (Str.ofString "due", .p (plist (wsD (dueOf (w0 :: r) (sharedL w0 (w0 :: r) m) M))))] A env g₀ s₀ q g' s' → wpAny c.M A (execs (d.body.drop 8) env) Q Bot s') :
    wpAny c.M A (execs d.body env) Q Bot s := by
  have hsz := sizeLine_is
  cases hd
  generalize hrow : (piecesOf ns).1 = row at hpl
  have hplen := lawPlans_len ns
  have hwl : ∀ w ∈ w0 :: r, w.length ≤ 50000 := fun w hw => by
    rw [← hws] at hw
    obtain ⟨p, hp, rfl⟩ := List.mem_map.mp hw
    exact (hg p hp).2.2.2
  have hwsl : (w0 :: r).length ≤ 5 := by rw [← hws, List.length_map, hplen]; omega
  have hMl : M ≤ 50000 := by obtain ⟨w, h1, h2⟩ := hM1; have := hwl w h1; omega
  have hml : m ≤ 50000 := by obtain ⟨w, h1, h2⟩ := hm1; have := hwl w h1; omega
  refine stepThen [(Str.ofString "script", .p (plist (ns.map .int))), (Str.ofString "row", .p (plist (row.map Plan.pd)))] (PX1.assign (PE.call (by rfl) (pieces_def c hc) (PL.cons (PE.local_ (by rfl)) PL.nil) (hrow ▸ pf_pieces c hc 119 (by (first | decide | assumption | exact Nat.le_trans (by assumption) (by decide) | exact Nat.le_of_lt (by assumption) | exact Nat.le_of_not_lt (by assumption) | exact Nat.lt_of_not_le (by assumption) | exact Nat.le_trans (by assumption) (by assumption) | exact Nat.lt_of_lt_of_le (by assumption) (by assumption) | exact Nat.lt_of_le_of_lt (by assumption) (by assumption) | lia | omega)) ns (by (first | decide | assumption | exact Nat.le_trans (by assumption) (by decide) | exact Nat.le_of_lt (by assumption) | exact Nat.le_of_not_lt (by assumption) | exact Nat.lt_of_not_le (by assumption) | exact Nat.le_trans (by assumption) (by assumption) | exact Nat.lt_of_lt_of_le (by assumption) (by assumption) | exact Nat.lt_of_le_of_lt (by assumption) (by assumption) | lia | omega)))) (.inl rfl) ⟨rfl, Inc.cons (by rfl) (Inc.cons (by rfl) (Inc.nil _))⟩) a fun g₁ t₁ sg₁ st₁ => ?_
  have epd : (Plan.node .lst row).pd = .list [.str (S (lit "list")), .list (row.map Plan.pd)] := Plan.pd_node ..
  have hpd1 : ((lawPlans ns).take 1).map Plan.pd = [.list [.str (S (lit "list")), .list (row.map Plan.pd)]] := by
    rw [lawPlans_take ns 0, hrow, List.map_cons, epd]; rfl
  refine stepThen [(Str.ofString "script", .p (plist (ns.map .int))), (Str.ofString "row", .p (plist (row.map Plan.pd))), (Str.ofString "plans", .own (((lawPlans ns).take 1).map Plan.pd))] (PX1.assignOwn (xs := ((lawPlans ns).take 1).map Plan.pd) (by rw [hpd1]; exact PL.cons (PE.list2 PE.lit (PE.local_ (by rfl))) PL.nil) (.inl rfl) (by rw [hpd1]; exact show 1 ≤ sizeLine by decide) ⟨rfl, Inc.cons (by rfl) (Inc.cons (by rfl) (Inc.cons (by rfl) (Inc.nil _)))⟩) st₁ fun g₂ t₂ sg₂ st₂ => ?_
  have hnl : (ns.map PyData.int).length = ns.length := List.length_map ..
  refine stepThen [(Str.ofString "plans", .own ((lawPlans ns).map Plan.pd))] (PX1.for_ (PIt.range (n := min ns.length 4) (by rfl) hc.range (PE.cast (PE.min2 hc (PE.lenList hc (PE.local_ (by rfl)) (by omega)) PE.int_) ?_) (by omega)) (PFor.inv (fun i => [(Str.ofString "script", .p (plist (ns.map .int))), (Str.ofString "row", .p (plist (row.map Plan.pd))), (Str.ofString "plans", .own (((lawPlans ns).take (i + 1)).map Plan.pd))]) ?_ ?_ ?_)) st₂ fun g₃ t₃ sg₃ st₃ => ?_
  · rw [hnl]; congr 2; split <;> (first | lia | omega)
  · intro i d hd
    obtain ⟨_, hd1, rfl, hlt0⟩ := map_get hd
    rw [List.length_range] at hlt0
    rw [List.getElem?_range hlt0] at hd1
    cases hd1
    have hi : i < min ns.length 4 := hlt0
    have hget : (lawPlans ns)[i + 1]? = some (changed row (ns.getD (ns.length - 1 - i) 0) (i : Nat)) := by
      unfold lawPlans
      rw [List.getElem?_cons_succ, List.getElem?_map, List.getElem?_range hi, hrow]; rfl
    have etk : ((lawPlans ns).take (i + 1 + 1)).map Plan.pd = ((lawPlans ns).take (i + 1)).map Plan.pd ++ [(changed row (ns.getD (ns.length - 1 - i) 0) (i : Nat)).pd] := by
      rw [List.take_add_one (i := i + 1), hget, List.map_append]; rfl
    have hsub : (ns.map PyData.int)[((-1 : Int) - (i : Nat) + (ns.map PyData.int).length).toNat]? = some (.int (ns.getD (ns.length - 1 - i) 0)) := by
      rw [hnl, show ((-1 : Int) - (i : Nat) + ns.length).toNat = ns.length - 1 - i by omega, List.getElem?_map, List.getD_eq_getElem?_getD, List.getElem?_eq_getElem (show ns.length - 1 - i < ns.length by omega)]; rfl
    refine ⟨_, PAs.name (.inl rfl), ?_⟩
    refine PX.cons (PX1.append (by rfl) (ownUniq (by rfl)) (by rfl) (PE.call (by rfl) (changed_def c hc) (PL.cons (PE.local_ (by rfl)) (PL.cons (PE.sub (PE.local_ (by rfl)) (PE.bin (PE.un PE.int_ (sem_neg _)) (PE.local_ (by rfl)) (sem_sub _ _)) (sub_list_neg (by omega) (by rw [hnl]; omega) (by omega) hsub)) (PL.cons (PE.local_ (by rfl)) PL.nil))) (pf_changed c hc 119 row (ns.getD (ns.length - 1 - i) 0) (i : Nat) (by (first | decide | assumption | exact Nat.le_trans (by assumption) (by decide) | exact Nat.le_of_lt (by assumption) | exact Nat.le_of_not_lt (by assumption) | exact Nat.lt_of_not_le (by assumption) | exact Nat.le_trans (by assumption) (by assumption) | exact Nat.lt_of_lt_of_le (by assumption) (by assumption) | exact Nat.lt_of_le_of_lt (by assumption) (by assumption) | lia | omega)))) (by rw [List.length_map, List.length_take]; omega) ?_)
    refine PX.nil ?_
    show Inc _ _
    rw [etk]
    exact Inc.cons (by rfl) (Inc.cons (by rfl) (Inc.cons (by rfl) (Inc.nil _)))
  · intro lm hi
    refine ⟨rfl, Inc.cons ?_ (Inc.nil _)⟩
    rw [hi _ _ (show List.lookup (Str.ofString "plans") _ = _ by rfl), List.length_map, List.length_range, List.take_of_length_le (by rw [hplen]; (first | lia | omega))]
  · exact Inc.cons (by rfl) (Inc.cons (by rfl) (Inc.cons (by rfl) (Inc.nil _)))
  refine freezeThen (x := Str.ofString "plans") (base := [(Str.ofString "plans", .p (plist ((lawPlans ns).map Plan.pd)))]) st₃ (by rfl) (by rfl) (Inc.cons (by rfl) (Inc.nil _)) fun g₄ sg₄ st₄ => ?_
  refine stepThen [(Str.ofString "plans", .p (plist ((lawPlans ns).map Plan.pd))), (Str.ofString "writings", .p (plist (wsD (w0 :: r))))] (PX1.assignComp (rs := wsD (w0 :: r)) (PIt.of_list (PE.local_ (by rfl))) (CompOk.of rfl (by decide) (by decide) (by decide) (by rfl)) (by rw [← hws]; simp) (by rw [List.length_map]; (first | decide | assumption | exact Nat.le_trans (by assumption) (by decide) | exact Nat.le_of_lt (by assumption) | exact Nat.le_of_not_lt (by assumption) | exact Nat.lt_of_not_le (by assumption) | exact Nat.le_trans (by assumption) (by assumption) | exact Nat.lt_of_lt_of_le (by assumption) (by assumption) | exact Nat.lt_of_le_of_lt (by assumption) (by assumption) | lia | omega)) (fun i d r' hd hr => ?_) (by rfl) ⟨rfl, Inc.cons (by rfl) (Inc.cons (by rfl) (Inc.nil _))⟩ (by intro env h; cases env; cases h; rfl)) st₄ fun g₅ t₅ sg₅ st₅ => ?_
  · obtain ⟨_, hd1, rfl, _⟩ := map_get hd
    obtain ⟨p, hd2, rfl, _⟩ := map_get hd1
    rw [← hws, List.getElem?_map, List.getElem?_map, hd2] at hr
    cases hr
    obtain ⟨p1, p2, p3, p4⟩ := hg p (List.mem_of_getElem? hd2)
    exact PE.call (by rfl) (written_def c hc) (PL.cons (PE.local_ (by rfl)) PL.nil) ((pf_written c hc 110 p p1 p2 (by (first | decide | assumption | exact Nat.le_trans (by assumption) (by decide) | exact Nat.le_of_lt (by assumption) | exact Nat.le_of_not_lt (by assumption) | exact Nat.lt_of_not_le (by assumption) | exact Nat.le_trans (by assumption) (by assumption) | exact Nat.lt_of_lt_of_le (by assumption) (by assumption) | exact Nat.lt_of_le_of_lt (by assumption) (by assumption) | lia | omega))).less (by (first | decide | assumption | exact Nat.le_trans (by assumption) (by decide) | exact Nat.le_of_lt (by assumption) | exact Nat.le_of_not_lt (by assumption) | exact Nat.lt_of_not_le (by assumption) | exact Nat.le_trans (by assumption) (by assumption) | exact Nat.lt_of_lt_of_le (by assumption) (by assumption) | exact Nat.lt_of_le_of_lt (by assumption) (by assumption) | lia | omega)))
  refine stepThen [(Str.ofString "plans", .p (plist ((lawPlans ns).map Plan.pd))), (Str.ofString "writings", .p (plist (wsD (w0 :: r)))), (Str.ofString "shared", .p (pint (sharedL w0 (w0 :: r) m : Nat)))] (PX1.assign (PE.call (by rfl) (shared_def c hc) (PL.cons (PE.local_ (by rfl)) PL.nil) (pf_shared c hc 119 w0 r m (fun w hw => by have := hwl w hw; omega) (by omega) hm1 hm2)) (.inl rfl) ⟨rfl, Inc.cons (by rfl) (Inc.cons (by rfl) (Inc.cons (by rfl) (Inc.nil _)))⟩) st₅ fun g₆ t₆ sg₆ st₆ => ?_
  have hMm1 : (M : Int) ∈ (w0 :: r).map fun w => (w.length : Int) := by obtain ⟨w, h1, h2⟩ := hM1; exact List.mem_map.mpr ⟨w, h1, by rw [h2]⟩
  have hMm2 : ∀ a ∈ (w0 :: r).map fun w => (w.length : Int), a ≤ (M : Int) := by intro a ha; obtain ⟨w, h1, h2⟩ := List.mem_map.mp ha; have := hM2 w h1; omega
  refine stepThen [(Str.ofString "plans", .p (plist ((lawPlans ns).map Plan.pd))), (Str.ofString "writings", .p (plist (wsD (w0 :: r)))), (Str.ofString "shared", .p (pint (sharedL w0 (w0 :: r) m : Nat))), (Str.ofString "longest", .p (pint M))] (PX1.assign (PE.maxList hc M (PE.lens hc (ws := w0 :: r) (PE.local_ (by rfl)) (CompOk.of rfl (by decide) (by decide) (by decide) (by rfl)) (fun w hw => by have := hwl w hw; omega) (by omega)) hMm1 hMm2) (.inl rfl) ⟨rfl, Inc.cons (by rfl) (Inc.cons (by rfl) (Inc.cons (by rfl) (Inc.cons (by rfl) (Inc.nil _))))⟩) st₆ fun g₇ t₇ sg₇ st₇ => ?_
  generalize hsh : sharedL w0 (w0 :: r) m = sh at *
  have hshl : sh ≤ m := by
    rw [← hsh]; unfold sharedL
    cases hf : (List.range m).find? (differ w0 (w0 :: r)) with
    | none => exact Nat.le_refl _
    | some j =>
      have := List.mem_of_find?_eq_some hf
      rw [List.mem_range] at this
      show j ≤ m
      (first | decide | assumption | exact Nat.le_trans (by assumption) (by decide) | exact Nat.le_of_lt (by assumption) | exact Nat.le_of_not_lt (by assumption) | exact Nat.lt_of_not_le (by assumption) | exact Nat.le_trans (by assumption) (by assumption) | exact Nat.lt_of_lt_of_le (by assumption) (by assumption) | exact Nat.lt_of_le_of_lt (by assumption) (by assumption) | lia | omega)
  have hdl : (dueOf (w0 :: r) sh M).length = (w0 :: r).length := List.length_map ..
  refine stepThen [(Str.ofString "plans", .p (plist ((lawPlans ns).map Plan.pd))), (Str.ofString "writings", .p (plist (wsD (w0 :: r)))), (Str.ofString "shared", .p (pint (sh : Nat))), (Str.ofString "longest", .p (pint M)), (Str.ofString "due", .own (wsD ((dueOf (w0 :: r) sh M).take 0)))] (PX1.assignOwn (xs := wsD ((dueOf (w0 :: r) sh M).take 0)) PL.nil (.inl rfl) (show 0 ≤ sizeLine by decide) ⟨rfl, Inc.cons (by rfl) (Inc.cons (by rfl) (Inc.cons (by rfl) (Inc.cons (by rfl) (Inc.cons (by rfl) (Inc.nil _)))))⟩) st₇ fun g₈ t₈ sg₈ st₈ => ?_
  refine stepThen [(Str.ofString "plans", .p (plist ((lawPlans ns).map Plan.pd))), (Str.ofString "due", .own (wsD (dueOf (w0 :: r) sh M)))] (PX1.for_ (PIt.of_list (PE.local_ (by rfl))) (PFor.inv (fun i => [(Str.ofString "plans", .p (plist ((lawPlans ns).map Plan.pd))), (Str.ofString "writings", .p (plist (wsD (w0 :: r)))), (Str.ofString "shared", .p (pint (sh : Nat))), (Str.ofString "longest", .p (pint M)), (Str.ofString "due", .own (wsD ((dueOf (w0 :: r) sh M).take i)))]) ?_ ?_ ?_)) st₈ fun g₉ t₉ sg₉ st₉ => ?_
  · intro i d hd
    obtain ⟨_, hd1, rfl, _⟩ := map_get hd
    obtain ⟨w, hd2, rfl, hlt⟩ := map_get hd1
    have hwm := hwl w (List.mem_of_getElem? hd2)
    have hmw := hm2 w (List.mem_of_getElem? hd2)
    have hget : (dueOf (w0 :: r) sh M)[i]? = some (leftOut w (runsOf sh M w.length)) := by
      unfold dueOf; rw [List.getElem?_map, hd2]; rfl
    have etk : wsD ((dueOf (w0 :: r) sh M).take (i + 1)) = wsD ((dueOf (w0 :: r) sh M).take i) ++ [.str (S (leftOut w (runsOf sh M w.length)))] := by
      show List.map _ _ = List.map _ _ ++ _
      rw [List.take_add_one, hget, List.map_append]; rfl
    refine ⟨_, PAs.name (.inl rfl), ?_⟩
    refine PX.consMid [(Str.ofString "plans", .p (plist ((lawPlans ns).map Plan.pd))), (Str.ofString "writings", .p (plist (wsD (w0 :: r)))), (Str.ofString "shared", .p (pint (sh : Nat))), (Str.ofString "longest", .p (pint M)), (Str.ofString "due", .own (wsD ((dueOf (w0 :: r) sh M).take i))), (Str.ofString "one", .p (pstr w)), (Str.ofString "runs", .p (plist (runsD (runsOf sh M w.length))))] ?_ ?_
    · have inc7 : ∀ {lm : LM} {a b d e f h j : Str} {va vb vd ve vf vh vj : LV}, lm.lookup a = some va → lm.lookup b = some vb → lm.lookup d = some vd → lm.lookup e = some ve → lm.lookup f = some vf → lm.lookup h = some vh → lm.lookup j = some vj → Inc [(a, va), (b, vb), (d, vd), (e, ve), (f, vf), (h, vh), (j, vj)] lm := fun h1 h2 h3 h4 h5 h6 h7 => Inc.cons h1 (Inc.cons h2 (Inc.cons h3 (Inc.cons h4 (Inc.cons h5 (Inc.cons h6 (Inc.cons h7 (Inc.nil _)))))))
      refine PX1.if_ (w := decide ((M : Int) ≤ 80)) (PT.cmp (PE.local_ (by rfl)) PE.int_ (sem_le _ _)) (fun hb => ?_) (fun hb => ?_)
      · have hb' : M ≤ 80 := by have : (M : Int) ≤ 80 := by simpa using hb
                                omega
        have e0 : runsOf sh M w.length = [] := by unfold runsOf; rw [if_pos hb']
        rw [e0]
        exact PX.cons (PX1.assign (d := plist (runsD [])) (PE.list (xs := []) PL.nil (show 0 ≤ sizeLine by decide)) (.inl rfl) (PX.nil (Inc.ok (inc7 (by rfl) (by rfl) (by rfl) (by rfl) (by rfl) (by rfl) (by rfl)))))
      have n0 : ¬ M ≤ 80 := by have : ¬ (M : Int) ≤ 80 := by simpa using hb
                               omega
      refine PX.cons (PX1.mono (PX1.if_ (w := decide ((M : Int) - sh ≤ 57)) (P := StepP [(Str.ofString "plans", .p (plist ((lawPlans ns).map Plan.pd))), (Str.ofString "writings", .p (plist (wsD (w0 :: r)))), (Str.ofString "shared", .p (pint (sh : Nat))), (Str.ofString "longest", .p (pint M)), (Str.ofString "due", .own (wsD ((dueOf (w0 :: r) sh M).take i))), (Str.ofString "one", .p (pstr w)), (Str.ofString "runs", .p (plist (runsD (runsOf sh M w.length))))]) (PT.cmp (PE.bin (PE.local_ (by rfl)) (PE.local_ (by rfl)) (sem_sub _ _)) PE.int_ (sem_le _ _)) (fun hb => ?_) (fun hb => ?_)) (fun pf lm' ⟨e, hi⟩ => by subst e; exact PX.nil ⟨rfl, hi⟩))
      · have hb' : (M : Int) - sh ≤ 57 := by simpa using hb
        have e0 : runsOf sh M w.length = [(5, (M : Int) - 63)] := by unfold runsOf; rw [if_neg n0, if_pos hb']
        rw [e0]
        exact PX.cons (PX1.assign (d := plist (runsD [(5, (M : Int) - 63)])) (PE.list1 (PE.list2 PE.int_ (PE.bin (PE.local_ (by rfl)) PE.int_ (sem_sub _ _)))) (.inl rfl) (PX.nil (Inc.ok (inc7 (by rfl) (by rfl) (by rfl) (by rfl) (by rfl) (by rfl) (by rfl)))))
      · have hb' : ¬ (M : Int) - sh ≤ 57 := by simpa using hb
        have e0 : runsOf sh M w.length = [(5, (sh : Int) - 5), ((sh : Int) + 41, (w.length : Int) - 5)] := by unfold runsOf; rw [if_neg n0, if_neg hb']
        rw [e0]
        exact PX.cons (PX1.assign (d := plist (runsD [(5, (sh : Int) - 5), ((sh : Int) + 41, (w.length : Int) - 5)])) (PE.list2 (PE.list2 PE.int_ (PE.bin (PE.local_ (by rfl)) PE.int_ (sem_sub _ _))) (PE.list2 (PE.bin (PE.local_ (by rfl)) PE.int_ (sem_add _ _)) (PE.bin (PE.lenStr hc (PE.local_ (by rfl)) (by (first | decide | assumption | exact Nat.le_trans (by assumption) (by decide) | exact Nat.le_of_lt (by assumption) | exact Nat.le_of_not_lt (by assumption) | exact Nat.lt_of_not_le (by assumption) | exact Nat.le_trans (by assumption) (by assumption) | exact Nat.lt_of_lt_of_le (by assumption) (by assumption) | exact Nat.lt_of_le_of_lt (by assumption) (by assumption) | lia | omega))) PE.int_ (sem_sub _ _)))) (.inl rfl) (PX.nil (Inc.ok (inc7 (by rfl) (by rfl) (by rfl) (by rfl) (by rfl) (by rfl) (by rfl)))))
    · have hrl : (runsOf sh M w.length).length ≤ 2 := by
        unfold runsOf
        split
        · simp
        · split <;> simp
      have hrr : ∀ x ∈ runsOf sh M w.length, (x.2 - x.1).natAbs < 10 ^ 6 := by
        have p6 : (10 : Nat) ^ 6 = 1000000 := by decide
        intro x hx
        rw [p6]
        unfold runsOf at hx
        split at hx
        · simp at hx
        · split at hx
          · simp at hx; subst hx; dsimp only; omega
          · simp at hx
            rcases hx with rfl | rfl <;> dsimp only <;> omega
      refine PX.cons (PX1.append (by rfl) (ownUniq (by rfl)) (by rfl) (PE.call (by rfl) (leftOut_def c hc) (PL.cons (PE.local_ (by rfl)) (PL.cons (PE.local_ (by rfl)) PL.nil)) (pf_leftOut c hc 119 w (runsOf sh M w.length) (by (first | decide | assumption | exact Nat.le_trans (by assumption) (by decide) | exact Nat.le_of_lt (by assumption) | exact Nat.le_of_not_lt (by assumption) | exact Nat.lt_of_not_le (by assumption) | exact Nat.le_trans (by assumption) (by assumption) | exact Nat.lt_of_lt_of_le (by assumption) (by assumption) | exact Nat.lt_of_le_of_lt (by assumption) (by assumption) | lia | omega)) hrl hrr)) (by rw [List.length_map, List.length_take]; omega) ?_)
      refine PX.nil ?_
      show Inc _ _
      rw [etk]
      exact Inc.cons (by rfl) (Inc.cons (by rfl) (Inc.cons (by rfl) (Inc.cons (by rfl) (Inc.cons (by rfl) (Inc.nil _)))))
  · intro lm hi
    refine ⟨rfl, Inc.cons (hi _ _ (by rfl)) (Inc.cons ?_ (Inc.nil _))⟩
    rw [hi _ _ (show List.lookup (Str.ofString "due") _ = _ by rfl)]
    simp only [List.length_map]
    rw [List.take_of_length_le (by rw [hdl]; exact Nat.le_refl _)]
  · exact Inc.cons (by rfl) (Inc.cons (by rfl) (Inc.cons (by rfl) (Inc.cons (by rfl) (Inc.cons (by rfl) (Inc.nil _)))))
  refine freezeThen (x := Str.ofString "due") (base := [(Str.ofString "plans", .p (plist ((lawPlans ns).map Plan.pd))), (Str.ofString "due", .p (plist (wsD (dueOf (w0 :: r) sh M))))]) st₉ (by rfl) (by rfl) (Inc.cons (by rfl) (Inc.cons (by rfl) (Inc.nil _))) fun g₁₀ sg₁₀ st₁₀ => ?_
  exact hk g₁₀ t₉ st₁₀
end Mine

/-! F15 -/
open PySem PySem.W PyProof.Rows
set_option Elab.async false
set_option maxRecDepth 100000
namespace Mine

theorem starList {prog : Program} {w : World} {A : Around} {E : Value → Shared → Prop} {s : Shared} {l : Addr} {vs : Array Value} {Q : List Value → Shared → Prop} (hl : s.heap.PlainList l vs) (hz : vs.size ≤ sizeLine)
    (h : ∀ h', Sub s.heap h' → Q vs.toList { s with heap := h' }) : StarOf (model prog w) A E (.ref l) Q s := by
  obtain ⟨n, D⟩ := hl
  have hT : s.TypeIs (.ref l) "list" := ⟨_, D, rfl⟩
  have z : wpAny (model prog w) A (collect (.ref l)) Q E s := wpAny_collect_seq l (.inl rfl) D rfl rfl (fun h' hk => h h' hk) hz
  unfold StarOf notIterableAtAll
  exact wpAny_bind (wpAny_specialOf hT PySem.F.slot_list_iter.lookup (wpAny_pure ⟨rfl, z⟩))

theorem eq_strs {c : Cx} {A : Around} {E : Value → Shared → Prop} {s : Shared} {g g' : Heap} {u v : Value} {ws : List (List Nat)} {Q : Value → Shared → Prop} (hu : Rd g u (ptuple (wsD ws))) (hv : Rd g' v (ptuple (wsD ws))) (hs : Sub g s.heap) (hs' : Sub g' s.heap) (hr : A.units < cLine)
    (h : Q (.bool true) s) : wpAny c.M A (compareOp .Eq u v) Q E s := by
  obtain ⟨l, us, n, rfl, hl, hr1⟩ := rd_tuple hu
  obtain ⟨b, vs, n2, rfl, hb, hr2⟩ := rd_tuple hv
  have h1 := hr1.length
  have h2 := hr2.length
  rw [Array.length_toList] at h1 h2
  refine SeqAt.eq_tupleAt (e := fun _ => true) (⟨_, hs _ _ hl, rfl, n, rfl⟩ : s.heap.IsTuple l us) (⟨_, hs' _ _ hb, rfl, n2, rfl⟩ : s.heap.IsTuple b vs) hr (fun j k1 k2 => ?_) ?_
  · have hd : (wsD ws)[j]? = some (.str (S (ws.getD j []))) := by
      rw [List.length_map] at h1
      rw [List.getElem?_map, List.getElem?_eq_getElem (by omega), List.getD_eq_getElem?_getD, List.getElem?_eq_getElem (by omega)]; rfl
    obtain ⟨t, e1⟩ := rd_str (hr1.get j us[j] _ (by rw [Array.getElem?_toList]; exact Array.getElem?_eq_getElem k1) hd)
    obtain ⟨t', e2⟩ := rd_str (hr2.get j vs[j] _ (by rw [Array.getElem?_toList]; exact Array.getElem?_eq_getElem k2) hd)
    rw [e1, e2]
    have := SeqAt.EqAt.str_str (A := A.in1) (s := s) (S (ws.getD j [])) t (S (ws.getD j [])) t'
    rwa [beq_self_eq_true] at this
  · have : ((List.range (min us.size vs.size)).all (fun _ => true) && us.size == vs.size) = true := by simp; (first | lia | omega)
    rw [this]; exact h

theorem rdl_of_all {g : Heap} : ∀ {vs : List Value} {xs : List PyData}, RdAll g vs xs → RdL g vs (xs.map .d)
  | [], [], _ => trivial
  | v :: r, x :: t, h => ⟨h.head, rdl_of_all h.tail⟩
  | [], _ :: _, h => by have := h.length; simp at this
  | _ :: _, [], h => by have := h.length; simp at this
section
variable {c : Cx} {k : Nat} {sc : Scope} {lm : LM}
theorem At.growP {A : Around} {env : Env} {g g' : Heap} {s s' : Shared} {P : Addr} {ps : Array Value} (a : At c (k + 1) sc lm A env g s) (x : GrowP P g s g' s') (hP : s.heap.get? P = some { cls := .none, data := .fields ps }) (hlm : ∀ y d, lm.lookup y = some d → ∃ v, d = .p v) : At c 1 sc lm A env g' s' := by
  refine ⟨a.room.less (by (first | lia | omega)), a.envOk, a.base.mono x.sub, x.le, fun y d hy => ?_, fun h => by omega⟩
  obtain ⟨v, h1, h2⟩ := a.loc y d hy
  obtain ⟨u, rfl⟩ := hlm y d hy
  have cell : ∀ cc (v : Option Value), s.heap.IsCell cc v → s'.heap.IsCell cc v := fun cc v h => by
    obtain ⟨o, e1, e2⟩ := h
    refine ⟨o, x.keep cc o (fun e => ?_) e1, e2⟩
    rw [e, hP] at e1; cases e1; cases e2
  refine ⟨v, ?_, Rd.mono x.sub h2⟩
  rcases h1 with ⟨k1, m, hn, hm⟩ | ⟨k1, cc, k2, k3⟩ | ⟨k1, k0, cc, k2, k3⟩
  · refine .inl ⟨k1, m, ?_, hm⟩
    obtain ⟨o, es, ep, e1, e2, e3⟩ := hn
    refine ⟨o, es, ep, x.keep _ o (fun e => ?_) e1, e2, e3⟩
    rw [e, hP] at e1; cases e1; cases e2
  · exact .inr (.inl ⟨k1, cc, k2, cell _ _ k3⟩)
  · exact .inr (.inr ⟨k1, k0, cc, k2, cell _ _ k3⟩)
end

set_option maxHeartbeats 4000000 in
theorem law_return (c : Cx) (hc : Lw c) {d : DefRec} (hd : (recsOf Mine.hd.view_39)[14]? = some d) {A : Around} {env : Env} {g₀ q g : Heap} {s₀ s : Shared} {P : Addr} (ps : List Plan) (due : List (List Nat))
    (a : AtS c 120 d.scope [(Str.ofString "plans", .p (plist (ps.map Plan.pd))), (Str.ofString "due", .p (plist (wsD due)))] A env g₀ s₀ q g s)
    (hic : s.heap.IsCode 60 P #[]) (htab : s.heap.TableAt 60 P #[]) (hgP : g.get? P = none) (hn : ps.length ≤ 100)
    (hps : ∀ p ∈ ps, p.depth ≤ 110 ∧ p.lean ∧ p.thing.showable = true ∧ p.thing.depth + 2 ≤ 400 ∧ p.thing.shown = S p.wr ∧ p.wr.length ≤ 50000)
    {mn mx : List Nat} {M : Nat} (hM1 : ∃ w ∈ ps.map Plan.wr, w.length = M) (hM2 : ∀ w ∈ ps.map Plan.wr, w.length ≤ M) (h1 : mn ∈ ps.map Plan.wr) (h2 : ∀ t ∈ ps.map Plan.wr, ¬ t < mn) (h3 : mx ∈ ps.map Plan.wr) (h4 : ∀ t ∈ ps.map Plan.wr, ¬ mx < t)
    (hdue : shortAll (ps.map Plan.wr) (lcp mn mx) M = due) :
    wpAny c.M A (execs (d.body.drop 8) env) (fun f s' => f = .ret (.bool true) ∧ ∃ g', GrowP P g s g' s') Bot s := by
  have hsz := sizeLine_is
  obtain ⟨PP, hK⟩ := hc.k
  cases hd
  have aa := a.toAt
  have kf : env.scope.kind = .function := by rw [aa.envOk.scope]
  refine wpAny_execs_cons (wpAny_Return_some (wpAny_Compare1 ?_ rfl))
  refine wpAny_Call_NameR ?_
  refine Calls.Name_function_global kf (by rw [aa.envOk.kindOf]; rfl) ?_ (by decide)
  refine Calls.loadGlobal_global (mg := c.mg) (by rw [aa.envOk.globals]; exact aa.base.1.g.keeps aa.sub) (csr_at c PP hK g aa.base) ?_
  refine callWith_S (K := c.K) (h₀ := g) aa.base.2.1 (by rw [hK]; rfl) ?_
  refine VE.go (PE.comp (k := 120) (rs := ps.map Plan.thing) (PIt.of_list (PE.local_ (by rfl))) (CompOk.of rfl (by decide) (by decide) (by decide) (by rfl)) (by simp) (by rw [List.length_map]; (first | decide | assumption | exact Nat.le_trans (by assumption) (by decide) | exact Nat.le_of_lt (by assumption) | exact Nat.le_of_not_lt (by assumption) | exact Nat.lt_of_not_le (by assumption) | exact Nat.le_trans (by assumption) (by assumption) | exact Nat.lt_of_lt_of_le (by assumption) (by assumption) | exact Nat.lt_of_le_of_lt (by assumption) (by assumption) | lia | omega)) (fun i d r hd hr => ?_) (by intros; rfl) A env g s aa) (fun v s₁ g₁ G₁ hv => ?_)
  · obtain ⟨_, hd1, rfl, _⟩ := map_get hd
    obtain ⟨p, hd2, rfl, _⟩ := map_get hd1
    rw [List.getElem?_map, hd2] at hr
    cases hr
    obtain ⟨p1, p2, _⟩ := hps p (List.mem_of_getElem? hd2)
    exact PE.call (by rfl) (thing_def c hc) (PL.cons (PE.local_ (by rfl)) PL.nil) ((pf_thing c hc 110 p p1 p2).less (by (first | decide | assumption | exact Nat.le_trans (by assumption) (by decide) | exact Nat.le_of_lt (by assumption) | exact Nat.le_of_not_lt (by assumption) | exact Nat.lt_of_not_le (by assumption) | exact Nat.le_trans (by assumption) (by assumption) | exact Nat.lt_of_lt_of_le (by assumption) (by assumption) | exact Nat.lt_of_le_of_lt (by assumption) (by assumption) | lia | omega)))
  obtain ⟨l, vs, rfl, hl, hr⟩ := rd_list hv
  have hlen := hr.length
  rw [List.length_map, Array.length_toList] at hlen
  have hP : s.heap.get? P = some { cls := .none, data := .fields #[] } := htab.2
  refine starList (hl.at fun o e => G₁.le _ _ e) (by omega) fun h' hk' => ?_
  have a₁ := aa.grow G₁
  have G₂ : Grow g s g₁ { s₁ with heap := h' } := G₁.trans (grow_any (s := s₁) (g := g₁) G₁.le hk' (Nat.le_refl _))
  refine ⟨fun b o e => G₂.le _ _ ((aa.grow G₂).base.2.1 b o e), ?_⟩
  have htk : 1 ≤ ({ s₁ with heap := h' } : Shared).toks := (aa.grow G₂).tk (by (first | decide | assumption | exact Nat.le_trans (by assumption) (by decide) | exact Nat.le_of_lt (by assumption) | exact Nat.le_of_not_lt (by assumption) | exact Nat.lt_of_not_le (by assumption) | exact Nat.le_trans (by assumption) (by assumption) | exact Nat.lt_of_lt_of_le (by assumption) (by assumption) | exact Nat.lt_of_le_of_lt (by assumption) (by assumption) | lia | omega))
  refine wpAny_call (codeAny_mono (call_csr c hc (xs := ps.map Plan.thing) (ws := ps.map Plan.wr) (aa.room.less (by (first | decide | assumption | exact Nat.le_trans (by assumption) (by decide) | exact Nat.le_of_lt (by assumption) | exact Nat.le_of_not_lt (by assumption) | exact Nat.lt_of_not_le (by assumption) | exact Nat.le_trans (by assumption) (by assumption) | exact Nat.lt_of_lt_of_le (by assumption) (by assumption) | exact Nat.lt_of_le_of_lt (by assumption) (by assumption) | lia | omega))) (aa.grow G₂).base (aa.grow G₂).sub htk (rdl_of_all hr) (hic.keeps G₂.keep) (htab.keeps G₂.keep) (G₂.off hgP (by rw [hP]; exact fun e => nomatch e)) (by simp) (by simp; (first | decide | assumption | exact Nat.le_trans (by assumption) (by decide) | exact Nat.le_of_lt (by assumption) | exact Nat.le_of_not_lt (by assumption) | exact Nat.lt_of_not_le (by assumption) | exact Nat.le_trans (by assumption) (by assumption) | exact Nat.lt_of_lt_of_le (by assumption) (by assumption) | exact Nat.lt_of_le_of_lt (by assumption) (by assumption) | lia | omega)) (fun i x w hx hw => ?_) (fun w hw => ?_) hM1 hM2 h1 h2 h3 h4) fun r' s₃ ⟨v, e, g₃, GP, hv3⟩ => ?_)
  · obtain ⟨p, hx2, rfl, _⟩ := map_get hx
    rw [List.getElem?_map, hx2] at hw
    cases hw
    obtain ⟨_, _, p3, p4, p5, _⟩ := hps p (List.mem_of_getElem? hx2)
    exact ⟨p3, p4, p5⟩
  · obtain ⟨p, hp, rfl⟩ := List.mem_map.mp hw
    have := (hps p hp).2.2.2.2.2
    (first | decide | assumption | exact Nat.le_trans (by assumption) (by decide) | exact Nat.le_of_lt (by assumption) | exact Nat.le_of_not_lt (by assumption) | exact Nat.lt_of_not_le (by assumption) | exact Nat.le_trans (by assumption) (by assumption) | exact Nat.lt_of_lt_of_le (by assumption) (by assumption) | exact Nat.lt_of_le_of_lt (by assumption) (by assumption) | lia | omega)
  subst e
  rw [hdue] at hv3
  have hdl : due.length ≤ 100 := by
    rw [← hdue]; unfold shortAll
    split
    · rw [List.length_map]; exact hn
    · split <;> (rw [List.length_map, List.length_map]; exact hn)
  have GP' : GrowP P g s g₃ s₃ := GrowP.after G₂ GP
  have a₃ := At.growP (k := 119) aa GP' hP (fun y d hy => by
    rw [List.lookup_cons] at hy
    split at hy
    · cases hy; exact ⟨_, rfl⟩
    · rw [List.lookup_cons] at hy
      split at hy
      · cases hy; exact ⟨_, rfl⟩
      · cases hy)
  refine VE.go (PE.tupleOf (l := wsD due) hc (PE.local_ (by rfl)) (by rw [List.length_map]; (first | decide | assumption | exact Nat.le_trans (by assumption) (by decide) | exact Nat.le_of_lt (by assumption) | exact Nat.le_of_not_lt (by assumption) | exact Nat.lt_of_not_le (by assumption) | exact Nat.le_trans (by assumption) (by assumption) | exact Nat.lt_of_lt_of_le (by assumption) (by assumption) | exact Nat.lt_of_le_of_lt (by assumption) (by assumption) | lia | omega)) (by rfl) (by intro _; rfl) A env g₃ s₃ a₃) (fun u s₄ g₄ G₄ hu => ?_)
  refine eq_strs hv3 hu (G₄.sub.trans G₄.le) G₄.le (by have := aa.room.2.2.2; (first | lia | omega)) ⟨rfl, g₄, ?_⟩
  obtain ⟨h4, tk4, e4⟩ := G₄.same
  obtain ⟨ps', hps'⟩ := GP'.tab
  exact ⟨fun b o hb e => G₄.keep _ _ (GP'.keep b o hb e), GP'.sub.trans G₄.sub, G₄.le, by rw [e4]; exact GP'.os, fun hba => by rw [e4]; exact GP'.bare hba, ps', G₄.keep _ _ hps'⟩
end Mine

/-! G1 -/
open PySem PySem.W PyProof.Rows
set_option Elab.async false
set_option maxRecDepth 100000
namespace Mine

/-! repr of the texts that the law makes -/
noncomputable def cleanT (t : List Nat) : Prop := ∀ x ∈ t, x = 97 ∨ x = 39 ∨ x = 34 ∨ x = 92 ∨ x = 10
mutual
noncomputable def Plan.clean : Plan → Prop
  | .int _ => True
  | .bool _ => True
  | .none => True
  | .text t => cleanT t
  | .node _ ps => Plan.cleanL ps
noncomputable def Plan.cleanL : List Plan → Prop
  | [] => True
  | p :: ps => p.clean ∧ Plan.cleanL ps
end
theorem Plan.cleanL_iff : ∀ {ps : List Plan}, Plan.cleanL ps ↔ ∀ p ∈ ps, p.clean
  | [] => ⟨fun _ _ h => by simp at h, fun _ => trivial⟩
  | p :: ps => by
    show p.clean ∧ Plan.cleanL ps ↔ _
    rw [Plan.cleanL_iff (ps := ps)]
    simp

theorem contains_one (t : List Nat) (c : Nat) : Txt.contains (S t) (S [c]) = decide (c ∈ t) := StrLaws.found_one (S t) c
theorem quote_eq (t : List Nat) : reprQuote (S t) = quoteOf t := by
  unfold reprQuote quoteOf
  rw [contains_one, contains_one]
  simp [S, Bool.decide_coe]
theorem fold_app (f : Nat → List Nat) : ∀ (l : List Nat) (acc : Array Nat), l.foldl (fun out c => out ++ (f c).toArray) acc = acc ++ (l.flatMap f).toArray
  | [], acc => by simp
  | x :: r, acc => by
    rw [List.foldl_cons, fold_app f r, List.flatMap_cons]
    simp
theorem quote_is (t : List Nat) : quoteOf t = 39 ∨ quoteOf t = 34 := by unfold quoteOf; split <;> simp
theorem reprText_S (t : List Nat) (h : cleanT t) : reprText (S t) = S (wrText t) := by
  unfold reprText
  rw [quote_eq]
  have e0 : (S t).cps = t.toArray := rfl
  rw [e0, List.foldl_toArray, fold_app]
  have e : t.flatMap (Builtin.Str.reprChar (quoteOf t)) = escd t := by
    have key : ∀ (q : Nat), (q = 39 ∨ q = 34) → ∀ l : List Nat, cleanT l → l.flatMap (Builtin.Str.reprChar q) = repl q ([92] ++ [q]) (repl 10 [92, 110] (repl 92 [92, 92] l)) := by
      intro q hq l
      induction l with
      | nil => intro _; rfl
      | cons x r ih =>
        intro hl
        have h1 := hl x (List.mem_cons_self ..)
        have h2 := ih fun y hy => hl y (List.mem_cons_of_mem _ hy)
        rw [List.flatMap_cons, h2]
        have e : x :: r = [x] ++ r := rfl
        rw [e, repl_append, repl_append, repl_append]
        congr 1
        rcases hq with rfl | rfl <;> rcases h1 with rfl | rfl | rfl | rfl | rfl <;> decide +kernel
    exact key _ (quote_is t) t h
  rw [e]
  unfold wrText S
  simp

theorem textFrom_S : ∀ (ts : List (List Nat)) (k : Nat) (a : List Nat), textFrom (k + 1) (S a) (ts.map S) = S (a ++ ts.flatMap fun t => lit ", " ++ t)
  | [], k, a => by simp [textFrom]
  | t :: r, k, a => by
    show textFrom (k + 1 + 1) (S a ++ ((if k + 1 > 0 then ", " else "" : String) : Str) ++ S t) (r.map S) = _
    rw [if_pos (Nat.succ_pos k)]
    have e : S a ++ ((", " : String) : Str) ++ S t = S (a ++ lit ", " ++ t) := by
      rw [← S_append, ← S_append, S_lit]
    rw [e, textFrom_S r (k + 1), List.flatMap_cons]
    simp
theorem joinL_flat (sep t : List Nat) : ∀ ts : List (List Nat), joinL sep (t :: ts) = t ++ ts.flatMap fun u => sep ++ u
  | [] => by simp [joinL]
  | u :: r => by
    show t ++ sep ++ joinL sep (u :: r) = _
    rw [joinL_flat sep u r, List.flatMap_cons]
    simp
theorem listText_S (ts : List (List Nat)) : listText (ts.map S) = S (lit "[" ++ joinL (lit ", ") ts ++ lit "]") := by
  unfold listText
  cases ts with
  | nil =>
    show (("[" : String) : Str) ++ (("]" : String) : Str) = _
    rw [← S_append, ← S_append, S_lit, S_lit]
    have : S (joinL (lit ", ") []) = S [] := rfl
    rw [this]; rfl
  | cons t r =>
    show textFrom 1 ((("[" : String) : Str) ++ (("" : String) : Str) ++ S t) (r.map S) ++ (("]" : String) : Str) = _
    have e : (("[" : String) : Str) ++ (("" : String) : Str) ++ S t = S (lit "[" ++ t) := by
      rw [← S_append, S_lit]; rfl
    rw [e, textFrom_S r 0, joinL_flat, ← S_append (_ ++ _) (lit "]"), S_lit "]"]
    simp only [List.append_assoc]
theorem tupleText_S (ts : List (List Nat)) : tupleText (ts.map S) = S (lit "(" ++ joinL (lit ", ") ts ++ (if ts.length == 1 then lit "," else lit "") ++ lit ")") := by
  have e1 : Str.join ((", " : String) : Str) (ts.map S) = S (joinL (lit ", ") ts) := by rw [← sjoin, S_lit]
  unfold tupleText
  rw [e1, List.length_map]
  have e2 : S (lit "(" ++ joinL (lit ", ") ts ++ (if ts.length == 1 then lit "," else lit "") ++ lit ")") = Str.ofString "(" ++ S (joinL (lit ", ") ts) ++ S ((if ts.length == 1 then lit "," else lit "") ++ lit ")") := by
    rw [← S_lit "(", S_append, S_append, List.append_assoc]
  rw [e2]
  have e3 : S ((if ts.length == 1 then lit "," else lit "") ++ lit ")") = ((if ts.length == 1 then ",)" else ")" : String) : Str) := by
    split <;> (rw [← S_append, S_lit, S_lit]; decide +kernel)
  rw [e3]
theorem dictText_S (ts : List (List Nat)) : dictText (ts.map S) = S (lit "{" ++ joinL (lit ", ") ts ++ lit "}") := by
  have e1 : Str.join ((", " : String) : Str) (ts.map S) = S (joinL (lit ", ") ts) := by rw [← sjoin, S_lit]
  unfold dictText
  rw [e1, ← S_append, ← S_append, S_lit, S_lit]

theorem shownKv_tab : ∀ (xs : List PyData) (ts : List (List Nat)) (n : Nat), PyData.shownAll xs = ts.map S → PyData.shownKv (xs.mapIdx fun i x => (.int ((n + i : Nat) : Int), x)) = (keyed n ts).map S
  | [], [], n, _ => rfl
  | x :: xs, t :: ts, n, h => by
    have h' : x.shown :: PyData.shownAll xs = S t :: ts.map S := h
    rw [List.cons.injEq] at h'
    have ih := shownKv_tab xs ts (n + 1) h'.2
    rw [List.mapIdx_cons]
    have e : (fun i x => ((.int ((n + (i + 1) : Nat) : Int), x) : PyData × PyData)) = fun i x => (.int ((n + 1 + i : Nat) : Int), x) := by
      funext i x; rw [show n + (i + 1) = n + 1 + i by omega]
    show ((PyData.shown (.int ((n + 0 : Nat) : Int))) ++ ((": " : String) : Str) ++ x.shown) :: PyData.shownKv (xs.mapIdx fun i x => (.int ((n + (i + 1) : Nat) : Int), x)) = S (itx (n : Nat) ++ lit ": " ++ t) :: (keyed (n + 1) ts).map S
    rw [e, ih, h'.1, ← S_append, ← S_append, S_lit]
    congr 2
  | [], t :: ts, n, h => by cases h
  | x :: xs, [], n, h => by cases h
mutual
theorem shown_plan : ∀ p : Plan, p.clean → p.thing.shown = S p.wr
  | .int i, _ => (S_lit _).symm
  | .bool b, _ => by cases b <;> exact (S_lit _).symm
  | .none, _ => (S_lit _).symm
  | .text t, h => reprText_S t h
  | .node .lst ps, h => by
    show listText (PyData.shownAll (Plan.thingL ps)) = _
    rw [shown_planL ps h, listText_S]; rfl
  | .node .tup ps, h => by
    show tupleText (PyData.shownAll (Plan.thingL ps)) = _
    rw [shown_planL ps h, tupleText_S, Plan.wrL_map, List.length_map]
    show _ = S (lit "(" ++ joinL (lit ", ") (Plan.wrL ps) ++ (if ps.length == 1 then lit "," else lit "") ++ lit ")")
    rw [Plan.wrL_map]
  | .node .tab ps, h => by
    show dictText (PyData.shownKv (tabD (Plan.thingL ps))) = _
    have := shownKv_tab (Plan.thingL ps) (Plan.wrL ps) 0 (shown_planL ps h)
    have e : tabD (Plan.thingL ps) = (Plan.thingL ps).mapIdx fun i x => (.int ((0 + i : Nat) : Int), x) := by
      unfold tabD; congr; funext i x; rw [Nat.zero_add]
    rw [e, this, dictText_S]; rfl
theorem shown_planL : ∀ ps : List Plan, Plan.cleanL ps → PyData.shownAll (Plan.thingL ps) = (Plan.wrL ps).map S
  | [], _ => rfl
  | p :: ps, h => by
    show p.thing.shown :: PyData.shownAll (Plan.thingL ps) = S p.wr :: (Plan.wrL ps).map S
    rw [shown_plan p h.1, shown_planL ps h.2]
end

theorem showableKv_tab : ∀ (xs : List PyData) (n : Nat), PyData.showableAll xs = true → n + xs.length ≤ 1000000 → PyData.showableKv (xs.mapIdx fun i x => (.int ((n + i : Nat) : Int), x)) = true
  | [], n, _, _ => rfl
  | x :: xs, n, h, hn => by
    have h' : (x.showable && PyData.showableAll xs) = true := h
    rw [Bool.and_eq_true] at h'
    rw [List.length_cons] at hn
    have ih := showableKv_tab xs (n + 1) h'.2 (by omega)
    rw [List.mapIdx_cons]
    have e : (fun i x => ((.int ((n + (i + 1) : Nat) : Int), x) : PyData × PyData)) = fun i x => (.int ((n + 1 + i : Nat) : Int), x) := by
      funext i x; rw [show n + (i + 1) = n + 1 + i by (first | lia | omega)]
    show (PyData.showable (.int ((n + 0 : Nat) : Int)) && x.showable && PyData.showableKv (xs.mapIdx fun i x => (.int ((n + (i + 1) : Nat) : Int), x))) = true
    rw [e, ih, h'.1]
    have : PyData.showable (.int ((n + 0 : Nat) : Int)) = true := by
      show decide _ = true
      rw [decide_eq_true_eq]
      refine log2_small (Nat.lt_of_lt_of_le (show ((n + 0 : Nat) : Int).natAbs < 10 ^ 10 by omega) (Nat.pow_le_pow_right (by decide) (by decide)))
    rw [this]; rfl
theorem depthKv_tab : ∀ (xs : List PyData) (n : Nat), PyData.depthKv (xs.mapIdx fun i x => (.int ((n + i : Nat) : Int), x)) = PyData.depthAll xs
  | [], n => rfl
  | x :: xs, n => by
    rw [List.mapIdx_cons]
    have e : (fun i x => ((.int ((n + (i + 1) : Nat) : Int), x) : PyData × PyData)) = fun i x => (.int ((n + 1 + i : Nat) : Int), x) := by
      funext i x; rw [show n + (i + 1) = n + 1 + i by omega]
    show max (max 0 x.depth) (PyData.depthKv (xs.mapIdx fun i x => (.int ((n + (i + 1) : Nat) : Int), x))) = max x.depth (PyData.depthAll xs)
    rw [e, depthKv_tab xs (n + 1)]; (first | lia | omega)
theorem thingL_length (ps : List Plan) : (Plan.thingL ps).length = ps.length := by rw [Plan.thingL_map, List.length_map]
mutual
theorem showable_plan : ∀ p : Plan, p.small → p.lean → p.thing.showable = true
  | .int i, h, _ => by
    show decide _ = true
    rw [decide_eq_true_eq]
    exact log2_small h
  | .bool b, _, _ => rfl
  | .none, _, _ => rfl
  | .text t, _, _ => rfl
  | .node .lst ps, h, h' => showable_planL ps h h'.2
  | .node .tup ps, h, h' => showable_planL ps h h'.2
  | .node .tab ps, h, h' => by
    show PyData.showableKv (tabD (Plan.thingL ps)) = true
    have e : tabD (Plan.thingL ps) = (Plan.thingL ps).mapIdx fun i x => (.int ((0 + i : Nat) : Int), x) := by
      unfold tabD; congr; funext i x; rw [Nat.zero_add]
    rw [e]
    exact showableKv_tab _ 0 (showable_planL ps h h'.2) (by rw [thingL_length]; have := h'.1; omega)
theorem showable_planL : ∀ ps : List Plan, Plan.smallL ps → Plan.leanL ps → PyData.showableAll (Plan.thingL ps) = true
  | [], _, _ => rfl
  | p :: ps, h, h' => by
    show (p.thing.showable && PyData.showableAll (Plan.thingL ps)) = true
    rw [showable_plan p h.1 h'.1, showable_planL ps h.2 h'.2]; rfl
end
mutual
theorem depth_plan : ∀ p : Plan, p.thing.depth ≤ p.depth
  | .int i => Nat.zero_le _
  | .bool b => Nat.zero_le _
  | .none => Nat.zero_le _
  | .text t => Nat.zero_le _
  | .node .lst ps => Nat.succ_le_succ (depth_planL ps)
  | .node .tup ps => Nat.succ_le_succ (depth_planL ps)
  | .node .tab ps => by
    show PyData.depthKv (tabD (Plan.thingL ps)) + 1 ≤ Plan.depthL ps + 1
    have e : tabD (Plan.thingL ps) = (Plan.thingL ps).mapIdx fun i x => (.int ((0 + i : Nat) : Int), x) := by
      unfold tabD; congr; funext i x; rw [Nat.zero_add]
    rw [e, depthKv_tab]
    exact Nat.succ_le_succ (depth_planL ps)
theorem depth_planL : ∀ ps : List Plan, PyData.depthAll (Plan.thingL ps) ≤ Plan.depthL ps
  | [] => Nat.le_refl _
  | p :: ps => by
    show max p.thing.depth (PyData.depthAll (Plan.thingL ps)) ≤ max p.depth (Plan.depthL ps)
    have h1 := depth_plan p
    have h2 := depth_planL ps
    omega
end
end Mine

/-! G2 -/
open PySem PySem.W PyProof.Rows
set_option Elab.async false
set_option maxRecDepth 100000
namespace Mine

/-! the plans of the law are small -/
theorem sgn_clean (i : Nat) (h : i < 5) : let x := sgn.getD i 0; x = 97 ∨ x = 39 ∨ x = 34 ∨ x = 92 ∨ x = 10 := by
  have : i = 0 ∨ i = 1 ∨ i = 2 ∨ i = 3 ∨ i = 4 := by (first | lia | omega)
  rcases this with rfl | rfl | rfl | rfl | rfl <;> decide +kernel
theorem signsL_clean (n : Nat) : cleanT (signsL n) := by
  induction n using Nat.strongRecOn with
  | _ n ih =>
    by_cases hn : n = 0
    · subst hn; intro x hx; cases hx
    · rw [signsL_eq hn]
      intro x hx
      rcases List.mem_cons.mp hx with e | hx
      · rw [e]; exact sgn_clean _ (Nat.mod_lt _ (by decide))
      · exact ih _ (by omega) x hx
theorem plan0_clean {ps : List Plan} (hp : ∀ p ∈ ps, p.clean) (x : Int) : (plan0 ps x).clean := by
  unfold plan0
  split
  · trivial
  split
  · exact signsL_clean _
  split
  · split
    · trivial
    · split <;> trivial
  · exact Plan.cleanL_iff.mpr fun p h => hp p (List.mem_of_mem_drop h)
theorem plan1_clean {ps : List Plan} (hp : ∀ p ∈ ps, p.clean) (x : Int) : (plan1 ps x).clean := by
  unfold plan1
  split
  · trivial
  · exact plan0_clean hp x

structure Good (p : Plan) : Prop where
  piece : Piece p
  clean : p.clean
theorem runP_ok (stop : List Plan × Nat → Bool) (hstop : stop = fun st => decide (300 < st.2)) : ∀ (xs : List Int) (st : List Plan × Nat), (∀ p ∈ st.1, Good p) → st.1.length * 2 ≤ st.2 → st.2 ≤ 300 → (∀ p ∈ (runP stepP stop xs st).1, Good p) ∧ (runP stepP stop xs st).1.length * 2 ≤ 402
  | [], st, h1, h2, h3 => ⟨h1, by show st.1.length * 2 ≤ 402; omega⟩
  | x :: xs, st, h1, h2, h3 => by
    have piece := plan1_ok (fun p hp => (h1 p hp).piece) x
    have k1 : ∀ p ∈ (stepP st x).1, Good p := fun p hp => by
      rcases List.mem_append.mp (show p ∈ st.1 ++ [plan1 st.1 x] from hp) with h | h
      · exact h1 p h
      · simp at h; rw [h]; exact ⟨piece, plan1_clean (fun p hp => (h1 p hp).clean) x⟩
    have k2 : (stepP st x).1.length = st.1.length + 1 := by unfold stepP; simp
    have k3 : (stepP st x).2 = st.2 + (plan1 st.1 x).wr.length + 2 := rfl
    have k4 := piece.len
    unfold runP
    split
    · exact ⟨k1, by omega⟩
    · rename_i hs
      refine runP_ok stop hstop xs _ k1 (by omega) ?_
      rw [hstop] at hs
      simpa using hs
theorem pieces_ok (xs : List Int) : (∀ p ∈ (piecesOf xs).1, Good p) ∧ (piecesOf xs).1.length ≤ 201 := by
  have := runP_ok _ rfl (xs.take 63) ([], 0) (by simp) (by simp) (by simp)
  exact ⟨this.1, by have := this.2; unfold piecesOf; omega⟩

/-- what a plan of the law must be -/
structure LawPlan (p : Plan) : Prop where
  depth : p.depth ≤ 110
  small : p.small
  lean : p.lean
  clean : p.clean
  len : p.wr.length ≤ 50000
theorem node_law (k : Kd) (ps : List Plan) (h : ∀ p ∈ ps, Good p) (hn : ps.length ≤ 250) : LawPlan (.node k ps) := by
  refine ⟨?_, Plan.smallL_iff.mpr fun p hp => (h p hp).piece.small, ⟨by (first | decide | assumption | exact Nat.le_trans (by assumption) (by decide) | exact Nat.le_of_lt (by assumption) | exact Nat.le_of_not_lt (by assumption) | exact Nat.lt_of_not_le (by assumption) | exact Nat.le_trans (by assumption) (by assumption) | exact Nat.lt_of_lt_of_le (by assumption) (by assumption) | exact Nat.lt_of_le_of_lt (by assumption) (by assumption) | lia | omega), Plan.leanL_iff.mpr fun p hp => (h p hp).piece.lean⟩, Plan.cleanL_iff.mpr fun p hp => (h p hp).clean, ?_⟩
  · show Plan.depthL ps + 1 ≤ 110
    have := Plan.depthL_of (ps := ps) (n := 101) fun p hp => by have h1 := (h p hp).piece.depth; have h2 := (h p hp).piece.len; omega
    (first | lia | omega)
  · have := wr_node_len k ps 100 (fun p hp => (h p hp).piece.len) (by (first | decide | assumption | exact Nat.le_trans (by assumption) (by decide) | exact Nat.le_of_lt (by assumption) | exact Nat.le_of_not_lt (by assumption) | exact Nat.lt_of_not_le (by assumption) | exact Nat.le_trans (by assumption) (by assumption) | exact Nat.lt_of_lt_of_le (by assumption) (by assumption) | exact Nat.lt_of_le_of_lt (by assumption) (by assumption) | lia | omega))
    have h2 := Nat.mul_le_mul_right (100 + 20) hn
    omega
theorem int_good {i : Int} (h : i.natAbs < 10 ^ 91) : Good (.int i) := ⟨int_piece h, trivial⟩
theorem good_law {p : Plan} (h : Good p) : LawPlan p := by
  have h1 := h.piece.depth
  have h2 := h.piece.len
  exact ⟨by omega, h.piece.small, h.piece.lean, h.clean, by (first | decide | assumption | exact Nat.le_trans (by assumption) (by decide) | exact Nat.le_of_lt (by assumption) | exact Nat.le_of_not_lt (by assumption) | exact Nat.lt_of_not_le (by assumption) | exact Nat.le_trans (by assumption) (by assumption) | exact Nat.lt_of_lt_of_le (by assumption) (by assumption) | exact Nat.lt_of_le_of_lt (by assumption) (by assumption) | lia | omega)⟩
theorem changed_law (row : List Plan) (y : Int) (k : Nat) (h : ∀ p ∈ row, Good p) (hn : row.length ≤ 201) (hk : k ≤ 10) : LawPlan (changed row y (k : Nat)) := by
  have p91 : 1000 ≤ 10 ^ 91 := by decide
  have ik : Good (.int (k : Nat)) := int_good (Nat.lt_of_lt_of_le (show ((k : Nat) : Int).natAbs < 1000 by omega) p91)
  have tk : ∀ n, ∀ p ∈ row.take n, Good p := fun n p hp => h p (List.mem_of_mem_take hp)
  have dr : ∀ n, ∀ p ∈ row.drop n, Good p := fun n p hp => h p (List.mem_of_mem_drop hp)
  have ltk : ∀ n, (row.take n).length ≤ 201 := fun n => by rw [List.length_take]; omega
  have ldr : ∀ n, (row.drop n).length ≤ row.length - n := fun n => by rw [List.length_drop]; (first | lia | omega)
  unfold changed
  split
  · exact node_law _ _ (tk _) (by have := ltk (placeOf row y); (first | decide | assumption | exact Nat.le_trans (by assumption) (by decide) | exact Nat.le_of_lt (by assumption) | exact Nat.le_of_not_lt (by assumption) | exact Nat.lt_of_not_le (by assumption) | exact Nat.le_trans (by assumption) (by assumption) | exact Nat.lt_of_lt_of_le (by assumption) (by assumption) | exact Nat.lt_of_le_of_lt (by assumption) (by assumption) | lia | omega))
  split
  · refine node_law _ _ (fun p hp => ?_) ?_
    · rcases List.mem_append.mp hp with hp | hp
      · rcases List.mem_append.mp hp with hp | hp
        · exact tk _ p hp
        · simp at hp; rw [hp]; exact ik
      · exact dr _ p hp
    · simp only [List.length_append, List.length_take, List.length_drop, List.length_singleton]; omega
  split
  · refine node_law _ _ (fun p hp => ?_) ?_
    · rcases List.mem_append.mp hp with hp | hp
      · exact tk _ p hp
      · exact dr _ p hp
    · simp only [List.length_append, List.length_take, List.length_drop]; omega
  split
  · refine node_law _ _ (fun p hp => ?_) ?_
    · rcases List.mem_append.mp hp with hp | hp
      · exact h p hp
      · simp at hp; rw [hp]; exact int_good (Nat.lt_of_lt_of_le (fmod_lt_natAbs y 1000 (by decide)) p91)
    · simp only [List.length_append, List.length_singleton]; omega
  split
  · exact node_law _ _ h (by (first | decide | assumption | exact Nat.le_trans (by assumption) (by decide) | exact Nat.le_of_lt (by assumption) | exact Nat.le_of_not_lt (by assumption) | exact Nat.lt_of_not_le (by assumption) | exact Nat.le_trans (by assumption) (by assumption) | exact Nat.lt_of_lt_of_le (by assumption) (by assumption) | exact Nat.lt_of_le_of_lt (by assumption) (by assumption) | lia | omega))
  · rw [List.getD_eq_getElem?_getD]
    cases hg : (row ++ [Plan.node .lst []])[placeOf row y]? with
    | none => exact ⟨by show 1 ≤ 110; (first | decide | assumption | exact Nat.le_trans (by assumption) (by decide) | exact Nat.le_of_lt (by assumption) | exact Nat.le_of_not_lt (by assumption) | exact Nat.lt_of_not_le (by assumption) | exact Nat.le_trans (by assumption) (by assumption) | exact Nat.lt_of_lt_of_le (by assumption) (by assumption) | exact Nat.lt_of_le_of_lt (by assumption) (by assumption) | lia | omega), trivial, trivial, trivial, by show (lit "None").length ≤ 50000; decide +kernel⟩
    | some p =>
      rcases List.mem_append.mp (List.mem_of_getElem? hg) with hp | hp
      · exact good_law (h p hp)
      · simp at hp; rw [hp]; exact node_law _ _ (by simp) (by simp)
theorem lawPlans_ok (ns : List Int) : ∀ p ∈ lawPlans ns, LawPlan p := by
  obtain ⟨h1, h2⟩ := pieces_ok ns
  intro p hp
  unfold lawPlans at hp
  rcases List.mem_cons.mp hp with e | hp
  · rw [e]; exact node_law _ _ h1 (by (first | decide | assumption | exact Nat.le_trans (by assumption) (by decide) | exact Nat.le_of_lt (by assumption) | exact Nat.le_of_not_lt (by assumption) | exact Nat.lt_of_not_le (by assumption) | exact Nat.le_trans (by assumption) (by assumption) | exact Nat.lt_of_lt_of_le (by assumption) (by assumption) | exact Nat.lt_of_le_of_lt (by assumption) (by assumption) | lia | omega))
  · obtain ⟨k, hk, rfl⟩ := List.mem_map.mp hp
    rw [List.mem_range] at hk
    exact changed_law _ _ _ h1 h2 (by omega)
end Mine

/-! G3 -/
open PySem PySem.W PyProof.Rows
set_option Elab.async false
set_option maxRecDepth 100000
namespace Mine

/-! what all share -/
theorem lcp_pre : ∀ (a b w : List Nat), ¬ w < a → ¬ b < w → ∃ t, w = lcp a b ++ t
  | x :: xs, y :: ys, w, h1, h2 => by
    unfold lcp
    split
    · rename_i e
      subst e
      cases w with
      | nil => exact absurd (List.Lex.nil) h1
      | cons z zs =>
        have hz1 : ¬ z < x := fun h => h1 (List.Lex.rel h)
        have hz2 : ¬ x < z := fun h => h2 (List.Lex.rel h)
        have hz : z = x := by omega
        subst hz
        obtain ⟨t, ht⟩ := lcp_pre xs ys zs (fun h => h1 (List.Lex.cons h)) (fun h => h2 (List.Lex.cons h))
        exact ⟨t, by rw [List.cons_append, ← ht]⟩
    · exact ⟨w, rfl⟩
  | [], _, w, _, _ => ⟨w, by unfold lcp; rfl⟩
  | _ :: _, [], w, _, _ => ⟨w, by unfold lcp; rfl⟩
theorem lcp_stop : ∀ (a b : List Nat), (lcp a b).length < a.length → (lcp a b).length < b.length → a.getD (lcp a b).length 0 ≠ b.getD (lcp a b).length 0
  | x :: xs, y :: ys, h1, h2 => by
    unfold lcp at h1 h2 ⊢
    split
    · rename_i e
      rw [if_pos e] at h1 h2
      simp only [List.length_cons] at h1 h2 ⊢
      have := lcp_stop xs ys (by omega) (by omega)
      simpa using this
    · rename_i e
      simpa using e
  | [], _, h1, _ => by simp at h1
  | _ :: _, [], _, h2 => by simp at h2
theorem getD_pre {p t : List Nat} {k : Nat} (h : k < p.length) : (p ++ t).getD k 0 = p.getD k 0 := by
  rw [List.getD_eq_getElem?_getD, List.getD_eq_getElem?_getD, List.getElem?_append_left h]
theorem shared_is {w0 : List Nat} {r : List (List Nat)} {m : Nat} {mn mx : List Nat} (hm1 : ∃ w ∈ w0 :: r, w.length = m) (hm2 : ∀ w ∈ w0 :: r, m ≤ w.length)
    (h1 : mn ∈ w0 :: r) (h2 : ∀ t ∈ w0 :: r, ¬ t < mn) (h3 : mx ∈ w0 :: r) (h4 : ∀ t ∈ w0 :: r, ¬ mx < t) : sharedL w0 (w0 :: r) m = (lcp mn mx).length := by
  have pre : ∀ w ∈ w0 :: r, ∃ t, w = lcp mn mx ++ t := fun w hw => lcp_pre mn mx w (h2 w hw) (h4 w hw)
  have hle : (lcp mn mx).length ≤ m := by
    obtain ⟨w, hw, e⟩ := hm1
    obtain ⟨t, ht⟩ := pre w hw
    rw [← e, ht, List.length_append]; (first | lia | omega)
  have agree : ∀ j < (lcp mn mx).length, differ w0 (w0 :: r) j = false := fun j hj => by
    unfold differ
    rw [List.any_eq_false]
    intro w hw
    obtain ⟨t, ht⟩ := pre w hw
    obtain ⟨t0, ht0⟩ := pre w0 (List.mem_cons_self ..)
    have e1 : w.getD j 0 = w0.getD j 0 := by
      have a1 : w.getD j 0 = (lcp mn mx).getD j 0 := by rw [ht]; exact getD_pre hj
      have a2 : w0.getD j 0 = (lcp mn mx).getD j 0 := by rw [ht0]; exact getD_pre hj
      rw [a1, a2]
    rw [e1]; simp
  rcases Nat.lt_or_ge (lcp mn mx).length m with hlt | hge
  · refine sharedL_hit agree ?_ hlt
    have s1 := lcp_stop mn mx (by have := hm2 mn h1; (first | decide | assumption | exact Nat.le_trans (by assumption) (by decide) | exact Nat.le_of_lt (by assumption) | exact Nat.le_of_not_lt (by assumption) | exact Nat.lt_of_not_le (by assumption) | exact Nat.le_trans (by assumption) (by assumption) | exact Nat.lt_of_lt_of_le (by assumption) (by assumption) | exact Nat.lt_of_le_of_lt (by assumption) (by assumption) | lia | omega)) (by have := hm2 mx h3; (first | decide | assumption | exact Nat.le_trans (by assumption) (by decide) | exact Nat.le_of_lt (by assumption) | exact Nat.le_of_not_lt (by assumption) | exact Nat.lt_of_not_le (by assumption) | exact Nat.le_trans (by assumption) (by assumption) | exact Nat.lt_of_lt_of_le (by assumption) (by assumption) | exact Nat.lt_of_le_of_lt (by assumption) (by assumption) | lia | omega))
    unfold differ
    rw [List.any_eq_true]
    by_cases e : mn.getD (lcp mn mx).length 0 = w0.getD (lcp mn mx).length 0
    · exact ⟨mx, h3, by rw [bne_iff_ne]; exact fun e2 => s1 (e.trans e2.symm)⟩
    · exact ⟨mn, h1, by rw [bne_iff_ne]; exact e⟩
  · have : (lcp mn mx).length = m := by (first | lia | omega)
    rw [this] at agree ⊢
    exact sharedL_none agree

theorem min_ex (w0 : List Nat) (r : List (List Nat)) : ∃ mn ∈ w0 :: r, ∀ t ∈ w0 :: r, ¬ t < mn := by
  obtain ⟨k1, k2⟩ := best_lt (fun i => (w0 :: r).getD i []) r.length
  refine ⟨(w0 :: r).getD (argBest (fun i j => decide ((w0 :: r).getD i [] < (w0 :: r).getD j [])) r.length) [], ?_, fun t ht => ?_⟩
  · rw [List.getD_eq_getElem?_getD, List.getElem?_eq_getElem (by rw [List.length_cons]; omega)]
    exact List.getElem_mem _
  · obtain ⟨j, hj, ej⟩ := getD_get ht
    rw [List.length_cons] at hj
    have := k2 j (by omega)
    rw [ej] at this
    exact this
theorem max_ex (w0 : List Nat) (r : List (List Nat)) : ∃ mx ∈ w0 :: r, ∀ t ∈ w0 :: r, ¬ mx < t := by
  obtain ⟨k1, k2⟩ := best_gt (fun i => (w0 :: r).getD i []) r.length
  refine ⟨(w0 :: r).getD (argBest (fun i j => decide ((w0 :: r).getD j [] < (w0 :: r).getD i [])) r.length) [], ?_, fun t ht => ?_⟩
  · rw [List.getD_eq_getElem?_getD, List.getElem?_eq_getElem (by rw [List.length_cons]; omega)]
    exact List.getElem_mem _
  · obtain ⟨j, hj, ej⟩ := getD_get ht
    rw [List.length_cons] at hj
    have := k2 j (by omega)
    rw [ej] at this
    exact this
theorem len_min_ex : ∀ (w0 : List Nat) (r : List (List Nat)), ∃ m, (∃ w ∈ w0 :: r, w.length = m) ∧ ∀ w ∈ w0 :: r, m ≤ w.length
  | w0, [] => ⟨w0.length, ⟨w0, by simp, rfl⟩, by simp⟩
  | w0, w1 :: r => by
    obtain ⟨m, ⟨w, hw, e⟩, h⟩ := len_min_ex w1 r
    rcases Nat.lt_or_ge w0.length m with hlt | hge
    · exact ⟨w0.length, ⟨w0, by simp, rfl⟩, fun u hu => by
        rcases List.mem_cons.mp hu with e | hu
        · rw [e]; exact Nat.le_refl _
        · have := h u hu; omega⟩
    · exact ⟨m, ⟨w, List.mem_cons_of_mem _ hw, e⟩, fun u hu => by
        rcases List.mem_cons.mp hu with e | hu
        · rw [e]; exact hge
        · exact h u hu⟩
theorem len_max_ex : ∀ (w0 : List Nat) (r : List (List Nat)), ∃ m, (∃ w ∈ w0 :: r, w.length = m) ∧ ∀ w ∈ w0 :: r, w.length ≤ m
  | w0, [] => ⟨w0.length, ⟨w0, by simp, rfl⟩, by simp⟩
  | w0, w1 :: r => by
    obtain ⟨m, ⟨w, hw, e⟩, h⟩ := len_max_ex w1 r
    rcases Nat.lt_or_ge m w0.length with hlt | hge
    · exact ⟨w0.length, ⟨w0, by simp, rfl⟩, fun u hu => by
        rcases List.mem_cons.mp hu with e | hu
        · rw [e]; exact Nat.le_refl _
        · have := h u hu; omega⟩
    · exact ⟨m, ⟨w, List.mem_cons_of_mem _ hw, e⟩, fun u hu => by
        rcases List.mem_cons.mp hu with e | hu
        · rw [e]; exact hge
        · exact h u hu⟩

/-! what is left out -/
theorem cut_nat {α : Type} (l : List α) (a b : Nat) : cut (some (a : Int)) (some (b : Int)) l = (l.drop a).take (b - a) := by
  show (l.drop (clipAt l.length (a : Int))).take (clipAt l.length (b : Int) - clipAt l.length (a : Int)) = _
  rw [clipAt_nat, clipAt_nat]
  rcases Nat.lt_or_ge a l.length with h | h
  · rw [Nat.min_eq_left (show a ≤ l.length by (first | decide | assumption | exact Nat.le_trans (by assumption) (by decide) | exact Nat.le_of_lt (by assumption) | exact Nat.le_of_not_lt (by assumption) | exact Nat.lt_of_not_le (by assumption) | exact Nat.le_trans (by assumption) (by assumption) | exact Nat.lt_of_lt_of_le (by assumption) (by assumption) | exact Nat.lt_of_le_of_lt (by assumption) (by assumption) | lia | omega))]
    rcases Nat.lt_or_ge b l.length with h2 | h2
    · rw [Nat.min_eq_left (show b ≤ l.length by (first | decide | assumption | exact Nat.le_trans (by assumption) (by decide) | exact Nat.le_of_lt (by assumption) | exact Nat.le_of_not_lt (by assumption) | exact Nat.lt_of_not_le (by assumption) | exact Nat.le_trans (by assumption) (by assumption) | exact Nat.lt_of_lt_of_le (by assumption) (by assumption) | exact Nat.lt_of_le_of_lt (by assumption) (by assumption) | lia | omega))]
    · rw [Nat.min_eq_right (show l.length ≤ b from h2), List.take_of_length_le (by rw [List.length_drop]; (first | lia | omega)), List.take_of_length_le (by rw [List.length_drop]; omega)]
  · rw [List.drop_of_length_le (show l.length ≤ min a l.length by omega), List.drop_of_length_le (show l.length ≤ a from h)]; simp
theorem leftOut_nil (w : List Nat) : leftOut w [] = w := by
  show [] ++ cut (some ((0 : Nat) : Int)) none w = w
  rw [cut_from]; rfl
theorem leftOut_one (w : List Nat) (x : Int × Int) : leftOut w [x] = (loStep w ([], 0) x).1 ++ cut (some (loStep w ([], 0) x).2) none w := rfl
theorem leftOut_two (w : List Nat) (x y : Int × Int) : leftOut w [x, y] = (loStep w (loStep w ([], 0) x) y).1 ++ cut (some (loStep w (loStep w ([], 0) x) y).2) none w := rfl

theorem drop_mid {p t : List Nat} {k : Nat} (h : k ≤ p.length) : (p ++ t).drop k = p.drop k ++ t := List.drop_append_of_le_length h
theorem take_mid {p t : List Nat} {k : Nat} (h : k ≤ p.length) : (p ++ t).take k = p.take k := List.take_append_of_le_length h
theorem drop_far {p t : List Nat} (k : Nat) : (p ++ t).drop (p.length + k) = t.drop k := by
  rw [List.drop_append, List.drop_of_length_le (by omega)]; simp
theorem take_far {p t : List Nat} (k : Nat) : (p ++ t).take (p.length + k) = p ++ t.take k := by
  rw [List.take_append, List.take_of_length_le (by omega)]; simp

theorem due_mid (p t : List Nat) (M : Nat) (h80 : ¬ M ≤ 80) (hM : (p ++ t).length ≤ M) (hc : (5 : Int) < 80 - ((M : Int) - p.length + 5 + 12)) :
    shortenL p 5 (80 - ((M : Int) - p.length + 5 + 12)).toNat ++ (p ++ t).drop p.length = leftOut (p ++ t) [(5, (M : Int) - 63)] := by
  rw [List.length_append] at hM
  have hq : (80 - ((M : Int) - p.length + 5 + 12)).toNat = p.length + 63 - M := by (first | lia | omega)
  rw [hq, leftOut_one]
  have e1 : loStep (p ++ t) ([], 0) (5, (M : Int) - 63) = ([] ++ cut (some 0) (some 5) (p ++ t) ++ lit "[" ++ itx ((M : Int) - 63 - 5) ++ lit " chars]", (M : Int) - 63) := by
    unfold loStep; rw [if_pos (show (12 : Int) < (M : Int) - 63 - 5 by omega)]
  have e2 : shortenL p 5 (p.length + 63 - M) = p.take 5 ++ lit "[" ++ itx ((p.length - 5 - (p.length + 63 - M) : Nat) : Int) ++ lit " chars]" ++ p.drop (p.length - (p.length + 63 - M)) := by
    unfold shortenL; rw [if_pos (by omega)]
  rw [e1, e2]
  dsimp only
  have e3 : ((p.length - 5 - (p.length + 63 - M) : Nat) : Int) = (M : Int) - 63 - 5 := by omega
  have e4 : (M : Int) - 63 = ((M - 63 : Nat) : Int) := by omega
  have e5 : cut (some 0) (some 5) (p ++ t) = p.take 5 := by
    rw [show (some 0 : Option Int) = some ((0 : Nat) : Int) from rfl, show (some 5 : Option Int) = some ((5 : Nat) : Int) from rfl, cut_nat, List.drop_zero, take_mid (by (first | lia | omega))]
  have e6 : (p ++ t).drop p.length = t := by simp
  rw [e6, e3, e5, e4, cut_from, drop_mid (show M - 63 ≤ p.length by omega), show p.length - (p.length + 63 - M) = M - 63 by omega]
  simp

theorem due_far (p t : List Nat) :
    shortenL p 5 5 ++ shortenL ((p ++ t).drop p.length) 41 5 = leftOut (p ++ t) [(5, (p.length : Int) - 5), ((p.length : Int) + 41, ((p ++ t).length : Int) - 5)] := by
  have e6 : (p ++ t).drop p.length = t := by simp
  rw [e6, leftOut_two]
  have hl : ((p ++ t).length : Int) = p.length + t.length := by rw [List.length_append]; (first | lia | omega)
  rw [hl]
  by_cases h1 : 22 < p.length
  · have s1 : loStep (p ++ t) ([], 0) (5, (p.length : Int) - 5) = ([] ++ cut (some 0) (some 5) (p ++ t) ++ lit "[" ++ itx ((p.length : Int) - 5 - 5) ++ lit " chars]", (p.length : Int) - 5) := by
      unfold loStep; rw [if_pos (show (12 : Int) < (p.length : Int) - 5 - 5 by omega)]
    have a1 : shortenL p 5 5 = p.take 5 ++ lit "[" ++ itx ((p.length - 5 - 5 : Nat) : Int) ++ lit " chars]" ++ p.drop (p.length - 5) := by unfold shortenL; rw [if_pos (by omega)]
    have e5 : cut (some 0) (some 5) (p ++ t) = p.take 5 := by
      rw [show (some 0 : Option Int) = some ((0 : Nat) : Int) from rfl, show (some 5 : Option Int) = some ((5 : Nat) : Int) from rfl, cut_nat, List.drop_zero, take_mid (by omega)]
    have e3 : ((p.length - 5 - 5 : Nat) : Int) = (p.length : Int) - 5 - 5 := by omega
    have e4 : (p.length : Int) - 5 = ((p.length - 5 : Nat) : Int) := by omega
    rw [s1, a1, e5, e3]
    by_cases h2 : 58 < t.length
    · have s2 : ∀ acc, loStep (p ++ t) (acc, (p.length : Int) - 5) ((p.length : Int) + 41, (p.length : Int) + t.length - 5) = (acc ++ cut (some ((p.length : Int) - 5)) (some ((p.length : Int) + 41)) (p ++ t) ++ lit "[" ++ itx ((p.length : Int) + t.length - 5 - (p.length + 41)) ++ lit " chars]", (p.length : Int) + t.length - 5) := by
        intro acc; unfold loStep; rw [if_pos (show (12 : Int) < (p.length : Int) + t.length - 5 - (p.length + 41) by omega)]
      have a2 : shortenL t 41 5 = t.take 41 ++ lit "[" ++ itx ((t.length - 41 - 5 : Nat) : Int) ++ lit " chars]" ++ t.drop (t.length - 5) := by unfold shortenL; rw [if_pos (by omega)]
      have e7 : ((t.length - 41 - 5 : Nat) : Int) = (p.length : Int) + t.length - 5 - (p.length + 41) := by omega
      have e8 : cut (some ((p.length : Int) - 5)) (some ((p.length : Int) + 41)) (p ++ t) = p.drop (p.length - 5) ++ t.take 41 := by
        rw [e4, show (p.length : Int) + 41 = ((p.length + 41 : Nat) : Int) by omega, cut_nat, drop_mid (by omega), show p.length + 41 - (p.length - 5) = (p.drop (p.length - 5)).length + 41 by rw [List.length_drop]; (first | lia | omega), take_far]
      rw [s2, a2, e7, e8]
      dsimp only
      rw [show (p.length : Int) + t.length - 5 = ((p.length + (t.length - 5) : Nat) : Int) by omega, cut_from, drop_far]
      simp
    · have s2 : ∀ acc, loStep (p ++ t) (acc, (p.length : Int) - 5) ((p.length : Int) + 41, (p.length : Int) + t.length - 5) = (acc, (p.length : Int) - 5) := by
        intro acc; unfold loStep; rw [if_neg (show ¬ (12 : Int) < (p.length : Int) + t.length - 5 - (p.length + 41) by omega)]
      have a2 : shortenL t 41 5 = t := by unfold shortenL; rw [if_neg (by omega)]
      rw [s2, a2]
      dsimp only
      rw [e4, cut_from, drop_mid (by omega)]
      simp
  · have s1 : loStep (p ++ t) ([], 0) (5, (p.length : Int) - 5) = ([], 0) := by
      unfold loStep; rw [if_neg (show ¬ (12 : Int) < (p.length : Int) - 5 - 5 by omega)]
    have a1 : shortenL p 5 5 = p := by unfold shortenL; rw [if_neg (by omega)]
    rw [s1, a1]
    by_cases h2 : 58 < t.length
    · have s2 : loStep (p ++ t) ([], 0) ((p.length : Int) + 41, (p.length : Int) + t.length - 5) = ([] ++ cut (some 0) (some ((p.length : Int) + 41)) (p ++ t) ++ lit "[" ++ itx ((p.length : Int) + t.length - 5 - (p.length + 41)) ++ lit " chars]", (p.length : Int) + t.length - 5) := by
        unfold loStep; rw [if_pos (show (12 : Int) < (p.length : Int) + t.length - 5 - (p.length + 41) by omega)]
      have a2 : shortenL t 41 5 = t.take 41 ++ lit "[" ++ itx ((t.length - 41 - 5 : Nat) : Int) ++ lit " chars]" ++ t.drop (t.length - 5) := by unfold shortenL; rw [if_pos (by omega)]
      have e7 : ((t.length - 41 - 5 : Nat) : Int) = (p.length : Int) + t.length - 5 - (p.length + 41) := by omega
      have e8 : cut (some 0) (some ((p.length : Int) + 41)) (p ++ t) = p ++ t.take 41 := by
        rw [show (some 0 : Option Int) = some ((0 : Nat) : Int) from rfl, show (p.length : Int) + 41 = ((p.length + 41 : Nat) : Int) by omega, cut_nat, List.drop_zero, Nat.sub_zero, take_far]
      rw [s2, a2, e7, e8]
      dsimp only
      rw [show (p.length : Int) + t.length - 5 = ((p.length + (t.length - 5) : Nat) : Int) by omega, cut_from, drop_far]
      simp
    · have s2 : loStep (p ++ t) ([], 0) ((p.length : Int) + 41, (p.length : Int) + t.length - 5) = ([], 0) := by
        unfold loStep; rw [if_neg (show ¬ (12 : Int) < (p.length : Int) + t.length - 5 - (p.length + 41) by omega)]
      have a2 : shortenL t 41 5 = t := by unfold shortenL; rw [if_neg (by omega)]
      rw [s2, a2]
      show _ = [] ++ cut (some ((0 : Nat) : Int)) none (p ++ t)
      rw [cut_from]; simp

theorem due_is {ws : List (List Nat)} {p : List Nat} {M : Nat} (hp : ∀ w ∈ ws, ∃ t, w = p ++ t) (hM : ∀ w ∈ ws, w.length ≤ M) : shortAll ws p M = dueOf ws p.length M := by
  unfold shortAll dueOf runsOf
  by_cases h80 : M ≤ 80
  · simp only [if_pos h80]
    rw [List.map_congr_left (g := id) fun w _ => leftOut_nil w]; simp
  · simp only [if_neg h80]
    by_cases hc : (5 : Int) < 80 - ((M : Int) - p.length + 5 + 12)
    · simp only [if_pos hc, if_pos (show (M : Int) - p.length ≤ 57 by omega)]
      refine List.map_congr_left fun w hw => ?_
      obtain ⟨t, rfl⟩ := hp w hw
      exact due_mid p t M h80 (hM _ hw) hc
    · simp only [if_neg hc, if_neg (show ¬ (M : Int) - p.length ≤ 57 by omega)]
      refine List.map_congr_left fun w hw => ?_
      obtain ⟨t, rfl⟩ := hp w hw
      exact due_far p t
end Mine

/-! G4 -/
open PySem PySem.W PyProof.Rows
set_option Elab.async false
set_option maxRecDepth 100000
namespace Mine

theorem law_all (c : Cx) (hc : Lw c) {d : DefRec} (hd : (recsOf Mine.hd.view_39)[14]? = some d) {A : Around} {env : Env} {g₀ q g : Heap} {s₀ s : Shared} {P : Addr} (ns : List Int) (hns : ns.length ≤ 63)
    (a : AtS c 120 d.scope [(Str.ofString "script", .p (plist (ns.map .int)))] A env g₀ s₀ q g s)
    (hic : s₀.heap.IsCode 60 P #[]) (htab : s₀.heap.TableAt 60 P #[]) (hgP : g₀.get? P = none) :
    wpAny c.M A (execs d.body env) (fun f s' => f = .ret (.bool true) ∧ ∃ g', GrowP P g₀ s₀ g' s') Bot s := by
  obtain ⟨w0, r, hws⟩ : ∃ w0 r, (lawPlans ns).map Plan.wr = w0 :: r := ⟨_, _, rfl⟩
  obtain ⟨M, hM1, hM2⟩ := len_max_ex w0 r
  obtain ⟨m, hm1, hm2⟩ := len_min_ex w0 r
  obtain ⟨mn, h1, h2⟩ := min_ex w0 r
  obtain ⟨mx, h3, h4⟩ := max_ex w0 r
  have ok := lawPlans_ok ns
  have hP0 : s₀.heap.get? P = some { cls := .none, data := .fields #[] } := htab.2
  refine law_walk c hc hd ns hns a hws (fun p hp => ⟨(ok p hp).depth, (ok p hp).small, (ok p hp).lean, (ok p hp).len⟩) (by have := (pieces_ok ns).2; (first | decide | assumption | exact Nat.le_trans (by assumption) (by decide) | exact Nat.le_of_lt (by assumption) | exact Nat.le_of_not_lt (by assumption) | exact Nat.lt_of_not_le (by assumption) | exact Nat.le_trans (by assumption) (by assumption) | exact Nat.lt_of_lt_of_le (by assumption) (by assumption) | exact Nat.lt_of_le_of_lt (by assumption) (by assumption) | lia | omega)) hM1 hM2 hm1 hm2 (fun g' s' a' => ?_)
  have G := a'.run.grow
  rw [shared_is hm1 hm2 h1 h2 h3 h4] at a'
  refine wpAny_mono (law_return c hc hd (lawPlans ns) _ a' (hic.keeps G.keep) (htab.keeps G.keep) (G.off hgP (by rw [hP0]; exact fun e => nomatch e)) (by rw [lawPlans_len]; omega) (fun p hp => ?_) (mn := mn) (mx := mx) (M := M) (by rw [hws]; exact hM1) (by rw [hws]; exact hM2) (by rw [hws]; exact h1) (by rw [hws]; exact h2) (by rw [hws]; exact h3) (by rw [hws]; exact h4) ?_) (fun f s'' ⟨e, g'', GP⟩ => ⟨e, g'', GrowP.after G GP⟩) fun _ _ x => x
  · have k := ok p hp
    have h5 := depth_plan p
    have h6 := k.depth
    exact ⟨k.depth, k.lean, showable_plan p k.small k.lean, by (first | lia | omega), shown_plan p k.clean, k.len⟩
  · rw [hws]
    exact due_is (fun w hw => lcp_pre mn mx w (h2 w hw) (h4 w hw)) hM2
end Mine

/-! J1 -/
open PySem PySem.W PyProof.Rows
set_option Elab.async false
set_option maxRecDepth 100000
namespace Mine

theorem cellsFrom_nil : ∀ (names : List (Str × NameKind)) (n : Nat) (acc : List (Str × Addr)), (∀ x ∈ names, x.2 ≠ .cell) → cellsFrom n names acc = acc
  | [], _, _, _ => rfl
  | (y, k) :: r, n, acc, h => by
    have h1 : ¬ (k == .cell) = true := by simpa using h (y, k) (List.mem_cons_self ..)
    unfold cellsFrom
    rw [if_neg h1]
    exact cellsFrom_nil r n acc fun x hx => h x (List.mem_cons_of_mem _ hx)

section
variable {c : Cx} {k : Nat} {sc : Scope} {lm : LM}
/-- the way into a def without cells: a name is stored, and that makes a token -/
theorem enterTok {A : Around} {g : Heap} {s : Shared} {R : Result → Shared → Prop} {a : Addr} {o : Obj} {fd : FuncData} {body : List Stmt} {vs : List Value} {ns : List Str} {args : List PV} (hr : Room A (k + 1)) (hb : c.Base g) (hs : Sub g s.heap)
    (ho : g.get? a = some o) (hd : o.data = .func fd) (hbody : fd.body = .stmts body) (hcd : g.CodeRec fd.code fd.qualname) (hscope : fd.scope = sc) (hglob : fd.globals = mainGlobals) (hblt : fd.builtins = builtinsNs) (hclo : fd.closure = [])
    (hbind : bindArgs fd ⟨vs, []⟩ = pure (ns.zip vs)) (hv : RdL g vs args) (hns : 1 ≤ ns.length) (has : 1 ≤ args.length)
    (hkind : ∀ n ∈ ns, sc.names.lookup n = some .local) (hcell : ∀ x ∈ sc.names, x.2 ≠ .cell) (hcell2 : ∀ x, sc.names.lookup x ≠ some .cell)
    (hco : sc.isCoroutine = false) (hgen : sc.isGenerator = false) (hk : sc.kind = .function)
    (h : ∀ q s₁ env, AtS c k sc (lmStart ns args) (A.deeper env) env g s q g s₁ →
      wpAny c.M (A.deeper env) (execs body env) (fun f s'' => ∃ v, f = .ret v ∧ R (.ok (.ret v)) s'') Bot s₁) :
    codeAny c.M A (.call (.ref a) ⟨vs, []⟩) R s := by
  refine codeAny_call_function (fd := fd) (body := body) (by have := hr.2.2.1; omega) (hs _ _ ho) hd (by rw [hscope]; exact hco) (by rw [hscope]; exact hgen) hbody (hcd.keeps hs) ?_
  have hlen := rdl_length hv
  rw [hbind, hclo]
  refine wpAny_pure (wpAny_newFunctionEnv (by rw [hscope]; exact hcell) (fun x hx => by rw [hscope]; exact hkind x.1 (List.of_mem_zip hx).1) (fun h' hns' hsb => ?_) (by rw [hscope]; exact hk))
  have keep : Sub s.heap h' := fun b o e => hsb.extBut b o (fun hb => by rw [hb] at e; exact absurd (Heap.lt_size e) (Nat.lt_irrefl _)) (Heap.get?_push_of_some _ e)
  refine ⟨(hb.1.nolimit.keeps hs).keeps keep, codeAny_func ?_⟩
  generalize henv : newEnv fd.scope s.heap.objs.size fd.globals [] (fd.qualname ++ ".<locals>.") (some a) fd.code none fd.builtins = env
  have hL : env.locals = s.heap.objs.size := by rw [← henv]; rfl
  have hC : env.cells = [] := by rw [← henv]; rfl
  have none_of : ∀ b, s.heap.objs.size ≤ b → g.get? b = none := fun b hb => by
    cases e : g.get? b with
    | none => rfl
    | some o => exact absurd (Heap.lt_size (hs _ _ e)) (Nat.not_lt.mpr hb)
  have ok : EnvOk sc env := ⟨by rw [← henv]; exact hscope, hk, by rw [← henv]; exact hglob, by rw [← henv]; exact hblt, fun x hx => absurd hx (hcell2 x)⟩
  have zl : 1 ≤ (ns.zip vs).length := by rw [List.length_zip]; (first | lia | omega)
  have st : AtS c k sc (lmStart ns args) (A.deeper env) env g s (part s.heap fun _ => False) g { s with heap := h', toks := s.toks + (ns.zip vs).length } := by
    refine ⟨hr.deeper _, ok, hb, ⟨Sub.refl g, fun b o e => .inl e, hs.trans keep, fun b o e => (part_get e).1.elim, ⟨fun x => (ns.zip vs).reverse.lookup x, fun _ => none, ⟨⟨⟨h', _, rfl⟩, by rw [hL]; exact hns', keep, by rw [hL]; exact Nat.le_refl _⟩, fun n cc e => by rw [hC] at e; simp at e, by rw [hC]; exact List.Pairwise.nil, fun n cc e => by rw [hC] at e; simp at e⟩, fun x dd hx => ?_⟩, fun b hb => absurd (part_none _ b) hb, by show s.toks ≤ s.toks + _; (first | lia | omega), ⟨by rw [hL]; exact none_of _ (Nat.le_refl _), part_none _ _⟩, fun x cc hx => by rw [hC] at hx; simp at hx⟩, fun x cc hx => by rw [hC] at hx; simp at hx, fun _ => by show 1 ≤ s.toks + _; omega⟩
    obtain ⟨v, p, rfl, e2, e3⟩ := zip_rdl hv x dd hx
    refine ⟨v, ?_, e3, fun _ _ e => nomatch e⟩
    have hmem : x ∈ ns := by
      obtain ⟨l1, l2, he, _⟩ := List.lookup_eq_some_iff.mp e2
      have hm' : (x, v) ∈ ns.zip vs := by rw [← List.mem_reverse, he]; simp
      exact (List.of_mem_zip hm').1
    unfold held
    rw [ok.kindOf, hkind x hmem]
    exact e2
  refine wpAny_mono (h _ _ env st) (fun fl s'' ⟨v, e, hR⟩ => ?_) fun _ _ x => x.elim
  subst e
  exact hR
end

/-! what stands in the text's own names -/
theorem lw_of {prog : Program} {w : World} {loose : List Str} {mean : ExcName → Option Value} {mg mb : Str → Option Value} {h : Heap} {PP : Params} (KX : (Mine.hd.heap_39 PP).In h) (hg : h.Ns mainGlobals mg) :
    Lw { prog := prog, w := w, p := Mine.hd.view_39, loose := loose, mean := mean, mg := mg, mb := mb, K := Mine.hd.heap_39 PP } := by
  refine ⟨rfl, fun x hx => ?_, ⟨_, glob_at KX hg (by rfl)⟩, ⟨_, glob_at KX hg (by rfl)⟩, ⟨_, glob_at KX hg (by rfl)⟩, ⟨_, glob_at KX hg (by rfl)⟩, ⟨_, glob_at KX hg (by rfl)⟩, ⟨_, glob_at KX hg (by rfl)⟩, ⟨PP, rfl⟩⟩
  show mg x = none
  simp only [usedBuiltins, List.mem_cons, List.not_mem_nil, or_false] at hx
  rcases hx with rfl | rfl | rfl | rfl | rfl | rfl | rfl | rfl | rfl | rfl | rfl | rfl | rfl | rfl | rfl | rfl | rfl <;> exact glob_at KX hg (by rfl)
end Mine

/-! J2 -/
open PySem PySem.W PyProof.Rows
set_option Elab.async false
set_option maxRecDepth 100000
namespace Mine

theorem table_of {loose : List Str} {mean : ExcName → Option Value} {mg mb : Str → Option Value} {h : Heap} {PP : Params} (T : Top Mine.hd.view_39 loose mean mg mb h) (KX : (Mine.hd.heap_39 PP).In h) : h.IsCode 60 56 #[] ∧ h.TableAt 60 56 #[] := by
  obtain ⟨a, o, fd, cc, P, h1, h2, h3, h4, h5, h6⟩ := T.tab _ (mem_at (i := 6) (by rfl))
  have ha := Value.ref.inj (Option.some.inj (h1.symm.trans (glob_at (v := some (.ref 61)) KX T.g (by rfl))))
  subst ha
  have hfd := Data.func.inj ((congrArg Obj.data (get_inj h2 (frag_at (a := 61) (o := _) KX (by rfl)))).symm.trans h3)
  have hcc : 60 = cc := Value.ref.inj ((congrArg FuncData.code hfd).trans h4)
  subst hcc
  have hP : 56 = P := by
    obtain ⟨o, vs, file, tf, flags, tg, inF, text, tt, op, a1, a2, a3, _⟩ := h5
    have hvs := Data.fields.inj ((congrArg Obj.data (get_inj a1 (frag_at (a := 60) (o := _) KX (by rfl)))).symm.trans a2)
    rw [← hvs] at a3
    exact Value.ref.inj a3
  subst hP
  exact ⟨h5, h6⟩

section
variable {h : Heap} {P : Addr} (hP : h.get? P = some { cls := .none, data := .fields #[] })
include hP
theorem ns_part {a : Addr} {m : Str → Option Value} (hn : h.Ns a m) : (part h (· ≠ P)).Ns a m := by
  obtain ⟨o, es, ep, e1, e2, r⟩ := hn
  exact ⟨o, es, ep, part_get_of (fun e => by rw [e, hP] at e1; cases e1; cases e2) e1, e2, r⟩
theorem code_part {cd : Value} {q : Str} (x : h.CodeRec cd q) : (part h (· ≠ P)).CodeRec cd q := by
  obtain ⟨c, o, vs, t, e, g, d, r⟩ := x
  refine ⟨c, o, vs, t, e, part_get_of (fun e => ?_) g, d, r⟩
  rw [e, hP] at g; cases g; cases d; cases r
theorem bs_part {p : Program} {loose : List Str} {mean : ExcName → Option Value} {mg mb : Str → Option Value} (T : Top p loose mean mg mb h) : Bs p mg mb (part h (· ≠ P)) where
  g := ns_part hP T.g
  b := ns_part hP T.b
  nolimit := let ⟨mc, h1, h2⟩ := T.nolimit; ⟨mc, ns_part hP h1, h2⟩
  fn := fun d hd => by
    obtain ⟨a, o, pm, code, doc, h1, h2, h3, h4⟩ := T.fn d hd
    exact ⟨a, o, pm, code, doc, h1, part_get_of (fun e => by rw [e, hP] at h2; cases h2; cases h3) h2, h3, code_part hP h4⟩
  builtins := T.builtins
  bmain := by
    obtain ⟨bm, ob, h1, h2, h3, h4, h5, h6⟩ := T.bmain
    exact ⟨bm, ob, h1, h2, part_get_of (fun e => by rw [e, hP] at h3; cases h3; cases h4) h3, h4, h5, h6⟩
end
theorem kin_part {h : Heap} {PP : Params} (KX : (Mine.hd.heap_39 PP).In h) : (Mine.hd.heap_39 PP).In (part h (· ≠ 56)) := fun a o e => by
  refine part_get_of (fun ea => ?_) (KX a o e)
  subst ea
  have : (Mine.hd.heap_39 PP).lookup 56 = none := by rfl
  rw [this] at e; cases e
end Mine

/-! J3 -/
open PySem PySem.W PyProof.Rows
set_option Elab.async false
set_option maxRecDepth 100000
namespace Mine

theorem rd_ints {g : Heap} : ∀ {vs : List Value} {ns : List Int}, IntsAre vs ns → RdAll g vs (ns.map .int)
  | _, _, .nil => .nil
  | _, _, .cons _ t r => .cons (.int _ t) (rd_ints r)

theorem law_cells {d : DefRec} (hd : (recsOf Mine.hd.view_39)[14]? = some d) : ∀ x ∈ d.scope.names, x.2 ≠ .cell := by
  cases hd
  decide
set_option maxHeartbeats 1000000 in
theorem law_call {prog : Program} {w : World} {loose : List Str} {mean : ExcName → Option Value} {mg mb : Str → Option Value} {s₁ : Shared} {PP : Params} (T : Top Mine.hd.view_39 loose mean mg mb s₁.heap) (KX : (Mine.hd.heap_39 PP).In s₁.heap)
    {fa l : Addr} (hmg : mg (Str.ofString "law") = some (.ref fa)) {vs : List Value} {ns : List Int} (hl : s₁.heap.get? l = some { cls := .type "list", data := .seq vs.toArray }) (hsys : l ≠ sysModules) (hI : IntsAre vs ns) (hn : ns.length ≤ 63) :
    codeAny (model prog w) callerA (.call (.ref fa) ⟨[.ref l], []⟩) (fun r s' => r = .ok (.ret (.bool true)) ∧ OldK s₁.heap s'.heap ∧ s'.os = s₁.os ∧ (AllBare s₁.gens → AllBare s'.gens)) s₁ := by
  obtain ⟨hic, htab⟩ := table_of T KX
  have hP : s₁.heap.get? 56 = some { cls := .none, data := .fields #[] } := htab.2
  let c : Cx := { prog := prog, w := w, p := Mine.hd.view_39, loose := loose, mean := mean, mg := mg, mb := mb, K := Mine.hd.heap_39 PP }
  have hc : Lw c := lw_of KX T.g
  have hb : c.Base (part s₁.heap (· ≠ 56)) := ⟨bs_part hP T, kin_part KX, trivial⟩
  have hs : Sub (part s₁.heap (· ≠ 56)) s₁.heap := fun b o e => (part_get e).2
  have hP0 : (part s₁.heap (· ≠ 56)).get? 56 = none := by
    cases e : (part s₁.heap (· ≠ 56)).get? 56 with
    | none => rfl
    | some o => exact absurd rfl (part_get e).1
  have hl' : (part s₁.heap (· ≠ 56)).get? l = some { cls := .type "list", data := .seq vs.toArray } := part_get_of (fun e => by rw [e, hP] at hl; cases hl) hl
  have hrd : Rd (part s₁.heap (· ≠ 56)) (.ref l) (plist (ns.map .int)) := rd_mk_list hl' (by simpa using rd_ints hI) hsys
  obtain ⟨a, o, pm, code, doc, h1, h2, h3, h4⟩ := hb.1.fn _ (mem_at (i := 14) (by rfl))
  have ha : a = fa := by
    have h1' : mg (Str.ofString "law") = some (.ref a) := h1
    rw [hmg] at h1'; cases h1'; rfl
  subst ha
  have hroom : Room callerA (120 + 1) := ⟨rfl, fun _ => rfl, by decide +kernel, by decide +kernel⟩
  show codeAny c.M callerA _ _ s₁
  refine enterTok (c := c) (k := 120) (ns := [Str.ofString "script"]) (args := [plist (ns.map .int)]) hroom hb hs h2 h3 rfl h4 rfl rfl rfl rfl rfl ⟨hrd, trivial⟩ (Nat.le_refl _) (Nat.le_refl _) ?_ ?_ ?_ rfl rfl rfl (fun q s₂ env st => ?_)
  · intro x hx
    simp at hx
    subst hx; rfl
  · exact law_cells (d := _) (by rfl)
  · intro x hx
    have := mem_of_lookup hx
    exact law_cells (d := _) (by rfl) _ this rfl
  · refine wpAny_mono (law_all c hc (d := _) (by rfl) ns hn st hic htab hP0) (fun f s' ⟨e, g', GP⟩ => ?_) fun _ _ x => x
    subst e
    obtain ⟨ps, hps⟩ := GP.tab
    refine ⟨_, rfl, rfl, ⟨fun b o' e => ?_, fun b o' e => ?_⟩, GP.os, GP.bare⟩
    · by_cases hb : b = 56
      · subst hb
        rw [hP] at e; cases e
        exact .inr (.inl ⟨htab.isCodeTable, rfl, #[], ps, rfl, by rw [hps]; simp⟩)
      · exact .inl (GP.keep b o' hb e)
    · by_cases hb : b = 56
      · subst hb; exact ⟨_, hps⟩
      · exact ⟨_, GP.keep b o' hb e⟩
end Mine

/-! J4 -/
open PySem PySem.W PyProof.Rows
set_option Elab.async false
set_option maxRecDepth 100000
namespace Mine
theorem obj_of_well {P : Params} {h : Heap} {l : Addr} {vs : Array Value} {ns : List Int} (hl : h.IsList l vs) (w : Well P h (.ref l) (ofPy (.list (ns.map .int)))) : h.get? l = some { cls := .type "list", data := .seq vs } := by
  generalize hd : ofPy (.list (ns.map .int)) = d at w
  have hd' : ∃ xs, d = .list xs := ⟨_, hd.symm⟩
  obtain ⟨xs, rfl⟩ := hd'
  obtain ⟨o, e1, e2, n, e3⟩ := hl
  cases w with
  | list h1 h2 =>
    rw [h1] at e1
    cases e1
    cases e3
    exact h1
theorem not_sys {h : Heap} {l : Addr} {d : List PyData} {as bs : List Addr} (r : Reads h (.ref l) (.list d) as) (hlo : ∀ a, a ∈ as ++ bs → (a == sysModules) = false) : l ≠ sysModules := by
  cases r with
  | list h1 h2 h3 h4 =>
    intro e
    have := hlo l (by simp)
    rw [e] at this
    simp at this
end Mine
set_option maxHeartbeats 8000000 in
theorem PySem.Challenge.cw_in0093_01_holds : PySem.Challenge.rw_in0093_01.Holds := by
  refine Mine.hd ?_
  k_fill
  intro w s₀ s₁ mg mb G Y fa o pm cd doc dV kV ho hd hcd hD hmg hg args vals as hpre hlay hrd hwl hlo
  have KX := kIn_of Y
  refine Ground.open G ?_
  intro T B D TE TW
  clear ho hd hcd hD D B TE TW
  have hlo2 := hlo
  wrow_args hpre hlay hrd hwl hlo
  refine enter_call ?_
  w_top on
  rename_i ns _ _ _ _ _ _ _ l vs _ hL _ w1 r0 hI _ hcond _
  refine codeAny_mono (Mine.law_call T KX hmg (Mine.obj_of_well hL w1) (Mine.not_sys r0 hlo2) hI (by omega)) (fun r s' ⟨e, h1, h2, h3⟩ => ?_)
  subst e
  refine ⟨.inl ⟨.bool true, .bool true, [], rfl, fun cls => ?_, ReadsW.bool _, ?_, fun _ => ⟨List.nodup_nil, fun a ha => by simp at ha⟩⟩, h1, h2, h3 ?_⟩
  · rfl
  · wrow_post
  · rw [hg]; intro i hi; simp at hi
