import PyProof.Rows.All
import Wide.All
import OpenK.AllK
import Wide.FinOn
import PyProof.ExcStrCall
import PyProof.ExcStrAll.ValueError
import PySem.Challenge.RW_dm0233_11
-- part LayA
open PySem PySem.W PyProof.Rows
set_option Elab.async false
namespace Mine
open PySem

/-- plain data; `ref`: a thing that may still change -/
inductive D where
  | none
  | bool (b : Bool)
  | int (i : Int)
  | str (s : Str)
  | bytes (b : List UInt8)
  | type (n : String)
  | bi (id : String)
  | ref (a : Addr)
  | tup (l : List D)
  | lst (l : List D)
  | strm (C d : Addr)
  | rng (a : Int) (n : Nat)
  | clo (qual : Str) (params : Arguments) (body : List Stmt) (scope : Scope) (cl : List (Str × Addr))

abbrev Mp := Addr → Option Obj

mutual
inductive Den (P : Mp) : Value → D → Prop where
  | none : Den P .none .none
  | bool {b} : Den P (.bool b) (.bool b)
  | int {i t} : Den P (.int i t) (.int i)
  | str {x t} : Den P (.str x t) (.str x)
  | bytes {b : List UInt8} {t} : Den P (.bytes b.toArray t) (.bytes b)
  | type {n} : Den P (.type n) (.type n)
  | bi {n} : Den P (.builtin n) (.bi n)
  | ref {a} : Den P (.ref a) (.ref a)
  | tup {a o vs n ds} : P a = some o → o.cls = .type "tuple" → o.data = .seq (List.toArray vs) n → DenL P vs ds → Den P (.ref a) (.tup ds)
  | lst {a o vs n ds} : P a = some o → o.cls = .type "list" → o.data = .seq (List.toArray vs) n → DenL P vs ds → Den P (.ref a) (.lst ds)
  | strm {a C d} : P a = some (instObj C d) → Den P (.ref a) (.strm C d)
  | rng {r a n t u v} : P r = some { cls := .type "range", dict := none, data := .fields #[.int a t, .int (a + (n : Nat)) u, .int 1 v], slots := #[] } → Den P (.ref r) (.rng a n)
  | clo {fa qual params body scope cl doc pm c' ctv o vs t} : P fa = some (fnMade "_law_read" qual params body scope cl doc pm c' ctv) → P c' = some o → o.data = .fields vs → vs[1]? = some (.str qual t) → Den P (.ref fa) (.clo qual params body scope cl)
inductive DenL (P : Mp) : List Value → List D → Prop where
  | nil : DenL P [] []
  | cons {v d vs ds} : Den P v d → DenL P vs ds → DenL P (v :: vs) (d :: ds)
end

def Sub (P P' : Mp) : Prop := ∀ b o, P b = some o → P' b = some o
theorem Sub.refl (P : Mp) : Sub P P := fun _ _ e => e
theorem Sub.trans {P P' P'' : Mp} (x : Sub P P') (y : Sub P' P'') : Sub P P'' := fun b o e => y b o (x b o e)

theorem Den.mono {P P' : Mp} (g : Sub P P') {v : Value} {d : D} (h : Den P v d) : Den P' v d :=
  Den.rec (P := P) (motive_1 := fun v d _ => Den P' v d) (motive_2 := fun vs ds _ => DenL P' vs ds)
    .none .bool .int .str .bytes .type .bi .ref
    (fun a b c _ ih => .tup (g _ _ a) b c ih) (fun a b c _ ih => .lst (g _ _ a) b c ih) (fun a => .strm (g _ _ a)) (fun a => .rng (g _ _ a)) (fun a b e f => .clo (g _ _ a) (g _ _ b) e f) .nil (fun _ _ a b => .cons a b) h
theorem DenL.mono {P P' : Mp} (g : Sub P P') {vs : List Value} {ds : List D} (h : DenL P vs ds) : DenL P' vs ds :=
  DenL.rec (P := P) (motive_1 := fun v d _ => Den P' v d) (motive_2 := fun vs ds _ => DenL P' vs ds)
    .none .bool .int .str .bytes .type .bi .ref
    (fun a b c _ ih => .tup (g _ _ a) b c ih) (fun a b c _ ih => .lst (g _ _ a) b c ih) (fun a => .strm (g _ _ a)) (fun a => .rng (g _ _ a)) (fun a b e f => .clo (g _ _ a) (g _ _ b) e f) .nil (fun _ _ a b => .cons a b) h
theorem DenL.length {P : Mp} : ∀ {vs : List Value} {ds : List D}, DenL P vs ds → vs.length = ds.length
  | [], _, .nil => rfl
  | _ :: _, _, .cons _ r => congrArg (· + 1) r.length
theorem DenL.append {P : Mp} : ∀ {vs ws : List Value} {ds es : List D}, DenL P vs ds → DenL P ws es → DenL P (vs ++ ws) (ds ++ es)
  | [], _, _, _, .nil, h => h
  | _ :: _, _, _, _, .cons a r, h => .cons a (r.append h)
theorem DenL.get {P : Mp} : ∀ {vs : List Value} {ds : List D}, DenL P vs ds → ∀ {i : Nat} {d : D}, ds[i]? = some d → ∃ v, vs[i]? = some v ∧ Den P v d
  | [], _, .nil, _, _, e => by simp at e
  | v :: _, _, .cons a r, 0, d, e => by simp at e; exact ⟨v, by simp, e ▸ a⟩
  | _ :: _, _, .cons a r, i + 1, d, e => by simp at e; obtain ⟨v, h1, h2⟩ := r.get e; exact ⟨v, by simpa using h1, h2⟩
theorem DenL.get' {P : Mp} : ∀ {vs : List Value} {ds : List D}, DenL P vs ds → ∀ {i : Nat} {v : Value}, vs[i]? = some v → ∃ d, ds[i]? = some d ∧ Den P v d
  | [], _, .nil, _, _, e => by simp at e
  | v :: _, d :: _, .cons a r, 0, _, e => by simp at e; exact ⟨d, by simp, e ▸ a⟩
  | _ :: _, _, .cons a r, i + 1, d, e => by simp at e; obtain ⟨v, h1, h2⟩ := r.get' e; exact ⟨v, by simpa using h1, h2⟩
theorem DenL.take {P : Mp} : ∀ {vs : List Value} {ds : List D}, DenL P vs ds → ∀ n, DenL P (vs.take n) (ds.take n)
  | [], _, .nil, _ => by simp; exact .nil
  | _ :: _, _, .cons _ _, 0 => by simp; exact .nil
  | _ :: _, _, .cons a r, n + 1 => by simp; exact .cons a (r.take n)
theorem DenL.drop {P : Mp} : ∀ {vs : List Value} {ds : List D}, DenL P vs ds → ∀ n, DenL P (vs.drop n) (ds.drop n)
  | [], _, .nil, _ => by simp; exact .nil
  | _ :: _, _, .cons a r, 0 => by simp; exact .cons a r
  | _ :: _, _, .cons _ r, n + 1 => by simp; exact r.drop n
/-- P grows, and not where K lies -/
def Gr (K P P' : Mp) : Prop := Sub P P' ∧ ∀ b, P b = none → P' b ≠ none → K b = none
theorem Gr.refl (K P : Mp) : Gr K P P := ⟨Sub.refl P, fun _ h q => absurd h q⟩
theorem Gr.trans {K P P' P'' : Mp} (x : Gr K P P') (y : Gr K P' P'') : Gr K P P'' := by
  refine ⟨x.1.trans y.1, fun b h q => ?_⟩
  cases e : P' b with
  | none => exact y.2 b e q
  | some o => exact x.2 b h (by rw [e]; exact fun z => nomatch z)
theorem Gr.sub {K K' P P' : Mp} (x : Gr K' P P') (h : Sub K K') : Gr K P P' := by
  refine ⟨x.1, fun b e q => ?_⟩
  have := x.2 b e q
  cases z : K b with
  | none => rfl
  | some o => rw [h b o z] at this; cases this

/-- what may change -/
inductive AO where
  | list (ds : List D)
  | dict (es : List (Str × D))
  | idict (ds : List (Str × D))
  | sdict (b : List UInt8) (pos : Nat)
  | cell (d : Option D)
  | exc (msg : Str)
  | tab
abbrev Sto := List (Addr × AO)
abbrev Env' := List (Str × D)
abbrev Fm := Addr × (Str → Option Value)
end Mine

-- part LayB
open PySem PySem.W PyProof.Rows
set_option Elab.async false
namespace Mine
open PySem

/-- the walk's ground -/
structure Cx where
  prog : Program
  w : World
  h₀ : Heap
  gens : Array GenState
  os : OsState
  drawn : Drawn
  /-- what is known to stay -/
  p₀ : Mp
  /-- a stream's class, and its reader's text -/
  C : Addr
  line : Nat
  col : Nat
  qual : Str
  params : Arguments
  body : List Stmt
  scope : Scope

/-- a code that bears its name -/
def CodeP (P : Mp) (c' : Addr) (q : Str) : Prop := ∃ o vs t, P c' = some o ∧ o.data = .fields vs ∧ vs[1]? = some (.str q t)
theorem CodeP.mono {P P' : Mp} (g : Sub P P') {c' : Addr} {q : Str} (h : CodeP P c' q) : CodeP P' c' q := let ⟨o, vs, t, a, b, d⟩ := h; ⟨o, vs, t, g _ _ a, b, d⟩
/-- a stream's reader: a function over octets and the stream -/
def RdAt (c : Cx) (P : Mp) (fa : Addr) (b : List UInt8) (d : Addr) : Prop :=
  ∃ a c1 c2 o1 o2 doc pm c' ctv tk, P a = some (instObj c.C d) ∧ P fa = some (fnMade "_law_read" c.qual c.params c.body c.scope [("octets", c2), ("f", c1)] doc pm c' ctv) ∧
    P c1 = some o1 ∧ o1.data = .cell (some (.ref a)) ∧ P c2 = some o2 ∧ o2.data = .cell (some (.bytes (List.toArray b) tk)) ∧ CodeP P c' c.qual
theorem RdAt.mono {c : Cx} {P P' : Mp} (g : Sub P P') {fa : Addr} {b : List UInt8} {d : Addr} (h : RdAt c P fa b d) : RdAt c P' fa b d :=
  let ⟨a, c1, c2, o1, o2, doc, pm, c', ctv, tk, e1, e2, e3, e4, e5, e6, e7⟩ := h
  ⟨a, c1, c2, o1, o2, doc, pm, c', ctv, tk, g _ _ e1, g _ _ e2, g _ _ e3, e4, g _ _ e5, e6, e7.mono g⟩
/-- the table of the inner codes -/
def TbAt (c : Cx) (P : Mp) (ob : Obj) : Prop := ∃ ps, ob = tabObj ps ∧ (ps = #[] ∨ ∃ c', ps = #[rawInt c.line, rawInt c.col, .ref c'] ∧ CodeP P c' c.qual)
theorem TbAt.mono {c : Cx} {P P' : Mp} (g : Sub P P') {ob : Obj} (h : TbAt c P ob) : TbAt c P' ob := let ⟨ps, e, r⟩ := h; ⟨ps, e, r.elim .inl fun ⟨c', e, q⟩ => .inr ⟨c', e, q.mono g⟩⟩
/-- an object's names -/
inductive Entries (P : Mp) : List DictEntry → List (Str × D) → Prop where
  | nil : Entries P [] []
  | cons {hs : Int} {n : Str} {t : Tok} {v : Value} {d : D} {es ds} : Den P v d → Entries P es ds → Entries P (⟨hs, .str n t, v⟩ :: es) ((n, d) :: ds)
theorem Entries.mono {P P' : Mp} (g : Sub P P') {es : List DictEntry} {ds : List (Str × D)} (h : Entries P es ds) : Entries P' es ds := by
  induction h with
  | nil => exact .nil
  | cons a _ ih => exact .cons (a.mono g) ih

/-- a dict with texts as keys, in order -/
inductive DenP (P : Mp) : List (Str × Value) → List (Str × D) → Prop where
  | nil : DenP P [] []
  | cons {k : Str} {v : Value} {d : D} {kvs es} : Den P v d → DenP P kvs es → DenP P ((k, v) :: kvs) ((k, d) :: es)
theorem DenP.mono {P P' : Mp} (g : Sub P P') {kvs : List (Str × Value)} {es : List (Str × D)} (h : DenP P kvs es) : DenP P' kvs es := by
  induction h with
  | nil => exact .nil
  | cons a _ ih => exact .cons (a.mono g) ih
def strDict (c : Cx) (P : Mp) (a : Addr) (es : List (Str × D)) (ob : Obj) : Prop :=
  (a == sysModules) = false ∧ ∃ kvs : List (Str × Value), (∀ h : Heap, h.get? a = some ob → h.DictOf (strKind c.prog c.w) a kvs) ∧ DenP P kvs es

def Real (c : Cx) (P : Mp) (a : Addr) : AO → Obj → Prop
  | .list ds, ob => ∃ vs n, ob = listOf (List.toArray vs) n ∧ DenL P vs ds
  | .dict es, ob => strDict c P a es ob
  | .idict ds, ob => ∃ es n, ob = dictOf es n ∧ Entries P es ds
  | .sdict b pos, ob => ∃ es n fa, ob = dictOf es n ∧ Entries P es [("value", .int (pos : Nat)), ("read", .ref fa)] ∧ RdAt c P fa b a
  | .cell d, ob => ∃ v, ob.data = .cell v ∧ (match d with | none => v = none | some d => ∃ x, v = some x ∧ Den P x d)
  | .exc msg, ob => ∃ vs t n tk, ob.cls = .type "ValueError" ∧ ob.data = .fields vs ∧ vs.size = 6 ∧ vs[0]? = some (.ref t) ∧ P t = some { cls := .type "tuple", data := .seq #[.str msg tk] n }
  | .tab, ob => TbAt c P ob
theorem Real.mono {c : Cx} {P P' : Mp} (g : Sub P P') {a : Addr} {ao : AO} {ob : Obj} (h : Real c P a ao ob) : Real c P' a ao ob := by
  cases ao with
  | list ds => obtain ⟨vs, n, e, d⟩ := h; exact ⟨vs, n, e, d.mono g⟩
  | dict es => obtain ⟨e, kvs, e', d⟩ := h; exact ⟨e, kvs, e', d.mono g⟩
  | idict ds => obtain ⟨es, n, e, r⟩ := h; exact ⟨es, n, e, r.mono g⟩
  | sdict b pos => obtain ⟨es, n, fa, e, r, q⟩ := h; exact ⟨es, n, fa, e, r.mono g, q.mono g⟩
  | cell d =>
    obtain ⟨v, e, r⟩ := h
    refine ⟨v, e, ?_⟩
    cases d with
    | none => exact r
    | some d => obtain ⟨x, e, r⟩ := r; exact ⟨x, e, r.mono g⟩
  | exc msg => obtain ⟨vs, t, n, tk, a, b, z, e, r⟩ := h; exact ⟨vs, t, n, tk, a, b, z, e, g _ _ r⟩
  | tab => exact TbAt.mono g h

structure Ok (c : Cx) (Fs : List Fm) (K P : Mp) (σ : Sto) (s : Shared) : Prop where
  base : ∀ b o, c.h₀.get? b = some o → K b = some o
  kept : ∀ b o, K b = some o → s.heap.get? b = some o
  pers : ∀ b o, P b = some o → s.heap.get? b = some o
  own : ∀ p ∈ σ, ∃ ob, s.heap.get? p.1 = some ob ∧ Real c P p.1 p.2 ob
  frs : ∀ f ∈ Fs, s.heap.Ns f.1 f.2
  nd : (σ.map (·.1) ++ Fs.map (·.1)).Nodup
  off : ∀ a ∈ σ.map (·.1) ++ Fs.map (·.1), K a = none ∧ P a = none
  gens : s.gens = c.gens
  os : s.os = c.os
  drawn : s.drawn = c.drawn
  low : Sub c.p₀ P

section
variable {c : Cx} {Fs : List Fm} {K P : Mp} {σ : Sto} {s : Shared}
theorem Ok.keeps (o : Ok c Fs K P σ s) : ∀ b x, c.h₀.get? b = some x → s.heap.get? b = some x := fun b x e => o.kept b x (o.base b x e)

theorem Ok.grow (o : Ok c Fs K P σ s) {h' : Heap} {tk : Nat} (k : ∀ b x, s.heap.get? b = some x → h'.get? b = some x) : Ok c Fs K P σ { s with heap := h', toks := tk } :=
  ⟨o.base, fun b x e => k b x (o.kept b x e), fun b x e => k b x (o.pers b x e), fun p hp => let ⟨ob, e, r⟩ := o.own p hp; ⟨ob, k _ _ e, r⟩, fun f hf => (o.frs f hf).keeps k, o.nd, o.off, o.gens, o.os, o.drawn, o.low⟩
theorem Ok.toks (o : Ok c Fs K P σ s) {tk : Nat} : Ok c Fs K P σ { s with toks := tk } := o.grow fun _ _ e => e

theorem Ok.notK (o : Ok c Fs K P σ s) {a : Addr} (h : s.heap.get? a = none) : K a = none := by
  cases e : K a with
  | none => rfl
  | some x => rw [o.kept a x e] at h; cases h
theorem Ok.notP (o : Ok c Fs K P σ s) {a : Addr} (h : s.heap.get? a = none) : P a = none := by
  cases e : P a with
  | none => rfl
  | some x => rw [o.pers a x e] at h; cases h
theorem Ok.notIn (o : Ok c Fs K P σ s) {a : Addr} (h : s.heap.get? a = none) : a ∉ σ.map (·.1) ++ Fs.map (·.1) := by
  intro m
  rcases List.mem_append.mp m with m | m
  · obtain ⟨p, hp, rfl⟩ := List.mem_map.mp m
    obtain ⟨ob, e, _⟩ := o.own p hp
    rw [h] at e; cases e
  · obtain ⟨f, hf, rfl⟩ := List.mem_map.mp m
    obtain ⟨x, _, _, e, _⟩ := o.frs f hf
    rw [h] at e; cases e

def put (P : Mp) (a : Addr) (o : Obj) : Mp := fun b => if b = a then some o else P b
theorem put_self {P : Mp} {a : Addr} {o : Obj} : put P a o a = some o := if_pos rfl
theorem put_sub {P : Mp} {a : Addr} {o : Obj} (h : P a = none) : Sub P (put P a o) := fun b x e => by
  unfold put
  by_cases q : b = a
  · subst q; rw [h] at e; cases e
  · rw [if_neg q]; exact e
theorem put_gr {K P : Mp} {a : Addr} {o : Obj} (h : P a = none) (hk : K a = none) : Gr K P (put P a o) := by
  refine ⟨put_sub h, fun b e q => ?_⟩
  unfold put at q
  by_cases z : b = a
  · subst z; exact hk
  · rw [if_neg z] at q; exact absurd e q

/-- a new thing that may change -/
theorem Ok.newOwn (o : Ok c Fs K P σ s) {h' : Heap} {tk : Nat} {a : Addr} {ob : Obj} {ao : AO} (hn : s.heap.get? a = none) (k : ∀ b x, s.heap.get? b = some x → h'.get? b = some x) (ha : h'.get? a = some ob) (hr : Real c P a ao ob) :
    Ok c Fs K P ((a, ao) :: σ) { s with heap := h', toks := tk } := by
  have g := o.grow (tk := tk) k
  refine ⟨g.base, g.kept, g.pers, fun p hp => ?_, g.frs, ?_, fun b hb => ?_, g.gens, g.os, g.drawn, g.low⟩
  · rcases List.mem_cons.mp hp with rfl | hp
    · exact ⟨ob, ha, hr⟩
    · exact g.own p hp
  · exact List.nodup_cons.mpr ⟨o.notIn hn, o.nd⟩
  · rcases List.mem_cons.mp hb with rfl | hb
    · exact ⟨o.notK hn, o.notP hn⟩
    · exact o.off b hb

/-- a new thing that stays -/
theorem Ok.newPers (o : Ok c Fs K P σ s) {h' : Heap} {tk : Nat} {a : Addr} {ob : Obj} (hn : s.heap.get? a = none) (k : ∀ b x, s.heap.get? b = some x → h'.get? b = some x) (ha : h'.get? a = some ob) :
    Ok c Fs K (put P a ob) σ { s with heap := h', toks := tk } ∧ Gr K P (put P a ob) := by
  have g := o.grow (tk := tk) k
  refine ⟨⟨g.base, g.kept, fun b x e => ?_, fun p hp => ?_, g.frs, g.nd, fun b hb => ⟨(o.off b hb).1, ?_⟩, g.gens, g.os, g.drawn, g.low.trans (put_sub (o.notP hn))⟩, put_gr (o.notP hn) (o.notK hn)⟩
  · unfold put at e
    by_cases q : b = a
    · subst q; rw [if_pos rfl] at e; cases e; exact ha
    · rw [if_neg q] at e; exact g.pers b x e
  · obtain ⟨ob', e, r⟩ := g.own p hp
    exact ⟨ob', e, r.mono (put_sub (o.notP hn))⟩
  · unfold put
    have : b ≠ a := fun q => o.notIn hn (q ▸ hb)
    rw [if_neg this]; exact (o.off b hb).2

/-- one place of the store, found and put anew -/
inductive Put (a : Addr) (ao ao' : AO) : Sto → Sto → Prop where
  | here {r : Sto} : Put a ao ao' ((a, ao) :: r) ((a, ao') :: r)
  | there {p : Addr × AO} {r r' : Sto} : Put a ao ao' r r' → Put a ao ao' (p :: r) (p :: r')
theorem Put.mem {a : Addr} {ao ao' : AO} {σ σ' : Sto} (h : Put a ao ao' σ σ') : (a, ao) ∈ σ := by
  induction h with
  | here => exact .head _
  | there _ ih => exact .tail _ ih
theorem Put.addrs {a : Addr} {ao ao' : AO} {σ σ' : Sto} (h : Put a ao ao' σ σ') : σ'.map (·.1) = σ.map (·.1) := by
  induction h with
  | here => rfl
  | there _ ih => rw [List.map_cons, List.map_cons, ih]
theorem Put.back {a : Addr} {ao ao' : AO} {σ σ' : Sto} (h : Put a ao ao' σ σ') (nd : (σ.map (·.1)).Nodup) : ∀ p ∈ σ', p = (a, ao') ∨ (p ∈ σ ∧ p.1 ≠ a) := by
  induction h with
  | here =>
    intro p hp
    rcases List.mem_cons.mp hp with rfl | hp
    · exact .inl rfl
    · refine .inr ⟨.tail _ hp, fun q => ?_⟩
      rw [List.map_cons] at nd
      exact (List.nodup_cons.mp nd).1 (by rw [← q]; exact List.mem_map_of_mem (f := (·.1)) hp)
  | there hp0 ih =>
    intro p hp
    rw [List.map_cons] at nd
    have nd' := List.nodup_cons.mp nd
    rcases List.mem_cons.mp hp with rfl | hp
    · refine .inr ⟨.head _, fun q => nd'.1 ?_⟩
      rw [q]
      exact List.mem_map_of_mem (f := (·.1)) hp0.mem
    · rcases ih nd'.2 p hp with h | ⟨h, h'⟩
      · exact .inl h
      · exact .inr ⟨.tail _ h, h'⟩

theorem Ok.ndσ (o : Ok c Fs K P σ s) : (σ.map (·.1)).Nodup := (List.nodup_append.mp o.nd).1

theorem Ok.upd (o : Ok c Fs K P σ s) {σ' : Sto} {h' : Heap} {tk : Nat} {a : Addr} {ao ao' : AO} {ob : Obj} (p : Put a ao ao' σ σ') (sb : Heap.SameBut a s.heap h') (ha : h'.get? a = some ob) (hr : Real c P a ao' ob) :
    Ok c Fs K P σ' { s with heap := h', toks := tk } := by
  have hm : a ∈ σ.map (·.1) := List.mem_map_of_mem (f := (·.1)) p.mem
  have hoff := o.off a (List.mem_append.mpr (.inl hm))
  refine ⟨o.base, fun b x e => ?_, fun b x e => ?_, fun q hq => ?_, fun f hf => ?_, ?_, ?_, o.gens, o.os, o.drawn, o.low⟩
  · have : b ≠ a := fun q => by rw [q, hoff.1] at e; cases e
    exact (sb.2 b this).trans (o.kept b x e)
  · have : b ≠ a := fun q => by rw [q, hoff.2] at e; cases e
    exact (sb.2 b this).trans (o.pers b x e)
  · rcases p.back o.ndσ q hq with rfl | ⟨h1, h2⟩
    · exact ⟨ob, ha, hr⟩
    · obtain ⟨ob', e, r⟩ := o.own q h1
      exact ⟨ob', (sb.2 _ h2).trans e, r⟩
  · have hne : f.1 ≠ a := fun q => by
      have := (List.nodup_append.mp o.nd).2.2 a hm f.1 (List.mem_map_of_mem hf)
      exact this q.symm
    obtain ⟨ob', es, ep, e, r⟩ := o.frs f hf
    exact ⟨ob', es, ep, (sb.2 _ hne).trans e, r⟩
  · rw [p.addrs]; exact o.nd
  · rw [p.addrs]; exact o.off

/-- the head frame's names stored -/
theorem Ok.store {L : Addr} {mv mv' : Str → Option Value} (o : Ok c ((L, mv) :: Fs) K P σ s) {h' : Heap} {tk : Nat} (sb : Heap.SameBut L s.heap h') (hn : h'.Ns L mv') : Ok c ((L, mv') :: Fs) K P σ { s with heap := h', toks := tk } := by
  have hm : L ∈ σ.map (·.1) ++ ((L, mv) :: Fs).map (·.1) := List.mem_append.mpr (.inr (.head _))
  have hoff := o.off L hm
  have nd := o.nd
  refine ⟨o.base, fun b x e => ?_, fun b x e => ?_, fun q hq => ?_, fun f hf => ?_, nd, o.off, o.gens, o.os, o.drawn, o.low⟩
  · have : b ≠ L := fun q => by rw [q, hoff.1] at e; cases e
    exact (sb.2 b this).trans (o.kept b x e)
  · have : b ≠ L := fun q => by rw [q, hoff.2] at e; cases e
    exact (sb.2 b this).trans (o.pers b x e)
  · obtain ⟨ob', e, r⟩ := o.own q hq
    have hne : q.1 ≠ L := (List.nodup_append.mp nd).2.2 q.1 (List.mem_map_of_mem hq) L (.head _)
    exact ⟨ob', (sb.2 _ hne).trans e, r⟩
  · rcases List.mem_cons.mp hf with rfl | hf
    · exact hn
    · have hne : f.1 ≠ L := fun q => by
        have := (List.nodup_append.mp nd).2.1
        rw [List.map_cons] at this
        exact (List.nodup_cons.mp this).1 (by rw [← q]; exact List.mem_map_of_mem (f := (·.1)) hf)
      obtain ⟨ob', es, ep, e, r⟩ := o.frs f (.tail _ hf)
      exact ⟨ob', es, ep, (sb.2 _ hne).trans e, r⟩

/-- forgetting -/
theorem Ok.drop (o : Ok c Fs K P σ s) {σ' : Sto} (h : σ'.Sublist σ) : Ok c Fs K P σ' s := by
  have hs : (σ'.map (·.1) ++ Fs.map (·.1)).Sublist (σ.map (·.1) ++ Fs.map (·.1)) := (h.map _).append (List.Sublist.refl _)
  exact ⟨o.base, o.kept, o.pers, fun p hp => o.own p (h.subset hp), o.frs, o.nd.sublist hs, fun a ha => o.off a (hs.subset ha), o.gens, o.os, o.drawn, o.low⟩

theorem Ok.perm (o : Ok c Fs K P σ s) {σ' : Sto} (h : σ'.Perm σ) : Ok c Fs K P σ' s := by
  have hs : (σ'.map (·.1) ++ Fs.map (·.1)).Perm (σ.map (·.1) ++ Fs.map (·.1)) := (h.map _).append (List.Perm.refl _)
  exact ⟨o.base, o.kept, o.pers, fun p hp => o.own p (h.subset hp), o.frs, hs.nodup_iff.mpr o.nd, fun a ha => o.off a (hs.subset ha), o.gens, o.os, o.drawn, o.low⟩

/-- a list that changes no more -/
theorem Ok.freeze {a : Addr} {ds : List D} (o : Ok c Fs K P ((a, .list ds) :: σ) s) : ∃ P', Ok c Fs K P' σ s ∧ Gr K P P' ∧ Den P' (.ref a) (.lst ds) := by
  obtain ⟨ob, e, vs, n, rfl, dn⟩ := o.own (a, .list ds) (.head _)
  have hoff := o.off a (.head _)
  have hna : a ∉ σ.map (·.1) ++ Fs.map (·.1) := (List.nodup_cons.mp o.nd).1
  refine ⟨put P a (listOf (List.toArray vs) n), ⟨o.base, o.kept, fun b x q => ?_, fun p hp => ?_, o.frs, (List.nodup_cons.mp o.nd).2, fun b hb => ⟨(o.off b (.tail _ hb)).1, ?_⟩, o.gens, o.os, o.drawn, o.low.trans (put_sub hoff.2)⟩, put_gr hoff.2 hoff.1, ?_⟩
  · unfold put at q
    by_cases z : b = a
    · subst z; rw [if_pos rfl] at q; cases q; exact e
    · rw [if_neg z] at q; exact o.pers b x q
  · obtain ⟨ob', e', r⟩ := o.own p (.tail _ hp)
    exact ⟨ob', e', r.mono (put_sub hoff.2)⟩
  · unfold put
    rw [if_neg (fun q : b = a => hna (q ▸ hb))]; exact (o.off b (.tail _ hb)).2
  · exact .lst put_self rfl rfl (dn.mono (put_sub hoff.2))

/-- something laid aside, which then stays as it is -/
theorem Ok.aside (o : Ok c Fs K P σ s) {a : Addr} {ob : Obj} (e : s.heap.get? a = some ob) (hna : a ∉ σ.map (·.1) ++ Fs.map (·.1)) : Ok c Fs (put K a ob) P σ s := by
  refine ⟨fun b x q => ?_, fun b x q => ?_, o.pers, o.own, o.frs, o.nd, fun b hb => ⟨?_, (o.off b hb).2⟩, o.gens, o.os, o.drawn, o.low⟩
  · unfold put
    by_cases z : b = a
    · subst z; rw [if_pos rfl, ← e]; exact o.keeps _ _ q
    · rw [if_neg z]; exact o.base b x q
  · unfold put at q
    by_cases z : b = a
    · subst z; rw [if_pos rfl] at q; cases q; exact e
    · rw [if_neg z] at q; exact o.kept b x q
  · unfold put
    rw [if_neg (fun q : b = a => hna (q ▸ hb))]; exact (o.off b hb).1
end
end Mine

-- part LayC
open PySem PySem.W PyProof.Rows
set_option Elab.async false
namespace Mine
open PySem

section
variable {c : Cx} {Fs : List Fm} {K P : Mp} {σ : Sto} {s : Shared}

theorem Ok.slots (o : Ok c Fs K P σ s) {S : List Addr} {h' : Heap} (x : Heap.SlotsOnly S s.heap h') (hS : ∀ b ∈ S, b ∈ Fs.map (·.1)) : Ok c Fs K P σ { s with heap := h' } := by
  have key : ∀ b, b ∈ S → K b = none ∧ P b = none := fun b hb => o.off b (List.mem_append.mpr (.inr (hS b hb)))
  refine ⟨o.base, fun b y e => ?_, fun b y e => ?_, fun p hp => ?_, fun f hf => ?_, o.nd, o.off, o.gens, o.os, o.drawn, o.low⟩
  · have : b ∉ S := fun q => by rw [(key b q).1] at e; cases e
    exact (x.2.1 b this).trans (o.kept b y e)
  · have : b ∉ S := fun q => by rw [(key b q).2] at e; cases e
    exact (x.2.1 b this).trans (o.pers b y e)
  · obtain ⟨ob, e, r⟩ := o.own p hp
    have : p.1 ∉ S := fun q => (List.nodup_append.mp o.nd).2.2 p.1 (List.mem_map_of_mem hp) p.1 (hS _ q) rfl
    exact ⟨ob, (x.2.1 _ this).trans e, r⟩
  · obtain ⟨ob, es, ep, e, r1, r2⟩ := o.frs f hf
    obtain ⟨sl, e'⟩ := x.2.2 _ _ e
    exact ⟨_, es, ep, e', r1, r2⟩

theorem Ok.other (o : Ok c Fs K P σ s) {T : Addr} {h' : Heap} {tk : Nat} (sb : Heap.SameBut T s.heap h') (hT : T ∉ σ.map (·.1) ++ Fs.map (·.1)) (hK : K T = none) (hP : P T = none) : Ok c Fs K P σ { s with heap := h', toks := tk } := by
  refine ⟨o.base, fun b y e => ?_, fun b y e => ?_, fun p hp => ?_, fun f hf => ?_, o.nd, o.off, o.gens, o.os, o.drawn, o.low⟩
  · have : b ≠ T := fun q => by rw [q, hK] at e; cases e
    exact (sb.2 b this).trans (o.kept b y e)
  · have : b ≠ T := fun q => by rw [q, hP] at e; cases e
    exact (sb.2 b this).trans (o.pers b y e)
  · obtain ⟨ob, e, r⟩ := o.own p hp
    have : p.1 ≠ T := fun q => hT (q ▸ List.mem_append.mpr (.inl (List.mem_map_of_mem hp)))
    exact ⟨ob, (sb.2 _ this).trans e, r⟩
  · obtain ⟨ob, es, ep, e, r1, r2⟩ := o.frs f hf
    have : f.1 ≠ T := fun q => hT (q ▸ List.mem_append.mpr (.inr (List.mem_map_of_mem hf)))
    exact ⟨ob, es, ep, (sb.2 _ this).trans e, r1, r2⟩

/-- the exception's trace: none yet (unless it must), or a record that is nobody's -/
def Trc (h : Heap) (K P : Mp) (as : List Addr) (e : Addr) (must : Bool) : Prop :=
  ∃ ob vs x, h.get? e = some ob ∧ ob.data = .fields vs ∧ vs[1]? = some x ∧
    ((x = .none ∧ must = false) ∨ ∃ T oT ts y, x = .ref T ∧ h.get? T = some oT ∧ oT.data = .fields ts ∧ ts[3]? = some y ∧ T ∉ as ∧ K T = none ∧ P T = none)
theorem Trc.weak {h : Heap} {as : List Addr} {e : Addr} {b : Bool} (t : Trc h K P as e b) : Trc h K P as e false := by
  obtain ⟨ob, vs, x, h1, h2, h3, h4⟩ := t
  exact ⟨ob, vs, x, h1, h2, h3, h4.elim (fun z => .inl ⟨z.1, rfl⟩) .inr⟩

abbrev adr (σ : Sto) (Fs : List Fm) : List Addr := σ.map (·.1) ++ Fs.map (·.1)

/-- the frames on the stack are the frames that we know; the env is the topmost's, or a block of it -/
structure Fa (A : Around) (env : Env) (Fs : List Fm) : Prop where
  frames : ∃ env₀ outer, A.frames = some (env₀ :: outer) ∧ env₀.frame = env.frame ∧ ∀ x ∈ env₀ :: outer, x.scope.kind = .function ∧ ∃ f ∈ Fs, x.frame = some f.1
  glob : env.globals = mainGlobals
  blt : env.builtins = builtinsNs
  kind : env.scope.kind = .function

theorem FunFrames_of {h : Heap} {base : Heap} : ∀ {l : List Env}, (∀ x ∈ l, x.scope.kind = .function ∧ ∃ f ∈ Fs, x.frame = some f.1) → (∀ f ∈ Fs, h.Ns f.1 f.2) → (∀ f ∈ Fs, base.get? f.1 = none) → h.FunFrames base l
  | [], _, _, _ => trivial
  | env :: l, h1, h2, h3 => by
    obtain ⟨hk, f, hf, e⟩ := h1 env (.head _)
    obtain ⟨o, es, ep, g, d, _⟩ := h2 f hf
    exact ⟨by rw [hk]; decide, ⟨f.1, o, e, h3 f hf, g, fun vs q => by rw [d] at q; cases q⟩, FunFrames_of (fun x hx => h1 x (.tail _ hx)) h2 h3⟩

theorem wpAny_frameOf' {M : Model} {A : Around} {E : Value → Shared → Prop} {base : Heap} {env env₀ : Env} {outer : List Env} {L : Addr} {Q : Value → Shared → Prop} (hfr : A.frames = some (env₀ :: outer)) (he : env₀.frame = env.frame) (hl : s.heap.FunFrames base (env₀ :: outer))
    (hf : env.frame = some L) (h : ∀ h', Heap.SlotsOnly ((env₀ :: outer).filterMap (·.frame)) s.heap h' → Q (.ref L) { s with heap := h' }) : wpAny M A (frameOf env) Q E s := by
  have z := wpAny_frameOf_fun (M := M) (E := E) (Q := Q) hfr hl (he.trans hf) h
  unfold PySem.frameOf at z ⊢
  rw [he] at z
  exact z

theorem real_exc_set {e : Addr} {msg : Str} {ob : Obj} {v : Value} (r : Real c P e (.exc msg) ob) : Real c P e (.exc msg) (Obj.mapFields (·.setIfInBounds 1 v) ob) := by
  obtain ⟨vs, t, n, tk, a, b, z, q, p⟩ := r
  obtain ⟨oc, od, odt, osl⟩ := ob
  dsimp only at a b
  subst b
  refine ⟨vs.setIfInBounds 1 v, t, n, tk, a, rfl, by simpa using z, ?_, p⟩
  rw [Array.getElem?_setIfInBounds]
  simp only [Nat.one_ne_zero, if_false, q]

theorem note_ok {M : Model} {A : Around} {E : Value → Shared → Prop} {env : Env} {e : Addr} {msg : Str} {Q : Unit → Shared → Prop} (fa : Fa A env Fs) (hL : env.frame = some env.locals ∨ ∃ L, env.frame = some L)
    (o : Ok c Fs K P ((e, .exc msg) :: σ) s) (t : Trc s.heap K P (adr ((e, .exc msg) :: σ) Fs) e false)
    (h : ∀ h', Ok c Fs K P ((e, .exc msg) :: σ) { s with heap := h' } → Trc h' K P (adr ((e, .exc msg) :: σ) Fs) e true → Q () { s with heap := h' }) : wpAny M A (noteFrame (.ref e) env) Q E s := by
  obtain ⟨L, hf⟩ : ∃ L, env.frame = some L := hL.elim (fun z => ⟨_, z⟩) id
  obtain ⟨env₀, outer, hA, h0, hall⟩ := fa.frames
  obtain ⟨ob, vs, x, he, hd, hx, ht⟩ := t
  -- the new record
  have go : ∀ (s₁ : Shared) (head : Value) (b : Bool) , Ok c Fs K P ((e, .exc msg) :: σ) s₁ → (∃ ob vs, s₁.heap.get? e = some ob ∧ ob.data = .fields vs ∧ vs.size = 6) →
      (∀ h', Ok c Fs K P ((e, .exc msg) :: σ) { s₁ with heap := h' } → Trc h' K P (adr ((e, .exc msg) :: σ) Fs) e true → Q () { s₁ with heap := h' }) →
      wpAny M A (do let a ← frameOf env; let pl ← entryPlaceOf L b; let b ← EntryCells.newEntry head a .none (rawInt L) .none pl; setField (.ref e) 1 b) Q E s₁ := by
    intro s₁ head b o₁ ⟨ob, vs, he, hd, hz⟩ h
    have hF : s₁.heap.FunFrames (hideAll s₁.heap (Fs.map (·.1))) (env₀ :: outer) := FunFrames_of hall o₁.frs fun f hf => hideAll_none _ (List.mem_map_of_mem hf)
    refine wpAny_bind (wpAny_frameOf' hA h0 hF hf fun h₁ hs₁ => ?_)
    have hS : ∀ b ∈ (env₀ :: outer).filterMap (·.frame), b ∈ Fs.map (·.1) := by
      intro b hb
      obtain ⟨x, hx, hxe⟩ := List.mem_filterMap.mp hb
      obtain ⟨_, f, hf, e'⟩ := hall x hx
      rw [e'] at hxe; cases hxe
      exact List.mem_map_of_mem hf
    have o₂ := o₁.slots hs₁ hS
    have he₁ : h₁.get? e = some ob := by
      refine (hs₁.2.1 e fun q => ?_).trans he
      exact (List.nodup_append.mp o₁.nd).2.2 e (.head _) e (hS e q) rfl
    refine wpAny_bind (wpAny_entryPlaceOf fun pl hpl => ?_)
    unfold EntryCells.newEntry newFields
    refine wpAny_bind (wpAny_newObj_type ?_ (hpl.sizeOk5 _ _ _ _ _))
    let oT : Obj := { cls := .type "traceback", dict := none, data := .fields ([head, .ref L, .none, rawInt L, .none] ++ (if pl.isEmpty then List.replicate 6 Value.none else pl)).toArray }
    have he₂ : (h₁.push oT).get? e = some ob := Heap.get?_push_of_some oT he₁
    have hn : h₁.get? h₁.objs.size = none := by
      cases q : h₁.get? h₁.objs.size with
      | none => rfl
      | some o => exact absurd (Heap.lt_size q) (Nat.lt_irrefl _)
    have hTe : h₁.objs.size ≠ e := Nat.ne_of_gt (Heap.lt_size he₁)
    have o₃ : Ok c Fs K P ((e, .exc msg) :: σ) { s₁ with heap := h₁.push oT } := o₂.grow (tk := s₁.toks) fun b x z => Heap.get?_push_of_some oT z
    refine wpAny_setField he₂ hd (by omega) (h _ ?_ ?_)
    · obtain ⟨ob', e', r'⟩ := o₃.own (e, .exc msg) (.head _)
      have : ob' = ob := Option.some.inj (e'.symm.trans he₂)
      subst this
      refine o₃.upd (tk := s₁.toks) (ao := .exc msg) .here (Heap.SameBut.update _ _ _) (Heap.get?_update_self _ he₂ (Obj.isFreed_of_fields (Obj.data_mapFields hd _))) (real_exc_set r')
    · refine ⟨_, _, .ref h₁.objs.size, Heap.get?_update_self _ he₂ (Obj.isFreed_of_fields (Obj.data_mapFields hd _)), Obj.data_mapFields hd _, ?_, .inr ⟨h₁.objs.size, oT, _, rawInt L, rfl, ?_, rfl, ?_, o₂.notIn hn, o₂.notK hn, o₂.notP hn⟩⟩
      · rw [Array.getElem?_setIfInBounds]; simp [hz]
      · rw [Heap.get?_update_other _ _ (Ne.symm hTe)]; exact Heap.get?_push_size h₁ rfl
      · simp
  have hz : vs.size = 6 := by
    obtain ⟨ob', e', vs', t', n', tk', a', b', z', _⟩ := o.own (e, .exc msg) (.head _)
    have : ob' = ob := Option.some.inj (e'.symm.trans he)
    subst this
    rw [hd] at b'; cases b'; exact z'
  unfold noteFrame
  simp only [hf]
  refine wpAny_bind (wpAny_field he hd hx ?_)
  rcases ht with ⟨rfl, _⟩ | ⟨T, oT, ts, y, rfl, hT, hdT, h3, hoff, hKT, hPT⟩
  · rw [if_neg (by decide)]
    exact go s .none _ o ⟨ob, vs, he, hd, hz⟩ h
  · rw [if_pos (show (Value.ref T != Value.none) = true from by simp)]
    refine wpAny_bind (wpAny_field hT hdT h3 ?_)
    by_cases q : (y == rawInt L) = true
    · rw [if_pos q]
      refine wpAny_pure (h _ o ?_)
      exact ⟨ob, vs, .ref T, he, hd, hx, .inr ⟨T, oT, ts, y, rfl, hT, hdT, h3, hoff, hKT, hPT⟩⟩
    · rw [if_neg q]
      refine wpAny_bind (wpAny_setField hT hdT (Array.getElem?_eq_some_iff.mp h3).1 ?_)
      have hTe : T ≠ e := fun z => hoff (by rw [z]; exact .head _)
      refine go { s with heap := s.heap.update T (Obj.mapFields (·.setIfInBounds 3 Value.none)) } (.ref T) _ (o.other (tk := s.toks) (Heap.SameBut.update _ _ _) hoff hKT hPT) ⟨ob, vs, ?_, hd, hz⟩ ?_
      · exact (Heap.get?_update_other _ _ hTe).trans he
      · exact h

theorem flight_ok {M : Model} {A : Around} {E : Value → Shared → Prop} {fl : Option Addr} {e : Addr} {msg : Str} {Q : Unit → Shared → Prop}
    (o : Ok c Fs K P ((e, .exc msg) :: σ) s) (t : Trc s.heap K P (adr ((e, .exc msg) :: σ) Fs) e true)
    (h : ∀ h', Ok c Fs K P ((e, .exc msg) :: σ) { s with heap := h' } → Trc h' K P (adr ((e, .exc msg) :: σ) Fs) e true → Q () { s with heap := h' }) : wpAny M A (setFlight (.ref e) fl) Q E s := by
  obtain ⟨ob, vs, x, he, hd, hx, ht⟩ := t
  rcases ht with ⟨_, q⟩ | ⟨T, oT, ts, y, rfl, hT, hdT, h3, hoff, hKT, hPT⟩
  · cases q
  have hTe : T ≠ e := fun z => hoff (by rw [z]; exact .head _)
  unfold setFlight
  refine wpAny_bind (wpAny_field he hd hx ?_)
  rw [if_pos (show (Value.ref T != Value.none) = true from by simp)]
  refine wpAny_setField hT hdT (Array.getElem?_eq_some_iff.mp h3).1 (h _ (o.other (tk := s.toks) (Heap.SameBut.update _ _ _) hoff hKT hPT) ?_)
  refine ⟨ob, vs, .ref T, (Heap.get?_update_other _ _ hTe).trans he, hd, hx, .inr ⟨T, _, _, (fl.elim Value.none fun f => rawInt f), rfl, Heap.get?_update_self _ hT (Obj.isFreed_of_fields (Obj.data_mapFields hdT _)), Obj.data_mapFields hdT _, ?_, hoff, hKT, hPT⟩⟩
  rw [Array.getElem?_setIfInBounds, if_pos rfl, if_pos (Array.getElem?_eq_some_iff.mp h3).1]
end
end Mine

-- part LayD
open PySem PySem.W PyProof.Rows
set_option Elab.async false
namespace Mine
open PySem

abbrev mdl (c : Cx) : Model := model c.prog c.w
def RV (c : Cx) (Fs : List Fm) (K P : Mp) (Q : D → Sto → Prop) : Value → Shared → Prop :=
  fun v s' => ∃ P' σ' d, Gr K P P' ∧ Ok c Fs K P' σ' s' ∧ Den P' v d ∧ Q d σ'
def RL (c : Cx) (Fs : List Fm) (K P : Mp) (Q : List D → Sto → Prop) : List Value → Shared → Prop :=
  fun v s' => ∃ P' σ' d, Gr K P P' ∧ Ok c Fs K P' σ' s' ∧ DenL P' v d ∧ Q d σ'
def RB (c : Cx) (Fs : List Fm) (K P : Mp) (Q : Bool → Sto → Prop) : Bool → Shared → Prop :=
  fun b s' => ∃ P' σ', Gr K P P' ∧ Ok c Fs K P' σ' s' ∧ Q b σ'
def RU (c : Cx) (Fs : List Fm) (K P : Mp) (Q : Sto → Prop) : Unit → Shared → Prop :=
  fun _ s' => ∃ P' σ', Gr K P P' ∧ Ok c Fs K P' σ' s' ∧ Q σ'
def RX (c : Cx) (Fs : List Fm) (K P : Mp) (X : Str → Sto → Prop) : Value → Shared → Prop :=
  fun ev s' => ∃ e P' σ' msg, ev = .ref e ∧ Gr K P P' ∧ Ok c Fs K P' ((e, .exc msg) :: σ') s' ∧ Trc s'.heap K P' (adr ((e, .exc msg) :: σ') Fs) e false ∧ X msg σ'

def MOk (P : Mp) (mv : Str → Option Value) (m : Env') : Prop := ∀ x d, m.lookup x = some d → ∃ v, mv x = some v ∧ Den P v d
theorem MOk.mono {P P' : Mp} (g : Sub P P') {mv : Str → Option Value} {m : Env'} (h : MOk P mv m) : MOk P' mv m := fun x d e => let ⟨v, a, b⟩ := h x d e; ⟨v, a, b.mono g⟩
theorem MOk.set {P : Mp} {mv : Str → Option Value} {m : Env'} (h : MOk P mv m) {x : Str} {v : Value} {d : D} (dn : Den P v d) : MOk P (fun y => if y = x then some v else mv y) ((x, d) :: m) := by
  intro y e hy
  by_cases q : y = x
  · subst q
    simp [List.lookup] at hy
    exact ⟨v, if_pos rfl, hy ▸ dn⟩
  · have : (y == x) = false := by simp [q]
    simp [List.lookup, this] at hy
    obtain ⟨v', a, b⟩ := h y e hy
    exact ⟨v', (if_neg q).trans a, b⟩

inductive Fl where
  | next | brk | cont
  | ret (d : D)
inductive FlDen (P : Mp) : Flow → Fl → Prop where
  | next : FlDen P .next .next
  | brk : FlDen P .brk .brk
  | cont : FlDen P .cont .cont
  | ret {v d} : Den P v d → FlDen P (.ret v) (.ret d)

def RS (c : Cx) (L : Addr) (Fs : List Fm) (K P : Mp) (Q : Fl → Env' → Sto → Prop) : Flow → Shared → Prop :=
  fun f s' => ∃ P' σ' mv m fl, Gr K P P' ∧ Ok c ((L, mv) :: Fs) K P' σ' s' ∧ MOk P' mv m ∧ FlDen P' f fl ∧ Q fl m σ'
def RA (c : Cx) (L : Addr) (Fs : List Fm) (K P : Mp) (Q : Env' → Sto → Prop) : Unit → Shared → Prop :=
  fun _ s' => ∃ P' σ' mv m, Gr K P P' ∧ Ok c ((L, mv) :: Fs) K P' σ' s' ∧ MOk P' mv m ∧ Q m σ'
def RXS (c : Cx) (L : Addr) (Fs : List Fm) (K P : Mp) (X : Str → Env' → Sto → Prop) : Value → Shared → Prop :=
  fun ev s' => ∃ e P' σ' mv m msg, ev = .ref e ∧ Gr K P P' ∧ Ok c ((L, mv) :: Fs) K P' ((e, .exc msg) :: σ') s' ∧ MOk P' mv m ∧ Trc s'.heap K P' (adr ((e, .exc msg) :: σ') ((L, mv) :: Fs)) e false ∧ X msg m σ'

/-- an expression's value -/
def EV (c : Cx) (A : Around) (env : Env) (Fs : List Fm) (e : Expr) (m : Env') (σ : Sto) (Q : D → Sto → Prop) (X : Str → Sto → Prop) : Prop :=
  ∀ K P s mv, Ok c ((env.locals, mv) :: Fs) K P σ s → MOk P mv m → wpAny (mdl c) A (eval e env) (RV c ((env.locals, mv) :: Fs) K P Q) (RX c ((env.locals, mv) :: Fs) K P X) s
/-- the values of several, from the left -/
def LV (c : Cx) (A : Around) (env : Env) (Fs : List Fm) (pos : Pos) (es : List Expr) (m : Env') (σ : Sto) (Q : List D → Sto → Prop) (X : Str → Sto → Prop) : Prop :=
  ∀ K P s mv, Ok c ((env.locals, mv) :: Fs) K P σ s → MOk P mv m → wpAny (mdl c) A (spliced (backTo pos (starEach es env))) (RL c ((env.locals, mv) :: Fs) K P Q) (RX c ((env.locals, mv) :: Fs) K P X) s
/-- a test -/
def TV (c : Cx) (A : Around) (env : Env) (Fs : List Fm) (e : Expr) (m : Env') (σ : Sto) (Q : Bool → Sto → Prop) (X : Str → Sto → Prop) : Prop :=
  ∀ K P s mv, Ok c ((env.locals, mv) :: Fs) K P σ s → MOk P mv m → wpAny (mdl c) A (isTrue e env (eval e env)) (RB c ((env.locals, mv) :: Fs) K P Q) (RX c ((env.locals, mv) :: Fs) K P X) s
def TAll (c : Cx) (A : Around) (env : Env) (Fs : List Fm) (op : BoolOp) (es : List Expr) (m : Env') (σ : Sto) (Q : Bool → Sto → Prop) (X : Str → Sto → Prop) : Prop :=
  ∀ K P s mv, Ok c ((env.locals, mv) :: Fs) K P σ s → MOk P mv m → wpAny (mdl c) A (allTrue op es env) (RB c ((env.locals, mv) :: Fs) K P Q) (RX c ((env.locals, mv) :: Fs) K P X) s
/-- statements -/
def SV (c : Cx) (A : Around) (env : Env) (Fs : List Fm) (b : List Stmt) (m : Env') (σ : Sto) (Q : Fl → Env' → Sto → Prop) (X : Str → Env' → Sto → Prop) : Prop :=
  ∀ K P s mv, Ok c ((env.locals, mv) :: Fs) K P σ s → MOk P mv m → wpAny (mdl c) A (execs b env) (RS c env.locals Fs K P Q) (RXS c env.locals Fs K P X) s
def S1 (c : Cx) (A : Around) (env : Env) (Fs : List Fm) (b : Stmt) (m : Env') (σ : Sto) (Q : Fl → Env' → Sto → Prop) (X : Str → Env' → Sto → Prop) : Prop :=
  ∀ K P s mv, Ok c ((env.locals, mv) :: Fs) K P σ s → MOk P mv m → wpAny (mdl c) A (exec b env) (RS c env.locals Fs K P Q) (RXS c env.locals Fs K P X) s
/-- a value laid into a target -/
def AV (c : Cx) (A : Around) (env : Env) (Fs : List Fm) (t : Expr) (d : D) (m : Env') (σ : Sto) (Q : Env' → Sto → Prop) : Prop :=
  ∀ K P s mv v E, Ok c ((env.locals, mv) :: Fs) K P σ s → MOk P mv m → Den P v d → wpAny (mdl c) A (assign t env v) (RA c env.locals Fs K P Q) E s
/-- an operation upon values -/
def Op (c : Cx) (A : Around) (f : List Value → Sem Value) (ds : List D) (σ : Sto) (Q : D → Sto → Prop) (X : Str → Sto → Prop) : Prop :=
  ∀ Fs K P s vs, Ok c Fs K P σ s → DenL P vs ds → wpAny (mdl c) A (f vs) (RV c Fs K P Q) (RX c Fs K P X) s
/-- the same, where the frames matter -/
def OpF (c : Cx) (A : Around) (Fs : List Fm) (f : List Value → Sem Value) (ds : List D) (σ : Sto) (Q : D → Sto → Prop) (X : Str → Sto → Prop) : Prop :=
  ∀ K P s vs, Ok c Fs K P σ s → DenL P vs ds → wpAny (mdl c) A (f vs) (RV c Fs K P Q) (RX c Fs K P X) s

section
variable {c : Cx} {A : Around} {env : Env} {Fs : List Fm} {K P P1 : Mp} {σ σ' : Sto} {s : Shared} {m m' : Env'} {Q : D → Sto → Prop} {X : Str → Sto → Prop}

theorem RV.up (g : Gr K P P1) {v : Value} (h : RV c Fs K P1 Q v s) : RV c Fs K P Q v s := let ⟨P', a, b, g', r⟩ := h; ⟨P', a, b, g.trans g', r⟩
theorem RB.up (g : Gr K P P1) {Q : Bool → Sto → Prop} {v : Bool} (h : RB c Fs K P1 Q v s) : RB c Fs K P Q v s := let ⟨P', a, g', r⟩ := h; ⟨P', a, g.trans g', r⟩
theorem RX.up (g : Gr K P P1) {v : Value} (h : RX c Fs K P1 X v s) : RX c Fs K P X v s := let ⟨e, P', a, b, q, g', r⟩ := h; ⟨e, P', a, b, q, g.trans g', r⟩
theorem RS.up {L : Addr} {Q : Fl → Env' → Sto → Prop} (g : Gr K P P1) {f : Flow} (h : RS c L Fs K P1 Q f s) : RS c L Fs K P Q f s := let ⟨P', a, b, d, e, g', r⟩ := h; ⟨P', a, b, d, e, g.trans g', r⟩
theorem RA.up {L : Addr} {Q : Env' → Sto → Prop} (g : Gr K P P1) {f : Unit} (h : RA c L Fs K P1 Q f s) : RA c L Fs K P Q f s := let ⟨P', a, b, d, g', r⟩ := h; ⟨P', a, b, d, g.trans g', r⟩
theorem RXS.up {L : Addr} {X : Str → Env' → Sto → Prop} (g : Gr K P P1) {f : Value} (h : RXS c L Fs K P1 X f s) : RXS c L Fs K P X f s := let ⟨e, P', a, b, d, i, q, g', r⟩ := h; ⟨e, P', a, b, d, i, q, g.trans g', r⟩
/-- an expression's raise, as a statement's -/
theorem RX.toS {L : Addr} {mv : Str → Option Value} {X : Str → Env' → Sto → Prop} (hm : MOk P mv m) {v : Value} (h : RX c ((L, mv) :: Fs) K P (fun msg σ => X msg m σ) v s) : RXS c L Fs K P X v s :=
  let ⟨e, P', σ', msg, q, g, o, t, x⟩ := h; ⟨e, P', σ', mv, m, msg, q, g, o, hm.mono g.1, t, x⟩

/-- one tree behind another -/
theorem seqV {α : Type} {t : Sem Value} {f : Value → Sem α} {Q' : α → Shared → Prop} {E : Value → Shared → Prop} (h : wpAny (mdl c) A t (RV c Fs K P Q) E s)
    (k : ∀ v P1 σ1 d s1, Gr K P P1 → Ok c Fs K P1 σ1 s1 → Den P1 v d → Q d σ1 → wpAny (mdl c) A (f v) Q' E s1) : wpAny (mdl c) A (t >>= f) Q' E s :=
  wpAny_bind (wpAny_mono h (fun v s1 ⟨P1, σ1, d, g, o, dn, q⟩ => k v P1 σ1 d s1 g o dn q) fun _ _ x => x)
theorem thenV {t : Sem Value} {Q' : Value → Shared → Prop} {E : Value → Shared → Prop} (h : wpAny (mdl c) A t (RV c Fs K P Q) E s)
    (k : ∀ v P1 σ1 d s1, Gr K P P1 → Ok c Fs K P1 σ1 s1 → Den P1 v d → Q d σ1 → Q' v s1) : wpAny (mdl c) A t Q' E s :=
  wpAny_mono h (fun v s1 ⟨P1, σ1, d, g, o, dn, q⟩ => k v P1 σ1 d s1 g o dn q) fun _ _ x => x
theorem thenB {t : Sem Bool} {Q : Bool → Sto → Prop} {Q' : Bool → Shared → Prop} {E : Value → Shared → Prop} (h : wpAny (mdl c) A t (RB c Fs K P Q) E s)
    (k : ∀ b P1 σ1 s1, Gr K P P1 → Ok c Fs K P1 σ1 s1 → Q b σ1 → Q' b s1) : wpAny (mdl c) A t Q' E s :=
  wpAny_mono h (fun v s1 ⟨P1, σ1, g, o, q⟩ => k v P1 σ1 s1 g o q) fun _ _ x => x
theorem thenL {t : Sem (List Value)} {Q : List D → Sto → Prop} {Q' : List Value → Shared → Prop} {E : Value → Shared → Prop} (h : wpAny (mdl c) A t (RL c Fs K P Q) E s)
    (k : ∀ v P1 σ1 d s1, Gr K P P1 → Ok c Fs K P1 σ1 s1 → DenL P1 v d → Q d σ1 → Q' v s1) : wpAny (mdl c) A t Q' E s :=
  wpAny_mono h (fun v s1 ⟨P1, σ1, d, g, o, dn, q⟩ => k v P1 σ1 d s1 g o dn q) fun _ _ x => x
theorem thenVX {t : Sem Value} {Q' : Value → Shared → Prop} (h : wpAny (mdl c) A t (RV c Fs K P1 Q) (RX c Fs K P1 X) s) (g : Gr K P P1)
    (k : ∀ v P2 σ2 d s2, Gr K P1 P2 → Ok c Fs K P2 σ2 s2 → Den P2 v d → Q d σ2 → Q' v s2) : wpAny (mdl c) A t Q' (RX c Fs K P X) s :=
  wpAny_mono h (fun v s1 ⟨P1, σ1, d, g, o, dn, q⟩ => k v P1 σ1 d s1 g o dn q) fun _ _ => RX.up g
theorem upV {t : Sem Value} (g : Gr K P P1) (h : wpAny (mdl c) A t (RV c Fs K P1 Q) (RX c Fs K P1 X) s) : wpAny (mdl c) A t (RV c Fs K P Q) (RX c Fs K P X) s := wpAny_mono h (fun _ _ => RV.up g) fun _ _ => RX.up g
theorem upB {t : Sem Bool} {Q : Bool → Sto → Prop} (g : Gr K P P1) (h : wpAny (mdl c) A t (RB c Fs K P1 Q) (RX c Fs K P1 X) s) : wpAny (mdl c) A t (RB c Fs K P Q) (RX c Fs K P X) s := wpAny_mono h (fun _ _ => RB.up g) fun _ _ => RX.up g
theorem upS {L : Addr} {t : Sem Flow} {Q : Fl → Env' → Sto → Prop} {X : Str → Env' → Sto → Prop} (g : Gr K P P1) (h : wpAny (mdl c) A t (RS c L Fs K P1 Q) (RXS c L Fs K P1 X) s) : wpAny (mdl c) A t (RS c L Fs K P Q) (RXS c L Fs K P X) s := wpAny_mono h (fun _ _ => RS.up g) fun _ _ => RXS.up g

theorem retV (o : Ok c Fs K P σ s) {v : Value} {d : D} (dn : Den P v d) (q : Q d σ) : RV c Fs K P Q v s := ⟨P, σ, d, Gr.refl K P, o, dn, q⟩

/-- forgetting names and things -/
def MSub (m' m : Env') : Prop := ∀ x d, m'.lookup x = some d → m.lookup x = some d
theorem MOk.sub {mv : Str → Option Value} (h : MOk P mv m) (hs : MSub m' m) : MOk P mv m' := fun x d e => h x d (hs x d e)
theorem SV.forget {b : List Stmt} {Q : Fl → Env' → Sto → Prop} {X : Str → Env' → Sto → Prop} (h : SV c A env Fs b m' σ' Q X) (hm : MSub m' m) (hs : σ'.Sublist σ) : SV c A env Fs b m σ Q X :=
  fun K P s mv o hM => h K P s mv (o.drop hs) (hM.sub hm)
-- constants
theorem EV_int {i : Int} {k pos} (h : Q (.int i) σ) : EV c A env Fs (.Constant (.int i) k pos) m σ Q X := fun _ _ _ _ o _ => wpAny_Constant_int (retV o.toks .int h)
theorem EV_str {x : Str} {k pos} (h : Q (.str x) σ) : EV c A env Fs (.Constant (.str x) k pos) m σ Q X := fun _ _ _ _ o _ => wpAny_Constant_str (retV o.toks .str h)
theorem EV_bool {b : Bool} {k pos} (h : Q (.bool b) σ) : EV c A env Fs (.Constant (.bool b) k pos) m σ Q X := fun _ _ _ _ o _ => wpAny_Constant_bool (retV o .bool h)
-- names
theorem EV_local {x : Str} {pos} {d : D} (hv : m.lookup x = some d) (h : Q d σ) (hk : env.scope.kind = .function := by rfl) (hl : env.kindOf x = some .local := by rfl) (hd : (x == ("__debug__" : Str)) = false := by decide) :
    EV c A env Fs (.Name x pos) m σ Q X := fun _ _ _ _ o hm => let ⟨_, e, dn⟩ := hm x d hv; wpAny_Name (wpAny_loadName_local hk hl (o.frs _ (.head _)) e (retV o dn h)) hd
theorem isCell_of {a : Addr} {d : D} (o : Ok c Fs K P σ s) (h : (a, AO.cell (some d)) ∈ σ) : ∃ v, s.heap.IsCell a (some v) ∧ Den P v d := by
  obtain ⟨ob, e, v, hd, x, rfl, dn⟩ := o.own _ h
  exact ⟨x, ⟨_, e, hd⟩, dn⟩
theorem EV_cell {x : Str} {pos} {a : Addr} {d : D} (hc : env.cells.lookup x = some a) (hv : (a, AO.cell (some d)) ∈ σ) (h : Q d σ) (hk : env.scope.kind = .function := by rfl) (hl : env.kindOf x = some .cell := by rfl) (hd : (x == ("__debug__" : Str)) = false := by decide) :
    EV c A env Fs (.Name x pos) m σ Q X := fun _ _ _ _ o _ => let ⟨_, e, dn⟩ := isCell_of o hv; wpAny_Name (wpAny_loadName_cell hk hl hc e (retV o dn h)) hd
-- several
theorem LV_nil {pos : Pos} {Q : List D → Sto → Prop} (h : Q [] σ) : LV c A env Fs pos [] m σ Q X := fun K P _ _ o _ => spliced_none ⟨P, σ, [], Gr.refl K P, o, .nil, h⟩
theorem LV_cons {pos : Pos} {e : Expr} {es : List Expr} {Q : List D → Sto → Prop} (h : EV c A env Fs e m σ (fun d σ1 => LV c A env Fs pos es m σ1 (fun ds σ2 => Q (d :: ds) σ2) X) X) (he : starEach (e :: es) env = (false, eval e env) :: starEach es env := by rfl) :
    LV c A env Fs pos (e :: es) m σ Q X := by
  intro K P s mv o hm
  refine spliced_more (thenV (h K P s mv o hm) fun v P1 σ1 d s1 g o1 dn q => ?_) he
  refine wpAny_mono (q K P1 s1 mv o1 (hm.mono g.1)) ?_ fun _ _ => RX.up g
  rintro vs s2 ⟨P2, σ2, ds, g2, o2, dns, q2⟩
  exact ⟨P2, σ2, d :: ds, g.trans g2, o2, .cons (dn.mono g2.1) dns, q2⟩

abbrev bin (op : Operator) : List Value → Sem Value := fun vs => match vs with | [x, y] => binaryOp op x y | _ => unsupported ""
abbrev cmp (op : CmpOp) : List Value → Sem Value := fun vs => match vs with | [x, y] => compareOp op x y | _ => unsupported ""
abbrev una (op : UnaryOp) : List Value → Sem Value := fun vs => match vs with | [x] => unaryOp op x | _ => unsupported ""
abbrev cal (f : Value) : List Value → Sem Value := fun vs => call f vs
def Tru (c : Cx) (A : Around) (d : D) (σ : Sto) (b : Bool) : Prop := ∀ Fs K P s v E Q, Ok c Fs K P σ s → Den P v d → (∀ tk, Q b { s with toks := tk }) → wpAny (mdl c) A (truthy v) Q E s

theorem EV_BinOp {l r : Expr} {op : Operator} {pos} (h : EV c A env Fs l m σ (fun a σ1 => EV c A env Fs r m σ1 (fun b σ2 => Op c A (bin op) [a, b] σ2 Q X) X) X) :
    EV c A env Fs (.BinOp l op r pos) m σ Q X := by
  intro K P s mv o hm
  refine wpAny_BinOp (thenV (h K P s mv o hm) fun v P1 σ1 d s1 g o1 dn q => ?_)
  refine thenVX (q K P1 s1 mv o1 (hm.mono g.1)) g fun v2 P2 σ2 d2 s2 g2 o2 dn2 q2 => ?_
  exact upV (g.trans g2) (q2 _ K P2 s2 [v, v2] o2 (.cons (dn.mono g2.1) (.cons dn2 .nil)))
theorem EV_Compare {l r : Expr} {op : CmpOp} {pos} (h : EV c A env Fs l m σ (fun a σ1 => EV c A env Fs r m σ1 (fun b σ2 => Op c A (cmp op) [a, b] σ2 Q X) X) X) (hm : behindInMarks op r = false := by with_unfolding_all rfl) :
    EV c A env Fs (.Compare l [op] [r] pos) m σ Q X := by
  intro K P s mv o hM
  refine wpAny_Compare1 (thenV (h K P s mv o hM) fun v P1 σ1 d s1 g o1 dn q => ?_) hm
  refine thenVX (q K P1 s1 mv o1 (hM.mono g.1)) g fun v2 P2 σ2 d2 s2 g2 o2 dn2 q2 => ?_
  exact upV (g.trans g2) (q2 _ K P2 s2 [v, v2] o2 (.cons (dn.mono g2.1) (.cons dn2 .nil)))
theorem EV_UnaryOp {x : Expr} {op : UnaryOp} {pos} (h : EV c A env Fs x m σ (fun a σ1 => Op c A (una op) [a] σ1 Q X) X) : EV c A env Fs (.UnaryOp op x pos) m σ Q X := by
  intro K P s mv o hM
  refine wpAny_UnaryOp (thenV (h K P s mv o hM) fun v P1 σ1 d s1 g o1 dn q => ?_)
  exact upV g (q _ K P1 s1 [v] o1 (.cons dn .nil))
/-- a test whose value is known -/
theorem TV_plain {e : Expr} {Q : Bool → Sto → Prop} (h : EV c A env Fs e m σ (fun d σ1 => ∃ b, Tru c A d σ1 b ∧ Q b σ1) X) (he : isTrue e env (eval e env) = (do let v ← eval e env; standAt e.pos; holding [v] (truthy v)) := by rfl) : TV c A env Fs e m σ Q X := by
  intro K P s mv o hM
  refine isTrue_plain (thenV (h K P s mv o hM) fun v P1 σ1 d s1 g o1 dn q => ?_) he
  obtain ⟨b, t, q⟩ := q
  exact t _ K P1 s1 v _ _ o1 dn fun tk => ⟨P1, σ1, g, o1.toks, q⟩
theorem TV_Compare {l r : Expr} {op : CmpOp} {pos} {Q : Bool → Sto → Prop} (h : EV c A env Fs l m σ (fun a σ1 => EV c A env Fs r m σ1 (fun b σ2 => Op c A (cmp op) [a, b] σ2 (fun d σ3 => ∃ b, d = .bool b ∧ Q b σ3) X) X) X) (hm : behindInMarks op r = false := by with_unfolding_all rfl) :
    TV c A env Fs (.Compare l [op] [r] pos) m σ Q X := by
  intro K P s mv o hM
  refine wpAny_isTrue_Compare1 (thenV (h K P s mv o hM) fun v P1 σ1 d s1 g o1 dn q => ?_) hm
  refine thenVX (q K P1 s1 mv o1 (hM.mono g.1)) g fun v2 P2 σ2 d2 s2 g2 o2 dn2 q2 => ?_
  refine thenVX (q2 _ K P2 s2 [v, v2] o2 (.cons (dn.mono g2.1) (.cons dn2 .nil))) (g.trans g2) fun v3 P3 σ3 d3 s3 g3 o3 dn3 q3 => ?_
  obtain ⟨b, rfl, q3⟩ := q3
  cases dn3
  exact wpAny_truthy_bool ⟨P3, σ3, (g.trans g2).trans g3, o3, q3⟩
theorem TV_Not {x : Expr} {pos} {Q : Bool → Sto → Prop} (h : TV c A env Fs x m σ (fun b σ1 => Q (!b) σ1) X) : TV c A env Fs (.UnaryOp .Not x pos) m σ Q X :=
  fun K P s mv o hM => wpAny_isTrue_Not (thenB (h K P s mv o hM) fun _ P1 σ1 _ g o1 q => ⟨P1, σ1, g, o1, q⟩)
theorem TV_BoolOp {op : BoolOp} {es : List Expr} {pos} {Q : Bool → Sto → Prop} (h : TAll c A env Fs op es m σ Q X) : TV c A env Fs (.BoolOp op es pos) m σ Q X :=
  fun K P s mv o hM => wpAny_isTrue_BoolOp (h K P s mv o hM)
theorem TAll_And_nil {Q : Bool → Sto → Prop} (h : Q true σ) : TAll c A env Fs .And [] m σ Q X := fun K P _ _ o _ => wpAny_allTrue_And_nil ⟨P, σ, Gr.refl K P, o, h⟩
theorem TAll_And {e : Expr} {es : List Expr} {Q : Bool → Sto → Prop} (h : TV c A env Fs e m σ (fun b σ1 => if b then TAll c A env Fs .And es m σ1 Q X else Q false σ1) X) : TAll c A env Fs .And (e :: es) m σ Q X := by
  intro K P s mv o hM
  refine wpAny_allTrue_And_cons (thenB (h K P s mv o hM) fun b P1 σ1 s1 g o1 q => ?_)
  cases b with
  | true => exact upB g (q K P1 s1 mv o1 (hM.mono g.1))
  | false => exact ⟨P1, σ1, g, o1, q⟩
theorem EV_IfExp {t a b : Expr} {pos} (h : TV c A env Fs t m σ (fun x σ1 => if x then EV c A env Fs a m σ1 Q X else EV c A env Fs b m σ1 Q X) X) : EV c A env Fs (.IfExp t a b pos) m σ Q X := by
  intro K P s mv o hM
  refine wpAny_IfExp (thenB (h K P s mv o hM) fun b P1 σ1 s1 g o1 q => ?_)
  cases b with
  | true => exact upV g (q K P1 s1 mv o1 (hM.mono g.1))
  | false => exact upV g (q K P1 s1 mv o1 (hM.mono g.1))
end
end Mine

-- part LayE
open PySem PySem.W PyProof.Rows
set_option Elab.async false
namespace Mine
open PySem
section
variable {c : Cx} {A : Around} {env : Env} {Fs : List Fm} {K P P1 : Mp} {σ σ' : Sto} {s : Shared} {m m' : Env'} {Q : Fl → Env' → Sto → Prop} {X : Str → Env' → Sto → Prop}

theorem thenVS {t : Sem Value} {L : Addr} {mv : Str → Option Value} {Qe : D → Sto → Prop} {Q' : Value → Shared → Prop} (hM : MOk P1 mv m) (h : wpAny (mdl c) A t (RV c ((L, mv) :: Fs) K P1 Qe) (RX c ((L, mv) :: Fs) K P1 fun msg σ => X msg m σ) s) (g : Gr K P P1)
    (k : ∀ v P2 σ2 d s2, Gr K P1 P2 → Ok c ((L, mv) :: Fs) K P2 σ2 s2 → Den P2 v d → Qe d σ2 → Q' v s2) : wpAny (mdl c) A t Q' (RXS c L Fs K P X) s :=
  wpAny_mono h (fun v s1 ⟨P1, σ1, d, g, o, dn, q⟩ => k v P1 σ1 d s1 g o dn q) fun _ _ x => RXS.up g (RX.toS hM x)
theorem thenBS {t : Sem Bool} {L : Addr} {mv : Str → Option Value} {Qe : Bool → Sto → Prop} {Q' : Bool → Shared → Prop} (hM : MOk P1 mv m) (h : wpAny (mdl c) A t (RB c ((L, mv) :: Fs) K P1 Qe) (RX c ((L, mv) :: Fs) K P1 fun msg σ => X msg m σ) s) (g : Gr K P P1)
    (k : ∀ v P2 σ2 s2, Gr K P1 P2 → Ok c ((L, mv) :: Fs) K P2 σ2 s2 → Qe v σ2 → Q' v s2) : wpAny (mdl c) A t Q' (RXS c L Fs K P X) s :=
  wpAny_mono h (fun v s1 ⟨P1, σ1, g, o, q⟩ => k v P1 σ1 s1 g o q) fun _ _ x => RXS.up g (RX.toS hM x)

theorem SV_nil (h : Q .next m σ) : SV c A env Fs [] m σ Q X := fun K P _ mv o hM => wpAny_execs_nil ⟨P, σ, mv, m, .next, Gr.refl K P, o, hM, .next, h⟩
theorem SV_cons {b : Stmt} {r : List Stmt} (h : S1 c A env Fs b m σ (fun f m1 σ1 => match f with | .next => SV c A env Fs r m1 σ1 Q X | f => Q f m1 σ1) X) : SV c A env Fs (b :: r) m σ Q X := by
  intro K P s mv o hM
  refine wpAny_execs_cons (wpAny_mono (h K P s mv o hM) ?_ fun _ _ x => x)
  rintro f s1 ⟨P1, σ1, mv1, m1, fl, g, o1, hM1, fd, q⟩
  cases fd with
  | next => exact upS g (q K P1 s1 mv1 o1 hM1)
  | brk => exact ⟨P1, σ1, mv1, m1, _, g, o1, hM1, .brk, q⟩
  | cont => exact ⟨P1, σ1, mv1, m1, _, g, o1, hM1, .cont, q⟩
  | ret dn => exact ⟨P1, σ1, mv1, m1, _, g, o1, hM1, .ret dn, q⟩

-- targets
def NV (c : Cx) (A : Around) (env : Env) (Fs : List Fm) (x : Str) (d : D) (m : Env') (σ : Sto) (Q : Env' → Sto → Prop) : Prop :=
  ∀ K P s mv v E, Ok c ((env.locals, mv) :: Fs) K P σ s → MOk P mv m → Den P v d → wpAny (mdl c) A (storeName env x v) (RA c env.locals Fs K P Q) E s
theorem NV_local {x : Str} {d : D} {Q : Env' → Sto → Prop} (h : Q ((x, d) :: m) σ) (hk : env.scope.kind = .function := by rfl) (hl : env.kindOf x = some .local := by rfl) : NV c A env Fs x d m σ Q := by
  intro K P s mv v E o hM dn
  refine wpAny_storeName_local hl (o.frs _ (.head _)) (fun h' hn hs => ?_) (by rw [hk]; rfl)
  exact ⟨P, σ, _, _, Gr.refl K P, o.store hs hn, hM.set dn, h⟩
theorem NV_cell {x : Str} {a : Addr} {d : D} {d₀ : Option D} {Q : Env' → Sto → Prop} (hc : env.cells.lookup x = some a) (hp : Put a (.cell d₀) (.cell (some d)) σ σ') (h : Q m σ') (hk : env.scope.kind = .function := by rfl) (hl : env.kindOf x = some .cell := by rfl) : NV c A env Fs x d m σ Q := by
  intro K P s mv v E o hM dn
  obtain ⟨ob, e, v₀, hd, _⟩ := o.own _ hp.mem
  refine wpAny_storeName_cell hk hl hc ⟨_, e, hd⟩ fun h' hi hs => ?_
  obtain ⟨ob', e', hd'⟩ := hi
  exact ⟨P, σ', mv, m, Gr.refl K P, o.upd (tk := s.toks) hp hs e' ⟨some v, hd', v, rfl, dn⟩, hM, h⟩
theorem AV_Name {x : Str} {pos} {d : D} {Q : Env' → Sto → Prop} (h : NV c A env Fs x d m σ Q) : AV c A env Fs (.Name x pos) d m σ Q := fun K P s mv v E o hM dn => wpAny_assign_Name (h K P s mv v E o hM dn)
/-- several targets in order -/
def AVs (c : Cx) (A : Around) (env : Env) (Fs : List Fm) (ts : List Expr) (ds : List D) (m : Env') (σ : Sto) (Q : Env' → Sto → Prop) : Prop :=
  ∀ K P s mv vs E, Ok c ((env.locals, mv) :: Fs) K P σ s → MOk P mv m → DenL P vs ds → wpAny (mdl c) A (assignInOrder ((assignEach ts env).map (·.2)) vs) (RA c env.locals Fs K P Q) E s
theorem AVs_nil {Q : Env' → Sto → Prop} (h : Q m σ) : AVs c A env Fs [] [] m σ Q := by
  intro K P s mv vs E o hM dn
  cases dn
  exact wpAny_assignInOrder_none ⟨P, σ, mv, m, Gr.refl K P, o, hM, h⟩
theorem AVs_cons {t : Expr} {ts : List Expr} {d : D} {ds : List D} {Q : Env' → Sto → Prop} (h : AV c A env Fs t d m σ (fun m1 σ1 => AVs c A env Fs ts ds m1 σ1 Q)) (he : (assignEach (t :: ts) env).map (·.2) = assign t env :: (assignEach ts env).map (·.2) := by rfl) : AVs c A env Fs (t :: ts) (d :: ds) m σ Q := by
  intro K P s mv vs E o hM dn
  cases dn with
  | cons a r =>
    rw [he]
    refine wpAny_assignInOrder_more (wpAny_mono (h K P s mv _ E o hM a) ?_ fun _ _ x => x)
    rintro _ s1 ⟨P1, σ1, mv1, m1, g, o1, hM1, q⟩
    exact wpAny_mono (q K P1 s1 mv1 _ E o1 hM1 (r.mono g.1)) (fun _ _ => RA.up g) fun _ _ x => x
theorem Den.isTuple {v : Value} {ds : List D} (dn : Den P v (.tup ds)) (o : Ok c Fs K P σ s) : ∃ a vs, v = .ref a ∧ s.heap.IsTuple a (List.toArray vs) ∧ DenL P vs ds := by
  cases dn with
  | tup p1 p2 p3 p4 => exact ⟨_, _, rfl, ⟨_, o.pers _ _ p1, p2, _, p3⟩, p4⟩
theorem AV_Tuple {ts : List Expr} {k} {pos} {ds : List D} {Q : Env' → Sto → Prop} (hh : A.handled = none) (h : AVs c A env Fs ts ds m σ Q) (hn : (assignEach ts env).length = ds.length := by rfl) (hstar : (assignEach ts env).findIdx? (·.1) = none := by rfl) : AV c A env Fs (.Tuple ts k pos) (.tup ds) m σ Q := by
  intro K P s mv v E o hM dn
  obtain ⟨a, vs, rfl, ht, dl⟩ := dn.isTuple o
  refine wpAny_assign_Tuple hh ht (by rw [hn, List.size_toArray, dl.length]) hstar fun h' hx => ?_
  refine h K P _ mv vs E (o.grow (tk := s.toks) fun b x e => ?_) hM dl
  exact hx b x (Nat.ne_of_lt (Heap.lt_size e)) e

theorem S1_Assign_Name {x : Str} {p1 pos} {value : Expr} (h : EV c A env Fs value m σ (fun d σ1 => NV c A env Fs x d m σ1 (fun m2 σ2 => Q .next m2 σ2)) (fun msg σ => X msg m σ)) (hs : swapsWith value (some (.Name x p1)) pos.line env = pure false := by rfl) :
    S1 c A env Fs (.Assign [.Name x p1] value pos) m σ Q X := by
  intro K P s mv o hM
  refine wpAny_Assign_Name (thenVS hM (h K P s mv o hM) (Gr.refl K P) fun v P1 σ1 d s1 g o1 dn q => ?_) hs
  refine wpAny_mono (q K P1 s1 mv v (RXS c env.locals Fs K P X) o1 (hM.mono g.1) dn) ?_ fun _ _ x => x
  rintro _ s2 ⟨P2, σ2, mv2, m2, g2, o2, hM2, q2⟩
  exact ⟨P2, σ2, mv2, m2, .next, g.trans g2, o2, hM2, .next, q2⟩
theorem S1_Assign_Tuple {ts : List Expr} {k} {tpos pos} {value : Expr} (h : EV c A env Fs value m σ (fun d σ1 => AV c A env Fs (.Tuple ts k tpos) d m σ1 (fun m2 σ2 => Q .next m2 σ2)) (fun msg σ => X msg m σ))
    (hs : swapsWithSole [.Tuple ts k tpos] value pos.line env = pure false := by rfl) (hw : swappedStores [.Tuple ts k tpos] value env = pure none := by rfl) :
    S1 c A env Fs (.Assign [.Tuple ts k tpos] value pos) m σ Q X := by
  intro K P s mv o hM
  refine Assign_Tuple (thenVS hM (h K P s mv o hM) (Gr.refl K P) fun v P1 σ1 d s1 g o1 dn q => ?_) hs hw
  refine wpAny_mono (q K P1 s1 mv v (RXS c env.locals Fs K P X) o1 (hM.mono g.1) dn) ?_ fun _ _ x => x
  rintro _ s2 ⟨P2, σ2, mv2, m2, g2, o2, hM2, q2⟩
  exact ⟨P2, σ2, mv2, m2, .next, g.trans g2, o2, hM2, .next, q2⟩
theorem S1_Aug {x : Str} {p1 pos} {op : Operator} {value : Expr} {a : D} (hv : m.lookup x = some a) (h : EV c A env Fs value m σ (fun b σ2 => Op c A (fun vs => match vs with | [x, y] => inplaceOp op x y | _ => unsupported "") [a, b] σ2 (fun d σ3 => NV c A env Fs x d m σ3 (fun m2 σ2 => Q .next m2 σ2)) (fun msg σ => X msg m σ)) (fun msg σ => X msg m σ))
    (hk : env.scope.kind = .function := by rfl) (hl : env.kindOf x = some .local := by rfl) : S1 c A env Fs (.AugAssign (.Name x p1) op value pos) m σ Q X := by
  intro K P s mv o hM
  obtain ⟨v, e, dn⟩ := hM x a hv
  refine wpAny_AugAssign_Name (wpAny_loadName_local hk hl (o.frs _ (.head _)) e ?_)
  refine thenVS hM (h K P s mv o hM) (Gr.refl K P) fun v2 P2 σ2 d2 s2 g2 o2 dn2 q2 => ?_
  refine thenVS (hM.mono g2.1) (q2 _ K P2 s2 [v, v2] o2 (.cons (dn.mono g2.1) (.cons dn2 .nil))) g2 fun v3 P3 σ3 d3 s3 g3 o3 dn3 q3 => ?_
  refine wpAny_mono (q3 K P3 s3 mv v3 (RXS c env.locals Fs K P X) o3 ((hM.mono g2.1).mono g3.1) dn3) ?_ fun _ _ x => x
  rintro _ s4 ⟨P4, σ4, mv4, m4, g4, o4, hM4, q4⟩
  exact ⟨P4, σ4, mv4, m4, .next, (g2.trans g3).trans g4, o4, hM4, .next, q4⟩
theorem S1_Expr {e : Expr} {pos} (h : EV c A env Fs e m σ (fun _ σ1 => Q .next m σ1) (fun msg σ => X msg m σ)) (hi : interactive env = false := by rfl) (hs : swapsWith e none pos.line env = pure false := by rfl) : S1 c A env Fs (.Expr e pos) m σ Q X := by
  intro K P s mv o hM
  refine wpAny_Expr_any (thenVS hM (h K P s mv o hM) (Gr.refl K P) fun v P1 σ1 d s1 g o1 dn q => ?_) hi hs
  exact ⟨P1, σ1, mv, m, .next, g, o1, hM.mono g.1, .next, q⟩
theorem S1_If {t : Expr} {a b : List Stmt} {pos} (h : TV c A env Fs t m σ (fun x σ1 => if x then SV c A env Fs a m σ1 Q X else SV c A env Fs b m σ1 Q X) (fun msg σ => X msg m σ)) : S1 c A env Fs (.If t a b pos) m σ Q X := by
  intro K P s mv o hM
  refine wpAny_If (thenBS hM (h K P s mv o hM) (Gr.refl K P) fun b P1 σ1 s1 g o1 q => ?_)
  cases b with
  | true => exact upS g (q K P1 s1 mv o1 (hM.mono g.1))
  | false => exact upS g (q K P1 s1 mv o1 (hM.mono g.1))
theorem S1_Return {e : Expr} {pos} (h : EV c A env Fs e m σ (fun d σ1 => Q (.ret d) m σ1) (fun msg σ => X msg m σ)) : S1 c A env Fs (.Return (some e) pos) m σ Q X := by
  intro K P s mv o hM
  refine wpAny_Return_some (thenVS hM (h K P s mv o hM) (Gr.refl K P) fun v P1 σ1 d s1 g o1 dn q => ?_)
  exact ⟨P1, σ1, mv, m, .ret d, g, o1, hM.mono g.1, .ret dn, q⟩
theorem S1_Assert {t : Expr} {msg : Option Expr} {pos} (h : TV c A env Fs t m σ (fun x σ1 => x = true ∧ Q .next m σ1) (fun msg σ => X msg m σ)) : S1 c A env Fs (.Assert t msg pos) m σ Q X := by
  intro K P s mv o hM
  refine wpAny_Assert_holds (thenBS hM (h K P s mv o hM) (Gr.refl K P) fun b P1 σ1 s1 g o1 q => ?_)
  exact ⟨q.1, P1, σ1, mv, m, .next, g, o1, hM.mono g.1, .next, q.2⟩
end
end Mine

-- part LayF
open PySem PySem.W PyProof.Rows
set_option Elab.async false
namespace Mine
open PySem

theorem get_fresh (h : Heap) : h.get? h.objs.size = none := by
  cases q : h.get? h.objs.size with
  | none => rfl
  | some o => exact absurd (Heap.lt_size q) (Nat.lt_irrefl _)

/-- walking over a value gives these -/
def Iter (c : Cx) (A : Around) (d : D) (xs : List D) : Prop :=
  ∀ Fs K P σ s v, Ok c Fs K P σ s → Den P v d → ∀ (Q : Value → Shared → Prop) (E : Value → Shared → Prop),
    (∀ I fp Pw St h' tk, (∀ A' : Around, A'.handled = none → Walks c.prog c.w A' I fp [I] xs.length Pw St) → s.heap.get? I = none → (∀ b x, s.heap.get? b = some x → h'.get? b = some x) → St 0 h' →
      (∃ ob, h'.get? I = some ob) → (∀ i h, St i h → ∃ ob, h.get? I = some ob) → (∀ b ∈ fp, b = I ∨ ∃ o, P b = some o) → (∀ i v, Pw i v → ∃ d, xs[i]? = some d ∧ Den P v d) →
      (∀ (A' : Around) t i v (s' : Shared) (Q : Unit → Shared → Prop) (E : Value → Shared → Prop), St i s'.heap → Pw (i - 1) v → Q () s' → wpAny (mdl c) A' (letOwnedTupleGo t (.ref I) v) Q E s') → Q (.ref I) { s with heap := h', toks := tk }) →
    wpAny (mdl c) A (pyIter v) Q E s

section
variable {c : Cx} {A : Around} {env : Env} {Fs : List Fm} {K P P1 : Mp} {σ σ' : Sto} {s : Shared} {m m' : Env'} {Q : Fl → Env' → Sto → Prop} {X : Str → Env' → Sto → Prop}

theorem lets_plain {A : Around} {t : Expr} {I : Addr} {v : Value} {Q : Unit → Shared → Prop} {E : Value → Shared → Prop} (hv : ∀ a, v ≠ .ref a) (h : Q () s) : wpAny (mdl c) A (letOwnedTupleGo t (.ref I) v) Q E s := by
  unfold letOwnedTupleGo
  split
  · cases v <;> first | exact wpAny_pure h | exact absurd rfl (hv _)
  · cases v <;> first | exact wpAny_pure h | exact absurd rfl (hv _)
  · exact wpAny_pure h
theorem lets_list {A : Around} {t : Expr} {I l : Addr} {i : Nat} {v : Value} {Q : Unit → Shared → Prop} {E : Value → Shared → Prop} (hit : s.heap.IsListIter I l i) (h : Q () s) : wpAny (mdl c) A (letOwnedTupleGo t (.ref I) v) Q E s := by
  by_cases hv : ∃ a, v = .ref a
  · obtain ⟨a, rfl⟩ := hv
    obtain ⟨o, ho, hc, hd⟩ := hit
    unfold letOwnedTupleGo
    split
    · refine wpAny_bind (wpAny_load ho ?_)
      rw [hc, hd]
      refine wpAny_ite ?_
      rw [if_neg (by simp)]
      exact wpAny_pure h
    · refine wpAny_bind (wpAny_load ho ?_)
      rw [hc, hd]
      refine wpAny_ite ?_
      rw [if_neg (by simp)]
      exact wpAny_pure h
    · exact wpAny_pure h
  · exact lets_plain (fun a e => hv ⟨a, e⟩) h

theorem Iter_lst {ds : List D} : Iter c A (.lst ds) ds := by
  intro Fs K P σ s v o dn Q E h
  cases dn with
  | @lst a ob vs n _ p1 p2 p3 p4 =>
    have hl : s.heap.IsList a (List.toArray vs) := ⟨ob, o.pers _ _ p1, p2, n, p3⟩
    have hne : a ≠ s.heap.objs.size := Nat.ne_of_lt (Heap.lt_size (o.pers _ _ p1))
    refine wpAny_pyIter_list hl ?_
    have hlen : ds.length = (List.toArray vs).size := by rw [List.size_toArray, p4.length]
    refine h s.heap.objs.size [s.heap.objs.size, a] (fun i v => (List.toArray vs)[i]? = some v) (fun i h => h.IsListIter s.heap.objs.size a i ∧ h.IsList a (List.toArray vs)) _ s.toks ?_ (get_fresh _) (fun b x e => Heap.get?_push_of_some _ e) ⟨⟨_, Heap.get?_push_size _ rfl, rfl, rfl⟩, hl.at fun o e => Heap.get?_push_of_some _ e⟩ ⟨_, Heap.get?_push_size _ rfl⟩ (fun _ _ ⟨⟨ob, e, _⟩, _⟩ => ⟨ob, e⟩) ?_ ?_ ?_
    · intro A' hh
      rw [hlen]; exact Walks.list hh _ _ hne _
    · intro b hb
      rcases List.mem_cons.mp hb with rfl | hb
      · exact .inl rfl
      · rw [List.mem_singleton.mp hb]; exact .inr ⟨_, p1⟩
    · intro i v e
      exact p4.get' (by simpa using e)
    · intro A' t i v s' Q E st _ q
      exact lets_list st.1 q

theorem Iter_rng {a : Int} {n : Nat} (hs : Builtin.Range.small a (a + n) 1 = true) : Iter c A (.rng a n) ((List.range n).map fun (i : Nat) => .int (a + (i : Int))) := by
  intro Fs K P σ s v o dn Q E h
  cases dn with
  | @rng r _ _ t u v p1 =>
    refine wpAny_pyIter_range (o.pers _ _ p1) hs ?_
    have hz : Builtin.Range.rangeSize a (a + n) 1 = n := by
      unfold Builtin.Range.rangeSize
      simp
      omega
    have hlen : ((List.range n).map fun i => D.int (a + (i : Nat))).length = n := by simp
    refine h s.heap.objs.size [s.heap.objs.size] (fun i v => ∃ t, v = .int (a + (i : Nat) * 1) t ∧ i < n) (fun i h => IsRangeIter h s.heap.objs.size (a + (i : Nat) * 1) ((n : Int) - (i : Nat)) 1) _ s.toks ?_ (get_fresh _) (fun b x e => Heap.get?_push_of_some _ e) ?_ ⟨_, Heap.get?_push_size _ rfl⟩ (fun _ _ e => ⟨_, e⟩) ?_ ?_ ?_
    · intro A' hh
      rw [hlen]
      have W := Walks.range (prog := c.prog) (w := c.w) hh s.heap.objs.size a 1 n
      exact ⟨W.sub, W.frame, fun i s Q E hi st k => W.item i s Q E hi st fun v h' tk ⟨t, e⟩ => k v h' tk ⟨t, e, hi⟩, W.done, W.self⟩
    · show IsRangeIter _ _ _ _ _
      rw [hz]
      simp only [Int.natCast_zero, Int.zero_mul, Int.add_zero, Int.sub_zero]
      exact Heap.get?_push_size _ rfl
    · intro b hb; exact .inl (List.mem_singleton.mp hb)
    · rintro i v ⟨t, rfl, hi⟩
      exact ⟨.int (a + i), by simp [hi], by rw [Int.mul_one]; exact .int⟩
    · rintro A' t i v s' Q E st ⟨t, rfl, _⟩ q
      exact lets_plain (fun _ e => nomatch e) q

theorem Iter_str {x : Str} : Iter c A (.str x) (x.cps.toList.map fun n => .str ⟨#[n]⟩) := by
  intro Fs K P σ s v o dn Q E h
  have hlen : (x.cps.toList.map fun n => D.str ⟨#[n]⟩).length = x.cps.size := by simp
  have pw : ∀ i v, SignAt x i v → ∃ d, (x.cps.toList.map fun n => D.str ⟨#[n]⟩)[i]? = some d ∧ Den P v d := by
    rintro i v ⟨k, u, e, rfl⟩
    refine ⟨.str ⟨#[k]⟩, ?_, .str⟩
    simp [e]
  have fpw : ∀ b ∈ [s.heap.objs.size], b = s.heap.objs.size ∨ ∃ o, P b = some o := fun b hb => .inl (List.mem_singleton.mp hb)
  cases dn with
  | @str _ t =>
    cases ha : x.cps.all (· < 128)
    · refine wpAny_pyIter_wide ha (h _ [s.heap.objs.size] (SignAt x) (fun i h => h.IsStrIter s.heap.objs.size "str_iterator" x t i) _ s.toks (fun A' hA => by rw [hlen]; exact Walks.strWide hA _ x t) (get_fresh _) (fun b x e => Heap.get?_push_of_some _ e) ⟨_, Heap.get?_push_size _ rfl, rfl, rfl⟩ ⟨_, Heap.get?_push_size _ rfl⟩ (fun _ _ ⟨ob, e, _⟩ => ⟨ob, e⟩) fpw pw ?_)
      rintro A' t i v s' Q E st ⟨_, _, _, rfl⟩ q
      exact lets_plain (fun _ e => nomatch e) q
    · refine wpAny_pyIter_ascii ha (h _ [s.heap.objs.size] (SignAt x) (fun i h => h.IsStrIter s.heap.objs.size "str_ascii_iterator" x t i) _ s.toks (fun A' hA => by rw [hlen]; exact Walks.strAscii hA _ x t) (get_fresh _) (fun b x e => Heap.get?_push_of_some _ e) ⟨_, Heap.get?_push_size _ rfl, rfl, rfl⟩ ⟨_, Heap.get?_push_size _ rfl⟩ (fun _ _ ⟨ob, e, _⟩ => ⟨ob, e⟩) fpw pw ?_)
      rintro A' t i v s' Q E st ⟨_, _, _, rfl⟩ q
      exact lets_plain (fun _ e => nomatch e) q

/-- all but one place stays -/
theorem Ok.but (o : Ok c Fs K P σ s) {I : Addr} {h' : Heap} {tk : Nat} (k : ∀ b x, b ∉ [I] → s.heap.get? b = some x → h'.get? b = some x) (hI : I ∉ σ.map (·.1) ++ Fs.map (·.1)) (hK : K I = none) (hP : P I = none) : Ok c Fs K P σ { s with heap := h', toks := tk } := by
  have k' : ∀ b x, b ≠ I → s.heap.get? b = some x → h'.get? b = some x := fun b x hb e => k b x (fun q => hb (List.mem_singleton.mp q)) e
  refine ⟨o.base, fun b y e => ?_, fun b y e => ?_, fun p hp => ?_, fun f hf => ?_, o.nd, o.off, o.gens, o.os, o.drawn, o.low⟩
  · exact k' b y (fun q => by rw [q, hK] at e; cases e) (o.kept b y e)
  · exact k' b y (fun q => by rw [q, hP] at e; cases e) (o.pers b y e)
  · obtain ⟨ob, e, r⟩ := o.own p hp
    exact ⟨ob, k' _ _ (fun q => hI (q ▸ List.mem_append.mpr (.inl (List.mem_map_of_mem hp)))) e, r⟩
  · obtain ⟨ob, es, ep, e, r1, r2⟩ := o.frs f hf
    exact ⟨ob, es, ep, k' _ _ (fun q => hI (q ▸ List.mem_append.mpr (.inr (List.mem_map_of_mem hf)))) e, r1, r2⟩
theorem Ok.lessK {K' : Mp} (o : Ok c Fs K' P σ s) (h : Sub K K') (hb : ∀ b o, c.h₀.get? b = some o → K b = some o) : Ok c Fs K P σ s := by
  refine ⟨hb, fun b y e => o.kept b y (h b y e), o.pers, o.own, o.frs, o.nd, fun a ha => ⟨?_, (o.off a ha).2⟩, o.gens, o.os, o.drawn, o.low⟩
  cases q : K a with
  | none => rfl
  | some y => have := (o.off a ha).1; rw [h a y q] at this; cases this
theorem Trc.lessK {K' : Mp} {h : Heap} {as : List Addr} {e : Addr} {b : Bool} (t : Trc h K' P as e b) (hs : Sub K K') : Trc h K P as e b := by
  obtain ⟨ob, vs, x, h1, h2, h3, h4⟩ := t
  refine ⟨ob, vs, x, h1, h2, h3, h4.elim .inl fun ⟨T, oT, ts, y, a1, a2, a3, a4, a5, a6, a7⟩ => .inr ⟨T, oT, ts, y, a1, a2, a3, a4, a5, ?_, a7⟩⟩
  cases q : K T with
  | none => rfl
  | some y => rw [hs T y q] at a6; cases a6

theorem Fa.mv {L : Addr} {mv mv' : Str → Option Value} (f : Fa A env ((L, mv) :: Fs)) : Fa A env ((L, mv') :: Fs) := by
  obtain ⟨⟨e0, outer, a, b, h⟩, g1, g2, g3⟩ := f
  refine ⟨⟨e0, outer, a, b, fun x hx => ?_⟩, g1, g2, g3⟩
  obtain ⟨hk, f, hf, e⟩ := h x hx
  refine ⟨hk, ?_⟩
  rcases List.mem_cons.mp hf with rfl | hf
  · exact ⟨_, .head _, e⟩
  · exact ⟨f, .tail _ hf, e⟩
/-- the frames lie right, whatever they hold -/
def FA (A : Around) (env : Env) (Fs : List Fm) : Prop := Fa A env ((env.locals, fun _ => none) :: Fs) ∧ ∃ L, env.frame = some L
theorem FA.fa (f : FA A env Fs) (mv : Str → Option Value) : Fa A env ((env.locals, mv) :: Fs) := f.1.mv

/-- a raise passes a loop of its own frame -/
theorem noted_X {M : Model} {R : Value → Shared → Prop} (fa : FA A env Fs) {ev : Value} (h : RXS c env.locals Fs K P X ev s)
    (k : ∀ e P' σ' mv m msg s', ev = .ref e → Gr K P P' → Ok c ((env.locals, mv) :: Fs) K P' ((e, .exc msg) :: σ') s' → MOk P' mv m → Trc s'.heap K P' (adr ((e, .exc msg) :: σ') ((env.locals, mv) :: Fs)) e true → X msg m σ' → R ev s') : notedBy M A env R ev s := by
  obtain ⟨e, P', σ', mv, m, msg, rfl, g, o, hM, t, x⟩ := h
  unfold notedBy
  refine note_ok (fa.fa mv) (.inr fa.2) o t fun h' o' t' => ?_
  exact k e P' σ' mv m msg _ rfl g o' hM t' x
theorem back_X {M : Model} {e : Addr} {msg : Str} {L : Addr} {mv : Str → Option Value} (o : Ok c ((L, mv) :: Fs) K P1 ((e, .exc msg) :: σ) s) (g : Gr K P P1) (hM : MOk P1 mv m) (t : Trc s.heap K P1 (adr ((e, .exc msg) :: σ) ((L, mv) :: Fs)) e true) (x : X msg m σ) : cameBackBy M A env (RXS c L Fs K P X) (.ref e) s := by
  unfold cameBackBy
  obtain ⟨ob, vs, y, h1, h2, h3, h4⟩ := id t
  refine wpAny_bind (wpAny_field h1 h2 h3 ?_)
  rcases h4 with ⟨_, q⟩ | ⟨T, oT, ts, z, rfl, _⟩
  · cases q
  rw [if_neg (by simp)]
  refine flight_ok o t fun h' o' t' => ?_
  exact ⟨e, P1, σ, mv, m, msg, rfl, g, o', hM, t'.weak, x⟩

/-- a loop, by what holds between its turns -/
theorem S1_For {target iter : Expr} {body : List Stmt} {pos} (fa : FA A env Fs) (hh : A.handled = none)
    (h : EV c A env Fs iter m σ (fun d σ1 => ∃ xs, Iter c A d xs ∧ ∃ J : Nat → Env' → Sto → Prop, J 0 m σ1 ∧
      (∀ i d m σ, xs[i]? = some d → J i m σ → AV c A env Fs target d m σ (fun m σ => SV c A env Fs body m σ (fun f m σ => match f with
        | .next | .cont => J (i + 1) m σ
        | .brk => Q .next m σ
        | .ret d => Q (.ret d) m σ) X)) ∧
      (∀ m σ, J xs.length m σ → Q .next m σ)) (fun msg σ => X msg m σ))
    (hs : ∀ x, foldedSetIterable iter env x = pure x := by intro _; rfl) : S1 c A env Fs (.For target iter body [] pos) m σ Q X := by
  intro K P s mv o hM
  refine wpAny_For (thenVS hM (h K P s mv o hM) (Gr.refl K P) fun v P1 σ1 d s1 g1 o1 dn q => ?_) hs
  obtain ⟨xs, it, J, j0, turn, done⟩ := q
  refine it _ K P1 σ1 s1 v o1 dn _ _ fun I fp Pw St h' tk W hIn hk st0 hIo hSt hfp hPw hlet => ?_
  have o2 := o1.grow (tk := tk) hk
  have hKI : K I = none := o1.notK hIn
  have hPI : P1 I = none := o1.notP hIn
  have hAI := o1.notIn hIn
  have W := W A hh
  -- the state between two turns
  let Inv : Nat → Shared → Prop := fun n s' => ∃ i P' σ' mv' m', n = xs.length - i ∧ i ≤ xs.length ∧ Gr K P P' ∧ P' I = none ∧ Sub P1 P' ∧ I ∉ σ'.map (·.1) ++ ((env.locals, mv') :: Fs).map (·.1) ∧ Ok c ((env.locals, mv') :: Fs) K P' σ' s' ∧ MOk P' mv' m' ∧ St i s'.heap ∧ J i m' σ'
  have R0 : Inv xs.length { s1 with heap := h', toks := tk } := ⟨0, P1, σ1, mv, m, rfl, Nat.zero_le _, g1, hPI, Sub.refl _, hAI, o2, hM.mono g1.1, st0, j0⟩
  refine codeAny_forLoop_any Inv (fun n s' inv => ?_) _ R0
  obtain ⟨i, P', σ', mv', m', rfl, hi, g', hPI', hsub, hAI', o', hM', st, j⟩ := inv
  by_cases hlt : i < xs.length
  · refine W.item i s' _ _ hlt st fun v h2 tk2 pw st2 kb => ?_
    obtain ⟨d, hd, dn'⟩ := hPw i v pw
    have o3 : Ok c ((env.locals, mv') :: Fs) K P' σ' { s' with heap := h2, toks := tk2 } := o'.but kb hAI' hKI hPI'
    refine hlet A target (i + 1) v _ _ _ st2 pw ?_
    obtain ⟨ob, hob⟩ := hSt _ _ st2
    -- the walker laid aside
    have o4 := o3.aside hob hAI'
    have sK : Sub K (put K I ob) := put_sub hKI
    refine wpAny_mono (turn i d m' σ' hd j (put K I ob) P' _ mv' v (RXS c env.locals Fs (put K I ob) P' X) o4 hM' (dn'.mono hsub)) ?_ ?_
    · rintro _ s5 ⟨P5, σ5, mv5, m5, g5, o5, hM5, q5⟩
      refine wpAny_mono (q5 (put K I ob) P5 s5 mv5 o5 hM5) ?_ ?_
      · rintro f s6 ⟨P6, σ6, mv6, m6, fl, g6, o6, hM6, fd, q6⟩
        have gg : Gr (put K I ob) P' P6 := g5.trans g6
        have gK : Gr K P' P6 := gg.sub sK
        have oK : Ok c ((env.locals, mv6) :: Fs) K P6 σ6 s6 := o6.lessK sK o'.base
        have hI6 : P6 I = none := by
          cases e : P6 I with
          | none => rfl
          | some y => have := gg.2 I hPI' (by rw [e]; exact fun z => nomatch z); rw [put_self] at this; cases this
        have hA6 : I ∉ σ6.map (·.1) ++ ((env.locals, mv6) :: Fs).map (·.1) := fun z => by have := (o6.off I z).1; rw [put_self] at this; cases this
        have st6 : St (i + 1) s6.heap := W.frame _ _ _ st2 fun b hb y e => by
          rcases hfp b hb with rfl | ⟨y', hy'⟩
          · have : y = ob := Option.some.inj (e.symm.trans hob)
            subst this; exact o6.kept _ _ put_self
          · have h1 := o3.pers b y' (hsub b y' hy')
            have : y = y' := Option.some.inj (e.symm.trans h1)
            subst this
            exact o6.pers b y (gg.1 b y (hsub b y hy'))
        cases fd with
        | next => exact ⟨xs.length - (i + 1), by omega, i + 1, P6, σ6, mv6, m6, rfl, hlt, g'.trans gK, hI6, hsub.trans gK.1, hA6, oK, hM6, st6, q6⟩
        | cont => exact ⟨xs.length - (i + 1), by omega, i + 1, P6, σ6, mv6, m6, rfl, hlt, g'.trans gK, hI6, hsub.trans gK.1, hA6, oK, hM6, st6, q6⟩
        | brk => exact ⟨P6, σ6, mv6, m6, .next, g'.trans gK, oK, hM6, .next, q6⟩
        | ret dn6 => exact ⟨P6, σ6, mv6, m6, .ret _, g'.trans gK, oK, hM6, .ret dn6, q6⟩
      · intro ev s6 hx
        refine noted_X fa hx fun e P6 σ6 mv6 m6 msg s7 he g6 o6 hM6 t6 x6 => ?_
        subst he
        exact back_X (o6.lessK sK o'.base) (g'.trans ((g5.trans g6).sub sK)) hM6 (t6.lessK sK) x6
    · intro ev s6 hx
      refine noted_X fa hx fun e P6 σ6 mv6 m6 msg s7 he g6 o6 hM6 t6 x6 => ?_
      subst he
      exact back_X (o6.lessK sK o'.base) (g'.trans (g6.sub sK)) hM6 (t6.lessK sK) x6
  · have hi' : i = xs.length := by omega
    subst hi'
    refine W.done s' _ _ st fun h2 tk2 kb => ?_
    refine wpAny_execs_nil ?_
    exact ⟨P', σ', mv', m', .next, g', o'.but kb hAI' hKI hPI', hM', .next, done m' σ' j⟩
end
end Mine

-- part LayG
open PySem PySem.W PyProof.Rows
set_option Elab.async false
namespace Mine
open PySem PySem.Calls PySem.Spec
section
variable {c : Cx} {A : Around} {env : Env} {Fs : List Fm} {K P P1 : Mp} {σ σ' : Sto} {s : Shared} {m m' : Env'} {Q : D → Sto → Prop} {X : Str → Sto → Prop}

/-- a frame laid upon the others -/
theorem Ok.push (o : Ok c Fs K P σ s) {h' : Heap} {tk : Nat} {L : Addr} {mv : Str → Option Value} (hn : s.heap.get? L = none) (k : ∀ b x, s.heap.get? b = some x → h'.get? b = some x) (hN : h'.Ns L mv) : Ok c ((L, mv) :: Fs) K P σ { s with heap := h', toks := tk } := by
  have g := o.grow (tk := tk) k
  have hna := o.notIn hn
  refine ⟨g.base, g.kept, g.pers, g.own, fun f hf => ?_, ?_, fun b hb => ?_, g.gens, g.os, g.drawn, g.low⟩
  · rcases List.mem_cons.mp hf with rfl | hf
    · exact hN
    · exact g.frs f hf
  · have nd := List.nodup_append.mp o.nd
    refine List.nodup_append.mpr ⟨nd.1, List.nodup_cons.mpr ⟨fun z => hna (List.mem_append.mpr (.inr z)), nd.2.1⟩, fun a ha b hb => ?_⟩
    rcases List.mem_cons.mp hb with rfl | hb
    · exact fun z => hna (z ▸ List.mem_append.mpr (.inl ha))
    · exact nd.2.2 a ha b hb
  · rcases List.mem_append.mp hb with hb | hb
    · exact o.off b (List.mem_append.mpr (.inl hb))
    · rcases List.mem_cons.mp hb with rfl | hb
      · exact ⟨o.notK hn, o.notP hn⟩
      · exact o.off b (List.mem_append.mpr (.inr hb))
theorem adr_pop {f : Fm} : ∀ a ∈ adr σ Fs, a ∈ adr σ (f :: Fs) := fun a ha => by
  rcases List.mem_append.mp ha with h | h
  · exact List.mem_append.mpr (.inl h)
  · exact List.mem_append.mpr (.inr (.tail _ h))
theorem Ok.pop {f : Fm} (o : Ok c (f :: Fs) K P σ s) : Ok c Fs K P σ s := by
  have hs : (adr σ Fs).Sublist (adr σ (f :: Fs)) := (List.Sublist.refl _).append ((List.Sublist.refl _).cons _)
  exact ⟨o.base, o.kept, o.pers, o.own, fun g hg => o.frs g (.tail _ hg), o.nd.sublist hs, fun a ha => o.off a (hs.subset ha), o.gens, o.os, o.drawn, o.low⟩
theorem Trc.less {h : Heap} {as bs : List Addr} {e : Addr} {b : Bool} (t : Trc h K P as e b) (hs : ∀ a ∈ bs, a ∈ as) : Trc h K P bs e b := by
  obtain ⟨ob, vs, x, h1, h2, h3, h4⟩ := t
  exact ⟨ob, vs, x, h1, h2, h3, h4.elim .inl fun ⟨T, oT, ts, y, a1, a2, a3, a4, a5, r⟩ => .inr ⟨T, oT, ts, y, a1, a2, a3, a4, fun z => a5 (hs _ z), r⟩⟩

/-- the stack's frames are ours -/
def FrA (A : Around) (Fs : List Fm) : Prop := ∃ l, A.frames = some l ∧ ∀ x ∈ l, x.scope.kind = .function ∧ ∃ f ∈ Fs, x.frame = some f.1
theorem FA.frA (f : FA A env Fs) (mv : Str → Option Value) : FrA A ((env.locals, mv) :: Fs) := by
  obtain ⟨e0, outer, a, _, h⟩ := (f.fa mv).frames
  exact ⟨_, a, h⟩
theorem FrA.deeper {name : Str} {scope : Scope} {L a : Addr} {cd : Value} {cl : List (Str × Addr)} (h : FrA A Fs) (hk : scope.kind = .function) : FA (A.deeper (envX name scope L a cd cl)) (envX name scope L a cd cl) Fs := by
  obtain ⟨l, e, hl⟩ := h
  refine ⟨⟨⟨envX name scope L a cd cl, l, Around.frames_deeper e, rfl, fun x hx => ?_⟩, rfl, rfl, hk⟩, L, rfl⟩
  rcases List.mem_cons.mp hx with rfl | hx
  · exact ⟨hk, _, .head _, rfl⟩
  · obtain ⟨h1, f, hf, h2⟩ := hl x hx
    exact ⟨h1, f, .tail _ hf, h2⟩

/-- leaving a frame by a raise -/
theorem leaving_X {M : Model} {X' : Str → Env' → Sto → Prop} (fa : FA A env Fs) {ev : Value} {R : Unit → Shared → Prop} {E : Value → Shared → Prop} (h : RXS c env.locals Fs K P X' ev s) (hX : ∀ msg m σ, X' msg m σ → X msg σ)
    (k : ∀ s', RX c Fs K P X ev s' → R () s') : wpAny M A (leaving env ev) R E s := by
  obtain ⟨e, P', σ', mv, m, msg, rfl, g, o, hM, t, x⟩ := h
  unfold leaving
  refine wpAny_bind (note_ok (fa.fa mv) (.inr fa.2) o t fun h' o' t' => ?_)
  refine flight_ok o' t' fun h2 o2 t2 => k _ ?_
  exact ⟨e, P', σ', msg, rfl, g, o2.pop, (t2.less adr_pop).weak, hX _ _ _ x⟩

def bindE (kindOf : Str → Option NameKind) : List (Str × D) → Env' → Env'
  | [], m => m
  | (n, d) :: r, m => bindE kindOf r (if kindOf n = some .local then (n, d) :: m else m)
theorem bindE_ok {kindOf : Str → Option NameKind} : ∀ {ns : List Str} {vs : List Value} {ds : List D} {mv : Str → Option Value} {m : Env'}, DenL P vs ds → MOk P mv m → MOk P (bindL kindOf (ns.zip vs) mv) (bindE kindOf (ns.zip ds) m)
  | [], _, _, _, _, _, h => h
  | _ :: _, [], [], _, _, .nil, h => h
  | n :: ns, v :: vs, d :: ds, mv, m, .cons a r, h => by
    simp only [List.zip_cons_cons, bindL, bindE]
    by_cases q : kindOf n = some .local
    · rw [if_pos q, if_pos q]; exact bindE_ok r (h.set a)
    · rw [if_neg q, if_neg q]; exact bindE_ok r h
def bindK (kindOf : Str → Option NameKind) : List (Str × D) → (Str → Option D) → Str → Option D
  | [], m => m
  | (n, d) :: r, m => bindK kindOf r (if kindOf n = some .local then m else fun y => if y = n then some d else m y)
def KOk (P : Mp) (cm : Str → Option Value) (cd : Str → Option D) : Prop := ∀ x, match cd x with | none => cm x = none | some d => ∃ v, cm x = some v ∧ Den P v d
theorem bindK_ok {kindOf : Str → Option NameKind} : ∀ {ns : List Str} {vs : List Value} {ds : List D} {cm : Str → Option Value} {cd : Str → Option D}, DenL P vs ds → KOk P cm cd → KOk P (bindC kindOf (ns.zip vs) cm) (bindK kindOf (ns.zip ds) cd)
  | [], _, _, _, _, _, h => h
  | _ :: _, [], [], _, _, .nil, h => h
  | n :: ns, v :: vs, d :: ds, cm, cd, .cons a r, h => by
    simp only [List.zip_cons_cons, bindC, bindK]
    by_cases q : kindOf n = some .local
    · rw [if_pos q, if_pos q]; exact bindK_ok r h
    · rw [if_neg q, if_neg q]
      refine bindK_ok r fun x => ?_
      by_cases z : x = n
      · subst z; simp only [if_true]; exact ⟨v, rfl, a⟩
      · simp only [if_neg z]; exact h x

theorem bindL_all {kindOf : Str → Option NameKind} : ∀ {binds : List (Str × Value)} {mv : Str → Option Value}, (∀ x ∈ binds, kindOf x.1 = some .local) → ∀ y, bindL kindOf binds mv y = match binds.reverse.lookup y with | some v => some v | none => mv y
  | [], mv, _, y => rfl
  | (n, v) :: r, mv, h, y => by
    simp only [bindL, if_pos (h (n, v) (.head _))]
    rw [bindL_all (fun x hx => h x (.tail _ hx)) y]
    rw [List.reverse_cons, List.lookup_append]
    cases e : r.reverse.lookup y with
    | some w => rfl
    | none =>
      simp only [Option.none_or, List.lookup]
      by_cases q : y = n
      · subst q; simp
      · have : (y == n) = false := by simp [q]
        simp [this, q]

/-- a call's code -/
def CallC (c : Cx) (A : Around) (Fs : List Fm) (fa : Addr) (ds : List D) (σ : Sto) (Q : D → Sto → Prop) (X : Str → Sto → Prop) : Prop :=
  ∀ K P s vs, Ok c Fs K P σ s → DenL P vs ds → codeAny (mdl c) A (.call (.ref fa) ⟨vs, []⟩) (fun r s' => match r with | .ok (.ret v) => RV c Fs K P Q v s' | .ok _ => False | .error e => RX c Fs K P X e s') s
theorem CallC.op {fa : Addr} {ds : List D} (h : CallC c A Fs fa ds σ Q X) : OpF c A Fs (cal (.ref fa)) ds σ Q X := fun K P s vs o dl => wpAny_call (h K P s vs o dl)
/-- what a called def's body gives, gives the call -/
theorem call_fn {fa : Addr} {fo : Obj} {name qual : Str} {params : Arguments} {body : List Stmt} {scope : Scope} {cl : List (Str × Addr)} {dV kV doc pm cdv ct : Value} {an : Option Addr} {ns : List Str} {ds : List D}
    (ho : ∀ K P s, Ok c Fs K P σ s → s.heap.get? fa = some fo) (hd : fo.data = .func (fnX name qual params body scope cl dV kV doc pm an cdv ct)) (hcd : ∀ K P s, Ok c Fs K P σ s → s.heap.CodeRec cdv qual) (hlim : c.h₀.NoLimit) (hroom : A.depth < recursionLimit) (fr : FrA A Fs)
    (hb : ∀ vs : List Value, vs.length = ds.length → bindArgs (fnX name qual params body scope cl dV kV doc pm an cdv ct) ⟨vs, []⟩ = pure (ns.zip vs))
    (hloc : ∀ n ∈ ns, scope.names.lookup n = some .local)
    (h : ∀ L, FA (A.deeper (envX qual scope L fa cdv cl)) (envX qual scope L fa cdv cl) Fs → SV c (A.deeper (envX qual scope L fa cdv cl)) (envX qual scope L fa cdv cl) Fs body (bindE (envX qual scope L fa cdv cl).kindOf (ns.zip ds) []) σ
      (fun f _ σ => match f with | .ret d => Q d σ | _ => Q .none σ) (fun msg _ σ => X msg σ))
    (hco : scope.isCoroutine = false := by rfl) (hgen : scope.isGenerator = false := by rfl) (hk : scope.kind = .function := by rfl)
    (hcell : ∀ x ∈ scope.names, x.2 ≠ .cell := by decide) : CallC c A Fs fa ds σ Q X := by
  intro K P s vs o dl
  refine (codeAny_call_function hroom (ho K P s o) hd hco hgen rfl (hcd K P s o) ?_)
  rw [hb vs dl.length]
  have hz : ∀ x ∈ ns.zip vs, scope.names.lookup x.1 = some .local := fun x hx => hloc _ (List.of_mem_zip (a := x.1) (b := x.2) hx).1
  refine wpAny_pure (wpAny_newFunctionEnv hcell hz (fun h₁ hns hsb => ⟨(hlim.keeps o.keeps).fresh _ hsb, ?_⟩) hk)
  let e' := envX qual scope s.heap.objs.size fa cdv cl
  show codeAny _ _ (.func body e') _ _
  have fa' : FA (A.deeper e') e' Fs := fr.deeper hk
  have k₁ : ∀ b x, s.heap.get? b = some x → h₁.get? b = some x := fun b x e => hsb.extBut b x (Nat.ne_of_lt (Heap.lt_size e)) (Heap.get?_push_of_some _ e)
  have o₁ := o.push (tk := s.toks + (ns.zip vs).length) (get_fresh _) k₁ hns
  have hM : MOk P (fun x => (ns.zip vs).reverse.lookup x) (bindE e'.kindOf (ns.zip ds) []) := by
    have z := bindE_ok (kindOf := e'.kindOf) (ns := ns) (mv := fun _ => none) (m := []) dl fun x d e => nomatch e
    intro x d e
    obtain ⟨v, e1, e2⟩ := z x d e
    refine ⟨v, ?_, e2⟩
    rw [bindL_all (fun x hx => hz x hx)] at e1
    cases q : (ns.zip vs).reverse.lookup x with
    | some w => rw [q] at e1; exact q.trans e1
    | none => rw [q] at e1; cases e1
  refine codeAny_func (wpAny_mono (h s.heap.objs.size fa' K P _ _ o₁ hM) ?_ ?_)
  · rintro f s' ⟨P', σ', mv', m', fl, g, o', hM', fd, q⟩
    cases fd with
    | ret dn => exact ⟨P', σ', _, g, o'.pop, dn, q⟩
    | next => exact ⟨P', σ', .none, g, o'.pop, .none, q⟩
    | brk => exact ⟨P', σ', .none, g, o'.pop, .none, q⟩
    | cont => exact ⟨P', σ', .none, g, o'.pop, .none, q⟩
  · intro ev s' hx
    exact leaving_X fa' hx (fun _ _ _ x => x) fun s'' z => z

/-- the cells of a frame, as things that may change -/
def cellSto (cd : Str → Option D) (cs : List (Str × Addr)) : Sto := cs.map fun x => (x.2, .cell (cd x.1))
theorem Ok.cells {cd : Str → Option D} {cm : Str → Option Value} {L : Addr} (o : Ok c Fs K P σ s) (hk : KOk P cm cd) : ∀ {cs : List (Str × Addr)} {h₀ : Heap}, (∀ n a, (n, a) ∈ cs → s.heap.IsCell a (cm n) ∧ h₀.get? a = none) → cs.Pairwise (fun x y => x.2 ≠ y.2) →
    (∀ b, b ∈ adr σ Fs → ∀ n a, (n, a) ∈ cs → b ≠ a) → (∀ n a, (n, a) ∈ cs → K a = none ∧ P a = none) → Ok c Fs K P (cellSto cd cs ++ σ) s
  | [], _, _, _, _, _ => o
  | (n, a) :: cs, h₀, h1, h2, h3, h4 => by
    have ih := o.cells (L := L) hk (cs := cs) (h₀ := h₀) (fun n a h => h1 n a (.tail _ h)) (List.pairwise_cons.mp h2).2 (fun b hb n a h => h3 b hb n a (.tail _ h)) (fun n a h => h4 n a (.tail _ h))
    have hna : a ∉ adr (cellSto cd cs ++ σ) Fs := by
      intro z
      rw [adr, List.map_append, List.append_assoc] at z
      rcases List.mem_append.mp z with z | z
      · obtain ⟨p, hp, e⟩ := List.mem_map.mp z
        obtain ⟨y, hy, rfl⟩ := List.mem_map.mp hp
        exact (List.pairwise_cons.mp h2).1 y hy e.symm
      · exact h3 a z n a (.head _) rfl
    obtain ⟨ob, e, hd⟩ := (h1 n a (.head _)).1
    refine ⟨ih.base, ih.kept, ih.pers, fun p hp => ?_, ih.frs, ?_, fun b hb => ?_, ih.gens, ih.os, ih.drawn, ih.low⟩
    · rcases List.mem_cons.mp hp with rfl | hp
      · refine ⟨ob, e, cm n, hd, ?_⟩
        have := hk n
        show match cd n with | none => cm n = none | some d => ∃ x, cm n = some x ∧ Den P x d
        exact this
      · exact ih.own p hp
    · exact List.nodup_cons.mpr ⟨hna, ih.nd⟩
    · rcases List.mem_cons.mp hb with rfl | hb
      · exact h4 n _ (.head _)
      · exact ih.off b hb

theorem call_fnC {fa : Addr} {fo : Obj} {name qual : Str} {params : Arguments} {body : List Stmt} {scope : Scope} {dV kV doc pm cdv ct : Value} {an : Option Addr} {ns : List Str} {ds : List D}
    (ho : c.h₀.get? fa = some fo) (hd : fo.data = .func (fnX name qual params body scope [] dV kV doc pm an cdv ct)) (hcd : c.h₀.CodeRec cdv qual) (hlim : c.h₀.NoLimit) (hroom : A.depth < recursionLimit) (fr : FrA A Fs)
    (hb : ∀ vs : List Value, vs.length = ds.length → bindArgs (fnX name qual params body scope [] dV kV doc pm an cdv ct) ⟨vs, []⟩ = pure (ns.zip vs))
    (hkind : ∀ n, ∀ x ∈ ns, scope.names.lookup x = some .local ∨ (scope.names.lookup x = some .cell ∧ ((cellsFrom n scope.names []).lookup x).isSome = true))
    (hnd : ((cellsFrom 0 scope.names []).map (·.1)).Nodup)
    (h : ∀ L, FA (A.deeper (envX qual scope L fa cdv (cellsFrom (L + 1) scope.names []))) (envX qual scope L fa cdv (cellsFrom (L + 1) scope.names [])) Fs → SV c (A.deeper (envX qual scope L fa cdv (cellsFrom (L + 1) scope.names []))) (envX qual scope L fa cdv (cellsFrom (L + 1) scope.names [])) Fs body
      (bindE (envX qual scope L fa cdv (cellsFrom (L + 1) scope.names [])).kindOf (ns.zip ds) []) (cellSto (bindK (envX qual scope L fa cdv (cellsFrom (L + 1) scope.names [])).kindOf (ns.zip ds) fun _ => none) (cellsFrom (L + 1) scope.names []) ++ σ)
      (fun f _ σ => match f with | .ret d => Q d σ | _ => Q .none σ) (fun msg _ σ => X msg σ))
    (hco : scope.isCoroutine = false := by rfl) (hgen : scope.isGenerator = false := by rfl) (hk : scope.kind = .function := by rfl) : CallC c A Fs fa ds σ Q X := by
  intro K P s vs o dl
  refine (codeAny_call_function hroom (o.keeps _ _ ho) hd hco hgen rfl (hcd.keeps o.keeps) ?_)
  rw [hb vs dl.length]
  refine wpAny_pure (wpAny_newFunctionEnv_cells hk (fun x hx => hkind _ _ (List.of_mem_zip (a := x.1) (b := x.2) hx).1) fun env' he s' x => ?_)
  subst he
  refine ⟨(hlim.keeps o.keeps).keeps x.toInCall.keep, ?_⟩
  let e' := envX qual scope s.heap.objs.size fa cdv (cellsFrom (s.heap.objs.size + 1) scope.names [])
  show codeAny _ _ (.func body e') _ _
  have fa' : FA (A.deeper e') e' Fs := fr.deeper hk
  obtain ⟨h₁, tk, rfl⟩ := x.toInCall.same
  have k₁ := x.toInCall.keep
  have o₁ := o.push (tk := tk) (get_fresh _) k₁ x.toInCall.ns
  have hM : MOk P _ (bindE e'.kindOf (ns.zip ds) []) := bindE_ok (kindOf := e'.kindOf) (ns := ns) (mv := fun _ => none) (m := []) dl fun x d e => nomatch e
  have hK : KOk P _ (bindK e'.kindOf (ns.zip ds) fun _ => none) := bindK_ok (kindOf := e'.kindOf) (ns := ns) (cm := fun _ => none) (cd := fun _ => none) dl fun x => rfl
  have hlook : ∀ n a, (n, a) ∈ cellsFrom (s.heap.objs.size + 1) scope.names [] → (cellsFrom (s.heap.objs.size + 1) scope.names []).lookup n = some a := fun n a hm => lookup_of_mem_nodup (cellsFrom_names scope.names 0 (s.heap.objs.size + 1) [] [] rfl ▸ hnd) hm
  have hfr : ∀ n a, (n, a) ∈ cellsFrom (s.heap.objs.size + 1) scope.names [] → s.heap.get? a = none := fun n a hm => by
    cases q : s.heap.get? a with
    | none => rfl
    | some o => have := x.above n a hm; have h2 := Heap.lt_size q; exact absurd (Nat.lt_trans this h2) (Nat.lt_irrefl _)
  have o₂ := o₁.cells (L := 0) hK (cs := cellsFrom (s.heap.objs.size + 1) scope.names []) (h₀ := s.heap) (fun n a hm => ⟨x.cell n a (hlook n a hm), hfr n a hm⟩) x.apart
    (fun b hb n a hm q => by
      subst q
      rcases List.mem_append.mp hb with hb | hb
      · exact o.notIn (hfr n b hm) (List.mem_append.mpr (.inl hb))
      · rcases List.mem_cons.mp hb with e | hb
        · have := x.above n b hm; rw [e] at this; exact Nat.lt_irrefl _ this
        · exact o.notIn (hfr n b hm) (List.mem_append.mpr (.inr hb)))
    (fun n a hm => ⟨o.notK (hfr n a hm), o.notP (hfr n a hm)⟩)
  refine codeAny_func (wpAny_mono (h s.heap.objs.size fa' K P _ _ o₂ hM) ?_ ?_)
  · rintro f s' ⟨P', σ', mv', m', fl, g, o', hM', fd, q⟩
    cases fd with
    | ret dn => exact ⟨P', σ', _, g, o'.pop, dn, q⟩
    | next => exact ⟨P', σ', .none, g, o'.pop, .none, q⟩
    | brk => exact ⟨P', σ', .none, g, o'.pop, .none, q⟩
    | cont => exact ⟨P', σ', .none, g, o'.pop, .none, q⟩
  · intro ev s' hx
    exact leaving_X fa' hx (fun _ _ _ x => x) fun s'' z => z
end
end Mine

-- part LayH
open PySem PySem.W PyProof.Rows
set_option Elab.async false
namespace Mine
open PySem PySem.Calls PySem.Spec
/-- what is known of the top -/
structure Gd (c : Cx) (KF : Frag) : Prop where
  X : KF.In c.h₀
  top : ∃ p loose mean mg mb, Top p loose mean mg mb c.h₀
theorem Gd.T {c : Cx} {KF : Frag} (G : Gd c KF) : ∃ p loose mg mb, TopRead p loose mg mb c.h₀ := let ⟨_, _, _, _, _, T⟩ := G.top; ⟨_, _, _, _, topRead_of T⟩
theorem Gd.lim {c : Cx} {KF : Frag} (G : Gd c KF) : c.h₀.NoLimit := let ⟨_, _, _, _, T⟩ := G.T; T.nolimit
section
variable {c : Cx} {A : Around} {env : Env} {Fs : List Fm} {K P P1 : Mp} {σ σ' : Sto} {s : Shared} {m m' : Env'} {Q : D → Sto → Prop} {X : Str → Sto → Prop} {KF : Frag}

theorem EV_global {x : Str} {pos} {v : Value} {d : D} (G : Gd c KF) (fa : FA A env Fs) (e : nsIn KF mainGlobals x = some (some v)) (dn : ∀ P, Den P v d) (h : Q d σ) (hx : env.kindOf x = some .globalImplicit := by rfl) (hd : (x == ("__debug__" : Str)) = false := by decide) :
    EV c A env Fs (.Name x pos) m σ Q X := by
  intro K P s mv o hM
  obtain ⟨p, loose, mg, mb, T⟩ := G.T
  have hg : s.heap.Ns env.globals mg := by rw [fa.1.glob]; exact T.g.keeps o.keeps
  exact Name_function_global fa.1.kind hx (loadGlobal_global hg (mg_of G.X T.g e) (retV o (dn P) h)) hd
theorem EV_builtin {x : Str} {pos} {v : Value} {d : D} (G : Gd c KF) (fa : FA A env Fs) (e : nsIn KF mainGlobals x = some none) (hv : bootBuiltins x = some v) (dn : ∀ P, Den P v d) (h : Q d σ) (hx : env.kindOf x = some .globalImplicit := by rfl) (hn : x ≠ "__name__" := by decide) (hd : (x == ("__debug__" : Str)) = false := by decide) :
    EV c A env Fs (.Name x pos) m σ Q X := by
  intro K P s mv o hM
  obtain ⟨p, loose, mg, mb, T⟩ := G.T
  have hg : s.heap.Ns env.globals mg := by rw [fa.1.glob]; exact T.g.keeps o.keeps
  have hb : s.heap.Ns env.builtins mb := by rw [fa.1.blt]; exact T.b.keeps o.keeps
  exact Name_function_global fa.1.kind hx (loadGlobal_builtin hg (mg_none_of G.X T.g e) hb ((T.builtins x hn).trans hv) (retV o (dn P) h)) hd

/-- calling a function's object, a builtin, a type -/
theorem call_any {f : Expr} {args : List Expr} {pos} {Q' : Value → Shared → Prop} {E : Value → Shared → Prop} (hf : ∀ o n p, f ≠ .Attribute o n p) (h : wpAny (mdl c) A (eval f env) (fun v s1 => wpAny (mdl c) A (callWith pos v [] (backTo pos (starEach args env)) []) Q' E s1) E s) : wpAny (mdl c) A (eval (.Call f args [] pos) env) Q' E s := by
  have : eval (.Call f args [] pos) env = (do callWith pos (← eval f env) [] (backTo pos (starEach args env)) (backToKw pos (keywordEach [] env))) := by
    cases f <;> first | rfl | exact absurd rfl (hf _ _ _)
  rw [this]
  exact wpAny_bind h
theorem EV_Call_fn {f e : Expr} {es : List Expr} {pos} {fa : Addr} {fo : Obj} {fd : FuncData}
    (h : EV c A env Fs f m σ (fun d σ1 => d = .ref fa ∧ LV c A env Fs pos (e :: es) m σ1 (fun ds σ2 => (∀ Fs K P s, Ok c Fs K P σ2 s → s.heap.get? fa = some fo) ∧ ∀ mv, OpF c A ((env.locals, mv) :: Fs) (cal (.ref fa)) ds σ2 Q X) X) X)
    (hd : fo.data = .func fd) (hf : ∀ o n p, f ≠ .Attribute o n p := by intro _ _ _ z; cases z) (he : starEach (e :: es) env = (false, eval e env) :: starEach es env := by rfl) : EV c A env Fs (.Call f (e :: es) [] pos) m σ Q X := by
  intro K P s mv o hM
  refine call_any hf (thenV (h K P s mv o hM) fun v P1 σ1 d s1 g1 o1 dn q => ?_)
  obtain ⟨rfl, q⟩ := q
  have hv : v = .ref fa := by cases dn; rfl
  subst hv
  refine callWith_def hd (wpAny_mono (q K P1 s1 mv o1 (hM.mono g1.1)) ?_ fun _ _ => RX.up g1) he
  rintro vs s2 ⟨P2, σ2, ds, g2, o2, dl, q1, q2⟩
  exact ⟨q1 _ _ _ _ o2, upV (g1.trans g2) (q2 mv K P2 s2 vs o2 dl)⟩
theorem EV_Call_bi {f e : Expr} {es : List Expr} {pos} {id : String}
    (h : EV c A env Fs f m σ (fun d σ1 => d = .bi id ∧ LV c A env Fs pos (e :: es) m σ1 (fun ds σ2 => Op c A (cal (.builtin id)) ds σ2 Q X) X) X)
    (hf : ∀ o n p, f ≠ .Attribute o n p := by intro _ _ _ z; cases z) (he : starEach (e :: es) env = (false, eval e env) :: starEach es env := by rfl) (hp : (backTo pos (starEach es env)).any (·.1) = false := by rfl) : EV c A env Fs (.Call f (e :: es) [] pos) m σ Q X := by
  intro K P s mv o hM
  refine call_any hf (thenV (h K P s mv o hM) fun v P1 σ1 d s1 g1 o1 dn q => ?_)
  obtain ⟨rfl, q⟩ := q
  have hv : v = .builtin id := by cases dn; rfl
  subst hv
  refine PyProof.Rows.callWith_builtin1 (wpAny_mono (q K P1 s1 mv o1 (hM.mono g1.1)) ?_ fun _ _ => RX.up g1) he hp
  rintro vs s2 ⟨P2, σ2, ds, g2, o2, dl, q2⟩
  exact upV (g1.trans g2) (q2 _ K P2 s2 vs o2 dl)
theorem EV_Call_ty {f e : Expr} {es : List Expr} {pos} {T : String}
    (h : EV c A env Fs f m σ (fun d σ1 => d = .type T ∧ LV c A env Fs pos (e :: es) m σ1 (fun ds σ2 => Op c A (cal (.type T)) ds σ2 Q X) X) X)
    (hf : ∀ o n p, f ≠ .Attribute o n p := by intro _ _ _ z; cases z) (he : starEach (e :: es) env = (false, eval e env) :: starEach es env := by rfl) (hp : (backTo pos (starEach (e :: es) env)).any (·.1) = false := by rfl) : EV c A env Fs (.Call f (e :: es) [] pos) m σ Q X := by
  intro K P s mv o hM
  refine call_any hf (thenV (h K P s mv o hM) fun v P1 σ1 d s1 g1 o1 dn q => ?_)
  obtain ⟨rfl, q⟩ := q
  have hv : v = .type T := by cases dn; rfl
  subst hv
  refine PyProof.Rows.callWith_type hp ?_
  have z := q K P1 s1 mv o1 (hM.mono g1.1)
  rw [he] at z ⊢
  refine evalArgs_plain ?_
  refine wpAny_mono z ?_ fun _ _ => RX.up g1
  rintro vs s2 ⟨P2, σ2, ds, g2, o2, dl, q2⟩
  exact upV (g1.trans g2) (q2 _ K P2 s2 vs o2 dl)

-- displays
theorem EV_Tuple {es : List Expr} {k pos} (h : LV c A env Fs pos es m σ (fun ds σ1 => ds.length ≤ sizeLine ∧ Q (.tup ds) σ1) X) : EV c A env Fs (.Tuple es k pos) m σ Q X := by
  intro K P s mv o hM
  refine Tuple_ (thenL (h K P s mv o hM) fun vs P1 σ1 ds s1 g1 o1 dl q => ?_)
  refine wpAny_newTuple ?_ (by rw [dl.length]; exact q.1)
  obtain ⟨o2, g2⟩ := o1.newPers (h' := s1.heap.push { cls := .type "tuple", data := .seq vs.toArray }) (tk := s1.toks) (get_fresh _) (fun b x e => Heap.get?_push_of_some _ e) (Heap.get?_push_size _ rfl)
  exact ⟨_, σ1, .tup ds, g1.trans g2, o2, .tup put_self rfl rfl (dl.mono g2.1), q.2⟩
/-- a list that is not to change -/
theorem EV_List {es : List Expr} {pos} (h : LV c A env Fs pos es m σ (fun ds σ1 => ds.length ≤ sizeLine ∧ Q (.lst ds) σ1) X) : EV c A env Fs (.List es pos) m σ Q X := by
  intro K P s mv o hM
  refine List_ (thenL (h K P s mv o hM) fun vs P1 σ1 ds s1 g1 o1 dl q => ?_)
  refine wpAny_newList ?_ (by rw [dl.length]; exact q.1)
  obtain ⟨o2, g2⟩ := o1.newPers (h' := s1.heap.push { cls := .type "list", data := .seq vs.toArray }) (tk := s1.toks) (get_fresh _) (fun b x e => Heap.get?_push_of_some _ e) (Heap.get?_push_size _ rfl)
  exact ⟨_, σ1, .lst ds, g1.trans g2, o2, .lst put_self rfl rfl (dl.mono g2.1), q.2⟩
/-- a list that may change -/
theorem EV_ListM {es : List Expr} {pos} (h : LV c A env Fs pos es m σ (fun ds σ1 => ds.length ≤ sizeLine ∧ ∀ a, Q (.ref a) ((a, .list ds) :: σ1)) X) : EV c A env Fs (.List es pos) m σ Q X := by
  intro K P s mv o hM
  refine List_ (thenL (h K P s mv o hM) fun vs P1 σ1 ds s1 g1 o1 dl q => ?_)
  refine wpAny_newList ?_ (by rw [dl.length]; exact q.1)
  have o2 := o1.newOwn (h' := s1.heap.push { cls := .type "list", data := .seq vs.toArray }) (tk := s1.toks) (ao := .list ds) (get_fresh _) (fun b x e => Heap.get?_push_of_some _ e) (Heap.get?_push_size _ rfl) ⟨vs, 0, rfl, dl⟩
  exact ⟨P1, _, .ref _, g1, o2, .ref, q.2 _⟩
/-- a list changes no more -/
theorem EV.freeze {e : Expr} (h : EV c A env Fs e m σ (fun d σ1 => ∃ a ds σ2, d = .ref a ∧ σ1 = (a, .list ds) :: σ2 ∧ Q (.lst ds) σ2) X) : EV c A env Fs e m σ Q X := by
  intro K P s mv o hM
  refine thenV (h K P s mv o hM) fun v P1 σ1 d s1 g1 o1 dn q => ?_
  obtain ⟨a, ds, σ2, rfl, rfl, q⟩ := q
  obtain ⟨P2, o2, g2, dn2⟩ := o1.freeze
  have : v = .ref a := by cases dn; rfl
  subst this
  exact ⟨P2, σ2, .lst ds, g1.trans g2, o2, dn2, q⟩
theorem SV.freeze {b : List Stmt} {Q : Fl → Env' → Sto → Prop} {X : Str → Env' → Sto → Prop} {a : Addr} {ds : List D} {x : Str} (hx : m.lookup x = some (.ref a)) (hp : σ.Perm ((a, .list ds) :: σ')) (h : SV c A env Fs b ((x, .lst ds) :: m) σ' Q X) : SV c A env Fs b m σ Q X := by
  intro K P s mv o hM
  obtain ⟨P2, o2, g2, dn2⟩ := (o.perm hp.symm).freeze
  refine upS g2 (h K P2 s mv o2 fun y d e => ?_)
  by_cases q : y = x
  · subst q
    simp [List.lookup] at e
    obtain ⟨v, e1, e2⟩ := hM y _ hx
    refine ⟨v, e1, ?_⟩
    have : v = .ref a := by cases e2; rfl
    subst this
    exact e ▸ dn2
  · have : (y == x) = false := by simp [q]
    simp [List.lookup, this] at e
    obtain ⟨v, e1, e2⟩ := hM y d e
    exact ⟨v, e1, e2.mono g2.1⟩
end
end Mine

-- part LayI
open PySem PySem.W PyProof.Rows
set_option Elab.async false
namespace Mine
open PySem PySem.Calls PySem.Spec
section
variable {c : Cx} {A : Around} {env : Env} {Fs : List Fm} {K P P1 : Mp} {σ σ' : Sto} {s : Shared} {m m' : Env'} {Q : Fl → Env' → Sto → Prop} {X : Str → Env' → Sto → Prop} {KF : Frag}

theorem Ok.addP (o : Ok c Fs K P σ s) {a : Addr} {ob : Obj} (e : s.heap.get? a = some ob) (hK : K a = none) (hP : P a = none) (hna : a ∉ adr σ Fs) : Ok c Fs K (put P a ob) σ s ∧ Gr K P (put P a ob) := by
  refine ⟨⟨o.base, o.kept, fun b x q => ?_, fun p hp => ?_, o.frs, o.nd, fun b hb => ⟨(o.off b hb).1, ?_⟩, o.gens, o.os, o.drawn, o.low.trans (put_sub hP)⟩, put_gr hP hK⟩
  · unfold put at q
    by_cases z : b = a
    · subst z; rw [if_pos rfl] at q; cases q; exact e
    · rw [if_neg z] at q; exact o.pers b x q
  · obtain ⟨ob', e', r⟩ := o.own p hp
    exact ⟨ob', e', r.mono (put_sub hP)⟩
  · unfold put
    rw [if_neg (fun q : b = a => hna (q ▸ hb))]; exact (o.off b hb).2
theorem Ok.addO (o : Ok c Fs K P σ s) {a : Addr} {ob : Obj} {ao : AO} (e : s.heap.get? a = some ob) (hr : Real c P a ao ob) (hK : K a = none) (hP : P a = none) (hna : a ∉ adr σ Fs) : Ok c Fs K P ((a, ao) :: σ) s := by
  refine ⟨o.base, o.kept, o.pers, fun p hp => ?_, o.frs, List.nodup_cons.mpr ⟨hna, o.nd⟩, fun b hb => ?_, o.gens, o.os, o.drawn, o.low⟩
  · rcases List.mem_cons.mp hp with rfl | hp
    · exact ⟨ob, e, hr⟩
    · exact o.own p hp
  · rcases List.mem_cons.mp hb with rfl | hb
    · exact ⟨hK, hP⟩
    · exact o.off b hb

theorem S1_Raise {x : Str} {np cpos pos} {e : Expr} (hh : A.handled = none) (hf : EV c A env Fs (.Name x np) m σ (fun d σ1 => d = .type "ValueError" ∧ EV c A env Fs e m σ1 (fun d σ2 => ∃ msg, d = .str msg ∧ X msg m σ2) (fun msg σ => X msg m σ)) (fun msg σ => X msg m σ))
    (he : starEach [e] env = [(false, eval e env)] := by rfl) : S1 c A env Fs (.Raise (some (.Call (.Name x np) [e] [] cpos)) none pos) m σ Q X := by
  intro K P s mv o hM
  refine wpAny_Raise_call F.excCall_ValueError F.excRaise_ValueError hh (by rw [he]; rfl) (thenVS hM (hf K P s mv o hM) (Gr.refl K P) fun v P1 σ1 d s1 g1 o1 dn q => ?_)
  obtain ⟨rfl, q⟩ := q
  refine ⟨by cases dn; rfl, ?_⟩
  rw [he]
  refine evalArgs_plain ?_
  have z := spliced_more (M := mdl c) (A := A) (env := env) (e := e) (rest := []) (pos := cpos) (E := RXS c env.locals Fs K P X) (s := s1) (Q := fun vs s' => ({ pos := vs, kw := [] } : Args).kw = [] ∧ ({ pos := vs, kw := [] } : Args).pos.length ≤ sizeLine ∧ ∀ h' e, Heap.MadeExc s'.heap h' e "ValueError" ({ pos := vs, kw := [] } : Args).pos → RXS c env.locals Fs K P X (.ref e) { s' with heap := h' })
    (thenVS (hM.mono g1.1) (q K P1 s1 mv o1 (hM.mono g1.1)) g1 fun v2 P2 σ2 d2 s2 g2 o2 dn2 q2 => ?_) he
  · rw [he] at z; exact z
  refine spliced_none ⟨rfl, by show 1 ≤ sizeLine; decide, fun h' a me => ?_⟩
  obtain ⟨msg, rfl, x2⟩ := q2
  obtain ⟨t, e1, e2, e3⟩ := me.there
  have hv : ∃ tk, v2 = .str msg tk := by cases dn2; exact ⟨_, rfl⟩
  obtain ⟨tk, rfl⟩ := hv
  have o3 := o2.grow (tk := s2.toks) me.keeps
  have hta : t ≠ a := fun q => by
    rw [q, e1] at e3; exact absurd (congrArg Obj.cls (Option.some.inj e3)) (by simp)
  obtain ⟨o4, g4⟩ := o3.addP (a := t) e3 (o2.notK e2) (o2.notP e2) (o2.notIn e2)
  have hPa : put P2 t { cls := .type "tuple", data := .seq (List.toArray [Value.str msg tk]) } a = none := by
    unfold put; rw [if_neg (Ne.symm hta)]; exact o2.notP me.new
  have o5 := o4.addO (a := a) (ao := .exc msg) e1 ⟨_, t, 0, tk, rfl, rfl, rfl, rfl, put_self⟩ (o2.notK me.new) hPa (o2.notIn me.new)
  exact ⟨a, _, σ2, mv, m, msg, rfl, (g1.trans g2).trans g4, o5, ((hM.mono g1.1).mono g2.1).mono g4.1, ⟨_, _, .none, e1, rfl, rfl, .inl ⟨rfl, rfl⟩⟩, x2⟩

def without (m : Env') (n : Str) : Env' := m.filter fun x => x.1 != n
theorem without_ok {mv : Str → Option Value} {n : Str} {v : Option Value} : ∀ {m : Env'}, MOk P mv m → MOk P (fun x => if x = n then v else mv x) (without m n) := by
  intro m h x d e
  have key : ∀ m : Env', (without m n).lookup x = some d → x ≠ n ∧ m.lookup x = some d := by
    intro m
    induction m with
    | nil => intro e; cases e
    | cons p r ih =>
      obtain ⟨k, w⟩ := p
      intro e
      unfold without at e
      rw [List.filter_cons] at e
      by_cases q : k = n
      · subst q
        simp at e
        have := ih (by unfold without; simpa using e)
        refine ⟨this.1, ?_⟩
        have z' : (x == k) = false := by simp [this.1]
        simp [List.lookup, z', this.2]
      · simp [q] at e
        by_cases z : x = k
        · subst z
          simp [List.lookup] at e
          exact ⟨q, by simp [List.lookup, e]⟩
        · have z' : (x == k) = false := by simp [z]
          simp [List.lookup, z'] at e
          have := ih (by unfold without; simpa using e)
          exact ⟨this.1, by simp [List.lookup, z', this.2]⟩
  obtain ⟨h1, h2⟩ := key m e
  obtain ⟨w, a, b⟩ := h x d h2
  exact ⟨w, (if_neg h1).trans a, b⟩

theorem raw_builtin {x : Str} {pos} {v : Value} {mv : Str → Option Value} (G : Gd c KF) (fa : FA A env Fs) (e : nsIn KF mainGlobals x = some none) (hv : bootBuiltins x = some v) (hx : env.kindOf x = some .globalImplicit := by rfl) (hn : x ≠ "__name__" := by decide) (hd : (x == ("__debug__" : Str)) = false := by decide) :
    ∀ (A' : Around) K P σ s, Ok c ((env.locals, mv) :: Fs) K P σ s → ∀ (Q : Value → Shared → Prop) E, Q v s → wpAny (mdl c) A' (eval (.Name x pos) env) Q E s := by
  intro A' K P σ s o Q E h
  obtain ⟨p, loose, mg, mb, T⟩ := G.T
  have hg : s.heap.Ns env.globals mg := by rw [fa.1.glob]; exact T.g.keeps o.keeps
  have hb : s.heap.Ns env.builtins mb := by rw [fa.1.blt]; exact T.b.keeps o.keeps
  exact Name_function_global fa.1.kind hx (loadGlobal_builtin hg (mg_none_of G.X T.g e) hb ((T.builtins x hn).trans hv) h) hd

/-- try, with one clause for ValueError that names it; its suite raises nothing -/
theorem S1_Try {body suite : List Stmt} {b₀ : Stmt} {x n : Str} {np hpos pos} (G : Gd c KF) (fa : FA A env Fs) (e : nsIn KF mainGlobals x = some none) (hv : bootBuiltins x = some (.type "ValueError"))
    (h : SV c A env Fs body m σ Q (fun msg m1 σ1 => ∀ e, SV c (A.mark (some (.ref e))) env Fs (b₀ :: suite) ((n, .ref e) :: m1) ((e, .exc msg) :: σ1) (fun f m2 σ2 => Q f (without m2 n) σ2) (fun _ _ _ => False)))
    (hk : env.scope.kind = .function := by rfl) (hl : env.kindOf n = some .local := by rfl) (hx : env.kindOf x = some .globalImplicit := by rfl) (hn : x ≠ "__name__" := by decide) (hd : (x == ("__debug__" : Str)) = false := by decide) : S1 c A env Fs (.Try body [.ExceptHandler (some (.Name x np)) (some n) (b₀ :: suite) hpos] [] [] pos) m σ Q X := by
  intro K P s mv o hM
  have hp : (env.scope.kind == .class || (env.scope.kind == .module && env.locals != env.globals)) = false := by rw [hk]; rfl
  refine wpAny_Try_except (wpAny_mono (h K P s mv o hM) ?_ ?_)
  · rintro f s1 ⟨P1, σ1, mv1, m1, fl, g, o1, hM1, fd, q⟩
    cases fd with
    | next => exact wpAny_execs_nil ⟨P1, σ1, mv1, m1, _, g, o1, hM1, .next, q⟩
    | brk => exact ⟨P1, σ1, mv1, m1, _, g, o1, hM1, .brk, q⟩
    | cont => exact ⟨P1, σ1, mv1, m1, _, g, o1, hM1, .cont, q⟩
    | ret dn => exact ⟨P1, σ1, mv1, m1, _, g, o1, hM1, .ret dn, q⟩
  · rintro ev s1 ⟨e, P1, σ1, mv1, m1, msg, rfl, g1, o1, hM1, t1, q⟩
    refine note_ok (fa.fa mv1) (.inr fa.2) o1 t1 fun h2 o2 t2 => ?_
    refine flight_ok o2 t2 fun h3 o3 t3 => ?_
    refine wpAny_handleBy_builtin_as (X := "ValueError") (T := "ValueError") (b := true) F.isExc_ValueError F.notTuple_ValueError F.self_ValueError ?_
    refine raw_builtin G fa ‹_› hv hx hn hd _ K P1 _ _ o3 _ _ ⟨rfl, ?_, ?_⟩
    · obtain ⟨ob, eo, _, _, _, _, hc, _⟩ := o3.own (e, .exc msg) (.head _)
      exact ⟨ob, eo, hc⟩
    · refine flight_ok o3 t3 fun h4 o4 t4 => ?_
      refine wpAny_storeName_local hl (o4.frs _ (.head _)) (fun h5 hn5 hs5 => ?_) hp
      refine wpAny_mono (q e K P1 _ _ (o4.store hs5 hn5) (hM1.set .ref)) ?_ ?_
      · rintro f s6 ⟨P6, σ6, mv6, m6, fl, g6, o6, hM6, fd, q6⟩
        refine wpAny_nameGoes_keeps hl (o6.frs _ (.head _)) hp fun h7 v7 hn7 hs7 => ?_
        exact ⟨P6, σ6, _, without m6 n, fl, g1.trans g6, o6.store hs7 hn7, without_ok hM6, fd, q6⟩
      · rintro ev6 s6 ⟨_, _, _, _, _, _, _, _, _, _, _, z⟩
        exact z.elim
end
end Mine

-- part LayJ
open PySem PySem.W PyProof.Rows
set_option Elab.async false
namespace Mine
open PySem PySem.Calls PySem.Spec
/-- a comprehension's tests -/
def TI (c : Cx) (A : Around) (env : Env) (Fs : List Fm) (ifs : List Expr) (m : Env') (σ : Sto) (Q : Bool → Sto → Prop) (X : Str → Sto → Prop) : Prop :=
  ∀ K P s mv, Ok c ((env.locals, mv) :: Fs) K P σ s → MOk P mv m → wpAny (mdl c) A (forIn ifs true fun t r => if r = true then do let ok ← isTrue t env (eval t env); pure (ForInStep.yield ok) else pure (ForInStep.yield r)) (RB c ((env.locals, mv) :: Fs) K P Q) (RX c ((env.locals, mv) :: Fs) K P X) s
section
variable {c : Cx} {A : Around} {env : Env} {Fs : List Fm} {K P P1 : Mp} {σ σ' : Sto} {s : Shared} {m m' : Env'} {Q : D → Sto → Prop} {X : Str → Sto → Prop} {KF : Frag}
theorem TI_nil {Q : Bool → Sto → Prop} (h : Q true σ) : TI c A env Fs [] m σ Q X := fun K P s mv o hM => by
  rw [List.forIn_nil]; exact wpAny_pure ⟨P, σ, Gr.refl K P, o, h⟩
theorem comp_loop {elt target iter : Expr} {ifs : List Expr} {scope : Scope} {pos : Pos} {it acc : Value} {R : Result → Shared → Prop} (I : Nat → Shared → Prop)
    (turn : ∀ n s, I n s → wpAny (mdl c) A (pyNext it) (fun r s₁ => match r with
      | none => R (.ok .next) s₁
      | some v => wpAny (mdl c) A (letOwnedTupleGo target it v) (fun _ s₁' => wpAny (mdl c) A (assign target env v) (fun _ s₂ => wpAny (mdl c) A (forIn ifs true fun t r => if r = true then do let ok ← isTrue t env (eval t env); pure (ForInStep.yield ok) else pure (ForInStep.yield r)) (fun b s₃ =>
          if b then wpAny (mdl c) A (eval elt env) (fun x s₃ => wpAny (mdl c) A (call (.builtin "list.append") [acc, x]) (fun _ s₄ => ∃ m, m < n ∧ I m s₄) (notedBy (mdl c) A env fun e s' => R (.error e) s') s₃) (notedBy (mdl c) A env fun e s' => R (.error e) s') s₃
          else ∃ m, m < n ∧ I m s₃) (notedBy (mdl c) A env fun e s' => R (.error e) s') s₂) (notedBy (mdl c) A env fun e s' => R (.error e) s') s₁') (notedBy (mdl c) A env fun e s' => R (.error e) s') s₁) (notedBy (mdl c) A env fun e s' => R (.error e) s') s)
    (n : Nat) (h : I n s) : codeAny (mdl c) A (.compLoop (.ListComp elt [⟨target, iter, ifs, 0⟩] scope pos) 0 it acc env) R s := by
  refine codeAny_loop rfl I (fun n s hI => ?_) n h
  show wpAny _ _ ((compTurn (.ListComp elt [⟨target, iter, ifs, 0⟩] scope pos) 0 it acc env).onRaise (fun x => do noteFrame x env; theTreesLotGoes x)) _ _ s
  refine wpAny_noted ?_
  rw [compTurn_list]
  refine wpAny_bind (wpAny_standAt (wpAny_bind (wpAny_mono (turn n s hI) (fun r s₁ h₁ => ?_) fun _ _ h' => h')))
  cases r with
  | none => exact wpAny_pure h₁
  | some v =>
    refine wpAny_bind (wpAny_mono h₁ (fun _ s₁' h₁' => ?_) fun _ _ h' => h')
    refine wpAny_bind (wpAny_mono h₁' (fun _ s₂ h₂ => ?_) fun _ _ h' => h')
    refine wpAny_bind (wpAny_mono h₂ (fun b s₃ h₃ => ?_) fun _ _ h' => h')
    cases b with
    | false => exact wpAny_pure ⟨rfl, h₃⟩
    | true =>
      refine wpAny_bind (wpAny_bind (wpAny_mono h₃ (fun x s₄ h₄ => wpAny_bind (wpAny_mono h₄ (fun _ s₅ h₅ => ?_) fun _ _ h' => h')) fun _ _ h' => h'))
      exact wpAny_pure (wpAny_pure ⟨rfl, h₅⟩)

theorem FA.comp {scope : Scope} {cl : List (Str × Addr)} {C : Addr} {mv : Str → Option Value} (f : FA A env Fs) (hk : scope.kind = .function) : FA A (compEnvC scope cl C env) ((env.locals, mv) :: Fs) := by
  obtain ⟨⟨⟨e0, outer, a, b, h⟩, g1, g2, g3⟩, L, hL⟩ := f
  refine ⟨⟨⟨e0, outer, a, b, fun x hx => ?_⟩, g1, g2, hk⟩, L, hL⟩
  obtain ⟨hk, f, hf, e⟩ := h x hx
  refine ⟨hk, ?_⟩
  rcases List.mem_cons.mp hf with rfl | hf
  · exact ⟨_, .tail _ (.head _), e⟩
  · exact ⟨f, .tail _ (.tail _ hf), e⟩

theorem EV_ListComp {elt target iter : Expr} {ifs : List Expr} {scope : Scope} {cl : List (Str × Addr)} {pos} (fa : FA A env Fs) (hh : A.handled = none)
    (h : EV c A env Fs iter m σ (fun d σ1 => ∃ xs, Iter c A d xs ∧ xs.length ≤ sizeLine ∧ ∃ J : Nat → List D → Sto → Prop, J 0 [] σ1 ∧
      (∀ i d ds σ C mv, xs[i]? = some d → J i ds σ → FA A (compEnvC scope cl C env) ((env.locals, mv) :: Fs) → AV c A (compEnvC scope cl C env) ((env.locals, mv) :: Fs) target d [] σ (fun m σ => TI c A (compEnvC scope cl C env) ((env.locals, mv) :: Fs) ifs m σ
        (fun b σ => if b then EV c A (compEnvC scope cl C env) ((env.locals, mv) :: Fs) elt m σ (fun v σ => J (i + 1) (ds ++ [v]) σ) X else J (i + 1) ds σ) X)) ∧
      (∀ ds σ a, J xs.length ds σ → ds.length ≤ xs.length → Q (.ref a) ((a, .list ds) :: σ))) X)
    (hclos : closureFor scope env = pure cl := by rfl) (hcell : ∀ y ∈ scope.names, y.2 ≠ .cell := by decide) (hkind : scope.kind = .function := by rfl)
    (hnames : ∀ y ∈ scope.names, y.2 = .local → scope.names.lookup y.1 = some .local := by decide) (hs : ∀ x, foldedSetIterable iter env x = pure x := by intro _; rfl) :
    EV c A env Fs (.ListComp elt [⟨target, iter, ifs, 0⟩] scope pos) m σ Q X := by
  intro K P s mv o hM
  rw [eval_ListComp]
  refine wpAny_comprehension_free (use := none) rfl hs hclos hkind hnames (thenV (h K P s mv o hM) fun v P1 σ1 d s1 g1 o1 dn q => ?_)
  obtain ⟨xs, it, hlen, J, j0, turn, done⟩ := q
  refine it _ K P1 σ1 s1 v o1 dn _ _ fun I fp Pw St h' tk W hIn hk st0 hIo hSt hfp hPw hlet => ?_
  have W := W A hh
  have hKI : K I = none := o1.notK hIn
  have hPI : P1 I = none := o1.notP hIn
  have hAI := o1.notIn hIn
  have o2 := o1.grow (tk := tk) hk
  -- the list that is filled
  refine wpAny_newObj_type ?_
  let D₀ := h'.objs.size
  let oD : Obj := { cls := .type "list", dict := none, data := .seq ([] : List Value).toArray }
  have hDn : h'.get? D₀ = none := get_fresh _
  have hDI : D₀ ≠ I := fun q => by obtain ⟨ob, e⟩ := hIo; rw [← q] at e; rw [hDn] at e; cases e
  have o3 := o2.grow (h' := h'.push oD) (tk := tk) fun b x e => Heap.get?_push_of_some oD e
  have hKD : K D₀ = none := o2.notK hDn
  have hPD : P1 D₀ = none := o2.notP hDn
  have hAD := o2.notIn hDn
  refine wpAny_newFunctionEnv hcell (by intro y hy; simp at hy) (fun h₁ hns₁ hsb₁ => ?_) hkind
  let C := (h'.push oD).objs.size
  have hCn : (h'.push oD).get? C = none := get_fresh _
  have k₁ : ∀ b x, (h'.push oD).get? b = some x → h₁.get? b = some x := fun b x e => hsb₁.extBut b x (Nat.ne_of_lt (Heap.lt_size e)) (Heap.get?_push_of_some _ e)
  have o4 : Ok c ((C, _) :: (env.locals, mv) :: Fs) K P1 σ1 { s1 with heap := h₁, toks := tk + ([] : List (Str × Value)).length } := o3.push (tk := tk + ([] : List (Str × Value)).length) hCn k₁ hns₁
  have hCI : C ≠ I := fun q => by obtain ⟨ob, e⟩ := hIo; have := Heap.get?_push_of_some oD e; rw [← q] at this; rw [hCn] at this; cases this
  have hCD : C ≠ D₀ := fun q => by have := Heap.get?_push_size h' (o := oD) rfl; rw [show h'.objs.size = C from q.symm] at this; rw [hCn] at this; cases this
  have st1 : St 0 h₁ := W.frame _ _ _ st0 fun b _ o e => k₁ b o (Heap.get?_push_of_some oD e)
  have hD1 : h₁.get? D₀ = some (listOf (List.toArray []) 0) := k₁ _ _ (Heap.get?_push_size h' rfl)
  let cenv := compEnvC scope cl C env
  have fc : FA A cenv ((env.locals, mv) :: Fs) := fa.comp hkind
  -- the state between two turns
  let Inv : Nat → Shared → Prop := fun n s' => ∃ i P' σ' mvC ds vs k, n = xs.length - i ∧ i ≤ xs.length ∧ ds.length ≤ i ∧ Gr K P P' ∧ P' I = none ∧ P' D₀ = none ∧ Sub P1 P' ∧ I ∉ adr σ' ((C, mvC) :: (env.locals, mv) :: Fs) ∧ D₀ ∉ adr σ' ((C, mvC) :: (env.locals, mv) :: Fs) ∧
    Ok c ((C, mvC) :: (env.locals, mv) :: Fs) K P' σ' s' ∧ St i s'.heap ∧ s'.heap.get? D₀ = some (listOf (List.toArray vs) k) ∧ DenL P' vs ds ∧ J i ds σ'
  have inv0 : Inv xs.length { s1 with heap := h₁, toks := tk + ([] : List (Str × Value)).length } := by
    refine ⟨0, P1, σ1, _, [], [], 0, rfl, Nat.zero_le _, Nat.le_refl _, g1, hPI, hPD, Sub.refl _, fun z => ?_, fun z => ?_, o4, st1, hD1, .nil, j0⟩
    · rcases List.mem_append.mp z with z | z
      · exact hAI (List.mem_append.mpr (.inl z))
      · rcases List.mem_cons.mp z with z | z
        · exact hCI z.symm
        · exact hAI (List.mem_append.mpr (.inr z))
    · rcases List.mem_append.mp z with z | z
      · exact hAD (List.mem_append.mpr (.inl z))
      · rcases List.mem_cons.mp z with z | z
        · exact hCD z.symm
        · exact hAD (List.mem_append.mpr (.inr z))
  have loop : codeAny (mdl c) A (.compLoop (.ListComp elt [⟨target, iter, ifs, 0⟩] scope pos) 0 (.ref I) (.ref D₀) cenv) (compPost (mdl c) A (RX c ((env.locals, mv) :: Fs) K P X) none (RV c ((env.locals, mv) :: Fs) K P Q) (.ref D₀) C) { s1 with heap := h₁, toks := tk + ([] : List (Str × Value)).length } := by
    refine comp_loop Inv (fun n s' inv => ?_) _ inv0
    obtain ⟨i, P', σ', mvC, ds, vs, k, rfl, hi, hdi, g', hPI', hPD', hsub, hAI', hAD', o', st, hD', dl, j⟩ := inv
    -- a raise
    have raised : ∀ {K2 : Mp} {P5 : Mp} {s6 : Shared} {mv5 : Str → Option Value} {ev : Value}, Sub K K2 → Gr K P P5 → RX c ((C, mv5) :: (env.locals, mv) :: Fs) K2 P5 X ev s6 → notedBy (mdl c) A cenv (fun e s' => compPost (mdl c) A (RX c ((env.locals, mv) :: Fs) K P X) none (RV c ((env.locals, mv) :: Fs) K P Q) (.ref D₀) C (.error e) s') ev s6 := by
      rintro K2 P5 s6 mv5 ev sK g5 ⟨e, P6, σ6, msg, rfl, g6, o6, t6, x6⟩
      unfold notedBy
      refine note_ok (fc.fa mv5) (.inr fc.2) o6 t6 fun h7 o7 t7 => ?_
      refine ⟨_, o7.frs _ (.head _), fun h8 hs8 cenv' _ => ?_⟩
      have oK := o7.lessK (K := K) sK o'.base
      have o8 : Ok c ((env.locals, mv) :: Fs) K P6 ((e, .exc msg) :: σ6) { s6 with heap := h8 } := oK.pop.other (tk := s6.toks) hs8 (fun z => by
          have nd := oK.nd
          rw [List.map_cons (l := (env.locals, mv) :: Fs)] at nd
          rcases List.mem_append.mp z with z | z
          · exact (List.nodup_append.mp nd).2.2 C z C (.head _) rfl
          · exact (List.nodup_cons.mp (List.nodup_append.mp nd).2.1).1 z) (oK.off C (List.mem_append.mpr (.inr (.head _)))).1 (oK.off C (List.mem_append.mpr (.inr (.head _)))).2
      have t8 : Trc h8 K P6 (adr ((e, .exc msg) :: σ6) ((env.locals, mv) :: Fs)) e true := by
        obtain ⟨ob, ws, y, a1, a2, a3, a4⟩ := t7.lessK (K := K) sK
        have hCe : e ≠ C := fun q => (List.nodup_append.mp oK.nd).2.2 e (.head _) C (.head _) q
        refine ⟨ob, ws, y, (hs8.2 e hCe).trans a1, a2, a3, a4.elim .inl fun ⟨T, oT, ts, y', b1, b2, b3, b4, b5, b6, b7⟩ => .inr ⟨T, oT, ts, y', b1, (hs8.2 T fun q => b5 (q ▸ List.mem_append.mpr (.inr (.head _)))).trans b2, b3, b4, fun z => b5 (adr_pop _ z), b6, b7⟩⟩
      unfold PySem.passOn
      obtain ⟨ob, ws, y, a1, a2, a3, a4⟩ := id t8
      refine wpAny_bind (wpAny_field a1 a2 a3 ?_)
      rcases a4 with ⟨_, q⟩ | ⟨T, oT, ts, z, rfl, _⟩
      · cases q
      rw [if_neg (by simp)]
      refine wpAny_bind (flight_ok o8 t8 fun h9 o9 t9 => wpAny_throw ?_)
      exact ⟨e, P6, σ6, msg, rfl, g5.trans (g6.sub sK), o9, t9.weak, x6⟩
    by_cases hlt : i < xs.length
    · refine W.item i s' _ _ hlt st fun v h2 tk2 pw st2 kb => ?_
      obtain ⟨d, hd, dn'⟩ := hPw i v pw
      have o3 : Ok c ((C, mvC) :: (env.locals, mv) :: Fs) K P' σ' { s' with heap := h2, toks := tk2 } := o'.but kb hAI' hKI hPI'
      refine hlet A target (i + 1) v _ _ _ st2 pw ?_
      obtain ⟨ob, hob⟩ := hSt _ _ st2
      have hD2 : h2.get? D₀ = some (listOf (List.toArray vs) k) := kb _ _ (fun q => hDI (List.mem_singleton.mp q)) hD'
      have o4 := (o3.aside hob hAI').aside hD2 hAD'
      have sK1 : Sub K (put K I ob) := put_sub hKI
      have sK2 : Sub (put K I ob) (put (put K I ob) D₀ (listOf (List.toArray vs) k)) := put_sub (by unfold put; rw [if_neg hDI]; exact hKD)
      have sK : Sub K (put (put K I ob) D₀ (listOf (List.toArray vs) k)) := sK1.trans sK2
      have kI : put (put K I ob) D₀ (listOf (List.toArray vs) k) I = some ob := by unfold put; rw [if_neg (Ne.symm hDI), if_pos rfl]
      -- what holds behind any part of the turn
      have after : ∀ {P6 : Mp} {σ6 : Sto} {mv6 : Str → Option Value} {s6 : Shared}, Gr (put (put K I ob) D₀ (listOf (List.toArray vs) k)) P' P6 → Ok c ((C, mv6) :: (env.locals, mv) :: Fs) (put (put K I ob) D₀ (listOf (List.toArray vs) k)) P6 σ6 s6 →
          Gr K P P6 ∧ P6 I = none ∧ P6 D₀ = none ∧ Sub P1 P6 ∧ I ∉ adr σ6 ((C, mv6) :: (env.locals, mv) :: Fs) ∧ D₀ ∉ adr σ6 ((C, mv6) :: (env.locals, mv) :: Fs) ∧ Ok c ((C, mv6) :: (env.locals, mv) :: Fs) K P6 σ6 s6 ∧ St (i + 1) s6.heap ∧ s6.heap.get? D₀ = some (listOf (List.toArray vs) k) := by
        intro P6 σ6 mv6 s6 gg o6
        refine ⟨g'.trans (gg.sub sK), ?_, ?_, hsub.trans gg.1, fun z => ?_, fun z => ?_, o6.lessK sK o'.base, ?_, o6.kept _ _ put_self⟩
        · cases e : P6 I with
          | none => rfl
          | some y => have := gg.2 I hPI' (by rw [e]; exact fun z => nomatch z); rw [kI] at this; cases this
        · cases e : P6 D₀ with
          | none => rfl
          | some y => have := gg.2 D₀ hPD' (by rw [e]; exact fun z => nomatch z); rw [put_self] at this; cases this
        · have := (o6.off I z).1; rw [kI] at this; cases this
        · have := (o6.off D₀ z).1; rw [put_self] at this; cases this
        · refine W.frame _ _ _ st2 fun b hb y e => ?_
          rcases hfp b hb with rfl | ⟨y', hy'⟩
          · have : y = ob := Option.some.inj (e.symm.trans hob)
            subst this; exact o6.kept _ _ kI
          · have h1 := o3.pers b y' (hsub b y' hy')
            have : y = y' := Option.some.inj (e.symm.trans h1)
            subst this
            exact o6.pers b y (gg.1 b y (hsub b y hy'))
      refine wpAny_mono (turn i d ds σ' C mv hd j fc _ P' _ mvC v (fun _ _ => False) o4 (fun x d e => nomatch e) (dn'.mono hsub)) ?_ fun _ _ z => z.elim
      rintro _ s5 ⟨P5, σ5, mv5, m5, g5, o5, hM5, q5⟩
      refine wpAny_mono (q5 _ P5 s5 mv5 o5 hM5) ?_ fun ev s6 => raised sK (g'.trans (g5.sub sK))
      rintro b s6 ⟨P6, σ6, g6, o6, q6⟩
      cases b with
      | false =>
        obtain ⟨a1, a2, a3, a4, a5, a6, a7, a8, a9⟩ := after (g5.trans g6) o6
        exact ⟨xs.length - (i + 1), by omega, i + 1, P6, σ6, mv5, ds, vs, k, rfl, hlt, Nat.le_succ_of_le hdi, a1, a2, a3, a4, a5, a6, a7, a8, a9, dl.mono (g5.trans g6).1, q6⟩
      | true =>
        refine wpAny_mono (q6 _ P6 s6 mv5 o6 (hM5.mono g6.1)) ?_ fun ev s7 => raised sK (g'.trans ((g5.trans g6).sub sK))
        rintro x s7 ⟨P7, σ7, d7, g7, o7, dn7, q7⟩
        obtain ⟨a1, a2, a3, a4, a5, a6, a7, a8, a9⟩ := after ((g5.trans g6).trans g7) o7
        refine append_at a9 (fun h8 hs8 hD8 => ?_) (by rw [List.size_toArray, dl.length]; omega)
        have o8 := a7.other (tk := s7.toks) hs8 a6 hKD a3
        have st8 : St (i + 1) h8 := W.frame _ _ _ a8 fun b hb y e => by
          refine (hs8.2 b fun q => ?_).trans e
          rcases hfp b hb with q' | ⟨y', hy'⟩
          · exact hDI (q.symm.trans q')
          · have := a4 b y' hy'
            rw [q, a3] at this; cases this
        refine ⟨xs.length - (i + 1), by omega, i + 1, P7, σ7, mv5, ds ++ [d7], vs ++ [x], k + 1, rfl, hlt, by rw [List.length_append]; exact Nat.succ_le_succ hdi, a1, a2, a3, a4, a5, a6, o8, st8, ?_, (dl.mono ((g5.trans g6).trans g7).1).append (.cons dn7 .nil), q7⟩
        rw [hD8]; simp
    · have hi' : i = xs.length := by omega
      subst hi'
      refine W.done s' _ _ st fun h2 tk2 kb => ?_
      have o3 := o'.but (tk := tk2) kb hAI' hKI hPI'
      have hD2 : h2.get? D₀ = some (listOf (List.toArray vs) k) := kb _ _ (fun q => hDI (List.mem_singleton.mp q)) hD'
      refine ⟨_, o3.frs _ (.head _), fun h8 hs8 => ?_⟩
      have nd := o3.nd
      have hC : C ∉ adr σ' ((env.locals, mv) :: Fs) := fun z => by
        rcases List.mem_append.mp z with z | z
        · exact (List.nodup_append.mp nd).2.2 C z C (.head _) rfl
        · exact (List.nodup_cons.mp (List.nodup_append.mp nd).2.1).1 z
      have o8 := o3.pop.other (tk := tk2) hs8 hC (o3.off C (List.mem_append.mpr (.inr (.head _)))).1 (o3.off C (List.mem_append.mpr (.inr (.head _)))).2
      have o9 := o8.addO (a := D₀) (ao := .list ds) ((hs8.2 D₀ (Ne.symm hCD)).trans hD2) ⟨vs, k, rfl, dl⟩ hKD hPD' fun z => hAD' (adr_pop _ z)
      exact ⟨P', _, .ref D₀, g', o9, .ref, done ds σ' D₀ j hdi⟩
  exact codeAny_compStart_list loop (W.self 0 _ _ _ st1 loop)
end
end Mine

-- part LayK
open PySem PySem.W PyProof.Rows
set_option Elab.async false
set_option linter.unusedVariables false
namespace Mine
open PySem PySem.Calls PySem.Spec
def TyIs (c : Cx) (d : D) (σ : Sto) (T : String) : Prop := ∀ Fs K P s v, Ok c Fs K P σ s → Den P v d → s.TypeIs v T
def NoD (c : Cx) (d : D) (σ : Sto) : Prop := ∀ Fs K P s v, Ok c Fs K P σ s → Den P v d → ∀ a, v = .ref a → ∃ ob, s.heap.get? a = some ob ∧ ob.dict = none
abbrev itm : List Value → Sem Value := fun vs => match vs with | [x, y] => getItem x y | _ => unsupported ""
section
variable {c : Cx} {A : Around} {env : Env} {Fs : List Fm} {K P P1 : Mp} {σ σ' : Sto} {s : Shared} {m m' : Env'} {Q : D → Sto → Prop} {X : Str → Sto → Prop} {KF : Frag}
theorem TyIs_str {x : Str} : TyIs c (.str x) σ "str" := fun _ _ _ _ _ _ dn => by cases dn; rfl
theorem NoD_str {x : Str} : NoD c (.str x) σ := fun _ _ _ _ _ _ dn _ e => by cases dn; cases e
theorem TyIs_bytes {x : List UInt8} : TyIs c (.bytes x) σ "bytes" := fun _ _ _ _ _ _ dn => by cases dn; exact typeIs_bytes _ _ _
theorem NoD_bytes {x : List UInt8} : NoD c (.bytes x) σ := fun _ _ _ _ _ _ dn _ e => by cases dn; cases e
theorem TyIs_list {a : Addr} {ds : List D} (h : (a, AO.list ds) ∈ σ) : TyIs c (.ref a) σ "list" := fun _ _ _ s _ o dn => by
  cases dn
  obtain ⟨ob, e, vs, n, rfl, _⟩ := o.own _ h
  exact ⟨_, e, rfl⟩
theorem NoD_list {a : Addr} {ds : List D} (h : (a, AO.list ds) ∈ σ) : NoD c (.ref a) σ := fun _ _ _ s _ o dn b q => by
  cases dn
  cases q
  obtain ⟨ob, e, vs, n, rfl, _⟩ := o.own _ h
  exact ⟨_, e, rfl⟩
theorem TyIs_lst {ds : List D} : TyIs c (.lst ds) σ "list" := fun _ _ _ s _ o dn => by
  cases dn with
  | lst p1 p2 p3 p4 => exact ⟨_, o.pers _ _ p1, p2⟩
theorem TyIs_tup {ds : List D} : TyIs c (.tup ds) σ "tuple" := fun _ _ _ s _ o dn => by
  cases dn with
  | tup p1 p2 p3 p4 => exact ⟨_, o.pers _ _ p1, p2⟩

theorem EV_Method {o e : Expr} {es : List Expr} {name : Str} {apos pos : Pos} {pl : Sem Bool} {T id : String} (pa : PlainAttrs T) (slot : Slot T name id) (hty : typeOf (.builtin id) = pure (.type "method_descriptor"))
    (h : EV c A env Fs o m σ (fun d σ1 => TyIs c d σ1 T ∧ NoD c d σ1 ∧ LV c A env Fs pos (e :: es) m σ1 (fun ds σ2 => Op c A (cal (.builtin id)) (d :: ds) σ2 Q X) X) X)
    (hc : eval (.Call (.Attribute o name apos) (e :: es) [] pos) env = (do
      let ov ← eval o env
      standAt apos.atName
      let (f, first) ← holding [ov] (getMethod ov name pl)
      callWith pos f first (backTo pos (starEach (e :: es) env)) []) := by rfl)
    (he : starEach (e :: es) env = (false, eval e env) :: starEach es env := by rfl) (hp : (backTo pos (starEach (e :: es) env)).any (·.1) = false := by rfl) : EV c A env Fs (.Call (.Attribute o name apos) (e :: es) [] pos) m σ Q X := by
  intro K P s mv o hM
  refine MethodCall_ (thenV (h K P s mv o hM) fun v P1 σ1 d s1 g1 o1 dn q => ?_) hc
  obtain ⟨ty, nd, q⟩ := q
  refine getMethod_builtin (ty _ K P1 s1 v o1 dn) pa slot hty (nd _ K P1 s1 v o1 dn) ?_
  refine callWith_builtin hp ?_
  have z := q K P1 s1 mv o1 (hM.mono g1.1)
  rw [he] at z ⊢
  refine evalArgs_plain (wpAny_mono z ?_ fun _ _ => RX.up g1)
  rintro vs s2 ⟨P2, σ2, ds, g2, o2, dl, q2⟩
  exact upV (g1.trans g2) (q2 _ K P2 s2 (v :: vs) o2 (.cons (dn.mono g2.1) dl))

/-- value[index] -/
theorem EV_Sub {value slice : Expr} {pos} {T id : String} (hl : typeLookup (.type T) "__getitem__" = pure (some (.builtin id)))
    (h : EV c A env Fs value m σ (fun a σ1 => EV c A env Fs slice m σ1 (fun b σ2 => TyIs c a σ2 T ∧ Op c A itm [a, b] σ2 Q X) X) X)
    (hs : ∀ o i, subscripted slice false o i = operate [o, i] (getItem o i) := by intro _ _; with_unfolding_all rfl) : EV c A env Fs (.Subscript value slice pos) m σ Q X := by
  intro K P s mv o hM
  refine Subscript_ (thenV (h K P s mv o hM) fun v P1 σ1 d s1 g1 o1 dn q => ?_)
  refine thenVX (q K P1 s1 mv o1 (hM.mono g1.1)) g1 fun v2 P2 σ2 d2 s2 g2 o2 dn2 q2 => ?_
  exact tail_any (q2.1 _ K P2 s2 v o2 (dn.mono g2.1)) hl (upV (g1.trans g2) (q2.2 _ K P2 s2 [v, v2] o2 (.cons (dn.mono g2.1) (.cons dn2 .nil)))) (hs _ _)

/-- a part of a slice -/
def PV (c : Cx) (A : Around) (env : Env) (Fs : List Fm) (e : Option Expr) (m : Env') (σ : Sto) (Q : Option Int → Sto → Prop) (X : Str → Sto → Prop) : Prop :=
  ∀ K P s mv, Ok c ((env.locals, mv) :: Fs) K P σ s → MOk P mv m → wpAny (mdl c) A (evalPart e env) (fun v s' => ∃ P' σ' i, Gr K P P' ∧ Ok c ((env.locals, mv) :: Fs) K P' σ' s' ∧ IsPart v i ∧ Q i σ') (RX c ((env.locals, mv) :: Fs) K P X) s
theorem PV_none {Q : Option Int → Sto → Prop} (h : Q none σ) : PV c A env Fs none m σ Q X := fun K P s mv o hM => wpAny_evalPart_none ⟨P, σ, none, Gr.refl K P, o, .none, h⟩
theorem PV_some {e : Expr} {Q : Option Int → Sto → Prop} (h : EV c A env Fs e m σ (fun d σ1 => ∃ i, d = .int i ∧ Q (some i) σ1) X) : PV c A env Fs (some e) m σ Q X := fun K P s mv o hM =>
  wpAny_evalPart_some (thenV (h K P s mv o hM) fun v P1 σ1 d s1 g1 o1 dn ⟨i, hd, q⟩ => by subst hd; cases dn; exact ⟨P1, σ1, some i, g1, o1, .int _ _, q⟩)
def Slc (c : Cx) (A : Around) (d : D) (lo hi : Option Int) (σ : Sto) (Q : D → Sto → Prop) (X : Str → Sto → Prop) : Prop :=
  ∀ Fs K P s v sl vl vu, Ok c Fs K P σ s → Den P v d → s.heap.IsSliceOf sl vl vu .none → IsPart vl lo → IsPart vu hi → wpAny (mdl c) A (getItem v (.ref sl)) (RV c Fs K P Q) (RX c Fs K P X) s
theorem EV_Slice {value : Expr} {lower upper : Option Expr} {p pos} {T id : String} (hl : typeLookup (.type T) "__getitem__" = pure (some (.builtin id)))
    (h : EV c A env Fs value m σ (fun a σ1 => PV c A env Fs lower m σ1 (fun lo σ2 => PV c A env Fs upper m σ2 (fun hi σ3 => TyIs c a σ3 T ∧ Slc c A a lo hi σ3 Q X) X) X) X) :
    EV c A env Fs (.Subscript value (.Slice lower upper none p) pos) m σ Q X := by
  intro K P s mv o hM
  refine Subscript_ (thenV (h K P s mv o hM) fun v P1 σ1 d s1 g1 o1 dn q => ?_)
  refine wpAny_Slice (wpAny_mono (q K P1 s1 mv o1 (hM.mono g1.1)) ?_ fun _ _ => RX.up g1)
  rintro vl s2 ⟨P2, σ2, lo, g2, o2, pl, q2⟩
  refine wpAny_mono (q2 K P2 s2 mv o2 ((hM.mono g1.1).mono g2.1)) ?_ fun _ _ => RX.up (g1.trans g2)
  rintro vu s3 ⟨P3, σ3, hi, g3, o3, pu, q3⟩
  refine wpAny_evalPart_none ?_
  have o4 := o3.grow (h' := s3.heap.push { cls := .type "slice", data := .fields #[vl, vu, .none] }) (tk := s3.toks) fun b x e => Heap.get?_push_of_some _ e
  have dn3 := dn.mono (g2.trans g3).1
  exact tail_any (q3.1 _ K P3 _ v o4 dn3) hl (upV ((g1.trans g2).trans g3) (q3.2 _ K P3 _ v _ vl vu o4 dn3 (Heap.IsSliceOf.new _ _ _ _) pl pu)) rfl

theorem Slc_lst_from {ds : List D} {n : Nat} (hz : ds.length ≤ sizeLine) (h : Q (.lst (ds.drop n)) σ) : Slc c A (.lst ds) (some n) none σ Q X := by
  intro Fs K P s v sl vl vu o dn hs pl pu
  cases dn with
  | @lst a ob vs k _ p1 p2 p3 p4 =>
    have hl : s.heap.IsList a (List.toArray vs) := ⟨ob, o.pers _ _ p1, p2, k, p3⟩
    refine wpAny_getItem_list_slice hl hs pl pu .none (by simp) ?_ (by rw [List.size_toArray, p4.length]; exact hz)
    rw [slicePick_from']
    obtain ⟨o2, g2⟩ := o.newPers (h' := s.heap.push { cls := .type "list", data := .seq (List.drop n vs).toArray }) (tk := s.toks) (get_fresh _) (fun b x e => Heap.get?_push_of_some _ e) (Heap.get?_push_size _ rfl)
    exact ⟨_, σ, _, g2, o2, .lst put_self rfl rfl ((p4.drop n).mono g2.1), h⟩
theorem Slc_lst_upto {ds : List D} {n : Nat} (hz : ds.length ≤ sizeLine) (h : Q (.lst (ds.take n)) σ) : Slc c A (.lst ds) none (some n) σ Q X := by
  intro Fs K P s v sl vl vu o dn hs pl pu
  cases dn with
  | @lst a ob vs k _ p1 p2 p3 p4 =>
    have hl : s.heap.IsList a (List.toArray vs) := ⟨ob, o.pers _ _ p1, p2, k, p3⟩
    refine wpAny_getItem_list_slice hl hs pl pu .none (by simp) ?_ (by rw [List.size_toArray, p4.length]; exact hz)
    rw [slicePick_upto']
    obtain ⟨o2, g2⟩ := o.newPers (h' := s.heap.push { cls := .type "list", data := .seq (List.take n vs).toArray }) (tk := s.toks) (get_fresh _) (fun b x e => Heap.get?_push_of_some _ e) (Heap.get?_push_size _ rfl)
    exact ⟨_, σ, _, g2, o2, .lst put_self rfl rfl ((p4.take n).mono g2.1), h⟩
theorem Slc_bytes {b : List UInt8} {i j : Nat} (hz : b.length ≤ sizeLine) (h : Q (.bytes ((b.drop i).take (j - i))) σ) : Slc c A (.bytes b) (some i) (some j) σ Q X := by
  intro Fs K P s v sl vl vu o dn hs pl pu
  cases dn with
  | @bytes _ t =>
    refine getItem_meets (typeIs_bytes _ _ _) (by decide) FB.slot_bytes_getitem FB.entry_bytes_getitem (FB.args_bytes_getitem_2 _ _) (KBc.meets_slice2 (List.toArray b) t sl pl pu) ⟨hs, ?_, fun t' k => ?_⟩
    · exact Nat.le_trans (KBc.size_picked_le _ _ _) (by rw [List.size_toArray]; exact hz)
    · rw [KBc.picked_eq]
      simp only [Option.elim_some, List.size_toArray, clipAt_nat]
      refine ⟨P, σ, .bytes ((b.drop i).take (j - i)), Gr.refl K P, o.toks, ?_, h⟩
      have : List.take (min j b.length - min i b.length) (List.drop (min i b.length) b) = (b.drop i).take (j - i) := by
        by_cases q : i ≤ b.length
        · rw [Nat.min_eq_left q]
          by_cases r : j ≤ b.length
          · rw [Nat.min_eq_left r]
          · rw [Nat.min_eq_right (by omega), List.take_of_length_le (by rw [List.length_drop]; omega), List.take_of_length_le (by rw [List.length_drop]; omega)]
        · rw [List.drop_of_length_le (i := i) (by omega), List.drop_of_length_le (by omega)]; simp
      rw [this]; exact .bytes
theorem Slc_bytes_upto {b : List UInt8} {j : Nat} (hz : b.length ≤ sizeLine) (h : Q (.bytes (b.take j)) σ) : Slc c A (.bytes b) none (some j) σ Q X := by
  intro Fs K P s v sl vl vu o dn hs pl pu
  cases dn with
  | @bytes _ t =>
    refine getItem_meets (typeIs_bytes _ _ _) (by decide) FB.slot_bytes_getitem FB.entry_bytes_getitem (FB.args_bytes_getitem_2 _ _) (KBc.meets_slice2 (List.toArray b) t sl pl pu) ⟨hs, ?_, fun t' k => ?_⟩
    · exact Nat.le_trans (KBc.size_picked_le _ _ _) (by rw [List.size_toArray]; exact hz)
    · rw [KBc.picked_eq]
      simp only [Option.elim_some, Option.elim_none, List.size_toArray, clipAt_nat, List.drop_zero, Nat.sub_zero]
      refine ⟨P, σ, .bytes (b.take j), Gr.refl K P, o.toks, ?_, h⟩
      have : List.take (min j b.length) b = b.take j := by
        by_cases r : j ≤ b.length
        · rw [Nat.min_eq_left r]
        · rw [Nat.min_eq_right (by omega), List.take_of_length_le (Nat.le_refl _), List.take_of_length_le (by omega)]
      rw [this]; exact .bytes

-- items
theorem Itm_lst {ds : List D} {i : Nat} {d : D} (hi : ds[i]? = some d) (hz : i < 2 ^ 63) (h : Q d σ) : Op c A itm [.lst ds, .int i] σ Q X := by
  intro Fs K P s vs o dl
  cases dl with
  | cons a r =>
    cases r with
    | cons b r =>
      cases r
      cases b
      cases a with
      | @lst a ob ws k _ p1 p2 p3 p4 =>
        have hl : s.heap.IsList a (List.toArray ws) := ⟨ob, o.pers _ _ p1, p2, k, p3⟩
        obtain ⟨v, e1, e2⟩ := p4.get hi
        exact wpAny_getItem_list hl (by omega) (by omega) (by simpa using e1) (retV o e2 h)
theorem Itm_bytes {b : List UInt8} {i : Nat} (hi : i < b.length) (hz : b.length ≤ 1099511627776) (h : Q (.int (b.getD i 0).toNat) σ) : Op c A itm [.bytes b, .int i] σ Q X := by
  intro Fs K P s vs o dl
  cases dl with
  | cons a r =>
    cases r with
    | cons b r =>
      cases r
      cases b
      cases a
      exact getItem_bytes hz (by omega) (by omega) (retV o.toks (by simp; exact .int) h)
end
end Mine

-- part LayL
open PySem PySem.W PyProof.Rows
set_option Elab.async false
set_option linter.unusedVariables false
namespace Mine
open PySem PySem.Calls PySem.Spec
section
variable {c : Cx} {A : Around} {env : Env} {Fs : List Fm} {K P P1 : Mp} {σ σ' : Sto} {s : Shared} {m m' : Env'} {Q : D → Sto → Prop} {X : Str → Sto → Prop} {KF : Frag}
theorem Op2 {f : List Value → Sem Value} {d e : D} (h : ∀ Fs K P s v w, Ok c Fs K P σ s → Den P v d → Den P w e → wpAny (mdl c) A (f [v, w]) (RV c Fs K P Q) (RX c Fs K P X) s) : Op c A f [d, e] σ Q X := by
  intro Fs K P s vs o dl
  cases dl with
  | cons a r =>
    cases r with
    | cons b r =>
      cases r
      exact h Fs K P s _ _ o a b
theorem Op1 {f : List Value → Sem Value} {d : D} (h : ∀ Fs K P s v, Ok c Fs K P σ s → Den P v d → wpAny (mdl c) A (f [v]) (RV c Fs K P Q) (RX c Fs K P X) s) : Op c A f [d] σ Q X := by
  intro Fs K P s vs o dl
  cases dl with
  | cons a r =>
    cases r
    exact h Fs K P s _ o a
theorem add_ii {a b : Int} (h : Q (.int (a + b)) σ) : Op c A (bin .Add) [.int a, .int b] σ Q X := Op2 fun Fs K P s v w o d e => by cases d; cases e; exact wpAny_add_int (retV o.toks .int h)
theorem sub_ii {a b : Int} (h : Q (.int (a - b)) σ) : Op c A (bin .Sub) [.int a, .int b] σ Q X := Op2 fun Fs K P s v w o d e => by cases d; cases e; exact PyProof.Rows.sub_int (retV o.toks .int h)
theorem mul_ii {a b : Int} (hm : IntMulOk a b) (h : Q (.int (a * b)) σ) : Op c A (bin .Mult) [.int a, .int b] σ Q X := Op2 fun Fs K P s v w o d e => by cases d; cases e; exact PyProof.Rows.mul_int (retV o.toks .int h) hm
theorem mod_ii {a b : Int} (hb : b ≠ 0) (h : Q (.int (a.fmod b)) σ) : Op c A (bin .Mod) [.int a, .int b] σ Q X := Op2 fun Fs K P s v w o d e => by cases d; cases e; exact mod_int' hb (retV o.toks .int h)
theorem div_ii {a b : Int} (hb : b ≠ 0) (hp : Builtin.divisionGoesByPylong a b = false) (h : Q (.int (a.fdiv b)) σ) : Op c A (bin .FloorDiv) [.int a, .int b] σ Q X := Op2 fun Fs K P s v w o d e => by cases d; cases e; exact floordiv_int hb (retV o.toks .int h) (.inl hp)
theorem pow_ii {a : Int} {n : Nat} (hz : (Builtin.Int.intBits a : Int) * n ≤ 2 ^ 27) (h : Q (.int (a ^ n)) σ) : Op c A (bin .Pow) [.int a, .int n] σ Q X := Op2 fun Fs K P s v w o d e => by cases d; cases e; exact pow_int (by omega) hz (retV o.toks .int (by simpa using h))
theorem eq_ii {a b : Int} (h : Q (.bool (a == b)) σ) : Op c A (cmp .Eq) [.int a, .int b] σ Q X := Op2 fun Fs K P s v w o d e => by cases d; cases e; exact wpAny_eq_int (retV o .bool h)
theorem lt_ii {a b : Int} (h : Q (.bool (decide (a < b))) σ) : Op c A (cmp .Lt) [.int a, .int b] σ Q X := Op2 fun Fs K P s v w o d e => by cases d; cases e; exact wpAny_lt_int (retV o .bool h)
theorem le_ii {a b : Int} (h : Q (.bool (decide (a ≤ b))) σ) : Op c A (cmp .LtE) [.int a, .int b] σ Q X := Op2 fun Fs K P s v w o d e => by cases d; cases e; exact PyProof.Rows.le_int (retV o .bool h)
theorem gt_ii {a b : Int} (h : Q (.bool (decide (b < a))) σ) : Op c A (cmp .Gt) [.int a, .int b] σ Q X := Op2 fun Fs K P s v w o d e => by cases d; cases e; exact PyProof.Rows.gt_int (retV o .bool h)
theorem ge_ii {a b : Int} (h : Q (.bool (decide (b ≤ a))) σ) : Op c A (cmp .GtE) [.int a, .int b] σ Q X := Op2 fun Fs K P s v w o d e => by cases d; cases e; exact PyProof.Rows.ge_int (retV o .bool h)
theorem neg_i {a : Int} (h : Q (.int (-a)) σ) : Op c A (una .USub) [.int a] σ Q X := Op1 fun Fs K P s v o d => by cases d; exact PyProof.Rows.neg_int (retV o.toks .int h)
theorem add_ss {x y : Str} (hz : x.length + y.length ≤ sizeLine) (h : Q (.str (x ++ y)) σ) : Op c A (bin .Add) [.str x, .str y] σ Q X := Op2 fun Fs K P s v w o d e => by cases d; cases e; exact PyProof.Rows.add_str (fun t' tk => retV o.toks .str h) hz
theorem eq_ss {x y : Str} (h : Q (.bool (x == y)) σ) : Op c A (cmp .Eq) [.str x, .str y] σ Q X := Op2 fun Fs K P s v w o d e => by cases d; cases e; exact PyProof.Rows.eq_str (retV o .bool h)
-- len, ord, chr
theorem len_s {x : Str} (hz : x.length ≤ sizeLine) (h : Q (.int x.length) σ) : Op c A (cal (.builtin "len")) [.str x] σ Q X := Op1 fun Fs K P s v o d => by cases d; exact PyProof.Rows.len_str (by rw [sizeLine_eq] at hz; omega) (retV o.toks .int h)
theorem len_b {b : List UInt8} (hz : b.length ≤ sizeLine) (h : Q (.int b.length) σ) : Op c A (cal (.builtin "len")) [.bytes b] σ Q X := Op1 fun Fs K P s v o d => by cases d; exact len_bytes (by rw [List.size_toArray]; rw [sizeLine_eq] at hz; omega) (retV o.toks (by rw [List.size_toArray]; exact .int) h)
theorem len_l {ds : List D} (hz : ds.length ≤ sizeLine) (h : Q (.int ds.length) σ) : Op c A (cal (.builtin "len")) [.lst ds] σ Q X := Op1 fun Fs K P s v o d => by
  cases d with
  | @lst a ob ws k _ p1 p2 p3 p4 =>
    have hl : s.heap.IsList a (List.toArray ws) := ⟨ob, o.pers _ _ p1, p2, k, p3⟩
    exact call_len_list hl (by rw [List.size_toArray, p4.length]; rw [sizeLine_eq] at hz; omega) (retV o.toks (by rw [List.size_toArray, p4.length]; exact .int) h)
theorem len_m {a : Addr} {ds : List D} (hm : (a, AO.list ds) ∈ σ) (hz : ds.length ≤ sizeLine) (h : Q (.int ds.length) σ) : Op c A (cal (.builtin "len")) [.ref a] σ Q X := Op1 fun Fs K P s v o d => by
  cases d
  obtain ⟨ob, e, ws, k, rfl, p4⟩ := o.own _ hm
  have hl : s.heap.IsList a (List.toArray ws) := ⟨_, e, rfl, k, rfl⟩
  exact call_len_list hl (by rw [List.size_toArray, p4.length]; rw [sizeLine_eq] at hz; omega) (retV o.toks (by rw [List.size_toArray, p4.length]; exact .int) h)
theorem ord_s {n : Nat} (h : Q (.int n) σ) : Op c A (cal (.builtin "ord")) [.str ⟨#[n]⟩] σ Q X := Op1 fun Fs K P s v o d => by cases d; exact ord_of_one rfl (retV o.toks .int h)
theorem chr_i {i : Int} (h0 : 0 ≤ i) (h1 : i ≤ 1114111) (h : Q (.str ⟨#[i.toNat]⟩) σ) : Op c A (cal (.builtin "chr")) [.int i] σ Q X := Op1 fun Fs K P s v o d => by cases d; exact chr_of_range h0 h1 (retV o.toks .str h)
theorem range_1 {n : Nat} (h : Q (.rng 0 n) σ) : Op c A (cal (.type "range")) [.int n] σ Q X := Op1 fun Fs K P s v o d => by
  cases d with
  | @int _ t =>
    refine call_range_1 ?_
    obtain ⟨o2, g2⟩ := o.newPers (h' := s.heap.push { cls := .type "range", data := .fields #[.int 0 s.toks, .int n t, .int 1 (s.toks + 1)] }) (tk := s.toks + 1 + 1) (get_fresh _) (fun b x e => Heap.get?_push_of_some _ e) (Heap.get?_push_size _ rfl)
    exact ⟨_, σ, .rng 0 n, g2, o2, .rng (t := s.toks) (u := t) (v := s.toks + 1) (by rw [put_self]; simp), h⟩
-- truth
theorem Tru_bool {b : Bool} : Tru c A (.bool b) σ b := fun Fs K P s v E Q o d q => by cases d; exact wpAny_truthy_bool (q s.toks)
theorem Tru_bytes {b : List UInt8} (hz : b.length ≤ sizeLine) : Tru c A (.bytes b) σ (!b.isEmpty) := fun Fs K P s v E Q o d q => by
  cases d
  refine truthy_bytes (by rw [List.size_toArray]; rw [sizeLine_eq] at hz; omega) ?_
  have : (((List.toArray b).size : Int) != 0) = !b.isEmpty := by
    rw [List.size_toArray]
    cases b with
    | nil => rfl
    | cons x r => simp; omega
  rw [this]
  exact q _
-- appending, extending
theorem append_m {a : Addr} {ds : List D} {d : D} (hp : Put a (.list ds) (.list (ds ++ [d])) σ σ') (hz : ds.length ≤ sizeLine) (h : Q .none σ') : Op c A (cal (.builtin "list.append")) [.ref a, d] σ Q X := Op2 fun Fs K P s v w o d1 e1 => by
  cases d1
  obtain ⟨ob, e, ws, k, rfl, p4⟩ := o.own _ hp.mem
  refine append_at e (fun h' hs ho => ?_) (by rw [List.size_toArray, p4.length]; exact hz)
  refine ⟨P, σ', .none, Gr.refl K P, o.upd (tk := s.toks) hp hs ho ⟨ws ++ [w], k + 1, by simp, p4.append (.cons e1 .nil)⟩, .none, h⟩
end
end Mine

-- part LayM
open PySem PySem.W PyProof.Rows
set_option Elab.async false
set_option linter.unusedVariables false
namespace Mine
open PySem PySem.Calls PySem.Spec
/-- what the class of the streams is -/
structure ExC (KF : Frag) (C : Addr) : Prop where
  ga : findIn KF (.ref C) "__getattribute__" = some (some (.builtin "object.__getattribute__"))
  gk : findIn KF (.ref C) "__getattr__" = some none
  nv : findIn KF (.ref C) "value" = some none
  nr : findIn KF (.ref C) "read" = some none
  cd : ∃ cd, clsIn KF C = some cd ∧ cd.hasDict = true
  sa : findIn KF (.ref C) "__setattr__" = some (some (.builtin "object.__setattr__"))
  po : plainOver KF C = true
section
variable {c : Cx} {A : Around} {env : Env} {Fs : List Fm} {K P P1 : Mp} {σ σ' : Sto} {s : Shared} {m m' : Env'} {Q : D → Sto → Prop} {X : Str → Sto → Prop} {KF : Frag}

theorem findObj_own {C : Addr} {cd : ClassData} {od : Obj} {name : Str} {v : Value} (hc : clsIn KF C = some cd) (hh : cd.hasDict = true) (hf : findIn KF (.ref C) name = some none) (hl : lookIn name od = some (some v)) : findObj KF C (some od) name = some (.value v) := by
  unfold findObj
  rw [hc, hf]
  simp only [Option.bind_some, PySem.W.ownOf, hh, if_true, hl]
theorem entries_get {es : List DictEntry} {ds : List (Str × D)} (h : Entries P es ds) {name : Str} {d : D} (hd : ds.lookup name = some d) : ∃ v, getL name es = some (some v) ∧ Den P v d := by
  unfold getL
  induction h with
  | nil => cases hd
  | @cons hs n t v d' es ds a r ih =>
    by_cases q : name = n
    · subst q
      simp [List.lookup] at hd
      subst hd
      refine ⟨v, ?_, a⟩
      simp [List.find?, Value.isStr]
    · have q' : (name == n) = false := by simp [q]
      simp [List.lookup, q'] at hd
      obtain ⟨w, e, dn⟩ := ih hd
      refine ⟨w, ?_, dn⟩
      have q2 : (n == name) = false := by simp [Ne.symm q]
      have key : (List.find? (fun x => x.key.isStr name) (⟨hs, .str n t, v⟩ :: es)) = List.find? (fun x => x.key.isStr name) es := by
        rw [List.find?_cons]
        simp only [Value.isStr, q2]
      rw [key]
      cases e0 : List.find? (fun x => x.key.isStr name) es with
      | some y => rw [e0] at e; exact e
      | none => rw [e0] at e; simp only at e; split at e <;> cases e
theorem inst_of {a C d : Addr} {ob : Obj} (h1 : s.heap.get? a = some (instObj C d)) (h2 : s.heap.get? d = some ob) : InstAt s.heap a (instObj C d) C (some ob) := ⟨h1, rfl, rfl, h2⟩

abbrev gat (name : Str) : List Value → Sem Value := fun vs => match vs with | [x] => getAttr x name true | _ => unsupported ""
theorem gat_pos {C d : Addr} {b : List UInt8} {pos : Nat} (G : Gd c KF) (E : ExC KF C) (hm : (d, AO.sdict b pos) ∈ σ) (h : Q (.int pos) σ) : Op c A (gat "value") [.strm C d] σ Q X := Op1 fun Fs K P s v o dn => by
  cases dn with
  | @strm a _ _ p1 =>
    obtain ⟨ob, e, es, n, fa, rfl, en, rd⟩ := o.own _ hm
    obtain ⟨w, e1, e2⟩ := entries_get en (name := "value") (d := .int pos) rfl
    obtain ⟨cd, hc, hcd⟩ := E.cd
    cases e2
    exact get_value (G.X.keeps o.keeps) (inst_of (o.pers _ _ p1) e) E.ga (findObj_own hc hcd E.nv ((lookIn_dict _ es n).trans e1)) rfl (retV o.toks .int h)
theorem EV_Attr {x attr : Str} {xp pos} (h : EV c A env Fs (.Name x xp) m σ (fun d σ1 => Op c A (gat attr) [d] σ1 Q X) X)
    (he : eval (.Attribute (.Name x xp) attr pos) env = (do
      let o ← eval (.Name x xp) env
      standAt pos.atName
      let r ← holding [o] (getAttr o attr true)
      letTemporaryGo (.Name x xp) o r
      pure r) := by with_unfolding_all rfl) : EV c A env Fs (.Attribute (.Name x xp) attr pos) m σ Q X := by
  intro K P s mv o hM
  refine Attribute_Name_ (thenV (h K P s mv o hM) fun v P1 σ1 d s1 g1 o1 dn q => ?_) he
  exact upV g1 (q _ K P1 s1 [v] o1 (.cons dn .nil))

-- a name of an object set
def putD (ds : List (Str × D)) (name : Str) (d : D) : List (Str × D) := match ds with
  | [] => [(name, d)]
  | (n, x) :: r => if n = name then (n, d) :: r else (n, x) :: putD r name d
theorem entries_put {es : List DictEntry} {ds : List (Str × D)} (h : Entries P es ds) {name : Str} {d : D} {hs : Int} {t : Tok} {v : Value} (dn : Den P v d) : Entries P (putL name hs (.str name t) v es) (putD ds name d) := by
  induction h with
  | nil => exact .cons dn .nil
  | @cons hs' n t' v' d' es ds a r ih =>
    unfold putL putD
    by_cases q : n = name
    · subst q
      have : (Value.str n t').isStr n = true := by simp [Value.isStr]
      simp only [this, if_true]
      exact .cons dn r
    · have : (Value.str n t').isStr name = false := by simp [Value.isStr, q]
      simp only [this, if_neg q]
      exact .cons a ih
theorem entries_len {es : List DictEntry} {ds : List (Str × D)} (h : Entries P es ds) : es.length = ds.length := by
  induction h with
  | nil => rfl
  | cons _ _ ih => simp [ih]
theorem entries_look {es : List DictEntry} {ds : List (Str × D)} (h : Entries P es ds) (name : Str) : (getL name es).isSome = true := by
  unfold getL
  have : es.any (·.refKey) = false := by
    induction h with
    | nil => rfl
    | cons _ _ ih => simp only [List.any_cons, ih, Bool.or_false]; rfl
  rw [this]
  cases List.find? (fun x => x.key.isStr name) es <;> rfl

/-- an object's dict takes a name -/
theorem set_own_dict {prog : Program} {w : World} {R : Result → Shared → Prop} {x C dx : Addr} {name : Str} {tk : Tok} {v : Value} {es : List DictEntry} {n : Nat} (X : KF.In s.heap) (hx : s.heap.get? x = some (instObj C dx)) (hD : s.heap.get? dx = some (dictOf es n))
    (E : ExC KF C) (hf : findIn KF (.ref C) name = some none) (hl : (getL name es).isSome = true) (hz : es.length ≤ 1000)
    (h : ∀ h' hs t n', Heap.SameBut dx s.heap h' → h'.get? dx = some (dictOf (putL name hs (.str name t) v es) n') → R (.ok (.ret .none)) { s with heap := h', toks := s.toks + 1 }) :
    codeAny (model prog w) A (.call (.builtin "object.__setattr__") ⟨[.ref x, .str name tk, v], []⟩) R s := by
  obtain ⟨cd, hc, hcd⟩ := E.cd
  refine osa_open (r := none) X (inst_of hx hD) E.po (by unfold takerIn; rw [hf]; rfl) fun b => ?_
  let hs := PyData.keyHash w.params name
  have D' := Heap.get?_update_self (Obj.putName name hs (.str name s.toks) v) hD (by rw [putName_dict]; rfl)
  rw [putName_dict] at D'
  refine wpAny_bind (wpAny_pure (wpAny_bind (wpAny_bind (wpAny_loadPart hx (wpAny_bind ((looks_clsIn X hc).here ?_))))))
  rw [hcd]
  refine wpAny_pure (a := some dx) (wpAny_bind (wpAny_pure (wpAny_bind ?_)))
  unfold nsSet
  refine wpAny_bind (wpAny_bind (wpAny_askSetting (wpAny_pure (wpAny_bind (wpAny_mkText (wpAny_bind (wpAny_loadPart hD ?_)))))))
  have cc : (!es.toArray.any (·.key.isStr name) && es.toArray.any (·.refKey)) = false := by
    rw [← Array.any_toList, ← Array.any_toList]
    unfold getL at hl
    split at hl
    · rename_i en he
      rw [List.any_eq_true.mpr ⟨en, List.mem_of_find?_eq_some he, List.find?_some he⟩]; rfl
    · split at hl
      · cases hl
      · rename_i z; rw [Bool.not_eq_true] at z; rw [z, Bool.and_false]
  dsimp only
  rw [aRefKeyMayBeTheName_at, cc]
  refine wpAny_updatePart hD ?_
  refine wpAny_bind (wpAny_lookBehind D' (pastItsLine_dict (by
    rw [List.size_toArray, sizeLine_eq]
    have : (putL name hs (.str name s.toks) v es).length ≤ es.length + 1 := by
      clear D' hD hl hz cc h
      induction es with
      | nil => simp [putL]
      | cons e r ih => unfold putL; split <;> simp only [List.length_cons] <;> omega
    omega)) ?_)
  exact wpAny_pure (h _ hs s.toks _ (Heap.SameBut.update _ _ _) D')
end
end Mine

-- part LayN
open PySem PySem.W PyProof.Rows
set_option Elab.async false
set_option linter.unusedVariables false
namespace Mine
open PySem PySem.Calls PySem.Spec
/-- a name set at a thing -/
def SetA (c : Cx) (A : Around) (name : Str) (d x : D) (σ : Sto) (Q : Sto → Prop) : Prop := ∀ Fs K P s v w E, Ok c Fs K P σ s → Den P v d → Den P w x → wpAny (mdl c) A (setAttr v name w) (RU c Fs K P Q) E s
section
variable {c : Cx} {A : Around} {env : Env} {Fs : List Fm} {K P P1 : Mp} {σ σ' : Sto} {s : Shared} {m m' : Env'} {Q : D → Sto → Prop} {X : Str → Sto → Prop} {KF : Frag}
theorem seta_i {C d : Addr} {ds : List (Str × D)} {name : Str} {x : D} {Q : Sto → Prop} (G : Gd c KF) (E : ExC KF C) (hf : findIn KF (.ref C) name = some none) (hp : Put d (.idict ds) (.idict (putD ds name x)) σ σ') (hz : ds.length ≤ 1000) (h : Q σ') : SetA c A name (.strm C d) x σ Q := by
  intro Fs K P s v w Er o dn dx
  cases dn with
  | @strm a _ _ p1 =>
    obtain ⟨ob, e, es, n, rfl, en⟩ := o.own _ hp.mem
    have o1 := o.toks (tk := s.toks + 1)
    refine set_plain (G.X.keeps o.keeps) (inst_of (o.pers _ _ p1) e) E.sa ?_
    refine set_own_dict (s := { s with toks := s.toks + 1 }) (G.X.keeps o.keeps) (o.pers _ _ p1) e E hf (entries_look en _) (by rw [entries_len en]; exact hz) fun h' hs t n' sb e' => ?_
    exact ⟨P, σ', Gr.refl K P, o1.upd (tk := s.toks + 1 + 1) hp sb e' ⟨_, n', rfl, entries_put en dx⟩, h⟩
theorem seta_pos {C d : Addr} {b : List UInt8} {pos p' : Nat} {Q : Sto → Prop} (G : Gd c KF) (E : ExC KF C) (hp : Put d (.sdict b pos) (.sdict b p') σ σ') (h : Q σ') : SetA c A "value" (.strm C d) (.int p') σ Q := by
  intro Fs K P s v w Er o dn dx
  cases dn with
  | @strm a _ _ p1 =>
    obtain ⟨ob, e, es, n, fa, rfl, en, rd⟩ := o.own _ hp.mem
    have o1 := o.toks (tk := s.toks + 1)
    refine set_plain (G.X.keeps o.keeps) (inst_of (o.pers _ _ p1) e) E.sa ?_
    refine set_own_dict (s := { s with toks := s.toks + 1 }) (G.X.keeps o.keeps) (o.pers _ _ p1) e E E.nv (entries_look en _) (by rw [entries_len en]; simp) fun h' hs t n' sb e' => ?_
    exact ⟨P, σ', Gr.refl K P, o1.upd (tk := s.toks + 1 + 1) hp sb e' ⟨_, n', fa, rfl, entries_put en dx, rd⟩, h⟩
theorem S1_Assign_Attr {x attr : Str} {xp apos pos} {value : Expr} {Q : Fl → Env' → Sto → Prop} {X : Str → Env' → Sto → Prop} (h : EV c A env Fs value m σ (fun d σ1 => EV c A env Fs (.Name x xp) m σ1 (fun t σ2 => SetA c A attr t d σ2 (fun σ3 => Q .next m σ3)) (fun msg σ => X msg m σ)) (fun msg σ => X msg m σ))
    (hs : swapsWith value (some (.Attribute (.Name x xp) attr apos)) pos.line env = pure false := by rfl) : S1 c A env Fs (.Assign [.Attribute (.Name x xp) attr apos] value pos) m σ Q X := by
  intro K P s mv o hM
  refine plainObj_wpAny_Assign_Attribute (thenVS hM (h K P s mv o hM) (Gr.refl K P) fun v P1 σ1 d s1 g1 o1 dn q => ?_) hs
  refine thenVS (hM.mono g1.1) (q K P1 s1 mv o1 (hM.mono g1.1)) g1 fun v2 P2 σ2 d2 s2 g2 o2 dn2 q2 => ?_
  refine wpAny_mono (q2 _ K P2 s2 v2 v _ o2 dn2 (dn.mono g2.1)) ?_ fun _ _ z => z
  rintro _ s3 ⟨P3, σ3, g3, o3, q3⟩
  exact ⟨P3, σ3, mv, m, .next, (g1.trans g2).trans g3, o3, ((hM.mono g1.1).mono g2.1).mono g3.1, .next, q3⟩

-- the known part
theorem Ok.zoom (o : Ok c Fs K P σ s) : Ok { c with p₀ := P } Fs K P σ s :=
  ⟨o.base, o.kept, o.pers, fun p hp => let ⟨ob, e, r⟩ := o.own p hp; ⟨ob, e, by cases h : p.2 <;> rw [h] at r <;> exact r⟩, o.frs, o.nd, o.off, o.gens, o.os, o.drawn, Sub.refl P⟩
theorem Ok.unzoom (o : Ok { c with p₀ := P1 } Fs K P σ s) (h : Sub c.p₀ P1) : Ok c Fs K P σ s :=
  ⟨o.base, o.kept, o.pers, fun p hp => let ⟨ob, e, r⟩ := o.own p hp; ⟨ob, e, by cases h : p.2 <;> rw [h] at r <;> exact r⟩, o.frs, o.nd, o.off, o.gens, o.os, o.drawn, h.trans o.low⟩
theorem EV_freeP {x : Str} {pos} {a : Addr} {ob : Obj} {v : Value} {d : D} (hc : env.cells.lookup x = some a) (hp : c.p₀ a = some ob) (hv : ob.data = .cell (some v)) (dn : Den c.p₀ v d) (h : Q d σ) (hk : env.scope.kind = .function := by rfl) (hl : env.kindOf x = some .free := by rfl) (hd : (x == ("__debug__" : Str)) = false := by decide) (hn : (x == ("__classdict__" : Str)) = false := by decide) :
    EV c A env Fs (.Name x pos) m σ Q X := fun _ _ _ _ o _ => wpAny_Name (wpAny_loadName_free hk hl hc ⟨ob, o.pers _ _ (o.low _ _ hp), hv⟩ (retV o (dn.mono o.low) h) hn) hd

/-- an own thing made -/
theorem EV_Call_cls {f e : Expr} {es : List Expr} {pos} {C fI : Addr} (G : Gd c KF) (hk : keepIn KF (.ref C) = true) (hm : makesIn KF C = true) (hi : findIn KF (.ref C) "__init__" = some (some (.ref fI))) (hfn : typeIn KF (.ref fI) = some (.type "function"))
    (h : EV c A env Fs f m σ (fun d σ1 => d = .ref C ∧ LV c A env Fs pos (e :: es) m σ1 (fun ds σ2 => ∀ dx mv vs, CallC c (A.under (.builtin "type.__call__" ⟨.ref C :: vs, []⟩)) ((env.locals, mv) :: Fs) fI (.strm C dx :: ds) ((dx, .idict []) :: σ2) (fun r σ3 => r = .none ∧ Q (.strm C dx) σ3) X) X) X)
    (hf : ∀ o n p, f ≠ .Attribute o n p := by intro _ _ _ z; cases z) (he : starEach (e :: es) env = (false, eval e env) :: starEach es env := by rfl) (hp : (backTo pos (starEach es env)).any (·.1) = false := by rfl) : EV c A env Fs (.Call f (e :: es) [] pos) m σ Q X := by
  intro K P s mv o hM
  refine call_any hf (thenV (h K P s mv o hM) fun v P1 σ1 d s1 g1 o1 dn q => ?_)
  obtain ⟨rfl, q⟩ := q
  have hv : v = .ref C := by cases dn; rfl
  subst hv
  refine callWith_K (G.X.keeps o1.keeps) hk (wpAny_mono (q K P1 s1 mv o1 (hM.mono g1.1)) ?_ fun _ _ => RX.up g1) he hp
  rintro vs s2 ⟨P2, σ2, ds, g2, o2, dl, q2⟩
  refine ⟨G.X.keeps o2.keeps, wpAny_call ?_⟩
  have o3 := o2.newOwn (h' := s2.heap.push emptyDict) (tk := s2.toks) (ao := .idict []) (get_fresh _) (fun b x e => Heap.get?_push_of_some _ e) (Heap.get?_push_size _ rfl) ⟨[], 0, rfl, .nil⟩
  obtain ⟨o4, g4⟩ := o3.newPers (h' := (s2.heap.push emptyDict).push (instObj C s2.heap.objs.size)) (tk := s2.toks) (get_fresh _) (fun b x e => Heap.get?_push_of_some _ e) (Heap.get?_push_size _ rfl)
  have key := q2 s2.heap.objs.size mv vs K _ _ (.ref (s2.heap.push emptyDict).objs.size :: vs) o4 (.cons (.strm put_self) (dl.mono g4.1))
  obtain ⟨hh, gg, dd, tt, oo⟩ := s2
  refine make_core (makes_of (G.X.keeps o2.keeps) hm) (looks_findIn (G.X.keeps o2.keeps) hi) (fun self => bind_fn (G.X.keeps o2.keeps) self hfn) (.inl rfl) ?_
  have hs : (hh.push emptyDict).objs.size = hh.objs.size + 1 := Heap.size_push ..
  dsimp only at key g4
  rw [hs] at key g4
  refine codeAny_mono key fun r s' z => ?_
  rcases r with e | f
  · exact RX.up ((g1.trans g2).trans g4) z
  · cases f with
    | ret v =>
      obtain ⟨P5, σ5, d5, g5, o5, dn5, rfl, q5⟩ := z
      refine ⟨by cases dn5; rfl, P5, σ5, .strm C hh.objs.size, ((g1.trans g2).trans g4).trans g5, o5, ?_, q5⟩
      exact .strm (g5.1 _ _ put_self)
    | _ => exact z.elim

/-- an inner def -/
theorem S1_Def {scope : Scope} {params : Arguments} {body : List Stmt} {pos : Pos} {cc T : Addr} {clos : List (Str × Addr)} {Q : Fl → Env' → Sto → Prop} {X : Str → Env' → Sto → Prop} (G : Gd c KF) (fa : FA A env Fs)
    (hq : qualnameIn env "_law_read" "_law_read" = c.qual) (hline : pos.line = c.line) (hcol : pos.col = c.col) (hcode : env.code = .ref cc) (CH : CodeHd c.h₀ cc T) (hT : (T, AO.tab) ∈ σ) (hcl : closureFor scope env = pure clos)
    (h : NV c A env Fs "_law_read" (.clo c.qual params body scope clos) m σ (fun m2 σ2 => Q .next m2 σ2))
    (hd0 : params.defaults = [] := by rfl) (hk0 : params.kw_defaults = [] := by rfl) (ha : annTrees params none env = [] := by rfl) : S1 c A env Fs (.FunctionDef "_law_read" params body [] none [] scope none "_law_read" pos) m σ Q X := by
  intro K P s mv o hM
  refine nestDef_K hd0 hk0 ha ?_
  rw [hq]
  obtain ⟨p, loose, mean, mg, mb, Tp⟩ := G.top
  obtain ⟨ob, e, ps, rfl, hps⟩ := o.own _ hT
  have hgs := Tp.g.keeps o.keeps
  obtain ⟨bm, obm, b1, b2, b3, b4, b5, b6⟩ := Tp.bmain
  have hgP : mainGlobals ≠ T := fun q => by
    obtain ⟨o', es, ep, e', hd, _⟩ := hgs
    rw [q, e] at e'; cases e'; cases hd
  have hbP : bm ≠ T := fun q => by
    have e' := o.keeps _ _ b3
    rw [q, e] at e'; cases e'; cases b4
  have hbG : bm ≠ mainGlobals := fun q => by
    obtain ⟨o', es, ep, e', hd, _⟩ := Tp.g
    rw [q, e'] at b3; cases b3; rw [hd] at b6; cases b6
  have BA : s.heap.BuiltinsAt mg T := ⟨bm, obm, b1, b2, hbG, hbP, o.keeps _ _ b3, b4, b5, b6⟩
  have fin : ∀ (P1 : Mp) (s1 : Shared) (f : Addr), Gr K P P1 → Ok c ((env.locals, mv) :: Fs) K P1 σ s1 → Den P1 (.ref f) (.clo c.qual params body scope clos) → wpAny (mdl c) A (storeName env "_law_read" (.ref f)) (fun _ s'' => RS c env.locals Fs K P Q .next s'') (RXS c env.locals Fs K P X) s1 := by
    intro P1 s1 f g1 o1 dn
    refine wpAny_mono (h K P1 s1 mv _ _ o1 (hM.mono g1.1) dn) ?_ fun _ _ z => z
    rintro _ s2 ⟨P2, σ2, mv2, m2, g2, o2, hM2, q2⟩
    exact ⟨P2, σ2, mv2, m2, .next, g1.trans g2, o2, hM2, .next, q2⟩
  rcases hps with rfl | ⟨c', rfl, hc'⟩
  · refine makeFunction_K (mg := mg) hcl fa.1.glob hgs hcode (CH.keeps o.keeps) e trivial rfl hgP BA fun c' ctv doc h' tk hx hge hlt hrec htb => ?_
    obtain ⟨c₂, oc, ws, t, e2, hoc, hd, hv⟩ := hrec
    cases e2
    have hcn : s.heap.get? c' = none := Heap.get?_none_of_le hge
    have hcT : c' ≠ T := fun q => by rw [q, e] at hcn; cases hcn
    -- the code stays; the table holds it
    obtain ⟨l1, l2, rfl⟩ := List.append_of_mem hT
    have pm : (l1 ++ (T, AO.tab) :: l2).Perm ((T, AO.tab) :: (l1 ++ l2)) := List.perm_middle
    have o0 := o.perm pm.symm
    have hTn : T ∉ adr (l1 ++ l2) ((env.locals, mv) :: Fs) := (List.nodup_cons.mp o0.nd).1
    have hToff := o0.off T (.head _)
    have o1 : Ok c ((env.locals, mv) :: Fs) K P (l1 ++ l2) { s with heap := h', toks := tk } := (o0.drop (List.sublist_cons_self _ _)).but (fun b x hb e => hx b x (fun q => hb (q ▸ .head _)) e) hTn hToff.1 hToff.2
    obtain ⟨o2, g2⟩ := o1.addP (a := c') hoc (o.notK hcn) (o.notP hcn) fun z => o0.notIn hcn (List.mem_cons_of_mem _ z)
    have hPT : put P c' oc T = none := by unfold put; rw [if_neg (Ne.symm hcT)]; exact hToff.2
    have o3 := (o2.addO (a := T) (ao := .tab) htb ⟨_, rfl, .inr ⟨c', by rw [hline, hcol]; rfl, oc, ws, t, put_self, hd, hv⟩⟩ hToff.1 hPT hTn).perm pm
    obtain ⟨o4, g4⟩ := o3.newPers (h' := h'.push (fnMade "_law_read" c.qual params body scope clos doc ((mg "__name__").getD .none) c' ctv)) (tk := tk) (get_fresh _) (fun b x e => Heap.get?_push_of_some _ e) (Heap.get?_push_size _ rfl)
    exact fin _ _ _ (g2.trans g4) o4 (.clo put_self (g4.1 _ _ put_self) hd hv)
  · have hf : codeAmong pos #[rawInt c.line, rawInt c.col, .ref c'].toList = some (.ref c') := by
      show (if (c.line : Int) == pos.line && (c.col : Int) == pos.col then some (Value.ref c') else _) = _
      rw [hline, hcol]; simp
    refine makeFunction_hit (mg := mg) hcl fa.1.glob hgs hcode (CH.keeps o.keeps) e trivial hf BA fun ctv doc h' tk hk hsz => ?_
    obtain ⟨oc, ws, t, a1, a2, a3⟩ := hc'
    have o1 := o.grow (tk := tk) hk
    obtain ⟨o4, g4⟩ := o1.newPers (h' := h'.push (fnMade "_law_read" c.qual params body scope clos doc ((mg "__name__").getD .none) c' ctv)) (tk := tk) (get_fresh _) (fun b x e => Heap.get?_push_of_some _ e) (Heap.get?_push_size _ rfl)
    exact fin _ _ _ g4 o4 (.clo put_self (g4.1 _ _ a1) a2 a3)

/-- the parts of a stream put together -/
theorem Ok.stream {C d c1 c2 : Addr} {b : List UInt8} {pos : Nat} (hC : C = c.C) (o : Ok c Fs K P ((d, .idict [("value", .int pos), ("read", .clo c.qual c.params c.body c.scope [("octets", c2), ("f", c1)])]) :: (c1, .cell (some (.strm C d))) :: (c2, .cell (some (.bytes b))) :: σ) s) :
    ∃ P', Gr K P P' ∧ Ok c Fs K P' ((d, .sdict b pos) :: σ) s := by
  subst hC
  obtain ⟨ob, e, es, n, rfl, en⟩ := o.own _ (.head _)
  obtain ⟨ob1, e1, v1, h1, x1, rfl, dn1⟩ := o.own (c1, .cell (some (.strm c.C d))) (.tail _ (.head _))
  obtain ⟨ob2, e2, v2, h2, x2, rfl, dn2⟩ := o.own (c2, .cell (some (.bytes b))) (.tail _ (.tail _ (.head _)))
  have nd := o.nd
  have n1 := List.nodup_cons.mp nd
  have n2 := List.nodup_cons.mp n1.2
  have n3 := List.nodup_cons.mp n2.2
  have f0 := o.off d (.head _)
  have f1 := o.off c1 (.tail _ (.head _))
  have f2 := o.off c2 (.tail _ (.tail _ (.head _)))
  have o0 : Ok c Fs K P σ s := o.drop ((List.Sublist.refl σ).cons _ |>.cons _ |>.cons _)
  obtain ⟨o1, g1⟩ := o0.addP (a := c1) e1 f1.1 f1.2 fun z => n2.1 (.tail _ z)
  have f2' : put P c1 ob1 c2 = none := by
    unfold put; rw [if_neg (fun q => n2.1 (by rw [← q]; exact .head _))]; exact f2.2
  obtain ⟨o2, g2⟩ := o1.addP (a := c2) e2 f2.1 f2' n3.1
  have f0' : put (put P c1 ob1) c2 ob2 d = none := by
    unfold put
    rw [if_neg (fun q => n1.1 (by rw [q]; exact .tail _ (.head _))), if_neg (fun q => n1.1 (by rw [q]; exact .head _))]; exact f0.2
  have gg := g1.trans g2
  refine ⟨_, gg, o2.addO (a := d) (ao := .sdict b pos) e ?_ f0.1 f0' fun z => n1.1 (.tail _ (.tail _ z))⟩
  cases en with
  | cons a1 r1 =>
    cases r1 with
    | cons a2 r2 =>
      cases r2
      cases a2 with
      | @clo fa _ _ _ _ _ doc pm c' ctv o' vs t p1 p2 p3 p4 =>
        cases dn1 with
        | @strm a _ _ q1 =>
          cases dn2 with
          | @bytes _ tk =>
            refine ⟨_, n, fa, rfl, .cons (a1.mono gg.1) (.cons .ref .nil), a, c1, c2, ob1, ob2, doc, pm, c', ctv, tk, gg.1 _ _ q1, gg.1 _ _ p1, g2.1 _ _ put_self, h1, put_self, h2, o', vs, t, gg.1 _ _ p2, p3, p4⟩
end
end Mine

-- part LayO
open PySem PySem.W PyProof.Rows
set_option Elab.async false
set_option linter.unusedVariables false
namespace Mine
open PySem PySem.Calls PySem.Spec
theorem boot_len : bootBuiltins "len" = some (.builtin "len") := by kernel_rfl
theorem boot_ord : bootBuiltins "ord" = some (.builtin "ord") := by kernel_rfl
theorem boot_chr : bootBuiltins "chr" = some (.builtin "chr") := by kernel_rfl
theorem boot_range : bootBuiltins "range" = some (.type "range") := by kernel_rfl
theorem boot_bytes : bootBuiltins "bytes" = some (.type "bytes") := by kernel_rfl
theorem boot_str : bootBuiltins "str" = some (.type "str") := by kernel_rfl
theorem boot_sum : bootBuiltins "sum" = some (.builtin "sum") := by kernel_rfl
theorem boot_VE : bootBuiltins "ValueError" = some (.type "ValueError") := by kernel_rfl

/-- the reader's text -/
structure RdText (c : Cx) : Prop where
  scope : c.scope = { kind := .function, names := [("n", .local), ("got", .local), ("f", .free), ("octets", .free), ("len", .globalImplicit)], isGenerator := false, isCoroutine := false, more := [] }
  params : ∃ p, c.params = { posonlyargs := [], args := [{ arg := "n", annotation := none, pos := p }], vararg := none, kwonlyargs := [], kw_defaults := [], kwarg := none, defaults := [] }
  body : ∃ p1 p2 p3 p4 p5 p6 p7 p8 p9 p10 p11 p12 p13 p14 p15 p16 p17 p18 p19 p20 p21 p22, c.body = [
    .Assign [.Name "got" p1] (.Subscript (.Name "octets" p2) (.Slice (some (.Attribute (.Name "f" p3) "value" p4)) (some (.BinOp (.Attribute (.Name "f" p5) "value" p6) .Add (.Name "n" p7) p8)) none p9) p10) p11,
    .Assign [.Attribute (.Name "f" p12) "value" p13] (.BinOp (.Attribute (.Name "f" p14) "value" p15) .Add (.Call (.Name "len" p16) [.Name "got" p17] [] p18) p19) p20,
    .Return (some (.Name "got" p21)) p22]
section
variable {c : Cx} {A : Around} {env : Env} {Fs : List Fm} {K P P1 : Mp} {σ σ' : Sto} {s : Shared} {m m' : Env'} {Q : D → Sto → Prop} {X : Str → Sto → Prop} {KF : Frag}
theorem read_call {fa d : Addr} {b : List UInt8} {p n : Nat} (G : Gd c KF) (E : ExC KF c.C) (T : RdText c) (hlen : nsIn KF mainGlobals "len" = some none) (fr : FrA A Fs) (hroom : A.depth < recursionLimit)
    (hz : b.length ≤ sizeLine) (hp : Put d (.sdict b p) (.sdict b (p + ((b.drop p).take n).length)) σ σ') (h : Q (.bytes ((b.drop p).take n)) σ') (o : Ok c Fs K P σ s) (rd : RdAt c P fa b d) {v : Value} (dn : Den P v (.int n)) :
    wpAny (mdl c) A (call (.ref fa) [v]) (RV c Fs K P Q) (RX c Fs K P X) s := by
  obtain ⟨a, c1, c2, o1, o2, doc, pm, c', ctv, tk, e1, e2, e3, e4, e5, e6, oc, vs, t, e7, e8, e9⟩ := rd
  obtain ⟨pp, hpar⟩ := T.params
  obtain ⟨p1, p2, p3, p4, p5, p6, p7, p8, p9, p10, p11, p12, p13, p14, p15, p16, p17, p18, p19, p20, p21, p22, hbody⟩ := T.body
  have hsc := T.scope
  rw [hpar, hsc, hbody] at e2
  have G' : Gd { c with p₀ := P } KF := ⟨G.X, G.top⟩
  have key : CallC { c with p₀ := P } A Fs fa [.int n] σ Q X := by
    refine call_fn (ns := ["n"]) (cl := [("octets", c2), ("f", c1)]) (fo := _) (fun K' P' s' o' => o'.pers _ _ (o'.low _ _ e2)) rfl (fun K' P' s' o' => ⟨c', oc, vs, t, rfl, o'.pers _ _ (o'.low _ _ e7), e8, e9⟩) G.lim hroom fr (fun ws hw => ?_) (by intro x hx; rw [List.mem_singleton.mp hx]; rfl) (fun L fa' => ?_) rfl rfl rfl (by decide)
    · match ws, hw with
      | [w], _ => rfl
    · have dF : Den ({ c with p₀ := P } : Cx).p₀ (.ref a) (.strm c.C d) := .strm e1
      have dO : Den ({ c with p₀ := P } : Cx).p₀ (.bytes (List.toArray b) tk) (.bytes b) := .bytes
      have hmem := hp.mem
      refine SV_cons (S1_Assign_Name ?_)
      refine EV_Slice FB.slot_bytes_getitem.lookup ?_
      refine EV_freeP (a := c2) rfl e5 e6 dO ?_
      refine PV_some (EV_Attr (EV_freeP (a := c1) rfl e3 e4 dF (gat_pos G' E hmem ⟨_, rfl, ?_⟩)))
      refine PV_some (EV_BinOp (EV_Attr (EV_freeP (a := c1) rfl e3 e4 dF (gat_pos G' E hmem (EV_local rfl (add_ii ⟨_, rfl, TyIs_bytes, ?_⟩))))))
      have : ((p : Int) + (n : Int)) = ((p + n : Nat) : Int) := by omega
      rw [this]
      refine Slc_bytes hz ?_
      rw [Nat.add_sub_cancel_left]
      refine NV_local (SV_cons (S1_Assign_Attr ?_))
      refine EV_BinOp (EV_Attr (EV_freeP (a := c1) rfl e3 e4 dF (gat_pos G' E hmem ?_)))
      refine EV_Call_bi (id := "len") (EV_builtin G' fa' hlen boot_len (fun _ => .bi) ⟨rfl, LV_cons (EV_local rfl (LV_nil (len_b (Nat.le_trans (by simp; omega) hz) (add_ii ?_))))⟩)
      refine EV_freeP (a := c1) rfl e3 e4 dF ?_
      have e0 : ((p : Int) + (((b.drop p).take n).length : Nat)) = ((p + ((b.drop p).take n).length : Nat) : Int) := by omega
      rw [e0]
      refine seta_pos G' E hp ?_
      exact SV_cons (S1_Return (EV_local rfl h))
  refine wpAny_mono (key.op K P s [v] o.zoom (.cons dn .nil)) ?_ ?_
  · rintro w s' ⟨P', σ1, x, g, o', dw, q⟩
    exact ⟨P', σ1, x, g, o'.unzoom o.low, dw, q⟩
  · rintro ev s' ⟨e, P', σ1, msg, rfl, g, o', t', q⟩
    exact ⟨e, P', σ1, msg, rfl, g, o'.unzoom o.low, t', q⟩
end
end Mine

-- part LayP
open PySem PySem.W PyProof.Rows
set_option Elab.async false
set_option linter.unusedVariables false
namespace Mine
open PySem PySem.Calls PySem.Spec
section
variable {c : Cx} {A : Around} {env : Env} {Fs : List Fm} {K P P1 : Mp} {σ σ' : Sto} {s : Shared} {m m' : Env'} {Q : D → Sto → Prop} {X : Str → Sto → Prop} {KF : Frag}
/-- f.read(n) -/
theorem EV_Read {o e : Expr} {apos pos : Pos} {pl : Sem Bool} {d : Addr} {b : List UInt8} {p : Nat} (G : Gd c KF) (E : ExC KF c.C) (T : RdText c) (hlen : nsIn KF mainGlobals "len" = some none) (fa : FA A env Fs) (hroom : A.depth < recursionLimit)
    (h : EV c A env Fs o m σ (fun x σ1 => x = .strm c.C d ∧ (d, AO.sdict b p) ∈ σ1 ∧ LV c A env Fs pos [e] m σ1 (fun ds σ2 => ∃ n σ3, ds = [.int (n : Nat)] ∧ b.length ≤ sizeLine ∧ Put d (.sdict b p) (.sdict b (p + ((b.drop p).take n).length)) σ2 σ3 ∧ Q (.bytes ((b.drop p).take n)) σ3) X) X)
    (hc : eval (.Call (.Attribute o "read" apos) [e] [] pos) env = (do
      let ov ← eval o env
      standAt apos.atName
      let (f, first) ← holding [ov] (getMethod ov "read" pl)
      callWith pos f first (backTo pos (starEach [e] env)) []) := by rfl)
    (he : starEach [e] env = [(false, eval e env)] := by rfl) : EV c A env Fs (.Call (.Attribute o "read" apos) [e] [] pos) m σ Q X := by
  intro K P s mv o hM
  refine MethodCall_ (thenV (h K P s mv o hM) fun v P1 σ1 x s1 g1 o1 dn q => ?_) hc
  obtain ⟨rfl, hm, q⟩ := q
  cases dn with
  | @strm a _ _ p1 =>
    obtain ⟨ob, e1, es, n, fr, rfl, en, rd⟩ := o1.own _ hm
    obtain ⟨w, e2, e3⟩ := entries_get en (name := "read") (d := .ref fr) rfl
    obtain ⟨cd, hcc, hcd⟩ := E.cd
    have hw : w = .ref fr := by cases e3; rfl
    subst hw
    have I := inst_of (o1.pers _ _ p1) e1
    refine method_usual (G.X.keeps o1.keeps) I E.ga E.gk E.nr rfl ?_
    refine get_value (G.X.keeps o1.keeps) I E.ga (findObj_own hcc hcd E.nr ((lookIn_dict _ es n).trans e2)) rfl ?_
    have o1' := o1.toks (tk := s1.toks + 1)
    obtain ⟨a', c1, c2, oo1, oo2, doc, pm, c', ctv, tk, r1, r2, rr⟩ := id rd
    refine callWith_def (o := fnMade "_law_read" c.qual c.params c.body c.scope [("octets", c2), ("f", c1)] doc pm c' ctv) (fd := fnX "_law_read" c.qual c.params c.body c.scope [("octets", c2), ("f", c1)] .none .none doc pm none (.ref c') ctv) rfl (wpAny_mono (q K P1 _ mv o1' (hM.mono g1.1)) ?_ fun _ _ => RX.up g1) he
    rintro vs s2 ⟨P2, σ2, ds, g2, o2, dl, n', σ3, rfl, hz, hp, q2⟩
    refine ⟨o2.pers _ _ (g2.1 _ _ r2), ?_⟩
    cases dl with
    | cons dv r =>
      cases r
      exact upV (g1.trans g2) (read_call G E T hlen (fa.frA mv) hroom hz hp q2 o2 (rd.mono g2.1) dv)

/-- the stream's maker: its text -/
structure StText (c : Cx) (params : Arguments) (body : List Stmt) (scope : Scope) : Prop where
  scope : scope = { kind := .function, names := [("octets", .cell), ("_law_read", .local), ("f", .cell), ("_Example", .globalImplicit)], isGenerator := false, isCoroutine := false, more := [] }
  params : ∃ p, params = { posonlyargs := [], args := [{ arg := "octets", annotation := none, pos := p }], vararg := none, kwonlyargs := [], kw_defaults := [], kwarg := none, defaults := [] }
  body : ∃ p1 p2 p3 p4 p5 p6 p7 p8 p9 p10 p11 p12 p13, body = [
    .Assign [.Name "f" p1] (.Call (.Name "_Example" p2) [.Constant (.int 0) 0 p3] [] p4) p5,
    .FunctionDef "_law_read" c.params c.body [] none [] c.scope none "_law_read" p6,
    .Assign [.Attribute (.Name "f" p7) "read" p8] (.Name "_law_read" p9) p10,
    .Return (some (.Name "f" p11)) p12] ∧ p6.line = c.line ∧ p6.col = c.col ∧ p13 = p12
/-- the maker of the class -/
structure InText (params : Arguments) (body : List Stmt) (scope : Scope) : Prop where
  scope : scope = { kind := .function, names := [("self", .local), ("value", .local)], isGenerator := false, isCoroutine := false, more := [] }
  params : ∃ p q, params = { posonlyargs := [], args := [{ arg := "self", annotation := none, pos := p }, { arg := "value", annotation := none, pos := q }], vararg := none, kwonlyargs := [], kw_defaults := [], kwarg := none, defaults := [] }
  body : ∃ p1 p2 p3 p4, body = [.Assign [.Attribute (.Name "self" p1) "value" p2] (.Name "value" p3) p4]
/-- a function of the top -/
structure FnK (KF : Frag) (fa : Addr) (qual : Str) (params : Arguments) (body : List Stmt) (scope : Scope) (cdv : Value) : Prop where
  ob : ∃ name doc pm an ct oc od osl, KF.lookup fa = some ⟨oc, od, .func (fnX name qual params body scope [] .none .none doc pm an cdv ct), osl⟩
  code : codeIn KF cdv qual = true
theorem CallC.stream {fa : Addr} {ds : List D} (h : CallC c A Fs fa ds σ (fun r σ1 => ∃ d c1 c2 b pos σ2, r = .strm c.C d ∧ σ1 = (d, .idict [("value", .int (pos : Nat)), ("read", .clo c.qual c.params c.body c.scope [("octets", c2), ("f", c1)])]) :: (c1, .cell (some (.strm c.C d))) :: (c2, .cell (some (.bytes b))) :: σ2 ∧ Q (.strm c.C d) ((d, .sdict b pos) :: σ2)) X) : CallC c A Fs fa ds σ Q X := by
  intro K P s vs o dl
  refine codeAny_mono (h K P s vs o dl) fun r s' z => ?_
  rcases r with e | f
  · exact z
  · cases f with
    | ret v =>
      obtain ⟨P1, σ1, d, g1, o1, dn, d', c1, c2, b, pos, σ2, rfl, rfl, q⟩ := z
      obtain ⟨P2, g2, o2⟩ := o1.stream rfl
      exact ⟨P2, _, _, g1.trans g2, o2, dn.mono g2.1, q⟩
    | _ => exact z
theorem init_call {fI : Addr} {qual : Str} {params : Arguments} {body : List Stmt} {scope : Scope} {cdv : Value} {C dx : Addr} {i : Int} (G : Gd c KF) (E : ExC KF C) (F : FnK KF fI qual params body scope cdv) (T : InText params body scope) (fr : FrA A Fs) (hroom : A.depth < recursionLimit)
    (h : Q .none ((dx, .idict [("value", .int i)]) :: σ)) : CallC c A Fs fI [.strm C dx, .int i] ((dx, .idict []) :: σ) Q X := by
  obtain ⟨p, q, rfl⟩ := T.params
  obtain ⟨p1, p2, p3, p4, rfl⟩ := T.body
  obtain rfl := T.scope
  obtain ⟨name, doc, pm, an, ct, oc, od, osl, e⟩ := F.ob
  have hcd : c.h₀.CodeRec cdv qual := codeRec_of G.X F.code
  refine call_fn (ns := ["self", "value"]) (cl := []) (fun K P s o => o.keeps _ _ (G.X _ _ e)) rfl (fun K P s o => hcd.keeps o.keeps) G.lim hroom fr (fun ws hw => ?_) (by decide) (fun L fa' => ?_) rfl rfl rfl (by decide)
  · match ws, hw with
    | [w, w'], _ => rfl
  · refine SV_cons (S1_Assign_Attr (EV_local rfl (EV_local rfl (seta_i G E E.nv .here (by simp) ?_))))
    exact SV_nil h
theorem under_fr {id : String} {args : Args} (fr : FrA A Fs) : FrA (A.under (.builtin id args)) Fs := fr
end
end Mine

-- part LayQ
open PySem PySem.W PyProof.Rows
set_option Elab.async false
set_option linter.unusedVariables false
namespace Mine
open PySem PySem.Calls PySem.Spec
def plainMsg : Str := "not enough data in stream to read uint1"
/-- read_uint1's text -/
structure UText (params : Arguments) (body : List Stmt) (scope : Scope) : Prop where
  scope : scope = { kind := .function, names := [("f", .local), ("data", .local), ("ValueError", .globalImplicit)], isGenerator := false, isCoroutine := false, more := [] }
  params : ∃ p, params = { posonlyargs := [], args := [{ arg := "f", annotation := none, pos := p }], vararg := none, kwonlyargs := [], kw_defaults := [], kwarg := none, defaults := [] }
  body : ∃ p1 p2 p3 p4 p5 p6 p7 p8 p9 p10 p11 p12 p13 p14 p15 p16, p3.endLine = p5.line ∧ body = [
    .Assign [.Name "data" p1] (.Call (.Attribute (.Name "f" p2) "read" p3) [.Constant (.int 1) 0 p4] [] p5) p6,
    .If (.Name "data" p7) [.Return (some (.Subscript (.Name "data" p8) (.Constant (.int 0) 0 p9) p10)) p11] [] p12,
    .Raise (some (.Call (.Name "ValueError" p13) [.Constant (.str plainMsg) 0 p14] [] p15)) none p16]
end Mine

-- part LayR
open PySem PySem.W PyProof.Rows
set_option Elab.async false
set_option linter.unusedVariables false
set_option maxRecDepth 100000
namespace Mine
open PySem PySem.Calls PySem.Spec PySem.Builtin

/-- octets as signs -/
def latin (b : List UInt8) : Str := ⟨(b.map (·.toNat)).toArray⟩
theorem latin_length (b : List UInt8) : (latin b).length = b.length := by simp [latin, Str.length]

theorem road_latin {id : String} {b : Array UInt8} : _codecs.decodeRoad id b (PySem.Str.ofString "latin-1") none [] = (_codecs.runDecoder id _codecs.latin1Decoder none true b 0 [] >>= fun r => mkStr ⟨r.1⟩) := by kernel_rfl
theorem entry_latin {c : UInt8} {cs : List UInt8} {t u : Tok} : «bytes.decode» ⟨[.bytes (c :: cs).toArray t, .str (PySem.Str.ofString "latin-1") u], []⟩ = (mkStr (PySem.Str.ofString "utf-8") >>= fun _ => mkStr (PySem.Str.ofString "latin-1") >>= fun e => mkStr (PySem.Str.ofString "bytes.decode") >>= fun d =>
    call (.builtin "_codecs.decode.text") [.bytes (c :: cs).toArray t, e, .none, d] >>= fun v => ret v) := by kernel_rfl
theorem entry_latin0 {t u : Tok} : «bytes.decode» ⟨[.bytes ([] : List UInt8).toArray t, .str (PySem.Str.ofString "latin-1") u], []⟩ = (rule "bytes.decode.empty" >>= fun _ => retStr Str.empty) := by kernel_rfl
theorem args_decode2 (a b : Value) : argsOk "bytes.decode" ⟨[a, b], []⟩ := by unfold argsOk; kernel_rfl

theorem forIn_pure {β : Type} (f : Nat → β → Sem (ForInStep β)) (g : Nat → β) : ∀ (n k : Nat), (∀ j, k ≤ j → j < k + n → f j (g j) = pure (.yield (g (j + 1)))) → forIn (List.range' k n 1) (g k) f = pure (g (k + n))
  | 0, k, _ => by simp
  | n + 1, k, h => by
    rw [List.range'_succ, List.forIn_cons, h k (Nat.le_refl _) (by omega)]
    show forIn (List.range' (k + 1) n 1) (g (k + 1)) f = _
    rw [forIn_pure f g n (k + 1) fun j h1 h2 => h j (by omega) (by omega)]
    congr 2
    omega
theorem forIn_pure' {β : Type} {f : Nat → β → Sem (ForInStep β)} {x : β} (g : Nat → β) (n : Nat) (h0 : x = g 0) (h : ∀ j, j < n → f j (g j) = pure (.yield (g (j + 1)))) : forIn (List.range' 0 n 1) x f = pure (g n) := by
  rw [h0, forIn_pure f g n 0 fun j _ h2 => h j (by omega), Nat.zero_add]
theorem run_latin {id : String} {b : Array UInt8} (hz : b.size ≤ sizeLine) : _codecs.runDecoder id _codecs.latin1Decoder none true b 0 [] = pure ((b.map (·.toNat)), b.size) := by
  unfold _codecs.runDecoder
  dsimp only
  rw [KPc.range_list]
  rw [forIn_pure' (fun j => (j, (b.map (·.toNat)).extract 0 j, ({ held := [] } : _codecs.Faults))) b.size (by simp)]
  · have e : (b.map (·.toNat)).extract 0 b.size = b.map (·.toNat) := by simp
    simp only [pure_bind, e]
  · intro j hj
    dsimp only
    have hj' : j < b.size := by omega
    rw [if_neg (by simp; omega), if_neg (by omega)]
    show (pure _ : Sem _) = pure _
    congr 2
    refine Prod.ext rfl (Prod.ext ?_ rfl)
    show (b.map (·.toNat)).extract 0 j ++ #[(b.getD j 0).toNat] = (b.map (·.toNat)).extract 0 (j + 1)
    have : b.getD j 0 = b[j] := by simp [Array.getD, hj']
    rw [this]
    apply Array.ext'
    simp [List.take_add_one, hj']

theorem meets_text_latin {b : Array UInt8} {t t1 t2 : Tok} {d : PySem.Str} (hz : b.size ≤ sizeLine) :
    Meets («_codecs.decode.text» ⟨[.bytes b t, .str (PySem.Str.ofString "latin-1") t1, .none, .str d t2], []⟩) (fun _ R s => R (.ok (.ret (.str ⟨b.map (·.toNat)⟩ s.toks))) { s with toks := s.toks + 1 }) := by
  refine .of_wp fun prog w A R s h => ?_
  show wpAny _ _ (Bytes.bytesLike _ (.bytes b t) >>= fun r => _) _ _ s
  refine wpAny_bind (wpAny_of_eq KBd.like_eq ?_)
  refine wpAny_bind (wpAny_of_eq KBd.held_eq ?_)
  show wpAny _ _ (_codecs.decodeRoad _ b (PySem.Str.ofString "latin-1") none [] >>= fun v => _) _ _ s
  rw [road_latin, run_latin hz]
  refine wpAny_bind (wpAny_bind (wpAny_pure ?_))
  exact wpAny_mkStr (wpAny_pure ⟨_, rfl, h⟩) (by simpa [Str.length] using hz)
theorem meets_latin {b : List UInt8} {t u : Tok} (hz : b.length ≤ sizeLine) :
    Meets («bytes.decode» ⟨[.bytes b.toArray t, .str (PySem.Str.ofString "latin-1") u], []⟩) (fun _ R s => ∀ t' k, R (.ok (.ret (.str (latin b) t'))) { s with toks := k }) := by
  refine .of_wp fun prog w A R s h => ?_
  cases b with
  | nil =>
    rw [entry_latin0]
    refine wpAny_bind (wpAny_rule ?_)
    exact wpAny_bind (wpAny_mkStr (wpAny_pure ⟨_, rfl, h _ _⟩) (by decide))
  | cons c cs =>
    rw [entry_latin]
    refine wpAny_bind (wpAny_mkStr ?_ (by decide))
    refine wpAny_bind (wpAny_mkStr ?_ (by decide))
    refine wpAny_bind (wpAny_mkStr ?_ (by decide))
    refine wpAny_bind (call_function_meets KBd.kind_text KBd.plain_text KBd.entry_text (KBd.args_text _ _ _ _) (meets_text_latin (by rw [List.size_toArray]; exact hz)) (wpAny_pure ⟨_, rfl, ?_⟩))
    have e : (⟨(c :: cs).toArray.map (·.toNat)⟩ : Str) = latin (c :: cs) := by simp [latin]
    rw [e]
    exact h _ _
section
variable {c : Cx} {A : Around} {env : Env} {Fs : List Fm} {K P P1 : Mp} {σ σ' : Sto} {s : Shared} {m m' : Env'} {Q : D → Sto → Prop} {X : Str → Sto → Prop} {KF : Frag}
theorem decode_latin {b : List UInt8} (hz : b.length ≤ sizeLine) (h : Q (.str (latin b)) σ) : Op c A (cal (.builtin "bytes.decode")) [.bytes b, .str "latin-1"] σ Q X := Op2 fun Fs K P s v w o d e => by
  cases d; cases e
  exact call_meets FB.slot_bytes_decode (typeIs_bytes _ _ _) FB.entry_bytes_decode (args_decode2 _ _) (meets_latin hz) fun t' k => retV o.toks .str h

/-- text % tuple -/
theorem mod_tup {prog : Program} {w : World} {E : Value → Shared → Prop} {X X' T : PySem.Str} {t : Tok} {Q : Value → Shared → Prop} {b : Addr} {its : Array Value} (ht : IsTup s.heap b its) (hX : X = X')
    (hm : Meets («str.__mod__» ⟨[.str X' t, .ref b], []⟩) (fun _ R s => IsTup s.heap b its ∧ ∀ t' k, R (.ok (.ret (.str T t'))) { s with toks := k }))
    (h : ∀ t' k, Q (.str T t') { s with toks := k }) : wpAny (model prog w) A (binaryOp .Mod (.str X t) (.ref b)) Q E s := by
  subst hX
  have hT : s.TypeIs (.ref b) "tuple" := by
    obtain ⟨o, ho, hc, _⟩ := ht
    exact ⟨o, ho, hc⟩
  exact KPt.bin_left (T := "str") (U := "tuple") (op := .Mod) (by decide) (typeIs_str s X t) hT F.fills_str_mod KPt.fills_tuple F.slot_str_mod
    (call_meets F.slot_str_mod (typeIs_str s X t) F.entry_str_mod (F.args_str_mod_2 _ _) hm ⟨ht, fun t' k => ⟨(fun e => nomatch e), h t' k⟩⟩)
/-- the words of a refusal -/
def expMsg (kind : Str) (n m : Nat) : Str := Str.ofString "expected " ++ Str.ofString (toString (n : Int)) ++ Str.ofString " bytes in a " ++ kind ++ Str.ofString ", but only " ++ Str.ofString (toString (m : Int)) ++ Str.ofString " remain"
theorem pct_of {F F' T T' : Str} {n m : Int} (hF : F = F') (hT : T = T') (hm : ∀ t b u1 u2, Meets («str.__mod__» ⟨[.str F' t, .ref b], []⟩) (fun _ R s => IsTup s.heap b #[.int n u1, .int m u2] ∧ ∀ t' k, R (.ok (.ret (.str T t'))) { s with toks := k })) (h : Q (.str T') σ) :
    Op c A (bin .Mod) [.str F, .tup [.int n, .int m]] σ Q X := Op2 fun Fs K P s v w o d e => by
  subst hT
  cases d
  cases e with
  | @tup a ob vs k _ p1 p2 p3 p4 =>
    cases p4 with
    | cons a1 r =>
      cases r with
      | cons a2 r =>
        cases r
        cases a1
        cases a2
        exact mod_tup ⟨ob, o.pers _ _ p1, p2, k, p3⟩ hF (hm _ _ _ _) fun t' k => retV o.toks .str h
theorem pct_string1' {n m : Int} (h0 : 0 ≤ n) (h1 : n < 10 ^ 10) (h2 : 0 ≤ m) (h3 : m < 10 ^ 10) (h : ∀ T, T = Str.ofString "expected " ++ Str.ofString (toString n) ++ Str.ofString " bytes in a string1, but only " ++ Str.ofString (toString m) ++ Str.ofString " remain" → Q (.str T) σ) : Op c A (bin .Mod) [.str "expected %d bytes in a string1, but only %d remain", .tup [.int n, .int m]] σ Q X := by
  refine' pct_of ?hF rfl ?hm ?h
  (case hF => kpt_eq)
  (case hm => intro t b u1 u2; kpt_run)
  exact h _ rfl
theorem pct_string1 {n m : Nat} (hn : n < 10 ^ 10) (hm : m < 10 ^ 10) (h : Q (.str (expMsg "string1" n m)) σ) : Op c A (bin .Mod) [.str "expected %d bytes in a string1, but only %d remain", .tup [.int n, .int m]] σ Q X := by
  refine pct_string1' (by omega) (by omega) (by omega) (by omega) fun T hT => ?_
  have e : (Str.ofString " bytes in a string1, but only ") = Str.ofString " bytes in a " ++ Str.ofString "string1" ++ Str.ofString ", but only " := by decide +kernel
  rw [e] at hT
  have : T = expMsg "string1" n m := by rw [hT]; unfold expMsg; simp only [Str.append_assoc]
  rw [this]; exact h
end
end Mine

-- part LayS
open PySem PySem.W PyProof.Rows
set_option Elab.async false
set_option linter.unusedVariables false
set_option maxRecDepth 100000
namespace Mine
open PySem PySem.Calls PySem.Spec PySem.Builtin PySem.SeqAt
/-- data that is told from itself by no comparison; n: how deep -/
inductive EqD : Nat → D → Prop where
  | int {n i} : EqD n (.int i)
  | str {n x} : EqD n (.str x)
  | bytes {n b} : EqD n (.bytes b)
  | type {n t} : EqD n (.type t)
  | lst {n l} : (∀ d ∈ l, EqD n d) → EqD (n + 1) (.lst l)
  | tup {n l} : (∀ d ∈ l, EqD n d) → EqD (n + 1) (.tup l)
theorem all_true (n : Nat) : ((List.range n).all fun _ => true) = true := List.all_eq_true.mpr fun _ _ => rfl
section
variable {c : Cx} {A : Around} {env : Env} {Fs : List Fm} {K P P1 : Mp} {σ σ' : Sto} {s : Shared} {m m' : Env'} {Q : D → Sto → Prop} {X : Str → Sto → Prop} {KF : Frag}

theorem eqAt_same (o : Ok c Fs K P σ s) : ∀ {n : Nat} {d : D} {A : Around} {v w : Value}, EqD n d → A.units + n < cLine → Den P v d → Den P w d → EqAt A s v w true := by
  intro n d A v w h
  induction h generalizing A v w with
  | int => intro _ a b; cases a; cases b; exact fun _ _ _ _ q => wpAny_eqBool_int (by rw [beq_self_eq_true]; exact q)
  | str => intro _ a b; cases a; cases b; exact fun _ _ _ _ q => wpAny_eqBool_str (by rw [decide_eq_true rfl]; exact q)
  | bytes => intro _ a b; cases a; cases b; exact fun _ _ _ _ q => eqBool_bytes (by rw [decide_eq_true rfl]; exact q)
  | type => intro _ a b; cases a; cases b; exact EqAt.same _
  | @lst n l hl ih =>
    intro hu a b
    cases a with
    | @lst a1 o1 vs k1 _ p1 p2 p3 p4 =>
      cases b with
      | @lst a2 o2 ws k2 _ q1 q2 q3 q4 =>
        by_cases e : a1 = a2
        · subst e; exact EqAt.same _
        · have L1 : s.heap.IsList a1 (List.toArray vs) := ⟨o1, o.pers _ _ p1, p2, k1, p3⟩
          have L2 : s.heap.IsList a2 (List.toArray ws) := ⟨o2, o.pers _ _ q1, q2, k2, q3⟩
          have r := RcAt.lists (A := A) (e := fun _ => true) L1 L2 (by simp [p4.length, q4.length]) (by omega) fun j h1 h2 => by
            have h1' : j < vs.length := by simpa using h1
            have h2' : j < ws.length := by simpa using h2
            obtain ⟨d1, e1, d1'⟩ := p4.get' (List.getElem?_eq_getElem h1')
            obtain ⟨d2, e2, d2'⟩ := q4.get' (List.getElem?_eq_getElem h2')
            rw [e1] at e2; cases e2
            exact ih d1 (List.mem_of_getElem? e1) (A := A.in1) (by show A.units + 1 + n < cLine; omega) (by simpa using d1') (by simpa using d2')
          rw [all_true] at r
          exact EqAt.of_refs e r
  | @tup n l hl ih =>
    intro hu a b
    cases a with
    | @tup a1 o1 vs k1 _ p1 p2 p3 p4 =>
      cases b with
      | @tup a2 o2 ws k2 _ q1 q2 q3 q4 =>
        by_cases e : a1 = a2
        · subst e; exact EqAt.same _
        · have L1 : s.heap.IsTuple a1 (List.toArray vs) := ⟨o1, o.pers _ _ p1, p2, k1, p3⟩
          have L2 : s.heap.IsTuple a2 (List.toArray ws) := ⟨o2, o.pers _ _ q1, q2, k2, q3⟩
          have r := RcAt.tuples (A := A) (e := fun _ => true) L1 L2 (by omega) fun j h1 h2 => by
            have h1' : j < vs.length := by simpa using h1
            have h2' : j < ws.length := by simpa using h2
            obtain ⟨d1, e1, d1'⟩ := p4.get' (List.getElem?_eq_getElem h1')
            obtain ⟨d2, e2, d2'⟩ := q4.get' (List.getElem?_eq_getElem h2')
            rw [e1] at e2; cases e2
            exact ih d1 (List.mem_of_getElem? e1) (A := A.in1) (by show A.units + 1 + n < cLine; omega) (by simpa using d1') (by simpa using d2')
          rw [all_true] at r
          simp only [List.size_toArray, p4.length, q4.length, beq_self_eq_true, Bool.and_self] at r
          exact EqAt.of_refs e r
theorem ne_same_lst {n : Nat} {l : List D} (he : EqD (n + 1) (.lst l)) (hu : A.units + (n + 1) < cLine) (h : Q (.bool false) σ) : Op c A (cmp .NotEq) [.lst l, .lst l] σ Q X := Op2 fun Fs K P s v w o a b => by
  cases he with
  | lst hl =>
  cases a with
  | @lst a1 o1 vs k1 _ p1 p2 p3 p4 =>
    cases b with
    | @lst a2 o2 ws k2 _ q1 q2 q3 q4 =>
      have L1 : s.heap.IsList a1 (List.toArray vs) := ⟨o1, o.pers _ _ p1, p2, k1, p3⟩
      have L2 : s.heap.IsList a2 (List.toArray ws) := ⟨o2, o.pers _ _ q1, q2, k2, q3⟩
      have r := RcNeAt.lists (A := A) (e := fun _ => true) L1 L2 (by simp [p4.length, q4.length]) (by omega) fun j h1 h2 => by
        have h1' : j < vs.length := by simpa using h1
        have h2' : j < ws.length := by simpa using h2
        obtain ⟨d1, e1, d1'⟩ := p4.get' (List.getElem?_eq_getElem h1')
        obtain ⟨d2, e2, d2'⟩ := q4.get' (List.getElem?_eq_getElem h2')
        rw [e1] at e2; cases e2
        exact eqAt_same o (hl d1 (List.mem_of_getElem? e1)) (A := A.in1) (by show A.units + 1 + n < cLine; omega) (by simpa using d1') (by simpa using d2')
      rw [all_true] at r
      exact r c.prog c.w _ _ (retV o .bool h)
theorem ne_same_tup {n : Nat} {l : List D} (he : EqD (n + 1) (.tup l)) (hu : A.units + (n + 1) < cLine) (h : Q (.bool false) σ) : Op c A (cmp .NotEq) [.tup l, .tup l] σ Q X := Op2 fun Fs K P s v w o a b => by
  cases he with
  | tup hl =>
  cases a with
  | @tup a1 o1 vs k1 _ p1 p2 p3 p4 =>
    cases b with
    | @tup a2 o2 ws k2 _ q1 q2 q3 q4 =>
      have L1 : s.heap.IsTuple a1 (List.toArray vs) := ⟨o1, o.pers _ _ p1, p2, k1, p3⟩
      have L2 : s.heap.IsTuple a2 (List.toArray ws) := ⟨o2, o.pers _ _ q1, q2, k2, q3⟩
      have r := RcNeAt.tuples (A := A) (e := fun _ => true) L1 L2 (by omega) fun j h1 h2 => by
        have h1' : j < vs.length := by simpa using h1
        have h2' : j < ws.length := by simpa using h2
        obtain ⟨d1, e1, d1'⟩ := p4.get' (List.getElem?_eq_getElem h1')
        obtain ⟨d2, e2, d2'⟩ := q4.get' (List.getElem?_eq_getElem h2')
        rw [e1] at e2; cases e2
        exact eqAt_same o (hl d1 (List.mem_of_getElem? e1)) (A := A.in1) (by show A.units + 1 + n < cLine; omega) (by simpa using d1') (by simpa using d2')
      rw [all_true] at r
      simp only [List.size_toArray, p4.length, q4.length, beq_self_eq_true, Bool.and_self, Bool.not_true] at r
      exact r c.prog c.w _ _ (retV o .bool h)

-- list + list
theorem isL (o : Ok c Fs K P σ s) {v : Value} {ds : List D} (h : Den P v (.lst ds)) : ∃ a vs, v = .ref a ∧ s.heap.IsList a (List.toArray vs) ∧ DenL P vs ds := by
  cases h with
  | @lst a ob vs k _ p1 p2 p3 p4 => exact ⟨a, vs, rfl, ⟨ob, o.pers _ _ p1, p2, k, p3⟩, p4⟩
theorem concat_raw {prog : Program} {w : World} {E : Value → Shared → Prop} {l b : Addr} {vs ws : List Value} {Q : Value → Shared → Prop} (hl : s.heap.IsList l vs.toArray) (hb : s.heap.IsList b ws.toArray)
    (h : Q (.ref s.heap.objs.size) { s with heap := s.heap.push { cls := .type "list", data := .seq (vs ++ ws).toArray } }) (hsz : vs.length + ws.length ≤ sizeLine) :
    wpAny (model prog w) A (binaryOp .Add (.ref l) (.ref b)) Q E s := by
  obtain ⟨⟨cls, dd, data, sl⟩, ho, hc, n, hd⟩ := id hl
  obtain ⟨⟨cls2, dd2, data2, sl2⟩, ho2, hc2, n2, hd2⟩ := id hb
  simp only at hc hd hc2 hd2
  subst hc hd hc2 hd2
  have e : vs.toArray ++ ws.toArray = (vs ++ ws).toArray := by simp
  refine concat_meets ⟨_, ho, rfl⟩ ⟨_, ho2, rfl⟩ noFill_list_add seq_list_add PySem.F.slot_list_add PySem.F.entry_list_add (PySem.F.args_list_add_2 _ _) (list_addW l b vs.toArray ws.toArray n n2 dd dd2 sl sl2 (by simpa using hsz)) ⟨ho, ho2, ?_⟩
  rw [e]
  exact h
theorem add_ll {xs ys : List D} (hz : xs.length + ys.length ≤ sizeLine) (h : Q (.lst (xs ++ ys)) σ) : Op c A (bin .Add) [.lst xs, .lst ys] σ Q X := Op2 fun Fs K P s v w o a b => by
  obtain ⟨a1, vs, rfl, l1, d1⟩ := isL o a
  obtain ⟨a2, ws, rfl, l2, d2⟩ := isL o b
  refine concat_raw l1 l2 ?_ (by rw [d1.length, d2.length]; exact hz)
  obtain ⟨o2, g2⟩ := o.newPers (h' := s.heap.push { cls := .type "list", data := .seq (vs ++ ws).toArray }) (tk := s.toks) (get_fresh _) (fun b x e => Heap.get?_push_of_some _ e) (Heap.get?_push_size _ rfl)
  exact ⟨_, σ, _, g2, o2, .lst put_self rfl rfl ((d1.append d2).mono g2.1), h⟩

-- bytes(list of ints)
theorem ints_of : ∀ {vs : List Value} {ns : List Int}, DenL P vs (ns.map .int) → IntsAre vs ns
  | [], [], .nil => .nil
  | _ :: _, n :: ns, .cons a r => by cases a; exact .cons n _ (ints_of r)
def octs (ns : List Nat) : List UInt8 := ns.map fun n => n.toUInt8
theorem bytes_l {ns : List Nat} (hr : ∀ n ∈ ns, n < 256) (hz : ns.length ≤ sizeLine) (hh : A.handled = none) (h : Q (.bytes (octs ns)) σ) : Op c A (cal (.type "bytes")) [.lst (ns.map fun n => .int (n : Nat))] σ Q X := Op1 fun Fs K P s v o a => by
  obtain ⟨a1, vs, rfl, l1, d1⟩ := isL o a
  have hi : IntsAre vs (ns.map fun (n : Nat) => (n : Int)) := ints_of (by rw [List.map_map]; exact d1)
  refine call_bytes_ints l1 hi (fun n hn => ?_) (by rw [d1.length, List.length_map]; exact hz) hh fun h' t k hk => ?_
  · obtain ⟨x, hx, rfl⟩ := List.mem_map.mp hn
    have := hr x hx
    omega
  · have e : byteArr (ns.map fun (n : Nat) => (n : Int)) = (octs ns).toArray := by
      unfold byteArr octs
      rw [List.map_map]
      congr 1
    rw [e]
    exact ⟨P, σ, _, Gr.refl K P, o.grow hk, .bytes, h⟩
-- str(..)
theorem str_exc {e : Addr} {msg : Str} (hm : (e, AO.exc msg) ∈ σ) (hu : A.units + 2 < cLine) (h : Q (.str msg) σ) : Op c A (cal (.type "str")) [.ref e] σ Q X := Op1 fun Fs K P s v o a => by
  cases a
  obtain ⟨ob, e0, vs, t, n, tk, hc, hd, hz, h0, hp⟩ := o.own _ hm
  exact PySem.P.str_of_exc_one F.excStr_ValueError hu ⟨ob, vs, e0, hc, hd, h0⟩ ⟨_, n, o.pers _ _ hp, rfl, rfl⟩ (retV o .str h)
-- type(..)
-- join
theorem strs_of : ∀ {vs : List Value} {xs : List Str}, DenL P vs (xs.map .str) → StrsAre vs xs
  | [], [], .nil => .nil
  | _ :: _, n :: ns, .cons a r => by cases a; exact .cons n _ (strs_of r)
theorem join_l {x : Str} {xs : List Str} (hz : (xs.map (·.length)).sum + xs.length * x.length ≤ sizeLine) (h : Q (.str (Txt.join x xs)) σ) : Op c A (cal (.builtin "str.join")) [.str x, .lst (xs.map .str)] σ Q X := Op2 fun Fs K P s v w o a b => by
  cases a
  obtain ⟨a2, ws, rfl, l2, d2⟩ := isL o b
  exact join_list l2 (strs_of (by simpa using d2)) (by rw [sizeLine_eq] at hz; exact hz) fun t' k => retV o.toks .str h
end
end Mine

-- part LayT
open PySem PySem.W PyProof.Rows
set_option Elab.async false
set_option linter.unusedVariables false
set_option maxRecDepth 100000
namespace Mine
open PySem PySem.Calls PySem.Spec
section
variable {c : Cx} {A : Around} {env : Env} {Fs : List Fm} {K P P1 : Mp} {σ σ' : Sto} {s : Shared} {m m' : Env'} {KF : Frag}
theorem MSub.nil : MSub [] m := fun _ _ e => nomatch e
theorem MSub.cons {x : Str} {d : D} (h : m.lookup x = some d) (hs : MSub m' m) : MSub ((x, d) :: m') m := by
  intro y e hy
  by_cases q : y = x
  · subst q
    simp [List.lookup] at hy
    rw [h, hy]
  · have q' : (y == x) = false := by simp [q]
    simp [List.lookup, q'] at hy
    exact hs y e hy
theorem MSub.refl : MSub m m := fun _ _ e => e
theorem SV_nilF {Q : Fl → Env' → Sto → Prop} {X : Str → Env' → Sto → Prop} (h : Q .next m' σ') (hm : MSub m' m) (hs : σ'.Sublist σ) : SV c A env Fs [] m σ Q X := (SV_nil h).forget hm hs
end
theorem fmod_nat (a b : Nat) : (a : Int).fmod (b : Int) = ((a % b : Nat) : Int) := by
  rw [Int.fmod_eq_emod_of_nonneg _ (by omega)]; rfl
theorem fdiv_nat (a b : Nat) : (a : Int).fdiv (b : Int) = ((a / b : Nat) : Int) := by
  rw [Int.fdiv_eq_ediv_of_nonneg _ (by omega)]; rfl
theorem fmod_lo (a : Int) {b : Nat} (hb : 0 < b) : 0 ≤ a.fmod (b : Int) := Int.fmod_nonneg_of_pos _ (by omega)
theorem fmod_hi (a : Int) {b : Nat} (hb : 0 < b) : a.fmod (b : Int) < b := Int.fmod_lt_of_pos _ (by omega)
theorem fmod_toNat (a : Int) {b : Nat} (hb : 0 < b) : a.fmod (b : Int) = ((a.fmod (b : Int)).toNat : Int) := by
  have := fmod_lo a hb; omega
theorem fmod_toNat_lt (a : Int) {b : Nat} (hb : 0 < b) : (a.fmod (b : Int)).toNat < b := by
  have := fmod_lo a hb; have := fmod_hi a hb; omega
theorem noPy {x : Int} {y : Nat} (h : y < 1000000) : Builtin.divisionGoesByPylong x (y : Int) = false := PyProof.noPylong_small (by omega)
end Mine

-- part LayU
open PySem PySem.W PyProof.Rows
set_option Elab.async false
set_option linter.unusedVariables false
set_option maxRecDepth 100000
namespace Mine
open PySem PySem.Calls PySem.Spec
section
variable {c : Cx} {A : Around} {env : Env} {Fs : List Fm} {K P P1 : Mp} {σ σ' : Sto} {s : Shared} {m m' : Env'} {KF : Frag}
theorem MSub.cons₂ (hm : MSub m' m) (x : Str) (d : D) : MSub ((x, d) :: m') ((x, d) :: m) := by
  intro y e hy
  by_cases q : y = x
  · subst q
    simp [List.lookup] at hy ⊢
    exact hy
  · have q' : (y == x) = false := by simp [q]
    simp only [List.lookup, q'] at hy ⊢
    exact hm y e hy
theorem FA.mark (f : FA A env Fs) (v : Option Value) : FA (A.mark v) env Fs := ⟨⟨f.1.frames, f.1.glob, f.1.blt, f.1.kind⟩, f.2⟩
theorem small0 {n : Nat} (h : n ≤ 100000) : Builtin.Range.small 0 (0 + n) 1 = true := by
  have e : Builtin.Range.rangeSize 0 (n : Int) 1 = n := by
    unfold Builtin.Range.rangeSize
    simp
    try omega
  unfold Builtin.Range.small
  simp [e, Builtin.Range.rangeFitsLong]
  omega

theorem S1.mono {b : Stmt} {Q Q' : Fl → Env' → Sto → Prop} {X X' : Str → Env' → Sto → Prop} (h : S1 c A env Fs b m σ Q X) (hq : ∀ d m σ, Q d m σ → Q' d m σ) (hx : ∀ d m σ, X d m σ → X' d m σ) : S1 c A env Fs b m σ Q' X' :=
  fun K P s mv o hm => wpAny_mono (h K P s mv o hm) (fun _ _ ⟨P', σ', d, a, b, g, o, dn, f, q⟩ => ⟨P', σ', d, a, b, g, o, dn, f, hq _ _ _ q⟩) fun _ _ ⟨e, P', σ', mv, m, msg, q, g, o, a, t, x⟩ => ⟨e, P', σ', mv, m, msg, q, g, o, a, t, hx _ _ _ x⟩
theorem SV_step {b : Stmt} {r : List Stmt} {Q : Fl → Env' → Sto → Prop} {X : Str → Env' → Sto → Prop} (J : Env' → Sto → Prop) (h : S1 c A env Fs b m σ (fun f m1 σ1 => f = .next ∧ J m1 σ1) X) (hn : ∀ m1 σ1, J m1 σ1 → SV c A env Fs r m1 σ1 Q X) : SV c A env Fs (b :: r) m σ Q X := by
  refine SV_cons (h.mono (fun f m1 σ1 q => ?_) fun _ _ _ x => x)
  obtain ⟨rfl, q⟩ := q
  exact hn _ _ q
/-- a call of a function of the ground by its name -/
theorem EV_callG {x : Str} {np : Pos} {e : Expr} {es : List Expr} {pos} {fo : Obj} {fd : FuncData} {Q : D → Sto → Prop} {X : Str → Sto → Prop} (G : Gd c KF) (fa : FA A env Fs) (a : Addr) (e1 : nsIn KF mainGlobals x = some (some (.ref a))) (hl : KF.lookup a = some fo) (hd : fo.data = .func fd)
    (h : LV c A env Fs pos (e :: es) m σ (fun ds σ2 => ∀ mv, FrA A ((env.locals, mv) :: Fs) → CallC c A ((env.locals, mv) :: Fs) a ds σ2 Q X) X) (hx : env.kindOf x = some .globalImplicit := by rfl) (hdb : (x == ("__debug__" : Str)) = false := by decide) (he : starEach (e :: es) env = (false, eval e env) :: starEach es env := by rfl) : EV c A env Fs (.Call (.Name x np) (e :: es) [] pos) m σ Q X :=
  EV_Call_fn (fa := a) (EV_global G fa e1 (fun _ => .ref) ⟨rfl, fun K P s mv o hM => wpAny_mono (h K P s mv o hM) (fun _ _ ⟨P', σ', d, g, o, dn, q⟩ => ⟨P', σ', d, g, o, dn, fun _ _ _ _ o => o.keeps _ _ (G.X a _ hl), fun mv => (q mv (fa.frA mv)).op⟩) fun _ _ x => x⟩ hx hdb) hd (by intro _ _ _ z; cases z) he
end
def one (n : Nat) : Str := ⟨#[n]⟩
theorem Str.ext_cps {a b : Str} (h : a.cps = b.cps) : a = b := by cases a; cases b; cases h; rfl
end Mine

-- part LayV
open PySem PySem.W PyProof.Rows
set_option Elab.async false
set_option linter.unusedVariables false
set_option maxRecDepth 100000
namespace Mine
open PySem PySem.Calls PySem.Spec PySem.Builtin PySem.SeqAt
section
variable {c : Cx} {A : Around} {env : Env} {Fs : List Fm} {K P P1 : Mp} {σ σ' : Sto} {s : Shared} {m m' : Env'} {X : Str → Sto → Prop} {KF : Frag}
end
end Mine

-- part LayW
open PySem PySem.W PyProof.Rows
set_option Elab.async false
set_option linter.unusedVariables false
set_option maxRecDepth 100000
namespace Mine
open PySem PySem.Calls PySem.Spec PySem.Builtin PySem.SeqAt
section
variable {c : Cx} {A : Around} {env : Env} {Fs : List Fm} {K P P1 : Mp} {σ σ' : Sto} {s : Shared} {m m' : Env'} {Q : D → Sto → Prop} {X : Str → Sto → Prop} {KF : Frag}
-- sum(..)
theorem sum_raw {prog : Program} {w : World} {E : Value → Shared → Prop} {t : Addr} {xs : Array (Int × Tok)} {Q : Value → Shared → Prop} (hh : A.handled = none) (ht : s.heap.IsList t (intItems xs))
    (h : ∀ h' tk t', (∀ b o, s.heap.get? b = some o → h'.get? b = some o) → Q (.int (preSum (numAt xs) xs.size) t') { s with heap := h', toks := tk }) :
    wpAny (model prog w) A (call (.builtin "sum") [.ref t]) Q E s := by
  obtain ⟨o, ho, hc, n, hd⟩ := id ht
  have hne : t ≠ s.heap.objs.size := Nat.ne_of_lt (Heap.lt_size ho)
  have hsz : (intItems xs).size = xs.size := by simp [intItems]
  have W := (Walks.list (prog := prog) (w := w) (A := A.in1) hh s.heap.objs.size t hne (intItems xs)).toS
  rw [hsz] at W
  refine call_sum_walkAnyS (wpAny_pyIter_list ht ?_)
  refine ⟨s.heap.objs.size, _, _, _, _, _, _, numAt xs, rfl, W, ⟨⟨_, Heap.get?_push_size _ rfl, rfl, rfl⟩, ht.at fun o e => Heap.get?_push_of_some _ e⟩, fun b hb => ?_, fun i v hP => intItems_at hP, fun s' t' hm => ?_⟩
  · rcases List.mem_cons.mp hb with rfl | hb
    · exact Heap.lt_size (Heap.get?_push_size _ rfl)
    · obtain rfl := List.mem_singleton.mp hb
      exact Heap.lt_size (Heap.get?_push_of_some _ ho)
  · obtain ⟨h', g', d', tk', os'⟩ := s'
    have e1 : g' = s.gens := hm.gens
    have e2 : d' = s.drawn := hm.drawn
    have e3 : os' = s.os := hm.os
    subst e1 e2 e3
    exact h h' tk' t' fun b o e => hm.heap b o (fun hb => absurd (Heap.lt_size e) ((List.mem_singleton.mp hb) ▸ Nat.lt_irrefl _)) (Heap.get?_push_of_some _ e)
theorem sum_l {ns : List Int} (hh : A.handled = none) (h : Q (.int ns.sum) σ) : Op c A (cal (.builtin "sum")) [.lst (ns.map .int)] σ Q X := Op1 fun Fs K P s v o a => by
  obtain ⟨a1, vs, rfl, hl, d1⟩ := isL o a
  have hi : IntsAre vs ns := ints_of d1
  obtain ⟨xs, hx⟩ := hi.allInts.items
  have hn : numsOf vs.toArray.toList = ns := by rw [show vs.toArray.toList = vs from rfl, hi.numsOf]
  rw [hx] at hl hn
  rw [nums_intItems] at hn
  refine sum_raw hh hl fun h' tk t' hk => ?_
  rw [preSum_eq, List.take_of_length_le (by simp), hn]
  exact ⟨P, σ, _, Gr.refl K P, o.grow hk, .int, h⟩
-- text[i]
-- in, index
def isStr (x : Str) : Value → Bool
  | .str y _ => decide (y = x)
  | _ => false
-- extend
theorem ext_meets (l b : Addr) (xs ys : Array Value) (n n2 : Nat) (dd : Option Addr) (sl : Array (Option Value)) (h0 : ¬(!xs.isEmpty && Builtin.List.listTooLong (xs.size + ys.size)) = true) (h1 : xs.size ≤ sizeLine) (h2 : xs.size + ys.size ≤ sizeLine + 1) :
    Meets (Builtin.«list.extend» ⟨[.ref l, .ref b], []⟩) (fun _ R s => s.heap.get? l = some { cls := .type "list", dict := none, data := .seq xs n, slots := #[] } ∧ s.heap.get? b = some { cls := .type "list", dict := dd, data := .seq ys n2, slots := sl } ∧ R (.ok (.ret Value.none)) { s with heap := s.heap.update l (Obj.mapSeq fun x => x ++ ys), toks := s.toks }) := by
  refine .of_wp fun prog w A R s h => ?_
  obtain ⟨hp, g, d, tk, os⟩ := s
  obtain ⟨hl, hb, h⟩ := h
  have f1 := AutoSeq1.idx_int
  have f2 := AutoSeq1.sub_tuple_tuple
  have f3 := AutoSeq1.sub_list_list
  have f4 := AutoSeq1.sub_tuple_list
  have f5 := AutoSeq1.sub_list_tuple
  have hz' : (xs ++ ys).size ≤ sizeLine + 1 := by rw [Array.size_append]; exact h2
  wp_walk using (wpAny_updateSeq hl rfl (hz := h1) (_hz' := hz')), wpAny_loadPart' hl, wpAny_loadPart' hb
  exact ⟨_, rfl, h⟩
theorem extend_m {a : Addr} {ds es : List D} (hp : Put a (.list ds) (.list (ds ++ es)) σ σ') (hz : ds.length + es.length ≤ sizeLine) (h : Q .none σ') : Op c A (cal (.builtin "list.extend")) [.ref a, .lst es] σ Q X := Op2 fun Fs K P s v w o d1 e1 => by
  cases d1
  obtain ⟨ob, e, ws, k, rfl, p4⟩ := o.own _ hp.mem
  cases e1 with
  | @lst a2 o2 us k2 _ q1 q2 q3 q4 =>
    obtain ⟨cls2, dd, data2, sl⟩ := o2
    simp only at q2 q3
    subst q2 q3
    have z : (List.toArray ws).size + (List.toArray us).size ≤ sizeLine := by simpa [p4.length, q4.length] using hz
    refine call_meets F.slot_list_extend ⟨_, e, rfl⟩ F.entry_list_extend (F.args_list_extend_2 _ _) (ext_meets a a2 (List.toArray ws) (List.toArray us) k k2 dd sl (extend_door z) (by omega) (by omega)) ⟨e, o.pers _ _ q1, ?_⟩
    have ho' : (s.heap.update a (Obj.mapSeq fun x => x ++ List.toArray us)).get? a = some (listOf (List.toArray (ws ++ us)) (if (List.toArray ws ++ List.toArray us).size == (List.toArray ws).size then k else k + 1)) := by
      rw [Heap.get?_update_self _ e (by rw [mapSeq_app]; rfl), mapSeq_app]
      simp [W.listOf]
    exact ⟨P, σ', .none, Gr.refl K P, o.upd (tk := s.toks) hp (Heap.SameBut.update ..) ho' ⟨ws ++ us, _, rfl, p4.append q4⟩, .none, h⟩
-- list[i:j]
/-- a cut between statements; a way out goes on to the end -/
theorem SV_cut {b : Stmt} {r : List Stmt} {Q : Fl → Env' → Sto → Prop} {X : Str → Env' → Sto → Prop} (J : Env' → Sto → Prop) (h : S1 c A env Fs b m σ (fun f m1 σ1 => match f with | .next => J m1 σ1 | f => Q f m1 σ1) X) (hn : ∀ m1 σ1, J m1 σ1 → SV c A env Fs r m1 σ1 Q X) : SV c A env Fs (b :: r) m σ Q X := by
  refine SV_cons (h.mono (fun f m1 σ1 q => ?_) fun _ _ _ x => x)
  cases f with
  | next => exact hn _ _ q
  | brk => exact q
  | cont => exact q
  | ret d => exact q
end
end Mine

-- part LayX
open PySem PySem.W PyProof.Rows
set_option Elab.async false
set_option linter.unusedVariables false
set_option maxRecDepth 100000
namespace Mine
open PySem PySem.Calls PySem.Spec
section
variable {c : Cx} {A : Around} {env : Env} {Fs : List Fm} {K P P1 : Mp} {σ σ' : Sto} {s : Shared} {m m' : Env'} {Q : D → Sto → Prop} {X : Str → Sto → Prop} {KF : Frag}
/-- the maker's text, where it takes a place too -/
structure StText2 (c : Cx) (params : Arguments) (body : List Stmt) (scope : Scope) : Prop where
  scope : scope = { kind := .function, names := [("octets", .cell), ("place", .local), ("_law_read", .local), ("f", .cell), ("_Example", .globalImplicit)], isGenerator := false, isCoroutine := false, more := [] }
  params : ∃ p p', params = { posonlyargs := [], args := [{ arg := "octets", annotation := none, pos := p }, { arg := "place", annotation := none, pos := p' }], vararg := none, kwonlyargs := [], kw_defaults := [], kwarg := none, defaults := [] }
  body : ∃ p1 p2 p3 p4 p5 p6 p7 p8 p9 p10 p11 p12 p13, body = [
    .Assign [.Name "f" p1] (.Call (.Name "_Example" p2) [.Name "place" p3] [] p4) p5,
    .FunctionDef "_law_read" c.params c.body [] none [] c.scope none "_law_read" p6,
    .Assign [.Attribute (.Name "f" p7) "read" p8] (.Name "_law_read" p9) p10,
    .Return (some (.Name "f" p11)) p12] ∧ p6.line = c.line ∧ p6.col = c.col ∧ p13 = p12
theorem stream_call2 {fS fI T : Addr} {qual : Str} {params : Arguments} {body : List Stmt} {scope : Scope} {cdv : Value} {qualI : Str} {paramsI : Arguments} {bodyI : List Stmt} {scopeI : Scope} {cdvI : Value} {cc : Addr} {b : List UInt8} {pl : Nat} (G : Gd c KF) (E : ExC KF c.C)
    (F : FnK KF fS qual params body scope cdv) (hcc : cdv = .ref cc) (CH : CodeHd c.h₀ cc T) (TS : StText2 c params body scope) (hq : qual ++ ".<locals>." ++ "_law_read" = c.qual) (FI : FnK KF fI qualI paramsI bodyI scopeI cdvI) (TI : InText paramsI bodyI scopeI)
    (hex : nsIn KF mainGlobals "_Example" = some (some (.ref c.C))) (hk : keepIn KF (.ref c.C) = true) (hm : makesIn KF c.C = true) (hi : findIn KF (.ref c.C) "__init__" = some (some (.ref fI))) (hfn : typeIn KF (.ref fI) = some (.type "function"))
    (RT : RdText c) (fr : FrA A Fs) (hroom : A.depth + 4 < recursionLimit) (hT : (T, AO.tab) ∈ σ) (h : ∀ d, Q (.strm c.C d) ((d, .sdict b pl) :: σ)) : CallC c A Fs fS [.bytes b, .int (pl : Nat)] σ Q X := by
  refine CallC.stream ?_
  obtain ⟨p, p', rfl⟩ := TS.params
  obtain ⟨p1, p2, p3, p4, p5, p6, p7, p8, p9, p10, p11, p12, p13, rfl, hl, hcol, _⟩ := TS.body
  obtain rfl := TS.scope
  obtain ⟨name, doc, pm, an, ct, oc, od, osl, e⟩ := F.ob
  subst hcc
  have hcd : c.h₀.CodeRec (.ref cc) qual := codeRec_of G.X F.code
  refine call_fnC (ns := ["octets", "place"]) (G.X _ _ e) rfl hcd G.lim (by omega) fr (fun ws hw => ?_) (fun n x hx => ?_) (by decide) (fun L fa' => ?_) rfl rfl rfl
  · match ws, hw with
    | [w, w'], _ => rfl
  · simp at hx
    rcases hx with rfl | rfl
    · exact .inr ⟨rfl, rfl⟩
    · exact .inl rfl
  · refine SV_cons (S1_Assign_Name (EV_Call_cls G hk hm hi hfn ?_))
    refine EV_global G fa' hex (fun _ => .ref) ⟨rfl, LV_cons (EV_local rfl (LV_nil fun dx mv vs => ?_))⟩
    refine init_call G E FI TI (under_fr (fa'.frA mv)) ?_ ⟨rfl, ?_⟩
    · show A.depth + 1 + 1 < recursionLimit
      omega
    · refine NV_cell (a := L + 1 + 1) rfl (.there .here) ?_
      refine SV_cons (S1_Def (T := T) (cc := cc) (clos := [("octets", L + 1), ("f", L + 1 + 1)]) G fa' ?_ hl hcol rfl CH ?_ (by rw [RT.scope]; rfl) ?_ (by obtain ⟨_, hh⟩ := RT.params; rw [hh]) (by obtain ⟨_, hh⟩ := RT.params; rw [hh]) (by obtain ⟨_, hh⟩ := RT.params; rw [hh]; rfl))
      · exact hq
      · exact .tail _ (.tail _ (.tail _ hT))
      · refine NV_local (SV_cons (S1_Assign_Attr (EV_local rfl (EV_cell (a := L + 1 + 1) rfl (.tail _ (.head _)) (seta_i G E E.nr .here (by simp) ?_)))))
        refine SV_cons (S1_Return (EV_cell (a := L + 1 + 1) rfl (.tail _ (.head _)) ?_))
        exact ⟨dx, L + 1 + 1, L + 1, b, pl, σ, rfl, rfl, h dx⟩
end
end Mine

-- part LayY
open PySem PySem.W PyProof.Rows
set_option Elab.async false
set_option linter.unusedVariables false
set_option maxRecDepth 100000
namespace Mine
open PySem PySem.Calls PySem.Spec
def SetI (c : Cx) (A : Around) (t k d : D) (σ : Sto) (Q : Sto → Prop) : Prop := ∀ Fs K P s v w x E, Ok c Fs K P σ s → Den P v t → Den P w k → Den P x d → wpAny (mdl c) A (setItem v w x) (RU c Fs K P Q) E s
section
variable {c : Cx} {A : Around} {env : Env} {Fs : List Fm} {K P P1 : Mp} {σ σ' : Sto} {s : Shared} {m m' : Env'} {Q : D → Sto → Prop} {X : Str → Sto → Prop} {KF : Frag}
-- a dict of texts
theorem EV_DictEmpty {pos} {a₀ : Addr} {fo : Obj} (G : Gd c KF) (h0 : KF.lookup a₀ = some fo) (ha : 1 ≤ a₀) (h : ∀ a, Q (.ref a) ((a, .dict []) :: σ)) : EV c A env Fs (.Dict [] [] pos) m σ Q X := by
  intro K P s mv o hM
  refine wpAny_Dict_empty ?_
  have hlt : a₀ < s.heap.objs.size := Heap.lt_size (o.keeps _ _ (G.X a₀ _ h0))
  have hne : (s.heap.objs.size == sysModules) = false := beq_false_of_ne fun e => absurd (Nat.lt_of_le_of_lt ha hlt) (by rw [e]; exact Nat.lt_irrefl 1)
  have o2 := o.newOwn (h' := s.heap.push { cls := .type "dict", data := .dict #[] }) (tk := s.toks) (ao := .dict []) (get_fresh _) (fun b x e => Heap.get?_push_of_some _ e) (Heap.get?_push_size _ rfl) ⟨hne, [], fun h e => ⟨_, #[], 0, e, ⟨rfl, rfl, rfl⟩, rfl, fun _ he => by simp at he, .nil, .nil⟩, .nil⟩
  exact ⟨P, _, .ref _, Gr.refl K P, o2, .ref, h _⟩
theorem dict_at {a : Addr} {es : List (Str × D)} (o : Ok c Fs K P σ s) (h : (a, AO.dict es) ∈ σ) : (a == sysModules) = false ∧ ∃ kvs, s.heap.DictOf (strKind c.prog c.w) a kvs ∧ DenP P kvs es := by
  obtain ⟨ob, e, h1, kvs, h2, h3⟩ := o.own _ h
  exact ⟨h1, kvs, h2 _ e, h3⟩
theorem DenP.none {kvs : List (Str × Value)} {es : List (Str × D)} (h : DenP P kvs es) {x : Str} (hx : es.lookup x = none) : valueAt kvs x = none := by
  induction h with
  | nil => rfl
  | @cons k v d kvs es a _ ih =>
    by_cases q : x = k
    · subst q; simp [List.lookup] at hx
    · have q' : (x == k) = false := by simp [q]
      simp only [List.lookup, q'] at hx
      have := ih hx
      unfold valueAt at this ⊢
      rw [List.find?_cons_of_neg (by simpa using fun z => q z.symm)]
      exact this
theorem DenP.some {kvs : List (Str × Value)} {es : List (Str × D)} (h : DenP P kvs es) {x : Str} {d : D} (hx : es.lookup x = some d) : ∃ v, valueAt kvs x = some v ∧ Den P v d := by
  induction h with
  | nil => cases hx
  | @cons k v d' kvs es a _ ih =>
    by_cases q : x = k
    · subst q; simp [List.lookup] at hx
      subst hx
      exact ⟨v, by simp [valueAt], a⟩
    · have q' : (x == k) = false := by simp [q]
      simp only [List.lookup, q'] at hx
      obtain ⟨w, e1, e2⟩ := ih hx
      refine ⟨w, ?_, e2⟩
      unfold valueAt at e1 ⊢
      rw [List.find?_cons_of_neg (by simpa using fun z => q z.symm)]
      exact e1
theorem DenP.len {kvs : List (Str × Value)} {es : List (Str × D)} (h : DenP P kvs es) : kvs.length = es.length := by
  induction h with
  | nil => rfl
  | cons _ _ ih => simp [ih]
theorem DenP.snoc {kvs : List (Str × Value)} {es : List (Str × D)} (h : DenP P kvs es) {x : Str} {v : Value} {d : D} (dn : Den P v d) : DenP P (kvs ++ [(x, v)]) (es ++ [(x, d)]) := by
  induction h with
  | nil => exact .cons dn .nil
  | cons a _ ih => exact .cons a ih
theorem isKey (x : Str) (t : Tok) : (strKind c.prog c.w).is x (.str x t) = true := by show Value.isStrOf x (.str x t) = true; simp [Value.isStrOf]
theorem in_d {a : Addr} {es : List (Str × D)} {x : Str} (hm : (a, AO.dict es) ∈ σ) (h : Q (.bool (es.lookup x).isSome) σ) : Op c A (cmp .In) [.str x, .ref a] σ Q X := Op2 fun Fs K P s v w o d e => by
  cases d
  cases e
  obtain ⟨h1, kvs, h2, h3⟩ := dict_at o hm
  refine wpAny_in_of (isKey x _) h1 h2.mapOf ?_
  cases hx : es.lookup x with
  | none => rw [h3.none hx]; rw [hx] at h; exact retV o.toks .bool h
  | some d => obtain ⟨v, e1, _⟩ := h3.some hx; rw [e1]; rw [hx] at h; exact retV o.toks .bool h
theorem TyIs_dict {a : Addr} {es : List (Str × D)} (hm : (a, AO.dict es) ∈ σ) : TyIs c (.ref a) σ "dict" := fun _ _ _ s _ o dn => by
  cases dn
  obtain ⟨h1, kvs, h2, h3⟩ := dict_at o hm
  exact h2.typeIs
theorem Itm_d {a : Addr} {es : List (Str × D)} {x : Str} {d : D} (hm : (a, AO.dict es) ∈ σ) (hx : es.lookup x = some d) (h : Q d σ) : Op c A itm [.ref a, .str x] σ Q X := Op2 fun Fs K P s v w o d e => by
  cases d
  cases e
  obtain ⟨h1, kvs, h2, h3⟩ := dict_at o hm
  obtain ⟨v, e1, e2⟩ := h3.some hx
  exact wpAny_getItem_of (isKey x _) h2.mapOf e1 (retV o.toks e2 h)
theorem any_none {kvs : List (Str × Value)} {x : Str} (h : valueAt kvs x = none) : (kvs.any fun kv => kv.1 = x) = false := by
  unfold valueAt at h
  simp at h
  simp
  intro a b hab e
  exact h a b hab e
theorem seti_d {a : Addr} {es : List (Str × D)} {x : Str} {d : D} {Q : Sto → Prop} (hp : Put a (.dict es) (.dict (es ++ [(x, d)])) σ σ') (hx : es.lookup x = none) (hz : es.length ≤ sizeLine) (h : Q σ') : SetI c A (.ref a) (.str x) d σ Q := by
  intro Fs K P s v w y E o d1 d2 d3
  cases d1
  cases d2
  obtain ⟨h1, kvs, h2, h3⟩ := dict_at o hp.mem
  refine wpAny_setItem_pairs (isKey x _) h2 (fun h' hd hs => ?_) (by rw [h3.len]; exact hz)
  have e : stored kvs x y = kvs ++ [(x, y)] := by
    unfold stored
    rw [any_none (h3.none hx)]
    rfl
  rw [e] at hd
  obtain ⟨ob, es', ep, g1, g2⟩ := hd
  exact ⟨P, σ', Gr.refl K P, o.upd (tk := s.toks + 1) hp hs g1 ⟨h1, _, fun h e => ⟨ob, es', ep, e, g2⟩, h3.snoc d3⟩, h⟩
theorem S1_Assign_Sub {o i value : Expr} {pos' pos} {Q : Fl → Env' → Sto → Prop} {X : Str → Env' → Sto → Prop} (h : EV c A env Fs value m σ (fun d σ1 => EV c A env Fs o m σ1 (fun t σ2 => EV c A env Fs i m σ2 (fun k σ3 => SetI c A t k d σ3 (fun σ4 => Q .next m σ4)) (fun msg σ => X msg m σ)) (fun msg σ => X msg m σ)) (fun msg σ => X msg m σ))
    (hs : swapsWith value (some (.Subscript o i pos')) pos.line env = pure false := by rfl) : S1 c A env Fs (.Assign [.Subscript o i pos'] value pos) m σ Q X := by
  intro K P s mv ok hM
  refine wpAny_Assign_Subscript (thenVS hM (h K P s mv ok hM) (Gr.refl K P) fun v P1 σ1 d s1 g1 o1 dn1 q1 => ?_) hs
  refine thenVS (hM.mono g1.1) (q1 K P1 s1 mv o1 (hM.mono g1.1)) g1 fun v2 P2 σ2 d2 s2 g2 o2 dn2 q2 => ?_
  have g12 := g1.trans g2
  refine thenVS (hM.mono g12.1) (q2 K P2 s2 mv o2 (hM.mono g12.1)) g12 fun v3 P3 σ3 d3 s3 g3 o3 dn3 q3 => ?_
  refine wpAny_mono (q3 _ K P3 s3 v2 v3 v (RXS c env.locals Fs K P X) o3 (dn2.mono g3.1) dn3 ((dn1.mono g2.1).mono g3.1)) ?_ fun _ _ x => x
  rintro _ s4 ⟨P4, σ4, g4, o4, q4⟩
  have gg := (g12.trans g3).trans g4
  exact ⟨P4, σ4, mv, m, .next, gg, o4, hM.mono gg.1, .next, q4⟩
-- a < b < c
theorem TV_chain {l r₁ r₂ : Expr} {op₁ op₂ : CmpOp} {pos} {Q : Bool → Sto → Prop} (h : EV c A env Fs l m σ (fun a σ1 => EV c A env Fs r₁ m σ1 (fun b σ2 => Op c A (cmp op₁) [a, b] σ2 (fun d σ3 => ∃ t, d = .bool t ∧ ∀ (hb : True), if t then EV c A env Fs r₂ m σ3 (fun b2 σ4 => Op c A (cmp op₂) [b, b2] σ4 (fun d2 σ5 => ∃ t2, d2 = .bool t2 ∧ Q t2 σ5) X) X else Q false σ3) X) X) X)
    (hm : lastMarks [op₁, op₂] [r₁, r₂] = false := by with_unfolding_all rfl) : TV c A env Fs (.Compare l [op₁, op₂] [r₁, r₂] pos) m σ Q X := by
  intro K P s mv o hM
  refine isTrue_chain (thenV (h K P s mv o hM) fun v P1 σ1 d s1 g o1 dn q => ?_) hm
  refine test_link ?_
  refine thenVX (q K P1 s1 mv o1 (hM.mono g.1)) g fun v2 P2 σ2 d2 s2 g2 o2 dn2 q2 => ?_
  have g12 := g.trans g2
  refine thenVX (q2 _ K P2 s2 [v, v2] o2 (.cons (dn.mono g2.1) (.cons dn2 .nil))) g12 fun v3 P3 σ3 d3 s3 g3 o3 dn3 q3 => ?_
  have g13 := g12.trans g3
  obtain ⟨b, rfl, q3⟩ := q3
  cases dn3
  refine wpAny_truthy_bool ?_
  cases b with
  | false => exact ⟨P3, σ3, g13, o3, q3 trivial⟩
  | true =>
    refine test_last ?_
    refine thenVX (q3 trivial K P3 s3 mv o3 (hM.mono g13.1)) g13 fun v4 P4 σ4 d4 s4 g4 o4 dn4 q4 => ?_
    have g14 := g13.trans g4
    refine thenVX (q4 _ K P4 s4 [v2, v4] o4 (.cons ((dn2.mono g3.1).mono g4.1) (.cons dn4 .nil))) g14 fun v5 P5 σ5 d5 s5 g5 o5 dn5 q5 => ?_
    obtain ⟨b, rfl, q5⟩ := q5
    cases dn5
    exact wpAny_truthy_bool ⟨P5, σ5, g14.trans g5, o5, q5⟩
-- tuple[i]
theorem Itm_tup {ds : List D} {i : Nat} {d : D} (hi : ds[i]? = some d) (hz : i < 2 ^ 63) (h : Q d σ) : Op c A itm [.tup ds, .int i] σ Q X := Op2 fun Fs K P s v w o a b => by
  cases b
  obtain ⟨a1, vs, rfl, ht, dl⟩ := a.isTuple o
  obtain ⟨x, e1, e2⟩ := dl.get hi
  refine PyProof.Rows.getItem_tuple (j := i) (x := x) ht (by omega) (by omega) ?_ (by simpa using e1) (retV o e2 h)
  have : i < vs.length := (List.getElem?_eq_some_iff.mp e1).1
  unfold seqIndex?
  simp
  omega
theorem iadd_ii {a b : Int} (h : Q (.int (a + b)) σ) : Op c A (fun vs => match vs with | [x, y] => inplaceOp .Add x y | _ => unsupported "") [.int a, .int b] σ Q X := Op2 fun Fs K P s v w o d e => by cases d; cases e; exact wpAny_iadd_int (retV o.toks .int h)
end
end Mine

-- part T11
open PySem PySem.W PyProof.Rows
set_option Elab.async false
namespace Mine
set_option maxRecDepth 100000 in
set_option maxHeartbeats 8000000 in
open_top hd11 for PySem.Challenge.rw_dm0233_11
end Mine

-- part P11
open PySem PySem.W PyProof.Rows
set_option Elab.async false
set_option linter.unusedVariables false
namespace Mine
open PySem
theorem octs_app (a b : List Nat) : octs (a ++ b) = octs a ++ octs b := by simp [octs]
theorem octs_len (a : List Nat) : (octs a).length = a.length := by simp [octs]
theorem u8 {n : Nat} (h : n < 256) : n.toUInt8.toNat = n := by simp; omega
theorem latin_octs {l : List Nat} (h : ∀ x ∈ l, x < 256) : latin (octs l) = ⟨l.toArray⟩ := by
  have : (octs l).map (·.toNat) = l := by
    unfold octs
    rw [List.map_map]
    refine (List.map_congr_left fun x hx => ?_).trans (List.map_id _)
    exact u8 (h x hx)
  unfold latin
  rw [this]
def consR (l : Str) : (List Str × Nat) ⊕ Str → (List Str × Nat) ⊕ Str
  | .inl q => .inl (l :: q.1, q.2)
  | .inr m => .inr m
/-- what reading a name from a place gives, in so many turns -/
inductive Out (b : List UInt8) : Nat → Nat → (List Str × Nat) ⊕ Str → Prop where
  | fin {p} : b[p]? = some 0 → Out b 1 p (.inl ([], p + 1))
  | lab {p n x r} : b[p]? = some x → 0 < x.toNat → x.toNat < 192 → x.toNat ≤ (b.drop (p + 1)).length → Out b n (p + 1 + x.toNat) r → Out b (n + 1) p (consR (latin ((b.drop (p + 1)).take x.toNat)) r)
  | ptr {p n x y ls e} : b[p]? = some x → 192 ≤ x.toNat → b[p + 1]? = some y → Out b n ((x.toNat - 192) * 256 + y.toNat) (.inl (ls, e)) → Out b (n + 1) p (.inl (ls, p + 2))
  | eof {p} : b.length ≤ p → Out b 1 p (.inr plainMsg)
  | cut {p x} : b[p]? = some x → x.toNat < 192 → (b.drop (p + 1)).length < x.toNat → Out b 1 p (.inr (expMsg "string1" x.toNat (b.drop (p + 1)).length))
  | cutp {p x} : b[p]? = some x → 192 ≤ x.toNat → b.length ≤ p + 1 → Out b 1 p (.inr plainMsg)
theorem get_app {b b' : List UInt8} {p : Nat} {x : UInt8} (h : b[p]? = some x) : (b ++ b')[p]? = some x := by
  rw [List.getElem?_append_left (List.getElem?_eq_some_iff.mp h).1]; exact h
theorem Out.mono {b b' : List UInt8} {n p : Nat} {r} (h : Out b n p r) : (∃ q, r = .inl q) → Out (b ++ b') n p r := by
  induction h with
  | fin h => exact fun _ => .fin (get_app h)
  | @lab p n x r h h0 h1 h2 _ ih =>
    rintro ⟨q, hq⟩
    have hp : p < b.length := (List.getElem?_eq_some_iff.mp h).1
    have e : (b ++ b').drop (p + 1) = b.drop (p + 1) ++ b' := by rw [List.drop_append_of_le_length (by omega)]
    have e2 : ((b ++ b').drop (p + 1)).take x.toNat = (b.drop (p + 1)).take x.toNat := by rw [e, List.take_append_of_le_length h2]
    rw [← e2]
    refine .lab (get_app h) h0 h1 (by rw [e, List.length_append]; omega) (ih ?_)
    cases r with
    | inl q => exact ⟨q, rfl⟩
    | inr m => cases hq
  | ptr h h1 h2 _ ih => exact fun _ => .ptr (get_app h) h1 (get_app h2) (ih ⟨_, rfl⟩)
  | eof => rintro ⟨_, h⟩; cases h
  | cut => rintro ⟨_, h⟩; cases h
  | cutp => rintro ⟨_, h⟩; cases h
theorem Out.monoL {b b' : List UInt8} {n p : Nat} {q} (h : Out b n p (.inl q)) : Out (b ++ b') n p (.inl q) := h.mono ⟨q, rfl⟩
-- the joined text of a name
def jn (ls : List Str) : Str := Txt.join (Str.ofString ".") ls
def inter : List Str → List Nat
  | [] => []
  | [l] => l.cps.toList
  | l :: r => l.cps.toList ++ 46 :: inter r
theorem jn_inter : ∀ ls, (jn ls).cps.toList = inter ls := by
  intro ls
  unfold jn
  show (Builtin.Str.glued _ _).cps.toList = _
  rw [StrLaws.glued_eq_join]
  induction ls with
  | nil => rfl
  | cons a r ih =>
    cases r with
    | nil => rfl
    | cons b r =>
      show (a ++ Str.ofString "." ++ Str.join (Str.ofString ".") (b :: r)).cps.toList = _
      show ((a.cps ++ (Str.ofString ".").cps) ++ (Str.join (Str.ofString ".") (b :: r)).cps).toList = _
      rw [Array.toList_append, Array.toList_append, ih]
      have : (Str.ofString ".").cps = #[46] := by decide +kernel
      rw [this]
      simp [inter]
theorem dot_inj : ∀ {a b x y : List Nat}, 46 ∉ a → 46 ∉ b → a ++ 46 :: x = b ++ 46 :: y → a = b ∧ x = y
  | [], [], x, y, _, _, h => by simp at h; exact ⟨rfl, h⟩
  | [], b :: bs, x, y, _, hb, h => by simp at h; exact absurd h.1 (fun e => hb (e ▸ .head _))
  | a :: as, [], x, y, ha, _, h => by simp at h; exact absurd h.1.symm (fun e => ha (e ▸ .head _))
  | a :: as, b :: bs, x, y, ha, hb, h => by
    simp at h
    obtain ⟨e1, e2⟩ := dot_inj (fun z => ha (.tail _ z)) (fun z => hb (.tail _ z)) h.2
    exact ⟨by rw [h.1, e1], e2⟩
def LbOk (l : Str) : Prop := 0 < l.length ∧ l.length ≤ 3 ∧ ∀ x ∈ l.cps.toList, x < 256 ∧ x ≠ 46
theorem LbOk.dot {l : Str} (h : LbOk l) : 46 ∉ l.cps.toList := fun z => (h.2.2 46 z).2 rfl
theorem inter_inj : ∀ {s t : List Str}, s ≠ [] → t ≠ [] → (∀ l ∈ s, LbOk l) → (∀ l ∈ t, LbOk l) → inter s = inter t → s = t
  | [], _, h, _, _, _, _ => absurd rfl h
  | _, [], _, h, _, _, _ => absurd rfl h
  | [a], [b], _, _, _, _, h => by
    have : a = b := Str.ext_cps (Array.toList_inj.mp h)
    rw [this]
  | [a], b :: c :: r, _, _, hs, _, h => by
    have h : a.cps.toList = b.cps.toList ++ 46 :: inter (c :: r) := h
    exact absurd (by rw [h]; simp) (hs a (.head _)).dot
  | a :: c :: r, [b], _, _, _, ht, h => by
    have h : a.cps.toList ++ 46 :: inter (c :: r) = b.cps.toList := h
    exact absurd (by rw [← h]; simp) (ht b (.head _)).dot
  | a :: c :: r, b :: d :: u, _, _, hs, ht, h => by
    have h : a.cps.toList ++ 46 :: inter (c :: r) = b.cps.toList ++ 46 :: inter (d :: u) := h
    obtain ⟨e1, e2⟩ := dot_inj (hs a (.head _)).dot (ht b (.head _)).dot h
    have e1 : a = b := Str.ext_cps (Array.toList_inj.mp e1)
    rw [e1, inter_inj (by simp) (by simp) (fun l hl => hs l (.tail _ hl)) (fun l hl => ht l (.tail _ hl)) e2]
theorem jn_inj {s t : List Str} (h1 : s ≠ []) (h2 : t ≠ []) (hs : ∀ l ∈ s, LbOk l) (ht : ∀ l ∈ t, LbOk l) (h : jn s = jn t) : s = t :=
  inter_inj h1 h2 hs ht (by rw [← jn_inter, ← jn_inter, h])
-- laying a name
abbrev Pt := Nat × List Str × Nat
def lay (o : List Nat) (K : List (Str × Nat)) : List Str → List Nat × List (Str × Nat) × List Pt
  | [] => (o ++ [0], K, [(o.length, [], 0)])
  | l :: ls => match K.lookup (jn (l :: ls)) with
    | some t => (o ++ [192 + t / 256, t % 256], K, [(o.length, l :: ls, 0)])
    | none =>
      let r := lay (o ++ (l.length :: l.cps.toList)) (K ++ [(jn (l :: ls), o.length)]) ls
      (r.1, r.2.1, (o.length, l :: ls, l.length) :: r.2.2)
def wd (cut : Nat) (w : Str) (pt : Pt) : Str := if 0 < pt.2.2 ∧ pt.1 < cut ∧ cut < pt.1 + 1 + pt.2.2 then expMsg "string1" pt.2.2 (cut - pt.1 - 1) else w
def wds (pts : List Pt) (cut : Nat) (w : Str) : Str := pts.foldl (wd cut) w
theorem wds_app (a b : List Pt) (cut : Nat) (w : Str) : wds (a ++ b) cut w = wds b cut (wds a cut w) := by simp [wds]
def KnOk (o : List Nat) (K : List (Str × Nat)) (ls : List Str) : Prop := ∀ s, s <:+ ls → s ≠ [] → ∀ t, K.lookup (jn s) = some t → t < 16384 ∧ ∃ n e, n ≤ 2 * s.length ∧ Out (octs o) n t (.inl (s, e))
structure LayOk (o : List Nat) (K : List (Str × Nat)) (ls : List Str) (r : List Nat × List (Str × Nat) × List Pt) : Prop where
  z : ∃ z, r.1 = o ++ z ∧ 0 < z.length ∧ z.length ≤ 4 * ls.length + 2 ∧ ∀ x ∈ z, x < 256
  out : ∃ n, n ≤ 2 * ls.length + 1 ∧ Out (octs r.1) n o.length (.inl (ls, r.1.length))
  kn : ∃ Kn, r.2.1 = K ++ Kn ∧ ∀ kt ∈ Kn, ∃ s, s ≠ [] ∧ s <:+ ls ∧ kt.1 = jn s ∧ kt.2 < r.1.length ∧ ∃ n e, n ≤ 2 * s.length ∧ Out (octs r.1) n kt.2 (.inl (s, e))
  pts : ∀ pt ∈ r.2.2, pt.1 < r.1.length ∧ pt.2.2 ≤ 3 ∧ pt.2.1 <:+ ls ∧ ∃ n e, n ≤ 2 * ls.length + 1 ∧ Out (octs r.1) n pt.1 (.inl (pt.2.1, e))
  ptl : r.2.2.length ≤ ls.length + 1
  bad : ∀ cut, o.length ≤ cut → cut < r.1.length → ∃ n, n ≤ 2 * ls.length + 1 ∧ Out (octs (r.1.take cut)) n o.length (.inr (wds r.2.2 cut plainMsg))
  off : ∀ cut w, cut ≤ o.length ∨ r.1.length ≤ cut → wds r.2.2 cut w = w
theorem octs_at {o z : List Nat} {x : Nat} {y : List Nat} (h : z = x :: y) : (octs (o ++ z))[o.length]? = some x.toUInt8 := by
  subst h; simp [octs]
theorem octs_at1 {o z : List Nat} {x x1 : Nat} {y : List Nat} (h : z = x :: x1 :: y) : (octs (o ++ z))[o.length + 1]? = some x1.toUInt8 := by
  subst h
  rw [octs_app, List.getElem?_append_right (by rw [octs_len]; omega), octs_len, Nat.add_sub_cancel_left]
  rfl
theorem octs_drop1 {o : List Nat} {x : Nat} {y : List Nat} : (octs (o ++ x :: y)).drop (o.length + 1) = octs y := by
  unfold octs
  rw [← List.map_drop, List.drop_append, List.drop_of_length_le (by omega)]
  simp
theorem eofAt {o : List Nat} {p : Nat} (h : o.length ≤ p) : Out (octs o) 1 p (.inr plainMsg) := .eof (by rw [octs_len]; exact h)
theorem str_eta (l : Str) : (⟨l.cps.toList.toArray⟩ : Str) = l := by cases l; rfl
theorem lay_ok : ∀ (ls : List Str) (o : List Nat) (K : List (Str × Nat)), (∀ l ∈ ls, LbOk l) → KnOk o K ls → LayOk o K ls (lay o K ls)
  | [], o, K, _, _ => by
    have e1 : (lay o K []).1.length = o.length + 1 := by simp [lay]
    refine ⟨⟨[0], rfl, by simp, by simp, by simp⟩, ⟨1, by simp, ?_⟩, ⟨[], by simp [lay], by simp⟩, ?_, by simp [lay], ?_, ?_⟩
    · rw [e1]; exact .fin (octs_at rfl)
    · intro pt hp
      simp [lay] at hp
      subst hp
      exact ⟨by simp [lay], by simp, List.suffix_refl _, 1, _, by simp, .fin (octs_at rfl)⟩
    · intro cut h1 h2
      rw [e1] at h2
      obtain rfl : cut = o.length := by omega
      have : (lay o K []).1.take o.length = o := by simp [lay]
      rw [this]
      exact ⟨1, by simp, eofAt (Nat.le_refl _)⟩
    · intro cut w _
      simp [lay, wds, wd]
  | l :: ls, o, K, hl, hk => by
    cases hlk : K.lookup (jn (l :: ls)) with
    | some t =>
      have er : lay o K (l :: ls) = (o ++ [192 + t / 256, t % 256], K, [(o.length, l :: ls, 0)]) := by simp [lay, hlk]
      obtain ⟨ht, n, e, hn, ho⟩ := hk (l :: ls) (List.suffix_refl _) (by simp) t hlk
      rw [er]
      have h1 : 192 + t / 256 < 256 := by omega
      have h2 : t % 256 < 256 := by omega
      have key : Out (octs (o ++ [192 + t / 256, t % 256])) (n + 1) o.length (.inl (l :: ls, o.length + 2)) := by
        refine .ptr (e := e) (octs_at rfl) (by rw [u8 h1]; omega) (octs_at1 rfl) ?_
        rw [u8 h1, u8 h2, show (192 + t / 256 - 192) * 256 + t % 256 = t by omega, octs_app]
        exact ho.monoL
      refine ⟨⟨[192 + t / 256, t % 256], rfl, by simp, by simp, ?_⟩, ⟨n + 1, by omega, ?_⟩, ⟨[], by simp, by simp⟩, ?_, by simp, ?_, ?_⟩
      · intro x hx
        simp at hx
        rcases hx with rfl | rfl <;> assumption
      · simpa using key
      · intro pt hp
        simp at hp
        subst hp
        exact ⟨by simp, by simp, List.suffix_refl _, n + 1, _, by simp at hn ⊢; omega, key⟩
      · intro cut c1 c2
        simp at c2
        by_cases q : cut = o.length
        · subst q
          rw [List.take_left]
          refine ⟨1, by omega, ?_⟩
          simp [wds, wd]
          exact eofAt (Nat.le_refl _)
        · obtain rfl : cut = o.length + 1 := by omega
          have : (o ++ [192 + t / 256, t % 256]).take (o.length + 1) = o ++ [192 + t / 256] := by
            rw [List.take_append, List.take_of_length_le (by omega)]; simp
          rw [this]
          refine ⟨1, by omega, ?_⟩
          simp [wds, wd]
          exact .cutp (octs_at rfl) (by rw [u8 h1]; omega) (by rw [octs_len]; simp)
      · intro cut w _
        simp [wds, wd]
    | none =>
      have er : lay o K (l :: ls) = ((lay (o ++ (l.length :: l.cps.toList)) (K ++ [(jn (l :: ls), o.length)]) ls).1, (lay (o ++ (l.length :: l.cps.toList)) (K ++ [(jn (l :: ls), o.length)]) ls).2.1, (o.length, l :: ls, l.length) :: (lay (o ++ (l.length :: l.cps.toList)) (K ++ [(jn (l :: ls), o.length)]) ls).2.2) := by
        rw [lay]; simp only [hlk]
      obtain ⟨hl0, hl3, hlx⟩ := hl l (.head _)
      have hll : l.cps.toList.length = l.length := by simp [Str.length]
      have hls : ∀ x ∈ ls, LbOk x := fun x hx => hl x (.tail _ hx)
      have ho1 : (o ++ (l.length :: l.cps.toList)).length = o.length + 1 + l.length := by simp [Str.length]; omega
      have ih := lay_ok ls (o ++ (l.length :: l.cps.toList)) (K ++ [(jn (l :: ls), o.length)]) hls (by
        intro s hs hne t ht
        rw [List.lookup_append] at ht
        cases hq : K.lookup (jn s) with
        | some t' =>
          rw [hq] at ht
          simp at ht
          subst ht
          obtain ⟨a, n, e, b, d⟩ := hk s (hs.trans (List.suffix_cons _ _)) hne _ hq
          exact ⟨a, n, e, b, by rw [octs_app]; exact d.monoL⟩
        | none =>
          rw [hq] at ht
          simp [List.lookup] at ht
          have hne2 : (jn s == jn (l :: ls)) = false := by
            refine beq_false_of_ne fun e => ?_
            have := jn_inj hne (by simp) (fun x hx => hls x (hs.subset hx)) hl e
            have := hs.length_le
            subst_vars
            simp at this
            omega
          rw [hne2] at ht
          cases ht)
      rw [er]
      generalize lay (o ++ (l.length :: l.cps.toList)) (K ++ [(jn (l :: ls), o.length)]) ls = r at ih
      obtain ⟨⟨z, hz, hz0, hzl, hzx⟩, ⟨n, hn, hout⟩, ⟨Kn, hKn, hkn⟩, hpts, hptl, hbad, hoff⟩ := ih
      have hr : r.1 = o ++ (l.length :: (l.cps.toList ++ z)) := by rw [hz]; simp
      have hrl : r.1.length = o.length + 1 + l.length + z.length := by rw [hz, List.length_append, ho1]
      have h192 : l.length < 256 := by omega
      have labs : ∀ (z' : List Nat) n res, Out (octs (o ++ (l.length :: (l.cps.toList ++ z')))) n (o ++ (l.length :: l.cps.toList)).length res → Out (octs (o ++ (l.length :: (l.cps.toList ++ z')))) (n + 1) o.length (consR l res) := by
        intro z' n res h
        have e1 : (octs (o ++ (l.length :: (l.cps.toList ++ z')))).drop (o.length + 1) = octs (l.cps.toList ++ z') := octs_drop1
        have e2 : ((octs (o ++ (l.length :: (l.cps.toList ++ z')))).drop (o.length + 1)).take (l.length.toUInt8).toNat = octs l.cps.toList := by
          rw [e1, u8 h192, octs_app, ← hll, ← octs_len, List.take_left]
        have e3 : l = latin (((octs (o ++ (l.length :: (l.cps.toList ++ z')))).drop (o.length + 1)).take (l.length.toUInt8).toNat) := by
          rw [e2, latin_octs fun x hx => (hlx x hx).1, str_eta]
        have := Out.lab (b := octs (o ++ (l.length :: (l.cps.toList ++ z')))) (p := o.length) (n := n) (r := res) (octs_at rfl) (by rw [u8 h192]; exact hl0) (by rw [u8 h192]; omega) (by rw [e1, u8 h192, octs_len, List.length_append, hll]; omega) (by rw [u8 h192, ← ho1]; exact h)
        rw [← e3] at this
        exact this
      have key : Out (octs r.1) (n + 1) o.length (.inl (l :: ls, r.1.length)) := by
        rw [hr] at hout ⊢
        exact labs z n _ hout
      refine ⟨⟨l.length :: (l.cps.toList ++ z), hr, by simp, ?_, ?_⟩, ⟨n + 1, by simp; omega, key⟩, ⟨(jn (l :: ls), o.length) :: Kn, by rw [hKn]; simp, ?_⟩, ?_, by simp; omega, ?_, ?_⟩
      · simp only [List.length_cons, List.length_append, hll]; omega
      · intro x hx
        rcases List.mem_cons.mp hx with rfl | hx
        · exact h192
        · rcases List.mem_append.mp hx with hx | hx
          · exact (hlx x hx).1
          · exact hzx x hx
      · intro kt hkt
        rcases List.mem_cons.mp hkt with rfl | hkt
        · refine ⟨l :: ls, by simp, List.suffix_refl _, rfl, ?_, n + 1, _, ?_, key⟩
          · show o.length < r.1.length
            omega
          · simp; omega
        · obtain ⟨s, a1, a2, a3⟩ := hkn kt hkt
          exact ⟨s, a1, a2.trans (List.suffix_cons _ _), a3⟩
      · intro pt hp
        rcases List.mem_cons.mp hp with rfl | hp
        · refine ⟨?_, hl3, List.suffix_refl _, n + 1, _, by simp; omega, key⟩
          show o.length < r.1.length
          omega
        · obtain ⟨a1, a2, a3, n', e', a4, a5⟩ := hpts pt hp
          exact ⟨a1, a2, a3.trans (List.suffix_cons _ _), n', e', by simp; omega, a5⟩
      · intro cut c1 c2
        have c2 : cut < r.1.length := c2
        show ∃ n, n ≤ _ ∧ Out (octs (r.1.take cut)) n o.length (.inr (wds r.2.2 cut (wd cut plainMsg (o.length, l :: ls, l.length))))
        by_cases q : cut < o.length + 1 + l.length
        · rw [hoff cut _ (.inl (by rw [ho1]; omega))]
          by_cases q0 : cut = o.length
          · subst q0
            have : r.1.take o.length = o := by rw [hr, List.take_left]
            rw [this]
            refine ⟨1, by simp, ?_⟩
            rw [show wd o.length plainMsg (o.length, l :: ls, l.length) = plainMsg from if_neg (by simp)]
            exact eofAt (Nat.le_refl _)
          · have hwd : wd cut plainMsg (o.length, l :: ls, l.length) = expMsg "string1" l.length (cut - o.length - 1) := if_pos ⟨hl0, by show o.length < cut; omega, q⟩
            rw [hwd]
            have et : r.1.take cut = o ++ l.length :: (l.cps.toList.take (cut - o.length - 1)) := by
              rw [hr, List.take_append, List.take_of_length_le (by omega)]
              rw [show cut - o.length = (cut - o.length - 1) + 1 by omega, List.take_succ_cons, List.take_append_of_le_length (by rw [hll]; omega)]
              simp
            rw [et]
            have e1 := octs_drop1 (o := o) (x := l.length) (y := l.cps.toList.take (cut - o.length - 1))
            have e2 : ((octs (o ++ l.length :: (l.cps.toList.take (cut - o.length - 1)))).drop (o.length + 1)).length = cut - o.length - 1 := by
              rw [e1, octs_len, List.length_take, hll]; omega
            refine ⟨1, by simp, ?_⟩
            have := Out.cut (b := octs (o ++ l.length :: (l.cps.toList.take (cut - o.length - 1)))) (p := o.length) (octs_at rfl) (by rw [u8 h192]; omega) (by rw [e2, u8 h192]; omega)
            rw [e2, u8 h192] at this
            exact this
        · obtain ⟨n', hn', hb⟩ := hbad cut (by rw [ho1]; omega) c2
          have hwd : wd cut plainMsg (o.length, l :: ls, l.length) = plainMsg := if_neg fun z => q z.2.2
          rw [hwd]
          have et : r.1.take cut = o ++ (l.length :: (l.cps.toList ++ z.take (cut - (o.length + 1 + l.length)))) := by
            rw [hz, List.take_append, ho1, List.take_of_length_le (by rw [ho1]; omega)]
            simp
          rw [et] at hb ⊢
          exact ⟨n' + 1, by simp; omega, labs _ n' _ hb⟩
      · intro cut w hc
        show wds r.2.2 cut (wd cut w (o.length, l :: ls, l.length)) = w
        have hc : cut ≤ o.length ∨ r.1.length ≤ cut := hc
        rw [hoff cut _ (by rw [ho1]; omega)]
        exact if_neg fun ⟨_, z1, z2⟩ => by
          have z1 : o.length < cut := z1
          have z2 : cut < o.length + 1 + l.length := z2
          omega
end Mine

-- part P11b
open PySem PySem.W PyProof.Rows
set_option Elab.async false
set_option linter.unusedVariables false
namespace Mine
open PySem
def NmOk (nm : List Str) : Prop := nm.length ≤ 3 ∧ ∀ l ∈ nm, LbOk l
/-- what holds when some names are laid -/
structure LaidN (dn : List (List Str)) (o : List Nat) (K : List (Str × Nat)) (parts : List Pt) (ends : List Nat) : Prop where
  lenE : ends.length = dn.length + 1
  zero : ends[0]? = some 0
  last : ends[dn.length]? = some o.length
  lenO : o.length ≤ 14 * dn.length
  lenP : parts.length ≤ 4 * dn.length
  byte : ∀ x ∈ o, x < 256
  mono : ∀ (i j a b : Nat), i ≤ j → ends[i]? = some a → ends[j]? = some b → a ≤ b
  ok : ∀ (j : Nat) nm, dn[j]? = some nm → ∃ a e n, ends[j]? = some a ∧ ends[j + 1]? = some e ∧ n ≤ 20 ∧ Out (octs (o.take e)) n a (.inl (nm, e))
  known : ∀ kt ∈ K, kt.2 < o.length ∧ ∃ s, s ≠ [] ∧ (∀ l ∈ s, LbOk l) ∧ kt.1 = jn s ∧ ∃ n e, n ≤ 2 * s.length ∧ Out (octs o) n kt.2 (.inl (s, e))
  part : ∀ pt ∈ parts, pt.1 < o.length ∧ pt.2.2 ≤ 3 ∧ pt.2.1.length ≤ 3 ∧ ∃ n e, n ≤ 20 ∧ Out (octs o) n pt.1 (.inl (pt.2.1, e))
  bad : ∀ (j a cut : Nat), ends[j]? = some a → a ≤ cut → (∀ e, ends[j + 1]? = some e → cut < e) → cut ≤ o.length → ∃ n, n ≤ 20 ∧ Out (octs (o.take cut)) n a (.inr (wds parts cut plainMsg))
  past : ∀ cut w, o.length ≤ cut → wds parts cut w = w
theorem LaidN.init : LaidN [] [] [] [] [0] := by
  refine ⟨rfl, rfl, rfl, by simp, by simp, by simp, ?_, by simp, by simp, by simp, ?_, fun _ _ _ => rfl⟩
  · intro i j a b hij hi hj
    have h1 := (List.getElem?_eq_some_iff.mp hi).1
    have h2 := (List.getElem?_eq_some_iff.mp hj).1
    simp at h1 h2
    subst h1 h2
    simp at hi hj
    omega
  · intro j a cut hj hc _ hc2
    have h1 := (List.getElem?_eq_some_iff.mp hj).1
    simp at h1
    subst h1
    simp at hj hc2
    subst hj hc2
    exact ⟨1, by omega, eofAt (o := []) (Nat.le_refl _)⟩
theorem lookup_mem {K : List (Str × Nat)} {x : Str} {t : Nat} (h : K.lookup x = some t) : (x, t) ∈ K := by
  induction K with
  | nil => cases h
  | cons a r ih =>
    obtain ⟨k, v⟩ := a
    by_cases q : x = k
    · subst q; simp [List.lookup] at h; subst h; exact .head _
    · have q' : (x == k) = false := by simp [q]
      simp only [List.lookup, q'] at h
      exact .tail _ (ih h)
theorem LaidN.kn {dn o K parts ends} (L : LaidN dn o K parts ends) (hz : dn.length ≤ 20) {nm : List Str} (hn : NmOk nm) : KnOk o K nm := by
  intro s hs hne t ht
  obtain ⟨h1, s', h2, h3, h4, n, e, h5, h6⟩ := L.known _ (lookup_mem ht)
  have := L.lenO
  have e1 : s = s' := jn_inj hne h2 (fun l hl => hn.2 l (hs.subset hl)) h3 h4
  subst e1
  exact ⟨by show t < _; have : t < o.length := h1; omega, n, e, h5, h6⟩
theorem LaidN.layOk {dn o K parts ends} (L : LaidN dn o K parts ends) (hz : dn.length ≤ 20) {nm : List Str} (hn : NmOk nm) : LayOk o K nm (lay o K nm) := lay_ok nm o K hn.2 (L.kn hz hn)
theorem LaidN.snoc {dn o K parts ends} (L : LaidN dn o K parts ends) (hz : dn.length ≤ 20) {nm : List Str} (hn : NmOk nm) : LaidN (dn ++ [nm]) (lay o K nm).1 (lay o K nm).2.1 (parts ++ (lay o K nm).2.2) (ends ++ [(lay o K nm).1.length]) := by
  have R := L.layOk hz hn
  generalize lay o K nm = r at R
  obtain ⟨⟨z, hz1, hz2, hz3, hz4⟩, ⟨n, hn1, hn2⟩, ⟨Kn, hk1, hk2⟩, hpts, hptl, hbad, hoff⟩ := R
  have hrl : r.1.length = o.length + z.length := by rw [hz1, List.length_append]
  have l1 := L.lenE
  have hnl := hn.1
  have tk : ∀ e, e ≤ o.length → r.1.take e = o.take e := fun e he => by rw [hz1, List.take_append_of_le_length he]
  have inl : ∀ {i a}, ends[i]? = some a → i < dn.length + 1 := fun h => by have := (List.getElem?_eq_some_iff.mp h).1; omega
  have ele : ∀ {i a}, ends[i]? = some a → a ≤ o.length := fun {i a} h => L.mono i dn.length a o.length (by have := inl h; omega) h L.last
  have old : ∀ {i a}, i < dn.length + 1 → (ends ++ [r.1.length])[i]? = some a → ends[i]? = some a := fun {i a} hi h => by
    rw [List.getElem?_append_left (by omega)] at h; exact h
  have ext : ∀ {i a}, ends[i]? = some a → (ends ++ [r.1.length])[i]? = some a := fun {i a} h => by
    rw [List.getElem?_append_left (by have := inl h; omega)]; exact h
  have new : (ends ++ [r.1.length])[dn.length + 1]? = some r.1.length := by rw [← l1]; simp
  refine ⟨by simp [l1], ext L.zero, by simp only [List.length_append, List.length_singleton]; exact new, ?_, ?_, ?_, ?_, ?_, ?_, ?_, ?_, ?_⟩
  · have := L.lenO
    simp only [List.length_append, List.length_singleton]
    omega
  · have := L.lenP
    simp only [List.length_append, List.length_singleton]
    omega
  · intro x hx
    rw [hz1] at hx
    rcases List.mem_append.mp hx with hx | hx
    · exact L.byte x hx
    · exact hz4 x hx
  · intro i j a b hij hi hj
    have hjl := (List.getElem?_eq_some_iff.mp hj).1
    simp only [List.length_append, List.length_singleton] at hjl
    by_cases q : j < dn.length + 1
    · exact L.mono i j a b hij (old (by omega) hi) (old q hj)
    · obtain rfl : j = dn.length + 1 := by omega
      rw [new] at hj
      cases hj
      by_cases q2 : i < dn.length + 1
      · have := ele (old q2 hi); omega
      · obtain rfl : i = dn.length + 1 := by omega
        rw [new] at hi
        cases hi
        exact Nat.le_refl _
  · intro j nm' hj
    have hjl := (List.getElem?_eq_some_iff.mp hj).1
    simp only [List.length_append, List.length_singleton] at hjl
    by_cases q : j < dn.length
    · rw [List.getElem?_append_left q] at hj
      obtain ⟨a, e, n, h1, h2, h3, h4⟩ := L.ok j nm' hj
      exact ⟨a, e, n, ext h1, ext h2, h3, by rw [tk e (ele h2)]; exact h4⟩
    · obtain rfl : j = dn.length := by omega
      simp at hj
      subst hj
      exact ⟨o.length, r.1.length, n, ext L.last, new, by omega, by rw [List.take_length]; exact hn2⟩
  · intro kt hkt
    rw [hk1] at hkt
    rcases List.mem_append.mp hkt with hkt | hkt
    · obtain ⟨h1, s, h2, h3, h4, n, e, h5, h6⟩ := L.known kt hkt
      exact ⟨by omega, s, h2, h3, h4, n, e, h5, by rw [hz1, octs_app]; exact h6.monoL⟩
    · obtain ⟨s, h1, h2, h3, h4, n, e, h5, h6⟩ := hk2 kt hkt
      exact ⟨h4, s, h1, fun l hl => hn.2 l (h2.subset hl), h3, n, e, h5, h6⟩
  · intro pt hpt
    rcases List.mem_append.mp hpt with hpt | hpt
    · obtain ⟨h1, h2, h3, n, e, h5, h6⟩ := L.part pt hpt
      exact ⟨by omega, h2, h3, n, e, h5, by rw [hz1, octs_app]; exact h6.monoL⟩
    · obtain ⟨h1, h2, h3, n, e, h5, h6⟩ := hpts pt hpt
      exact ⟨h1, h2, by have := h3.length_le; omega, n, e, by omega, h6⟩
  · intro j a cut hj hc hc2 hc3
    rw [wds_app]
    have hjl := (List.getElem?_eq_some_iff.mp hj).1
    simp only [List.length_append, List.length_singleton] at hjl
    by_cases q : j < dn.length
    · have ha := old (by omega) hj
      have h2 : ∃ e, ends[j + 1]? = some e := ⟨_, List.getElem?_eq_getElem (by omega)⟩
      obtain ⟨e, he⟩ := h2
      have := hc2 e (ext he)
      have := ele he
      rw [hoff cut _ (.inl (by omega)), tk cut (by omega)]
      exact L.bad j a cut ha hc (fun e' h' => by rw [he] at h'; cases h'; omega) (by omega)
    · by_cases q1 : j = dn.length
      · subst q1
        have ha := old (by omega) hj
        rw [L.last] at ha
        cases ha
        have := hc2 _ new
        rw [L.past cut _ hc]
        obtain ⟨n, h1, h2⟩ := hbad cut hc this
        exact ⟨n, by omega, h2⟩
      · obtain rfl : j = dn.length + 1 := by omega
        rw [new] at hj
        cases hj
        rw [hoff cut _ (.inr hc), L.past cut _ (by omega)]
        exact ⟨1, by omega, eofAt (by rw [List.length_take]; omega)⟩
  · intro cut w hc
    rw [wds_app, L.past cut w (by omega), hoff cut w (.inr hc)]
end Mine

-- part P11c
open PySem PySem.W PyProof.Rows
set_option Elab.async false
set_option linter.unusedVariables false
namespace Mine
open PySem
section
variable {b : List UInt8} {n p : Nat} {r : (List Str × Nat) ⊕ Str}
theorem Out.eof' (h : Out b n p r) (hp : b.length ≤ p) : r = .inr plainMsg := by
  have no : ∀ {x}, b[p]? = some x → False := fun h => by have := (List.getElem?_eq_some_iff.mp h).1; omega
  cases h with
  | fin h => exact (no h).elim
  | lab h => exact (no h).elim
  | ptr h => exact (no h).elim
  | eof => rfl
  | cut h => exact (no h).elim
  | cutp h => exact (no h).elim
theorem Out.hi (h : Out b n p r) {x : UInt8} (hx : b[p]? = some x) (hq : 192 ≤ x.toNat) : (b.length ≤ p + 1 ∧ r = .inr plainMsg) ∨ ∃ y n' ls e, b[p + 1]? = some y ∧ n = n' + 1 ∧ Out b n' ((x.toNat - 192) * 256 + y.toNat) (.inl (ls, e)) ∧ r = .inl (ls, p + 2) := by
  have hl := (List.getElem?_eq_some_iff.mp hx).1
  cases h with
  | fin h => rw [hx] at h; cases h; simp at hq
  | lab h _ h1 => rw [hx] at h; cases h; omega
  | ptr h _ h2 h3 => rw [hx] at h; cases h; exact .inr ⟨_, _, _, _, h2, rfl, h3, rfl⟩
  | eof h => omega
  | cut h h1 => rw [hx] at h; cases h; omega
  | cutp h _ h1 => exact .inl ⟨h1, rfl⟩
theorem Out.lo (h : Out b n p r) {x : UInt8} (hx : b[p]? = some x) (hq : x.toNat < 192) : (x.toNat = 0 ∧ r = .inl ([], p + 1)) ∨ (0 < x.toNat ∧ (b.drop (p + 1)).length < x.toNat ∧ r = .inr (expMsg "string1" x.toNat (b.drop (p + 1)).length)) ∨
    ∃ n' r', 0 < x.toNat ∧ x.toNat ≤ (b.drop (p + 1)).length ∧ n = n' + 1 ∧ Out b n' (p + 1 + x.toNat) r' ∧ r = consR (latin ((b.drop (p + 1)).take x.toNat)) r' := by
  have hl := (List.getElem?_eq_some_iff.mp hx).1
  cases h with
  | fin h => rw [hx] at h; cases h; exact .inl ⟨rfl, rfl⟩
  | lab h h0 h1 h2 h3 => rw [hx] at h; cases h; exact .inr (.inr ⟨_, _, h0, h2, rfl, h3, rfl⟩)
  | ptr h h1 => rw [hx] at h; cases h; omega
  | eof h => omega
  | cut h h1 h2 => rw [hx] at h; cases h; exact .inr (.inl ⟨by omega, h2, rfl⟩)
  | cutp h h1 => rw [hx] at h; cases h; omega
theorem Out.pos (h : Out b n p r) : 0 < n := by cases h <;> omega
end
def endI : Option Nat → Int
  | none => -1
  | some e => (e : Nat)
def finR (dn : List Str) (en : Option Nat) : (List Str × Nat) ⊕ Str → (List Str × Nat) ⊕ Str
  | .inl q => .inl (dn ++ q.1, en.getD q.2)
  | .inr m => .inr m
theorem finR_cons (dn : List Str) (en : Option Nat) (l : Str) (r) : finR dn en (consR l r) = finR (dn ++ [l]) en r := by
  cases r <;> simp [finR, consR]
theorem finR_nil (r) : finR [] none r = r := by cases r <;> rfl
end Mine

-- part L11a
open PySem PySem.W PyProof.Rows
set_option Elab.async false
set_option linter.unusedVariables false
set_option maxRecDepth 100000
namespace Mine
open PySem PySem.Calls PySem.Spec
noncomputable abbrev KK (wp : Params) : Frag := hd11.heap_39 wp
section
variable {c : Cx} {A : Around} {env : Env} {Fs : List Fm} {K P P1 : Mp} {σ σ' : Sto} {s : Shared} {m m' : Env'} {Q : D → Sto → Prop} {X : Str → Sto → Prop} {wp : Params}

theorem exc11 : ExC (KK wp) 45 where
  ga := by rfl
  gk := by rfl
  nv := by rfl
  nr := by rfl
  cd := ⟨_, rfl, rfl⟩
  sa := by rfl
  po := by rfl

/-- all that is known of the ground -/
structure G6 (c : Cx) (wp : Params) : Prop where
  G : Gd c (KK wp)
  C : c.C = 45
  T : RdText c
theorem G6.E (g : G6 c wp) : ExC (KK wp) c.C := g.C ▸ exc11

theorem uint1 {d : Addr} {b : List UInt8} {p : Nat} (g : G6 c wp) (fr : FrA A Fs) (hroom : A.depth + 2 < recursionLimit) (hh : A.handled = none)
    (hz : b.length ≤ sizeLine) (h1 : ∀ x, b[p]? = some x → Q (.int x.toNat) ((d, .sdict b (p + 1)) :: σ)) (h2 : b.length ≤ p → X plainMsg ((d, .sdict b p) :: σ)) : CallC c A Fs 21 [.strm c.C d] ((d, .sdict b p) :: σ) Q X := by
  obtain ⟨G, hC, T⟩ := id g
  refine call_fn (ns := ["f"]) (cl := []) (fun K P s o => o.keeps _ _ (G.X 21 _ rfl)) rfl (fun K P s o => (codeRec_of G.X rfl).keeps o.keeps) G.lim (by omega) fr (fun ws hw => ?_) (by decide) (fun L fa => ?_) rfl rfl rfl (by decide)
  · match ws, hw with
    | [w], _ => rfl
  · by_cases hlt : p < b.length
    · have e1 : (b.drop p).take 1 = [b[p]] := by
        rw [List.drop_eq_getElem_cons hlt]; rfl
      refine SV_cons (S1_Assign_Name (EV_Read (d := d) (b := b) (p := p) G g.E T rfl fa (by show A.depth + 1 < _; omega) (EV_local rfl ⟨rfl, .head _, LV_cons (EV_int (LV_nil ⟨1, _, rfl, hz, .here, ?_⟩))⟩)))
      rw [e1]
      refine NV_local (SV_cons (S1_If (TV_plain (EV_local rfl ⟨_, Tru_bytes (by simp [sizeLine_eq]), ?_⟩))))
      refine SV_cons (S1_Return (EV_Sub FB.slot_bytes_getitem.lookup (EV_local rfl (EV_int ⟨TyIs_bytes, Itm_bytes (i := 0) (by simp) (by simp) ?_⟩))))
      exact h1 _ (by simp [hlt])
    · have e1 : (b.drop p).take 1 = [] := by
        rw [List.drop_of_length_le (by omega)]; rfl
      refine SV_cons (S1_Assign_Name (EV_Read (d := d) (b := b) (p := p) G g.E T rfl fa (by show A.depth + 1 < _; omega) (EV_local rfl ⟨rfl, .head _, LV_cons (EV_int (LV_nil ⟨1, _, rfl, hz, .here, ?_⟩))⟩)))
      rw [e1]
      refine NV_local (SV_cons (S1_If (TV_plain (EV_local rfl ⟨_, Tru_bytes (by simp [sizeLine_eq]), ?_⟩))))
      refine SV_nil (SV_cons (S1_Raise hh (EV_builtin G fa rfl boot_VE (fun _ => .type) ⟨rfl, EV_str ⟨_, rfl, h2 (by omega)⟩⟩)))

theorem string1 {d : Addr} {b : List UInt8} {p : Nat} (g : G6 c wp) (fr : FrA A Fs) (hroom : A.depth + 3 < recursionLimit) (hh : A.handled = none)
    (hz : b.length ≤ sizeLine) (h0 : b.length ≤ p → X plainMsg ((d, .sdict b p) :: σ))
    (h1 : ∀ x, b[p]? = some x → x.toNat ≤ (b.drop (p + 1)).length → Q (.str (latin ((b.drop (p + 1)).take x.toNat))) ((d, .sdict b (p + 1 + x.toNat)) :: σ))
    (h2 : ∀ x, b[p]? = some x → (b.drop (p + 1)).length < x.toNat → X (expMsg "string1" x.toNat (b.drop (p + 1)).length) ((d, .sdict b b.length) :: σ)) : CallC c A Fs 28 [.strm c.C d] ((d, .sdict b p) :: σ) Q X := by
  obtain ⟨G, hC, T⟩ := id g
  refine call_fn (ns := ["f"]) (cl := []) (fun K P s o => o.keeps _ _ (G.X 28 _ rfl)) rfl (fun K P s o => (codeRec_of G.X rfl).keeps o.keeps) G.lim (by omega) fr (fun ws hw => ?_) (by decide) (fun L fa => ?_) rfl rfl rfl (by decide)
  · match ws, hw with
    | [w], _ => rfl
  · refine SV_cons (S1_Assign_Name (EV_Call_fn (fa := 21) (EV_global G fa rfl (fun _ => .ref) ⟨rfl, LV_cons (EV_local rfl (LV_nil ⟨fun Fs K P s o => o.keeps _ _ (G.X 21 _ rfl), fun mv => (uint1 g (fa.frA mv) (by show A.depth + 1 + 2 < _; omega) hh hz (fun x hx => ?_) (fun hp => h0 hp)).op⟩))⟩) rfl))
    have hn : x.toNat < 256 := x.toNat_lt
    have hlt : p < b.length := (List.getElem?_eq_some_iff.mp hx).1
    have hl : ((b.drop (p + 1)).take x.toNat).length = min x.toNat (b.drop (p + 1)).length := List.length_take
    refine NV_local (SV_cons (S1_Assert (TV_Compare (EV_local rfl (EV_int (ge_ii ⟨_, rfl, decide_eq_true (by omega), ?_⟩))))))
    refine SV_cons (S1_Assign_Name (EV_Read (d := d) (b := b) (p := p + 1) G g.E T rfl fa (by show A.depth + 1 < _; omega) (EV_local rfl ⟨rfl, .head _, LV_cons (EV_local rfl (LV_nil ⟨x.toNat, _, rfl, hz, .here, ?_⟩))⟩)))
    refine NV_local (SV_cons (S1_If (TV_Compare (EV_Call_bi (id := "len") (EV_builtin G fa rfl boot_len (fun _ => .bi) ⟨rfl, LV_cons (EV_local rfl (LV_nil (len_b (by rw [hl]; rw [sizeLine_eq]; omega) (EV_local rfl (eq_ii ⟨_, rfl, ?_⟩)))))⟩)))))
    by_cases hle : x.toNat ≤ (b.drop (p + 1)).length
    · have e1 : ((((b.drop (p + 1)).take x.toNat).length : Int) == (x.toNat : Int)) = true := by rw [hl, Nat.min_eq_left hle]; exact beq_self_eq_true _
      rw [e1]
      refine SV_cons (S1_Return (EV_Method FB.plainAttrs_bytes FB.slot_bytes_decode FB.type_bytes_decode (EV_local rfl ⟨TyIs_bytes, NoD_bytes, LV_cons (EV_str (LV_nil (decode_latin (by rw [hl]; rw [sizeLine_eq]; omega) ?_)))⟩)))
      rw [hl, Nat.min_eq_left hle]
      exact h1 x hx hle
    · have e1 : ((((b.drop (p + 1)).take x.toNat).length : Int) == (x.toNat : Int)) = false := by rw [hl, Nat.min_eq_right (by omega)]; exact beq_false_of_ne (by omega)
      rw [e1]
      have e2 : (b.drop (p + 1)).take x.toNat = b.drop (p + 1) := List.take_of_length_le (by omega)
      rw [e2]
      have e3 : p + 1 + (b.drop (p + 1)).length = b.length := by rw [List.length_drop]; omega
      rw [e3]
      have hz2 : (b.drop (p + 1)).length < 256 := by omega
      refine SV_nil (SV_cons (S1_Raise hh (EV_builtin G fa rfl boot_VE (fun _ => .type) ⟨rfl, EV_BinOp (EV_str (EV_Tuple (LV_cons (EV_local rfl (LV_cons (EV_Call_bi (id := "len") (EV_builtin G fa rfl boot_len (fun _ => .bi) ⟨rfl, LV_cons (EV_local rfl (LV_nil (len_b (by rw [sizeLine_eq]; omega) (LV_nil ⟨by simp [sizeLine_eq], ?_⟩))))⟩)))))))⟩)))
      exact pct_string1 (by omega) (by omega) ⟨_, rfl, h2 x hx (by omega)⟩
/-- the ground of the streams -/
structure G6s (c : Cx) (wp : Params) : Prop extends G6 c wp where
  CH : CodeHd c.h₀ 55 51
  qual : c.qual = Str.ofString "_law_stream" ++ Str.ofString ".<locals>." ++ Str.ofString "_law_read"
  ST : ∃ (params : Arguments) (body : List Stmt) (scope : Scope), FnK (KK wp) 56 "_law_stream" params body scope (.ref 55) ∧ StText2 c params body scope
theorem inText : ∃ params body scope, FnK (KK wp) 42 "_Example.__init__" params body scope (.ref 41) ∧ InText params body scope := by
  refine ⟨_, _, _, ⟨⟨_, _, _, _, _, _, _, _, rfl⟩, rfl⟩, ?_⟩
  exact ⟨rfl, ⟨_, _, rfl⟩, ⟨_, _, _, _, rfl⟩⟩
theorem stream {b : List UInt8} {pl : Nat} (g : G6s c wp) (fr : FrA A Fs) (hroom : A.depth + 4 < recursionLimit) (hT : (51, AO.tab) ∈ σ) (h : ∀ d, Q (.strm c.C d) ((d, .sdict b pl) :: σ)) : CallC c A Fs 56 [.bytes b, .int (pl : Nat)] σ Q X := by
  obtain ⟨ps, bd, sc, F, ST⟩ := g.ST
  obtain ⟨pi, bi, si, FI, TI⟩ := inText (wp := wp)
  have hC := g.C
  refine stream_call2 (T := 51) (cc := 55) g.G g.E F rfl g.CH ST g.qual.symm FI TI ?_ ?_ ?_ ?_ ?_ g.T fr hroom hT h
  · rw [hC]; rfl
  · rw [hC]; rfl
  · rw [hC]; rfl
  · rw [hC]; rfl
  · rfl

end
end Mine

-- part L11b
open PySem PySem.W PyProof.Rows
set_option Elab.async false
set_option linter.unusedVariables false
set_option maxRecDepth 100000
set_option maxHeartbeats 4000000
namespace Mine
open PySem PySem.Calls PySem.Spec
section
variable {c : Cx} {A : Around} {env : Env} {Fs : List Fm} {K P P1 : Mp} {σ σ' : Sto} {s : Shared} {m m' : Env'} {Q : D → Sto → Prop} {X : Str → Sto → Prop} {wp : Params}
def txts (l : List Str) : List D := l.map .str
theorem CallC.dropX {fa : Addr} {ds : List D} (h : CallC c A Fs fa ds σ (fun d σ1 => ∃ σ2 : Sto, σ2.Sublist σ1 ∧ Q d σ2) (fun msg σ1 => ∃ σ2 : Sto, σ2.Sublist σ1 ∧ X msg σ2)) : CallC c A Fs fa ds σ Q X := by
  intro K P s vs o dl
  refine codeAny_mono (h K P s vs o dl) fun r s' hr => ?_
  cases r with
  | ok f =>
    cases f with
    | ret v =>
      obtain ⟨P', σ', d, g, o', dn, σ2, hs, q⟩ := hr
      exact ⟨P', σ2, d, g, o'.drop hs, dn, q⟩
    | _ => exact hr
  | error e =>
    obtain ⟨e, P', σ', msg, he, g, o', t, σ2, hs, q⟩ := hr
    refine ⟨e, P', σ2, msg, he, g, o'.drop (hs.cons₂ _), t.less fun a ha => ?_, q⟩
    exact (((hs.cons₂ _).map _).append (List.Sublist.refl _)).subset ha
def mNm (c : Cx) (a : Addr) (b : List UInt8) (p : Nat) (en : Option Nat) : Env' := [(Str.ofString "labels", .ref a), (Str.ofString "end", .int (endI en)), (Str.ofString "place", .int (p : Nat)), (Str.ofString "octets", .bytes b)]
theorem sub4 {σ : Sto} {x y : Addr × AO} : σ.Sublist (x :: y :: σ) := List.Sublist.cons _ (List.Sublist.cons _ (List.Sublist.refl _))
theorem name_call {b : List UInt8} {p n : Nat} {r} (g : G6s c wp) (fr : FrA A Fs) (hroom : A.depth + 6 < recursionLimit) (hh : A.handled = none) (hz : b.length ≤ 1000) (hO : Out b n p r) (hn : n ≤ 20)
    (h1 : ∀ ls e, r = .inl (ls, e) → Q (.tup [.lst (txts ls), .int (e : Nat)]) ((51, .tab) :: σ)) (h2 : ∀ msg, r = .inr msg → X msg ((51, .tab) :: σ)) : CallC c A Fs 68 [.bytes b, .int (p : Nat)] ((51, .tab) :: σ) Q X := by
  have G := g.G
  have hz' : b.length ≤ sizeLine := by rw [sizeLine_eq]; omega
  refine CallC.dropX ?_
  refine call_fn (ns := ["octets", "place"]) (cl := []) (fun K P s o => o.keeps _ _ (G.X 68 _ rfl)) rfl (fun K P s o => (codeRec_of G.X rfl).keeps o.keeps) G.lim (by omega) fr (fun ws hw => ?_) (by decide) (fun L fa => ?_) rfl rfl rfl (by decide)
  · match ws, hw with
    | [w, w'], _ => rfl
  · refine SV_cons <| S1_Assign_Name <| EV_ListM <| LV_nil ⟨by decide, fun a => NV_local ?_⟩
    refine SV_cons <| S1_Assign_Name <| EV_UnaryOp <| EV_int <| neg_i <| NV_local ?_
    refine SV_cons <| S1_For fa hh <| EV_Call_ty (T := "range") <| EV_builtin G fa rfl boot_range (fun _ => .type) ⟨rfl, LV_cons <| EV_int <| LV_nil ?_⟩
    refine range_1 (n := 20) ⟨_, Iter_rng (small0 (by decide)), fun i m σ' => ∃ dn en p n r', MSub (mNm c a b p en) m ∧ σ' = (a, .list (txts dn)) :: (51, .tab) :: σ ∧ Out b n p r' ∧ n + i ≤ 20 ∧ r = finR dn en r' ∧ dn.length ≤ i, ?_, ?_, ?_⟩
    · exact ⟨[], none, p, n, r, MSub.cons rfl (MSub.cons rfl (MSub.cons rfl (MSub.cons rfl MSub.nil))), rfl, hO, by omega, (finR_nil _).symm, Nat.le_refl _⟩
    · rintro i dd m σ' hi ⟨dn, en, p, n, r', hm, rfl, hO, hn, hr, hdl⟩
      have hpos := hO.pos
      have hdz : (txts dn).length ≤ sizeLine := by rw [sizeLine_eq]; simp [txts]; omega
      refine AV_Name <| NV_local <| SV.forget (m' := (Str.ofString "k", dd) :: mNm c a b p en) ?_ (hm.cons₂ _ _) (List.Sublist.refl _)
      refine SV_cons <| S1_Assign_Name <| EV_callG G fa 56 rfl rfl rfl <| LV_cons <| EV_local rfl <| LV_cons <| EV_local rfl <| LV_nil fun mv fr => stream g fr (by show A.depth + 1 + 4 < _; omega) (.tail _ (.head _)) fun d => NV_local ?_
      refine SV_cons <| S1_Assign_Name <| EV_callG G fa 21 rfl rfl rfl <| LV_cons <| EV_local rfl <| LV_nil fun mv fr => uint1 g.toG6 fr (by show A.depth + 1 + 2 < _; omega) hh hz' (fun x hx => NV_local ?_) (fun hp => ?_)
      · refine SV_cons <| S1_If <| TV_Compare <| EV_local rfl <| EV_int <| ge_ii ⟨_, rfl, ?_⟩
        by_cases q : 192 ≤ x.toNat
        · rw [decide_eq_true (show (192 : Int) ≤ (x.toNat : Int) by omega), if_pos rfl]
          refine SV_step (fun m1 σ1 => MSub ((Str.ofString "count", .int (x.toNat : Nat)) :: (Str.ofString "f", .strm c.C d) :: mNm c a b p (some (en.getD (p + 2)))) m1 ∧ σ1 = (d, .sdict b (p + 1)) :: (a, .list (txts dn)) :: (51, .tab) :: σ) ?_ ?_
          · refine S1_If <| TV_Compare <| EV_local rfl <| EV_UnaryOp <| EV_int <| neg_i <| eq_ii ⟨_, rfl, ?_⟩
            cases en with
            | none =>
              rw [show (endI none == -1) = true from rfl, if_pos rfl]
              exact SV_cons <| S1_Assign_Name <| EV_BinOp <| EV_local rfl <| EV_int <| add_ii <| NV_local <| SV_nil ⟨rfl, MSub.cons rfl (MSub.cons rfl (MSub.cons rfl (MSub.cons rfl (MSub.cons rfl (MSub.cons rfl MSub.nil))))), rfl⟩
            | some e =>
              rw [show (endI (some e) == -1) = false from beq_false_of_ne (by show (e : Int) ≠ -1; omega), if_neg (by decide)]
              exact SV_nil ⟨rfl, MSub.cons rfl (MSub.cons rfl (MSub.cons rfl (MSub.cons rfl (MSub.cons rfl (MSub.cons rfl MSub.nil))))), rfl⟩
          · rintro m1 σ1 ⟨hm1, rfl⟩
            refine SV.forget ?_ hm1 (List.Sublist.refl _)
            rcases hO.hi hx q with ⟨hp, he⟩ | ⟨y, n', ls, e, hy, hnn, hO', he⟩
            · refine SV_cons <| S1_Assign_Name <| EV_BinOp <| EV_BinOp <| EV_BinOp <| EV_local rfl <| EV_int <| sub_ii <| EV_int <| mul_ii (.of_right (by decide)) <| EV_callG G fa 21 rfl rfl rfl <| LV_cons <| EV_local rfl <| LV_nil fun mv fr => uint1 g.toG6 fr (by show A.depth + 1 + 2 < _; omega) hh hz' (fun y hy => ?_) (fun hp => ⟨_, sub4, h2 _ ?_⟩)
              · have := (List.getElem?_eq_some_iff.mp hy).1; omega
              · rw [hr, he]; rfl
            · refine SV_cons <| S1_Assign_Name <| EV_BinOp <| EV_BinOp <| EV_BinOp <| EV_local rfl <| EV_int <| sub_ii <| EV_int <| mul_ii (.of_right (by decide)) <| EV_callG G fa 21 rfl rfl rfl <| LV_cons <| EV_local rfl <| LV_nil fun mv fr => uint1 g.toG6 fr (by show A.depth + 1 + 2 < _; omega) hh hz' (fun y2 hy2 => ?_) (fun hp => ?_)
              · rw [hy] at hy2; cases hy2
                refine add_ii ?_
                rw [show ((x.toNat : Int) - 192) * 256 + (y.toNat : Int) = (((x.toNat - 192) * 256 + y.toNat : Nat) : Int) by omega]
                refine NV_local <| SV_nil <| SV_nilF (m' := mNm c a b _ (some (en.getD (p + 2)))) ⟨dn, some (en.getD (p + 2)), _, n', .inl (ls, e), MSub.refl, rfl, hO', by omega, ?_, by omega⟩ (MSub.cons rfl (MSub.cons rfl (MSub.cons rfl (MSub.cons rfl MSub.nil)))) (List.Sublist.cons _ (List.Sublist.refl _))
                rw [hr, he]; rfl
              · have := (List.getElem?_eq_some_iff.mp hy).1; omega
        · rw [decide_eq_false (show ¬ (192 : Int) ≤ (x.toNat : Int) by omega), if_neg (by decide)]
          refine SV.forget (m' := mNm c a b p en) (σ' := (a, .list (txts dn)) :: (51, .tab) :: σ) ?_ (MSub.cons rfl (MSub.cons rfl (MSub.cons rfl (MSub.cons rfl MSub.nil)))) (List.Sublist.cons _ (List.Sublist.refl _))
          refine SV_cons <| S1_Assign_Name <| EV_callG G fa 56 rfl rfl rfl <| LV_cons <| EV_local rfl <| LV_cons <| EV_local rfl <| LV_nil fun mv fr => stream g fr (by show A.depth + 1 + 4 < _; omega) (.tail _ (.head _)) fun d => NV_local ?_
          refine SV_cons <| S1_Assign_Name <| EV_callG G fa 28 rfl rfl rfl <| LV_cons <| EV_local rfl <| LV_nil fun mv fr => string1 g.toG6 fr (by show A.depth + 1 + 3 < _; omega) hh hz' (fun hp => ?_) (fun x2 hx2 hle => ?_) (fun x2 hx2 hlt => ?_)
          · have := (List.getElem?_eq_some_iff.mp hx).1; omega
          · rw [hx] at hx2; cases hx2
            refine NV_local <| SV_cons <| S1_Assign_Name <| EV_Attr <| EV_local rfl <| gat_pos G g.E (.head _) <| NV_local ?_
            refine SV_cons <| S1_If <| TV_Compare <| EV_local rfl <| EV_str <| eq_ss ⟨_, rfl, ?_⟩
            have hll : (latin ((b.drop (p + 1)).take x.toNat)).length = x.toNat := by rw [latin_length, List.length_take, Nat.min_eq_left hle]
            rcases hO.lo hx (by omega) with ⟨h0, he⟩ | ⟨_, h0, _⟩ | ⟨n', r2, h0, _, hnn, hO', he⟩
            · have el : latin ((b.drop (p + 1)).take x.toNat) = Str.ofString "" := by rw [h0]; rfl
              rw [el, show (Str.ofString "" == Str.ofString "") = true from rfl, if_pos rfl, h0]
              refine SV.freeze (x := "labels") (a := a) rfl (List.Perm.swap _ _ _) ?_
              refine SV_cons <| S1_Return <| EV_Tuple <| LV_cons <| EV_local rfl <| LV_cons <| EV_IfExp <| TV_Compare <| EV_local rfl <| EV_UnaryOp <| EV_int <| neg_i <| eq_ii ⟨_, rfl, ?_⟩
              have hf := h1 dn (en.getD (p + 1)) (by rw [hr, he]; simp [finR])
              cases en with
              | none =>
                rw [show (endI none == -1) = true from rfl, if_pos rfl]
                exact EV_local rfl <| LV_nil ⟨by simp [sizeLine_eq], _, List.Sublist.cons _ (List.Sublist.refl _), hf⟩
              | some e =>
                rw [show (endI (some e) == -1) = false from beq_false_of_ne (by show (e : Int) ≠ -1; omega), if_neg (by decide)]
                exact EV_local rfl <| LV_nil ⟨by simp [sizeLine_eq], _, List.Sublist.cons _ (List.Sublist.refl _), hf⟩
            · omega
            · have el : (latin ((b.drop (p + 1)).take x.toNat) == Str.ofString "") = false := beq_false_of_ne fun z => by
                rw [z] at hll
                have : (Str.ofString "").length = 0 := rfl
                omega
              rw [el, if_neg (by decide)]
              refine SV_nil <| SV_cons <| S1_Expr <| EV_Method F.plainAttrs_list F.slot_list_append F.type_list_append <| EV_local rfl ⟨TyIs_list (.tail _ (.head _)), NoD_list (.tail _ (.head _)), LV_cons <| EV_local rfl <| LV_nil <| append_m (.there .here) hdz <| SV_nil <| SV_nilF (m' := mNm c a b (p + 1 + x.toNat) en) ⟨dn ++ [latin ((b.drop (p + 1)).take x.toNat)], en, _, n', r2, MSub.refl, ?_, hO', by omega, ?_, by simp; omega⟩ (MSub.cons rfl (MSub.cons rfl (MSub.cons rfl (MSub.cons rfl MSub.nil)))) (List.Sublist.cons _ (List.Sublist.refl _))⟩
              · simp [txts]
              · rw [hr, he, finR_cons]
          · rw [hx] at hx2; cases hx2
            rcases hO.lo hx (by omega) with ⟨h0, _⟩ | ⟨_, h0, he⟩ | ⟨n', r2, h0, h0', _⟩
            · omega
            · exact ⟨_, sub4, h2 _ (by rw [hr, he]; rfl)⟩
            · omega
      · exact ⟨_, sub4, h2 _ (by rw [hr, hO.eof' hp]; rfl)⟩
    · rintro m σ' ⟨dn, en, p, n, r', hm, rfl, hO, hn, hr, hdl⟩
      have := hO.pos
      simp at hn
      omega
end
end Mine

-- part L11c
open PySem PySem.W PyProof.Rows
set_option Elab.async false
set_option linter.unusedVariables false
set_option maxRecDepth 100000
set_option maxHeartbeats 4000000
namespace Mine
open PySem PySem.Calls PySem.Spec
theorem lay_len : ∀ (ls : List Str) (o : List Nat) (K : List (Str × Nat)), o.length ≤ (lay o K ls).1.length ∧ (lay o K ls).2.1.length ≤ K.length + ls.length ∧ K.length ≤ (lay o K ls).2.1.length
  | [], o, K => by simp [lay]
  | l :: ls, o, K => by
    rw [lay]
    split
    · simp
    · have := lay_len ls (o ++ (l.length :: l.cps.toList)) (K ++ [(jn (l :: ls), o.length)])
      simp only [List.length_append, List.length_cons, List.length_nil] at this ⊢
      omega
def nums (ns : List Nat) : List D := ns.map fun n => .int (n : Nat)
theorem chars_at {s : Str} {j : Nat} {d : D} (h : (s.cps.toList.map fun n => D.str ⟨#[n]⟩)[j]? = some d) : ∃ n, s.cps.toList[j]? = some n ∧ d = .str ⟨#[n]⟩ := by
  rw [List.getElem?_map] at h
  cases e : s.cps.toList[j]? with
  | none => rw [e] at h; cases h
  | some n => rw [e] at h; cases h; exact ⟨n, rfl, rfl⟩
theorem nums_take {l : List Nat} {j n : Nat} (h : l[j]? = some n) : nums (l.take (j + 1)) = nums (l.take j) ++ [.int (n : Nat)] := by
  rw [List.take_add_one, h]; simp [nums]
theorem rng_at {n i : Nat} {d : D} (h : ((List.range n).map fun (i : Nat) => D.int (0 + (i : Int)))[i]? = some d) : i < n ∧ d = .int (i : Nat) := by
  rw [List.getElem?_map] at h
  by_cases q : i < n
  · rw [List.getElem?_range q] at h
    simp at h
    exact ⟨q, h.symm⟩
  · rw [List.getElem?_eq_none (by simp; omega)] at h
    cases h
def ptD (pt : Pt) : D := .tup [.int (pt.1 : Nat), .lst (txts pt.2.1), .int (pt.2.2 : Nat)]
def kD (K : List (Str × Nat)) : List (Str × D) := K.map fun kt => (kt.1, .int (kt.2 : Nat))
def nmD (nm : List Str) : D := .lst (txts nm)
theorem kD_lookup (K : List (Str × Nat)) (x : Str) : (kD K).lookup x = (K.lookup x).map fun t => .int (t : Nat) := by
  induction K with
  | nil => rfl
  | cons a r ih =>
    obtain ⟨k, t⟩ := a
    by_cases q : x = k
    · subst q; simp [kD, List.lookup]
    · have q' : (x == k) = false := by simp [q]
      simp only [kD, List.map_cons, List.lookup, q']
      exact ih
theorem sum_lb : ∀ {ls : List Str}, (∀ l ∈ ls, LbOk l) → (ls.map (·.length)).sum ≤ 3 * ls.length
  | [], _ => by simp
  | a :: r, h => by
    have := sum_lb fun l hl => h l (.tail _ hl)
    have := (h a (.head _)).2.1
    simp only [List.map_cons, List.sum_cons, List.length_cons]
    omega
def stoL (en pa kn oc : Addr) (o : List Nat) (K : List (Str × Nat)) (ps : List Pt) (ends : List Nat) (σ : Sto) : Sto := (en, .list (nums ends)) :: (pa, .list (ps.map ptD)) :: (kn, .dict (kD K)) :: (oc, .list (nums o)) :: σ
def mL (en pa kn oc : Addr) : Env' := [(Str.ofString "ends", .ref en), (Str.ofString "parts", .ref pa), (Str.ofString "known", .ref kn), (Str.ofString "octets", .ref oc)]
section
variable {c : Cx} {A : Around} {env : Env} {Fs : List Fm} {K P P1 : Mp} {σ σ' : Sto} {s : Shared} {m m' : Env'} {Q : D → Sto → Prop} {X : Str → Sto → Prop} {wp : Params}
theorem laid_call {names : List (List Str)} (g : G6s c wp) (fr : FrA A Fs) (hroom : A.depth + 6 < recursionLimit) (hh : A.handled = none) (hnm : ∀ nm ∈ names, NmOk nm) (hnl : names.length ≤ 20)
    (h : ∀ o K parts ends, LaidN names o K parts ends → Q (.tup [.lst (nums o), .lst (parts.map ptD), .lst (nums ends)]) σ) : CallC c A Fs 61 [.lst (names.map nmD)] σ Q X := by
  have G := g.G
  refine CallC.dropX ?_
  refine call_fn (ns := ["names"]) (cl := []) (fun K P s o => o.keeps _ _ (G.X 61 _ rfl)) rfl (fun K P s o => (codeRec_of G.X rfl).keeps o.keeps) G.lim (by omega) fr (fun ws hw => ?_) (by decide) (fun L fa => ?_) rfl rfl rfl (by decide)
  · match ws, hw with
    | [w], _ => rfl
  · refine SV_cons <| S1_Assign_Name <| EV_ListM <| LV_nil ⟨by decide, fun oc => NV_local ?_⟩
    refine SV_cons <| S1_Assign_Name <| EV_DictEmpty (a₀ := 61) G rfl (by decide) fun kn => NV_local ?_
    refine SV_cons <| S1_Assign_Name <| EV_ListM <| LV_nil ⟨by decide, fun pa => NV_local ?_⟩
    refine SV_cons <| S1_Assign_Name <| EV_ListM <| LV_cons <| EV_int <| LV_nil ⟨by decide, fun en => NV_local ?_⟩
    refine SV_cons <| S1_For fa hh <| EV_local rfl ⟨_, Iter_lst, fun i m σ' => ∃ o K parts ends, MSub (mL en pa kn oc) m ∧ σ' = stoL en pa kn oc o K parts ends σ ∧ LaidN (names.take i) o K parts ends ∧ K.length ≤ 3 * i ∧ i ≤ names.length, ?_, ?_, ?_⟩
    · exact ⟨[], [], [], [0], MSub.cons rfl (MSub.cons rfl (MSub.cons rfl (MSub.cons rfl MSub.nil))), rfl, LaidN.init, by simp, by simp⟩
    · rintro i dd m σ' hi ⟨o, K, parts, ends, hm, rfl, LN, hK, hin⟩
      rw [List.getElem?_map] at hi
      cases hni : names[i]? with
      | none => rw [hni] at hi; cases hi
      | some nm =>
      rw [hni] at hi
      cases hi
      have hilt : i < names.length := (List.getElem?_eq_some_iff.mp hni).1
      have hnok := hnm nm (List.mem_of_getElem? hni)
      obtain ⟨hn3, hnlb⟩ := id hnok
      have hti : (names.take i).length = i := by rw [List.length_take]; omega
      have S := LN.snoc (by omega) hnok
      have hsn : names.take (i + 1) = names.take i ++ [nm] := by rw [List.take_add_one, hni]; rfl
      rw [← hsn] at S
      have hti1 : (names.take (i + 1)).length = i + 1 := by rw [List.length_take]; omega
      have Kl := (lay_len nm o K).2.1
      have elen := LN.lenE
      have SO := S.lenO
      have SP := S.lenP
      rw [hti1] at SO SP
      rw [hti] at elen
      generalize hR : lay o K nm = R at S Kl SO SP
      refine AV_Name <| NV_local <| SV.forget (m' := (Str.ofString "labels", nmD nm) :: mL en pa kn oc) ?_ (hm.cons₂ _ _) (List.Sublist.refl _)
      refine SV_cons <| S1_Assign_Name <| EV_bool <| NV_local ?_
      have hnz : (txts nm).length ≤ sizeLine := by rw [sizeLine_eq]; simp [txts]; omega
      have htl : (txts nm).length = nm.length := by simp [txts]
      refine SV_step (fun m1 σ1 => ∃ told o' K' ps, MSub ((Str.ofString "told", .bool told) :: (Str.ofString "labels", nmD nm) :: mL en pa kn oc) m1 ∧ σ1 = stoL en pa kn oc o' K' (parts ++ ps) ends σ ∧ (if told = true then (o', K', ps) = R else R = ((lay o' K' []).1, (lay o' K' []).2.1, ps ++ (lay o' K' []).2.2))) ?_ ?_
      · refine S1_For fa hh <| EV_Call_ty (T := "range") <| EV_builtin G fa rfl boot_range (fun _ => .type) ⟨rfl, LV_cons <| EV_Call_bi (id := "len") <| EV_builtin G fa rfl boot_len (fun _ => .bi) ⟨rfl, LV_cons <| EV_local rfl <| LV_nil <| len_l hnz <| LV_nil ?_⟩⟩
        rw [htl]
        refine range_1 (n := nm.length) ⟨_, Iter_rng (small0 (by omega)), fun k m1 σ1 => ∃ told o' K' ps, MSub ((Str.ofString "told", .bool told) :: (Str.ofString "labels", nmD nm) :: mL en pa kn oc) m1 ∧ σ1 = stoL en pa kn oc o' K' (parts ++ ps) ends σ ∧ (if told = true then (o', K', ps) = R else R = ((lay o' K' (nm.drop k)).1, (lay o' K' (nm.drop k)).2.1, ps ++ (lay o' K' (nm.drop k)).2.2)), ?_, ?_, ?_⟩
        · exact ⟨false, o, K, [], MSub.refl, by simp [stoL], by rw [if_neg (by decide), List.drop_zero, hR]; rfl⟩
        · rintro k dk m1 σ1 hk ⟨told, o', K', ps, hm1, rfl, hst⟩
          obtain ⟨hkl, rfl⟩ := rng_at hk
          obtain ⟨l, hl⟩ : ∃ l, nm[k]? = some l := ⟨_, List.getElem?_eq_getElem hkl⟩
          have hdk : nm.drop k = l :: nm.drop (k + 1) := by
            have e := (List.getElem?_eq_some_iff.mp hl)
            rw [List.drop_eq_getElem_cons hkl, e.2]
          obtain ⟨hl0, hl3, hlx⟩ := hnlb l (List.mem_of_getElem? hl)
          have hlbd : ∀ x ∈ nm.drop k, LbOk x := fun x hx => hnlb x (List.mem_of_mem_drop hx)
          have hdl : (nm.drop k).length ≤ 3 := by rw [List.length_drop]; omega
          have hsl := sum_lb hlbd
          have htd : (txts nm).drop k = (nm.drop k).map .str := by simp [txts]
          have hlk : (txts nm)[k]? = some (.str l) := by simp [txts, hl]
          refine AV_Name <| NV_local <| SV.forget (m' := (Str.ofString "k", .int (k : Nat)) :: (Str.ofString "told", .bool told) :: (Str.ofString "labels", nmD nm) :: mL en pa kn oc) ?_ (hm1.cons₂ _ _) (List.Sublist.refl _)
          refine SV_cons <| S1_Assign_Name <| EV_Method F.plainAttrs_str F.slot_str_join F.type_str_join <| EV_str ⟨TyIs_str, NoD_str, LV_cons <| EV_Slice F.slot_list_getitem.lookup <| EV_local rfl <| PV_some <| EV_local rfl ⟨_, rfl, PV_none ⟨TyIs_lst, Slc_lst_from (n := k) hnz ?_⟩⟩⟩
          rw [htd]
          refine LV_nil <| join_l (by rw [sizeLine_eq]; show _ + _ * 1 ≤ _; omega) <| NV_local ?_
          change SV c _ _ _ _ ((Str.ofString "rest", .str (jn (nm.drop k))) :: _) _ _ _
          cases told with
          | true =>
            rw [if_pos rfl] at hst
            refine SV_cons <| S1_If <| TV_BoolOp <| TAll_And <| TV_Not <| TV_plain <| EV_local rfl ⟨_, Tru_bool, ?_⟩
            show SV _ _ _ _ _ _ _ _ _
            refine SV_cons <| S1_If <| TV_Not <| TV_plain <| EV_local rfl ⟨_, Tru_bool, ?_⟩
            show SV _ _ _ _ _ _ _ _ _
            exact SV_nil <| SV_nil <| SV_nilF ⟨true, o', K', ps, MSub.refl, rfl, by rw [if_pos rfl]; exact hst⟩ (MSub.cons rfl (MSub.cons rfl (MSub.cons rfl (MSub.cons rfl (MSub.cons rfl (MSub.cons rfl MSub.nil)))))) (List.Sublist.refl _)
          | false =>
            rw [if_neg (by decide)] at hst
            have Lk := lay_len (nm.drop k) o' K'
            have e1 : R.1.length = (lay o' K' (nm.drop k)).1.length := by rw [hst]
            have e2 : R.2.1.length = (lay o' K' (nm.drop k)).2.1.length := by rw [hst]
            have e3 : R.2.2.length = ps.length + (lay o' K' (nm.drop k)).2.2.length := by rw [hst]; simp
            have ho' : o'.length ≤ 300 := by omega
            have hK' : (kD K').length ≤ sizeLine := by rw [sizeLine_eq]; simp [kD]; omega
            have hps : ((parts ++ ps).map ptD).length ≤ sizeLine := by
              rw [sizeLine_eq]; simp only [List.length_append, List.length_map] at SP ⊢; omega
            have hoz : (nums o').length ≤ sizeLine := by rw [sizeLine_eq]; simp [nums]; omega
            have hol : (nums o').length = o'.length := by simp [nums]
            refine SV_cons <| S1_If <| TV_BoolOp <| TAll_And <| TV_Not <| TV_plain <| EV_local rfl ⟨_, Tru_bool, ?_⟩
            show TAll _ _ _ _ _ _ _ _ _ _
            refine TAll_And <| TV_Compare <| EV_local rfl <| EV_local rfl <| in_d (es := kD K') (.tail _ (.tail _ (.head _))) ⟨_, rfl, ?_⟩
            cases hq : K'.lookup (jn (nm.drop k)) with
            | some t =>
              have hq' : (kD K').lookup (jn (nm.drop k)) = some (.int (t : Nat)) := by rw [kD_lookup, hq]; rfl
              rw [hq']
              show TAll _ _ _ _ _ _ _ _ _ _
              refine TAll_And_nil ?_
              rw [if_pos rfl]
              have hRt : R = (o' ++ [192 + t / 256, t % 256], K', ps ++ [(o'.length, nm.drop k, 0)]) := by
                rw [hdk] at hq hst ⊢
                rw [hst]; simp [lay, hq]
              refine SV_cons <| S1_Assign_Name <| EV_bool <| NV_local ?_
              refine SV_cons <| S1_Expr <| EV_Method F.plainAttrs_list F.slot_list_append F.type_list_append <| EV_local rfl ⟨TyIs_list (.tail _ (.head _)), NoD_list (.tail _ (.head _)), LV_cons <| EV_Tuple <| LV_cons <| EV_Call_bi (id := "len") <| EV_builtin G fa rfl boot_len (fun _ => .bi) ⟨rfl, LV_cons <| EV_local rfl <| LV_nil <| len_m (.tail _ (.tail _ (.tail _ (.head _)))) hoz <| LV_cons <| EV_Slice F.slot_list_getitem.lookup <| EV_local rfl <| PV_some <| EV_local rfl ⟨_, rfl, PV_none ⟨TyIs_lst, Slc_lst_from (n := k) hnz ?_⟩⟩⟩⟩
              refine LV_cons <| EV_int <| LV_nil ⟨by simp [sizeLine_eq], LV_nil <| append_m (.there .here) hps ?_⟩
              refine SV_cons <| S1_Expr <| EV_Method F.plainAttrs_list F.slot_list_extend F.type_list_extend <| EV_local rfl ⟨TyIs_list (.tail _ (.tail _ (.tail _ (.head _)))), NoD_list (.tail _ (.tail _ (.tail _ (.head _)))), LV_cons <| EV_List <| LV_cons <| EV_BinOp <| EV_int <| EV_BinOp <| EV_Sub slot_dict_getitem.lookup <| EV_local rfl <| EV_local rfl ⟨TyIs_dict (.tail _ (.tail _ (.head _))), Itm_d (.tail _ (.tail _ (.head _))) hq' <| EV_int <| div_ii (by decide) (noPy (y := 256) (by decide)) <| add_ii <| LV_cons <| EV_BinOp <| EV_Sub slot_dict_getitem.lookup <| EV_local rfl <| EV_local rfl ⟨TyIs_dict (.tail _ (.tail _ (.head _))), Itm_d (.tail _ (.tail _ (.head _))) hq' <| EV_int <| mod_ii (by decide) <| LV_nil ⟨by simp [sizeLine_eq], LV_nil <| extend_m (.there (.there (.there .here))) ?_ ?_⟩⟩⟩⟩
              · rw [sizeLine_eq, hol]; simp only [List.length_cons, List.length_nil]; omega
              · refine SV_nil <| SV_nilF (m' := (Str.ofString "told", .bool true) :: (Str.ofString "labels", nmD nm) :: mL en pa kn oc) ⟨true, o' ++ [192 + t / 256, t % 256], K', ps ++ [(o'.length, nm.drop k, 0)], MSub.refl, ?_, by rw [if_pos rfl, hRt]⟩ (MSub.cons rfl (MSub.cons rfl (MSub.cons rfl (MSub.cons rfl (MSub.cons rfl (MSub.cons rfl MSub.nil)))))) (List.Sublist.refl _)
                rw [show (256 : Int) = ((256 : Nat) : Int) from rfl, fdiv_nat, fmod_nat, htd, hol]
                simp [stoL, nums, ptD, txts]
            | none =>
              have hq' : (kD K').lookup (jn (nm.drop k)) = none := by rw [kD_lookup, hq]; rfl
              rw [hq']
              show (if _ then _ else _)
              rw [if_neg (by decide)]
              have hcl : l.cps.toList.length = l.length := by simp [Str.length]
              have hcz : (l.cps.toList.map fun n => D.str ⟨#[n]⟩).length ≤ sizeLine := by rw [List.length_map, hcl, sizeLine_eq]; omega
              refine SV_cons <| S1_If <| TV_Not <| TV_plain <| EV_local rfl ⟨_, Tru_bool, ?_⟩
              show SV _ _ _ _ _ _ _ _ _
              refine SV_cons <| S1_Assign_Sub <| EV_Call_bi (id := "len") <| EV_builtin G fa rfl boot_len (fun _ => .bi) ⟨rfl, LV_cons <| EV_local rfl <| LV_nil <| len_m (.tail _ (.tail _ (.tail _ (.head _)))) hoz <| EV_local rfl <| EV_local rfl <| seti_d (.there (.there .here)) hq' hK' ?_⟩
              refine SV_cons <| S1_Expr <| EV_Method F.plainAttrs_list F.slot_list_append F.type_list_append <| EV_local rfl ⟨TyIs_list (.tail _ (.head _)), NoD_list (.tail _ (.head _)), LV_cons <| EV_Tuple <| LV_cons <| EV_Call_bi (id := "len") <| EV_builtin G fa rfl boot_len (fun _ => .bi) ⟨rfl, LV_cons <| EV_local rfl <| LV_nil <| len_m (.tail _ (.tail _ (.tail _ (.head _)))) hoz <| LV_cons <| EV_Slice F.slot_list_getitem.lookup <| EV_local rfl <| PV_some <| EV_local rfl ⟨_, rfl, PV_none ⟨TyIs_lst, Slc_lst_from (n := k) hnz ?_⟩⟩⟩⟩
              refine LV_cons <| EV_Call_bi (id := "len") <| EV_builtin G fa rfl boot_len (fun _ => .bi) ⟨rfl, LV_cons <| EV_Sub F.slot_list_getitem.lookup <| EV_local rfl <| EV_local rfl ⟨TyIs_lst, Itm_lst hlk (by omega) <| LV_nil <| len_s (by rw [sizeLine_eq]; omega) <| LV_nil ⟨by simp [sizeLine_eq], LV_nil <| append_m (.there .here) hps ?_⟩⟩⟩
              refine SV_cons <| S1_Expr <| EV_Method F.plainAttrs_list F.slot_list_extend F.type_list_extend <| EV_local rfl ⟨TyIs_list (.tail _ (.tail _ (.tail _ (.head _)))), NoD_list (.tail _ (.tail _ (.tail _ (.head _)))), LV_cons <| EV_BinOp <| EV_List <| LV_cons <| EV_Call_bi (id := "len") <| EV_builtin G fa rfl boot_len (fun _ => .bi) ⟨rfl, LV_cons <| EV_Sub F.slot_list_getitem.lookup <| EV_local rfl <| EV_local rfl ⟨TyIs_lst, Itm_lst hlk (by omega) <| LV_nil <| len_s (by rw [sizeLine_eq]; omega) <| LV_nil ⟨by simp [sizeLine_eq], EV.freeze <| EV_ListComp fa hh <| EV_Sub F.slot_list_getitem.lookup <| EV_local rfl <| EV_local rfl ⟨TyIs_lst, Itm_lst hlk (by omega) ⟨_, Iter_str, hcz, fun j ds σ3 => ds = nums (l.cps.toList.take j) ∧ σ3 = _, ⟨rfl, rfl⟩, ?_, ?_⟩⟩⟩⟩⟩⟩
              · rintro j d ds σ3 C mv hj ⟨rfl, rfl⟩ fb
                obtain ⟨n, hn, rfl⟩ := chars_at hj
                refine AV_Name <| NV_local <| TI_nil ?_
                rw [if_pos rfl]
                exact EV_Call_bi (id := "ord") <| EV_builtin G fb rfl boot_ord (fun _ => .bi) ⟨rfl, LV_cons <| EV_local rfl <| LV_nil <| ord_s ⟨(nums_take hn).symm, rfl⟩⟩
              · rintro ds σ3 a' ⟨rfl, rfl⟩ _
                rw [List.length_map, List.take_length]
                refine ⟨a', _, _, rfl, rfl, add_ll ?_ <| LV_nil <| extend_m (.there (.there (.there .here))) ?_ ?_⟩
                · rw [sizeLine_eq]; simp only [nums, List.length_map, hcl, List.length_cons, List.length_nil]; omega
                · rw [sizeLine_eq]; simp only [nums, List.length_map, List.length_append, hcl, List.length_cons, List.length_nil]; omega
                · refine SV_nil <| SV_nil <| SV_nilF (m' := (Str.ofString "told", .bool false) :: (Str.ofString "labels", nmD nm) :: mL en pa kn oc) ⟨false, o' ++ (l.length :: l.cps.toList), K' ++ [(jn (nm.drop k), o'.length)], ps ++ [(o'.length, nm.drop k, l.length)], MSub.refl, ?_, ?_⟩ (MSub.cons rfl (MSub.cons rfl (MSub.cons rfl (MSub.cons rfl (MSub.cons rfl (MSub.cons rfl MSub.nil)))))) (List.Sublist.refl _)
                  · rw [htd, hol]
                    simp [stoL, nums, ptD, txts, kD]
                  · rw [if_neg (by decide)]
                    rw [hdk] at hq hst ⊢
                    rw [hst, lay]
                    simp [hq]
        · rintro m1 σ1 ⟨told, o', K', ps, hm1, rfl, hst⟩
          refine ⟨rfl, told, o', K', ps, hm1, rfl, ?_⟩
          have e : nm.drop ((List.range nm.length).map fun (i : Nat) => D.int (0 + (i : Int))).length = [] := by simp
          rw [e] at hst
          exact hst
      · rintro m1 σ1 ⟨told, o', K', ps, hm1, rfl, hst⟩
        refine SV.forget ?_ hm1 (List.Sublist.refl _)
        refine SV_step (fun m1 σ1 => MSub (mL en pa kn oc) m1 ∧ σ1 = stoL en pa kn oc R.1 R.2.1 (parts ++ R.2.2) ends σ) ?_ ?_
        · refine S1_If <| TV_Not <| TV_plain <| EV_local rfl ⟨_, Tru_bool, ?_⟩
          cases told with
          | true =>
            rw [if_pos rfl] at hst
            show SV _ _ _ _ _ _ _ _ _
            refine SV_nil ⟨rfl, MSub.cons rfl (MSub.cons rfl (MSub.cons rfl (MSub.cons rfl MSub.nil))), ?_⟩
            rw [← hst]
          | false =>
            rw [if_neg (by decide)] at hst
            have e1 : R.1.length = o'.length + 1 := by rw [hst]; simp [lay]
            have e3 : R.2.2.length = ps.length + 1 := by rw [hst]; simp [lay]
            have hps : ((parts ++ ps).map ptD).length ≤ sizeLine := by
              rw [sizeLine_eq]; simp only [List.length_append, List.length_map] at SP ⊢; omega
            have hoz : (nums o').length ≤ sizeLine := by rw [sizeLine_eq]; simp [nums]; omega
            have hol : (nums o').length = o'.length := by simp [nums]
            show SV _ _ _ _ _ _ _ _ _
            refine SV_cons <| S1_Expr <| EV_Method F.plainAttrs_list F.slot_list_append F.type_list_append <| EV_local rfl ⟨TyIs_list (.tail _ (.head _)), NoD_list (.tail _ (.head _)), LV_cons <| EV_Tuple <| LV_cons <| EV_Call_bi (id := "len") <| EV_builtin G fa rfl boot_len (fun _ => .bi) ⟨rfl, LV_cons <| EV_local rfl <| LV_nil <| len_m (.tail _ (.tail _ (.tail _ (.head _)))) hoz <| LV_cons <| EV_List <| LV_nil ⟨by simp [sizeLine_eq], LV_cons <| EV_int <| LV_nil ⟨by simp [sizeLine_eq], LV_nil <| append_m (.there .here) hps ?_⟩⟩⟩⟩
            refine SV_cons <| S1_Expr <| EV_Method F.plainAttrs_list F.slot_list_append F.type_list_append <| EV_local rfl ⟨TyIs_list (.tail _ (.tail _ (.tail _ (.head _)))), NoD_list (.tail _ (.tail _ (.tail _ (.head _)))), LV_cons <| EV_int <| LV_nil <| append_m (.there (.there (.there .here))) hoz <| SV_nil ⟨rfl, MSub.cons rfl (MSub.cons rfl (MSub.cons rfl (MSub.cons rfl MSub.nil))), ?_⟩⟩
            rw [hol, hst]
            simp [stoL, lay, nums, ptD, txts]
        · rintro m1 σ1 ⟨hm1, rfl⟩
          refine SV.forget ?_ hm1 (List.Sublist.refl _)
          have hol : (nums R.1).length = R.1.length := by simp [nums]
          have hoz : (nums R.1).length ≤ sizeLine := by rw [sizeLine_eq, hol]; omega
          refine SV_cons <| S1_Expr <| EV_Method F.plainAttrs_list F.slot_list_append F.type_list_append <| EV_local rfl ⟨TyIs_list (.head _), NoD_list (.head _), LV_cons <| EV_Call_bi (id := "len") <| EV_builtin G fa rfl boot_len (fun _ => .bi) ⟨rfl, LV_cons <| EV_local rfl <| LV_nil <| len_m (.tail _ (.tail _ (.tail _ (.head _)))) hoz <| LV_nil <| append_m .here (by rw [sizeLine_eq]; simp [nums]; omega) <| SV_nil ⟨R.1, R.2.1, parts ++ R.2.2, ends ++ [R.1.length], MSub.refl, ?_, S, by omega, by omega⟩⟩⟩
          rw [hol]
          simp [stoL, nums]
    · rintro m σ' ⟨o, K, parts, ends, hm, rfl, LN, hK, hin⟩
      have e : names.take (names.map nmD).length = names := List.take_of_length_le (by simp)
      rw [e] at LN
      refine SV.forget ?_ hm (List.Sublist.refl _)
      refine SV.freeze (x := "ends") (a := en) (ds := nums ends) rfl (List.Perm.refl _) ?_
      refine SV.freeze (x := "parts") (a := pa) (ds := parts.map ptD) rfl (List.Perm.refl _) ?_
      refine SV.freeze (x := "octets") (a := oc) (ds := nums o) rfl (List.Perm.swap _ _ _) ?_
      exact SV_cons <| S1_Return <| EV_Tuple <| LV_cons <| EV_local rfl <| LV_cons <| EV_local rfl <| LV_cons <| EV_local rfl <| LV_nil ⟨by simp [sizeLine_eq], σ, List.Sublist.cons _ (List.Sublist.refl _), h o K parts ends LN⟩
end
end Mine

-- part L11d
open PySem PySem.W PyProof.Rows
set_option Elab.async false
set_option linter.unusedVariables false
set_option maxRecDepth 100000
set_option maxHeartbeats 4000000
namespace Mine
open PySem PySem.Calls PySem.Spec
section
variable {c : Cx} {A : Around} {env : Env} {Fs : List Fm} {K P P1 : Mp} {σ σ' : Sto} {s : Shared} {m m' : Env'} {wp : Params}
def mB (xs : List Int) (names : List (List Str)) : Env' := [(Str.ofString "script", .lst (xs.map .int)), (Str.ofString "names", .lst (names.map nmD))]
def mW (xs : List Int) (names : List (List Str)) (o : List Nat) (parts : List Pt) (ends : List Nat) : Env' := [(Str.ofString "whole", .bytes (octs o)), (Str.ofString "ends", .lst (nums ends)), (Str.ofString "parts", .lst (parts.map ptD)), (Str.ofString "octets", .lst (nums o)), (Str.ofString "script", .lst (xs.map .int)), (Str.ofString "names", .lst (names.map nmD))]
theorem nums_get {ns : List Nat} {i n : Nat} (h : ns[i]? = some n) : (nums ns)[i]? = some (.int (n : Nat)) := by simp [nums, h]
theorem nums_at {ns : List Nat} {i : Nat} {dd : D} (hi : (nums ns)[i]? = some dd) : ∃ o, ns[i]? = some o ∧ dd = .int (o : Nat) := by
  unfold nums at hi
  rw [List.getElem?_map] at hi
  cases e : ns[i]? with
  | none => rw [e] at hi; cases hi
  | some o => rw [e] at hi; cases hi; exact ⟨o, rfl, rfl⟩
theorem pt_at {ps : List Pt} {i : Nat} {d : D} (h : (ps.map ptD)[i]? = some d) : ∃ pt, ps[i]? = some pt ∧ d = ptD pt := by
  rw [List.getElem?_map] at h
  cases e : ps[i]? with
  | none => rw [e] at h; cases h
  | some t => rw [e] at h; cases h; exact ⟨t, rfl, rfl⟩
theorem out_take {o : List Nat} {e n a : Nat} {q} (h : Out (octs (o.take e)) n a (.inl q)) : Out (octs o) n a (.inl q) := by
  have : octs o = octs (o.take e) ++ octs (o.drop e) := by rw [← octs_app, List.take_append_drop]
  rw [this]; exact h.monoL
theorem out_cut {o : List Nat} {e cut n a : Nat} {q} (he : e ≤ cut) (h : Out (octs (o.take e)) n a (.inl q)) : Out (octs (o.take cut)) n a (.inl q) := by
  have : octs (o.take cut) = octs (o.take e) ++ octs ((o.take cut).drop e) := by
    rw [← octs_app]
    congr 1
    have := List.take_append_drop e (o.take cut)
    rw [List.take_take, Nat.min_eq_left he] at this
    exact this.symm
  rw [this]; exact h.monoL
theorem eq_txts (l : List Str) : EqD 1 (.lst (txts l)) := .lst fun d hd => by
  obtain ⟨x, _, rfl⟩ := List.mem_map.mp hd
  exact .str

theorem segB : ∃ params body scope, FnK (KK wp) 73 "law" params body scope (.ref 72) ∧ ∀ {c A L fa cd ρ}, G6s c wp → FA A (envOfC "law" scope L fa cd) [] → A.handled = none → A.depth + 9 < recursionLimit → A.units + 30 < cLine → ∀ (xs : List Int) (names : List (List Str)), xs.length ≤ 63 → (∀ nm ∈ names, NmOk nm) → names.length ≤ 20 →
    SV c A (envOfC "law" scope L fa cd) [] (body.drop 3) (mB xs names) ((51, .tab) :: ρ) (fun f m σ => f = .ret (.bool true) ∧ (51, .tab) ∈ σ) (fun _ _ _ => False) := by
  refine ⟨_, _, _, ⟨⟨_, _, _, _, _, _, _, _, rfl⟩, rfl⟩, ?_⟩
  intro c A L fad cd ρ g fa hh hroom hun xs names hxs hnm hnl
  have G := g.G
  refine SV_cons <| S1_Assign_Tuple <| EV_callG G fa 61 rfl rfl rfl <| LV_cons <| EV_local rfl <| LV_nil fun mv fr => laid_call g fr (by omega) hh hnm hnl fun o K parts ends LN => ?_
  refine AV_Tuple hh <| AVs_cons <| AV_Name <| NV_local <| AVs_cons <| AV_Name <| NV_local <| AVs_cons <| AV_Name <| NV_local <| AVs_nil ?_
  have hO := LN.lenO
  have hP := LN.lenP
  have hE := LN.lenE
  have hon : (nums o).length = o.length := by simp [nums]
  have hoz : o.length ≤ sizeLine := by rw [sizeLine_eq]; omega
  have hb : (octs o).length ≤ 1000 := by rw [octs_len]; omega
  have hnz : (names.map nmD).length ≤ sizeLine := by rw [sizeLine_eq]; simp; omega
  have hel : (nums ends).length ≤ sizeLine := by rw [sizeLine_eq]; simp [nums]; omega
  refine SV_cons <| S1_Assign_Name <| EV_Call_ty (T := "bytes") <| EV_builtin G fa rfl boot_bytes (fun _ => .type) ⟨rfl, LV_cons <| EV_local rfl <| LV_nil <| bytes_l (ns := o) LN.byte hoz hh <| NV_local ?_⟩
  refine SV.forget (m' := mW xs names o parts ends) ?_ (MSub.cons rfl (MSub.cons rfl (MSub.cons rfl (MSub.cons rfl (MSub.cons rfl (MSub.cons rfl MSub.nil)))))) (List.Sublist.refl _)
  -- the names
  refine SV_cut (fun m1 σ1 => MSub (mW xs names o parts ends) m1 ∧ σ1 = (51, .tab) :: ρ) ?_ ?_
  · refine S1_For fa hh <| EV_Call_ty (T := "range") <| EV_builtin G fa rfl boot_range (fun _ => .type) ⟨rfl, LV_cons <| EV_Call_bi (id := "len") <| EV_builtin G fa rfl boot_len (fun _ => .bi) ⟨rfl, LV_cons <| EV_local rfl <| LV_nil <| len_l hnz <| LV_nil ?_⟩⟩
    rw [List.length_map]
    refine range_1 (n := names.length) ⟨_, Iter_rng (small0 (by omega)), fun i m1 σ1 => MSub (mW xs names o parts ends) m1 ∧ σ1 = (51, .tab) :: ρ, ⟨MSub.refl, rfl⟩, ?_, fun m1 σ1 h => h⟩
    rintro i d m1 σ1 hi ⟨hm1, rfl⟩
    obtain ⟨hil, rfl⟩ := rng_at hi
    obtain ⟨nm, hni⟩ : ∃ nm, names[i]? = some nm := ⟨_, List.getElem?_eq_getElem hil⟩
    obtain ⟨a, e, n, ha, he, hn, hout⟩ := LN.ok i nm hni
    have hnD : (names.map nmD)[i]? = some (nmD nm) := by simp [hni]
    refine AV_Name <| NV_local <| SV.forget (m' := (Str.ofString "k", .int (i : Nat)) :: mW xs names o parts ends) ?_ (hm1.cons₂ _ _) (List.Sublist.refl _)
    refine SV_cons <| S1_If <| TV_Compare <| EV_callG G fa 68 rfl rfl rfl <| LV_cons <| EV_local rfl <| LV_cons <| EV_Sub F.slot_list_getitem.lookup <| EV_local rfl <| EV_local rfl ⟨TyIs_lst, Itm_lst (nums_get ha) (by omega) <| LV_nil fun mv fr => name_call g fr (by omega) hh hb (out_take hout) hn (fun ls e' hq => ?_) (fun msg hq => by cases hq)⟩
    cases hq
    refine EV_Tuple <| LV_cons <| EV_Sub F.slot_list_getitem.lookup <| EV_local rfl <| EV_local rfl ⟨TyIs_lst, Itm_lst hnD (by omega) <| LV_cons <| EV_Sub F.slot_list_getitem.lookup <| EV_local rfl <| EV_BinOp <| EV_local rfl <| EV_int <| add_ii ⟨TyIs_lst, Itm_lst (i := i + 1) (nums_get he) (by omega) <| LV_nil ⟨by simp [sizeLine_eq], ?_⟩⟩⟩
    refine ne_same_tup (n := 1) (.tup fun d hd => ?_) (by omega) ⟨_, rfl, ?_⟩
    · simp at hd
      rcases hd with rfl | rfl
      · exact eq_txts _
      · exact .int
    · rw [if_neg (by decide)]
      exact SV_nil <| SV_nilF ⟨MSub.refl, rfl⟩ (MSub.cons rfl (MSub.cons rfl (MSub.cons rfl (MSub.cons rfl (MSub.cons rfl (MSub.cons rfl MSub.nil)))))) (List.Sublist.refl _)
  rintro m1 σ1 ⟨hm1, rfl⟩
  refine SV.forget ?_ hm1 (List.Sublist.refl _)
  -- the parts
  refine SV_cut (fun m1 σ1 => MSub (mW xs names o parts ends) m1 ∧ σ1 = (51, .tab) :: ρ) ?_ ?_
  · refine S1_For fa hh <| EV_local rfl ⟨_, Iter_lst, fun i m1 σ1 => MSub (mW xs names o parts ends) m1 ∧ σ1 = (51, .tab) :: ρ, ⟨MSub.refl, rfl⟩, ?_, fun m1 σ1 h => h⟩
    rintro i d m1 σ1 hi ⟨hm1, rfl⟩
    obtain ⟨pt, hpt, rfl⟩ := pt_at hi
    obtain ⟨h1, h2, h3, n, e, hn, hout⟩ := LN.part pt (List.mem_of_getElem? hpt)
    refine AV_Tuple hh <| AVs_cons <| AV_Name <| NV_local <| AVs_cons <| AV_Name <| NV_local <| AVs_cons <| AV_Name <| NV_local <| AVs_nil ?_
    refine SV.forget (m' := (Str.ofString "size", .int (pt.2.2 : Nat)) :: (Str.ofString "labels", .lst (txts pt.2.1)) :: (Str.ofString "place", .int (pt.1 : Nat)) :: mW xs names o parts ends) ?_ (((hm1.cons₂ _ _).cons₂ _ _).cons₂ _ _) (List.Sublist.refl _)
    refine SV_cons <| S1_If <| TV_Compare <| EV_Sub slot_tuple_getitem.lookup <| EV_callG G fa 68 rfl rfl rfl <| LV_cons <| EV_local rfl <| LV_cons <| EV_local rfl <| LV_nil fun mv fr => name_call g fr (by omega) hh hb hout hn (fun ls e' hq => ?_) (fun msg hq => by cases hq)
    cases hq
    refine EV_int ⟨TyIs_tup, Itm_tup (i := 0) rfl (by decide) <| EV_local rfl <| ne_same_lst (eq_txts _) (by omega) ⟨_, rfl, ?_⟩⟩
    rw [if_neg (by decide)]
    exact SV_nil <| SV_nilF ⟨MSub.refl, rfl⟩ (MSub.cons rfl (MSub.cons rfl (MSub.cons rfl (MSub.cons rfl (MSub.cons rfl (MSub.cons rfl MSub.nil)))))) (List.Sublist.refl _)
  rintro m1 σ1 ⟨hm1, rfl⟩
  refine SV.forget ?_ hm1 (List.Sublist.refl _)
  -- the cut
  refine SV_cons <| S1_Assign_Name <| EV_BinOp <| EV_Call_bi (id := "sum") <| EV_builtin G fa rfl boot_sum (fun _ => .bi) ⟨rfl, LV_cons <| EV_local rfl <| LV_nil <| sum_l hh <| EV_BinOp <| EV_Call_bi (id := "len") <| EV_builtin G fa rfl boot_len (fun _ => .bi) ⟨rfl, LV_cons <| EV_local rfl <| LV_nil <| len_l (by rw [hon]; exact hoz) <| EV_int <| add_ii <| mod_ii ?_ ?_⟩⟩
  · omega
  rw [hon, show (o.length : Int) + 1 = ((o.length + 1 : Nat) : Int) from rfl, fmod_toNat xs.sum (b := o.length + 1) (by omega)]
  have hcl := fmod_toNat_lt xs.sum (b := o.length + 1) (by omega)
  generalize (xs.sum.fmod ((o.length + 1 : Nat) : Int)).toNat = cut at hcl ⊢
  have hcut : cut ≤ o.length := by omega
  refine NV_local ?_
  refine SV_cons <| S1_Assign_Name <| EV_str <| NV_local ?_
  have hoc : (octs o).take cut = octs (o.take cut) := by simp [octs]
  have hb2 : (octs (o.take cut)).length ≤ 1000 := by rw [octs_len, List.length_take]; omega
  have hbz : (octs o).length ≤ sizeLine := by rw [octs_len]; exact hoz
  -- the words
  refine SV_step (fun m1 σ1 => MSub ((Str.ofString "words", .str (wds parts cut plainMsg)) :: (Str.ofString "cut", .int (cut : Nat)) :: mW xs names o parts ends) m1 ∧ σ1 = (51, .tab) :: ρ) ?_ ?_
  · refine S1_For fa hh <| EV_local rfl ⟨_, Iter_lst, fun i m1 σ1 => MSub ((Str.ofString "words", .str (wds (parts.take i) cut plainMsg)) :: (Str.ofString "cut", .int (cut : Nat)) :: mW xs names o parts ends) m1 ∧ σ1 = (51, .tab) :: ρ, ⟨MSub.refl, rfl⟩, ?_, ?_⟩
    · rintro i d m1 σ1 hi ⟨hm1, rfl⟩
      obtain ⟨pt, hpt, rfl⟩ := pt_at hi
      obtain ⟨h1, h2, h3, _⟩ := LN.part pt (List.mem_of_getElem? hpt)
      have hw : wds (parts.take (i + 1)) cut plainMsg = wd cut (wds (parts.take i) cut plainMsg) pt := by
        rw [List.take_add_one, hpt, wds_app]; rfl
      refine AV_Tuple hh <| AVs_cons <| AV_Name <| NV_local <| AVs_cons <| AV_Name <| NV_local <| AVs_cons <| AV_Name <| NV_local <| AVs_nil ?_
      refine SV.forget (m' := (Str.ofString "size", .int (pt.2.2 : Nat)) :: (Str.ofString "labels", .lst (txts pt.2.1)) :: (Str.ofString "place", .int (pt.1 : Nat)) :: (Str.ofString "words", .str (wds (parts.take i) cut plainMsg)) :: (Str.ofString "cut", .int (cut : Nat)) :: mW xs names o parts ends) ?_ (((hm1.cons₂ _ _).cons₂ _ _).cons₂ _ _) (List.Sublist.refl _)
      have no : ¬ (0 < pt.2.2 ∧ pt.1 < cut ∧ cut < pt.1 + 1 + pt.2.2) → MSub ((Str.ofString "words", .str (wds (parts.take (i + 1)) cut plainMsg)) :: (Str.ofString "cut", .int (cut : Nat)) :: mW xs names o parts ends) ((Str.ofString "size", .int (pt.2.2 : Nat)) :: (Str.ofString "labels", .lst (txts pt.2.1)) :: (Str.ofString "place", .int (pt.1 : Nat)) :: (Str.ofString "words", .str (wds (parts.take i) cut plainMsg)) :: (Str.ofString "cut", .int (cut : Nat)) :: mW xs names o parts ends) := fun q => by
        rw [hw, show wd cut (wds (parts.take i) cut plainMsg) pt = wds (parts.take i) cut plainMsg from if_neg q]
        exact MSub.cons rfl (MSub.cons rfl (MSub.cons rfl (MSub.cons rfl (MSub.cons rfl (MSub.cons rfl (MSub.cons rfl (MSub.cons rfl MSub.nil)))))))
      refine SV_cons <| S1_If <| TV_BoolOp <| TAll_And <| TV_Compare <| EV_local rfl <| EV_int <| gt_ii ⟨_, rfl, ?_⟩
      by_cases q1 : 0 < pt.2.2
      · rw [decide_eq_true (show (0 : Int) < (pt.2.2 : Int) by omega), if_pos rfl]
        refine TAll_And <| TV_chain <| EV_local rfl <| EV_local rfl <| lt_ii ⟨_, rfl, fun _ => ?_⟩
        by_cases q2 : pt.1 < cut
        · rw [decide_eq_true (show (pt.1 : Int) < (cut : Int) by omega), if_pos rfl]
          refine EV_BinOp <| EV_BinOp <| EV_local rfl <| EV_int <| add_ii <| EV_local rfl <| add_ii <| lt_ii ⟨_, rfl, ?_⟩
          by_cases q3 : cut < pt.1 + 1 + pt.2.2
          · rw [decide_eq_true (show (cut : Int) < (pt.1 : Int) + 1 + (pt.2.2 : Int) by omega), if_pos rfl]
            refine TAll_And_nil ?_
            rw [if_pos rfl]
            refine SV_cons <| S1_Assign_Name <| EV_BinOp <| EV_str <| EV_Tuple <| LV_cons <| EV_local rfl <| LV_cons <| EV_BinOp <| EV_BinOp <| EV_local rfl <| EV_local rfl <| sub_ii <| EV_int <| sub_ii <| LV_nil ⟨by simp [sizeLine_eq], ?_⟩
            rw [show (cut : Int) - (pt.1 : Int) - 1 = ((cut - pt.1 - 1 : Nat) : Int) by omega]
            refine pct_string1 (by omega) (by omega) <| NV_local <| SV_nil <| SV_nilF ⟨MSub.refl, rfl⟩ ?_ (List.Sublist.refl _)
            rw [hw, show wd cut (wds (parts.take i) cut plainMsg) pt = expMsg "string1" pt.2.2 (cut - pt.1 - 1) from if_pos ⟨q1, q2, q3⟩]
            exact MSub.cons rfl (MSub.cons rfl (MSub.cons rfl (MSub.cons rfl (MSub.cons rfl (MSub.cons rfl (MSub.cons rfl (MSub.cons rfl MSub.nil)))))))
          · rw [decide_eq_false (show ¬ (cut : Int) < (pt.1 : Int) + 1 + (pt.2.2 : Int) by omega), if_neg (by decide), if_neg (by decide)]
            exact SV_nil <| SV_nilF ⟨MSub.refl, rfl⟩ (no fun z => q3 z.2.2) (List.Sublist.refl _)
        · rw [decide_eq_false (show ¬ (pt.1 : Int) < (cut : Int) by omega), if_neg (by decide), if_neg (by decide), if_neg (by decide)]
          exact SV_nil <| SV_nilF ⟨MSub.refl, rfl⟩ (no fun z => q2 z.2.1) (List.Sublist.refl _)
      · rw [decide_eq_false (show ¬ (0 : Int) < (pt.2.2 : Int) by omega), if_neg (by decide), if_neg (by decide)]
        exact SV_nil <| SV_nilF ⟨MSub.refl, rfl⟩ (no fun z => q1 z.1) (List.Sublist.refl _)
    · rintro m1 σ1 ⟨hm1, rfl⟩
      rw [List.length_map, List.take_length] at hm1
      exact ⟨rfl, hm1, rfl⟩
  rintro m1 σ1 ⟨hm1, rfl⟩
  refine SV.forget ?_ hm1 (List.Sublist.refl _)
  refine SV_cons <| S1_Assign_Name <| EV_int <| NV_local ?_
  -- the names that are wholly there
  refine SV_cut (fun m1 σ1 => ∃ (k a : Nat), MSub ((Str.ofString "k", .int (k : Nat)) :: (Str.ofString "words", .str (wds parts cut plainMsg)) :: (Str.ofString "cut", .int (cut : Nat)) :: mW xs names o parts ends) m1 ∧ σ1 = (51, .tab) :: ρ ∧ ends[k]? = some a ∧ a ≤ cut ∧ ∀ e, ends[k + 1]? = some e → cut < e) ?_ ?_
  · refine S1_For fa hh <| EV_Slice F.slot_list_getitem.lookup <| EV_local rfl <| PV_some <| EV_int ⟨_, rfl, PV_none ⟨TyIs_lst, Slc_lst_from (n := 1) hel ⟨_, Iter_lst, fun i m1 σ1 => ∃ (k a : Nat), MSub ((Str.ofString "k", .int (k : Nat)) :: (Str.ofString "words", .str (wds parts cut plainMsg)) :: (Str.ofString "cut", .int (cut : Nat)) :: mW xs names o parts ends) m1 ∧ σ1 = (51, .tab) :: ρ ∧ k ≤ i ∧ ends[k]? = some a ∧ a ≤ cut ∧ (k = i ∨ ∃ e, ends[k + 1]? = some e ∧ cut < e), ?_, ?_, ?_⟩⟩⟩
    · exact ⟨0, 0, MSub.refl, rfl, Nat.le_refl _, LN.zero, Nat.zero_le _, .inl rfl⟩
    · rintro i d m1 σ1 hi ⟨k, a, hm1, rfl, hki, ha, hac, hor⟩
      rw [List.getElem?_drop] at hi
      obtain ⟨e, he, rfl⟩ := nums_at hi
      rw [Nat.add_comm] at he
      refine AV_Name <| NV_local <| SV.forget (m' := (Str.ofString "end", .int (e : Nat)) :: (Str.ofString "k", .int (k : Nat)) :: (Str.ofString "words", .str (wds parts cut plainMsg)) :: (Str.ofString "cut", .int (cut : Nat)) :: mW xs names o parts ends) ?_ (hm1.cons₂ _ _) (List.Sublist.refl _)
      refine SV_cons <| S1_If <| TV_Compare <| EV_local rfl <| EV_local rfl <| le_ii ⟨_, rfl, ?_⟩
      by_cases q : e ≤ cut
      · rw [decide_eq_true (show (e : Int) ≤ (cut : Int) by omega), if_pos rfl]
        have hk : k = i := by
          rcases hor with h | ⟨e', h1, h2⟩
          · exact h
          · by_cases z : k = i
            · exact z
            · have := LN.mono (k + 1) (i + 1) e' e (by omega) h1 he
              omega
        subst hk
        have hkl : k < names.length := by have := (List.getElem?_eq_some_iff.mp he).1; omega
        obtain ⟨nm, hni⟩ : ∃ nm, names[k]? = some nm := ⟨_, List.getElem?_eq_getElem hkl⟩
        obtain ⟨a', e', n, ha', he', hn, hout⟩ := LN.ok k nm hni
        rw [ha] at ha'; cases ha'
        rw [he] at he'; cases he'
        have hnD : (names.map nmD)[k]? = some (nmD nm) := by simp [hni]
        refine SV_cons <| S1_If <| TV_Compare <| EV_callG G fa 68 rfl rfl rfl <| LV_cons <| EV_Slice FB.slot_bytes_getitem.lookup <| EV_local rfl <| PV_none <| PV_some <| EV_local rfl ⟨_, rfl, TyIs_bytes, Slc_bytes_upto (j := cut) hbz ?_⟩
        rw [hoc]
        refine LV_cons <| EV_Sub F.slot_list_getitem.lookup <| EV_local rfl <| EV_local rfl ⟨TyIs_lst, Itm_lst (nums_get ha) (by omega) <| LV_nil fun mv fr => name_call g fr (by omega) hh hb2 (out_cut q hout) hn (fun ls e' hq => ?_) (fun msg hq => by cases hq)⟩
        cases hq
        refine EV_Tuple <| LV_cons <| EV_Sub F.slot_list_getitem.lookup <| EV_local rfl <| EV_local rfl ⟨TyIs_lst, Itm_lst hnD (by omega) <| LV_cons <| EV_local rfl <| LV_nil ⟨by simp [sizeLine_eq], ?_⟩⟩
        refine ne_same_tup (n := 1) (.tup fun d hd => ?_) (by omega) ⟨_, rfl, ?_⟩
        · simp at hd
          rcases hd with rfl | rfl
          · exact eq_txts _
          · exact .int
        · rw [if_neg (by decide)]
          refine SV_nil <| SV_cons <| S1_Aug (a := .int (k : Nat)) rfl <| EV_int <| iadd_ii <| NV_local <| SV_nil <| SV_nilF ⟨k + 1, e, MSub.refl, rfl, Nat.le_refl _, he, q, .inl rfl⟩ (MSub.cons rfl (MSub.cons rfl (MSub.cons rfl (MSub.cons rfl (MSub.cons rfl (MSub.cons rfl (MSub.cons rfl (MSub.cons rfl (MSub.cons rfl MSub.nil))))))))) (List.Sublist.refl _)
      · rw [decide_eq_false (show ¬ (e : Int) ≤ (cut : Int) by omega), if_neg (by decide)]
        refine SV_nil <| SV_nilF ⟨k, a, MSub.refl, rfl, by omega, ha, hac, .inr ?_⟩ (MSub.cons rfl (MSub.cons rfl (MSub.cons rfl (MSub.cons rfl (MSub.cons rfl (MSub.cons rfl (MSub.cons rfl (MSub.cons rfl (MSub.cons rfl MSub.nil))))))))) (List.Sublist.refl _)
        rcases hor with h | h
        · subst h; exact ⟨e, he, by omega⟩
        · exact h
    · rintro m1 σ1 ⟨k, a, hm1, rfl, hki, ha, hac, hor⟩
      refine ⟨k, a, hm1, rfl, ha, hac, fun e he => ?_⟩
      rcases hor with h | ⟨e', h1, h2⟩
      · have := (List.getElem?_eq_some_iff.mp he).1
        simp [nums] at h
        omega
      · rw [h1] at he; cases he; exact h2
  rintro m1 σ1 ⟨k, a, hm1, rfl, ha, hac, hbad⟩
  refine SV.forget ?_ hm1 (List.Sublist.refl _)
  obtain ⟨n, hn, hout⟩ := LN.bad k a cut ha hac hbad hcut
  have hkl : k < 2 ^ 63 := by have := (List.getElem?_eq_some_iff.mp ha).1; omega
  refine SV_cons <| S1_Try G fa rfl boot_VE <| SV_cons <| S1_Expr <| EV_callG G fa 68 rfl rfl rfl <| LV_cons <| EV_Slice FB.slot_bytes_getitem.lookup <| EV_local rfl <| PV_none <| PV_some <| EV_local rfl ⟨_, rfl, TyIs_bytes, Slc_bytes_upto (j := cut) hbz ?_⟩
  rw [hoc]
  refine LV_cons <| EV_Sub F.slot_list_getitem.lookup <| EV_local rfl <| EV_local rfl ⟨TyIs_lst, Itm_lst (nums_get ha) hkl <| LV_nil fun mv fr => name_call g fr (by omega) hh hb2 hout hn (fun ls e' hq => by cases hq) (fun msg hq e => ?_)⟩
  cases hq
  refine SV_cons <| S1_Return <| EV_Compare <| EV_Call_ty (T := "str") <| EV_builtin G (fa.mark _) rfl boot_str (fun _ => .type) ⟨rfl, LV_cons <| EV_local rfl <| LV_nil <| str_exc (.head _) (by show A.units + 2 < _; omega) <| EV_local rfl <| eq_ss ⟨?_, .tail _ (.head _)⟩⟩
  simp
end
end Mine

-- part L11e
open PySem PySem.W PyProof.Rows
set_option Elab.async false
set_option linter.unusedVariables false
set_option maxRecDepth 100000
set_option maxHeartbeats 4000000
namespace Mine
open PySem PySem.Calls PySem.Spec
def menuN : List Str := [Str.ofString "a", Str.ofString "bc", ⟨#[(233 : Int).toNat]⟩, Str.ofString "com", Str.ofString "x" ++ ⟨#[(128 : Int).toNat]⟩]
theorem lbOk_of {l : Str} (h : (decide (0 < l.length) && decide (l.length ≤ 3) && l.cps.toList.all fun x => decide (x < 256) && decide (x ≠ 46)) = true) : LbOk l := by
  simp only [Bool.and_eq_true, decide_eq_true_eq, List.all_eq_true] at h
  exact ⟨h.1.1, h.1.2, fun x hx => h.2 x hx⟩
theorem menuN_ok : ∀ l ∈ menuN, LbOk l := by
  intro l hl
  have key : (menuN.all fun l => decide (0 < l.length) && decide (l.length ≤ 3) && l.cps.toList.all fun x => decide (x < 256) && decide (x ≠ 46)) = true := by decide +kernel
  exact lbOk_of (List.all_eq_true.mp key l hl)
theorem pow5 (k : Nat) (h : k < 3) : (5 : Int) ^ k = ((5 ^ k : Nat) : Int) ∧ 0 < 5 ^ k ∧ 5 ^ k < 1000000 := by
  match k, h with
  | 0, _ => decide
  | 1, _ => decide
  | 2, _ => decide
section
variable {c : Cx} {A : Around} {env : Env} {Fs : List Fm} {K P P1 : Mp} {σ σ' : Sto} {s : Shared} {m m' : Env'} {wp : Params}
theorem segA : ∃ params body scope, FnK (KK wp) 73 "law" params body scope (.ref 72) ∧ ∀ {c A L fa cd}, G6s c wp → FA A (envOfC "law" scope L fa cd) [] → A.handled = none → A.depth + 9 < recursionLimit → A.units + 30 < cLine → ∀ (xs : List Int), xs.length ≤ 63 →
    (∀ (names : List (List Str)) ρ, (∀ nm ∈ names, NmOk nm) → names.length ≤ 20 → SV c A (envOfC "law" scope L fa cd) [] (body.drop 3) (mB xs names) ((51, .tab) :: ρ) (fun f m σ => f = .ret (.bool true) ∧ (51, .tab) ∈ σ) (fun _ _ _ => False)) →
    SV c A (envOfC "law" scope L fa cd) [] body [(Str.ofString "script", .lst (xs.map .int))] [(51, .tab), (L + 1 + 1, .cell none), (L + 1, .cell none)] (fun f m σ => f = .ret (.bool true) ∧ (51, .tab) ∈ σ) (fun _ _ _ => False) := by
  refine ⟨_, _, _, ⟨⟨_, _, _, _, _, _, _, _, rfl⟩, rfl⟩, ?_⟩
  intro c A L fad cd g fa hh hroom hun xs hxs hB
  have G := g.G
  have hxz : (xs.map D.int).length ≤ sizeLine := by rw [sizeLine_eq]; simp; omega
  refine SV_cons <| S1_Assign_Name <| EV_List <| LV_cons <| EV_str <| LV_cons <| EV_str <| LV_cons <| EV_Call_bi (id := "chr") <| EV_builtin G fa rfl boot_chr (fun _ => .bi) ⟨rfl, LV_cons <| EV_int <| LV_nil <| chr_i (by decide) (by decide) <| LV_cons <| EV_str <| LV_cons <| EV_BinOp <| EV_str <| EV_Call_bi (id := "chr") <| EV_builtin G fa rfl boot_chr (fun _ => .bi) ⟨rfl, LV_cons <| EV_int <| LV_nil <| chr_i (by decide) (by decide) <| add_ss (by decide) <| LV_nil ⟨by simp [sizeLine_eq], ?_⟩⟩⟩
  change NV c A _ [] _ (.lst (txts menuN)) _ _ _
  refine NV_cell rfl (.there (.there .here)) ?_
  refine SV_cons <| S1_Assign_Name <| EV_ListM <| LV_cons <| EV_List <| LV_cons <| EV_str <| LV_cons <| EV_str <| LV_nil ⟨by simp [sizeLine_eq], LV_cons <| EV_List <| LV_cons <| EV_Call_bi (id := "chr") <| EV_builtin G fa rfl boot_chr (fun _ => .bi) ⟨rfl, LV_cons <| EV_int <| LV_nil <| chr_i (by decide) (by decide) <| LV_cons <| EV_str <| LV_nil ⟨by simp [sizeLine_eq], LV_nil ⟨by simp [sizeLine_eq], fun na => NV_local ?_⟩⟩⟩⟩
  refine SV_step (fun m1 σ1 => ∃ (names : List (List Str)) (xc : Option D), MSub [(Str.ofString "names", .ref na), (Str.ofString "script", .lst (xs.map .int))] m1 ∧ σ1 = (na, .list (names.map nmD)) :: [(51, .tab), (L + 1 + 1, .cell xc), (L + 1, .cell (some (.lst (txts menuN))))] ∧ (∀ nm ∈ names, NmOk nm) ∧ names.length ≤ 11) ?_ ?_
  · refine S1_For fa hh <| EV_Slice F.slot_list_getitem.lookup <| EV_local rfl <| PV_none <| PV_some <| EV_int ⟨_, rfl, TyIs_lst, Slc_lst_upto (n := 9) hxz ⟨_, Iter_lst, fun i m1 σ1 => ∃ (names : List (List Str)) (xc : Option D), MSub [(Str.ofString "names", .ref na), (Str.ofString "script", .lst (xs.map .int))] m1 ∧ σ1 = (na, .list (names.map nmD)) :: [(51, .tab), (L + 1 + 1, .cell xc), (L + 1, .cell (some (.lst (txts menuN))))] ∧ (∀ nm ∈ names, NmOk nm) ∧ names.length = i + 2 ∧ i ≤ 9, ?_, ?_, ?_⟩⟩
    · refine ⟨[[Str.ofString "a", Str.ofString "com"], [⟨#[(233 : Int).toNat]⟩, Str.ofString "com"]], none, MSub.refl, rfl, ?_, rfl, by decide⟩
      intro nm hnm
      simp only [List.mem_cons, List.not_mem_nil, or_false] at hnm
      have mem : ∀ nm : List Str, nm.length ≤ 3 → (∀ l ∈ nm, l ∈ menuN) → NmOk nm := fun nm h1 h2 => ⟨h1, fun l hl => menuN_ok l (h2 l hl)⟩
      rcases hnm with rfl | rfl
      · refine mem _ (by decide) fun l hl => ?_
        simp only [List.mem_cons, List.not_mem_nil, or_false] at hl
        rcases hl with rfl | rfl
        · exact .head _
        · exact .tail _ (.tail _ (.tail _ (.head _)))
      · refine mem _ (by decide) fun l hl => ?_
        simp only [List.mem_cons, List.not_mem_nil, or_false] at hl
        rcases hl with rfl | rfl
        · exact .tail _ (.tail _ (.head _))
        · exact .tail _ (.tail _ (.tail _ (.head _)))
    · rintro i d m1 σ1 hi ⟨names, xc, hm1, rfl, hnm, hnl, hi9⟩
      have hil := (List.getElem?_eq_some_iff.mp hi).1
      rw [List.length_take, List.length_map] at hil
      obtain ⟨x, rfl⟩ : ∃ x, d = .int x := by
        rw [List.getElem?_take, ] at hi
        split at hi
        · rw [List.getElem?_map] at hi
          cases hx : xs[i]? with
          | none => rw [hx] at hi; cases hi
          | some x => rw [hx] at hi; cases hi; exact ⟨x, rfl⟩
        · cases hi
      refine AV_Name <| NV_cell rfl (.there (.there .here)) <| SV.forget ?_ hm1 (List.Sublist.refl _)
      have h3 : (x.fmod 3).toNat < 3 := fmod_toNat_lt x (b := 3) (by decide)
      have e3 : x.fmod 3 = ((x.fmod 3).toNat : Int) := fmod_toNat x (b := 3) (by decide)
      refine SV_cons <| S1_Expr <| EV_Method F.plainAttrs_list F.slot_list_append F.type_list_append <| EV_local rfl ⟨TyIs_list (.head _), NoD_list (.head _), LV_cons <| EV.freeze <| EV_ListComp fa hh <| EV_Call_ty (T := "range") <| EV_builtin G fa rfl boot_range (fun _ => .type) ⟨rfl, LV_cons <| EV_BinOp <| EV_BinOp <| EV_cell rfl (.tail _ (.tail _ (.head _))) <| EV_int <| mod_ii (by decide) <| EV_int <| add_ii <| LV_nil ?_⟩⟩
      rw [e3]
      generalize (x.fmod 3).toNat = w at h3
      refine range_1 (n := w + 1) ⟨_, Iter_rng (small0 (by omega)), by simp [sizeLine_eq]; omega, fun j ds σ2 => ∃ (nm : List Str), ds = txts nm ∧ nm.length = j ∧ (∀ l ∈ nm, l ∈ menuN) ∧ σ2 = (na, .list (names.map nmD)) :: [(51, .tab), (L + 1 + 1, .cell (some (.int x))), (L + 1, .cell (some (.lst (txts menuN))))], ⟨[], rfl, rfl, by simp, rfl⟩, ?_, ?_⟩
      · rintro j d ds σ2 C mv hj ⟨nm, rfl, hnl2, hmem, rfl⟩ fb
        obtain ⟨hjl, rfl⟩ := rng_at hj
        obtain ⟨p1, p2, p3⟩ := pow5 j (by omega)
        refine AV_Name <| NV_local <| TI_nil ?_
        rw [if_pos rfl]
        refine EV_Sub F.slot_list_getitem.lookup <| EV_cell rfl (.tail _ (.tail _ (.tail _ (.head _)))) <| EV_BinOp <| EV_BinOp <| EV_BinOp <| EV_cell rfl (.tail _ (.tail _ (.head _))) <| EV_int <| div_ii (by decide) (noPy (y := 3) (by decide)) <| EV_BinOp <| EV_int <| EV_local rfl <| pow_ii (n := j) ?_ ?_
        · have : (Builtin.Int.intBits 5 : Int) ≤ 64 := by decide
          have hj3 : (j : Int) ≤ 3 := by omega
          have h0 : (0 : Int) ≤ (j : Int) := by omega
          calc (Builtin.Int.intBits 5 : Int) * (j : Int) ≤ 64 * (j : Int) := Int.mul_le_mul_of_nonneg_right this h0
            _ ≤ 2 ^ 27 := by omega
        · rw [p1]
          refine div_ii (by omega) (noPy p3) <| EV_int <| mod_ii (by decide) ⟨TyIs_lst, ?_⟩
          generalize (x.fdiv 3).fdiv ((5 ^ j : Nat) : Int) = y
          have h5 : (y.fmod 5).toNat < 5 := fmod_toNat_lt y (b := 5) (by decide)
          rw [show y.fmod 5 = ((y.fmod 5).toNat : Int) from fmod_toNat y (b := 5) (by decide)]
          generalize (y.fmod 5).toNat = z at h5
          have hz : z < menuN.length := h5
          have hzg : menuN[z]? = some menuN[z] := List.getElem?_eq_getElem hz
          refine Itm_lst (d := .str menuN[z]) (by simp only [txts, List.getElem?_map, hzg]; rfl) (by omega) ⟨nm ++ [menuN[z]], by simp [txts], by simp [hnl2], ?_, rfl⟩
          intro l hl
          rcases List.mem_append.mp hl with hl | hl
          · exact hmem l hl
          · simp at hl; subst hl; exact List.getElem_mem _
      · rintro ds σ2 a' ⟨nm, rfl, hnl2, hmem, rfl⟩ _
        simp only [List.length_map, List.length_range] at hnl2
        refine ⟨a', _, _, rfl, rfl, LV_nil <| append_m .here (by rw [sizeLine_eq]; simp; omega) <| SV_nil ⟨names ++ [nm], some (.int x), MSub.refl, ?_, ?_, by simp; omega, by omega⟩⟩
        · simp [nmD]
        · intro nm' h
          rcases List.mem_append.mp h with h | h
          · exact hnm nm' h
          · simp at h; subst h; exact ⟨by omega, fun l hl => menuN_ok l (hmem l hl)⟩
    · rintro m1 σ1 ⟨names, xc, hm1, rfl, hnm, hnl, hi9⟩
      exact ⟨rfl, names, xc, hm1, rfl, hnm, by omega⟩
  · rintro m1 σ1 ⟨names, xc, hm1, rfl, hnm, hnl⟩
    refine SV.forget ?_ hm1 (List.Sublist.refl _)
    refine SV.freeze (x := "names") (a := na) rfl (List.Perm.refl _) ?_
    exact SV.forget (hB names _ hnm (by omega)) (MSub.cons rfl (MSub.cons rfl MSub.nil)) (List.Sublist.refl _)
end
end Mine

-- part L11f
open PySem PySem.W PyProof.Rows
set_option Elab.async false
set_option linter.unusedVariables false
set_option maxRecDepth 100000
set_option maxHeartbeats 4000000
namespace Mine
open PySem PySem.Calls PySem.Spec
theorem rdText {wp : Params} : ∃ (rp : Arguments) (rb : List Stmt) (rs : Scope) (ln cl : Nat), ∀ c : Cx, c.params = rp → c.body = rb → c.scope = rs → c.line = ln → c.col = cl →
    RdText c ∧ ∃ (ps : Arguments) (bd : List Stmt) (sc : Scope), FnK (KK wp) 56 "_law_stream" ps bd sc (.ref 55) ∧ StText2 c ps bd sc := by
  apply Exists.intro; apply Exists.intro; apply Exists.intro; apply Exists.intro; apply Exists.intro
  intro c h1 h2 h3 h4 h5
  have key : ∃ (ps : Arguments) (bd : List Stmt) (sc : Scope), FnK (KK wp) 56 "_law_stream" ps bd sc (.ref 55) ∧ StText2 c ps bd sc := by
    refine ⟨_, _, _, ⟨⟨_, _, _, _, _, _, _, _, rfl⟩, rfl⟩, ⟨rfl, ⟨_, _, rfl⟩, ?_⟩⟩
    iterate 13 apply Exists.intro
    rw [h1, h2, h3, h4, h5]
    exact ⟨rfl, rfl, rfl, rfl⟩
  exact ⟨⟨h3.trans rfl, ⟨_, h1.trans rfl⟩, ⟨_, _, _, _, _, _, _, _, _, _, _, _, _, _, _, _, _, _, _, _, _, _, h2.trans rfl⟩⟩, key⟩
theorem FnK.uniq {KF : Frag} {fa : Addr} {q : Str} {p1 p2 : Arguments} {b1 b2 : List Stmt} {s1 s2 : Scope} {c1 c2 : Value} (x : FnK KF fa q p1 b1 s1 c1) (y : FnK KF fa q p2 b2 s2 c2) : b1 = b2 ∧ s1 = s2 := by
  obtain ⟨⟨_, _, _, _, _, _, _, _, x⟩, _⟩ := x
  obtain ⟨⟨_, _, _, _, _, _, _, _, y⟩, _⟩ := y
  rw [x] at y
  have := congrArg Obj.data (Option.some.inj y)
  simp only at this
  injection this with e
  unfold fnX at e
  injection e with _ _ _ e2 e3
  injection e2 with e2
  exact ⟨e2, e3⟩
theorem ints_den {P : Mp} : ∀ {vs : List Value} {xs : List Int}, IntsAre vs xs → DenL P vs (xs.map .int)
  | _, _, .nil => .nil
  | _, _, .cons n t r => .cons .int (ints_den r)
theorem nd4 (L : Nat) (h : 51 < L) : [51, L + 1 + 1, L + 1, L].Nodup := by simp; omega
theorem enter {prog : Program} {w : World} {h₀ : Heap} {L fa la : Addr} {cd : Value} {vs : List Value} {xs : List Int} {body : List Stmt} {scope : Scope} {p : Program} {loose mean mg mb} {mv : Str → Option Value} {s : Shared} {Q : Flow → Shared → Prop} {E : Value → Shared → Prop} {w1 w0 : Obj}
    (hk : scope.kind = .function) (F2 : ∃ params, FnK (KK w.params) 73 "law" params body scope (.ref 72)) (X : (KK w.params).In h₀) (top : Top p loose mean mg mb h₀) (F : Fr h₀ L s.heap mv) (hmv : mv (Str.ofString "script") = some (.ref la)) (hl : h₀.IsList la vs.toArray) (hI : IntsAre vs xs) (CH : CodeHd h₀ 55 51)
    (N : News h₀ L s.heap [(L + 1 + 1, w1), (L + 1, w0), (51, tabObj #[])]) (d1 : w1.data = .cell none) (d0 : w0.data = .cell none) (hlt : 51 < L) (hlen : xs.length ≤ 63)
    (hQ : ∀ s', (∀ b o, h₀.get? b = some o → s'.heap.get? b = some o) → s'.os = s.os → s'.gens = s.gens → GrownAll [(55, 51)] s'.heap → Q (.ret (.bool true)) s') :
    wpAny (model prog w) (callerA.deeper (envOfC "law" scope L fa cd)) (execs body (envOfC "law" scope L fa cd)) Q E s := by
  obtain ⟨_, bA, sA, FA1, HA⟩ := segA (wp := w.params)
  obtain ⟨_, bB, sB, FB1, HB⟩ := segB (wp := w.params)
  obtain ⟨_, F2⟩ := F2
  obtain ⟨rfl, rfl⟩ := FA1.uniq F2
  obtain ⟨rfl, rfl⟩ := FB1.uniq F2
  obtain ⟨rp, rb, rs, ln, cl, R⟩ := rdText (wp := w.params)
  let c : Cx := { prog := prog, w := w, h₀ := h₀, gens := s.gens, os := s.os, drawn := s.drawn, p₀ := fun _ => none, C := 45, line := ln, col := cl, qual := Str.ofString "_law_stream" ++ Str.ofString ".<locals>." ++ Str.ofString "_law_read", params := rp, body := rb, scope := rs }
  obtain ⟨rt, st⟩ := R c rfl rfl rfl rfl rfl
  have g : G6s c w.params := { G := ⟨X, _, _, _, _, _, top⟩, C := rfl, T := rt, CH := CH, qual := rfl, ST := st }
  have hL : h₀.get? L = none := by
    cases e : h₀.get? L with
    | none => rfl
    | some o => exact absurd (Heap.lt_size e) (Nat.not_lt.mpr F.above)
  have n1 := N _ (.head _)
  have n0 := N _ (.tail _ (.head _))
  have n51 := N _ (.tail _ (.tail _ (.head _)))
  have fr : FA (callerA.deeper (envOfC "law" sB L fa cd)) (envOfC "law" sB L fa cd) [] := by
    refine ⟨⟨⟨envOfC "law" sB L fa cd, [], rfl, rfl, fun x hx => ?_⟩, rfl, rfl, ?_⟩, L, rfl⟩
    · simp at hx; subst hx
      exact ⟨hk, _, .head _, rfl⟩
    · exact hk
  have o : Ok c [(L, mv)] (fun b => h₀.get? b) (fun b => h₀.get? b) [(51, .tab), (L + 1 + 1, .cell none), (L + 1, .cell none)] s := by
    refine ⟨fun b o e => e, F.keep, F.keep, fun q hq => ?_, fun q hq => ?_, ?_, fun a ha => ?_, rfl, rfl, rfl, fun _ _ e => nomatch e⟩
    · simp at hq
      rcases hq with rfl | rfl | rfl
      · exact ⟨_, n51.1, _, rfl, .inl rfl⟩
      · exact ⟨_, n1.1, none, d1, rfl⟩
      · exact ⟨_, n0.1, none, d0, rfl⟩
    · simp at hq; subst hq
      exact F.ns
    · exact nd4 L hlt
    · simp at ha
      rcases ha with rfl | rfl | rfl | rfl
      · exact ⟨n51.2.2, n51.2.2⟩
      · exact ⟨n1.2.2, n1.2.2⟩
      · exact ⟨n0.2.2, n0.2.2⟩
      · exact ⟨hL, hL⟩
  obtain ⟨ob, e1, e2, k, e3⟩ := hl
  have hM : MOk (fun b => h₀.get? b) mv [(Str.ofString "script", .lst (xs.map .int))] := by
    intro x d e
    by_cases q : x = Str.ofString "script"
    · subst q
      simp [List.lookup] at e
      subst e
      exact ⟨_, hmv, .lst e1 e2 e3 (ints_den hI)⟩
    · have q' : (x == Str.ofString "script") = false := by simp [q]
      simp [List.lookup, q'] at e
  have r1 : (callerA.deeper (envOfC "law" sB L fa cd)).depth + 9 < recursionLimit := by show 1 + claimMargin + 1 + 9 < _; decide
  have r2 : (callerA.deeper (envOfC "law" sB L fa cd)).units + 30 < cLine := by show 4 + 3 + 30 < _; decide
  refine wpAny_mono (HA g fr rfl r1 r2 xs hlen (fun names ρ h1 h2 => HB g fr rfl r1 r2 xs names hlen h1 h2) _ _ s mv o hM) ?_ ?_
  · rintro f s1 ⟨P1, σ1, mv1, m1, fl, gr, o1, hM1, fd, rfl, ht⟩
    cases fd with
    | ret dn =>
      cases dn
      refine hQ s1 (fun b ob e => o1.kept b ob e) o1.os o1.gens ?_
      obtain ⟨ob, e, pp, e', _⟩ := o1.own _ ht
      exact ⟨⟨pp, by rw [← e']; exact e⟩, trivial⟩
  · rintro ev s1 ⟨_, _, _, _, _, _, _, _, _, _, _, z⟩
    exact z.elim
end Mine

-- part Fin11
open PySem PySem.W PyProof.Rows
set_option Elab.async false
set_option maxRecDepth 100000 in
set_option maxHeartbeats 8000000 in
theorem PySem.Challenge.cw_dm0233_11_holds : PySem.Challenge.rw_dm0233_11.Holds :=
  Mine.hd11 (by
  k_go0
  refine Mine.enter ?hk ?F2 (by assumption) (by assumption) (by assumption) ?mv (by assumption) (by assumption) (by assumption) (by assumption) ?d1 ?d0 (by assumption) ?len ?fin
  case d1 => assumption
  case d0 => assumption
  case hk => rfl
  case F2 => exact ⟨_, ⟨⟨_, _, _, _, _, _, _, _, rfl⟩, rfl⟩⟩
  case mv => rfl
  case len => omega
  case fin =>
    intro s' h1 h2 h3 h4
    refine ⟨⟨.inl ⟨.bool true, .bool true, [], rfl, ?_, .bool true, ?_, fun _ => ⟨List.nodup_nil, fun _ h => nomatch h⟩⟩, h1, h2, ?_⟩, h4⟩
    · intro cls; rfl
    · first | wrow_post | kc_post | kernel_rfl
    · rw [h3]; assumption)

