import PyProof.Rows.All
import Wide.All
import OpenK.AllK
import Wide.FinOn
import KE.KCallOwn
import PyProof.Rows.SeqIn
import KE.KSortTup
import PyProof.ExcBaseAll.Exception
import PyProof.ExcStrAll.Exception
import PyProof.ExcStrCall
import PySem.Challenge.RW_xl0015_01
set_option Elab.async false
set_option linter.all false

section
open PySem PySem.W PyProof.Rows PySem.Calls PySem.Spec
set_option Elab.async false
set_option maxRecDepth 100000
namespace Mine

abbrev pg : Program := PySem.Challenge.pw_xl0015_01

/-! ## data in the heap -/
abbrev AP := Addr → Prop
mutual
/-- v holds d, by no object of Z -/
inductive Rp (Z : AP) (h : Heap) : Value → PyData → Prop
  | none : Rp Z h .none .none
  | bool (b) : Rp Z h (.bool b) (.bool b)
  | int (i t) : Rp Z h (.int i t) (.int i)
  | str (x t) : Rp Z h (.str x t) (.str x)
  | list {a o vs n ds} : ¬ Z a → h.get? a = some o → o.cls = .type "list" → o.data = .seq vs n → o.dict = Option.none → Rps Z h vs.toList ds → Rp Z h (.ref a) (.list ds)
  | tuple {a o vs n ds} : ¬ Z a → h.get? a = some o → o.cls = .type "tuple" → o.data = .seq vs n → Rps Z h vs.toList ds → Rp Z h (.ref a) (.tuple ds)
inductive Rps (Z : AP) (h : Heap) : List Value → List PyData → Prop
  | nil : Rps Z h [] []
  | cons {v vs d ds} : Rp Z h v d → Rps Z h vs ds → Rps Z h (v :: vs) (d :: ds)
end

noncomputable def isSeqCls (o : Obj) : Prop := (∃ vs n, o.data = .seq vs n) ∧ (o.cls = .type "list" ∨ o.cls = .type "tuple")

/-- lists and tuples stay -/
noncomputable def Dat (h h' : Heap) : Prop := ∀ b o, h.get? b = some o → isSeqCls o → h'.get? b = some o
theorem Dat.refl (h : Heap) : Dat h h := fun _ _ e _ => e
theorem Dat.trans {h h' h'' : Heap} (x : Dat h h') (y : Dat h' h'') : Dat h h'' := fun b o e c => y b o (x b o e c) c
theorem Dat.of_keep {h h' : Heap} (k : ∀ b o, h.get? b = some o → h'.get? b = some o) : Dat h h' := fun b o e _ => k b o e

noncomputable def Dt (Z Z' : AP) (h h' : Heap) : Prop := ∀ a o, ¬ Z a → h.get? a = some o → isSeqCls o → ¬ Z' a ∧ h'.get? a = some o
theorem Dat.dt {Z : AP} {h h' : Heap} (k : Dat h h') : Dt Z Z h h' := fun a o z e c => ⟨z, k a o e c⟩
/-- what is not yet there is in no data -/
theorem Dat.new {Z Z' : AP} {h h' : Heap} (k : Dat h h') (n : ∀ b, Z' b → Z b ∨ h.get? b = none) : Dt Z Z' h h' := fun a o z e c => ⟨fun q => (n a q).elim z fun q => (by rw [e] at q; cases q), k a o e c⟩
mutual
theorem Rp.dt {Z Z' : AP} {h h' : Heap} (k : Dt Z Z' h h') : ∀ {v : Value} {d : PyData}, Rp Z h v d → Rp Z' h' v d
  | _, _, .none => .none
  | _, _, .bool b => .bool b
  | _, _, .int i t => .int i t
  | _, _, .str x t => .str x t
  | _, _, .list z ho hc hd hn r => let q := k _ _ z ho ⟨⟨_, _, hd⟩, .inl hc⟩; .list q.1 q.2 hc hd hn (Rps.dt k r)
  | _, _, .tuple z ho hc hd r => let q := k _ _ z ho ⟨⟨_, _, hd⟩, .inr hc⟩; .tuple q.1 q.2 hc hd (Rps.dt k r)
theorem Rps.dt {Z Z' : AP} {h h' : Heap} (k : Dt Z Z' h h') : ∀ {vs : List Value} {ds : List PyData}, Rps Z h vs ds → Rps Z' h' vs ds
  | _, _, .nil => .nil
  | _, _, .cons a r => .cons (Rp.dt k a) (Rps.dt k r)
end
theorem Rp.step {Z : AP} {h h' : Heap} (k : Dat h h') {v : Value} {d : PyData} (r : Rp Z h v d) : Rp Z h' v d := r.dt k.dt
theorem Rps.step {Z : AP} {h h' : Heap} (k : Dat h h') {vs : List Value} {ds : List PyData} (r : Rps Z h vs ds) : Rps Z h' vs ds := r.dt k.dt
mutual
theorem Rp.reads {Z : AP} {h : Heap} : ∀ {v : Value} {d : PyData}, Rp Z h v d → ∃ as, Reads h v d as
  | _, _, .none => ⟨_, .none⟩
  | _, _, .bool b => ⟨_, .bool b⟩
  | _, _, .int i t => ⟨_, .int i t⟩
  | _, _, .str x t => ⟨_, .str x t⟩
  | _, _, .list _ ho hc hd _ r => let ⟨_, q⟩ := Rps.reads r; ⟨_, .list ho hc hd q⟩
  | _, _, .tuple _ ho hc hd r => let ⟨_, q⟩ := Rps.reads r; ⟨_, .tuple ho hc hd q⟩
theorem Rps.reads {Z : AP} {h : Heap} : ∀ {vs : List Value} {ds : List PyData}, Rps Z h vs ds → ∃ as, ReadsAll h vs ds as
  | _, _, .nil => ⟨_, .nil⟩
  | _, _, .cons a r => let ⟨_, q⟩ := Rp.reads a; let ⟨_, p⟩ := Rps.reads r; ⟨_, .cons q p⟩
end
theorem Rps.length {Z : AP} {h : Heap} : ∀ {vs : List Value} {ds : List PyData}, Rps Z h vs ds → vs.length = ds.length
  | _, _, .nil => rfl
  | _, _, .cons _ r => by rw [List.length_cons, List.length_cons, Rps.length r]
theorem Rps.get {Z : AP} {h : Heap} : ∀ {vs : List Value} {ds : List PyData}, Rps Z h vs ds → ∀ (i : Nat) {d : PyData}, ds[i]? = some d → ∃ v, vs[i]? = some v ∧ Rp Z h v d
  | _, _, .nil, _, _, e => by cases e
  | _, _, .cons a _, 0, _, e => by cases e; exact ⟨_, rfl, a⟩
  | _, _, .cons _ r, i + 1, _, e => Rps.get r i e
theorem Rps.getv {Z : AP} {h : Heap} : ∀ {vs : List Value} {ds : List PyData}, Rps Z h vs ds → ∀ (i : Nat) {v : Value}, vs[i]? = some v → ∃ d, ds[i]? = some d ∧ Rp Z h v d
  | _, _, .nil, _, _, e => by cases e
  | _, _, .cons a _, 0, _, e => by cases e; exact ⟨_, rfl, a⟩
  | _, _, .cons _ r, i + 1, _, e => Rps.getv r i e
theorem Rps.append {Z : AP} {h : Heap} : ∀ {vs us : List Value} {ds es : List PyData}, Rps Z h vs ds → Rps Z h us es → Rps Z h (vs ++ us) (ds ++ es)
  | _, _, _, _, .nil, b => b
  | _, _, _, _, .cons x r, b => .cons x (Rps.append r b)
theorem Rps.drop {Z : AP} {h : Heap} : ∀ {vs : List Value} {ds : List PyData} (n : Nat), Rps Z h vs ds → Rps Z h (vs.drop n) (ds.drop n)
  | _, _, 0, r => r
  | _, _, _ + 1, .nil => .nil
  | _, _, n + 1, .cons _ r => Rps.drop n r
theorem Rps.take {Z : AP} {h : Heap} : ∀ {vs : List Value} {ds : List PyData} (n : Nat), Rps Z h vs ds → Rps Z h (vs.take n) (ds.take n)
  | _, _, 0, _ => .nil
  | _, _, _ + 1, .nil => .nil
  | _, _, n + 1, .cons a r => .cons a (Rps.take n r)
theorem Rp.int_inv {Z : AP} {h : Heap} {v : Value} {i : Int} (r : Rp Z h v (.int i)) : ∃ t, v = .int i t := by cases r; exact ⟨_, rfl⟩
theorem Rp.str_inv {Z : AP} {h : Heap} {v : Value} {x : Str} (r : Rp Z h v (.str x)) : ∃ t, v = .str x t := by cases r; exact ⟨_, rfl⟩
theorem Rp.bool_inv {Z : AP} {h : Heap} {v : Value} {b : Bool} (r : Rp Z h v (.bool b)) : v = .bool b := by cases r; rfl
theorem Rp.list_inv {Z : AP} {h : Heap} {v : Value} {ds : List PyData} (r : Rp Z h v (.list ds)) : ∃ a vs, v = .ref a ∧ ¬ Z a ∧ h.IsList a vs.toArray ∧ Rps Z h vs ds := by
  cases r with
  | list z ho hc hd hn r => exact ⟨_, _, rfl, z, ⟨_, ho, hc, _, by simpa using hd⟩, r⟩
theorem Rp.list_full {Z : AP} {h : Heap} {v : Value} {ds : List PyData} (r : Rp Z h v (.list ds)) : ∃ a vs o n, v = .ref a ∧ ¬ Z a ∧ h.get? a = some o ∧ o.cls = .type "list" ∧ o.data = .seq vs n ∧ o.dict = Option.none ∧ Rps Z h vs.toList ds := by
  cases r with
  | list z ho hc hd hn r => exact ⟨_, _, _, _, rfl, z, ho, hc, hd, hn, r⟩
theorem Rp.tuple_inv {Z : AP} {h : Heap} {v : Value} {ds : List PyData} (r : Rp Z h v (.tuple ds)) : ∃ a vs, v = .ref a ∧ ¬ Z a ∧ h.IsTuple a vs.toArray ∧ Rps Z h vs ds := by
  cases r with
  | tuple z ho hc hd r => exact ⟨_, _, rfl, z, ⟨_, ho, hc, _, by simpa using hd⟩, r⟩
theorem Rp.of_tuple {Z : AP} {h : Heap} {a : Addr} {its : Array Value} {ds : List PyData} (z : ¬ Z a) (x : h.IsTuple a its) (r : Rps Z h its.toList ds) : Rp Z h (.ref a) (.tuple ds) :=
  let ⟨_, ho, hc, _, hd⟩ := x; .tuple z ho hc hd r

end Mine
end

section
open PySem PySem.W PyProof.Rows PySem.Calls PySem.Spec
set_option Elab.async false
set_option maxRecDepth 100000
namespace Mine

/-! ## the state that stands, and what a step may turn -/
noncomputable def Tab (h : Heap) (cd P : Addr) : Prop := ∃ ps, h.IsCode cd P ps ∧ h.TableAt cd P ps

structure Cx where
  w : World
  s₁ : Shared
  K : Frag
  mg : Str → Option Value
  mb : Str → Option Value
  kin : K.In s₁.heap
  kno : K.lookup 62 = none ∧ K.lookup 69 = none
  g : s₁.heap.Ns mainGlobals mg
  b : s₁.heap.Ns builtinsNs mb
  lim : s₁.heap.NoLimit
  size : s₁.heap.objs.size = 235
  top : ∃ o, s₁.heap.get? 234 = some o

abbrev Cx.M (c : Cx) : Model := model pg c.w

structure Old (c : Cx) (h : Heap) : Prop where
  keep : ∀ b o, c.s₁.heap.get? b = some o → b ≠ 62 → b ≠ 69 → h.get? b = some o
  t1 : Tab h 66 62
  t2 : Tab h 73 69
  ex : ∀ P, (P = 62 ∨ P = 69) → ∀ ps₀, c.s₁.heap.get? P = some { cls := .none, data := .fields ps₀ } → ∃ more, h.get? P = some { cls := .none, data := .fields (ps₀ ++ more) }

theorem ns_at {h h' : Heap} {a : Addr} {m : Str → Option Value} (x : h.Ns a m) (k : ∀ o, h.get? a = some o → h'.get? a = some o) : h'.Ns a m :=
  let ⟨o, es, ep, ho, r⟩ := x; ⟨o, es, ep, k _ ho, r⟩

namespace Old
variable {c : Cx} {h : Heap} (O : Old c h)
include O
theorem kin : c.K.In h := fun a o e => O.keep a o (c.kin a o e) (fun q => by rw [q, c.kno.1] at e; cases e) (fun q => by rw [q, c.kno.2] at e; cases e)
theorem g : h.Ns mainGlobals c.mg := ns_at c.g fun o e => O.keep _ o e (by decide) (by decide)
theorem b : h.Ns builtinsNs c.mb := ns_at c.b fun o e => O.keep _ o e (by decide) (by decide)
theorem lim : h.NoLimit := let ⟨mc, a, q⟩ := c.lim; ⟨mc, ns_at a fun o e => O.keep _ o e (by decide) (by decide), q⟩
theorem fresh {a : Addr} (e : h.get? a = none) : c.s₁.heap.get? a = none ∨ a = 62 ∨ a = 69 := by
  cases q : c.s₁.heap.get? a with
  | none => exact .inl rfl
  | some o =>
    by_cases h1 : a = 62
    · exact .inr (.inl h1)
    by_cases h2 : a = 69
    · exact .inr (.inr h2)
    rw [O.keep a o q h1 h2] at e; cases e
end Old

theorem isCode_at {h h' : Heap} {cd P : Addr} {ps : Array Value} (x : h.IsCode cd P ps) (k1 : ∀ o, h.get? cd = some o → h'.get? cd = some o) (k2 : ∀ o, h.get? P = some o → h'.get? P = some o) : h'.IsCode cd P ps := by
  obtain ⟨o, vs, file, tf, flags, tg, inF, text, tt, op, ho, hd, h11, h2, h7, h9, h10, hop, r⟩ := x
  exact ⟨o, vs, file, tf, flags, tg, inF, text, tt, op, k1 _ ho, hd, h11, h2, h7, h9, h10, k2 _ hop, r⟩
theorem tab_keep {h h' : Heap} {cd P : Addr} (x : Tab h cd P) (k : ∀ b o, h.get? b = some o → h'.get? b = some o) : Tab h' cd P := by
  obtain ⟨ps, a, b⟩ := x
  refine ⟨ps, isCode_at a (k _) (k _), ?_⟩
  obtain ⟨b1, b2⟩ := b
  exact ⟨by obtain ⟨o, vs, q1, q2, q3, q4⟩ := b1; exact ⟨o, vs, k _ _ q1, q2, q3, q4⟩, k _ _ b2⟩
theorem Old.step {c : Cx} {h h' : Heap} (O : Old c h) (k : ∀ b o, h.get? b = some o → h'.get? b = some o) : Old c h' :=
  ⟨fun b o e h1 h2 => k _ _ (O.keep b o e h1 h2), tab_keep O.t1 k, tab_keep O.t2 k, fun P hP ps e => (O.ex P hP ps e).elim fun m q => ⟨m, k _ _ q⟩⟩

/-- the same object; a frame's slots may turn -/
noncomputable def Same (o o' : Obj) : Prop := o' = o ∨ (o.cls = .type "frame" ∧ ∃ sl, o' = { o with slots := sl })
theorem Same.refl (o : Obj) : Same o o := .inl rfl
theorem Same.trans {o o' o'' : Obj} (x : Same o o') (y : Same o' o'') : Same o o'' := by
  rcases x with rfl | ⟨a, sl, rfl⟩
  · exact y
  · rcases y with rfl | ⟨_, sl', rfl⟩
    · exact .inr ⟨a, sl, rfl⟩
    · exact .inr ⟨a, sl', rfl⟩
theorem Same.cls {o o' : Obj} (x : Same o o') : o'.cls = o.cls := by rcases x with rfl | ⟨_, _, rfl⟩ <;> rfl
theorem Same.data {o o' : Obj} (x : Same o o') : o'.data = o.data := by rcases x with rfl | ⟨_, _, rfl⟩ <;> rfl
theorem Same.eq {o o' : Obj} (x : Same o o') (h : o.cls ≠ .type "frame") : o' = o := by rcases x with e | ⟨e, _⟩; exact e; exact absurd e h

noncomputable def Tb (X : AP) : AP := fun b => b = 62 ∨ b = 69 ∨ X b
noncomputable def Kp (X : AP) (h h' : Heap) : Prop := ∀ b o, h.get? b = some o → ¬ X b → ∃ o', h'.get? b = some o' ∧ Same o o'
theorem Kp.refl (X : AP) (h : Heap) : Kp X h h := fun _ o e _ => ⟨o, e, .refl o⟩
theorem Kp.trans {X : AP} {h h' h'' : Heap} (x : Kp X h h') (y : Kp X h' h'') : Kp X h h'' := fun b o e n =>
  let ⟨_, e', s⟩ := x b o e n; let ⟨o'', e'', s'⟩ := y b _ e' n; ⟨o'', e'', s.trans s'⟩
theorem Kp.mono {X Y : AP} {h h' : Heap} (x : Kp X h h') (s : ∀ b, X b → Y b) : Kp Y h h' := fun b o e n => x b o e fun m => n (s b m)
theorem Kp.of_keep {X : AP} {h h' : Heap} (k : ∀ b o, ¬ X b → h.get? b = some o → h'.get? b = some o) : Kp X h h' := fun b o e n => ⟨o, k b o n e, .refl o⟩

structure Stp (c : Cx) (X : AP) (s s' : Shared) : Prop where
  kp : Kp (Tb X) s.heap s'.heap
  dat : Dat s.heap s'.heap
  al : ∀ b o, s.heap.get? b = some o → ∃ o', s'.heap.get? b = some o'
  old : Old c s'.heap
  gens : AllBare s'.gens
  os : s'.os = s.os

namespace Stp
variable {c : Cx} {X Y : AP} {s s' s'' : Shared}
theorem trans (x : Stp c X s s') (y : Stp c X s' s'') : Stp c X s s'' := ⟨x.kp.trans y.kp, x.dat.trans y.dat, fun b o e => (x.al b o e).elim fun o' e' => y.al b o' e', y.old, y.gens, y.os.trans x.os⟩
theorem mono (x : Stp c X s s') (h : ∀ b, X b → Y b) : Stp c Y s s' :=
  ⟨x.kp.mono fun b m => m.imp id fun m => m.imp id (h b), x.dat, x.al, x.old, x.gens, x.os⟩
theorem refl (O : Old c s.heap) (G : AllBare s.gens) : Stp c X s s := ⟨.refl _ _, .refl _, fun _ o e => ⟨o, e⟩, O, G, rfl⟩
theorem heap (O : Old c s.heap) (G : AllBare s.gens) {h' : Heap} {tk : Tok} (k : ∀ b o, s.heap.get? b = some o → h'.get? b = some o) : Stp c X s { s with heap := h', toks := tk } :=
  ⟨.of_keep fun b o _ e => k b o e, .of_keep k, fun b o e => ⟨o, k b o e⟩, O.step k, G, rfl⟩
theorem toks (O : Old c s.heap) (G : AllBare s.gens) {tk : Tok} : Stp c X s { s with toks := tk } := ⟨.refl _ _, .refl _, fun _ o e => ⟨o, e⟩, O, G, rfl⟩
end Stp

theorem ns_same {h h' : Heap} {a : Addr} {m : Str → Option Value} (x : h.Ns a m) (k : ∀ o, h.get? a = some o → ∃ o', h'.get? a = some o' ∧ Same o o') : h'.Ns a m := by
  obtain ⟨o, es, ep, ho, hd, r⟩ := x
  obtain ⟨o', ho', s⟩ := k _ ho
  exact ⟨o', es, ep, ho', s.data.trans hd, r⟩
theorem cell_same {h h' : Heap} {a : Addr} {v : Option Value} (x : h.IsCell a v) (k : ∀ o, h.get? a = some o → ∃ o', h'.get? a = some o' ∧ Same o o') : h'.IsCell a v := by
  obtain ⟨o, ho, hd⟩ := x
  obtain ⟨o', ho', s⟩ := k _ ho
  exact ⟨o', ho', s.data.trans hd⟩

end Mine
end

section
open PySem PySem.W PyProof.Rows PySem.Calls PySem.Spec
set_option Elab.async false
set_option maxRecDepth 100000
namespace Mine

/-! ## the accumulator at hand -/
structure Ac where
  addr : Addr
  dict : Addr
  cls : Addr
  attrs : List (Str × PyData)
  new : 235 ≤ addr ∧ 235 ≤ dict ∧ addr ≠ dict
  ps : List (Str × Str)

noncomputable def pieceD (p : Str × Str) : PyData := .tuple [.str p.1, .str p.2]

/-- what the thing holds: the pieces of an accumulator, or nothing -/
noncomputable def Bulk (Z : AP) (h : Heap) (a : Ac) (dt : Data) : Prop := (a.cls = 100 ∧ ∃ vs n, dt = .seq vs n ∧ Rps Z h vs.toList (a.ps.map pieceD)) ∨ (a.cls = 198 ∧ dt = .plain)
/-- the attributes -/
inductive EsAre (Z : AP) (h : Heap) : List DictEntry → List (Str × PyData) → Prop
  | nil : EsAre Z h [] []
  | cons {hs x tk v d es at_} : Rp Z h v d → EsAre Z h es at_ → EsAre Z h (⟨hs, .str x tk, v⟩ :: es) ((x, d) :: at_)
theorem EsAre.step {Z : AP} {h h' : Heap} (k : Dat h h') {es : List DictEntry} {l : List (Str × PyData)} (x : EsAre Z h es l) : EsAre Z h' es l := by
  induction x with
  | nil => exact .nil
  | cons a _ ih => exact .cons (a.step k) ih
theorem EsAre.dt {Z Z' : AP} {h h' : Heap} (k : Dt Z Z' h h') {es : List DictEntry} {l : List (Str × PyData)} (x : EsAre Z h es l) : EsAre Z' h' es l := by
  induction x with
  | nil => exact .nil
  | cons a _ ih => exact .cons (Rp.dt k a) ih

noncomputable def AccAt (Z : AP) (h : Heap) (a : Ac) : Prop :=
  ∃ dt es k, h.get? a.addr = some { cls := .ref a.cls, dict := some a.dict, data := dt } ∧ h.get? a.dict = some (dictOf es k) ∧ Bulk Z h a dt ∧ EsAre Z h es a.attrs

/-- a local's value: plain data, or the accumulator at hand -/
inductive V where
  | d (x : PyData)
  | ac

abbrev Loc := List (Str × V)

noncomputable def RV (Z : AP) (h : Heap) (σ : Option Ac) (u : Value) : V → Prop
  | .d x => Rp Z h u x
  | .ac => ∃ a, σ = some a ∧ u = .ref a.addr

noncomputable def Xs (σ : Option Ac) : AP := fun b => ∃ a, σ = some a ∧ (b = a.addr ∨ b = a.dict)

/-- frames on the stack -/
noncomputable def FFrames (h : Heap) (l : List Env) : Prop := ∀ env ∈ l, env.scope.kind ≠ .module ∧ ∃ L o, env.frame = some L ∧ 235 ≤ L ∧ h.get? L = some o ∧ o.cls = .type "frame" ∧ ∃ es k, o.data = .dict es k

noncomputable def FrameAt (env : Env) (h : Heap) : Prop := ∃ L o, env.frame = some L ∧ 235 ≤ L ∧ h.get? L = some o ∧ o.cls = .type "frame" ∧ ∃ es k, o.data = .dict es k

structure Room (n : Nat) (A : Around) (h : Heap) : Prop where
  hd : A.handled = none
  dep : A.depth + n ≤ 900
  uni : A.units + 100 * n ≤ 9000
  fr : ∃ l, A.frames = some l ∧ FFrames h l

noncomputable def isCellK (sc : Scope) (x : Str) : Prop := sc.names.lookup x = some .cell ∨ sc.names.lookup x = some .free

noncomputable def Bound (sc : Scope) (env : Env) (m : Str → Option Value) (h : Heap) (x : Str) (u : Value) : Prop :=
  (sc.names.lookup x = some .local ∧ m x = some u) ∨ (isCellK sc x ∧ ∃ a, env.cells.lookup x = some a ∧ h.IsCell a (some u))

structure In (c : Cx) (Z : AP) (n : Nat) (sc : Scope) (ρ : Loc) (σ : Option Ac) (A : Around) (env : Env) (s : Shared) : Prop where
  old : Old c s.heap
  gens : AllBare s.gens
  zal : ∀ b, Z b → ∃ o, s.heap.get? b = some o
  room : Room n A s.heap
  scope : env.scope = sc
  kind : sc.kind = .function
  gl : env.globals = mainGlobals
  bi : env.builtins = builtinsNs
  acc : ∀ a, σ = some a → AccAt Z s.heap a ∧ a.dict ≠ env.locals
  loc : ∃ m, s.heap.Ns env.locals m ∧ ∀ x v, ρ.lookup x = some v → ∃ u, RV Z s.heap σ u v ∧ Bound sc env m s.heap x u
  cel : ∀ x, isCellK sc x → ∃ a, env.cells.lookup x = some a
  cells : ∀ x a, env.cells.lookup x = some a → ∃ u, s.heap.IsCell a u
  inj : ∀ x y a, env.cells.lookup x = some a → env.cells.lookup y = some a → x = y
  newL : 235 ≤ env.locals
  fr : FrameAt env s.heap
  newC : ∀ x a, sc.names.lookup x = some .cell → env.cells.lookup x = some a → 235 ≤ a

/-- what a step of an expression turns -/
structure Post (c : Cx) (Z : AP) (σ σ' : Option Ac) (s s' : Shared) : Prop where
  stp : Stp c (Xs σ) s s'
  acc : ∀ a, σ' = some a → AccAt Z s'.heap a
  adr : σ'.map (fun a => (a.addr, a.dict, a.cls)) = σ.map fun a => (a.addr, a.dict, a.cls)

noncomputable def NoE : Value → Shared → Prop := fun _ _ => False

theorem room_mono {n : Nat} {A : Around} {h h' : Heap} (r : Room n A h) (k : ∀ b o, h.get? b = some o → o.cls = .type "frame" → ∃ o', h'.get? b = some o' ∧ Same o o') : Room n A h' := by
  obtain ⟨l, e, f⟩ := r.fr
  refine ⟨r.hd, r.dep, r.uni, l, e, fun env m => ?_⟩
  obtain ⟨h1, L, o, h2, h3, h4, h5, es, q, h6⟩ := f env m
  obtain ⟨o', ho', s⟩ := k L o h4 h5
  exact ⟨h1, L, o', h2, h3, ho', s.cls.trans h5, es, q, s.data.trans h6⟩

theorem accAt_mono {Z : AP} {h h' : Heap} {a : Ac} (x : AccAt Z h a) (k1 : ∀ o, h.get? a.addr = some o → h'.get? a.addr = some o) (k2 : ∀ o, h.get? a.dict = some o → h'.get? a.dict = some o) (k3 : Dat h h') : AccAt Z h' a := by
  obtain ⟨dt, es, k, e1, e2, b, r⟩ := x
  exact ⟨dt, es, k, k1 _ e1, k2 _ e2, b.imp (fun ⟨q, vs, n, e, rs⟩ => ⟨q, vs, n, e, rs.step k3⟩) id, r.step k3⟩
theorem accAt_keep {Z : AP} {h h' : Heap} {a : Ac} (x : AccAt Z h a) (k : ∀ b o, h.get? b = some o → h'.get? b = some o) : AccAt Z h' a := accAt_mono x (k _) (k _) (.of_keep k)

theorem xs_adr {σ σ' : Option Ac} (e : σ'.map (fun a => (a.addr, a.dict, a.cls)) = σ.map fun a => (a.addr, a.dict, a.cls)) : Xs σ' = Xs σ := by
  funext b
  cases σ <;> cases σ' <;> simp_all [Xs]
theorem RV.mono {Z : AP} {h h' : Heap} {σ σ' : Option Ac} (e : σ'.map (fun a => (a.addr, a.dict, a.cls)) = σ.map fun a => (a.addr, a.dict, a.cls)) (k : Dat h h') {u : Value} {v : V} (x : RV Z h σ u v) : RV Z h' σ' u v := by
  cases v with
  | d x' => exact Rp.step k x
  | ac =>
    obtain ⟨a, rfl, rfl⟩ := x
    cases σ' with
    | none => simp at e
    | some a' => simp at e; exact ⟨a', rfl, by rw [e.1]⟩

/-- an address that bears a dict or a cell is no table and no accumulator -/
theorem free_of {c : Cx} {Z : AP} {h : Heap} (O : Old c h) {σ : Option Ac} (ha : ∀ a, σ = some a → AccAt Z h a) {b : Addr} {o : Obj} (e : h.get? b = some o) (hd : (∀ vs, o.data ≠ .fields vs) ∧ (∀ vs k, o.data ≠ .seq vs k) ∧ o.data ≠ .plain) (hn : o.cls ≠ .type "dict" ∨ (∀ es k, o.data ≠ .dict es k) ∨ ∀ a, σ = some a → a.dict ≠ b) : ¬ Tb (Xs σ) b := by
  intro m
  rcases m with rfl | rfl | m
  · obtain ⟨ps, _, _, q⟩ := O.t1
    rw [e] at q; cases q; exact hd.1 _ rfl
  · obtain ⟨ps, _, _, q⟩ := O.t2
    rw [e] at q; cases q; exact hd.1 _ rfl
  · obtain ⟨a, ea, m⟩ := m
    obtain ⟨dt, es, k, e1, e2, bk, _⟩ := ha a ea
    rcases m with rfl | rfl
    · rw [e] at e1; cases e1
      rcases bk with ⟨_, vs, n, q, _⟩ | ⟨_, q⟩
      · exact hd.2.1 _ _ q
      · exact hd.2.2 q
    · rw [e] at e2; cases e2
      rcases hn with hn | hn | hn
      · exact hn rfl
      · exact hn _ _ rfl
      · exact hn a ea rfl

theorem ns_kp {c : Cx} {Z : AP} {h h' : Heap} (O : Old c h) {σ : Option Ac} (ha : ∀ a, σ = some a → AccAt Z h a) (k : Kp (Tb (Xs σ)) h h') {L : Addr} {m : Str → Option Value} (x : h.Ns L m) (hL : ∀ a, σ = some a → a.dict ≠ L) : h'.Ns L m :=
  ns_same x fun o e => k L o e (by
    obtain ⟨o', es, ep, ho, hd, _⟩ := x
    rw [e] at ho; cases ho
    exact free_of O ha e ⟨fun vs q => (by rw [hd] at q; cases q), fun vs k q => (by rw [hd] at q; cases q), fun q => (by rw [hd] at q; cases q)⟩ (.inr (.inr hL)))
theorem cell_kp {c : Cx} {Z : AP} {h h' : Heap} (O : Old c h) {σ : Option Ac} (ha : ∀ a, σ = some a → AccAt Z h a) (k : Kp (Tb (Xs σ)) h h') {L : Addr} {v : Option Value} (x : h.IsCell L v) : h'.IsCell L v :=
  cell_same x fun o e => k L o e (by
    obtain ⟨o', ho, hd⟩ := x
    rw [e] at ho; cases ho
    exact free_of O ha e ⟨fun vs q => (by rw [hd] at q; cases q), fun vs k q => (by rw [hd] at q; cases q), fun q => (by rw [hd] at q; cases q)⟩ (.inr (.inl fun es k q => (by rw [hd] at q; cases q))))
theorem room_kp {c : Cx} {Z : AP} {n : Nat} {A : Around} {h h' : Heap} (O : Old c h) {σ : Option Ac} (ha : ∀ a, σ = some a → AccAt Z h a) (k : Kp (Tb (Xs σ)) h h') (r : Room n A h) : Room n A h' := by
  obtain ⟨l, e, f⟩ := r.fr
  refine ⟨r.hd, r.dep, r.uni, l, e, fun env m => ?_⟩
  obtain ⟨h1, L, o, h2, h3, h4, h5, es, q, h6⟩ := f env m
  obtain ⟨o', ho', s⟩ := k L o h4 (free_of O ha h4 ⟨fun vs q => (by rw [h6] at q; cases q), fun vs k q => (by rw [h6] at q; cases q), fun q => (by rw [h6] at q; cases q)⟩ (.inl (by rw [h5]; decide)))
  exact ⟨h1, L, o', h2, h3, ho', s.cls.trans h5, es, q, s.data.trans h6⟩

theorem frame_kp {c : Cx} {Z : AP} {h h' : Heap} (O : Old c h) {σ : Option Ac} (ha : ∀ a, σ = some a → AccAt Z h a) (k : Kp (Tb (Xs σ)) h h') {env : Env} (r : FrameAt env h) : FrameAt env h' := by
  obtain ⟨L, o, h2, h3, h4, h5, es, q, h6⟩ := r
  obtain ⟨o', ho', sm⟩ := k L o h4 (free_of O ha h4 ⟨fun vs q => (by rw [h6] at q; cases q), fun vs k q => (by rw [h6] at q; cases q), fun q => (by rw [h6] at q; cases q)⟩ (.inl (by rw [h5]; decide)))
  exact ⟨L, o', h2, h3, ho', sm.cls.trans h5, es, q, sm.data.trans h6⟩
theorem Bound.kp {c : Cx} {Z : AP} {h h' : Heap} (O : Old c h) {σ : Option Ac} (ha : ∀ a, σ = some a → AccAt Z h a) (k : Kp (Tb (Xs σ)) h h') {sc : Scope} {env : Env} {m : Str → Option Value} {x : Str} {u : Value}
    (b : Bound sc env m h x u) : Bound sc env m h' x u := by
  rcases b with b | ⟨b1, a, b2, b3⟩
  · exact .inl b
  · exact .inr ⟨b1, a, b2, cell_kp O ha k b3⟩

theorem In.post {c : Cx} {Z : AP} {n : Nat} {sc : Scope} {ρ : Loc} {σ σ' : Option Ac} {A : Around} {env : Env} {s s' : Shared} (I : In c Z n sc ρ σ A env s) (P : Post c Z σ σ' s s') : In c Z n sc ρ σ' A env s' := by
  have ha : ∀ a, σ = some a → AccAt Z s.heap a := fun a e => (I.acc a e).1
  refine ⟨P.stp.old, P.stp.gens, fun b z => (I.zal b z).elim fun o e => P.stp.al b o e, room_kp I.old ha P.stp.kp I.room, I.scope, I.kind, I.gl, I.bi, fun a e => ⟨P.acc a e, ?_⟩, ?_, I.cel, fun x a e => ?_, I.inj, I.newL, frame_kp I.old ha P.stp.kp I.fr, I.newC⟩
  · have := P.adr
    rw [e] at this
    cases σ with
    | none => simp at this
    | some a' => simp at this; rw [this.2.1]; exact (I.acc a' rfl).2
  · obtain ⟨m, hm, hr⟩ := I.loc
    refine ⟨m, ns_kp I.old ha P.stp.kp hm (fun a e => (I.acc a e).2), fun x v e => ?_⟩
    obtain ⟨u, r, b⟩ := hr x v e
    exact ⟨u, r.mono P.adr P.stp.dat, b.kp I.old ha P.stp.kp⟩
  · obtain ⟨u, i⟩ := I.cells x a e
    exact ⟨u, cell_kp I.old ha P.stp.kp i⟩

theorem Post.trans {c : Cx} {Z : AP} {σ σ' σ'' : Option Ac} {s s' s'' : Shared} (x : Post c Z σ σ' s s') (y : Post c Z σ' σ'' s' s'') : Post c Z σ σ'' s s'' :=
  ⟨x.stp.trans (xs_adr x.adr ▸ y.stp), y.acc, y.adr.trans x.adr⟩
theorem Post.heap {c : Cx} {Z : AP} {σ : Option Ac} {s : Shared} (O : Old c s.heap) (G : AllBare s.gens) (ha : ∀ a, σ = some a → AccAt Z s.heap a) {h' : Heap} {tk : Tok} (k : ∀ b o, s.heap.get? b = some o → h'.get? b = some o) :
    Post c Z σ σ s { s with heap := h', toks := tk } := ⟨.heap O G k, fun a e => accAt_keep (ha a e) k, rfl⟩
theorem In.heap {c : Cx} {Z : AP} {n : Nat} {sc : Scope} {ρ : Loc} {σ : Option Ac} {A : Around} {env : Env} {s : Shared} (I : In c Z n sc ρ σ A env s) {h' : Heap} {tk : Tok} (k : ∀ b o, s.heap.get? b = some o → h'.get? b = some o) :
    Post c Z σ σ s { s with heap := h', toks := tk } := .heap I.old I.gens (fun a e => (I.acc a e).1) k
theorem In.same {c : Cx} {Z : AP} {n : Nat} {sc : Scope} {ρ : Loc} {σ : Option Ac} {A : Around} {env : Env} {s : Shared} (I : In c Z n sc ρ σ A env s) : Post c Z σ σ s s := I.heap (fun _ _ e => e)
theorem In.toks {c : Cx} {Z : AP} {n : Nat} {sc : Scope} {ρ : Loc} {σ : Option Ac} {A : Around} {env : Env} {s : Shared} (I : In c Z n sc ρ σ A env s) {tk : Tok} : Post c Z σ σ s { s with toks := tk } := I.heap (fun _ _ e => e)
theorem In.weak {c : Cx} {Z : AP} {n : Nat} {sc : Scope} {ρ ρ' : Loc} {σ : Option Ac} {A : Around} {env : Env} {s : Shared} (I : In c Z n sc ρ σ A env s) (h : ∀ x v, ρ'.lookup x = some v → ρ.lookup x = some v) : In c Z n sc ρ' σ A env s :=
  { I with loc := let ⟨m, a, b⟩ := I.loc; ⟨m, a, fun x v e => b x v (h x v e)⟩ }

/-! ## the judgement of an expression -/
noncomputable def Ev (c : Cx) (n : Nat) (sc : Scope) (ρ : Loc) (σ : Option Ac) (e : Expr) (d : PyData) (σ' : Option Ac) : Prop :=
  ∀ Z A env s, In c Z n sc ρ σ A env s → wpAny c.M A (eval e env) (fun v s' => Post c Z σ σ' s s' ∧ Rp Z s'.heap v d) NoE s
abbrev E1 (c : Cx) (n : Nat) (sc : Scope) (ρ : Loc) (σ : Option Ac) (e : Expr) (d : PyData) : Prop := Ev c n sc ρ σ e d σ

theorem wp_mono {α : Type} {M : Model} {A : Around} {t : Sem α} {Q Q' : α → Shared → Prop} {E' : Value → Shared → Prop} {s : Shared} (h : wpAny M A t Q NoE s) (hQ : ∀ a s, Q a s → Q' a s) : wpAny M A t Q' E' s :=
  wpAny_mono h hQ fun _ _ x => x.elim

theorem Ev.name {c : Cx} {n : Nat} {sc : Scope} {ρ : Loc} {σ : Option Ac} {x : Str} {pos : Pos} {d : PyData} (h : ρ.lookup x = some (.d d) := by rfl) (hd : (x == ("__debug__" : Str)) = false := by rfl) (hc : (x == ("__classdict__" : Str)) = false := by rfl) : E1 c n sc ρ σ (.Name x pos) d := by
  intro Z A env s I
  obtain ⟨m, hm, hr⟩ := I.loc
  obtain ⟨u, r, b⟩ := hr x _ h
  have hk : env.scope.kind = .function := by rw [I.scope]; exact I.kind
  refine wpAny_Name ?_ hd
  rcases b with ⟨b1, b2⟩ | ⟨b1, a, b2, b3⟩
  · exact wpAny_loadName_local hk (by rw [Env.kindOf, I.scope]; exact b1) hm b2 ⟨I.same, r⟩
  · rcases b1 with b1 | b1
    · exact wpAny_loadName_cell hk (by rw [Env.kindOf, I.scope]; exact b1) b2 b3 ⟨I.same, r⟩
    · exact wpAny_loadName_free hk (by rw [Env.kindOf, I.scope]; exact b1) b2 b3 ⟨I.same, r⟩ hc
theorem ev_acName {c : Cx} {Z : AP} {n : Nat} {sc : Scope} {ρ : Loc} {σ : Option Ac} {x : Str} {pos : Pos} (h : ρ.lookup x = some .ac := by rfl) (hd : (x == ("__debug__" : Str)) = false := by rfl) (hc : (x == ("__classdict__" : Str)) = false := by rfl)
    {A : Around} {env : Env} {s : Shared} (I : In c Z n sc ρ σ A env s) {Q : Value → Shared → Prop} {E : Value → Shared → Prop} (hQ : ∀ a, σ = some a → Q (.ref a.addr) s) : wpAny c.M A (eval (.Name x pos) env) Q E s := by
  obtain ⟨m, hm, hr⟩ := I.loc
  obtain ⟨u, ⟨a, ea, rfl⟩, b⟩ := hr x _ h
  have hk : env.scope.kind = .function := by rw [I.scope]; exact I.kind
  refine wpAny_Name ?_ hd
  rcases b with ⟨b1, b2⟩ | ⟨b1, a', b2, b3⟩
  · exact wpAny_loadName_local hk (by rw [Env.kindOf, I.scope]; exact b1) hm b2 (hQ a ea)
  · rcases b1 with b1 | b1
    · exact wpAny_loadName_cell hk (by rw [Env.kindOf, I.scope]; exact b1) b2 b3 (hQ a ea)
    · exact wpAny_loadName_free hk (by rw [Env.kindOf, I.scope]; exact b1) b2 b3 (hQ a ea) hc

theorem Ev.int {c : Cx} {n : Nat} {sc : Scope} {ρ : Loc} {σ : Option Ac} {i : Int} {k : Nat} {pos : Pos} : E1 c n sc ρ σ (.Constant (.int i) k pos) (.int i) :=
  fun _ _ _ _ I => wpAny_Constant_int ⟨I.toks, .int _ _⟩
theorem Ev.str {c : Cx} {n : Nat} {sc : Scope} {ρ : Loc} {σ : Option Ac} {x : Str} {k : Nat} {pos : Pos} : E1 c n sc ρ σ (.Constant (.str x) k pos) (.str x) :=
  fun _ _ _ _ I => wpAny_Constant_str ⟨I.toks, .str _ _⟩
theorem Ev.bool {c : Cx} {n : Nat} {sc : Scope} {ρ : Loc} {σ : Option Ac} {b : Bool} {k : Nat} {pos : Pos} : E1 c n sc ρ σ (.Constant (.bool b) k pos) (.bool b) :=
  fun _ _ _ _ I => wpAny_Constant_bool ⟨I.same, .bool _⟩
/-- two in a row -/
theorem Ev.seq {c : Cx} {n : Nat} {sc : Scope} {ρ : Loc} {σ σ₁ σ₂ : Option Ac} {l r : Expr} {a b : PyData} (hl : Ev c n sc ρ σ l a σ₁) (hr : Ev c n sc ρ σ₁ r b σ₂) {A : Around} {env : Env} {s : Shared} (I : In c Z n sc ρ σ A env s)
    {Q : Value → Value → Shared → Prop} {E : Value → Shared → Prop} (hQ : ∀ u v s', Post c Z σ σ₂ s s' → In c Z n sc ρ σ₂ A env s' → Rp Z s'.heap u a → Rp Z s'.heap v b → Q u v s') :
    wpAny c.M A (eval l env) (fun u s₁ => wpAny c.M A (eval r env) (fun v s₂ => Q u v s₂) E s₁) E s :=
  wp_mono (hl Z A env s I) fun u s₁ ⟨P₁, r₁⟩ => wp_mono (hr Z A env s₁ (I.post P₁)) fun v s₂ ⟨P₂, r₂⟩ => hQ u v s₂ (P₁.trans P₂) ((I.post P₁).post P₂) (r₁.step P₂.stp.dat) r₂

end Mine
end

section
open PySem PySem.W PyProof.Rows PySem.Calls PySem.Spec
set_option Elab.async false
set_option maxRecDepth 100000
namespace Mine

/-! ## a name is stored -/
theorem put_there {h : Heap} {a : Addr} {o : Obj} {es : Array DictEntry} {ep : Nat} (ho : h.get? a = some o) (hd : o.data = .dict es ep) (x : Str) (hs : Int) (k v : Value) :
    ∃ o', (h.update a (Obj.putName x hs k v)).get? a = some o' ∧ o'.cls = o.cls ∧ ∃ es' ep', o'.data = .dict es' ep' := by
  obtain ⟨c, d, dt, sl⟩ := o
  subst hd
  have e : ∃ es' ep', Obj.putName x hs k v ⟨c, d, .dict es ep, sl⟩ = ⟨c, d, .dict es' ep', sl⟩ := by
    rw [Obj.putName_eq]
    unfold Obj.putNameByArray
    dsimp only
    cases es.findIdx? (·.key.isStr x) with
    | some i => exact ⟨_, _, rfl⟩
    | none => exact ⟨_, _, rfl⟩
  obtain ⟨es', ep', e⟩ := e
  refine ⟨_, Heap.get?_update_self _ ho (by rw [e]; rfl), ?_⟩
  rw [e]
  exact ⟨rfl, _, _, rfl⟩

theorem nsSet_here {M : Model} {A : Around} {E : Value → Shared → Prop} {s : Shared} {a : Addr} {m : Str → Option Value} {x : Str} {v : Value} {Q : Unit → Shared → Prop} (hn : s.heap.Ns a m)
    (h : ∀ h', h'.Ns a (fun y => if y = x then some v else m y) → Heap.SameBut a s.heap h' → (∀ o, s.heap.get? a = some o → ∃ o', h'.get? a = some o' ∧ o'.cls = o.cls ∧ ∃ es k, o'.data = .dict es k) → Q () { s with heap := h', toks := s.toks + 1 }) :
    wpAny M A (nsSet a x v) Q E s := by
  obtain ⟨o, es, ep, ho, hd, hk, hm⟩ := id hn
  have hany : es.any (·.refKey) = false := by
    rw [Array.any_eq_false']; intro e he; obtain ⟨n, t, h⟩ := hk e he; simp [DictEntry.refKey, h]
  -- what the rule of the library tells of the heap that is made
  have made : ∀ hs, (s.heap.update a (Obj.putName x hs (.str x s.toks) v)).Ns a (fun y => if y = x then some v else m y) := by
    intro hs
    obtain ⟨c, d, dt, sl⟩ := o
    subst hd
    cases hi : es.findIdx? (·.key.isStr x) with
    | some i =>
      have e : Obj.putName x hs (.str x s.toks) v ⟨c, d, .dict es ep, sl⟩ = ⟨c, d, .dict (es.modify i fun e => { e with val := v }) ep, sl⟩ := by simp only [Obj.putName_eq, Obj.putNameByArray, hi]
      refine ⟨_, _, _, Heap.get?_update_self _ ho (by rw [e]; rfl), by rw [e], hk.modify _ _, fun y => ?_⟩
      show _ = if y = x then some v else m y
      rw [← hm]
      exact findBy_modify (fun n v => v.isStr n) Value.isStr_inj es x y v i hi
    | none =>
      have e : Obj.putName x hs (.str x s.toks) v ⟨c, d, .dict es ep, sl⟩ = ⟨c, d, .dict (es.push ⟨hs, .str x s.toks, v⟩) (ep + 1), sl⟩ := by simp only [Obj.putName_eq, Obj.putNameByArray, hi]
      refine ⟨_, _, _, Heap.get?_update_self _ ho (by rw [e]; rfl), by rw [e], hk.push _ _ _ _, fun y => ?_⟩
      show _ = if y = x then some v else m y
      rw [← hm]
      refine findBy_push (fun n v => v.isStr n) es x y _ _ v (fun z => ?_) hi
      show (x == z) = decide (z = x)
      by_cases q : z = x
      · subst q; simp
      · have : ¬ x = z := fun e => q e.symm
        simp [q, this]
  unfold nsSet strHash
  refine wpAny_bind (wpAny_bind (wpAny_askSetting (wpAny_pure (wpAny_bind (wpAny_mkText (wpAny_bind (wpAny_loadPart (o := o) ho ?_)))))))
  simp only [hd, aRefKeyMayBeTheName_eq, aRefKeyMayBeTheNameByArray, hany, Bool.and_false, Bool.false_eq_true, if_false]
  refine wpAny_updatePart (o := o) ho (h _ (made _) (Heap.SameBut.update ..) fun o₂ e₂ => ?_)
  rw [ho] at e₂
  cases e₂
  exact put_there ho hd _ _ _ _

/-! ## a step of a frame -/
noncomputable def ownM (all : Bool) (env : Env) (X : AP) : AP := fun b => b = env.locals ∨ (all = true ∧ ∃ x, env.cells.lookup x = some b) ∨ X b
abbrev own (env : Env) (X : AP) : AP := ownM true env X
structure PostM (c : Cx) (all : Bool) (env : Env) (σ σ' : Option Ac) (s s' : Shared) : Prop where
  stp : Stp c (ownM all env (Xs σ)) s s'
  adr : σ'.map (fun a => (a.addr, a.dict, a.cls)) = σ.map fun a => (a.addr, a.dict, a.cls)
abbrev PostF (c : Cx) (env : Env) (σ σ' : Option Ac) (s s' : Shared) : Prop := PostM c true env σ σ' s s'
theorem Post.toF {c : Cx} {Z : AP} {all : Bool} {env : Env} {σ σ' : Option Ac} {s s' : Shared} (P : Post c Z σ σ' s s') : PostM c all env σ σ' s s' := ⟨P.stp.mono fun _ m => .inr (.inr m), P.adr⟩
theorem PostM.trans {c : Cx} {all : Bool} {env : Env} {σ σ' σ'' : Option Ac} {s s' s'' : Shared} (x : PostM c all env σ σ' s s') (y : PostM c all env σ' σ'' s' s'') : PostM c all env σ σ'' s s'' :=
  ⟨x.stp.trans (xs_adr x.adr ▸ y.stp), y.adr.trans x.adr⟩

theorem lookup_mem {α β : Type} [BEq α] [LawfulBEq α] {l : List (α × β)} {x : α} {b : β} (e : l.lookup x = some b) : (x, b) ∈ l := by
  induction l with
  | nil => cases e
  | cons p r ih =>
    obtain ⟨y, q⟩ := p
    rw [List.lookup_cons] at e
    split at e
    · rename_i hb
      cases e
      rw [beq_iff_eq.mp hb]; exact .head _
    · exact .tail _ (ih e)

theorem lookup_upd {x y : Str} {v : V} {ρ : Loc} : List.lookup y ((x, v) :: ρ) = if y = x then some v else ρ.lookup y := by
  rw [List.lookup_cons]
  by_cases h : y = x
  · subst h; simp
  · rw [beq_false_of_ne h, if_neg h]

section
variable {c : Cx} {Z : AP} {n : Nat} {sc : Scope} {ρ : Loc} {σ : Option Ac} {A : Around} {env : Env} {s : Shared}

theorem In.lt (I : In c Z n sc ρ σ A env s) {a : Addr} (h : a < 235) : a ≠ env.locals := fun e => absurd I.newL (by rw [← e]; exact Nat.not_le.mpr h)

/-- one object of one's own is changed: everything else stands -/
theorem In.changed (I : In c Z n sc ρ σ A env s) {a : Addr} {h' : Heap} {tk : Tok} (hs : Heap.SameBut a s.heap h') (h235 : 235 ≤ a) (hao : ∃ o, s.heap.get? a = some o ∧ (∀ vs, o.data ≠ .fields vs) ∧ (∀ vs k, o.data ≠ .seq vs k))
    (hfr : ∀ o, s.heap.get? a = some o → o.cls = .type "frame" → (∃ es k, o.data = .dict es k) → ∃ o', h'.get? a = some o' ∧ o'.cls = o.cls ∧ ∃ es k, o'.data = .dict es k) :
    Old c h' ∧ Room n A h' ∧ Dat s.heap h' ∧ (∀ b, b ≠ a → h'.get? b = s.heap.get? b) ∧ FrameAt env h' := by
  obtain ⟨o, ho, hf, hq⟩ := hao
  have k : ∀ b o, b ≠ a → s.heap.get? b = some o → h'.get? b = some o := fun b o hb e => (hs.2 b hb).trans e
  have lt : ∀ b, b < 235 → b ≠ a := fun b hb e => absurd h235 (by rw [← e]; exact Nat.not_le.mpr hb)
  have tab : ∀ {cd P : Addr}, cd < 235 → P < 235 → Tab s.heap cd P → Tab h' cd P := by
    rintro cd P h1 h2 ⟨ps, x, y⟩
    refine ⟨ps, isCode_at x (fun o => k _ o (lt _ h1)) (fun o => k _ o (lt _ h2)), ?_⟩
    obtain ⟨⟨o₁, vs, q1, q⟩, y2⟩ := y
    exact ⟨⟨o₁, vs, k _ _ (lt _ h1) q1, q⟩, k _ _ (lt _ h2) y2⟩
  refine ⟨⟨fun b o e h1 h2 => k _ _ (lt b (c.size ▸ Heap.lt_size e)) (I.old.keep b o e h1 h2), tab (by decide) (by decide) I.old.t1, tab (by decide) (by decide) I.old.t2, fun P hP ps e => (I.old.ex P hP ps e).elim fun m q => ⟨m, k _ _ (lt P (by rcases hP with rfl | rfl <;> decide)) q⟩⟩, ?_, fun b o' e hc => ?_, fun b hb => hs.2 b hb, ?_⟩
  · obtain ⟨l, e, f⟩ := I.room.fr
    refine ⟨I.room.hd, I.room.dep, I.room.uni, l, e, fun env' m' => ?_⟩
    obtain ⟨h1, L', o', h2, h3, h4, h5, h6⟩ := f env' m'
    by_cases hb : L' = a
    · subst hb
      obtain ⟨o'', g1, g2, g3⟩ := hfr o' h4 h5 h6
      exact ⟨h1, L', o'', h2, h3, g1, g2.trans h5, g3⟩
    · exact ⟨h1, L', o', h2, h3, k _ _ hb h4, h5, h6⟩
  · refine k b o' (fun q => ?_) e
    subst q
    rw [ho] at e; cases e
    obtain ⟨⟨vs, k', q⟩, _⟩ := hc
    exact hq _ _ q
  · obtain ⟨L', o', h2, h3, h4, h5, h6⟩ := I.fr
    by_cases hb : L' = a
    · subst hb
      obtain ⟨o'', g1, g2, g3⟩ := hfr o' h4 h5 h6
      exact ⟨L', o'', h2, h3, g1, g2.trans h5, g3⟩
    · exact ⟨L', o', h2, h3, k _ _ hb h4, h5, h6⟩

theorem acc_off (I : In c Z n sc ρ σ A env s) {a : Addr} {o : Obj} (ho : s.heap.get? a = some o) (hq : (∀ vs k, o.data ≠ .seq vs k) ∧ o.data ≠ .plain) (hd : ∀ ac, σ = some ac → ac.dict ≠ a) {h' : Heap} (k : ∀ b, b ≠ a → h'.get? b = s.heap.get? b) (dt : Dat s.heap h') :
    ∀ ac, σ = some ac → AccAt Z h' ac := fun ac e => by
  have x := (I.acc ac e).1
  refine accAt_mono x (fun o' e' => (k _ fun q => ?_).trans e') (fun o' e' => (k _ (hd ac e)).trans e') dt
  obtain ⟨dt, es, k', e1, _, bk, _⟩ := x
  rw [q, ho] at e1; cases e1
  rcases bk with ⟨_, vs, n, q, _⟩ | ⟨_, q⟩
  · exact hq.1 _ _ q
  · exact hq.2 q

/-- the kinds of a name that may be stored -/
noncomputable def StoM (all : Bool) (sc : Scope) (x : Str) : Prop := sc.names.lookup x = some .local ∨ (all = true ∧ sc.names.lookup x = some .cell)
abbrev Sto (sc : Scope) (x : Str) : Prop := StoM true sc x

theorem In.store (I : In c Z n sc ρ σ A env s) {x : Str} {u : Value} {v : V} {all : Bool} (hx : StoM all sc x) (r : RV Z s.heap σ u v) {Q : Unit → Shared → Prop} {E : Value → Shared → Prop}
    (hQ : ∀ s', In c Z n sc ((x, v) :: ρ) σ A env s' → PostM c all env σ σ s s' → Q () s') : wpAny c.M A (storeName env x u) Q E s := by
  have hk : env.scope.kind = .function := by rw [I.scope]; exact I.kind
  obtain ⟨m, hm, hr⟩ := I.loc
  have hadr : σ.map (fun a => (a.addr, a.dict, a.cls)) = σ.map fun a => (a.addr, a.dict, a.cls) := rfl
  rcases hx with hx | ⟨hall, hx⟩
  · have hp : (env.scope.kind == .class || (env.scope.kind == .module && env.locals != env.globals)) = false := by rw [hk]; rfl
    rw [storeName_local (by rw [Env.kindOf, I.scope]; exact hx) hp]
    refine nsSet_here hm fun h' hn' hs hf => ?_
    obtain ⟨oL, es, ep, hoL, hdL, _⟩ := id hm
    have hsh : (∀ vs, oL.data ≠ .fields vs) ∧ ∀ vs k, oL.data ≠ .seq vs k := ⟨fun vs q => (by rw [hdL] at q; cases q), fun vs k q => (by rw [hdL] at q; cases q)⟩
    obtain ⟨O', R', D', k', F'⟩ := I.changed (tk := 0) hs I.newL ⟨oL, hoL, hsh.1, hsh.2⟩ fun o e _ _ => hf o e
    have cellk : ∀ {b : Addr} {w : Option Value}, s.heap.IsCell b w → h'.IsCell b w := by
      rintro b w ⟨o, e1, e2⟩
      refine ⟨o, (k' b fun q => ?_).trans e1, e2⟩
      rw [q, hoL] at e1; cases e1; rw [hdL] at e2; cases e2
    have al : ∀ b o, s.heap.get? b = some o → ∃ o', h'.get? b = some o' := fun b o e => by
      by_cases q : b = env.locals
      · rw [q]; obtain ⟨o', _, _, e', _⟩ := id hn'; exact ⟨o', e'⟩
      · exact ⟨o, (k' b q).trans e⟩
    have zl : ∀ b, Z b → ∃ o, h'.get? b = some o := fun b z => (I.zal b z).elim fun o e => al b o e
    have ha := acc_off I hoL ⟨hsh.2, fun q => (by rw [hdL] at q; cases q)⟩ (fun ac e => (I.acc ac e).2) k' D'
    refine hQ _ ⟨O', I.gens, zl, R', I.scope, I.kind, I.gl, I.bi, fun a e => ⟨ha a e, (I.acc a e).2⟩, ⟨_, hn', fun y w e => ?_⟩, I.cel, fun y ay ey => ?_, I.inj, I.newL, F', I.newC⟩
      ⟨⟨.of_keep fun b o hb e => (k' b fun q => hb ?_).trans e, D', al, O', I.gens, rfl⟩, rfl⟩
    · rw [lookup_upd] at e
      split at e
      · rename_i q
        cases e
        subst q
        exact ⟨u, r.mono hadr D', .inl ⟨hx, by simp⟩⟩
      · rename_i q
        obtain ⟨u', r', b'⟩ := hr y w e
        refine ⟨u', r'.mono hadr D', ?_⟩
        rcases b' with ⟨b1, b2⟩ | ⟨b1, a, b2, b3⟩
        · exact .inl ⟨b1, by simp [q, b2]⟩
        · exact .inr ⟨b1, a, b2, cellk b3⟩
    · obtain ⟨u', i⟩ := I.cells y ay ey
      exact ⟨u', cellk i⟩
    · exact .inr (.inr (.inl q))
  · obtain ⟨a, ea⟩ := I.cel x (.inl hx)
    obtain ⟨u₀, ia⟩ := I.cells x a ea
    refine wpAny_storeName_cell hk (by rw [Env.kindOf, I.scope]; exact hx) ea ia fun h' ic hs => ?_
    obtain ⟨oa, hoa, hda⟩ := id ia
    have hsh : (∀ vs, oa.data ≠ .fields vs) ∧ ∀ vs k, oa.data ≠ .seq vs k := ⟨fun vs q => (by rw [hda] at q; cases q), fun vs k q => (by rw [hda] at q; cases q)⟩
    obtain ⟨O', R', D', k', F'⟩ := I.changed (tk := 0) hs (I.newC x a hx ea) ⟨oa, hoa, hsh.1, hsh.2⟩ fun o e _ ⟨es, q, z⟩ => by rw [hoa] at e; cases e; rw [hda] at z; cases z
    have al : ∀ b o, s.heap.get? b = some o → ∃ o', h'.get? b = some o' := fun b o e => by
      by_cases q : b = a
      · rw [q]; obtain ⟨o', e', _⟩ := id ic; exact ⟨o', e'⟩
      · exact ⟨o, (k' b q).trans e⟩
    have zl : ∀ b, Z b → ∃ o, h'.get? b = some o := fun b z => (I.zal b z).elim fun o e => al b o e
    have ha := acc_off I hoa ⟨hsh.2, fun q => (by rw [hda] at q; cases q)⟩ (fun ac e q => by
      obtain ⟨dt, es, k, _, e2, _⟩ := (I.acc ac e).1
      rw [q, hoa] at e2; cases e2; cases hda) k' D'
    have hLa : env.locals ≠ a := fun q => by
      obtain ⟨oL, es, ep, hoL, hdL, _⟩ := hm
      rw [q, hoa] at hoL; cases hoL; rw [hda] at hdL; cases hdL
    refine hQ _ ⟨O', I.gens, zl, R', I.scope, I.kind, I.gl, I.bi, fun a e => ⟨ha a e, (I.acc a e).2⟩, ⟨m, ns_at hm fun o e => (k' _ hLa).trans e, fun y w e => ?_⟩, I.cel, fun y ay ey => ?_, I.inj, I.newL, F', I.newC⟩
      ⟨⟨.of_keep fun b o hb e => (k' b fun q => hb ?_).trans e, D', al, O', I.gens, rfl⟩, rfl⟩
    · rw [lookup_upd] at e
      split at e
      · rename_i q
        cases e
        subst q
        exact ⟨u, r.mono hadr D', .inr ⟨.inl hx, a, ea, ic⟩⟩
      · rename_i q
        obtain ⟨u', r', b'⟩ := hr y w e
        refine ⟨u', r'.mono hadr D', ?_⟩
        rcases b' with b' | ⟨b1, a', b2, o, e1, e2⟩
        · exact .inl b'
        · exact .inr ⟨b1, a', b2, o, (k' a' fun z => q (I.inj y x a (z ▸ b2) ea)).trans e1, e2⟩
    · by_cases q : y = x
      · subst q
        rw [ea] at ey; cases ey
        exact ⟨some u, ic⟩
      · obtain ⟨u', o, e1, e2⟩ := I.cells y ay ey
        exact ⟨u', o, (k' ay fun z => q (I.inj y x a (z ▸ ey) ea)).trans e1, e2⟩
    · subst q
      exact .inr (.inr (.inr (.inl ⟨hall, x, ea⟩)))
end
end Mine
end

section
open PySem PySem.W PyProof.Rows PySem.Calls PySem.Spec
set_option Elab.async false
set_option linter.unusedVariables false
set_option maxRecDepth 100000
namespace Mine

/-! ## statements -/
inductive Out where
  | next | brk | cont
  | ret (d : PyData)

noncomputable def FlowIs (Z : AP) (h : Heap) : Flow → Out → Prop
  | .next, .next => True
  | .brk, .brk => True
  | .cont, .cont => True
  | .ret v, .ret d => Rp Z h v d
  | _, _ => False

abbrev QT := Out → Loc → Option Ac → Prop
/-- what a piece of a body leaves -/
noncomputable def Left (c : Cx) (Z : AP) (n : Nat) (sc : Scope) (σ : Option Ac) (A : Around) (env : Env) (Q : QT) (s : Shared) (f : Flow) (s' : Shared) : Prop :=
  ∃ o ρ' σ', Q o ρ' σ' ∧ In c Z n sc ρ' σ' A env s' ∧ PostF c env σ σ' s s' ∧ FlowIs Z s'.heap f o

noncomputable def Ss (c : Cx) (n : Nat) (sc : Scope) (ρ : Loc) (σ : Option Ac) (body : List Stmt) (Q : QT) : Prop :=
  ∀ Z A env s, In c Z n sc ρ σ A env s → wpAny c.M A (execs body env) (Left c Z n sc σ A env Q s) NoE s
noncomputable def S1 (c : Cx) (n : Nat) (sc : Scope) (ρ : Loc) (σ : Option Ac) (st : Stmt) (Q : QT) : Prop :=
  ∀ Z A env s, In c Z n sc ρ σ A env s → wpAny c.M A (exec st env) (Left c Z n sc σ A env Q s) NoE s

noncomputable def Le (ρ' ρ : Loc) : Prop := ∀ x v, ρ'.lookup x = some v → ρ.lookup x = some v
noncomputable def Sub : Loc → Loc → Prop
  | [], _ => True
  | (x, v) :: r, ρ => ρ.lookup x = some v ∧ Sub r ρ
theorem Sub.look {ρ' ρ : Loc} (h : Sub ρ' ρ) : ∀ x v, ρ'.lookup x = some v → ρ.lookup x = some v := by
  induction ρ' with
  | nil => intro x v e; cases e
  | cons p r ih =>
    obtain ⟨y, w⟩ := p
    intro x v e
    rw [lookup_upd] at e
    split at e
    · rename_i q; cases e; subst q; exact h.1
    · exact ih h.2 x v e

section
variable {c : Cx} {n : Nat} {sc : Scope} {ρ : Loc} {σ σ' : Option Ac} {Q : QT}

theorem PostM.refl {Z : AP} {all : Bool} {env : Env} {A : Around} {s : Shared} (I : In c Z n sc ρ σ A env s) : PostM c all env σ σ s s := I.same.toF

theorem Left.of {Z : AP} {σ₁ : Option Ac} {A : Around} {env : Env} {s s₁ s' : Shared} {f : Flow} (P : PostF c env σ σ₁ s s₁) (h : Left c Z n sc σ₁ A env Q s₁ f s') : Left c Z n sc σ A env Q s f s' :=
  let ⟨o, ρ', σ', q, I, P', F⟩ := h; ⟨o, ρ', σ', q, I, P.trans P', F⟩

theorem Ss.nil (h : Q .next ρ σ) : Ss c n sc ρ σ [] Q := fun Z A env s I => wpAny_execs_nil ⟨.next, ρ, σ, h, I, .refl I, trivial⟩

theorem Ss.cons {st : Stmt} {rest : List Stmt} {Q' : QT} (h : S1 c n sc ρ σ st Q') (hn : ∀ ρ' σ', Q' .next ρ' σ' → Ss c n sc ρ' σ' rest Q) (ho : ∀ o ρ' σ', o ≠ .next → Q' o ρ' σ' → Q o ρ' σ') : Ss c n sc ρ σ (st :: rest) Q := fun Z A env s I => by
  refine wpAny_execs_cons (wp_mono (h Z A env s I) fun f s₁ ⟨o, ρ', σ', q, I', P, F⟩ => ?_)
  cases f <;> cases o <;> first | exact F.elim | skip
  · exact wp_mono (hn _ _ q Z A env s₁ I') fun f' s₂ L => L.of P
  · exact ⟨.brk, ρ', σ', ho _ _ _ (fun e => by cases e) q, I', P, F⟩
  · exact ⟨.cont, ρ', σ', ho _ _ _ (fun e => by cases e) q, I', P, F⟩
  · exact ⟨.ret _, ρ', σ', ho _ _ _ (fun e => by cases e) q, I', P, F⟩

/-- a statement that only goes on -/
noncomputable def Qn (ρ' : Loc) (σ' : Option Ac) : QT := fun o ρ₁ σ₁ => o = .next ∧ ρ₁ = ρ' ∧ σ₁ = σ'
theorem Ss.step {st : Stmt} {rest : List Stmt} {ρ' : Loc} {σ' : Option Ac} (h : S1 c n sc ρ σ st (Qn ρ' σ')) (hn : Ss c n sc ρ' σ' rest Q) : Ss c n sc ρ σ (st :: rest) Q :=
  .cons h (fun _ _ ⟨_, e1, e2⟩ => by rw [e1, e2]; exact hn) fun o _ _ ne ⟨e, _, _⟩ => absurd e ne

theorem Ss.mono {body : List Stmt} {Q' : QT} (h : Ss c n sc ρ σ body Q') (hq : ∀ o ρ₁ σ₁, Q' o ρ₁ σ₁ → Q o ρ₁ σ₁) : Ss c n sc ρ σ body Q := fun Z A env s I =>
  wp_mono (h Z A env s I) fun _ _ ⟨o, ρ', σ', q, I', P, F⟩ => ⟨o, ρ', σ', hq _ _ _ q, I', P, F⟩
theorem S1.mono {st : Stmt} {Q' : QT} (h : S1 c n sc ρ σ st Q') (hq : ∀ o ρ₁ σ₁, Q' o ρ₁ σ₁ → Q o ρ₁ σ₁) : S1 c n sc ρ σ st Q := fun Z A env s I =>
  wp_mono (h Z A env s I) fun _ _ ⟨o, ρ', σ', q, I', P, F⟩ => ⟨o, ρ', σ', hq _ _ _ q, I', P, F⟩
/-- forget locals -/
theorem Ss.pre {body : List Stmt} {ρ' : Loc} (hs : Sub ρ' ρ) (h : Ss c n sc ρ' σ body Q) : Ss c n sc ρ σ body Q := fun Z A env s I => h Z A env s (I.weak hs.look)
theorem Ss.weak {body : List Stmt} {Q' : QT} (h : Ss c n sc ρ σ body Q') (hq : ∀ o ρ₁ σ₁, Q' o ρ₁ σ₁ → ∃ ρ₂, Sub ρ₂ ρ₁ ∧ Q o ρ₂ σ₁) : Ss c n sc ρ σ body Q := fun Z A env s I =>
  wp_mono (h Z A env s I) fun _ _ ⟨o, ρ', σ', q, I', P, F⟩ => let ⟨ρ₂, hs, q'⟩ := hq _ _ _ q; ⟨o, ρ₂, σ', q', I'.weak hs.look, P, F⟩

theorem S1.ret {e : Expr} {pos : Pos} {d : PyData} (h : Ev c n sc ρ σ e d σ') (hq : Q (.ret d) ρ σ') : S1 c n sc ρ σ (.Return (some e) pos) Q := fun Z A env s I =>
  wpAny_Return_some (wp_mono (h Z A env s I) fun v s' ⟨P, r⟩ => ⟨.ret d, ρ, σ', hq, I.post P, P.toF, r⟩)
theorem Ss.ret {e : Expr} {pos : Pos} {d : PyData} {rest : List Stmt} (h : Ev c n sc ρ σ e d σ') (hq : Q (.ret d) ρ σ') : Ss c n sc ρ σ (.Return (some e) pos :: rest) Q :=
  .cons (Q' := fun o ρ₁ σ₁ => o = .ret d ∧ ρ₁ = ρ ∧ σ₁ = σ') (.ret h ⟨rfl, rfl, rfl⟩) (fun _ _ ⟨e, _⟩ => by cases e) fun o _ _ _ ⟨a, b, e⟩ => by rw [a, b, e]; exact hq
theorem Ss.brk {pos : Pos} {rest : List Stmt} (hq : Q .brk ρ σ) : Ss c n sc ρ σ (.Break pos :: rest) Q := fun Z A env s I =>
  wpAny_execs_cons (wpAny_Break ⟨.brk, ρ, σ, hq, I, .refl I, trivial⟩)

theorem S1.assign {x : Str} {p pos : Pos} {e : Expr} {d : PyData} (h : Ev c n sc ρ σ e d σ') (hx : Sto sc x) (hs : ∀ env : Env, env.scope = sc → swapsWith e (some (.Name x p)) pos.line env = pure false) :
    S1 c n sc ρ σ (.Assign [.Name x p] e pos) (Qn ((x, .d d) :: ρ) σ') := fun Z A env s I =>
  wpAny_Assign_Name (wp_mono (h Z A env s I) fun v s' ⟨P, r⟩ => (I.post P).store hx (v := .d d) r fun s'' I'' P'' => ⟨.next, _, σ', ⟨rfl, rfl, rfl⟩, I'', P.toF.trans P'', trivial⟩) (hs env I.scope)

/-! ## tests -/
noncomputable def EvB (c : Cx) (n : Nat) (sc : Scope) (ρ : Loc) (σ : Option Ac) (e : Expr) (b : Bool) (σ' : Option Ac) : Prop :=
  ∀ Z A env s, In c Z n sc ρ σ A env s → wpAny c.M A (isTrue e env (eval e env)) (fun r s' => r = b ∧ Post c Z σ σ' s s') NoE s

theorem S1.ite {t : Expr} {b : Bool} {body orelse : List Stmt} {pos : Pos} (ht : EvB c n sc ρ σ t b σ') (h1 : b = true → Ss c n sc ρ σ' body Q) (h2 : b = false → Ss c n sc ρ σ' orelse Q) : S1 c n sc ρ σ (.If t body orelse pos) Q := fun Z A env s I => by
  refine wpAny_If (wp_mono (ht Z A env s I) fun r s' ⟨e, P⟩ => ?_)
  subst e
  cases r with
  | true => exact wp_mono (h1 rfl Z A env s' (I.post P)) fun _ _ L => L.of P.toF
  | false => exact wp_mono (h2 rfl Z A env s' (I.post P)) fun _ _ L => L.of P.toF
theorem Ss.ite {t : Expr} {b : Bool} {body orelse rest : List Stmt} {pos : Pos} (ht : EvB c n sc ρ σ t b σ')
    (h1 : b = true → Ss c n sc ρ σ' body (fun o ρ₁ σ₁ => match o with | .next => Ss c n sc ρ₁ σ₁ rest Q | o => Q o ρ₁ σ₁)) (h2 : b = false → Ss c n sc ρ σ' orelse (fun o ρ₁ σ₁ => match o with | .next => Ss c n sc ρ₁ σ₁ rest Q | o => Q o ρ₁ σ₁)) :
    Ss c n sc ρ σ (.If t body orelse pos :: rest) Q :=
  .cons (.ite ht h1 h2) (fun _ _ q => q) fun o _ _ ne q => by cases o <;> first | exact absurd rfl ne | exact q
theorem Ss.ite_no {t : Expr} {body rest : List Stmt} {pos : Pos} (ht : EvB c n sc ρ σ t false σ') (h : Ss c n sc ρ σ' rest Q) : Ss c n sc ρ σ (.If t body [] pos :: rest) Q :=
  .ite ht (fun e => by cases e) fun _ => .nil h
theorem S1.whil {t : Expr} {body : List Stmt} {pos : Pos} (J : Nat → Loc → Option Ac → Prop)
    (turn : ∀ k ρ₁ σ₁, J k ρ₁ σ₁ → ∃ b, EvB c n sc ρ₁ σ₁ t b σ₁ ∧ (b = true → Ss c n sc ρ₁ σ₁ body (fun o ρ₂ σ₂ => match o with | .next | .cont => ∃ k' ρ₃, k' < k ∧ Sub ρ₃ ρ₂ ∧ J k' ρ₃ σ₂ | .brk => Q .next ρ₂ σ₂ | .ret d => Q (.ret d) ρ₂ σ₂)) ∧ (b = false → Q .next ρ₁ σ₁))
    {k : Nat} (h0 : J k ρ σ) : S1 c n sc ρ σ (.While t body [] pos) Q := fun Z A env s I => by
  refine wpAny_While (codeAny_whileLoop (fun k s' => ∃ ρ₁ σ₁, J k ρ₁ σ₁ ∧ In c Z n sc ρ₁ σ₁ A env s' ∧ PostF c env σ σ₁ s s') (fun k s' ⟨ρ₁, σ₁, hJ, I', P⟩ => ?_) k ⟨ρ, σ, h0, I, .refl I⟩)
  obtain ⟨b, hb, h1, h2⟩ := turn k ρ₁ σ₁ hJ
  refine wp_mono (hb Z A env s' I') fun r s₂ ⟨e, P'⟩ => ?_
  subst e
  cases r with
  | true =>
    simp only [if_true]
    refine wp_mono (h1 rfl Z A env s₂ (I'.post P')) fun f s₃ ⟨o, ρ₂, σ₂, q, I₃, P₃, F⟩ => ?_
    have P₄ := (P.trans P'.toF).trans P₃
    cases f <;> cases o <;> first | exact F.elim | skip
    · obtain ⟨k', ρ₃, lt, hs, hJ'⟩ := q
      exact ⟨k', lt, ρ₃, σ₂, hJ', I₃.weak hs.look, P₄⟩
    · exact ⟨.next, ρ₂, σ₂, q, I₃, P₄, trivial⟩
    · obtain ⟨k', ρ₃, lt, hs, hJ'⟩ := q
      exact ⟨k', lt, ρ₃, σ₂, hJ', I₃.weak hs.look, P₄⟩
    · exact ⟨.ret _, ρ₂, σ₂, q, I₃, P₄, F⟩
  | false =>
    simp only [Bool.false_eq_true, if_false]
    exact wpAny_execs_nil ⟨.next, ρ₁, σ₁, h2 rfl, I'.post P', P.trans P'.toF, trivial⟩
end

/-! ## iterators -/
noncomputable def Fix (o : Obj) : Prop := o.cls ≠ .type "frame" ∧ o.cls ≠ .none ∧ (∀ es k, o.data ≠ .dict es k) ∧ ∀ v, o.data ≠ .cell v
noncomputable def FixI (o : Obj) : Prop := Fix o ∧ (∀ x, o.cls ≠ .ref x) ∧ ∀ vs k, o.data ≠ .seq vs k

structure Iter (c : Cx) (Z : AP) (h₀ : Heap) (I : Addr) (fp : List Addr) (St : Heap → List PyData → Prop) : Prop where
  mem : I ∈ fp
  frame : ∀ h h' ds, St h ds → (∀ b ∈ fp, ∀ o, h.get? b = some o → h'.get? b = some o) → Dat h₀ h' → St h' ds
  fix : ∀ h ds, St h ds → ∀ b ∈ fp, ∃ o, h.get? b = some o ∧ Fix o
  fixI : ∀ h ds, St h ds → ∃ o, h.get? I = some o ∧ FixI o
  next : ∀ (A : Around) (s : Shared) d ds (Q : Option Value → Shared → Prop) (E : Value → Shared → Prop), A.handled = none → St s.heap (d :: ds) → Dat h₀ s.heap →
    (∀ v h' tk, St h' ds → (∀ Z' : AP, (∀ b, Z' b → Z b ∨ h₀.get? b = none) → (∀ b, Z' b → ∃ o, s.heap.get? b = some o) → Rp Z' h' v d) → (∀ b o, b ≠ I → s.heap.get? b = some o → h'.get? b = some o) → Q (some v) { s with heap := h', toks := tk }) → wpAny c.M A (pyNext (.ref I)) Q E s
  stop : ∀ (A : Around) (s : Shared) (Q : Option Value → Shared → Prop) (E : Value → Shared → Prop), A.handled = none → St s.heap [] →
    (∀ h' tk, (∀ b o, b ≠ I → s.heap.get? b = some o → h'.get? b = some o) → Q none { s with heap := h', toks := tk }) → wpAny c.M A (pyNext (.ref I)) Q E s
  self : ∀ (A : Around) (s : Shared) ds (Q : Value → Shared → Prop) (E : Value → Shared → Prop), St s.heap ds → Q (.ref I) s → wpAny c.M A (pyIter (.ref I)) Q E s
  go : ∀ (A : Around) (s : Shared) ds t v (Q : Unit → Shared → Prop) (E : Value → Shared → Prop), St s.heap ds →
    (∀ h', St h' ds → (∀ b o, b ≠ I → s.heap.get? b = some o → h'.get? b = some o) → Q () { s with heap := h' }) → wpAny c.M A (letOwnedTupleGo t (.ref I) v) Q E s

theorem Iter.stay {c : Cx} {all : Bool} {Z : AP} {h₀ : Heap} {I : Addr} {fp : List Addr} {St : Heap → List PyData → Prop} (it : Iter c Z h₀ I fp St) {h h' : Heap} {ds : List PyData} (st : St h ds) {env : Env} {σ : Option Ac} (O : Old c h) (hL : ∃ m, h.Ns env.locals m)
    (hC : ∀ x a, env.cells.lookup x = some a → ∃ u, h.IsCell a u) (hσ : ∀ a, σ = some a → a.addr ∉ fp) (hA : ∀ a, σ = some a → ∃ Z', AccAt Z' h a) (k : Kp (Tb (ownM all env (Xs σ))) h h') (dt : Dat h₀ h') : St h' ds := by
  refine it.frame h h' ds st (fun b hb o e => ?_) dt
  obtain ⟨o₁, e₁, f1, f2, f3, f4⟩ := it.fix h ds st b hb
  rw [e] at e₁; cases e₁
  have hn : ¬ Tb (ownM all env (Xs σ)) b := by
    rintro (rfl | rfl | rfl | ⟨_, x, q⟩ | ⟨a, ea, rfl | rfl⟩)
    · obtain ⟨ps, _, _, q⟩ := O.t1
      rw [e] at q; cases q; exact f2 rfl
    · obtain ⟨ps, _, _, q⟩ := O.t2
      rw [e] at q; cases q; exact f2 rfl
    · obtain ⟨m, oL, es, ep, q, q2, _⟩ := hL
      rw [e] at q; cases q; exact f3 _ _ q2
    · obtain ⟨u, oc, q1, q2⟩ := hC x b q
      rw [e] at q1; cases q1; exact f4 _ q2
    · exact hσ a ea hb
    · obtain ⟨_, _, _, _, _, q, _⟩ := hA a ea
      rw [e] at q; cases q; exact f3 _ _ rfl
  obtain ⟨o', e', sm⟩ := k b o e hn
  rw [e', sm.eq f1]

/-- one new object, no frame's and no data's, is turned -/
theorem Old.but {c : Cx} {h h' : Heap} (O : Old c h) {i : Addr} {o : Obj} (ho : h.get? i = some o) (hi : 235 ≤ i) (k : ∀ b o, b ≠ i → h.get? b = some o → h'.get? b = some o) : Old c h' := by
  have lt : ∀ b, b < 235 → b ≠ i := fun b hb e => absurd hi (by rw [← e]; exact Nat.not_le.mpr hb)
  have tab : ∀ {cd P : Addr}, cd < 235 → P < 235 → Tab h cd P → Tab h' cd P := by
    rintro cd P h1 h2 ⟨ps, x, y⟩
    refine ⟨ps, isCode_at x (fun o => k _ o (lt _ h1)) (fun o => k _ o (lt _ h2)), ?_⟩
    obtain ⟨⟨o₁, vs, q1, q⟩, y2⟩ := y
    exact ⟨⟨o₁, vs, k _ _ (lt _ h1) q1, q⟩, k _ _ (lt _ h2) y2⟩
  exact ⟨fun b o e h1 h2 => k _ _ (lt b (c.size ▸ Heap.lt_size e)) (O.keep b o e h1 h2), tab (by decide) (by decide) O.t1, tab (by decide) (by decide) O.t2, fun P hP ps e => (O.ex P hP ps e).elim fun m q => ⟨m, k _ _ (lt P (by rcases hP with rfl | rfl <;> decide)) q⟩⟩

theorem dat_but {h h' : Heap} {i : Addr} {o : Obj} (ho : h.get? i = some o) (hf : FixI o) (k : ∀ b o, b ≠ i → h.get? b = some o → h'.get? b = some o) : Dat h h' := fun b o' e hc => k b o' (fun q => by
  subst q; rw [ho] at e; cases e
  obtain ⟨⟨vs, n, q⟩, _⟩ := hc
  exact hf.2.2 _ _ q) e

theorem In.but {c : Cx} {Z : AP} {n : Nat} {sc : Scope} {ρ : Loc} {σ : Option Ac} {A : Around} {env : Env} {s : Shared} (I : In c Z n sc ρ σ A env s) {i : Addr} {o : Obj} (ho : s.heap.get? i = some o) (hf : FixI o) (hi : 235 ≤ i) {h' : Heap} {tk : Tok}
    (k : ∀ b o, b ≠ i → s.heap.get? b = some o → h'.get? b = some o) (hz : ¬ Z i) : In c Z n sc ρ σ A env { s with heap := h', toks := tk } := by
  have O' := I.old.but ho hi k
  have D' := dat_but ho hf k
  have ns : ∀ {L : Addr} {m : Str → Option Value}, s.heap.Ns L m → h'.Ns L m := by
    intro L m x
    refine ns_at x fun oL eL => k _ _ (fun q => ?_) eL
    obtain ⟨o', es, ep, ho', hd, _⟩ := x
    rw [q, ho] at ho'; cases ho'
    exact hf.1.2.2.1 _ _ hd
  have cell : ∀ {L : Addr} {v : Option Value}, s.heap.IsCell L v → h'.IsCell L v := by
    rintro L v ⟨o', e1, e2⟩
    refine ⟨o', k _ _ (fun q => ?_) e1, e2⟩
    rw [q, ho] at e1; cases e1
    exact hf.1.2.2.2 _ e2
  refine ⟨O', I.gens, fun b z => ?_, room_mono I.room fun b o' e hc => ⟨o', k _ _ (fun q => ?_) e, .refl _⟩, I.scope, I.kind, I.gl, I.bi, fun a e => ⟨accAt_mono (I.acc a e).1 (fun o' e' => k _ _ (fun q => ?_) e') (fun o' e' => k _ _ (fun q => ?_) e') D', (I.acc a e).2⟩, ?_, I.cel, fun x a e => ?_, I.inj, I.newL, ?_, I.newC⟩
  · obtain ⟨o', e⟩ := I.zal b z
    by_cases q : b = i
    · exact absurd (q ▸ z) hz
    · exact ⟨o', k _ _ q e⟩
  · subst q; rw [ho] at e; cases e; exact hf.1.1 hc
  · obtain ⟨dt, es, k', e1, _⟩ := (I.acc a e).1
    rw [q, ho] at e1; cases e1; exact hf.2.1 _ rfl
  · obtain ⟨dt, es, k', _, e2, _⟩ := (I.acc a e).1
    rw [q, ho] at e2; cases e2; exact hf.1.2.2.1 _ _ rfl
  · obtain ⟨m, hm, hr⟩ := I.loc
    refine ⟨m, ns hm, fun x v e => ?_⟩
    obtain ⟨u, r, b⟩ := hr x v e
    refine ⟨u, r.mono rfl D', ?_⟩
    rcases b with b | ⟨b1, a, b2, b3⟩
    · exact .inl b
    · exact .inr ⟨b1, a, b2, cell b3⟩
  · obtain ⟨u, z⟩ := I.cells x a e
    exact ⟨u, cell z⟩
  · obtain ⟨L, o', h2, h3, h4, h5, h6⟩ := I.fr
    exact ⟨L, o', h2, h3, k _ _ (fun q => by rw [q, ho] at h4; cases h4; exact hf.1.1 h5) h4, h5, h6⟩

theorem Stp.but {c : Cx} {X : AP} {s s' : Shared} (P : Stp c X s s') {i : Addr} {o : Obj} (hn : s.heap.get? i = none) (ho : s'.heap.get? i = some o) (hi : 235 ≤ i) {h' : Heap} {tk : Tok}
    (k : ∀ b o, b ≠ i → s'.heap.get? b = some o → h'.get? b = some o) : Stp c X s { s' with heap := h', toks := tk } := by
  have ne : ∀ {b : Addr} {o : Obj}, s.heap.get? b = some o → b ≠ i := fun e q => by rw [q, hn] at e; cases e
  exact ⟨fun b o e nb => let ⟨o', e', sm⟩ := P.kp b o e nb; ⟨o', k _ _ (ne e) e', sm⟩, fun b o e hc => k _ _ (ne e) (P.dat b o e hc), fun b o e => let ⟨o', e'⟩ := P.al b o e; ⟨o', k _ _ (ne e) e'⟩, P.old.but ho hi k, P.gens, P.os⟩
theorem PostM.but {c : Cx} {all : Bool} {env : Env} {σ σ' : Option Ac} {s s' : Shared} (P : PostM c all env σ σ' s s') {i : Addr} {o : Obj} (hn : s.heap.get? i = none) (ho : s'.heap.get? i = some o) (hi : 235 ≤ i) {h' : Heap} {tk : Tok}
    (k : ∀ b o, b ≠ i → s'.heap.get? b = some o → h'.get? b = some o) : PostM c all env σ σ' s { s' with heap := h', toks := tk } := ⟨P.stp.but hn ho hi k, P.adr⟩

theorem Old.new {c : Cx} {h : Heap} (O : Old c h) {i : Addr} (hsz : h.objs.size ≤ i) : 235 ≤ i := by
  obtain ⟨o, e⟩ := c.top
  exact Nat.le_trans (Heap.lt_size (O.keep _ o e (by decide) (by decide))) hsz
theorem none_of {h : Heap} {i : Addr} (hsz : h.objs.size ≤ i) : h.get? i = none := by
  cases q : h.get? i with
  | none => rfl
  | some o => exact absurd (Heap.lt_size q) (Nat.not_lt.mpr hsz)

/-- a target is bound -/
noncomputable def AsgM (all : Bool) (c : Cx) (n : Nat) (sc : Scope) (ρ : Loc) (σ : Option Ac) (t : Expr) (d : PyData) (ρ' : Loc) : Prop :=
  ∀ Z A env s v, In c Z n sc ρ σ A env s → Rp Z s.heap v d → wpAny c.M A (assign t env v) (fun _ s' => In c Z n sc ρ' σ A env s' ∧ PostM c all env σ σ s s') NoE s
abbrev Asg := AsgM true
theorem AsgM.name {all : Bool} {c : Cx} {n : Nat} {sc : Scope} {ρ : Loc} {σ : Option Ac} {x : Str} {pos : Pos} {d : PyData} (hx : StoM all sc x) : AsgM all c n sc ρ σ (.Name x pos) d ((x, .d d) :: ρ) := fun Z A env s v I r =>
  wpAny_assign_Name (I.store hx (v := .d d) r fun _ I' P => ⟨I', P⟩)

/-- what a loop goes over -/
noncomputable def Src (c : Cx) (n : Nat) (sc : Scope) (ρ : Loc) (σ : Option Ac) (e : Expr) (ds : List PyData) : Prop :=
  ∀ (Z : AP) (A : Around) (env : Env) (s : Shared) (Q : Value → Shared → Prop) (E : Value → Shared → Prop), In c Z n sc ρ σ A env s →
    (∀ I fp St s', Iter c Z s'.heap I fp St → St s'.heap ds → Post c Z σ σ s s' → (∀ a, σ = some a → a.addr ∉ fp) → s.heap.get? I = none → 235 ≤ I → Q (.ref I) s') → wpAny c.M A (eval e env) (fun xv s₁ => wpAny c.M A (pyIter xv) Q E s₁) E s

theorem In.ns {c : Cx} {Z : AP} {n : Nat} {sc : Scope} {ρ : Loc} {σ : Option Ac} {A : Around} {env : Env} {s : Shared} (I : In c Z n sc ρ σ A env s) : ∃ m, s.heap.Ns env.locals m := let ⟨m, h, _⟩ := I.loc; ⟨m, h⟩

theorem adr_off {σ σ₁ : Option Ac} {fp : List Addr} (e : σ₁.map (fun a => (a.addr, a.dict, a.cls)) = σ.map fun a => (a.addr, a.dict, a.cls)) (h : ∀ a, σ = some a → a.addr ∉ fp) : ∀ a, σ₁ = some a → a.addr ∉ fp := fun a q => by
  rw [q] at e
  cases σ with
  | none => simp at e
  | some a' => simp at e; rw [e.1]; exact h a' rfl

theorem S1.loop {c : Cx} {n : Nat} {sc : Scope} {ρ : Loc} {σ : Option Ac} {Q : QT} {target iter : Expr} {body : List Stmt} {pos : Pos} {ds : List PyData} (hsrc : Src c n sc ρ σ iter ds) (J : List PyData → List PyData → Loc → Option Ac → Prop) (h0 : J [] ds ρ σ)
    (turn : ∀ pre d todo ρ₁ σ₁, pre ++ d :: todo = ds → J pre (d :: todo) ρ₁ σ₁ → ∃ ρ₂, Asg c n sc ρ₁ σ₁ target d ρ₂ ∧
      Ss c n sc ρ₂ σ₁ body (fun o ρ₃ σ₃ => match o with | .next | .cont => ∃ ρ₄, Le ρ₄ ρ₃ ∧ J (pre ++ [d]) todo ρ₄ σ₃ | .brk => Q .next ρ₃ σ₃ | .ret v => Q (.ret v) ρ₃ σ₃))
    (done : ∀ ρ₁ σ₁, J ds [] ρ₁ σ₁ → Q .next ρ₁ σ₁) (hs : ∀ x env, foldedSetIterable iter env x = pure x := by intro _ _; rfl) : S1 c n sc ρ σ (.For target iter body [] pos) Q := fun Z A env s I => by
  refine wpAny_For (hsrc Z A env s _ _ I fun It fp St s₂ it st P₂ hσ hn hi => ?_) (fun x => hs x env)
  have hh := I.room.hd
  refine codeAny_forLoop_any (fun k s' => ∃ pre todo ρ₁ σ₁, todo.length = k ∧ pre ++ todo = ds ∧ J pre todo ρ₁ σ₁ ∧ In c Z n sc ρ₁ σ₁ A env s' ∧ PostF c env σ σ₁ s s' ∧ St s'.heap todo ∧ Dat s₂.heap s'.heap)
    (fun k s' ⟨pre, todo, ρ₁, σ₁, hk, hds, hJ, I', P, st', dt⟩ => ?_) ds.length ⟨[], ds, ρ, σ, rfl, rfl, h0, I.post P₂, P₂.toF, st, .refl _⟩
  have hσ₁ := adr_off P.adr hσ
  have hz : ¬ Z It := fun z => (I.zal _ z).elim fun o e => by rw [hn] at e; cases e
  cases todo with
  | nil =>
    refine it.stop A s' _ _ hh st' fun h' tk kp => ?_
    obtain ⟨oI, eI, fI⟩ := it.fixI _ _ st'
    simp only [List.append_nil] at hds
    subst hds
    exact wpAny_execs_nil ⟨.next, ρ₁, σ₁, done _ _ hJ, I'.but eI fI hi kp hz, P.but hn eI hi kp, trivial⟩
  | cons d todo =>
    refine it.next A s' _ _ _ _ hh st' dt fun v h₁ tk₁ st₁ r₁ k₁ => ?_
    obtain ⟨oI, eI, fI⟩ := it.fixI _ _ st'
    have I₁ : In c Z n sc ρ₁ σ₁ A env { s' with heap := h₁, toks := tk₁ } := I'.but eI fI hi k₁ hz
    have P₁ : PostF c env σ σ₁ s { s' with heap := h₁, toks := tk₁ } := P.but hn eI hi k₁
    have d₁ := dat_but eI fI k₁
    obtain ⟨oI₁, eI₁, fI₁⟩ := it.fixI _ _ st₁
    refine it.go A { s' with heap := h₁, toks := tk₁ } _ _ _ _ _ st₁ fun h₂ st₂ k₂ => ?_
    have I₂ : In c Z n sc ρ₁ σ₁ A env { s' with heap := h₂, toks := tk₁ } := I₁.but eI₁ fI₁ hi k₂ hz
    have P₂' : PostF c env σ σ₁ s { s' with heap := h₂, toks := tk₁ } := P₁.but hn eI₁ hi k₂
    have d₂ := dat_but eI₁ fI₁ k₂
    obtain ⟨ρ₂, ha, hb⟩ := turn pre d todo ρ₁ σ₁ hds hJ
    refine wp_mono (ha Z A env _ v I₂ ((r₁ Z (fun b z => .inl z) I'.zal).step d₂)) fun _ s₃ ⟨I₃, P₃⟩ => ?_
    refine wp_mono (hb Z A env s₃ I₃) fun f s₄ ⟨o, ρ₃, σ₃, q, I₄, P₄, F⟩ => ?_
    have P₅ := (P₂'.trans P₃).trans P₄
    have st₃ : St s₃.heap todo := it.stay st₂ I₂.old I₂.ns I₂.cells hσ₁ (fun a e => ⟨_, (I₂.acc a e).1⟩) P₃.stp.kp (((dt.trans d₁).trans d₂).trans P₃.stp.dat)
    have dt₄ := (((dt.trans d₁).trans d₂).trans P₃.stp.dat).trans P₄.stp.dat
    have st₄ : St s₄.heap todo := it.stay st₃ I₃.old I₃.ns I₃.cells hσ₁ (fun a e => ⟨_, (I₃.acc a e).1⟩) P₄.stp.kp dt₄
    have hk' : todo.length < k := by rw [← hk]; exact Nat.lt_succ_self _
    cases f <;> cases o <;> first | exact F.elim | skip
    · obtain ⟨ρ₄, hsub, hJ'⟩ := q
      exact ⟨_, hk', pre ++ [d], todo, ρ₄, σ₃, rfl, by rw [← hds]; simp, hJ', I₄.weak hsub, P₅, st₄, dt₄⟩
    · exact ⟨.next, ρ₃, σ₃, q, I₄, P₅, trivial⟩
    · obtain ⟨ρ₄, hsub, hJ'⟩ := q
      exact ⟨_, hk', pre ++ [d], todo, ρ₄, σ₃, rfl, by rw [← hds]; simp, hJ', I₄.weak hsub, P₅, st₄, dt₄⟩
    · exact ⟨.ret _, ρ₃, σ₃, q, I₄, P₅, F⟩
theorem Ss.loop {c : Cx} {n : Nat} {sc : Scope} {ρ : Loc} {σ : Option Ac} {Q : QT} {target iter : Expr} {body rest : List Stmt} {pos : Pos} {ds : List PyData} (hsrc : Src c n sc ρ σ iter ds) (J : List PyData → List PyData → Loc → Option Ac → Prop) (h0 : J [] ds ρ σ)
    (turn : ∀ pre d todo ρ₁ σ₁, pre ++ d :: todo = ds → J pre (d :: todo) ρ₁ σ₁ → ∃ ρ₂, Asg c n sc ρ₁ σ₁ target d ρ₂ ∧
      Ss c n sc ρ₂ σ₁ body (fun o ρ₃ σ₃ => match o with | .next | .cont => ∃ ρ₄, Le ρ₄ ρ₃ ∧ J (pre ++ [d]) todo ρ₄ σ₃ | .brk => False | .ret v => Q (.ret v) ρ₃ σ₃))
    (done : ∀ ρ₁ σ₁, J ds [] ρ₁ σ₁ → Ss c n sc ρ₁ σ₁ rest Q) (hs : ∀ x env, foldedSetIterable iter env x = pure x := by intro _ _; rfl) : Ss c n sc ρ σ (.For target iter body [] pos :: rest) Q :=
  .cons (Q' := fun o ρ₁ σ₁ => match o with | .next => Ss c n sc ρ₁ σ₁ rest Q | o => Q o ρ₁ σ₁) (.loop hsrc J h0 (fun pre d todo ρ₁ σ₁ e hJ => by
    obtain ⟨ρ₂, ha, hb⟩ := turn pre d todo ρ₁ σ₁ e hJ
    exact ⟨ρ₂, ha, hb.mono fun o ρ₃ σ₃ q => by cases o <;> first | exact q | exact q.elim⟩) done hs) (fun _ _ q => q) fun o _ _ ne q => by cases o <;> first | exact absurd rfl ne | exact q
end Mine
end

section
open PySem PySem.W PyProof.Rows PySem.Calls PySem.Spec
set_option Elab.async false
set_option linter.unusedVariables false
set_option maxRecDepth 100000
namespace Mine

theorem letGo_plain {M : Model} {A : Around} {s : Shared} {I : Addr} {o : Obj} {nm : String} {t : Expr} {v : Value} {Q : Unit → Shared → Prop} {E : Value → Shared → Prop} (ho : s.heap.get? I = some o) (hc : o.cls = .type nm)
    (hn : ["enumerate", "zip", "dict_itemiterator", "dict_reverseitemiterator", "odict_iterator", "itertools.zip_longest", "itertools.pairwise"].contains nm = false) (h : Q () s) : wpAny M A (letOwnedTupleGo t (.ref I) v) Q E s := by
  unfold letOwnedTupleGo
  split
  · cases v <;> first | exact wpAny_pure h | skip
    refine wpAny_bind (wpAny_load ho ?_)
    rw [hc]
    cases o.data <;> first | exact wpAny_pure h | skip
    dsimp only
    rw [hn]
    exact wpAny_pure h
  · cases v <;> first | exact wpAny_pure h | skip
    refine wpAny_bind (wpAny_load ho ?_)
    rw [hc]
    cases o.data <;> first | exact wpAny_pure h | skip
    dsimp only
    rw [hn]
    exact wpAny_pure h
  · exact wpAny_pure h

noncomputable def StL (Z : AP) (h₀ : Heap) (I l : Addr) (items : Array Value) (h : Heap) (ds : List PyData) : Prop := ∃ i, h.IsListIter I l i ∧ h.IsList l items ∧ Rps Z h₀ (items.toList.drop i) ds ∧ Dat h₀ h

theorem rps_head {Z : AP} {h : Heap} {items : Array Value} {i : Nat} {d : PyData} {ds : List PyData} (r : Rps Z h (items.toList.drop i) (d :: ds)) : ∃ v, items[i]? = some v ∧ Rp Z h v d ∧ Rps Z h (items.toList.drop (i + 1)) ds := by
  cases q : items.toList.drop i with
  | nil => rw [q] at r; cases r
  | cons v vs =>
    rw [q] at r
    cases r with
    | cons a b =>
      have h1 : items.toList[i]? = some v := by
        have : (items.toList.drop i)[0]? = some v := by rw [q]; rfl
        rwa [List.getElem?_drop, Nat.add_zero] at this
      have h2 : items.toList.drop (i + 1) = vs := by
        rw [← List.drop_drop, q]; rfl
      exact ⟨v, by rw [← Array.getElem?_toList]; exact h1, a, by rw [h2]; exact b⟩
theorem rps_nil {Z : AP} {h : Heap} {items : Array Value} {i : Nat} (r : Rps Z h (items.toList.drop i) []) : items[i]? = none := by
  cases q : items.toList.drop i with
  | nil =>
    rw [← Array.getElem?_toList]
    have := List.drop_eq_nil_iff.mp q
    exact List.getElem?_eq_none this
  | cons v vs => rw [q] at r; cases r

theorem iter_list {c : Cx} {Z : AP} {h₀ : Heap} {I l : Addr} {items : Array Value} (hIl : I ≠ l) : Iter c Z h₀ I [I, l] (StL Z h₀ I l items) where
  mem := .head _
  frame := fun h h' ds ⟨i, ⟨o, e, r⟩, ⟨ol, el, rl⟩, r', d⟩ k d' => ⟨i, ⟨o, k I (.head _) _ e, r⟩, ⟨ol, k l (.tail _ (.head _)) _ el, rl⟩, r', d'⟩
  fix := fun h ds ⟨i, ⟨o, e, hc, hd⟩, ⟨ol, el, hcl, nl, hdl⟩, _, _⟩ b hb => by
    rcases List.mem_cons.mp hb with rfl | hb
    · exact ⟨o, e, by rw [hc]; simp, by rw [hc]; simp, fun _ _ q => (by rw [hd] at q; cases q), fun _ q => (by rw [hd] at q; cases q)⟩
    · rw [List.mem_singleton.mp hb]
      exact ⟨ol, el, by rw [hcl]; simp, by rw [hcl]; simp, fun _ _ q => (by rw [hdl] at q; cases q), fun _ q => (by rw [hdl] at q; cases q)⟩
  fixI := fun h ds ⟨i, ⟨o, e, hc, hd⟩, _⟩ => ⟨o, e, ⟨by rw [hc]; simp, by rw [hc]; simp, fun _ _ q => (by rw [hd] at q; cases q), fun _ q => (by rw [hd] at q; cases q)⟩, by rw [hc]; simp, fun _ _ q => (by rw [hd] at q; cases q)⟩
  next := fun A s d ds Q E hh ⟨i, it, il, r, dt⟩ _ hQ => by
    obtain ⟨v, hv, rv, rs⟩ := rps_head r
    refine wpAny_pyNext_list_item it il hv fun h' it' hs => ?_
    have k : ∀ b o, b ≠ I → s.heap.get? b = some o → h'.get? b = some o := fun b o nb e => (hs.2 b nb).trans e
    obtain ⟨oI, eI, hcI, hdI⟩ := it
    have d' : Dat h₀ h' := fun b o e hc => k b o (fun q => by
      subst q
      have := dt _ _ e hc
      rw [eI] at this; cases this
      obtain ⟨⟨vs, m, q⟩, _⟩ := hc
      rw [hdI] at q; cases q) (dt b o e hc)
    refine hQ v h' _ ⟨i + 1, it', ?_, rs, d'⟩ (fun Z' hz _ => rv.dt (d'.new hz)) k
    obtain ⟨ol, el, rl⟩ := il
    exact ⟨ol, k l _ hIl.symm el, rl⟩
  stop := fun A s Q E hh ⟨i, it, il, r, dt⟩ hQ => wpAny_pyNext_list_end hh it il (rps_nil r) fun h' hx => hQ h' _ fun b o nb e => hx b o nb e
  self := fun A s ds Q E ⟨i, it, _⟩ h => wpAny_pyIter_listiter it h
  go := fun A s ds t v Q E ⟨i, ⟨o, e, hc, hd⟩, r⟩ h => letGo_plain e hc (by decide) (h _ ⟨i, ⟨o, e, hc, hd⟩, r⟩ fun _ _ _ e => e)

theorem Stp.fresh {c : Cx} {X : AP} {s s' : Shared} (P : Stp c X s s') {i : Addr} (h : s'.heap.get? i = none) : s.heap.get? i = none := by
  cases q : s.heap.get? i with
  | none => rfl
  | some o => obtain ⟨o', e⟩ := P.al i o q; rw [h] at e; cases e

theorem acc_ne {Z : AP} {h : Heap} {a : Ac} (x : AccAt Z h a) {l : Addr} {o : Obj} (e : h.get? l = some o) (hc : ∀ x, o.cls ≠ .ref x) : a.addr ≠ l := fun q => by
  obtain ⟨dt, es, k, e1, _⟩ := x
  rw [q, e] at e1; cases e1; exact hc _ rfl
theorem acc_old {Z : AP} {h : Heap} {a : Ac} (x : AccAt Z h a) {i : Addr} (e : h.get? i = none) : a.addr ≠ i := fun q => by
  obtain ⟨dt, es, k, e1, _⟩ := x
  rw [q, e] at e1; cases e1

theorem Post.push {c : Cx} {Z : AP} {σ σ' : Option Ac} {s s' : Shared} (P : Post c Z σ σ' s s') (o : Obj) {tk : Tok} : Post c Z σ σ' s { s' with heap := s'.heap.push o, toks := tk } :=
  P.trans (.heap P.stp.old P.stp.gens P.acc fun _ _ e => Heap.get?_push_of_some _ e)
theorem Post.upto {c : Cx} {Z : AP} {σ σ' : Option Ac} {s s' : Shared} (P : Post c Z σ σ' s s') {h' : Heap} {tk : Tok} (k : ∀ b o, s'.heap.get? b = some o → h'.get? b = some o) : Post c Z σ σ' s { s' with heap := h', toks := tk } :=
  P.trans (.heap P.stp.old P.stp.gens P.acc k)

theorem Src.list {c : Cx} {n : Nat} {sc : Scope} {ρ : Loc} {σ : Option Ac} {e : Expr} {ds : List PyData} (h : E1 c n sc ρ σ e (.list ds)) : Src c n sc ρ σ e ds := fun Z A env s Q E I k =>
  wp_mono (h Z A env s I) fun v s₁ ⟨P, r⟩ => by
    obtain ⟨l, vs, rfl, z, il, rs⟩ := r.list_inv
    obtain ⟨ol, el, hcl, nl, hdl⟩ := id il
    have hI : s₁.heap.get? s₁.heap.objs.size = none := none_of (Nat.le_refl _)
    refine wpAny_pyIter_list il (k _ [s₁.heap.objs.size, l] (StL Z _ _ l vs.toArray) { s₁ with heap := s₁.heap.push { cls := .type "list_iterator", data := .fields #[.ref l, .int 0 0] } } (iter_list (fun q => ?_))
      ⟨0, ⟨_, Heap.get?_push_size _ rfl, rfl, rfl⟩, il.push _, ?_, .refl _⟩ (P.push _) (fun a ea m => ?_) (P.stp.fresh hI) (P.stp.old.new (Nat.le_refl _)))
    · rw [← q, hI] at el; cases el
    · have : Rps Z s₁.heap (vs.toArray.toList.drop 0) ds := by simpa using rs
      exact this.step (.of_keep fun _ _ e => Heap.get?_push_of_some _ e)
    · rcases List.mem_cons.mp m with m | m
      · exact acc_old (P.acc a ea) hI m
      · exact acc_ne (P.acc a ea) el (by rw [hcl]; simp) (List.mem_singleton.mp m)


/-! a text's signs -/
noncomputable def signs (x : Str) : List PyData := x.cps.toList.map fun k => .str ⟨#[k]⟩
noncomputable def StS (I : Addr) (x : Str) (t : Tok) (h : Heap) (ds : List PyData) : Prop := ∃ i, h.IsStrIter I "str_ascii_iterator" x t i ∧ ds = (signs x).drop i
theorem iter_str {c : Cx} {Z : AP} {h₀ : Heap} {I : Addr} {x : Str} {t : Tok} : Iter c Z h₀ I [I] (StS I x t) where
  mem := .head _
  frame := fun h h' ds ⟨i, ⟨o, e, r⟩, q⟩ k _ => ⟨i, ⟨o, k I (.head _) _ e, r⟩, q⟩
  fix := fun h ds ⟨i, ⟨o, e, hc, hd⟩, _⟩ b hb => by
    rw [List.mem_singleton.mp hb]
    exact ⟨o, e, by rw [hc]; simp, by rw [hc]; simp, fun _ _ q => (by rw [hd] at q; cases q), fun _ q => (by rw [hd] at q; cases q)⟩
  fixI := fun h ds ⟨i, ⟨o, e, hc, hd⟩, _⟩ => ⟨o, e, ⟨by rw [hc]; simp, by rw [hc]; simp, fun _ _ q => (by rw [hd] at q; cases q), fun _ q => (by rw [hd] at q; cases q)⟩, by rw [hc]; simp, fun _ _ q => (by rw [hd] at q; cases q)⟩
  next := fun A s d ds Q E hh ⟨i, it, q⟩ _ hQ => by
    have h1 : (signs x)[i]? = some d := by
      have := congrArg (fun l => l[0]?) q
      simp only [List.getElem?_cons_zero, List.getElem?_drop, Nat.add_zero] at this
      exact this.symm
    have h2 : ds = (signs x).drop (i + 1) := by rw [← List.drop_drop, ← q]; rfl
    rw [signs, List.getElem?_map, Option.map_eq_some_iff] at h1
    obtain ⟨k, hk, rfl⟩ := h1
    refine wpAny_pyNext_ascii_item it (by rw [← Array.getElem?_toList]; exact hk) fun h' it' hs => ?_
    exact hQ _ h' _ ⟨i + 1, it', h2⟩ (fun _ _ _ => .str _ _) fun b o nb e => (hs.2 b nb).trans e
  stop := fun A s Q E hh ⟨i, it, q⟩ hQ => by
    have : x.cps[i]? = none := by
      have := List.drop_eq_nil_iff.mp q.symm
      rw [signs, List.length_map] at this
      rw [← Array.getElem?_toList]
      exact List.getElem?_eq_none this
    exact wpAny_pyNext_ascii_end hh it this fun h' hx => hQ h' _ fun b o nb e => hx b o nb e
  self := fun A s ds Q E ⟨i, it, _⟩ h => wpAny_pyIter_striter_ascii it h
  go := fun A s ds t v Q E ⟨i, ⟨o, e, hc, hd⟩, r⟩ h => letGo_plain e hc (by decide) (h _ ⟨i, ⟨o, e, hc, hd⟩, r⟩ fun _ _ _ e => e)
theorem Src.str {c : Cx} {n : Nat} {sc : Scope} {ρ : Loc} {σ : Option Ac} {e : Expr} {x : Str} (h : E1 c n sc ρ σ e (.str x)) (ha : x.cps.all (· < 128) = true) : Src c n sc ρ σ e (signs x) := fun Z A env s Q E I k =>
  wp_mono (h Z A env s I) fun v s₁ ⟨P, r⟩ => by
    obtain ⟨t, rfl⟩ := r.str_inv
    have hI : s₁.heap.get? s₁.heap.objs.size = none := none_of (Nat.le_refl _)
    refine wpAny_pyIter_ascii ha (k _ [s₁.heap.objs.size] (StS _ x t) { s₁ with heap := s₁.heap.push { cls := .type "str_ascii_iterator", data := .fields #[.str x t, .int 0 0] } } iter_str
      ⟨0, ⟨_, Heap.get?_push_size _ rfl, rfl, rfl⟩, rfl⟩ (P.push _) (fun a ea m => ?_) (P.stp.fresh hI) (P.stp.old.new (Nat.le_refl _)))
    exact acc_old (P.acc a ea) hI (List.mem_singleton.mp m)

/-! a range by ones -/
noncomputable def rngD (a : Int) (m : Nat) : List PyData := (List.range m).map fun (i : Nat) => .int (a + (i : Int))
theorem rngD_succ (a : Int) (m : Nat) : rngD a (m + 1) = .int a :: rngD (a + 1) m := by
  unfold rngD
  rw [List.range_succ_eq_map, List.map_cons, List.map_map]
  congr 1
  · simp
  · apply List.map_congr_left
    intro i _
    simp only [Function.comp]
    congr 1
    have : ((i.succ : Nat) : Int) = (i : Int) + 1 := by omega
    rw [this]; omega
noncomputable def StR (I : Addr) (h : Heap) (ds : List PyData) : Prop := ∃ (a : Int) (m : Nat), IsRangeIter h I a m 1 ∧ ds = rngD a m
theorem iter_range {c : Cx} {Z : AP} {h₀ : Heap} {I : Addr} : Iter c Z h₀ I [I] (StR I) where
  mem := .head _
  frame := fun h h' ds ⟨a, m, it, q⟩ k _ => ⟨a, m, k I (.head _) _ it, q⟩
  fix := fun h ds ⟨a, m, it, q⟩ b hb => by
    rw [List.mem_singleton.mp hb]
    exact ⟨_, it, by simp, by simp, fun _ _ q => (by cases q), fun _ q => (by cases q)⟩
  fixI := fun h ds ⟨a, m, it, q⟩ => ⟨_, it, ⟨by simp, by simp, fun _ _ q => (by cases q), fun _ q => (by cases q)⟩, by simp, fun _ _ q => (by cases q)⟩
  next := fun A s d ds Q E hh ⟨a, m, it, q⟩ _ hQ => by
    cases m with
    | zero => cases q
    | succ m =>
      rw [rngD_succ] at q
      cases q
      refine wpAny_pyNext_range_item it (by omega) fun h' it' hs => ?_
      have e : (((m + 1 : Nat) : Int) - 1) = (m : Int) := by omega
      rw [e] at it'
      exact hQ _ h' _ ⟨a + 1, m, it', rfl⟩ (fun _ _ _ => .int _ _) fun b o nb e => (hs.2 b nb).trans e
  stop := fun A s Q E hh ⟨a, m, it, q⟩ hQ => by
    cases m with
    | zero => exact wpAny_pyNext_range_end hh it (by simp) fun h' hx => hQ h' _ fun b o nb e => hx b o nb e
    | succ m => rw [rngD_succ] at q; cases q
  self := fun A s ds Q E ⟨a, m, it, _⟩ h => wpAny_pyIter_rangeiter it h
  go := fun A s ds t v Q E ⟨a, m, it, r⟩ h => letGo_plain it rfl (by decide) (h _ ⟨a, m, it, r⟩ fun _ _ _ e => e)

/-! several names at once -/
noncomputable def AsgL (all : Bool) (c : Cx) (n : Nat) (sc : Scope) (ρ : Loc) (σ : Option Ac) (ts : List Expr) (ds : List PyData) (ρ' : Loc) : Prop :=
  ∀ Z A env s vs, In c Z n sc ρ σ A env s → Rps Z s.heap vs ds → wpAny c.M A (assignInOrder ((assignEach ts env).map (·.2)) vs) (fun _ s' => In c Z n sc ρ' σ A env s' ∧ PostM c all env σ σ s s') NoE s
section
variable {all : Bool} {c : Cx} {n : Nat} {sc : Scope} {ρ ρ' : Loc} {σ : Option Ac}
theorem AsgL.nil : AsgL all c n sc ρ σ [] [] ρ := fun Z A env s vs I r => by
  cases r
  exact wpAny_assignInOrder_none ⟨I, .refl I⟩
theorem AsgL.cons {x : Str} {pos : Pos} {ts : List Expr} {d : PyData} {ds : List PyData} (hx : StoM all sc x) (h : AsgL all c n sc ((x, .d d) :: ρ) σ ts ds ρ') : AsgL all c n sc ρ σ (.Name x pos :: ts) (d :: ds) ρ' := fun Z A env s vs I r => by
  cases r with
  | cons a r =>
    refine wpAny_assignInOrder_more (wp_mono ((AsgM.name hx) Z A env s _ I a) fun _ s₁ ⟨I₁, P₁⟩ => ?_)
    exact wp_mono (h Z A env s₁ _ I₁ (r.step P₁.stp.dat)) fun _ s₂ ⟨I₂, P₂⟩ => ⟨I₂, P₁.trans P₂⟩
theorem AsgM.tuple {ts : List Expr} {ds : List PyData} {k : Nat} {pos : Pos} (h : AsgL all c n sc ρ σ ts ds ρ') (hlen : ts.length = ds.length := by rfl)
    (ht : ∀ env, (assignEach ts env).length = ts.length ∧ (assignEach ts env).findIdx? (·.1) = none := by intro _; exact ⟨rfl, rfl⟩) : AsgM all c n sc ρ σ (.Tuple ts k pos) (.tuple ds) ρ' := fun Z A env s v I r => by
  obtain ⟨a, vs, rfl, z, it, rs⟩ := r.tuple_inv
  refine wpAny_assign_Tuple I.room.hd it (by rw [(ht env).1, hlen, ← rs.length]; simp) (ht env).2 fun h' hx => ?_
  have k : ∀ b o, s.heap.get? b = some o → h'.get? b = some o := fun b o e => hx b o (Nat.ne_of_lt (Heap.lt_size e)) e
  have P : Post c Z σ σ s { s with heap := h' } := I.heap k
  have := wp_mono (E' := NoE) (h Z A env { s with heap := h' } vs (I.post P) (rs.step (.of_keep k))) fun _ s₂ (q : _ ∧ _) => (⟨q.1, P.toF.trans q.2⟩ : In c Z n sc ρ' σ A env s₂ ∧ PostM c all env σ σ s s₂)
  simpa using this
end
end Mine
end

section
open PySem PySem.W PyProof.Rows PySem.Calls PySem.Spec
set_option Elab.async false
set_option linter.unusedVariables false
set_option maxRecDepth 100000
namespace Mine

/-! ## comprehensions -/
theorem compLoop_any {c : Cx} {A : Around} {R : Result → Shared → Prop} {s : Shared} {elt target iter : Expr} {ifs : List Expr} {scope : Scope} {pos : Pos} {it acc : Value} {env : Env} (I : Nat → Shared → Prop)
    (turn : ∀ k s, I k s → wpAny c.M A (pyNext it) (fun r s₁ => match r with
      | none => R (.ok .next) s₁
      | some v => wpAny c.M A (letOwnedTupleGo target it v) (fun _ s₁' => wpAny c.M A (assign target env v) (fun _ s₂ =>
          wpAny c.M A (forIn ifs true fun c r => if r = true then do let ok ← isTrue c env (eval c env); pure (ForInStep.yield ok) else pure (ForInStep.yield r)) (fun ok s₃ =>
            if ok = true then wpAny c.M A (eval elt env) (fun x s₄ => wpAny c.M A (call (.builtin "list.append") [acc, x]) (fun _ s₅ => ∃ m, m < k ∧ I m s₅) NoE s₄) NoE s₃
            else ∃ m, m < k ∧ I m s₃) NoE s₂) NoE s₁') NoE s₁) NoE s)
    (k : Nat) (h : I k s) : codeAny c.M A (.compLoop (.ListComp elt [⟨target, iter, ifs, 0⟩] scope pos) 0 it acc env) R s := by
  refine codeAny_loop rfl I (fun k s hI => ?_) k h
  show wpAny _ _ ((compTurn (.ListComp elt [⟨target, iter, ifs, 0⟩] scope pos) 0 it acc env).onRaise (fun x => do noteFrame x env; theTreesLotGoes x)) _ _ s
  refine wpAny_noted ?_
  rw [compTurn_list]
  refine wpAny_bind (wpAny_standAt (wpAny_bind (wp_mono (turn k s hI) fun r s₁ h₁ => ?_)))
  cases r with
  | none => exact wpAny_pure h₁
  | some v =>
    refine wpAny_bind (wp_mono h₁ fun _ s₁' h₁' => wpAny_bind (wp_mono h₁' fun _ s₂ h₂ => wpAny_bind (wp_mono h₂ fun ok s₃ h₃ => ?_)))
    cases ok with
    | false => exact wpAny_pure ⟨rfl, h₃⟩
    | true => exact wpAny_bind (wpAny_bind (wp_mono h₃ fun x s₄ h₄ => wpAny_bind (wp_mono h₄ fun _ s₅ h₅ => wpAny_pure (wpAny_pure ⟨rfl, h₅⟩))))

/-- the cells that a comprehension is handed -/
noncomputable def clo (env : Env) : List (Str × NameKind) → List (Str × Addr) → List (Str × Addr)
  | [], cs => cs
  | (x, k) :: r, cs => clo env r (if k == .free then (x, (env.cells.lookup x).getD 0) :: cs else cs)
theorem clo_forIn {env : Env} : ∀ (ns : List (Str × NameKind)) (cs : List (Str × Addr)), (∀ y ∈ ns, y.2 = .free → ∃ a, env.cells.lookup y.1 = some a) →
    (forIn ns cs (fun (y : Str × NameKind) (cs : List (Str × Addr)) => (match y with
      | (name, kind) => if (kind == NameKind.free) = true then (do let a ← cellOf env name; pure (ForInStep.yield ((name, a) :: cs))) else pure (ForInStep.yield cs) : Sem (ForInStep (List (Str × Addr))))) : Sem (List (Str × Addr))) = pure (clo env ns cs)
  | [], cs, _ => rfl
  | (x, k) :: r, cs, hf => by
    have ih' := clo_forIn (env := env) r
    rw [List.forIn_cons]
    by_cases hk : k = .free
    · subst hk
      obtain ⟨a, ea⟩ := hf _ (.head _) rfl
      have e1 : cellOf env x = pure a := by unfold cellOf; rw [ea]
      simp only [e1, clo, ea]
      exact ih' _ fun z hz => hf z (.tail _ hz)
    · have hk' : (k == NameKind.free) = false := by cases k <;> first | rfl | exact absurd rfl hk
      simp only [hk', clo]
      exact ih' _ fun z hz => hf z (.tail _ hz)
theorem closure_is {scope : Scope} {env : Env} (hf : ∀ y ∈ scope.names, y.2 = .free → ∃ a, env.cells.lookup y.1 = some a) : closureFor scope env = pure (clo env scope.names []) := by
  have e := clo_forIn scope.names [] hf
  unfold closureFor
  exact (congrArg (fun t => t >>= fun cs => pure cs) e).trans rfl
theorem clo_mem {env : Env} : ∀ {ns : List (Str × NameKind)} {cs : List (Str × Addr)}, (∀ y ∈ ns, y.2 = .free → ∃ a, env.cells.lookup y.1 = some a) → (∀ p ∈ cs, env.cells.lookup p.1 = some p.2) → ∀ p ∈ clo env ns cs, env.cells.lookup p.1 = some p.2
  | [], _, _, h, p, m => h p m
  | (x, k) :: r, cs, hf, h, p, m => by
    refine clo_mem (ns := r) (fun y hy => hf y (.tail _ hy)) (fun q hq => ?_) p m
    by_cases hk : k = .free
    · subst hk
      obtain ⟨a, ea⟩ := hf _ (.head _) rfl
      simp only [beq_self_eq_true, if_true] at hq
      rcases List.mem_cons.mp hq with rfl | hq
      · rw [ea]; rfl
      · exact h q hq
    · have hk' : (k == NameKind.free) = false := by cases k <;> first | rfl | exact absurd rfl hk
      rw [hk'] at hq
      exact h q hq
theorem clo_keeps {env : Env} : ∀ {ns : List (Str × NameKind)} {cs : List (Str × Addr)} {p : Str × Addr}, p ∈ cs → p ∈ clo env ns cs
  | [], _, _, h => h
  | (x, k) :: r, cs, p, h => clo_keeps (ns := r) (by split; exact .tail _ h; exact h)
theorem clo_has {env : Env} : ∀ {ns : List (Str × NameKind)} {cs : List (Str × Addr)} {x : Str}, (x, NameKind.free) ∈ ns → ∃ a, (x, a) ∈ clo env ns cs
  | (y, k) :: r, cs, x, h => by
    rcases List.mem_cons.mp h with e | h
    · cases e
      exact ⟨_, clo_keeps (ns := r) (.head _)⟩
    · exact clo_has (ns := r) h
theorem lookup_isSome {α β : Type} [BEq α] [LawfulBEq α] {l : List (α × β)} {x : α} {b : β} (m : (x, b) ∈ l) : ∃ b', l.lookup x = some b' := by
  induction l with
  | nil => cases m
  | cons p r ih =>
    obtain ⟨y, q⟩ := p
    rw [List.lookup_cons]
    split
    · exact ⟨_, rfl⟩
    · rename_i hb
      rcases List.mem_cons.mp m with e | m
      · cases e; simp at hb
      · exact ih m

noncomputable def relab (csc sc : Scope) : Scope := { csc with names := csc.names.map fun (n, k) => if (k == .free && sc.kind == .function && sc.names.lookup n == some .cell) then (n, .cell) else (n, k) }
theorem relabel_is {csc sc : Scope} {env : Env} (h : env.scope = sc) : relabel csc env = relab csc sc := by subst h; rfl
theorem lookup_map2 {g : Str → NameKind → NameKind} {x : Str} : ∀ (ns : List (Str × NameKind)), (ns.map fun p => (p.1, g p.1 p.2)).lookup x = (ns.lookup x).map (g x)
  | [] => rfl
  | (y, k) :: r => by
    have ih := lookup_map2 (g := g) (x := x) r
    rw [List.map_cons, List.lookup_cons, List.lookup_cons]
    by_cases h : x = y
    · subst h; simp
    · have hb : (x == y) = false := beq_false_of_ne h
      simp only [hb]
      exact ih
theorem relab_lookup {csc sc : Scope} {x : Str} : (relab csc sc).names.lookup x = (csc.names.lookup x).map fun k => if (k == .free && sc.kind == .function && sc.names.lookup x == some .cell) then .cell else k := by
  have e : (relab csc sc).names = csc.names.map fun p => (p.1, if (p.2 == .free && sc.kind == .function && sc.names.lookup p.1 == some .cell) then .cell else p.2) := by
    unfold relab
    dsimp only
    apply List.map_congr_left
    intro p _
    split <;> rfl
  rw [e]
  exact lookup_map2 (g := fun x k => if (k == .free && sc.kind == .function && sc.names.lookup x == some .cell) then .cell else k) csc.names

/-- what a comprehension's block may read of the frame's -/
noncomputable def Cap (csc : Scope) : Loc → Loc → Prop
  | [], _ => True
  | (x, v) :: r, ρ => csc.names.lookup x = some .free ∧ ρ.lookup x = some v ∧ Cap csc r ρ
theorem Cap.look {csc : Scope} {ρi ρ : Loc} (h : Cap csc ρi ρ) : ∀ x v, ρi.lookup x = some v → csc.names.lookup x = some .free ∧ ρ.lookup x = some v := by
  induction ρi with
  | nil => intro x v e; cases e
  | cons p r ih =>
    obtain ⟨y, w⟩ := p
    intro x v e
    rw [lookup_upd] at e
    split at e
    · rename_i q; cases e; subst q; exact ⟨h.1, h.2.1⟩
    · exact ih h.2.2 x v e

/-- the scope of a comprehension is a plain one -/
structure CompOk (csc sc : Scope) : Prop where
  kind : csc.kind = .function
  noCell : ∀ y ∈ csc.names, y.2 ≠ .cell
  names : ∀ y ∈ csc.names, y.2 = .local → csc.names.lookup y.1 = some .local
  free : ∀ y ∈ csc.names, y.2 = .free → isCellK sc y.1
noncomputable def compOkB (csc sc : Scope) : Bool := csc.kind == .function && csc.names.all fun y => y.2 != .cell && (y.2 != .local || csc.names.lookup y.1 == some .local) && (y.2 != .free || sc.names.lookup y.1 == some .cell || sc.names.lookup y.1 == some .free)
theorem CompOk.of {csc sc : Scope} (h : compOkB csc sc = true) : CompOk csc sc := by
  obtain ⟨h1, h2⟩ := Bool.and_eq_true_iff.mp h
  have h2 := List.all_eq_true.mp h2
  refine ⟨by simpa using h1, fun y hy => ?_, fun y hy e => ?_, fun y hy e => ?_⟩
  · have := h2 y hy; simp only [Bool.and_eq_true, bne_iff_ne, ne_eq] at this; exact this.1.1
  · have := h2 y hy; simp only [Bool.and_eq_true] at this; have := this.1.2; rw [e] at this; simpa using this
  · have := h2 y hy; simp only [Bool.and_eq_true] at this; have := this.2; rw [e] at this
    simp only [bne_self_eq_false, Bool.false_or, Bool.or_eq_true, beq_iff_eq] at this
    exact this

noncomputable def cenvOf (csc : Scope) (env : Env) (C : Addr) : Env :=
  { scope := relabel csc env, locals := C, globals := env.globals, cells := clo env csc.names [], qual := env.qual, func := none, code := env.code, frame := env.frame, builtins := env.builtins }

/-- the block's own state, behind whatever the loop has turned -/
theorem In.inner {c : Cx} {Z Z' : AP} {n : Nat} {sc csc : Scope} {ρ ρi : Loc} {σ : Option Ac} {A : Around} {env : Env} {s s' : Shared} (I : In c Z n sc ρ σ A env s) (ok : CompOk csc sc) (hcap : Cap csc ρi ρ) (P : Post c Z' σ σ s s')
    (hz : ∀ b, Z' b → Z b ∨ s.heap.get? b = none) (hza : ∀ b, Z' b → ∃ o, s'.heap.get? b = some o) {C : Addr} {m' : Str → Option Value} (hm : s'.heap.Ns C m') (hC : s.heap.get? C = none) (hC2 : 235 ≤ C) :
    In c Z' n (relab csc sc) ρi σ A (cenvOf csc env C) s' := by
  have ha : ∀ a, σ = some a → AccAt Z s.heap a := fun a e => (I.acc a e).1
  have hf : ∀ y ∈ csc.names, y.2 = .free → ∃ a, env.cells.lookup y.1 = some a := fun y hy e => I.cel _ (ok.free y hy e)
  have sub : ∀ x a, (cenvOf csc env C).cells.lookup x = some a → env.cells.lookup x = some a := fun x a e => clo_mem (cs := []) hf (fun p hp => nomatch hp) _ (lookup_mem e)
  have freeOf : ∀ x, isCellK (relab csc sc) x → csc.names.lookup x = some .free := by
    intro x h
    unfold isCellK at h
    rw [relab_lookup] at h
    cases q : csc.names.lookup x with
    | none => rw [q] at h; simp at h
    | some k =>
      cases k with
      | free => rfl
      | cell => exact absurd rfl (ok.noCell _ (lookup_mem q))
      | _ => rw [q] at h; simp at h
  have has : ∀ x, csc.names.lookup x = some .free → ∃ a, (cenvOf csc env C).cells.lookup x = some a := fun x e => let ⟨_, m⟩ := clo_has (env := env) (cs := []) (lookup_mem e); lookup_isSome m
  refine ⟨P.stp.old, P.stp.gens, hza, room_kp I.old ha P.stp.kp I.room, relabel_is I.scope, ok.kind, I.gl, I.bi, fun a e => ⟨P.acc a e, fun q => ?_⟩, ⟨m', hm, fun x v e => ?_⟩, fun x h => has x (freeOf x h), fun x a e => ?_, fun x y a e1 e2 => I.inj x y a (sub _ _ e1) (sub _ _ e2), hC2, frame_kp (env := env) I.old ha P.stp.kp I.fr, fun x a h e => ?_⟩
  · obtain ⟨dt, es, k, _, e2, _⟩ := ha a e
    have q' : a.dict = C := q
    rw [q', hC] at e2; cases e2
  · obtain ⟨h1, h2⟩ := hcap.look x v e
    obtain ⟨m, _, hr⟩ := I.loc
    obtain ⟨u, r, b⟩ := hr x v h2
    have hk := ok.free _ (lookup_mem h1) rfl
    have hcell : ∃ a, env.cells.lookup x = some a ∧ s.heap.IsCell a (some u) := by
      rcases b with ⟨b1, _⟩ | ⟨_, a, b2, b3⟩
      · rcases hk with hk | hk <;> (simp only at hk; rw [b1] at hk; cases hk)
      · exact ⟨a, b2, b3⟩
    obtain ⟨a, e1, e2⟩ := hcell
    obtain ⟨a', e3⟩ := has x h1
    have : a' = a := by have := sub x a' e3; rw [e1] at this; cases this; rfl
    subst this
    refine ⟨u, ?_, .inr ⟨?_, a', e3, cell_kp I.old ha P.stp.kp e2⟩⟩
    · cases v with
      | d x' => exact Rp.dt (P.stp.dat.new hz) r
      | ac => exact r
    · unfold isCellK
      rw [relab_lookup, h1]
      simp only [Option.map_some]
      split
      · exact .inl rfl
      · exact .inr rfl
  · obtain ⟨u, i⟩ := I.cells x a (sub x a e)
    exact ⟨u, cell_kp I.old ha P.stp.kp i⟩
  · have h' : csc.names.lookup x = some .free := freeOf x (.inl h)
    rw [relab_lookup, h'] at h
    simp only [Option.map_some] at h
    split at h
    · rename_i q
      simp only [Bool.and_eq_true, beq_iff_eq] at q
      exact I.newC x a q.2 (sub x a e)
    · cases h


theorem AccAt.dt {Z Z' : AP} {h h' : Heap} {a : Ac} (x : AccAt Z h a) (k1 : ∀ o, h.get? a.addr = some o → h'.get? a.addr = some o) (k2 : ∀ o, h.get? a.dict = some o → h'.get? a.dict = some o) (k3 : Dt Z Z' h h') : AccAt Z' h' a := by
  obtain ⟨dt, es, k, e1, e2, b, r⟩ := x
  exact ⟨dt, es, k, k1 _ e1, k2 _ e2, b.imp (fun ⟨q, vs, n, e, rs⟩ => ⟨q, vs, n, e, Rps.dt k3 rs⟩) id, r.dt k3⟩
theorem AccAt.alive {Z : AP} {h : Heap} {a : Ac} (x : AccAt Z h a) : (∃ o, h.get? a.addr = some o) ∧ ∃ o, h.get? a.dict = some o := by
  obtain ⟨dt, es, k, e1, e2, _⟩ := x
  exact ⟨⟨_, e1⟩, ⟨_, e2⟩⟩

/-- a new object of Z is turned -/
theorem Post.but {c : Cx} {Z Z₀ : AP} {σ : Option Ac} {s s' : Shared} (ha : ∀ a, σ = some a → AccAt Z₀ s.heap a) (P : Post c Z σ σ s s') {i : Addr} {o : Obj} (hZ : Z i) (hn : s.heap.get? i = none) (ho : s'.heap.get? i = some o) (hi : 235 ≤ i) {h' : Heap} {tk : Tok}
    (k : ∀ b o, b ≠ i → s'.heap.get? b = some o → h'.get? b = some o) : Post c Z σ σ s { s' with heap := h', toks := tk } := by
  refine ⟨P.stp.but hn ho hi k, fun a e => ?_, P.adr⟩
  obtain ⟨⟨o1, e1⟩, o2, e2⟩ := (ha a e).alive
  exact (P.acc a e).dt (fun o => k _ _ fun q => by rw [q, hn] at e1; cases e1) (fun o => k _ _ fun q => by rw [q, hn] at e2; cases e2) fun b o z e' _ => ⟨z, k _ _ (fun q => z (q ▸ hZ)) e'⟩
theorem Post.wider {c : Cx} {Z Z' : AP} {σ σ' : Option Ac} {s s' : Shared} (P : Post c Z σ σ' s s') (h : ∀ b, Z' b → Z b) : Post c Z' σ σ' s s' :=
  ⟨P.stp, fun a e => (P.acc a e).dt (fun _ e => e) (fun _ e => e) fun b o z e' _ => ⟨fun q => z (h b q), e'⟩, P.adr⟩
/-- the block's own names are stored -/
theorem Post.block {c : Cx} {Z Z₀ : AP} {σ : Option Ac} {env : Env} {s s' s'' : Shared} (ha : ∀ a, σ = some a → AccAt Z₀ s.heap a) (P : Post c Z σ σ s s') (hn : s.heap.get? env.locals = none) (M : PostM c false env σ σ s' s'') (hacc : ∀ a, σ = some a → AccAt Z s''.heap a) : Post c Z σ σ s s'' := by
  refine ⟨⟨fun b o e nb => ?_, P.stp.dat.trans M.stp.dat, fun b o e => (P.stp.al b o e).elim fun o' e' => M.stp.al b o' e', M.stp.old, M.stp.gens, M.stp.os.trans P.stp.os⟩, hacc, rfl⟩
  obtain ⟨o', e', s1⟩ := P.stp.kp b o e nb
  obtain ⟨o'', e'', s2⟩ := M.stp.kp b o' e' (fun q => nb (q.imp id fun q => q.imp id fun q => by
    rcases q with q | ⟨q, _⟩ | q
    · rw [q, hn] at e; cases e
    · cases q
    · exact q))
  exact ⟨o'', e'', s1.trans s2⟩

noncomputable def Tests (c : Cx) (n : Nat) (sc : Scope) (ρ : Loc) (σ : Option Ac) (ifs : List Expr) (b : Bool) : Prop :=
  ∀ Z A env s, In c Z n sc ρ σ A env s → wpAny c.M A (forIn ifs true fun c r => if r = true then do let ok ← isTrue c env (eval c env); pure (ForInStep.yield ok) else pure (ForInStep.yield r)) (fun ok s' => ok = b ∧ Post c Z σ σ s s') NoE s
theorem Tests.nil {c : Cx} {n : Nat} {sc : Scope} {ρ : Loc} {σ : Option Ac} : Tests c n sc ρ σ [] true := fun Z A env s I => wpAny_tests_nil ⟨rfl, I.same⟩
theorem Tests.one {c : Cx} {n : Nat} {sc : Scope} {ρ : Loc} {σ : Option Ac} {t : Expr} {b : Bool} (h : EvB c n sc ρ σ t b σ) : Tests c n sc ρ σ [t] b := fun Z A env s I => wpAny_tests_one (h Z A env s I)

/-- one item of a comprehension -/
noncomputable def Item (c : Cx) (n : Nat) (sc : Scope) (ρi : Loc) (σ : Option Ac) (target : Expr) (ifs : List Expr) (elt : Expr) (d : PyData) (p : Bool) (r : PyData) : Prop :=
  ∃ ρ₂, AsgM false c n sc ρi σ target d ρ₂ ∧ Tests c n sc ρ₂ σ ifs p ∧ (p = true → E1 c n sc ρ₂ σ elt r)

/-! ## iterators that turn more than one object -/
structure IterM (c : Cx) (Z : AP) (h₀ : Heap) (t : Expr) (ch : List Addr) (I : Addr) (fp : List Addr) (St : Heap → List PyData → Prop) (Mid : Heap → Value → List PyData → Prop) : Prop where
  frame : ∀ h h' ds, St h ds → (∀ b ∈ fp, ∀ o, h.get? b = some o → h'.get? b = some o) → Dat h₀ h' → St h' ds
  fix : ∀ h ds, St h ds → ∀ b ∈ fp, ∃ o, h.get? b = some o ∧ Fix o
  fixI : ∀ h ds, St h ds → ∀ i ∈ ch, ∃ o, h.get? i = some o ∧ FixI o
  fixM : ∀ h v ds, Mid h v ds → ∀ i ∈ ch, ∃ o, h.get? i = some o ∧ FixI o
  next : ∀ (A : Around) (s : Shared) d ds (Q : Option Value → Shared → Prop) (E : Value → Shared → Prop), A.handled = none → St s.heap (d :: ds) → Dat h₀ s.heap →
    (∀ v h' tk, Mid h' v ds → (∀ Z' : AP, (∀ b, Z' b → Z b ∨ h₀.get? b = none) → (∀ b, Z' b → ∃ o, s.heap.get? b = some o) → Rp Z' h' v d) → (∀ b o, b ∉ ch → s.heap.get? b = some o → h'.get? b = some o) → Q (some v) { s with heap := h', toks := tk }) → wpAny c.M A (pyNext (.ref I)) Q E s
  stop : ∀ (A : Around) (s : Shared) (Q : Option Value → Shared → Prop) (E : Value → Shared → Prop), A.handled = none → St s.heap [] →
    (∀ h' tk, (∀ b o, b ∉ ch → s.heap.get? b = some o → h'.get? b = some o) → Q none { s with heap := h', toks := tk }) → wpAny c.M A (pyNext (.ref I)) Q E s
  self : ∀ (A : Around) (s : Shared) ds (Q : Value → Shared → Prop) (E : Value → Shared → Prop), St s.heap ds → Q (.ref I) s → wpAny c.M A (pyIter (.ref I)) Q E s
  go : ∀ (A : Around) (s : Shared) ds v (Q : Unit → Shared → Prop) (E : Value → Shared → Prop), Mid s.heap v ds → Dat h₀ s.heap →
    (∀ h', St h' ds → (∀ b o, b ∉ ch → s.heap.get? b = some o → h'.get? b = some o) → Q () { s with heap := h' }) → wpAny c.M A (letOwnedTupleGo t (.ref I) v) Q E s

theorem IterM.stay {c : Cx} {all : Bool} {Z : AP} {h₀ : Heap} {t : Expr} {ch : List Addr} {I : Addr} {fp : List Addr} {St : Heap → List PyData → Prop} {Mid : Heap → Value → List PyData → Prop} (it : IterM c Z h₀ t ch I fp St Mid) {h h' : Heap} {ds : List PyData} (st : St h ds) {env : Env} {σ : Option Ac} (O : Old c h) (hL : ∃ m, h.Ns env.locals m)
    (hC : ∀ x a, env.cells.lookup x = some a → ∃ u, h.IsCell a u) (hσ : ∀ a, σ = some a → a.addr ∉ fp) (hA : ∀ a, σ = some a → ∃ Z', AccAt Z' h a) (k : Kp (Tb (ownM all env (Xs σ))) h h') (dt : Dat h₀ h') : St h' ds := by
  refine it.frame h h' ds st (fun b hb o e => ?_) dt
  obtain ⟨o₁, e₁, f1, f2, f3, f4⟩ := it.fix h ds st b hb
  rw [e] at e₁; cases e₁
  have hn : ¬ Tb (ownM all env (Xs σ)) b := by
    rintro (rfl | rfl | rfl | ⟨_, x, q⟩ | ⟨a, ea, rfl | rfl⟩)
    · obtain ⟨ps, _, _, q⟩ := O.t1
      rw [e] at q; cases q; exact f2 rfl
    · obtain ⟨ps, _, _, q⟩ := O.t2
      rw [e] at q; cases q; exact f2 rfl
    · obtain ⟨m, oL, es, ep, q, q2, _⟩ := hL
      rw [e] at q; cases q; exact f3 _ _ q2
    · obtain ⟨u, oc, q1, q2⟩ := hC x b q
      rw [e] at q1; cases q1; exact f4 _ q2
    · exact hσ a ea hb
    · obtain ⟨_, _, _, _, _, q, _⟩ := hA a ea
      rw [e] at q; cases q; exact f3 _ _ rfl
  obtain ⟨o', e', sm⟩ := k b o e hn
  rw [e', sm.eq f1]

theorem Old.buts {c : Cx} {h h' : Heap} (O : Old c h) {ch : List Addr} (hi : ∀ i ∈ ch, 235 ≤ i) (k : ∀ b o, b ∉ ch → h.get? b = some o → h'.get? b = some o) : Old c h' := by
  have lt : ∀ b, b < 235 → b ∉ ch := fun b hb e => absurd (hi b e) (Nat.not_le.mpr hb)
  have tab : ∀ {cd P : Addr}, cd < 235 → P < 235 → Tab h cd P → Tab h' cd P := by
    rintro cd P h1 h2 ⟨ps, x, y⟩
    refine ⟨ps, isCode_at x (fun o => k _ o (lt _ h1)) (fun o => k _ o (lt _ h2)), ?_⟩
    obtain ⟨⟨o₁, vs, q1, q⟩, y2⟩ := y
    exact ⟨⟨o₁, vs, k _ _ (lt _ h1) q1, q⟩, k _ _ (lt _ h2) y2⟩
  exact ⟨fun b o e h1 h2 => k _ _ (lt b (c.size ▸ Heap.lt_size e)) (O.keep b o e h1 h2), tab (by decide) (by decide) O.t1, tab (by decide) (by decide) O.t2, fun P hP ps e => (O.ex P hP ps e).elim fun m q => ⟨m, k _ _ (lt P (by rcases hP with rfl | rfl <;> decide)) q⟩⟩
theorem dat_buts {h h' : Heap} {ch : List Addr} (hf : ∀ i ∈ ch, ∃ o, h.get? i = some o ∧ FixI o) (k : ∀ b o, b ∉ ch → h.get? b = some o → h'.get? b = some o) : Dat h h' := fun b o' e hc => k b o' (fun q => by
  obtain ⟨o, e', f⟩ := hf b q
  rw [e'] at e; cases e
  obtain ⟨⟨vs, n, q⟩, _⟩ := hc
  exact f.2.2 _ _ q) e
theorem Stp.buts {c : Cx} {X : AP} {s s' : Shared} (P : Stp c X s s') {ch : List Addr} (hn : ∀ i ∈ ch, s.heap.get? i = none) (hi : ∀ i ∈ ch, 235 ≤ i) {h' : Heap} {tk : Tok}
    (k : ∀ b o, b ∉ ch → s'.heap.get? b = some o → h'.get? b = some o) : Stp c X s { s' with heap := h', toks := tk } := by
  have ne : ∀ {b : Addr} {o : Obj}, s.heap.get? b = some o → b ∉ ch := fun e q => by rw [hn _ q] at e; cases e
  exact ⟨fun b o e nb => let ⟨o', e', sm⟩ := P.kp b o e nb; ⟨o', k _ _ (ne e) e', sm⟩, fun b o e hc => k _ _ (ne e) (P.dat b o e hc), fun b o e => let ⟨o', e'⟩ := P.al b o e; ⟨o', k _ _ (ne e) e'⟩, P.old.buts hi k, P.gens, P.os⟩

section
variable {α : Type} {c : Cx} {Z : AP} {n : Nat} {sc csc : Scope} {ρ ρi : Loc} {σ : Option Ac} {A : Around} {env : Env} {target iter elt : Expr} {ifs : List Expr} {pos : Pos}

theorem comp_runM {s s₂ : Shared} (I : In c Z n sc ρ σ A env s) (P₂ : Post c Z σ σ s s₂) (ok : CompOk csc sc) (hcap : Cap csc ρi ρ) {xs : List α} {enc : α → PyData} {p : α → Bool} {f : α → PyData}
    {ch : List Addr} {It : Addr} {fp : List Addr} {St : Heap → List PyData → Prop} {Mid : Heap → Value → List PyData → Prop} (it : IterM c Z s₂.heap target ch It fp St Mid) (st : St s₂.heap (xs.map enc)) (hσ : ∀ a, σ = some a → a.addr ∉ fp) (hn : ∀ i ∈ ch, s.heap.get? i = none) (hi : ∀ i ∈ ch, 235 ≤ i)
    (hitem : ∀ x ∈ xs, Item c n (relab csc sc) ρi σ target ifs elt (enc x) (p x) (f x)) (hlen : xs.length ≤ 1000000) {RR : Value → Addr → Result → Shared → Prop} {E : Value → Shared → Prop}
    (hRR : ∀ D C s', Post c Z σ σ s s' → Rp Z s'.heap (.ref D) (.list ((xs.filter p).map f)) → (∃ m, s'.heap.Ns C m) → s.heap.get? C = none → 235 ≤ C → RR (.ref D) C (.ok .next) s') :
    wpAny c.M A (newList []) (fun acc s₃ => wpAny c.M A (newFunctionEnv csc env.globals (clo env csc.names []) [] env.qual none .none (some env)) (fun cenv s₄ =>
      codeAny c.M A (.compStart (.ListComp elt [⟨target, iter, ifs, 0⟩] csc pos) 0 (.ref It) acc { cenv with scope := relabel csc env }) (RR acc cenv.locals) s₄) E s₃) E s₂ := by
  have ha : ∀ a, σ = some a → AccAt Z s.heap a := fun a e => (I.acc a e).1
  refine wpAny_newObj_type (wpAny_newFunctionEnv ok.noCell (by intro y hy; simp at hy) (fun h₁ hns₁ hsb₁ => ?_) ok.kind)
  dsimp only at hns₁ hsb₁ ⊢
  generalize hH2 : s₂.heap.push { cls := .type "list", dict := none, data := .seq ([] : List Value).toArray } = H2 at hns₁ hsb₁ ⊢
  have hsz : H2.objs.size = s₂.heap.objs.size + 1 := by rw [← hH2, Heap.size_push]
  generalize hD : s₂.heap.objs.size = D at hsz
  generalize hC : H2.objs.size = C at hsz hns₁ hsb₁
  have hDn : s₂.heap.get? D = none := none_of (by rw [hD]; exact Nat.le_refl _)
  have hCn : s₂.heap.get? C = none := none_of (by rw [hD, hsz]; exact Nat.le_succ _)
  have hDC : D ≠ C := by omega
  have old : ∀ b o, s₂.heap.get? b = some o → h₁.get? b = some o := fun b o e => hsb₁.extBut b o (fun q => by rw [q, hCn] at e; cases e) (Heap.get?_push_of_some _ (hH2 ▸ Heap.get?_push_of_some _ e))
  have hacc : h₁.PlainList D #[] := ⟨_, hsb₁.extBut _ _ hDC (Heap.get?_push_of_some _ (hH2 ▸ hD ▸ Heap.get?_push_size _ rfl))⟩
  have hDs : s.heap.get? D = none := P₂.stp.fresh hDn
  have hCs : s.heap.get? C = none := P₂.stp.fresh hCn
  have hD2 : 235 ≤ D := P₂.stp.old.new (by rw [hD]; exact Nat.le_refl _)
  have hC2 : 235 ≤ C := Nat.le_trans hD2 (by omega)
  -- what the block may not reach
  let ZD : AP := fun b => Z b ∨ b = D ∨ b = C
  have hz : ∀ b, ZD b → Z b ∨ s.heap.get? b = none := fun b q => q.imp id fun q => by rcases q with rfl | rfl; exact hDs; exact hCs
  have hz₂ : ∀ b, ZD b → Z b ∨ s₂.heap.get? b = none := fun b q => q.imp id fun q => by rcases q with rfl | rfl; exact hDn; exact hCn
  have hnD : D ∉ ch := fun m => by
    obtain ⟨o, e, _⟩ := it.fixI _ _ st D m
    rw [hDn] at e; cases e
  have hnC : C ∉ ch := fun m => by
    obtain ⟨o, e, _⟩ := it.fixI _ _ st C m
    rw [hCn] at e; cases e
  have hfp : ∀ b ∈ fp, b ≠ D ∧ b ≠ C := fun b hb => by
    obtain ⟨o, e, _⟩ := it.fix _ _ st b hb
    exact ⟨fun q => (by rw [q, hDn] at e; cases e), fun q => (by rw [q, hCn] at e; cases e)⟩
  have hzal : ∀ {s' : Shared}, Post c ZD σ σ s s' → (∃ o, s'.heap.get? D = some o) → (∃ m, s'.heap.Ns C m) → ∀ b, ZD b → ∃ o, s'.heap.get? b = some o := by
    intro s' P hd ⟨m, oc, _, _, ec, _⟩ b q
    rcases q with q | rfl | rfl
    · obtain ⟨o, e⟩ := I.zal b q; exact P.stp.al b o e
    · exact hd
    · exact ⟨oc, ec⟩
  have P₁ : Post c ZD σ σ s { s₂ with heap := h₁, toks := s₂.toks + ([] : List (Str × Value)).length } :=
    ⟨(P₂.upto old).stp, fun a e => (P₂.acc a e).dt (fun _ => old _ _) (fun _ => old _ _) ((Dat.of_keep old).new hz₂), rfl⟩
  -- between the turns
  let Inv : Nat → Shared → Prop := fun k s' => ∃ pre todo ys, todo.length = k ∧ pre ++ todo = xs ∧ St s'.heap (todo.map enc) ∧ Dat s₂.heap s'.heap ∧ s'.heap.PlainList D ys ∧ Rps ZD s'.heap ys.toList ((pre.filter p).map f) ∧ (∃ m, s'.heap.Ns C m) ∧ Post c ZD σ σ s s'
  have loop : ∀ s₃, Inv xs.length s₃ → codeAny c.M A (.compLoop (.ListComp elt [⟨target, iter, ifs, 0⟩] csc pos) 0 (.ref It) (.ref D) (cenvOf csc env C)) (RR (.ref D) C) s₃ := by
    intro s₃ h₃
    refine compLoop_any Inv (fun k s' ⟨pre, todo, ys, hk, hxs, st', dt, hpl, hys, ⟨m', hm'⟩, P⟩ => ?_) xs.length h₃
    have hh := I.room.hd
    have hal := hzal P (let ⟨_, e⟩ := hpl; ⟨_, e⟩) ⟨m', hm'⟩
    obtain ⟨nD, eD⟩ := hpl
    cases todo with
    | nil =>
      refine it.stop A s' _ _ hh st' fun h' tk kp => ?_
      have fI := it.fixI _ _ st'
      have P' : Post c Z σ σ s { s' with heap := h', toks := tk } := by
        refine ⟨P.stp.buts hn hi kp, fun a e => ?_, rfl⟩
        obtain ⟨⟨o1, e1⟩, o2, e2⟩ := (ha a e).alive
        exact (P.acc a e).dt (fun o => kp _ _ fun q => by rw [hn _ q] at e1; cases e1) (fun o => kp _ _ fun q => by rw [hn _ q] at e2; cases e2) fun b o z e' hc => ⟨fun q => z (.inl q), dat_buts fI kp b o e' hc⟩
      have hxs' : pre = xs := by rw [← hxs, List.append_nil]
      subst hxs'
      refine hRR D C _ P' (.list (fun q => ?_) (kp _ _ hnD eD) rfl rfl rfl (hys.dt fun b o z e hc => ⟨fun q => z (.inl q), dat_buts fI kp b o e hc⟩)) ⟨m', ns_at hm' fun o e => kp _ _ hnC e⟩ hCs hC2
      obtain ⟨o, e⟩ := I.zal _ q
      rw [hDs] at e; cases e
    | cons x todo =>
      rw [List.map_cons] at st'
      have hx : x ∈ xs := by rw [← hxs]; exact List.mem_append.mpr (.inr (.head _))
      obtain ⟨ρ₂, hasg, htest, helt⟩ := hitem x hx
      refine it.next A s' _ _ _ _ hh st' dt fun v h₄ tk₄ st₄ r₄ k₄ => ?_
      have fI := it.fixI _ _ st'
      have dI := dat_buts fI k₄
      have P₄ : Post c ZD σ σ s { s' with heap := h₄, toks := tk₄ } := by
        refine ⟨P.stp.buts hn hi k₄, fun a e => ?_, rfl⟩
        obtain ⟨⟨o1, e1⟩, o2, e2⟩ := (ha a e).alive
        exact (P.acc a e).dt (fun o => k₄ _ _ fun q => by rw [hn _ q] at e1; cases e1) (fun o => k₄ _ _ fun q => by rw [hn _ q] at e2; cases e2) dI.dt
      have fI₄ := it.fixM _ _ _ st₄
      refine it.go A { s' with heap := h₄, toks := tk₄ } _ _ _ _ st₄ (dt.trans dI) fun h₅ st₅ k₅ => ?_
      have dI₅ := dat_buts fI₄ k₅
      have P₅ : Post c ZD σ σ s { s' with heap := h₅, toks := tk₄ } := by
        refine ⟨P₄.stp.buts hn hi k₅, fun a e => ?_, rfl⟩
        obtain ⟨⟨o1, e1⟩, o2, e2⟩ := (ha a e).alive
        exact (P₄.acc a e).dt (fun o => k₅ _ _ fun q => by rw [hn _ q] at e1; cases e1) (fun o => k₅ _ _ fun q => by rw [hn _ q] at e2; cases e2) dI₅.dt
      have hm₅ : h₅.Ns C m' := ns_at hm' fun o e => k₅ _ _ hnC (k₄ _ _ hnC e)
      have eD₅ : h₅.get? D = some _ := k₅ _ _ hnD (k₄ _ _ hnD eD)
      have I₅ : In c ZD n (relab csc sc) ρi σ A (cenvOf csc env C) { s' with heap := h₅, toks := tk₄ } := I.inner ok hcap P₅ hz (hzal P₅ ⟨_, eD₅⟩ ⟨m', hm₅⟩) hm₅ hCs hC2
      refine wp_mono (hasg ZD A (cenvOf csc env C) _ v I₅ ((r₄ ZD hz₂ hal).step dI₅)) fun _ s₆ ⟨I₆, M₆⟩ => ?_
      have P₆ : Post c ZD σ σ s s₆ := P₅.block ha hCs M₆ fun a e => (I₆.acc a e).1
      refine wp_mono (htest ZD A (cenvOf csc env C) s₆ I₆) fun b s₇ ⟨eb, Q₇⟩ => ?_
      subst eb
      have P₇ : Post c ZD σ σ s s₇ := P₆.trans Q₇
      have I₇ := I₆.post Q₇
      -- what stands behind a step of the block
      have stand : ∀ {s₈ : Shared}, PostM c false (cenvOf csc env C) σ σ { s' with heap := h₅, toks := tk₄ } s₈ → St s₈.heap (todo.map enc) ∧ Dat s₂.heap s₈.heap ∧ s₈.heap.PlainList D ys ∧ Rps ZD s₈.heap ys.toList ((pre.filter p).map f) := by
        intro s₈ M
        have dt₈ : Dat s₂.heap s₈.heap := ((dt.trans dI).trans dI₅).trans M.stp.dat
        refine ⟨it.stay st₅ P₅.stp.old ⟨m', hm₅⟩ I₅.cells hσ (fun a e => ⟨_, (I₅.acc a e).1⟩) M.stp.kp dt₈, dt₈, ⟨nD, M.stp.dat _ _ eD₅ ⟨⟨_, _, rfl⟩, .inl rfl⟩⟩, hys.step ((dI.trans dI₅).trans M.stp.dat)⟩
      have hlt : todo.length < k := by rw [← hk]; exact Nat.lt_succ_self _
      cases hp : p x with
      | false =>
        simp only [hp, Bool.false_eq_true, if_false]
        obtain ⟨a1, a2, a3, a4⟩ := stand (M₆.trans Q₇.toF)
        obtain ⟨m₇, hm₇⟩ := I₇.ns
        exact ⟨_, hlt, pre ++ [x], todo, ys, rfl, by rw [← hxs]; simp, a1, a2, a3, by simpa [List.filter_append, hp] using a4, ⟨m₇, hm₇⟩, P₇⟩
      | true =>
        simp only [hp, if_true]
        refine wp_mono (helt hp ZD A (cenvOf csc env C) s₇ I₇) fun y s₈ ⟨Q₈, r₈⟩ => ?_
        have P₈ := P₇.trans Q₈
        obtain ⟨a1, a2, a3, a4⟩ := stand (M₆.trans (Q₇.trans Q₈).toF)
        have hlen' : ys.size ≤ sizeLine := by
          have h1 := a4.length
          have h2 : (pre.filter p).length ≤ pre.length := List.length_filter_le ..
          have h3 : pre.length ≤ xs.length := by rw [← hxs, List.length_append]; exact Nat.le_add_right _ _
          simp only [List.length_map, Array.length_toList] at h1
          rw [sizeLine_eq]; omega
        refine wpAny_list_append_plain a3 (fun h₉ hpl₉ hs₉ => ?_) hlen'
        obtain ⟨nD₈, eD₈⟩ := a3
        have k₉ : ∀ b o, b ≠ D → s₈.heap.get? b = some o → h₉.get? b = some o := fun b o nb e => (hs₉.2 b nb).trans e
        have P₉ : Post c ZD σ σ s { s₈ with heap := h₉ } := Post.but (tk := s₈.toks) ha P₈ (.inr (.inl rfl)) hDs eD₈ hD2 k₉
        have dz : Dt ZD ZD s₈.heap h₉ := fun b o z e _ => ⟨z, k₉ _ _ (fun q => z (.inr (.inl q))) e⟩
        obtain ⟨m₈, hm₈⟩ := (I₇.post Q₈).ns
        have nD2 : ∀ {b : Addr} {o : Obj}, s₂.heap.get? b = some o → b ≠ D := fun e q => by rw [q, hDn] at e; cases e
        refine ⟨_, hlt, pre ++ [x], todo, ys.push y, rfl, by rw [← hxs]; simp, it.frame _ _ _ a1 (fun b hb o e => k₉ _ _ (hfp b hb).1 e) (fun b o e hc => k₉ _ _ (nD2 e) (a2 b o e hc)), (fun b o e hc => k₉ _ _ (nD2 e) (a2 b o e hc)), hpl₉, ?_, ⟨m₈, ns_at hm₈ fun o e => k₉ _ _ hDC.symm e⟩, P₉⟩
        have : Rps ZD h₉ (ys.toList ++ [y]) ((pre.filter p).map f ++ [f x]) := (a4.dt dz).append (.cons (r₈.dt dz) .nil)
        simpa [List.filter_append, hp] using this
  have inv₁ : Inv xs.length { s₂ with heap := h₁, toks := s₂.toks + ([] : List (Str × Value)).length } :=
    ⟨[], xs, #[], rfl, rfl, it.frame _ _ _ st (fun b hb o e => old _ _ e) (.of_keep old), .of_keep old, hacc, .nil, ⟨_, hns₁⟩, P₁⟩
  exact codeAny_compStart_list (loop _ inv₁) (it.self _ _ _ _ _ (it.frame _ _ _ st (fun b hb o e => old _ _ e) (.of_keep old)) (loop _ inv₁))

theorem Iter.toM {c : Cx} {Z : AP} {h₀ : Heap} {I : Addr} {fp : List Addr} {St : Heap → List PyData → Prop} (it : Iter c Z h₀ I fp St) (t : Expr) : IterM c Z h₀ t [I] I fp St (fun h _ ds => St h ds) where
  frame := it.frame
  fix := it.fix
  fixI := fun h ds st i m => by rw [List.mem_singleton.mp m]; exact it.fixI h ds st
  fixM := fun h v ds st i m => by rw [List.mem_singleton.mp m]; exact it.fixI h ds st
  next := fun A s d ds Q E hh st dt hQ => it.next A s d ds Q E hh st dt fun v h' tk st' r k => hQ v h' tk st' r fun b o nb e => k b o (fun q => nb (List.mem_singleton.mpr q)) e
  stop := fun A s Q E hh st hQ => it.stop A s Q E hh st fun h' tk k => hQ h' tk fun b o nb e => k b o (fun q => nb (List.mem_singleton.mpr q)) e
  self := it.self
  go := fun A s ds v Q E st _ hQ => it.go A s ds t v Q E st fun h' st' k => hQ h' st' fun b o nb e => k b o (fun q => nb (List.mem_singleton.mpr q)) e
theorem comp_run {s s₂ : Shared} (I : In c Z n sc ρ σ A env s) (P₂ : Post c Z σ σ s s₂) (ok : CompOk csc sc) (hcap : Cap csc ρi ρ) {xs : List α} {enc : α → PyData} {p : α → Bool} {f : α → PyData}
    {It : Addr} {fp : List Addr} {St : Heap → List PyData → Prop} (it : Iter c Z s₂.heap It fp St) (st : St s₂.heap (xs.map enc)) (hσ : ∀ a, σ = some a → a.addr ∉ fp) (hn : s.heap.get? It = none) (hi : 235 ≤ It)
    (hitem : ∀ x ∈ xs, Item c n (relab csc sc) ρi σ target ifs elt (enc x) (p x) (f x)) (hlen : xs.length ≤ 1000000) {RR : Value → Addr → Result → Shared → Prop} {E : Value → Shared → Prop}
    (hRR : ∀ D C s', Post c Z σ σ s s' → Rp Z s'.heap (.ref D) (.list ((xs.filter p).map f)) → (∃ m, s'.heap.Ns C m) → s.heap.get? C = none → 235 ≤ C → RR (.ref D) C (.ok .next) s') :
    wpAny c.M A (newList []) (fun acc s₃ => wpAny c.M A (newFunctionEnv csc env.globals (clo env csc.names []) [] env.qual none .none (some env)) (fun cenv s₄ =>
      codeAny c.M A (.compStart (.ListComp elt [⟨target, iter, ifs, 0⟩] csc pos) 0 (.ref It) acc { cenv with scope := relabel csc env }) (RR acc cenv.locals) s₄) E s₃) E s₂ := 
  comp_runM I P₂ ok hcap (it.toM target) st hσ (fun i m => by rw [List.mem_singleton.mp m]; exact hn) (fun i m => by rw [List.mem_singleton.mp m]; exact hi) hitem hlen hRR
end
end Mine
end

section
open PySem PySem.W PyProof.Rows PySem.Calls PySem.Spec
set_option Elab.async false
set_option linter.unusedVariables false
set_option maxRecDepth 100000
namespace Mine

/-- a new object that is none of the frame's is turned -/
theorem In.beside {c : Cx} {Z : AP} {n : Nat} {sc : Scope} {ρ₀ ρ : Loc} {σ σ' : Option Ac} {A : Around} {env : Env} {s s' : Shared} (I₀ : In c Z n sc ρ₀ σ A env s) (I : In c Z n sc ρ σ' A env s') (hadr : σ'.map (fun a => (a.addr, a.dict, a.cls)) = σ.map fun a => (a.addr, a.dict, a.cls)) {i : Addr} {o : Obj} (hn : s.heap.get? i = none) (ho : s'.heap.get? i = some o) (hi : 235 ≤ i)
    {h' : Heap} {tk : Tok} (k : ∀ b o, b ≠ i → s'.heap.get? b = some o → h'.get? b = some o) (dt : Dat s'.heap h') : In c Z n sc ρ σ' A env { s' with heap := h', toks := tk } := by
  have ne : ∀ {b : Addr} {o : Obj}, s.heap.get? b = some o → b ≠ i := fun e q => by rw [q, hn] at e; cases e
  have neL : env.locals ≠ i := let ⟨m, o, _, _, e, _⟩ := I₀.ns; ne e
  have neC : ∀ x a, env.cells.lookup x = some a → a ≠ i := fun x a e => let ⟨u, o, e', _⟩ := I₀.cells x a e; ne e'
  have neA : ∀ a, σ' = some a → a.addr ≠ i ∧ a.dict ≠ i := fun a e => by
    rw [e] at hadr
    cases σ with
    | none => simp at hadr
    | some a' =>
      simp at hadr
      obtain ⟨⟨o1, e1⟩, o2, e2⟩ := (I₀.acc a' rfl).1.alive
      rw [hadr.1, hadr.2.1]
      exact ⟨ne e1, ne e2⟩
  have cell : ∀ {x : Str} {a : Addr} {v : Option Value}, env.cells.lookup x = some a → s'.heap.IsCell a v → h'.IsCell a v := fun e ⟨o', e1, e2⟩ => ⟨o', k _ _ (neC _ _ e) e1, e2⟩
  have hz : ¬ Z i := fun z => (I₀.zal i z).elim fun o e => by rw [hn] at e; cases e
  refine ⟨I.old.but ho hi k, I.gens, fun b z => ?_, ?_, I.scope, I.kind, I.gl, I.bi, fun a e => ⟨(I.acc a e).1.dt (fun o => k _ _ (neA a e).1) (fun o => k _ _ (neA a e).2) dt.dt, (I.acc a e).2⟩, ?_, I.cel, fun x a e => ?_, I.inj, I.newL, ?_, I.newC⟩
  · obtain ⟨o', e⟩ := I.zal b z
    exact ⟨o', k _ _ (fun q => hz (q ▸ z)) e⟩
  · obtain ⟨l₀, e₀, f₀⟩ := I₀.room.fr
    obtain ⟨l, e, f⟩ := I.room.fr
    rw [e₀] at e; cases e
    refine ⟨I.room.hd, I.room.dep, I.room.uni, l₀, e₀, fun env' m => ?_⟩
    obtain ⟨_, L₀, o₀, g1, _, g2, _⟩ := f₀ env' m
    obtain ⟨h1, L, o', h2, h3, h4, r⟩ := f env' m
    rw [g1] at h2; cases h2
    exact ⟨h1, L₀, o', g1, h3, k _ _ (ne g2) h4, r⟩
  · obtain ⟨m, hm, hr⟩ := I.loc
    refine ⟨m, ns_at hm fun o => k _ _ neL, fun x v e => ?_⟩
    obtain ⟨u, r, b⟩ := hr x v e
    refine ⟨u, r.mono rfl dt, ?_⟩
    rcases b with b | ⟨b1, a, b2, b3⟩
    · exact .inl b
    · exact .inr ⟨b1, a, b2, cell b2 b3⟩
  · obtain ⟨u, z⟩ := I.cells x a e
    exact ⟨u, cell e z⟩
  · obtain ⟨L₀, o₀, g1, _, g2, _⟩ := I₀.fr
    obtain ⟨L, o', h2, h3, h4, r⟩ := I.fr
    rw [g1] at h2; cases h2
    exact ⟨L₀, o', g1, h3, k _ _ (ne g2) h4, r⟩

section
variable {α : Type} {c : Cx} {n : Nat} {sc csc : Scope} {ρ ρi : Loc} {σ : Option Ac} {target iter elt : Expr} {ifs : List Expr} {pos : Pos}

theorem dict_off {h : Heap} {C : Addr} (hm : ∃ m, h.Ns C m) {h' : Heap} (hs : Heap.SameBut C h h') : (∃ o, h.get? C = some o) ∧ (∀ b o, b ≠ C → h.get? b = some o → h'.get? b = some o) ∧ Dat h h' := by
  obtain ⟨m, o, es, ep, e, hd, _⟩ := hm
  have k : ∀ b o, b ≠ C → h.get? b = some o → h'.get? b = some o := fun b o nb e => (hs.2 b nb).trans e
  exact ⟨⟨o, e⟩, k, fun b o' e' hc => k b o' (fun q => by
    subst q; rw [e] at e'; cases e'
    obtain ⟨⟨vs, q, z⟩, _⟩ := hc
    rw [hd] at z; cases z) e'⟩

theorem Ev.comp (hsrc : Src c n sc ρ σ iter ds) (ok : compOkB csc sc = true) (hcap : Cap csc ρi ρ) (xs : List α) (enc : α → PyData) (p : α → Bool) (f : α → PyData) (hds : ds = xs.map enc) (hitem : ∀ x ∈ xs, Item c n (relab csc sc) ρi σ target ifs elt (enc x) (p x) (f x))
    (hlen : xs.length ≤ 1000000) (hs : ∀ x env, foldedSetIterable iter env x = pure x := by intro _ _; rfl) : E1 c n sc ρ σ (.ListComp elt [⟨target, iter, ifs, 0⟩] csc pos) (.list ((xs.filter p).map f)) := fun Z A env s I => by
  have ok := CompOk.of ok
  subst hds
  rw [eval_ListComp]
  refine wpAny_comprehension_free (use := none) rfl (fun x => hs x env) (closure_is fun y hy e => I.cel _ (ok.free y hy e)) ok.kind ok.names (hsrc Z A env s _ _ I fun It fp St s₂ it st P₂ hσ hn hi => ?_)
  refine comp_run (RR := fun acc C => compPost c.M A NoE none (fun v s' => Post c Z σ σ s s' ∧ Rp Z s'.heap v (.list ((xs.filter p).map f))) acc C) I P₂ ok hcap it st hσ hn hi hitem hlen fun D C s' P r hm hC hC2 => ?_
  obtain ⟨m, hm'⟩ := id hm
  refine ⟨m, hm', fun h' hs' => ?_⟩
  obtain ⟨⟨o, e⟩, k, dt⟩ := dict_off hm hs'
  refine ⟨⟨P.stp.but (tk := s'.toks) hC e hC2 k, fun a ea => ?_, rfl⟩, r.step dt⟩
  obtain ⟨⟨o1, e1⟩, o2, e2⟩ := (I.acc a ea).1.alive
  exact (P.acc a ea).dt (fun o => k _ _ fun q => by rw [q, hC] at e1; cases e1) (fun o => k _ _ fun q => by rw [q, hC] at e2; cases e2) dt.dt

/-- a comprehension that goes into a plain local -/
theorem S1.assignComp {y : Str} {py spos : Pos} (hsrc : Src c n sc ρ σ iter ds) (ok : compOkB csc sc = true) (hcap : Cap csc ρi ρ) (xs : List α) (enc : α → PyData) (p : α → Bool) (f : α → PyData) (hds : ds = xs.map enc) (hitem : ∀ x ∈ xs, Item c n (relab csc sc) ρi σ target ifs elt (enc x) (p x) (f x))
    (hlen : xs.length ≤ 1000000) (hy : sc.names.lookup y = some .local) (hsw : ∀ env : Env, env.scope = sc → swapsWith (.ListComp elt [⟨target, iter, ifs, 0⟩] csc pos) (some (.Name y py)) spos.line env = pure true) (hs : ∀ x env, foldedSetIterable iter env x = pure x := by intro _ _; rfl) :
    S1 c n sc ρ σ (.Assign [.Name y py] (.ListComp elt [⟨target, iter, ifs, 0⟩] csc pos) spos) (Qn ((y, .d (.list ((xs.filter p).map f))) :: ρ) σ) := fun Z A env s I => by
  have ok := CompOk.of ok
  subst hds
  rw [exec_Assign_Name_used _ _ _ _ (hsw env I.scope)]
  refine wpAny_bind (wpAny_standAt (wpAny_bind ?_))
  show wpAny _ A (do let _ ← comprehension (.ListComp elt [⟨target, iter, ifs, 0⟩] csc pos) csc env _ (newList []) false (eval iter env) (some (PySem.assign (PySem.Expr.Name y py) env))) _ _ s
  refine wpAny_bind (wp_mono (wpAny_comprehension_free (E := NoE) (use := some (PySem.assign (PySem.Expr.Name y py) env)) (Q := fun _ s' => Left c Z n sc σ A env (Qn ((y, .d (.list ((xs.filter p).map f))) :: ρ) σ) s .next s') rfl (fun x => hs x env) (closure_is fun y hy e => I.cel _ (ok.free y hy e)) ok.kind ok.names
    (hsrc Z A env s _ _ I fun It fp St s₂ it st P₂ hσ hn hi => ?_)) fun _ s' hq => wpAny_pure (wpAny_pure hq))
  refine comp_run (RR := fun acc C => compPost c.M A NoE (some (PySem.assign (PySem.Expr.Name y py) env)) (fun _ s' => Left c Z n sc σ A env (Qn ((y, .d (.list ((xs.filter p).map f))) :: ρ) σ) s .next s') acc C) I P₂ ok hcap it st hσ hn hi hitem hlen fun D C s' P r hm hC hC2 => ?_
  show wpAny _ A (PySem.assign (PySem.Expr.Name y py) env (.ref D)) _ _ s'
  refine wpAny_assign_Name ((I.post P).store (all := true) (.inl hy) (v := .d _) r fun s'' I'' M => ?_)
  have hm'' : ∃ m, s''.heap.Ns C m := by
    obtain ⟨m, o, es, ep, e, hd, q⟩ := hm
    have hne : ¬ Tb (ownM true env (Xs σ)) C := by
      rintro (rfl | rfl | rfl | ⟨_, x, q⟩ | ⟨a, ea, rfl | rfl⟩)
      · exact absurd hC2 (by decide)
      · exact absurd hC2 (by decide)
      · obtain ⟨m, o, _, _, e', _⟩ := I.ns; rw [hC] at e'; cases e'
      · obtain ⟨u, o, e', _⟩ := I.cells x C q; rw [hC] at e'; cases e'
      · obtain ⟨⟨o, e'⟩, _⟩ := (I.acc a ea).1.alive; rw [hC] at e'; cases e'
      · obtain ⟨_, o, e'⟩ := (I.acc a ea).1.alive; rw [hC] at e'; cases e'
    obtain ⟨o', e', sm⟩ := M.stp.kp C o e hne
    exact ⟨m, o', es, ep, e', sm.data.trans hd, q⟩
  obtain ⟨m, hm₂⟩ := id hm''
  refine ⟨m, hm₂, fun h' hs' => ?_⟩
  obtain ⟨⟨o, e⟩, k, dt⟩ := dict_off hm'' hs'
  exact ⟨.next, _, σ, ⟨rfl, rfl, rfl⟩, I.beside (tk := s''.toks) I'' rfl hC e hC2 k dt, (P.toF.trans M).but (tk := s''.toks) hC e hC2 k, trivial⟩
end
end Mine
end

section
open PySem PySem.W PyProof.Rows PySem.Calls PySem.Spec
set_option Elab.async false
set_option linter.unusedVariables false
set_option maxRecDepth 100000
namespace Mine

/-! ## calls of the text's defs -/
structure Pre (c : Cx) (Z : AP) (n : Nat) (σ : Option Ac) (A : Around) (s : Shared) : Prop where
  old : Old c s.heap
  gens : AllBare s.gens
  zal : ∀ b, Z b → ∃ o, s.heap.get? b = some o
  room : Room n A s.heap
  acc : ∀ a, σ = some a → AccAt Z s.heap a
theorem In.pre {c : Cx} {Z : AP} {n : Nat} {sc : Scope} {ρ : Loc} {σ : Option Ac} {A : Around} {env : Env} {s : Shared} (I : In c Z n sc ρ σ A env s) : Pre c Z n σ A s := ⟨I.old, I.gens, I.zal, I.room, fun a e => (I.acc a e).1⟩
theorem Room.less {n m : Nat} {A : Around} {h : Heap} (r : Room n A h) (l : m ≤ n) : Room m A h := ⟨r.hd, by have := r.dep; omega, by have := r.uni; omega, r.fr⟩
theorem Pre.less {c : Cx} {Z : AP} {n m : Nat} {σ : Option Ac} {A : Around} {s : Shared} (p : Pre c Z n σ A s) (l : m ≤ n) : Pre c Z m σ A s := ⟨p.old, p.gens, p.zal, p.room.less l, p.acc⟩
theorem Pre.post {c : Cx} {Z : AP} {n : Nat} {σ σ' : Option Ac} {A : Around} {s s' : Shared} (p : Pre c Z n σ A s) (P : Post c Z σ σ' s s') : Pre c Z n σ' A s' :=
  ⟨P.stp.old, P.stp.gens, fun b z => (p.zal b z).elim fun o e => P.stp.al b o e, room_kp p.old p.acc P.stp.kp p.room, P.acc⟩
theorem Pre.heap {c : Cx} {Z : AP} {n : Nat} {σ : Option Ac} {A : Around} {s : Shared} (p : Pre c Z n σ A s) {h' : Heap} {tk : Tok} (k : ∀ b o, s.heap.get? b = some o → h'.get? b = some o) : Post c Z σ σ s { s with heap := h', toks := tk } := .heap p.old p.gens p.acc k

inductive RVs (Z : AP) (h : Heap) (σ : Option Ac) : List Value → List V → Prop
  | nil : RVs Z h σ [] []
  | cons {u v us vs} : RV Z h σ u v → RVs Z h σ us vs → RVs Z h σ (u :: us) (v :: vs)
theorem RVs.length {Z : AP} {h : Heap} {σ : Option Ac} {us : List Value} {vs : List V} (r : RVs Z h σ us vs) : us.length = vs.length := by
  induction r with
  | nil => rfl
  | cons _ _ ih => rw [List.length_cons, List.length_cons, ih]
theorem RVs.mono {Z : AP} {h h' : Heap} {σ σ' : Option Ac} (e : σ'.map (fun a => (a.addr, a.dict, a.cls)) = σ.map fun a => (a.addr, a.dict, a.cls)) (k : Dat h h') {us : List Value} {vs : List V} (r : RVs Z h σ us vs) : RVs Z h' σ' us vs := by
  induction r with
  | nil => exact .nil
  | cons a _ ih => exact .cons (a.mono e k) ih

/-- a call of the def at a gives d -/
noncomputable def Fn (c : Cx) (n : Nat) (a : Addr) (args : List V) (σ : Option Ac) (d : PyData) (σ' : Option Ac) : Prop :=
  ∀ Z A s us, Pre c Z n σ A s → RVs Z s.heap σ us args → codeAny c.M A (.call (.ref a) ⟨us, []⟩) (fun r s' => ∃ v, r = .ok (.ret v) ∧ Post c Z σ σ' s s' ∧ Rp Z s'.heap v d) s
theorem Fn.call {c : Cx} {n : Nat} {a : Addr} {args : List V} {σ σ' : Option Ac} {d : PyData} (f : Fn c n a args σ d σ') {Z : AP} {A : Around} {s : Shared} {us : List Value} (p : Pre c Z n σ A s) (r : RVs Z s.heap σ us args) {Q : Value → Shared → Prop} {E : Value → Shared → Prop}
    (hQ : ∀ v s', Post c Z σ σ' s s' → Rp Z s'.heap v d → Q v s') : wpAny c.M A (call (.ref a) us) Q E s :=
  wpAny_call (codeAny_mono (f Z A s us p r) fun r s' ⟨v, e, P, rv⟩ => by rw [e]; exact hQ v s' P rv)

section
variable {c : Cx} {Z : AP} {n : Nat} {σ σ' : Option Ac} {A : Around} {s : Shared}

/-- the parameters are bound -/
theorem In.params {sc : Scope} {env : Env} {all : Bool} (f : Str × Value → PUnit → Sem (ForInStep PUnit)) (hf : ∀ x v u, f (x, v) u = (do storeName env x v; pure (.yield ⟨⟩))) : ∀ {names : List Str} {us : List Value} {vs : List V} {ρ : Loc} {s : Shared} {Q : PUnit → Shared → Prop} {E : Value → Shared → Prop}, In c Z n sc ρ σ A env s → RVs Z s.heap σ us vs → names.length = vs.length →
    (∀ x ∈ names, StoM all sc x) → (∀ s', In c Z n sc ((names.zip vs).reverse ++ ρ) σ A env s' → PostM c all env σ σ s s' → Q ⟨⟩ s') → wpAny c.M A (forIn (names.zip us) ⟨⟩ f) Q E s
  | [], _, _, ρ, s, Q, E, I, r, hl, _, hQ => by
    cases r with
    | nil => exact wpAny_pure (hQ s I (.refl I))
    | cons _ _ => cases hl
  | x :: names, _, _, ρ, s, Q, E, I, r, hl, hx, hQ => by
    cases r with
    | nil => cases hl
    | cons a r =>
      rename_i u v us vs
      rw [List.zip_cons_cons, List.forIn_cons, hf]
      refine wpAny_bind (wpAny_bind (I.store (hx x (.head _)) a fun s₁ I₁ P₁ => wpAny_pure ?_))
      refine In.params f hf I₁ (r.mono rfl P₁.stp.dat) (by simpa using hl) (fun y hy => hx y (.tail _ hy)) fun s' I' P' => hQ s' ?_ (P₁.trans P')
      rw [List.zip_cons_cons, List.reverse_cons, List.append_assoc]
      exact I'

theorem Post.leave {env : Env} {s₁ s' : Shared} {n' : Nat} {sc : Scope} {ρ : Loc} {A' : Around} (p : Pre c Z n σ A s) (P : Post c Z σ σ s s₁) (M : PostF c env σ σ' s₁ s') (I : In c Z n' sc ρ σ' A' env s') (hL : s.heap.get? env.locals = none)
    (hC : ∀ x a, env.cells.lookup x = some a → s.heap.get? a = none ∨ (a ≠ 62 ∧ a ≠ 69 ∧ ∃ o, c.s₁.heap.get? a = some o)) : Post c Z σ σ' s s' := by
  refine ⟨⟨fun b o e nb => ?_, P.stp.dat.trans M.stp.dat, fun b o e => (P.stp.al b o e).elim fun o' e' => M.stp.al b o' e', M.stp.old, M.stp.gens, M.stp.os.trans P.stp.os⟩, fun a e => (I.acc a e).1, M.adr⟩
  by_cases hb : (∃ x, env.cells.lookup x = some b) ∧ ∃ o, c.s₁.heap.get? b = some o
  · obtain ⟨⟨x, ex⟩, o₁, e₁⟩ := hb
    have h62 : b ≠ 62 := fun q => nb (.inl q)
    have h69 : b ≠ 69 := fun q => nb (.inr (.inl q))
    have := p.old.keep b o₁ e₁ h62 h69
    rw [e] at this; cases this
    exact ⟨o, I.old.keep b o e₁ h62 h69, .refl _⟩
  · obtain ⟨o', e', s1⟩ := P.stp.kp b o e nb
    obtain ⟨o'', e'', s2⟩ := M.stp.kp b o' e' (fun q => nb (q.imp id fun q => q.imp id fun q => by
      rcases q with q | ⟨_, x, q⟩ | q
      · rw [q, hL] at e; cases e
      · rcases hC x b q with z | ⟨_, _, z⟩
        · rw [z] at e; cases e
        · exact absurd ⟨⟨x, q⟩, z⟩ hb
      · exact q))
    exact ⟨o'', e'', s1.trans s2⟩
end

/-- the frame that a call makes -/
noncomputable def callEnv (sc : Scope) (L : Addr) (cells : List (Str × Addr)) (q : Str) (a : Addr) (cd : Value) : Env :=
  { scope := sc, locals := L, globals := mainGlobals, cells, qual := q ++ ".<locals>.", func := some a, code := cd, frame := some L, builtins := builtinsNs }

theorem Fn.body {c : Cx} {n : Nat} {a : Addr} {args : List V} {σ σ' : Option Ac} {d : PyData} {fd : FuncData} {oc : Value} {od : Option Addr} {osl : Array (Option Value)} {body : List Stmt} {sc : Scope} {names : List Str}
    (ho : c.K.lookup a = some ⟨oc, od, .func fd, osl⟩) (hb : fd.body = .stmts body) (hsc : fd.scope = sc) (hg : fd.globals = mainGlobals) (hbi : fd.builtins = builtinsNs) (hcl : fd.closure = []) (hcd : codeIn c.K fd.code fd.qualname = true)
    (hco : sc.isCoroutine = false) (hgen : sc.isGenerator = false) (hk : sc.kind = .function) (hcells : ((sc.names.filter fun y => y.2 == .cell).map (·.1)).Nodup) (hnofree : ∀ y ∈ sc.names, y.2 ≠ .free)
    (hbind : ∀ us : List Value, us.length = args.length → bindArgs fd ⟨us, []⟩ = pure (names.zip us)) (hlen : names.length = args.length) (hsto : ∀ x ∈ names, Sto sc x)
    (h : Ss c n sc (names.zip args).reverse σ body (fun o _ σ₁ => (o = .ret d ∨ (o = .next ∧ d = .none)) ∧ σ₁ = σ')) : Fn c (n + 1) a args σ d σ' := fun Z A s us p r => by
  have hdep : A.depth < recursionLimit := by have := p.room.dep; show A.depth < 1000; omega
  refine codeAny_call_function hdep (p.old.kin a _ ho) rfl (by rw [hsc]; exact hco) (by rw [hsc]; exact hgen) hb (codeRec_of p.old.kin hcd) ?_
  rw [hbind us r.length, hsc, hg, hbi, hcl]
  refine wpAny_pure ?_
  simp only [newFunctionEnv, Option.isSome_none, Bool.false_eq_true, if_false]
  refine wpAny_bind (wpAny_alloc ?_)
  refine wpAny_bind (wpAny_layCells _ (fun name kind cells => by cases hkc : kind == NameKind.cell <;> simp [hkc]) _ _ _ _ ?_)
  have ok := cellsFrom_ok sc.names (s.heap.push { cls := .type "frame", data := .dict #[] }) (s.heap.objs.size + 1) [] ⟨fun _ _ hm => (nomatch hm), List.Pairwise.nil⟩ (by rw [Heap.size_push]; exact Nat.le_refl _)
  rw [Heap.size_push] at ok
  rw [show ({ s with heap := s.heap.push { cls := .type "frame", data := .dict #[] } } : Shared).heap.objs.size = s.heap.objs.size + 1 from Heap.size_push ..]
  generalize hcs : cellsFrom (s.heap.objs.size + 1) sc.names [] = cs at ok
  generalize hh₁ : pushCells (s.heap.push { cls := .type "frame", data := .dict #[] }) sc.names = h₁ at ok
  have old : ∀ b o, s.heap.get? b = some o → h₁.get? b = some o := fun b o e => hh₁ ▸ pushCells_keeps _ _ b o (Heap.get?_push_of_some _ e)
  have hL : h₁.get? s.heap.objs.size = some { cls := .type "frame", data := .dict #[] } := hh₁ ▸ pushCells_keeps _ _ _ _ (Heap.get?_push_size _ rfl)
  have hLn : s.heap.get? s.heap.objs.size = none := none_of (Nat.le_refl _)
  have P₁ : Post c Z σ σ s { s with heap := h₁ } := p.heap old
  have p₁ := p.post P₁
  have hmemc : ∀ {x : Str} {b : Addr}, cs.lookup x = some b → (x, b) ∈ cs := fun e => mem_of_lookup e
  have hnames : ∀ x b, (x, b) ∈ cs → sc.names.lookup x = some .cell ∨ True := fun _ _ _ => .inr trivial
  have hfresh : ∀ x b, (x, b) ∈ cs → s.heap.get? b = none := fun x b m => none_of (Nat.le_of_lt (ok.empty x b m).2)
  have hbig : 235 ≤ s.heap.objs.size := p.old.new (Nat.le_refl _)
  have I₁ : In c Z n sc [] σ A.in1 (callEnv sc s.heap.objs.size cs fd.qualname a fd.code) { s with heap := h₁ } := by
    refine ⟨p₁.old, p₁.gens, p₁.zal, ⟨p₁.room.hd, by have := p₁.room.dep; show A.depth + n ≤ 900; omega, by have := p₁.room.uni; show A.units + 1 + 100 * n ≤ 9000; omega, p₁.room.fr⟩, rfl, hk, rfl, rfl, fun a' e => ⟨p₁.acc a' e, fun q => ?_⟩, ⟨fun _ => none, ?_, fun x v e => by cases e⟩, fun x hx => ?_, fun x b e => ⟨none, (ok.empty x b (hmemc e)).1⟩, fun x y b e1 e2 => name_of_addr ok.apart (hmemc e1) (hmemc e2), hbig, ⟨_, _, rfl, hbig, hL, rfl, _, _, rfl⟩, fun x b _ e => Nat.le_trans hbig (Nat.le_of_lt (ok.empty x b (hmemc e)).2)⟩
    · obtain ⟨_, o, e2⟩ := (p.acc a' e).alive
      have q' : a'.dict = s.heap.objs.size := q
      rw [q', hLn] at e2; cases e2
    · exact ⟨_, #[], 0, hL, rfl, fun _ he => by simp at he, fun _ => rfl⟩
    · rcases hx with hx | hx
      · have := cellsFrom_some sc.names (s.heap.objs.size + 1) [] (.inl hx)
        rw [hcs] at this
        exact Option.isSome_iff_exists.mp this
      · exact absurd rfl (hnofree _ (lookup_mem hx))
  refine wpAny_bind (In.params (env := callEnv sc s.heap.objs.size cs fd.qualname a fd.code) (all := true) _ (fun _ _ _ => rfl) I₁ (r.mono rfl P₁.stp.dat) hlen hsto fun s₂ I₂ M₂ => wpAny_pure ⟨I₂.old.lim, codeAny_func ?_⟩)
  rw [List.append_nil] at I₂
  have I₃ : In c Z n sc (names.zip args).reverse σ (A.deeper (callEnv sc s.heap.objs.size cs fd.qualname a fd.code)) (callEnv sc s.heap.objs.size cs fd.qualname a fd.code) s₂ := by
    refine { I₂ with room := ⟨p.room.hd, by have := p.room.dep; show A.depth + 1 + n ≤ 900; omega, by have := p.room.uni; show A.units + 3 + 100 * n ≤ 9000; omega, ?_⟩ }
    obtain ⟨l, e, f⟩ := I₂.room.fr
    have e' : A.frames = some l := e
    refine ⟨callEnv sc s.heap.objs.size cs fd.qualname a fd.code :: l, by show A.frames.map _ = _; rw [e']; rfl, fun env m => ?_⟩
    rcases List.mem_cons.mp m with rfl | m
    · exact ⟨by show sc.kind ≠ .module; rw [hk]; decide, I₂.fr⟩
    · exact f env m
  refine wp_mono (h Z _ _ s₂ I₃) fun f s' ⟨o, ρ', σ₁, ⟨ho, hσ⟩, I', M', F⟩ => ?_
  subst hσ
  have P' := Post.leave p P₁ (M₂.trans M') I' hLn fun x b e => .inl (hfresh x b (hmemc e))
  rcases ho with rfl | ⟨rfl, rfl⟩
  · cases f <;> first | exact F.elim | exact ⟨_, rfl, P', F⟩
  · cases f <;> first | exact F.elim | exact ⟨_, rfl, P', .none⟩
end Mine
end

section
open PySem PySem.W PyProof.Rows PySem.Calls PySem.Spec
set_option Elab.async false
set_option linter.unusedVariables false
set_option maxRecDepth 100000
namespace Mine

section
variable {c : Cx} {n : Nat} {sc : Scope} {ρ : Loc} {σ σ₁ σ₂ σ' : Option Ac}

/-! ## two operands -/
noncomputable def BinR (c : Cx) (op : Operator) (a b r : PyData) : Prop :=
  ∀ Z n σ A s u v, Pre c Z n σ A s → Rp Z s.heap u a → Rp Z s.heap v b → wpAny c.M A (binaryOp op u v) (fun x s' => Post c Z σ σ s s' ∧ Rp Z s'.heap x r) NoE s
theorem Ev.bin {l r : Expr} {op : Operator} {pos : Pos} {a b x : PyData} (hl : Ev c n sc ρ σ l a σ₁) (hr : Ev c n sc ρ σ₁ r b σ₂) (h : BinR c op a b x) : Ev c n sc ρ σ (.BinOp l op r pos) x σ₂ := fun Z A env s I =>
  wpAny_BinOp (hl.seq hr I fun u v s' P I' ra rb => wp_mono (h Z n σ₂ A s' u v I'.pre ra rb) fun x s'' ⟨P', rx⟩ => ⟨P.trans P', rx⟩)
theorem Pre.toks {c : Cx} {Z : AP} {n : Nat} {σ : Option Ac} {A : Around} {s : Shared} (p : Pre c Z n σ A s) {tk : Tok} : Post c Z σ σ s { s with toks := tk } := p.heap fun _ _ e => e
theorem Pre.same {c : Cx} {Z : AP} {n : Nat} {σ : Option Ac} {A : Around} {s : Shared} (p : Pre c Z n σ A s) : Post c Z σ σ s s := p.heap fun _ _ e => e
theorem BinR.add {a b : Int} : BinR c .Add (.int a) (.int b) (.int (a + b)) := fun Z n σ A s u v p ra rb => by
  obtain ⟨t, rfl⟩ := ra.int_inv; obtain ⟨t', rfl⟩ := rb.int_inv
  exact PySem.P.add_int ⟨p.toks, .int _ _⟩
theorem BinR.sub {a b : Int} : BinR c .Sub (.int a) (.int b) (.int (a - b)) := fun Z n σ A s u v p ra rb => by
  obtain ⟨t, rfl⟩ := ra.int_inv; obtain ⟨t', rfl⟩ := rb.int_inv
  exact PySem.P.sub_int ⟨p.toks, .int _ _⟩
theorem BinR.mul {a b : Int} (h : IntMulOk a b) : BinR c .Mult (.int a) (.int b) (.int (a * b)) := fun Z n σ A s u v p ra rb => by
  obtain ⟨t, rfl⟩ := ra.int_inv; obtain ⟨t', rfl⟩ := rb.int_inv
  exact PySem.P.mul_int ⟨p.toks, .int _ _⟩ h
theorem BinR.fdiv {a b : Int} (h : b ≠ 0) (hp : b.natAbs.log2 < 9000) : BinR c .FloorDiv (.int a) (.int b) (.int (a.fdiv b)) := fun Z n σ A s u v p ra rb => by
  obtain ⟨t, rfl⟩ := ra.int_inv; obtain ⟨t', rfl⟩ := rb.int_inv
  exact PyProof.Rows.floordiv_int h ⟨p.toks, .int _ _⟩ (.inl (PyProof.noPylong_of_log2 hp))
theorem BinR.fmod {a b : Int} (h : b ≠ 0) : BinR c .Mod (.int a) (.int b) (.int (a.fmod b)) := fun Z n σ A s u v p ra rb => by
  obtain ⟨t, rfl⟩ := ra.int_inv; obtain ⟨t', rfl⟩ := rb.int_inv
  exact PyProof.Rows.mod_int' h ⟨p.toks, .int _ _⟩
theorem BinR.cat {x y : Str} (h : x.length + y.length ≤ sizeLine) : BinR c .Add (.str x) (.str y) (.str (x ++ y)) := fun Z n σ A s u v p ra rb => by
  obtain ⟨t, rfl⟩ := ra.str_inv; obtain ⟨t', rfl⟩ := rb.str_inv
  exact PySem.SB.add (fun t' k => ⟨p.toks, .str _ _⟩) h
theorem BinR.rep {x : Str} {k : Int} (h : MulOk x k) : BinR c .Mult (.str x) (.int k) (.str (Txt.mul x k)) := fun Z n σ A s u v p ra rb => by
  obtain ⟨t, rfl⟩ := ra.str_inv; obtain ⟨t', rfl⟩ := rb.int_inv
  exact PySem.SB.mul h (fun t' k => ⟨p.toks, .str _ _⟩)

/-! ## comparisons -/
noncomputable def CmpR (c : Cx) (op : CmpOp) (a b : PyData) (r : Bool) : Prop :=
  ∀ Z n σ A s u v, Pre c Z n σ A s → Rp Z s.heap u a → Rp Z s.heap v b → wpAny c.M A (compareOp op u v) (fun x s' => Post c Z σ σ s s' ∧ x = .bool r) NoE s
theorem Ev.cmp {l r : Expr} {op : CmpOp} {pos : Pos} {a b : PyData} {x : Bool} (hl : Ev c n sc ρ σ l a σ₁) (hr : Ev c n sc ρ σ₁ r b σ₂) (h : CmpR c op a b x) (hm : behindInMarks op r = false := by with_unfolding_all rfl) : Ev c n sc ρ σ (.Compare l [op] [r] pos) (.bool x) σ₂ := fun Z A env s I =>
  wpAny_Compare1 (hl.seq hr I fun u v s' P I' ra rb => wp_mono (h Z n σ₂ A s' u v I'.pre ra rb) fun y s'' ⟨P', e⟩ => ⟨P.trans P', e ▸ .bool _⟩) hm
theorem EvB.cmp {l r : Expr} {op : CmpOp} {pos : Pos} {a b : PyData} {x : Bool} (hl : Ev c n sc ρ σ l a σ₁) (hr : Ev c n sc ρ σ₁ r b σ₂) (h : CmpR c op a b x) (hm : behindInMarks op r = false := by with_unfolding_all rfl) : EvB c n sc ρ σ (.Compare l [op] [r] pos) x σ₂ := fun Z A env s I =>
  wpAny_isTrue_Compare1 (hl.seq hr I fun u v s' P I' ra rb => wp_mono (h Z n σ₂ A s' u v I'.pre ra rb) fun y s'' ⟨P', e⟩ => by subst e; exact wpAny_truthy_bool ⟨rfl, P.trans P'⟩) hm
theorem CmpR.lt {a b : Int} : CmpR c .Lt (.int a) (.int b) (decide (a < b)) := fun Z n σ A s u v p ra rb => by
  obtain ⟨t, rfl⟩ := ra.int_inv; obtain ⟨t', rfl⟩ := rb.int_inv
  exact PySem.P.lt_int ⟨p.same, rfl⟩
theorem CmpR.le {a b : Int} : CmpR c .LtE (.int a) (.int b) (decide (a ≤ b)) := fun Z n σ A s u v p ra rb => by
  obtain ⟨t, rfl⟩ := ra.int_inv; obtain ⟨t', rfl⟩ := rb.int_inv
  exact PySem.P.le_int ⟨p.same, rfl⟩
theorem CmpR.ge {a b : Int} : CmpR c .GtE (.int a) (.int b) (decide (a ≥ b)) := fun Z n σ A s u v p ra rb => by
  obtain ⟨t, rfl⟩ := ra.int_inv; obtain ⟨t', rfl⟩ := rb.int_inv
  exact PySem.P.ge_int ⟨p.same, rfl⟩
theorem CmpR.eqI {a b : Int} : CmpR c .Eq (.int a) (.int b) (a == b) := fun Z n σ A s u v p ra rb => by
  obtain ⟨t, rfl⟩ := ra.int_inv; obtain ⟨t', rfl⟩ := rb.int_inv
  exact PySem.P.eq_int ⟨p.same, rfl⟩
theorem CmpR.eqS {x y : Str} : CmpR c .Eq (.str x) (.str y) (x.cps.toList == y.cps.toList) := fun Z n σ A s u v p ra rb => by
  obtain ⟨t, rfl⟩ := ra.str_inv; obtain ⟨t', rfl⟩ := rb.str_inv
  exact PySem.P.eq_str ⟨p.same, rfl⟩
theorem CmpR.neS {x y : Str} : CmpR c .NotEq (.str x) (.str y) (x.cps.toList != y.cps.toList) := fun Z n σ A s u v p ra rb => by
  obtain ⟨t, rfl⟩ := ra.str_inv; obtain ⟨t', rfl⟩ := rb.str_inv
  exact PySem.P.ne_str ⟨p.same, rfl⟩

/-! ## tests -/
theorem EvB.not {x : Expr} {pos : Pos} {b : Bool} (h : EvB c n sc ρ σ x b σ') : EvB c n sc ρ σ (.UnaryOp .Not x pos) (!b) σ' := fun Z A env s I =>
  wpAny_isTrue_Not (wp_mono (h Z A env s I) fun r s' ⟨e, P⟩ => ⟨by rw [e], P⟩)
theorem EvB.or {x y : Expr} {pos : Pos} {a b : Bool} (hx : EvB c n sc ρ σ x a σ) (hy : a = false → EvB c n sc ρ σ y b σ) : EvB c n sc ρ σ (.BoolOp .Or [x, y] pos) (a || b) σ := fun Z A env s I => by
  refine wpAny_isTrue_BoolOp (wpAny_allTrue_Or_cons (wp_mono (hx Z A env s I) fun r s' ⟨e, P⟩ => ?_))
  subst e
  cases r with
  | true => exact ⟨rfl, P⟩
  | false =>
    simp only [Bool.false_eq_true, if_false]
    refine wpAny_allTrue_Or_cons (wp_mono (hy rfl Z A env s' (I.post P)) fun r s'' ⟨e, P'⟩ => ?_)
    subst e
    cases r with
    | true => exact ⟨rfl, P.trans P'⟩
    | false => exact wpAny_allTrue_Or_nil ⟨rfl, P.trans P'⟩
/-- the worth of a bool -/
theorem EvB.val {e : Expr} {b : Bool} (h : Ev c n sc ρ σ e (.bool b) σ') (he : ∀ env whole, isTrue e env whole = (do let v ← whole; standAt e.pos; holding [v] (truthy v)) := by intro _ _; rfl) : EvB c n sc ρ σ e b σ' := fun Z A env s I =>
  wpAny_isTrue_value (wp_mono (h Z A env s I) fun v s' ⟨P, r⟩ => by rw [r.bool_inv]; exact wpAny_truthy_bool ⟨rfl, P⟩) (he _ _)
theorem Ev.ifExp {t x y : Expr} {pos : Pos} {b : Bool} {d : PyData} (ht : EvB c n sc ρ σ t b σ) (h1 : b = true → Ev c n sc ρ σ x d σ') (h2 : b = false → Ev c n sc ρ σ y d σ') : Ev c n sc ρ σ (.IfExp t x y pos) d σ' := fun Z A env s I => by
  refine wpAny_IfExp (wp_mono (ht Z A env s I) fun r s' ⟨e, P⟩ => ?_)
  subst e
  cases r with
  | true => exact wp_mono (h1 rfl Z A env s' (I.post P)) fun v s'' ⟨P', r⟩ => ⟨P.trans P', r⟩
  | false => exact wp_mono (h2 rfl Z A env s' (I.post P)) fun v s'' ⟨P', r⟩ => ⟨P.trans P', r⟩

/-! ## arguments -/
noncomputable def EvA (c : Cx) (n : Nat) (sc : Scope) (ρ : Loc) (σ : Option Ac) (e : Expr) (v : V) : Prop :=
  ∀ Z A env s, In c Z n sc ρ σ A env s → wpAny c.M A (eval e env) (fun u s' => Post c Z σ σ s s' ∧ RV Z s'.heap σ u v) NoE s
theorem EvA.of {e : Expr} {d : PyData} (h : E1 c n sc ρ σ e d) : EvA c n sc ρ σ e (.d d) := fun Z A env s I => wp_mono (h Z A env s I) fun _ _ x => x
theorem EvA.ac {x : Str} {pos : Pos} (h : ρ.lookup x = some .ac) (hd : (x == ("__debug__" : Str)) = false := by rfl) (hc : (x == ("__classdict__" : Str)) = false := by rfl) : EvA c n sc ρ σ (.Name x pos) .ac := fun Z A env s I =>
  ev_acName h hd hc I fun a e => ⟨I.same, a, e, rfl⟩
noncomputable def Args (c : Cx) (n : Nat) (sc : Scope) (ρ : Loc) (σ : Option Ac) (es : List Expr) (vs : List V) : Prop :=
  (∀ env pos, (backTo pos (starEach es env)).any (·.1) = false) ∧
  ∀ Z A env s pos, In c Z n sc ρ σ A env s → ∀ (Q : List Value → Shared → Prop) (E : Value → Shared → Prop), (∀ us s', Post c Z σ σ s s' → In c Z n sc ρ σ A env s' → RVs Z s'.heap σ us vs → Q us s') → wpAny c.M A (spliced (backTo pos (starEach es env))) Q E s
theorem Args.nil : Args c n sc ρ σ [] [] := ⟨fun _ _ => rfl, fun Z A env s pos I Q E hQ => spliced_none (hQ [] s I.same I .nil)⟩
theorem Args.cons {e : Expr} {es : List Expr} {v : V} {vs : List V} (h : EvA c n sc ρ σ e v) (hs : Args c n sc ρ σ es vs) (he : ∀ env, starEach (e :: es) env = (false, eval e env) :: starEach es env := by intro _; rfl) : Args c n sc ρ σ (e :: es) (v :: vs) := by
  refine ⟨fun env pos => ?_, fun Z A env s pos I Q E hQ => ?_⟩
  · rw [he]; exact hs.1 env pos
  · refine spliced_more (wp_mono (h Z A env s I) fun u s₁ ⟨P₁, r₁⟩ => ?_) (he env)
    exact hs.2 Z A env s₁ pos (I.post P₁) _ _ fun us s₂ P₂ I₂ r₂ => hQ _ s₂ (P₁.trans P₂) I₂ (.cons (r₁.mono rfl P₂.stp.dat) r₂)

/-! ## names of the module and of the builtins -/
structure GlobIs (c : Cx) (sc : Scope) (f : Str) (v : Value) : Prop where
  kind : sc.names.lookup f = some .globalImplicit
  val : c.mg f = some v ∨ (c.mg f = none ∧ c.mb f = some v)
  dbg : (f == ("__debug__" : Str)) = false
theorem GlobIs.name {f : Str} {v : Value} (g : GlobIs c sc f v) {Z : AP} {A : Around} {env : Env} {s : Shared} {pos : Pos} (I : In c Z n sc ρ σ A env s) {Q : Value → Shared → Prop} {E : Value → Shared → Prop} (h : Q v s) : wpAny c.M A (eval (.Name f pos) env) Q E s := by
  refine Name_function_global (by rw [I.scope]; exact I.kind) (by rw [Env.kindOf, I.scope]; exact g.kind) ?_ g.dbg
  rcases g.val with e | ⟨e1, e2⟩
  · exact loadGlobal_global (by rw [I.gl]; exact I.old.g) e h
  · exact loadGlobal_builtin (by rw [I.gl]; exact I.old.g) e1 (by rw [I.bi]; exact I.old.b) e2 h

theorem evalArgs_of {M : Model} {A : Around} {E : Value → Shared → Prop} {s : Shared} {env : Env} {pos : Pos} {f : Value} {es : List Expr} {Q : PySem.Args → Shared → Prop} (hp : (backTo pos (starEach es env)).any (·.1) = false)
    (h : wpAny M A (spliced (backTo pos (starEach es env))) (fun vs s' => Q ⟨vs, []⟩ s') E s) : wpAny M A (evalArgs f true (backTo pos (starEach es env)) []) Q E s := by
  generalize backTo pos (starEach es env) = l at hp h
  cases l with
  | nil =>
    unfold evalArgs
    show wpAny M A (spliced [] >>= _) Q E s
    refine wpAny_bind (wpAny_mono h (fun vs s' h' => ?_) fun _ _ x => x)
    refine wpAny_holding ?_
    exact wpAny_bind (wpAny_pure (wpAny_bind (wpAny_pure (wpAny_pure h'))))
  | cons x r =>
    obtain ⟨b, t⟩ := x
    have : b = false := by simp only [List.any_cons, Bool.or_eq_false_iff] at hp; exact hp.1
    subst this
    exact evalArgs_plain h

/-! ## calls by name -/
theorem Ev.callFn {f : Str} {p pos : Pos} {a : Addr} {es : List Expr} {vs : List V} {d : PyData} (g : GlobIs c sc f (.ref a)) (hk : keepIn c.K (.ref a) = true) (ha : Args c n sc ρ σ es vs) (h : Fn c n a vs σ d σ') : Ev c n sc ρ σ (.Call (.Name f p) es [] pos) d σ' := fun Z A env s I => by
  refine wpAny_Call_NameR (g.name I (callWith_of (P := fun h => c.K.In h) (by rw [ha.1 env pos]; rfl) (keeps_K hk) (evalArgs_of (ha.1 env pos) ?_)))
  refine ha.2 Z A env s pos I _ _ fun us s' P I' r => ⟨I'.old.kin, ?_⟩
  exact h.call I'.pre r fun v s'' P' rv => ⟨P.trans P', rv⟩

/-- a builtin on such arguments -/
noncomputable def BfR (c : Cx) (n : Nat) (f : Value) (vs : List V) (σ : Option Ac) (d : PyData) (σ' : Option Ac) : Prop :=
  ∀ Z A s us, Pre c Z n σ A s → RVs Z s.heap σ us vs → wpAny c.M A (call f us) (fun v s' => Post c Z σ σ' s s' ∧ Rp Z s'.heap v d) NoE s
theorem Ev.callB {f : Str} {p pos : Pos} {id : String} {es : List Expr} {vs : List V} {d : PyData} (g : GlobIs c sc f (.builtin id)) (ha : Args c n sc ρ σ es vs) (h : BfR c n (.builtin id) vs σ d σ') : Ev c n sc ρ σ (.Call (.Name f p) es [] pos) d σ' := fun Z A env s I => by
  refine wpAny_Call_NameR (g.name I (callWith_builtin (ha.1 env pos) (evalArgs_of (ha.1 env pos) ?_)))
  refine ha.2 Z A env s pos I _ _ fun us s' P I' r => ?_
  exact wp_mono (h Z A s' us I'.pre r) fun v s'' ⟨P', rv⟩ => ⟨P.trans P', rv⟩
theorem Ev.callT {f : Str} {p pos : Pos} {T : String} {es : List Expr} {vs : List V} {d : PyData} (g : GlobIs c sc f (.type T)) (ha : Args c n sc ρ σ es vs) (h : BfR c n (.type T) vs σ d σ') : Ev c n sc ρ σ (.Call (.Name f p) es [] pos) d σ' := fun Z A env s I => by
  refine wpAny_Call_NameR (g.name I (PyProof.Rows.callWith_type (ha.1 env pos) (evalArgs_of (ha.1 env pos) ?_)))
  refine ha.2 Z A env s pos I _ _ fun us s' P I' r => ?_
  exact wp_mono (h Z A s' us I'.pre r) fun v s'' ⟨P', rv⟩ => ⟨P.trans P', rv⟩
theorem BfR.lenS {x : Str} (h : x.length ≤ 1000000) : BfR c n (.builtin "len") [.d (.str x)] σ (.int x.length) σ := fun Z A s us p r => by
  cases r with
  | cons a r =>
    cases r
    obtain ⟨t, rfl⟩ := Rp.str_inv a
    exact PySem.P.len_str (by omega) ⟨p.toks, .int _ _⟩
end
end Mine
end

section
open PySem PySem.W PyProof.Rows PySem.Calls PySem.Spec
set_option Elab.async false
set_option linter.unusedVariables false
set_option maxRecDepth 100000
namespace Mine

section
variable {c : Cx} {n : Nat} {sc : Scope} {ρ : Loc} {σ σ₁ σ₂ σ' : Option Ac}

theorem RVs.data {Z : AP} {h : Heap} : ∀ {us : List Value} {ds : List PyData}, RVs Z h σ us (ds.map V.d) → Rps Z h us ds
  | _, [], r => by cases r; exact .nil
  | _, d :: ds, r => by
    cases r with
    | cons a r => exact .cons a (RVs.data r)
theorem Rps.rvs {Z : AP} {h : Heap} : ∀ {us : List Value} {ds : List PyData}, Rps Z h us ds → RVs Z h σ us (ds.map V.d)
  | _, _, .nil => .nil
  | _, _, .cons a r => .cons a (Rps.rvs r)

theorem Pre.zfresh {Z : AP} {A : Around} {s : Shared} (p : Pre c Z n σ A s) : ¬ Z s.heap.objs.size := fun z => by
  obtain ⟨o, e⟩ := p.zal _ z
  rw [none_of (Nat.le_refl _)] at e; cases e
theorem Pre.zlt {Z : AP} {A : Around} {s : Shared} (p : Pre c Z n σ A s) {a : Addr} (h : s.heap.get? a = none) : ¬ Z a := fun z => by
  obtain ⟨o, e⟩ := p.zal _ z
  rw [h] at e; cases e

/-- a new list, a new tuple -/
theorem Pre.newSeq {Z : AP} {A : Around} {s : Shared} (p : Pre c Z n σ A s) {us : List Value} {ds : List PyData} (r : Rps Z s.heap us ds) {tk : Tok} :
    (Post c Z σ σ s { s with heap := s.heap.push { cls := .type "list", data := .seq us.toArray }, toks := tk } ∧ Rp Z (s.heap.push { cls := .type "list", data := .seq us.toArray }) (.ref s.heap.objs.size) (.list ds)) ∧
    (Post c Z σ σ s { s with heap := s.heap.push { cls := .type "tuple", data := .seq us.toArray }, toks := tk } ∧ Rp Z (s.heap.push { cls := .type "tuple", data := .seq us.toArray }) (.ref s.heap.objs.size) (.tuple ds)) := by
  have k : ∀ (o : Obj) b o', s.heap.get? b = some o' → (s.heap.push o).get? b = some o' := fun o b o' e => Heap.get?_push_of_some _ e
  exact ⟨⟨p.heap (k _), .list p.zfresh (Heap.get?_push_size _ rfl) rfl rfl rfl (by simpa using r.step (.of_keep (k _)))⟩, ⟨p.heap (k _), .tuple p.zfresh (Heap.get?_push_size _ rfl) rfl rfl (by simpa using r.step (.of_keep (k _)))⟩⟩

theorem Ev.list {es : List Expr} {ds : List PyData} {pos : Pos} (h : Args c n sc ρ σ es (ds.map V.d)) (hl : ds.length ≤ 1000000) : E1 c n sc ρ σ (.List es pos) (.list ds) := fun Z A env s I =>
  wpAny_List_spliced (h.2 Z A env s pos I _ _ fun us s' P I' r => by
    have rs := RVs.data r
    refine ⟨by rw [rs.length, sizeLine_eq]; omega, ?_⟩
    have := (I'.pre.newSeq (tk := s'.toks) rs).1
    exact ⟨P.trans this.1, this.2⟩)
theorem Ev.tuple {es : List Expr} {ds : List PyData} {k : Nat} {pos : Pos} (h : Args c n sc ρ σ es (ds.map V.d)) (hl : ds.length ≤ 1000000) : E1 c n sc ρ σ (.Tuple es k pos) (.tuple ds) := fun Z A env s I =>
  wpAny_Tuple_spliced (h.2 Z A env s pos I _ _ fun us s' P I' r => by
    have rs := RVs.data r
    refine ⟨by rw [rs.length, sizeLine_eq]; omega, ?_⟩
    have := (I'.pre.newSeq (tk := s'.toks) rs).2
    exact ⟨P.trans this.1, this.2⟩)

/-! ## subscripts -/
theorem seqIndex_of {k : Int} {n : Nat} (h0 : 0 ≤ k) (h : k.toNat < n) : seqIndex? k n = some k.toNat := by
  have a : ¬ k < 0 := by omega
  have b : k < (n : Int) := by omega
  simp [seqIndex?, a, b, h0]
theorem Ev.itemL {v i : Expr} {pos : Pos} {ds : List PyData} {k : Int} {d : PyData} (hv : Ev c n sc ρ σ v (.list ds) σ₁) (hi : Ev c n sc ρ σ₁ i (.int k) σ₂) (h0 : 0 ≤ k) (hk : k < 2 ^ 63) (hd : ds[k.toNat]? = some d)
    (hs : ∀ o j, subscripted i false o j = operate [o, j] (getItem o j) := by intro _ _; rfl) : Ev c n sc ρ σ (.Subscript v i pos) d σ₂ := fun Z A env s I =>
  Subscript_ (hv.seq hi I fun u w s' P I' ra rb => by
    obtain ⟨a, vs, rfl, z, il, rs⟩ := ra.list_inv
    obtain ⟨t, rfl⟩ := rb.int_inv
    obtain ⟨x, hx, rx⟩ := rs.get _ hd
    exact tail_any il.typeIs slot_list_getitem.lookup (wpAny_getItem_list il h0 hk (by simpa using hx) ⟨P, rx⟩) (hs _ _))
theorem Ev.itemT {v i : Expr} {pos : Pos} {ds : List PyData} {k : Int} {d : PyData} (hv : Ev c n sc ρ σ v (.tuple ds) σ₁) (hi : Ev c n sc ρ σ₁ i (.int k) σ₂) (h0 : 0 ≤ k) (hk : k < 2 ^ 63) (hd : ds[k.toNat]? = some d)
    (hs : ∀ o j, subscripted i false o j = operate [o, j] (getItem o j) := by intro _ _; rfl) : Ev c n sc ρ σ (.Subscript v i pos) d σ₂ := fun Z A env s I =>
  Subscript_ (hv.seq hi I fun u w s' P I' ra rb => by
    obtain ⟨a, vs, rfl, z, il, rs⟩ := ra.tuple_inv
    obtain ⟨t, rfl⟩ := rb.int_inv
    obtain ⟨x, hx, rx⟩ := rs.get _ hd
    have hlt : k.toNat < vs.length := (List.getElem?_eq_some_iff.mp hx).1
    exact item_tupleT il (by omega) hk (j := k.toNat) (seqIndex_of h0 (by simpa using hlt)) hx ⟨P, rx⟩ (hs _ _))
theorem Ev.itemS {v i : Expr} {pos : Pos} {x : Str} {k : Int} {cp : Nat} (hv : Ev c n sc ρ σ v (.str x) σ₁) (hi : Ev c n sc ρ σ₁ i (.int k) σ₂) (h0 : 0 ≤ k) (hk : k < 2 ^ 63) (hd : x.cps[k.toNat]? = some cp)
    (hs : ∀ o j, subscripted i false o j = operate [o, j] (getItem o j) := by intro _ _; rfl) : Ev c n sc ρ σ (.Subscript v i pos) (.str ⟨#[cp]⟩) σ₂ := fun Z A env s I =>
  Subscript_ (hv.seq hi I fun u w s' P I' ra rb => by
    obtain ⟨t, rfl⟩ := ra.str_inv
    obtain ⟨t', rfl⟩ := rb.int_inv
    have hlt : k.toNat < x.cps.size := (Array.getElem?_eq_some_iff.mp hd).1
    have hj : seqIndex? k x.length = some k.toNat := seqIndex_of h0 hlt
    refine tail_any (typeIs_str s' x t) PySem.F.slot_str_getitem.lookup (PySem.P.getItem_str (by simp only [Bool.or_eq_false_iff, decide_eq_false_iff_not]; omega) (by rw [hj]; exact hd) ⟨P.trans I'.toks, .str _ _⟩) (hs _ _))

/-! ## data compared -/
theorem CmpR.eqD {a b : PyData} (ha : SeqAt.shaped a = true) (hb : SeqAt.shaped b = true) {r : Bool} (hr : PyData.eqv a b = r) : CmpR c .Eq a b r := fun Z n σ A s u v p ra rb => by
  obtain ⟨as, ra⟩ := ra.reads; obtain ⟨bs, rb⟩ := rb.reads
  exact SeqAt.compareEq_shaped ra rb ha hb (by have := p.room.uni; show A.units + 64 < 9900; omega) ⟨p.same, by rw [hr]⟩
theorem CmpR.neD {a b : PyData} (ha : SeqAt.shaped a = true) (hb : SeqAt.shaped b = true) {r : Bool} (hr : (!PyData.eqv a b) = r) : CmpR c .NotEq a b r := fun Z n σ A s u v p ra rb => by
  obtain ⟨as, ra⟩ := ra.reads; obtain ⟨bs, rb⟩ := rb.reads
  exact SeqAt.compareNe_shaped ra rb ha hb (by have := p.room.uni; show A.units + 64 < 9900; omega) ⟨p.same, by rw [hr]⟩
end
end Mine
end

section
open PySem PySem.W PyProof.Rows PySem.Calls PySem.Spec
set_option Elab.async false
set_option linter.unusedVariables false
set_option maxRecDepth 100000
namespace Mine

/-! ## loops by a fold -/
theorem Ss.fold {α β : Type} {c : Cx} {n : Nat} {sc : Scope} {ρ : Loc} {σ : Option Ac} {Q : QT} {target iter : Expr} {body rest : List Stmt} {pos : Pos} (xs : List α) (enc : α → PyData) (step : β → α → β) (b0 : β) (env : β → Loc) (ac : β → Option Ac) (P : List α → β → Prop)
    (hsrc : Src c n sc ρ σ iter (xs.map enc)) (h0 : Sub (env b0) ρ) (hσ : ac b0 = σ) (hP : P [] b0)
    (turn : ∀ pre x post b, pre ++ x :: post = xs → P pre b → ∃ ρ₂, Asg c n sc (env b) (ac b) target (enc x) ρ₂ ∧
      Ss c n sc ρ₂ (ac b) body (fun o ρ₃ σ₃ => match o with | .next | .cont => Sub (env (step b x)) ρ₃ ∧ ac (step b x) = σ₃ ∧ P (pre ++ [x]) (step b x) | .brk => False | .ret v => Q (.ret v) ρ₃ σ₃))
    (done : P xs (xs.foldl step b0) → Ss c n sc (env (xs.foldl step b0)) (ac (xs.foldl step b0)) rest Q) (hs : ∀ x env, foldedSetIterable iter env x = pure x := by intro _ _; rfl) : Ss c n sc ρ σ (.For target iter body [] pos :: rest) Q := by
  refine Ss.loop hsrc (fun pre todo ρ₁ σ₁ => ∃ l1 l2, l1 ++ l2 = xs ∧ pre = l1.map enc ∧ todo = l2.map enc ∧ P l1 (l1.foldl step b0) ∧ Le (env (l1.foldl step b0)) ρ₁ ∧ ac (l1.foldl step b0) = σ₁) ⟨[], xs, rfl, rfl, rfl, hP, h0.look, hσ⟩ (fun pre d todo ρ₁ σ₁ e ⟨l1, l2, e1, e2, e3, p, hs, ha⟩ => ?_) (fun ρ₁ σ₁ ⟨l1, l2, e1, e2, e3, p, hs, ha⟩ => ?_) hs
  · cases l2 with
    | nil => cases e3
    | cons x l2 =>
      cases e3
      subst ha
      obtain ⟨ρ₂, hA, hb⟩ := turn l1 x l2 _ e1 p
      refine ⟨ρ₂, fun Z A env s v I r => hA Z A env s v (I.weak hs) r, hb.mono fun o ρ₃ σ₃ q => ?_⟩
      have key : (Sub (env (step (l1.foldl step b0) x)) ρ₃ ∧ ac (step (l1.foldl step b0) x) = σ₃ ∧ P (l1 ++ [x]) (step (l1.foldl step b0) x)) → ∃ ρ₄, Le ρ₄ ρ₃ ∧ ∃ l1_1 l2_1, l1_1 ++ l2_1 = xs ∧ pre ++ [enc x] = l1_1.map enc ∧ l2.map enc = l2_1.map enc ∧ P l1_1 (l1_1.foldl step b0) ∧ Le (env (l1_1.foldl step b0)) ρ₄ ∧ ac (l1_1.foldl step b0) = σ₃ := by
        rintro ⟨q1, q2, q3⟩
        exact ⟨_, q1.look, l1 ++ [x], l2, by simpa using e1, by rw [e2]; simp, rfl, by simpa using q3, by simp [Le], by simpa using q2⟩
      cases o <;> first | exact q | exact key q
  · cases l2 with
    | cons _ _ => cases e3
    | nil =>
      rw [List.append_nil] at e1
      subst e1; subst ha
      exact fun Z A env s I => done p Z A env s (I.weak hs)
theorem Ev.ifE {c : Cx} {n : Nat} {sc : Scope} {ρ : Loc} {σ σ' : Option Ac} {t x y : Expr} {pos : Pos} {b : Bool} {d1 d2 : PyData} (ht : EvB c n sc ρ σ t b σ) (h1 : b = true → Ev c n sc ρ σ x d1 σ') (h2 : b = false → Ev c n sc ρ σ y d2 σ') : Ev c n sc ρ σ (.IfExp t x y pos) (if b then d1 else d2) σ' := by
  cases b with
  | true => exact .ifExp ht h1 fun e => by cases e
  | false => exact .ifExp ht (fun e => by cases e) h2
theorem Ss.set {c : Cx} {n : Nat} {sc : Scope} {ρ : Loc} {σ σ' : Option Ac} {Q : QT} {x : Str} {p pos : Pos} {e : Expr} {d : PyData} {rest : List Stmt} (h : Ev c n sc ρ σ e d σ') (hn : Ss c n sc ((x, .d d) :: ρ) σ' rest Q) (hx : sc.names.lookup x = some .local := by rfl)
    (hs : ∀ env : Env, env.scope = sc → swapsWith e (some (.Name x p)) pos.line env = pure false := by intro _ _; rfl) : Ss c n sc ρ σ (.Assign [.Name x p] e pos :: rest) Q := .step (.assign h (.inl hx) hs) hn
theorem Ss.setC {c : Cx} {n : Nat} {sc : Scope} {ρ : Loc} {σ σ' : Option Ac} {Q : QT} {x : Str} {p pos : Pos} {e : Expr} {d : PyData} {rest : List Stmt} (h : Ev c n sc ρ σ e d σ') (hn : Ss c n sc ((x, .d d) :: ρ) σ' rest Q) (hx : sc.names.lookup x = some .cell := by rfl)
    (hs : ∀ env : Env, env.scope = sc → swapsWith e (some (.Name x p)) pos.line env = pure false := by intro _ _; rfl) : Ss c n sc ρ σ (.Assign [.Name x p] e pos :: rest) Q := .step (.assign h (.inr ⟨rfl, hx⟩) hs) hn
/-! ## the program's defs, by place -/
structure Df where
  params : Arguments
  body : List Stmt
  scope : Scope
noncomputable def dfOf : Stmt → Option Df
  | .FunctionDef _ args body _ _ _ scope _ _ _ => some ⟨args, body, scope⟩
  | _ => none
noncomputable def membersOf : Stmt → List Stmt
  | .ClassDef _ _ _ body _ _ _ _ _ _ _ => body
  | _ => []
noncomputable def dfAt (i : Nat) : Option Df := (Challenge.pw_xl0015_01.main.body[i]?).bind dfOf
noncomputable def dfIn (i j : Nat) : Option Df := (Challenge.pw_xl0015_01.main.body[i]?).bind fun s => ((membersOf s)[j]?).bind dfOf
noncomputable def dfNone : Df := ⟨{ posonlyargs := [], args := [], vararg := none, kwonlyargs := [], kw_defaults := [], kwarg := none, defaults := [] }, [], { kind := .function, names := [], isGenerator := false, isCoroutine := false, more := [] }⟩

structure DefAt (c : Cx) (a : Addr) (df : Df) (dfl : Value) (clo : List (Str × Addr)) : Prop where
  it : ∃ oc od osl fd, c.K.lookup a = some ⟨oc, od, .func fd, osl⟩ ∧ fd.params = df.params ∧ fd.body = .stmts df.body ∧ fd.scope = df.scope ∧ fd.globals = mainGlobals ∧ fd.builtins = builtinsNs ∧
    fd.closure = clo ∧ codeIn c.K fd.code fd.qualname = true ∧ fd.defaults = dfl ∧ fd.kwdefaults = .none

noncomputable def okDf (df : Df) (names : List Str) : Bool := !df.scope.isCoroutine && !df.scope.isGenerator && df.scope.kind == .function && decide ((df.scope.names.filter fun y => y.2 == .cell).map (·.1)).Nodup && df.scope.names.all (fun y => y.2 != .free) &&
  names.all fun x => df.scope.names.lookup x == some .local || df.scope.names.lookup x == some .cell

theorem Fn.of {c : Cx} {n : Nat} {a : Addr} {args : List V} {σ σ' : Option Ac} {d : PyData} {df : Df} {names : List Str} (D : DefAt c a df .none []) (ok : okDf df names = true)
    (hbind : ∀ fd : FuncData, fd.params = df.params → fd.defaults = .none → fd.kwdefaults = .none → ∀ us : List Value, us.length = args.length → bindArgs fd ⟨us, []⟩ = pure (names.zip us)) (hlen : names.length = args.length)
    (h : Ss c n df.scope (names.zip args).reverse σ df.body (fun o _ σ₁ => (o = .ret d ∨ (o = .next ∧ d = .none)) ∧ σ₁ = σ')) : Fn c (n + 1) a args σ d σ' := by
  obtain ⟨oc, od, osl, fd, hl, hp, hb, hs, hg, hbi, hc, hcd, hd, hk⟩ := D.it
  simp only [okDf, Bool.and_eq_true, Bool.not_eq_true', beq_iff_eq, decide_eq_true_eq, List.all_eq_true, Bool.or_eq_true, bne_iff_ne] at ok
  obtain ⟨⟨⟨⟨⟨o1, o2⟩, o3⟩, o4⟩, o5⟩, o6⟩ := ok
  exact Fn.body hl hb hs hg hbi hc hcd o1 o2 o3 o4 o5 (hbind fd hp hd hk) hlen (fun x hx => (o6 x hx).imp id fun e => ⟨rfl, e⟩) h

theorem args1 {us : List Value} (h : us.length = 1) : ∃ u, us = [u] := List.length_eq_one_iff.mp h
theorem args2 {us : List Value} (h : us.length = 2) : ∃ u v, us = [u, v] := by
  obtain ⟨u, l, rfl⟩ := List.exists_cons_of_length_eq_add_one h
  obtain ⟨v, rfl⟩ := args1 (Nat.succ.inj h)
  exact ⟨u, v, rfl⟩
theorem args3 {us : List Value} (h : us.length = 3) : ∃ u v w, us = [u, v, w] := by
  obtain ⟨u, l, rfl⟩ := List.exists_cons_of_length_eq_add_one h
  obtain ⟨v, w, rfl⟩ := args2 (Nat.succ.inj h)
  exact ⟨u, v, w, rfl⟩
theorem args4 {us : List Value} (h : us.length = 4) : ∃ u v w x, us = [u, v, w, x] := by
  obtain ⟨u, l, rfl⟩ := List.exists_cons_of_length_eq_add_one h
  obtain ⟨v, w, x, rfl⟩ := args3 (Nat.succ.inj h)
  exact ⟨u, v, w, x, rfl⟩
theorem fd_is {fd : FuncData} {ps : Arguments} (e1 : fd.params = ps) (e2 : fd.defaults = .none) (e3 : fd.kwdefaults = .none) : fd = { fd with params := ps, defaults := .none, kwdefaults := .none } := by
  subst e1
  rw [← e2]
  conv => rhs; arg 9; rw [e2, ← e3]

noncomputable def dColumn : Df := (dfAt 11).getD dfNone
noncomputable def dJob : Df := (dfAt 12).getD dfNone
noncomputable def dName : Df := (dfAt 13).getD dfNone
noncomputable def dSend : Df := (dfAt 14).getD dfNone
noncomputable def dLaw : Df := (dfAt 15).getD dfNone
noncomputable def dParse : Df := (dfAt 7).getD dfNone
noncomputable def dAccInit : Df := (dfIn 3 0).getD dfNone
noncomputable def dPush : Df := (dfIn 3 1).getD dfNone
noncomputable def dPopFrom : Df := (dfIn 3 2).getD dfNone
noncomputable def dLen : Df := (dfIn 3 4).getD dfNone
noncomputable def dStr : Df := (dfIn 3 5).getD dfNone
noncomputable def dPart : Df := (dfIn 3 8).getD dfNone
noncomputable def dWsInit : Df := (dfIn 9 1).getD dfNone
noncomputable def dIndent : Df := (dfIn 9 3).getD dfNone

/-! ## _law_column -/
noncomputable def colStep (size : Int) (col : Int) (k : Nat) : Int := if k = 32 then col + 1 else col - col.fmod size + size
noncomputable def column (lead : Str) (size : Int) : Int := lead.cps.toList.foldl (colStep size) 0

theorem fn_column {c : Cx} {n : Nat} {lead : Str} {size : Int} (D : DefAt c 209 dColumn .none []) (ha : lead.cps.all (· < 128) = true) (hs : size ≠ 0) : Fn c (n + 1) 209 [.d (.str lead), .d (.int size)] none (.int (column lead size)) none := by
  refine Fn.of (names := ["lead", "size"]) D (by decide +kernel) (fun fd e1 e2 e3 us hu => ?_) rfl ?_
  · obtain ⟨u, v, rfl⟩ := args2 hu
    rw [fd_is e1 e2 e3]; rfl
  refine Ss.set .int ?_
  refine Ss.fold lead.cps.toList (fun k => .str ⟨#[k]⟩) (colStep size) 0 (fun col => [("column", .d (.int col)), ("size", .d (.int size))]) (fun _ => none) (fun _ _ => True) (.str .name ha) ⟨by rfl, by rfl, trivial⟩ rfl trivial
    (fun pre k post col e _ => ⟨_, .name (.inl (by rfl)), ?_⟩) (fun _ => .ret .name ⟨.inl rfl, rfl⟩)
  refine Ss.set (.ifE (.cmp .name .str .eqS) (fun h => .bin .name .int .add) (fun h => .bin (.bin .name (.bin .name .name (.fmod hs)) .sub) .name .add)) (.nil ?_)
  refine ⟨⟨?_, by rfl, trivial⟩, rfl, trivial⟩
  show some (V.d _) = some (V.d _)
  congr 2
  have e1 : (Str.ofString " ").cps.toList = [32] := by rfl
  rw [e1, colStep]
  by_cases h : k = 32
  · subst h; rfl
  · have : ([k] == [32]) = false := by simpa using h
    simp [h]
end Mine
end

section
open PySem PySem.W PyProof.Rows PySem.Calls PySem.Spec
set_option Elab.async false
set_option linter.unusedVariables false
set_option maxRecDepth 100000
namespace Mine

/-! ## tokens only grow -/
theorem runs_toks {M : Model} {Γ : PySem.Ctx} {p : Pos} {t : Sem Fin} {fs : List PySem.Frame} {s : Shared} {e : End} {s' : Shared} (h : Runs M Γ p t fs s e s') : s.toks ≤ s'.toks := by
  induction h <;> first
    | exact Nat.le_refl _
    | assumption
    | exact Nat.le_trans (by assumption) (by assumption)
    | (rename_i ih; exact Nat.le_trans (Nat.le_succ _) ih)
    | (simp only [Shared.setGen] at *; omega)
theorem wp_toks {M : Model} {Γ : PySem.Ctx} {α : Type} (t : Sem α) : ∀ {Q : α → Pos → Shared → Prop} {E : Value → Pos → Shared → Prop} {p : Pos} {s : Shared}, Sem.wp M Γ t Q E p s → Sem.wp M Γ t (fun a p' s' => s.toks ≤ s'.toks ∧ Q a p' s') E p s := by
  induction t with
  | pure x => exact fun h => ⟨Nat.le_refl _, h⟩
  | raise v => exact fun h => h
  | unsupported | finish | yield | fork | await | register => exact fun h => h
  | rule _ k ih | «at» _ k ih | alloc _ k ih | loadIfAlive _ k ih | point _ k ih | ask k ih | os _ _ k ih | handled _ k ih | newGen _ k ih | stack k ih | thread k ih => exact fun h => ih _ h
  | fresh k ih => exact fun h => Sem.wp_mono _ _ _ (fun a p' s' ⟨x, y⟩ => ⟨Nat.le_trans (Nat.le_succ _) x, y⟩) (fun _ _ _ x => x) _ _ (ih _ h)
  | load a _ k ih | genState a k ih => exact fun ⟨o, ho, h⟩ => ⟨o, ho, ih _ h⟩
  | update a _ f k ih | choose _ _ k ih => exact fun ⟨ha, h⟩ => ⟨ha, ih _ h⟩
  | call c h g l k ih =>
    intro Q E p s ⟨r, s', hr, h⟩
    exact ⟨r, s', hr, Sem.wp_mono _ _ _ (fun a p' s'' ⟨x, y⟩ => ⟨Nat.le_trans (runs_toks hr) x, y⟩) (fun _ _ _ x => x) _ _ (ih _ h)⟩
  | resume g r l k ih =>
    intro Q E p s ⟨res, s', hw, h⟩
    refine ⟨res, s', hw, Sem.wp_mono _ _ _ (fun a p' s'' ⟨x, y⟩ => ⟨Nat.le_trans ?_ x, y⟩) (fun _ _ _ x => x) _ _ (ih _ h)⟩
    unfold Wakes at hw
    split at hw
    · exact hw.elim
    · split at hw
      · obtain ⟨e₁, s₁, h1, h2, rfl, rfl⟩ := hw
        have q := runs_toks h1
        exact q
      · rw [hw.2]; exact Nat.le_refl _
      · rw [hw.2]; exact Nat.le_refl _
    · obtain ⟨e₁, s₁, h1, h2, rfl, rfl⟩ := hw
      have q := runs_toks h1
      exact q
    · rw [hw.2]; exact Nat.le_refl _
    · rw [hw.2]; exact Nat.le_refl _
theorem wpAny_toks {M : Model} {A : Around} {α : Type} {t : Sem α} {Q : α → Shared → Prop} {E : Value → Shared → Prop} {s : Shared} (h : wpAny M A t Q E s) : wpAny M A t (fun a s' => s.toks ≤ s'.toks ∧ Q a s') E s :=
  fun Γ p hΓ => Sem.wp_mono _ _ _ (fun _ _ _ x => x) (fun _ _ _ x => x) _ _ (wp_toks t (h Γ p hΓ))

section
variable {c : Cx} {n : Nat} {sc : Scope} {ρ ρ' : Loc} {σ σ₁ σ₂ σ' : Option Ac} {Q : QT}
noncomputable def EvT (c : Cx) (n : Nat) (sc : Scope) (ρ : Loc) (σ : Option Ac) (e : Expr) (d : PyData) (σ' : Option Ac) : Prop :=
  ∀ Z A env s, In c Z n sc ρ σ A env s → 0 < s.toks → wpAny c.M A (eval e env) (fun v s' => Post c Z σ σ' s s' ∧ Rp Z s'.heap v d) NoE s
noncomputable def SsT (c : Cx) (n : Nat) (sc : Scope) (ρ : Loc) (σ : Option Ac) (body : List Stmt) (Q : QT) : Prop :=
  ∀ Z A env s, In c Z n sc ρ σ A env s → 0 < s.toks → wpAny c.M A (execs body env) (Left c Z n sc σ A env Q s) NoE s
theorem EvT.of {e : Expr} {d : PyData} (h : Ev c n sc ρ σ e d σ') : EvT c n sc ρ σ e d σ' := fun Z A env s I _ => h Z A env s I
theorem EvT.bin {l r : Expr} {op : Operator} {pos : Pos} {a b x : PyData} (hl : EvT c n sc ρ σ l a σ₁) (hr : EvT c n sc ρ σ₁ r b σ₂) (h : BinR c op a b x) : EvT c n sc ρ σ (.BinOp l op r pos) x σ₂ := fun Z A env s I tp =>
  wpAny_BinOp (wp_mono (wpAny_toks (hl Z A env s I tp)) fun u s₁ ⟨t₁, P₁, r₁⟩ => wp_mono (hr Z A env s₁ (I.post P₁) (Nat.lt_of_lt_of_le tp t₁)) fun v s₂ ⟨P₂, r₂⟩ =>
    wp_mono (h Z n σ₂ A s₂ u v ((I.post P₁).post P₂).pre (r₁.step P₂.stp.dat) r₂) fun x s'' ⟨P', rx⟩ => ⟨(P₁.trans P₂).trans P', rx⟩)
theorem SsT.step {st : Stmt} {rest : List Stmt} (h : S1 c n sc ρ σ st (Qn ρ' σ')) (hn : SsT c n sc ρ' σ' rest Q) : SsT c n sc ρ σ (st :: rest) Q := fun Z A env s I tp => by
  refine wpAny_execs_cons (wp_mono (wpAny_toks (h Z A env s I)) fun f s₁ ⟨t₁, o, ρ₁, σ₁, ⟨e1, e2, e3⟩, I', P, F⟩ => ?_)
  subst e1; subst e2; subst e3
  cases f <;> first | exact F.elim | exact wp_mono (hn Z A env s₁ I' (Nat.lt_of_lt_of_le tp t₁)) fun f' s₂ L => L.of P
theorem SsT.set {x : Str} {p pos : Pos} {e : Expr} {d : PyData} {rest : List Stmt} (h : Ev c n sc ρ σ e d σ') (hn : SsT c n sc ((x, .d d) :: ρ) σ' rest Q) (hx : sc.names.lookup x = some .local := by rfl)
    (hs : ∀ env : Env, env.scope = sc → swapsWith e (some (.Name x p)) pos.line env = pure false := by intro _ _; rfl) : SsT c n sc ρ σ (.Assign [.Name x p] e pos :: rest) Q := .step (.assign h (.inl hx) hs) hn
theorem SsT.last {x : Str} {p pos : Pos} {e : Expr} {d : PyData} {rest : List Stmt} (h : EvT c n sc ρ σ e d σ') (hn : Ss c n sc ((x, .d d) :: ρ) σ' rest Q) (hx : sc.names.lookup x = some .local := by rfl)
    (hs : ∀ env : Env, env.scope = sc → swapsWith e (some (.Name x p)) pos.line env = pure false := by intro _ _; rfl) : SsT c n sc ρ σ (.Assign [.Name x p] e pos :: rest) Q := fun Z A env s I tp =>
  wpAny_execs_cons (wpAny_Assign_Name (wp_mono (h Z A env s I tp) fun v s' ⟨P, r⟩ => (I.post P).store (all := true) (.inl hx) (v := .d d) r fun s'' I'' P'' => wp_mono (hn Z A env s'' I'') fun f' s₂ L => L.of (P.toF.trans P'')) (hs env I.scope))
/-- a first statement that makes a token -/
theorem Ss.grow {x : Str} {p pos bp cp : Pos} {l : Expr} {op : Operator} {k : Int} {kk : Nat} {a d : PyData} {rest : List Stmt} (hl : Ev c n sc ρ σ l a σ') (h : BinR c op a (.int k) d) (hn : SsT c n sc ((x, .d d) :: ρ) σ' rest Q) (hx : sc.names.lookup x = some .local := by rfl)
    (hs : ∀ env : Env, env.scope = sc → swapsWith (.BinOp l op (.Constant (.int k) kk cp) bp) (some (.Name x p)) pos.line env = pure false := by intro _ _; rfl) : Ss c n sc ρ σ (.Assign [.Name x p] (.BinOp l op (.Constant (.int k) kk cp) bp) pos :: rest) Q := fun Z A env s I => by
  refine wpAny_execs_cons (wpAny_Assign_Name (wpAny_BinOp (wp_mono (hl Z A env s I) fun u s₁ ⟨P₁, r₁⟩ => wpAny_Constant_int ?_)) (hs env I.scope))
  have I₁ := I.post P₁
  have I₂ := I₁.post (I₁.toks (tk := s₁.toks + 1))
  refine wp_mono (wpAny_toks (h Z n σ' A _ u (.int k s₁.toks) I₂.pre r₁ (.int _ _))) fun v s₂ ⟨t₂, P₂, r₂⟩ => ?_
  refine wp_mono (wpAny_toks ((I₂.post P₂).store (E := NoE) (all := true) (.inl hx) (v := .d d) r₂ (Q := fun _ s' => In c Z n sc ((x, .d d) :: ρ) σ' A env s' ∧ PostF c env σ' σ' s₂ s') fun s'' I'' P'' => ⟨I'', P''⟩)) fun _ s₃ ⟨t₃, I₃, P₃⟩ => ?_
  refine wp_mono (hn Z A env s₃ I₃ (Nat.lt_of_lt_of_le (Nat.succ_pos _) (Nat.le_trans t₂ t₃))) fun f' s₄ L => L.of ((((P₁.trans I₁.toks).trans P₂).toF).trans P₃)

theorem EvT.replace {x y z : Str} {o : Expr} {apos pos p1 p2 : Pos} {k1 k2 : Nat} (ho : E1 c n sc ρ σ o (.str x)) (hyz : (y == z) = false) (hb : x.length + (x.length + 1) * z.length ≤ 16777216)
    (hbase : ∀ env, attributeBase o "replace" env (eval o env) = eval o env := by intro _; rfl) (hline : (apos.endLine == pos.line) = true := by rfl) :
    EvT c n sc ρ σ (.Call (.Attribute o "replace" apos) [.Constant (.str y) k1 p1, .Constant (.str z) k2 p2] [] pos) (.str (Txt.replace x y z)) σ := fun Z A env s I tp => by
  refine Call_method2 (hbase env) rfl hline (wp_mono (wpAny_toks (ho Z A env s I)) fun ov s₁ ⟨t₁, P, r⟩ => ?_)
  obtain ⟨t, rfl⟩ := r.str_inv
  refine ⟨"str", _, F.plainAttrs_str, F.slot_str_replace, F.type_str_replace, typeIs_str _ _ _, (fun _ e => nomatch e), Calls.callWith_builtin rfl ?_⟩
  have tp₁ := Nat.lt_of_lt_of_le tp t₁
  refine Calls.evalArgs_plain (Calls.spliced_cons (wpAny_Constant_str (Calls.spliced_cons (wpAny_Constant_str (Calls.spliced_nil ?_)))))
  exact SC.replace (Nat.ne_of_gt tp₁) (Nat.succ_ne_zero _) (Nat.ne_of_lt (Nat.lt_succ_self _)) hyz hb fun t' k => ⟨P.trans (I.post P).toks, .str _ _⟩
end
end Mine
end

section
open PySem PySem.W PyProof.Rows PySem.Calls PySem.Spec
set_option Elab.async false
set_option linter.unusedVariables false
set_option maxRecDepth 100000
namespace Mine

/-! ## texts as lists -/
noncomputable def tx (l : List Nat) : Str := ⟨l.toArray⟩
theorem tx_length (l : List Nat) : (tx l).length = l.length := by simp [tx, Str.length]
theorem tx_list (l : List Nat) : (tx l).cps.toList = l := by simp [tx]
theorem tx_append (a b : List Nat) : tx a ++ tx b = tx (a ++ b) := by
  show Str.mk _ = Str.mk _
  simp [tx]
theorem tx_inj {a b : List Nat} (h : tx a = tx b) : a = b := by
  have := congrArg (fun s : Str => s.cps.toList) h
  simpa [tx_list] using this
theorem mul_one (k : Nat) (n : Nat) : Txt.mul (tx [k]) (n : Int) = tx (List.replicate n k) := by
  unfold Txt.mul
  by_cases h : n = 0
  · subst h; rfl
  · rw [if_neg (by omega)]
    by_cases h1 : n = 1
    · subst h1; rfl
    · rw [if_neg (by simp [tx, Str.length]; omega)]
      have : ∀ (m : Nat) (acc : Array Nat), ((List.replicate m (tx [k]).cps).foldl (· ++ ·) acc) = (acc.toList ++ List.replicate m k).toArray := by
        intro m
        induction m with
        | zero => intro acc; simp
        | succ m ih => intro acc; rw [List.replicate_succ, List.foldl_cons, ih]; simp [tx, List.replicate_succ]
      show Str.mk _ = Str.mk _
      rw [this]
      simp

section
variable {c : Cx} {n : Nat} {sc : Scope} {ρ : Loc} {σ σ' : Option Ac}
theorem BinR.to {op : Operator} {a b d d' : PyData} (h : BinR c op a b d) (e : d = d') : BinR c op a b d' := e ▸ h
theorem Ev.to {e : Expr} {d d' : PyData} (h : Ev c n sc ρ σ e d σ') (q : d = d') : Ev c n sc ρ σ e d' σ' := q ▸ h
theorem EvT.to {e : Expr} {d d' : PyData} (h : EvT c n sc ρ σ e d σ') (q : d = d') : EvT c n sc ρ σ e d' σ' := q ▸ h
theorem Ev.lit {x : Str} {l : List Nat} {k : Nat} {pos : Pos} (h : x = tx l := by rfl) : E1 c n sc ρ σ (.Constant (.str x) k pos) (.str (tx l)) := h ▸ .str
theorem BinR.rep1 {k m : Nat} (h : m ≤ 1000) : BinR c .Mult (.str (tx [k])) (.int (m : Int)) (.str (tx (List.replicate m k))) :=
  (BinR.rep (mulOk_of 1 1000 (Nat.le_refl _) (by omega) (by omega) (by omega) (by omega))).to (by rw [mul_one])
theorem BinR.catL {a b : List Nat} (h : a.length + b.length ≤ 1000000) : BinR c .Add (.str (tx a)) (.str (tx b)) (.str (tx (a ++ b))) :=
  (BinR.cat (by rw [tx_length, tx_length, sizeLine_eq]; omega)).to (by rw [tx_append])
end

/-! ## the jobs -/
structure Job where
  a : Nat
  b : Nat
  e : Nat
  m : Nat
  l : Nat
  u : Nat
  k : Nat
noncomputable def jobP (x : Int) : Job := ⟨(x.fmod 4).toNat, ((x.fdiv 4).fmod 3).toNat, ((x.fdiv 12).fmod 4).toNat, ((x.fdiv 48).fmod 4).toNat, ((x.fdiv 192).fmod 4).toNat, ((x.fdiv 768).fmod 3).toNat, ((x.fdiv 2304).fmod 6).toNat⟩
namespace Job
variable (p : Job) (ch : Nat)
noncomputable def lead : List Nat := List.replicate (p.a * 2) 32 ++ List.replicate p.b 9 ++ List.replicate p.e 32
noncomputable def name : List Nat := List.replicate (p.m / 2) 34 ++ List.replicate p.l ch ++ List.replicate (p.m - p.m / 2) 34
noncomputable def white : List Nat := List.replicate p.u 32
noncomputable def heads : List (List Nat) := [[50, 53, 48, 32, 34], if p.m % 2 = 0 then [50, 53, 55, 45, 34] else [50, 53, 55, 32, 39], [50, 53, 55, 32, 34], [50, 53, 55, 32, 34], [50, 53, 55, 32, 34], [50, 53, 55, 32, 34]]
noncomputable def tails : List (List Nat) := [[34], [34], [], [34], [34, 32, 105, 115, 32, 34, 116, 104, 101, 114, 101, 34], [34, 120]]
noncomputable def reply : List Nat := (p.heads[p.k]?).getD [] ++ StrLaws.dbl 34 (p.name ch) ++ (tails[p.k]?).getD []
noncomputable def thing : PyData := if p.k = 0 then .list [.str (tx (p.reply ch))] else if p.k = 1 then .str (tx []) else .str (tx (p.name ch))
noncomputable def data : PyData := .tuple [.str (tx p.lead), .str (tx p.white), .str (tx (p.reply ch)), p.thing ch]
structure Ok : Prop where
  a : p.a < 4
  b : p.b < 3
  e : p.e < 4
  m : p.m < 4
  l : p.l < 4
  u : p.u < 3
  k : p.k < 6
end Job
theorem fmod_nat (x : Int) (m : Nat) (h : 0 < m) : x.fmod m = ((x.fmod m).toNat : Int) ∧ (x.fmod m).toNat < m := by
  have h1 : 0 ≤ x.fmod m := Int.fmod_nonneg_of_pos x (by omega)
  have h2 : x.fmod m < m := Int.fmod_lt_of_pos x (by omega)
  omega
theorem jobP_ok (x : Int) : (jobP x).Ok := ⟨(fmod_nat _ 4 (by omega)).2, (fmod_nat _ 3 (by omega)).2, (fmod_nat _ 4 (by omega)).2, (fmod_nat _ 4 (by omega)).2, (fmod_nat _ 4 (by omega)).2, (fmod_nat _ 3 (by omega)).2, (fmod_nat _ 6 (by omega)).2⟩

theorem pick {xs : List (List Nat)} {k : Nat} (h : k < xs.length) : (xs.map fun l => PyData.str (tx l))[((k : Nat) : Int).toNat]? = some (.str (tx ((xs[k]?).getD []))) := by
  simp [List.getElem?_eq_getElem h]
theorem dbl_len (c : Nat) : ∀ l : List Nat, (StrLaws.dbl c l).length ≤ 2 * l.length
  | [] => by simp [StrLaws.dbl]
  | x :: l => by
    have := dbl_len c l
    have e : x :: l = [x] ++ l := rfl
    rw [e, StrLaws.dbl_append, List.length_append, List.length_append]
    have : (StrLaws.dbl c [x]).length ≤ 2 := by by_cases h : x = c <;> simp [StrLaws.dbl, h]
    simp only [List.length_singleton]
    omega

theorem fn_job {c : Cx} {n : Nat} {ch : Nat} {x : Int} (D : DefAt c 216 dJob .none []) : Fn c (n + 1) 216 [.d (.str (tx [ch])), .d (.int x)] none ((jobP x).data ch) none := by
  refine Fn.of (names := ["letter", "number"]) D (by decide +kernel) (fun fd e1 e2 e3 us hu => ?_) rfl ?_
  · obtain ⟨u, v, rfl⟩ := args2 hu
    rw [fd_is e1 e2 e3]; rfl
  have ok := jobP_ok x
  have ea : x.fmod 4 = ((jobP x).a : Int) := (fmod_nat x 4 (by omega)).1
  have eb : (x.fdiv 4).fmod 3 = ((jobP x).b : Int) := (fmod_nat _ 3 (by omega)).1
  have ee : (x.fdiv 12).fmod 4 = ((jobP x).e : Int) := (fmod_nat _ 4 (by omega)).1
  have em : (x.fdiv 48).fmod 4 = ((jobP x).m : Int) := (fmod_nat _ 4 (by omega)).1
  have el : (x.fdiv 192).fmod 4 = ((jobP x).l : Int) := (fmod_nat _ 4 (by omega)).1
  have eu : (x.fdiv 768).fmod 3 = ((jobP x).u : Int) := (fmod_nat _ 3 (by omega)).1
  have ek : (x.fdiv 2304).fmod 6 = ((jobP x).k : Int) := (fmod_nat _ 6 (by omega)).1
  generalize jobP x = p at *
  obtain ⟨oa, ob, oe, om, ol, ou, okk⟩ := ok
  have hname : (p.name ch).length ≤ 10 := by simp [Job.name]; omega
  refine Ss.grow (.bin .name .int (.fdiv (by decide) (by decide))) ((BinR.fmod (by decide)).to (congrArg PyData.int ek)) ?_
  refine SsT.set (.bin (.bin (.bin .lit (.bin (.bin .name .int ((BinR.fmod (by decide)).to (congrArg PyData.int ea))) .int ((BinR.mul (.of_right (by decide))).to (d' := .int ((p.a * 2 : Nat) : Int)) (by simp))) (.rep1 (by omega))) (.bin .lit (.bin (.bin .name .int (.fdiv (by decide) (by decide))) .int ((BinR.fmod (by decide)).to (congrArg PyData.int eb))) (.rep1 (by omega))) (.catL (by simp; omega)))
    (.bin .lit (.bin (.bin .name .int (.fdiv (by decide) (by decide))) .int ((BinR.fmod (by decide)).to (congrArg PyData.int ee))) (.rep1 (by omega))) (.catL (by simp; omega))) ?_
  refine SsT.set (.bin (.bin .name .int (.fdiv (by decide) (by decide))) .int ((BinR.fmod (by decide)).to (congrArg PyData.int em))) ?_
  have ef : ∀ m : Nat, (m : Int).fdiv 2 = ((m / 2 : Nat) : Int) := fun m => by rw [Int.fdiv_eq_ediv_of_nonneg _ (by omega)]; rfl
  have eg : ∀ m : Nat, (m : Int).fmod 2 = ((m % 2 : Nat) : Int) := fun m => by rw [Int.fmod_eq_emod_of_nonneg _ (by omega)]; rfl
  refine SsT.set (.bin (.bin (.bin .lit (.bin .name .int ((BinR.fdiv (by decide) (by decide)).to (congrArg PyData.int (ef _)))) (.rep1 (by omega))) (.bin .name (.bin (.bin .name .int (.fdiv (by decide) (by decide))) .int ((BinR.fmod (by decide)).to (congrArg PyData.int el))) (.rep1 (by omega))) (.catL (by simp; omega)))
    (.bin .lit (.bin .name (.bin .name .int ((BinR.fdiv (by decide) (by decide)).to (congrArg PyData.int (ef _)))) (BinR.sub.to (d' := .int ((p.m - p.m / 2 : Nat) : Int)) (by congr 1; omega))) (.rep1 (by omega))) (.catL (by simp; omega))) ?_
  have hk63 : ((p.k : Nat) : Int) < 2 ^ 63 := by omega
  have hm2 : ([PyData.str (tx [50, 53, 55, 45, 34]), .str (tx [50, 53, 55, 32, 39])])[((p.m % 2 : Nat) : Int).toNat]? = some (.str (tx (if p.m % 2 = 0 then [50, 53, 55, 45, 34] else [50, 53, 55, 32, 39]))) := by
    rcases (show p.m % 2 = 0 ∨ p.m % 2 = 1 by omega) with h | h <;> rw [h] <;> rfl
  refine SsT.set (.itemL (.list (ds := p.heads.map fun l => .str (tx l)) (.cons (.of .lit) (.cons (.of (.itemL (.list (ds := [.str (tx [50, 53, 55, 45, 34]), .str (tx [50, 53, 55, 32, 39])]) (.cons (.of .lit) (.cons (.of .lit) .nil)) (by decide)) (.bin .name .int ((BinR.fmod (by decide)).to (congrArg PyData.int (eg _)))) (by omega) (by omega) hm2)) (.cons (.of .lit) (.cons (.of .lit) (.cons (.of .lit) (.cons (.of .lit) .nil)))))) (by simp [Job.heads])) .name (by omega) hk63 (pick (by simp [Job.heads]; omega))) ?_
  have hdbl : (StrLaws.dbl 34 (p.name ch)).length ≤ 20 := Nat.le_trans (dbl_len _ _) (by omega)
  have hhead : ((p.heads[p.k]?).getD []).length ≤ 5 := by
    rw [List.getElem?_eq_getElem (by simp [Job.heads]; omega)]
    have : ∀ l ∈ p.heads, l.length ≤ 5 := by
      intro l hl
      simp only [Job.heads, List.mem_cons, List.not_mem_nil, or_false] at hl
      rcases hl with rfl | rfl | rfl | rfl | rfl | rfl <;> first | decide | (split <;> decide)
    exact this _ (List.getElem_mem _)
  have htail : ((Job.tails[p.k]?).getD []).length ≤ 20 := by
    rw [List.getElem?_eq_getElem (by simp [Job.tails]; omega)]
    have : ∀ l ∈ Job.tails, l.length ≤ 20 := by decide
    exact this _ (List.getElem_mem _)
  refine SsT.last (d := .str (tx (p.reply ch))) (.bin (.bin (.of .name) ((EvT.replace (x := tx (p.name ch)) .name (by decide) (by rw [tx_length, (by rfl : (Str.ofString "\"\"").length = 2)]; omega)).to (congrArg PyData.str ((replace_dbl _ (Str.ofString "\"") (Str.ofString "\"\"") 34 (by rfl) (by rfl)).trans (by rw [tx_list]; rfl)))) (.catL (a := (p.heads[p.k]?).getD []) (b := StrLaws.dbl 34 (p.name ch)) (by omega)))
    (.of (.itemL (.list (ds := Job.tails.map fun l => .str (tx l)) (.cons (.of .lit) (.cons (.of .lit) (.cons (.of .lit) (.cons (.of .lit) (.cons (.of .lit) (.cons (.of .lit) .nil)))))) (by simp [Job.tails])) .name (by omega) hk63 (pick (by simp [Job.tails]; omega)))) (.catL (by simp; omega))) ?_
  refine Ss.ret (.tuple (ds := [.str (tx p.lead), .str (tx p.white), .str (tx (p.reply ch)), p.thing ch]) (.cons (.of .name) (.cons (.of (.bin .lit (.bin (.bin .name .int (.fdiv (by decide) (by decide))) .int ((BinR.fmod (by decide)).to (congrArg PyData.int eu))) (.rep1 (by omega)))) (.cons (.of .name) (.cons (.of (.ifExp (.cmp .name .int .lt) (fun h => ?_) fun h => ?_)) .nil)))) (by simp)) ⟨.inl rfl, rfl⟩
  · have h2 : p.k < 2 := by simp only [decide_eq_true_eq] at h; omega
    refine .itemL (.list (ds := [.list [.str (tx (p.reply ch))], .str (tx [])]) (.cons (.of (.list (ds := [.str (tx (p.reply ch))]) (.cons (.of .name) .nil) (by simp))) (.cons (.of .lit) .nil)) (by simp)) .name (by omega) hk63 ?_
    rcases (show p.k = 0 ∨ p.k = 1 by omega) with e | e <;> simp [Job.thing, e]
  · have h2 : ¬ p.k < 2 := by simp only [decide_eq_false_iff_not] at h; omega
    exact Ev.to .name (by rw [Job.thing, if_neg (by omega), if_neg (by omega)]; rfl)
end Mine
end

section
open PySem PySem.W PyProof.Rows PySem.Calls PySem.Spec
set_option Elab.async false
set_option linter.unusedVariables false
set_option maxRecDepth 100000
namespace Mine

/-! ## slices -/
section
variable {c : Cx} {n : Nat} {sc : Scope} {ρ : Loc} {σ σ' : Option Ac}
noncomputable def EvP (c : Cx) (n : Nat) (sc : Scope) (ρ : Loc) (σ : Option Ac) (o : Option Expr) (i : Option Int) : Prop :=
  ∀ Z A env s, In c Z n sc ρ σ A env s → wpAny c.M A (evalPart o env) (fun v s' => Post c Z σ σ s s' ∧ IsPart v i) NoE s
theorem EvP.none : EvP c n sc ρ σ none none := fun Z A env s I => wpAny_pure ⟨I.same, .none⟩
theorem EvP.some {e : Expr} {i : Int} (h : E1 c n sc ρ σ e (.int i)) : EvP c n sc ρ σ (some e) (some i) := fun Z A env s I =>
  wp_mono (h Z A env s I) fun v s' ⟨P, r⟩ => by obtain ⟨t, rfl⟩ := r.int_inv; exact ⟨P, .int _ _⟩
theorem IsPart.val {v : Value} {i : Option Int} (h : IsPart v i) : ∃ p : Option (Int × Tok), v = partValue p ∧ p.map (·.1) = i := by
  cases h with
  | none => exact ⟨.none, rfl, rfl⟩
  | int i t => exact ⟨.some (i, t), rfl, rfl⟩

theorem Ev.sliceS {value : Expr} {lower upper : Option Expr} {p pos : Pos} {x : Str} {lo hi : Option Int} (hv : E1 c n sc ρ σ value (.str x)) (hl : EvP c n sc ρ σ lower lo) (hu : EvP c n sc ρ σ upper hi) (hsz : x.length ≤ 1000000)
    (ht : ∀ o r, letTemporaryGo value o r = pure () := by intro _ _; rfl) : E1 c n sc ρ σ (.Subscript value (.Slice lower upper none p) pos) (.str (Txt.slice x lo hi)) := fun Z A env s I => by
  refine wpAny_Subscript_str_slice (wp_mono (hv Z A env s I) fun o s₁ ⟨P₁, r₁⟩ => wp_mono (hl Z A env s₁ (I.post P₁)) fun vl s₂ ⟨P₂, q₂⟩ => wp_mono (hu Z A env s₂ ((I.post P₁).post P₂)) fun vu s₃ ⟨P₃, q₃⟩ => ?_) ht
  obtain ⟨t, rfl⟩ := r₁.str_inv
  obtain ⟨l, rfl, rfl⟩ := IsPart.val q₂
  obtain ⟨u, rfl, rfl⟩ := IsPart.val q₃
  refine ⟨x, t, l, u, rfl, rfl, rfl, ?_⟩
  exact post_val_or_str ⟨Nat.le_trans (Txt.slice_le x _ _) (by rw [sizeLine_eq]; omega), fun t' k => ⟨((P₁.trans P₂).trans P₃).push _, .str _ _⟩⟩

theorem Rps.pick {Z : AP} {h : Heap} {vs : List Value} {ds : List PyData} (r : Rps Z h vs ds) : ∀ is : List Nat, Rps Z h (is.filterMap (vs[·]?)) (is.filterMap (ds[·]?))
  | [] => .nil
  | i :: is => by
    have ih := Rps.pick r is
    rw [List.filterMap_cons, List.filterMap_cons]
    cases hd : ds[i]? with
    | none =>
      have : vs[i]? = none := by
        rw [List.getElem?_eq_none_iff] at hd ⊢
        rw [r.length]; exact hd
      rw [this]; exact ih
    | some d =>
      obtain ⟨v, hv, rv⟩ := r.get _ hd
      rw [hv]; exact .cons rv ih
noncomputable def picked (ds : List PyData) (lo hi st : Option Int) : List PyData := (sliceRange (sliceBounds lo hi st ds.length).1 (sliceBounds lo hi st ds.length).2.1 (sliceBounds lo hi st ds.length).2.2).filterMap (ds[·]?)
theorem Rps.picked {Z : AP} {h : Heap} {vs : List Value} {ds : List PyData} (r : Rps Z h vs ds) (lo hi st : Option Int) : Rps Z h (slicePick vs.toArray lo hi st).toList (picked ds lo hi st) := by
  have := r.pick (sliceRange (sliceBounds lo hi st ds.length).1 (sliceBounds lo hi st ds.length).2.1 (sliceBounds lo hi st ds.length).2.2)
  unfold slicePick Mine.picked
  rw [List.size_toArray, r.length]
  simpa using this

theorem Ev.sliceL {value : Expr} {lower upper : Option Expr} {p pos : Pos} {ds : List PyData} {lo hi : Option Int} (hv : E1 c n sc ρ σ value (.list ds)) (hl : EvP c n sc ρ σ lower lo) (hu : EvP c n sc ρ σ upper hi) (hsz : ds.length ≤ 1000000)
    (ht : ∀ o r, letTemporaryGo value o r = pure () := by intro _ _; rfl) : E1 c n sc ρ σ (.Subscript value (.Slice lower upper none p) pos) (.list (picked ds lo hi none)) := fun Z A env s I => by
  refine wpAny_Subscript_list_slice (wp_mono (hv Z A env s I) fun o s₁ ⟨P₁, r₁⟩ => wp_mono (hl Z A env s₁ (I.post P₁)) fun vl s₂ ⟨P₂, q₂⟩ => wp_mono (hu Z A env s₂ ((I.post P₁).post P₂)) fun vu s₃ ⟨P₃, q₃⟩ => ?_) ht
  have P := (P₁.trans P₂).trans P₃
  have P' := P.push { cls := .type "slice", data := .fields #[vl, vu, .none] } (tk := s₃.toks)
  obtain ⟨a, vs, rfl, z, il, rs⟩ := ((r₁.step P₂.stp.dat).step P₃.stp.dat).list_inv
  refine ⟨a, vs.toArray, lo, hi, rfl, il, by rw [List.size_toArray, rs.length, sizeLine_eq]; omega, q₂, q₃, ?_⟩
  have pre := (I.post P').pre
  have r' : Rps Z (s₃.heap.push { cls := .type "slice", data := .fields #[vl, vu, .none] }) (slicePick vs.toArray lo hi none).toList (picked ds lo hi none) := (rs.picked lo hi none).step (.of_keep fun b o e => Heap.get?_push_of_some _ e)
  have := (pre.newSeq (tk := s₃.toks) r').1
  have e : (s₃.heap.push { cls := .type "slice", data := .fields #[vl, vu, .none] }).objs.size = s₃.heap.objs.size + 1 := Heap.size_push ..
  rw [Array.toArray_toList] at this
  rw [← e]
  exact ⟨P'.trans this.1, this.2⟩
theorem Ev.sliceL3 {value st : Expr} {lower upper : Option Expr} {p pos : Pos} {ds : List PyData} {lo hi : Option Int} {k : Int} (hv : E1 c n sc ρ σ value (.list ds)) (hl : EvP c n sc ρ σ lower lo) (hu : EvP c n sc ρ σ upper hi) (hst : E1 c n sc ρ σ st (.int k)) (hk : k ≠ 0) (hsz : ds.length ≤ 1000000)
    (ht : ∀ o r, letTemporaryGo value o r = pure () := by intro _ _; rfl) : E1 c n sc ρ σ (.Subscript value (.Slice lower upper (some st) p) pos) (.list (picked ds lo hi (some k))) := fun Z A env s I => by
  refine wpAny_Subscript_Slice_step (T := "list") list_getitem_lookup (wp_mono (hv Z A env s I) fun o s₁ ⟨P₁, r₁⟩ => wpAny_Slice (wp_mono (hl Z A env s₁ (I.post P₁)) fun vl s₂ ⟨P₂, q₂⟩ => wp_mono (hu Z A env s₂ ((I.post P₁).post P₂)) fun vu s₃ ⟨P₃, q₃⟩ =>
    wp_mono ((EvP.some hst) Z A env s₃ (((I.post P₁).post P₂).post P₃)) fun vs s₄ ⟨P₄, q₄⟩ => ?_)) ht
  have P := ((P₁.trans P₂).trans P₃).trans P₄
  have P' := P.push { cls := .type "slice", data := .fields #[vl, vu, vs] } (tk := s₄.toks)
  obtain ⟨a, ws, rfl, z, il, rs⟩ := (((r₁.step P₂.stp.dat).step P₃.stp.dat).step P₄.stp.dat).list_inv
  have pre := (I.post P').pre
  have r' : Rps Z (s₄.heap.push { cls := .type "slice", data := .fields #[vl, vu, vs] }) (slicePick ws.toArray lo hi (some k)).toList (picked ds lo hi (some k)) := (rs.picked lo hi (some k)).step (.of_keep fun b o e => Heap.get?_push_of_some _ e)
  have := (pre.newSeq (tk := s₄.toks) r').1
  refine ⟨(il.push _).typeIs, wpAny_getItem_list_slice (il.push _) (Heap.IsSliceOf.new ..) q₂ q₃ q₄ (by simpa using hk) ?_ (by rw [List.size_toArray, rs.length, sizeLine_eq]; omega)⟩
  rw [Array.toArray_toList] at this
  exact ⟨P'.trans this.1, this.2⟩
end

theorem picked_drop (ds : List PyData) (k : Nat) (h : k ≤ ds.length) : picked ds (some (k : Int)) none none = ds.drop k := by
  have e : sliceBounds (some (k : Int)) none none ds.length = ((k : Int), (ds.length : Int), 1) := by
    simp only [sliceBounds, Option.getD_none]
    have h1 : ¬ ((k : Int) < 0) := by omega
    simp only [h1, if_false, show (1 : Int) > 0 by decide, if_true]
    congr 1; omega
  unfold picked
  rw [e, sliceRange_one]
  have := pick_run ds.toArray k (ds.length - k)
  rw [List.take_of_length_le (by simp)] at this
  simpa using this
theorem picked_take (ds : List PyData) (k : Nat) (h : k ≤ ds.length) : picked ds none (some (k : Int)) none = ds.take k := by
  have e : sliceBounds none (some (k : Int)) none ds.length = (((0 : Nat) : Int), (k : Int), 1) := by
    simp only [sliceBounds, Option.getD_none]
    have h1 : ¬ ((k : Int) < 0) := by omega
    simp only [h1, if_false, show (1 : Int) > 0 by decide, if_true]
    congr 2; omega
  unfold picked
  rw [e, sliceRange_one]
  have := pick_run ds.toArray 0 (k - 0)
  simpa using this
theorem slice_str (l : List Nat) (a b : Nat) (hab : a ≤ b) (hb : b ≤ l.length) : Txt.slice (tx l) (some (a : Int)) (some (b : Int)) = tx ((l.drop a).take (b - a)) := by
  have h := StrLaws.sliced_plain (tx l) hab (by rw [tx_length]; exact hb)
  rw [tx_list] at h
  unfold Txt.slice
  split
  · rename_i q
    simp only [beq_self_eq_true, Bool.true_and, beq_iff_eq] at q
    have := congrArg List.length h
    have e2 : a = 0 ∧ b = l.length := by
      rw [StrLaws.strSliceIndices_plain hab (by rw [tx_length]; exact hb)] at q
      simp [tx_length] at q
      omega
    rw [e2.1, e2.2]; simp
  · rw [h]; rfl
theorem slice_str0 (l : List Nat) (b : Nat) (hb : b ≤ l.length) : Txt.slice (tx l) none (some (b : Int)) = tx (l.take b) := by
  have : Builtin.Str.strSliceIndices none (some (b : Int)) 1 (tx l).length = Builtin.Str.strSliceIndices (some ((0 : Nat) : Int)) (some (b : Int)) 1 (tx l).length := by
    unfold Builtin.Str.strSliceIndices
    simp
    have : max (0 : Int) (min 0 ((tx l).length : Int)) = 0 := by omega
    rw [this]
  have h := slice_str l 0 b (by omega) hb
  unfold Txt.slice at h ⊢
  rw [this, h]
  simp
end Mine
end

section
open PySem PySem.W PyProof.Rows PySem.Calls PySem.Spec
set_option Elab.async false
set_option linter.unusedVariables false
set_option maxRecDepth 100000
namespace Mine

section
variable {c : Cx} {n : Nat} {sc : Scope} {ρ : Loc} {σ σ₁ σ₂ σ' : Option Ac}
theorem CmpR.eqL {a b : List Nat} : CmpR c .Eq (.str (tx a)) (.str (tx b)) (a == b) := by
  have := CmpR.eqS (c := c) (x := tx a) (y := tx b)
  rwa [tx_list, tx_list] at this
theorem CmpR.neL {a b : List Nat} : CmpR c .NotEq (.str (tx a)) (.str (tx b)) (a != b) := by
  have := CmpR.neS (c := c) (x := tx a) (y := tx b)
  rwa [tx_list, tx_list] at this
theorem BinR.addN {a : Nat} (b : Nat) : BinR c .Add (.int (a : Int)) (.int (b : Int)) (.int ((a + b : Nat) : Int)) := BinR.add
theorem Ev.itemX {v i : Expr} {pos : Pos} {l : List Nat} {k cp : Nat} (hv : Ev c n sc ρ σ v (.str (tx l)) σ₁) (hi : Ev c n sc ρ σ₁ i (.int (k : Int)) σ₂) (hk : k < 2 ^ 63) (hd : l[k]? = some cp)
    (hs : ∀ o j, subscripted i false o j = operate [o, j] (getItem o j) := by intro _ _; rfl) : Ev c n sc ρ σ (.Subscript v i pos) (.str (tx [cp])) σ₂ :=
  .itemS hv hi (by omega) (by omega) (by simpa [tx] using hd) hs
theorem EvB.to {e : Expr} {b b' : Bool} (h : EvB c n sc ρ σ e b σ') (q : b = b') : EvB c n sc ρ σ e b' σ' := q ▸ h
theorem Ss.whil {Q : QT} {t : Expr} {body rest : List Stmt} {pos : Pos} (J : Nat → Loc → Option Ac → Prop)
    (turn : ∀ k ρ₁ σ₁, J k ρ₁ σ₁ → ∃ b, EvB c n sc ρ₁ σ₁ t b σ₁ ∧ (b = true → Ss c n sc ρ₁ σ₁ body (fun o ρ₂ σ₂ => match o with | .next | .cont => ∃ k' ρ₃, k' < k ∧ Sub ρ₃ ρ₂ ∧ J k' ρ₃ σ₂ | .brk => Ss c n sc ρ₂ σ₂ rest Q | .ret d => Q (.ret d) ρ₂ σ₂)) ∧ (b = false → Ss c n sc ρ₁ σ₁ rest Q))
    {k : Nat} (h0 : J k ρ σ) : Ss c n sc ρ σ (.While t body [] pos :: rest) Q :=
  .cons (Q' := fun o ρ₁ σ₁ => match o with | .next => Ss c n sc ρ₁ σ₁ rest Q | o => Q o ρ₁ σ₁) (.whil J (fun k ρ₁ σ₁ hJ => by
    obtain ⟨b, h1, h2, h3⟩ := turn k ρ₁ σ₁ hJ
    exact ⟨b, h1, fun e => (h2 e).mono fun o ρ₂ σ₂ q => by cases o <;> exact q, h3⟩) h0) (fun _ _ q => q) fun o _ _ ne q => by cases o <;> first | exact absurd rfl ne | exact q
end

/-! ## parse257 -/
noncomputable def scan : List Nat → List Nat
  | [] => []
  | [c] => if c = 34 then [] else [c]
  | c :: d :: r => if c = 34 then (if d = 34 then 34 :: scan r else []) else c :: scan (d :: r)
theorem scan_other {c : Nat} (r : List Nat) (h : c ≠ 34) : scan (c :: r) = c :: scan r := by
  cases r with
  | nil => simp [scan, h]
  | cons d r => simp [scan, h]
theorem scan_two (r : List Nat) : scan (34 :: 34 :: r) = 34 :: scan r := by simp [scan]
theorem scan_end {r : List Nat} (h : r.head? ≠ some 34) : scan (34 :: r) = [] := by
  cases r with
  | nil => simp [scan]
  | cons d r =>
    have : d ≠ 34 := fun e => h (by rw [e]; rfl)
    simp [scan, this]
noncomputable def parsed (l : List Nat) : List Nat := if (l.drop 3).take 2 = [32, 34] then scan (l.drop 5) else []

theorem fn_parse {c : Cx} {n : Nat} {l : List Nat} (D : DefAt c 136 dParse .none []) (hlen : GlobIs c dParse.scope "len" (.builtin "len")) (h5 : 5 ≤ l.length) (hbig : l.length ≤ 1000) (hp : l.take 3 = [50, 53, 55]) : Fn c (n + 1) 136 [.d (.str (tx l))] none (.str (tx (parsed l))) none := by
  refine Fn.of (names := ["resp"]) D (by decide +kernel) (fun fd e1 e2 e3 us hu => ?_) rfl ?_
  · obtain ⟨u, rfl⟩ := args1 hu
    rw [fd_is e1 e2 e3]; rfl
  refine Ss.ite_no (.to (.cmp ((Ev.sliceS .name .none (.some .int) (by rw [tx_length]; omega)).to (congrArg PyData.str (slice_str0 l 3 (by omega)))) (.lit (l := [50, 53, 55])) .neL) (by rw [hp]; rfl)) ?_
  refine Ss.ite (.cmp ((Ev.sliceS .name (.some .int) (.some .int) (by rw [tx_length]; omega)).to (congrArg PyData.str (slice_str l 3 5 (by omega) (by omega)))) (.lit (l := [32, 34])) .neL) (fun h => ?_) fun h => ?_
  · refine Ss.ret .lit ⟨.inl ?_, rfl⟩
    have : (l.drop 3).take 2 ≠ [32, 34] := by simpa using h
    rw [parsed, if_neg this]
    rfl
  have hq : (l.drop 3).take 2 = [32, 34] := by simpa using h
  rw [parsed, if_pos hq]
  refine .nil ?_
  refine Ss.set (.lit (l := [])) ?_
  refine Ss.set (d := .int ((5 : Nat) : Int)) .int ?_
  refine Ss.set (d := .int ((l.length : Nat) : Int)) ((Ev.callB hlen (.cons (.of .name) .nil) (.lenS (by rw [tx_length]; omega))).to (by rw [tx_length])) ?_
  refine Ss.pre (ρ' := [("dirname", .d (.str (tx []))), ("i", .d (.int ((5 : Nat) : Int))), ("n", .d (.int ((l.length : Nat) : Int))), ("resp", .d (.str (tx l)))]) ⟨by rfl, by rfl, by rfl, by rfl, trivial⟩ ?_
  refine Ss.whil (fun (k : Nat) (ρ : Loc) (σ : Option Ac) => σ = none ∧ ∃ (i : Nat) (acc : List Nat), i ≤ l.length ∧ k = l.length - i ∧ acc ++ scan (l.drop i) = scan (l.drop 5) ∧ acc.length ≤ i ∧ ρ = ([("dirname", .d (.str (tx acc))), ("i", .d (.int ((i : Nat) : Int))), ("n", .d (.int ((l.length : Nat) : Int))), ("resp", .d (.str (tx l)))] : Loc)) ?_ (k := l.length - 5) ⟨rfl, 5, [], h5, rfl, rfl, by simp, rfl⟩
  rintro k ρ₁ σ₁ ⟨rfl, i, acc, hi, rfl, hR, hacc, rfl⟩
  refine ⟨_, .cmp .name .name .lt, fun hb => ?_, fun hb => ?_⟩
  · have hlt : i < l.length := by simpa using hb
    have hc : l[i]? = some l[i] := List.getElem?_eq_getElem hlt
    have hdrop : l.drop i = l[i] :: l.drop (i + 1) := by rw [List.drop_eq_getElem_cons hlt]
    generalize l[i] = ch at hc hdrop
    refine Ss.set (.itemX .name .name (by omega) hc) ?_
    refine Ss.set (.bin .name .int (.addN 1)) ?_
    refine Ss.ite (.cmp .name (.lit (l := [34])) .eqL) (fun hq => ?_) fun hq => ?_
    · have hch : ch = 34 := by simpa using hq
      subst hch
      by_cases hn : i + 1 < l.length
      · have hc' : l[i + 1]? = some l[i + 1] := List.getElem?_eq_getElem hn
        have hdrop' : l.drop (i + 1) = l[i + 1] :: l.drop (i + 2) := by rw [List.drop_eq_getElem_cons hn]
        generalize l[i + 1] = d at hc' hdrop'
        refine Ss.ite (.or (.cmp .name .name .ge) fun _ => .cmp (.itemX .name .name (by omega) hc') (.lit (l := [34])) .neL) (fun hr => ?_) fun hr => ?_
        · refine Ss.brk ?_
          have hd : d ≠ 34 := by
            rcases (Bool.or_eq_true _ _).mp hr with h | h
            · simp at h; omega
            · simpa using h
          refine Ss.ret .name ⟨.inl ?_, rfl⟩
          rw [← hR, hdrop, hdrop', scan_end (by simpa using hd), List.append_nil]
        · have hd : d = 34 := by
            have := (Bool.or_eq_false_iff.mp hr).2
            simpa using this
          subst hd
          refine Ss.nil ?_
          refine Ss.set (.bin .name .int (.addN 1)) (.nil ?_)
          refine Ss.set (.bin .name .name (.catL (by simp; omega))) (.nil ?_)
          refine ⟨l.length - (i + 2), _, by omega, ?sub, rfl, i + 2, acc ++ [34], by omega, rfl, ?_, by simp; omega, rfl⟩
          case sub => exact ⟨by rfl, by rfl, by rfl, by rfl, trivial⟩
          rw [← hR, hdrop, hdrop', scan_two, List.append_assoc]; rfl
      · have hnil : l.drop (i + 1) = [] := List.drop_eq_nil_of_le (by omega)
        refine Ss.ite (EvB.to (.or (b := false) (.cmp .name .name .ge) fun e => absurd e (by simp; omega)) (b' := true) (by simp; omega)) (fun _ => ?_) fun h => by cases h
        · refine Ss.brk ?_
          refine Ss.ret .name ⟨.inl ?_, rfl⟩
          rw [← hR, hdrop, hnil, scan_end (by simp), List.append_nil]
    · have hch : ch ≠ 34 := by simpa using hq
      refine Ss.nil ?_
      refine Ss.set (.bin .name .name (.catL (by simp; omega))) (.nil ?_)
      refine ⟨l.length - (i + 1), _, by omega, ?sub, rfl, i + 1, acc ++ [ch], by omega, rfl, ?_, by simp; omega, rfl⟩
      case sub => exact ⟨by rfl, by rfl, by rfl, by rfl, trivial⟩
      rw [← hR, hdrop, scan_other _ hch, List.append_assoc]; rfl
  · have : ¬ i < l.length := by simpa using hb
    refine Ss.ret .name ⟨.inl ?_, rfl⟩
    rw [← hR, List.drop_eq_nil_of_le (by omega)]
    simp [scan]
end Mine
end

section
open PySem PySem.W PyProof.Rows PySem.Calls PySem.Spec PySem.Builtin PySem.Builtin.ObjectAttr
set_option Elab.async false
set_option linter.unusedVariables false
set_option maxRecDepth 100000
namespace Mine

/-! ## things of the text's own classes -/
theorem EsAre.get {Z : AP} {h : Heap} {es : List DictEntry} {l : List (Str × PyData)} (x : EsAre Z h es l) (name : Str) :
    (match l.lookup name with | some d => ∃ v, getL name es = some (some v) ∧ Rp Z h v d | none => getL name es = some none) ∧ es.any (·.refKey) = false := by
  induction x with
  | nil => exact ⟨rfl, rfl⟩
  | @cons hs x tk v d es at_ r _ ih =>
    refine ⟨?_, by rw [List.any_cons, ih.2]; rfl⟩
    by_cases q : x = name
    · subst q
      rw [List.lookup_cons_self]
      refine ⟨v, ?_, r⟩
      unfold getL
      rw [List.find?_cons_of_pos (by show (x == x) = true; simp)]
    · have e1 : List.lookup name ((x, d) :: at_) = at_.lookup name := by
        rw [List.lookup_cons]
        have : (name == x) = false := by simpa using fun e => q e.symm
        simp [this]
      have e2 : getL name (⟨hs, .str x tk, v⟩ :: es) = getL name es := by
        unfold getL
        rw [List.find?_cons_of_neg (by show ¬ (x == name) = true; simpa using q), List.any_cons]
        rfl
      rw [e1, e2]
      exact ih.1

section
variable {prog : Program} {w : World} {A : Around} {E : Value → Shared → Prop} {s : Shared} {K : Frag} {x C : Addr} {ox : Obj} {od : Option Obj} {name : Str} {expr : Bool}

theorem getMethod_at {M : Model} {es : List DictEntry} {n : Nat} {f : Value} {T ga : String} {pl : Sem Bool} {Q : Value × List Value → Shared → Prop} (X : K.In s.heap) (I : InstAt s.heap x ox C (some (dictOf es n))) (hga : findIn K (.ref C) "__getattribute__" = some (some (.builtin ga)))
    (hcan : (Manifest.canonical ga != "object.__getattribute__") = false) (hk : findIn K (.ref C) "__getattr__" = some none) (hf : findIn K (.ref C) name = some (some f)) (ht : typeIn K f = some (.type T))
    (hT : (Value.type T != .type "function" && Value.type T != .type "method_descriptor" && Value.type T != .type "wrapper_descriptor") = false) (hl : getL name es = some none) (h : Q (f, [.ref x]) s) : wpAny M A (getMethod (.ref x) name pl) Q E s := by
  unfold getMethod specialOf
  refine wpAny_bind (wpAny_bind (I.type.here ((looks_findIn X hga).here ?_)))
  dsimp only
  rw [hcan, if_neg (by decide)]
  refine wpAny_bind (wpAny_bind (I.type.here ((looks_findIn X hk).here ?_)))
  refine wpAny_bind (wpAny_bind (I.type.here ((looks_findIn X hf).here (wpAny_bind ((looks_typeIn X ht).here ?_)))))
  rw [hT, if_neg (by decide)]
  refine wpAny_bind (wpAny_loadPart I.at_ ?_)
  have hd := I.dict
  cases e : ox.dict with
  | none => exact wpAny_bind (wpAny_rule (wpAny_pure h))
  | some dx =>
    rw [e] at hd
    refine wpAny_bind (wpAny_bind (wpAny_loadPart hd ?_))
    rw [nsLook_of (r := none) (by rw [lookIn_dict]; exact hl)]
    exact wpAny_pure (wpAny_bind (wpAny_rule (wpAny_pure h)))

/-- a field of its own, of a kind of list -/
theorem getAttr_list {v : Value} {Q : Value → Shared → Prop} (X : K.In s.heap) (I : InstAt s.heap x ox C od) (hga : findIn K (.ref C) "__getattribute__" = some (some (.builtin "list.__getattribute__"))) (hk : findIn K (.ref C) "__getattr__" = some none)
    (hf : findObj K C od name = some (.value v)) (hh : handedIn v = true) (hs : mroIn K C (.type "list") = some true) (h : Q v { s with toks := s.toks + 1 }) : wpAny (model prog w) A (getAttr (.ref x) name expr) Q E s := by
  obtain ⟨hh', g, d, t, os⟩ := s
  have L0 := I.type (M := model prog w)
  have L1 := looks_findIn (M := model prog w) X hga
  have L2 := looks_findIn (M := model prog w) X hk
  have L3 := looks_find (M := model prog w) X I hf
  have L4 : Looks (model prog w) hh' (isInstance (.ref x) (.type "list")) true := L0.andThen (looks_mroIn X hs)
  unfold getAttr getAttrBy
  refine wpAny_bind (wpAny_mkText (wpAny_holding (wpAny_bind (L0.at (wpAny_bind (L1.at ?_))))))
  dsimp only
  rw [show (onTheHeap (Value.ref C) && Value.builtin "list.__getattribute__" == Value.builtin "object.__getattribute__") = false by rw [show (Value.builtin "list.__getattribute__" == Value.builtin "object.__getattribute__") = false by decide +kernel, Bool.and_false]]
  rw [if_neg (by decide)]
  unfold getAttrByItsOwn hookBefore
  rw [if_pos (show onTheHeap (Value.ref C) = true from rfl)]
  refine wpAny_bind (L2.at (wpAny_bind (wpAny_attempt (wpAny_holding ?_))))
  unfold callGetattribute
  rw [show (expr && onTheHeap (Value.builtin "list.__getattribute__")) = false by cases expr <;> decide +kernel, if_neg (by decide)]
  unfold boundAndCalled
  rw [PySem.F.slot_list_getattribute.bind]
  refine wpAny_bind (wpAny_pure (wpAny_call ?_))
  show codeAny _ _ (.call (.builtin "list.__getattribute__") ⟨[.ref x, .str name t], []⟩) _ _
  have e1 : builtinKind "list.__getattribute__" = some .slot := by decide +kernel
  have e2 : splitId "list.__getattribute__" = some ("list", "__getattribute__") := by decide +kernel
  have e4 := PySem.F.args_list_getattribute_2 (.ref x) (.str name t)
  have e3 := PySem.F.entry_list_ga
  refine codeAny_call_builtin PySem.F.slot_list_getattribute.plain e3 ?_
  refine @check_slot (model prog w) _ _ _ "list.__getattribute__" "list" "__getattribute__" (.ref x) [.str name t] [] _ e1 e2 L4 e4 ?_
  unfold Builtin.«object.__getattribute__»
  refine wpAny_bind (wpAny_pure (a := (Value.ref x, [Value.str name t])) ?_)
  refine wpAny_bind (wpAny_pure (a := name) ?_)
  refine wpAny_bind (L0.at ?_)
  refine wpAny_bind (L3.at ?_)
  refine wpAny_pure ?_
  show wpAny _ _ (handedOut v) _ _ _
  rw [handedOut_of hh]; exact wpAny_pure h

/-- a field of its own is stored -/
theorem setAttr_at {es : List DictEntry} {n : Nat} {dx : Addr} {cd : ClassData} {v : Value} {Q : Unit → Shared → Prop} (X : K.In s.heap) (I : InstAt s.heap x ox C (some (dictOf es n))) (hd : ox.dict = some dx)
    (hs : findIn K (.ref C) "__setattr__" = some (some (.builtin "object.__setattr__"))) (hc : clsIn K C = some cd) (hpass : ∀ self, refuseLoop self "__setattr__" cd.mro = pure ()) (hobj : mroIn K C (.type "object") = some true)
    (ht : takerIn K C name = some none) (hh : cd.hasDict = true) (hl : (getL name es).isSome = true) (hz : es.length ≤ 900)
    (h : ∀ h' hsh tk, Heap.SameBut dx s.heap h' → h'.get? dx = some (dictOf (putL name hsh (.str name tk) v es) (putN name es n)) → Q () { s with heap := h', toks := s.toks + 2 }) : wpAny (model prog w) A (setAttr (.ref x) name v) Q E s := by
  obtain ⟨hp, g0, d0, t0, os0⟩ := s
  refine set_plain X I hs ?_
  have L0 : Looks (model prog w) hp (typeOf (.ref x)) (.ref C) := I.type
  dsimp only at X I h
  have SF := PySem.F.store_object
  have sub : Looks (model prog w) hp (isInstance (.ref x) (.type "object")) true := I.type.andThen (looks_mroIn X hobj)
  refine codeAny_call_builtin SF.slot.plain SF.entry (@check_slot (model prog w) _ _ _ "object.__setattr__" "object" "__setattr__" (.ref x) [.str name t0, v] [] _ SF.kind SF.split sub (SF.args (.ref x) (.str name t0) v) ?_)
  obtain ⟨attr, ha, hr⟩ := Option.bind_eq_some_iff.mp ht
  have hm : Looks (model prog w) hp (mroOf (.ref C)) cd.mro := (looks_clsIn X hc).andThen .now
  have L3 : Looks (model prog w) hp (storeTaker? attr) none := by
    cases attr with
    | none => exact .now
    | some a =>
      obtain ⟨b, hb, e⟩ := Option.map_eq_some_iff.mp hr
      refine (looks_takesIn X hb).andThen ?_
      cases b with
      | true => cases e
      | false => exact .now
  rw [osa_eq, refuse_eq]
  refine wpAny_bind (wpAny_bind (L0.at (wpAny_bind (hm.at ?_))))
  rw [hpass]
  refine wpAny_pure (wpAny_bind (L0.at (wpAny_bind (Looks.at (looks_findIn X ha) (wpAny_bind (L3.at ?_))))))
  obtain ⟨hx, hcl, hn, hdd⟩ := I
  obtain ⟨oc, odi, oda, osl⟩ := ox
  dsimp only at hcl hd hdd
  subst hcl hd
  dsimp only at hdd
  refine wpAny_bind (wpAny_pure (wpAny_bind (wpAny_bind (wpAny_loadPart hx (wpAny_bind (Looks.at (looks_clsIn X hc) ?_))))))
  rw [hh]
  refine wpAny_pure (a := some dx) (wpAny_bind (wpAny_pure (wpAny_bind ?_)))
  unfold nsSet
  refine wpAny_bind (wpAny_bind (wpAny_askSetting (wpAny_pure (wpAny_bind (wpAny_mkText (wpAny_bind (wpAny_loadPart hdd ?_)))))))
  have c : (!es.toArray.any (·.key.isStr name) && es.toArray.any (·.refKey)) = false := by
    unfold getL at hl
    rw [← Array.any_toList, ← Array.any_toList]
    split at hl
    · rename_i en he
      rw [List.any_eq_true.mpr ⟨en, List.mem_of_find?_eq_some he, List.find?_some he⟩]; rfl
    · split at hl
      · cases hl
      · rename_i z; rw [Bool.not_eq_true] at z; rw [z, Bool.and_false]
  dsimp only
  rw [aRefKeyMayBeTheName_at, c]
  refine wpAny_updatePart hdd ?_
  have D' : ∀ hsh tk, (hp.update dx (Obj.putName name hsh (.str name tk) v)).get? dx = some (dictOf (putL name hsh (.str name tk) v es) (putN name es n)) := fun hsh tk => by
    have e := putName_dict name hsh (.str name tk) v es n
    rw [Heap.get?_update_self _ hdd (by rw [e]; rfl), e]
  refine wpAny_bind (wpAny_lookBehind (D' _ _) (pastItsLine_dict (by
    have : ∀ hsh k v (es : List DictEntry), (putL name hsh k v es).length ≤ es.length + 1 := by
      intro hsh k v es
      induction es with
      | nil => simp [putL]
      | cons e r ih => unfold putL; split <;> simp; omega
    exact Nat.le_trans (by rw [List.size_toArray]; exact this _ _ v es) (by rw [sizeLine_eq]; omega))) ?_)
  exact wpAny_pure (h _ _ _ (Heap.SameBut.update ..) (D' _ _))
end
end Mine
end

section
open PySem PySem.W PyProof.Rows PySem.Calls PySem.Spec
set_option Elab.async false
set_option linter.unusedVariables false
set_option maxRecDepth 100000
namespace Mine

/-! ## the thing at hand, in a frame -/
theorem Rp.handed {Z : AP} {h : Heap} {v : Value} {d : PyData} (r : Rp Z h v d) : handedIn v = true := by
  cases r <;> rfl
noncomputable def putA (name : Str) (d : PyData) : List (Str × PyData) → List (Str × PyData)
  | [] => [(name, d)]
  | (x, w) :: r => if x = name then (x, d) :: r else (x, w) :: putA name d r
theorem EsAre.put {Z : AP} {h : Heap} {es : List DictEntry} {l : List (Str × PyData)} (x : EsAre Z h es l) {name : Str} {hs : Int} {tk : Tok} {v : Value} {d : PyData} (r : Rp Z h v d) : EsAre Z h (putL name hs (.str name tk) v es) (putA name d l) := by
  induction x with
  | nil => exact .cons r .nil
  | @cons hs' y tk' w e es at_ r' x' ih =>
    unfold putL putA
    by_cases q : y = name
    · rw [if_pos q, if_pos (by show (y == name) = true; simpa using q)]
      exact .cons r x'
    · rw [if_neg q, if_neg (by show ¬ (y == name) = true; simpa using q)]
      exact .cons r' ih
theorem EsAre.length {Z : AP} {h : Heap} {es : List DictEntry} {l : List (Str × PyData)} (x : EsAre Z h es l) : es.length = l.length := by
  induction x with
  | nil => rfl
  | cons _ _ ih => simp [ih]

theorem AccAt.inst {Z : AP} {h : Heap} {a : Ac} (x : AccAt Z h a) : ∃ ox es k, W.InstAt h a.addr ox a.cls (some (dictOf es k)) ∧ ox.dict = some a.dict ∧ EsAre Z h es a.attrs := by
  obtain ⟨dt, es, k, e1, e2, b, r⟩ := x
  refine ⟨_, es, k, ⟨e1, rfl, ?_, e2⟩, rfl, r⟩
  rcases b with ⟨_, vs, n, rfl, _⟩ | ⟨_, rfl⟩ <;> rfl

section
variable {c : Cx} {Z : AP} {n : Nat} {A : Around} {s : Shared} {a a' : Ac}

theorem Pre.chg (p : Pre c Z n (some a) A s) {b : Addr} (hb : b = a.addr ∨ b = a.dict) {h' : Heap} {tk : Tok} (hs : Heap.SameBut b s.heap h') (he : ∃ o', h'.get? b = some o') (ha : AccAt Z h' a') (hadr : (a'.addr, a'.dict, a'.cls) = (a.addr, a.dict, a.cls)) :
    Post c Z (some a) (some a') s { s with heap := h', toks := tk } := by
  have hb235 : 235 ≤ b := by rcases hb with rfl | rfl; exact a.new.1; exact a.new.2.1
  have k : ∀ b' o, b' ≠ b → s.heap.get? b' = some o → h'.get? b' = some o := fun b' o ne e => (hs.2 b' ne).trans e
  obtain ⟨dt, es, kk, e1, e2, bk, r⟩ := p.acc a rfl
  have hob : ∃ o, s.heap.get? b = some o ∧ o.cls ≠ .type "list" ∧ o.cls ≠ .type "tuple" := by
    rcases hb with rfl | rfl
    · exact ⟨_, e1, by simp, by simp⟩
    · exact ⟨_, e2, show Value.type "dict" ≠ Value.type "list" by decide, show Value.type "dict" ≠ Value.type "tuple" by decide⟩
  obtain ⟨o, ho, hc1, hc2⟩ := hob
  refine ⟨⟨fun b' o' e' nb => ⟨o', k b' o' (fun q => nb ?_) e', .refl _⟩, fun b' o' e' hc => k b' o' (fun q => ?_) e', fun b' o' e' => ?_, p.old.but ho hb235 k, p.gens, rfl⟩, fun a'' e => by cases e; exact ha, by simp only [Option.map_some, hadr]⟩
  · subst q; exact .inr (.inr ⟨a, rfl, hb⟩)
  · subst q
    rw [ho] at e'; cases e'
    obtain ⟨_, hc⟩ := hc
    rcases hc with hc | hc
    · exact hc1 hc
    · exact hc2 hc
  · by_cases q : b' = b
    · subst q; exact he
    · exact ⟨o', k b' o' q e'⟩

structure ClsOk (c : Cx) (C : Addr) (ga : String) : Prop where
  hga : findIn c.K (.ref C) "__getattribute__" = some (some (.builtin ga))
  hcan : (Manifest.canonical ga != "object.__getattribute__") = false
  hk : findIn c.K (.ref C) "__getattr__" = some none
  hs : findIn c.K (.ref C) "__setattr__" = some (some (.builtin "object.__setattr__"))
  cd : ∃ cd, clsIn c.K C = some cd ∧ (∀ self, refuseLoop self "__setattr__" cd.mro = pure ()) ∧ cd.hasDict = true
  obj : mroIn c.K C (.type "object") = some true
  lst : ga = "object.__getattribute__" ∨ (ga = "list.__getattribute__" ∧ mroIn c.K C (.type "list") = some true)

theorem Pre.getAttr {ga : String} {name : Str} {d : PyData} {expr : Bool} (p : Pre c Z n (some a) A s) (F : ClsOk c a.cls ga) (hn : findIn c.K (.ref a.cls) name = some none) (hd : a.attrs.lookup name = some d) {Q : Value → Shared → Prop} {E : Value → Shared → Prop}
    (h : ∀ v, Rp Z s.heap v d → Q v { s with toks := s.toks + 1 }) : wpAny c.M A (getAttr (.ref a.addr) name expr) Q E s := by
  obtain ⟨ox, es, k, I, hdx, es_⟩ := (p.acc a rfl).inst
  have g := (es_.get name).1
  rw [hd] at g
  obtain ⟨v, hv, r⟩ := g
  obtain ⟨cd, hc, _, hh⟩ := F.cd
  have hdict : hasDictIn c.K a.cls = true := by unfold hasDictIn; rw [hc]; exact hh
  have hf : findObj c.K a.cls (some (dictOf es k)) name = some (.value v) := findObj_own hdict hn rfl (by rw [lookIn_dict]; exact hv)
  rcases F.lst with e | ⟨e, hl⟩
  · exact get_value p.old.kin I (e ▸ F.hga) hf r.handed (h v r)
  · exact getAttr_list p.old.kin I (e ▸ F.hga) F.hk hf r.handed hl (h v r)

theorem Pre.setAttr {ga : String} {name : Str} {v : Value} {d : PyData} (p : Pre c Z n (some a) A s) (F : ClsOk c a.cls ga) (ht : takerIn c.K a.cls name = some none) (hz : a.attrs.length ≤ 100) (r : Rp Z s.heap v d) {Q : Unit → Shared → Prop} {E : Value → Shared → Prop}
    (h : ∀ s', Post c Z (some a) (some { a with attrs := putA name d a.attrs }) s s' → Q () s') : wpAny c.M A (setAttr (.ref a.addr) name v) Q E s := by
  obtain ⟨dt, es, k, e1, e2, b, es_⟩ := id (p.acc a rfl)
  have I : W.InstAt s.heap a.addr { cls := .ref a.cls, dict := some a.dict, data := dt } a.cls (some (dictOf es k)) := ⟨e1, rfl, by rcases b with ⟨_, vs, n, rfl, _⟩ | ⟨_, rfl⟩ <;> rfl, e2⟩
  obtain ⟨cd, hc, hp, hh⟩ := F.cd
  have hl : (getL name es).isSome = true := by
    have g := (es_.get name).1
    cases q : a.attrs.lookup name with
    | none => rw [q] at g; rw [g]; rfl
    | some d => rw [q] at g; obtain ⟨v, hv, _⟩ := g; rw [hv]; rfl
  refine setAttr_at p.old.kin I rfl F.hs hc hp F.obj ht hh hl (by rw [es_.length]; omega) fun h' hsh tk sb hg => h _ (p.chg (.inr rfl) sb ⟨_, hg⟩ ?_ rfl)
  have kp : ∀ b o, b ≠ a.dict → s.heap.get? b = some o → h'.get? b = some o := fun b o ne e => (sb.2 b ne).trans e
  have dt' : Dat s.heap h' := fun b o e hc => kp b o (fun q => by
    subst q; rw [e2] at e; cases e
    rcases hc.2 with hc | hc
    · exact absurd hc (show Value.type "dict" ≠ Value.type "list" by decide)
    · exact absurd hc (show Value.type "dict" ≠ Value.type "tuple" by decide)) e
  refine ⟨dt, _, _, kp _ _ a.new.2.2 e1, hg, b.imp (fun ⟨q, vs, n, e, rs⟩ => ⟨q, vs, n, e, rs.step dt'⟩) id, (es_.step dt').put (r.step dt')⟩

theorem Pre.getMethod {ga T : String} {name : Str} {f : Value} {pl : Sem Bool} (p : Pre c Z n (some a) A s) (F : ClsOk c a.cls ga) (hf : findIn c.K (.ref a.cls) name = some (some f)) (ht : typeIn c.K f = some (.type T))
    (hT : (Value.type T != .type "function" && Value.type T != .type "method_descriptor" && Value.type T != .type "wrapper_descriptor") = false) (hl : a.attrs.lookup name = none) {Q : Value × List Value → Shared → Prop} {E : Value → Shared → Prop} (h : Q (f, [.ref a.addr]) s) :
    wpAny c.M A (getMethod (.ref a.addr) name pl) Q E s := by
  obtain ⟨ox, es, k, I, hdx, es_⟩ := (p.acc a rfl).inst
  have g := (es_.get name).1
  rw [hl] at g
  exact getMethod_at p.old.kin I F.hga F.hcan F.hk hf ht hT g h
end

section
variable {c : Cx} {n : Nat} {sc : Scope} {ρ : Loc} {a : Ac} {σ' : Option Ac} {Q : QT}
theorem Ev.attr {ga : String} {x name : Str} {xp pos : Pos} {d : PyData} (F : ClsOk c a.cls ga) (hn : findIn c.K (.ref a.cls) name = some none) (hd : a.attrs.lookup name = some d) (hx : ρ.lookup x = some .ac := by rfl) (hdb : (x == ("__debug__" : Str)) = false := by rfl) (hcd : (x == ("__classdict__" : Str)) = false := by rfl) :
    E1 c n sc ρ (some a) (.Attribute (.Name x xp) name pos) d := fun Z A env s I =>
  Attribute_name (ev_acName hx hdb hcd I fun a' e => by cases e; exact I.pre.getAttr F hn hd fun v r => ⟨I.toks, r⟩)
theorem S1.attrSet {ga : String} {x name : Str} {xp ap pos : Pos} {e : Expr} {d : PyData} (F : ClsOk c a.cls ga) (ht : takerIn c.K a.cls name = some none) (hz : a.attrs.length ≤ 100) (he : E1 c n sc ρ (some a) e d) (hx : ρ.lookup x = some .ac := by rfl) (hdb : (x == ("__debug__" : Str)) = false := by rfl) (hcd : (x == ("__classdict__" : Str)) = false := by rfl)
    (hs : ∀ env, swapsWith e (some (.Attribute (.Name x xp) name ap)) pos.line env = pure false := by intro _; rfl) :
    S1 c n sc ρ (some a) (.Assign [.Attribute (.Name x xp) name ap] e pos) (Qn ρ (some { a with attrs := putA name d a.attrs })) := fun Z A env s I => by
  refine plainObj_wpAny_Assign_Attribute (wp_mono (he Z A env s I) fun v s₁ ⟨P₁, r⟩ => ev_acName hx hdb hcd (I.post P₁) fun a' e => ?_) (hs env)
  cases e
  exact (I.post P₁).pre.setAttr F ht hz r fun s' P => ⟨.next, _, _, ⟨rfl, rfl, rfl⟩, (I.post P₁).post P, (P₁.trans P).toF, trivial⟩
theorem Ev.callM {ga : String} {x name : Str} {xp ap pos : Pos} {f : Addr} {es : List Expr} {vs : List V} {d : PyData} (F : ClsOk c a.cls ga) (hf : findIn c.K (.ref a.cls) name = some (some (.ref f))) (ht : typeIn c.K (.ref f) = some (.type "function")) (hl : a.attrs.lookup name = none) (hk : keepIn c.K (.ref f) = true)
    (ha : Args c n sc ρ (some a) es vs) (h : Fn c n f (.ac :: vs) (some a) d σ') (hx : ρ.lookup x = some .ac := by rfl) (hdb : (x == ("__debug__" : Str)) = false := by rfl) (hcd : (x == ("__classdict__" : Str)) = false := by rfl) {pl : Env → Sem Bool}
    (he : ∀ env, eval (.Call (.Attribute (.Name x xp) name ap) es [] pos) env = (do
      let ov ← eval (.Name x xp) env
      standAt ap.atName
      let (f, first) ← holding [ov] (getMethod ov name (pl env))
      callWith pos f first (backTo pos (starEach es env)) (backToKw pos (keywordEach [] env))) := by intro _; rfl) :
    Ev c n sc ρ (some a) (.Call (.Attribute (.Name x xp) name ap) es [] pos) d σ' := fun Z A env s I => by
  refine methodCall_KW (ev_acName hx hdb hcd I fun a' e => ?_) (he env)
  cases e
  refine I.pre.getMethod F hf ht (by decide) hl ?_
  refine callWith_of (P := fun h => c.K.In h) (by rw [ha.1 env pos]; rfl) (keeps_K hk) (evalArgs_of (ha.1 env pos) ?_)
  refine ha.2 Z A env s pos I _ _ fun us s' P I' r => ⟨I'.old.kin, ?_⟩
  exact h.call I'.pre (.cons ⟨a, rfl, rfl⟩ r) fun v s'' P' rv => ⟨P.trans P', rv⟩
end
end Mine
end

section
open PySem PySem.W PyProof.Rows PySem.Calls PySem.Spec
set_option Elab.async false
set_option linter.unusedVariables false
set_option maxRecDepth 100000
namespace Mine

section
variable {c : Cx} {n : Nat} {sc : Scope} {ρ : Loc} {σ σ' : Option Ac} {Q : QT}

theorem IsList.shape {h : Heap} {l : Addr} {xs : Array Value} (hl : h.IsList l xs) : ∃ dd sl n, h.get? l = some { cls := .type "list", dict := dd, data := .seq xs n, slots := sl } := by
  obtain ⟨⟨cls, dd, data, sl⟩, ho, hc, n, hd⟩ := hl
  simp only at hc hd
  subst hc hd
  exact ⟨dd, sl, n, ho⟩
theorem BinR.catLs {a b : List PyData} (h : a.length + b.length ≤ 1000000) : BinR c .Add (.list a) (.list b) (.list (a ++ b)) := fun Z n σ A s u v p ra rb => by
  obtain ⟨l, vs, rfl, z, il, rs⟩ := ra.list_inv
  obtain ⟨l', ws, rfl, z', il', rs'⟩ := rb.list_inv
  obtain ⟨dd, sl, k, ho⟩ := IsList.shape il
  obtain ⟨dd2, sl2, k2, ho2⟩ := IsList.shape il'
  have e : vs.toArray ++ ws.toArray = (vs ++ ws).toArray := by simp
  have hsz : vs.toArray.size + ws.toArray.size ≤ sizeLine := by rw [List.size_toArray, List.size_toArray, rs.length, rs'.length, sizeLine_eq]; omega
  refine concat_meets ⟨_, ho, rfl⟩ ⟨_, ho2, rfl⟩ noFill_list_add seq_list_add PySem.F.slot_list_add PySem.F.entry_list_add (PySem.F.args_list_add_2 _ _) (list_addW l l' vs.toArray ws.toArray k k2 dd dd2 sl sl2 hsz) ⟨ho, ho2, ?_⟩
  rw [e]
  exact (p.newSeq (rs.append rs')).1
theorem Rps.reps {Z : AP} {h : Heap} {vs : List Value} {ds : List PyData} (r : Rps Z h vs ds) : ∀ k : Nat, Rps Z h (List.replicate k vs).flatten (List.replicate k ds).flatten
  | 0 => .nil
  | k + 1 => by rw [List.replicate_succ, List.replicate_succ, List.flatten_cons, List.flatten_cons]; exact r.append (Rps.reps r k)
theorem BinR.repLI {a : List PyData} {x : Int} (h : a.length * x.toNat ≤ 1000000) (h1 : -1000000 ≤ x) (h2 : x ≤ 1000000) : BinR c .Mult (.list a) (.int x) (.list (List.replicate x.toNat a).flatten) := fun Z n σ A s u v p ra rb => by
  obtain ⟨l, vs, rfl, z, il, rs⟩ := ra.list_inv
  obtain ⟨t, rfl⟩ := rb.int_inv
  obtain ⟨dd, sl, k, ho⟩ := IsList.shape il
  have hsz' : vs.toArray.size * x.toNat ≤ 1000000 := by rw [List.size_toArray, rs.length]; exact h
  refine wpAny_binaryOp_repeat_ref (T := "list") (U := "int") (by decide) ⟨_, ho, rfl⟩ (fun s' => typeIs_int s' x t) noFill_list_mul PySem.F.fills_int_mul PySem.F.slot_int_rmul repeat_list PySem.F.slot_int_index.lookup
    (call_meets PySem.F.slot_int_rmul (typeIs_int s x t) PySem.F.entry_int_rmul (PySem.F.args_int_rmul_2 _ _) (lm_int_rmul_list_any x t l vs.toArray k dd sl)
      ⟨ho, rfl, ⟨_, ho, rfl⟩, call_meets PySem.F.slot_list_mul ⟨_, ho, rfl⟩ PySem.F.entry_list_mul (PySem.F.args_list_mul_2 _ _)
        (lm_list_mul_any l vs.toArray k dd sl x t (by simp [Builtin.List.listFitsIndex]; omega) (Nat.not_lt.mpr (Nat.le_trans hsz' (by decide))) (by
          have : ¬ vs.toArray.size * x.toNat > sizeLine := by rw [sizeLine_eq]; omega
          exact fun h => absurd (of_decide_eq_true h) this))
        ⟨ho, ?_⟩⟩)
  rw [listMul_foldl_if]
  exact (p.newSeq (rs.reps x.toNat)).1
theorem BinR.repL {a : List PyData} {x : Nat} (h : a.length * x ≤ 1000000) (hx : x ≤ 1000000) : BinR c .Mult (.list a) (.int (x : Int)) (.list (List.replicate x a).flatten) :=
  BinR.repLI (x := (x : Int)) (by simpa using h) (by omega) (by omega)
theorem BfR.lenL {ds : List PyData} (h : ds.length ≤ 1000000) : BfR c n (.builtin "len") [.d (.list ds)] σ (.int ds.length) σ := fun Z A s us p r => by
  cases r with
  | cons a r =>
    cases r
    obtain ⟨l, vs, rfl, z, il, rs⟩ := Rp.list_inv a
    refine call_len_list il (by rw [List.size_toArray, rs.length]; omega) ⟨p.toks, ?_⟩
    rw [List.size_toArray, rs.length]
    exact .int _ _
theorem BfR.tupL {ds : List PyData} (h : ds.length ≤ 1000000) : BfR c n (.type "tuple") [.d (.list ds)] σ (.tuple ds) σ := fun Z A s us p r => by
  cases r with
  | cons a r =>
    cases r
    obtain ⟨l, vs, rfl, z, il, rs⟩ := Rp.list_inv a
    refine call_tuple_list il (fun h' k => ?_) (by rw [List.size_toArray, rs.length, sizeLine_eq]; omega)
    have P₁ : Post c Z σ σ s { s with heap := h' } := p.heap k
    have := ((p.post P₁).newSeq (tk := s.toks) (rs.step (.of_keep k))).2
    exact ⟨P₁.trans this.1, this.2⟩
/-! ## stores of more shapes -/
theorem S1.tup {ts : List Expr} {k : Nat} {tpos pos : Pos} {e : Expr} {ds : List PyData} {ρ' : Loc} (h : Ev c n sc ρ σ e (.tuple ds) σ') (ha : AsgM true c n sc ρ σ' (.Tuple ts k tpos) (.tuple ds) ρ')
    (hs : swapsWithSole [.Tuple ts k tpos] e pos.line = fun _ => pure false := by rfl) (hw : ∀ env, swappedStores [.Tuple ts k tpos] e env = pure none := by intro _; rfl) :
    S1 c n sc ρ σ (.Assign [.Tuple ts k tpos] e pos) (Qn ρ' σ') := fun Z A env s I =>
  Assign_Tuple (wp_mono (h Z A env s I) fun v s' ⟨P, r⟩ => wp_mono (ha Z A env s' v (I.post P) r) fun _ s'' ⟨I'', P''⟩ => ⟨.next, _, _, ⟨rfl, rfl, rfl⟩, I'', P.toF.trans P'', trivial⟩) (congrFun hs env) (hw env)
theorem S1.three {x y z : Str} {px py pz pos : Pos} {e : Expr} {d : PyData} (h : Ev c n sc ρ σ e d σ') (hx : Sto sc x) (hy : Sto sc y) (hz : Sto sc z) (hw : ∀ env, swappedStores [.Name x px, .Name y py, .Name z pz] e env = pure none := by intro _; rfl) :
    S1 c n sc ρ σ (.Assign [.Name x px, .Name y py, .Name z pz] e pos) (Qn ((z, .d d) :: (y, .d d) :: (x, .d d) :: ρ) σ') := fun Z A env s I =>
  wpAny_Assign_three (wp_mono (h Z A env s I) fun v s' ⟨P, r⟩ => wpAny_assign_Name ((I.post P).store hx (v := .d d) r fun s₁ I₁ P₁ =>
    wpAny_assign_Name (I₁.store hy (v := .d d) (r.step P₁.stp.dat) fun s₂ I₂ P₂ => wpAny_assign_Name (I₂.store hz (v := .d d) ((r.step P₁.stp.dat).step P₂.stp.dat) fun s₃ I₃ P₃ =>
      ⟨.next, _, _, ⟨rfl, rfl, rfl⟩, I₃, ((P.toF.trans P₁).trans P₂).trans P₃, trivial⟩)))) rfl (hw env)
theorem Ss.tup {ts : List Expr} {k : Nat} {tpos pos : Pos} {e : Expr} {ds : List PyData} {ρ' : Loc} {rest : List Stmt} (h : Ev c n sc ρ σ e (.tuple ds) σ') (ha : AsgM true c n sc ρ σ' (.Tuple ts k tpos) (.tuple ds) ρ') (hn : Ss c n sc ρ' σ' rest Q)
    (hs : swapsWithSole [.Tuple ts k tpos] e pos.line = fun _ => pure false := by rfl) (hw : ∀ env, swappedStores [.Tuple ts k tpos] e env = pure none := by intro _; rfl) :
    Ss c n sc ρ σ (.Assign [.Tuple ts k tpos] e pos :: rest) Q := .step (.tup h ha hs hw) hn

/-- a field of a class of the text -/
theorem Ev.clsAttr {f name : Str} {fp pos : Pos} {C : Addr} {x : Str} {t : Tok} (g : GlobIs c sc f (.ref C)) (hr : readsIn c.K C (.type "type") = true) (e : findCls c.K (.ref C) (.type "type") name = some (.val (.str x t))) : E1 c n sc ρ σ (.Attribute (.Name f fp) name pos) (.str x) := fun Z A env s I =>
  Attribute_name (g.name I (cls_value I.old.kin hr e rfl ⟨I.toks, .str _ _⟩))

/-! ## ranges -/
theorem Src.range2 {f : Str} {p pos : Pos} {l r : Expr} {a b : Nat} (g : GlobIs c sc f (.type "range")) (hl : E1 c n sc ρ σ l (.int (a : Int))) (hr : E1 c n sc ρ σ r (.int (b : Int))) (h1 : a ≤ 1000000) (h2 : b ≤ 1000000) (hb : ∀ env, starEach [r] env = (false, eval r env) :: starEach [] env := by intro _; rfl) (he : ∀ env, starEach [l, r] env = (false, eval l env) :: starEach [r] env := by intro _; rfl) :
    Src c n sc ρ σ (.Call (.Name f p) [l, r] [] pos) (rngD a (b - a)) := fun Z A env s Q E I k => by
  have ha : Args c n sc ρ σ [l, r] [.d (.int (a : Int)), .d (.int (b : Int))] := .cons (.of hl) (.cons (.of hr) .nil hb) he
  refine wpAny_Call_NameR (g.name I (PyProof.Rows.callWith_type (ha.1 env pos) (evalArgs_of (ha.1 env pos) ?_)))
  refine ha.2 Z A env s pos I _ _ fun us s' P I' r => ?_
  cases r with
  | cons r1 r =>
  cases r with
  | cons r2 r =>
  cases r
  obtain ⟨t, rfl⟩ := Rp.int_inv r1
  obtain ⟨t', rfl⟩ := Rp.int_inv r2
  refine call_range_2 ?_
  refine wpAny_pyIter_range (IsRange.new ..) (small_one (by omega) (by omega) (by omega) (by omega)) ?_
  have P₁ := P.push { cls := .type "range", data := .fields #[.int a t, .int b t', .int 1 s'.toks] } (tk := s'.toks + 1)
  dsimp only
  generalize s'.heap.push { cls := .type "range", data := .fields #[.int a t, .int b t', .int 1 s'.toks] } = h1 at P₁ ⊢
  have hI : h1.get? h1.objs.size = none := none_of (Nat.le_refl _)
  have e2 : Builtin.Range.rangeSize (a : Int) (b : Int) 1 = ((b - a : Nat) : Int) := by rw [rangeSize_one]; split <;> omega
  refine k h1.objs.size [h1.objs.size] (StR h1.objs.size) { s' with heap := h1.push { cls := .type "range_iterator", data := .fields #[rawInt a, rawInt (Builtin.Range.rangeSize a b 1), rawInt 1] }, toks := s'.toks + 1 } iter_range ⟨(a : Int), b - a, ?_, rfl⟩ (P₁.push _) (fun a' ea m => ?_) (P₁.stp.fresh hI) (P₁.stp.old.new (Nat.le_refl _))
  · rw [← e2]
    exact Heap.get?_push_size _ rfl
  · exact acc_old (P₁.acc a' ea) hI (List.mem_singleton.mp m)
end
end Mine
end

section
open PySem PySem.W PyProof.Rows PySem.Calls PySem.Spec
set_option Elab.async false
set_option linter.unusedVariables false
set_option maxRecDepth 100000
namespace Mine

theorem intBits_small {a : Nat} (h : a < 2 ^ 60) : Builtin.Int.intBits (a : Int) ≤ 64 := by
  exact intBits_le_64 (by omega) (by omega)
noncomputable def natD (l : List Nat) : List PyData := l.map fun (k : Nat) => .int (k : Int)
noncomputable def ilStep (ts : Nat) (counts : List Nat) (il : Nat) (i : Nat) : Nat := il + (ts + i) / ts * counts.getD (ts + i) 0
noncomputable def ilOf (ts : Nat) (counts : List Nat) : Nat := (List.range (counts.length - ts)).foldl (ilStep ts counts) 0
theorem fdiv_nat (a b : Nat) : (a : Int).fdiv b = ((a / b : Nat) : Int) := by rw [Int.fdiv_eq_ediv_of_nonneg _ (by omega)]; rfl
theorem fmod_nat' (a b : Nat) : (a : Int).fmod b = ((a % b : Nat) : Int) := by rw [Int.fmod_eq_emod_of_nonneg _ (by omega)]; rfl
section
variable {c : Cx}
theorem BfR.lenT {n : Nat} {σ : Option Ac} {ds : List PyData} (h : ds.length ≤ 1000000) : BfR c n (.builtin "len") [.d (.tuple ds)] σ (.int ds.length) σ := fun Z A s us p r => by
  cases r with
  | cons a r =>
    cases r
    obtain ⟨l, vs, rfl, z, il, rs⟩ := Rp.tuple_inv a
    have e : vs.toArray.size = ds.length := by rw [List.size_toArray, rs.length]
    refine PyProof.Rows.len_tuple il (by rw [e]; omega) ?_
    rw [e]
    exact ⟨p.toks, .int _ _⟩
theorem BinR.mulN {a b : Nat} (h : a < 2 ^ 60) : BinR c .Mult (.int (a : Int)) (.int (b : Int)) (.int ((a * b : Nat) : Int)) := (BinR.mul (.of_left (intBits_small h))).to (by rw [Int.natCast_mul])
theorem BinR.fdivN {a : Nat} (b : Nat) (h : b ≠ 0) (h2 : b < 2 ^ 60) : BinR c .FloorDiv (.int (a : Int)) (.int (b : Int)) (.int ((a / b : Nat) : Int)) := (BinR.fdiv (by omega) (by
  have : b.log2 < 60 := (Nat.log2_lt h).mpr h2
  simpa using Nat.lt_trans this (by decide))).to (by rw [fdiv_nat])
end

theorem fn_indent {c : Cx} {n : Nat} {a : Ac} {ts tr nt : Nat} {counts : List Nat} (D : DefAt c 167 dIndent .none []) (hrange : GlobIs c dIndent.scope "range" (.type "range")) (hlen : GlobIs c dIndent.scope "len" (.builtin "len")) (F : ClsOk c a.cls "object.__getattribute__")
    (n1 : findIn c.K (.ref a.cls) "norm" = some none) (n2 : findIn c.K (.ref a.cls) "nt" = some none) (h1 : a.attrs.lookup ("norm" : Str) = some (.tuple [.tuple (natD counts), .int (tr : Int)])) (h2 : a.attrs.lookup ("nt" : Str) = some (.int (nt : Int)))
    (hts : 0 < ts) (hts2 : ts ≤ 100) (hcl : counts.length ≤ 100) : Fn c (n + 1) 167 [.ac, .d (.int (ts : Int))] (some a) (.int ((tr + ts * (ilOf ts counts + nt) : Nat) : Int)) (some a) := by
  refine Fn.of (names := ["self", "tabsize"]) D (by decide +kernel) (fun fd e1 e2 e3 us hu => ?_) rfl ?_
  · obtain ⟨u, v, rfl⟩ := args2 hu
    rw [fd_is e1 e2 e3]; rfl
  refine Ss.tup (.attr F n1 h1) (.tuple (.cons (.inl (by rfl)) (.cons (.inl (by rfl)) .nil))) ?_
  refine Ss.set (d := .int ((0 : Nat) : Int)) .int ?_
  refine Ss.fold (List.range (counts.length - ts)) (fun i => .int ((ts : Int) + (i : Int))) (ilStep ts counts) 0 (fun il => [("il", .d (.int (il : Int))), ("tabsize", .d (.int (ts : Int))), ("trailing", .d (.int (tr : Int))), ("count", .d (.tuple (natD counts))), ("self", .ac)]) (fun _ => some a) (fun _ _ => True)
    (.range2 hrange .name ((Ev.callB hlen (.cons (.of .name) .nil) (.lenT (by simp [natD]; omega))).to (by simp [natD])) (by omega) (by omega)) ⟨by rfl, by rfl, by rfl, by rfl, by rfl, trivial⟩ rfl trivial
    (fun pre i post il e _ => ⟨_, .name (.inl (by rfl)), ?_⟩) (fun _ => .ret (.bin .name (.bin .name (.bin .name (.attr F n2 h2) (.addN _)) (.mulN (by omega))) (.addN _)) ⟨.inl rfl, rfl⟩)
  have hi : ts + i < counts.length := by
    have : i ∈ List.range (counts.length - ts) := by rw [← e]; simp
    simp at this; omega
  have e1 : ((ts : Int) + (i : Int)).toNat = ts + i := by omega
  have e0 : (ts : Int) + (i : Int) = ((ts + i : Nat) : Int) := by omega
  refine Ss.set (.bin .name (.bin (.bin (Ev.to .name (congrArg PyData.int e0)) .name (.fdivN ts (by omega) (by omega))) (.itemT (d := .int ((counts.getD (ts + i) 0 : Nat) : Int)) .name .name (by omega) (by omega) (by rw [e1]; simp [natD, List.getElem?_eq_getElem hi])) (.mulN ?_)) (.addN _)) (.nil ⟨⟨by rfl, by rfl, by rfl, by rfl, by rfl, trivial⟩, rfl, trivial⟩)
  exact Nat.lt_of_le_of_lt (Nat.div_le_self _ _) (by omega)
end Mine
end

section
open PySem PySem.W PyProof.Rows PySem.Calls PySem.Spec
set_option Elab.async false
set_option linter.unusedVariables false
set_option maxRecDepth 100000
namespace Mine

/-! ## a list of one's own that is turned in place -/
noncomputable def FlatD : PyData → Prop
  | .int _ | .str _ | .bool _ | .none => True
  | _ => False
noncomputable def FlatV : V → Prop
  | .d x => FlatD x
  | .ac => True
theorem Rp.flat {Z Z' : AP} {h h' : Heap} {u : Value} {d : PyData} (f : FlatD d) (r : Rp Z h u d) : Rp Z' h' u d := by
  cases r <;> first | exact f.elim | constructor
theorem RV.flat {Z Z' : AP} {h h' : Heap} {σ : Option Ac} {u : Value} {v : V} (f : FlatV v) (r : RV Z h σ u v) : RV Z' h' σ u v := by
  cases v with
  | d x => exact Rp.flat f r
  | ac => exact r
noncomputable def FlatA (a : Ac) : Prop := a.cls = 198 ∧ ∀ x d, (x, d) ∈ a.attrs → FlatD d
theorem EsAre.flat {Z Z' : AP} {h h' : Heap} {es : List DictEntry} {l : List (Str × PyData)} (x : EsAre Z h es l) (f : ∀ x d, (x, d) ∈ l → FlatD d) : EsAre Z' h' es l := by
  induction x with
  | nil => exact .nil
  | cons r _ ih => exact .cons (r.flat (f _ _ (.head _))) (ih fun x d m => f x d (.tail _ m))
theorem AccAt.flat {Z Z' : AP} {h h' : Heap} {a : Ac} (x : AccAt Z h a) (f : FlatA a) (k1 : ∀ o, h.get? a.addr = some o → h'.get? a.addr = some o) (k2 : ∀ o, h.get? a.dict = some o → h'.get? a.dict = some o) : AccAt Z' h' a := by
  obtain ⟨dt, es, k, e1, e2, b, r⟩ := x
  refine ⟨dt, es, k, k1 _ e1, k2 _ e2, ?_, r.flat f.2⟩
  rcases b with ⟨q, _⟩ | q
  · rw [f.1] at q; exact absurd q (by decide)
  · exact .inr q

noncomputable def KeepI (s s' : Shared) : Prop := ∀ b o, s.heap.get? b = some o → o.cls = .type "str_ascii_iterator" → (∃ vs, o.data = .fields vs) → s'.heap.get? b = some o
theorem KeepI.trans {s s' s'' : Shared} (x : KeepI s s') (y : KeepI s' s'') : KeepI s s'' := fun b o e h1 h2 => y b o (x b o e h1 h2) h1 h2
theorem KeepI.refl (s : Shared) : KeepI s s := fun _ _ e _ _ => e

section
variable {c : Cx} {n : Nat} {sc : Scope} {ρ : Loc} {σ₀ σ σ' : Option Ac} {Q : QT}
theorem KeepI.of {Z : AP} {A : Around} {env : Env} {s s' : Shared} (I : In c Z n sc ρ σ A env s) (P : PostF c env σ σ' s s') : KeepI s s' := fun b o e hc ⟨vs, hd⟩ => by
  have hn : ¬ Tb (ownM true env (Xs σ)) b := by
    rintro (rfl | rfl | rfl | ⟨_, x, q⟩ | ⟨a, ea, rfl | rfl⟩)
    · obtain ⟨ps, _, ⟨o', vs', q, _⟩, q2⟩ := I.old.t1
      rw [e] at q2; cases q2; cases hc
    · obtain ⟨ps, _, ⟨o', vs', q, _⟩, q2⟩ := I.old.t2
      rw [e] at q2; cases q2; cases hc
    · obtain ⟨m, oL, es, ep, q, q2, _⟩ := I.ns
      rw [e] at q; cases q; rw [hd] at q2; cases q2
    · obtain ⟨u, oc, q1, q2⟩ := I.cells x b q
      rw [e] at q1; cases q1; rw [hd] at q2; cases q2
    · obtain ⟨dt, es, k, q, _⟩ := (I.acc a ea).1
      rw [e] at q; cases q; cases hc
    · obtain ⟨dt, es, k, _, q, _⟩ := (I.acc a ea).1
      rw [e] at q; cases q; cases hd
  obtain ⟨o', e', sm⟩ := P.stp.kp b o e hn
  rw [e', sm.eq (by rw [hc]; decide)]

noncomputable def LeftB (c : Cx) (Z : AP) (n : Nat) (sc : Scope) (σ₀ : Option Ac) (A : Around) (env : Env) (Q : QT) (s₀ s : Shared) (f : Flow) (s' : Shared) : Prop :=
  ∃ o ρ' σ', Q o ρ' σ' ∧ In c Z n sc ρ' σ' A env s' ∧ PostF c env σ₀ σ' s₀ s' ∧ KeepI s s' ∧ FlowIs Z s'.heap f o
/-- judged from an earlier state: what is new since then may be turned -/
noncomputable def SB (c : Cx) (n : Nat) (sc : Scope) (σ₀ : Option Ac) (ρ : Loc) (σ : Option Ac) (body : List Stmt) (Q : QT) : Prop :=
  ∀ Z A env s₀ s, (∀ b o, s₀.heap.get? b = some o → Z b) → Old c s₀.heap → In c Z n sc ρ σ A env s → PostF c env σ₀ σ s₀ s → wpAny c.M A (execs body env) (LeftB c Z n sc σ₀ A env Q s₀ s) NoE s
theorem SB.of {body : List Stmt} (h : Ss c n sc ρ σ body Q) : SB c n sc σ₀ ρ σ body Q := fun Z A env s₀ s _ _ I P =>
  wp_mono (h Z A env s I) fun f s' ⟨o, ρ', σ', q, I', P', F⟩ => ⟨o, ρ', σ', q, I', P.trans P', .of I P', F⟩
theorem LeftB.from {Z : AP} {A : Around} {env : Env} {s₀ s s₁ s' : Shared} {f : Flow} (k : KeepI s s₁) (h : LeftB c Z n sc σ₀ A env Q s₀ s₁ f s') : LeftB c Z n sc σ₀ A env Q s₀ s f s' :=
  let ⟨o, ρ', σ', q, I, P, k', F⟩ := h; ⟨o, ρ', σ', q, I, P, k.trans k', F⟩
theorem SB.step {st : Stmt} {rest : List Stmt} {ρ' : Loc} (h : S1 c n sc ρ σ st (Qn ρ' σ')) (hn : SB c n sc σ₀ ρ' σ' rest Q) : SB c n sc σ₀ ρ σ (st :: rest) Q := fun Z A env s₀ s hz ho I P => by
  refine wpAny_execs_cons (wp_mono (h Z A env s I) fun f s₁ ⟨o, ρ₁, σ₁, ⟨e1, e2, e3⟩, I', P', F⟩ => ?_)
  subst e1; subst e2; subst e3
  cases f <;> first | exact F.elim | exact wp_mono (hn Z A env s₀ s₁ hz ho I' (P.trans P')) fun f' s₂ L => L.from (.of I P')
theorem SB.set {x : Str} {p pos : Pos} {e : Expr} {d : PyData} {rest : List Stmt} (h : Ev c n sc ρ σ e d σ') (hn : SB c n sc σ₀ ((x, .d d) :: ρ) σ' rest Q) (hx : sc.names.lookup x = some .local := by rfl)
    (hs : ∀ env : Env, env.scope = sc → swapsWith e (some (.Name x p)) pos.line env = pure false := by intro _ _; rfl) : SB c n sc σ₀ ρ σ (.Assign [.Name x p] e pos :: rest) Q := .step (.assign h (.inl hx) hs) hn
theorem SB.ite1 {t : Expr} {b : Bool} {body orelse : List Stmt} {pos : Pos} (ht : EvB c n sc ρ σ t b σ) (h : SB c n sc σ₀ ρ σ (if b then body else orelse) Q) : SB c n sc σ₀ ρ σ [.If t body orelse pos] Q := fun Z A env s₀ s hz ho I P => by
  refine wpAny_execs_cons (wpAny_If (wp_mono (ht Z A env s I) fun r s' ⟨e, P'⟩ => ?_))
  subst e
  have fin : ∀ l, SB c n sc σ₀ ρ σ l Q → wpAny c.M A (execs l env) (fun f s₂ => match f with | .next => wpAny c.M A (execs [] env) (LeftB c Z n sc σ₀ A env Q s₀ s) NoE s₂ | f => LeftB c Z n sc σ₀ A env Q s₀ s f s₂) NoE s' := fun l hl =>
    wp_mono (hl Z A env s₀ s' hz ho (I.post P') (P.trans P'.toF)) fun f s₂ L => by
      have L' := L.from (.of I P'.toF)
      cases f <;> first | exact wpAny_execs_nil L' | exact L'
  cases r with
  | true => exact fin _ h
  | false => exact fin _ h
end
end Mine
end

section
open PySem PySem.W PyProof.Rows PySem.Calls PySem.Spec
set_option Elab.async false
set_option linter.unusedVariables false
set_option maxRecDepth 100000
namespace Mine
theorem Rps.flat {Z Z' : AP} {h h' : Heap} : ∀ {vs : List Value} {ds : List PyData}, (∀ d ∈ ds, FlatD d) → Rps Z h vs ds → Rps Z' h' vs ds
  | _, _, _, .nil => .nil
  | _, _, f, .cons a r => .cons (a.flat (f _ (.head _))) (Rps.flat (fun d m => f d (.tail _ m)) r)
section
variable {c : Cx} {n : Nat} {sc : Scope} {ρ : Loc} {σ₀ σ σ' : Option Ac} {Q : QT}

/-- an item of a list is set; the list keeps all else -/
theorem set_item {prog : Program} {w : World} {A : Around} {E : Value → Shared → Prop} {s : Shared} {l : Addr} {o : Obj} {items : Array Value} {ne j : Nat} {t : Tok} {v : Value} {Q : Unit → Shared → Prop} (ho : s.heap.get? l = some o) (hc : o.cls = .type "list") (hd : o.data = .seq items ne)
    {k : Int} (h0 : 0 ≤ k) (hfit : k < 2 ^ 63) (hk : k = j) (hj : j < items.size)
    (hQ : ∀ h', (∃ o' n', h'.get? l = some o' ∧ o'.cls = .type "list" ∧ o'.data = .seq (items.setIfInBounds j v) n' ∧ o'.dict = o.dict) → Heap.SameBut l s.heap h' → Q () { s with heap := h' }) :
    wpAny (model prog w) A (setItem (.ref l) (.int k t) v) Q E s := by
  have hl : s.heap.IsList l items := ⟨o, ho, hc, ne, hd⟩
  unfold setItem
  refine wpAny_holding (wpAny_bind (wpAny_sequenceKey hl.typeIs (by decide) ?_))
  refine wpAny_bind (wpAny_callSpecial?_slot (name := Str.ofString "__setitem__") hl.typeIs slot_list_setitem
    (wpAny_call_entry slot_list_setitem hl.typeIs entry_list_setitem ?_ (args_list_setitem _ _ _)))
  show wpAny _ _ (Builtin.List.listSubscript? (.int k t) >>= _) _ _ s
  refine wpAny_bind (wpAny_listSubscript_int (fitsIndex_of h0 hfit) ?_)
  clear hfit
  subst hk
  show wpAny _ _ ((seqItemAt l j >>= fun r => pure (r.map (j, ·))) >>= _) _ _ s
  refine wpAny_bind (wpAny_bind (wpAny_seqItemAt ho hd (wpAny_pure ?_)))
  rw [Array.getElem?_eq_getElem hj]
  show wpAny _ _ (setSeqItemAt l j v >>= _) _ _ s
  obtain ⟨n', hd'⟩ := Obj.data_mapSeq hd (·.setIfInBounds j v)
  have hfin : ∃ o' n', (s.heap.update l (Obj.mapSeq (·.setIfInBounds j v))).get? l = some o' ∧ o'.cls = .type "list" ∧ o'.data = .seq (items.setIfInBounds j v) n' ∧ o'.dict = o.dict :=
    ⟨_, n', Heap.get?_update_self _ ho (Obj.isFreed_of_seq hd'), (Obj.cls_mapSeq ..).trans hc, hd', by
      obtain ⟨c1, d1, dt, sl⟩ := o
      cases hd; rfl⟩
  refine wpAny_bind (wpAny_setSeqItemAt ho hd ?_)
  first
    | exact wpAny_bind (wpAny_pure (wpAny_pure ⟨.none, rfl, wpAny_pure (hQ _ hfin (Heap.SameBut.update ..))⟩))
    | exact wpAny_pure ⟨.none, rfl, wpAny_pure (hQ _ hfin (Heap.SameBut.update ..))⟩

/-- a list that the earlier state had not is turned -/
theorem In.item {Z : AP} {A : Around} {env : Env} {s₀ s : Shared} {ρf : Loc} {x : Str} {l : Addr} {vs ws : List Value} {es : List PyData} {m : Str → Option Value} {h' : Heap} {tk : Tok} (hz : ∀ b o, s₀.heap.get? b = some o → Z b) (ho : Old c s₀.heap) (I : In c Z n sc ρ σ A env s) (P : PostF c env σ₀ σ s₀ s)
    (hm : s.heap.Ns env.locals m) (hx : m x = some (.ref l)) (hxl : sc.names.lookup x = some .local) (zl : ¬ Z l) (il : s.heap.IsList l vs.toArray) (rs : Rps Z s.heap ws es) (hfl : ∀ d ∈ es, FlatD d)
    (hf : ∀ y w, ρf.lookup y = some w → FlatV w ∧ ∃ u, RV Z s.heap σ u w ∧ Bound sc env m s.heap y u) (hσ : ∀ a, σ = some a → FlatA a) (il' : h'.IsList l ws.toArray) (idn : ∀ o', h'.get? l = some o' → o'.dict = none) (sb : Heap.SameBut l s.heap h') :
    In c Z n sc ((x, .d (.list es)) :: ρf) σ A env { s with heap := h', toks := tk } ∧ PostF c env σ₀ σ s₀ { s with heap := h', toks := tk } ∧ KeepI s { s with heap := h', toks := tk } := by
  obtain ⟨o, eo, hc, nn, hd⟩ := id il
  have k : ∀ b o, b ≠ l → s.heap.get? b = some o → h'.get? b = some o := fun b o ne e => (sb.2 b ne).trans e
  have old0 : ∀ b o, s₀.heap.get? b = some o → b ≠ l := fun b o e q => zl (q ▸ hz b o e)
  have kold : ∀ b o o', s₀.heap.get? b = some o → s.heap.get? b = some o' → h'.get? b = some o' := fun b o o' e e' => k b o' (old0 b o e) e'
  have O' : Old c h' := by
    have tab : ∀ {cd Pa : Addr}, (∃ o, s₀.heap.get? cd = some o) → (∃ o, s₀.heap.get? Pa = some o) → Tab s.heap cd Pa → Tab h' cd Pa := by
      rintro cd Pa ⟨o1, h1⟩ ⟨o2, h2⟩ ⟨ps, x, y⟩
      refine ⟨ps, isCode_at x (fun o => kold _ _ o h1) (fun o => kold _ _ o h2), ?_⟩
      obtain ⟨⟨o₁, vs, q1, q⟩, y2⟩ := y
      exact ⟨⟨o₁, vs, kold _ _ _ h1 q1, q⟩, kold _ _ _ h2 y2⟩
    have al : ∀ {cd Pa : Addr}, Tab s₀.heap cd Pa → (∃ o, s₀.heap.get? cd = some o) ∧ ∃ o, s₀.heap.get? Pa = some o := by
      rintro cd Pa ⟨ps, _, ⟨o₁, vs, q1, _⟩, y2⟩
      exact ⟨⟨_, q1⟩, ⟨_, y2⟩⟩
    exact ⟨fun b o e h1 h2 => kold b o o (ho.keep b o e h1 h2) (I.old.keep b o e h1 h2), tab (al ho.t1).1 (al ho.t1).2 I.old.t1, tab (al ho.t2).1 (al ho.t2).2 I.old.t2, fun P hP ps e => (I.old.ex P hP ps e).elim fun m q => (ho.ex P hP ps e).elim fun m0 q0 => ⟨m, kold _ _ _ q0 q⟩⟩
  have cell : ∀ {b : Addr} {v : Option Value}, s.heap.IsCell b v → h'.IsCell b v := by
    rintro b v ⟨o', e1, e2⟩
    refine ⟨o', k _ _ (fun q => ?_) e1, e2⟩
    rw [q, eo] at e1; cases e1; rw [hd] at e2; cases e2
  have al : ∀ b o, s.heap.get? b = some o → ∃ o', h'.get? b = some o' := fun b o e => by
    by_cases q : b = l
    · obtain ⟨o', e', _⟩ := il'; exact ⟨o', q ▸ e'⟩
    · exact ⟨o, k b o q e⟩
  have hne : ∀ {b : Addr} {o' : Obj}, s.heap.get? b = some o' → o'.cls ≠ .type "list" → b ≠ l := fun e h q => by rw [q, eo] at e; cases e; exact h hc
  have ha : ∀ a, σ = some a → AccAt Z h' a := fun a e => (I.acc a e).1.flat (hσ a e) (fun o e' => k _ _ (fun q => by
      obtain ⟨dt, es', kk, q1, _⟩ := (I.acc a e).1
      rw [q, eo] at q1; cases q1; cases hc) e') fun o e' => k _ _ (fun q => by
      obtain ⟨dt, es', kk, _, q1, _⟩ := (I.acc a e).1
      rw [q, eo] at q1; cases q1; cases hd) e'
  refine ⟨⟨O', I.gens, fun b z => (I.zal b z).elim fun o e => al b o e, room_mono I.room fun b o' e hc' => ⟨o', k _ _ (hne e (by rw [hc']; decide)) e, .refl _⟩, I.scope, I.kind, I.gl, I.bi, fun a e => ⟨ha a e, (I.acc a e).2⟩, ⟨m, ns_at hm fun oL eL => k _ _ (fun q => ?_) eL, fun y w e => ?_⟩, I.cel, fun y b e => ?_, I.inj, I.newL, ?_, I.newC⟩, ⟨⟨fun b o e nb => ?_, fun b o e hc => ?_, fun b o e => ?_, O', I.gens, P.stp.os⟩, P.adr⟩, fun b o e hc' _ => k b o (hne e (by rw [hc']; decide)) e⟩
  · obtain ⟨o', es', ep, ho', hd', _⟩ := hm
    rw [q, eo] at ho'; cases ho'; rw [hd] at hd'; cases hd'
  · rw [lookup_upd] at e
    split at e
    · rename_i q
      cases e
      subst q
      refine ⟨.ref l, ?_, .inl ⟨hxl, hx⟩⟩
      have rs' : Rps Z h' ws es := Rps.flat hfl rs
      obtain ⟨o', e', hc', n', hd'⟩ := il'
      exact .list zl e' hc' hd' (idn _ e') (by simpa using rs')
    · obtain ⟨fw, u, r, b⟩ := hf y w e
      refine ⟨u, r.flat fw, ?_⟩
      rcases b with b | ⟨b1, a, b2, b3⟩
      · exact .inl b
      · exact .inr ⟨b1, a, b2, cell b3⟩
  · obtain ⟨u, i⟩ := I.cells y b e
    exact ⟨u, cell i⟩
  · obtain ⟨L, o', h2, h3, h4, h5, h6⟩ := I.fr
    exact ⟨L, o', h2, h3, k _ _ (hne h4 (by rw [h5]; decide)) h4, h5, h6⟩
  · obtain ⟨o', e', sm⟩ := P.stp.kp b o e nb
    exact ⟨o', kold b o o' e e', sm⟩
  · exact kold b o o e (P.stp.dat b o e hc)
  · obtain ⟨o', e'⟩ := P.stp.al b o e
    exact al b o' e'

theorem Rps.set {Z : AP} {h : Heap} {vs : List Value} {ds : List PyData} (r : Rps Z h vs ds) {k : Nat} {v : Value} {d : PyData} (rv : Rp Z h v d) : Rps Z h (vs.set k v) (ds.set k d) := by
  induction vs generalizing ds k with
  | nil => cases r; exact .nil
  | cons w vs ih =>
    cases r with
    | cons a r =>
      cases k with
      | zero => exact .cons rv r
      | succ k => exact .cons a (ih r)

theorem SB.item {x i : Str} {px pi ps pos : Pos} {e : Expr} {ds : List PyData} {k : Nat} {v : Int} {ρf : Loc} {rest : List Stmt} (he : E1 c n sc ρ σ e (.int v)) (hk : k < ds.length) (hbig : ds.length < 1000000) (hfl : ∀ d ∈ ds, FlatD d) (hf : ∀ y w, ρf.lookup y = some w → FlatV w ∧ ρ.lookup y = some w) (hσ : ∀ a, σ = some a → FlatA a)
    (hn : SB c n sc σ₀ ((x, .d (.list (ds.set k (.int v)))) :: ρf) σ rest Q) (hx : ρ.lookup x = some (.d (.list ds)) := by rfl) (hi : ρ.lookup i = some (.d (.int (k : Int))) := by rfl) (hxl : sc.names.lookup x = some .local := by rfl) (hxd : (x == ("__debug__" : Str)) = false := by rfl) (hid : (i == ("__debug__" : Str)) = false := by rfl) (hic : (i == ("__classdict__" : Str)) = false := by rfl)
    (hs : ∀ env : Env, env.scope = sc → swapsWith e (some (.Subscript (.Name x px) (.Name i pi) ps)) pos.line env = pure false := by intro _ _; rfl) :
    SB c n sc σ₀ ρ σ (.Assign [.Subscript (.Name x px) (.Name i pi) ps] e pos :: rest) Q := fun Z A env s₀ s hz ho I P => by
  refine wpAny_execs_cons (wpAny_Assign_Subscript (wp_mono (he Z A env s I) fun w s₁ ⟨P₁, r₁⟩ => ?_) (hs env I.scope))
  have I₁ := I.post P₁
  obtain ⟨m, hm, hr⟩ := I₁.loc
  obtain ⟨u, ru, b⟩ := hr x _ hx
  have hkf : env.scope.kind = .function := by rw [I₁.scope]; exact I₁.kind
  have hmx : m x = some u := by
    rcases b with ⟨_, b⟩ | ⟨b, _⟩
    · exact b
    · rcases b with b | b <;> (rw [hxl] at b; cases b)
  obtain ⟨l, vs, rfl, zl, il, rs⟩ := Rp.list_inv ru
  refine wpAny_Name (wpAny_loadName_local hkf (by rw [Env.kindOf, I₁.scope]; exact hxl) hm hmx ?_) hxd
  refine wp_mono ((Ev.name hi hid hic) Z A env s₁ I₁) fun iv s₂ ⟨P₂, r₂⟩ => ?_
  obtain ⟨t, rfl⟩ := r₂.int_inv
  have I₂ := I₁.post P₂
  have PF : PostF c env σ₀ σ s₀ s₂ := (P.trans P₁.toF).trans P₂.toF
  have K2 : KeepI s s₂ := (KeepI.of I P₁.toF).trans (.of I₁ P₂.toF)
  have hm₂ : s₂.heap.Ns env.locals m := ns_kp I₁.old (fun a e => (I₁.acc a e).1) P₂.stp.kp hm fun a e => (I₁.acc a e).2
  obtain ⟨l', vsa, ol, nl, hl', zl', hol, hcl, hdl, hnl, rsa⟩ := Rp.list_full (ru.step P₂.stp.dat)
  cases hl'
  obtain ⟨vs', rfl⟩ : ∃ vs' : List Value, vsa = vs'.toArray := ⟨vsa.toList, by simp⟩
  have rs' : Rps Z s₂.heap vs' ds := by simpa using rsa
  have il' : s₂.heap.IsList l vs'.toArray := ⟨ol, hol, hcl, nl, hdl⟩
  have hlen : vs'.length = ds.length := rs'.length
  refine set_item hol hcl hdl (by omega) (by omega) rfl (by rw [List.size_toArray, hlen]; omega) fun h' ih sb => ?_
  have e1 : (vs'.toArray.setIfInBounds k w) = (vs'.set k w).toArray := by simp
  rw [e1] at ih
  obtain ⟨o', n', ih1, ih2, ih3, ih4⟩ := ih
  have ih : h'.IsList l (vs'.set k w).toArray := ⟨o', ih1, ih2, n', ih3⟩
  have idn : ∀ o'', h'.get? l = some o'' → o''.dict = none := fun o'' e'' => by rw [ih1] at e''; cases e''; rw [ih4, hnl]
  obtain ⟨I₃, P₃, K₃⟩ := In.item (tk := s₂.toks) (ρf := ρf) hz ho I₂ PF hm₂ hmx hxl zl' il' (rs'.set (k := k) (r₁.step P₂.stp.dat)) (fun d md => by
      rcases List.mem_or_eq_of_mem_set md with h | h
      · exact hfl d h
      · rw [h]; trivial) (fun y w' e' => by
      obtain ⟨fw, e''⟩ := hf y w' e'
      obtain ⟨u', r', b'⟩ := hr y w' e''
      exact ⟨fw, u', RV.mono P₂.adr P₂.stp.dat r', b'.kp I₁.old (fun a e => (I₁.acc a e).1) P₂.stp.kp⟩) hσ ih idn sb
  exact wp_mono (hn Z A env s₀ _ hz ho I₃ P₃) fun f' s₄ L => L.from (K2.trans K₃)

theorem SB.pre {body : List Stmt} {ρ' : Loc} (hs : Sub ρ' ρ) (h : SB c n sc σ₀ ρ' σ body Q) : SB c n sc σ₀ ρ σ body Q := fun Z A env s₀ s hz ho I P => h Z A env s₀ s hz ho (I.weak hs.look) P
theorem SB.mono {body : List Stmt} {Q' : QT} (h : SB c n sc σ₀ ρ σ body Q') (hq : ∀ o ρ₁ σ₁, Q' o ρ₁ σ₁ → Q o ρ₁ σ₁) : SB c n sc σ₀ ρ σ body Q := fun Z A env s₀ s hz ho I P =>
  wp_mono (h Z A env s₀ s hz ho I P) fun _ _ ⟨o, ρ', σ', q, r⟩ => ⟨o, ρ', σ', hq _ _ _ q, r⟩
/-- the state before is the base -/
theorem Ss.base {body : List Stmt} (hf : ∀ y w, ρ.lookup y = some w → FlatV w) (hσ : ∀ a, σ = some a → FlatA a) (h : SB c n sc σ ρ σ body Q) (hq : ∀ o ρ' σ', Q o ρ' σ' → ∀ d, o = .ret d → FlatD d) : Ss c n sc ρ σ body Q := fun Z A env s I => by
  have I' : In c (fun b => Z b ∨ ∃ o, s.heap.get? b = some o) n sc ρ σ A env s := by
    refine { I with zal := fun b z => z.elim (I.zal b) id, acc := fun a e => ⟨(I.acc a e).1.flat (hσ a e) (fun _ e => e) fun _ e => e, (I.acc a e).2⟩, loc := ?_ }
    obtain ⟨m, hm, hr⟩ := I.loc
    refine ⟨m, hm, fun y w e => ?_⟩
    obtain ⟨u, r, b⟩ := hr y w e
    exact ⟨u, r.flat (hf y w e), b⟩
  refine wp_mono (h _ A env s s (fun b o e => .inr ⟨o, e⟩) I.old I' (.refl I')) fun f s' ⟨o, ρ', σ', q, I₂, P₂, _, F⟩ => ⟨o, ρ', σ', q, ?_, P₂, ?_⟩
  · have dt : Dt (fun b => Z b ∨ ∃ o, s.heap.get? b = some o) Z s'.heap s'.heap := fun b o z e _ => ⟨fun q => z (.inl q), e⟩
    refine { I₂ with zal := fun b z => I₂.zal b (.inl z), acc := fun a e => ⟨(I₂.acc a e).1.dt (fun _ e => e) (fun _ e => e) dt, (I₂.acc a e).2⟩, loc := ?_ }
    obtain ⟨m, hm, hr⟩ := I₂.loc
    refine ⟨m, hm, fun y w e => ?_⟩
    obtain ⟨u, r, b⟩ := hr y w e
    refine ⟨u, ?_, b⟩
    cases w with
    | d x => exact Rp.dt dt r
    | ac => exact r
  · cases f <;> cases o <;> first | exact F.elim | trivial | skip
    exact Rp.flat (hq _ _ _ q _ rfl) F
end
end Mine
end

section
open PySem PySem.W PyProof.Rows PySem.Calls PySem.Spec
set_option Elab.async false
set_option linter.unusedVariables false
set_option maxRecDepth 100000
namespace Mine
noncomputable def runS {β : Type} (st : β → Nat → Option β) : β → List Nat → β
  | b, [] => b
  | b, k :: r => match st b k with | some b' => runS st b' r | none => b
section
variable {c : Cx} {n : Nat} {sc : Scope} {ρ : Loc} {σ₀ σ σ' : Option Ac} {Q : QT}
theorem SB.chars {β : Type} {y : Str} {py pos : Pos} {iter : Expr} {body rest : List Stmt} (l : List Nat) (env : β → Loc) (st : β → Nat → Option β) (Pr : List Nat → β → Prop) (b0 : β)
    (hsrc : E1 c n sc ρ σ iter (.str (tx l))) (hasc : ∀ k ∈ l, k < 128) (h0 : Sub (env b0) ρ) (hP : Pr l b0) (hy : sc.names.lookup y = some .local)
    (turn : ∀ k r b, k ∈ l → Pr (k :: r) b → SB c n sc σ₀ ((y, .d (.str (tx [k]))) :: env b) σ body (fun o ρ₃ σ₃ => σ₃ = σ ∧ match st b k with | some b' => o = .next ∧ Sub (env b') ρ₃ ∧ Pr r b' | none => o = .brk ∧ Sub (env b) ρ₃))
    (done : (∃ r, Pr r (runS st b0 l)) → SB c n sc σ₀ (env (runS st b0 l)) σ rest Q) (hs : ∀ x env, foldedSetIterable iter env x = pure x := by intro _ _; rfl) : SB c n sc σ₀ ρ σ (.For (.Name y py) iter body [] pos :: rest) Q := fun Z A en s₀ s hz ho I P => by
  refine wpAny_execs_cons (wpAny_For (wp_mono (hsrc Z A en s I) fun v s₁ ⟨P₁, r⟩ => ?_) (fun x => hs x en))
  obtain ⟨t, rfl⟩ := r.str_inv
  have hI : s₁.heap.get? s₁.heap.objs.size = none := none_of (Nat.le_refl _)
  have ha : (tx l).cps.all (· < 128) = true := by simp only [tx, List.all_toArray, List.all_eq_true, decide_eq_true_eq]; exact hasc
  refine wpAny_pyIter_ascii ha ?_
  have P₂ := P₁.push { cls := .type "str_ascii_iterator", data := .fields #[.str (tx l) t, .int 0 0] } (tk := s₁.toks)
  have st₂ : StS s₁.heap.objs.size (tx l) t (s₁.heap.push { cls := .type "str_ascii_iterator", data := .fields #[.str (tx l) t, .int 0 0] }) (signs (tx l)) := ⟨0, ⟨_, Heap.get?_push_size _ rfl, rfl, rfl⟩, rfl⟩
  have hn : s.heap.get? s₁.heap.objs.size = none := P₁.stp.fresh hI
  have hi : 235 ≤ s₁.heap.objs.size := P₁.stp.old.new (Nat.le_refl _)
  generalize hIt : s₁.heap.objs.size = It at *
  generalize s₁.heap.push { cls := .type "str_ascii_iterator", data := .fields #[.str (tx l) t, .int 0 0] } = h₂ at *
  have hh := I.room.hd
  have hn0 : s₀.heap.get? It = none := P.stp.fresh hn
  have hzI : ¬ Z It := fun z => (I.zal _ z).elim fun o e => by rw [hn] at e; cases e
  have it : ∀ h₀ : Heap, Iter c Z h₀ It [It] (StS It (tx l) t) := fun _ => iter_str
  have hsig : ∀ l : List Nat, signs (tx l) = l.map fun k => .str (tx [k]) := fun l => by simp [signs, tx]
  refine codeAny_forLoop_any (fun k s' => ∃ todo b, todo.length = k ∧ runS st b todo = runS st b0 l ∧ (∀ x ∈ todo, x ∈ l) ∧ Pr todo b ∧ In c Z n sc (env b) σ A en s' ∧ PostF c en σ₀ σ s₀ s' ∧ StS It (tx l) t s'.heap (todo.map fun k => .str (tx [k])) ∧ KeepI s s')
    (fun k s' ⟨todo, b, hk, hrun, hmem, hPb, I', P', st', kp'⟩ => ?_) l.length ⟨l, b0, rfl, rfl, fun _ h => h, hP, (I.post P₂).weak h0.look, P.trans P₂.toF, hsig l ▸ st₂, .of I P₂.toF⟩
  have ki : ∀ {h : Heap} {tk : Tok}, (∀ b o, b ≠ It → s'.heap.get? b = some o → h.get? b = some o) → KeepI s { s' with heap := h, toks := tk } := fun kk b o e h1 h2 => kk b o (fun q => by rw [q, hn] at e; cases e) (kp' b o e h1 h2)
  cases todo with
  | nil =>
    refine (it s'.heap).stop A s' _ _ hh st' fun h' tk kp => ?_
    obtain ⟨oI, eI, fI⟩ := (it s'.heap).fixI _ _ st'
    refine wpAny_execs_nil ?_
    have e : b = runS st b0 l := by rw [← hrun]; rfl
    subst e
    exact wp_mono (done ⟨_, hPb⟩ Z A en s₀ _ hz ho (I'.but eI fI hi kp hzI) (P'.but hn0 eI hi kp)) fun f s₂ L => L.from (ki kp)
  | cons d todo =>
    refine (it s'.heap).next A s' _ _ _ _ hh st' (.refl _) fun v h₁ tk₁ st₁ r₁ k₁ => ?_
    obtain ⟨oI, eI, fI⟩ := (it s'.heap).fixI _ _ st'
    have I₁ : In c Z n sc (env b) σ A en { s' with heap := h₁, toks := tk₁ } := I'.but eI fI hi k₁ hzI
    have P₁ : PostF c en σ₀ σ s₀ { s' with heap := h₁, toks := tk₁ } := P'.but hn0 eI hi k₁
    obtain ⟨oI₁, eI₁, fI₁⟩ := (it s'.heap).fixI _ _ st₁
    refine (it s'.heap).go A { s' with heap := h₁, toks := tk₁ } _ _ _ _ _ st₁ fun h₂' st₂' k₂ => ?_
    have I₂ : In c Z n sc (env b) σ A en { s' with heap := h₂', toks := tk₁ } := I₁.but eI₁ fI₁ hi k₂ hzI
    have P₂' : PostF c en σ₀ σ s₀ { s' with heap := h₂', toks := tk₁ } := P₁.but hn0 eI₁ hi k₂
    have r₂ : Rp Z h₂' v (.str (tx [d])) := ((r₁ Z (fun b z => .inl z) I'.zal).step (dat_but eI₁ fI₁ k₂))
    refine wpAny_assign_Name (I₂.store (all := true) (.inl hy) (v := .d _) r₂ fun s₃ I₃ P₃ => ?_)
    have kk : KeepI s s₃ := (ki (tk := tk₁) fun b o ne e => k₂ b o ne (k₁ b o ne e)).trans (.of I₂ P₃)
    obtain ⟨oI₂, eI₂, hcI, hdI⟩ := (show ∃ o, h₂'.get? It = some o ∧ o.cls = .type "str_ascii_iterator" ∧ ∃ vs, o.data = .fields vs from by
      obtain ⟨i, ⟨o, e, h1, h2⟩, _⟩ := st₂'
      exact ⟨o, e, h1, _, h2⟩)
    have kI : s₃.heap.get? It = some oI₂ := KeepI.of I₂ P₃ It oI₂ eI₂ hcI hdI
    refine wp_mono (turn d todo b (hmem _ (.head _)) hPb Z A en s₀ s₃ hz ho I₃ (P₂'.trans P₃)) fun f s₄ ⟨o, ρ₃, σ₃, ⟨eσ, q⟩, I₄, P₄, K₄, F⟩ => ?_
    subst eσ
    have kI₄ := K₄ It oI₂ kI hcI hdI
    cases hst : st b d with
    | some b' =>
      rw [hst] at q
      obtain ⟨rfl, hsub, hPb'⟩ := q
      cases f <;> first | exact F.elim | skip
      refine ⟨todo.length, by rw [← hk]; exact Nat.lt_succ_self _, todo, b', rfl, ?_, fun x m => hmem x (.tail _ m), hPb', I₄.weak hsub.look, P₄, ?_, kk.trans K₄⟩
      · rw [← hrun]; show _ = match st b d with | some b' => runS st b' todo | none => b
        rw [hst]
      · obtain ⟨i, ⟨o, e, h1⟩, h2⟩ := st₂'
        rw [eI₂] at e; cases e
        exact ⟨i, ⟨oI₂, kI₄, h1⟩, h2⟩
    | none =>
      rw [hst] at q
      obtain ⟨rfl, hsub⟩ := q
      cases f <;> first | exact F.elim | skip
      have e : b = runS st b0 l := by rw [← hrun]; show b = match st b d with | some b' => runS st b' todo | none => b; rw [hst]
      subst e
      exact wp_mono (done ⟨_, hPb⟩ Z A en s₀ s₄ hz ho (I₄.weak hsub.look) P₄) fun f s₅ L => L.from (kk.trans K₄)
end
end Mine
end

section
open PySem PySem.W PyProof.Rows PySem.Calls PySem.Spec
set_option Elab.async false
set_option linter.unusedVariables false
set_option maxRecDepth 100000
namespace Mine

structure WS where
  count : List Nat
  b : Nat
  n : Nat
  nt : Nat
noncomputable def WS.grow (s : WS) : List Nat := if s.count.length ≤ s.b then s.count ++ List.replicate (s.b - s.count.length + 1) 0 else s.count
noncomputable def WS.step (s : WS) (k : Nat) : Option WS :=
  if k = 32 then some { s with n := s.n + 1, b := s.b + 1 }
  else if k = 9 then some ⟨s.grow.set s.b (s.grow.getD s.b 0 + 1), 0, s.n + 1, s.nt + 1⟩
  else none
noncomputable def WS.run (l : List Nat) : WS := runS WS.step ⟨[], 0, 0, 0⟩ l
noncomputable def wsAttrs (l : List Nat) : List (Str × PyData) :=
  [("raw", .str (tx l)), ("n", .int ((WS.run l).n : Int)), ("nt", .int ((WS.run l).nt : Int)), ("norm", .tuple [.tuple (natD (WS.run l).count), .int ((WS.run l).b : Int)]), ("is_simple", .bool (decide (((WS.run l).count.length : Int) ≤ 1)))]

theorem natD_length (l : List Nat) : (natD l).length = l.length := by simp [natD]
theorem natD_append (a b : List Nat) : natD a ++ natD b = natD (a ++ b) := by simp [natD]
theorem natD_zeros (k : Nat) : (List.replicate k [PyData.int 0]).flatten = natD (List.replicate k 0) := by
  induction k with
  | zero => rfl
  | succ k ih => rw [List.replicate_succ, List.flatten_cons, ih]; simp [natD, List.replicate_succ]
theorem natD_set (l : List Nat) (k v : Nat) : (natD l).set k (.int (v : Int)) = natD (l.set k v) := by simp [natD, List.map_set]
theorem natD_flat (l : List Nat) : ∀ d ∈ natD l, FlatD d := fun d h => by
  obtain ⟨k, _, rfl⟩ := List.mem_map.mp h; trivial
theorem WS.grow_lt (s : WS) : s.b < s.grow.length := by
  unfold WS.grow
  split
  · rename_i h; rw [List.length_append, List.length_replicate]; omega
  · omega
theorem WS.grow_le (s : WS) : s.grow.length ≤ s.count.length ∨ s.grow.length ≤ s.b + 1 := by
  unfold WS.grow
  split
  · rename_i h; rw [List.length_append, List.length_replicate]; omega
  · omega
section
variable {c : Cx}
theorem Ss.swap2 {n : Nat} {sc : Scope} {ρ : Loc} {σ σ' : Option Ac} {Q : QT} {x y : Str} {px py tpos pos : Pos} {k : Nat} {e : Expr} {dx dy : PyData} {rest : List Stmt} (h : Ev c n sc ρ σ e (.tuple [dx, dy]) σ') (hn : Ss c n sc ((x, .d dx) :: (y, .d dy) :: ρ) σ' rest Q) (hx : Sto sc x) (hy : Sto sc y)
    (hs : swapsWithSole [.Tuple [.Name x px, .Name y py] k tpos] e pos.line = fun _ => pure false := by rfl) (hw : ∀ env : Env, env.scope = sc → swappedStores [.Tuple [.Name x px, .Name y py] k tpos] e env = pure (some [x, y])) :
    Ss c n sc ρ σ (.Assign [.Tuple [.Name x px, .Name y py] k tpos] e pos :: rest) Q := by
  refine .step (ρ' := (x, .d dx) :: (y, .d dy) :: ρ) (σ' := σ') (fun Z A env s I => ?_) hn
  refine Assign_Tuple_swapped (names := [x, y]) (wp_mono (h Z A env s I) fun v s₁ ⟨P, r⟩ => ?_) (congrFun hs env) (hw env I.scope)
  obtain ⟨a, vs, rfl, z, it, rs⟩ := r.tuple_inv
  have hlen : vs.toArray.size = 2 := by rw [List.size_toArray, rs.length]; rfl
  show wpAny c.M A (unpackItems (.ref a) 2 none) _ _ s₁
  rw [← hlen]
  refine unpackItems_tuple I.room.hd it fun h' hx' => ?_
  have kp : ∀ b o, s₁.heap.get? b = some o → h'.get? b = some o := fun b o e => hx' b o (Nat.ne_of_lt (Heap.lt_size e)) e
  have I₁ := I.post P
  have P₂ : Post c Z σ' σ' s₁ { s₁ with heap := h' } := I₁.heap kp
  have rs' := rs.step (.of_keep kp)
  rw [List.toList_toArray]
  cases rs' with
  | cons r1 rs' =>
  cases rs' with
  | cons r2 rs' =>
  cases rs'
  refine wpAny_bind (wpAny_holding (wpAny_bindName ?_))
  refine (I₁.post P₂).store hy (v := .d _) r2 fun s₃ I₃ P₃ => wpAny_bind (wpAny_holding (wpAny_bindName ?_))
  exact I₃.store hx (v := .d _) (r1.step P₃.stp.dat) fun s₄ I₄ P₄ => wpAny_pure ⟨.next, _, _, ⟨rfl, rfl, rfl⟩, I₄, ((P.trans P₂).toF.trans P₃).trans P₄, trivial⟩
theorem putA_len {x : Str} {d : PyData} {l : List (Str × PyData)} {k : Nat} (h : l.length ≤ k) : (putA x d l).length ≤ k + 1 := by
  induction l generalizing k with
  | nil => simp [putA]
  | cons p r ih =>
    unfold putA
    split
    · simpa using Nat.le_succ_of_le h
    · cases k with
      | zero => simp at h
      | succ k => simpa using ih (k := k) (by simpa using h)
theorem BinR.subN {a b : Nat} (h : b ≤ a) : BinR c .Sub (.int (a : Int)) (.int (b : Int)) (.int ((a - b : Nat) : Int)) := BinR.sub.to (by congr 1; omega)
end

noncomputable def wsEnv (w : WS) : Loc := [("b", .d (.int (w.b : Int))), ("n", .d (.int (w.n : Int))), ("nt", .d (.int (w.nt : Int))), ("count", .d (.list (natD w.count))), ("T", .d (.str (tx [9]))), ("S", .d (.str (tx [32]))), ("self", .ac)]
noncomputable def wsQ (σ₁ : Option Ac) (k : Nat) (r : Nat) (w : WS) : QT := fun o ρ₃ σ₃ => σ₃ = σ₁ ∧ match w.step k with | some b' => o = .next ∧ Sub (wsEnv b') ρ₃ ∧ b'.n + r ≤ 100 ∧ b'.b ≤ b'.n ∧ b'.count.length ≤ b'.n | none => o = .brk ∧ Sub (wsEnv w) ρ₃
/-- behind a tab: one more of such runs -/
theorem ws_turn9 {c : Cx} {n : Nat} {σ₀ : Option Ac} {a : Ac} {w : WS} {r : Nat} {ρ₁ : Loc} {p1 p2 p3 p4 p5 p6 p7 p8 p9 p10 p11 p12 : Pos} (hσ : FlatA a) (q1 : w.n + (r + 1) ≤ 100) (q2 : w.b ≤ w.n) (q3 : w.count.length ≤ w.n)
    (hs : Sub [("count", .d (.list (natD w.grow))), ("nt", .d (.int ((w.nt + 1 : Nat) : Int))), ("n", .d (.int ((w.n + 1 : Nat) : Int))), ("b", .d (.int (w.b : Int))), ("T", .d (.str (tx [9]))), ("S", .d (.str (tx [32]))), ("self", .ac)] ρ₁) :
    SB c n dWsInit.scope σ₀ ρ₁ (some a) [.Assign [.Subscript (.Name "count" p1) (.Name "b" p2) p3] (.BinOp (.Subscript (.Name "count" p4) (.Name "b" p5) p6) .Add (.Constant (.int 1) 0 p7) p8) p9, .Assign [.Name "b" p10] (.Constant (.int 0) 0 p11) p12] (wsQ (some a) 9 r w) := by
  have hgl := w.grow_lt
  have hgl2 := w.grow_le
  have hgb : (natD w.grow)[((w.b : Nat) : Int).toNat]? = some (.int ((w.grow.getD w.b 0 : Nat) : Int)) := by simp [natD, List.getElem?_eq_getElem hgl]
  refine SB.pre hs (SB.item (ρf := [("nt", .d (.int ((w.nt + 1 : Nat) : Int))), ("n", .d (.int ((w.n + 1 : Nat) : Int))), ("b", .d (.int (w.b : Int))), ("T", .d (.str (tx [9]))), ("S", .d (.str (tx [32]))), ("self", .ac)]) (.bin (.itemL .name .name (by omega) (by omega) hgb) .int (.addN 1)) (by rw [natD_length]; exact hgl) (by rw [natD_length]; omega) (natD_flat _) (fun y w' e => ?_) (fun a' e => by cases e; exact hσ) ?_)
  · have := lookup_mem e
    simp only [List.mem_cons, Prod.mk.injEq, List.not_mem_nil, or_false] at this
    rcases this with ⟨rfl, rfl⟩ | ⟨rfl, rfl⟩ | ⟨rfl, rfl⟩ | ⟨rfl, rfl⟩ | ⟨rfl, rfl⟩ | ⟨rfl, rfl⟩ <;> exact ⟨trivial, by rfl⟩
  · rw [natD_set]
    refine SB.set (d := .int ((0 : Nat) : Int)) .int (SB.of (.nil ⟨rfl, rfl, ⟨by rfl, by rfl, by rfl, by rfl, by rfl, by rfl, by rfl, trivial⟩, ?_, ?_, ?_⟩))
    · show w.n + 1 + r ≤ 100; omega
    · exact Nat.zero_le _
    · show (w.grow.set _ _).length ≤ w.n + 1
      rw [List.length_set]; omega

theorem fn_wsinit {c : Cx} {n : Nat} {a : Ac} {l : List Nat} {tS tT : Tok} (D : DefAt c 153 dWsInit .none []) (hlen : GlobIs c dWsInit.scope "len" (.builtin "len")) (htup : GlobIs c dWsInit.scope "tuple" (.type "tuple")) (hws : GlobIs c dWsInit.scope "Whitespace" (.ref 198)) (F : ClsOk c a.cls "object.__getattribute__")
    (hr : readsIn c.K 198 (.type "type") = true) (hS : findCls c.K (.ref 198) (.type "type") "S" = some (.val (.str (tx [32]) tS))) (hT : findCls c.K (.ref 198) (.type "type") "T" = some (.val (.str (tx [9]) tT)))
    (t1 : takerIn c.K a.cls "raw" = some none) (t2 : takerIn c.K a.cls "n" = some none) (t3 : takerIn c.K a.cls "nt" = some none) (t4 : takerIn c.K a.cls "norm" = some none) (t5 : takerIn c.K a.cls "is_simple" = some none) (n1 : findIn c.K (.ref a.cls) "raw" = some none)
    (ha : a.cls = 198) (hat : a.attrs = []) (hl : l.length ≤ 100) (hasc : ∀ k ∈ l, k < 128) : Fn c (n + 1) 153 [.ac, .d (.str (tx l))] (some a) .none (some { a with attrs := wsAttrs l }) := by
  refine Fn.of (names := ["self", "ws"]) D (by decide +kernel) (fun fd e1 e2 e3 us hu => ?_) rfl ?_
  · obtain ⟨u, v, rfl⟩ := args2 hu
    rw [fd_is e1 e2 e3]; rfl
  have hfa : ∀ x d, (x, d) ∈ putA "raw" (.str (tx l)) ([] : List (Str × PyData)) → FlatD d := fun x d m => by
    simp only [putA, List.mem_singleton, Prod.mk.injEq] at m
    rw [m.2]; trivial
  obtain ⟨ad, di, cl, at_, nw, ps⟩ := a
  dsimp only at ha hat F t1 t2 t3 t4 t5 n1
  subst hat
  refine Ss.step (.attrSet F t1 (by simp) .name) ?_
  refine Ss.swap2 (.tuple (ds := [.str (tx [32]), .str (tx [9])]) (.cons (.of (.clsAttr hws hr hS)) (.cons (.of (.clsAttr hws hr hT)) .nil)) (by simp)) ?_ (.inl (by rfl)) (.inl (by rfl)) (by rfl) (fun env e => by
    obtain ⟨scp, _, _, _, _, _, _, _, _⟩ := env
    dsimp only at e
    subst e
    rfl)
  refine Ss.pre (ρ' := [("T", .d (.str (tx [9]))), ("S", .d (.str (tx [32]))), ("self", .ac)]) ⟨by rfl, by rfl, by rfl, trivial⟩ ?_
  refine Ss.base (fun y w e => ?_) (fun a e => ?_) ?_ (fun o ρ' σ' ⟨q, _⟩ d e => ?_)
  · have := lookup_mem e
    simp only [List.mem_cons, Prod.mk.injEq, List.not_mem_nil, or_false] at this
    rcases this with ⟨_, rfl⟩ | ⟨_, rfl⟩ | ⟨_, rfl⟩ <;> trivial
  · cases e
    refine ⟨ha, fun x d m => ?_⟩
    simp only [putA, List.mem_singleton, Prod.mk.injEq] at m
    rw [m.2]; trivial
  · refine SB.set (d := .list (natD [])) (.list (ds := []) .nil (by simp)) ?_
    refine SB.step (.three (d := .int ((0 : Nat) : Int)) .int (.inl (by rfl)) (.inl (by rfl)) (.inl (by rfl))) ?_
    refine SB.chars l wsEnv WS.step
      (fun r w => w.n + r.length ≤ 100 ∧ w.b ≤ w.n ∧ w.count.length ≤ w.n) ⟨[], 0, 0, 0⟩ (.attr F n1 (by rfl)) hasc ⟨by rfl, by rfl, by rfl, by rfl, by rfl, by rfl, by rfl, trivial⟩ ⟨by simpa using hl, Nat.le_refl _, Nat.le_refl _⟩ (by rfl) (fun k r w hk ⟨p1, p2, p3⟩ => ?_) (fun ⟨r, p1, p2, p3⟩ => ?_)
    · simp only [List.length_cons] at p1
      refine SB.ite1 (.cmp .name .name .eqL) ?_
      by_cases h32 : k = 32
      · subst h32
        refine SB.of (Ss.set (.bin .name .int (.addN 1)) (.set (.bin .name .int (.addN 1)) (.nil ⟨rfl, ?_⟩)))
        exact ⟨rfl, ⟨by rfl, by rfl, by rfl, by rfl, by rfl, by rfl, by rfl, trivial⟩, by show w.n + 1 + _ ≤ _; omega, by show w.b + 1 ≤ w.n + 1; omega, by show w.count.length ≤ w.n + 1; omega⟩
      · have e32 : ([k] == [32]) = false := by simpa using h32
        rw [e32, if_neg (by decide)]
        refine SB.ite1 (.cmp .name .name .eqL) ?_
        by_cases h9 : k = 9
        · subst h9
          refine SB.set (.bin .name .int (.addN 1)) (.set (.bin .name .int (.addN 1)) ?_)
          have hgl := w.grow_lt
          have hgl2 := w.grow_le
          have hgb : w.grow[w.b]? = some (w.grow.getD w.b 0) := by rw [List.getD_eq_getElem?_getD, List.getElem?_eq_getElem hgl]; rfl
          by_cases hb : w.count.length ≤ w.b
          · have eg : w.grow = w.count ++ List.replicate (w.b - w.count.length + 1) 0 := by unfold WS.grow; rw [if_pos hb]
            refine SB.step (.ite (.to (.cmp .name (.to (.callB hlen (.cons (.of .name) .nil) (.lenL (by rw [natD_length]; omega))) (congrArg PyData.int (congrArg Nat.cast (natD_length _)))) .ge) (b' := true) (by simpa using hb)) (fun _ => .set (.to (.bin .name (.bin (.list (ds := [.int 0]) (.cons (.of .int) .nil) (by simp)) (.bin (.bin .name (.to (.callB hlen (.cons (.of .name) .nil) (.lenL (by rw [natD_length]; omega))) (congrArg PyData.int (congrArg Nat.cast (natD_length _)))) (.subN hb)) .int (.addN 1)) (.repL (by simp; omega) (by omega))) (.catLs (by rw [natD_zeros, natD_length, natD_length, List.length_replicate]; omega))) (by rw [natD_zeros, natD_append, ← eg])) (.nil ⟨rfl, rfl, rfl⟩)) (fun e => by cases e)) (SB.mono (ws_turn9 (r := r.length) ⟨ha, hfa⟩ p1 p2 p3 ?_) fun o ρ₃ σ₃ q => ?_)
            · exact ⟨by rfl, by rfl, by rfl, by rfl, by rfl, by rfl, by rfl, trivial⟩
            · exact q
          · have eg : w.grow = w.count := by unfold WS.grow; rw [if_neg hb]
            refine SB.step (.ite (.to (.cmp .name (.to (.callB hlen (.cons (.of .name) .nil) (.lenL (by rw [natD_length]; omega))) (congrArg PyData.int (congrArg Nat.cast (natD_length _)))) .ge) (b' := false) (by simpa using hb)) (fun e => nomatch e) (fun _ => .nil ⟨rfl, rfl, rfl⟩)) (SB.mono (ws_turn9 (r := r.length) ⟨ha, hfa⟩ p1 p2 p3 ?_) fun o ρ₃ σ₃ q => ?_)
            · rw [eg]; exact ⟨by rfl, by rfl, by rfl, by rfl, by rfl, by rfl, by rfl, trivial⟩
            · exact q
        · have e9 : ([k] == [9]) = false := by simpa using h9
          rw [e9, if_neg (by decide)]
          refine SB.of (.brk ?_)
          have e : WS.step w k = none := by unfold WS.step; rw [if_neg h32, if_neg h9]
          rw [e]
          exact ⟨rfl, rfl, by rfl, by rfl, by rfl, by rfl, by rfl, by rfl, by rfl, trivial⟩
    · have e : WS.run l = runS WS.step ⟨[], 0, 0, 0⟩ l := rfl
      rw [← e] at p1 p2 p3
      have e' : some (⟨ad, di, cl, wsAttrs l, nw, ps⟩ : Ac) = some ⟨ad, di, cl, wsAttrs l, nw, ps⟩ := rfl
      conv at e' => rhs; unfold wsAttrs
      show SB _ _ _ _ _ _ _ fun o _ σ₁ => _ ∧ σ₁ = some (⟨ad, di, cl, wsAttrs l, nw, ps⟩ : Ac)
      rw [e']
      clear e'
      rw [← e]
      generalize WS.run l = w at *
      refine SB.of (Ss.step (.attrSet F t2 (Nat.le_trans (putA_len (k := 0) (by simp)) (by decide)) .name) (.step (.attrSet F t3 (Nat.le_trans (putA_len (putA_len (k := 0) (by simp))) (by decide)) .name) (.step (.attrSet F t4 (Nat.le_trans (putA_len (putA_len (putA_len (k := 0) (by simp)))) (by decide)) (.tuple (ds := [.tuple (natD w.count), .int (w.b : Int)]) (.cons (.of (.callT htup (.cons (.of .name) .nil) (.tupL (by rw [natD_length]; omega)))) (.cons (.of .name) .nil)) (by simp))) (.step (.attrSet F t5 (Nat.le_trans (putA_len (putA_len (putA_len (putA_len (k := 0) (by simp))))) (by decide)) (.cmp (.to (.callB hlen (.cons (.of .name) .nil) (.lenL (by rw [natD_length]; omega))) (congrArg PyData.int (congrArg Nat.cast (natD_length _)))) .int .le)) (.nil ⟨.inr ⟨rfl, rfl⟩, by rfl⟩)))))
  · rcases q with rfl | ⟨rfl, _⟩
    · cases e; trivial
    · cases e
end Mine
end

section
open PySem PySem.W PyProof.Rows PySem.Calls PySem.Spec
set_option Elab.async false
set_option linter.unusedVariables false
set_option maxRecDepth 100000
namespace Mine

theorem tc_weight (C : Addr) (pos : List Value) : (Code.builtin "type.__call__" ⟨.ref C :: pos, []⟩).weight = 1 := by kernel_rfl
theorem tc_envs (C : Addr) (pos : List Value) : (Code.builtin "type.__call__" ⟨.ref C :: pos, []⟩).envs = [] := by kernel_rfl
theorem tc_units (C : Addr) (pos : List Value) : (Code.builtin "type.__call__" ⟨.ref C :: pos, []⟩).cUnits = 1 := by kernel_rfl
section
variable {c : Cx} {Z : AP} {n : Nat} {σ σ' : Option Ac} {A : Around} {s s₁ s' : Shared}
theorem Pre.under (p : Pre c Z (n + 1) σ A s) (C : Addr) (pos : List Value) : Pre c Z n σ (A.under (.builtin "type.__call__" ⟨.ref C :: pos, []⟩)) s := by
  refine ⟨p.old, p.gens, p.zal, ⟨p.room.hd, ?_, ?_, ?_⟩, p.acc⟩
  · have := p.room.dep
    show A.depth + (Code.builtin "type.__call__" ⟨.ref C :: pos, []⟩).weight + n ≤ 900
    rw [tc_weight]; omega
  · have := p.room.uni
    show A.units + (Code.builtin "type.__call__" ⟨.ref C :: pos, []⟩).cUnits + 100 * n ≤ 9000
    rw [tc_units]; omega
  · obtain ⟨l, e, f⟩ := p.room.fr
    refine ⟨l, ?_, f⟩
    show pushEnvs (Code.builtin "type.__call__" ⟨.ref C :: pos, []⟩).envs A.frames = some l
    rw [tc_envs]; exact e
/-- a thing that was made since is let go -/
theorem Post.forget {a : Ac} (p : Pre c Z n none A s) (k : ∀ b o, s.heap.get? b = some o → s₁.heap.get? b = some o) (ho : s₁.os = s.os) (h1 : s.heap.get? a.addr = none) (h2 : s.heap.get? a.dict = none) (P : Post c Z (some a) σ' s₁ s') : Post c Z none none s s' :=
  ⟨⟨fun b o e nb => P.stp.kp b o (k b o e) (fun q => nb (q.imp id fun q => q.imp id fun ⟨a', ea, q⟩ => by
      cases ea
      rcases q with rfl | rfl
      · rw [h1] at e; cases e
      · rw [h2] at e; cases e)), fun b o e hc => P.stp.dat b o (k b o e) hc, fun b o e => P.stp.al b o (k b o e), P.stp.old, P.stp.gens, P.stp.os.trans ho⟩, fun _ e => (by cases e), rfl⟩
end

theorem AccAt.off {c : Cx} {Z : AP} {s s' : Shared} {a : Ac} (x : AccAt Z s.heap a) (P : Post c Z none none s s') : AccAt Z s'.heap a := by
  have nt : ∀ b, 235 ≤ b → ¬ Tb (Xs none) b := fun b hb q => by
    rcases q with rfl | rfl | ⟨a', e, _⟩
    · exact absurd hb (by decide)
    · exact absurd hb (by decide)
    · cases e
  obtain ⟨dt, es, k, e1, e2, b, r⟩ := x
  have g1 : s'.heap.get? a.addr = some { cls := .ref a.cls, dict := some a.dict, data := dt } := by
    obtain ⟨o', e', sm⟩ := P.stp.kp _ _ e1 (nt _ a.new.1)
    rw [e', sm.eq (by simp)]
  have g2 : s'.heap.get? a.dict = some (dictOf es k) := by
    obtain ⟨o', e', sm⟩ := P.stp.kp _ _ e2 (nt _ a.new.2.1)
    rw [e', sm.eq (show Value.type "dict" ≠ Value.type "frame" by decide)]
  exact ⟨dt, es, k, g1, g2, b.imp (fun ⟨q, vs, n, e, rs⟩ => ⟨q, vs, n, e, rs.step P.stp.dat⟩) id, r.step P.stp.dat⟩

theorem Post.widen {c : Cx} {Z : AP} {s s' : Shared} {a : Ac} (P : Post c Z none none s s') (x : AccAt Z s.heap a) : Post c Z (some a) (some a) s s' :=
  ⟨P.stp.mono fun b ⟨a', e, _⟩ => (by cases e), fun a' e => by cases e; exact x.off P, rfl⟩
/-- what level a lead has -/
noncomputable def levelOf (l : List Nat) (ts : Nat) : Nat := (WS.run l).b + ts * (ilOf ts (WS.run l).count + (WS.run l).nt)

structure WsFacts (c : Cx) : Prop where
  makes : makesIn c.K 198 = true
  init : findIn c.K (.ref 198) "__init__" = some (some (.ref 153))
  initF : typeIn c.K (.ref 153) = some (.type "function")
  ok : ClsOk c 198 "object.__getattribute__"
  lvl : findIn c.K (.ref 198) "indent_level" = some (some (.ref 167))
  lvlF : typeIn c.K (.ref 167) = some (.type "function")
  lvlK : keepIn c.K (.ref 167) = true
  clsK : keepIn c.K (.ref 198) = true

theorem Ev.level {c : Cx} {n : Nat} {sc : Scope} {ρ : Loc} {f : Str} {fp p1 ap p2 : Pos} {e sz : Expr} {l : List Nat} {ts : Nat} (g : GlobIs c sc f (.ref 198)) (W : WsFacts c) (he : E1 c (n + 1) sc ρ none e (.str (tx l))) (hsz : E1 c (n + 1) sc ρ none sz (.int (ts : Int)))
    (h153 : ∀ a : Ac, a.cls = 198 → a.attrs = [] → Fn c n 153 [.ac, .d (.str (tx l))] (some a) .none (some { a with attrs := wsAttrs l }))
    (h167 : ∀ a : Ac, a.cls = 198 → a.attrs = wsAttrs l → Fn c n 167 [.ac, .d (.int (ts : Int))] (some a) (.int ((levelOf l ts : Nat) : Int)) (some a))
    (hl : (wsAttrs l).lookup ("indent_level" : Str) = none := by rfl) (h1 : ∀ env, starEach [e] env = (false, eval e env) :: starEach [] env := by intro _; rfl) (h2 : ∀ env, starEach [sz] env = (false, eval sz env) :: starEach [] env := by intro _; rfl) {pl : Env → Sem Bool}
    (hev : ∀ env, eval (.Call (.Attribute (.Call (.Name f fp) [e] [] p1) "indent_level" ap) [sz] [] p2) env = (do
      let ov ← eval (.Call (.Name f fp) [e] [] p1) env
      standAt ap.atName
      let (f, first) ← holding [ov] (getMethod ov "indent_level" (pl env))
      callWith p2 f first (backTo p2 (starEach [sz] env)) (backToKw p2 (keywordEach [] env))) := by intro _; rfl) :
    E1 c (n + 1) sc ρ none (.Call (.Attribute (.Call (.Name f fp) [e] [] p1) "indent_level" ap) [sz] [] p2) (.int ((levelOf l ts : Nat) : Int)) := fun Z A env s I => by
  have a1 : Args c (n + 1) sc ρ none [e] [.d (.str (tx l))] := .cons (.of he) .nil h1
  have a2 : Args c (n + 1) sc ρ none [sz] [.d (.int (ts : Int))] := .cons (.of hsz) .nil h2
  refine methodCall_KW ?_ (hev env)
  refine wpAny_Call_NameR (g.name I (callWith_of (P := fun h => c.K.In h) (by rw [a1.1 env p1]; rfl) (keeps_K W.clsK) (evalArgs_of (a1.1 env p1) ?_)))
  refine a1.2 Z A env s p1 I _ _ fun us s₁ P₁ I₁ r₁ => ⟨I₁.old.kin, ?_⟩
  refine wpAny_call ?_
  obtain ⟨h, gg, d, t, os⟩ := s₁
  have X : c.K.In h := I₁.old.kin
  refine make_core (makes_of X W.makes) (looks_findIn X W.init) (fun self => bind_fn X self W.initF) (.inl rfl) ?_
  -- the thing that is made
  have hbig : 235 ≤ h.objs.size := I₁.old.new (Nat.le_refl _)
  let a : Ac := { addr := h.objs.size + 1, dict := h.objs.size, cls := 198, attrs := [], new := ⟨Nat.le_succ_of_le hbig, hbig, Nat.succ_ne_self _⟩, ps := [] }
  have kp : ∀ b o, h.get? b = some o → ((h.push emptyDict).push (instObj 198 h.objs.size)).get? b = some o := fun b o e => Heap.get?_push_of_some _ (Heap.get?_push_of_some _ e)
  have P₂ : Post c Z none none ⟨h, gg, d, t, os⟩ ⟨(h.push emptyDict).push (instObj 198 h.objs.size), gg, d, t, os⟩ := I₁.pre.heap (tk := t) kp
  have p₂ := I₁.pre.post P₂
  have hat : AccAt Z ((h.push emptyDict).push (instObj 198 h.objs.size)) a := by
    refine ⟨.plain, [], 0, ?_, ?_, .inr ⟨rfl, rfl⟩, .nil⟩
    · exact Heap.get?_push_at (by rw [Heap.size_push]) rfl
    · exact Heap.get?_push_of_some _ (Heap.get?_push_size _ rfl)
  have pa : Pre c Z (n + 1) (some a) A ⟨(h.push emptyDict).push (instObj 198 h.objs.size), gg, d, t, os⟩ := ⟨p₂.old, p₂.gens, p₂.zal, p₂.room, fun a' e => by cases e; exact hat⟩
  have r₂ : RVs Z ((h.push emptyDict).push (instObj 198 h.objs.size)) (some a) (.ref (h.objs.size + 1) :: us) [.ac, .d (.str (tx l))] := .cons ⟨a, rfl, rfl⟩ (by
    have := r₁.mono (σ' := none) rfl P₂.stp.dat
    cases this with
    | cons x y => cases y; exact .cons x .nil)
  refine codeAny_mono (h153 a rfl rfl Z _ _ _ (pa.under 198 us) r₂) fun r s₃ ⟨v, e, P₃, rv⟩ => ?_
  subst e
  cases rv
  refine ⟨rfl, ?_⟩
  have p₃ := pa.post P₃
  have F : ClsOk c 198 "object.__getattribute__" := W.ok
  refine p₃.getMethod (a := { a with attrs := wsAttrs l }) F W.lvl W.lvlF (by decide) hl ?_
  have P₁₃ : Post c Z none none s s₃ := P₁.trans (Post.forget (s := ⟨h, gg, d, t, os⟩) (s₁ := ⟨(h.push emptyDict).push (instObj 198 h.objs.size), gg, d, t, os⟩) I₁.pre kp rfl (none_of (Nat.le_succ _)) (none_of (Nat.le_refl _)) P₃)
  refine callWith_of (P := fun h => c.K.In h) (by rw [a2.1 env p2]; rfl) (keeps_K W.lvlK) (evalArgs_of (a2.1 env p2) ?_)
  have I₃ := I.post P₁₃
  refine a2.2 Z A env s₃ p2 I₃ _ _ fun us' s₄ P₄ I₄ r₄ => ⟨I₄.old.kin, ?_⟩
  have p₄ : Pre c Z (n + 1) (some { a with attrs := wsAttrs l }) A s₄ := ⟨I₄.old, I₄.gens, I₄.zal, I₄.room, fun a' e => by cases e; exact (P₃.acc _ rfl).off P₄⟩
  have r₄' : RVs Z s₄.heap (some { a with attrs := wsAttrs l }) (.ref (h.objs.size + 1) :: us') [.ac, .d (.int (ts : Int))] := .cons ⟨_, rfl, rfl⟩ (by
    cases r₄ with
    | cons x y => cases y; exact .cons x .nil)
  refine (h167 { a with attrs := wsAttrs l } rfl rfl).call (p₄.less (Nat.le_succ n)) r₄' fun v s₅ P₅ rv => ⟨?_, rv⟩
  have P₃₅ := (P₃.trans (P₄.widen (P₃.acc _ rfl))).trans P₅
  exact P₁.trans (Post.forget (s := ⟨h, gg, d, t, os⟩) (s₁ := ⟨(h.push emptyDict).push (instObj 198 h.objs.size), gg, d, t, os⟩) I₁.pre kp rfl (none_of (Nat.le_succ _)) (none_of (Nat.le_refl _)) P₃₅)
end Mine
end

section
open PySem PySem.W PyProof.Rows PySem.Calls PySem.Spec
set_option Elab.async false
set_option linter.unusedVariables false
set_option maxRecDepth 100000
namespace Mine

/-! ## an accumulator is made -/
structure AccFacts (c : Cx) : Prop where
  obj : ∃ oc od cd sl, c.K.lookup 100 = some ⟨oc, od, .cls cd, sl⟩ ∧ cd.hasDel = false ∧ cd.mro = [.ref 100, .type "list", .type "object"]
  made : ∀ S, peek c.K S (Bind.madeBy (.ref 100)) = some (some "list.__new__")
  newOk : ∀ S v, peek c.K S (checkBuiltinCall "list.__new__" ⟨[.ref 100, v], []⟩) = some ()
  isT : ∀ S, peek c.K S (isType (.ref 100)) = some true
  sub : mroIn c.K 100 (.type "list") = some true
  self : mroIn c.K 100 (.ref 100) = some true
  call : specialIn c.K (.ref 100) "__call__" = some (some (.builtin "type.__call__"))
  typ : instIn c.K (.ref 100) (.type "type") = some true
  init : findIn c.K (.ref 100) "__init__" = some (some (.ref 38))
  initF : typeIn c.K (.ref 38) = some (.type "function")
  ok : ClsOk c 100 "list.__getattribute__"
  clsK : keepIn c.K (.ref 100) = true

abbrev accObj (dx : Addr) : Obj := { cls := .ref 100, dict := some dx, data := .seq #[] }

section
variable {c : Cx} {A : Around} {R : Result → Shared → Prop} {h : Heap} {g : Array GenState} {d : Drawn} {t : Nat} {os : OsState}
theorem new_acc {v : Value} (F : AccFacts c) (X : c.K.In h) (hq : R (.ok (.ret (.ref (h.objs.size + 1)))) ⟨(h.push emptyDict).push (accObj h.objs.size), g, d, t, os⟩) :
    codeAny c.M A (.call (.builtin "list.__new__") ⟨[.ref 100, v], []⟩) R ⟨h, g, d, t, os⟩ := by
  obtain ⟨oc, od, cd, sl, hC, e2, e4⟩ := F.obj
  have L1 : Looks c.M h (checkBuiltinCall "list.__new__" ⟨[.ref 100, v], []⟩) () := Looks.of_peek X (F.newOk _ v)
  have L2 : Looks c.M h (isType (.ref 100)) true := Looks.of_peek X (F.isT _)
  have L3 : Looks c.M h (isSubtype (.ref 100) (.type "list")) true := looks_mroIn X F.sub
  refine codeAny_of_tree ?_
  show wpAny _ A.in1 (do checkBuiltinCall "list.__new__" ⟨[.ref 100, v], []⟩; again (.builtin "list.__new__" ⟨[.ref 100, v], []⟩)) _ _ _
  refine wpAny_bind (L1.at (wpAny_pure ⟨plainId_quiet PySem.F.plain_list_new _, codeAny_builtin_stack PySem.F.entry_list_new rfl fun p st => ?_⟩))
  have hown := owner_list_new
  simp only [hown]
  refine wpAny_bind (L2.at ?_)
  simp only [Bool.not_true, Bool.false_eq_true, if_false]
  refine wpAny_bind (L3.at ?_)
  simp only [Bool.not_true, Bool.false_eq_true, if_false]
  refine wpAny_bind (wpAny_pure ?_)
  rw [if_neg (by decide)]
  refine wpAny_bind (wpAny_newObj_type ?_)
  show wpAny _ _ (newObj (.ref 100) (.seq #[]) (some h.objs.size) >>= ret) _ _ _
  refine wpAny_bind ?_
  show wpAny _ _ (newObjAsIs (.ref 100) (.seq #[]) (some h.objs.size)) _ _ _
  unfold newObjAsIs classHasDel
  refine wpAny_bind (wpAny_alloc (wpAny_bind (wpAny_bind (wpAny_load (Heap.get?_push_of_some _ (Heap.get?_push_of_some _ (X _ _ hC))) (wpAny_pure ?_)))))
  rw [e2]
  refine wpAny_pure (wpAny_pure ?_)
  show R _ _
  rw [Heap.size_push]
  exact hq
theorem make_acc {v : Value} (F : AccFacts c) (X : c.K.In h)
    (hq : codeAny c.M (A.under (.builtin "type.__call__" ⟨[.ref 100, v], []⟩)) (.call (.ref 38) ⟨[.ref (h.objs.size + 1), v], []⟩) (InitBack (h.objs.size + 1) R) ⟨(h.push emptyDict).push (accObj h.objs.size), g, d, t, os⟩) :
    codeAny c.M A (.call (.ref 100) ⟨[v], []⟩) R ⟨h, g, d, t, os⟩ := by
  obtain ⟨oc, od, cd, sl, hC, e2, e4⟩ := F.obj
  have call := looks_specialIn (M := c.M) X F.call
  have typ := looks_instIn (M := c.M) X F.typ
  have made : Looks c.M h (Bind.madeBy (.ref 100)) (some "list.__new__") := Looks.of_peek X (F.made _)
  have hCh := X _ _ hC
  refine codeAny_of_tree ?_
  show wpAny _ _ (callAny (.ref 100) _) _ _ _
  refine nd_load hCh ?_
  show wpAny _ _ (callAny.viaDunder (.ref 100) _) _ _ _
  unfold callAny.viaDunder
  refine wpAny_bind (call.at ?_)
  dsimp only
  rw [tc_bind]
  refine wpAny_bind (wpAny_pure (wpAny_bind (wpAny_pure ?_)))
  refine wpAny_pure (a := Fin.again (.call (.builtin "type.__call__") ⟨[.ref 100, v], []⟩)) (And.intro rfl ?_)
  refine codeAny_call_builtin_at (Code.quiet_builtin _ (by decide +kernel)) entry_typeCall (check_slot tc_kind tc_split typ (tc_args _ _ _) ?_)
  unfold Builtin.«type.__call__»
  have hm : Looks c.M h (mroOf (.ref 100)) cd.mro := ((Looks.ld (part := none) hCh).andThen .now).andThen .now
  have ne : cd.mro.isEmpty = false := by rw [e4]; rfl
  repeat (first | simp only [ne, Bool.false_eq_true, if_false] | with_reducible refine wpAny_call ?_ | lk)
  refine new_acc F X ?_
  have k : ∀ b o, h.get? b = some o → ((h.push emptyDict).push (accObj h.objs.size)).get? b = some o := fun b o e => Heap.get?_push_of_some _ (Heap.get?_push_of_some _ e)
  have hx : ((h.push emptyDict).push (accObj h.objs.size)).get? (h.objs.size + 1) = some (accObj h.objs.size) := Heap.get?_push_at (by rw [Heap.size_push]) rfl
  have t1 : Looks c.M ((h.push emptyDict).push (accObj h.objs.size)) (typeOf (.ref (h.objs.size + 1))) (.ref 100) := (Looks.ld hx).andThen .now
  have s1 := (looks_mroIn (M := c.M) X F.self).keeps k
  have i1 := (looks_findIn (M := c.M) X F.init).keeps k
  have b1 := (bind_fn (M := c.M) X (.ref (h.objs.size + 1)) F.initF).keeps k
  unfold isInstance callSpecial? specialOf
  repeat (first | with_reducible refine wpAny_call ?_ | lk)
  refine codeAny_mono hq fun r s' z => ?_
  rcases r with e | (v | _ | _ | _) <;> first | exact z | exact z.elim | skip
  obtain ⟨rfl, z⟩ := z
  exact wpAny_pure (wpAny_pure z)
end
end Mine
end

section
open PySem PySem.W PyProof.Rows PySem.Calls PySem.Spec
set_option Elab.async false
set_option linter.unusedVariables false
set_option maxRecDepth 100000
namespace Mine

/-! ## the list's own methods on an accumulator -/
theorem check_method {M : Model} {A : Around} {E : Value → Shared → Prop} {s : Shared} {i owner n : String} {self : Value} {rest : List Value} {kw : List (Str × Value)} {Q : Unit → Shared → Prop}
    (hk : builtinKind i = some .method) (hs : splitId i = some (owner, n)) (hi : Looks M s.heap (isInstance self (.type owner)) true) (ha : argsOk i ⟨self :: rest, kw⟩) (q : Q () s) :
    wpAny M A (checkBuiltinCall i ⟨self :: rest, kw⟩) Q E s := by
  simp only [checkBuiltinCall, hk, hs]
  refine wpAny_bind (hi.here ?_)
  simp only [Bool.not_true, Bool.false_eq_true, if_false]
  cases hsig : Manifest.signature? i with
  | none => exact wpAny_pure q
  | some sig =>
    simp only [argsOk, hsig] at ha
    have h2 : Bind.checkArgs i sig ⟨self :: rest, kw⟩ = pure () := ha
    show wpAny M A (Bind.checkArgs i sig ⟨self :: rest, kw⟩) Q E s
    rw [h2]; exact wpAny_pure q

theorem AccAt.seq {Z : AP} {h : Heap} {a : Ac} (x : AccAt Z h a) (ha : a.cls = 100) : ∃ vs n es k, h.get? a.addr = some { cls := .ref 100, dict := some a.dict, data := .seq vs n } ∧ h.get? a.dict = some (dictOf es k) ∧ EsAre Z h es a.attrs ∧ Rps Z h vs.toList (a.ps.map pieceD) := by
  obtain ⟨dt, es, k, e1, e2, b, r⟩ := x
  rcases b with ⟨_, vs, n, rfl, rs⟩ | ⟨q, _⟩
  · rw [ha] at e1; exact ⟨vs, n, es, k, e1, e2, r, rs⟩
  · rw [ha] at q; exact absurd q (by decide)

theorem mapSeq_acc (vs : Array Value) (k : Nat) (d : Addr) (f : Array Value → Array Value) : ∃ n', Obj.mapSeq f { cls := .ref 100, dict := some d, data := .seq vs k } = { cls := .ref 100, dict := some d, data := .seq (f vs) n' } := ⟨_, rfl⟩
section
variable {c : Cx} {Z : AP} {n : Nat} {A : Around} {s : Shared} {a : Ac}
theorem Pre.isList (p : Pre c Z n (some a) A s) (ha : a.cls = 100) (F : AccFacts c) : Looks c.M s.heap (isInstance (.ref a.addr) (.type "list")) true := by
  obtain ⟨vs, k, es, kk, e1, _⟩ := (p.acc a rfl).seq ha
  exact ((Looks.ld e1).andThen .now : Looks c.M s.heap (typeOf (.ref a.addr)) (.ref 100)).andThen (looks_mroIn p.old.kin F.sub)
theorem Pre.listCall {id nm : String} {B : Builtin} {rest : List Value} {R : Result → Shared → Prop} (p : Pre c Z n (some a) A s) (ha : a.cls = 100) (F : AccFacts c) (plain : plainId id = true) (e : entryFor table id = some B) (k : builtinKind id = some .slot ∨ builtinKind id = some .method) (sp : splitId id = some ("list", nm))
    (args : argsOk id ⟨.ref a.addr :: rest, []⟩) (h : wpAny c.M A.in1 (B ⟨.ref a.addr :: rest, []⟩) (fun fin s' => match fin with | .done f => R (.ok f) s' | .again c' => c'.quiet = true ∧ codeAny c.M A c' R s') (fun e s' => R (.error e) s') s) :
    codeAny c.M A (.call (.builtin id) ⟨.ref a.addr :: rest, []⟩) R s := by
  have L := p.isList ha F
  rcases k with k | k
  · exact codeAny_call_builtin plain e (@check_slot c.M _ _ s id "list" nm (.ref a.addr) rest [] _ k sp L args h)
  · exact codeAny_call_builtin plain e (@check_method c.M _ _ s id "list" nm (.ref a.addr) rest [] _ k sp L args h)

/-- the pieces are turned -/
theorem Pre.pieces {vs : Array Value} {k k' : Nat} (p : Pre c Z n (some a) A s) (ha : a.cls = 100) (e1 : s.heap.get? a.addr = some { cls := .ref 100, dict := some a.dict, data := .seq vs k }) {h' : Heap} {ws : Array Value} {qs : List (Str × Str)} {tk : Tok}
    (sb : Heap.SameBut a.addr s.heap h') (e2 : h'.get? a.addr = some { cls := .ref 100, dict := some a.dict, data := .seq ws k' }) (r : Rps Z s.heap ws.toList (qs.map pieceD)) : Post c Z (some a) (some { a with ps := qs }) s { s with heap := h', toks := tk } := by
  have kp : ∀ b o, b ≠ a.addr → s.heap.get? b = some o → h'.get? b = some o := fun b o ne e => (sb.2 b ne).trans e
  have dt' : Dat s.heap h' := fun b o e hc => kp b o (fun q => by
    subst q; rw [e1] at e; cases e
    rcases hc.2 with hc | hc <;> cases hc) e
  obtain ⟨vs', k'', es', kk', f1, f2, f3, f4⟩ := (p.acc a rfl).seq ha
  refine p.chg (.inl rfl) sb ⟨_, e2⟩ ⟨_, es', kk', by rw [ha]; exact e2, kp _ _ (Ne.symm a.new.2.2) f2, .inl ⟨ha, ws, k', rfl, r.step dt'⟩, f3.step dt'⟩ rfl

theorem Pre.append {v : Value} {x : Str × Str} {Q : Value → Shared → Prop} {E : Value → Shared → Prop} (p : Pre c Z n (some a) A s) (ha : a.cls = 100) (F : AccFacts c) (hz : a.ps.length ≤ 1000) (r : Rp Z s.heap v (pieceD x))
    (hQ : ∀ s', Post c Z (some a) (some { a with ps := a.ps ++ [x] }) s s' → Q .none s') : wpAny c.M A (call (.builtin "list.append") [.ref a.addr, v]) Q E s := by
  refine wpAny_call (p.listCall ha F PySem.F.slot_list_append.plain PySem.F.entry_list_append (.inr (by decide +kernel)) (nm := "append") (by decide +kernel) (PySem.F.args_list_append_2 _ _) ?_)
  obtain ⟨vs, k, es, kk, e1, e2, e3, rs⟩ := (p.acc a rfl).seq ha
  have hsz : vs.size = a.ps.length := by have := rs.length; simpa using this
  unfold Builtin.«list.append»
  refine wpAny_bind (wpAny_pure (a := (Value.ref a.addr, v)) ?_)
  show wpAny _ _ (Builtin.List.listUpdate (.ref a.addr) (·.push v) >>= _) _ _ _
  refine wpAny_bind ?_
  show wpAny _ _ (updateSeq a.addr (·.push v)) _ _ _
  refine wpAny_updateSeq e1 rfl ?_ (by rw [hsz, sizeLine_eq]; omega) (by rw [Array.size_push, hsz, sizeLine_eq]; omega)
  obtain ⟨n', hd'⟩ := mapSeq_acc vs k a.dict (·.push v)
  have hg := Heap.get?_update_self (Obj.mapSeq (·.push v)) e1 (by rw [hd']; rfl)
  rw [hd'] at hg
  have P' := p.pieces (tk := s.toks) (qs := a.ps ++ [x]) ha e1 (Heap.SameBut.update s.heap a.addr (Obj.mapSeq (·.push v))) hg ?_
  · exact wpAny_pure (hQ _ P')
  
  rw [Array.toList_push, List.map_append]
  exact rs.append (.cons r .nil)
end
end Mine
end

section
open PySem PySem.W PyProof.Rows PySem.Calls PySem.Spec
set_option Elab.async false
set_option linter.unusedVariables false
set_option maxRecDepth 100000
namespace Mine
section
variable {c : Cx} {n : Nat} {sc : Scope} {ρ : Loc} {σ σ' : Option Ac} {a : Ac} {Q : QT}
theorem Ss.expr {e : Expr} {pos : Pos} {d : PyData} {rest : List Stmt} (h : Ev c n sc ρ σ e d σ') (hn : Ss c n sc ρ σ' rest Q) (hs : ∀ env, swapsWith e none pos.line env = pure false := by intro _; rfl) : Ss c n sc ρ σ (.Expr e pos :: rest) Q :=
  .step (ρ' := ρ) (σ' := σ') (fun Z A env s I => wpAny_Expr_any (wp_mono (h Z A env s I) fun v s' ⟨P, _⟩ => ⟨.next, _, _, ⟨rfl, rfl, rfl⟩, I.post P, P.toF, trivial⟩) (by
    unfold interactive; rw [I.scope, I.kind]; rfl) (hs env)) hn
theorem Ev.appendM {x : Str} {xp ap pos : Pos} {e : Expr} {q : Str × Str} (F : AccFacts c) (ha : a.cls = 100) (hf : findIn c.K (.ref 100) "append" = some (some (.builtin "list.append"))) (hl : a.attrs.lookup ("append" : Str) = none) (hz : a.ps.length ≤ 1000)
    (he : Args c n sc ρ (some a) [e] [.d (pieceD q)]) (hx : ρ.lookup x = some .ac := by rfl) (hdb : (x == ("__debug__" : Str)) = false := by rfl) (hcd : (x == ("__classdict__" : Str)) = false := by rfl) {pl : Env → Sem Bool}
    (hev : ∀ env, eval (.Call (.Attribute (.Name x xp) "append" ap) [e] [] pos) env = (do
      let ov ← eval (.Name x xp) env
      standAt ap.atName
      let (f, first) ← holding [ov] (getMethod ov "append" (pl env))
      callWith pos f first (backTo pos (starEach [e] env)) (backToKw pos (keywordEach [] env))) := by intro _; rfl) :
    Ev c n sc ρ (some a) (.Call (.Attribute (.Name x xp) "append" ap) [e] [] pos) .none (some { a with ps := a.ps ++ [q] }) := fun Z A env s I => by
  refine methodCall_KW (ev_acName hx hdb hcd I fun a' e => ?_) (hev env)
  cases e
  have F' : ClsOk c a.cls "list.__getattribute__" := ha ▸ F.ok
  refine I.pre.getMethod F' (f := .builtin "list.append") (T := "method_descriptor") (by rw [ha]; exact hf) (by kernel_rfl) (by decide) hl ?_
  refine Calls.callWith_builtin (he.1 env pos) (evalArgs_of (he.1 env pos) ?_)
  refine he.2 Z A env s pos I _ _ fun us s' P I' r => ?_
  cases r with
  | cons r1 r =>
  cases r
  exact I'.pre.append ha F hz r1 fun s'' P' => ⟨P.trans P', .none⟩
end
theorem fn_push {c : Cx} {n : Nat} {a : Ac} {x y : Str} (D : DefAt c 45 dPush .none []) (F : AccFacts c) (ha : a.cls = 100) (hf : findIn c.K (.ref 100) "append" = some (some (.builtin "list.append"))) (hl : a.attrs.lookup ("append" : Str) = none) (hz : a.ps.length ≤ 1000) :
    Fn c (n + 1) 45 [.ac, .d (.str x), .d (.str y)] (some a) .none (some { a with ps := a.ps ++ [(x, y)] }) := by
  refine Fn.of (names := ["self", "fws", "string"]) D (by decide +kernel) (fun fd e1 e2 e3 us hu => ?_) rfl ?_
  · obtain ⟨u, v, w, rfl⟩ := args3 hu
    rw [fd_is e1 e2 e3]; rfl
  exact Ss.expr (.appendM (q := (x, y)) F ha hf hl hz (.cons (.of (.tuple (ds := [.str x, .str y]) (.cons (.of .name) (.cons (.of .name) .nil)) (by simp))) .nil)) (.nil ⟨.inr ⟨rfl, rfl⟩, rfl⟩)
end Mine
end

section
open PySem PySem.W PyProof.Rows PySem.Calls PySem.Spec
set_option Elab.async false
set_option linter.unusedVariables false
set_option maxRecDepth 100000
namespace Mine

theorem wpAny_listItems {M : Model} {A : Around} {E : Value → Shared → Prop} {s : Shared} {l : Addr} {o : Obj} {items : Array Value} {k : Nat} {Q : Array Value → Shared → Prop} (ho : s.heap.get? l = some o) (hd : o.data = .seq items k) (h : Q items s) : wpAny M A (Builtin.List.listItems (.ref l)) Q E s := by
  unfold Builtin.List.listItems
  exact wpAny_bind (wpAny_seqItems ho hd (wpAny_pure h))
structure SubFacts (c : Cx) : Prop where
  noSeq : noSeq c.K 100 = true
  get : findIn c.K (.ref 100) "__getitem__" = some (some (.builtin "list.__getitem__"))
  set : findIn c.K (.ref 100) "__setitem__" = some (some (.builtin "list.__setitem__"))
  iter : findIn c.K (.ref 100) "__iter__" = some (some (.builtin "list.__iter__"))

section
variable {c : Cx} {Z : AP} {n : Nat} {A : Around} {s : Shared} {a : Ac} {E : Value → Shared → Prop}
theorem Pre.typ (p : Pre c Z n (some a) A s) (ha : a.cls = 100) : Looks c.M s.heap (typeOf (.ref a.addr)) (.ref 100) := by
  obtain ⟨vs, k, es, kk, e1, _⟩ := (p.acc a rfl).seq ha
  exact (Looks.ld e1).andThen .now
theorem Pre.seqKey {k : Value} {name : Str} (p : Pre c Z n (some a) A s) (ha : a.cls = 100) (F : SubFacts c) {Q : Value → Shared → Prop} (h : Q k s) : wpAny c.M A (sequenceKey (.ref a.addr) k name) Q E s := by
  unfold sequenceKey
  refine wpAny_bind ((p.typ ha).here ?_)
  refine wpAny_bind ((anyM_none p.old.kin F.noSeq).here ?_)
  rw [if_pos (show (!false) = true from rfl)]
  exact wpAny_pure h
theorem Pre.special {name : Str} {id : String} {T : String} {args : List Value} {Q : Option Value → Shared → Prop} (p : Pre c Z n (some a) A s) (ha : a.cls = 100) (hf : findIn c.K (.ref 100) name = some (some (.builtin id))) (S : Slot T name id) (h : wpAny c.M A (call (.builtin id) (.ref a.addr :: args)) (fun v => Q (some v)) E s) :
    wpAny c.M A (callSpecial? (.ref a.addr) name args) Q E s := by
  unfold callSpecial? specialOf
  refine wpAny_bind (wpAny_bind ((p.typ ha).here ((looks_findIn p.old.kin hf).here (wpAny_holding ?_))))
  rw [S.bind]
  exact wpAny_bind (wpAny_pure (wpAny_bind (wpAny_mono h (fun _ _ z => wpAny_pure z) fun _ _ z => z)))

theorem Pre.getSlice {sl : Addr} {vs : Array Value} {k : Nat} {vl vu vt : Value} {lo hi st : Option Int} {Q : Value → Shared → Prop} (p : Pre c Z n (some a) A s) (ha : a.cls = 100) (F : AccFacts c) (G : SubFacts c) (e1 : s.heap.get? a.addr = some { cls := .ref 100, dict := some a.dict, data := .seq vs k })
    (hs : s.heap.IsSliceOf sl vl vu vt) (pl : IsPart vl lo) (pu : IsPart vu hi) (ps : IsPart vt st) (h0 : st ≠ some 0) (hsz : vs.size ≤ 1000)
    (h : Q (.ref s.heap.objs.size) { s with heap := s.heap.push { cls := .type "list", data := .seq (slicePick vs lo hi st) } }) : wpAny c.M A (getItem (.ref a.addr) (.ref sl)) Q E s := by
  obtain ⟨os, hos, hcs, hds⟩ := id hs
  have hTs : s.TypeIs (.ref sl) "slice" := ⟨os, hos, hcs⟩
  unfold getItem
  refine wpAny_holding (wpAny_bind (p.seqKey ha G ?_))
  refine wpAny_bind (p.special ha G.get slot_list_getitem (wpAny_call (p.listCall ha F slot_list_getitem.plain entry_list_getitem (.inr (by decide +kernel)) (nm := "__getitem__") (by decide +kernel) (args_list_getitem _ _) ?_)))
  show wpAny _ _ (Builtin.List.listSubscript? (.ref sl) >>= _) _ _ s
  refine wpAny_bind ?_
  unfold Builtin.List.listSubscript?
  refine wpAny_bind (wpAny_specialOf hTs slice_no_index ?_)
  simp only [Option.isNone_none, if_true]
  refine wpAny_pure ?_
  show wpAny _ _ (typeOf (.ref sl) >>= _) _ _ s
  refine wpAny_bind (wpAny_typeOf hTs ?_)
  rw [if_neg (by decide)]
  rw [listSliceParts_eq]
  have hstep : ¬ ((rawPart st == rawInt 0) = true) := by
    cases st with
    | none => exact Bool.false_ne_true
    | some c =>
      intro hh
      have : c = 0 := by simpa [rawPart, rawInt] using hh
      exact h0 (by rw [this])
  refine wpAny_bind (wpAny_bind (wpAny_field hos hds (x := vt) rfl (wpAny_bind (wpAny_listPart ps ?_))))
  rw [if_neg hstep]
  refine wpAny_bind (wpAny_field hos hds (x := vl) rfl (wpAny_bind (wpAny_listPart pl ?_)))
  refine wpAny_bind (wpAny_field hos hds (x := vu) rfl (wpAny_bind (wpAny_listPart pu (wpAny_pure ?_))))
  refine wpAny_bind (m := Builtin.List.listItems (.ref a.addr)) ?_
  unfold Builtin.List.listItems
  refine wpAny_bind (wpAny_seqItems e1 rfl (wpAny_pure ?_))
  refine wpAny_bind (wpAny_of_eq (sliceIndices_raw lo hi st vs.size h0) ?_)
  refine wpAny_bind (wpAny_newObj_type (wpAny_pure ?_) (Nat.le_trans (slicePick_size_le vs lo hi st) (by rw [sizeLine_eq]; omega)))
  exact wpAny_pure h

theorem Pre.cutSlice {sl l : Addr} {vs : Array Value} {k : Nat} {vl : Value} {j : Nat} {Q : Unit → Shared → Prop} (p : Pre c Z n (some a) A s) (ha : a.cls = 100) (F : AccFacts c) (G : SubFacts c) (e1 : s.heap.get? a.addr = some { cls := .ref 100, dict := some a.dict, data := .seq vs k })
    (hs : s.heap.IsSliceOf sl vl .none .none) (pl : IsPart vl (some (j : Int))) (hj : j ≤ vs.size) (hl : s.heap.IsList l #[]) (hsz : vs.size ≤ 1000)
    (h : ∀ h' k', Heap.SameBut a.addr s.heap h' → h'.get? a.addr = some { cls := .ref 100, dict := some a.dict, data := .seq (vs.extract 0 j) k' } → Q () { s with heap := h' }) : wpAny c.M A (setItem (.ref a.addr) (.ref sl) (.ref l)) Q E s := by
  obtain ⟨os, hos, hcs, hds⟩ := id hs
  obtain ⟨ol, hol, hcl, nl, hdl⟩ := id hl
  have hTs : s.TypeIs (.ref sl) "slice" := ⟨os, hos, hcs⟩
  have hTl : s.TypeIs (.ref l) "list" := ⟨ol, hol, hcl⟩
  have hne : (a.addr == l) = false := by
    rw [beq_eq_false_iff_ne]; intro q
    rw [q, hol] at e1; cases e1; cases hcl
  unfold setItem
  refine wpAny_holding (wpAny_bind (p.seqKey ha G ?_))
  refine wpAny_bind (p.special ha G.set slot_list_setitem (wpAny_call (p.listCall ha F slot_list_setitem.plain entry_list_setitem (.inl (by decide +kernel)) (nm := "__setitem__") (by decide +kernel) (args_list_setitem _ _ _) ?_)))
  show wpAny _ _ (Builtin.List.listSubscript? (.ref sl) >>= _) _ _ s
  refine wpAny_bind ?_
  unfold Builtin.List.listSubscript?
  refine wpAny_bind (wpAny_specialOf hTs slice_no_index ?_)
  simp only [Option.isNone_none, if_true]
  refine wpAny_pure ?_
  show wpAny _ _ (typeOf (.ref sl) >>= _) _ _ s
  refine wpAny_bind (wpAny_typeOf hTs ?_)
  rw [if_neg (by decide)]
  rw [listSliceParts_eq]
  refine wpAny_bind (wpAny_bind (wpAny_field hos hds (x := .none) rfl (wpAny_bind (wpAny_listPart .none ?_))))
  rw [if_neg (show ¬ ((rawPart none == rawInt 0) = true) from Bool.false_ne_true)]
  refine wpAny_bind (wpAny_field hos hds (x := vl) rfl (wpAny_bind (wpAny_listPart pl ?_)))
  refine wpAny_bind (wpAny_field hos hds (x := .none) rfl (wpAny_bind (wpAny_listPart .none (wpAny_pure ?_))))
  dsimp only
  rw [if_neg (by show ¬ (a.addr == l) = true; rw [hne]; decide)]
  refine wpAny_bind ?_
  unfold Builtin.List.listAllItems
  refine wpAny_bind (wpAny_typeOf hTl ?_)
  rw [if_pos (by decide)]
  refine wpAny_listItems hol hdl ?_
  refine wpAny_bind (wpAny_listItems e1 rfl ?_)
  refine wpAny_bind (wpAny_of_eq (sliceIndices_raw (some (j : Int)) none none vs.size (by simp)) ?_)
  have eb : sliceBounds (some (j : Int)) none none vs.size = ((j : Int), (vs.size : Int), 1) := by
    simp only [sliceBounds, Option.getD_none]
    have h1 : ¬ ((j : Int) < 0) := by omega
    simp only [h1, if_false, show (1 : Int) > 0 by decide, if_true]
    congr 1; omega
  rw [eb]
  dsimp only
  rw [if_pos (by decide)]
  refine wpAny_bind (wpAny_rule ?_)
  rw [if_neg (by
    intro hh
    have := of_decide_eq_true hh
    rw [sizeLine_eq] at this
    simp at this
    omega)]
  refine wpAny_bind ?_
  show wpAny _ _ (updateSeq a.addr _) _ _ _
  have ex : (vs.extract 0 ((j : Int)).toNat ++ #[] ++ vs.extract (max (j : Int) (vs.size : Int)).toNat) = vs.extract 0 j := by
    have : (max (j : Int) (vs.size : Int)).toNat = vs.size := by omega
    rw [this]; simp
  refine wpAny_updateSeq e1 rfl ?_ (by rw [sizeLine_eq]; omega) (by rw [ex, sizeLine_eq]; simp; omega)
  obtain ⟨n', hd'⟩ := mapSeq_acc vs k a.dict (fun xs => xs.extract 0 ((j : Int)).toNat ++ #[] ++ xs.extract (max (j : Int) (vs.size : Int)).toNat)
  have hg := Heap.get?_update_self (Obj.mapSeq (fun xs => xs.extract 0 ((j : Int)).toNat ++ #[] ++ xs.extract (max (j : Int) (vs.size : Int)).toNat)) e1 (by rw [hd']; rfl)
  rw [hd', ex] at hg
  refine wpAny_bind (wpAny_letGo ?_)
  exact wpAny_pure (wpAny_pure (h _ _ (Heap.SameBut.update ..) hg))
end
end Mine
end

section
open PySem PySem.W PyProof.Rows PySem.Calls PySem.Spec
set_option Elab.async false
set_option linter.unusedVariables false
set_option maxRecDepth 100000
namespace Mine

/-! ## defs with a closure or with defaults -/
theorem cellsFrom_none {n : Nat} : ∀ {names : List (Str × NameKind)} {acc : List (Str × Addr)}, (∀ y ∈ names, y.2 ≠ .cell) → cellsFrom n names acc = acc
  | [], _, _ => rfl
  | (x, k) :: r, acc, h => by
    unfold cellsFrom
    rw [if_neg (by have := h _ (.head _); simpa using this)]
    exact cellsFrom_none fun y m => h y (.tail _ m)
theorem pushCells_none : ∀ {names : List (Str × NameKind)} {h : Heap}, (∀ y ∈ names, y.2 ≠ .cell) → pushCells h names = h
  | [], _, _ => rfl
  | (x, k) :: r, hp, h => by
    unfold pushCells
    rw [if_neg (by have := h _ (.head _); simpa using this)]
    exact pushCells_none fun y m => h y (.tail _ m)

theorem Fn.bodyX {c : Cx} {n : Nat} {a : Addr} {args full : List V} {σ σ' : Option Ac} {d : PyData} {fd : FuncData} {oc : Value} {od : Option Addr} {osl : Array (Option Value)} {body : List Stmt} {sc : Scope} {names : List Str} {clo : List (Str × Addr)}
    (ho : c.K.lookup a = some ⟨oc, od, .func fd, osl⟩) (hb : fd.body = .stmts body) (hsc : fd.scope = sc) (hg : fd.globals = mainGlobals) (hbi : fd.builtins = builtinsNs) (hcl : fd.closure = clo) (hcd : codeIn c.K fd.code fd.qualname = true)
    (hco : sc.isCoroutine = false) (hgen : sc.isGenerator = false) (hk : sc.kind = .function) (hnocell : ∀ y ∈ sc.names, y.2 ≠ .cell) (hfree : ∀ x, sc.names.lookup x = some .free → ∃ b, clo.lookup x = some b)
    (hclo : ∀ x b, clo.lookup x = some b → b ≠ 62 ∧ b ≠ 69 ∧ ∃ cl cd v sl, c.K.lookup b = some ⟨cl, cd, .cell v, sl⟩) (hinj : ∀ x y b, clo.lookup x = some b → clo.lookup y = some b → x = y)
    (hbind : ∀ (Z : AP) (s : Shared) us, Old c s.heap → RVs Z s.heap σ us args → ∃ us', BindsTo s fd ⟨us, []⟩ (names.zip us') ∧ RVs Z s.heap σ us' full)
    (hlen : names.length = full.length) (hloc : ∀ x ∈ names, sc.names.lookup x = some .local)
    (h : ∀ Z A L s, In c Z n sc (names.zip full).reverse σ A (callEnv sc L clo fd.qualname a fd.code) s →
      PySem.wpAt c.M A (.func body (callEnv sc L clo fd.qualname a fd.code)) (execs body (callEnv sc L clo fd.qualname a fd.code)) (Left c Z n sc σ A (callEnv sc L clo fd.qualname a fd.code) (fun o _ σ₁ => (o = .ret d ∨ (o = .next ∧ d = .none)) ∧ σ₁ = σ') s) NoE s) : Fn c (n + 1) a args σ d σ' := fun Z A s us p r => by
  have hdep : A.depth < recursionLimit := by have := p.room.dep; show A.depth < 1000; omega
  obtain ⟨us', hB, r'⟩ := hbind Z s us p.old r
  refine codeAny_call_function hdep (p.old.kin a _ ho) rfl (by rw [hsc]; exact hco) (by rw [hsc]; exact hgen) hb (codeRec_of p.old.kin hcd) (hB _ _ _ _ ?_)
  rw [hsc, hg, hbi, hcl]
  simp only [newFunctionEnv, Option.isSome_none, Bool.false_eq_true, if_false]
  refine wpAny_bind (wpAny_alloc ?_)
  refine wpAny_bind (wpAny_layCells _ (fun name kind cells => by cases hkc : kind == NameKind.cell <;> simp [hkc]) _ _ _ _ ?_)
  rw [cellsFrom_none hnocell, pushCells_none hnocell]
  generalize hh₁ : s.heap.push { cls := .type "frame", data := .dict #[] } = h₁
  have old : ∀ b o, s.heap.get? b = some o → h₁.get? b = some o := fun b o e => hh₁ ▸ Heap.get?_push_of_some _ e
  have hL : h₁.get? s.heap.objs.size = some { cls := .type "frame", data := .dict #[] } := hh₁ ▸ Heap.get?_push_size _ rfl
  have hLn : s.heap.get? s.heap.objs.size = none := none_of (Nat.le_refl _)
  have P₁ : Post c Z σ σ s { s with heap := h₁ } := p.heap old
  have p₁ := p.post P₁
  have hbig : 235 ≤ s.heap.objs.size := p.old.new (Nat.le_refl _)
  have I₁ : In c Z n sc [] σ A.in1 (callEnv sc s.heap.objs.size clo fd.qualname a fd.code) { s with heap := h₁ } := by
    refine ⟨p₁.old, p₁.gens, p₁.zal, ⟨p₁.room.hd, by have := p₁.room.dep; show A.depth + n ≤ 900; omega, by have := p₁.room.uni; show A.units + 1 + 100 * n ≤ 9000; omega, p₁.room.fr⟩, rfl, hk, rfl, rfl, fun a' e => ⟨p₁.acc a' e, fun q => ?_⟩, ⟨fun _ => none, ?_, fun x v e => by cases e⟩, fun x hx => ?_, fun x b e => ?_, hinj, hbig, ⟨_, _, rfl, hbig, hL, rfl, _, _, rfl⟩, fun x b hc _ => absurd rfl (hnocell _ (lookup_mem hc))⟩
    · obtain ⟨_, o, e2⟩ := (p.acc a' e).alive
      have q' : a'.dict = s.heap.objs.size := q
      rw [q', hLn] at e2; cases e2
    · exact ⟨_, #[], 0, hL, rfl, fun _ he => by simp at he, fun _ => rfl⟩
    · rcases hx with hx | hx
      · exact absurd rfl (hnocell _ (lookup_mem hx))
      · exact hfree x hx
    · obtain ⟨_, _, cl, cd, v, sl, e'⟩ := hclo x b e
      exact ⟨v, _, p₁.old.kin _ _ e', rfl⟩
  refine wpAny_bind (In.params (env := callEnv sc s.heap.objs.size clo fd.qualname a fd.code) (all := true) _ (fun _ _ _ => rfl) I₁ (r'.mono rfl P₁.stp.dat) hlen (fun x hx => .inl (hloc x hx)) fun s₂ I₂ M₂ => wpAny_pure ⟨I₂.old.lim, ks_codeAny_funcAt ?_⟩)
  rw [List.append_nil] at I₂
  have I₃ : In c Z n sc (names.zip full).reverse σ (A.deeper (callEnv sc s.heap.objs.size clo fd.qualname a fd.code)) (callEnv sc s.heap.objs.size clo fd.qualname a fd.code) s₂ := by
    refine { I₂ with room := ⟨p.room.hd, by have := p.room.dep; show A.depth + 1 + n ≤ 900; omega, by have := p.room.uni; show A.units + 3 + 100 * n ≤ 9000; omega, ?_⟩ }
    obtain ⟨l, e, f⟩ := I₂.room.fr
    have e' : A.frames = some l := e
    refine ⟨callEnv sc s.heap.objs.size clo fd.qualname a fd.code :: l, by show A.frames.map _ = _; rw [e']; rfl, fun env m => ?_⟩
    rcases List.mem_cons.mp m with rfl | m
    · exact ⟨by show sc.kind ≠ .module; rw [hk]; decide, I₂.fr⟩
    · exact f env m
  refine ks_wpAt_mono (h Z _ _ s₂ I₃) (fun f s' ⟨o, ρ', σ₁, ⟨ho, hσ⟩, I', M', F⟩ => ?_) fun _ _ x => x.elim
  subst hσ
  have P' := Post.leave p P₁ (M₂.trans M') I' hLn fun x b e => .inr (by
    obtain ⟨h1, h2, cl, cd, v, sl, e'⟩ := hclo x b e
    exact ⟨h1, h2, _, c.kin _ _ e'⟩)
  rcases ho with rfl | ⟨rfl, rfl⟩
  · cases f <;> first | exact F.elim | exact ⟨_, rfl, P', F⟩
  · cases f <;> first | exact F.elim | exact ⟨_, rfl, P', .none⟩
end Mine
end

section
open PySem PySem.W PyProof.Rows PySem.Calls PySem.Spec
set_option Elab.async false
set_option linter.unusedVariables false
set_option maxRecDepth 100000
namespace Mine
section
variable {c : Cx} {n : Nat} {sc : Scope} {ρ : Loc} {a : Ac} {Q : QT}
theorem pieceD_map_len (l : List (Str × Str)) : (l.map pieceD).length = l.length := by simp
theorem Ev.sliceAc {x : Str} {xp p pos : Pos} {e : Expr} {k : Nat} (F : AccFacts c) (G : SubFacts c) (ha : a.cls = 100) (he : E1 c n sc ρ (some a) e (.int (k : Int))) (hk : k ≤ a.ps.length) (hz : a.ps.length ≤ 1000) (hx : ρ.lookup x = some .ac := by rfl) (hdb : (x == ("__debug__" : Str)) = false := by rfl) (hcd : (x == ("__classdict__" : Str)) = false := by rfl) :
    E1 c n sc ρ (some a) (.Subscript (.Name x xp) (.Slice (some e) none none p) pos) (.list ((a.ps.drop k).map pieceD)) := fun Z A env s I => by
  rw [eval_Subscript]
  refine wpAny_bind (ev_acName hx hdb hcd I fun a' e => ?_)
  cases e
  refine wpAny_bind (wpAny_holding (wpAny_Slice (wp_mono ((EvP.some he) Z A env s I) fun vl s₂ ⟨P₂, q₂⟩ => ?_)))
  rw [evalPart_none]
  refine wpAny_pure (wpAny_pure (wpAny_bind (wpAny_standAt ?_)))
  have I₂ := I.post P₂
  have P₃ := P₂.push { cls := .type "slice", data := .fields #[vl, .none, .none] } (tk := s₂.toks)
  have p₃ := (I.post P₃).pre
  obtain ⟨vs, kk, es, k2, e1, e2, e3, rs⟩ := (p₃.acc a rfl).seq ha
  have hlen : vs.toList.length = a.ps.length := by rw [rs.length, pieceD_map_len]
  refine wpAny_bind ?_
  rw [getitemInPython_of_ne (by simp)]
  refine wpAny_bind (wpAny_bind ((p₃.typ ha).here ((looks_findIn p₃.old.kin G.get).here ?_)))
  refine wpAny_pure (wpAny_bind (wpAny_operating ?_))
  refine p₃.getSlice ha F G e1 (Heap.IsSliceOf.new ..) q₂ .none .none (by simp) (by rw [← Array.length_toList, hlen]; exact hz) (wpAny_bind (wpAny_of_eq (a := ()) rfl (wpAny_pure ?_)))
  have r' := rs.picked (some (k : Int)) none none
  rw [picked_drop _ _ (by rw [pieceD_map_len]; exact hk), ← List.map_drop, Array.toArray_toList] at r'
  have N := (p₃.newSeq (tk := s₂.toks) r').1
  rw [Array.toArray_toList] at N
  exact ⟨P₃.trans N.1, N.2⟩

theorem S1.cutAc {x : Str} {xp p sp lp pos : Pos} {e : Expr} {k : Nat} (F : AccFacts c) (G : SubFacts c) (ha : a.cls = 100) (he : E1 c n sc ρ (some a) e (.int (k : Int))) (hk : k ≤ a.ps.length) (hz : a.ps.length ≤ 1000) (hx : ρ.lookup x = some .ac := by rfl) (hdb : (x == ("__debug__" : Str)) = false := by rfl) (hcd : (x == ("__classdict__" : Str)) = false := by rfl)
    (hs : ∀ env, swapsWith (.List [] lp) (some (.Subscript (.Name x xp) (.Slice (some e) none none p) sp)) pos.line env = pure false := by intro _; rfl) :
    S1 c n sc ρ (some a) (.Assign [.Subscript (.Name x xp) (.Slice (some e) none none p) sp] (.List [] lp) pos) (Qn ρ (some { a with ps := a.ps.take k })) := fun Z A env s I => by
  refine wpAny_Assign_Subscript (wp_mono ((Ev.list (ds := []) .nil (by simp)) Z A env s I) fun v s₁ ⟨P₁, r₁⟩ => ev_acName hx hdb hcd (I.post P₁) fun a' e => ?_) (hs env)
  cases e
  have I₁ := I.post P₁
  refine wpAny_Slice (wp_mono ((EvP.some he) Z A env s₁ I₁) fun vl s₂ ⟨P₂, q₂⟩ => ?_)
  rw [evalPart_none]
  refine wpAny_pure (wpAny_pure ?_)
  have P₃ := (P₁.trans P₂).push { cls := .type "slice", data := .fields #[vl, .none, .none] } (tk := s₂.toks)
  have p₃ := (I.post P₃).pre
  obtain ⟨l, ws, rfl, z, il, rw_⟩ := ((r₁.step P₂.stp.dat).step (.of_keep fun _ _ e => Heap.get?_push_of_some { cls := .type "slice", data := .fields #[vl, .none, .none] } e)).list_inv
  cases rw_
  obtain ⟨vs, kk, es, k2, e1, e2, e3, rs⟩ := (p₃.acc a rfl).seq ha
  have hlen : vs.toList.length = a.ps.length := by rw [rs.length, pieceD_map_len]
  have hsz : vs.size = a.ps.length := by rw [← Array.length_toList]; exact hlen
  refine p₃.cutSlice ha F G e1 (Heap.IsSliceOf.new ..) q₂ (by rw [hsz]; exact hk) il (by rw [hsz]; exact hz) fun h' k' sb hg => ?_
  have P₄ := p₃.pieces (tk := s₂.toks) (qs := a.ps.take k) ha e1 sb hg (by
    have := Rps.take k rs
    rw [← List.map_take] at this
    simpa using this)
  exact ⟨.next, _, _, ⟨rfl, rfl, rfl⟩, (I.post P₃).post P₄, (P₃.trans P₄).toF, trivial⟩
end

theorem Fn.ofX {c : Cx} {n : Nat} {a : Addr} {args full : List V} {σ σ' : Option Ac} {d : PyData} {df : Df} {names : List Str} {T : Addr} {items : Array Value} {kk : Nat} {oT : Obj} (D : DefAt c a df (.ref T) []) (hT : c.K.lookup T = some oT) (hTd : oT.data = .seq items kk) (ok : okDf df names = true) (ok2 : (df.scope.names.all fun y => y.2 != .cell) = true) (ok3 : (names.all fun x => df.scope.names.lookup x == some .local) = true)
    (hbind : ∀ (fd : FuncData) (Z : AP) (s : Shared) us, fd.params = df.params → fd.defaults = .ref T → fd.kwdefaults = .none → Old c s.heap → RVs Z s.heap σ us args → ∃ us', BindsTo s fd ⟨us, []⟩ (names.zip us') ∧ RVs Z s.heap σ us' full) (hlen : names.length = full.length)
    (h : Ss c n df.scope (names.zip full).reverse σ df.body (fun o _ σ₁ => (o = .ret d ∨ (o = .next ∧ d = .none)) ∧ σ₁ = σ')) : Fn c (n + 1) a args σ d σ' := by
  obtain ⟨oc, od, osl, fd, hl, hp, hb, hs, hg, hbi, hc, hcd, hd, hk⟩ := D.it
  simp only [okDf, Bool.and_eq_true, Bool.not_eq_true', beq_iff_eq, decide_eq_true_eq, List.all_eq_true, Bool.or_eq_true, bne_iff_ne] at ok ok2 ok3
  obtain ⟨⟨⟨⟨⟨o1, o2⟩, o3⟩, o4⟩, o5⟩, o6⟩ := ok
  exact Fn.bodyX hl hb hs hg hbi hc hcd o1 o2 o3 ok2 (fun x e => absurd rfl (o5 _ (lookup_mem e))) (fun x b e => by cases e) (fun x y b e => by cases e) (fun Z s us => hbind fd Z s us hp hd hk) hlen ok3 fun Z A L s I => wpAt_of_wpAny (h Z A _ s I)

theorem pop_body {c : Cx} {n : Nat} {a : Ac} {k : Nat} (F : AccFacts c) (G : SubFacts c) (ha : a.cls = 100) (hk : k ≤ a.ps.length) (hz : a.ps.length ≤ 1000) :
    Ss c n dPopFrom.scope ([("self", .ac), ("i", .d (.int (k : Int)))] : Loc).reverse (some a) dPopFrom.body (fun o _ σ₁ => (o = .ret (.list ((a.ps.drop k).map pieceD)) ∨ (o = .next ∧ (PyData.list ((a.ps.drop k).map pieceD)) = .none)) ∧ σ₁ = some { a with ps := a.ps.take k }) := by
  refine Ss.set (.sliceAc F G ha .name hk hz) ?_
  refine Ss.step (.cutAc F G ha .name hk hz) ?_
  exact .ret .name ⟨.inl rfl, rfl⟩

theorem fn_popfrom {c : Cx} {n : Nat} {a : Ac} {k : Nat} {tk : Tok} {oT : Obj} {kk : Nat} (D : DefAt c 53 dPopFrom (.ref 46) []) (hT : c.K.lookup 46 = some oT) (hTd : oT.data = .seq #[.int 0 tk] kk) (F : AccFacts c) (G : SubFacts c) (ha : a.cls = 100) (hk : k ≤ a.ps.length) (hz : a.ps.length ≤ 1000) :
    Fn c (n + 1) 53 [.ac, .d (.int (k : Int))] (some a) (.list ((a.ps.drop k).map pieceD)) (some { a with ps := a.ps.take k }) := by
  refine Fn.ofX (names := ["self", "i"]) D hT hTd (by decide +kernel) (by decide +kernel) (by decide +kernel) (full := [.ac, .d (.int (k : Int))]) (fun fd Z s us e1 e2 e3 O r => ?_) rfl (pop_body F G ha hk hz)
  have hl := r.length
  match us, hl with
  | [u, v], _ =>
    cases fd; cases e1; cases e2; cases e3
    exact ⟨[u, v], BindsTo.of_defaults rfl (O.kin _ _ hT) hTd rfl rfl, r⟩
theorem fn_popall {c : Cx} {n : Nat} {a : Ac} {tk : Tok} {oT : Obj} {kk : Nat} (D : DefAt c 53 dPopFrom (.ref 46) []) (hT : c.K.lookup 46 = some oT) (hTd : oT.data = .seq #[.int 0 tk] kk) (F : AccFacts c) (G : SubFacts c) (ha : a.cls = 100) (hz : a.ps.length ≤ 1000) :
    Fn c (n + 1) 53 [.ac] (some a) (.list (a.ps.map pieceD)) (some { a with ps := [] }) := by
  have h := pop_body (n := n) (k := 0) F G ha (Nat.zero_le _) hz
  refine Fn.ofX (names := ["self", "i"]) D hT hTd (by decide +kernel) (by decide +kernel) (by decide +kernel) (full := [.ac, .d (.int 0)]) (fun fd Z s us e1 e2 e3 O r => ?_) rfl h
  have hl := r.length
  match us, hl with
  | [u], _ =>
    cases fd; cases e1; cases e2; cases e3
    refine ⟨[u, .int 0 tk], BindsTo.of_defaults rfl (O.kin _ _ hT) hTd rfl rfl, ?_⟩
    cases r with
    | cons r1 _ => exact .cons r1 (.cons (.int _ _) .nil)
end Mine
end

section
open PySem PySem.W PyProof.Rows PySem.Calls PySem.Spec
set_option Elab.async false
set_option linter.unusedVariables false
set_option maxRecDepth 100000
namespace Mine

/-! ## super -/
theorem slot_wd_get : Slot "wrapper_descriptor" "__get__" "wrapper_descriptor.__get__" := .of (owner := "wrapper_descriptor") (n := "__get__") (by rw [typeLookup_type, builtinLookup_eq_fast]; kernel_rfl) (by decide +kernel) (by decide +kernel) (by decide +kernel)
  (by first | exact .inl (by decide +kernel) | exact .inr (by decide +kernel)) (by rw [isSubtype_type]; kernel_rfl)
theorem entry_wd_get : entryFor table "wrapper_descriptor.__get__" = some Builtin.«wrapper_descriptor.__get__» := entryFor_of_tree (by kernel_rfl)
theorem args_wd_get (a b c : Value) : argsOk "wrapper_descriptor.__get__" ⟨[a, b, c], []⟩ := by unfold argsOk; kernel_rfl

section
variable {c : Cx} {Z : AP} {n : Nat} {A : Around} {s : Shared} {a : Ac} {E : Value → Shared → Prop}
theorem wd_len_run {x C : Addr} {Q : PySem.Fin → Shared → Prop} (hi : Looks c.M s.heap (isInstance (.ref x) (.type "list")) true)
    (hq : Q (.done (.ret (.ref s.heap.objs.size))) { s with heap := s.heap.push { cls := .type "method-wrapper", data := .fields #[.builtin "list.__len__", .ref x] } }) :
    wpAny c.M A (Builtin.«wrapper_descriptor.__get__» ⟨[.builtin "list.__len__", .ref x, .ref C], []⟩) Q E s := by
  unfold Builtin.«wrapper_descriptor.__get__»
  refine wpAny_bind (wpAny_pure ?_)
  dsimp only
  rw [if_neg (by simp)]
  refine wpAny_bind ?_
  refine wpAny_bind (wpAny_pure (a := (("__len__" : Str), Value.type "list")) ?_)
  refine wpAny_bind (hi.here ?_)
  rw [if_neg (by decide)]
  refine wpAny_pure ?_
  unfold newFields
  refine wpAny_bind (wpAny_newObj_type ?_ (by size_fits))
  exact wpAny_pure hq
theorem wd_init_run {x C : Addr} {Q : PySem.Fin → Shared → Prop} (hi : Looks c.M s.heap (isInstance (.ref x) (.type "list")) true)
    (hq : Q (.done (.ret (.ref s.heap.objs.size))) { s with heap := s.heap.push { cls := .type "method-wrapper", data := .fields #[.builtin "list.__init__", .ref x] } }) :
    wpAny c.M A (Builtin.«wrapper_descriptor.__get__» ⟨[.builtin "list.__init__", .ref x, .ref C], []⟩) Q E s := by
  unfold Builtin.«wrapper_descriptor.__get__»
  refine wpAny_bind (wpAny_pure ?_)
  dsimp only
  rw [if_neg (by simp)]
  refine wpAny_bind ?_
  refine wpAny_bind (wpAny_pure (a := (("__init__" : Str), Value.type "list")) ?_)
  refine wpAny_bind (hi.here ?_)
  rw [if_neg (by decide)]
  refine wpAny_pure ?_
  unfold newFields
  refine wpAny_bind (wpAny_newObj_type ?_ (by size_fits))
  exact wpAny_pure hq

/-- the super's own look, on to a method of the list -/
theorem super_ga {so x : Addr} {id : String} {name : Str} {tk : Tok} {cd : ClassData} {Q : PySem.Fin → Shared → Prop} (X : c.K.In s.heap) (hc : clsIn c.K 100 = some cd) (hm : cd.mro = [.ref 100, .type "list", .type "object"])
    (hso : s.heap.get? so = some { cls := .type "super", dict := none, data := .fields #[.ref 100, .ref x, .ref 100], slots := #[] }) (hno : Looks c.M s.heap (opaqueClassAbove (.ref 100)) none) (hxC : x ≠ 100) (hn : (name == ("__class__" : Str)) = false)
    (hf : alongIn c.K name [.type "list", .type "object"] = some (some (.builtin id))) (hty : typeOf (.builtin id) = pure (.type "wrapper_descriptor"))
    (hrun : wpAny c.M A.in1 (Builtin.«wrapper_descriptor.__get__» ⟨[.builtin id, .ref x, .ref 100], []⟩) (fun fin s' => fin = .done (.ret (.ref s.heap.objs.size)) ∧ s' = { s with heap := s.heap.push { cls := .type "method-wrapper", data := .fields #[.builtin id, .ref x] } }) (fun _ _ => False) s)
    (hq : Q (.done (.ret (.ref s.heap.objs.size))) { s with heap := s.heap.push { cls := .type "method-wrapper", data := .fields #[.builtin id, .ref x] } }) :
    wpAny c.M A (Builtin.«super.__getattribute__» ⟨[.ref so, .str name tk], []⟩) Q E s := by
  obtain ⟨hh, g, d, t, os⟩ := s
  have hne : (Value.ref x == Value.ref 100) = false := by simp [hxC]
  have hdt : ({ cls := .type "super", dict := none, data := .fields #[.ref 100, .ref x, .ref 100], slots := #[] } : Obj).data = .fields #[.ref 100, .ref x, .ref 100] := rfl
  have f0 : (#[.ref 100, .ref x, .ref 100] : Array Value)[0]? = some (.ref 100) := rfl
  have f1 : (#[.ref 100, .ref x, .ref 100] : Array Value)[1]? = some (.ref x) := rfl
  have f2 : (#[.ref 100, .ref x, .ref 100] : Array Value)[2]? = some (.ref 100) := rfl
  have hC : Looks c.M hh (mroOf (.ref 100)) cd.mro := (looks_clsIn X hc).andThen .now
  have hl : (cd.mro.dropWhile (· != .ref 100)).drop 1 = [.type "list", .type "object"] := by rw [hm]; decide +kernel
  unfold Builtin.«super.__getattribute__»
  repeat (first
    | (with_reducible refine wpAny_field hso hdt f0 ?_) | (with_reducible refine wpAny_field hso hdt f1 ?_) | (with_reducible refine wpAny_field hso hdt f2 ?_)
    | (with_reducible refine ks_wpAny_notOpaque hno ?_)
    | (with_reducible refine Looks.at hC ?_; rw [hl])
    | (refine ks_forIn_along X (fun _ _ => rfl) rfl ?_ hf)
    | (simp only [hn, hne, Bool.or_false, Bool.false_eq_true, if_false])
    | (rw [hty])
    | wp_step
    | dsimp only)
  refine wpAny_of_eq slot_wd_get.lookup ?_
  dsimp only
  refine wpAny_bind (wpAny_holding (wpAny_call_entry slot_wd_get hty entry_wd_get (wpAny_mono hrun (fun fin s' h => ?_) fun _ _ h => h.elim) (args_wd_get _ _ _)))
  obtain ⟨rfl, rfl⟩ := h
  refine ⟨_, rfl, ?_⟩
  exact wpAny_bind (wpAny_pure (wpAny_pure (wpAny_pure hq)))
theorem super_method {so x : Addr} {id : String} {name : Str} {cd : ClassData} {pl : Sem Bool} {Q : Value × List Value → Shared → Prop} (X : c.K.In s.heap) (hc : clsIn c.K 100 = some cd) (hm : cd.mro = [.ref 100, .type "list", .type "object"])
    (hso : s.heap.get? so = some { cls := .type "super", dict := none, data := .fields #[.ref 100, .ref x, .ref 100], slots := #[] }) (hno : Looks c.M s.heap (opaqueClassAbove (.ref 100)) none) (hxC : x ≠ 100) (hn : (name == ("__class__" : Str)) = false)
    (hf : alongIn c.K name [.type "list", .type "object"] = some (some (.builtin id))) (hty : typeOf (.builtin id) = pure (.type "wrapper_descriptor"))
    (hrun : ∀ (A : Around) (s : Shared), Looks c.M s.heap (isInstance (.ref x) (.type "list")) true → wpAny c.M A (Builtin.«wrapper_descriptor.__get__» ⟨[.builtin id, .ref x, .ref 100], []⟩) (fun fin s' => fin = .done (.ret (.ref s.heap.objs.size)) ∧ s' = { s with heap := s.heap.push { cls := .type "method-wrapper", data := .fields #[.builtin id, .ref x] } }) (fun _ _ => False) s)
    (hi : Looks c.M s.heap (isInstance (.ref x) (.type "list")) true)
    (hq : Q (.ref s.heap.objs.size, []) { s with heap := s.heap.push { cls := .type "method-wrapper", data := .fields #[.builtin id, .ref x] }, toks := s.toks + 1 }) :
    wpAny c.M A (getMethod (.ref so) name pl) Q E s := by
  obtain ⟨h, g, d, t, os⟩ := s
  have hlk := PySem.F.ks_slot_super_ga.lookup
  have hcan := PySem.F.ks_canon_super_ga
  have hT : ∀ t', (⟨h, g, d, t', os⟩ : Shared).TypeIs (.ref so) "super" := fun _ => ⟨_, hso, rfl⟩
  unfold getMethod
  refine wpAny_bind (wpAny_specialOf (hT _) hlk ?_)
  show wpAny _ _ (if (Manifest.canonical "super.__getattribute__" != "object.__getattribute__") = true then _ else _) _ _ _
  rw [if_pos hcan]
  unfold getAttr getAttrBy
  refine wpAny_bind (wpAny_bind (wpAny_mkText (wpAny_holding (wpAny_bind (wpAny_typeOf (hT _) (wpAny_bind (wpAny_of_eq hlk ?_)))))))
  show wpAny _ _ (getAttrByItsOwn (.ref so) (.str name t) (.type "super") (.builtin "super.__getattribute__") true false) _ _ _
  unfold getAttrByItsOwn hookBefore callGetattribute boundAndCalled
  refine wpAny_bind (wpAny_of_eq (show (if onTheHeap (.type "super") then typeLookup (.type "super") "__getattr__" else pure none) = pure none from rfl) ?_)
  refine wpAny_bind (wpAny_attempt (wpAny_holding ?_))
  show wpAny _ _ (bindSpecial (.builtin "super.__getattribute__") (.ref so) >>= _) _ _ _
  refine wpAny_bind (wpAny_of_eq (PySem.F.ks_slot_super_ga.bind _) ?_)
  refine wpAny_mono (Q := fun v s' => v = .ref h.objs.size ∧ s' = ⟨h.push { cls := .type "method-wrapper", data := .fields #[.builtin id, .ref x] }, g, d, t + 1, os⟩) (E := fun _ _ => False)
    (wpAny_call_entry PySem.F.ks_slot_super_ga (hT _) PySem.F.ks_entry_super_ga (super_ga (s := ⟨h, g, d, t + 1, os⟩) X hc hm hso hno hxC hn hf hty (hrun _ _ hi) ⟨_, rfl, rfl, rfl⟩) (PySem.F.ks_gaArgs_super _ _)) (fun v s' hv => ?_) fun _ _ z => z.elim
  obtain ⟨rfl, rfl⟩ := hv
  exact wpAny_pure (wpAny_pure hq)
/-- a bound method of the list is called -/
theorem call_wrapper {b x : Addr} {id : String} {args : List Value} {R : Result → Shared → Prop} (hb : s.heap.get? b = some { cls := .type "method-wrapper", dict := none, data := .fields #[.builtin id, .ref x], slots := #[] })
    (hk : builtinKind id = some .slot) (ha : argsOk id ⟨.ref x :: args, []⟩) (hq : Code.quiet (.builtin id ⟨.ref x :: args, []⟩) = true) (h : codeAny c.M A (.builtin id ⟨.ref x :: args, []⟩) R s) : codeAny c.M A (.call (.ref b) ⟨args, []⟩) R s := by
  refine codeAny_of_tree ?_
  show wpAny _ A.in1 (callAny (.ref b) _) _ _ _
  unfold callAny
  refine wpAny_bind (wpAny_load hb ?_)
  dsimp only
  rw [if_pos (by decide)]
  show wpAny _ _ (if (Value.type "method-wrapper" != Value.type "method") = true then (do checkBoundCall id ⟨.ref x :: args, []⟩; again (.builtin id ⟨.ref x :: args, []⟩)) else again (.call (.builtin id) ⟨.ref x :: args, []⟩)) _ _ _
  rw [if_pos (by decide)]
  have hcb : checkBoundCall id ⟨.ref x :: args, []⟩ = pure () := by
    unfold checkBoundCall
    unfold argsOk at ha
    cases hs : Manifest.signature? id with
    | none => rfl
    | some sig =>
      rw [hs] at ha
      simp only [hk]
      exact ha
  rw [hcb]
  exact wpAny_bind (wpAny_pure (wpAny_pure ⟨hq, h⟩))
end
end Mine
end

section
open PySem PySem.W PyProof.Rows PySem.Calls PySem.Spec
set_option Elab.async false
set_option linter.unusedVariables false
set_option maxRecDepth 100000
namespace Mine

/-! ## super().__init__() and super().__len__() -/
theorem args_list_init_1 (a : Value) : argsOk "list.__init__" ⟨[a], []⟩ := by unfold argsOk; kernel_rfl
structure SupFacts (c : Cx) : Prop where
  cd : ∃ cd, clsIn c.K 100 = some cd ∧ cd.mro = [.ref 100, .type "list", .type "object"]
  obj : ∃ oD cdD, c.K.lookup 100 = some oD ∧ oD.data = .cls cdD
  self : mroIn c.K 100 (.ref 100) = some true
  cell : ∃ cl cd sl, c.K.lookup 25 = some ⟨cl, cd, .cell (some (.ref 100)), sl⟩
  noOpq : nsIn c.K cStatics "thirdparty.any" = some none
  sup : c.mg "super" = none ∧ c.mb "super" = some (.type "super")
  top : (pg.main.scope.names.lookup ("super" : Str)).isSome = false
  len : alongIn c.K "__len__" [.type "list", .type "object"] = some (some (.builtin "list.__len__"))
  init : alongIn c.K "__init__" [.type "list", .type "object"] = some (some (.builtin "list.__init__"))
  lenT : typeOf (.builtin "list.__len__") = pure (.type "wrapper_descriptor")
  initT : typeOf (.builtin "list.__init__") = pure (.type "wrapper_descriptor")

/-- a def of the class, as super asks it -/
structure SupAt (c : Cx) (a : Addr) (fd : FuncData) : Prop where
  it : ∃ oc od osl, c.K.lookup a = some ⟨oc, od, .func fd, osl⟩
  first : ∃ ar : Arg, (fd.params.posonlyargs ++ fd.params.args).head? = some ar ∧ ar.arg = "self"
  code : ∃ cc cl cd vs sl file tf, fd.code = .ref cc ∧ c.K.lookup cc = some ⟨cl, cd, .fields vs, sl⟩ ∧ vs[2]? = some (.str file tf) ∧ ((pg.main.file : Str) == file) = true

section
variable {c : Cx} {Z : AP} {n : Nat} {A : Around} {s : Shared} {a : Ac} {E : Value → Shared → Prop}
theorem super_call {sc : Scope} {ρ : Loc} {L f : Addr} {fd : FuncData} {body : List Stmt} {p0 p1 ap pos : Pos} {nm : Str} {id : String} {Q : Value → Shared → Prop} {R : Value → Shared → Prop} (F : AccFacts c) (S : SupFacts c) (T : SupAt c f fd) (ha : a.cls = 100)
    (I : In c Z n sc ρ (some a) A (callEnv sc L [("__class__", 25)] fd.qualname f fd.code) s) (hself : ρ.lookup ("self" : Str) = some .ac) (hsl : sc.names.lookup ("self" : Str) = some .local) (hks : sc.names.lookup ("super" : Str) = some .globalImplicit) (hkc : sc.names.lookup ("__class__" : Str) = some .free)
    (hat : (nm == ("__class__" : Str)) = false) (hf : alongIn c.K nm [.type "list", .type "object"] = some (some (.builtin id))) (hty : typeOf (.builtin id) = pure (.type "wrapper_descriptor"))
    (hrun : ∀ (A : Around) (s : Shared), Looks c.M s.heap (isInstance (.ref a.addr) (.type "list")) true → wpAny c.M A (Builtin.«wrapper_descriptor.__get__» ⟨[.builtin id, .ref a.addr, .ref 100], []⟩) (fun fin s' => fin = .done (.ret (.ref s.heap.objs.size)) ∧ s' = { s with heap := s.heap.push { cls := .type "method-wrapper", data := .fields #[.builtin id, .ref a.addr] } }) (fun _ _ => False) s)
    (hk : builtinKind id = some .slot) (hargs : argsOk id ⟨[.ref a.addr], []⟩) (hq : Code.quiet (.builtin id ⟨[.ref a.addr], []⟩) = true)
    (hbody : ∀ (A' : Around) (s' : Shared), (∀ P : Post c Z (some a) (some a) s s', codeAny c.M A' (.builtin id ⟨[.ref a.addr], []⟩) (fun r s'' => ∃ v, r = .ok (.ret v) ∧ R v s'') s'))
    (hQ : ∀ v s', R v s' → Q v s') {pl : Env → Sem Bool}
    (he : ∀ env, eval (.Call (.Attribute (.Call (.Name "super" p0) [] [] p1) nm ap) [] [] pos) env = (do
      let ov ← attributeBase (.Call (.Name "super" p0) [] [] p1) nm env (eval (.Call (.Name "super" p0) [] [] p1) env)
      standAt ap.atName
      let (f, first) ← holding [ov] (getMethod ov nm (pl env))
      callWith pos f first (backTo pos (starEach [] env)) []) := by intro _; rfl) :
    PySem.wpAt c.M A (.func body (callEnv sc L [("__class__", 25)] fd.qualname f fd.code)) (eval (.Call (.Attribute (.Call (.Name "super" p0) [] [] p1) nm ap) [] [] pos) (callEnv sc L [("__class__", 25)] fd.qualname f fd.code)) Q E s := by
  obtain ⟨oc, od, osl, hfo⟩ := T.it
  obtain ⟨ar, har, harg⟩ := T.first
  obtain ⟨cc, cl, cd, vs, sl, file, tf, hcode, hcc, hvs, hfile⟩ := T.code
  obtain ⟨m, hm, hr⟩ := I.loc
  obtain ⟨u, ⟨a', ea, rfl⟩, b⟩ := hr _ _ hself
  cases ea
  have hms : m "self" = some (.ref a.addr) ∧ sc.names.lookup ("self" : Str) = some .local := by
    rcases b with ⟨b1, b2⟩ | ⟨b1, q, b2, b3⟩
    · exact ⟨b2, b1⟩
    · rcases b1 with b1 | b1 <;> (rw [hsl] at b1; cases b1)
  have X := I.old.kin
  have hkf : (callEnv sc L [("__class__", 25)] fd.qualname f fd.code).scope.kind = .function := I.kind
  obtain ⟨cdK, hcd, hmro⟩ := S.cd
  obtain ⟨oD, cdD, hD1, hD2⟩ := S.obj
  obtain ⟨c1, c2, c3, hcell⟩ := S.cell
  obtain ⟨hpm, hpb⟩ := S.sup
  obtain ⟨vsq, kq, es, kk, e1, e2, e3, rs⟩ := (I.pre.acc a rfl).seq ha
  have hxC : a.addr ≠ 100 := fun q => absurd a.new.1 (by rw [q]; decide)
  refine ks_wpAt_MethodCall (pl := pl (callEnv sc L [("__class__", 25)] fd.qualname f fd.code)) (ks_wpAt_super_base (f := f) (cc := cc) (ar := ar) (file := file) (tf := tf) hks hkc hat rfl (X _ _ hfo) rfl har hcode (X _ _ hcc) rfl hvs hfile S.top ?_) ?_
  · refine ks_loadName_global hkf hks (loadGlobal_builtin I.old.g hpm I.old.b hpb ⟨rfl, ?_⟩)
    refine wpAny_loadName_free hkf hkc rfl ⟨_, X _ _ hcell, rfl⟩ ?_
    rw [harg]
    refine wpAny_loadName_local hkf hsl hm hms.1 ?_
    obtain ⟨hh, g, d, t, os⟩ := s
    refine ks_wpAny_isType_cls (X _ _ hD1) hD2 ⟨rfl, ?_⟩
    refine ks_wpAny_call_super (X _ _ hD1) hD2 e1 rfl (fun c e => by cases e) (looks_mroIn X S.self) (fun h' hso kp => ?_)
    have P₁ : Post c Z (some a) (some a) ⟨hh, g, d, t, os⟩ ⟨h', g, d, t, os⟩ := I.pre.heap kp
    have p₁ := I.pre.post P₁
    refine super_method (cd := cdK) p₁.old.kin hcd hmro hso (looks_opaque p₁.old.kin S.noOpq) hxC hat hf hty hrun (p₁.isList ha F) ?_
    have P₂ : Post c Z (some a) (some a) ⟨hh, g, d, t, os⟩ ⟨h'.push { cls := .type "method-wrapper", data := .fields #[.builtin id, .ref a.addr] }, g, d, t + 1, os⟩ := P₁.push _
    have hmw : (h'.push { cls := .type "method-wrapper", data := .fields #[.builtin id, .ref a.addr] }).get? h'.objs.size = some { cls := .type "method-wrapper", data := .fields #[.builtin id, .ref a.addr] } := Heap.get?_push_size _ rfl
    dsimp only
    generalize h'.objs.size = mw at hmw
    generalize h'.push { cls := .type "method-wrapper", data := .fields #[.builtin id, .ref a.addr] } = h₂ at hmw P₂
    refine callWith_of (P := fun h => h.get? mw = some { cls := .type "method-wrapper", data := .fields #[.builtin id, .ref a.addr] }) (by rfl) (fun h e => ⟨.machine, .inr (.inl rfl), (Looks.ld (part := none) e).andThen .now⟩) (evalArgs_of rfl (spliced_none ⟨hmw, ?_⟩))
    exact wpAny_call (call_wrapper hmw hk hargs hq (codeAny_mono (hbody _ _ P₂) fun r s'' ⟨v, e, hr⟩ => by rw [e]; exact hQ _ _ hr))
  · exact he _

theorem Post.toks' {σ σ' : Option Ac} {s' : Shared} (P : Post c Z σ σ' s s') {tk : Tok} : Post c Z σ σ' s { s' with toks := tk } := P.upto (fun _ _ e => e)
theorem acc_len_code {s₀ : Shared} (ha : a.cls = 100) (P : Post c Z (some a) (some a) s₀ s) (hz : a.ps.length ≤ 1000) : codeAny c.M A (.builtin "list.__len__" ⟨[.ref a.addr], []⟩) (fun r s'' => ∃ v, r = .ok (.ret v) ∧ (Post c Z (some a) (some a) s₀ s'' ∧ Rp Z s''.heap v (.int (a.ps.length : Int)))) s := by
  obtain ⟨vs, k, es, kk, e1, e2, e3, rs⟩ := (P.acc a rfl).seq ha
  have hsz : vs.size = a.ps.length := by have := rs.length; simpa using this
  refine codeAny_builtin entry_list_len ?_
  show wpAny _ _ (do retInt (← seqSize a.addr)) _ _ s
  unfold seqSize
  refine wpAny_bind (wpAny_bind (wpAny_load e1 (wpAny_pure ?_)))
  refine wpAny_bind (wpAny_mkInt (wpAny_pure ⟨_, rfl, P.toks', ?_⟩))
  rw [hsz]
  exact .int _ _
theorem acc_init_code {s₀ : Shared} (ha : a.cls = 100) (p : Pre c Z n (some a) A s) (P : Post c Z (some a) (some a) s₀ s) (hps : a.ps = []) {A' : Around} : codeAny c.M A' (.builtin "list.__init__" ⟨[.ref a.addr], []⟩) (fun r s'' => ∃ v, r = .ok (.ret v) ∧ (Post c Z (some a) (some a) s₀ s'' ∧ Rp Z s''.heap v .none)) s := by
  obtain ⟨vs, k, es, kk, e1, e2, e3, rs⟩ := (P.acc a rfl).seq ha
  have hsz : vs.size = 0 := by have := rs.length; rw [hps] at this; simpa using this
  refine codeAny_builtin PySem.F.entry_list_init ?_
  show wpAny _ _ (Builtin.List.listItems (.ref a.addr) >>= _) _ _ s
  refine wpAny_bind (wpAny_listItems e1 rfl ?_)
  refine wpAny_bind ?_
  show wpAny _ _ (updateSeq a.addr (fun _ => #[])) _ _ _
  refine wpAny_updateSeq e1 rfl ?_ (by rw [hsz]; exact Nat.zero_le _) (by simp)
  obtain ⟨n', hd'⟩ := mapSeq_acc vs k a.dict (fun _ => #[])
  have hg := Heap.get?_update_self (Obj.mapSeq (fun _ => #[])) e1 (by rw [hd']; rfl)
  rw [hd'] at hg
  have P' := p.pieces (tk := s.toks) (qs := []) ha e1 (Heap.SameBut.update s.heap a.addr (Obj.mapSeq (fun _ => #[]))) hg .nil
  have ea : ({ a with ps := [] } : Ac) = a := by rw [← hps]
  rw [ea] at P'
  refine wpAny_bind (wpAny_letGo ?_)
  exact wpAny_pure ⟨_, rfl, P.trans P', .none⟩
end
end Mine
end

section
open PySem PySem.W PyProof.Rows PySem.Calls PySem.Spec
set_option Elab.async false
set_option linter.unusedVariables false
set_option maxRecDepth 100000
namespace Mine

structure DefSup (c : Cx) (a : Addr) (df : Df) (dfl : Value) : Prop where
  it : ∃ oc od osl fd, c.K.lookup a = some ⟨oc, od, .func fd, osl⟩ ∧ fd.params = df.params ∧ fd.body = .stmts df.body ∧ fd.scope = df.scope ∧ fd.globals = mainGlobals ∧ fd.builtins = builtinsNs ∧
    fd.closure = [(("__class__" : Str), (25 : Addr))] ∧ codeIn c.K fd.code fd.qualname = true ∧ fd.defaults = dfl ∧ fd.kwdefaults = .none ∧ SupAt c a fd
noncomputable def okSup (df : Df) (names : List Str) : Bool := !df.scope.isCoroutine && !df.scope.isGenerator && df.scope.kind == .function && df.scope.names.all (fun y => y.2 != .cell) && df.scope.names.all (fun y => y.2 != .free || y.1 == ("__class__" : Str)) &&
  names.all fun x => df.scope.names.lookup x == some .local

theorem Fn.sup {c : Cx} {n : Nat} {a : Addr} {args full : List V} {σ σ' : Option Ac} {d : PyData} {df : Df} {names : List Str} {dfl : Value} (S : SupFacts c) (D : DefSup c a df dfl) (ok : okSup df names = true)
    (hbind : ∀ (fd : FuncData) (Z : AP) (s : Shared) us, fd.params = df.params → fd.defaults = dfl → fd.kwdefaults = .none → Old c s.heap → RVs Z s.heap σ us args → ∃ us', BindsTo s fd ⟨us, []⟩ (names.zip us') ∧ RVs Z s.heap σ us' full) (hlen : names.length = full.length)
    (h : ∀ fd, SupAt c a fd → ∀ Z A L s, In c Z n df.scope (names.zip full).reverse σ A (callEnv df.scope L [("__class__", 25)] fd.qualname a fd.code) s →
      PySem.wpAt c.M A (.func df.body (callEnv df.scope L [("__class__", 25)] fd.qualname a fd.code)) (execs df.body (callEnv df.scope L [("__class__", 25)] fd.qualname a fd.code)) (Left c Z n df.scope σ A (callEnv df.scope L [("__class__", 25)] fd.qualname a fd.code) (fun o _ σ₁ => (o = .ret d ∨ (o = .next ∧ d = .none)) ∧ σ₁ = σ') s) NoE s) : Fn c (n + 1) a args σ d σ' := by
  obtain ⟨oc, od, osl, fd, hl, hp, hb, hs, hg, hbi, hc, hcd, hd, hk, hS⟩ := D.it
  simp only [okSup, Bool.and_eq_true, Bool.not_eq_true', beq_iff_eq, List.all_eq_true, Bool.or_eq_true, bne_iff_ne] at ok
  obtain ⟨⟨⟨⟨⟨o1, o2⟩, o3⟩, o4⟩, o5⟩, o6⟩ := ok
  have hcl : ∀ x b, List.lookup x [(("__class__" : Str), (25 : Addr))] = some b → x = "__class__" ∧ b = 25 := fun x b e => by
    rw [List.lookup_cons] at e
    split at e
    · rename_i q; cases e; exact ⟨by simpa using q, rfl⟩
    · cases e
  obtain ⟨c1, c2, c3, hcell⟩ := S.cell
  refine Fn.bodyX hl hb hs hg hbi hc hcd o1 o2 o3 o4 (fun x e => ?_) (fun x b e => ?_) (fun x y b e1 e2 => ?_) (fun Z s us => hbind fd Z s us hp hd hk) hlen o6 (h fd hS)
  · rcases o5 _ (lookup_mem e) with q | q
    · exact absurd rfl q
    · exact ⟨25, by simp only at q; rw [q]; rfl⟩
  · obtain ⟨rfl, rfl⟩ := hcl x b e
    exact ⟨by decide, by decide, _, _, _, _, hcell⟩
  · rw [(hcl x b e1).1, (hcl y b e2).1]

section
variable {c : Cx} {n : Nat} {a : Ac}
theorem fn_part (F : AccFacts c) (S : SupFacts c) (D : DefSup c 97 dPart .none) (ha : a.cls = 100) (hz : a.ps.length ≤ 1000) : Fn c (n + 1) 97 [.ac] (some a) (.int (a.ps.length : Int)) (some a) := by
  refine Fn.sup (names := ["self"]) S D (by decide +kernel) (full := [.ac]) (fun fd Z s us e1 e2 e3 O r => ?_) rfl (fun fd T Z A L s I => ?_)
  · have hl := r.length
    match us, hl with
    | [u], _ => cases fd; cases e1; cases e2; cases e3; exact ⟨[u], BindsTo.of_eq rfl, r⟩
  refine ks_wpAt_execs_cons (ks_wpAt_Return_some ?_)
  refine super_call F S T ha I (by rfl) (by rfl) (by rfl) (by rfl) (by rfl) S.len S.lenT (fun A s hi => wd_len_run hi ⟨rfl, rfl⟩) (by decide +kernel) (args_list_len _) (Code.quiet_builtin _ (by decide +kernel)) (fun A' s' P => acc_len_code ha P hz) (fun v s' ⟨P, r⟩ => ?_)
  exact ⟨_, _, _, ⟨.inl rfl, rfl⟩, I.post P, P.toF, r⟩
theorem fn_accinit {tk : Tok} {oT : Obj} {kk : Nat} {d : PyData} (F : AccFacts c) (S : SupFacts c) (D : DefSup c 38 dAccInit (.ref 30)) (hT : c.K.lookup 30 = some oT) (hTd : oT.data = .seq #[.int 0 tk] kk) (ht : takerIn c.K 100 "_initial_size" = some none) (ha : a.cls = 100) (hps : a.ps = []) (hat : a.attrs = []) :
    Fn c (n + 1) 38 [.ac, .d d] (some a) .none (some { a with attrs := [("_initial_size", d)] }) := by
  refine Fn.sup (names := ["self", "initial_size"]) S D (by decide +kernel) (full := [.ac, .d d]) (fun fd Z s us e1 e2 e3 O r => ?_) rfl (fun fd T Z A L s I => ?_)
  · have hl := r.length
    match us, hl with
    | [u, v], _ =>
      cases fd; cases e1; cases e2; cases e3
      exact ⟨[u, v], BindsTo.of_defaults rfl (O.kin _ _ hT) hTd rfl rfl, r⟩
  have F' : ClsOk c a.cls "list.__getattribute__" := ha ▸ F.ok
  have hput : putA "_initial_size" d a.attrs = [(("_initial_size" : Str), d)] := by rw [hat]; rfl
  refine ks_wpAt_execs_cons (wpAt_of_wpAny (wp_mono ((S1.attrSet (n := n) (sc := dAccInit.scope) (ρ := ([("self", .ac), ("initial_size", .d d)] : Loc).reverse) F' (by rw [ha]; exact ht) (by rw [hat]; simp) (Ev.name (d := d))) Z A _ s I) fun f s₁ ⟨o, ρ₁, σ₁, ⟨q1, q2, q3⟩, I₁, P₁, Fl⟩ => ?_))
  rw [hput] at q3
  subst q1; subst q2; subst q3
  cases f <;> first | exact Fl.elim | skip
  refine ks_wpAt_execs_cons (ks_wpAt_Expr_any ?_ (by
    unfold interactive
    have : (callEnv dAccInit.scope L [("__class__", 25)] fd.qualname 38 fd.code).scope.kind = .function := by rfl
    rw [this]; rfl))
  refine super_call F S T (a := { a with attrs := [("_initial_size", d)] }) ha I₁ (by rfl) (by rfl) (by rfl) (by rfl) (by rfl) S.init S.initT (fun A s hi => wd_init_run hi ⟨rfl, rfl⟩) (by decide +kernel) (args_list_init_1 _) (Code.quiet_builtin _ (by decide +kernel)) (fun A' s' P => acc_init_code (a := { a with attrs := [("_initial_size", d)] }) ha (I₁.pre.post P) P hps) (fun v s' ⟨P, r⟩ => ?_)
  refine wpAt_of_wpAny (wpAny_execs_nil ⟨.next, _, _, ⟨.inr ⟨rfl, rfl⟩, rfl⟩, I₁.post P, P₁.trans P.toF, trivial⟩)
end
end Mine
end

section
open PySem PySem.W PyProof.Rows PySem.Calls PySem.Spec
set_option Elab.async false
set_option linter.unusedVariables false
set_option maxRecDepth 100000
namespace Mine

/-! ## the pieces of an accumulator are walked -/
noncomputable def SeqAt (h : Heap) (l : Addr) (items : Array Value) : Prop := ∃ o n, h.get? l = some o ∧ o.data = .seq items n ∧ o.cls ≠ .type "frame" ∧ o.cls ≠ .none

section
variable {prog : Program} {w : World} {A : Around} {E : Value → Shared → Prop} {s : Shared}
theorem next_item {it l : Addr} {i : Nat} {items : Array Value} {x : Value} {Q : Option Value → Shared → Prop} (hit : s.heap.IsListIter it l i)
    (hl : SeqAt s.heap l items) (hx : items[i]? = some x)
    (hQ : ∀ h', h'.IsListIter it l (i + 1) → Heap.SameBut it s.heap h' → Q (some x) { s with heap := h' }) :
    wpAny (model prog w) A (pyNext (.ref it)) Q E s := by
  obtain ⟨o, ho, hc, hd⟩ := id hit
  obtain ⟨ol, nl, hol, hdl, _⟩ := hl
  unfold pyNext
  refine wpAny_bind (wpAny_attempt (wpAny_callSpecial?_slot (name := Str.ofString "__next__") hit.typeIs slot_listiter_next
    (wpAny_call_entry slot_listiter_next hit.typeIs entry_listiter_next ?_ (args_listiter_next _))))
  show wpAny _ _ (field (.ref it) 0 >>= _) _ _ s
  refine wpAny_bind (wpAny_field ho hd (x := .ref l) rfl ?_)
  show wpAny _ _ (if (Value.ref l == Value.none) = true then _ else _) _ _ s
  rw [if_neg (show ¬ ((Value.ref l == Value.none) = true) from Bool.false_ne_true)]
  show wpAny _ _ (field (.ref it) 1 >>= _) _ _ s
  refine wpAny_bind (wpAny_field ho hd (x := .int i 0) rfl ?_)
  show wpAny _ _ (seqItems? (.ref l) >>= _) _ _ s
  refine wpAny_bind (wpAny_seqItems hol hdl ?_)
  simp only [Int.toNat_natCast, hx]
  refine wpAny_bind (wpAny_setField ho hd (by simp) (wpAny_pure ⟨x, rfl, wpAny_pure (hQ _ ?_ (Heap.SameBut.update ..))⟩))
  exact ⟨_, Heap.get?_update_self _ ho (Obj.isFreed_of_fields (Obj.data_mapFields hd _)), (Obj.cls_mapFields ..).trans hc, by
    rw [Obj.data_mapFields hd]; simp [rawInt]⟩

theorem next_end {it l : Addr} {i : Nat} {items : Array Value} {Q : Option Value → Shared → Prop} (hh : A.handled = none)
    (hit : s.heap.IsListIter it l i) (hl : SeqAt s.heap l items) (hx : items[i]? = none)
    (hQ : ∀ h', Heap.ExtBut it s.heap h' → Q none { s with heap := h' }) : wpAny (model prog w) A (pyNext (.ref it)) Q E s := by
  obtain ⟨o, ho, hc, hd⟩ := id hit
  obtain ⟨ol, nl, hol, hdl, _⟩ := hl
  unfold pyNext
  refine wpAny_bind (wpAny_attempt (wpAny_callSpecial?_slot (name := Str.ofString "__next__") hit.typeIs slot_listiter_next
    (wpAny_call_entry slot_listiter_next hit.typeIs entry_listiter_next ?_ (args_listiter_next _))))
  show wpAny _ _ (field (.ref it) 0 >>= _) _ _ s
  refine wpAny_bind (wpAny_field ho hd (x := .ref l) rfl ?_)
  show wpAny _ _ (if (Value.ref l == Value.none) = true then _ else _) _ _ s
  rw [if_neg (show ¬ ((Value.ref l == Value.none) = true) from Bool.false_ne_true)]
  show wpAny _ _ (field (.ref it) 1 >>= _) _ _ s
  refine wpAny_bind (wpAny_field ho hd (x := .int i 0) rfl ?_)
  show wpAny _ _ (seqItems? (.ref l) >>= _) _ _ s
  refine wpAny_bind (wpAny_seqItems hol hdl ?_)
  simp only [Int.toNat_natCast, hx]
  refine wpAny_bind (wpAny_rule (wpAny_bind (wpAny_setField ho hd (by simp) ?_)))
  show wpAny _ _ (newExc (.type "StopIteration") [] >>= _) _ _ _
  refine wpAny_bind ?_
  simp only [newExc, newTuple]
  refine wpAny_bind (wpAny_newObj_type ?_ (by size_fits))
  refine wpAny_bind (m := firstArgMember _ _) (wpAny_of_eq (a := Value.none) (by first | rfl | (simp only [firstArgMember]; rfl)) ?_)
  refine wpAny_newObj_type ?_ (by size_fits)
  simp only [raiseNew]
  refine wpAny_bind (wpAny_handled ?_)
  rw [show A.in1.handled = none from hh]
  refine wpAny_bind (wpAny_pure (wpAny_throw ?_))
  refine wpAny_bind (wpAny_isInstance (T := "StopIteration") (b := true) ⟨_, Heap.get?_push_size _ rfl, rfl⟩ isSubtype_stop ?_)
  exact wpAny_pure (hQ _ (((Heap.SameBut.update ..).extBut.push _).push _))
end

noncomputable def StQ (Z : AP) (h₀ : Heap) (I l : Addr) (items : Array Value) (h : Heap) (ds : List PyData) : Prop := ∃ i, h.IsListIter I l i ∧ SeqAt h l items ∧ Rps Z h₀ (items.toList.drop i) ds ∧ Dat h₀ h
theorem iter_seq {c : Cx} {Z : AP} {h₀ : Heap} {I l : Addr} {items : Array Value} (hIl : I ≠ l) : Iter c Z h₀ I [I, l] (StQ Z h₀ I l items) where
  mem := .head _
  frame := fun h h' ds ⟨i, ⟨o, e, r⟩, ⟨ol, nl, el, rl⟩, r', d⟩ k d' => ⟨i, ⟨o, k I (.head _) _ e, r⟩, ⟨ol, nl, k l (.tail _ (.head _)) _ el, rl⟩, r', d'⟩
  fix := fun h ds ⟨i, ⟨o, e, hc, hd⟩, ⟨ol, nl, el, hdl, hcl, hcn⟩, _, _⟩ b hb => by
    rcases List.mem_cons.mp hb with rfl | hb
    · exact ⟨o, e, by rw [hc]; simp, by rw [hc]; simp, fun _ _ q => (by rw [hd] at q; cases q), fun _ q => (by rw [hd] at q; cases q)⟩
    · rw [List.mem_singleton.mp hb]
      exact ⟨ol, el, hcl, hcn, fun _ _ q => (by rw [hdl] at q; cases q), fun _ q => (by rw [hdl] at q; cases q)⟩
  fixI := fun h ds ⟨i, ⟨o, e, hc, hd⟩, _⟩ => ⟨o, e, ⟨by rw [hc]; simp, by rw [hc]; simp, fun _ _ q => (by rw [hd] at q; cases q), fun _ q => (by rw [hd] at q; cases q)⟩, by rw [hc]; simp, fun _ _ q => (by rw [hd] at q; cases q)⟩
  next := fun A s d ds Q E hh ⟨i, it, il, r, dt⟩ _ hQ => by
    obtain ⟨v, hv, rv, rs⟩ := rps_head r
    refine next_item it il hv fun h' it' hs => ?_
    have k : ∀ b o, b ≠ I → s.heap.get? b = some o → h'.get? b = some o := fun b o nb e => (hs.2 b nb).trans e
    obtain ⟨oI, eI, hcI, hdI⟩ := it
    have d' : Dat h₀ h' := fun b o e hc => k b o (fun q => by
      subst q
      have := dt _ _ e hc
      rw [eI] at this; cases this
      obtain ⟨⟨vs, m, q⟩, _⟩ := hc
      rw [hdI] at q; cases q) (dt b o e hc)
    refine hQ v h' _ ⟨i + 1, it', ?_, rs, d'⟩ (fun Z' hz _ => rv.dt (d'.new hz)) k
    obtain ⟨ol, nl, el, rl⟩ := il
    exact ⟨ol, nl, k l _ hIl.symm el, rl⟩
  stop := fun A s Q E hh ⟨i, it, il, r, dt⟩ hQ => next_end hh it il (rps_nil r) fun h' hx => hQ h' _ fun b o nb e => hx b o nb e
  self := fun A s ds Q E ⟨i, it, _⟩ h => wpAny_pyIter_listiter it h
  go := fun A s ds t v Q E ⟨i, ⟨o, e, hc, hd⟩, r⟩ h => letGo_plain e hc (by decide) (h _ ⟨i, ⟨o, e, hc, hd⟩, r⟩ fun _ _ _ e => e)

section
variable {c : Cx} {Z : AP} {n : Nat} {A : Around} {s : Shared} {a : Ac} {E : Value → Shared → Prop}
theorem Pre.iter (p : Pre c Z n (some a) A s) (ha : a.cls = 100) (F : AccFacts c) (G : SubFacts c) {Q : Value → Shared → Prop}
    (hQ : Q (.ref s.heap.objs.size) { s with heap := s.heap.push { cls := .type "list_iterator", data := .fields #[.ref a.addr, .int 0 0] } }) : wpAny c.M A (pyIter (.ref a.addr)) Q E s := by
  have H : Looks c.M s.heap (specialOf (.ref a.addr) "__iter__") (some (.builtin "list.__iter__")) :=
    Looks.andThen (f := fun t => typeLookup t "__iter__") (p.typ ha) (looks_findIn p.old.kin G.iter)
  unfold pyIter
  refine wpAny_bind (H.here ?_)
  show wpAny _ A (callSpecialIfBoundUnlessNone? (.ref a.addr) "__iter__" _ >>= _) _ _ _
  refine wpAny_bind ?_
  simp only [callSpecialIfBoundUnlessNone?, bindSpecialIfBound?]
  refine wpAny_holding (wpAny_bind (wpAny_bind (H.here ?_)))
  simp only [slot_list_iter.bind]
  refine wpAny_bind (wpAny_askSetting (wpAny_ite ?_))
  have fin : ∀ r : Sem Value, wpAny c.M A (if (Value.builtin "list.__iter__" == Value.none) = true then (r >>= fun v => pure (some v)) else (call (.builtin "list.__iter__") [.ref a.addr] >>= fun v => pure (some v)))
      (fun x s₁ => wpAny c.M A (match x with
        | some it => do
          match ← specialOf it "__next__" with
          | none => do rule "iter.non-iterator"; raiseError "TypeError" s!"iter() returned non-iterator of type '{← typeNameOf it}'"
          | some _ => pure it
        | none => do
          match ← bindSpecialIfBound? (.ref a.addr) "__getitem__" with
          | none => do rule "iter.not-iterable"; raiseError "TypeError" s!"'{← typeNameOf (.ref a.addr)}' object is not iterable"
          | some _ => do rule "iter.getitem-fallback"; newFields "iterator" [.ref a.addr, ← mkInt 0]) Q E s₁) E s := fun r => by
    simp only [builtin_beq_none, Bool.false_eq_true, if_false]
    refine wpAny_bind (wpAny_call (p.listCall ha F slot_list_iter.plain entry_list_iter (.inl (by decide +kernel)) (nm := "__iter__") (by decide +kernel) (args_list_iter _) ?_))
    show wpAny _ _ (do ret (← newFields "list_iterator" [.ref a.addr, rawInt 0])) _ _ s
    refine wpAny_bind (wpAny_newObj_type (wpAny_pure ?_))
    refine wpAny_pure (wpAny_bind (wpAny_specialOf (T := "list_iterator") ⟨_, Heap.get?_push_size _ rfl, rfl⟩ slot_listiter_next.lookup (wpAny_pure hQ)))
  split
  · exact wpAny_bind (wpAny_pure (wpAny_pure (fin _)))
  · exact wpAny_tryCatch (wpAny_bind (wpAny_pure (wpAny_pure (fin _))))

theorem Pre.seqAt (p : Pre c Z n (some a) A s) (ha : a.cls = 100) : ∃ items, SeqAt s.heap a.addr items ∧ Rps Z s.heap items.toList (a.ps.map pieceD) := by
  obtain ⟨vs, k, es, kk, e1, _, _, r⟩ := (p.acc a rfl).seq ha
  exact ⟨vs, ⟨_, k, e1, rfl, by simp, by simp⟩, r⟩
end
/-- the accumulator is left out of the frame -/
theorem In.bare {c : Cx} {Z : AP} {n : Nat} {sc : Scope} {ρ : Loc} {σ : Option Ac} {A : Around} {env : Env} {s : Shared} (I : In c Z n sc ρ σ A env s) : In c Z n sc [] none A env s :=
  { I with acc := fun _ e => by cases e
           loc := by obtain ⟨m, h, _⟩ := I.loc; exact ⟨m, h, fun x v e => by cases e⟩ }

section
variable {α : Type} {c : Cx} {n : Nat} {sc csc : Scope} {ρ : Loc} {a : Ac} {target elt : Expr} {ifs : List Expr} {pos : Pos}

theorem S1.assignCompAc {x y : Str} {xp py spos : Pos} (F : AccFacts c) (G : SubFacts c) (ha : a.cls = 100) (ok : compOkB csc sc = true) (hx : ρ.lookup x = some .ac)
    (p : Str × Str → Bool) (f : Str × Str → PyData) (hitem : ∀ q ∈ a.ps, Item c n (relab csc sc) [] none target ifs elt (pieceD q) (p q) (f q))
    (hlen : a.ps.length ≤ 1000000) (hy : sc.names.lookup y = some .local) (hsw : ∀ env : Env, env.scope = sc → swapsWith (.ListComp elt [⟨target, .Name x xp, ifs, 0⟩] csc pos) (some (.Name y py)) spos.line env = pure true) (hs : ∀ v env, foldedSetIterable (.Name x xp) env v = pure v := by intro _ _; rfl)
    (hdb : (x == ("__debug__" : Str)) = false := by rfl) (hcd : (x == ("__classdict__" : Str)) = false := by rfl) :
    S1 c n sc ρ (some a) (.Assign [.Name y py] (.ListComp elt [⟨target, .Name x xp, ifs, 0⟩] csc pos) spos) (Qn ((y, .d (.list ((a.ps.filter p).map f))) :: ρ) (some a)) := fun Z A env s I => by
  have ok := CompOk.of ok
  rw [exec_Assign_Name_used _ _ _ _ (hsw env I.scope)]
  refine wpAny_bind (wpAny_standAt (wpAny_bind ?_))
  show wpAny _ A (do let _ ← comprehension (.ListComp elt [⟨target, .Name x xp, ifs, 0⟩] csc pos) csc env _ (newList []) false (eval (.Name x xp) env) (some (PySem.assign (PySem.Expr.Name y py) env))) _ _ s
  have hIt : s.heap.get? s.heap.objs.size = none := none_of (Nat.le_refl _)
  have I0 : In c Z n sc [] none A env s := I.bare
  refine wpAny_bind (wp_mono (wpAny_comprehension_free (E := NoE) (use := some (PySem.assign (PySem.Expr.Name y py) env)) (Q := fun _ s' => Left c Z n sc (some a) A env (Qn ((y, .d (.list ((a.ps.filter p).map f))) :: ρ) (some a)) s .next s') rfl (fun x => hs x env) (closure_is fun y hy e => I.cel _ (ok.free y hy e)) ok.kind ok.names
    (ev_acName hx hdb hcd I fun a' e => ?_)) fun _ s' hq => wpAny_pure (wpAny_pure hq))
  cases e
  refine I.pre.iter ha F G ?_
  obtain ⟨items, hsq, hr⟩ := I.pre.seqAt ha
  have kp : ∀ b o, s.heap.get? b = some o → (s.heap.push { cls := .type "list_iterator", data := .fields #[.ref a.addr, .int 0 0] }).get? b = some o := fun b o e => Heap.get?_push_of_some _ e
  have hne : s.heap.objs.size ≠ a.addr := fun q => by
    obtain ⟨o, k, e, _⟩ := hsq
    rw [← q, hIt] at e; cases e
  refine comp_run (It := s.heap.objs.size) (fp := [s.heap.objs.size, a.addr]) (enc := pieceD) (xs := a.ps) (p := p) (f := f) (ρi := []) (RR := fun acc C => compPost c.M A NoE (some (PySem.assign (PySem.Expr.Name y py) env)) (fun _ s' => Left c Z n sc (some a) A env (Qn ((y, .d (.list ((a.ps.filter p).map f))) :: ρ) (some a)) s .next s') acc C) I0 (Post.heap I.old I.gens (fun _ e => by cases e) kp) ok trivial
    (iter_seq (items := items) hne) ⟨0, ⟨_, Heap.get?_push_size _ rfl, rfl, rfl⟩, ?_, ?_, .refl _⟩ (fun _ e => by cases e) hIt (I.old.new (Nat.le_refl _)) hitem hlen fun D C s' P0 r hm hC hC2 => ?_
  · obtain ⟨o, k, e, q⟩ := hsq
    exact ⟨o, k, kp _ _ e, q⟩
  · have : Rps Z s.heap (items.toList.drop 0) (a.ps.map pieceD) := by simpa using hr
    exact this.step (.of_keep kp)
  have P : Post c Z (some a) (some a) s s' := P0.widen (I.acc a rfl).1
  show wpAny _ A (PySem.assign (PySem.Expr.Name y py) env (.ref D)) _ _ s'
  refine wpAny_assign_Name ((I.post P).store (all := true) (.inl hy) (v := .d _) r fun s'' I'' M => ?_)
  have hm'' : ∃ m, s''.heap.Ns C m := by
    obtain ⟨m, o, es, ep, e, hd, q⟩ := hm
    have hne : ¬ Tb (ownM true env (Xs (some a))) C := by
      rintro (rfl | rfl | rfl | ⟨_, x, q⟩ | ⟨a, ea, rfl | rfl⟩)
      · exact absurd hC2 (by decide)
      · exact absurd hC2 (by decide)
      · obtain ⟨m, o, _, _, e', _⟩ := I.ns; rw [hC] at e'; cases e'
      · obtain ⟨u, o, e', _⟩ := I.cells x C q; rw [hC] at e'; cases e'
      · obtain ⟨⟨o, e'⟩, _⟩ := (I.acc _ ea).1.alive; rw [hC] at e'; cases e'
      · obtain ⟨_, o, e'⟩ := (I.acc _ ea).1.alive; rw [hC] at e'; cases e'
    obtain ⟨o', e', sm⟩ := M.stp.kp C o e hne
    exact ⟨m, o', es, ep, e', sm.data.trans hd, q⟩
  obtain ⟨m, hm₂⟩ := id hm''
  refine ⟨m, hm₂, fun h' hs' => ?_⟩
  obtain ⟨⟨o, e⟩, k, dt⟩ := dict_off hm'' hs'
  exact ⟨.next, _, some a, ⟨rfl, rfl, rfl⟩, I.beside (tk := s''.toks) I'' rfl hC e hC2 k dt, (P.toF.trans M).but (tk := s''.toks) hC e hC2 k, trivial⟩
end
end Mine
end

section
open PySem PySem.W PyProof.Rows PySem.Calls PySem.Spec
set_option Elab.async false
set_option linter.unusedVariables false
set_option maxRecDepth 100000
namespace Mine

/-! ## a generator over the pieces -/
structure GenFacts (c : Cx) : Prop where
  bm : ∃ bm ob, c.mg "__builtins__" = some (.ref bm) ∧ bm ≠ builtinsNs ∧ bm ≠ 62 ∧ bm ≠ 69 ∧ c.s₁.heap.get? bm = some ob ∧ ob.cls = .type "module" ∧ ob.dict = some builtinsNs ∧ ob.data = .plain

noncomputable def PieceV (ps : List (Str × Str)) (i : Nat) (vals : Array Value) : Prop := ∃ q ta tb, ps[i]? = some q ∧ vals = #[.str q.1 ta, .str q.2 tb]
noncomputable def StG (h₀ : Heap) (I ax : Addr) (j : Nat) (h : Heap) : Prop := h.IsListIter I ax j ∧ ∀ b o, b ≠ I → h₀.get? b = some o → h.get? b = some o

theorem piece_at {Z : AP} {h : Heap} {items : Array Value} {ps : List (Str × Str)} (r : Rps Z h items.toList (ps.map pieceD)) {i : Nat} (hi : i < ps.length) :
    ∃ T vals, items[i]? = some (.ref T) ∧ h.IsTuple T vals ∧ PieceV ps i vals := by
  obtain ⟨v, hv, rv⟩ := Rps.get r i (d := pieceD ps[i]) (by rw [List.getElem?_map, List.getElem?_eq_getElem hi]; rfl)
  obtain ⟨T, vs, rfl, _, hT, rs⟩ := Rp.tuple_inv rv
  cases rs with
  | cons r1 rs =>
  cases rs with
  | cons r2 rs =>
  cases rs
  obtain ⟨ta, rfl⟩ := r1.str_inv
  obtain ⟨tb, rfl⟩ := r2.str_inv
  exact ⟨T, _, by rw [← Array.getElem?_toList]; exact hv, hT, ps[i], ta, tb, List.getElem?_eq_getElem hi, rfl⟩

theorem walks_acc {prog : Program} {w : World} {A : Around} (hh : A.handled = none) {Z : AP} {h₀ : Heap} {I ax : Addr} {items : Array Value} {ps : List (Str × Str)} (hI : ∃ j, h₀.IsListIter I ax j) (hsq : SeqAt h₀ ax items) (hax : ax ≠ I) (r : Rps Z h₀ items.toList (ps.map pieceD)) :
    WalksU prog w A I (List.range h₀.objs.size) [I] ps.length (PieceV ps) (StG h₀ I ax) (fun j T h => StG h₀ I ax (j + 1) h ∧ T ≠ I) where
  sub := fun b hb => by
    rw [List.mem_singleton.mp hb]
    obtain ⟨j, o, e, _⟩ := hI
    exact List.mem_range.mpr (Heap.lt_size e)
  frame := fun i h h' st hk => by
    obtain ⟨j, o, e, _⟩ := hI
    exact ⟨st.1.at fun o' e' => hk I (List.mem_range.mpr (Heap.lt_size e)) o' e', fun b o' hb e' => hk b (List.mem_range.mpr (Heap.lt_size e')) o' (st.2 b o' hb e')⟩
  item := fun i s Q E hi st hQ => by
    obtain ⟨T, vals, hv, hT, hp⟩ := piece_at r hi
    obtain ⟨ol, nl, el, rl⟩ := hsq
    refine next_item st.1 ⟨ol, nl, st.2 _ _ hax el, rl⟩ hv fun h' it' hs => ?_
    have hTI : T ≠ I := fun q => by
      obtain ⟨j, o, e, hc, _⟩ := hI
      obtain ⟨o', e', hc', _⟩ := hT
      rw [q, e] at e'; cases e'; rw [hc] at hc'; exact absurd hc' (by decide)
    have kp : ∀ b o, b ≠ I → s.heap.get? b = some o → h'.get? b = some o := fun b o hb e => (hs.2 b hb).trans e
    refine hQ T vals h' s.toks hp (hT.at fun o e => kp _ _ hTI (st.2 _ _ hTI e)) ⟨⟨it', fun b o hb e => kp _ _ hb (st.2 _ _ hb e)⟩, hTI⟩ fun b o hb e => kp b o (fun q => hb (by rw [q]; exact List.mem_singleton.mpr rfl)) e
  go := fun _ _ _ i T s Q E hm hQ => wpAny_letOwnedTupleGo_listiter hm.1.1 (hQ s.heap hm.1 fun _ _ _ e => e)
  apart := fun j T h hm hmem => hm.2 (List.mem_singleton.mp hmem)
  done := fun s Q E st hQ => by
    obtain ⟨ol, nl, el, rl⟩ := hsq
    have hz : items[ps.length]? = none := by
      have := r.length
      rw [List.length_map] at this
      rw [← Array.getElem?_toList]
      exact List.getElem?_eq_none (by omega)
    refine next_end hh st.1 ⟨ol, nl, st.2 _ _ hax el, rl⟩ hz fun h' he => hQ h' s.toks fun b o hb e => he b o (fun q => hb (by rw [q]; exact List.mem_singleton.mpr rfl)) e
  self := fun i s Q E st hQ => wpAny_pyIter_listiter st.1 hQ

theorem passing_all {n : Nat} : ∀ {k : Nat}, k ≤ n → (passing (fun _ => true) n k).length = n - k ∧ ∀ j i, (passing (fun _ => true) n k)[j]? = some i → i = k + j := by
  intro k hk
  induction hm : n - k generalizing k with
  | zero =>
    have : k = n := by omega
    subst this
    rw [passing_end]
    exact ⟨rfl, fun j i e => by simp at e⟩
  | succ m ih =>
    have hlt : k < n := by omega
    rw [passing_true hlt rfl]
    obtain ⟨h1, h2⟩ := ih (k := k + 1) hlt (by omega)
    refine ⟨by rw [List.length_cons, h1], fun j i e => ?_⟩
    cases j with
    | zero => simp at e; omega
    | succ j => have := h2 j i (by simpa using e); omega
end Mine
end

section
open PySem PySem.W PyProof.Rows PySem.Calls PySem.Spec
set_option Elab.async false
set_option linter.unusedVariables false
set_option maxRecDepth 100000
namespace Mine

/-- one of the two methods' code tables -/
noncomputable def TabOf (cd P : Addr) : Prop := (cd = 66 ∧ P = 62) ∨ (cd = 73 ∧ P = 69)
theorem Old.tab {c : Cx} {h : Heap} (O : Old c h) {cd P : Addr} (t : TabOf cd P) : Tab h cd P := by
  rcases t with ⟨rfl, rfl⟩ | ⟨rfl, rfl⟩
  · exact O.t1
  · exact O.t2
theorem TabOf.ne {cd P : Addr} (t : TabOf cd P) : (P = 62 ∨ P = 69) ∧ cd ≠ 62 ∧ cd ≠ 69 := by
  rcases t with ⟨rfl, rfl⟩ | ⟨rfl, rfl⟩
  · exact ⟨.inl rfl, by decide, by decide⟩
  · exact ⟨.inr rfl, by decide, by decide⟩
/-- a table grows -/
theorem Old.grow {c : Cx} {h h' : Heap} (O : Old c h) {cd P : Addr} (t : TabOf cd P) (hx : Heap.ExtBut P h h') (ht : Tab h' cd P) (hg : ∀ ps, h.get? P = some { cls := .none, data := .fields ps } → ∃ more, h'.get? P = some { cls := .none, data := .fields (ps ++ more) }) : Old c h' := by
  have k : ∀ b o, b ≠ P → h.get? b = some o → h'.get? b = some o := fun b o hb e => hx b o hb e
  obtain ⟨hP, _⟩ := t.ne
  have other : ∀ {cd' P' : Addr}, cd' ≠ P → P' ≠ P → Tab h cd' P' → Tab h' cd' P' := by
    rintro cd' P' h1 h2 ⟨ps, x, ⟨o₁, vs, q1, q⟩, y2⟩
    exact ⟨ps, isCode_at x (fun o => k _ o h1) (fun o => k _ o h2), ⟨o₁, vs, k _ _ h1 q1, q⟩, k _ _ h2 y2⟩
  refine ⟨fun b o e h1 h2 => k _ _ (fun q => ?_) (O.keep b o e h1 h2), ?_, ?_, fun P' hP' ps e => ?_⟩
  · rcases hP with r | r
    · exact h1 (q.trans r)
    · exact h2 (q.trans r)
  · rcases t with ⟨rfl, rfl⟩ | ⟨rfl, rfl⟩
    · exact ht
    · exact other (by decide) (by decide) O.t1
  · rcases t with ⟨rfl, rfl⟩ | ⟨rfl, rfl⟩
    · exact other (by decide) (by decide) O.t2
    · exact ht
  · obtain ⟨m, q⟩ := O.ex P' hP' ps e
    by_cases hb : P' = P
    · subst hb
      obtain ⟨m', q'⟩ := hg _ q
      exact ⟨m ++ m', by rw [q', Array.append_assoc]⟩
    · exact ⟨m, k _ _ hb q⟩

theorem Post.grow {c : Cx} {Z : AP} {s : Shared} (O : Old c s.heap) (G : AllBare s.gens) {cd P : Addr} (t : TabOf cd P) {h' : Heap} {tk : Tok} (hx : Heap.ExtBut P s.heap h') (ht : Tab h' cd P) (hg : ∀ ps, s.heap.get? P = some { cls := .none, data := .fields ps } → ∃ more, h'.get? P = some { cls := .none, data := .fields (ps ++ more) }) : Post c Z none none s { s with heap := h', toks := tk } := by
  obtain ⟨hP, _⟩ := t.ne
  obtain ⟨ps, _, _, hPt⟩ := O.tab t
  refine ⟨⟨.of_keep fun b o nb e => hx b o (fun q => nb ?_) e, fun b o e hc => hx b o (fun q => ?_) e, fun b o e => ?_, O.grow t hx ht hg, G, rfl⟩, fun _ e => (by cases e), rfl⟩
  · subst q; rcases hP with r | r
    · exact .inl r
    · exact .inr (.inl r)
  · subst q
    rw [hPt] at e; cases e
    obtain ⟨⟨vs, k, q⟩, _⟩ := hc
    cases q
  · by_cases q : b = P
    · subst q
      obtain ⟨ps', _, _, z⟩ := ht
      exact ⟨_, z⟩
    · exact ⟨o, hx b o q e⟩

theorem genexpr_code {c : Cx} {Z : AP} {A : Around} {E : Value → Shared → Prop} {s : Shared} {env : Env} {cd P : Addr} {pos : Pos} {qn : Str} {gsc : Scope} {Q : Value → Shared → Prop} (O : Old c s.heap) (G : AllBare s.gens) (t : TabOf cd P) (hc : env.code = .ref cd)
    (hQ : ∀ v s', Post c Z none none s s' → (∀ b o, b ≠ P → s.heap.get? b = some o → s'.heap.get? b = some o) → s'.gens = s.gens → Q v s') : wpAny c.M A (genexprCode env pos qn gsc) Q E s := by
  obtain ⟨ps, hok, htab⟩ := O.tab t
  cases hf : codeAmong pos ps.toList with
  | some c' => exact wpAny_genexprCode_hit hc hok hf (hQ _ _ ⟨.refl O G, fun _ e => (by cases e), rfl⟩ (fun _ _ _ e => e) rfl)
  | none =>
    refine wpAny_genexprCodeX hc hok htab hf fun c' h' tk hx _ _ hok' _ htab' _ => ?_
    exact hQ _ _ (Post.grow O G t hx ⟨_, hok', htab'⟩ fun ps' e => by
      rw [htab.2] at e
      cases e
      exact ⟨_, htab'.2⟩) (fun b o hb e => hx b o hb e) rfl

theorem Old.builtins {c : Cx} {A : Around} {E : Value → Shared → Prop} {s : Shared} {r : Addr} {Q : Addr → Shared → Prop} (O : Old c s.heap) (B : GenFacts c) (h : Q builtinsNs s) : wpAny c.M A (builtinsFor mainGlobals r) Q E s := by
  obtain ⟨bm, ob, e1, e2, e3, e4, e5, e6, e7, e8⟩ := B.bm
  exact wpAny_builtinsFor O.g e1 e2 (O.keep _ _ e5 e3 e4) e6 e7 e8 h

noncomputable def genOkB (gsc : Scope) (xa xb : Str) : Bool := !gsc.isCoroutine && gsc.names.all (fun y => y.2 != .cell) && gsc.names.lookup (".0" : Str) == some NameKind.local && gsc.names.lookup xa == some .local && gsc.names.lookup xb == some .local && (xa != xb) && gsc.kind == .function && gsc.names.all (fun y => y.2 != .free)

section
variable {c : Cx} {Z : AP} {n : Nat} {sc gsc : Scope} {ρ : Loc} {a : Ac} {A : Around} {env : Env} {s : Shared} {E : Value → Shared → Prop}
theorem Post.moved {k : Nat} {wr : List Addr} {s' s'' : Shared} (I : Pre c Z n (some a) A s) (P : Post c Z none none s s') (m : Moved wr (GenOnlyQ k) s' s'') (hw : ∀ b ∈ wr, s.heap.get? b = none) : Post c Z none none s s'' := by
  have kp : ∀ b o o', s.heap.get? b = some o → s'.heap.get? b = some o' → s''.heap.get? b = some o' := fun b o o' e e' => m.heap b o' (fun q => by rw [hw b q] at e; cases e) e'
  have kp' : ∀ b o', (∃ o, s.heap.get? b = some o) → s'.heap.get? b = some o' → s''.heap.get? b = some o' := fun b o' ⟨o, e⟩ e' => kp b o o' e e'
  have tab : ∀ {cd Q : Addr}, TabOf cd Q → Tab s''.heap cd Q := fun t => by
    obtain ⟨ps, x, ⟨o₁, vs, q1, q⟩, y2⟩ := P.stp.old.tab t
    obtain ⟨ps0, x0, ⟨o10, vs0, q10, q0⟩, y20⟩ := I.old.tab t
    exact ⟨ps, isCode_at x (fun o e => kp' _ o ⟨_, q10⟩ e) (fun o e => kp' _ o ⟨_, y20⟩ e), ⟨o₁, vs, kp' _ _ ⟨_, q10⟩ q1, q⟩, kp' _ _ ⟨_, y20⟩ y2⟩
  refine ⟨⟨fun b o e nb => ?_, fun b o e hc => kp b o o e (P.stp.dat b o e hc), fun b o e => ?_, ⟨fun b o e h1 h2 => ?_, tab (.inl ⟨rfl, rfl⟩), tab (.inr ⟨rfl, rfl⟩), fun P₁ hP ps e => (P.stp.old.ex P₁ hP ps e).elim fun m q => (I.old.ex P₁ hP ps e).elim fun m0 q0 => ⟨m, kp _ _ _ q0 q⟩⟩, m.gens.bare P.stp.gens, m.os.trans P.stp.os⟩, fun _ e => (by cases e), rfl⟩
  · obtain ⟨o', e', sm⟩ := P.stp.kp b o e nb
    exact ⟨o', kp b o o' e e', sm⟩
  · obtain ⟨o', e'⟩ := P.stp.al b o e
    exact ⟨o', kp b o o' e e'⟩
  · exact kp b _ o (I.old.keep b o e h1 h2) (P.stp.old.keep b o e h1 h2)

theorem clo_nofree {env : Env} : ∀ {ns : List (Str × NameKind)} {cs : List (Str × Addr)}, (∀ y ∈ ns, y.2 ≠ .free) → clo env ns cs = cs
  | [], _, _ => rfl
  | (x, k) :: r, cs, h => by
    unfold clo
    rw [if_neg (by have := h _ (.head _); simpa using this)]
    exact clo_nofree fun y m => h y (.tail _ m)

theorem gen_make {cd P : Addr} {xa xb x : Str} {pa pb pt px pos : Pos} {kt : Nat} {elt : Expr} {Q : Value → Shared → Prop} (t : TabOf cd P) (I : In c Z n sc ρ (some a) A env s) (ha : a.cls = 100) (F : AccFacts c) (G : SubFacts c) (B : GenFacts c) (hcode : env.code = .ref cd)
    (ok : genOkB gsc xa xb = true) (f : Str × Str → Value → Prop)
    (helt : ∀ q ∈ a.ps, ∀ (A' : Around) E' C code ta tb (t : Shared) m₂, A'.handled = none → A'.depth ≤ A.depth + 1 → A'.units ≤ A.units + 8 → t.heap.Ns C m₂ → m₂ xa = some (.str q.1 ta) → m₂ xb = some (.str q.2 tb) →
      t.heap.Ns mainGlobals c.mg → t.heap.Ns builtinsNs c.mb → wpAny c.M A' (eval elt (genEnv gsc [] C code builtinsNs env)) (fun y s₃ => f q y ∧ Keeps t s₃) E' t)
    (hQ : ∀ g s' fp wr k St, Post c Z none none s s' → WalksS pg c.w A.in4 g fp wr (GenOnlyQ k) a.ps.length (fun j y => ∃ q, a.ps[j]? = some q ∧ f q y) St → St 0 s' → (∀ b ∈ fp, b < s'.heap.objs.size) → g ∈ fp →
      (∀ i s, St i s → s.TypeIs (.ref g) "generator") → (∀ b ∈ wr, s.heap.get? b = none) → (∀ b o, b ≠ P → s.heap.get? b = some o → s'.heap.get? b = some o) → Q (.ref g) s')
    (hx : ρ.lookup x = some .ac := by rfl) (hdb : (x == ("__debug__" : Str)) = false := by rfl) (hcd : (x == ("__classdict__" : Str)) = false := by rfl) (hs : ∀ v env, genFold (.Name x px) env v = pure v := by intro _ _; rfl) :
    wpAny c.M A (eval (.GeneratorExp elt [⟨.Tuple [.Name xa pa, .Name xb pb] kt pt, .Name x px, [], 0⟩] gsc pos) env) Q E s := by
  simp only [genOkB, Bool.and_eq_true, Bool.not_eq_true', beq_iff_eq, List.all_eq_true, bne_iff_ne] at ok
  obtain ⟨⟨⟨⟨⟨⟨⟨o1, o2⟩, o3⟩, o4⟩, o5⟩, o6⟩, o7⟩, o8⟩ := ok
  have hcl : closureFor gsc env = pure [] := by
    rw [closure_is (scope := gsc) (env := env) fun y hy e => absurd e (o8 y hy), clo_nofree o8]
  refine wpAny_GeneratorExp_walksQTD I.room.hd o1 hcl o2 o3 o4 o5 o6 o7 (by have := I.room.dep; show A.depth < 1000; omega) (ev_acName hx hdb hcd I fun a' e => ?_) (fun v => hs v env)
  cases e
  refine I.pre.iter ha F G ?_
  have hIt : s.heap.get? s.heap.objs.size = none := none_of (Nat.le_refl _)
  have kp0 : ∀ b o, s.heap.get? b = some o → (s.heap.push { cls := .type "list_iterator", data := .fields #[.ref a.addr, .int 0 0] }).get? b = some o := fun b o e => Heap.get?_push_of_some _ e
  have P₁ : Post c Z none none s { s with heap := s.heap.push { cls := .type "list_iterator", data := .fields #[.ref a.addr, .int 0 0] } } := Post.heap I.old I.gens (fun _ e => by cases e) kp0
  refine ⟨P₁.stp.old.lim, ?_⟩
  refine genexpr_code (Z := Z) P₁.stp.old P₁.stp.gens t hcode fun code s₃ P₂ kp2 hg2 => ?_
  rw [I.gl]
  refine P₂.stp.old.builtins B ?_
  have P₃ := P₁.trans P₂
  have nP : ∀ {b : Addr} {o : Obj}, s.heap.get? b = some o → (o.cls ≠ .none) → b ≠ P := fun {b o} e hc q => by
    obtain ⟨ps, _, _, z⟩ := I.old.tab t
    subst q; rw [z] at e; cases e; exact hc rfl
  have kp3 : ∀ b o, b ≠ P → s.heap.get? b = some o → s₃.heap.get? b = some o := fun b o hb e => kp2 b o hb (kp0 b o e)
  obtain ⟨items, hsq, hr⟩ := I.pre.seqAt ha
  have hsz : s.heap.objs.size < s₃.heap.objs.size := by
    obtain ⟨o, e⟩ := P₂.stp.al s.heap.objs.size _ (Heap.get?_push_size _ rfl)
    exact Heap.lt_size e
  have hPlt : P < 235 := by rcases t with ⟨_, rfl⟩ | ⟨_, rfl⟩ <;> decide
  have hbig : 235 ≤ s.heap.objs.size := I.old.new (Nat.le_refl _)
  have hItP : s.heap.objs.size ≠ P := fun q => absurd hbig (by rw [q]; exact Nat.not_le.mpr hPlt)
  have it3 : s₃.heap.IsListIter s.heap.objs.size a.addr 0 := ⟨_, kp2 _ _ hItP (Heap.get?_push_size _ rfl), rfl, rfl⟩
  have sq3 : SeqAt s₃.heap a.addr items := by
    obtain ⟨o, k, e, hd, h1, h2⟩ := hsq
    exact ⟨o, k, kp3 _ _ (nP e h2) e, hd, h1, h2⟩
  have hne : a.addr ≠ s.heap.objs.size := fun q => by
    obtain ⟨o, k, e, _⟩ := hsq
    rw [q, hIt] at e; cases e
  have r3 := hr.step P₃.stp.dat
  have hcs : ∃ o, s.heap.get? cStatics = some o := by
    obtain ⟨_, ⟨o, _, _, e, _⟩, _⟩ := I.old.lim
    exact ⟨o, e⟩
  refine ⟨s.heap.objs.size, List.range s₃.heap.objs.size, [s.heap.objs.size], a.ps.length, PieceV a.ps, StG s₃.heap s.heap.objs.size a.addr, fun j T h => StG s₃.heap s.heap.objs.size a.addr (j + 1) h ∧ T ≠ s.heap.objs.size, fun _ => true, fun i y => ∃ q, a.ps[i]? = some q ∧ f q y, rfl,
    fun A' hA => walks_acc hA ⟨0, it3⟩ sq3 hne r3, fun i vals ⟨q, ta, tb, _, e⟩ => ⟨_, _, e⟩, ⟨it3, fun _ _ _ e => e⟩, fun b hb => List.mem_range.mp hb, P₃.stp.old.lim, ?_, fun href hhref => ?_, fun ad h₅ tk gs hgb hag hsz₅ hk₅ W hat => ?_⟩
  · intro hm
    rw [List.mem_singleton] at hm
    obtain ⟨o, e⟩ := hcs
    rw [hm, hIt] at e; cases e
  · have env3 : ∀ (t : Shared), (∀ b ∈ List.range s₃.heap.objs.size, b ∉ [s.heap.objs.size] → ∀ o, href.get? b = some o → t.heap.get? b = some o) → t.heap.Ns mainGlobals c.mg ∧ t.heap.Ns builtinsNs c.mb := fun t hk => by
      have k : ∀ b o, b < 235 → s₃.heap.get? b = some o → t.heap.get? b = some o := fun b o hb e => hk b (List.mem_range.mpr (Heap.lt_size e)) (fun q => absurd hbig (by rw [← List.mem_singleton.mp q]; exact Nat.not_le.mpr hb)) o (hhref b o e)
      exact ⟨ns_at P₃.stp.old.g fun o e => k _ o (by decide) e, ns_at P₃.stp.old.b fun o e => k _ o (by decide) e⟩
    refine ⟨fun A' E' i va vb t m₂ _ _ _ _ _ _ _ _ => wpAny_tests_nil ⟨rfl, _, _, rfl, fun _ _ e => e⟩, fun A' E' i va vb t m₂ hA hD hU hP _ hn hma hmb hk => ?_⟩
    obtain ⟨q, ta, tb, hq, e⟩ := hP
    cases e
    exact wpAny_mono (helt q (List.mem_of_getElem? hq) A' E' _ code ta tb t m₂ hA hD hU hn hma hmb (env3 t hk).1 (env3 t hk).2) (fun y s₄ ⟨h1, h2⟩ => ⟨⟨q, hq, h1⟩, h2⟩) fun _ _ e => e
  · obtain ⟨l1, l2⟩ := passing_all (n := a.ps.length) (k := 0) (Nat.zero_le _)
    have P₅ : Post c Z none none s₃ { s₃ with gens := s₃.gens.push gs, toks := tk, heap := h₅ } :=
      ⟨⟨.of_keep fun b o _ e => hk₅ b o e, .of_keep hk₅, fun b o e => ⟨o, hk₅ b o e⟩, P₃.stp.old.step hk₅, P₃.stp.gens.push hgb, rfl⟩, fun _ e => (by cases e), rfl⟩
    have hW : WalksS pg c.w A.in4 ad (ad :: s₃.heap.objs.size :: List.range s₃.heap.objs.size) (s₃.heap.objs.size :: [s.heap.objs.size]) (GenOnlyQ s₃.gens.size) a.ps.length (fun j y => ∃ q, a.ps[j]? = some q ∧ f q y) (GenAt pg c.w A.in4 ad s₃.gens.size s₃.heap.objs.size (List.range s₃.heap.objs.size) [s.heap.objs.size] (fun _ => true) a.ps.length fun i y => ∃ q, a.ps[i]? = some q ∧ f q y) := by
      rw [l1] at W
      refine { W with item := fun i s Q E hi st hQ => W.item i s Q E hi st fun v s' hv => hQ v s' ?_ }
      obtain ⟨i', e1, e2⟩ := hv
      have := l2 _ _ e1
      rw [Nat.zero_add] at this
      rw [← this]; exact e2
    refine hQ ad _ _ _ _ _ (P₃.trans P₅) hW hat (fun b hb => ?_) (List.mem_cons_self ..) (fun i s' st => st.1.typeIs) (fun b hb => ?_) fun b o hb e => hk₅ b o (kp3 b o hb e)
    · show b < h₅.objs.size
      rw [hsz₅]
      rcases List.mem_cons.mp hb with rfl | hb
      · exact Nat.lt_succ_self _
      · rcases List.mem_cons.mp hb with rfl | hb
        · exact Nat.lt_succ_of_lt hag
        · exact Nat.lt_succ_of_lt (Nat.lt_trans (List.mem_range.mp hb) hag)
    · rcases List.mem_cons.mp hb with rfl | hb
      · exact none_of (Nat.le_of_lt hsz)
      · rw [List.mem_singleton.mp hb]; exact hIt
end
end Mine
end

section
open PySem PySem.W PyProof.Rows PySem.Calls PySem.Spec
set_option Elab.async false
set_option linter.unusedVariables false
set_option maxRecDepth 100000
namespace Mine

/-! ## sum of a generator, with a start -/
theorem walks_shift {prog : Program} {w : World} {A : Around} {I : Addr} {fp wr : List Addr} {G : Array GenState → Array GenState → Prop} {n : Nat} {P : Nat → Value → Prop} {St : Nat → Shared → Prop} (W : WalksS prog w A I fp wr G n P St) :
    WalksS prog w A I fp wr G (n + 1) (fun i v => ∃ j, i = j + 1 ∧ P j v) (fun i s => ∃ j, i = j + 1 ∧ St j s) where
  sub := W.sub
  grefl := W.grefl
  gtrans := W.gtrans
  frame := fun i s h' tk ⟨j, e, st⟩ h1 h2 => ⟨j, e, W.frame j s h' tk st h1 h2⟩
  item := fun i s Q E hi ⟨j, e, st⟩ hQ => W.item j s Q E (by omega) st fun v s' h1 h2 h3 => hQ v s' ⟨j, e, h1⟩ ⟨j + 1, by omega, h2⟩ h3
  done := fun s Q E ⟨j, e, st⟩ hQ => W.done s Q E (by have : j = n := by omega
                                                      exact this ▸ st) hQ
  self := fun i s Q E ⟨j, e, st⟩ hQ => W.self j s Q E st hQ

theorem args_sum2 (a b : Value) : argsOk "sum" ⟨[a, b], []⟩ := by unfold argsOk; kernel_rfl
noncomputable def valS (z : Int) (val : Nat → Int) : Nat → Int
  | 0 => z
  | i + 1 => val i

theorem preSum_succ (val : Nat → Int) (i : Nat) : preSum val (i + 1) = preSum val i + val i := rfl
theorem preSum_valS (z : Int) (val : Nat → Int) : ∀ n, preSum (valS z val) (n + 1) = z + preSum val n
  | 0 => by
    show preSum (valS z val) 0 + z = z + preSum val 0
    show (0 : Int) + z = z + 0
    omega
  | n + 1 => by
    rw [preSum_succ, preSum_valS z val n, preSum_succ val n]
    show z + preSum val n + val n = _
    omega

theorem sum_start {prog : Program} {w : World} {A : Around} {E : Value → Shared → Prop} {s : Shared} {I : Addr} {fp wr : List Addr} {G : Array GenState → Array GenState → Prop} {n : Nat} {P : Nat → Value → Prop} {St : Nat → Shared → Prop} {z : Int} {tz : Tok} {Q : Value → Shared → Prop} (val : Nat → Int)
    (W : WalksS prog w A.in1 I fp wr G n P St) (hst : St 0 s) (hfp : ∀ b ∈ fp, b < s.heap.objs.size) (hval : ∀ i v, P i v → ∃ t, v = .int (val i) t)
    (hQ : ∀ s' t', Moved wr G s s' → Q (.int (z + preSum val n) t') s') : wpAny (model prog w) A (call (.builtin "sum") [.ref I, .int z tz]) Q E s := by
  refine call_function_tree F.kind_sum F.plain_sum F.entry_sum (args_sum2 _ _) ?_
  unfold Builtin.«sum»
  simp only [List.length_cons, List.length_nil]
  rw [if_neg (by decide)]
  refine wpAny_bind (wpAny_of_eq (show Builtin.Builtins.bindParams "sum" ["start"] 0 ⟨[.int z tz], []⟩ = pure [some (.int z tz)] from rfl) ?_)
  refine wpAny_bind (W.self 0 s _ _ hst ?_)
  have fin : ∀ (st : Int) (t : Tok) (tk : Tok), (st = 0 ∨ st = 2) → s.toks ≤ tk → wpAny (model prog w) A.in1 (do
      for (ty, what, hint) in ([("str", "strings", "''"), ("bytes", "bytes", "b''"), ("bytearray", "bytearray", "b''")] : List (String × String × String)) do
        if ← isInstance (.int z t) (.type ty) then
          rule "sum.start-refused"; raiseError "TypeError" s!"sum() can't sum {what} [use {hint}.join(seq) instead]"
      again (.builtin "sum.loop" ⟨[.ref I, ← newList [.int z t], rawInt st, rawInt 0], []⟩))
      (fun fin s' => match fin with
      | .done f => (match (Except.ok f : Result) with | .ok (.ret v) => Q v s' | .ok _ => False | .error e => E e s')
      | .again c' => c'.quiet = true ∧ codeAny (model prog w) A c' (fun r s' => match r with | .ok (.ret v) => Q v s' | .ok _ => False | .error e => E e s') s') E { s with toks := tk } := fun st t tk hst2 htk => by
    simp only [List.forIn_cons, List.forIn_nil]
    refine wpAny_bind (wpAny_bind (wpAny_bind (wpAny_isInstance (T := "int") (b := false) (typeIs_int _ _ _) PySem.sub_int_str ?_)))
    simp only [Bool.false_eq_true, if_false]
    refine wpAny_pure (wpAny_bind (wpAny_bind (wpAny_isInstance (T := "int") (b := false) (typeIs_int _ _ _) sub_int_bytes ?_)))
    simp only [Bool.false_eq_true, if_false]
    refine wpAny_pure (wpAny_bind (wpAny_bind (wpAny_isInstance (T := "int") (b := false) (typeIs_int _ _ _) sub_int_bytearray ?_)))
    simp only [Bool.false_eq_true, if_false]
    refine wpAny_pure (wpAny_pure ?_)
    refine wpAny_bind (wpAny_newObj_type ?_)
    have hSf : s.heap.objs.size ∉ fp := fun hm => Nat.lt_irrefl _ (hfp _ hm)
    have hpre : preSum (valS z val) 1 = z := by show (0 : Int) + z = z; omega
    refine wpAny_pure ⟨plainId_quiet F.plain_sum_loop _, codeAny_sum_loopAnyS (walks_shift W) (valS z val) (fun i v ⟨j, e, h⟩ => by subst e; exact hval j v h) s.heap.objs.size hSf n 1 _ t 0 st hst2 (by omega) (by omega) ⟨0, rfl, W.frame 0 s _ _ hst htk fun b _ o e => Heap.get?_push_of_some _ e⟩
      (by rw [hpre]; exact Heap.get?_push_size _ rfl) fun s' t' hm => ?_⟩
    rw [preSum_valS]
    exact hQ s' t' (hm.drop_new htk)
  dsimp only
  split
  · refine wpAny_bind (wpAny_rule (wpAny_bind (wpAny_mkInt (wpAny_bind (wpAny_pure ?_)))))
    exact fin 0 _ _ (.inl rfl) (Nat.le_succ _)
  · refine wpAny_bind (wpAny_pure ?_)
    exact fin 2 _ _ (.inr rfl) (Nat.le_refl _)
end Mine
end

section
open PySem PySem.W PyProof.Rows PySem.Calls PySem.Spec
set_option Elab.async false
set_option linter.unusedVariables false
set_option maxRecDepth 100000
namespace Mine

structure DefGen (c : Cx) (a : Addr) (df : Df) (cd : Addr) : Prop where
  it : ∃ oc od osl fd, c.K.lookup a = some ⟨oc, od, .func fd, osl⟩ ∧ fd.params = df.params ∧ fd.body = .stmts df.body ∧ fd.scope = df.scope ∧ fd.globals = mainGlobals ∧ fd.builtins = builtinsNs ∧
    fd.closure = [] ∧ codeIn c.K fd.code fd.qualname = true ∧ fd.defaults = .none ∧ fd.kwdefaults = .none ∧ fd.code = .ref cd

/-- what a name gives within the generator -/
theorem gen_local {c : Cx} {A : Around} {E : Value → Shared → Prop} {gsc : Scope} {C bi : Addr} {code : Value} {env : Env} {t : Shared} {m : Str → Option Value} {x : Str} {v : Value} {p : Pos} {Q : Value → Shared → Prop} (hk : gsc.kind = .function) (hx : gsc.names.lookup x = some .local)
    (hn : t.heap.Ns C m) (hv : m x = some v) (hdb : (x == ("__debug__" : Str)) = false) (h : Q v t) : wpAny c.M A (eval (.Name x p) (genEnv gsc [] C code bi env)) Q E t :=
  wpAny_Name (wpAny_loadName_local (env := genEnv gsc [] C code bi env) hk hx hn hv h) hdb
theorem GlobIs.gen {c : Cx} {A : Around} {E : Value → Shared → Prop} {gsc : Scope} {C : Addr} {code : Value} {env : Env} {t : Shared} {x : Str} {v : Value} {p : Pos} {Q : Value → Shared → Prop} (g : GlobIs c gsc x v) (hk : gsc.kind = .function) (he : env.globals = mainGlobals)
    (hg : t.heap.Ns mainGlobals c.mg) (hb : t.heap.Ns builtinsNs c.mb) (h : Q v t) : wpAny c.M A (eval (.Name x p) (genEnv gsc [] C code builtinsNs env)) Q E t := by
  refine Name_function_global (env := genEnv gsc [] C code builtinsNs env) hk g.kind ?_ g.dbg
  rcases g.val with e | ⟨e1, e2⟩
  · exact loadGlobal_global (env := genEnv gsc [] C code builtinsNs env) (by rw [show (genEnv gsc [] C code builtinsNs env).globals = env.globals from rfl, he]; exact hg) e h
  · exact loadGlobal_builtin (env := genEnv gsc [] C code builtinsNs env) (by rw [show (genEnv gsc [] C code builtinsNs env).globals = env.globals from rfl, he]; exact hg) e1 hb e2 h

/-- the length of a piece -/
noncomputable def pieceLen (q : Str × Str) : Int := (q.1.length : Int) + q.2.length
noncomputable def sumLen (ps : List (Str × Str)) : Int := (ps.map pieceLen).sum
noncomputable def gsOf (df : Df) : Scope := match df.body with
  | [.Return (some (.Call _ (.GeneratorExp _ _ gsc _ :: _) _ _)) _] => gsc
  | _ => df.scope

theorem len_elt {c : Cx} {A : Around} {E : Value → Shared → Prop} {gsc : Scope} {C : Addr} {code : Value} {env : Env} {t : Shared} {m : Str → Option Value} {q : Str × Str} {ta tb : Tok} {xa xb : Str} {p1 p2 p3 p4 p5 p6 p7 : Pos} (g : GlobIs c gsc "len" (.builtin "len")) (hk : gsc.kind = .function)
    (hxa : gsc.names.lookup xa = some .local) (hxb : gsc.names.lookup xb = some .local) (hda : (xa == ("__debug__" : Str)) = false) (hdb : (xb == ("__debug__" : Str)) = false) (h1 : q.1.length ≤ 1000000) (h2 : q.2.length ≤ 1000000)
    (he : env.globals = mainGlobals) (hn : t.heap.Ns C m) (hva : m xa = some (.str q.1 ta)) (hvb : m xb = some (.str q.2 tb)) (hg : t.heap.Ns mainGlobals c.mg) (hb : t.heap.Ns builtinsNs c.mb) :
    wpAny c.M A (eval (.BinOp (.Call (.Name "len" p1) [.Name xa p2] [] p3) .Add (.Call (.Name "len" p4) [.Name xb p5] [] p6) p7) (genEnv gsc [] C code builtinsNs env)) (fun y s₃ => (∃ tk, y = .int (pieceLen q) tk) ∧ Keeps t s₃) E t := by
  refine wpAny_BinOp ?_
  refine wpAny_Call_NameR (g.gen hk he hg hb (callWith_builtin rfl (evalArgs_of rfl (spliced_more (gen_local hk hxa hn hva hda (spliced_none ?_))))))
  refine PySem.P.len_str (by omega) ?_
  refine wpAny_Call_NameR (g.gen hk he hg hb (callWith_builtin rfl (evalArgs_of rfl (spliced_more (gen_local hk hxb hn hvb hdb (spliced_none ?_))))))
  refine PySem.P.len_str (by omega) ?_
  refine PySem.P.add_int ?_
  exact ⟨⟨_, rfl⟩, _, _, rfl, fun _ _ e => e⟩

theorem preSum_list (ps : List (Str × Str)) : ∀ n, n ≤ ps.length → preSum (fun i => match ps[i]? with | some q => pieceLen q | none => 0) n = sumLen (ps.take n)
  | 0, _ => rfl
  | n + 1, h => by
    rw [preSum_succ, preSum_list ps n (by omega)]
    have hn : n < ps.length := by omega
    rw [List.getElem?_eq_getElem hn, List.take_add_one, List.getElem?_eq_getElem hn]
    show sumLen (ps.take n) + pieceLen ps[n] = ((ps.take n ++ [ps[n]]).map pieceLen).sum
    rw [List.map_append, List.sum_append]
    show sumLen (ps.take n) + pieceLen ps[n] = sumLen (ps.take n) + (pieceLen ps[n] + 0)
    omega

theorem fn_len {c : Cx} {n : Nat} {a : Ac} {z : Int} (D : DefGen c 67 dLen 66) (F : AccFacts c) (G : SubFacts c) (B : GenFacts c) (hsum : GlobIs c dLen.scope "sum" (.builtin "sum")) (hlen : GlobIs c (gsOf dLen) "len" (.builtin "len")) (hni : findIn c.K (.ref 100) "_initial_size" = some none) (ha : a.cls = 100) (hat : a.attrs = [(("_initial_size" : Str), PyData.int z)])
    (hsz : ∀ q ∈ a.ps, q.1.length ≤ 1000000 ∧ q.2.length ≤ 1000000) : Fn c (n + 1) 67 [.ac] (some a) (.int (z + sumLen a.ps)) (some a) := by
  obtain ⟨oc, od, osl, fd, hl, hp, hb, hs, hg, hbi, hc, hcd, hd, hkd, hcode⟩ := D.it
  refine Fn.bodyX (names := ["self"]) (full := [.ac]) hl hb hs hg hbi hc hcd (by rfl) (by rfl) (by rfl) (by decide +kernel) (fun x e => absurd rfl ((by decide +kernel : ∀ y ∈ dLen.scope.names, y.2 ≠ .free) _ (lookup_mem e))) (fun x b e => by cases e) (fun x y b e => by cases e)
    (fun Z s us O r => ?_) rfl (by decide +kernel) (fun Z A L s I => ?_)
  · have hl := r.length
    match us, hl with
    | [u], _ => cases fd; cases hp; cases hd; cases hkd; exact ⟨[u], BindsTo.of_eq rfl, r⟩
  have F' : ClsOk c a.cls "list.__getattribute__" := ha ▸ F.ok
  refine ks_wpAt_execs_cons (ks_wpAt_Return_some ?_)
  refine wpAt_of_wpAny ?_
  refine wpAny_Call_NameR (hsum.name I ?_)
  refine callWith_builtin (by rfl) ?_
  refine evalArgs_of (by rfl) ?_
  refine spliced_more ?_ (by rfl)
  refine gen_make (Z := Z) (gsc := gsOf dLen) (.inl ⟨rfl, rfl⟩) I ha F G B hcode (by decide +kernel) (fun q v => ∃ tk, v = .int (pieceLen q) tk) (fun q hq A' E' C code ta tb t m₂ hh hD hU hn hva hvb hg hb => ?_) (fun g s' fp wr k St P W hst hfp hgf hty hwr hkp => ?_)
  · exact len_elt hlen (by rfl) (by rfl) (by rfl) (by rfl) (by rfl) (hsz q hq).1 (hsz q hq).2 (by rfl) hn hva hvb hg hb
  have Pw := P.widen (I.acc a rfl).1
  have I' := I.post Pw
  refine spliced_more (Attribute_name (ev_acName (by rfl) (by rfl) (by rfl) I' fun a' e => ?_))
  cases e
  refine I'.pre.getAttr F' (by rw [ha]; exact hni) (d := .int z) (by rw [hat]; rfl) fun v r => ?_
  obtain ⟨tz, rfl⟩ := r.int_inv
  refine spliced_none ?_
  refine sum_start (s := { s' with toks := s'.toks + 1 }) (fun i => match a.ps[i]? with | some q => pieceLen q | none => 0) (WalksS.of_in1 (WalksS.of_in1 (WalksS.of_in1 W))) (W.frame 0 s' _ _ hst (Nat.le_succ _) fun _ _ _ e => e) hfp (fun i v ⟨q, hq, tk, e⟩ => ⟨tk, by rw [hq]; exact e⟩) fun s'' t' hm => ?_
  rw [preSum_list _ _ (Nat.le_refl _), List.take_length]
  have P2 : Post c Z none none s s'' := Post.moved I.pre (P.trans (.heap P.stp.old P.stp.gens (fun _ e => by cases e) fun _ _ e => e)) hm hwr
  have P3 := P2.widen (I.acc a rfl).1
  exact ⟨_, _, _, ⟨.inl rfl, rfl⟩, I.post P3, P3.toF, .int _ _⟩
end Mine
end

section
open PySem PySem.W PyProof.Rows PySem.Calls PySem.Spec
set_option Elab.async false
set_option linter.unusedVariables false
set_option maxRecDepth 100000
namespace Mine

noncomputable def pieceText (q : Str × Str) : Str := Txt.join "" [q.1, q.2]
noncomputable def allText (ps : List (Str × Str)) : Str := Txt.join "" (ps.map pieceText)
noncomputable def gsOfS (df : Df) : Scope := match df.body with
  | [.Return (some (.Call _ [.GeneratorExp _ _ gsc _] _ _)) _] => gsc
  | _ => df.scope

theorem str_elt {c : Cx} {A : Around} {E : Value → Shared → Prop} {gsc : Scope} {C : Addr} {code : Value} {env : Env} {t : Shared} {m : Str → Option Value} {q : Str × Str} {ta tb te : Tok} {xa xb es : Str} {p1 p2 p3 p4 p5 p6 : Pos} {kt : Nat} (g : GlobIs c gsc es (.str "" te)) (hk : gsc.kind = .function)
    (hxa : gsc.names.lookup xa = some .local) (hxb : gsc.names.lookup xb = some .local) (hda : (xa == ("__debug__" : Str)) = false) (hdb : (xb == ("__debug__" : Str)) = false) (h1 : q.1.length ≤ 1000000) (h2 : q.2.length ≤ 1000000)
    (hline : (p2.endLine == p6.line) = true) (hbase : attributeBase (.Name es p1) "join" (genEnv gsc [] C code builtinsNs env) (eval (.Name es p1) (genEnv gsc [] C code builtinsNs env)) = eval (.Name es p1) (genEnv gsc [] C code builtinsNs env))
    (he : env.globals = mainGlobals) (hn : t.heap.Ns C m) (hva : m xa = some (.str q.1 ta)) (hvb : m xb = some (.str q.2 tb)) (hg : t.heap.Ns mainGlobals c.mg) (hb : t.heap.Ns builtinsNs c.mb) :
    wpAny c.M A (eval (.Call (.Attribute (.Name es p1) "join" p2) [.Tuple [.Name xa p3, .Name xb p4] kt p5] [] p6) (genEnv gsc [] C code builtinsNs env)) (fun y s₃ => (∃ tk, y = .str (pieceText q) tk) ∧ Keeps t s₃) E t := by
  refine Call_method1 hbase (by rfl) hline ?_
  refine g.gen hk he hg hb ?_
  refine ⟨"str", _, F.plainAttrs_str, F.slot_str_join, F.type_str_join, typeIs_str _ _ _, (fun _ e => nomatch e), Calls.callWith_builtin rfl ?_⟩
  refine Calls.evalArgs_plain (Calls.spliced_cons (wpAny_Tuple (spliced_more (gen_local hk hxa hn hva hda (spliced_more (gen_local hk hxb hn hvb hdb (spliced_none ?_)) (by rfl))) (by rfl))))
  refine ⟨by rw [sizeLine_eq]; show 2 ≤ _; omega, Calls.spliced_nil ?_⟩
  have kp : ∀ b o, t.heap.get? b = some o → (t.heap.push { cls := .type "tuple", data := .seq [Value.str q.1 ta, Value.str q.2 tb].toArray }).get? b = some o := fun b o e => Heap.get?_push_of_some _ e
  refine PyProof.Rows.join_tuple (ys := [q.1, q.2]) ⟨_, Heap.get?_push_size _ rfl, rfl, _, rfl⟩ (.cons _ _ (.cons _ _ .nil)) ?_ fun t' k => ⟨⟨_, rfl⟩, _, _, rfl, kp⟩
  simp only [List.map_cons, List.map_nil, List.sum_cons, List.sum_nil, List.length_cons, List.length_nil]
  show q.1.length + (q.2.length + 0) + 2 * 0 ≤ _
  omega

theorem joined_items {ps : List (Str × Str)} {l : List (Str × Tok)} (h : ItemsOf (fun j y => ∃ q, ps[j]? = some q ∧ ∃ tk, y = Value.str (pieceText q) tk) (strValues l).toArray ps.length) : l.map (·.1) = ps.map pieceText := by
  obtain ⟨h1, h2⟩ := h
  have hl : l.length = ps.length := by
    have : (strValues l).length = l.length := by simp [strValues]
    rw [← this]; simpa using h1
  refine List.ext_getElem? fun j => ?_
  rw [List.getElem?_map, List.getElem?_map]
  by_cases hj : j < ps.length
  · have hjl : j < l.length := by omega
    obtain ⟨q, hq, tk, e⟩ := h2 j (.str l[j].1 l[j].2) (by simp [strValues, List.getElem?_eq_getElem hjl])
    rw [hq, List.getElem?_eq_getElem hjl]
    have e' : l[j].1 = pieceText q := (Value.str.inj e).1
    rw [Option.map_some, Option.map_some, e']
  · rw [List.getElem?_eq_none (by omega), List.getElem?_eq_none (by omega)]; rfl

theorem fn_str {c : Cx} {n : Nat} {a : Ac} {te : Tok} (D : DefGen c 74 dStr 73) (AF : AccFacts c) (G : SubFacts c) (B : GenFacts c) (hemp : GlobIs c dStr.scope "EMPTYSTRING" (.str "" te)) (hemp' : GlobIs c (gsOfS dStr) "EMPTYSTRING" (.str "" te)) (ha : a.cls = 100)
    (hlen : a.ps.length ≤ 1000) (hsz : ∀ q ∈ a.ps, q.1.length ≤ 1000000 ∧ q.2.length ≤ 1000000) (htot : ((a.ps.map pieceText).map (·.length)).sum ≤ 1000000) : Fn c (n + 1) 74 [.ac] (some a) (.str (allText a.ps)) (some a) := by
  obtain ⟨oc, od, osl, fd, hl, hp, hb, hs, hg, hbi, hc, hcd, hd, hkd, hcode⟩ := D.it
  refine Fn.bodyX (names := ["self"]) (full := [.ac]) hl hb hs hg hbi hc hcd (by rfl) (by rfl) (by rfl) (by decide +kernel) (fun x e => absurd rfl ((by decide +kernel : ∀ y ∈ dStr.scope.names, y.2 ≠ .free) _ (lookup_mem e))) (fun x b e => by cases e) (fun x y b e => by cases e)
    (fun Z s us O r => ?_) rfl (by decide +kernel) (fun Z A L s I => ?_)
  · have hl := r.length
    match us, hl with
    | [u], _ => cases fd; cases hp; cases hd; cases hkd; exact ⟨[u], BindsTo.of_eq rfl, r⟩
  refine ks_wpAt_execs_cons (ks_wpAt_Return_some ?_)
  refine wpAt_of_wpAny ?_
  refine Call_method1 (by rfl) (by rfl) (by rfl) ?_
  refine hemp.name I ?_
  refine ⟨"str", _, F.plainAttrs_str, F.slot_str_join, F.type_str_join, typeIs_str _ _ _, (fun _ e => nomatch e), Calls.callWith_builtin rfl ?_⟩
  refine Calls.evalArgs_plain (Calls.spliced_cons ?_)
  refine gen_make (Z := Z) (gsc := gsOfS dStr) (.inr ⟨rfl, rfl⟩) I ha AF G B hcode (by decide +kernel) (fun q v => ∃ tk, v = .str (pieceText q) tk) (fun q hq A' E' C code ta tb t m₂ hh hD hU hn hva hvb hg hb => ?_) (fun g s' fp wr k St P W hst hfp hgf hty hwr hkp => ?_)
  · exact str_elt hemp' (by rfl) (by rfl) (by rfl) (by rfl) (by rfl) (hsz q hq).1 (hsz q hq).2 (by rfl) (by rfl) (by rfl) hn hva hvb hg hb
  refine Calls.spliced_nil ?_
  refine SC.joinGen (WalksS.of_in1 (WalksS.of_in1 W)) hty hst hfp hgf (fun i v ⟨q, _, tk, e⟩ => ⟨_, tk, e⟩) (fun s'' l hm hit => ?_) (by rw [sizeLine_eq]; omega)
  have el := joined_items hit
  rw [el]
  refine ⟨joinOk_of ?_, fun t' k => ?_⟩
  · show _ + _ * 0 ≤ _
    omega
  have P2 : Post c Z none none s { s'' with toks := k } := (Post.moved I.pre P hm hwr).trans ⟨.toks (Post.moved I.pre P hm hwr).stp.old (Post.moved I.pre P hm hwr).stp.gens, fun _ e => (by cases e), rfl⟩
  have P3 := P2.widen (I.acc a rfl).1
  exact ⟨_, _, _, ⟨.inl rfl, rfl⟩, I.post P3, P3.toF, .str _ _⟩
end Mine
end

section
open PySem PySem.W PyProof.Rows PySem.Calls PySem.Spec
set_option Elab.async false
set_option linter.unusedVariables false
set_option maxRecDepth 100000
namespace Mine
theorem Pre.in1 {c : Cx} {Z : AP} {n : Nat} {σ : Option Ac} {A : Around} {s : Shared} (p : Pre c Z (n + 1) σ A s) : Pre c Z n σ A.in1.in1 s := by
  refine ⟨p.old, p.gens, p.zal, ⟨p.room.hd, ?_, ?_, p.room.fr⟩, p.acc⟩
  · have := p.room.dep; show A.depth + n ≤ 900; omega
  · have := p.room.uni; show A.units + 1 + 1 + 100 * n ≤ 9000; omega
theorem Pre.in1' {c : Cx} {Z : AP} {n : Nat} {σ : Option Ac} {A : Around} {s : Shared} (p : Pre c Z (n + 1) σ A s) : Pre c Z n σ A.in1 s := by
  refine ⟨p.old, p.gens, p.zal, ⟨p.room.hd, ?_, ?_, p.room.fr⟩, p.acc⟩
  · have := p.room.dep; show A.depth + n ≤ 900; omega
  · have := p.room.uni; show A.units + 1 + 100 * n ≤ 9000; omega

section
variable {c : Cx} {n : Nat} {a : Ac} {f : Addr}
theorem BfR.lenAc {m : Int} (ha : a.cls = 100) (hf : findIn c.K (.ref 100) "__len__" = some (some (.ref f))) (ht : typeIn c.K (.ref f) = some (.type "function")) (h : Fn c n f [.ac] (some a) (.int m) (some a)) (h0 : 0 ≤ m) (h1 : m < 2 ^ 63) : BfR c (n + 1) (.builtin "len") [.ac] (some a) (.int m) (some a) := fun Z A s us p r => by
  cases r with
  | cons r1 r =>
  cases r
  obtain ⟨_, e, rfl⟩ := r1
  cases e
  obtain ⟨ox, es, k, I, hdx, es_⟩ := (p.acc a rfl).inst
  refine Calls.call_function_entry kind_len plain_len entry_len (args_len1 _) ?_
  unfold Builtin.«len»
  refine wpAny_bind (m := oneArg "len" _) (wpAny_pure ?_)
  refine wpAny_bind (m := callSpecial? (.ref a.addr) (Str.ofString "__len__")) (special_fn p.old.kin I (by rw [ha]; exact hf) ht (h.call p.in1' (.cons ⟨a, rfl, rfl⟩ .nil) fun v s' P rv => ?_))
  obtain ⟨u, rfl⟩ := rv.int_inv
  refine wpAny_bind (wpAny_holding (wpAny_pure ?_))
  refine wpAny_bind (wpAny_letGo ?_)
  show wpAny _ _ (if m < 0 then _ else _) _ _ _
  rw [if_neg (by omega)]
  show wpAny _ _ (if m ≥ 2 ^ 63 then _ else _) _ _ _
  rw [if_neg (by omega)]
  exact wpAny_bind (wpAny_mkInt (wpAny_pure ⟨_, rfl, P.trans (p.post P).toks, .int _ _⟩))

theorem BfR.strAc {x : Str} (ha : a.cls = 100) (hf : findIn c.K (.ref 100) "__str__" = some (some (.ref f))) (ht : isFn c.K (.ref f) = true) (h : Fn c n f [.ac] (some a) (.str x) (some a)) : BfR c (n + 1) (.type "str") [.ac] (some a) (.str x) (some a) := fun Z A s us p r => by
  cases r with
  | cons r1 r =>
  cases r
  obtain ⟨_, e, rfl⟩ := r1
  cases e
  obtain ⟨ox, es, k, I, hdx, es_⟩ := (p.acc a rfl).inst
  refine kso_call (by have := p.room.uni; show A.units + 1 + 1 < 9900; omega) p.old.kin I (by rw [ha]; exact hf) ht ?_
  refine h.call p.in1 (.cons ⟨a, rfl, rfl⟩ .nil) fun v s' P rv => ?_
  obtain ⟨u, rfl⟩ := rv.str_inv
  exact ⟨P, .str _ _⟩
end
end Mine
end

section
open PySem PySem.W PyProof.Rows PySem.Calls PySem.Spec
set_option Elab.async false
set_option linter.unusedVariables false
set_option maxRecDepth 100000
namespace Mine

/-! ## an accumulator for the rest of a block -/
theorem PostM.forget {c : Cx} {all : Bool} {env : Env} {σ' : Option Ac} {a : Ac} {s s₁ s' : Shared} (k : ∀ b o, s.heap.get? b = some o → s₁.heap.get? b = some o) (ho : s₁.os = s.os) (h1 : s.heap.get? a.addr = none) (h2 : s.heap.get? a.dict = none) (P : PostM c all env (some a) σ' s₁ s') : PostM c all env none none s s' :=
  ⟨⟨fun b o e nb => P.stp.kp b o (k b o e) (fun q => nb (by
      rcases q with q | q | q | q | ⟨a', ea, q⟩
      · exact .inl q
      · exact .inr (.inl q)
      · exact .inr (.inr (.inl q))
      · exact .inr (.inr (.inr (.inl q)))
      · cases ea
        rcases q with rfl | rfl
        · rw [h1] at e; cases e
        · rw [h2] at e; cases e)), fun b o e hc => P.stp.dat b o (k b o e) hc, fun b o e => P.stp.al b o (k b o e), P.stp.old, P.stp.gens, P.stp.os.trans ho⟩, rfl⟩

noncomputable def NoAc (ρ : Loc) : Prop := ∀ x, ρ.lookup x ≠ some .ac
theorem NoAc.nil : NoAc [] := fun x e => by cases e
theorem NoAc.cons {x : Str} {d : PyData} {ρ : Loc} (h : NoAc ρ) : NoAc ((x, .d d) :: ρ) := fun y e => by
  rw [lookup_upd] at e
  split at e
  · cases e
  · exact h y e
theorem In.forget {c : Cx} {Z : AP} {n : Nat} {sc : Scope} {ρ ρ' : Loc} {σ : Option Ac} {A : Around} {env : Env} {s : Shared} (I : In c Z n sc ρ σ A env s) (hs : Sub ρ' ρ) (hn : NoAc ρ') : In c Z n sc ρ' none A env s :=
  { I with acc := fun _ e => by cases e
           loc := by
            obtain ⟨m, h, hr⟩ := I.loc
            refine ⟨m, h, fun x v e => ?_⟩
            obtain ⟨u, r, b⟩ := hr x v (hs.look x v e)
            cases v with
            | d y => exact ⟨u, r, b⟩
            | ac => exact absurd e (hn x) }
theorem In.take {c : Cx} {Z : AP} {n : Nat} {sc : Scope} {ρ : Loc} {a : Ac} {A : Around} {env : Env} {s : Shared} (I : In c Z n sc ρ none A env s) (ha : AccAt Z s.heap a) (hd : a.dict ≠ env.locals) : In c Z n sc ρ (some a) A env s :=
  { I with acc := fun _ e => by cases e; exact ⟨ha, hd⟩
           loc := by
            obtain ⟨m, h, hr⟩ := I.loc
            refine ⟨m, h, fun x v e => ?_⟩
            obtain ⟨u, r, b⟩ := hr x v e
            cases v with
            | d y => exact ⟨u, r, b⟩
            | ac => obtain ⟨a', e', _⟩ := r; cases e' }
/-- nothing of an accumulator is in the frame's names -/
theorem In.noAc {c : Cx} {Z : AP} {n : Nat} {sc : Scope} {ρ : Loc} {A : Around} {env : Env} {s : Shared} (I : In c Z n sc ρ none A env s) : NoAc ρ := fun x e => by
  obtain ⟨m, h, hr⟩ := I.loc
  obtain ⟨u, ⟨a', e', _⟩, b⟩ := hr x _ e
  cases e'

theorem Ss.makeAc {c : Cx} {n : Nat} {sc : Scope} {ρ : Loc} {x f : Str} {xp fp cp spos : Pos} {e : Expr} {d : PyData} {rest : List Stmt} {Q : QT} (hx : Sto sc x) (g : GlobIs c sc f (.ref 100)) (F : AccFacts c) (he : E1 c (n + 1) sc ρ none e d)
    (h38 : ∀ a : Ac, a.cls = 100 → a.ps = [] → a.attrs = [] → Fn c n 38 [.ac, .d d] (some a) .none (some { a with attrs := [("_initial_size", d)] }))
    (hrest : ∀ a : Ac, a.cls = 100 → a.ps = [] → a.attrs = [(("_initial_size" : Str), d)] → Ss c (n + 1) sc ((x, .ac) :: ρ) (some a) rest (fun o ρ₁ σ₁ => ∃ ρ₂, NoAc ρ₂ ∧ Sub ρ₂ ρ₁ ∧ Q o ρ₂ none))
    (h1 : ∀ env, starEach [e] env = (false, eval e env) :: starEach [] env := by intro _; rfl) (hs : ∀ env, swapsWith (.Call (.Name f fp) [e] [] cp) (some (.Name x xp)) spos.line env = pure false := by intro _; rfl) :
    Ss c (n + 1) sc ρ none (.Assign [.Name x xp] (.Call (.Name f fp) [e] [] cp) spos :: rest) Q := fun Z A env s I => by
  have a1 : Args c (n + 1) sc ρ none [e] [.d d] := .cons (.of he) .nil h1
  refine wpAny_execs_cons (wpAny_Assign_Name ?_ (hs env))
  refine wpAny_Call_NameR (g.name I (callWith_of (P := fun h => c.K.In h) (by rw [a1.1 env cp]; rfl) (keeps_K F.clsK) (evalArgs_of (a1.1 env cp) ?_)))
  refine a1.2 Z A env s cp I _ _ fun us s₁ P₁ I₁ r₁ => ⟨I₁.old.kin, ?_⟩
  have hu : ∃ u, us = [u] ∧ Rp Z s₁.heap u d := by
    cases r₁ with
    | cons x y => cases y; exact ⟨_, rfl, x⟩
  obtain ⟨u, rfl, ru⟩ := hu
  refine wpAny_call ?_
  obtain ⟨h, gg, dr, t, os⟩ := s₁
  have X : c.K.In h := I₁.old.kin
  refine make_acc F X ?_
  have hbig : 235 ≤ h.objs.size := I₁.old.new (Nat.le_refl _)
  let a : Ac := { addr := h.objs.size + 1, dict := h.objs.size, cls := 100, attrs := [], new := ⟨Nat.le_succ_of_le hbig, hbig, Nat.succ_ne_self _⟩, ps := [] }
  have kp : ∀ b o, h.get? b = some o → ((h.push emptyDict).push (accObj h.objs.size)).get? b = some o := fun b o e => Heap.get?_push_of_some _ (Heap.get?_push_of_some _ e)
  have P₂ : Post c Z none none ⟨h, gg, dr, t, os⟩ ⟨(h.push emptyDict).push (accObj h.objs.size), gg, dr, t, os⟩ := I₁.pre.heap (tk := t) kp
  have hat : AccAt Z ((h.push emptyDict).push (accObj h.objs.size)) a := by
    refine ⟨.seq #[] 0, [], 0, ?_, ?_, .inl ⟨rfl, _, _, rfl, .nil⟩, .nil⟩
    · exact Heap.get?_push_at (by rw [Heap.size_push]) rfl
    · exact Heap.get?_push_of_some _ (Heap.get?_push_size _ rfl)
  have hdl : a.dict ≠ env.locals := fun q => by
    obtain ⟨m, o, _, _, e', _⟩ := I₁.ns
    have q' : h.objs.size = env.locals := q
    rw [← q'] at e'
    have : h.get? h.objs.size = none := none_of (Nat.le_refl _)
    rw [this] at e'; cases e'
  have Ia := (I₁.post P₂).take hat hdl
  have r₂ : RVs Z ((h.push emptyDict).push (accObj h.objs.size)) (some a) (.ref (h.objs.size + 1) :: [u]) [.ac, .d d] := .cons ⟨a, rfl, rfl⟩ (.cons (ru.step P₂.stp.dat) .nil)
  refine codeAny_mono (h38 a rfl rfl rfl Z _ _ _ (Ia.pre.under 100 [u]) r₂) fun r s₃ ⟨v, e, P₃, rv⟩ => ?_
  subst e
  cases rv
  refine ⟨rfl, ?_⟩
  have I₃ := Ia.post P₃
  refine I₃.store (all := true) hx (v := .ac) ⟨_, rfl, rfl⟩ fun s₄ I₄ M₄ => ?_
  refine wp_mono (hrest { a with attrs := [(("_initial_size" : Str), d)] } rfl rfl rfl Z A env s₄ I₄) fun fl s₅ ⟨o, ρ', σ', ⟨ρ₂, hn, hsub, hq⟩, I₅, M₅, Fl⟩ => ?_
  have M : PostM c true env (some a) σ' ⟨(h.push emptyDict).push (accObj h.objs.size), gg, dr, t, os⟩ s₅ := (P₃.toF.trans M₄).trans M₅
  exact ⟨o, ρ₂, none, hq, I₅.forget hsub hn, P₁.toF.trans (PostM.forget (s := ⟨h, gg, dr, t, os⟩) (s₁ := ⟨(h.push emptyDict).push (accObj h.objs.size), gg, dr, t, os⟩) (a := a) kp rfl (none_of (Nat.le_succ _)) (none_of (Nat.le_refl _)) M), Fl⟩
end Mine
end

section
open PySem PySem.W PyProof.Rows PySem.Calls PySem.Spec
set_option Elab.async false
set_option linter.unusedVariables false
set_option maxRecDepth 100000
namespace Mine

/-! ## builtins over a list of ints -/
theorem ints_are {Z : AP} {h : Heap} : ∀ {vs : List Value} {ns : List Int}, Rps Z h vs (ns.map .int) → IntsAre vs ns
  | [], [], _ => .nil
  | v :: vs, n :: ns, r => by
    cases r with
    | cons a b =>
      obtain ⟨t, rfl⟩ := a.int_inv
      exact .cons _ _ (ints_are b)
theorem are_ints {Z : AP} {h : Heap} : ∀ {vs : List Value} {ns : List Int}, IntsAre vs ns → Rps Z h vs (ns.map .int)
  | _, _, .nil => .nil
  | _, _, .cons _ _ r => .cons (.int _ _) (are_ints r)

section
variable {c : Cx} {n : Nat} {σ : Option Ac}
theorem BfR.sumL {ns : List Int} : BfR c n (.builtin "sum") [.d (.list (ns.map .int))] σ (.int ns.sum) σ := fun Z A s us p r => by
  cases r with
  | cons a r =>
  cases r
  obtain ⟨l, vs, rfl, z, il, rs⟩ := Rp.list_inv a
  have hi := ints_are rs
  obtain ⟨xs, hx⟩ := hi.allInts.items
  have hl' : s.heap.IsList l (intItems xs) := hx ▸ il
  refine sum_intListG p.room.hd hl' fun h' tk t' hk => ?_
  have e1 : ns = xs.toList.map (·.1) := by
    rw [← nums_intItems, ← hx]
    exact (show numsOf vs.toArray.toList = ns from hi.numsOf).symm
  have e2 : preSum (numAt xs) xs.size = ns.sum := by
    rw [preSum_eq, List.take_of_length_le (by simp), e1]
  rw [e2]
  exact ⟨p.heap hk, .int _ _⟩

theorem best_lt {ns : List Int} {M : Int} (h1 : M ∈ ns) (h2 : ∀ a ∈ ns, M ≤ a) : ns.min? = some M := by
  rw [List.min?_eq_some_iff]
  exact ⟨h1, fun b hb => h2 b hb⟩
theorem best_gt {ns : List Int} {M : Int} (h1 : M ∈ ns) (h2 : ∀ a ∈ ns, a ≤ M) : ns.max? = some M := by
  rw [List.max?_eq_some_iff]
  exact ⟨h1, fun b hb => h2 b hb⟩

theorem BfR.minL {ns : List Int} {M : Int} (hM : ns.min? = some M) : BfR c n (.builtin "min") [.d (.list (ns.map .int))] σ (.int M) σ := fun Z A s us p r => by
  cases r with
  | cons a r =>
  cases r
  obtain ⟨l, vs, rfl, z, il, rs⟩ := Rp.list_inv a
  have hi := ints_are rs
  have hne : 0 < ns.length := by
    cases ns with
    | nil => cases hM
    | cons => exact Nat.succ_pos _
  obtain ⟨xs, e⟩ := hi.allInts.items
  have hns : ns = xs.toList.map (·.1) := by rw [← hi.numsOf, ← nums_intItems, ← e]
  have hsz : 0 < xs.size := by
    have h3 := hne; rw [hns, List.length_map, Array.length_toList] at h3; exact h3
  rw [e] at il
  refine min_intList p.room.hd il hsz fun v h' tk hv hk => ?_
  obtain ⟨t, rfl⟩ := intItems_at hv
  obtain ⟨h1, h2⟩ := argBest_lt (numAt xs) (xs.size - 1)
  have hm : ns.min? = some (numAt xs (argBest (fun i j => decide (numAt xs i < numAt xs j)) (xs.size - 1))) := by
    refine best_lt ?_ fun a ha => ?_
    · rw [hns, numAt_eq]; exact getD_mem (by rw [List.length_map, Array.length_toList]; omega)
    · rw [hns] at ha
      obtain ⟨i, hi', rfl⟩ := List.getElem_of_mem ha
      have hi'' : i < xs.size := by simpa using hi'
      have := h2 i (by omega)
      rw [show (xs.toList.map (·.1))[i] = numAt xs i by rw [numAt_eq]; simp [List.getD, hi'']]
      exact this
  rw [hM] at hm
  cases hm
  exact ⟨p.heap hk, .int _ _⟩

theorem BfR.maxL {ns : List Int} {M : Int} (hM : ns.max? = some M) : BfR c n (.builtin "max") [.d (.list (ns.map .int))] σ (.int M) σ := fun Z A s us p r => by
  cases r with
  | cons a r =>
  cases r
  obtain ⟨l, vs, rfl, z, il, rs⟩ := Rp.list_inv a
  have hi := ints_are rs
  have hne : 0 < ns.length := by
    cases ns with
    | nil => cases hM
    | cons => exact Nat.succ_pos _
  obtain ⟨xs, e⟩ := hi.allInts.items
  have hns : ns = xs.toList.map (·.1) := by rw [← hi.numsOf, ← nums_intItems, ← e]
  have hsz : 0 < xs.size := by
    have h3 := hne; rw [hns, List.length_map, Array.length_toList] at h3; exact h3
  rw [e] at il
  refine max_intList p.room.hd il hsz fun v h' tk hv hk => ?_
  obtain ⟨t, rfl⟩ := intItems_at hv
  obtain ⟨h1, h2⟩ := argBest_gt (numAt xs) (xs.size - 1)
  have hm : ns.max? = some (numAt xs (argBest (fun i j => decide (numAt xs i > numAt xs j)) (xs.size - 1))) := by
    refine best_gt ?_ fun a ha => ?_
    · rw [hns, numAt_eq]; exact getD_mem (by rw [List.length_map, Array.length_toList]; omega)
    · rw [hns] at ha
      obtain ⟨i, hi', rfl⟩ := List.getElem_of_mem ha
      have hi'' : i < xs.size := by simpa using hi'
      have := h2 i (by omega)
      rw [show (xs.toList.map (·.1))[i] = numAt xs i by rw [numAt_eq]; simp [List.getD, hi'']]
      exact this
  rw [hM] at hm
  cases hm
  exact ⟨p.heap hk, .int _ _⟩

theorem BfR.sortedL {ns ns' : List Int} (hp : ns'.Perm ns) (ho : ns'.Pairwise (· ≤ ·)) (h64 : ns.length < 64) : BfR c n (.builtin "sorted") [.d (.list (ns.map .int))] σ (.list (ns'.map .int)) σ := fun Z A s us p r => by
  cases r with
  | cons a r =>
  cases r
  obtain ⟨l, vs, rfl, z, il, rs⟩ := Rp.list_inv a
  have hl := rs.length
  rw [List.length_map] at hl
  refine sorted_ints il (ints_are rs) (by omega) fun out ns₂ a1 a2 a3 => ?_
  obtain ⟨e, he⟩ := sortedAll_at s.heap vs out
  have kp : ∀ b o, s.heap.get? b = some o → (sortedAll s.heap vs out).get? b = some o := fun b o => sortedAll_old
  have eq : ns₂ = ns' := List.Perm.eq_of_pairwise (fun a b _ _ h1 h2 => Int.le_antisymm h1 h2) a3 ho (a2.trans hp.symm)
  subst eq
  refine ⟨p.heap kp, .list ?_ he rfl rfl rfl (are_ints a1)⟩
  intro zz
  obtain ⟨o, eo⟩ := p.zal _ zz
  have : s.heap.get? (s.heap.objs.size + 1) = none := none_of (Nat.le_succ _)
  rw [this] at eo; cases eo
end
end Mine
end

section
open PySem PySem.W PyProof.Rows PySem.Calls PySem.Spec
set_option Elab.async false
set_option linter.unusedVariables false
set_option maxRecDepth 100000
namespace Mine

/-! ## membership and index -/
noncomputable def isTxt (k : Str) : Value → Bool
  | .str i _ => i == k
  | _ => false
theorem txt_any {Z : AP} {h : Heap} (k : Str) : ∀ {vs : List Value} {ns : List Str}, Rps Z h vs (ns.map .str) → vs.any (isTxt k) = ns.any (· == k)
  | [], [], _ => rfl
  | v :: vs, n :: ns, r => by
    cases r with
    | cons a b =>
      obtain ⟨t, rfl⟩ := a.str_inv
      simp only [List.any_cons, isTxt, txt_any k b]
theorem txt_eq {Z : AP} {h : Heap} {k : Str} {t : Tok} : ∀ {vs : List Value} {ns : List Str}, Rps Z h vs (ns.map .str) → ∀ y ∈ vs, MeetsSeq.EqGives y (.str k t) (isTxt k y)
  | [], _, _, _, hy => nomatch hy
  | v :: vs, [], r, _, _ => by cases r
  | v :: vs, n :: ns, r, y, hy => by
    cases r with
    | cons a b =>
      obtain ⟨u, rfl⟩ := a.str_inv
      rcases List.mem_cons.mp hy with rfl | hy
      · show MeetsSeq.EqGives _ _ (n == k)
        rw [← PySem.SeqAt.str_beq]
        exact SeqRoads2.EqGives.str n k u t
      · exact txt_eq b y hy
section
variable {c : Cx} {n : Nat} {σ : Option Ac}
theorem CmpR.notInS {x : Str} {xs : List Str} : CmpR c .NotIn (.str x) (.list (xs.map .str)) (!xs.any (· == x)) := fun Z n σ A s u v p ra rb => by
  obtain ⟨t, rfl⟩ := ra.str_inv
  obtain ⟨l, vs, rfl, z, il, rs⟩ := rb.list_inv
  refine SeqInW.notIn_listW (isTxt x) (fun y hy => txt_eq rs y (by simpa using hy)) il ?_
  have e : vs.toArray.any (isTxt x) = xs.any (· == x) := by rw [← txt_any x rs]; simp
  rw [e]
  exact ⟨p.same, rfl⟩

theorem idx_of {Z : AP} {h : Heap} {k : Int} : ∀ {vs : List Value} {ns : List Int}, Rps Z h vs (ns.map .int) → ∀ i (hi : i < vs.length), isInt k vs[i] = (ns[i]? == some k)
  | [], _, _, _, hi => absurd hi (Nat.not_lt_zero _)
  | v :: vs, [], r, _, _ => by cases r
  | v :: vs, n :: ns, r, i, hi => by
    cases r with
    | cons a b =>
      obtain ⟨u, rfl⟩ := a.int_inv
      cases i with
      | zero => simp [isInt]
      | succ i => simpa using idx_of b i (by simpa using hi)

theorem int_eq {Z : AP} {h : Heap} {k : Int} {t : Tok} : ∀ {vs : List Value} {ns : List Int}, Rps Z h vs (ns.map .int) → ∀ y ∈ vs, MeetsSeq.EqGives y (.int k t) (isInt k y)
  | [], _, _, _, hy => nomatch hy
  | v :: vs, [], r, _, _ => by cases r
  | v :: vs, n :: ns, r, y, hy => by
    cases r with
    | cons a b =>
      obtain ⟨u, rfl⟩ := a.int_inv
      rcases List.mem_cons.mp hy with rfl | hy
      · exact MeetsSeq.EqGives.int n k u t
      · exact int_eq b y hy

theorem Ev.index {ρ : Loc} {sc : Scope} {o e : Expr} {apos pos : Pos} {ns : List Int} {k : Int} {j : Nat} (ho : E1 c n sc ρ σ o (.list (ns.map .int))) (he : E1 c n sc ρ σ e (.int k)) (hlen : ns.length ≤ 1000000) (hj : ns[j]? = some k) (hno : ∀ i < j, ns[i]? ≠ some k)
    (hbase : ∀ env, attributeBase o "index" env (eval o env) = eval o env := by intro _; rfl) (hs : ∀ env, starEach [e] env = [(false, eval e env)] := by intro _; rfl) (hline : (apos.endLine == pos.line) = true := by rfl) :
    E1 c n sc ρ σ (.Call (.Attribute o "index" apos) [e] [] pos) (.int (j : Int)) := fun Z A env s I => by
  refine Call_method1 (hbase env) (hs env) hline (wp_mono (ho Z A env s I) fun ov s₁ ⟨P, r⟩ => ?_)
  obtain ⟨l, vs, ol, nl, rfl, z, hol, hcl, hdl, hnl, rs⟩ := r.list_full
  refine ⟨"list", _, F.plainAttrs_list, F.slot_list_index, F.type_list_index, ⟨ol, hol, hcl⟩, (fun a e => by cases e; exact ⟨ol, hol, hnl⟩), Calls.callWith_builtin rfl ?_⟩
  refine Calls.evalArgs_plain (Calls.spliced_cons (wp_mono (he Z A env s₁ (I.post P)) fun kv s₂ ⟨P₂, rk⟩ => Calls.spliced_nil ?_))
  obtain ⟨t, rfl⟩ := rk.int_inv
  have hol₂ : s₂.heap.get? l = some ol := P₂.stp.dat l ol hol ⟨⟨_, _, hdl⟩, .inl hcl⟩
  have hlen2 : vs.size = ns.length := by have := rs.length; simpa using this
  have hjl : j < ns.length := by
    by_cases q : j < ns.length
    · exact q
    · rw [List.getElem?_eq_none (by omega)] at hj; cases hj
  obtain ⟨oc, od, odt, osl⟩ := ol
  simp only at hcl hdl
  subst hcl hdl
  have hat : ∀ i (hi : i < vs.size), isInt k vs[i] = (ns[i]? == some k) := fun i hi => idx_of (k := k) rs i (by simpa using hi)
  refine call_meets F.slot_list_index ⟨_, hol₂, rfl⟩ F.entry_list_index (F.args_list_index_2 _ _) (PySem.SeqAt.list_indexAt l vs nl od osl (.int k t) (isInt k) j (by omega) (by omega) (by rw [hat, hj]; simp) (fun m hm hlt => by rw [hat]; simpa using hno m hlt)) ⟨hol₂, fun y hy => ?_, ?_⟩
  · have hy' : y ∈ vs.toList := by simpa using hy
    exact (int_eq rs y hy').at _ _
  · exact ⟨(P.trans P₂).trans (I.post P |>.post P₂).toks, .int _ _⟩
end
end Mine
end

section
open PySem PySem.W PyProof.Rows PySem.Calls PySem.Spec
set_option Elab.async false
set_option linter.unusedVariables false
set_option maxRecDepth 100000
namespace Mine
section
variable {c : Cx} {n : Nat} {sc : Scope} {ρ : Loc} {σ : Option Ac}
theorem Src.range1 {f : Str} {p pos : Pos} {r : Expr} {b : Nat} (g : GlobIs c sc f (.type "range")) (hr : E1 c n sc ρ σ r (.int (b : Int))) (h2 : b ≤ 1000000) (hb : ∀ env, starEach [r] env = (false, eval r env) :: starEach [] env := by intro _; rfl) :
    Src c n sc ρ σ (.Call (.Name f p) [r] [] pos) (rngD 0 b) := fun Z A env s Q E I k => by
  have ha : Args c n sc ρ σ [r] [.d (.int (b : Int))] := .cons (.of hr) .nil hb
  refine wpAny_Call_NameR (g.name I (PyProof.Rows.callWith_type (ha.1 env pos) (evalArgs_of (ha.1 env pos) ?_)))
  refine ha.2 Z A env s pos I _ _ fun us s' P I' r => ?_
  cases r with
  | cons r2 r =>
  cases r
  obtain ⟨t', rfl⟩ := Rp.int_inv r2
  refine call_range_1 ?_
  refine wpAny_pyIter_range (a := 0) (b := (b : Int)) (IsRange.new ..) (small_one (by omega) (by omega) (by omega) (by omega)) ?_
  have P₁ := P.push { cls := .type "range", data := .fields #[.int 0 s'.toks, .int b t', .int 1 (s'.toks + 1)] } (tk := s'.toks + 1 + 1)
  dsimp only
  generalize s'.heap.push { cls := .type "range", data := .fields #[.int 0 s'.toks, .int b t', .int 1 (s'.toks + 1)] } = h1 at P₁ ⊢
  have hI : h1.get? h1.objs.size = none := none_of (Nat.le_refl _)
  have e2 : Builtin.Range.rangeSize (0 : Int) (b : Int) 1 = ((b : Nat) : Int) := by rw [rangeSize_one]; split <;> omega
  refine k h1.objs.size [h1.objs.size] (StR h1.objs.size) { s' with heap := h1.push { cls := .type "range_iterator", data := .fields #[rawInt 0, rawInt (Builtin.Range.rangeSize 0 b 1), rawInt 1] }, toks := s'.toks + 1 + 1 } iter_range ⟨(0 : Int), b, ?_, rfl⟩ (P₁.push _) (fun a' ea m => ?_) (P₁.stp.fresh hI) (P₁.stp.old.new (Nat.le_refl _))
  · dsimp only; rw [e2]
    exact Heap.get?_push_size _ rfl
  · exact acc_old (P₁.acc a' ea) hI (List.mem_singleton.mp m)
end
end Mine
end

section
open PySem PySem.W PyProof.Rows PySem.Calls PySem.Spec
set_option Elab.async false
set_option linter.unusedVariables false
set_option maxRecDepth 100000
namespace Mine

/-! ## sorted, of a few pairs of ints -/
noncomputable def runK {α : Type} (lt : Nat → Nat → Bool) : KasT α → α
  | .ret a => a
  | .ask i j k => runK lt (k (lt i j))
noncomputable def okK {α : Type} (n : Nat) (lt : Nat → Nat → Bool) : KasT α → Bool
  | .ret _ => true
  | .ask i j k => decide (i < n) && decide (j < n) && okK n lt (k (lt i j))
theorem kas_of_run {α : Type} {n : Nat} {lt : Nat → Nat → Bool} {cmp : Nat → Nat → (Bool → Shared → Prop) → Shared → Prop} {s : Shared} (hc : ∀ i j, i < n → j < n → ∀ C : Bool → Shared → Prop, C (lt i j) s → cmp i j C s) {Q : α → Shared → Prop} :
    ∀ (t : KasT α), okK n lt t = true → Q (runK lt t) s → t.kasWp cmp Q s
  | .ret a, _, h => h
  | .ask i j k, ok, h => by
    simp only [okK, Bool.and_eq_true, decide_eq_true_eq] at ok
    exact hc i j ok.1.1 ok.1.2 _ (kas_of_run hc (k (lt i j)) ok.2 h)

noncomputable def PairAt (h : Heap) (v : Value) (p : Int × Int) : Prop := ∃ a o n tx ty, v = .ref a ∧ h.get? a = some o ∧ o.cls = .type "tuple" ∧ o.data = .seq #[.int p.1 tx, .int p.2 ty] n
noncomputable def pairLt (p q : Int × Int) : Bool := if p.1 = q.1 then decide (p.2 < q.2) else decide (p.1 < q.1)

section
variable {prog : Program} {w : World} {A : Around} {s : Shared}
theorem pair_ask {vs : List Value} {i j : Nat} {p q : Int × Int} (hp : PairAt s.heap (vs.getD i Value.none) p) (hq : PairAt s.heap (vs.getD j Value.none) q) {C : Bool → Shared → Prop} (h : C (pairLt p q) s) :
    kas_ask prog w A (tuples' true) vs i j C s := by
  obtain ⟨a, o, n, tx, ty, e1, e2, e3, e4⟩ := hp
  obtain ⟨a', o', n', tx', ty', f1, f2, f3, f4⟩ := hq
  unfold kas_ask
  rw [e1, f1]
  refine kat_lt e2 e4 f2 f4 ?_
  refine kat_cons (wpAny_eqBool_int ?_)
  unfold pairLt at h
  by_cases hx : p.1 = q.1
  · rw [if_pos hx] at h
    have : (p.1 == q.1) = true := by simp [hx]
    rw [this]
    refine kat_yes (kat_cons (wpAny_eqBool_int ?_))
    by_cases hy : p.2 = q.2
    · have e : (p.2 == q.2) = true := by simp [hy]
      rw [e]
      refine kat_yes (kat_nil ?_)
      have : decide (p.2 < q.2) = false := by simp [hy]
      rw [this] at h
      exact h
    · have e : (p.2 == q.2) = false := by simp [hy]
      rw [e]
      refine kat_no (kat_one _ _ ?_)
      exact PySem.P.lt_int h
  · rw [if_neg hx] at h
    have : (p.1 == q.1) = false := by simp [hx]
    rw [this]
    exact kat_no (oneLt_int h)
end
end Mine
end

section
open PySem PySem.W PyProof.Rows PySem.Calls PySem.Spec
set_option Elab.async false
set_option linter.unusedVariables false
set_option maxRecDepth 100000
namespace Mine
section
variable {prog : Program} {w : World} {A : Around} {E : Value → Shared → Prop} {s : Shared}

/-- what the keep of a sort is -/
theorem srt_list {a : Addr} {vs : List Value} {ks : List (Int × Int)} {n : Nat} {P : PySem.Fin → Shared → Prop} (ho : s.heap.get? a = some (seqObj "list" vs.toArray n)) (hlen : ks.length = vs.length) (h2 : 2 ≤ vs.length) (h64 : vs.length < 64)
    (hp : ∀ i (hi : i < vs.length), PairAt s.heap (vs.getD i Value.none) (ks.getD i (0, 0)))
    (hok : okK vs.length (fun i j => pairLt (ks.getD i (0, 0)) (ks.getD j (0, 0))) (kas_sort vs.length) = true)
    (h : ∀ h' c, (∀ b o, b ≠ a → s.heap.get? b = some o → h'.get? b = some o) → h'.get? a = some (seqObj "list" (List.toArray ((runK (fun i j => pairLt (ks.getD i (0, 0)) (ks.getD j (0, 0))) (kas_sort vs.length)).toList.map fun i => vs.getD i Value.none)) c) →
      P (.done (.ret .none)) { s with heap := h' }) :
    wpAny (model prog w) A (Builtin.«list.sort» ⟨[.ref a], []⟩) P E s := by
  have ha : a < s.heap.objs.size := Heap.lt_size ho
  have s1 := Heap.SameBut.update s.heap a (Obj.mapSeq fun _ => (#[] : Array Value))
  obtain ⟨e1, ho1⟩ : ∃ e1, (s.heap.update a (Obj.mapSeq fun _ => (#[] : Array Value))).get? a = some (seqObj "list" #[] e1) := ⟨_, get?_update_seq ho fun _ => #[]⟩
  have na : (((s.heap.update a (Obj.mapSeq fun _ => (#[] : Array Value))).push (seqObj "tuple" vs.toArray 0)).push (seqObj "list" #[] 0)).get? a = some (seqObj "list" #[] e1) := Heap.get?_push_of_some _ (Heap.get?_push_of_some _ ho1)
  have k3 : ∀ b o, b ≠ a → s.heap.get? b = some o → (((s.heap.update a (Obj.mapSeq fun _ => (#[] : Array Value))).push (seqObj "tuple" vs.toArray 0)).push (seqObj "list" #[] 0)).get? b = some o := fun b o hb e => Heap.get?_push_of_some _ (Heap.get?_push_of_some _ ((s1.2 b hb).trans e))
  rw [list_sort_plain]
  refine wpAny_bind (listItems_at ho rfl ?_)
  refine wpAny_bind (listUpdate_at ho rfl ?_ (by rw [List.size_toArray, sizeLine_eq]; omega) (Nat.zero_le _))
  refine wpAny_bind (seqEpoch_at ho1 rfl ?_)
  refine wpAny_bind (wpAny_newTuple ?_ (by show vs.length ≤ _; rw [sizeLine_eq]; omega))
  refine wpAny_bind (wpAny_newList ?_ (Nat.zero_le _))
  refine wpAny_holding ?_
  show wpAny (model prog w) A _ P E { s with heap := ((s.heap.update a (Obj.mapSeq fun _ => (#[] : Array Value))).push (seqObj "tuple" vs.toArray 0)).push (seqObj "list" #[] 0) }
  generalize ((s.heap.update a (Obj.mapSeq fun _ => (#[] : Array Value))).push (seqObj "tuple" vs.toArray 0)).push (seqObj "list" #[] 0) = H at na k3 ⊢
  have hpH : ∀ i (hi : i < vs.length), PairAt H (vs.getD i Value.none) (ks.getD i (0, 0)) := fun i hi => by
    obtain ⟨b, o, m, tx, ty, q1, q2, q3, q4⟩ := hp i hi
    refine ⟨b, o, m, tx, ty, q1, k3 _ _ (fun q => ?_) q2, q3, q4⟩
    rw [q, ho] at q2; cases q2; simp at q3
  dsimp only
  have hn2 : ¬ vs.toArray.size < 2 := by rw [List.size_toArray]; omega
  rw [if_neg hn2, if_neg hn2]
  have hkk : ∀ {Q : SortKind → Shared → Prop}, Q (tuples' true) { s with heap := H } → wpAny (model prog w) A (keyKind' vs.toArray) Q E { s with heap := H } := fun {Q} hq => by
    have ht : ∃ fs, KatTups H vs fs ∧ fs.length = vs.length ∧ ∀ v ∈ fs, ∃ x t, v = Value.int x t := by
      clear hok h hn2 h2 h64 ho na k3 hlen
      have : ∀ (us : List Value) (kk : List (Int × Int)), (∀ i (hi : i < us.length), PairAt H (us.getD i Value.none) (kk.getD i (0, 0))) → ∃ fs, KatTups H us fs ∧ fs.length = us.length ∧ ∀ v ∈ fs, ∃ x t, v = Value.int x t := by
        intro us
        induction us with
        | nil => intro kk _; exact ⟨[], .nil, rfl, fun v hv => by cases hv⟩
        | cons u us ih =>
          intro kk hk
          obtain ⟨b, o, m, tx, ty, q1, q2, q3, q4⟩ := hk 0 (Nat.succ_pos _)
          obtain ⟨fs, f1, f2, f3⟩ := ih (kk.drop 1) fun i hi => by
            have := hk (i + 1) (by simpa using hi)
            have e : (kk.drop 1).getD i (0, 0) = kk.getD (i + 1) (0, 0) := by simp [List.getD, Nat.add_comm]
            rw [e]
            simpa using this
          simp only [List.getD_cons_zero] at q1
          subst q1
          refine ⟨_ :: fs, .cons q2 q3 q4 rfl f1, by rw [List.length_cons, List.length_cons, f2], fun v hv => ?_⟩
          rcases List.mem_cons.mp hv with rfl | hv
          · exact ⟨_, _, rfl⟩
          · exact f3 v hv
      exact this vs ks hpH
    obtain ⟨fs, f1, f2, f3⟩ := ht
    exact kat_kind (T := .type "int") f1 (by omega) (fun v hv => by
      obtain ⟨x, t, rfl⟩ := f3 v hv
      exact Looks.of_pure rfl) (by decide) hq
  refine wpAny_bind (hkk ?_)
  refine wpAny_bind (kat_run (Q := fun st' s' => s' = { s with heap := H } ∧ failedOf st' = none ∧ (arrOf st').map (·.2) = List.toArray ((runK (fun i j => pairLt (ks.getD i (0, 0)) (ks.getD j (0, 0))) (kas_sort vs.length)).toList.map fun i => vs.getD i Value.none) ∧ (runK (fun i j => pairLt (ks.getD i (0, 0)) (ks.getD j (0, 0))) (kas_sort vs.length)).size = vs.length)
    (G := fun p s' => s' = { s with heap := H } ∧ p = runK (fun i j => pairLt (ks.getD i (0, 0)) (ks.getD j (0, 0))) (kas_sort vs.length))
    rfl h2 h64 (fun p' st' s' a1 a2 a3 ⟨a4, a5⟩ => ⟨a4, a3, by rw [← a5]; exact kat_snds rfl a2, by rw [← a5]; exact a1⟩) (kas_of_run (n := vs.length) (fun i j hi hj C hC => pair_ask (hpH i hi) (hpH j hj) hC) _ hok ⟨rfl, rfl⟩) |> fun q => wpAny_mono q ?_ fun _ _ e => e)
  rintro ⟨⟨⟩, st'⟩ s' ⟨rfl, hf, hout, hps⟩
  dsimp only at hf hout hps ⊢
  rw [hout]
  generalize hO : (List.toArray ((runK (fun i j => pairLt (ks.getD i (0, 0)) (ks.getD j (0, 0))) (kas_sort vs.length)).toList.map fun i => vs.getD i Value.none)) = O at h ⊢
  have hsz : O.size = vs.length := by rw [← hO, List.size_toArray, List.length_map, Array.length_toList]; exact hps
  refine wpAny_bind (seqEpoch_at na rfl ?_)
  refine wpAny_bind (listUpdate_at na rfl ?_ (Nat.zero_le _) (Nat.le_trans (Nat.le_of_eq hsz) (by rw [sizeLine_eq]; omega)))
  rw [hf]
  simp only [bne_self_eq_false, Bool.false_eq_true, if_false]
  have s2 := Heap.SameBut.update H a (Obj.mapSeq fun _ => O)
  obtain ⟨c2, hc2⟩ : ∃ c2, (H.update a (Obj.mapSeq fun _ => O)).get? a = some (seqObj "list" O c2) := ⟨_, get?_update_seq na fun _ => O⟩
  exact wpAny_pure (h _ c2 (fun b o hb e => (s2.2 b hb).trans (k3 b o hb e)) hc2)

theorem srt_sorted {l : Addr} {vs : List Value} {ks : List (Int × Int)} {Q : Value → Shared → Prop} (hl : s.heap.IsList l vs.toArray) (hlen : ks.length = vs.length) (h2 : 2 ≤ vs.length) (h64 : vs.length < 64)
    (hp : ∀ i (hi : i < vs.length), PairAt s.heap (vs.getD i Value.none) (ks.getD i (0, 0)))
    (hok : okK vs.length (fun i j => pairLt (ks.getD i (0, 0)) (ks.getD j (0, 0))) (kas_sort vs.length) = true)
    (h : ∀ D h' c, s.heap.get? D = none → (∀ b o, s.heap.get? b = some o → h'.get? b = some o) → h'.get? D = some (seqObj "list" (List.toArray ((runK (fun i j => pairLt (ks.getD i (0, 0)) (ks.getD j (0, 0))) (kas_sort vs.length)).toList.map fun i => vs.getD i Value.none)) c) →
      Q (.ref D) { s with heap := h' }) :
    wpAny (model prog w) A (call (.builtin "sorted") [.ref l]) Q E s := by
  refine Calls.call_function_entry kind_sorted plain_sorted entry_sorted (args_sorted1 _) ?_
  unfold Builtin.«sorted»
  refine wpAny_bind (m := checkCount "sorted" 1 1 _) (wpAny_pure ?_)
  refine wpAny_bind (collect_list hl ?_ (by rw [sizeLine_eq]; omega))
  refine wpAny_bind (wpAny_newList ?_ (by rw [sizeLine_eq]; omega))
  have hsz : ((s.heap.push (seqObj "list" #[] 0)).update s.heap.objs.size (Obj.mapSeq (· ++ vs.toArray))).objs.size = s.heap.objs.size + 1 := by
    rw [Heap.size_update, size_push']
  have hoL : (((s.heap.push (seqObj "list" #[] 0)).update s.heap.objs.size (Obj.mapSeq (· ++ vs.toArray))).push (seqObj "list" vs.toArray 0)).get? (s.heap.objs.size + 1) = some (seqObj "list" vs.toArray 0) := by
    rw [← hsz]; exact Heap.get?_push_size _ rfl
  have keep : ∀ b o, s.heap.get? b = some o → (((s.heap.push (seqObj "list" #[] 0)).update s.heap.objs.size (Obj.mapSeq (· ++ vs.toArray))).push (seqObj "list" vs.toArray 0)).get? b = some o := fun b o q => by
    have hlt : b < s.heap.objs.size := Heap.lt_size q
    rw [Heap.get?_push_ne _ _ _ (by rw [hsz]; exact Nat.ne_of_lt (Nat.lt_succ_of_lt hlt)), Heap.get?_update_ne _ _ _ _ (Nat.ne_of_lt hlt), Heap.get?_push_ne _ _ _ (Nat.ne_of_lt hlt)]
    exact q
  show wpAny _ _ _ _ _ { s with heap := ((s.heap.push (seqObj "list" #[] 0)).update s.heap.objs.size (Obj.mapSeq (· ++ vs.toArray))).push (seqObj "list" vs.toArray 0) }
  rw [hsz]
  generalize ((s.heap.push (seqObj "list" #[] 0)).update s.heap.objs.size (Obj.mapSeq (· ++ vs.toArray))).push (seqObj "list" vs.toArray 0) = H at hoL keep ⊢
  have hD : s.heap.get? (s.heap.objs.size + 1) = none := none_of (Nat.le_succ _)
  refine wpAny_bind (wpAny_holding (wpAny_call_entry slot_list_sort ⟨_, hoL, rfl⟩ entry_list_sort ?_ (args_list_sort _)))
  refine srt_list (s := { s with heap := H }) hoL hlen h2 h64 (fun i hi => ?_) hok fun h' c k hc => ?_
  · obtain ⟨b, o, m, tx, ty, q1, q2, q3, q4⟩ := hp i hi
    exact ⟨b, o, m, tx, ty, q1, keep _ _ q2, q3, q4⟩
  · exact ⟨_, rfl, wpAny_pure ⟨_, rfl, h _ h' c hD (fun b o e => k b o (fun q => by rw [q, hD] at e; cases e) (keep b o e)) hc⟩⟩
end
end Mine
end

section
open PySem PySem.W PyProof.Rows PySem.Calls PySem.Spec
set_option Elab.async false
set_option linter.unusedVariables false
set_option maxRecDepth 100000
namespace Mine

/-! ## what the sort of up to five different pairs gives -/
noncomputable def lists (n : Nat) : Nat → List (List Nat)
  | 0 => [[]]
  | f + 1 => (List.range n).flatMap fun x => (lists n f).map (x :: ·)
theorem mem_lists {n : Nat} : ∀ {r : List Nat}, (∀ x ∈ r, x < n) → r ∈ lists n r.length
  | [], _ => .head _
  | x :: r, h => by
    show _ ∈ (List.range n).flatMap _
    rw [List.mem_flatMap]
    exact ⟨x, List.mem_range.mpr (h x (.head _)), List.mem_map.mpr ⟨r, mem_lists fun y m => h y (.tail _ m), rfl⟩⟩
noncomputable def nodupB : List Nat → Bool
  | [] => true
  | x :: r => !r.contains x && nodupB r
noncomputable def sortsUp (n : Nat) (r : List Nat) : Bool :=
  okK n (fun i j => decide (r.getD i 0 < r.getD j 0)) (kas_sort n) && ((runK (fun i j => decide (r.getD i 0 < r.getD j 0)) (kas_sort n)).toList.map fun i => r.getD i 0) == List.range n &&
    (runK (fun i j => decide (r.getD i 0 < r.getD j 0)) (kas_sort n)).toList.isPerm (List.range n)
theorem sorts2 : (lists 2 2).all (fun r => !nodupB r || sortsUp 2 r) = true := by decide +kernel
theorem sorts3 : (lists 3 3).all (fun r => !nodupB r || sortsUp 3 r) = true := by decide +kernel
theorem sorts4 : (lists 4 4).all (fun r => !nodupB r || sortsUp 4 r) = true := by decide +kernel
theorem sorts5 : (lists 5 5).all (fun r => !nodupB r || sortsUp 5 r) = true := by decide +kernel

theorem run_congr {α : Type} {n : Nat} {lt lt' : Nat → Nat → Bool} (h : ∀ i j, i < n → j < n → lt i j = lt' i j) : ∀ (t : KasT α), okK n lt' t = true → okK n lt t = true ∧ runK lt t = runK lt' t
  | .ret a, _ => ⟨rfl, rfl⟩
  | .ask i j k, ok => by
    simp only [okK, Bool.and_eq_true, decide_eq_true_eq] at ok
    have e := h i j ok.1.1 ok.1.2
    have := run_congr h (k (lt' i j)) ok.2
    refine ⟨?_, ?_⟩
    · simp only [okK, Bool.and_eq_true, decide_eq_true_eq, e]; exact ⟨ok.1, this.1⟩
    · show runK lt (k (lt i j)) = _
      rw [e]; exact this.2

theorem pairLt_irrefl (p : Int × Int) : pairLt p p = false := by simp [pairLt]
theorem pairLt_trans {p q r : Int × Int} (h1 : pairLt p q = true) (h2 : pairLt q r = true) : pairLt p r = true := by
  unfold pairLt at *
  split at h1 <;> split at h2 <;> split <;> simp_all <;> omega
theorem pairLt_total {p q : Int × Int} (h : p ≠ q) : pairLt p q = true ∨ pairLt q p = true := by
  unfold pairLt
  by_cases h1 : p.1 = q.1
  · have h2 : p.2 ≠ q.2 := fun e => h (Prod.ext h1 e)
    rw [if_pos h1, if_pos h1.symm]
    simp only [decide_eq_true_eq]; omega
  · rw [if_neg h1, if_neg (Ne.symm h1)]
    simp only [decide_eq_true_eq]; omega

noncomputable def rankOf (ks : List (Int × Int)) (p : Int × Int) : Nat := ks.countP fun q => pairLt q p
theorem rank_lt {ks : List (Int × Int)} {p q : Int × Int} (hp : p ∈ ks) (h : pairLt p q = true) : rankOf ks p < rankOf ks q := by
  unfold rankOf
  induction ks with
  | nil => cases hp
  | cons k ks ih =>
    rw [List.countP_cons, List.countP_cons]
    have le : ks.countP (fun x => pairLt x p) ≤ ks.countP (fun x => pairLt x q) := List.countP_mono_left fun x _ hx => pairLt_trans hx h
    rcases List.mem_cons.mp hp with rfl | hp
    · rw [pairLt_irrefl, h]; simp; omega
    · have := ih hp
      have h3 : pairLt k p = true → pairLt k q = true := fun hx => pairLt_trans hx h
      cases e1 : pairLt k p <;> cases e2 : pairLt k q <;> simp_all <;> omega
theorem rank_bound {ks : List (Int × Int)} {p : Int × Int} (hp : p ∈ ks) : rankOf ks p < ks.length := by
  unfold rankOf
  refine Nat.lt_of_le_of_ne (List.countP_le_length) fun e => ?_
  rw [List.countP_eq_length] at e
  have := e p hp
  rw [pairLt_irrefl] at this; cases this

theorem nodupB_of {l : List Nat} (h : l.Nodup) : nodupB l = true := by
  induction l with
  | nil => rfl
  | cons x r ih =>
    rw [List.nodup_cons] at h
    simp [nodupB, h.1, ih h.2]

theorem sort_small {ks : List (Int × Int)} (h2 : 2 ≤ ks.length) (h5 : ks.length ≤ 5) (hd : ks.Nodup) :
    okK ks.length (fun i j => pairLt (ks.getD i (0, 0)) (ks.getD j (0, 0))) (kas_sort ks.length) = true ∧
    ((runK (fun i j => pairLt (ks.getD i (0, 0)) (ks.getD j (0, 0))) (kas_sort ks.length)).toList.map fun i => ks.getD i (0, 0)).Perm ks ∧
    ((runK (fun i j => pairLt (ks.getD i (0, 0)) (ks.getD j (0, 0))) (kas_sort ks.length)).toList.map fun i => ks.getD i (0, 0)).Pairwise (fun p q => pairLt p q = true) ∧
    ∀ i ∈ (runK (fun i j => pairLt (ks.getD i (0, 0)) (ks.getD j (0, 0))) (kas_sort ks.length)).toList, i < ks.length := by
  have hget : ∀ i, i < ks.length → ∃ p, ks.getD i (0, 0) = p ∧ ks[i]? = some p ∧ p ∈ ks := fun i hi => ⟨ks[i], by simp [List.getD, hi], List.getElem?_eq_getElem hi, List.getElem_mem hi⟩
  let r : List Nat := ks.map (rankOf ks)
  have hrl : r.length = ks.length := by simp [r]
  have hrg : ∀ i, i < ks.length → r.getD i 0 = rankOf ks (ks.getD i (0, 0)) := fun i hi => by simp [r, List.getD, hi]
  have hlt : ∀ i j, i < ks.length → j < ks.length → pairLt (ks.getD i (0, 0)) (ks.getD j (0, 0)) = decide (r.getD i 0 < r.getD j 0) := fun i j hi hj => by
    rw [hrg i hi, hrg j hj]
    obtain ⟨p, e1, _, m1⟩ := hget i hi
    obtain ⟨q, e2, _, m2⟩ := hget j hj
    rw [e1, e2]
    cases e : pairLt p q with
    | true => simp [rank_lt m1 e]
    | false =>
      by_cases hpq : p = q
      · subst hpq; simp
      · have := (pairLt_total hpq).resolve_left (by simp [e])
        have := rank_lt m2 this
        simp; omega
  have hmem : r ∈ lists ks.length ks.length := by
    have := mem_lists (n := ks.length) (r := r) fun x hx => by
      obtain ⟨p, hp, rfl⟩ := List.mem_map.mp hx
      exact rank_bound hp
    rwa [hrl] at this
  have hnd : r.Nodup := by
    show (ks.map (rankOf ks)).Nodup
    have hinj : ∀ p ∈ ks, ∀ q ∈ ks, rankOf ks p = rankOf ks q → p = q := fun p hp q hq e => by
      by_cases hpq : p = q
      · exact hpq
      · rcases pairLt_total hpq with h | h
        · have := rank_lt hp h; omega
        · have := rank_lt hq h; omega
    rw [List.nodup_iff_pairwise_ne, List.pairwise_map]
    refine List.Pairwise.imp_of_mem (fun {p q} hp hq hne e => hne (hinj p hp q hq e)) hd
  have hs : sortsUp ks.length r = true := by
    have key : (lists ks.length ks.length).all (fun r => !nodupB r || sortsUp ks.length r) = true := by
      have : ks.length = 2 ∨ ks.length = 3 ∨ ks.length = 4 ∨ ks.length = 5 := by omega
      rcases this with e | e | e | e <;> rw [e]
      · exact sorts2
      · exact sorts3
      · exact sorts4
      · exact sorts5
    have := List.all_eq_true.mp key r hmem
    rw [nodupB_of hnd] at this
    simpa using this
  simp only [sortsUp, Bool.and_eq_true, beq_iff_eq, List.isPerm_iff] at hs
  obtain ⟨⟨ok, hmap⟩, hperm⟩ := hs
  obtain ⟨ok', hrun⟩ := run_congr hlt (kas_sort ks.length) ok
  rw [hrun]
  have hb : ∀ i ∈ (runK (fun i j => decide (r.getD i 0 < r.getD j 0)) (kas_sort ks.length)).toList, i < ks.length := fun i hi => List.mem_range.mp (hperm.mem_iff.mp hi)
  refine ⟨ok', ?_, ?_, hb⟩
  · have := hperm.map fun i => ks.getD i (0, 0)
    refine this.trans (List.Perm.of_eq ?_)
    refine List.ext_getElem? fun j => ?_
    rw [List.getElem?_map]
    by_cases hj : j < ks.length
    · rw [List.getElem?_range hj]; simp [List.getD, hj]
    · rw [List.getElem?_eq_none (by simpa using hj), List.getElem?_eq_none (by omega)]; rfl
  · rw [List.pairwise_map]
    have hup : ((runK (fun i j => decide (r.getD i 0 < r.getD j 0)) (kas_sort ks.length)).toList.map fun i => r.getD i 0).Pairwise (· < ·) := by rw [hmap]; exact List.pairwise_lt_range
    rw [List.pairwise_map] at hup
    refine List.Pairwise.imp_of_mem (fun {i j} hi hj h => ?_) hup
    rw [hlt i j (hb i hi) (hb j hj)]
    simpa using h
end Mine
end

section
open PySem PySem.W PyProof.Rows PySem.Calls PySem.Spec
set_option Elab.async false
set_option linter.unusedVariables false
set_option maxRecDepth 100000
namespace Mine
section
variable {prog : Program} {w : World} {A : Around} {E : Value → Shared → Prop} {s : Shared}
/-- a list of at most one -/
theorem srt_list1 {a : Addr} {vs : List Value} {n : Nat} {P : PySem.Fin → Shared → Prop} (ho : s.heap.get? a = some (seqObj "list" vs.toArray n)) (h1 : vs.length < 2)
    (h : ∀ h' c, (∀ b o, b ≠ a → s.heap.get? b = some o → h'.get? b = some o) → h'.get? a = some (seqObj "list" vs.toArray c) → P (.done (.ret .none)) { s with heap := h' }) :
    wpAny (model prog w) A (Builtin.«list.sort» ⟨[.ref a], []⟩) P E s := by
  have s1 := Heap.SameBut.update s.heap a (Obj.mapSeq fun _ => (#[] : Array Value))
  obtain ⟨e1, ho1⟩ : ∃ e1, (s.heap.update a (Obj.mapSeq fun _ => (#[] : Array Value))).get? a = some (seqObj "list" #[] e1) := ⟨_, get?_update_seq ho fun _ => #[]⟩
  have na : (((s.heap.update a (Obj.mapSeq fun _ => (#[] : Array Value))).push (seqObj "tuple" vs.toArray 0)).push (seqObj "list" #[] 0)).get? a = some (seqObj "list" #[] e1) := Heap.get?_push_of_some _ (Heap.get?_push_of_some _ ho1)
  have k3 : ∀ b o, b ≠ a → s.heap.get? b = some o → (((s.heap.update a (Obj.mapSeq fun _ => (#[] : Array Value))).push (seqObj "tuple" vs.toArray 0)).push (seqObj "list" #[] 0)).get? b = some o := fun b o hb e => Heap.get?_push_of_some _ (Heap.get?_push_of_some _ ((s1.2 b hb).trans e))
  rw [list_sort_plain]
  refine wpAny_bind (listItems_at ho rfl ?_)
  refine wpAny_bind (listUpdate_at ho rfl ?_ (by rw [List.size_toArray, sizeLine_eq]; omega) (Nat.zero_le _))
  refine wpAny_bind (seqEpoch_at ho1 rfl ?_)
  refine wpAny_bind (wpAny_newTuple ?_ (by show vs.length ≤ _; rw [sizeLine_eq]; omega))
  refine wpAny_bind (wpAny_newList ?_ (Nat.zero_le _))
  refine wpAny_holding ?_
  show wpAny (model prog w) A _ P E { s with heap := ((s.heap.update a (Obj.mapSeq fun _ => (#[] : Array Value))).push (seqObj "tuple" vs.toArray 0)).push (seqObj "list" #[] 0) }
  generalize ((s.heap.update a (Obj.mapSeq fun _ => (#[] : Array Value))).push (seqObj "tuple" vs.toArray 0)).push (seqObj "list" #[] 0) = H at na k3 ⊢
  dsimp only
  have hn2 : vs.toArray.size < 2 := by rw [List.size_toArray]; omega
  rw [if_pos hn2, if_pos hn2]
  refine wpAny_bind (wpAny_pure ?_)
  rw [StateT.run_pure]
  refine wpAny_bind (wpAny_pure ?_)
  dsimp only
  refine wpAny_bind (seqEpoch_at na rfl ?_)
  have e : ((vs.toArray.zip vs.toArray).map fun x => x.2) = vs.toArray := by
    apply Array.toList_inj.mp
    simp [List.map_snd_zip]
  rw [e]
  refine wpAny_bind (listUpdate_at na rfl ?_ (Nat.zero_le _) (by rw [List.size_toArray, sizeLine_eq]; omega))
  simp only [bne_self_eq_false, Bool.false_eq_true, if_false]
  have s2 := Heap.SameBut.update H a (Obj.mapSeq fun _ => vs.toArray)
  obtain ⟨c2, hc2⟩ : ∃ c2, (H.update a (Obj.mapSeq fun _ => vs.toArray)).get? a = some (seqObj "list" vs.toArray c2) := ⟨_, get?_update_seq na fun _ => vs.toArray⟩
  exact wpAny_pure (h _ c2 (fun b o hb e => (s2.2 b hb).trans (k3 b o hb e)) hc2)
end
end Mine
end

section
open PySem PySem.W PyProof.Rows PySem.Calls PySem.Spec
set_option Elab.async false
set_option linter.unusedVariables false
set_option maxRecDepth 100000
namespace Mine
section
variable {prog : Program} {w : World} {A : Around} {E : Value → Shared → Prop} {s : Shared}
theorem srt_sorted1 {l : Addr} {vs : List Value} {Q : Value → Shared → Prop} (hl : s.heap.IsList l vs.toArray) (h1 : vs.length < 2)
    (h : ∀ D h' c, s.heap.get? D = none → (∀ b o, s.heap.get? b = some o → h'.get? b = some o) → h'.get? D = some (seqObj "list" vs.toArray c) → Q (.ref D) { s with heap := h' }) :
    wpAny (model prog w) A (call (.builtin "sorted") [.ref l]) Q E s := by
  refine Calls.call_function_entry kind_sorted plain_sorted entry_sorted (args_sorted1 _) ?_
  unfold Builtin.«sorted»
  refine wpAny_bind (m := checkCount "sorted" 1 1 _) (wpAny_pure ?_)
  refine wpAny_bind (collect_list hl ?_ (by rw [sizeLine_eq]; omega))
  refine wpAny_bind (wpAny_newList ?_ (by rw [sizeLine_eq]; omega))
  have hsz : ((s.heap.push (seqObj "list" #[] 0)).update s.heap.objs.size (Obj.mapSeq (· ++ vs.toArray))).objs.size = s.heap.objs.size + 1 := by
    rw [Heap.size_update, size_push']
  have hoL : (((s.heap.push (seqObj "list" #[] 0)).update s.heap.objs.size (Obj.mapSeq (· ++ vs.toArray))).push (seqObj "list" vs.toArray 0)).get? (s.heap.objs.size + 1) = some (seqObj "list" vs.toArray 0) := by
    rw [← hsz]; exact Heap.get?_push_size _ rfl
  have keep : ∀ b o, s.heap.get? b = some o → (((s.heap.push (seqObj "list" #[] 0)).update s.heap.objs.size (Obj.mapSeq (· ++ vs.toArray))).push (seqObj "list" vs.toArray 0)).get? b = some o := fun b o q => by
    have hlt : b < s.heap.objs.size := Heap.lt_size q
    rw [Heap.get?_push_ne _ _ _ (by rw [hsz]; exact Nat.ne_of_lt (Nat.lt_succ_of_lt hlt)), Heap.get?_update_ne _ _ _ _ (Nat.ne_of_lt hlt), Heap.get?_push_ne _ _ _ (Nat.ne_of_lt hlt)]
    exact q
  show wpAny _ _ _ _ _ { s with heap := ((s.heap.push (seqObj "list" #[] 0)).update s.heap.objs.size (Obj.mapSeq (· ++ vs.toArray))).push (seqObj "list" vs.toArray 0) }
  rw [hsz]
  generalize ((s.heap.push (seqObj "list" #[] 0)).update s.heap.objs.size (Obj.mapSeq (· ++ vs.toArray))).push (seqObj "list" vs.toArray 0) = H at hoL keep ⊢
  have hD : s.heap.get? (s.heap.objs.size + 1) = none := none_of (Nat.le_succ _)
  refine wpAny_bind (wpAny_holding (wpAny_call_entry slot_list_sort ⟨_, hoL, rfl⟩ entry_list_sort ?_ (args_list_sort _)))
  refine srt_list1 (s := { s with heap := H }) hoL h1 fun h' c k hc => ?_
  exact ⟨_, rfl, wpAny_pure ⟨_, rfl, h _ h' c hD (fun b o e => k b o (fun q => by rw [q, hD] at e; cases e) (keep b o e)) hc⟩⟩
end

/-- a pair of ints as data -/
noncomputable def pairD (p : Int × Int) : PyData := .tuple [.int p.1, .int p.2]
theorem pair_at {Z : AP} {h : Heap} {v : Value} {p : Int × Int} (r : Rp Z h v (pairD p)) : PairAt h v p := by
  obtain ⟨T, vs, rfl, _, ⟨o, e, hc, n, hd⟩, rs⟩ := Rp.tuple_inv r
  cases rs with
  | cons r1 rs =>
  cases rs with
  | cons r2 rs =>
  cases rs
  obtain ⟨ta, rfl⟩ := r1.int_inv
  obtain ⟨tb, rfl⟩ := r2.int_inv
  exact ⟨T, o, n, ta, tb, rfl, e, hc, hd⟩

theorem BfR.sortedP {c : Cx} {n : Nat} {σ : Option Ac} {ks ks' : List (Int × Int)} (h5 : ks.length ≤ 5) (hd : ks.Nodup) (hp : ks'.Perm ks) (ho : ks'.Pairwise (fun p q => pairLt p q = true)) :
    BfR c n (.builtin "sorted") [.d (.list (ks.map pairD))] σ (.list (ks'.map pairD)) σ := fun Z A s us p r => by
  cases r with
  | cons a r =>
  cases r
  obtain ⟨l, vs, rfl, z, il, rs⟩ := Rp.list_inv a
  have hl := rs.length
  rw [List.length_map] at hl
  have fin : ∀ D h' c' (out : List Value) (ko : List (Int × Int)), s.heap.get? D = none → (∀ b o, s.heap.get? b = some o → h'.get? b = some o) → h'.get? D = some (seqObj "list" out.toArray c') → Rps Z s.heap out (ko.map pairD) → ko = ks' →
      Post c Z σ σ s { s with heap := h' } ∧ Rp Z h' (.ref D) (.list (ks'.map pairD)) := fun D h' c' out ko hn kp hD ro e => by
    subst e
    refine ⟨p.heap kp, .list (fun zz => ?_) hD rfl rfl rfl (by simpa using ro.step (.of_keep kp))⟩
    obtain ⟨o, eo⟩ := p.zal _ zz
    rw [hn] at eo; cases eo
  by_cases h2 : vs.length < 2
  · refine srt_sorted1 il h2 fun D h' c' hn kp hD => fin D h' c' vs ks hn kp hD rs ?_
    have hk : ks.length < 2 := by omega
    match ks, hk, hp with
    | [], _, hp => exact hp.eq_nil.symm
    | [x], _, hp => exact (List.perm_singleton.mp hp).symm
  · have e5 : ks.length = vs.length := hl.symm
    obtain ⟨ok, hperm, hpw, hb⟩ := sort_small (ks := ks) (by omega) h5 hd
    rw [e5] at ok hperm hpw hb
    have hpr : ∀ i (hi : i < vs.length), PairAt s.heap (vs.getD i Value.none) (ks.getD i (0, 0)) ∧ Rp Z s.heap (vs.getD i Value.none) (pairD (ks.getD i (0, 0))) := fun i hi => by
      obtain ⟨d, hd', rd⟩ := Rps.getv rs i (v := vs.getD i Value.none) (by simp [List.getD, hi])
      have hi' : i < ks.length := by omega
      have : d = pairD (ks.getD i (0, 0)) := by
        rw [List.getElem?_map, List.getElem?_eq_getElem hi'] at hd'
        have e := Option.some.inj hd'
        rw [← e]; simp [List.getD, hi']
      subst this
      exact ⟨pair_at rd, rd⟩
    refine srt_sorted il e5 (by omega) (by omega) (fun i hi => (hpr i hi).1) ok fun D h' c' hn kp hD => fin D h' c' _ ((runK (fun i j => pairLt (ks.getD i (0, 0)) (ks.getD j (0, 0))) (kas_sort vs.length)).toList.map fun i => ks.getD i (0, 0)) hn kp hD ?_ ?_
    · have : ∀ (q : List Nat), (∀ i ∈ q, i < vs.length) → Rps Z s.heap (q.map fun i => vs.getD i Value.none) ((q.map fun i => ks.getD i (0, 0)).map pairD) := by
        intro q
        induction q with
        | nil => intro _; exact .nil
        | cons i q ih => intro hq; exact .cons (hpr i (hq i (.head _))).2 (ih fun j m => hq j (.tail _ m))
      exact this _ hb
    · refine List.Perm.eq_of_pairwise (fun x y _ _ h1 h2 => ?_) hpw ho (hperm.trans hp.symm)
      have := pairLt_trans h1 h2
      rw [pairLt_irrefl] at this; cases this
end Mine
end

section
open PySem PySem.W PyProof.Rows PySem.Calls PySem.Spec
set_option Elab.async false
set_option linter.unusedVariables false
set_option maxRecDepth 100000
namespace Mine

/-- all that is known of the class of the line -/
structure LineFacts (c : Cx) : Prop where
  acc : AccFacts c
  sub : SubFacts c
  sup : SupFacts c
  gen : GenFacts c
  d45 : DefAt c 45 dPush .none []
  d53 : DefAt c 53 dPopFrom (.ref 46) []
  t46 : ∃ oT tk kk, c.K.lookup 46 = some oT ∧ oT.data = .seq #[.int 0 tk] kk
  d67 : DefGen c 67 dLen 66
  d74 : DefGen c 74 dStr 73
  d97 : DefSup c 97 dPart .none
  fPush : findIn c.K (.ref 100) "push" = some (some (.ref 45))
  fPop : findIn c.K (.ref 100) "pop_from" = some (some (.ref 53))
  fPart : findIn c.K (.ref 100) "part_count" = some (some (.ref 97))
  fApp : findIn c.K (.ref 100) "append" = some (some (.builtin "list.append"))
  fLen : findIn c.K (.ref 100) "__len__" = some (some (.ref 67))
  fStr : findIn c.K (.ref 100) "__str__" = some (some (.ref 74))
  fIni : findIn c.K (.ref 100) "_initial_size" = some none
  tys : ∀ f ∈ [45, 53, 97, 67, 74], typeIn c.K (.ref f) = some (.type "function") ∧ keepIn c.K (.ref f) = true
  isStr : isFn c.K (.ref 74) = true
  gSum : GlobIs c dLen.scope "sum" (.builtin "sum")
  gLen : GlobIs c (gsOf dLen) "len" (.builtin "len")
  gEmp : ∃ te, GlobIs c dStr.scope "EMPTYSTRING" (.str "" te) ∧ GlobIs c (gsOfS dStr) "EMPTYSTRING" (.str "" te)

/-- a line: an accumulator with a first size -/
structure IsLine (a : Ac) (z : Int) : Prop where
  cls : a.cls = 100
  ini : a.attrs = [(("_initial_size" : Str), PyData.int z)]
  few : a.ps.length ≤ 100
  small : ∀ q ∈ a.ps, q.1.length ≤ 1000 ∧ q.2.length ≤ 1000
  z0 : 0 ≤ z ∧ z ≤ 1000

theorem sumLen_bound {ps : List (Str × Str)} (h : ∀ q ∈ ps, q.1.length ≤ 1000 ∧ q.2.length ≤ 1000) : 0 ≤ sumLen ps ∧ sumLen ps ≤ 2000 * ps.length := by
  induction ps with
  | nil => exact ⟨by decide, by decide⟩
  | cons q r ih =>
    have h1 := h q (.head _)
    have h2 := ih fun x m => h x (.tail _ m)
    have e : sumLen (q :: r) = pieceLen q + sumLen r := rfl
    rw [e, List.length_cons]
    unfold pieceLen
    omega

section
variable {c : Cx} {n : Nat} {sc : Scope} {ρ : Loc} {a : Ac} {z : Int}
theorem Ev.lenLine {x : Str} {fp xp cp : Pos} (L : LineFacts c) (I : IsLine a z) (g : GlobIs c sc "len" (.builtin "len")) (hx : ρ.lookup x = some .ac := by rfl) (hdb : (x == ("__debug__" : Str)) = false := by rfl) (hcd : (x == ("__classdict__" : Str)) = false := by rfl) (h1 : ∀ env, starEach [.Name x xp] env = (false, eval (.Name x xp) env) :: starEach [] env := by intro _; rfl) :
    E1 c (n + 2) sc ρ (some a) (.Call (.Name "len" fp) [.Name x xp] [] cp) (.int (z + sumLen a.ps)) := by
  have b := sumLen_bound I.small
  refine Ev.callB g (.cons (.ac hx hdb hcd) .nil h1) (BfR.lenAc (n := n + 1) I.cls L.fLen (L.tys 67 (by simp)).1 (fn_len L.d67 L.acc L.sub L.gen L.gSum L.gLen L.fIni I.cls I.ini fun q hq => by have := I.small q hq; omega) ?_ ?_)
  · have := I.z0; omega
  · have := I.z0; have := I.few; omega
end
end Mine
end

section
open PySem PySem.W PyProof.Rows PySem.Calls PySem.Spec
set_option Elab.async false
set_option linter.unusedVariables false
set_option maxRecDepth 100000
namespace Mine
section
variable {c : Cx} {n : Nat} {sc : Scope} {ρ : Loc} {a : Ac} {z : Int}
theorem Ev.pushLine {x : Str} {xp ap cp : Pos} {e1 e2 : Expr} {u v : Str} (L : LineFacts c) (I : IsLine a z) (h1 : E1 c (n + 2) sc ρ (some a) e1 (.str u)) (h2 : E1 c (n + 2) sc ρ (some a) e2 (.str v)) (hx : ρ.lookup x = some .ac := by rfl) (hdb : (x == ("__debug__" : Str)) = false := by rfl) (hcd : (x == ("__classdict__" : Str)) = false := by rfl)
    (hs1 : ∀ env, starEach [e1, e2] env = (false, eval e1 env) :: starEach [e2] env := by intro _; rfl) (hs2 : ∀ env, starEach [e2] env = (false, eval e2 env) :: starEach [] env := by intro _; rfl) {pl : Env → Sem Bool}
    (he : ∀ env, eval (.Call (.Attribute (.Name x xp) "push" ap) [e1, e2] [] cp) env = (do
      let ov ← eval (.Name x xp) env
      standAt ap.atName
      let (f, first) ← holding [ov] (getMethod ov "push" (pl env))
      callWith cp f first (backTo cp (starEach [e1, e2] env)) (backToKw cp (keywordEach [] env))) := by intro _; rfl) :
    Ev c (n + 2) sc ρ (some a) (.Call (.Attribute (.Name x xp) "push" ap) [e1, e2] [] cp) .none (some { a with ps := a.ps ++ [(u, v)] }) := by
  have F' : ClsOk c a.cls "list.__getattribute__" := I.cls ▸ L.acc.ok
  have few := I.few
  refine Ev.callM (f := 45) F' (by rw [I.cls]; exact L.fPush) (L.tys 45 (by simp)).1 (by rw [I.ini]; rfl) (L.tys 45 (by simp)).2 (.cons (.of h1) (.cons (.of h2) .nil hs2) hs1) (fn_push L.d45 L.acc I.cls L.fApp (by rw [I.ini]; rfl) (by omega)) hx hdb hcd he
theorem Ev.partLine {x : Str} {xp ap cp : Pos} (L : LineFacts c) (I : IsLine a z) (hx : ρ.lookup x = some .ac := by rfl) (hdb : (x == ("__debug__" : Str)) = false := by rfl) (hcd : (x == ("__classdict__" : Str)) = false := by rfl) {pl : Env → Sem Bool}
    (he : ∀ env, eval (.Call (.Attribute (.Name x xp) "part_count" ap) [] [] cp) env = (do
      let ov ← eval (.Name x xp) env
      standAt ap.atName
      let (f, first) ← holding [ov] (getMethod ov "part_count" (pl env))
      callWith cp f first (backTo cp (starEach [] env)) (backToKw cp (keywordEach [] env))) := by intro _; rfl) :
    E1 c (n + 2) sc ρ (some a) (.Call (.Attribute (.Name x xp) "part_count" ap) [] [] cp) (.int (a.ps.length : Int)) := by
  have F' : ClsOk c a.cls "list.__getattribute__" := I.cls ▸ L.acc.ok
  have few := I.few
  exact Ev.callM (f := 97) F' (by rw [I.cls]; exact L.fPart) (L.tys 97 (by simp)).1 (by rw [I.ini]; rfl) (L.tys 97 (by simp)).2 .nil (fn_part L.acc L.sup L.d97 I.cls (by omega)) hx hdb hcd he
theorem Ev.popLine {x : Str} {xp ap cp : Pos} {e1 : Expr} {k : Nat} (L : LineFacts c) (I : IsLine a z) (h1 : E1 c (n + 2) sc ρ (some a) e1 (.int (k : Int))) (hk : k ≤ a.ps.length) (hx : ρ.lookup x = some .ac := by rfl) (hdb : (x == ("__debug__" : Str)) = false := by rfl) (hcd : (x == ("__classdict__" : Str)) = false := by rfl)
    (hs1 : ∀ env, starEach [e1] env = (false, eval e1 env) :: starEach [] env := by intro _; rfl) {pl : Env → Sem Bool}
    (he : ∀ env, eval (.Call (.Attribute (.Name x xp) "pop_from" ap) [e1] [] cp) env = (do
      let ov ← eval (.Name x xp) env
      standAt ap.atName
      let (f, first) ← holding [ov] (getMethod ov "pop_from" (pl env))
      callWith cp f first (backTo cp (starEach [e1] env)) (backToKw cp (keywordEach [] env))) := by intro _; rfl) :
    Ev c (n + 2) sc ρ (some a) (.Call (.Attribute (.Name x xp) "pop_from" ap) [e1] [] cp) (.list ((a.ps.drop k).map pieceD)) (some { a with ps := a.ps.take k }) := by
  have F' : ClsOk c a.cls "list.__getattribute__" := I.cls ▸ L.acc.ok
  have few := I.few
  obtain ⟨oT, tk, kk, t1, t2⟩ := L.t46
  exact Ev.callM (f := 53) F' (by rw [I.cls]; exact L.fPop) (L.tys 53 (by simp)).1 (by rw [I.ini]; rfl) (L.tys 53 (by simp)).2 (.cons (.of h1) .nil hs1) (fn_popfrom L.d53 t1 t2 L.acc L.sub I.cls hk (by omega)) hx hdb hcd he
theorem Ev.popAllLine {x : Str} {xp ap cp : Pos} (L : LineFacts c) (I : IsLine a z) (hx : ρ.lookup x = some .ac := by rfl) (hdb : (x == ("__debug__" : Str)) = false := by rfl) (hcd : (x == ("__classdict__" : Str)) = false := by rfl) {pl : Env → Sem Bool}
    (he : ∀ env, eval (.Call (.Attribute (.Name x xp) "pop_from" ap) [] [] cp) env = (do
      let ov ← eval (.Name x xp) env
      standAt ap.atName
      let (f, first) ← holding [ov] (getMethod ov "pop_from" (pl env))
      callWith cp f first (backTo cp (starEach [] env)) (backToKw cp (keywordEach [] env))) := by intro _; rfl) :
    Ev c (n + 2) sc ρ (some a) (.Call (.Attribute (.Name x xp) "pop_from" ap) [] [] cp) (.list (a.ps.map pieceD)) (some { a with ps := [] }) := by
  have F' : ClsOk c a.cls "list.__getattribute__" := I.cls ▸ L.acc.ok
  have few := I.few
  obtain ⟨oT, tk, kk, t1, t2⟩ := L.t46
  exact Ev.callM (f := 53) F' (by rw [I.cls]; exact L.fPop) (L.tys 53 (by simp)).1 (by rw [I.ini]; rfl) (L.tys 53 (by simp)).2 .nil (fn_popall L.d53 t1 t2 L.acc L.sub I.cls (by omega)) hx hdb hcd he
end
end Mine
end

section
open PySem PySem.W PyProof.Rows PySem.Calls PySem.Spec
set_option Elab.async false
set_option linter.unusedVariables false
set_option maxRecDepth 100000
namespace Mine

/-- what is sent: the line's pieces behind _law_send -/
noncomputable def sent (z due : Int) (ps : List (Str × Str)) (q : Str × Str) (g : Nat) : List (Str × Str) :=
  if z + sumLen (ps ++ [q]) ≤ due then ps ++ [q] else (ps ++ [q]).take g ++ (ps ++ [q]).drop (g + 1)

theorem IsLine.to {a : Ac} {z : Int} (I : IsLine a z) {qs : List (Str × Str)} (h1 : qs.length ≤ 100) (h2 : ∀ q ∈ qs, q.1.length ≤ 1000 ∧ q.2.length ≤ 1000) : IsLine { a with ps := qs } z := ⟨I.cls, I.ini, h1, h2, I.z0⟩

theorem Ss.compAc {c : Cx} {n : Nat} {sc csc : Scope} {ρ : Loc} {a : Ac} {target elt : Expr} {ifs : List Expr} {pos : Pos} {x y : Str} {xp py spos : Pos} {rest : List Stmt} {Q : QT} (F : AccFacts c) (G : SubFacts c) (ha : a.cls = 100) (p : Str × Str → Bool) (f : Str × Str → PyData)
    (hitem : ∀ q ∈ a.ps, Item c n (relab csc sc) [] none target ifs elt (pieceD q) (p q) (f q)) (hlen : a.ps.length ≤ 1000000) (hn : Ss c n sc ((y, .d (.list ((a.ps.filter p).map f))) :: ρ) (some a) rest Q)
    (ok : compOkB csc sc = true := by rfl) (hx : ρ.lookup x = some .ac := by rfl) (hy : sc.names.lookup y = some .local := by rfl) (hsw : ∀ env : Env, env.scope = sc → swapsWith (.ListComp elt [⟨target, .Name x xp, ifs, 0⟩] csc pos) (some (.Name y py)) spos.line env = pure true := by (intro env he; cases env; cases he; rfl))
    (hs : ∀ v env, foldedSetIterable (.Name x xp) env v = pure v := by intro _ _; rfl) (hdb : (x == ("__debug__" : Str)) = false := by rfl) (hcd : (x == ("__classdict__" : Str)) = false := by rfl) :
    Ss c n sc ρ (some a) (.Assign [.Name y py] (.ListComp elt [⟨target, .Name x xp, ifs, 0⟩] csc pos) spos :: rest) Q :=
  .step (S1.assignCompAc F G ha ok hx p f hitem hlen hy hsw hs hdb hcd) hn

noncomputable def OkTexts (ps : List (Str × Str)) : Prop := ∀ q ∈ ps, (PyData.str q.1).canLay0 = true ∧ (PyData.str q.2).canLay0 = true
theorem canLay_pieces : ∀ (ps : List (Str × Str)), OkTexts ps → PyData.canLayAll0 (ps.map pieceD) = true
  | [], _ => rfl
  | q :: r, h => by
    have h1 := h q (.head _)
    simp only [List.map_cons, PyData.canLayAll0, pieceD, PyData.canLay0, Bool.and_eq_true, Bool.and_true]
    simp only [PyData.canLay0] at h1
    exact ⟨h1, canLay_pieces r fun x m => h x (.tail _ m)⟩
theorem depth_pieces : ∀ (ps : List (Str × Str)), PyData.depthAll (ps.map pieceD) ≤ 5
  | [] => by simp [PyData.depthAll]
  | q :: r => by
    have := depth_pieces r
    simp only [List.map_cons, PyData.depthAll, pieceD, PyData.depth] at this ⊢
    omega
theorem shaped_send (ps : List (Str × Str)) (k : Int) (h : OkTexts ps) : SeqAt.shaped (.list [.list (ps.map pieceD), .int k]) = true := by
  have h1 := canLay_pieces ps h
  have h2 := depth_pieces ps
  simp only [SeqAt.shaped, PyData.canLay0, PyData.canLayAll0, PyData.depth, PyData.depthAll, h1, Bool.and_eq_true, decide_eq_true_eq, Bool.and_true, Bool.true_and]
  exact decide_eq_true (by omega)

theorem fn_send {c : Cx} {n : Nat} {a : Ac} {z due M : Int} {u v : Str} {g : Nat} (L : LineFacts c) (D : DefAt c 228 dSend .none []) (glen : GlobIs c dSend.scope "len" (.builtin "len")) (gmax : GlobIs c dSend.scope "max" (.builtin "max")) (I : IsLine a z) (few : a.ps.length < 90) (hu : u.length ≤ 1000) (hv : v.length ≤ 1000) (hok : OkTexts (a.ps ++ [(u, v)]))
    (hM : ((a.ps ++ [(u, v)]).map pieceLen).max? = some M) (hg : ((a.ps ++ [(u, v)]).map pieceLen)[g]? = some M) (hno : ∀ i < g, ((a.ps ++ [(u, v)]).map pieceLen)[i]? ≠ some M) :
    Fn c (n + 3) 228 [.ac, .d (.str u), .d (.str v), .d (.int due)] (some a) (.bool true) (some { a with ps := sent z due a.ps (u, v) g }) := by
  refine Fn.of (names := ["line", "white", "name", "due"]) D (by decide +kernel) (fun fd e1 e2 e3 us hu => ?_) rfl ?_
  · obtain ⟨u, v, w, x, rfl⟩ := args4 hu
    rw [fd_is e1 e2 e3]; rfl
  have I₁ : IsLine { a with ps := a.ps ++ [(u, v)] } z := I.to (by simp; omega) fun q hq => by
    rcases List.mem_append.mp hq with h | h
    · exact I.small q h
    · rw [List.mem_singleton.mp h]; exact ⟨hu, hv⟩
  refine Ss.expr (Ev.pushLine L I .name .name) ?_
  refine Ss.ite (.cmp (Ev.lenLine (a := { a with ps := a.ps ++ [(u, v)] }) L I₁ glen) .name .le) (fun h => ?_) fun h => ?_
  · refine .ret .bool ⟨.inl rfl, ?_⟩
    have h' := of_decide_eq_true h
    unfold sent
    rw [if_pos h']
  have h' : ¬ z + sumLen (a.ps ++ [(u, v)]) ≤ due := of_decide_eq_false h
  refine Ss.nil ?_
  dsimp only
  refine Ss.compAc (a := { a with ps := a.ps ++ [(u, v)] }) L.acc L.sub I.cls (fun _ => true) pieceD ?_ (by simp; omega) ?_
  · exact fun q hq => ⟨_, .name (.inl (by rfl)), .nil, fun _ => .name⟩
  have hfil : (List.filter (fun _ => true) (a.ps ++ [(u, v)])) = a.ps ++ [(u, v)] := List.filter_eq_self.mpr fun _ _ => rfl
  show Ss _ _ _ (("pieces", .d (.list ((List.filter (fun _ => true) (a.ps ++ [(u, v)])).map pieceD))) :: _) _ _ _
  rw [hfil]
  have hfilD : (List.filter (fun _ => true) ((a.ps ++ [(u, v)]).map pieceD)) = (a.ps ++ [(u, v)]).map pieceD := List.filter_eq_self.mpr fun _ _ => rfl
  have few2 : (a.ps ++ [(u, v)]).length ≤ 90 := by simp; omega
  refine Ss.step (S1.assignComp (xs := a.ps ++ [(u, v)]) (enc := pieceD) (p := fun _ => true) (f := fun q => .int (pieceLen q)) (ρi := []) (.list .name) ?_ trivial rfl ?_ ?_ ?_ ?_) ?_
  · rfl
  · intro q hq
    have hq2 := I₁.small q hq
    exact ⟨_, .tuple (.cons (.inl (by rfl)) (.cons (.inl (by rfl)) .nil)), .nil, fun _ => .bin (.callB ⟨by rfl, glen.val, by rfl⟩ (.cons (.of .name) .nil) (BfR.lenS (by omega))) (.callB ⟨by rfl, glen.val, by rfl⟩ (.cons (.of .name) .nil) (BfR.lenS (by omega))) .add⟩
  · omega
  · rfl
  · intro env he; cases env; cases he; rfl
  have hsz : ((List.filter (fun _ => true) (a.ps ++ [(u, v)])).map fun q => PyData.int (pieceLen q)) = ((a.ps ++ [(u, v)]).map pieceLen).map .int := by rw [hfil, List.map_map]; rfl
  rw [hsz]
  have hgl : g < (a.ps ++ [(u, v)]).length := by
    by_cases q : g < (a.ps ++ [(u, v)]).length
    · exact q
    · rw [List.getElem?_eq_none (by simpa using q)] at hg; cases hg
  refine Ss.set (.index .name (.callB gmax (.cons (.of .name) .nil) (BfR.maxL hM)) (by simp; omega) hg hno) ?_
  refine Ss.set (Ev.popLine (a := { a with ps := a.ps ++ [(u, v)] }) L I₁ .name (Nat.le_of_lt hgl)) ?_
  have I₂ : IsLine { a with ps := (a.ps ++ [(u, v)]).take g } z := I.to (by rw [List.length_take]; omega) fun q hq => I₁.small q (List.mem_of_mem_take hq)
  refine Ss.set (Ev.partLine (a := { a with ps := (a.ps ++ [(u, v)]).take g }) L I₂) ?_
  refine Ss.fold (α := Str × Str) (β := List (Str × Str)) ((((a.ps ++ [(u, v)]).drop g).drop 1)) pieceD (fun b q => b ++ [q]) ((a.ps ++ [(u, v)]).take g)
    (fun _ => [("line", .ac), ("gone", .d (.int (g : Int))), ("pieces", .d (.list ((a.ps ++ [(u, v)]).map pieceD))), ("behind", .d (.list (((a.ps ++ [(u, v)]).drop g).map pieceD))), ("ahead", .d (.int ((((a.ps ++ [(u, v)]).take g).length : Nat) : Int)))])
    (fun b => some { a with ps := b }) (fun pre b => b = (a.ps ++ [(u, v)]).take g ++ pre) ?_ ?_ rfl (by simp) ?_ ?_
  · have hb : ((((a.ps ++ [(u, v)]).drop g).drop 1)).map pieceD = picked ((((a.ps ++ [(u, v)]).drop g)).map pieceD) (some ((1 : Nat) : Int)) none none := by
      rw [picked_drop _ _ (by rw [List.length_map, List.length_drop]; omega), List.map_drop]
    rw [hb]
    exact Src.list (.sliceL .name (.some .int) .none (by rw [List.length_map, List.length_drop]; omega))
  · exact ⟨rfl, rfl, rfl, rfl, rfl, trivial⟩
  · intro pre q post b e hb
    have hq : q ∈ a.ps ++ [(u, v)] := List.mem_of_mem_drop (List.mem_of_mem_drop (by rw [← e]; simp))
    have I₃ : IsLine { a with ps := b } z := by
      subst hb
      have hpre : ∀ x ∈ pre, x ∈ a.ps ++ [(u, v)] := fun x hx => List.mem_of_mem_drop (List.mem_of_mem_drop (by rw [← e]; simp [hx]))
      have hl : pre.length ≤ (a.ps ++ [(u, v)]).length - g - 1 := by
        have := congrArg List.length e
        simp only [List.length_append, List.length_cons, List.length_drop] at this
        rw [List.length_append]; simp only [List.length_cons, List.length_nil] at this ⊢
        omega
      refine I.to (by rw [List.length_append, List.length_take]; omega) fun x hx => ?_
      rcases List.mem_append.mp hx with h | h
      · exact I₁.small x (List.mem_of_mem_take h)
      · exact I₁.small x (hpre x h)
    refine ⟨_, .tuple (.cons (.inl (by rfl)) (.cons (.inl (by rfl)) .nil)), ?_⟩
    refine Ss.expr (Ev.pushLine (a := { a with ps := b }) L I₃ .name .name) (.nil ?_)
    exact ⟨⟨rfl, rfl, rfl, rfl, rfl, trivial⟩, rfl, by rw [hb, List.append_assoc]⟩
  · intro hb
    have hX : picked ((a.ps ++ [(u, v)]).map pieceD) (some (g : Int)) none none = ((a.ps ++ [(u, v)]).drop g).map pieceD := by
      rw [picked_drop _ _ (by rw [List.length_map]; omega), List.map_drop]
    have hgt : ((a.ps ++ [(u, v)]).take g).length = g := by rw [List.length_take]; omega
    have hsh := shaped_send (((a.ps ++ [(u, v)]).drop g)) (g : Int) fun q hq => hok q (List.mem_of_mem_drop hq)
    refine .ret (d := .bool true) (.cmp (Ev.list (ds := [.list (((a.ps ++ [(u, v)]).drop g).map pieceD), .int (g : Int)]) (.cons (.of .name) (.cons (.of (Ev.to .name (by rw [hgt]))) .nil)) (by simp))
      (Ev.list (ds := [.list (((a.ps ++ [(u, v)]).drop g).map pieceD), .int (g : Int)]) (.cons (.of (Ev.to (.sliceL .name (.some .name) .none (by rw [List.length_map]; omega)) (congrArg PyData.list hX))) (.cons (.of .name) .nil)) (by simp)) (CmpR.eqD hsh hsh (PySem.SeqAt.eqv_refl _ (SeqAt.canLay_of_shaped hsh)))) ⟨.inl rfl, ?_⟩
    rw [hb]
    unfold sent
    rw [if_neg h', List.drop_drop]
end Mine
end

section
open PySem PySem.W PyProof.Rows PySem.Calls PySem.Spec
set_option Elab.async false
set_option linter.unusedVariables false
set_option maxRecDepth 100000
namespace Mine


/-! ## enumerate over a list -/
noncomputable def enumD : Nat → List PyData → List PyData
  | _, [] => []
  | i, d :: ds => .tuple [.int (i : Int), d] :: enumD (i + 1) ds
noncomputable def StE (Z : AP) (h₀ : Heap) (e it l : Addr) (items : Array Value) (h : Heap) (ds : List PyData) : Prop := ∃ (i : Nat) (old : Value) (ds0 : List PyData), IsEnum h e it (i : Int) old ∧ h.IsListIter it l i ∧ h.IsList l items ∧ ds = enumD i ds0 ∧ Rps Z h₀ (items.toList.drop i) ds0 ∧ Dat h₀ h
noncomputable def MidE (Z : AP) (h₀ : Heap) (e it l : Addr) (items : Array Value) (h : Heap) (v : Value) (ds : List PyData) : Prop := ∃ (i : Nat) (item : Value) (a : Addr) (ds0 : List PyData), v = .ref a ∧ IsEnumOut h e it (i : Int) item a ∧ h.IsListIter it l i ∧ h.IsList l items ∧ ds = enumD i ds0 ∧ Rps Z h₀ (items.toList.drop i) ds0 ∧ Dat h₀ h

theorem fixI_enum {h : Heap} {e : Addr} {fs : Array Value} (x : h.get? e = some { cls := .type "enumerate", dict := none, data := .fields fs, slots := #[] }) : ∃ o, h.get? e = some o ∧ FixI o :=
  ⟨_, x, ⟨by simp, by simp, fun _ _ q => (by cases q), fun _ q => (by cases q)⟩, by simp, fun _ _ q => (by cases q)⟩
theorem fixI_li {h : Heap} {it l : Addr} {i : Nat} (x : h.IsListIter it l i) : ∃ o, h.get? it = some o ∧ FixI o := by
  obtain ⟨o, e, hc, hd⟩ := x
  exact ⟨o, e, ⟨by rw [hc]; simp, by rw [hc]; simp, fun _ _ q => (by rw [hd] at q; cases q), fun _ q => (by rw [hd] at q; cases q)⟩, by rw [hc]; simp, fun _ _ q => (by rw [hd] at q; cases q)⟩
theorem dat_two {h₀ h h' : Heap} {e it : Addr} (dt : Dat h₀ h) (f1 : ∃ o, h.get? e = some o ∧ FixI o) (f2 : ∃ o, h.get? it = some o ∧ FixI o) (k : ∀ b o, b ≠ e → b ≠ it → h.get? b = some o → h'.get? b = some o) : Dat h₀ h' := fun b o x hc => by
  have y := dt b o x hc
  refine k b o (fun q => ?_) (fun q => ?_) y
  · subst q
    obtain ⟨o1, e1, f⟩ := f1
    rw [e1] at y; cases y
    obtain ⟨⟨vs, n, q⟩, _⟩ := hc
    exact f.2.2 _ _ q
  · subst q
    obtain ⟨o1, e1, f⟩ := f2
    rw [e1] at y; cases y
    obtain ⟨⟨vs, n, q⟩, _⟩ := hc
    exact f.2.2 _ _ q

theorem iter_enum {c : Cx} {Z : AP} {h₀ : Heap} {e it l : Addr} {items : Array Value} {elts : List Expr} {x1} {pos : Pos} (h1 : e ≠ it) (h2 : e ≠ l) (h3 : it ≠ l) : IterM c Z h₀ (.Tuple elts x1 pos) [e, it] e [e, it, l] (StE Z h₀ e it l items) (MidE Z h₀ e it l items) where
  frame := fun h h' ds ⟨i, old, ds0, a, ⟨o, b, rb⟩, ⟨ol, c, rc⟩, q, r, _⟩ k d => ⟨i, old, ds0, k e (by simp) _ a, ⟨o, k it (by simp) _ b, rb⟩, ⟨ol, k l (by simp) _ c, rc⟩, q, r, d⟩
  fix := fun h ds ⟨i, old, ds0, a, b, ⟨ol, el, hcl, nl, hdl⟩, _⟩ x hx => by
    simp only [List.mem_cons, List.not_mem_nil, or_false] at hx
    rcases hx with rfl | rfl | rfl
    · obtain ⟨o, e, f⟩ := fixI_enum a; exact ⟨o, e, f.1⟩
    · obtain ⟨o, e, f⟩ := fixI_li b; exact ⟨o, e, f.1⟩
    · exact ⟨ol, el, by rw [hcl]; simp, by rw [hcl]; simp, fun _ _ q => (by rw [hdl] at q; cases q), fun _ q => (by rw [hdl] at q; cases q)⟩
  fixI := fun h ds ⟨i, old, ds0, a, b, _⟩ x hx => by
    simp only [List.mem_cons, List.not_mem_nil, or_false] at hx
    rcases hx with rfl | rfl
    · exact fixI_enum a
    · exact fixI_li b
  fixM := fun h v ds ⟨i, old, _, ds0, _, a, b, _⟩ x hx => by
    simp only [List.mem_cons, List.not_mem_nil, or_false] at hx
    rcases hx with rfl | rfl
    · exact fixI_enum a
    · exact fixI_li b
  next := fun A s d ds Q E hh ⟨i, old, ds0, a, b, cL, q, r, _⟩ dt hQ => by
    cases ds0 with
    | nil => cases q
    | cons d0 ds0 =>
      cases q
      obtain ⟨v, hv, rv, rs⟩ := rps_head r
      refine wpAny_pyNext_enum_item a b cL hv h1 fun h' a' b' t' hz k => ?_
      have dt' : Dat h₀ h' := dat_two dt (fixI_enum a) (fixI_li b) k
      refine hQ _ h' _ ⟨i + 1, v, _, ds0, rfl, by simpa using a', b', ?_, rfl, rs, dt'⟩ (fun Z' hz' hal => ?_) fun b o hb y => k b o (fun q => hb (by simp [q])) (fun q => hb (by simp [q])) y
      · obtain ⟨ol, el, rl⟩ := cL
        exact ⟨ol, k l _ h2.symm h3.symm el, rl⟩
      · refine .tuple (fun z => ?_) t' rfl rfl (.cons (.int _ _) (.cons (rv.dt (dt'.new hz')) .nil))
        obtain ⟨o, y⟩ := hal _ z
        rw [none_of (Nat.le_refl _)] at y; cases y
  stop := fun A s Q E hh ⟨i, old, ds0, a, b, cL, q, r, dt⟩ hQ => by
    cases ds0 with
    | cons d0 ds0 => cases q
    | nil => exact wpAny_pyNext_enum_end hh a b cL (rps_nil r) fun h' hx => hQ h' _ fun b o nb y => hx b o (fun q => nb (by simp [q])) y
  self := fun A s ds Q E ⟨i, old, ds0, a, _⟩ h => wpAny_pyIter_enum a h
  go := fun A s ds v Q E ⟨i, item, T, ds0, hv, a, b, cL, q, r, _⟩ dt hQ => by
    subst hv
    refine wpAny_letOwnedTupleGo_enum a fun h' a' hs => ?_
    have k : ∀ b o, b ≠ e → s.heap.get? b = some o → h'.get? b = some o := fun b o nb y => (hs.2 b nb).trans y
    obtain ⟨o, e2, rb⟩ := id b
    obtain ⟨ol, el, rl⟩ := id cL
    exact hQ h' ⟨i, item, ds0, a', ⟨o, k _ _ h1.symm e2, rb⟩, ⟨ol, k _ _ h2.symm el, rl⟩, q, r, dat_two dt (fixI_enum a) (fixI_li b) fun b o nb _ y => k b o nb y⟩ fun b o nb y => k b o (fun q => nb (by simp [q])) y

theorem enumD_map {α : Type} (enc : α → PyData) : ∀ (xs : List α) (i : Nat), enumD i (xs.map enc) = (xs.zipIdx i).map fun p => .tuple [.int (p.2 : Int), enc p.1]
  | [], _ => rfl
  | x :: xs, i => by rw [List.map_cons, enumD, enumD_map enc xs (i + 1), List.zipIdx_cons, List.map_cons]

theorem Ev.compEnum {α : Type} {c : Cx} {n : Nat} {sc csc : Scope} {ρ ρi : Loc} {σ : Option Ac} {elts : List Expr} {x1} {tp : Pos} {elt : Expr} {ifs : List Expr} {pos fp cp : Pos} {e : Expr} {f : Str} (g : GlobIs c sc f (.type "enumerate")) (xs : List α) (enc : α → PyData) (hsrc : E1 c n sc ρ σ e (.list (xs.map enc))) (ok : compOkB csc sc = true) (hcap : Cap csc ρi ρ) (p : α × Nat → Bool) (r : α × Nat → PyData)
    (hitem : ∀ x ∈ xs.zipIdx 0, Item c n (relab csc sc) ρi σ (.Tuple elts x1 tp) ifs elt (.tuple [.int (x.2 : Int), enc x.1]) (p x) (r x))
    (hlen : xs.length ≤ 1000000) (he : ∀ env, starEach [e] env = (false, eval e env) :: starEach [] env := by intro _; rfl) (hs : ∀ x env, foldedSetIterable (.Call (.Name f fp) [e] [] cp) env x = pure x := by intro _ _; rfl) :
    E1 c n sc ρ σ (.ListComp elt [⟨.Tuple elts x1 tp, .Call (.Name f fp) [e] [] cp, ifs, 0⟩] csc pos) (.list (((xs.zipIdx 0).filter p).map r)) := fun Z A env s I => by
  have ok := CompOk.of ok
  have ha : Args c n sc ρ σ [e] [.d (.list (xs.map enc))] := .cons (.of hsrc) .nil he
  rw [eval_ListComp]
  refine wpAny_comprehension_free (use := none) rfl (fun x => hs x env) (closure_is fun y hy e => I.cel _ (ok.free y hy e)) ok.kind ok.names ?_
  refine wpAny_Call_NameR (g.name I (PyProof.Rows.callWith_type (ha.1 env cp) (evalArgs_of (ha.1 env cp) ?_)))
  refine ha.2 Z A env s cp I _ _ fun us s₁ P₁ I₁ rr => ?_
  cases rr with
  | cons r1 rr =>
  cases rr
  obtain ⟨l, vs, rfl, z, il, rs⟩ := Rp.list_inv r1
  refine call_enumerate_list il fun h₂ e₂ i₂ hz₂ k₂ => ?_
  refine wpAny_pyIter_enum e₂ ?_
  have hIn : s₁.heap.get? s₁.heap.objs.size = none := none_of (Nat.le_refl _)
  have hEn : s₁.heap.get? (s₁.heap.objs.size + 1) = none := none_of (Nat.le_succ _)
  have hl : l < s₁.heap.objs.size := by obtain ⟨ol, el, _⟩ := id il; exact Heap.lt_size el
  have P₂ : Post c Z σ σ s { s₁ with heap := h₂, toks := s₁.toks } := P₁.upto k₂
  have ne1 : s₁.heap.objs.size + 1 ≠ s₁.heap.objs.size := Nat.succ_ne_self _
  have ne2 : s₁.heap.objs.size + 1 ≠ l := Nat.ne_of_gt (Nat.lt_succ_of_lt hl)
  have ne3 : s₁.heap.objs.size ≠ l := Nat.ne_of_gt hl
  have st : StE Z h₂ (s₁.heap.objs.size + 1) s₁.heap.objs.size l vs.toArray h₂ ((xs.zipIdx 0).map fun p => .tuple [.int (p.2 : Int), enc p.1]) :=
    ⟨0, _, xs.map enc, e₂, i₂, by (obtain ⟨ol, el, rl⟩ := id il; exact ⟨ol, k₂ _ _ el, rl⟩), (enumD_map enc xs 0).symm, by simpa using rs.step (.of_keep k₂), .refl _⟩
  refine comp_runM (RR := fun acc C => compPost c.M A NoE none (fun v s' => Post c Z σ σ s s' ∧ Rp Z s'.heap v (.list (((xs.zipIdx 0).filter p).map r))) acc C) I P₂ ok hcap (iter_enum ne1 ne2 ne3) st (fun a ea m => ?_) (fun i m => ?_) (fun i m => ?_) hitem (by simpa using hlen) fun D C s' P r hm hC hC2 => ?_
  · have hacc := P₁.acc a ea
    simp only [List.mem_cons, List.not_mem_nil, or_false] at m
    rcases m with m | m | m
    · exact acc_old hacc hEn m
    · exact acc_old hacc hIn m
    · obtain ⟨ol, el, hcl, _⟩ := id il
      exact acc_ne hacc el (by rw [hcl]; simp) m
  · simp only [List.mem_cons, List.not_mem_nil, or_false] at m
    rcases m with rfl | rfl
    · exact P₁.stp.fresh hEn
    · exact P₁.stp.fresh hIn
  · simp only [List.mem_cons, List.not_mem_nil, or_false] at m
    rcases m with rfl | rfl
    · exact P₁.stp.old.new (Nat.le_succ _)
    · exact P₁.stp.old.new (Nat.le_refl _)
  obtain ⟨m, hm'⟩ := id hm
  refine ⟨m, hm', fun h' hs' => ?_⟩
  obtain ⟨⟨o, e⟩, k, dt⟩ := dict_off hm hs'
  refine ⟨⟨P.stp.but (tk := s'.toks) hC e hC2 k, fun a ea => ?_, rfl⟩, r.step dt⟩
  obtain ⟨⟨o1, e1⟩, o2, e2⟩ := (I.acc a ea).1.alive
  exact (P.acc a ea).dt (fun o => k _ _ fun q => by rw [q, hC] at e1; cases e1) (fun o => k _ _ fun q => by rw [q, hC] at e2; cases e2) dt.dt
end Mine
end

section
open PySem PySem.W PyProof.Rows PySem.Calls PySem.Spec
set_option Elab.async false
set_option linter.unusedVariables false
set_option maxRecDepth 100000
namespace Mine

/-! ## a call, with its leaving -/
theorem Post.leave0 {c : Cx} {Z : AP} {n : Nat} {A : Around} {env : Env} {s s₁ s' : Shared} (p : Pre c Z n none A s) (P : Post c Z none none s s₁) (M : PostF c env none none s₁ s') (hL : s.heap.get? env.locals = none)
    (hC : ∀ x a, env.cells.lookup x = some a → s.heap.get? a = none) : Post c Z none none s s' := by
  refine ⟨⟨fun b o e nb => ?_, P.stp.dat.trans M.stp.dat, fun b o e => (P.stp.al b o e).elim fun o' e' => M.stp.al b o' e', M.stp.old, M.stp.gens, M.stp.os.trans P.stp.os⟩, fun a e => (by cases e), rfl⟩
  obtain ⟨o', e', s1⟩ := P.stp.kp b o e nb
  obtain ⟨o'', e'', s2⟩ := M.stp.kp b o' e' (fun q => nb (q.imp id fun q => q.imp id fun q => by
    rcases q with q | ⟨_, x, q⟩ | q
    · rw [q, hL] at e; cases e
    · rw [hC x b q] at e; cases e
    · exact q))
  exact ⟨o'', e'', s1.trans s2⟩

theorem call_enter {c : Cx} {Z : AP} {n : Nat} {A : Around} {s : Shared} {us : List Value} {a : Addr} {args : List V} {df : Df} {names : List Str} (D : DefAt c a df .none []) (ok : okDf df names = true)
    (hbind₀ : ∀ fd : FuncData, fd.params = df.params → fd.defaults = .none → fd.kwdefaults = .none → ∀ us : List Value, us.length = args.length → bindArgs fd ⟨us, []⟩ = pure (names.zip us)) (hlen : names.length = args.length)
    (p : Pre c Z (n + 1) none A s) (r : RVs Z s.heap none us args) {R : Result → Shared → Prop}
    (h : ∀ env s₂, In c Z n df.scope (names.zip args).reverse none (A.deeper env) env s₂ → (∀ s', PostF c env none none s₂ s' → Post c Z none none s s') → (s.heap.get? env.locals = none) →
      wpAny c.M (A.deeper env) (execs df.body env) (fun f s' => R (.ok (.ret (match f with | .ret v => v | _ => .none))) s') (fun e s' => wpAny c.M (A.deeper env) (leaving env e) (fun _ s'' => R (.error e) s'') (fun e' s'' => R (.error e') s'') s') s₂) :
    codeAny c.M A (.call (.ref a) ⟨us, []⟩) R s := by
  obtain ⟨oc, od, osl, fd, ho, hp, hb, hsc, hg, hbi, hcl, hcd, hd, hkw⟩ := D.it
  simp only [okDf, Bool.and_eq_true, Bool.not_eq_true', beq_iff_eq, decide_eq_true_eq, List.all_eq_true, Bool.or_eq_true, bne_iff_ne] at ok
  obtain ⟨⟨⟨⟨⟨hco, hgen⟩, hk⟩, hcells⟩, hnofree⟩, o6⟩ := ok
  have hbind := hbind₀ fd hp hd hkw
  have hsto : ∀ x ∈ names, Sto df.scope x := fun x hx => (o6 x hx).imp id fun e => ⟨rfl, e⟩
  obtain ⟨body, sc, hbody, hsc'⟩ : ∃ body sc, df.body = body ∧ df.scope = sc := ⟨_, _, rfl, rfl⟩
  rw [hbody] at hb h
  rw [hsc'] at hsc h hco hgen hk hcells hnofree hsto
  have hdep : A.depth < recursionLimit := by have := p.room.dep; show A.depth < 1000; omega
  refine codeAny_call_function hdep (p.old.kin a _ ho) rfl (by rw [hsc]; exact hco) (by rw [hsc]; exact hgen) hb (codeRec_of p.old.kin hcd) ?_
  rw [hbind us r.length, hsc, hg, hbi, hcl]
  refine wpAny_pure ?_
  simp only [newFunctionEnv, Option.isSome_none, Bool.false_eq_true, if_false]
  refine wpAny_bind (wpAny_alloc ?_)
  refine wpAny_bind (wpAny_layCells _ (fun name kind cells => by cases hkc : kind == NameKind.cell <;> simp [hkc]) _ _ _ _ ?_)
  have ok := cellsFrom_ok sc.names (s.heap.push { cls := .type "frame", data := .dict #[] }) (s.heap.objs.size + 1) [] ⟨fun _ _ hm => (nomatch hm), List.Pairwise.nil⟩ (by rw [Heap.size_push]; exact Nat.le_refl _)
  rw [Heap.size_push] at ok
  rw [show ({ s with heap := s.heap.push { cls := .type "frame", data := .dict #[] } } : Shared).heap.objs.size = s.heap.objs.size + 1 from Heap.size_push ..]
  generalize hcs : cellsFrom (s.heap.objs.size + 1) sc.names [] = cs at ok
  generalize hh₁ : pushCells (s.heap.push { cls := .type "frame", data := .dict #[] }) sc.names = h₁ at ok
  have old : ∀ b o, s.heap.get? b = some o → h₁.get? b = some o := fun b o e => hh₁ ▸ pushCells_keeps _ _ b o (Heap.get?_push_of_some _ e)
  have hL : h₁.get? s.heap.objs.size = some { cls := .type "frame", data := .dict #[] } := hh₁ ▸ pushCells_keeps _ _ _ _ (Heap.get?_push_size _ rfl)
  have hLn : s.heap.get? s.heap.objs.size = none := none_of (Nat.le_refl _)
  have P₁ : Post c Z none none s { s with heap := h₁ } := p.heap old
  have p₁ := p.post P₁
  have hmemc : ∀ {x : Str} {b : Addr}, cs.lookup x = some b → (x, b) ∈ cs := fun e => mem_of_lookup e
  have hnames : ∀ x b, (x, b) ∈ cs → sc.names.lookup x = some .cell ∨ True := fun _ _ _ => .inr trivial
  have hfresh : ∀ x b, (x, b) ∈ cs → s.heap.get? b = none := fun x b m => none_of (Nat.le_of_lt (ok.empty x b m).2)
  have hbig : 235 ≤ s.heap.objs.size := p.old.new (Nat.le_refl _)
  have I₁ : In c Z n sc [] none A.in1 (callEnv sc s.heap.objs.size cs fd.qualname a fd.code) { s with heap := h₁ } := by
    refine ⟨p₁.old, p₁.gens, p₁.zal, ⟨p₁.room.hd, by have := p₁.room.dep; show A.depth + n ≤ 900; omega, by have := p₁.room.uni; show A.units + 1 + 100 * n ≤ 9000; omega, p₁.room.fr⟩, rfl, hk, rfl, rfl, fun a' e => ⟨p₁.acc a' e, fun q => ?_⟩, ⟨fun _ => none, ?_, fun x v e => by cases e⟩, fun x hx => ?_, fun x b e => ⟨none, (ok.empty x b (hmemc e)).1⟩, fun x y b e1 e2 => name_of_addr ok.apart (hmemc e1) (hmemc e2), hbig, ⟨_, _, rfl, hbig, hL, rfl, _, _, rfl⟩, fun x b _ e => Nat.le_trans hbig (Nat.le_of_lt (ok.empty x b (hmemc e)).2)⟩
    · obtain ⟨_, o, e2⟩ := (p.acc a' e).alive
      have q' : a'.dict = s.heap.objs.size := q
      rw [q', hLn] at e2; cases e2
    · exact ⟨_, #[], 0, hL, rfl, fun _ he => by simp at he, fun _ => rfl⟩
    · rcases hx with hx | hx
      · have := cellsFrom_some sc.names (s.heap.objs.size + 1) [] (.inl hx)
        rw [hcs] at this
        exact Option.isSome_iff_exists.mp this
      · exact absurd rfl (hnofree _ (lookup_mem hx))
  refine wpAny_bind (In.params (env := callEnv sc s.heap.objs.size cs fd.qualname a fd.code) (all := true) _ (fun _ _ _ => rfl) I₁ (r.mono rfl P₁.stp.dat) hlen hsto fun s₂ I₂ M₂ => wpAny_pure ⟨I₂.old.lim, codeAny_func ?_⟩)
  rw [List.append_nil] at I₂
  have I₃ : In c Z n sc (names.zip args).reverse none (A.deeper (callEnv sc s.heap.objs.size cs fd.qualname a fd.code)) (callEnv sc s.heap.objs.size cs fd.qualname a fd.code) s₂ := by
    refine { I₂ with room := ⟨p.room.hd, by have := p.room.dep; show A.depth + 1 + n ≤ 900; omega, by have := p.room.uni; show A.units + 3 + 100 * n ≤ 9000; omega, ?_⟩ }
    obtain ⟨l, e, f⟩ := I₂.room.fr
    have e' : A.frames = some l := e
    refine ⟨callEnv sc s.heap.objs.size cs fd.qualname a fd.code :: l, by show A.frames.map _ = _; rw [e']; rfl, fun env m => ?_⟩
    rcases List.mem_cons.mp m with rfl | m
    · exact ⟨by show sc.kind ≠ .module; rw [hk]; decide, I₂.fr⟩
    · exact f env m
  refine h _ s₂ I₃ (fun s' M => ?_) hLn
  exact Post.leave0 p P₁ (M₂.trans M) hLn fun x b e => hfresh x b (hmemc e)
end Mine
end

section
open PySem PySem.W PyProof.Rows PySem.Calls PySem.Spec
set_option Elab.async false
set_option linter.unusedVariables false
set_option maxRecDepth 100000
namespace Mine

/-! ## the heap but for the frames -/
noncomputable def frCls : Value → Bool
  | .type n => n == "frame"
  | _ => false
noncomputable def isDict : Data → Bool
  | .dict _ _ => true
  | _ => false
noncomputable def isFr (o : Obj) : Bool := frCls o.cls && isDict o.data
theorem isFr_iff {o : Obj} : isFr o = true ↔ o.cls = .type "frame" ∧ ∃ es k, o.data = .dict es k := by
  have h1 : frCls o.cls = true ↔ o.cls = .type "frame" := by
    generalize o.cls = v
    constructor
    · intro h
      cases v <;> first | (cases h; done) | exact congrArg Value.type (beq_iff_eq.mp h)
    · rintro rfl; rfl
  have h2 : isDict o.data = true ↔ ∃ es k, o.data = .dict es k := by
    generalize o.data = d
    constructor
    · intro h
      cases d <;> first | (cases h; done) | exact ⟨_, _, rfl⟩
    · rintro ⟨es, k, rfl⟩; rfl
  unfold isFr
  rw [Bool.and_eq_true, h1, h2]
noncomputable def strip (h : Heap) : Heap := ⟨h.objs.mapIdx fun i o => if decide (235 ≤ i) && isFr o then ⟨.none, none, .freed, #[]⟩ else o, h.life⟩
theorem strip_get {h : Heap} {a : Addr} {o : Obj} : (strip h).get? a = some o ↔ h.get? a = some o ∧ ¬ (235 ≤ a ∧ isFr o = true) := by
  rw [Heap.get?_some_iff, Heap.get?_some_iff]
  unfold strip
  simp only [Array.getElem?_mapIdx]
  cases h.objs[a]? with
  | none => simp
  | some o₁ =>
    simp only [Option.map_some]
    by_cases hf : 235 ≤ a ∧ isFr o₁ = true
    · have : (decide (235 ≤ a) && isFr o₁) = true := by rw [Bool.and_eq_true, decide_eq_true_eq]; exact hf
      rw [if_pos this]
      constructor
      · rintro ⟨h1, h2⟩
        cases h1; cases h2
      · rintro ⟨⟨h1, _⟩, h3⟩
        cases h1; exact absurd hf h3
    · have : ¬ (decide (235 ≤ a) && isFr o₁) = true := by rw [Bool.and_eq_true, decide_eq_true_eq]; exact hf
      rw [if_neg this]
      constructor
      · rintro ⟨h1, h2⟩
        cases h1; exact ⟨⟨rfl, h2⟩, hf⟩
      · rintro ⟨⟨h1, h2⟩, h3⟩
        cases h1; exact ⟨rfl, h2⟩
theorem strip_stays (h : Heap) : (strip h).StaysIn h := fun _ _ e => (strip_get.mp e).1
theorem strip_none {h : Heap} {a : Addr} (e : h.get? a = none) : (strip h).get? a = none := by
  cases q : (strip h).get? a with
  | none => rfl
  | some o => rw [(strip_get.mp q).1] at e; cases e
theorem FFrames.fun {h : Heap} : ∀ {l : List Env}, FFrames h l → h.FunFrames (strip h) l
  | [], _ => trivial
  | env :: l, f => by
    obtain ⟨h1, L, o, h2, h3, h4, h5, es, k, h6⟩ := f env (.head _)
    refine ⟨h1, ⟨L, o, h2, ?_, h4, fun vs q => by rw [h6] at q; cases q⟩, FFrames.fun fun e m => f e (.tail _ m)⟩
    cases q : (strip h).get? L with
    | none => rfl
    | some o' =>
      obtain ⟨q1, q2⟩ := strip_get.mp q
      rw [h4] at q1; cases q1
      exact absurd ⟨h3, isFr_iff.mpr ⟨h5, es, k, h6⟩⟩ q2

theorem slots_same {h h' : Heap} (k : (strip h).StaysIn h') (u : h.UpToSlots h') : ∀ b o, h.get? b = some o → ∃ o', h'.get? b = some o' ∧ Same o o' := fun b o e => by
  by_cases hf : 235 ≤ b ∧ isFr o = true
  · obtain ⟨h1, es, n, h2⟩ := isFr_iff.mp hf.2
    obtain ⟨sl, e'⟩ := u b o e fun vs q => by rw [h2] at q; cases q
    exact ⟨_, e', .inr ⟨h1, sl, rfl⟩⟩
  · exact ⟨o, k b o (strip_get.mpr ⟨e, hf⟩), .refl _⟩
theorem slots_low {h h' : Heap} (k : (strip h).StaysIn h') : ∀ b o, b < 235 → h.get? b = some o → h'.get? b = some o := fun b o hb e =>
  k b o (strip_get.mpr ⟨e, fun q => absurd q.1 (Nat.not_le.mpr hb)⟩)
/-- only the frames' slots are turned -/
theorem Old.slots {c : Cx} {h h' : Heap} (O : Old c h) (k : (strip h).StaysIn h') : Old c h' := by
  have lo := slots_low k
  have tab : ∀ {cd P : Addr}, cd < 235 → P < 235 → Tab h cd P → Tab h' cd P := by
    rintro cd P h1 h2 ⟨ps, x, y⟩
    refine ⟨ps, isCode_at x (fun o => lo _ o h1) (fun o => lo _ o h2), ?_⟩
    obtain ⟨⟨o₁, vs, q1, q⟩, y2⟩ := y
    exact ⟨⟨o₁, vs, lo _ _ h1 q1, q⟩, lo _ _ h2 y2⟩
  exact ⟨fun b o e h1 h2 => lo b o (c.size ▸ Heap.lt_size e) (O.keep b o e h1 h2), tab (by decide) (by decide) O.t1, tab (by decide) (by decide) O.t2, fun P hP ps e => (O.ex P hP ps e).elim fun m q => ⟨m, lo P _ (by rcases hP with rfl | rfl <;> decide) q⟩⟩
theorem Post.slots {c : Cx} {Z : AP} {s s₁ : Shared} (P : Post c Z none none s s₁) {h' : Heap} {tk : Tok} (k : (strip s₁.heap).StaysIn h') (u : s₁.heap.UpToSlots h') : Post c Z none none s { s₁ with heap := h', toks := tk } := by
  have kp := slots_same k u
  refine ⟨⟨fun b o e nb => ?_, fun b o e hc => ?_, fun b o e => ?_, P.stp.old.slots k, P.stp.gens, P.stp.os⟩, fun a e => (by cases e), rfl⟩
  · obtain ⟨o₁, e₁, s1⟩ := P.stp.kp b o e nb
    obtain ⟨o₂, e₂, s2⟩ := kp b o₁ e₁
    exact ⟨o₂, e₂, s1.trans s2⟩
  · refine k b o (strip_get.mpr ⟨P.stp.dat b o e hc, fun q => ?_⟩)
    obtain ⟨h1, es, n, h2⟩ := isFr_iff.mp q.2
    obtain ⟨⟨vs, m, h3⟩, _⟩ := hc
    rw [h2] at h3; cases h3
  · obtain ⟨o₁, e₁⟩ := P.stp.al b o e
    obtain ⟨o₂, e₂, _⟩ := kp b o₁ e₁
    exact ⟨o₂, e₂⟩

/-- the own exception class -/
abbrev bmE : List Value := [.type "Exception", .type "BaseException", .type "object"]
structure ExcFacts (c : Cx) : Prop where
  own : ∃ bm N nm q bs hdct sn sub ab col dd k0 k1 k2 k3 k5 mN, (∀ n ∈ quietNames, mN n = none) ∧ ∀ h, c.K.In h → h.get? 127 = some (excClassObj nm q 127 N bs bm hdct sn sub ab col dd k0 k1 k2 k3 k5 "Exception.__new__") ∧ h.Ns N mN ∧ OwnTailQ h bmE bm
  str : findIn c.K (.ref 127) "__str__" = some (some (.builtin "BaseException.__str__"))
  bound : c.mg "error_reply" = some (.ref 127)
theorem ExcFacts.cls {c : Cx} (X : ExcFacts c) {h : Heap} (k : c.K.In h) : OwnClsQ "error_reply" 127 bmE "Exception.__new__" c.mg h := by
  obtain ⟨bm, N, nm, q, bs, hdct, sn, sub, ab, col, dd, k0, k1, k2, k3, k5, mN, hq, hx⟩ := X.own
  obtain ⟨hC, hN, T⟩ := hx h k
  exact ⟨X.bound, bm, N, nm, q, bs, hdct, sn, sub, ab, col, dd, k0, k1, k2, k3, k5, mN, hC, hN, hq, T⟩

theorem ex_if {c : Cx} {n : Nat} {sc : Scope} {ρ : Loc} {Z : AP} {A : Around} {env : Env} {s : Shared} {t : Expr} {body orelse : List Stmt} {pos : Pos} {Q : Flow → Shared → Prop} {E : Value → Shared → Prop} (I : In c Z n sc ρ none A env s) (ht : EvB c n sc ρ none t true none)
    (h : ∀ s', Post c Z none none s s' → In c Z n sc ρ none A env s' → wpAny c.M A (execs body env) Q E s') : wpAny c.M A (exec (.If t body orelse pos) env) Q E s := by
  refine wpAny_If (wp_mono (ht Z A env s I) fun r s' ⟨e, P⟩ => ?_)
  subst e
  exact h s' P (I.post P)

/-- what flies out of parse257 -/
noncomputable def Flies (c : Cx) (Z : AP) (l : List Env) (x : List Nat) (s : Shared) (e : Addr) (s' : Shared) : Prop :=
  ∃ t base tk, Post c Z none none s s' ∧ Heap.FlyingW base l e (.ref 127) (.ref t) s'.heap ∧ s'.heap.TupAt t [.str (tx x) tk] ∧ (∃ s₀, Post c Z none none s s₀ ∧ base = strip s₀.heap ∧ s₀.heap.UpToSlots s'.heap ∧ s'.gens = s₀.gens ∧ s'.os = s₀.os)

theorem parse_raises {c : Cx} {n : Nat} {x : List Nat} {Z : AP} {A : Around} {s : Shared} {us : List Value} {l : List Env} (D : DefAt c 136 dParse .none []) (X : ExcFacts c) (gx : GlobIs c dParse.scope "error_reply" (.ref 127)) (hbig : x.length ≤ 1000) (hp : x.take 3 ≠ [50, 53, 55]) (h3 : 3 ≤ x.length)
    (p : Pre c Z (n + 1) none A s) (hfr : A.frames = some l) (r : RVs Z s.heap none us [.d (.str (tx x))]) :
    codeAny c.M A (.call (.ref 136) ⟨us, []⟩) (fun r s' => ∃ e, r = .error (.ref e) ∧ Flies c Z l x s e s') s := by
  refine call_enter (names := ["resp"]) D (by decide +kernel) (fun fd e1 e2 e3 us hu => ?_) rfl p r fun env s₂ I fin hL => ?_
  · obtain ⟨u, rfl⟩ := args1 hu
    rw [fd_is e1 e2 e3]; rfl
  refine wpAny_execs_cons (ex_if I (EvB.to (.cmp (b := .str (tx [50, 53, 55])) ((Ev.sliceS .name .none (.some .int) (by rw [tx_length]; omega)).to (congrArg PyData.str (slice_str0 x 3 (by omega)))) (.lit (l := [50, 53, 55])) .neL) (by simpa using hp)) fun s₃ P₃ I₃ => ?_)
  refine wpAny_execs_cons ?_
  obtain ⟨tl, N, nm, q, bs, hdct, sn, sub, ab, col, dd, k0, k1, k2, k3, k5, mN, hq, hx⟩ := X.own
  obtain ⟨hC, hN, T⟩ := hx _ I₃.old.kin
  refine wpAny_Raise_call_subT (C := 127) (nm := nm) (q := q) (N := N) (bs := bs) (bm := tl) (hdct := hdct) (sn := sn) (sub := sub) (ab := ab) (col := col) (dd := dd) (k0 := k0) (k1 := k1) (k2 := k2) (k3 := k3) (k5 := k5) (newId := "Exception.__new__")
    PySem.F.excBase_Exception (mN := mN) (T.tail.hasType (by rfl)) I₃.room.hd (by rfl) (hq _ (.head _)) (gx.name I₃ ⟨rfl, ?_⟩)
  have ha : ∀ pos, Args c n dParse.scope ([("resp", V.d (.str (tx x)))] : Loc) none [.Name "resp" pos] [.d (.str (tx x))] := fun pos => .cons (.of .name) .nil
  refine evalArgs_of ((ha _).1 env _) ((ha _).2 Z _ env s₃ _ I₃ _ _ fun vs s₄ P₄ I₄ rr => ?_)
  cases rr with
  | cons r1 rr =>
  cases rr
  obtain ⟨tk, rfl⟩ := Rp.str_inv r1
  obtain ⟨hC₄, hN₄, T₄⟩ := hx _ I₄.old.kin
  refine ⟨rfl, (by rw [sizeLine_eq]; simp), hC₄, hN₄, T₄.tail, fun h' e hm => ?_⟩
  obtain ⟨L, oL, hf, hL2, hL3, hL4, hL5⟩ := I₄.fr
  have hfr' : (A.deeper env).frames = some (env :: l) := Around.frames_deeper hfr
  obtain ⟨l', el, fl⟩ := I₄.room.fr
  rw [hfr'] at el
  cases el
  refine wpAny_leaves_madeW (base := strip s₄.heap) (h := s₄.heap) hfr' hf (strip_stays _) fl.fun hm fun h₅ t F₅ t₅ n₅ u₅ => ?_
  have P₄' : Post c Z none none s s₄ := fin _ (P₃.toF.trans P₄.toF)
  have u : s₄.heap.UpToSlots h₅ := (Heap.UpToSlots.of_keeps hm.keeps).trans u₅
  exact ⟨e, rfl, t, strip s₄.heap, tk, P₄'.slots (tk := s₄.toks) F₅.1 u, F₅, t₅, s₄, P₄', rfl, u, rfl, rfl⟩
end Mine
end

section
open PySem PySem.W PyProof.Rows PySem.Calls PySem.Spec
set_option Elab.async false
set_option linter.unusedVariables false
set_option maxRecDepth 100000
namespace Mine

theorem bstr_kind : builtinKind "BaseException.__str__" = some .slot := by decide +kernel
theorem bstr_split : splitId "BaseException.__str__" = some ("BaseException", "__str__") := by decide +kernel

section
variable {c : Cx} {A : Around} {s : Shared} {e t : Addr} {x : Str} {tk : Tok} {E : Value → Shared → Prop}

theorem exc_args {M : Model} {items : List Value} {o : Obj} {vs : Array Value} {Q : Value × List Value → Shared → Prop} (ho : s.heap.get? e = some o) (hd : o.data = .fields vs) (h0 : vs[0]? = some (.ref t)) (ht : s.heap.TupAt t items) (hq : Q (.ref t, items) s) :
    wpAny M A (Builtin.BaseException.bexcArgs (.ref e)) Q E s := by
  obtain ⟨ot, k, hto, _, htd⟩ := ht
  unfold Builtin.BaseException.bexcArgs
  refine wpAny_bind (wpAny_field ho hd h0 (wpAny_bind (wpAny_seqItems hto htd ?_)))
  have : items.toArray.toList = items := by simp
  show wpAny M A (pure (Value.ref t, items.toArray.toList)) Q E s
  rw [this]; exact wpAny_pure hq

theorem exc_check {Q : Unit → Shared → Prop} {o : Obj} (X : ExcFacts c) (K : c.K.In s.heap) (ho : s.heap.get? e = some o) (hc : o.cls = .ref 127) (hq : Q () s) : wpAny c.M A (checkBuiltinCall "BaseException.__str__" ⟨[.ref e], []⟩) Q E s := by
  obtain ⟨tl, N, nm, q, bs, hdct, sn, sub, ab, col, dd, k0, k1, k2, k3, k5, mN, _, hx⟩ := X.own
  obtain ⟨hC, hN, T⟩ := hx _ K
  have hcB : (Value.ref 127 :: tl).contains (.type "BaseException") = true := by rw [List.contains_cons, T.tail.hasType (b := true) (by rfl), Bool.or_true]
  have ha := PySem.F.args_bexc_str (.ref e)
  obtain ⟨hp, g, d, tk, os⟩ := s
  simp only [checkBuiltinCall, bstr_kind, bstr_split]
  refine wpAny_bind ?_
  unfold isInstance
  repeat (first | (with_reducible refine wpAny_loadPart_at ho ?_; rw [hc]) | with_reducible refine wpAny_loadPart_at hC ?_ | (with_reducible refine wpAny_isSubtype_exc hC ?_; rw [hcB]) | wp_step)
  exact hq

theorem exc_str_call {Q : Value → Shared → Prop} {o : Obj} {vs : Array Value} (X : ExcFacts c) (K : c.K.In s.heap) (ho : s.heap.get? e = some o) (hc : o.cls = .ref 127) (hd : o.data = .fields vs) (h0 : vs[0]? = some (.ref t)) (ht : s.heap.TupAt t [.str x tk]) (hq : Q (.str x tk) s) :
    wpAny c.M A (call (.builtin "BaseException.__str__") [.ref e]) Q E s := by
  refine wpAny_call (codeAny_call_builtin (b := Builtin.«BaseException.__str__») (by decide +kernel) PySem.F.entry_bexc_str (exc_check X K ho hc ?_))
  unfold Builtin.«BaseException.__str__»
  repeat (first | with_reducible refine exc_args ho hd h0 ht ?_ | wp_step)
  exact hq

theorem exc_strOf {Q : Value → Shared → Prop} {o : Obj} {vs : Array Value} (hu : A.units < cLine) (X : ExcFacts c) (K : c.K.In s.heap) (ho : s.heap.get? e = some o) (hc : o.cls = .ref 127) (hd : o.data = .fields vs) (h0 : vs[0]? = some (.ref t)) (ht : s.heap.TupAt t [.str x tk]) (hq : Q (.str x tk) s) :
    wpAny c.M A (PySem.Builtin.Str.strOf (.ref e)) Q E s := by
  unfold PySem.Builtin.Str.strOf
  rw [show Builtin.Str.isExactStr (.ref e) = false from rfl]
  refine wpAny_bind (m := cRoomFor _ _) (wpAny_cRoomFor hu ?_)
  refine wpAny_bind (m := callSpecial? (.ref e) (Str.ofString "__str__")) ?_
  have hT : Looks c.M s.heap (typeOf (.ref e)) (.ref 127) := by
    exact hc ▸ (Looks.ld (part := none) ho).andThen .now
  refine wpAny_bind (wpAny_bind (hT.here ((looks_findIn K X.str).here (wpAny_holding (wpAny_bind ?_)))))
  rw [PySem.F.excStr_Exception.str.bind]
  refine wpAny_pure (wpAny_bind (wpAny_mono (exc_str_call X K ho hc hd h0 ht (Q := fun v s' => v = .str x tk ∧ s' = s) (E := E) ⟨rfl, rfl⟩) (fun v s' h' => ?_) fun _ _ z => z))
  obtain ⟨rfl, rfl⟩ := h'
  exact wpAny_pure (wpAny_pure hq)

open Builtin Builtin.Str in
theorem exc_str {Q : Value → Shared → Prop} {o : Obj} {vs : Array Value} (hu : A.in1.in1.units < cLine) (X : ExcFacts c) (K : c.K.In s.heap) (ho : s.heap.get? e = some o) (hc : o.cls = .ref 127) (hd : o.data = .fields vs) (h0 : vs[0]? = some (.ref t)) (ht : s.heap.TupAt t [.str x tk]) (hq : Q (.str x tk) s) :
    wpAny c.M A (call (.type "str") [.ref e]) Q E s := by
  refine callType_codes (T := "str") (Bi := Builtin.«object.__init__») (Q₁ := fun r s₁ => r = .str x tk ∧ s₁ = s) PySem.F.called_str (PySem.F.typeCall_str_1 _) PySem.F.entry_object_init ?_ ?_
  · refine codeAny_of_tree ?_
    show wpAny _ A.in1.in1 (do checkBuiltinCall "str.__new__" ⟨[.type "str", .ref e], []⟩; again (.builtin "str.__new__" ⟨[.type "str", .ref e], []⟩)) _ _ s
    refine wpAny_bind (wpAny_of_eq (PySem.F.newCall_str_1 _) (wpAny_pure ⟨plainId_quiet (by decide +kernel) _, codeAny_builtin PySem.F.entry_str_new ?_⟩))
    rw [Around.under_plainId (by decide +kernel) _]
    rw [str_new_tree]
    refine wpAny_bind (wpAny_pure ?_)
    refine wpAny_bind (wpAny_of_eq isSubtype_str_str ?_)
    refine wpAny_bind (wpAny_mono (exc_strOf hu X K ho hc hd h0 ht (Q := fun r s₁ => r = .str x tk ∧ s₁ = s) (E := fun _ _ => False) ⟨rfl, rfl⟩) (fun r s₁ hr => ?_) fun _ _ y => y.elim)
    exact wpAny_pure hr
  · rintro obj s₁ ⟨rfl, rfl⟩
    exact ⟨typeIs_str _ _ _, PySem.F.args_object_init_2 _ _, object_init_meets PySem.F.called_str.init.lookup PySem.F.called_str.made (by decide) pg c.w A.in1 _ s₁ ⟨typeIs_str _ _ _, rfl, hq⟩⟩
end
end Mine
end

section
open PySem PySem.W PyProof.Rows PySem.Calls PySem.Spec
set_option Elab.async false
set_option linter.unusedVariables false
set_option maxRecDepth 100000
namespace Mine

theorem Post.slots' {c : Cx} {Z : AP} {s s₁ s' : Shared} (P : Post c Z none none s s₁) (k : (strip s₁.heap).StaysIn s'.heap) (u : s₁.heap.UpToSlots s'.heap) (hg : s'.gens = s₁.gens) (ho : s'.os = s₁.os) : Post c Z none none s s' := by
  have q := P.slots (tk := 0) k u
  exact ⟨⟨q.stp.kp, q.stp.dat, q.stp.al, q.stp.old, by rw [hg]; exact P.stp.gens, ho.trans P.stp.os⟩, fun a e => (by cases e), rfl⟩

theorem PostM.locals {c : Cx} {env : Env} {s : Shared} {h' : Heap} {tk : Tok} (O : Old c s.heap) (G : AllBare s.gens) (h235 : 235 ≤ env.locals) (hn : ∃ m, s.heap.Ns env.locals m) (hn' : ∃ m, h'.Ns env.locals m) (hs : Heap.SameBut env.locals s.heap h') :
    PostF c env none none s { s with heap := h', toks := tk } := by
  have k : ∀ b o, b ≠ env.locals → s.heap.get? b = some o → h'.get? b = some o := fun b o nb e => (hs.2 b nb).trans e
  obtain ⟨m, o, es, ep, e, hd, _⟩ := hn
  refine ⟨⟨.of_keep fun b o hb e => k b o (fun q => hb (.inr (.inr (.inl q)))) e, fun b o' e' hc => k b o' (fun q => ?_) e', fun b o' e' => ?_, O.but e h235 k, G, rfl⟩, rfl⟩
  · subst q
    rw [e] at e'; cases e'
    obtain ⟨⟨vs, q, z⟩, _⟩ := hc
    rw [hd] at z; cases z
  · by_cases q : b = env.locals
    · subst q
      obtain ⟨m', o₂, _, _, e₂, _⟩ := hn'
      exact ⟨o₂, e₂⟩
    · exact ⟨o', k b o' q e'⟩

theorem Ss.tryOk {c : Cx} {n : Nat} {sc : Scope} {ρ : Loc} {σ : Option Ac} {Q : QT} {body rest : List Stmt} {h₀ : ExceptHandler} {hs : List ExceptHandler} {pos : Pos} (h : Ss c n sc ρ σ body Q) (hq : ∀ ρ' σ', ¬ Q .next ρ' σ') : Ss c n sc ρ σ (.Try body (h₀ :: hs) [] [] pos :: rest) Q := fun Z A env s I => by
  refine wpAny_execs_cons (wpAny_Try_except (wp_mono (h Z A env s I) fun f s₁ ⟨o, ρ', σ', q, I', P, F⟩ => ?_))
  cases f <;> cases o <;> first | exact F.elim | exact absurd q (hq _ _) | exact ⟨_, ρ', σ', q, I', P, F⟩

theorem fn_name {c : Cx} {n : Nat} {l : List Nat} (D : DefAt c 223 dName .none []) (DP : DefAt c 136 dParse .none []) (hlen : GlobIs c dParse.scope "len" (.builtin "len")) (gp : GlobIs c dName.scope "parse257" (.ref 136)) (hk : keepIn c.K (.ref 136) = true) (h5 : 5 ≤ l.length) (hbig : l.length ≤ 1000) (hp : l.take 3 = [50, 53, 55]) :
    Fn c (n + 2) 223 [.d (.str (tx l))] none (.str (tx (parsed l))) none := by
  refine Fn.of (names := ["reply"]) D (by decide +kernel) (fun fd e1 e2 e3 us hu => ?_) rfl ?_
  · obtain ⟨u, rfl⟩ := args1 hu
    rw [fd_is e1 e2 e3]; rfl
  exact Ss.tryOk (.ret (.callFn gp hk (.cons (.of .name) .nil) (fn_parse DP hlen h5 hbig hp)) ⟨.inl rfl, rfl⟩) fun ρ' σ' q => by
    rcases q.1 with q | ⟨_, q⟩ <;> cases q

theorem GlobIs.plain {c : Cx} {sc : Scope} {f : Str} {v : Value} (g : GlobIs c sc f v) {A : Around} {env : Env} {s : Shared} {pos : Pos} (hs : env.scope = sc) (hk : sc.kind = .function) (hg : env.globals = mainGlobals) (hb : env.builtins = builtinsNs) (O : Old c s.heap) {Q : Value → Shared → Prop} {E : Value → Shared → Prop} (h : Q v s) : wpAny c.M A (eval (.Name f pos) env) Q E s := by
  refine Name_function_global (by rw [hs]; exact hk) (by rw [Env.kindOf, hs]; exact g.kind) ?_ g.dbg
  rcases g.val with e | ⟨e1, e2⟩
  · exact loadGlobal_global (by rw [hg]; exact O.g) e h
  · exact loadGlobal_builtin (by rw [hg]; exact O.g) e1 (by rw [hb]; exact O.b) e2 h

theorem fn_refused {c : Cx} {n : Nat} {x : List Nat} (D : DefAt c 223 dName .none []) (DP : DefAt c 136 dParse .none []) (X : ExcFacts c) (gp : GlobIs c dName.scope "parse257" (.ref 136)) (gx : GlobIs c dParse.scope "error_reply" (.ref 127)) (gx' : GlobIs c dName.scope "error_reply" (.ref 127)) (gs : GlobIs c dName.scope "str" (.type "str"))
    (hk : keepIn c.K (.ref 136) = true) (hbig : x.length ≤ 1000) (hp : x.take 3 ≠ [50, 53, 55]) (h3 : 3 ≤ x.length) : Fn c (n + 2) 223 [.d (.str (tx x))] none (.list [.str (tx x)]) none := fun Z A s us p r => by
  obtain ⟨l, hl, _⟩ := p.room.fr
  refine call_enter (names := ["reply"]) D (by decide +kernel) (fun fd e1 e2 e3 us hu => ?_) rfl p r fun env s₂ I fin hL => ?_
  · obtain ⟨u, rfl⟩ := args1 hu
    rw [fd_is e1 e2 e3]; rfl
  have hfr : (A.deeper env).frames = some (env :: l) := Around.frames_deeper hl
  have ha : ∀ pos, Args c (n + 1) dName.scope ([("reply", V.d (.str (tx x)))] : Loc) none [.Name "reply" pos] [.d (.str (tx x))] := fun pos => .cons (.of .name) .nil
  refine wpAny_execs_cons (wpAny_Try_except ?_)
  refine wpAny_execs_cons (wpAny_Return_some ?_)
  refine wpAny_Call_NameR (gp.name I (callWith_of (P := fun h => c.K.In h) (by rw [(ha _).1 env _]; rfl) (keeps_K hk) (evalArgs_of ((ha _).1 env _) ?_)))
  refine (ha _).2 Z _ env s₂ _ I _ _ fun us₁ s₃ P₃ I₃ rr => ⟨I₃.old.kin, ?_⟩
  refine wpAny_call (codeAny_mono (parse_raises (n := n) DP X gx hbig hp h3 I₃.pre hfr rr) fun r s₄ ⟨e, er, t, base, tk, P₄, F₄, t₄, s₀, P₀, eb, u₀, eg, eo⟩ => ?_)
  subst er; subst eb
  obtain ⟨L, oL, hf, hL2, hL3, hL4, hL5⟩ := I₃.fr
  refine wpAny_looks_onW hfr hf F₄ fun h₅ H₅ u₅ => ?_
  refine wpAny_landsW H₅ fun h₆ F₆ u₆ => ?_
  have P₆ : Post c Z none none s₃ { s₄ with heap := h₆ } := P₀.slots' F₆.1 ((u₀.trans u₅).trans u₆) eg eo
  have I₆ := I₃.post P₆
  have hk1 : (A.deeper env).handled = none := I₃.room.hd
  have hkind : env.scope.kind = .function := by rw [I.scope]; exact I.kind
  have hdn : dName.scope.kind = .function := I.kind
  have hl0 : dName.scope.names.lookup ("refused" : Str) = some NameKind.local := by rfl
  have hloc : env.kindOf ("refused" : Str) = some .local := by rw [Env.kindOf, I.scope]; exact hl0
  have hp' : (env.scope.kind == .class || (env.scope.kind == .module && env.locals != env.globals)) = false := by rw [hkind]; rfl
  refine handleBy_own_as (x := "error_reply") (C := 127) (bmB := bmE) (newId := "Exception.__new__") (mg := c.mg) (by rfl) (gx'.plain I.scope hdn I.gl I.bi I₆.old ⟨rfl, X.cls I₆.old.kin, F₆.there, ?_⟩)
  refine lands_againW F₆ fun h₇ F₇ u₇ => ?_
  have P₇ : Post c Z none none s₃ { s₄ with heap := h₇ } := P₀.slots' F₇.1 (((u₀.trans u₅).trans u₆).trans u₇) eg eo
  have I₇ := I₃.post P₇
  have t₇ : h₇.TupAt t [.str (tx x) tk] := ((t₄.of_slots u₅).of_slots u₆).of_slots u₇
  obtain ⟨oe, vs, he, hec, hed, he0⟩ := F₇.first
  obtain ⟨m₇, hm₇, _⟩ := I₇.loc
  rw [storeName_local hloc hp']
  refine nsSet_here hm₇ fun h₈ hn₈ hs₈ hf₈ => ?_
  have M₈ : PostF c env none none { s₄ with heap := h₇ } { s₄ with heap := h₈, toks := s₄.toks + 1 } := PostM.locals I₇.old I₇.gens I₇.newL ⟨_, hm₇⟩ ⟨_, hn₈⟩ hs₈
  have O₈ : Old c h₈ := M₈.stp.old
  have offL : ∀ {b : Addr} {o : Obj}, h₇.get? b = some o → (∀ es k, o.data ≠ .dict es k) → h₈.get? b = some o := fun {b o} e hd => (hs₈.2 b fun q => by
    obtain ⟨oL, es, ep, e', hd', _⟩ := hm₇
    rw [q, e'] at e; cases e; exact hd _ _ hd').trans e
  have he₈ := offL he fun es k q => by rw [hed] at q; cases q
  have t₈ : h₈.TupAt t [.str (tx x) tk] := by
    obtain ⟨o, k, h1, h2, h3⟩ := t₇
    exact ⟨o, k, offL h1 (fun es k q => by rw [h3] at q; cases q), h2, h3⟩
  refine wpAny_execs_cons (wpAny_Return_some (wpAny_List_spliced (spliced_more ?_ (by rfl))))
  have hargs : ∀ pos, (backTo pos (starEach [.Name ("refused" : Str) pos] env)).any (·.1) = false := fun _ => rfl
  refine wpAny_Call_NameR (gs.plain I.scope hdn I.gl I.bi O₈ (PyProof.Rows.callWith_type (by rfl) (evalArgs_of (by rfl) ?_)))
  refine spliced_more (wpAny_Name (wpAny_loadName_local hkind hloc hn₈ (v := .ref e) (by simp) ?_) (by rfl)) (by rfl)
  refine spliced_none ?_
  refine exc_str (x := tx x) (tk := tk) ?_ X O₈.kin he₈ hec hed he0 t₈ ?_
  · have := p.room.uni
    show A.units + 3 + 1 + 1 < 9900
    omega
  refine spliced_none ⟨by rw [sizeLine_eq]; simp, ?_⟩
  have hn₉ : ∀ o : Obj, (h₈.push o).Ns env.locals _ := fun o => ns_at hn₈ fun o' e' => Heap.get?_push_of_some _ e'
  refine wpAny_nameGoes hloc (hn₉ _) hp' fun h₁₀ m₁₀ hn₁₀ hs₁₀ => ?_
  have hL8 : env.locals < h₈.objs.size := by obtain ⟨o, _, _, e', _⟩ := id hn₈; exact Heap.lt_size e'
  have k₉ : ∀ b o, h₈.get? b = some o → (h₈.push { cls := .type "list", data := .seq #[.str (tx x) tk] }).get? b = some o := fun b o e' => Heap.get?_push_of_some _ e'
  have P₉ : Post c Z none none { s₄ with heap := h₈, toks := s₄.toks + 1 } { s₄ with heap := h₈.push { cls := .type "list", data := .seq #[.str (tx x) tk] }, toks := s₄.toks + 1 } := Post.heap (s := { s₄ with heap := h₈, toks := s₄.toks + 1 }) O₈ M₈.stp.gens (fun a (e' : none = some a) => by cases e') k₉
  have M₁₀ : PostF c env none none { s₄ with heap := h₈.push { cls := .type "list", data := .seq #[.str (tx x) tk] }, toks := s₄.toks + 1 } { s₄ with heap := h₁₀, toks := s₄.toks + 1 + 1 } :=
    PostM.locals P₉.stp.old I₇.gens I₇.newL ⟨_, hn₉ _⟩ ⟨_, hn₁₀⟩ hs₁₀
  have Mall : PostF c env none none s₂ { s₄ with heap := h₁₀, toks := s₄.toks + 1 + 1 } := (((P₃.toF.trans P₇.toF).trans M₈).trans P₉.toF).trans M₁₀
  refine ⟨.ref h₈.objs.size, rfl, fin _ Mall, ?_⟩
  refine .list (fun z => ?_) ((hs₁₀.2 _ (Nat.ne_of_gt hL8)).trans (Heap.get?_push_size _ rfl)) rfl rfl rfl (.cons (.str _ _) .nil)
  obtain ⟨o, e'⟩ := I.zal _ z
  obtain ⟨o', e''⟩ := ((P₃.toF.trans P₇.toF).trans M₈).stp.al _ o e'
  exact absurd (Heap.lt_size e'') (Nat.lt_irrefl _)
end Mine
end

section
set_option Elab.async false
set_option linter.unusedVariables false
namespace Mine

/-! ## the plain law (Moore, Hodgson) -/
abbrev Pc := List Nat × List Nat
noncomputable def pcLen (q : Pc) : Nat := q.1.length + q.2.length
noncomputable def lens (qs : List Pc) : List Nat := qs.map pcLen
noncomputable def txt (qs : List Pc) : List Nat := qs.flatMap fun q => q.1 ++ q.2
noncomputable def tot (f : Nat) (qs : List Pc) : Nat := f + (lens qs).sum
structure Ch where
  k : Nat
  h : Nat
  r : List Nat
noncomputable def chMore (q : Pc) (c : Ch) : Ch := ⟨c.k + 1, c.h + pcLen q, c.r ++ q.1 ++ q.2⟩
noncomputable def chIn (q : Pc) (due : Nat) (c : Ch) : Bool := decide (c.h + pcLen q ≤ due)
noncomputable def growCh (cs : List Ch) (q : Pc) (due : Nat) : List Ch := cs ++ (cs.filter (chIn q due)).map (chMore q)
noncomputable def gone (ls : List Nat) : Nat := ls.findIdx (· == ls.max?.getD 0)
noncomputable def sendP (f due : Nat) (qs : List Pc) (q : Pc) : List Pc :=
  if tot f (qs ++ [q]) ≤ due then qs ++ [q] else (qs ++ [q]).take (gone (lens (qs ++ [q]))) ++ (qs ++ [q]).drop (gone (lens (qs ++ [q])) + 1)

theorem lens_append (a b : List Pc) : lens (a ++ b) = lens a ++ lens b := List.map_append
theorem txt_append (a b : List Pc) : txt (a ++ b) = txt a ++ txt b := by simp [txt]
theorem tot_one (f : Nat) (qs : List Pc) (q : Pc) : tot f (qs ++ [q]) = tot f qs + pcLen q := by simp [tot, lens, Nat.add_assoc]

theorem gone_spec {ls : List Nat} (h : ls ≠ []) : ∃ M, ls.max? = some M ∧ ls[gone ls]? = some M ∧ (∀ i < gone ls, ls[i]? ≠ some M) ∧ gone ls < ls.length ∧ ∀ a ∈ ls, a ≤ M := by
  obtain ⟨M, hM⟩ : ∃ M, ls.max? = some M := by
    cases q : ls.max? with
    | none => rw [List.max?_eq_none_iff] at q; exact absurd q h
    | some M => exact ⟨M, rfl⟩
  have hx := List.max?_eq_some_iff.mp hM
  have hg : gone ls = ls.findIdx (· == M) := by unfold gone; rw [hM]; rfl
  have hlt : gone ls < ls.length := by rw [hg]; exact List.findIdx_lt_length_of_exists ⟨M, hx.1, by simp⟩
  refine ⟨M, hM, ?_, fun i hi q => ?_, hlt, hx.2⟩
  · rw [List.getElem?_eq_getElem hlt]
    have hlt' : ls.findIdx (· == M) < ls.length := hg ▸ hlt
    have := List.findIdx_getElem (p := (· == M)) (xs := ls) (w := hlt')
    have e : ls[ls.findIdx (· == M)] = M := by simpa using this
    simp only [hg, e]
  · have hi' : i < ls.findIdx (· == M) := hg ▸ hi
    have hil : i < ls.length := Nat.lt_trans hi hlt
    have := List.not_of_lt_findIdx (p := (· == M)) (xs := ls) hi'
    rw [List.getElem?_eq_getElem hil] at q
    simp only [Option.some.injEq] at q
    simp [q] at this

structure Good (f d : Nat) (qs : List Pc) (cs : List Ch) : Prop where
  sub : ∀ S : List Pc, S.Sublist qs → (⟨S.length, tot f S, txt S⟩ : Ch) ∈ cs
  best : ∀ c ∈ cs, ∃ S R : List Nat, (lens qs).Perm (S ++ R) ∧ S.length = c.k ∧ f + S.sum ≤ c.h
  due : qs ≠ [] → tot f qs ≤ d

theorem Good.start (f d : Nat) : Good f d [] [⟨0, f, []⟩] := ⟨fun S h => by
  rw [List.sublist_nil.mp h]; simp [tot, lens, txt], fun c hc => by
  rw [List.mem_singleton.mp hc]; exact ⟨[], [], .refl _, rfl, by simp⟩, fun h => absurd rfl h⟩

theorem sub_tot {f : Nat} {S qs : List Pc} (h : S.Sublist qs) : tot f S ≤ tot f qs := by
  have : (lens S).sum ≤ (lens qs).sum := by
    induction h with
    | slnil => exact Nat.le_refl _
    | cons q _ ih => simp only [lens, List.map_cons, List.sum_cons] at ih ⊢; omega
    | cons_cons q _ ih => simp only [lens, List.map_cons, List.sum_cons] at ih ⊢; omega
  unfold tot; omega

theorem mem_perm {a : Nat} {l : List Nat} (h : a ∈ l) : ∃ l', l.Perm (a :: l') := ⟨l.erase a, List.perm_cons_erase h⟩

theorem Good.step {f d d' : Nat} {qs : List Pc} {cs : List Ch} (G : Good f d qs cs) (hd : d ≤ d') (q : Pc) : Good f d' (sendP f d' qs q) (growCh cs q d') := by
  -- sublists of what is kept, but for the last
  have hsub : ∀ qs' : List Pc, qs'.Sublist qs → tot f (qs' ++ [q]) ≤ d' → ∀ S : List Pc, S.Sublist (qs' ++ [q]) → (⟨S.length, tot f S, txt S⟩ : Ch) ∈ growCh cs q d' := by
    intro qs' h1 h2 S hS
    obtain ⟨S₁, S₂, rfl, a, b⟩ := List.sublist_append_iff.mp hS
    have h3 := G.sub S₁ (a.trans h1)
    have hS₂ : S₂ = [] ∨ S₂ = [q] := by
      cases b with
      | cons _ b => exact .inl (List.sublist_nil.mp b)
      | cons_cons _ b => rw [List.sublist_nil.mp b]; exact .inr rfl
    rcases hS₂ with rfl | rfl
    · rw [List.append_nil]; exact List.mem_append.mpr (.inl h3)
    · refine List.mem_append.mpr (.inr (List.mem_map.mpr ⟨_, List.mem_filter.mpr ⟨h3, ?_⟩, ?_⟩))
      · have := sub_tot (f := f) (a.append (List.Sublist.refl [q]))
        rw [tot_one] at this
        simp only [chIn, decide_eq_true_eq]
        omega
      · simp only [chMore, tot_one, txt_append, List.length_append, List.length_singleton]
        simp [txt]
  -- what a choice of the new ones is at best, over all the pieces
  have hall : ∀ c ∈ growCh cs q d', ∃ T R : List Nat, (lens (qs ++ [q])).Perm (T ++ R) ∧ T.length = c.k ∧ f + T.sum ≤ c.h ∧ (R ≠ [] ∨ c.h ≤ d') := by
    intro c hc
    rcases List.mem_append.mp hc with hc | hc
    · obtain ⟨S, R, h1, h2, h3⟩ := G.best c hc
      refine ⟨S, R ++ [pcLen q], ?_, h2, h3, .inl (by simp)⟩
      rw [lens_append, ← List.append_assoc]
      exact h1.append_right _
    · obtain ⟨c₀, hc₀, rfl⟩ := List.mem_map.mp hc
      obtain ⟨hc₀, hin⟩ := List.mem_filter.mp hc₀
      simp only [chIn, decide_eq_true_eq] at hin
      obtain ⟨S, R, h1, h2, h3⟩ := G.best c₀ hc₀
      refine ⟨pcLen q :: S, R, ?_, by simp [chMore, h2], by simp [chMore]; omega, .inr hin⟩
      rw [lens_append]
      exact (List.perm_append_comm (l₂ := lens [q])).trans (h1.cons _)
  unfold sendP
  split
  · rename_i h
    exact ⟨hsub qs (.refl _) h, fun c hc => let ⟨T, R, a, b, e, _⟩ := hall c hc; ⟨T, R, a, b, e⟩, fun _ => h⟩
  · rename_i h
    obtain ⟨M, hM, hgM, hfirst, hlt, hmax⟩ := gone_spec (ls := lens (qs ++ [q])) (by simp [lens])
    generalize hg : gone (lens (qs ++ [q])) = g at *
    have hlen : (lens (qs ++ [q])).length = qs.length + 1 := by simp [lens]
    have hglt : g < (qs ++ [q]).length := by rw [List.length_append]; simp only [List.length_singleton]; omega
    have hperm : (lens (qs ++ [q])).Perm (M :: lens ((qs ++ [q]).take g ++ (qs ++ [q]).drop (g + 1))) := by
      have e : qs ++ [q] = (qs ++ [q]).take g ++ (qs ++ [q])[g] :: (qs ++ [q]).drop (g + 1) := by
        rw [List.getElem_cons_drop, List.take_append_drop]
      have hM' : pcLen (qs ++ [q])[g] = M := by
        rw [lens, List.getElem?_map, List.getElem?_eq_getElem hglt] at hgM
        simpa using hgM
      have h1 : lens (qs ++ [q]) = lens ((qs ++ [q]).take g) ++ M :: lens ((qs ++ [q]).drop (g + 1)) := by
        conv => lhs; rw [e]
        rw [lens_append]
        simp only [lens, List.map_cons, hM']
      rw [h1, lens_append]
      exact List.perm_middle
    refine ⟨?_, fun c hc => ?_, fun hne => ?_⟩
    · by_cases hgq : g = qs.length
      · have e1 : (qs ++ [q]).take g = qs := by rw [hgq]; simp
        have e2 : (qs ++ [q]).drop (g + 1) = [] := by rw [hgq]; simp
        rw [e1, e2, List.append_nil]
        exact fun S hS => List.mem_append.mpr (.inl (G.sub S hS))
      · have hgq' : g < qs.length := by omega
        have e1 : (qs ++ [q]).take g = qs.take g := by rw [List.take_append_of_le_length (by omega)]
        have e2 : (qs ++ [q]).drop (g + 1) = qs.drop (g + 1) ++ [q] := by rw [List.drop_append_of_le_length (by omega)]
        rw [e1, e2, ← List.append_assoc]
        have hs : (qs.take g ++ qs.drop (g + 1)).Sublist qs := by
          have := (List.Sublist.refl (qs.take g)).append (List.drop_sublist_drop_left qs (Nat.le_succ g))
          rwa [List.take_append_drop] at this
        refine hsub _ hs ?_
        have hs1 := hperm.sum_nat
        rw [e1, e2, ← List.append_assoc] at hs1
        have hq : pcLen q ≤ M := hmax _ (by simp [lens])
        have hdue := G.due (by intro e; rw [e] at hgq'; simp at hgq')
        have t1 : tot f (qs ++ [q]) = tot f qs + pcLen q := tot_one f qs q
        unfold tot at t1 hdue ⊢
        simp only [List.sum_cons] at hs1
        omega
    · obtain ⟨T, R, h1, h2, h3, h4⟩ := hall c hc
      have hp := hperm.symm.trans h1
      by_cases hMR : M ∈ R
      · obtain ⟨R', hR⟩ := mem_perm hMR
        refine ⟨T, R', ?_, h2, h3⟩
        exact List.Perm.cons_inv (hp.trans ((List.Perm.append_left T hR).trans List.perm_middle))
      · have hMT : M ∈ T := by
          have := hp.subset (List.mem_cons_self ..)
          rcases List.mem_append.mp this with h | h
          · exact h
          · exact absurd h hMR
        obtain ⟨T', hT⟩ := mem_perm hMT
        have hTs := hT.sum_nat
        have hTl := hT.length_eq
        simp only [List.sum_cons, List.length_cons] at hTs hTl
        have hp2 : (lens ((qs ++ [q]).take g ++ (qs ++ [q]).drop (g + 1))).Perm (T' ++ R) := List.Perm.cons_inv (hp.trans (hT.append_right R))
        cases R with
        | nil =>
          exfalso
          rcases h4 with h4 | h4
          · exact h4 rfl
          · have := h1.sum_nat
            rw [List.append_nil] at this
            unfold tot at h
            omega
        | cons x R =>
          have hx : x ≤ M := hmax x (h1.symm.subset (by simp))
          refine ⟨x :: T', R, hp2.trans List.perm_middle, by simp; omega, by simp only [List.sum_cons]; omega⟩
    · have hs1 := hperm.sum_nat
      have hq : pcLen q ≤ M := hmax _ (by simp [lens])
      have t1 : tot f (qs ++ [q]) = tot f qs + pcLen q := tot_one f qs q
      have hdue : qs ≠ [] := by
        rintro rfl
        have : g = 0 := by simp [lens] at hlt; exact hlt
        subst this
        simp at hne
      have := G.due hdue
      unfold tot at t1 this ⊢
      simp only [List.sum_cons] at hs1
      omega
end Mine
end

section
set_option Elab.async false
set_option linter.unusedVariables false
namespace Mine

theorem Good.size {f d : Nat} {qs : List Pc} {cs : List Ch} (G : Good f d qs cs) : ∀ c ∈ cs, c.k ≤ qs.length := fun c hc => by
  obtain ⟨S, R, h1, h2, _⟩ := G.best c hc
  have := h1.length_eq
  simp only [lens, List.length_map, List.length_append] at this
  omega
theorem Good.whole {f d : Nat} {qs : List Pc} {cs : List Ch} (G : Good f d qs cs) : (⟨qs.length, tot f qs, txt qs⟩ : Ch) ∈ cs := G.sub qs (.refl _)
theorem Good.least {f d : Nat} {qs : List Pc} {cs : List Ch} (G : Good f d qs cs) : ∀ c ∈ cs, c.k = qs.length → tot f qs ≤ c.h := fun c hc e => by
  obtain ⟨S, R, h1, h2, h3⟩ := G.best c hc
  have hl := h1.length_eq
  have hs := h1.sum_nat
  simp only [lens, List.length_map, List.length_append] at hl
  have : R = [] := List.length_eq_zero_iff.mp (by omega)
  subst this
  unfold tot
  simp only [List.append_nil] at hs
  omega

/-- so many of a list, whatever their order, are some of it in its order -/
theorem sub_of_perm : ∀ (qs : List Pc) {A B : List Nat}, (lens qs).Perm (A ++ B) → ∃ S : List Pc, S.Sublist qs ∧ (lens S).Perm A
  | [], A, B, h => by
    have : A = [] := by
      have := h.length_eq
      simp only [lens, List.map_nil, List.length_nil, List.length_append] at this
      exact List.length_eq_zero_iff.mp (by omega)
    subst this
    exact ⟨[], .refl _, .refl _⟩
  | q :: qs, A, B, h => by
    have hm : pcLen q ∈ A ++ B := h.subset (by simp [lens])
    have h' : (pcLen q :: lens qs).Perm (A ++ B) := h
    by_cases hA : pcLen q ∈ A
    · obtain ⟨A', hA'⟩ := mem_perm hA
      obtain ⟨S, hs, hp⟩ := sub_of_perm qs (List.Perm.cons_inv (h'.trans (hA'.append_right B)))
      exact ⟨q :: S, hs.cons_cons _, (hp.cons (pcLen q)).trans hA'.symm⟩
    · have hB : pcLen q ∈ B := by
        rcases List.mem_append.mp hm with h | h
        · exact absurd h hA
        · exact h
      obtain ⟨B', hB'⟩ := mem_perm hB
      obtain ⟨S, hs, hp⟩ := sub_of_perm qs (List.Perm.cons_inv (h'.trans ((List.Perm.append_left A hB').trans List.perm_middle)))
      exact ⟨S, hs.cons _, hp⟩

/-- the smallest ones -/
theorem smallest : ∀ (ks S R : List Nat), ks.Pairwise (· ≤ ·) → ks.Perm (S ++ R) → (ks.take S.length).sum ≤ S.sum
  | [], S, R, _, h => by simp
  | a :: ks, [], R, _, h => by simp
  | a :: ks, x :: S, R, ho, h => by
    obtain ⟨h1, h2⟩ := List.pairwise_cons.mp ho
    by_cases ha : a ∈ x :: S
    · obtain ⟨S', hS⟩ := mem_perm ha
      have ih := smallest ks S' R h2 (List.Perm.cons_inv (h.trans (hS.append_right R)))
      have hl := hS.length_eq
      have hs := hS.sum_nat
      simp only [List.length_cons, List.sum_cons] at hl hs
      have hl' : S.length = S'.length := by omega
      simp only [List.length_cons, List.take_succ_cons, List.sum_cons, hl']
      omega
    · have hR : a ∈ R := by
        have := h.subset (List.mem_cons_self ..)
        rcases List.mem_append.mp this with h | h
        · exact absurd h ha
        · exact h
      obtain ⟨R', hR'⟩ := mem_perm hR
      have hp : ks.Perm (x :: S ++ R') := List.Perm.cons_inv (h.trans ((List.Perm.append_left (x :: S) hR').trans List.perm_middle))
      have hx : a ≤ x := h1 x (hp.symm.subset (by simp))
      have ih := smallest ks S (x :: R') h2 (hp.trans (by
        show (x :: (S ++ R')).Perm (S ++ x :: R')
        exact List.perm_middle.symm))
      simp only [List.length_cons, List.take_succ_cons, List.sum_cons]
      omega
theorem Good.early {f d : Nat} {qs : List Pc} {cs : List Ch} (G : Good f d qs cs) {ks : List Nat} (hp : ks.Perm (lens qs)) (ho : ks.Pairwise (· ≤ ·)) {k : Nat} (hk : k ≤ qs.length) :
    (∃ c ∈ cs, c.k = k ∧ c.h = f + (ks.take k).sum) ∧ ∀ c ∈ cs, c.k = k → f + (ks.take k).sum ≤ c.h := by
  have hl : ks.length = qs.length := by rw [hp.length_eq]; simp [lens]
  constructor
  · obtain ⟨S, hs, hq⟩ := sub_of_perm qs (A := ks.take k) (B := ks.drop k) (by rw [List.take_append_drop]; exact hp.symm)
    refine ⟨_, G.sub S hs, ?_, ?_⟩
    · have := hq.length_eq
      simp only [lens, List.length_map, List.length_take] at this
      show S.length = k
      omega
    · show tot f S = _
      unfold tot
      rw [hq.sum_nat]
  · intro c hc e
    obtain ⟨S, R, h1, h2, h3⟩ := G.best c hc
    have := smallest ks S R ho (hp.trans h1)
    rw [h2, e] at this
    omega

/-! columns -/
/-! insertion -/
theorem sorted_nat (l : List Nat) : ∃ ks : List Nat, ks.Perm l ∧ ks.Pairwise (· ≤ ·) :=
  ⟨l.mergeSort (fun a b => decide (a ≤ b)), List.mergeSort_perm .., by
    have := List.pairwise_mergeSort (le := fun a b : Nat => decide (a ≤ b)) (fun a b c h1 h2 => by simp at h1 h2 ⊢; omega) (fun a b => by simp; omega) l
    exact this.imp fun h => by simpa using h⟩
end Mine
end

section
open PySem PySem.W PyProof.Rows PySem.Calls PySem.Spec
set_option Elab.async false
set_option linter.unusedVariables false
set_option maxRecDepth 100000
namespace Mine

/-! ## texts, pieces -/
noncomputable def pc (q : Pc) : Str × Str := (tx q.1, tx q.2)
noncomputable def pcs (qs : List Pc) : List (Str × Str) := qs.map pc
theorem glued_tx (acc : List Nat) : ∀ ls : List (List Nat), ((ls.map tx).foldl (fun a p => a ++ ("" : Str).cps ++ p.cps) acc.toArray) = (acc ++ ls.flatten).toArray
  | [] => by simp
  | l :: ls => by
    have ih := glued_tx (acc ++ l) ls
    have e : acc.toArray ++ ("" : Str).cps ++ (tx l).cps = (acc ++ l).toArray := by
      have : ("" : Str).cps = #[] := by rfl
      rw [this]; simp [tx]
    rw [List.map_cons, List.foldl_cons, e, ih]
    simp
theorem join_tx (ls : List (List Nat)) : Txt.join "" (ls.map tx) = tx ls.flatten := by
  unfold Txt.join Builtin.Str.glued
  cases ls with
  | nil => rfl
  | cons l ls =>
    show Str.mk _ = Str.mk _
    have := glued_tx l ls
    simp only [List.map_cons, List.drop_succ_cons, List.drop_zero, List.headD_cons, List.flatten_cons]
    exact congrArg Str.mk this
theorem pieceText_pc (q : Pc) : pieceText (pc q) = tx (q.1 ++ q.2) := by
  have := join_tx [q.1, q.2]
  simpa [pieceText, pc] using this
theorem allText_pcs (qs : List Pc) : allText (pcs qs) = tx (txt qs) := by
  have e : (pcs qs).map pieceText = (qs.map fun q => q.1 ++ q.2).map tx := by
    unfold pcs
    rw [List.map_map, List.map_map]
    apply List.map_congr_left
    intro q _
    exact pieceText_pc q
  unfold allText
  rw [e, join_tx]
  simp [txt, List.flatMap]
theorem pieceLen_pc (q : Pc) : pieceLen (pc q) = (pcLen q : Int) := by
  simp [pieceLen, pc, pcLen, tx_length]
theorem pieceLens (qs : List Pc) : (pcs qs).map pieceLen = (lens qs).map (fun k : Nat => (k : Int)) := by
  unfold pcs lens
  rw [List.map_map, List.map_map]
  exact List.map_congr_left fun q _ => pieceLen_pc q
theorem sum_cast (l : List Nat) : (l.map (fun k : Nat => (k : Int))).sum = ((l.sum : Nat) : Int) := by
  induction l with
  | nil => rfl
  | cons a l ih => simp [ih]
theorem sumLen_pcs (qs : List Pc) : sumLen (pcs qs) = (((lens qs).sum : Nat) : Int) := by
  unfold sumLen; rw [pieceLens, sum_cast]
theorem pcs_append (a b : List Pc) : pcs a ++ pcs b = pcs (a ++ b) := by simp [pcs]
theorem sent_pcs (f due : Nat) (qs : List Pc) (q : Pc) : sent (f : Int) (due : Int) (pcs qs) (pc q) (gone (lens (qs ++ [q]))) = pcs (sendP f due qs q) := by
  unfold sent sendP
  have e : pcs qs ++ [pc q] = pcs (qs ++ [q]) := by simp [pcs]
  rw [e, sumLen_pcs]
  have h : ((f : Int) + (((lens (qs ++ [q])).sum : Nat) : Int) ≤ (due : Int)) ↔ (tot f (qs ++ [q]) ≤ due) := by unfold tot; omega
  by_cases hc : tot f (qs ++ [q]) ≤ due
  · rw [if_pos (h.mpr hc), if_pos hc]
  · rw [if_neg (fun x => hc (h.mp x)), if_neg hc]
    simp [pcs, List.map_take, List.map_drop]
theorem max_cast {l : List Nat} {M : Nat} (h : l.max? = some M) : (l.map (fun k : Nat => (k : Int))).max? = some (M : Int) := by
  obtain ⟨h1, h2⟩ := List.max?_eq_some_iff.mp h
  refine best_gt (List.mem_map.mpr ⟨M, h1, rfl⟩) fun a ha => ?_
  obtain ⟨b, hb, rfl⟩ := List.mem_map.mp ha
  have := h2 b hb
  omega

/-! ## the jobs' worth -/
namespace Job
variable (p : Job) (ch : Nat)
noncomputable def word : List Nat := if p.k = 1 then [] else p.name ch
end Job
theorem scan_dbl : ∀ (l : List Nat) (t : List Nat), (t = [] ∨ ∃ r, t = 34 :: r ∧ r.head? ≠ some 34) → scan (StrLaws.dbl 34 l ++ t) = l
  | [], t, h => by
    rcases h with rfl | ⟨r, rfl, h⟩
    · rfl
    · exact scan_end h
  | k :: l, t, h => by
    have ih := scan_dbl l t h
    by_cases hk : k = 34
    · subst hk
      have e : StrLaws.dbl 34 (34 :: l) = 34 :: 34 :: StrLaws.dbl 34 l := by simp [StrLaws.dbl]
      rw [e, List.cons_append, List.cons_append, scan_two, ih]
    · have e : StrLaws.dbl 34 (k :: l) = k :: StrLaws.dbl 34 l := by simp [StrLaws.dbl, hk]
      rw [e, List.cons_append, scan_other _ hk, ih]
theorem reply_parsed {p : Job} (ok : p.Ok) (ch : Nat) (h : p.k ≠ 0) : (p.reply ch).take 3 = [50, 53, 55] ∧ parsed (p.reply ch) = p.word ch := by
  obtain ⟨a, b, e, m, l, u, k⟩ := p
  have hk := ok.k
  have hm := ok.m
  simp only at h hk hm
  have hh : k = 1 ∨ k = 2 ∨ k = 3 ∨ k = 4 ∨ k = 5 := by omega
  have fin : ∀ t, (t = [] ∨ ∃ r, t = 34 :: r ∧ r.head? ≠ some 34) → parsed ([50, 53, 55, 32, 34] ++ StrLaws.dbl 34 (Job.name ⟨a, b, e, m, l, u, k⟩ ch) ++ t) = Job.name ⟨a, b, e, m, l, u, k⟩ ch := by
    intro t ht
    rw [List.append_assoc]
    unfold parsed
    simp only [List.cons_append, List.nil_append, List.drop_succ_cons, List.drop_zero, List.take_succ_cons, List.take_zero, if_true]
    exact scan_dbl _ _ ht
  rcases hh with rfl | rfl | rfl | rfl | rfl
  · by_cases hm2 : m % 2 = 0
    · simp [Job.reply, Job.heads, Job.word, parsed, hm2]
    · simp [Job.reply, Job.heads, Job.word, parsed, hm2]
  · exact ⟨by simp [Job.reply, Job.heads], fin [] (.inl rfl)⟩
  · exact ⟨by simp [Job.reply, Job.heads], fin [34] (.inr ⟨[], rfl, by simp⟩)⟩
  · exact ⟨by simp [Job.reply, Job.heads], fin _ (.inr ⟨_, rfl, by simp⟩)⟩
  · exact ⟨by simp [Job.reply, Job.heads], fin _ (.inr ⟨_, rfl, by simp⟩)⟩
theorem reply_refused {p : Job} (ch : Nat) (h : p.k = 0) : (p.reply ch).take 3 ≠ [50, 53, 55] := by
  obtain ⟨a, b, e, m, l, u, k⟩ := p
  simp only at h
  subst h
  simp [Job.reply, Job.heads]
theorem thing_word {p : Job} (ch : Nat) (h : p.k ≠ 0) : p.thing ch = .str (tx (p.word ch)) := by
  unfold Job.thing Job.word
  rw [if_neg h]
  split <;> rfl

/-! ## columns -/
theorem level_table : ∀ a < 4, ∀ b < 3, ∀ e < 4, ∀ z : Nat, z < 6 → 2 ≤ z → column (tx (List.replicate (a * 2) 32 ++ List.replicate b 9 ++ List.replicate e 32)) (z : Int) = ((levelOf (List.replicate (a * 2) 32 ++ List.replicate b 9 ++ List.replicate e 32 ++ [120]) z : Nat) : Int) := by decide +kernel
end Mine
end

section
open PySem PySem.W PyProof.Rows PySem.Calls PySem.Spec
set_option Elab.async false
set_option linter.unusedVariables false
set_option maxRecDepth 100000
namespace Mine

/-! ## a comprehension whose one name an inner one reads -/
structure CompOkC (csc sc : Scope) (x₀ : Str) : Prop where
  kind : csc.kind = .function
  xcell : csc.names.lookup x₀ = some .cell
  cells : ∀ y ∈ csc.names, y.2 = .cell → y.1 = x₀
  names : ∀ y ∈ csc.names, y.2 = .local → csc.names.lookup y.1 = some .local
  free : ∀ y ∈ csc.names, y.2 = .free → isCellK sc y.1
noncomputable def compOkC (csc sc : Scope) (x₀ : Str) : Bool := csc.kind == .function && csc.names.lookup x₀ == some .cell && csc.names.all fun y => (y.2 != .cell || y.1 == x₀) && (y.2 != .local || csc.names.lookup y.1 == some .local) && (y.2 != .free || sc.names.lookup y.1 == some .cell || sc.names.lookup y.1 == some .free)
theorem CompOkC.of {csc sc : Scope} {x₀ : Str} (h : compOkC csc sc x₀ = true) : CompOkC csc sc x₀ := by
  obtain ⟨h1, h2⟩ := Bool.and_eq_true_iff.mp h
  obtain ⟨h0, h1⟩ := Bool.and_eq_true_iff.mp h1
  have h2 := List.all_eq_true.mp h2
  refine ⟨by simpa using h0, by simpa using h1, fun y hy e => ?_, fun y hy e => ?_, fun y hy e => ?_⟩
  · have := h2 y hy; simp only [Bool.and_eq_true] at this; have := this.1.1; rw [e] at this; simpa using this
  · have := h2 y hy; simp only [Bool.and_eq_true] at this; have := this.1.2; rw [e] at this; simpa using this
  · have := h2 y hy; simp only [Bool.and_eq_true] at this; have := this.2; rw [e] at this
    simp only [bne_self_eq_false, Bool.false_or, Bool.or_eq_true, beq_iff_eq] at this
    exact this
noncomputable def cenvC (csc : Scope) (env : Env) (C : Addr) (x₀ : Str) (Cc : Addr) : Env := { cenvOf csc env C with cells := (x₀, Cc) :: clo env csc.names [] }

theorem In.innerC {x₀ : Str} {Cc : Addr} {d₀ : PyData} {v₀ : Value} {c : Cx} {Z Z' : AP} {n : Nat} {sc csc : Scope} {ρ ρi : Loc} {σ : Option Ac} {A : Around} {env : Env} {s s' : Shared} (I : In c Z n sc ρ σ A env s) (ok : CompOkC csc sc x₀) (hcap : Cap csc ρi ρ) (P : Post c Z' σ σ s s')
    (hz : ∀ b, Z' b → Z b ∨ s.heap.get? b = none) (hza : ∀ b, Z' b → ∃ o, s'.heap.get? b = some o) {C : Addr} {m' : Str → Option Value} (hm : s'.heap.Ns C m') (hC : s.heap.get? C = none) (hC2 : 235 ≤ C) (hCc : s.heap.get? Cc = none) (hCc2 : 235 ≤ Cc) (hic : s'.heap.IsCell Cc (some v₀)) (hr₀ : Rp Z' s'.heap v₀ d₀) :
    In c Z' n (relab csc sc) ((x₀, .d d₀) :: ρi) σ A (cenvC csc env C x₀ Cc) s' := by
  have ha : ∀ a, σ = some a → AccAt Z s.heap a := fun a e => (I.acc a e).1
  have hf : ∀ y ∈ csc.names, y.2 = .free → ∃ a, env.cells.lookup y.1 = some a := fun y hy e => I.cel _ (ok.free y hy e)
  have sub : ∀ x a, (cenvC csc env C x₀ Cc).cells.lookup x = some a → (x = x₀ ∧ a = Cc) ∨ (x ≠ x₀ ∧ env.cells.lookup x = some a) := fun x a e => by
    have e' : ((x₀, Cc) :: clo env csc.names []).lookup x = some a := e
    rw [List.lookup_cons] at e'
    by_cases q : x = x₀
    · subst q; simp at e'; exact .inl ⟨rfl, e'.symm⟩
    · rw [beq_false_of_ne q] at e'
      exact .inr ⟨q, clo_mem (cs := []) hf (fun p hp => nomatch hp) _ (lookup_mem e')⟩
  have oldc : ∀ x a, env.cells.lookup x = some a → a ≠ Cc := fun x a e q => by
    obtain ⟨u, o, e', _⟩ := I.cells x a e
    rw [q, hCc] at e'; cases e'
  have x₀f : csc.names.lookup x₀ ≠ some .free := fun q => by rw [ok.xcell] at q; cases q
  have freeOf : ∀ x, isCellK (relab csc sc) x → x = x₀ ∨ csc.names.lookup x = some .free := by
    intro x h
    unfold isCellK at h
    rw [relab_lookup] at h
    cases q : csc.names.lookup x with
    | none => rw [q] at h; simp at h
    | some k =>
      cases k with
      | free => exact .inr rfl
      | cell => exact .inl (ok.cells _ (lookup_mem q) rfl)
      | _ => rw [q] at h; simp at h
  have has : ∀ x, csc.names.lookup x = some .free → ∃ a, (cenvC csc env C x₀ Cc).cells.lookup x = some a := fun x e => by
    obtain ⟨_, m⟩ := clo_has (env := env) (cs := []) (lookup_mem e)
    exact lookup_isSome (List.mem_cons_of_mem (x₀, Cc) m)
  have hasx : (cenvC csc env C x₀ Cc).cells.lookup x₀ = some Cc := by
    show ((x₀, Cc) :: clo env csc.names []).lookup x₀ = some Cc
    simp
  refine ⟨P.stp.old, P.stp.gens, hza, room_kp I.old ha P.stp.kp I.room, relabel_is I.scope, ok.kind, I.gl, I.bi, fun a e => ⟨P.acc a e, fun q => ?_⟩, ⟨m', hm, fun x v e => ?_⟩, fun x h => ?_, fun x a e => ?_, fun x y a e1 e2 => ?_, hC2, frame_kp (env := env) I.old ha P.stp.kp I.fr, fun x a h e => ?_⟩
  · obtain ⟨dt, es, k, _, e2, _⟩ := ha a e
    have q' : a.dict = C := q
    rw [q', hC] at e2; cases e2
  · rw [lookup_upd] at e
    split at e
    · rename_i q
      cases e
      subst q
      refine ⟨v₀, hr₀, .inr ⟨.inl ?_, Cc, hasx, hic⟩⟩
      rw [relab_lookup, ok.xcell]
      rfl
    rename_i hxx
    obtain ⟨h1, h2⟩ := hcap.look x v e
    obtain ⟨m, _, hr⟩ := I.loc
    obtain ⟨u, r, b⟩ := hr x v h2
    have hk := ok.free _ (lookup_mem h1) rfl
    have hcell : ∃ a, env.cells.lookup x = some a ∧ s.heap.IsCell a (some u) := by
      rcases b with ⟨b1, _⟩ | ⟨_, a, b2, b3⟩
      · rcases hk with hk | hk <;> (simp only at hk; rw [b1] at hk; cases hk)
      · exact ⟨a, b2, b3⟩
    obtain ⟨a, e1, e2⟩ := hcell
    obtain ⟨a', e3⟩ := has x h1
    have : a' = a := by
      rcases sub x a' e3 with ⟨q, _⟩ | ⟨_, q⟩
      · exact absurd q hxx
      · rw [e1] at q; cases q; rfl
    subst this
    refine ⟨u, ?_, .inr ⟨?_, a', e3, cell_kp I.old ha P.stp.kp e2⟩⟩
    · cases v with
      | d x' => exact Rp.dt (P.stp.dat.new hz) r
      | ac => exact r
    · unfold isCellK
      rw [relab_lookup, h1]
      simp only [Option.map_some]
      split
      · exact .inl rfl
      · exact .inr rfl
  · rcases freeOf x h with rfl | h
    · exact ⟨_, hasx⟩
    · exact has x h
  · rcases sub x a e with ⟨_, rfl⟩ | ⟨_, e⟩
    · exact ⟨_, hic⟩
    · obtain ⟨u, i⟩ := I.cells x a e
      exact ⟨u, cell_kp I.old ha P.stp.kp i⟩
  · rcases sub x a e1 with ⟨q1, q2⟩ | ⟨q1, q2⟩ <;> rcases sub y a e2 with ⟨q3, q4⟩ | ⟨q3, q4⟩
    · rw [q1, q3]
    · exact absurd q2 (oldc _ _ q4)
    · exact absurd q4 (oldc _ _ q2)
    · exact I.inj x y a q2 q4
  · rcases sub x a e with ⟨_, rfl⟩ | ⟨hne, e⟩
    · exact hCc2
    · have h' : csc.names.lookup x = some .free := (freeOf x (.inl h)).resolve_left hne
      rw [relab_lookup, h'] at h
      simp only [Option.map_some] at h
      split at h
      · rename_i q
        simp only [Bool.and_eq_true, beq_iff_eq] at q
        exact I.newC x a q.2 e
      · cases h

section
variable {α : Type} {c : Cx} {Z : AP} {n : Nat} {sc csc : Scope} {ρ ρi : Loc} {σ : Option Ac} {A : Around} {env : Env} {iter elt : Expr} {pos xp : Pos} {x₀ : Str}

theorem comp_runC {s s₂ : Shared} (I : In c Z n sc ρ σ A env s) (P₂ : Post c Z σ σ s s₂) (ok : CompOkC csc sc x₀) (hcells : ∀ k cl, cellsFrom k csc.names cl = (x₀, k) :: cl) (hpush : ∀ h, pushCells h csc.names = h.push { cls := .type "cell", data := .cell none }) (hcap : Cap csc ρi ρ) {xs : List α} {enc : α → PyData} {f : α → PyData}
    {It : Addr} {fp : List Addr} {St : Heap → List PyData → Prop} (it : Iter c Z s₂.heap It fp St) (st : St s₂.heap (xs.map enc)) (hσ : ∀ a, σ = some a → a.addr ∉ fp) (hn : s.heap.get? It = none) (hi : 235 ≤ It)
    (hitem : ∀ x ∈ xs, E1 c n (relab csc sc) ((x₀, .d (enc x)) :: ρi) σ elt (f x)) (hlen : xs.length ≤ 1000000) {RR : Value → Addr → Result → Shared → Prop} {E : Value → Shared → Prop}
    (hRR : ∀ D C s', Post c Z σ σ s s' → Rp Z s'.heap (.ref D) (.list (xs.map f)) → (∃ m, s'.heap.Ns C m) → s.heap.get? C = none → 235 ≤ C → RR (.ref D) C (.ok .next) s') :
    wpAny c.M A (newList []) (fun acc s₃ => wpAny c.M A (newFunctionEnv csc env.globals (clo env csc.names []) [] env.qual none .none (some env)) (fun cenv s₄ =>
      codeAny c.M A (.compStart (.ListComp elt [⟨.Name x₀ xp, iter, [], 0⟩] csc pos) 0 (.ref It) acc { cenv with scope := relabel csc env }) (RR acc cenv.locals) s₄) E s₃) E s₂ := by
  have ha : ∀ a, σ = some a → AccAt Z s.heap a := fun a e => (I.acc a e).1
  refine wpAny_newObj_type ?_
  simp only [newFunctionEnv, Option.isSome_some, if_true]
  refine wpAny_bind (wpAny_alloc ?_)
  refine wpAny_bind (wpAny_layCells _ (fun name kind cells => by cases hkc : kind == NameKind.cell <;> simp) _ _ _ _ ?_)
  rw [hcells, hpush]
  refine wpAny_pure ?_
  dsimp only
  generalize hH2 : s₂.heap.push { cls := .type "list", dict := none, data := .seq ([] : List Value).toArray } = H2
  have hsz : H2.objs.size = s₂.heap.objs.size + 1 := by rw [← hH2, Heap.size_push]
  rw [show ({ cls := .type "dict", data := .dict #[] } : Obj) = { cls := .type "dict", dict := none, data := .dict #[] 0, slots := #[] } from rfl]
  generalize hH3 : H2.push { cls := .type "dict", dict := none, data := .dict #[] 0, slots := #[] } = H3
  have hsz3 : H3.objs.size = s₂.heap.objs.size + 2 := by rw [← hH3, Heap.size_push, hsz]
  generalize hh₁ : H3.push { cls := .type "cell", data := .cell none } = h₁
  generalize hD : s₂.heap.objs.size = D at hsz hsz3
  generalize hC : H2.objs.size = C at hsz
  generalize hCc' : H3.objs.size = Cc at hsz3
  have hDn : s₂.heap.get? D = none := none_of (by rw [hD]; exact Nat.le_refl _)
  have hCn : s₂.heap.get? C = none := none_of (by rw [hD, hsz]; exact Nat.le_succ _)
  have hCcn : s₂.heap.get? Cc = none := none_of (by rw [hD, hsz3]; exact Nat.le_add_right _ _)
  have hDC : D ≠ C := by omega
  have hDCc : D ≠ Cc := by omega
  have hCCc : C ≠ Cc := by omega
  have old3 : ∀ b o, s₂.heap.get? b = some o → H3.get? b = some o := fun b o e => hH3 ▸ Heap.get?_push_of_some _ (hH2 ▸ Heap.get?_push_of_some _ e)
  have old : ∀ b o, s₂.heap.get? b = some o → h₁.get? b = some o := fun b o e => hh₁ ▸ Heap.get?_push_of_some _ (old3 b o e)
  have hacc : h₁.PlainList D #[] := ⟨_, hh₁ ▸ Heap.get?_push_of_some _ (hH3 ▸ Heap.get?_push_of_some _ (hH2 ▸ hD ▸ Heap.get?_push_size _ rfl))⟩
  have hns₁ : h₁.Ns C (fun _ => none) := ⟨_, #[], 0, hh₁ ▸ Heap.get?_push_of_some _ (hH3 ▸ hC ▸ Heap.get?_push_size _ rfl), rfl, fun _ he => by simp at he, fun _ => rfl⟩
  have hic₁ : h₁.IsCell Cc none := ⟨_, hh₁ ▸ hCc' ▸ Heap.get?_push_size _ rfl, rfl⟩
  have hDs : s.heap.get? D = none := P₂.stp.fresh hDn
  have hCs : s.heap.get? C = none := P₂.stp.fresh hCn
  have hCcs : s.heap.get? Cc = none := P₂.stp.fresh hCcn
  have hD2 : 235 ≤ D := P₂.stp.old.new (by rw [hD]; exact Nat.le_refl _)
  have hC2 : 235 ≤ C := Nat.le_trans hD2 (by omega)
  have hCc2 : 235 ≤ Cc := Nat.le_trans hD2 (by omega)
  -- what the block may not reach
  let ZD : AP := fun b => Z b ∨ b = D ∨ b = C ∨ b = Cc
  have hz : ∀ b, ZD b → Z b ∨ s.heap.get? b = none := fun b q => q.imp id fun q => by rcases q with rfl | rfl | rfl; exact hDs; exact hCs; exact hCcs
  have hz₂ : ∀ b, ZD b → Z b ∨ s₂.heap.get? b = none := fun b q => q.imp id fun q => by rcases q with rfl | rfl | rfl; exact hDn; exact hCn; exact hCcn
  have hnI : It ≠ D ∧ It ≠ C ∧ It ≠ Cc := by
    obtain ⟨o, e, _⟩ := it.fixI _ _ st
    exact ⟨fun q => (by rw [q, hDn] at e; cases e), fun q => (by rw [q, hCn] at e; cases e), fun q => (by rw [q, hCcn] at e; cases e)⟩
  have hfp : ∀ b ∈ fp, b ≠ D ∧ b ≠ C ∧ b ≠ Cc := fun b hb => by
    obtain ⟨o, e, _⟩ := it.fix _ _ st b hb
    exact ⟨fun q => (by rw [q, hDn] at e; cases e), fun q => (by rw [q, hCn] at e; cases e), fun q => (by rw [q, hCcn] at e; cases e)⟩
  have hzal : ∀ {s' : Shared}, Post c ZD σ σ s s' → (∃ o, s'.heap.get? D = some o) → (∃ m, s'.heap.Ns C m) → (∃ u, s'.heap.IsCell Cc u) → ∀ b, ZD b → ∃ o, s'.heap.get? b = some o := by
    intro s' P hd ⟨m, oc, _, _, ec, _⟩ ⟨_, o3, e3, _⟩ b q
    rcases q with q | rfl | rfl | rfl
    · obtain ⟨o, e⟩ := I.zal b q; exact P.stp.al b o e
    · exact hd
    · exact ⟨oc, ec⟩
    · exact ⟨o3, e3⟩
  have P₁ : Post c ZD σ σ s { s₂ with heap := h₁ } :=
    ⟨(P₂.upto old).stp, fun a e => (P₂.acc a e).dt (fun _ => old _ _) (fun _ => old _ _) ((Dat.of_keep old).new hz₂), rfl⟩
  -- between the turns
  let Inv : Nat → Shared → Prop := fun k s' => ∃ pre todo ys, todo.length = k ∧ pre ++ todo = xs ∧ St s'.heap (todo.map enc) ∧ Dat s₂.heap s'.heap ∧ s'.heap.PlainList D ys ∧ Rps ZD s'.heap ys.toList (pre.map f) ∧ (∃ m, s'.heap.Ns C m) ∧ (∃ u, s'.heap.IsCell Cc u) ∧ Post c ZD σ σ s s'
  have loop : ∀ s₃, Inv xs.length s₃ → codeAny c.M A (.compLoop (.ListComp elt [⟨.Name x₀ xp, iter, [], 0⟩] csc pos) 0 (.ref It) (.ref D) (cenvC csc env C x₀ Cc)) (RR (.ref D) C) s₃ := by
    intro s₃ h₃
    refine compLoop_any Inv (fun k s' ⟨pre, todo, ys, hk, hxs, st', dt, hpl, hys, ⟨m', hm'⟩, ⟨uc, hic⟩, P⟩ => ?_) xs.length h₃
    have hh := I.room.hd
    have hal := hzal P (let ⟨_, e⟩ := hpl; ⟨_, e⟩) ⟨m', hm'⟩ ⟨uc, hic⟩
    obtain ⟨nD, eD⟩ := hpl
    cases todo with
    | nil =>
      refine it.stop A s' _ _ hh st' fun h' tk kp => ?_
      obtain ⟨oI, eI, fI⟩ := it.fixI _ _ st'
      have P' : Post c Z σ σ s { s' with heap := h', toks := tk } := by
        refine ⟨P.stp.but hn eI hi kp, fun a e => ?_, rfl⟩
        obtain ⟨⟨o1, e1⟩, o2, e2⟩ := (ha a e).alive
        exact (P.acc a e).dt (fun o => kp _ _ fun q => by rw [q, hn] at e1; cases e1) (fun o => kp _ _ fun q => by rw [q, hn] at e2; cases e2) fun b o z e' hc => ⟨fun q => z (.inl q), dat_but eI fI kp b o e' hc⟩
      have hxs' : pre = xs := by rw [← hxs, List.append_nil]
      subst hxs'
      refine hRR D C _ P' (.list (fun q => ?_) (kp _ _ hnI.1.symm eD) rfl rfl rfl (hys.dt fun b o z e hc => ⟨fun q => z (.inl q), dat_but eI fI kp b o e hc⟩)) ⟨m', ns_at hm' fun o e => kp _ _ hnI.2.1.symm e⟩ hCs hC2
      obtain ⟨o, e⟩ := I.zal _ q
      rw [hDs] at e; cases e
    | cons x todo =>
      rw [List.map_cons] at st'
      have hx : x ∈ xs := by rw [← hxs]; exact List.mem_append.mpr (.inr (.head _))
      have helt := hitem x hx
      refine it.next A s' _ _ _ _ hh st' dt fun v h₄ tk₄ st₄ r₄ k₄ => ?_
      obtain ⟨oI, eI, fI⟩ := it.fixI _ _ st'
      have dI := dat_but eI fI k₄
      have P₄ : Post c ZD σ σ s { s' with heap := h₄, toks := tk₄ } := by
        refine ⟨P.stp.but hn eI hi k₄, fun a e => ?_, rfl⟩
        obtain ⟨⟨o1, e1⟩, o2, e2⟩ := (ha a e).alive
        exact (P.acc a e).dt (fun o => k₄ _ _ fun q => by rw [q, hn] at e1; cases e1) (fun o => k₄ _ _ fun q => by rw [q, hn] at e2; cases e2) dI.dt
      obtain ⟨oI₄, eI₄, fI₄⟩ := it.fixI _ _ st₄
      refine it.go A { s' with heap := h₄, toks := tk₄ } _ _ _ _ _ st₄ fun h₅ st₅ k₅ => ?_
      have dI₅ := dat_but eI₄ fI₄ k₅
      have P₅ : Post c ZD σ σ s { s' with heap := h₅, toks := tk₄ } := by
        refine ⟨P₄.stp.but hn eI₄ hi k₅, fun a e => ?_, rfl⟩
        obtain ⟨⟨o1, e1⟩, o2, e2⟩ := (ha a e).alive
        exact (P₄.acc a e).dt (fun o => k₅ _ _ fun q => by rw [q, hn] at e1; cases e1) (fun o => k₅ _ _ fun q => by rw [q, hn] at e2; cases e2) dI₅.dt
      have hm₅ : h₅.Ns C m' := ns_at hm' fun o e => k₅ _ _ hnI.2.1.symm (k₄ _ _ hnI.2.1.symm e)
      have eD₅ : h₅.get? D = some _ := k₅ _ _ hnI.1.symm (k₄ _ _ hnI.1.symm eD)
      have hic₅ : h₅.IsCell Cc uc := by
        obtain ⟨o, e, q⟩ := hic
        exact ⟨o, k₅ _ _ hnI.2.2.symm (k₄ _ _ hnI.2.2.symm e), q⟩
      have hkC : (cenvC csc env C x₀ Cc).scope.kind = .function := by
        show (relabel csc env).kind = .function
        rw [relabel_is I.scope]; exact ok.kind
      have hkx : (cenvC csc env C x₀ Cc).kindOf x₀ = some .cell := by
        show (relabel csc env).names.lookup x₀ = some .cell
        rw [relabel_is I.scope, relab_lookup, ok.xcell]; rfl
      have hkl : (cenvC csc env C x₀ Cc).cells.lookup x₀ = some Cc := by
        show ((x₀, Cc) :: clo env csc.names []).lookup x₀ = some Cc
        simp
      refine wpAny_assign_Name (wpAny_storeName_cell hkC hkx hkl hic₅ fun h₆ ic₆ hs₆ => ?_)
      have k₆ : ∀ b o, b ≠ Cc → h₅.get? b = some o → h₆.get? b = some o := fun b o nb e => (hs₆.2 b nb).trans e
      obtain ⟨oc₅, ec₅, hdc₅⟩ := id hic₅
      have P₆ : Post c ZD σ σ s { s' with heap := h₆, toks := tk₄ } := Post.but (tk := tk₄) ha P₅ (.inr (.inr (.inr rfl))) hCcs ec₅ hCc2 k₆
      have d₆ : Dat h₅ h₆ := fun b o e hc => k₆ b o (fun q => by
        subst q
        rw [ec₅] at e; cases e
        obtain ⟨⟨vs, n, q⟩, _⟩ := hc
        rw [hdc₅] at q; cases q) e
      have hm₆ : h₆.Ns C m' := ns_at hm₅ fun o e => k₆ _ _ hCCc e
      have eD₆ : h₆.get? D = some _ := k₆ _ _ hDCc eD₅
      refine wpAny_tests_nil ?_
      simp only [if_true]
      have I₆ : In c ZD n (relab csc sc) ((x₀, .d (enc x)) :: ρi) σ A (cenvC csc env C x₀ Cc) { s' with heap := h₆, toks := tk₄ } :=
        I.innerC ok hcap P₆ hz (hzal P₆ ⟨_, eD₆⟩ ⟨m', hm₆⟩ ⟨_, ic₆⟩) hm₆ hCs hC2 hCcs hCc2 ic₆ (((r₄ ZD hz₂ hal).step dI₅).step d₆)
      have dt₆ : Dat s₂.heap h₆ := ((dt.trans dI).trans dI₅).trans d₆
      have st₆ : St h₆ (todo.map enc) := it.frame _ _ _ st₅ (fun b hb o e => k₆ _ _ (hfp b hb).2.2 e) dt₆
      -- what stands behind a step of the block
      have stand : ∀ {s₈ : Shared}, Post c ZD σ σ { s' with heap := h₆, toks := tk₄ } s₈ → St s₈.heap (todo.map enc) ∧ Dat s₂.heap s₈.heap ∧ s₈.heap.PlainList D ys ∧ Rps ZD s₈.heap ys.toList (pre.map f) := by
        intro s₈ M
        have dt₈ : Dat s₂.heap s₈.heap := dt₆.trans M.stp.dat
        refine ⟨it.stay (all := true) (env := cenvC csc env C x₀ Cc) st₆ P₆.stp.old ⟨m', hm₆⟩ I₆.cells hσ (fun a e => ⟨_, (I₆.acc a e).1⟩) (M.toF (all := true) (env := cenvC csc env C x₀ Cc)).stp.kp dt₈, dt₈, ⟨nD, M.stp.dat _ _ eD₆ ⟨⟨_, _, rfl⟩, .inl rfl⟩⟩, hys.step (((dI.trans dI₅).trans d₆).trans M.stp.dat)⟩
      have hlt : todo.length < k := by rw [← hk]; exact Nat.lt_succ_self _
      refine wp_mono (helt ZD A (cenvC csc env C x₀ Cc) _ I₆) fun y s₈ ⟨Q₈, r₈⟩ => ?_
      have P₈ := P₆.trans Q₈
      obtain ⟨a1, a2, a3, a4⟩ := stand Q₈
      have hlen' : ys.size ≤ sizeLine := by
        have h1 := a4.length
        
        have h3 : pre.length ≤ xs.length := by rw [← hxs, List.length_append]; exact Nat.le_add_right _ _
        simp only [List.length_map, Array.length_toList] at h1
        rw [sizeLine_eq]; omega
      refine wpAny_list_append_plain a3 (fun h₉ hpl₉ hs₉ => ?_) hlen'
      obtain ⟨nD₈, eD₈⟩ := a3
      have k₉ : ∀ b o, b ≠ D → s₈.heap.get? b = some o → h₉.get? b = some o := fun b o nb e => (hs₉.2 b nb).trans e
      have P₉ : Post c ZD σ σ s { s₈ with heap := h₉ } := Post.but (tk := s₈.toks) ha P₈ (.inr (.inl rfl)) hDs eD₈ hD2 k₉
      have dz : Dt ZD ZD s₈.heap h₉ := fun b o z e _ => ⟨z, k₉ _ _ (fun q => z (.inr (.inl q))) e⟩
      obtain ⟨m₈, hm₈⟩ := (I₆.post Q₈).ns
      have nD2 : ∀ {b : Addr} {o : Obj}, s₂.heap.get? b = some o → b ≠ D := fun e q => by rw [q, hDn] at e; cases e
      have hic₉ : ∃ u, h₉.IsCell Cc u := by
        obtain ⟨u, o, e, q⟩ := (I₆.post Q₈).cells x₀ Cc hkl
        exact ⟨u, o, k₉ _ _ hDCc.symm e, q⟩
      refine ⟨_, hlt, pre ++ [x], todo, ys.push y, rfl, by rw [← hxs]; simp, it.frame _ _ _ a1 (fun b hb o e => k₉ _ _ (hfp b hb).1 e) (fun b o e hc => k₉ _ _ (nD2 e) (a2 b o e hc)), (fun b o e hc => k₉ _ _ (nD2 e) (a2 b o e hc)), hpl₉, ?_, ⟨m₈, ns_at hm₈ fun o e => k₉ _ _ hDC.symm e⟩, hic₉, P₉⟩
      have : Rps ZD h₉ (ys.toList ++ [y]) (pre.map f ++ [f x]) := (a4.dt dz).append (.cons (r₈.dt dz) .nil)
      simpa using this
  have inv₁ : Inv xs.length { s₂ with heap := h₁ } :=
    ⟨[], xs, #[], rfl, rfl, it.frame _ _ _ st (fun b hb o e => old _ _ e) (.of_keep old), .of_keep old, hacc, .nil, ⟨_, hns₁⟩, ⟨_, hic₁⟩, P₁⟩
  exact codeAny_compStart_list (loop _ inv₁) (it.self _ _ _ _ _ (it.frame _ _ _ st (fun b hb o e => old _ _ e) (.of_keep old)) (loop _ inv₁))
end

section
variable {α : Type} {c : Cx} {n : Nat} {sc csc : Scope} {ρ ρi : Loc} {σ : Option Ac} {iter elt : Expr} {pos xp : Pos} {x₀ : Str}
/-- such a comprehension that goes into a plain local -/
theorem S1.assignCompC {y : Str} {py spos : Pos} {ds : List PyData} (hsrc : Src c n sc ρ σ iter ds) (ok : compOkC csc sc x₀ = true) (hcells : ∀ k cl, cellsFrom k csc.names cl = (x₀, k) :: cl) (hpush : ∀ h, pushCells h csc.names = h.push { cls := .type "cell", data := .cell none })
    (hcap : Cap csc ρi ρ) (xs : List α) (enc : α → PyData) (f : α → PyData) (hds : ds = xs.map enc) (hitem : ∀ x ∈ xs, E1 c n (relab csc sc) ((x₀, .d (enc x)) :: ρi) σ elt (f x))
    (hlen : xs.length ≤ 1000000) (hy : sc.names.lookup y = some .local) (hsw : ∀ env : Env, env.scope = sc → swapsWith (.ListComp elt [⟨.Name x₀ xp, iter, [], 0⟩] csc pos) (some (.Name y py)) spos.line env = pure true) (hs : ∀ x env, foldedSetIterable iter env x = pure x := by intro _ _; rfl) :
    S1 c n sc ρ σ (.Assign [.Name y py] (.ListComp elt [⟨.Name x₀ xp, iter, [], 0⟩] csc pos) spos) (Qn ((y, .d (.list (xs.map f))) :: ρ) σ) := fun Z A env s I => by
  have ok := CompOkC.of ok
  subst hds
  rw [exec_Assign_Name_used _ _ _ _ (hsw env I.scope)]
  refine wpAny_bind (wpAny_standAt (wpAny_bind ?_))
  show wpAny _ A (do let _ ← comprehension (.ListComp elt [⟨.Name x₀ xp, iter, [], 0⟩] csc pos) csc env _ (newList []) false (eval iter env) (some (PySem.assign (PySem.Expr.Name y py) env))) _ _ s
  refine wpAny_bind (wp_mono (wpAny_comprehension_free (E := NoE) (use := some (PySem.assign (PySem.Expr.Name y py) env)) (Q := fun _ s' => Left c Z n sc σ A env (Qn ((y, .d (.list (xs.map f))) :: ρ) σ) s .next s') rfl (fun x => hs x env) (closure_is fun y hy e => I.cel _ (ok.free y hy e)) ok.kind ok.names
    (hsrc Z A env s _ _ I fun It fp St s₂ it st P₂ hσ hn hi => ?_)) fun _ s' hq => wpAny_pure (wpAny_pure hq))
  refine comp_runC (xp := xp) (RR := fun acc C => compPost c.M A NoE (some (PySem.assign (PySem.Expr.Name y py) env)) (fun _ s' => Left c Z n sc σ A env (Qn ((y, .d (.list (xs.map f))) :: ρ) σ) s .next s') acc C) I P₂ ok hcells hpush hcap it st hσ hn hi hitem hlen fun D C s' P r hm hC hC2 => ?_
  show wpAny _ A (PySem.assign (PySem.Expr.Name y py) env (.ref D)) _ _ s'
  refine wpAny_assign_Name ((I.post P).store (all := true) (.inl hy) (v := .d _) r fun s'' I'' M => ?_)
  have hm'' : ∃ m, s''.heap.Ns C m := by
    obtain ⟨m, o, es, ep, e, hd, q⟩ := hm
    have hne : ¬ Tb (ownM true env (Xs σ)) C := by
      rintro (rfl | rfl | rfl | ⟨_, x, q⟩ | ⟨a, ea, rfl | rfl⟩)
      · exact absurd hC2 (by decide)
      · exact absurd hC2 (by decide)
      · obtain ⟨m, o, _, _, e', _⟩ := I.ns; rw [hC] at e'; cases e'
      · obtain ⟨u, o, e', _⟩ := I.cells x C q; rw [hC] at e'; cases e'
      · obtain ⟨⟨o, e'⟩, _⟩ := (I.acc a ea).1.alive; rw [hC] at e'; cases e'
      · obtain ⟨_, o, e'⟩ := (I.acc a ea).1.alive; rw [hC] at e'; cases e'
    obtain ⟨o', e', sm⟩ := M.stp.kp C o e hne
    exact ⟨m, o', es, ep, e', sm.data.trans hd, q⟩
  obtain ⟨m, hm₂⟩ := id hm''
  refine ⟨m, hm₂, fun h' hs' => ?_⟩
  obtain ⟨⟨o, e⟩, k, dt⟩ := dict_off hm'' hs'
  exact ⟨.next, _, σ, ⟨rfl, rfl, rfl⟩, I.beside (tk := s''.toks) I'' rfl hC e hC2 k dt, (P.toF.trans M).but (tk := s''.toks) hC e hC2 k, trivial⟩
end
end Mine
end

section
open PySem PySem.W PyProof.Rows PySem.Calls PySem.Spec
set_option Elab.async false
set_option linter.unusedVariables false
set_option maxRecDepth 100000
namespace Mine

section
variable {c : Cx} {n : Nat} {sc : Scope} {ρ : Loc} {σ σ₁ σ' : Option Ac}
/-- items that may turn the accumulator -/
noncomputable def ArgsX (c : Cx) (n : Nat) (sc : Scope) (ρ : Loc) (σ : Option Ac) (es : List Expr) (ds : List PyData) (σ' : Option Ac) : Prop :=
  ∀ Z A env s pos, In c Z n sc ρ σ A env s → ∀ (Q : List Value → Shared → Prop) (E : Value → Shared → Prop), (∀ us s', Post c Z σ σ' s s' → In c Z n sc ρ σ' A env s' → Rps Z s'.heap us ds → Q us s') → wpAny c.M A (spliced (backTo pos (starEach es env))) Q E s
theorem ArgsX.nil : ArgsX c n sc ρ σ [] [] σ := fun Z A env s pos I Q E hQ => spliced_none (hQ [] s I.same I .nil)
theorem ArgsX.cons {e : Expr} {es : List Expr} {d : PyData} {ds : List PyData} (h : Ev c n sc ρ σ e d σ₁) (hs : ArgsX c n sc ρ σ₁ es ds σ') (he : ∀ env, starEach (e :: es) env = (false, eval e env) :: starEach es env := by intro _; rfl) : ArgsX c n sc ρ σ (e :: es) (d :: ds) σ' := fun Z A env s pos I Q E hQ =>
  spliced_more (wp_mono (h Z A env s I) fun u s₁ ⟨P₁, r₁⟩ => hs Z A env s₁ pos (I.post P₁) _ _ fun us s₂ P₂ I₂ r₂ => hQ _ s₂ (P₁.trans P₂) I₂ (.cons (r₁.step P₂.stp.dat) r₂)) (he env)
theorem Ev.listX {es : List Expr} {ds : List PyData} {pos : Pos} (h : ArgsX c n sc ρ σ es ds σ') (hl : ds.length ≤ 1000000) : Ev c n sc ρ σ (.List es pos) (.list ds) σ' := fun Z A env s I =>
  wpAny_List_spliced (h Z A env s pos I _ _ fun us s' P I' rs => by
    refine ⟨by rw [rs.length, sizeLine_eq]; omega, ?_⟩
    have := (I'.pre.newSeq (tk := s'.toks) rs).1
    exact ⟨P.trans this.1, this.2⟩)

theorem Ev.strLine {a : Ac} {z : Int} {x : Str} {fp xp cp : Pos} (L : LineFacts c) (I : IsLine a z) (g : GlobIs c sc "str" (.type "str")) (htot : ((a.ps.map pieceText).map (·.length)).sum ≤ 1000000) (hx : ρ.lookup x = some .ac := by rfl) (hdb : (x == ("__debug__" : Str)) = false := by rfl) (hcd : (x == ("__classdict__" : Str)) = false := by rfl) (h1 : ∀ env, starEach [.Name x xp] env = (false, eval (.Name x xp) env) :: starEach [] env := by intro _; rfl) :
    E1 c (n + 2) sc ρ (some a) (.Call (.Name "str" fp) [.Name x xp] [] cp) (.str (allText a.ps)) := by
  obtain ⟨te, g1, g2⟩ := L.gEmp
  have few := I.few
  exact Ev.callT g (.cons (.ac hx hdb hcd) .nil h1) (BfR.strAc (n := n + 1) I.cls L.fStr L.isStr (fn_str L.d74 L.acc L.sub L.gen g1 g2 I.cls (by omega) (fun q hq => by have := I.small q hq; omega) htot))

/-- a comprehension without a test -/
theorem Ev.compAll {α : Type} {csc : Scope} {ρi : Loc} {target iter elt : Expr} {pos : Pos} {ds : List PyData} (hsrc : Src c n sc ρ σ iter ds) (xs : List α) (enc : α → PyData) (f : α → PyData) (hcap : Cap csc ρi ρ) (hds : ds = xs.map enc) (hitem : ∀ x ∈ xs, ∃ ρ₂, AsgM false c n (relab csc sc) ρi σ target (enc x) ρ₂ ∧ E1 c n (relab csc sc) ρ₂ σ elt (f x))
    (hlen : xs.length ≤ 1000000) (ok : compOkB csc sc = true := by rfl) (hs : ∀ x env, foldedSetIterable iter env x = pure x := by intro _ _; rfl) : E1 c n sc ρ σ (.ListComp elt [⟨target, iter, [], 0⟩] csc pos) (.list (xs.map f)) :=
  (Ev.comp hsrc ok hcap xs enc (fun _ => true) f hds (fun x hx => let ⟨ρ₂, h1, h2⟩ := hitem x hx; ⟨ρ₂, h1, .nil, fun _ => h2⟩) hlen hs).to (by rw [List.filter_eq_self.mpr fun _ _ => rfl])
theorem Ev.compIf {α : Type} {csc : Scope} {ρi : Loc} {target iter elt test : Expr} {pos : Pos} {ds : List PyData} (hsrc : Src c n sc ρ σ iter ds) (xs : List α) (enc : α → PyData) (p : α → Bool) (f : α → PyData) (hcap : Cap csc ρi ρ) (hds : ds = xs.map enc) (hitem : ∀ x ∈ xs, ∃ ρ₂, AsgM false c n (relab csc sc) ρi σ target (enc x) ρ₂ ∧ EvB c n (relab csc sc) ρ₂ σ test (p x) σ ∧ (p x = true → E1 c n (relab csc sc) ρ₂ σ elt (f x)))
    (hlen : xs.length ≤ 1000000) (ok : compOkB csc sc = true := by rfl) (hs : ∀ x env, foldedSetIterable iter env x = pure x := by intro _ _; rfl) : E1 c n sc ρ σ (.ListComp elt [⟨target, iter, [test], 0⟩] csc pos) (.list ((xs.filter p).map f)) :=
  Ev.comp hsrc ok hcap xs enc p f hds (fun x hx => let ⟨ρ₂, h1, h2, h3⟩ := hitem x hx; ⟨ρ₂, h1, .one h2, h3⟩) hlen hs
end

/-! ## the law's blocks -/
noncomputable def bodyOf : Stmt → List Stmt
  | .For _ _ b _ _ => b
  | _ => []
noncomputable def dOuter : List Stmt := (dLaw.body[4]?).elim [] bodyOf
noncomputable def dInner : List Stmt := (dOuter[4]?).elim [] bodyOf

structure LawFacts (c : Cx) : Prop where
  line : LineFacts c
  gSum : GlobIs c dLaw.scope "sum" (.builtin "sum")
  gEnum : GlobIs c dLaw.scope "enumerate" (.type "enumerate")
  gAcc : GlobIs c dLaw.scope "_Accumulator" (.ref 100)
  gSorted : GlobIs c dLaw.scope "sorted" (.builtin "sorted")
  gRange : GlobIs c dLaw.scope "range" (.type "range")
  gLen : GlobIs c dLaw.scope "len" (.builtin "len")
  gSend : GlobIs c dLaw.scope "_law_send" (.ref 228)
  gMax : GlobIs c dLaw.scope "max" (.builtin "max")
  gMin : GlobIs c dLaw.scope "min" (.builtin "min")
  gStr : GlobIs c dLaw.scope "str" (.type "str")
  kSend : keepIn c.K (.ref 228) = true
  d228 : DefAt c 228 dSend .none []
  sLen : GlobIs c dSend.scope "len" (.builtin "len")
  sMax : GlobIs c dSend.scope "max" (.builtin "max")

noncomputable def chD (c : Ch) : PyData := .tuple [.int (c.k : Int), .int (c.h : Int), .str (tx c.r)]
noncomputable def chsD (cs : List Ch) : PyData := .list (cs.map chD)

structure SmallP (qs : List Pc) : Prop where
  few : qs.length ≤ 5
  small : ∀ q ∈ qs, q.1.length ≤ 10 ∧ q.2.length ≤ 10 ∧ (∀ k ∈ q.1, k < 1000) ∧ ∀ k ∈ q.2, k < 1000
structure SmallC (cs : List Ch) (i : Nat) : Prop where
  few : cs.length ≤ 2 ^ i
  small : ∀ c ∈ cs, c.r.length ≤ 20 * i
theorem SmallC.grow {cs : List Ch} {i : Nat} (h : SmallC cs i) {q : Pc} (h1 : q.1.length ≤ 10) (h2 : q.2.length ≤ 10) (due : Nat) : SmallC (growCh cs q due) (i + 1) := by
  constructor
  · have := List.length_filter_le (chIn q due) cs
    have := h.few
    simp only [growCh, List.length_append, List.length_map, Nat.pow_succ]
    omega
  · intro c hc
    rcases List.mem_append.mp hc with hc | hc
    · have := h.small c hc; omega
    · obtain ⟨c₀, h0, rfl⟩ := List.mem_map.mp hc
      have := h.small c₀ (List.mem_filter.mp h0).1
      simp only [chMore, List.length_append]
      omega
theorem canLay_tx {l : List Nat} (h : ∀ k ∈ l, k < 1000) : (PyData.str (tx l)).canLay0 = true := by
  simp only [PyData.canLay0, PyData.strOk, tx, List.all_toArray, List.all_eq_true, decide_eq_true_eq]
  intro k hk
  have := h k hk
  omega
theorem SmallP.ok {qs : List Pc} (h : SmallP qs) : OkTexts (pcs qs) := fun q hq => by
  obtain ⟨q₀, h0, rfl⟩ := List.mem_map.mp hq
  exact ⟨canLay_tx (h.small q₀ h0).2.2.1, canLay_tx (h.small q₀ h0).2.2.2⟩
theorem SmallP.line {qs : List Pc} (h : SmallP qs) {a : Ac} {f : Nat} (ha : a.cls = 100) (hat : a.attrs = [(("_initial_size" : Str), PyData.int (f : Int))]) (hf : f ≤ 3) : IsLine { a with ps := pcs qs } (f : Int) := by
  refine ⟨ha, hat, ?_, fun q hq => ?_, by omega⟩
  · have := h.few; simp [pcs]; omega
  · obtain ⟨q₀, h0, rfl⟩ := List.mem_map.mp hq
    have := h.small q₀ h0
    simp only [pc, tx_length]
    omega
end Mine
end

section
open PySem PySem.W PyProof.Rows PySem.Calls PySem.Spec
set_option Elab.async false
set_option linter.unusedVariables false
set_option maxRecDepth 100000
namespace Mine

noncomputable abbrev envI (jd : List PyData) (f : Nat) (cs : List Ch) : Loc := [("line", .ac), ("choices", .d (chsD cs)), ("jobs", .d (.list jd)), ("free", .d (.int (f : Int)))]

theorem law_turn {c : Cx} {n : Nat} {a : Ac} {f d due i : Nat} {qs : List Pc} {cs : List Ch} {jd : List PyData} {p : Nat} {lead reply : PyData} {q : Pc} (LF : LawFacts c) (ha : a.cls = 100) (hat : a.attrs = [(("_initial_size" : Str), PyData.int (f : Int))]) (hf : f ≤ 3) (G : Good f d qs cs) (hd : d ≤ due)
    (SP : SmallP (qs ++ [q])) (SC : SmallC cs i) (hi : i ≤ 5) (hp : p < 1000) (hj : jd[((p : Nat) : Int).toNat]? = some (.tuple [lead, .str (tx q.1), reply, .str (tx q.2)])) :
    Ss c (n + 5) dLaw.scope (("place", .d (.int (p : Int))) :: ("due", .d (.int (due : Int))) :: envI jd f cs) (some { a with ps := pcs qs }) dInner (fun o ρ₃ σ₃ => match o with
      | .next | .cont => Sub (envI jd f (growCh cs q due)) ρ₃ ∧ some { a with ps := pcs (sendP f due qs q) } = σ₃ | .brk => False | .ret v => False) := by
  have hq := SP.small q (by simp)
  have hlen : cs.length ≤ 32 := Nat.le_trans SC.few (Nat.le_trans (Nat.pow_le_pow_right (by decide) hi) (by decide))
  have hp63 : ((p : Nat) : Int) < 2 ^ 63 := by omega
  refine Ss.setC (.itemT (.itemL .name .name (by omega) hp63 hj) .int (by decide) (by decide) (by rfl)) ?_
  refine Ss.setC (.itemT (.itemL .name .name (by omega) hp63 hj) .int (by decide) (by decide) (by rfl)) ?_
  refine Ss.setC (d := .int ((pcLen q : Nat) : Int)) ((Ev.bin (.callB LF.gLen (.cons (.of .name) .nil) (.lenS (by rw [tx_length]; omega))) (.callB LF.gLen (.cons (.of .name) .nil) (.lenS (by rw [tx_length]; omega))) .add).to (by rw [tx_length, tx_length]; rfl)) ?_
  -- it is sent
  have SP₀ : SmallP qs := ⟨by have := SP.few; simp at this; omega, fun x hx => SP.small x (by simp [hx])⟩
  have hne : lens (qs ++ [q]) ≠ [] := by simp [lens]
  obtain ⟨M, hM, hgM, hno, hglt, hmax⟩ := gone_spec hne
  have eqs : pcs qs ++ [(tx q.1, tx q.2)] = pcs (qs ++ [q]) := by simp [pcs, pc]
  have hsend : Fn c (n + 5) 228 [.ac, .d (.str (tx q.1)), .d (.str (tx q.2)), .d (.int (due : Int))] (some { a with ps := pcs qs }) (.bool true) (some { a with ps := pcs (sendP f due qs q) }) := by
    have := fn_send (n := n + 2) (a := { a with ps := pcs qs }) (z := (f : Int)) (due := (due : Int)) (M := (M : Int)) (u := tx q.1) (v := tx q.2) (g := gone (lens (qs ++ [q]))) LF.line LF.d228 LF.sLen LF.sMax (SP₀.line ha hat hf) (by have := SP₀.few; simp [pcs]; omega) (by rw [tx_length]; omega) (by rw [tx_length]; omega)
      (by dsimp only; rw [eqs]; exact SP.ok) (by dsimp only; rw [eqs, pieceLens]; exact max_cast hM) (by dsimp only; rw [eqs, pieceLens, List.getElem?_map, hgM]; rfl)
      (by
        intro j hj' e
        dsimp only at e
        rw [eqs, pieceLens, List.getElem?_map] at e
        cases hx : (lens (qs ++ [q]))[j]? with
        | none => rw [hx] at e; cases e
        | some y =>
          rw [hx] at e
          simp only [Option.map_some, Option.some.injEq] at e
          exact hno j hj' (by rw [hx]; congr 1; omega))
    dsimp only at this
    rw [show ((tx q.1, tx q.2) : Str × Str) = pc q from rfl, sent_pcs] at this
    exact this
  refine Ss.ite_no (.to (.not (.val (.callFn LF.gSend LF.kSend (.cons (.ac (by rfl)) (.cons (.of .name) (.cons (.of .name) (.cons (.of .name) .nil)))) hsend))) rfl) ?_
  -- the choices
  refine Ss.setC (d := chsD (growCh cs q due)) ((Ev.bin .name (.compIf (ρi := [("hours", .d (.int ((pcLen q : Nat) : Int))), ("white", .d (.str (tx q.1))), ("name", .d (.str (tx q.2))), ("due", .d (.int (due : Int)))]) (.list .name) cs chD (chIn q due) (fun x => chD (chMore q x)) ?_ rfl ?_ (by omega)) (.catLs ?_)).to ?_) ?_
  · exact ⟨by rfl, by rfl, by rfl, by rfl, by rfl, by rfl, by rfl, by rfl, trivial⟩
  · intro x hx
    have hxr := SC.small x hx
    have h20 : 20 * i ≤ 100 := by omega
    refine ⟨_, .tuple (.cons (.inl (by rfl)) (.cons (.inl (by rfl)) (.cons (.inl (by rfl)) .nil))), EvB.to (.cmp (.bin .name .name .add) .name .le) ?_, fun _ => Ev.to (.tuple (ds := [.int (x.k + 1 : Int), .int ((x.h : Int) + ((pcLen q : Nat) : Int)), .str (tx (x.r ++ q.1 ++ q.2))]) (.cons (.of (.bin .name .int .add)) (.cons (.of (.bin .name .name .add)) (.cons (.of (.bin (.bin .name .name (.catL (by omega))) .name (.catL (by rw [List.length_append]; omega)))) .nil))) (by simp)) ?_⟩
    · simp only [chIn]
      rw [decide_eq_decide]; omega
    · simp only [chD, chMore]
      congr 1
  · have h1 : ((cs.filter (chIn q due)).map fun x => chD (chMore q x)).length ≤ cs.length := by rw [List.length_map]; exact List.length_filter_le ..
    rw [List.length_map]; omega
  · simp only [chsD, growCh, List.map_append, List.map_map]
    rfl
  have G' : Good f due (sendP f due qs q) (growCh cs q due) := G.step hd q
  have SC' : SmallC (growCh cs q due) (i + 1) := SC.grow hq.1 hq.2.1 due
  have SP' : SmallP (sendP f due qs q) := by
    unfold sendP
    split
    · exact SP
    · refine ⟨?_, fun x hx => ?_⟩
      · have := SP.few
        simp only [List.length_append, List.length_take, List.length_drop, List.length_singleton] at this ⊢
        omega
      · rcases List.mem_append.mp hx with hx | hx
        · exact SP.small x (List.mem_of_mem_take hx)
        · exact SP.small x (List.mem_of_mem_drop hx)
  generalize growCh cs q due = cs' at *
  generalize sendP f due qs q = qs' at *
  have hlen' : cs'.length ≤ 64 := Nat.le_trans SC'.few (Nat.le_trans (Nat.pow_le_pow_right (by decide) (Nat.succ_le_succ hi)) (by decide))
  have hl5 := SP'.few
  have IL : IsLine { a with ps := pcs qs' } (f : Int) := SP'.line ha hat hf
  refine Ss.setC (d := .int ((qs'.length : Nat) : Int)) (.callB LF.gMax (.cons (.of (Ev.to (.compAll (ρi := []) (.list .name) cs' chD (fun x => .int (x.k : Int)) trivial rfl ?_ (by omega)) (d' := .list ((cs'.map fun x => (x.k : Int)).map .int)) ?_)) .nil) (BfR.maxL (best_gt ?_ ?_))) ?_
  · intro x hx
    exact ⟨_, .tuple (.cons (.inl (by rfl)) (.cons (.inl (by rfl)) (.cons (.inl (by rfl)) .nil))), .name⟩
  · rw [List.map_map]; rfl
  · exact List.mem_map.mpr ⟨_, G'.whole, rfl⟩
  · intro y hy
    obtain ⟨x, hx, rfl⟩ := List.mem_map.mp hy
    have := G'.size x hx
    omega
  refine Ss.setC (d := .int ((tot f qs' : Nat) : Int)) (.callB LF.gMin (.cons (.of (Ev.to (.compIf (ρi := [("most", .d (.int ((qs'.length : Nat) : Int)))]) (.list .name) cs' chD (fun x => (x.k : Int) == ((qs'.length : Nat) : Int)) (fun x => .int (x.h : Int)) ⟨by rfl, by rfl, trivial⟩ rfl ?_ (by omega)) (d' := .list (((cs'.filter fun x => (x.k : Int) == ((qs'.length : Nat) : Int)).map fun x => (x.h : Int)).map .int)) ?_)) .nil) (BfR.minL (best_lt ?_ ?_))) ?_
  · intro x hx
    exact ⟨_, .tuple (.cons (.inl (by rfl)) (.cons (.inl (by rfl)) (.cons (.inl (by rfl)) .nil))), .cmp .name .name .eqI, fun _ => .name⟩
  · rw [List.map_map]; rfl
  · exact List.mem_map.mpr ⟨_, List.mem_filter.mpr ⟨G'.whole, by simp⟩, rfl⟩
  · intro y hy
    obtain ⟨x, hx, rfl⟩ := List.mem_map.mp hy
    obtain ⟨hx, hk⟩ := List.mem_filter.mp hx
    have := G'.least x hx (by simp only [beq_iff_eq] at hk; omega)
    omega
  have hpl : ((pcs qs').length : Int) = ((qs'.length : Nat) : Int) := by simp [pcs]
  have hsl : (f : Int) + sumLen (pcs qs') = ((tot f qs' : Nat) : Int) := by rw [sumLen_pcs]; unfold tot; omega
  have sh1 : SeqAt.shaped (.list [.int ((qs'.length : Nat) : Int), .int ((tot f qs' : Nat) : Int)]) = true := by rfl
  refine Ss.ite_no (.cmp (Ev.list (ds := [.int ((qs'.length : Nat) : Int), .int ((tot f qs' : Nat) : Int)]) (.cons (.of ((Ev.partLine (n := n + 3) (a := { a with ps := pcs qs' }) LF.line IL).to (congrArg PyData.int hpl))) (.cons (.of ((Ev.lenLine (n := n + 3) (a := { a with ps := pcs qs' }) LF.line IL LF.gLen).to (congrArg PyData.int hsl))) .nil)) (by simp))
    (Ev.list (ds := [.int ((qs'.length : Nat) : Int), .int ((tot f qs' : Nat) : Int)]) (.cons (.of .name) (.cons (.of .name) .nil)) (by simp)) (.neD sh1 sh1 (by rw [PySem.SeqAt.eqv_refl _ (SeqAt.canLay_of_shaped sh1)]; rfl))) ?_
  have htot : (((pcs qs').map pieceText).map (·.length)).sum ≤ 1000000 := by
    have e : (((pcs qs').map pieceText).map (·.length)) = lens qs' := by
      unfold pcs lens
      rw [List.map_map, List.map_map]
      refine List.map_congr_left fun x _ => ?_
      show (pieceText (pc x)).length = pcLen x
      rw [pieceText_pc, tx_length, List.length_append]; rfl
    rw [e]
    have b := sumLen_bound (ps := pcs qs') IL.small
    rw [sumLen_pcs] at b
    have : (pcs qs').length = qs'.length := by simp [pcs]
    omega
  have sh2 : ∀ a b : Int, SeqAt.shaped (.tuple [.int a, .int b]) = true := fun _ _ => by rfl
  refine Ss.ite_no (.to (.cmp ((Ev.strLine (n := n + 3) (a := { a with ps := pcs qs' }) LF.line IL LF.gStr htot).to (congrArg PyData.str (allText_pcs qs'))) (Ev.to (.compIf (ρi := [("most", .d (.int ((qs'.length : Nat) : Int))), ("least", .d (.int ((tot f qs' : Nat) : Int)))]) (.list .name) cs' chD
    (fun x => PyData.eqv (.tuple [.int (x.k : Int), .int (x.h : Int)]) (.tuple [.int ((qs'.length : Nat) : Int), .int ((tot f qs' : Nat) : Int)])) (fun x => .str (tx x.r)) ⟨by rfl, by rfl, by rfl, by rfl, trivial⟩ rfl ?_ (by omega))
    (d' := .list (((cs'.filter fun x => PyData.eqv (.tuple [.int (x.k : Int), .int (x.h : Int)]) (.tuple [.int ((qs'.length : Nat) : Int), .int ((tot f qs' : Nat) : Int)])).map fun x => tx x.r).map .str)) ?_) .notInS) ?_) (Ss.nil ?_)
  · intro x hx
    exact ⟨_, .tuple (.cons (.inl (by rfl)) (.cons (.inl (by rfl)) (.cons (.inl (by rfl)) .nil))), .cmp (.tuple (ds := [.int (x.k : Int), .int (x.h : Int)]) (.cons (.of .name) (.cons (.of .name) .nil)) (by simp)) (.tuple (ds := [.int ((qs'.length : Nat) : Int), .int ((tot f qs' : Nat) : Int)]) (.cons (.of .name) (.cons (.of .name) .nil)) (by simp)) (.eqD (sh2 _ _) (sh2 _ _) rfl), fun _ => .name⟩
  · rw [List.map_map]; rfl
  · rw [Bool.not_eq_false', List.any_eq_true]
    refine ⟨tx (txt qs'), List.mem_map.mpr ⟨_, List.mem_filter.mpr ⟨G'.whole, ?_⟩, rfl⟩, by simp⟩
    exact PySem.SeqAt.eqv_refl _ (SeqAt.canLay_of_shaped (sh2 _ _))
  exact ⟨⟨by rfl, by rfl, by rfl, by rfl, trivial⟩, rfl⟩
end Mine
end

section
open PySem PySem.W PyProof.Rows PySem.Calls PySem.Spec
set_option Elab.async false
set_option linter.unusedVariables false
set_option maxRecDepth 100000
namespace Mine

theorem canLay_ints : ∀ (l : List Int), PyData.canLayAll0 (l.map .int) = true
  | [] => rfl
  | _ :: l => canLay_ints l
theorem depth_ints : ∀ (l : List Int), PyData.depthAll (l.map .int) ≤ 2
  | [] => by simp [PyData.depthAll]
  | _ :: l => by
    have := depth_ints l
    simp only [List.map_cons, PyData.depthAll, PyData.depth] at this ⊢
    omega
theorem shaped_ints (l : List Int) : SeqAt.shaped (.list (l.map .int)) = true := by
  have h1 := canLay_ints l
  have h2 := depth_ints l
  simp only [SeqAt.shaped, PyData.canLay0, PyData.depth, h1, Bool.true_and]
  exact decide_eq_true (by omega)
theorem shaped_end (ps : List (Str × Str)) (x y : Int) (h : OkTexts ps) : SeqAt.shaped (.list [.list (ps.map pieceD), .int x, .int y]) = true := by
  have h1 := canLay_pieces ps h
  have h2 := depth_pieces ps
  simp only [SeqAt.shaped, PyData.canLay0, PyData.canLayAll0, PyData.depth, PyData.depthAll, h1, Bool.and_eq_true, decide_eq_true_eq, Bool.and_true, Bool.true_and]
  exact decide_eq_true (by omega)

/-! pairs in order -/
noncomputable def ltP (p q : Nat × Nat) : Prop := p.1 < q.1 ∨ (p.1 = q.1 ∧ p.2 < q.2)
theorem pairs_sorted (l : List (Nat × Nat)) (h : l.Nodup) : ∃ l' : List (Nat × Nat), l'.Perm l ∧ l'.Pairwise ltP := by
  let le : Nat × Nat → Nat × Nat → Bool := fun p q => decide (p.1 < q.1) || (decide (p.1 = q.1) && decide (p.2 ≤ q.2))
  have hp := List.mergeSort_perm l le
  refine ⟨l.mergeSort le, hp, ?_⟩
  have hs := List.pairwise_mergeSort (le := le) (fun a b c h1 h2 => by simp [le] at h1 h2 ⊢; omega) (fun a b => by simp [le]; omega) l
  have hn : (l.mergeSort le).Nodup := hp.symm.nodup h
  refine (hs.and hn).imp fun {p q} ⟨h1, h2⟩ => ?_
  obtain ⟨p1, p2⟩ := p
  obtain ⟨q1, q2⟩ := q
  simp [le] at h1
  simp only [ltP]
  by_cases e : p1 = q1
  · have : p2 ≠ q2 := fun e2 => h2 (by rw [e, e2])
    omega
  · omega
noncomputable def castP (p : Nat × Nat) : Int × Int := ((p.1 : Int), (p.2 : Int))
theorem castP_lt {p q : Nat × Nat} (h : ltP p q) : pairLt (castP p) (castP q) = true := by
  unfold pairLt castP
  rcases h with h | ⟨h1, h2⟩
  · rw [if_neg (by simp only; omega)]; simp only [decide_eq_true_eq]; omega
  · rw [if_pos (by simp only; omega)]; simp only [decide_eq_true_eq]; omega

section
variable (J : Nat → Job) (du : Nat → Nat)
noncomputable def chOf (i : Nat) : Nat := 97 + i
noncomputable def jobsD : List PyData := (List.range 5).map fun i => (J i).data (chOf i)
noncomputable def duesD : List PyData := (List.range 5).map fun i => .int (du i : Int)
noncomputable def wordOf (i : Nat) : Pc := ((J i).white, (J i).word (chOf i))
noncomputable def todo : List (Nat × Nat) := ((List.range 5).filter fun i => decide ((J i).k ≠ 0)).map fun i => (du i, i)
theorem jobs_at {i : Nat} (h : i < 5) : (jobsD J)[((i : Nat) : Int).toNat]? = some ((J i).data (chOf i)) := by
  simp [jobsD, List.getElem?_range h]
theorem dues_at {i : Nat} (h : i < 5) : (duesD du)[((i : Nat) : Int).toNat]? = some (.int (du i : Int)) := by
  simp [duesD, List.getElem?_range h]
theorem todo_mem {x : Nat × Nat} (h : x ∈ todo J du) : x.2 < 5 ∧ (J x.2).k ≠ 0 ∧ x.1 = du x.2 := by
  obtain ⟨i, hi, rfl⟩ := List.mem_map.mp h
  obtain ⟨h1, h2⟩ := List.mem_filter.mp hi
  exact ⟨List.mem_range.mp h1, by simpa using h2, rfl⟩
theorem todo_nodup : (todo J du).Nodup := by
  refine List.Pairwise.map (R := fun a b : Nat => a ≠ b) _ (fun a b h e => h (by simpa using congrArg Prod.snd e)) ?_
  exact List.Pairwise.sublist (List.filter_sublist) List.nodup_range
theorem todo_len : (todo J du).length ≤ 5 := by
  have : ((List.range 5).filter fun i => decide ((J i).k ≠ 0)).length ≤ (List.range 5).length := List.length_filter_le ..
  simpa [todo] using this
end
theorem word_small {p : Job} (ok : p.Ok) {ch : Nat} (hc : ch < 128) : p.white.length ≤ 10 ∧ (p.word ch).length ≤ 10 ∧ (∀ k ∈ p.white, k < 1000) ∧ ∀ k ∈ p.word ch, k < 1000 := by
  have h1 := ok.u
  have h2 := ok.m
  have h3 := ok.l
  have hn : ∀ k ∈ p.name ch, k < 1000 := by
    intro k hk
    simp only [Job.name, List.mem_append, List.mem_replicate] at hk
    omega
  refine ⟨by simp [Job.white]; omega, ?_, fun k hk => ?_, fun k hk => ?_⟩
  · unfold Job.word
    split
    · simp
    · simp [Job.name]; omega
  · simp only [Job.white, List.mem_replicate] at hk; omega
  · unfold Job.word at hk
    split at hk
    · cases hk
    · exact hn k hk
theorem dbl_small : ∀ (l : List Nat), (∀ x ∈ l, x < 1000) → ∀ x ∈ StrLaws.dbl 34 l, x < 1000
  | [], _, x, hx => by cases hx
  | y :: l, h, x, hx => by
    have ih := dbl_small l fun z hz => h z (.tail _ hz)
    have hy := h y (.head _)
    by_cases q : y = 34
    · simp [StrLaws.dbl, q] at hx
      rcases hx with rfl | hx
      · decide
      · exact ih x hx
    · simp [StrLaws.dbl, q] at hx
      rcases hx with rfl | hx
      · exact hy
      · exact ih x hx
theorem reply_small {p : Job} (ok : p.Ok) {ch : Nat} (hc : ch < 128) : 5 ≤ (p.reply ch).length ∧ (p.reply ch).length ≤ 100 ∧ ∀ k ∈ p.reply ch, k < 1000 := by
  have hk := ok.k
  have hm := ok.m
  have hl := ok.l
  have hn : (p.name ch).length ≤ 10 := by simp [Job.name]; omega
  have hd := dbl_len 34 (p.name ch)
  have hnk := dbl_small (p.name ch) fun x hx => by
    simp only [Job.name, List.mem_append, List.mem_replicate] at hx
    omega
  have hhead : ((p.heads[p.k]?).getD []).length = 5 ∧ ∀ x ∈ (p.heads[p.k]?).getD [], x < 1000 := by
    rw [List.getElem?_eq_getElem (by simp [Job.heads]; omega)]
    have : ∀ l ∈ p.heads, l.length = 5 ∧ ∀ x ∈ l, x < 1000 := by
      intro l hl
      simp only [Job.heads, List.mem_cons, List.not_mem_nil, or_false] at hl
      rcases hl with rfl | rfl | rfl | rfl | rfl | rfl <;> first | decide | (split <;> decide)
    exact this _ (List.getElem_mem _)
  have htail : ((Job.tails[p.k]?).getD []).length ≤ 20 ∧ ∀ x ∈ (Job.tails[p.k]?).getD [], x < 1000 := by
    rw [List.getElem?_eq_getElem (by simp [Job.tails]; omega)]
    have : ∀ l ∈ Job.tails, l.length ≤ 20 ∧ ∀ x ∈ l, x < 1000 := by decide
    exact this _ (List.getElem_mem _)
  unfold Job.reply
  refine ⟨by simp only [List.length_append]; omega, by simp only [List.length_append]; omega, fun x hx => ?_⟩
  rcases List.mem_append.mp hx with hx | hx
  · rcases List.mem_append.mp hx with hx | hx
    · exact hhead.2 x hx
    · exact hnk x hx
  · exact htail.2 x hx
end Mine
end

section
open PySem PySem.W PyProof.Rows PySem.Calls PySem.Spec
set_option Elab.async false
set_option linter.unusedVariables false
set_option maxRecDepth 100000
namespace Mine

abbrev StB := List Pc × List Ch
noncomputable def stepB (J : Nat → Job) (f : Nat) (b : StB) (x : Nat × Nat) : StB := (sendP f x.1 b.1 (wordOf J x.2), growCh b.2 (wordOf J x.2) x.1)
structure InvB (J : Nat → Job) (f : Nat) (pre : List (Nat × Nat)) (b : StB) : Prop where
  good : ∃ d, (d = 0 ∨ ∃ y ∈ pre, d = y.1) ∧ Good f d b.1 b.2
  sc : SmallC b.2 pre.length
  few : b.1.length ≤ pre.length
  small : ∀ q ∈ b.1, q.1.length ≤ 10 ∧ q.2.length ≤ 10 ∧ (∀ k ∈ q.1, k < 1000) ∧ ∀ k ∈ q.2, k < 1000

theorem sendP_mem {f due : Nat} {qs : List Pc} {q x : Pc} (h : x ∈ sendP f due qs q) : x ∈ qs ++ [q] := by
  unfold sendP at h
  split at h
  · exact h
  · rcases List.mem_append.mp h with h | h
    · exact List.mem_of_mem_take h
    · exact List.mem_of_mem_drop h
theorem sendP_len {f due : Nat} {qs : List Pc} {q : Pc} : (sendP f due qs q).length ≤ qs.length + 1 := by
  unfold sendP
  split
  · simp
  · simp only [List.length_append, List.length_take, List.length_drop, List.length_singleton]
    omega

theorem shaped_str {l : List Nat} (h : ∀ k ∈ l, k < 1000) : SeqAt.shaped (.str (tx l)) = true := by
  have h1 := canLay_tx h
  simp only [SeqAt.shaped, h1, PyData.depth, Bool.true_and]
  rfl
theorem shaped_str1 {l : List Nat} (h : ∀ k ∈ l, k < 1000) : SeqAt.shaped (.list [.str (tx l)]) = true := by
  have h1 := canLay_tx h
  simp only [PyData.canLay0] at h1
  simp only [SeqAt.shaped, PyData.canLay0, PyData.canLayAll0, h1, PyData.depth, PyData.depthAll, Bool.true_and]
  rfl
theorem thing_reply {p : Job} (ok : p.Ok) {ch : Nat} (hc : ch < 128) : SeqAt.shaped (p.thing ch) = true ∧ SeqAt.shaped (.list [.str (tx (p.reply ch))]) = true ∧ (!PyData.eqv (p.thing ch) (.list [.str (tx (p.reply ch))])) = decide (p.k ≠ 0) := by
  have h1 := shaped_str1 (reply_small ok hc).2.2
  refine ⟨?_, h1, ?_⟩
  · by_cases h : p.k = 0
    · rw [Job.thing, if_pos h]; exact h1
    · rw [thing_word ch h]; exact shaped_str (word_small ok hc).2.2.2
  · by_cases h : p.k = 0
    · rw [Job.thing, if_pos h, PySem.SeqAt.eqv_refl _ (SeqAt.canLay_of_shaped h1)]; simp [h]
    · rw [thing_word ch h]; simp [h, PyData.eqv]

theorem law_block {c : Cx} {n : Nat} {a : Ac} {f : Nat} {J : Nat → Job} {du : Nat → Nat} (LF : LawFacts c) (hJ : ∀ i < 5, (J i).Ok) (ha : a.cls = 100) (hps : a.ps = []) (hat : a.attrs = [(("_initial_size" : Str), PyData.int (f : Int))]) (hf : f ≤ 3) :
    Ss c (n + 5) dLaw.scope [("line", .ac), ("dues", .d (.list (duesD du))), ("jobs", .d (.list (jobsD J))), ("free", .d (.int (f : Int)))] (some a) (dOuter.drop 3) (fun o ρ₁ σ₁ => o = .next ∧ Sub [("jobs", .d (.list (jobsD J))), ("free", .d (.int (f : Int)))] ρ₁) := by
  -- the first choice
  refine Ss.setC (d := chsD [⟨0, f, []⟩]) (.list (ds := [chD ⟨0, f, []⟩]) (.cons (.of (.tuple (ds := [.int 0, .int (f : Int), .str (tx [])]) (.cons (.of .int) (.cons (.of .name) (.cons (.of .lit) .nil))) (by simp))) .nil) (by simp)) ?_
  -- the order
  obtain ⟨xs, hperm, hord⟩ := pairs_sorted (todo J du) (todo_nodup J du)
  have hxs : ∀ x ∈ xs, x.2 < 5 ∧ (J x.2).k ≠ 0 ∧ x.1 = du x.2 := fun x hx => todo_mem J du (hperm.subset hx)
  have hxl : xs.length ≤ 5 := by rw [hperm.length_eq]; exact todo_len J du
  have hw : ∀ i < 5, (wordOf J i).1.length ≤ 10 ∧ (wordOf J i).2.length ≤ 10 ∧ (∀ k ∈ (wordOf J i).1, k < 1000) ∧ ∀ k ∈ (wordOf J i).2, k < 1000 := fun i hi => word_small (hJ i hi) (by unfold chOf; omega)
  refine Ss.fold (α := Nat × Nat) (β := StB) xs (fun x => pairD (castP x)) (stepB J f) ([], [⟨0, f, []⟩]) (fun b => envI (jobsD J) f b.2) (fun b => some { a with ps := pcs b.1 }) (InvB J f) ?_ ?_ ?_ ?_ ?_ ?_
  · -- the source
    refine Src.list (Ev.to (.callB LF.gSorted (.cons (.of (Ev.to (.compIf (ρi := [("dues", .d (.list (duesD du))), ("jobs", .d (.list (jobsD J)))]) (Src.range1 LF.gRange (b := 5) .int (by decide)) (List.range 5) (fun i => .int (0 + (i : Int))) (fun i => decide ((J i).k ≠ 0)) (fun i => pairD (castP (du i, i))) ?_ rfl ?_ (by simp)) (d' := .list (((todo J du).map castP).map pairD)) ?_)) .nil)
      (BfR.sortedP (ks := (todo J du).map castP) (ks' := xs.map castP) ?_ ?_ ?_ ?_)) ?_)
    · exact ⟨by rfl, by rfl, by rfl, by rfl, trivial⟩
    · intro i hi
      have hi5 : i < 5 := List.mem_range.mp hi
      have e0 : (0 + (i : Int)) = ((i : Nat) : Int) := by omega
      rw [e0]
      have i63 : ((i : Nat) : Int) < 2 ^ 63 := by omega
      refine ⟨_, .name (.inl (by rfl)), ?_, fun _ => .tuple (ds := [.int (du i : Int), .int (i : Int)]) (.cons (.of (.itemL .name .name (by omega) i63 (dues_at du hi5))) (.cons (.of .name) .nil)) (by simp)⟩
      have hth : SeqAt.shaped ((J i).thing (chOf i)) = true ∧ SeqAt.shaped (.list [.str (tx ((J i).reply (chOf i)))]) = true ∧ (!PyData.eqv ((J i).thing (chOf i)) (.list [.str (tx ((J i).reply (chOf i)))])) = decide ((J i).k ≠ 0) := thing_reply (hJ i hi5) (by unfold chOf; omega)
      exact .cmp (.itemT (.itemL .name .name (by omega) i63 (jobs_at J hi5)) .int (by decide) (by decide) (by rfl)) (.list (ds := [.str (tx ((J i).reply (chOf i)))]) (.cons (.of (.itemT (.itemL .name .name (by omega) i63 (jobs_at J hi5)) .int (by decide) (by decide) (by rfl))) .nil) (by simp)) (.neD hth.1 hth.2.1 hth.2.2)
    · simp only [todo, List.map_map]; rfl
    · rw [List.length_map]; exact todo_len J du
    · exact List.Pairwise.map (R := fun a b : Nat × Nat => a ≠ b) _ (fun a b h e => h (by
        obtain ⟨a1, a2⟩ := a; obtain ⟨b1, b2⟩ := b
        simp only [castP, Prod.mk.injEq] at e
        rw [show a1 = b1 by omega, show a2 = b2 by omega])) (todo_nodup J du)
    · exact hperm.map _
    · exact List.Pairwise.map _ (fun a b h => castP_lt h) hord
    · rw [List.map_map]; rfl
  · exact ⟨by rfl, by rfl, by rfl, by rfl, trivial⟩
  · show some { a with ps := pcs [] } = some a
    have : pcs [] = a.ps := by rw [hps]; rfl
    rw [this]
  · exact ⟨⟨0, .inl rfl, Good.start f 0⟩, ⟨by simp, fun c hc => by rw [List.mem_singleton.mp hc]; simp⟩, by simp, fun q hq => by cases hq⟩
  · -- a turn
    intro pre x post b e inv
    have hx : x ∈ xs := by rw [← e]; simp
    obtain ⟨h1, h2, h3⟩ := hxs x hx
    obtain ⟨d, hd, G⟩ := inv.good
    have hle : d ≤ x.1 := by
      rcases hd with rfl | ⟨y, hy, rfl⟩
      · exact Nat.zero_le _
      · rw [← e] at hord
        have := (List.pairwise_append.mp hord).2.2 y hy x (.head _)
        unfold ltP at this
        omega
    have hpl : pre.length + 1 ≤ 5 := by
      have := congrArg List.length e
      simp only [List.length_append, List.length_cons] at this
      omega
    have hwx := hw x.2 h1
    have SP : SmallP (b.1 ++ [wordOf J x.2]) := by
      refine ⟨by have := inv.few; simp only [List.length_append, List.length_singleton]; omega, fun q hq => ?_⟩
      rcases List.mem_append.mp hq with hq | hq
      · exact inv.small q hq
      · rw [List.mem_singleton.mp hq]; exact hwx
    have hj : (jobsD J)[((x.2 : Nat) : Int).toNat]? = some (.tuple [.str (tx (J x.2).lead), .str (tx (wordOf J x.2).1), .str (tx ((J x.2).reply (chOf x.2))), .str (tx (wordOf J x.2).2)]) := by
      rw [jobs_at J h1]
      show some (PyData.tuple [_, _, _, (J x.2).thing (chOf x.2)]) = _
      rw [thing_word _ h2]
      rfl
    refine ⟨_, .tuple (.cons (.inr ⟨rfl, by rfl⟩) (.cons (.inl (by rfl)) .nil)), (law_turn (i := pre.length) LF ha hat hf G hle SP inv.sc (by omega) (by omega) hj).mono fun o ρ₃ σ₃ q => ?_⟩
    have inv' : InvB J f (pre ++ [x]) (stepB J f b x) := by
      refine ⟨⟨x.1, .inr ⟨x, by simp, rfl⟩, G.step hle _⟩, ?_, ?_, fun q hq => ?_⟩
      · rw [List.length_append]; exact inv.sc.grow hwx.1 hwx.2.1 _
      · have := inv.few
        have := sendP_len (f := f) (due := x.1) (qs := b.1) (q := wordOf J x.2)
        show (sendP f x.1 b.1 (wordOf J x.2)).length ≤ _
        simp only [List.length_append, List.length_singleton]; omega
      · exact SP.small q (sendP_mem hq)
    cases o <;> first | exact q.elim | exact ⟨q.1, q.2, inv'⟩
  · -- behind it
    intro inv
    generalize xs.foldl (stepB J f) ([], [⟨0, f, []⟩]) = b at *
    obtain ⟨qs, cs⟩ := b
    obtain ⟨d, _, G⟩ := inv.good
    have hfew := inv.few
    have SP : SmallP qs := ⟨by dsimp only at hfew; omega, inv.small⟩
    have SC := inv.sc
    dsimp only at G hfew SC ⊢
    have hlen : cs.length ≤ 32 := Nat.le_trans SC.few (Nat.le_trans (Nat.pow_le_pow_right (by decide) hxl) (by decide))
    have hl5 := SP.few
    have IL : IsLine { a with ps := pcs qs } (f : Int) := SP.line ha hat hf
    refine Ss.compAc (a := { a with ps := pcs qs }) LF.line.acc LF.line.sub ha (fun _ => true) pieceD ?_ (by have := IL.few; dsimp only at this ⊢; omega) ?_
    · exact fun q hq => ⟨_, .name (.inl (by rfl)), .nil, fun _ => .name⟩
    have hfil : (List.filter (fun _ => true) (pcs qs)) = pcs qs := List.filter_eq_self.mpr fun _ _ => rfl
    show Ss _ _ _ (("pieces", .d (.list ((List.filter (fun _ => true) (pcs qs)).map pieceD))) :: _) _ _ _
    rw [hfil]
    obtain ⟨ks, hkp, hko⟩ := sorted_nat (lens qs)
    have hkl : ks.length = qs.length := by rw [hkp.length_eq]; simp [lens]
    refine Ss.setC (d := .list ((ks.map fun k : Nat => (k : Int)).map .int)) (.callB LF.gSorted (.cons (.of (Ev.to (.compAll (ρi := []) (.list .name) (pcs qs) pieceD (fun q => .int (pieceLen q)) trivial rfl ?_ ?_) (d' := .list (((lens qs).map fun k : Nat => (k : Int)).map .int)) ?_)) .nil)
      (BfR.sortedL (ns := (lens qs).map fun k : Nat => (k : Int)) (ns' := ks.map fun k : Nat => (k : Int)) (hkp.map _) (List.Pairwise.map _ (fun a b h => by omega) hko) (by simp [lens]; omega))) ?_
    · intro q hq
      have hq2 := IL.small q hq
      exact ⟨_, .tuple (.cons (.inl (by rfl)) (.cons (.inl (by rfl)) .nil)), .bin (.callB ⟨by rfl, LF.gLen.val, by rfl⟩ (.cons (.of .name) .nil) (BfR.lenS (by omega))) (.callB ⟨by rfl, LF.gLen.val, by rfl⟩ (.cons (.of .name) .nil) (BfR.lenS (by omega))) .add⟩
    · simp [pcs]; omega
    · have := pieceLens qs
      rw [← this, List.map_map]; rfl
    -- as early as any
    let fE : Nat → Int := fun k => (((f + (ks.take k).sum : Nat) : Int))
    refine Ss.step (S1.assignCompC (xs := List.range (ks.length + 1)) (enc := fun i => .int (0 + (i : Int))) (f := fun i => .int (fE i)) (ρi := [("choices", .d (chsD cs))]) (Src.range1 LF.gRange (b := ks.length + 1) (Ev.to (.bin (.callB LF.gLen (.cons (.of .name) .nil) (.lenL ?_)) .int .add) ?_) ?_) ?_ ?_ ?_ ?_ rfl ?_ ?_ ?_ ?_) ?_
    · simp; omega
    · simp
    · omega
    · rfl
    · intro k cl; rfl
    · intro h; rfl
    · exact ⟨by rfl, by rfl, trivial⟩
    · intro i hi
      have hi5 : i ≤ qs.length := by have := List.mem_range.mp hi; omega
      have e0 : (0 + (i : Int)) = ((i : Nat) : Int) := by omega
      rw [e0]
      obtain ⟨⟨c₁, hc1, hc2, hc3⟩, hleast⟩ := G.early hkp hko hi5
      refine .callB ⟨by rfl, LF.gMin.val, by rfl⟩ (.cons (.of (Ev.to (.compIf (ρi := [("count", .d (.int ((i : Nat) : Int)))]) (.list .name) cs chD (fun x => (x.k : Int) == ((i : Nat) : Int)) (fun x => .int (x.h : Int)) ⟨by rfl, by rfl, trivial⟩ rfl ?_ (by omega)) (d' := .list (((cs.filter fun x => (x.k : Int) == ((i : Nat) : Int)).map fun x => (x.h : Int)).map .int)) ?_)) .nil) (BfR.minL (best_lt ?_ ?_))
      · intro x hx
        exact ⟨_, .tuple (.cons (.inl (by rfl)) (.cons (.inl (by rfl)) (.cons (.inl (by rfl)) .nil))), .cmp .name .name .eqI, fun _ => .name⟩
      · rw [List.map_map]; rfl
      · exact List.mem_map.mpr ⟨c₁, List.mem_filter.mpr ⟨hc1, by simp [hc2]⟩, by simp only [fE]; omega⟩
      · intro y hy
        obtain ⟨x, hx, rfl⟩ := List.mem_map.mp hy
        obtain ⟨hx, hk⟩ := List.mem_filter.mp hx
        have := hleast x hx (by simp only [beq_iff_eq] at hk; omega)
        simp only [fE]; omega
    · simp; omega
    · rfl
    · intro env he; cases env; cases he; rfl
    have shE := shaped_ints ((List.range (ks.length + 1)).map fE)
    refine Ss.ite_no (.cmp (a := .list (((List.range (ks.length + 1)).map fE).map .int)) (b := .list (((List.range (ks.length + 1)).map fE).map .int)) (Ev.to (.compAll (ρi := [("free", .d (.int (f : Int))), ("kept", .d (.list ((ks.map fun k : Nat => (k : Int)).map .int)))]) (Src.range1 LF.gRange (b := ks.length + 1) (Ev.to (.bin (.callB LF.gLen (.cons (.of .name) .nil) (.lenL ?_)) .int .add) ?_) ?_) (List.range (ks.length + 1)) (fun i => .int (0 + (i : Int))) (fun i => .int (fE i)) ?_ rfl ?_ ?_) ?_) (Ev.to .name ?_) (.neD shE shE (by rw [PySem.SeqAt.eqv_refl _ (SeqAt.canLay_of_shaped shE)]; rfl))) ?_
    · simp; omega
    · simp
    · omega
    · exact ⟨by rfl, by rfl, by rfl, by rfl, trivial⟩
    · intro i hi
      have hi5 : i ≤ ks.length := by have := List.mem_range.mp hi; omega
      have e0 : (0 + (i : Int)) = ((i : Nat) : Int) := by omega
      rw [e0]
      refine ⟨_, .name (.inl (by rfl)), Ev.to (.bin .name (.callB ⟨by rfl, LF.gSum.val, by rfl⟩ (.cons (.of (Ev.to (.sliceL .name .none (.some .name) ?_) (d' := .list (((ks.take i).map fun k : Nat => (k : Int)).map .int)) ?_)) .nil) BfR.sumL) .add) ?_⟩
      · simp; omega
      · rw [picked_take _ _ (by simp; omega), ← List.map_take, ← List.map_take]
      · simp only [fE]
        rw [sum_cast]
        congr 1
    · simp; omega
    · rw [List.map_map]; rfl
    · rw [List.map_map]; rfl
    -- all gone
    have shL := shaped_end (pcs qs) 0 (f : Int) SP.ok
    have IL0 : IsLine { a with ps := [] } (f : Int) := ⟨ha, hat, by simp, fun q hq => by (cases hq), by omega⟩
    refine Ss.ite_no (.cmp (Ev.listX (ds := [.list ((pcs qs).map pieceD), .int 0, .int (f : Int)]) (.cons (Ev.popAllLine (n := n + 3) (a := { a with ps := pcs qs }) LF.line IL) (.cons ((Ev.partLine (n := n + 3) (a := { a with ps := [] }) LF.line IL0).to (by rfl)) (.cons ((Ev.lenLine (n := n + 3) (a := { a with ps := [] }) LF.line IL0 LF.gLen).to (by show PyData.int ((f : Int) + sumLen []) = _; simp [sumLen])) .nil))) (by simp))
      (.list (ds := [.list ((pcs qs).map pieceD), .int 0, .int (f : Int)]) (.cons (.of .name) (.cons (.of .int) (.cons (.of .name) .nil))) (by simp)) (.neD shL shL (by rw [PySem.SeqAt.eqv_refl _ (SeqAt.canLay_of_shaped shL)]; rfl))) (.nil ?_)
    exact ⟨rfl, by rfl, by rfl, trivial⟩
end Mine
end

section
open PySem PySem.W PyProof.Rows PySem.Calls PySem.Spec
set_option Elab.async false
set_option linter.unusedVariables false
set_option maxRecDepth 100000
namespace Mine

structure LawFacts2 (c : Cx) : Prop extends LawFacts c where
  vJob : c.mg "_law_job" = some (.ref 216)
  vName : c.mg "_law_name" = some (.ref 223)
  vCol : c.mg "_law_column" = some (.ref 209)
  vWs : c.mg "Whitespace" = some (.ref 198)
  kJob : keepIn c.K (.ref 216) = true
  kName : keepIn c.K (.ref 223) = true
  kCol : keepIn c.K (.ref 209) = true
  kParse : keepIn c.K (.ref 136) = true
  d209 : DefAt c 209 dColumn .none []
  d216 : DefAt c 216 dJob .none []
  d223 : DefAt c 223 dName .none []
  d136 : DefAt c 136 dParse .none []
  d153 : DefAt c 153 dWsInit .none []
  d167 : DefAt c 167 dIndent .none []
  d38 : DefSup c 38 dAccInit (.ref 30)
  t30 : ∃ oT tk kk, c.K.lookup 30 = some oT ∧ oT.data = .seq #[.int 0 tk] kk
  tIni : takerIn c.K 100 "_initial_size" = some none
  ws : WsFacts c
  exc : ExcFacts c
  pLen : GlobIs c dParse.scope "len" (.builtin "len")
  pErr : GlobIs c dParse.scope "error_reply" (.ref 127)
  nParse : GlobIs c dName.scope "parse257" (.ref 136)
  nErr : GlobIs c dName.scope "error_reply" (.ref 127)
  nStr : GlobIs c dName.scope "str" (.type "str")
  iRange : GlobIs c dIndent.scope "range" (.type "range")
  iLen : GlobIs c dIndent.scope "len" (.builtin "len")
  wLen : GlobIs c dWsInit.scope "len" (.builtin "len")
  wTup : GlobIs c dWsInit.scope "tuple" (.type "tuple")
  wWs : GlobIs c dWsInit.scope "Whitespace" (.ref 198)
  wR : readsIn c.K 198 (.type "type") = true
  wS : ∃ t, findCls c.K (.ref 198) (.type "type") "S" = some (.val (.str (tx [32]) t))
  wT : ∃ t, findCls c.K (.ref 198) (.type "type") "T" = some (.val (.str (tx [9]) t))
  wt : takerIn c.K 198 "raw" = some none ∧ takerIn c.K 198 "n" = some none ∧ takerIn c.K 198 "nt" = some none ∧ takerIn c.K 198 "norm" = some none ∧ takerIn c.K 198 "is_simple" = some none
  wf : findIn c.K (.ref 198) "raw" = some none ∧ findIn c.K (.ref 198) "norm" = some none ∧ findIn c.K (.ref 198) "nt" = some none

noncomputable def leadOf (a b e : Nat) : List Nat := List.replicate (a * 2) 32 ++ List.replicate b 9 ++ List.replicate e 32
theorem count_table : ∀ a < 4, ∀ b < 3, ∀ e < 4, (WS.run (leadOf a b e ++ [120])).count.length ≤ 100 := by decide +kernel

theorem law_level {c : Cx} {n : Nat} {sc : Scope} {ρ : Loc} {f : Str} {fp p1 ap p2 : Pos} {e sz : Expr} {p : Job} {ts : Nat} (LF : LawFacts2 c) (ok : p.Ok) (hts : 2 ≤ ts) (hts2 : ts ≤ 100) (g : GlobIs c sc f (.ref 198)) (he : E1 c (n + 2) sc ρ none e (.str (tx (p.lead ++ [120])))) (hsz : E1 c (n + 2) sc ρ none sz (.int (ts : Int)))
    (h1 : ∀ env, starEach [e] env = (false, eval e env) :: starEach [] env := by intro _; rfl) (h2 : ∀ env, starEach [sz] env = (false, eval sz env) :: starEach [] env := by intro _; rfl) {pl : Env → Sem Bool}
    (hev : ∀ env, eval (.Call (.Attribute (.Call (.Name f fp) [e] [] p1) "indent_level" ap) [sz] [] p2) env = (do
      let ov ← eval (.Call (.Name f fp) [e] [] p1) env
      standAt ap.atName
      let (f, first) ← holding [ov] (getMethod ov "indent_level" (pl env))
      callWith p2 f first (backTo p2 (starEach [sz] env)) (backToKw p2 (keywordEach [] env))) := by intro _; rfl) :
    E1 c (n + 2) sc ρ none (.Call (.Attribute (.Call (.Name f fp) [e] [] p1) "indent_level" ap) [sz] [] p2) (.int ((levelOf (p.lead ++ [120]) ts : Nat) : Int)) := by
  have h3 := ok.a
  have h4 := ok.b
  have h5 := ok.e
  have hl : (p.lead ++ [120]).length ≤ 100 := by simp [Job.lead]; omega
  have hasc : ∀ k ∈ p.lead ++ [120], k < 128 := by
    intro k hk
    simp only [Job.lead, List.mem_append, List.mem_replicate, List.mem_singleton] at hk
    omega
  obtain ⟨tS, wS⟩ := LF.wS
  obtain ⟨tT, wT⟩ := LF.wT
  obtain ⟨w1, w2, w3, w4, w5⟩ := LF.wt
  obtain ⟨f1, f2, f3⟩ := LF.wf
  refine Ev.level g LF.ws he hsz (fun a ha hat => ?_) (fun a ha hat => ?_) (by rfl) h1 h2 hev
  · exact fn_wsinit LF.d153 LF.wLen LF.wTup LF.wWs (ha ▸ LF.ws.ok) LF.wR wS wT (ha ▸ w1) (ha ▸ w2) (ha ▸ w3) (ha ▸ w4) (ha ▸ w5) (ha ▸ f1) ha hat hl hasc
  · exact fn_indent (tr := (WS.run (p.lead ++ [120])).b) (nt := (WS.run (p.lead ++ [120])).nt) (counts := (WS.run (p.lead ++ [120])).count) LF.d167 LF.iRange LF.iLen (ha ▸ LF.ws.ok) (ha ▸ f2) (ha ▸ f3) (by rw [hat]; rfl) (by rw [hat]; rfl) (by omega) hts2 (count_table p.a h3 p.b h4 p.e h5)

theorem law_outer {c : Cx} {n : Nat} {f z : Nat} {J : Nat → Job} (LF : LawFacts2 c) (hJ : ∀ i < 5, (J i).Ok) (hf : f ≤ 3) (hz : 2 ≤ z) (hz2 : z < 6) :
    Ss c (n + 5) dLaw.scope [("size", .d (.int (z : Int))), ("jobs", .d (.list (jobsD J))), ("free", .d (.int (f : Int)))] none dOuter (fun o ρ₁ σ₁ => o = .next ∧ Sub [("jobs", .d (.list (jobsD J))), ("free", .d (.int (f : Int)))] ρ₁ ∧ σ₁ = none) := by
  let du : Nat → Nat := fun i => levelOf ((J i).lead ++ [120]) z
  refine Ss.setC (hs := by intro env he; cases env; cases he; rfl) (d := .list (duesD du)) (.compAll (ρi := [("size", .d (.int (z : Int)))]) (.list .name) (List.range 5) (fun i => (J i).data (chOf i)) (fun i => .int (du i : Int)) ⟨by rfl, by rfl, trivial⟩ rfl ?_ (by simp)) ?_
  · intro i hi
    have ok := hJ i (List.mem_range.mp hi)
    have h3 := ok.a
    have h4 := ok.b
    have h5 := ok.e
    refine ⟨_, .tuple (.cons (.inl (by rfl)) (.cons (.inl (by rfl)) (.cons (.inl (by rfl)) (.cons (.inl (by rfl)) .nil)))), ?_⟩
    exact law_level (n := n + 3) LF ok hz (by omega) ⟨by rfl, .inl LF.vWs, by rfl⟩ (.bin .name (.lit (l := [120])) (.catL (by simp [Job.lead]; omega))) .name
  have hcol : ∀ i < 5, column (tx (J i).lead) (z : Int) = ((du i : Nat) : Int) := fun i hi => by
    have ok := hJ i hi
    exact level_table (J i).a ok.a (J i).b ok.b (J i).e ok.e z hz2 hz
  have sh : SeqAt.shaped (.list (duesD du)) = true := by
    have := shaped_ints ((List.range 5).map fun i => (du i : Int))
    rwa [List.map_map] at this
  refine Ss.ite_no (.cmp .name (b := .list (duesD du)) (.compAll (ρi := [("size", .d (.int (z : Int)))]) (.list .name) (List.range 5) (fun i => (J i).data (chOf i)) (fun i => .int (du i : Int)) ⟨by rfl, by rfl, trivial⟩ rfl ?_ (by simp)) (.neD sh sh (by rw [PySem.SeqAt.eqv_refl _ (SeqAt.canLay_of_shaped sh)]; rfl))) ?_
  · intro i hi
    have hi5 := List.mem_range.mp hi
    have ok := hJ i hi5
    have hasc : (tx (J i).lead).cps.all (· < 128) = true := by
      rw [← Array.all_toList, tx_list, List.all_eq_true]
      intro k hk
      simp only [Job.lead, List.mem_append, List.mem_replicate] at hk
      simp only [decide_eq_true_eq]
      omega
    refine ⟨_, .tuple (.cons (.inl (by rfl)) (.cons (.inl (by rfl)) (.cons (.inl (by rfl)) (.cons (.inl (by rfl)) .nil)))), ?_⟩
    exact Ev.to (.callFn ⟨by rfl, .inl LF.vCol, by rfl⟩ LF.kCol (.cons (.of .name) (.cons (.of .name) .nil)) (fn_column (n := n + 4) LF.d209 hasc (by omega))) (congrArg PyData.int (hcol i hi5))
  obtain ⟨oT, tk, kk, t1, t2⟩ := LF.t30
  refine Ss.makeAc (n := n + 4) (.inl (by rfl)) LF.gAcc LF.line.acc .name (fun a ha hps hat => fn_accinit (n := n + 3) LF.line.acc LF.line.sup LF.d38 t1 t2 LF.tIni ha hps hat) (fun a ha hps hat => ?_)
  refine Ss.pre (ρ' := [("line", .ac), ("dues", .d (.list (duesD du))), ("jobs", .d (.list (jobsD J))), ("free", .d (.int (f : Int)))]) ⟨by rfl, by rfl, by rfl, by rfl, trivial⟩ ?_
  refine (law_block (n := n) LF.toLawFacts hJ ha hps hat hf).mono fun o ρ₁ σ₁ ⟨ho, hs⟩ => ?_
  exact ⟨_, .cons (.cons .nil), hs, ho, ⟨by rfl, by rfl, trivial⟩, rfl⟩
end Mine
end

section
open PySem PySem.W PyProof.Rows PySem.Calls PySem.Spec
set_option Elab.async false
set_option linter.unusedVariables false
set_option maxRecDepth 100000
namespace Mine

noncomputable def pickI (l : List Int) (lo hi st : Option Int) : List Int := (sliceRange (sliceBounds lo hi st l.length).1 (sliceBounds lo hi st l.length).2.1 (sliceBounds lo hi st l.length).2.2).filterMap (l[·]?)
theorem picked_ints (l : List Int) (lo hi st : Option Int) : picked (l.map .int) lo hi st = (pickI l lo hi st).map .int := by
  unfold picked pickI
  rw [List.length_map, List.map_filterMap]
  congr 1
  funext i
  simp

theorem fn_told {c : Cx} {n : Nat} {p : Job} {ch : Nat} (LF : LawFacts2 c) (ok : p.Ok) (hc : ch < 128) : Fn c (n + 2) 223 [.d (.str (tx (p.reply ch)))] none (p.thing ch) none := by
  have hs := reply_small ok hc
  by_cases h : p.k = 0
  · rw [Job.thing, if_pos h]
    exact fn_refused LF.d223 LF.d136 LF.exc LF.nParse LF.pErr LF.nErr LF.nStr LF.kParse (by omega) (reply_refused ch h) (by omega)
  · obtain ⟨h1, h2⟩ := reply_parsed ok ch h
    rw [thing_word ch h, ← h2]
    exact fn_name LF.d223 LF.d136 LF.pLen LF.nParse LF.kParse hs.1 (by omega) h1

theorem shaped_things (J : Nat → Job) (hJ : ∀ i < 5, (J i).Ok) : SeqAt.shaped (.list ((List.range 5).map fun i => (J i).thing (chOf i))) = true := by
  have h1 : ∀ i < 5, ((J i).thing (chOf i)).canLay0 = true ∧ ((J i).thing (chOf i)).depth ≤ 3 := fun i hi => by
    have h := (thing_reply (hJ i hi) (ch := chOf i) (by unfold chOf; omega)).1
    refine ⟨SeqAt.canLay_of_shaped h, ?_⟩
    unfold Job.thing
    split
    · simp [PyData.depth, PyData.depthAll]
    · split <;> simp [PyData.depth]
  have gen : ∀ l : List Nat, (∀ i ∈ l, i < 5) → PyData.canLayAll0 (l.map fun i => (J i).thing (chOf i)) = true ∧ PyData.depthAll (l.map fun i => (J i).thing (chOf i)) ≤ 6 := by
    intro l
    induction l with
    | nil => intro _; exact ⟨rfl, by simp [PyData.depthAll]⟩
    | cons i l ih =>
      intro h
      obtain ⟨a, b⟩ := ih fun x m => h x (.tail _ m)
      obtain ⟨d, e⟩ := h1 i (h i (.head _))
      simp only [List.map_cons, PyData.canLayAll0, PyData.depthAll, d, a, Bool.and_true, true_and]
      omega
  obtain ⟨a, b⟩ := gen (List.range 5) fun i hi => List.mem_range.mp hi
  simp only [SeqAt.shaped, PyData.canLay0, PyData.depth, a, Bool.true_and]
  exact decide_eq_true (by omega)

noncomputable def owns : List Int := [5901, 7185, 11179, 11591, 5950]
noncomputable def jobOf (script : List Int) (i : Nat) : Job := jobP ((owns[i]?).getD 0 + (pickI script (some (i : Int)) none (some 6)).sum)

theorem fn_law {c : Cx} {n : Nat} {script : List Int} (LF : LawFacts2 c) (D : DefAt c 233 dLaw .none []) (hlen : script.length ≤ 63) : Fn c (n + 6) 233 [.d (.list (script.map .int))] none (.bool true) none := by
  refine Fn.of (n := n + 5) (names := ["script"]) D (by decide +kernel) (fun fd e1 e2 e3 us hu => ?_) rfl ?_
  · obtain ⟨u, rfl⟩ := args1 hu
    rw [fd_is e1 e2 e3]; rfl
  let J : Nat → Job := jobOf script
  have hJ : ∀ i < 5, (J i).Ok := fun i _ => jobP_ok _
  generalize hlast : 7 + (pickI script (some 5) none (some 6)).sum = last
  obtain ⟨ef, hf⟩ := fmod_nat (last.fdiv 3) 4 (by decide)
  obtain ⟨em, hm⟩ := fmod_nat last 3 (by decide)
  generalize ((last.fdiv 3).fmod (4 : Nat)).toNat = f at ef hf
  generalize (last.fmod (3 : Nat)).toNat = m at em hm
  refine Ss.set (d := .int last) (Ev.to (.bin .int (.callB LF.gSum (.cons (.of (Ev.to (.sliceL3 .name (.some .int) .none .int (by decide) (by simp; omega)) (congrArg PyData.list (picked_ints _ _ _ _)))) .nil) BfR.sumL) .add) (congrArg PyData.int hlast)) ?_
  refine Ss.setC (d := .int (f : Int)) (Ev.to (.bin (.bin .name .int (.fdiv (by decide) (by decide))) .int (.fmod (by decide))) (congrArg PyData.int ef)) ?_
  -- the jobs
  refine Ss.setC (hs := by intro env he; cases env; cases he; rfl) (d := .list (jobsD J)) (Ev.to (.compEnum (ρi := [("script", .d (.list (script.map .int)))]) LF.gEnum owns .int (.list (ds := owns.map .int) (.cons (.of .int) (.cons (.of .int) (.cons (.of .int) (.cons (.of .int) (.cons (.of .int) .nil))))) (by simp [owns])) (by rfl) ⟨by rfl, by rfl, trivial⟩ (fun _ => true)
    (fun x => (jobP (x.1 + (pickI script (some (x.2 : Int)) none (some 6)).sum)).data (chOf x.2)) ?_ (by simp [owns])) ?_) ?_
  · intro x hx
    have hx2 : x.2 < 5 := by
      have := List.mem_zipIdx' hx
      simpa [owns] using this.1
    refine ⟨_, .tuple (.cons (.inl (by rfl)) (.cons (.inl (by rfl)) .nil)), .nil, fun _ => ?_⟩
    have hch : ([97, 98, 99, 100, 101] : List Nat)[x.2]? = some (chOf x.2) := by
      obtain ⟨_, k⟩ := x
      simp only at hx2 ⊢
      match k, hx2 with
      | 0, _ => rfl
      | 1, _ => rfl
      | 2, _ => rfl
      | 3, _ => rfl
      | 4, _ => rfl
    refine .callFn ⟨by rfl, .inl LF.vJob, by rfl⟩ LF.kJob (.cons (.of (.itemX (.lit (l := [97, 98, 99, 100, 101])) .name (by omega) hch)) (.cons (.of (.bin .name (.callB ⟨by rfl, LF.gSum.val, by rfl⟩ (.cons (.of (Ev.to (.sliceL3 .name (.some .name) .none .int (by decide) (by simp; omega)) (congrArg PyData.list (picked_ints _ _ _ _)))) .nil) BfR.sumL) .add)) .nil)) (fn_job (n := n + 4) LF.d216)
  · rfl
  have sh := shaped_things J hJ
  refine Ss.ite_no (.cmp (a := .list ((List.range 5).map fun i => (J i).thing (chOf i))) (b := .list ((List.range 5).map fun i => (J i).thing (chOf i))) (.compAll (ρi := []) (.list .name) (List.range 5) (fun i => (J i).data (chOf i)) (fun i => (J i).thing (chOf i)) trivial rfl ?_ (by simp)) (.compAll (ρi := []) (.list .name) (List.range 5) (fun i => (J i).data (chOf i)) (fun i => (J i).thing (chOf i)) trivial rfl ?_ (by simp)) (.neD sh sh (by rw [PySem.SeqAt.eqv_refl _ (SeqAt.canLay_of_shaped sh)]; rfl))) ?_
  · intro i hi
    have hi5 := List.mem_range.mp hi
    refine ⟨_, .tuple (.cons (.inl (by rfl)) (.cons (.inl (by rfl)) (.cons (.inl (by rfl)) (.cons (.inl (by rfl)) .nil)))), ?_⟩
    exact .callFn ⟨by rfl, .inl LF.vName, by rfl⟩ LF.kName (.cons (.of .name) .nil) (fn_told (n := n + 3) LF (hJ i hi5) (by unfold chOf; omega))
  · intro i hi
    exact ⟨_, .tuple (.cons (.inl (by rfl)) (.cons (.inl (by rfl)) (.cons (.inl (by rfl)) (.cons (.inl (by rfl)) .nil)))), .name⟩
  -- the two sizes
  refine Ss.fold (α := Nat) (β := Unit) [2 + m, 3 + m] (fun z => .int (z : Int)) (fun _ _ => ()) () (fun _ => [("jobs", .d (.list (jobsD J))), ("free", .d (.int (f : Int)))]) (fun _ => none) (fun _ _ => True) (.list (.list (ds := [.int ((2 + m : Nat) : Int), .int ((3 + m : Nat) : Int)]) (.cons (.of (Ev.to (.bin .int (.bin .name .int (.fmod (by decide))) .add) ?_)) (.cons (.of (Ev.to (.bin .int (.bin .name .int (.fmod (by decide))) .add) ?_)) .nil)) (by simp))) ⟨by rfl, by rfl, trivial⟩ rfl trivial ?_ ?_
  · congr 1; rw [Int.natCast_add, ← em]; rfl
  · congr 1; rw [Int.natCast_add, ← em]; rfl
  · intro pre z post b e _
    have hz : z = 2 + m ∨ z = 3 + m := by
      have : z ∈ [2 + m, 3 + m] := by rw [← e]; simp
      simpa using this
    refine ⟨_, .name (.inr ⟨rfl, by rfl⟩), (law_outer (z := z) LF hJ (by omega) (by omega) (by omega)).mono fun o ρ₃ σ₃ ⟨ho, hs, hσ⟩ => ?_⟩
    subst ho
    exact ⟨hs, hσ.symm, trivial⟩
  · exact fun _ => .ret .bool ⟨.inl rfl, rfl⟩
end Mine
end

section
open PySem PySem.W PyProof.Rows PySem.Calls PySem.Spec
set_option Elab.async false
set_option linter.unusedVariables false
set_option maxRecDepth 100000
namespace Mine

/-! ## what is read off the heap -/
noncomputable def cut (K : Frag) : Frag := K.filter fun p => !(p.1 == 62) && !(p.1 == 69)
theorem cut_lookup : ∀ (K : Frag) (a : Addr), (cut K).lookup a = if a = 62 ∨ a = 69 then none else K.lookup a
  | [], a => by simp [cut]
  | (b, o) :: K, a => by
    have ih := cut_lookup K a
    unfold cut at ih ⊢
    rw [List.filter_cons]
    by_cases hb : b = 62 ∨ b = 69
    · have : (!(b == 62) && !(b == 69)) = false := by
        rcases hb with rfl | rfl <;> rfl
      rw [if_neg (by rw [this]; simp), ih]
      by_cases ha : a = 62 ∨ a = 69
      · rw [if_pos ha, if_pos ha]
      · rw [if_neg ha, if_neg ha, List.lookup_cons, beq_false_of_ne (fun e : a = b => ha (by rw [e]; exact hb))]
    · have : (!(b == 62) && !(b == 69)) = true := by
        have h1 : b ≠ 62 := fun e => hb (.inl e)
        have h2 : b ≠ 69 := fun e => hb (.inr e)
        rw [beq_false_of_ne h1, beq_false_of_ne h2]; rfl
      rw [if_pos this, List.lookup_cons, List.lookup_cons, ih]
      by_cases hab : a = b
      · subst hab
        simp only [beq_self_eq_true]
        rw [if_neg hb]
      · rw [beq_false_of_ne hab]

noncomputable def fdAt (K : Frag) (a : Addr) : Option FuncData := match K.lookup a with
  | some ⟨_, _, .func fd, _⟩ => some fd
  | _ => none
theorem fdAt_some {K : Frag} {a : Addr} {fd : FuncData} (h : fdAt K a = some fd) : ∃ oc od osl, K.lookup a = some ⟨oc, od, .func fd, osl⟩ := by
  unfold fdAt at h
  split at h
  · rename_i oc od fd' sl e; cases h; exact ⟨oc, od, sl, e⟩
  · cases h
theorem clsIn_some {K : Frag} {C : Addr} {cd : ClassData} (h : clsIn K C = some cd) : ∃ oc od sl, K.lookup C = some ⟨oc, od, .cls cd, sl⟩ := by
  unfold clsIn at h
  split at h
  · rename_i oc od cd' sl e; cases h; exact ⟨oc, od, sl, e⟩
  · cases h
noncomputable def sigOf (K : Frag) (a : Addr) := (fdAt K a).map fun fd => (fd.params, fd.body, fd.scope, fd.globals, fd.builtins, fd.closure, codeIn K fd.code fd.qualname, fd.defaults, fd.kwdefaults)
abbrev SigIs (K : Frag) (a : Addr) (df : Df) (dfl : Value) (clo : List (Str × Addr)) : Prop := sigOf K a = some (df.params, .stmts df.body, df.scope, mainGlobals, builtinsNs, clo, true, dfl, .none)
theorem SigIs.get {K : Frag} {a : Addr} {df : Df} {dfl : Value} {clo : List (Str × Addr)} (h : SigIs K a df dfl clo) : ∃ oc od osl fd, fdAt K a = some fd ∧ K.lookup a = some ⟨oc, od, .func fd, osl⟩ ∧ fd.params = df.params ∧ fd.body = .stmts df.body ∧ fd.scope = df.scope ∧ fd.globals = mainGlobals ∧ fd.builtins = builtinsNs ∧
    fd.closure = clo ∧ codeIn K fd.code fd.qualname = true ∧ fd.defaults = dfl ∧ fd.kwdefaults = .none := by
  unfold SigIs sigOf at h
  cases hx : fdAt K a with
  | none => rw [hx] at h; cases h
  | some fd =>
    rw [hx] at h
    obtain ⟨oc, od, sl, e⟩ := fdAt_some hx
    simp only [Option.map_some, Option.some.injEq, Prod.mk.injEq] at h
    obtain ⟨h1, h2, h3, h4, h5, h6, h7, h8, h9⟩ := h
    exact ⟨oc, od, sl, fd, rfl, e, h1, h2, h3, h4, h5, h6, h7, h8, h9⟩
theorem SigIs.at {c : Cx} {a : Addr} {df : Df} {dfl : Value} {clo : List (Str × Addr)} (h : SigIs c.K a df dfl clo) : DefAt c a df dfl clo :=
  let ⟨oc, od, osl, fd, _, r⟩ := h.get; ⟨oc, od, osl, fd, r⟩
theorem SigIs.gen {c : Cx} {a cd : Addr} {df : Df} (h : SigIs c.K a df .none []) (hc : (fdAt c.K a).map (·.code) = some (.ref cd)) : DefGen c a df cd := by
  obtain ⟨oc, od, osl, fd, e, h0, h1, h2, h3, h4, h5, h6, h7, h8, h9⟩ := h.get
  rw [e] at hc
  exact ⟨oc, od, osl, fd, h0, h1, h2, h3, h4, h5, h6, h7, h8, h9, by simpa using hc⟩
noncomputable def fileAt (K : Frag) : Value → Option Bool
  | .ref cc => (match K.lookup cc with
    | some ⟨_, _, .fields vs, _⟩ => (match (vs[2]? : Option Value) with
      | some (Value.str file _) => some ((pg.main.file : Str) == file)
      | _ => none)
    | _ => none)
  | _ => none
theorem fileAt_some {K : Frag} {v : Value} (h : fileAt K v = some true) : ∃ cc cl cd vs sl file tf, v = .ref cc ∧ K.lookup cc = some ⟨cl, cd, .fields vs, sl⟩ ∧ vs[2]? = some (.str file tf) ∧ ((pg.main.file : Str) == file) = true := by
  unfold fileAt at h
  split at h
  · split at h
    · split at h
      · rename_i cc _ cl cd vs sl e _ file tf e2
        exact ⟨_, _, _, _, _, _, _, rfl, e, e2, by simpa using h⟩
      · cases h
    · cases h
  · cases h
theorem SigIs.sup {c : Cx} {a : Addr} {df : Df} {dfl : Value} (h : SigIs c.K a df dfl [(("__class__" : Str), (25 : Addr))]) (hf : (fdAt c.K a).bind (fun fd => fileAt c.K fd.code) = some true) (ha : (df.params.posonlyargs ++ df.params.args).head?.map (·.arg) = some "self") : DefSup c a df dfl := by
  obtain ⟨oc, od, osl, fd, e, h0, h1, h2, h3, h4, h5, h6, h7, h8, h9⟩ := h.get
  rw [e] at hf
  refine ⟨oc, od, osl, fd, h0, h1, h2, h3, h4, h5, h6, h7, h8, h9, ⟨⟨oc, od, osl, h0⟩, ?_, fileAt_some hf⟩⟩
  rw [h1]
  obtain ⟨ar, e1, e2⟩ := Option.map_eq_some_iff.mp ha
  exact ⟨ar, e1, e2⟩
noncomputable def zeroAt (K : Frag) (a : Addr) : Bool := match K.lookup a with
  | some ⟨_, _, .seq vs _, _⟩ => (match vs.toList with
    | [.int k _] => k == 0
    | _ => false)
  | _ => false
theorem zeroAt_get {K : Frag} {a : Addr} (h : zeroAt K a = true) : ∃ oT tk kk, K.lookup a = some oT ∧ oT.data = .seq #[.int 0 tk] kk := by
  unfold zeroAt at h
  split at h
  · rename_i c d vs kk sl e
    split at h
    · rename_i k t e2
      have hk : k = 0 := by simpa using h
      subst hk
      refine ⟨_, t, kk, e, ?_⟩
      show Data.seq vs kk = _
      congr 1
      apply Array.toList_inj.mp
      rw [e2]
    · cases h
  · cases h

/-! names -/
theorem mg_of {K : Frag} {h : Heap} {ns : Addr} {m : Str → Option Value} {x : Str} {r : Option Value} (X : K.In h) (N : h.Ns ns m) (e : nsIn K ns x = some r) : m x = r := by
  obtain ⟨o, es, ep, ho, hd, hk, hm⟩ := N
  unfold nsIn at e
  split at e
  · rename_i c d es' n sl hl
    have := X _ _ hl
    rw [ho] at this; cases this
    simp only at hd
    cases hd
    rw [← hm]
    unfold nsFind findBy
    rw [← Array.find?_toList]
    split at e
    · rename_i en he
      cases e
      rw [he]; rfl
    · rename_i he
      rw [he]
      split at e
      · cases e
      · cases e; rfl
  · cases e
noncomputable def dictOk (K : Frag) (a : Addr) (ns : List Str) : Bool := match K.lookup a with
  | some ⟨_, _, .dict es _, _⟩ => es.all (fun e => match e.key with | .str _ _ => true | _ => false) && ns.all fun n => (nsFind es n).isNone
  | _ => false
theorem dictOk_get {K : Frag} {a : Addr} {ns : List Str} (h : dictOk K a ns = true) : ∃ m : Str → Option Value, (∀ n ∈ ns, m n = none) ∧ ∀ hp : Heap, K.In hp → hp.Ns a m := by
  unfold dictOk at h
  split at h
  · rename_i c d es ep sl e
    obtain ⟨h1, h2⟩ := Bool.and_eq_true_iff.mp h
    refine ⟨nsFind es, fun n hn => ?_, fun hp X => ⟨_, es, ep, X _ _ e, rfl, fun en hen => ?_, fun _ => rfl⟩⟩
    · have := List.all_eq_true.mp h2 n hn
      simpa using this
    · have := Array.all_eq_true'.mp h1 en hen
      split at this
      · rename_i n t ek; exact ⟨n, t, ek⟩
      · cases this
  · cases h
end Mine
end

section
open PySem PySem.W PySem.W.X PySem.W.ZRun PyProof.Rows
set_option Elab.async false
set_option linter.unusedVariables false
set_option maxRecDepth 100000
set_option maxHeartbeats 0
namespace Mine
/-! ## the head: the states behind the groups of the text's statements (printed by wip/mkhead.py from the print of wip/states.lean) -/
noncomputable def sO (x : String) : Str := Str.ofString x
noncomputable def vS (x : String) (t : Nat) : Value := .str (Str.ofString x) t
noncomputable def dE (P : Params) (x : String) (t : Nat) (v : Value) : DictEntry := ⟨PyData.keyHash P (Str.ofString x), .str (Str.ofString x) t, v⟩
noncomputable def oB (c : Value) (d : Data) : Obj := { cls := c, data := d }
noncomputable def fO (c : Value) (D : Option Df) (nm qn : String) (g : Addr) (clo : List (Str × Addr)) (dfl mod code ct : Value) : Obj :=
  { cls := c, data := .func { name := Str.ofString nm, qualname := Str.ofString qn, params := (D.getD dfNone).params, body := .stmts (D.getD dfNone).body, scope := (D.getD dfNone).scope, globals := g, closure := clo, defaults := dfl, kwdefaults := .none, pyModule := mod, code := code, closureTuple := ct } }
noncomputable def seg1 (P : Params) (tl : List Obj) : List Obj :=
  oB (.type "tuple") (.seq #[]) ::
  oB (.none) (.fields #[]) ::
  oB (.type "tuple") (.seq #[vS "k" 190]) ::
  oB (.type "tuple") (.seq #[]) ::
  fO .none (dfAt 0) "_wall" "_wall" 0 [] .none .none .none .none ::
  oB (.type "code") (.fields #[vS "_wall" 187, vS "_wall" 188, vS "/claim/cut.py" 189, .int 1 0, .int 1 0, .int 0 0, .int 0 0, .int 3 0, .ref 15, .bool true, .int 181 0, .ref 16, .none, .ref 17, .ref 18, .ref 19, .int 191 0, .int 1 0, vS "/claim/cut.py" 192]) ::
  fO (.type "function") (dfAt 0) "_wall" "_wall" 3 [] .none (vS "__main__" 164) (.ref 20) .none ::
  oB (.type "tuple") (.seq #[.type "list"]) ::
  oB (.type "builtin_function_or_method") (.fields #[.builtin "type.__prepare__", .type "type"]) ::
  oB (.type "dict") (.dict #[dE P "__module__" 205 (vS "cpy313.email.header" 194), dE P "__qualname__" 207 (vS "_Accumulator" 206), dE P "__firstlineno__" 209 (.int 6 208), dE P "__init__" 219 (.ref 38), dE P "push" 228 (.ref 45), dE P "pop_from" 238 (.ref 53), dE P "pop" 245 (.ref 60), dE P "__len__" 252 (.ref 67), dE P "__str__" 259 (.ref 74), dE P "reset" 267 (.ref 82), dE P "is_onlyws" 274 (.ref 89), dE P "part_count" 282 (.ref 97), dE P "__static_attributes__" 284 (.ref 98), dE P "__classcell__" 285 (.ref 25)] 14) ::
  oB (.type "cell") (.cell (some (.ref 100))) ::
  oB (.type "tuple") (.seq #[]) ::
  oB (.none) (.fields #[.int 8 0, .int 4 0, .ref 37, .int 12 0, .int 4 0, .ref 44, .int 15 0, .int 4 0, .ref 52, .int 20 0, .int 4 0, .ref 59, .int 23 0, .int 4 0, .ref 66, .int 26 0, .int 4 0, .ref 73, .int 29 0, .int 4 0, .ref 81, .int 32 0, .int 4 0, .ref 88, .int 35 0, .int 4 0, .ref 96]) ::
  oB (.type "code") (.fields #[vS "_Accumulator" 200, vS "_Accumulator" 201, vS "/claim/cut.py" 202, .int 6 0, .int 0 0, .int 0 0, .int 0 0, .int 0 0, .ref 26, .bool false, .int 181 0, .ref 27, .none, .none, .none, .none, .int 203 0, .int 6 0, vS "/claim/cut.py" 204]) ::
  { cls := .type "frame", slots := #[some (.ref 28), some (.ref 3), some (.ref 24), none, some (vS "cpy313.email.header" 194), none, some (.ref 0)] } ::
  oB (.type "tuple") (.seq #[.int 0 210]) ::
  oB (.type "tuple") (.seq #[.ref 25]) ::
  oB (.type "tuple") (.seq #[vS "__class__" 214]) ::
  oB (.none) (.fields #[]) ::
  oB (.type "tuple") (.seq #[vS "self" 215, vS "initial_size" 216]) ::
  oB (.type "tuple") (.seq #[]) ::
  fO .none (dfIn 3 0) "__init__" "_Accumulator.__init__" 0 [] .none .none .none .none ::
  oB (.type "code") (.fields #[vS "__init__" 211, vS "_Accumulator.__init__" 212, vS "/claim/cut.py" 213, .int 8 0, .int 2 0, .int 0 0, .int 0 0, .int 3 0, .ref 32, .bool true, .int 181 0, .ref 33, .none, .ref 34, .ref 35, .ref 36, .int 217 0, .int 8 0, vS "/claim/cut.py" 218]) ::
  fO (.type "function") (dfIn 3 0) "__init__" "_Accumulator.__init__" 3 [(sO "__class__", 25)] (.ref 30) (vS "cpy313.email.header" 194) (.ref 37) (.ref 31) ::
  oB (.type "tuple") (.seq #[]) ::
  oB (.none) (.fields #[]) ::
  oB (.type "tuple") (.seq #[vS "self" 223, vS "fws" 224, vS "string" 225]) ::
  oB (.type "tuple") (.seq #[]) ::
  fO .none (dfIn 3 1) "push" "_Accumulator.push" 0 [] .none .none .none .none ::
  oB (.type "code") (.fields #[vS "push" 220, vS "_Accumulator.push" 221, vS "/claim/cut.py" 222, .int 12 0, .int 3 0, .int 0 0, .int 0 0, .int 3 0, .ref 39, .bool true, .int 181 0, .ref 40, .none, .ref 41, .ref 42, .ref 43, .int 226 0, .int 12 0, vS "/claim/cut.py" 227]) ::
  fO (.type "function") (dfIn 3 1) "push" "_Accumulator.push" 3 [] .none (vS "cpy313.email.header" 194) (.ref 44) .none ::
  oB (.type "tuple") (.seq #[.int 0 229]) ::
  oB (.type "tuple") (.seq #[]) ::
  oB (.none) (.fields #[]) ::
  oB (.type "tuple") (.seq #[vS "self" 233, vS "i" 234, vS "popped" 235]) ::
  oB (.type "tuple") (.seq #[]) ::
  fO .none (dfIn 3 2) "pop_from" "_Accumulator.pop_from" 0 [] .none .none .none .none ::
  oB (.type "code") (.fields #[vS "pop_from" 230, vS "_Accumulator.pop_from" 231, vS "/claim/cut.py" 232, .int 15 0, .int 2 0, .int 0 0, .int 0 0, .int 3 0, .ref 47, .bool true, .int 181 0, .ref 48, .none, .ref 49, .ref 50, .ref 51, .int 236 0, .int 15 0, vS "/claim/cut.py" 237]) ::
  fO (.type "function") (dfIn 3 2) "pop_from" "_Accumulator.pop_from" 3 [] (.ref 46) (vS "cpy313.email.header" 194) (.ref 52) .none ::
  oB (.type "tuple") (.seq #[]) ::
  oB (.none) (.fields #[]) ::
  oB (.type "tuple") (.seq #[vS "self" 242]) ::
  oB (.type "tuple") (.seq #[]) ::
  fO .none (dfIn 3 3) "pop" "_Accumulator.pop" 0 [] .none .none .none .none ::
  oB (.type "code") (.fields #[vS "pop" 239, vS "_Accumulator.pop" 240, vS "/claim/cut.py" 241, .int 20 0, .int 1 0, .int 0 0, .int 0 0, .int 3 0, .ref 54, .bool true, .int 181 0, .ref 55, .none, .ref 56, .ref 57, .ref 58, .int 243 0, .int 20 0, vS "/claim/cut.py" 244]) ::
  fO (.type "function") (dfIn 3 3) "pop" "_Accumulator.pop" 3 [] .none (vS "cpy313.email.header" 194) (.ref 59) .none ::
  oB (.type "tuple") (.seq #[]) ::
  oB (.none) (.fields #[]) ::
  oB (.type "tuple") (.seq #[vS "self" 249]) ::
  oB (.type "tuple") (.seq #[]) ::
  fO .none (dfIn 3 4) "__len__" "_Accumulator.__len__" 0 [] .none .none .none .none ::
  oB (.type "code") (.fields #[vS "__len__" 246, vS "_Accumulator.__len__" 247, vS "/claim/cut.py" 248, .int 23 0, .int 1 0, .int 0 0, .int 0 0, .int 3 0, .ref 61, .bool true, .int 181 0, .ref 62, .none, .ref 63, .ref 64, .ref 65, .int 250 0, .int 23 0, vS "/claim/cut.py" 251]) ::
  fO (.type "function") (dfIn 3 4) "__len__" "_Accumulator.__len__" 3 [] .none (vS "cpy313.email.header" 194) (.ref 66) .none ::
  oB (.type "tuple") (.seq #[]) ::
  oB (.none) (.fields #[]) ::
  oB (.type "tuple") (.seq #[vS "self" 256]) ::
  oB (.type "tuple") (.seq #[]) ::
  fO .none (dfIn 3 5) "__str__" "_Accumulator.__str__" 0 [] .none .none .none .none ::
  oB (.type "code") (.fields #[vS "__str__" 253, vS "_Accumulator.__str__" 254, vS "/claim/cut.py" 255, .int 26 0, .int 1 0, .int 0 0, .int 0 0, .int 3 0, .ref 68, .bool true, .int 181 0, .ref 69, .none, .ref 70, .ref 71, .ref 72, .int 257 0, .int 26 0, vS "/claim/cut.py" 258]) ::
  fO (.type "function") (dfIn 3 5) "__str__" "_Accumulator.__str__" 3 [] .none (vS "cpy313.email.header" 194) (.ref 73) .none ::
  oB (.type "tuple") (.seq #[.none]) ::
  oB (.type "tuple") (.seq #[]) ::
  oB (.none) (.fields #[]) ::
  oB (.type "tuple") (.seq #[vS "self" 263, vS "startval" 264]) ::
  oB (.type "tuple") (.seq #[]) ::
  fO .none (dfIn 3 6) "reset" "_Accumulator.reset" 0 [] .none .none .none .none ::
  oB (.type "code") (.fields #[vS "reset" 260, vS "_Accumulator.reset" 261, vS "/claim/cut.py" 262, .int 29 0, .int 2 0, .int 0 0, .int 0 0, .int 3 0, .ref 76, .bool true, .int 181 0, .ref 77, .none, .ref 78, .ref 79, .ref 80, .int 265 0, .int 29 0, vS "/claim/cut.py" 266]) ::
  fO (.type "function") (dfIn 3 6) "reset" "_Accumulator.reset" 3 [] (.ref 75) (vS "cpy313.email.header" 194) (.ref 81) .none ::
  oB (.type "tuple") (.seq #[]) ::
  oB (.none) (.fields #[]) ::
  oB (.type "tuple") (.seq #[vS "self" 271]) ::
  oB (.type "tuple") (.seq #[]) ::
  fO .none (dfIn 3 7) "is_onlyws" "_Accumulator.is_onlyws" 0 [] .none .none .none .none ::
  oB (.type "code") (.fields #[vS "is_onlyws" 268, vS "_Accumulator.is_onlyws" 269, vS "/claim/cut.py" 270, .int 32 0, .int 1 0, .int 0 0, .int 0 0, .int 3 0, .ref 83, .bool true, .int 181 0, .ref 84, .none, .ref 85, .ref 86, .ref 87, .int 272 0, .int 32 0, vS "/claim/cut.py" 273]) ::
  fO (.type "function") (dfIn 3 7) "is_onlyws" "_Accumulator.is_onlyws" 3 [] .none (vS "cpy313.email.header" 194) (.ref 88) .none ::
  oB (.type "tuple") (.seq #[.ref 25]) ::
  oB (.type "tuple") (.seq #[vS "__class__" 278]) ::
  oB (.none) (.fields #[]) ::
  oB (.type "tuple") (.seq #[vS "self" 279]) ::
  oB (.type "tuple") (.seq #[]) ::
  fO .none (dfIn 3 8) "part_count" "_Accumulator.part_count" 0 [] .none .none .none .none ::
  oB (.type "code") (.fields #[vS "part_count" 275, vS "_Accumulator.part_count" 276, vS "/claim/cut.py" 277, .int 35 0, .int 1 0, .int 0 0, .int 0 0, .int 3 0, .ref 91, .bool true, .int 181 0, .ref 92, .none, .ref 93, .ref 94, .ref 95, .int 280 0, .int 35 0, vS "/claim/cut.py" 281]) ::
  fO (.type "function") (dfIn 3 8) "part_count" "_Accumulator.part_count" 3 [(sO "__class__", 25)] .none (vS "cpy313.email.header" 194) (.ref 96) (.ref 90) ::
  oB (.type "tuple") (.seq #[vS "_initial_size" 283]) ::
  oB (.type "dict") (.dict #[dE P "__module__" 205 (vS "cpy313.email.header" 194), dE P "__firstlineno__" 209 (.int 6 208), dE P "__init__" 219 (.ref 38), dE P "push" 228 (.ref 45), dE P "pop_from" 238 (.ref 53), dE P "pop" 245 (.ref 60), dE P "__len__" 252 (.ref 67), dE P "__str__" 259 (.ref 74), dE P "reset" 267 (.ref 82), dE P "is_onlyws" 274 (.ref 89), dE P "part_count" 282 (.ref 97), dE P "__static_attributes__" 284 (.ref 98), dE P "__dict__" 287 (.ref 101), dE P "__weakref__" 289 (.ref 102), dE P "__doc__" 290 .none] 5) ::
  { cls := .type "type", data := .cls { name := sO "_Accumulator", bases := [.type "list"], mro := [.ref 100, .type "list", .type "object"], ns := 99, qualname := sO "_Accumulator" }, slots := #[some (.ref 22), none, some (vS "_Accumulator" 198), some (vS "_Accumulator" 206), some (.builtin "list.__new__"), some (.bool true)] } ::
  oB (.type "getset_descriptor") (.fields #[vS "__dict__" 286, .ref 100, .builtin "function.__dict__", .builtin "function.__dict__#set"]) ::
  oB (.type "getset_descriptor") (.fields #[vS "__weakref__" 288, .ref 100, .builtin "ExceptionGroup.__weakref__", .none]) ::
  oB (.type "super") (.fields #[.ref 100, .ref 100, .ref 100]) ::
  oB (.type "builtin_function_or_method") (.fields #[.builtin "object.__init_subclass__", .ref 100]) :: tl
noncomputable def seg2 (P : Params) (e : Obj) (tl : List Obj) : List Obj :=
  oB (.type "tuple") (.seq #[.type "Exception"]) ::
  oB (.type "builtin_function_or_method") (.fields #[.builtin "type.__prepare__", .type "type"]) ::
  oB (.type "dict") (.dict #[dE P "__module__" 302 (vS "cpy313.ftplib" 293), dE P "__qualname__" 304 (vS "Error" 303), dE P "__firstlineno__" 306 (.int 38 305), dE P "__static_attributes__" 307 (.ref 112)] 4) ::
  oB (.type "tuple") (.seq #[]) ::
  oB (.none) (.fields #[]) ::
  oB (.type "code") (.fields #[vS "Error" 297, vS "Error" 298, vS "/claim/cut.py" 299, .int 38 0, .int 0 0, .int 0 0, .int 0 0, .int 0 0, .ref 108, .bool false, .int 181 0, .ref 109, .none, .none, .none, .none, .int 300 0, .int 38 0, vS "/claim/cut.py" 301]) ::
  { cls := .type "frame", slots := #[some (.ref 110), some (.ref 3), some (.ref 107), none, some (vS "cpy313.ftplib" 293), none, some (.ref 0)] } ::
  oB (.type "tuple") (.seq #[]) ::
  oB (.type "dict") (.dict #[dE P "__module__" 302 (vS "cpy313.ftplib" 293), dE P "__firstlineno__" 306 (.int 38 305), dE P "__static_attributes__" 307 (.ref 112), dE P "__weakref__" 309 (.ref 115), dE P "__doc__" 310 .none] 3) ::
  e ::
  oB (.type "getset_descriptor") (.fields #[vS "__weakref__" 308, .ref 114, .builtin "ExceptionGroup.__weakref__", .none]) ::
  oB (.type "super") (.fields #[.ref 114, .ref 114, .ref 114]) ::
  oB (.type "builtin_function_or_method") (.fields #[.builtin "object.__init_subclass__", .ref 114]) :: tl
noncomputable def seg3 (P : Params) (tl : List Obj) : List Obj :=
  oB (.type "tuple") (.seq #[.ref 114]) ::
  oB (.type "builtin_function_or_method") (.fields #[.builtin "type.__prepare__", .type "type"]) ::
  oB (.type "dict") (.dict #[dE P "__module__" 322 (vS "cpy313.ftplib" 293), dE P "__qualname__" 324 (vS "error_reply" 323), dE P "__firstlineno__" 326 (.int 40 325), dE P "__static_attributes__" 327 (.ref 125)] 4) ::
  oB (.type "tuple") (.seq #[]) ::
  oB (.none) (.fields #[]) ::
  oB (.type "code") (.fields #[vS "error_reply" 317, vS "error_reply" 318, vS "/claim/cut.py" 319, .int 40 0, .int 0 0, .int 0 0, .int 0 0, .int 0 0, .ref 121, .bool false, .int 181 0, .ref 122, .none, .none, .none, .none, .int 320 0, .int 40 0, vS "/claim/cut.py" 321]) ::
  { cls := .type "frame", slots := #[some (.ref 123), some (.ref 3), some (.ref 120), none, some (vS "cpy313.ftplib" 293), none, some (.ref 0)] } ::
  oB (.type "tuple") (.seq #[]) ::
  oB (.type "dict") (.dict #[dE P "__module__" 322 (vS "cpy313.ftplib" 293), dE P "__firstlineno__" 326 (.int 40 325), dE P "__static_attributes__" 327 (.ref 125), dE P "__doc__" 328 .none] 2) ::
  { cls := .type "type", data := .cls { name := sO "error_reply", bases := [.ref 114], mro := [.ref 127, .ref 114, .type "Exception", .type "BaseException", .type "object"], ns := 126, qualname := sO "error_reply" }, slots := #[some (.ref 118), none, some (vS "error_reply" 315), some (vS "error_reply" 323), some (.builtin "Exception.__new__"), some (.bool true)] } ::
  oB (.type "super") (.fields #[.ref 127, .ref 127, .ref 127]) ::
  oB (.type "builtin_function_or_method") (.fields #[.builtin "object.__init_subclass__", .ref 127]) ::
  oB (.type "tuple") (.seq #[]) ::
  oB (.none) (.fields #[]) ::
  oB (.type "tuple") (.seq #[vS "resp" 334, vS "dirname" 335, vS "i" 336, vS "n" 337, vS "c" 338]) ::
  oB (.type "tuple") (.seq #[]) ::
  fO .none (dfAt 7) "parse257" "parse257" 0 [] .none .none .none .none ::
  oB (.type "code") (.fields #[vS "parse257" 331, vS "parse257" 332, vS "/claim/cut.py" 333, .int 42 0, .int 1 0, .int 0 0, .int 0 0, .int 3 0, .ref 130, .bool true, .int 181 0, .ref 131, .none, .ref 132, .ref 133, .ref 134, .int 339 0, .int 42 0, vS "/claim/cut.py" 340]) ::
  fO (.type "function") (dfAt 7) "parse257" "parse257" 3 [] .none (vS "cpy313.ftplib" 293) (.ref 135) .none :: tl
noncomputable def seg4 (P : Params) (tl : List Obj) : List Obj :=
  oB (.type "tuple") (.seq #[]) ::
  oB (.type "builtin_function_or_method") (.fields #[.builtin "type.__prepare__", .type "type"]) ::
  oB (.type "dict") (.dict #[dE P "__module__" 351 (vS "cpy313.tabnanny" 342), dE P "__qualname__" 353 (vS "Whitespace" 352), dE P "__firstlineno__" 355 (.int 60 354), dE P "S" 359 (vS " " 357), dE P "T" 360 (vS "\t" 358), dE P "__init__" 375 (.ref 153), dE P "longest_run_of_spaces" 382 (.ref 160), dE P "indent_level" 394 (.ref 167), dE P "equal" 402 (.ref 174), dE P "not_equal_witness" 410 (.ref 181), dE P "less" 418 (.ref 188), dE P "not_less_witness" 426 (.ref 195), dE P "__static_attributes__" 432 (.ref 196)] 13) ::
  oB (.type "tuple") (.seq #[]) ::
  oB (.none) (.fields #[.int 63 0, .int 4 0, .ref 152, .int 86 0, .int 4 0, .ref 159, .int 89 0, .int 4 0, .ref 166, .int 96 0, .int 4 0, .ref 173, .int 99 0, .int 4 0, .ref 180, .int 102 0, .int 4 0, .ref 187, .int 105 0, .int 4 0, .ref 194]) ::
  oB (.type "code") (.fields #[vS "Whitespace" 346, vS "Whitespace" 347, vS "/claim/cut.py" 348, .int 60 0, .int 0 0, .int 0 0, .int 0 0, .int 0 0, .ref 140, .bool false, .int 181 0, .ref 141, .none, .none, .none, .none, .int 349 0, .int 60 0, vS "/claim/cut.py" 350]) ::
  { cls := .type "frame", slots := #[some (.ref 142), some (.ref 3), some (.ref 139), none, some (vS "cpy313.tabnanny" 342), none, some (.ref 0)] } ::
  oB (.type "str_ascii_iterator") (.fields #[.none, .int 2 0]) ::
  oB (.type "tuple") (.seq #[]) ::
  oB (.type "StopIteration") (.fields #[.ref 145, .none, .none, .none, .bool false, .none]) ::
  oB (.type "tuple") (.seq #[]) ::
  oB (.none) (.fields #[]) ::
  oB (.type "tuple") (.seq #[vS "self" 364, vS "ws" 365, vS "S" 366, vS "T" 367, vS "count" 368, vS "b" 369, vS "n" 370, vS "nt" 371, vS "ch" 372]) ::
  oB (.type "tuple") (.seq #[]) ::
  fO .none (dfIn 9 1) "__init__" "Whitespace.__init__" 0 [] .none .none .none .none ::
  oB (.type "code") (.fields #[vS "__init__" 361, vS "Whitespace.__init__" 362, vS "/claim/cut.py" 363, .int 63 0, .int 2 0, .int 0 0, .int 0 0, .int 3 0, .ref 147, .bool true, .int 181 0, .ref 148, .none, .ref 149, .ref 150, .ref 151, .int 373 0, .int 63 0, vS "/claim/cut.py" 374]) ::
  fO (.type "function") (dfIn 9 1) "__init__" "Whitespace.__init__" 3 [] .none (vS "cpy313.tabnanny" 342) (.ref 152) .none ::
  oB (.type "tuple") (.seq #[]) ::
  oB (.none) (.fields #[]) ::
  oB (.type "tuple") (.seq #[vS "self" 379]) ::
  oB (.type "tuple") (.seq #[]) ::
  fO .none (dfIn 9 2) "longest_run_of_spaces" "Whitespace.longest_run_of_spaces" 0 [] .none .none .none .none ::
  oB (.type "code") (.fields #[vS "longest_run_of_spaces" 376, vS "Whitespace.longest_run_of_spaces" 377, vS "/claim/cut.py" 378, .int 86 0, .int 1 0, .int 0 0, .int 0 0, .int 3 0, .ref 154, .bool true, .int 181 0, .ref 155, .none, .ref 156, .ref 157, .ref 158, .int 380 0, .int 86 0, vS "/claim/cut.py" 381]) ::
  fO (.type "function") (dfIn 9 2) "longest_run_of_spaces" "Whitespace.longest_run_of_spaces" 3 [] .none (vS "cpy313.tabnanny" 342) (.ref 159) .none ::
  oB (.type "tuple") (.seq #[]) ::
  oB (.none) (.fields #[]) ::
  oB (.type "tuple") (.seq #[vS "self" 386, vS "tabsize" 387, vS "count" 388, vS "trailing" 389, vS "il" 390, vS "i" 391]) ::
  oB (.type "tuple") (.seq #[]) ::
  fO .none (dfIn 9 3) "indent_level" "Whitespace.indent_level" 0 [] .none .none .none .none ::
  oB (.type "code") (.fields #[vS "indent_level" 383, vS "Whitespace.indent_level" 384, vS "/claim/cut.py" 385, .int 89 0, .int 2 0, .int 0 0, .int 0 0, .int 3 0, .ref 161, .bool true, .int 181 0, .ref 162, .none, .ref 163, .ref 164, .ref 165, .int 392 0, .int 89 0, vS "/claim/cut.py" 393]) ::
  fO (.type "function") (dfIn 9 3) "indent_level" "Whitespace.indent_level" 3 [] .none (vS "cpy313.tabnanny" 342) (.ref 166) .none ::
  oB (.type "tuple") (.seq #[]) ::
  oB (.none) (.fields #[]) ::
  oB (.type "tuple") (.seq #[vS "self" 398, vS "other" 399]) ::
  oB (.type "tuple") (.seq #[]) ::
  fO .none (dfIn 9 4) "equal" "Whitespace.equal" 0 [] .none .none .none .none ::
  oB (.type "code") (.fields #[vS "equal" 395, vS "Whitespace.equal" 396, vS "/claim/cut.py" 397, .int 96 0, .int 2 0, .int 0 0, .int 0 0, .int 3 0, .ref 168, .bool true, .int 181 0, .ref 169, .none, .ref 170, .ref 171, .ref 172, .int 400 0, .int 96 0, vS "/claim/cut.py" 401]) ::
  fO (.type "function") (dfIn 9 4) "equal" "Whitespace.equal" 3 [] .none (vS "cpy313.tabnanny" 342) (.ref 173) .none ::
  oB (.type "tuple") (.seq #[]) ::
  oB (.none) (.fields #[]) ::
  oB (.type "tuple") (.seq #[vS "self" 406, vS "other" 407]) ::
  oB (.type "tuple") (.seq #[]) ::
  fO .none (dfIn 9 5) "not_equal_witness" "Whitespace.not_equal_witness" 0 [] .none .none .none .none ::
  oB (.type "code") (.fields #[vS "not_equal_witness" 403, vS "Whitespace.not_equal_witness" 404, vS "/claim/cut.py" 405, .int 99 0, .int 2 0, .int 0 0, .int 0 0, .int 3 0, .ref 175, .bool true, .int 181 0, .ref 176, .none, .ref 177, .ref 178, .ref 179, .int 408 0, .int 99 0, vS "/claim/cut.py" 409]) ::
  fO (.type "function") (dfIn 9 5) "not_equal_witness" "Whitespace.not_equal_witness" 3 [] .none (vS "cpy313.tabnanny" 342) (.ref 180) .none ::
  oB (.type "tuple") (.seq #[]) ::
  oB (.none) (.fields #[]) ::
  oB (.type "tuple") (.seq #[vS "self" 414, vS "other" 415]) ::
  oB (.type "tuple") (.seq #[]) ::
  fO .none (dfIn 9 6) "less" "Whitespace.less" 0 [] .none .none .none .none ::
  oB (.type "code") (.fields #[vS "less" 411, vS "Whitespace.less" 412, vS "/claim/cut.py" 413, .int 102 0, .int 2 0, .int 0 0, .int 0 0, .int 3 0, .ref 182, .bool true, .int 181 0, .ref 183, .none, .ref 184, .ref 185, .ref 186, .int 416 0, .int 102 0, vS "/claim/cut.py" 417]) ::
  fO (.type "function") (dfIn 9 6) "less" "Whitespace.less" 3 [] .none (vS "cpy313.tabnanny" 342) (.ref 187) .none ::
  oB (.type "tuple") (.seq #[]) ::
  oB (.none) (.fields #[]) ::
  oB (.type "tuple") (.seq #[vS "self" 422, vS "other" 423]) ::
  oB (.type "tuple") (.seq #[]) ::
  fO .none (dfIn 9 7) "not_less_witness" "Whitespace.not_less_witness" 0 [] .none .none .none .none ::
  oB (.type "code") (.fields #[vS "not_less_witness" 419, vS "Whitespace.not_less_witness" 420, vS "/claim/cut.py" 421, .int 105 0, .int 2 0, .int 0 0, .int 0 0, .int 3 0, .ref 189, .bool true, .int 181 0, .ref 190, .none, .ref 191, .ref 192, .ref 193, .int 424 0, .int 105 0, vS "/claim/cut.py" 425]) ::
  fO (.type "function") (dfIn 9 7) "not_less_witness" "Whitespace.not_less_witness" 3 [] .none (vS "cpy313.tabnanny" 342) (.ref 194) .none ::
  oB (.type "tuple") (.seq #[vS "is_simple" 427, vS "n" 428, vS "norm" 429, vS "nt" 430, vS "raw" 431]) ::
  oB (.type "dict") (.dict #[dE P "__module__" 351 (vS "cpy313.tabnanny" 342), dE P "__firstlineno__" 355 (.int 60 354), dE P "S" 359 (vS " " 357), dE P "T" 360 (vS "\t" 358), dE P "__init__" 375 (.ref 153), dE P "longest_run_of_spaces" 382 (.ref 160), dE P "indent_level" 394 (.ref 167), dE P "equal" 402 (.ref 174), dE P "not_equal_witness" 410 (.ref 181), dE P "less" 418 (.ref 188), dE P "not_less_witness" 426 (.ref 195), dE P "__static_attributes__" 432 (.ref 196), dE P "__dict__" 434 (.ref 199), dE P "__weakref__" 436 (.ref 200), dE P "__doc__" 437 .none] 4) ::
  { cls := .type "type", data := .cls { name := sO "Whitespace", bases := [.type "object"], mro := [.ref 198, .type "object"], ns := 197, qualname := sO "Whitespace" }, slots := #[none, none, some (vS "Whitespace" 344), some (vS "Whitespace" 352), some (.builtin "object.__new__"), some (.bool true)] } ::
  oB (.type "getset_descriptor") (.fields #[vS "__dict__" 433, .ref 198, .builtin "function.__dict__", .builtin "function.__dict__#set"]) ::
  oB (.type "getset_descriptor") (.fields #[vS "__weakref__" 435, .ref 198, .builtin "ExceptionGroup.__weakref__", .none]) ::
  oB (.type "super") (.fields #[.ref 198, .ref 198, .ref 198]) ::
  oB (.type "builtin_function_or_method") (.fields #[.builtin "object.__init_subclass__", .ref 198]) :: tl
noncomputable def seg5 (P : Params) (tl : List Obj) : List Obj :=
  oB (.type "tuple") (.seq #[]) ::
  oB (.none) (.fields #[]) ::
  oB (.type "tuple") (.seq #[vS "lead" 445, vS "size" 446, vS "column" 447, vS "sign" 448]) ::
  oB (.type "tuple") (.seq #[]) ::
  fO .none (dfAt 11) "_law_column" "_law_column" 0 [] .none .none .none .none ::
  oB (.type "code") (.fields #[vS "_law_column" 442, vS "_law_column" 443, vS "/claim/cut.py" 444, .int 108 0, .int 2 0, .int 0 0, .int 0 0, .int 3 0, .ref 203, .bool true, .int 181 0, .ref 204, .none, .ref 205, .ref 206, .ref 207, .int 449 0, .int 108 0, vS "/claim/cut.py" 450]) ::
  fO (.type "function") (dfAt 11) "_law_column" "_law_column" 3 [] .none (vS "law_xl0015_01" 440) (.ref 208) .none ::
  oB (.type "tuple") (.seq #[]) ::
  oB (.none) (.fields #[]) ::
  oB (.type "tuple") (.seq #[vS "letter" 455, vS "number" 456, vS "kind" 457, vS "lead" 458, vS "marks" 459, vS "name" 460, vS "head" 461, vS "reply" 462]) ::
  oB (.type "tuple") (.seq #[]) ::
  fO .none (dfAt 12) "_law_job" "_law_job" 0 [] .none .none .none .none ::
  oB (.type "code") (.fields #[vS "_law_job" 452, vS "_law_job" 453, vS "/claim/cut.py" 454, .int 113 0, .int 2 0, .int 0 0, .int 0 0, .int 3 0, .ref 210, .bool true, .int 181 0, .ref 211, .none, .ref 212, .ref 213, .ref 214, .int 463 0, .int 113 0, vS "/claim/cut.py" 464]) ::
  fO (.type "function") (dfAt 12) "_law_job" "_law_job" 3 [] .none (vS "law_xl0015_01" 440) (.ref 215) .none ::
  oB (.type "tuple") (.seq #[]) ::
  oB (.none) (.fields #[]) ::
  oB (.type "tuple") (.seq #[vS "reply" 469, vS "refused" 470]) ::
  oB (.type "tuple") (.seq #[]) ::
  fO .none (dfAt 13) "_law_name" "_law_name" 0 [] .none .none .none .none ::
  oB (.type "code") (.fields #[vS "_law_name" 466, vS "_law_name" 467, vS "/claim/cut.py" 468, .int 121 0, .int 1 0, .int 0 0, .int 0 0, .int 3 0, .ref 217, .bool true, .int 181 0, .ref 218, .none, .ref 219, .ref 220, .ref 221, .int 471 0, .int 121 0, vS "/claim/cut.py" 472]) ::
  fO (.type "function") (dfAt 13) "_law_name" "_law_name" 3 [] .none (vS "law_xl0015_01" 440) (.ref 222) .none ::
  oB (.type "tuple") (.seq #[]) ::
  oB (.none) (.fields #[]) ::
  fO .none (dfAt 14) "_law_send" "_law_send" 0 [] .none .none .none .none ::
  oB (.type "code") (.fields #[vS "_law_send" 474, vS "_law_send" 475, vS "/claim/cut.py" 476, .int 126 0, .int 4 0, .int 0 0, .int 0 0, .int 3 0, .ref 224, .bool true, .int 181 0, .ref 225, .none, .none, .none, .ref 226, .int 477 0, .int 126 0, vS "/claim/cut.py" 478]) ::
  fO (.type "function") (dfAt 14) "_law_send" "_law_send" 3 [] .none (vS "law_xl0015_01" 440) (.ref 227) .none ::
  oB (.type "tuple") (.seq #[]) ::
  oB (.none) (.fields #[]) ::
  fO .none (dfAt 15) "law" "law" 0 [] .none .none .none .none ::
  oB (.type "code") (.fields #[vS "law" 480, vS "law" 481, vS "/claim/cut.py" 482, .int 138 0, .int 1 0, .int 0 0, .int 0 0, .int 3 0, .ref 229, .bool true, .int 181 0, .ref 230, .none, .none, .none, .ref 231, .int 483 0, .int 138 0, vS "/claim/cut.py" 484]) ::
  fO (.type "function") (dfAt 15) "law" "law" 3 [] .none (vS "law_xl0015_01" 440) (.ref 232) .none :: tl
noncomputable def o11 : Obj := oB (.type "tuple") (.seq #[])
noncomputable def o13 : Obj := oB (.type "code") (.fields #[vS "<module>" 182, vS "<module>" 183, vS "/claim/cut.py" 184, .int 1 0, .int 0 0, .int 0 0, .int 0 0, .int 0 0, .ref 11, .bool false, .int 181 0, .ref 12, .none, .none, .none, .none, .int 185 0, .int 1 0, vS "/claim/cut.py" 186])
noncomputable def o14 : Obj := { cls := .type "frame", slots := #[some (.ref 13), some (.ref 3), some (.ref 3), none, some (vS "__main__" 164), none, some (.ref 0)] }
noncomputable def o2_0 (P : Params) : Obj := oB (.none) (.dict #[])
noncomputable def o3_0 (P : Params) : Obj := oB (.type "dict") (.dict #[dE P "__name__" 165 (vS "__main__" 164), dE P "__doc__" 166 .none, dE P "__package__" 167 .none, dE P "__loader__" 168 (.builtin "__main__.__loader__#opaque"), dE P "__spec__" 169 .none, dE P "__annotations__" 170 (.ref 6), dE P "__builtins__" 171 (.ref 4), dE P "__file__" 173 (vS "/claim/cut.py" 172), dE P "__cached__" 174 .none] 9)
noncomputable def o12_0 (P : Params) : Obj := oB (.none) (.fields #[])
noncomputable def o2_1 (P : Params) : Obj := oB (.none) (.dict #[])
noncomputable def o3_1 (P : Params) : Obj := oB (.type "dict") (.dict #[dE P "__name__" 165 (vS "cpy313.email.header" 194), dE P "__doc__" 166 .none, dE P "__package__" 167 .none, dE P "__loader__" 168 (.builtin "__main__.__loader__#opaque"), dE P "__spec__" 169 .none, dE P "__annotations__" 170 (.ref 6), dE P "__builtins__" 171 (.ref 4), dE P "__file__" 173 (vS "/claim/cut.py" 172), dE P "__cached__" 174 .none, dE P "_wall" 193 (.ref 21), dE P "EMPTYSTRING" 197 (vS "" 196), dE P "_Accumulator" 292 (.ref 100)] 12)
noncomputable def o12_1 (P : Params) : Obj := oB (.none) (.fields #[.int 1 0, .int 0 0, .ref 20, .int 6 0, .int 0 0, .ref 28])
noncomputable def o2_2 (P : Params) : Obj := oB (.none) (.dict #[dE P "type.__subclasses__.Exception.0" 311 (.int 114 0), dE P "type.__subclasses__.Exception.n" 312 (.int 1 0)] 2)
noncomputable def o3_2 (P : Params) : Obj := oB (.type "dict") (.dict #[dE P "__name__" 165 (vS "cpy313.ftplib" 293), dE P "__doc__" 166 .none, dE P "__package__" 167 .none, dE P "__loader__" 168 (.builtin "__main__.__loader__#opaque"), dE P "__spec__" 169 .none, dE P "__annotations__" 170 (.ref 6), dE P "__builtins__" 171 (.ref 4), dE P "__file__" 173 (vS "/claim/cut.py" 172), dE P "__cached__" 174 .none, dE P "_wall" 193 (.ref 21), dE P "EMPTYSTRING" 197 (vS "" 196), dE P "_Accumulator" 292 (.ref 100), dE P "Error" 314 (.ref 114)] 13)
noncomputable def o12_2 (P : Params) : Obj := oB (.none) (.fields #[.int 1 0, .int 0 0, .ref 20, .int 6 0, .int 0 0, .ref 28, .int 38 0, .int 0 0, .ref 110])
noncomputable def o2_3 (P : Params) : Obj := oB (.none) (.dict #[dE P "type.__subclasses__.Exception.0" 311 (.int 114 0), dE P "type.__subclasses__.Exception.n" 312 (.int 1 0)] 2)
noncomputable def o3_3 (P : Params) : Obj := oB (.type "dict") (.dict #[dE P "__name__" 165 (vS "cpy313.tabnanny" 342), dE P "__doc__" 166 .none, dE P "__package__" 167 .none, dE P "__loader__" 168 (.builtin "__main__.__loader__#opaque"), dE P "__spec__" 169 .none, dE P "__annotations__" 170 (.ref 6), dE P "__builtins__" 171 (.ref 4), dE P "__file__" 173 (vS "/claim/cut.py" 172), dE P "__cached__" 174 .none, dE P "_wall" 193 (.ref 21), dE P "EMPTYSTRING" 197 (vS "" 196), dE P "_Accumulator" 292 (.ref 100), dE P "Error" 314 (.ref 114), dE P "error_reply" 330 (.ref 127), dE P "parse257" 341 (.ref 136)] 15)
noncomputable def o12_3 (P : Params) : Obj := oB (.none) (.fields #[.int 1 0, .int 0 0, .ref 20, .int 6 0, .int 0 0, .ref 28, .int 38 0, .int 0 0, .ref 110, .int 40 0, .int 0 0, .ref 123, .int 42 0, .int 0 0, .ref 135])
noncomputable def o2_4 (P : Params) : Obj := oB (.none) (.dict #[dE P "type.__subclasses__.Exception.0" 311 (.int 114 0), dE P "type.__subclasses__.Exception.n" 312 (.int 1 0)] 2)
noncomputable def o3_4 (P : Params) : Obj := oB (.type "dict") (.dict #[dE P "__name__" 165 (vS "cpy313.tabnanny" 342), dE P "__doc__" 166 .none, dE P "__package__" 167 .none, dE P "__loader__" 168 (.builtin "__main__.__loader__#opaque"), dE P "__spec__" 169 .none, dE P "__annotations__" 170 (.ref 6), dE P "__builtins__" 171 (.ref 4), dE P "__file__" 173 (vS "/claim/cut.py" 172), dE P "__cached__" 174 .none, dE P "_wall" 193 (.ref 21), dE P "EMPTYSTRING" 197 (vS "" 196), dE P "_Accumulator" 292 (.ref 100), dE P "Error" 314 (.ref 114), dE P "error_reply" 330 (.ref 127), dE P "parse257" 341 (.ref 136), dE P "Whitespace" 439 (.ref 198)] 16)
noncomputable def o12_4 (P : Params) : Obj := oB (.none) (.fields #[.int 1 0, .int 0 0, .ref 20, .int 6 0, .int 0 0, .ref 28, .int 38 0, .int 0 0, .ref 110, .int 40 0, .int 0 0, .ref 123, .int 42 0, .int 0 0, .ref 135, .int 60 0, .int 0 0, .ref 142])
noncomputable def o2_5 (P : Params) : Obj := oB (.none) (.dict #[dE P "type.__subclasses__.Exception.0" 311 (.int 114 0), dE P "type.__subclasses__.Exception.n" 312 (.int 1 0)] 2)
noncomputable def o3_5 (P : Params) : Obj := oB (.type "dict") (.dict #[dE P "__name__" 165 (vS "law_xl0015_01" 440), dE P "__doc__" 166 .none, dE P "__package__" 167 .none, dE P "__loader__" 168 (.builtin "__main__.__loader__#opaque"), dE P "__spec__" 169 .none, dE P "__annotations__" 170 (.ref 6), dE P "__builtins__" 171 (.ref 4), dE P "__file__" 173 (vS "/claim/cut.py" 172), dE P "__cached__" 174 .none, dE P "_wall" 193 (.ref 21), dE P "EMPTYSTRING" 197 (vS "" 196), dE P "_Accumulator" 292 (.ref 100), dE P "Error" 314 (.ref 114), dE P "error_reply" 330 (.ref 127), dE P "parse257" 341 (.ref 136), dE P "Whitespace" 439 (.ref 198), dE P "_law_column" 451 (.ref 209), dE P "_law_job" 465 (.ref 216), dE P "_law_name" 473 (.ref 223), dE P "_law_send" 479 (.ref 228), dE P "law" 485 (.ref 233)] 21)
noncomputable def o12_5 (P : Params) : Obj := oB (.none) (.fields #[.int 1 0, .int 0 0, .ref 20, .int 6 0, .int 0 0, .ref 28, .int 38 0, .int 0 0, .ref 110, .int 40 0, .int 0 0, .ref 123, .int 42 0, .int 0 0, .ref 135, .int 60 0, .int 0 0, .ref 142, .int 108 0, .int 0 0, .ref 208, .int 113 0, .int 0 0, .ref 215, .int 121 0, .int 0 0, .ref 222, .int 126 0, .int 0 0, .ref 227, .int 138 0, .int 0 0, .ref 232])
noncomputable def lay (c d f : Obj) (P : Params) (tl : List Obj) : Heap := { objs := ⟨boot_o_0 P :: boot_o_1 P :: c :: d :: boot_o_4 P :: boot_o_5 P :: boot_o_6 P :: boot_o_7 P :: boot_o_8 P :: boot_o_9 P :: boot_o_10 P :: o11 :: f :: o13 :: o14 :: tl⟩ }
noncomputable def o114_2 : Obj := { cls := .type "type", data := .cls { name := sO "Error", bases := [.type "Exception"], mro := [.ref 114, .type "Exception", .type "BaseException", .type "object"], ns := 113, qualname := sO "Error" }, slots := #[some (.ref 105), none, some (vS "Error" 295), some (vS "Error" 303), some (.builtin "Exception.__new__"), some (.bool true)] }
noncomputable def o114_3 : Obj := { cls := .type "type", data := .cls { name := sO "Error", bases := [.type "Exception"], mro := [.ref 114, .type "Exception", .type "BaseException", .type "object"], ns := 113, qualname := sO "Error", subclasses := [.ref 127] }, slots := #[some (.ref 105), none, some (vS "Error" 295), some (vS "Error" 303), some (.builtin "Exception.__new__"), some (.bool true)] }
noncomputable def hp0 (P : Params) : Heap := lay (o2_0 P) (o3_0 P) (o12_0 P) P []
noncomputable def hp1 (P : Params) : Heap := lay (o2_1 P) (o3_1 P) (o12_1 P) P (seg1 P [])
noncomputable def hp2 (P : Params) : Heap := lay (o2_2 P) (o3_2 P) (o12_2 P) P (seg1 P (seg2 P o114_2 []))
noncomputable def hp3 (P : Params) : Heap := lay (o2_3 P) (o3_3 P) (o12_3 P) P (seg1 P (seg2 P o114_3 (seg3 P [])))
noncomputable def hp4 (P : Params) : Heap := lay (o2_4 P) (o3_4 P) (o12_4 P) P (seg1 P (seg2 P o114_3 (seg3 P (seg4 P []))))
noncomputable def hp5 (P : Params) : Heap := lay (o2_5 P) (o3_5 P) (o12_5 P) P (seg1 P (seg2 P o114_3 (seg3 P (seg4 P (seg5 P [])))))
end Mine
end

section
open PySem PySem.W PyProof.Rows PySem.Calls PySem.Spec
set_option Elab.async false
set_option linter.unusedVariables false
set_option maxRecDepth 100000
namespace Mine

noncomputable def cellIs (K : Frag) (a : Addr) : Option Value := match K.lookup a with
  | some ⟨_, _, .cell v, _⟩ => v
  | _ => none
noncomputable def strV : Option (Option Value) → Str → Bool
  | some (some (.str x _)), y => x == y
  | _, _ => false
theorem strV_get {r : Option (Option Value)} {y : Str} (h : strV r y = true) : ∃ t, r = some (some (.str y t)) := by
  unfold strV at h
  split at h
  · exact ⟨_, by rw [beq_iff_eq.mp h]⟩
  · cases h
noncomputable def strC : Option CFound → Str → Bool
  | some (.val (.str x _)), y => x == y
  | _, _ => false
theorem strC_get {r : Option CFound} {y : Str} (h : strC r y = true) : ∃ t, r = some (.val (.str y t)) := by
  unfold strC at h
  split at h
  · exact ⟨_, by rw [beq_iff_eq.mp h]⟩
  · cases h
theorem six {α : Type} {l : List α} {d : α} (h : l.length = 6) : l = [l.getD 0 d, l.getD 1 d, l.getD 2 d, l.getD 3 d, l.getD 4 d, l.getD 5 d] := by
  obtain ⟨a, l, rfl⟩ := List.exists_cons_of_length_eq_add_one h
  obtain ⟨b, l, rfl⟩ := List.exists_cons_of_length_eq_add_one (Nat.succ.inj h)
  obtain ⟨e, l, rfl⟩ := List.exists_cons_of_length_eq_add_one (Nat.succ.inj (Nat.succ.inj h))
  obtain ⟨f, l, rfl⟩ := List.exists_cons_of_length_eq_add_one (Nat.succ.inj (Nat.succ.inj (Nat.succ.inj h)))
  obtain ⟨g, l, rfl⟩ := List.exists_cons_of_length_eq_add_one (Nat.succ.inj (Nat.succ.inj (Nat.succ.inj (Nat.succ.inj h))))
  obtain ⟨i, l, rfl⟩ := List.exists_cons_of_length_eq_add_one (Nat.succ.inj (Nat.succ.inj (Nat.succ.inj (Nat.succ.inj (Nat.succ.inj h)))))
  have := List.length_eq_zero_iff.mp (Nat.succ.inj (Nat.succ.inj (Nat.succ.inj (Nat.succ.inj (Nat.succ.inj (Nat.succ.inj h))))))
  subst this
  rfl
noncomputable def fragL : Nat → List Obj → Frag
  | _, [] => []
  | n, o :: l => (n, o) :: fragL (n + 1) l
noncomputable def kf (P : Params) : Frag := cut (fragL 0 (hp5 P).objs.toList)
/-- the objects behind the top, without the two code tables that grow -/
noncomputable def KF (K : Frag) : Prop := ∃ P, K = kf P
section
variable {K : Frag} (y : KF K)
include y
theorem KF.a1 : (clsIn K 100).map (fun cd => (cd.hasDel, cd.mro, cd.hasDict)) = some (false, [.ref 100, .type "list", .type "object"], true) := by obtain ⟨P, rfl⟩ := y; kernel_rfl
theorem KF.a2 : ∀ S, peek K S (Bind.madeBy (.ref 100)) = some (some "list.__new__") := by obtain ⟨P, rfl⟩ := y; intro S; kernel_rfl
theorem KF.a3 : ∀ S v, peek K S (checkBuiltinCall "list.__new__" ⟨[.ref 100, v], []⟩) = some () := by
  obtain ⟨P, rfl⟩ := y
  intro S v
  rw [PySem.W.Fast.te10254737850608025244, PySem.W.SL.e896114127876100448x12]
  kernel_rfl
theorem KF.a4 : ∀ S, peek K S (isType (.ref 100)) = some true := by obtain ⟨P, rfl⟩ := y; intro S; kernel_rfl
theorem KF.a5 : mroIn K 100 (.type "list") = some true := by obtain ⟨P, rfl⟩ := y; kernel_rfl
theorem KF.a6 : mroIn K 100 (.ref 100) = some true := by obtain ⟨P, rfl⟩ := y; kernel_rfl
theorem KF.a7 : specialIn K (.ref 100) "__call__" = some (some (.builtin "type.__call__")) := by obtain ⟨P, rfl⟩ := y; kernel_rfl
theorem KF.a8 : instIn K (.ref 100) (.type "type") = some true := by obtain ⟨P, rfl⟩ := y; kernel_rfl
theorem KF.a9 : findIn K (.ref 100) "__init__" = some (some (.ref 38)) := by obtain ⟨P, rfl⟩ := y; kernel_rfl
theorem KF.a10 : typeIn K (.ref 38) = some (.type "function") := by obtain ⟨P, rfl⟩ := y; kernel_rfl
theorem KF.a11 : keepIn K (.ref 100) = true := by obtain ⟨P, rfl⟩ := y; kernel_rfl
theorem KF.a12 : findIn K (.ref 100) "__getattribute__" = some (some (.builtin "list.__getattribute__")) := by obtain ⟨P, rfl⟩ := y; kernel_rfl
theorem KF.a13 : findIn K (.ref 100) "__getattr__" = some none := by obtain ⟨P, rfl⟩ := y; kernel_rfl
theorem KF.a14 : findIn K (.ref 100) "__setattr__" = some (some (.builtin "object.__setattr__")) := by obtain ⟨P, rfl⟩ := y; kernel_rfl
theorem KF.a15 : mroIn K 100 (.type "object") = some true := by obtain ⟨P, rfl⟩ := y; kernel_rfl
theorem KF.b1 : noSeq K 100 = true := by obtain ⟨P, rfl⟩ := y; kernel_rfl
theorem KF.b2 : findIn K (.ref 100) "__getitem__" = some (some (.builtin "list.__getitem__")) := by obtain ⟨P, rfl⟩ := y; kernel_rfl
theorem KF.b3 : findIn K (.ref 100) "__setitem__" = some (some (.builtin "list.__setitem__")) := by obtain ⟨P, rfl⟩ := y; kernel_rfl
theorem KF.b4 : findIn K (.ref 100) "__iter__" = some (some (.builtin "list.__iter__")) := by obtain ⟨P, rfl⟩ := y; kernel_rfl
theorem KF.c1 : cellIs K 25 = some (.ref 100) := by obtain ⟨P, rfl⟩ := y; kernel_rfl
theorem KF.c2 : nsIn K cStatics "thirdparty.any" = some none := by obtain ⟨P, rfl⟩ := y; kernel_rfl
theorem KF.c3 : alongIn K "__len__" [.type "list", .type "object"] = some (some (.builtin "list.__len__")) := by obtain ⟨P, rfl⟩ := y; kernel_rfl
theorem KF.c4 : alongIn K "__init__" [.type "list", .type "object"] = some (some (.builtin "list.__init__")) := by obtain ⟨P, rfl⟩ := y; kernel_rfl
theorem KF.s38 : SigIs K 38 dAccInit (.ref 30) [(("__class__" : Str), (25 : Addr))] := by obtain ⟨P, rfl⟩ := y; kernel_rfl
theorem KF.f38 : (fdAt K 38).bind (fun fd => fileAt K fd.code) = some true := by obtain ⟨P, rfl⟩ := y; kernel_rfl
theorem KF.s97 : SigIs K 97 dPart .none [(("__class__" : Str), (25 : Addr))] := by obtain ⟨P, rfl⟩ := y; kernel_rfl
theorem KF.f97 : (fdAt K 97).bind (fun fd => fileAt K fd.code) = some true := by obtain ⟨P, rfl⟩ := y; kernel_rfl
theorem KF.s45 : SigIs K 45 dPush .none [] := by obtain ⟨P, rfl⟩ := y; kernel_rfl
theorem KF.s53 : SigIs K 53 dPopFrom (.ref 46) [] := by obtain ⟨P, rfl⟩ := y; kernel_rfl
theorem KF.s67 : SigIs K 67 dLen .none [] := by obtain ⟨P, rfl⟩ := y; kernel_rfl
theorem KF.s74 : SigIs K 74 dStr .none [] := by obtain ⟨P, rfl⟩ := y; kernel_rfl
theorem KF.s136 : SigIs K 136 dParse .none [] := by obtain ⟨P, rfl⟩ := y; kernel_rfl
theorem KF.s153 : SigIs K 153 dWsInit .none [] := by obtain ⟨P, rfl⟩ := y; kernel_rfl
theorem KF.s167 : SigIs K 167 dIndent .none [] := by obtain ⟨P, rfl⟩ := y; kernel_rfl
theorem KF.s209 : SigIs K 209 dColumn .none [] := by obtain ⟨P, rfl⟩ := y; kernel_rfl
theorem KF.s216 : SigIs K 216 dJob .none [] := by obtain ⟨P, rfl⟩ := y; kernel_rfl
theorem KF.s223 : SigIs K 223 dName .none [] := by obtain ⟨P, rfl⟩ := y; kernel_rfl
theorem KF.s228 : SigIs K 228 dSend .none [] := by obtain ⟨P, rfl⟩ := y; kernel_rfl
theorem KF.s233 : SigIs K 233 dLaw .none [] := by obtain ⟨P, rfl⟩ := y; kernel_rfl
theorem KF.k67 : (fdAt K 67).map (·.code) = some (.ref 66) := by obtain ⟨P, rfl⟩ := y; kernel_rfl
theorem KF.k74 : (fdAt K 74).map (·.code) = some (.ref 73) := by obtain ⟨P, rfl⟩ := y; kernel_rfl
theorem KF.z30 : zeroAt K 30 = true := by obtain ⟨P, rfl⟩ := y; kernel_rfl
theorem KF.z46 : zeroAt K 46 = true := by obtain ⟨P, rfl⟩ := y; kernel_rfl
theorem KF.l1 : findIn K (.ref 100) "push" = some (some (.ref 45)) := by obtain ⟨P, rfl⟩ := y; kernel_rfl
theorem KF.l2 : findIn K (.ref 100) "pop_from" = some (some (.ref 53)) := by obtain ⟨P, rfl⟩ := y; kernel_rfl
theorem KF.l3 : findIn K (.ref 100) "part_count" = some (some (.ref 97)) := by obtain ⟨P, rfl⟩ := y; kernel_rfl
theorem KF.l4 : findIn K (.ref 100) "append" = some (some (.builtin "list.append")) := by obtain ⟨P, rfl⟩ := y; kernel_rfl
theorem KF.l5 : findIn K (.ref 100) "__len__" = some (some (.ref 67)) := by obtain ⟨P, rfl⟩ := y; kernel_rfl
theorem KF.l6 : findIn K (.ref 100) "__str__" = some (some (.ref 74)) := by obtain ⟨P, rfl⟩ := y; kernel_rfl
theorem KF.l7 : findIn K (.ref 100) "_initial_size" = some none := by obtain ⟨P, rfl⟩ := y; kernel_rfl
theorem KF.t45 : typeIn K (.ref 45) = some (.type "function") := by obtain ⟨P, rfl⟩ := y; kernel_rfl
theorem KF.p45 : keepIn K (.ref 45) = true := by obtain ⟨P, rfl⟩ := y; kernel_rfl
theorem KF.t53 : typeIn K (.ref 53) = some (.type "function") := by obtain ⟨P, rfl⟩ := y; kernel_rfl
theorem KF.p53 : keepIn K (.ref 53) = true := by obtain ⟨P, rfl⟩ := y; kernel_rfl
theorem KF.t97 : typeIn K (.ref 97) = some (.type "function") := by obtain ⟨P, rfl⟩ := y; kernel_rfl
theorem KF.p97 : keepIn K (.ref 97) = true := by obtain ⟨P, rfl⟩ := y; kernel_rfl
theorem KF.t67 : typeIn K (.ref 67) = some (.type "function") := by obtain ⟨P, rfl⟩ := y; kernel_rfl
theorem KF.p67 : keepIn K (.ref 67) = true := by obtain ⟨P, rfl⟩ := y; kernel_rfl
theorem KF.t74 : typeIn K (.ref 74) = some (.type "function") := by obtain ⟨P, rfl⟩ := y; kernel_rfl
theorem KF.p74 : keepIn K (.ref 74) = true := by obtain ⟨P, rfl⟩ := y; kernel_rfl
theorem KF.l8 : isFn K (.ref 74) = true := by obtain ⟨P, rfl⟩ := y; kernel_rfl
theorem KF.l9 : takerIn K 100 "_initial_size" = some none := by obtain ⟨P, rfl⟩ := y; kernel_rfl
theorem KF.w1 : makesIn K 198 = true := by obtain ⟨P, rfl⟩ := y; kernel_rfl
theorem KF.w2 : findIn K (.ref 198) "__init__" = some (some (.ref 153)) := by obtain ⟨P, rfl⟩ := y; kernel_rfl
theorem KF.w3 : typeIn K (.ref 153) = some (.type "function") := by obtain ⟨P, rfl⟩ := y; kernel_rfl
theorem KF.w4 : findIn K (.ref 198) "__getattribute__" = some (some (.builtin "object.__getattribute__")) := by obtain ⟨P, rfl⟩ := y; kernel_rfl
theorem KF.w5 : findIn K (.ref 198) "__getattr__" = some none := by obtain ⟨P, rfl⟩ := y; kernel_rfl
theorem KF.w6 : findIn K (.ref 198) "__setattr__" = some (some (.builtin "object.__setattr__")) := by obtain ⟨P, rfl⟩ := y; kernel_rfl
theorem KF.w7 : (clsIn K 198).map (fun cd => (cd.mro, cd.hasDict)) = some ([.ref 198, .type "object"], true) := by obtain ⟨P, rfl⟩ := y; kernel_rfl
theorem KF.w8 : mroIn K 198 (.type "object") = some true := by obtain ⟨P, rfl⟩ := y; kernel_rfl
theorem KF.w9 : findIn K (.ref 198) "indent_level" = some (some (.ref 167)) := by obtain ⟨P, rfl⟩ := y; kernel_rfl
theorem KF.w10 : typeIn K (.ref 167) = some (.type "function") := by obtain ⟨P, rfl⟩ := y; kernel_rfl
theorem KF.w11 : keepIn K (.ref 167) = true := by obtain ⟨P, rfl⟩ := y; kernel_rfl
theorem KF.w12 : keepIn K (.ref 198) = true := by obtain ⟨P, rfl⟩ := y; kernel_rfl
theorem KF.w13 : readsIn K 198 (.type "type") = true := by obtain ⟨P, rfl⟩ := y; kernel_rfl
theorem KF.wt0 : takerIn K 198 "raw" = some none := by obtain ⟨P, rfl⟩ := y; kernel_rfl
theorem KF.wt1 : takerIn K 198 "n" = some none := by obtain ⟨P, rfl⟩ := y; kernel_rfl
theorem KF.wt2 : takerIn K 198 "nt" = some none := by obtain ⟨P, rfl⟩ := y; kernel_rfl
theorem KF.wt3 : takerIn K 198 "norm" = some none := by obtain ⟨P, rfl⟩ := y; kernel_rfl
theorem KF.wt4 : takerIn K 198 "is_simple" = some none := by obtain ⟨P, rfl⟩ := y; kernel_rfl
theorem KF.wf0 : findIn K (.ref 198) "raw" = some none := by obtain ⟨P, rfl⟩ := y; kernel_rfl
theorem KF.wf1 : findIn K (.ref 198) "norm" = some none := by obtain ⟨P, rfl⟩ := y; kernel_rfl
theorem KF.wf2 : findIn K (.ref 198) "nt" = some none := by obtain ⟨P, rfl⟩ := y; kernel_rfl
theorem KF.e6 : findIn K (.ref 127) "__str__" = some (some (.builtin "BaseException.__str__")) := by obtain ⟨P, rfl⟩ := y; kernel_rfl
theorem KF.q228 : keepIn K (.ref 228) = true := by obtain ⟨P, rfl⟩ := y; kernel_rfl
theorem KF.q216 : keepIn K (.ref 216) = true := by obtain ⟨P, rfl⟩ := y; kernel_rfl
theorem KF.q223 : keepIn K (.ref 223) = true := by obtain ⟨P, rfl⟩ := y; kernel_rfl
theorem KF.q209 : keepIn K (.ref 209) = true := by obtain ⟨P, rfl⟩ := y; kernel_rfl
theorem KF.q136 : keepIn K (.ref 136) = true := by obtain ⟨P, rfl⟩ := y; kernel_rfl
theorem KF.g_Accumulator : nsIn K mainGlobals "_Accumulator" = some (some (.ref 100)) := by obtain ⟨P, rfl⟩ := y; kernel_rfl
theorem KF.g_law_send : nsIn K mainGlobals "_law_send" = some (some (.ref 228)) := by obtain ⟨P, rfl⟩ := y; kernel_rfl
theorem KF.g_law_job : nsIn K mainGlobals "_law_job" = some (some (.ref 216)) := by obtain ⟨P, rfl⟩ := y; kernel_rfl
theorem KF.g_law_name : nsIn K mainGlobals "_law_name" = some (some (.ref 223)) := by obtain ⟨P, rfl⟩ := y; kernel_rfl
theorem KF.g_law_column : nsIn K mainGlobals "_law_column" = some (some (.ref 209)) := by obtain ⟨P, rfl⟩ := y; kernel_rfl
theorem KF.g_Whitespace : nsIn K mainGlobals "Whitespace" = some (some (.ref 198)) := by obtain ⟨P, rfl⟩ := y; kernel_rfl
theorem KF.g_error_reply : nsIn K mainGlobals "error_reply" = some (some (.ref 127)) := by obtain ⟨P, rfl⟩ := y; kernel_rfl
theorem KF.g_parse257 : nsIn K mainGlobals "parse257" = some (some (.ref 136)) := by obtain ⟨P, rfl⟩ := y; kernel_rfl
theorem KF.n_sum : nsIn K mainGlobals "sum" = some none := by obtain ⟨P, rfl⟩ := y; kernel_rfl
theorem KF.m_sum : nsIn K builtinsNs "sum" = some (some (.builtin "sum")) := by obtain ⟨P, rfl⟩ := y; kernel_rfl
theorem KF.n_sorted : nsIn K mainGlobals "sorted" = some none := by obtain ⟨P, rfl⟩ := y; kernel_rfl
theorem KF.m_sorted : nsIn K builtinsNs "sorted" = some (some (.builtin "sorted")) := by obtain ⟨P, rfl⟩ := y; kernel_rfl
theorem KF.n_len : nsIn K mainGlobals "len" = some none := by obtain ⟨P, rfl⟩ := y; kernel_rfl
theorem KF.m_len : nsIn K builtinsNs "len" = some (some (.builtin "len")) := by obtain ⟨P, rfl⟩ := y; kernel_rfl
theorem KF.n_max : nsIn K mainGlobals "max" = some none := by obtain ⟨P, rfl⟩ := y; kernel_rfl
theorem KF.m_max : nsIn K builtinsNs "max" = some (some (.builtin "max")) := by obtain ⟨P, rfl⟩ := y; kernel_rfl
theorem KF.n_min : nsIn K mainGlobals "min" = some none := by obtain ⟨P, rfl⟩ := y; kernel_rfl
theorem KF.m_min : nsIn K builtinsNs "min" = some (some (.builtin "min")) := by obtain ⟨P, rfl⟩ := y; kernel_rfl
theorem KF.n_enumerate : nsIn K mainGlobals "enumerate" = some none := by obtain ⟨P, rfl⟩ := y; kernel_rfl
theorem KF.m_enumerate : nsIn K builtinsNs "enumerate" = some (some (.type "enumerate")) := by obtain ⟨P, rfl⟩ := y; kernel_rfl
theorem KF.n_range : nsIn K mainGlobals "range" = some none := by obtain ⟨P, rfl⟩ := y; kernel_rfl
theorem KF.m_range : nsIn K builtinsNs "range" = some (some (.type "range")) := by obtain ⟨P, rfl⟩ := y; kernel_rfl
theorem KF.n_str : nsIn K mainGlobals "str" = some none := by obtain ⟨P, rfl⟩ := y; kernel_rfl
theorem KF.m_str : nsIn K builtinsNs "str" = some (some (.type "str")) := by obtain ⟨P, rfl⟩ := y; kernel_rfl
theorem KF.n_tuple : nsIn K mainGlobals "tuple" = some none := by obtain ⟨P, rfl⟩ := y; kernel_rfl
theorem KF.m_tuple : nsIn K builtinsNs "tuple" = some (some (.type "tuple")) := by obtain ⟨P, rfl⟩ := y; kernel_rfl
theorem KF.n_super : nsIn K mainGlobals "super" = some none := by obtain ⟨P, rfl⟩ := y; kernel_rfl
theorem KF.m_super : nsIn K builtinsNs "super" = some (some (.type "super")) := by obtain ⟨P, rfl⟩ := y; kernel_rfl
theorem KF.g_law : nsIn K mainGlobals "law" = some (some (.ref 233)) := by obtain ⟨P, rfl⟩ := y; kernel_rfl
theorem KF.w14 : strC (findCls K (.ref 198) (.type "type") "S") (tx [32]) = true := by obtain ⟨P, rfl⟩ := y; kernel_rfl
theorem KF.w15 : strC (findCls K (.ref 198) (.type "type") "T") (tx [9]) = true := by obtain ⟨P, rfl⟩ := y; kernel_rfl
theorem KF.emp : strV (nsIn K mainGlobals "EMPTYSTRING") "" = true := by obtain ⟨P, rfl⟩ := y; kernel_rfl
theorem KF.e1 : (clsIn K 127).map (fun cd => (cd.mro, cd.hasDel)) = some ([.ref 127, .ref 114, .type "Exception", .type "BaseException", .type "object"], false) := by obtain ⟨P, rfl⟩ := y; kernel_rfl
theorem KF.e2 : typeIn K (.ref 127) = some (.type "type") := by obtain ⟨P, rfl⟩ := y; kernel_rfl
theorem KF.e3 : (K.lookup 127).map (fun o => (o.slots.size, o.slots.getD 4 none)) = some (6, some (.builtin "Exception.__new__")) := by obtain ⟨P, rfl⟩ := y; kernel_rfl
theorem KF.e4 : (clsIn K 127).map (fun cd => dictOk K cd.ns quietNames) = some true := by obtain ⟨P, rfl⟩ := y; kernel_rfl
theorem KF.e5 : (clsIn K 114).map (fun cd => dictOk K cd.ns quietNames) = some true := by obtain ⟨P, rfl⟩ := y; kernel_rfl
end
theorem refuse100 (self : Value) : refuseLoop self "__setattr__" [.ref 100, .type "list", .type "object"] = pure () := by kernel_rfl
theorem refuse198 (self : Value) : refuseLoop self "__setattr__" [.ref 198, .type "object"] = pure () := by kernel_rfl
theorem typ_len : typeOf (.builtin "list.__len__") = pure (.type "wrapper_descriptor") := by kernel_rfl
theorem typ_init : typeOf (.builtin "list.__init__") = pure (.type "wrapper_descriptor") := by kernel_rfl
theorem top_super : (pg.main.scope.names.lookup ("super" : Str)).isSome = false := by kernel_rfl
theorem can_list : (Manifest.canonical "list.__getattribute__" != "object.__getattribute__") = false := by decide +kernel
theorem can_obj : (Manifest.canonical "object.__getattribute__" != "object.__getattribute__") = false := by decide +kernel

section
variable {c : Cx} (k : KF c.K)
include k
theorem KF.mgR {x : Str} {v : Value} (e : nsIn c.K mainGlobals x = some (some v)) : c.mg x = some v := mg_of c.kin c.g e
theorem KF.glob {x : Str} {v : Value} {sc : Scope} (e : nsIn c.K mainGlobals x = some (some v)) (h : sc.names.lookup x = some .globalImplicit) (hd : (x == ("__debug__" : Str)) = false) : GlobIs c sc x v := ⟨h, .inl (k.mgR e), hd⟩
theorem KF.globB {x : Str} {v : Value} {sc : Scope} (e : nsIn c.K mainGlobals x = some none) (e2 : nsIn c.K builtinsNs x = some (some v)) (h : sc.names.lookup x = some .globalImplicit) (hd : (x == ("__debug__" : Str)) = false) : GlobIs c sc x v := ⟨h, .inr ⟨mg_of c.kin c.g e, mg_of c.kin c.b e2⟩, hd⟩
theorem KF.cls100 : ∃ cd, clsIn c.K 100 = some cd ∧ cd.hasDel = false ∧ cd.mro = [.ref 100, .type "list", .type "object"] ∧ cd.hasDict = true := by
  obtain ⟨cd, e1, e2⟩ := Option.map_eq_some_iff.mp k.a1
  simp only [Prod.mk.injEq] at e2
  exact ⟨cd, e1, e2.1, e2.2.1, e2.2.2⟩
theorem KF.ok100 : ClsOk c 100 "list.__getattribute__" where
  hga := k.a12
  hcan := can_list
  hk := k.a13
  hs := k.a14
  cd := by
    obtain ⟨cd, e1, e2, e3, e4⟩ := k.cls100
    exact ⟨cd, e1, fun self => by rw [e3]; exact refuse100 self, e4⟩
  obj := k.a15
  lst := .inr ⟨rfl, k.a5⟩
theorem KF.ok198 : ClsOk c 198 "object.__getattribute__" where
  hga := k.w4
  hcan := can_obj
  hk := k.w5
  hs := k.w6
  cd := by
    obtain ⟨cd, e1, e2⟩ := Option.map_eq_some_iff.mp k.w7
    simp only [Prod.mk.injEq] at e2
    exact ⟨cd, e1, fun self => by rw [e2.1]; exact refuse198 self, e2.2⟩
  obj := k.w8
  lst := .inl rfl
theorem KF.acc : AccFacts c where
  obj := by
    obtain ⟨cd, e1, e2, e3, e4⟩ := k.cls100
    obtain ⟨oc, od, sl, e⟩ := clsIn_some e1
    exact ⟨oc, od, cd, sl, e, e2, e3⟩
  made := k.a2
  newOk := k.a3
  isT := k.a4
  sub := k.a5
  self := k.a6
  call := k.a7
  typ := k.a8
  init := k.a9
  initF := k.a10
  ok := k.ok100
  clsK := k.a11
theorem KF.sub : SubFacts c := ⟨k.b1, k.b2, k.b3, k.b4⟩
theorem KF.sup : SupFacts c where
  cd := by
    obtain ⟨cd, e1, e2, e3, e4⟩ := k.cls100
    exact ⟨cd, e1, e3⟩
  obj := by
    obtain ⟨cd, e1, e2, e3, e4⟩ := k.cls100
    obtain ⟨oc, od, sl, e⟩ := clsIn_some e1
    exact ⟨_, _, e, rfl⟩
  self := k.a6
  cell := by
    have h := k.c1
    unfold cellIs at h
    split at h
    · rename_i cl cd v sl e
      subst h
      exact ⟨cl, cd, sl, e⟩
    · cases h
  noOpq := k.c2
  sup := ⟨mg_of c.kin c.g k.n_super, mg_of c.kin c.b k.m_super⟩
  top := top_super
  len := k.c3
  init := k.c4
  lenT := typ_len
  initT := typ_init
theorem KF.exc : ExcFacts c := by
  refine ⟨?_, k.e6, k.mgR k.g_error_reply⟩
  obtain ⟨cd, c1, c2⟩ := Option.map_eq_some_iff.mp k.e1
  obtain ⟨o3, d1, d2⟩ := Option.map_eq_some_iff.mp k.e3
  have e2 : (c.K.lookup 127).map (·.cls) = some (.type "type") := k.e2
  have e4 := k.e4
  obtain ⟨cd', f1, f2⟩ := Option.map_eq_some_iff.mp k.e5
  rw [c1] at e4
  obtain ⟨m1, q1, n1⟩ := dictOk_get (Option.some.inj e4)
  obtain ⟨m2, q2, n2⟩ := dictOk_get f2
  obtain ⟨oc, od, sl, e⟩ := clsIn_some c1
  obtain ⟨oc', od', sl', e'⟩ := clsIn_some f1
  rw [e] at d1 e2
  cases d1
  have hoc : oc = .type "type" := Option.some.inj e2
  obtain ⟨d3, d4⟩ := Prod.mk.inj d2
  obtain ⟨c3, c4⟩ := Prod.mk.inj c2
  obtain ⟨nm, bs, mro, ns, qn, hdc, sn, sub, ab, col, hdel⟩ := cd
  have c3' : mro = _ := c3
  have c4' : hdel = false := c4
  subst c3' c4' hoc
  obtain ⟨l⟩ := sl
  have hl := six (d := none) (l := l) d3
  have d4' : l.getD 4 none = some (.builtin "Exception.__new__") := by simpa using d4
  rw [d4'] at hl
  rw [hl] at e
  exact ⟨_, ns, nm, qn, bs, hdc, sn, sub, ab, col, od, _, _, _, _, _, m1, q1, fun h X => ⟨X _ _ e, n1 h X, .own (X _ _ e') (n2 h X) q2 .base⟩⟩
theorem KF.line (G : GenFacts c) : LineFacts c where
  acc := k.acc
  sub := k.sub
  sup := k.sup
  gen := G
  d45 := k.s45.at
  d53 := k.s53.at
  t46 := zeroAt_get k.z46
  d67 := k.s67.gen k.k67
  d74 := k.s74.gen k.k74
  d97 := k.s97.sup k.f97 (by rfl)
  fPush := k.l1
  fPop := k.l2
  fPart := k.l3
  fApp := k.l4
  fLen := k.l5
  fStr := k.l6
  fIni := k.l7
  tys := by
    intro f hf
    simp only [List.mem_cons, List.not_mem_nil, or_false] at hf
    rcases hf with rfl | rfl | rfl | rfl | rfl
    · exact ⟨k.t45, k.p45⟩
    · exact ⟨k.t53, k.p53⟩
    · exact ⟨k.t97, k.p97⟩
    · exact ⟨k.t67, k.p67⟩
    · exact ⟨k.t74, k.p74⟩
  isStr := k.l8
  gSum := k.globB k.n_sum k.m_sum (by rfl) (by rfl)
  gLen := k.globB k.n_len k.m_len (by rfl) (by rfl)
  gEmp := let ⟨t, e⟩ := strV_get k.emp; ⟨t, k.glob e (by rfl) (by rfl), k.glob e (by rfl) (by rfl)⟩
theorem KF.ws : WsFacts c := ⟨k.w1, k.w2, k.w3, k.ok198, k.w9, k.w10, k.w11, k.w12⟩
theorem KF.law (G : GenFacts c) : LawFacts2 c where
  line := k.line G
  gSum := k.globB k.n_sum k.m_sum (by rfl) (by rfl)
  gEnum := k.globB k.n_enumerate k.m_enumerate (by rfl) (by rfl)
  gAcc := k.glob k.g_Accumulator (by rfl) (by rfl)
  gSorted := k.globB k.n_sorted k.m_sorted (by rfl) (by rfl)
  gRange := k.globB k.n_range k.m_range (by rfl) (by rfl)
  gLen := k.globB k.n_len k.m_len (by rfl) (by rfl)
  gSend := k.glob k.g_law_send (by rfl) (by rfl)
  gMax := k.globB k.n_max k.m_max (by rfl) (by rfl)
  gMin := k.globB k.n_min k.m_min (by rfl) (by rfl)
  gStr := k.globB k.n_str k.m_str (by rfl) (by rfl)
  kSend := k.q228
  d228 := k.s228.at
  sLen := k.globB k.n_len k.m_len (by rfl) (by rfl)
  sMax := k.globB k.n_max k.m_max (by rfl) (by rfl)
  vJob := k.mgR k.g_law_job
  vName := k.mgR k.g_law_name
  vCol := k.mgR k.g_law_column
  vWs := k.mgR k.g_Whitespace
  kJob := k.q216
  kName := k.q223
  kCol := k.q209
  kParse := k.q136
  d209 := k.s209.at
  d216 := k.s216.at
  d223 := k.s223.at
  d136 := k.s136.at
  d153 := k.s153.at
  d167 := k.s167.at
  d38 := k.s38.sup k.f38 (by rfl)
  t30 := zeroAt_get k.z30
  tIni := k.l9
  ws := k.ws
  exc := k.exc
  pLen := k.globB k.n_len k.m_len (by rfl) (by rfl)
  pErr := k.glob k.g_error_reply (by rfl) (by rfl)
  nParse := k.glob k.g_parse257 (by rfl) (by rfl)
  nErr := k.glob k.g_error_reply (by rfl) (by rfl)
  nStr := k.globB k.n_str k.m_str (by rfl) (by rfl)
  iRange := k.globB k.n_range k.m_range (by rfl) (by rfl)
  iLen := k.globB k.n_len k.m_len (by rfl) (by rfl)
  wLen := k.globB k.n_len k.m_len (by rfl) (by rfl)
  wTup := k.globB k.n_tuple k.m_tuple (by rfl) (by rfl)
  wWs := k.glob k.g_Whitespace (by rfl) (by rfl)
  wR := k.w13
  wS := strC_get k.w14
  wT := strC_get k.w15
  wt := ⟨k.wt0, k.wt1, k.wt2, k.wt3, k.wt4⟩
  wf := ⟨k.wf0, k.wf1, k.wf2⟩
end
end Mine
end

section
open PySem PySem.W PyProof.Rows PySem.Calls PySem.Spec
set_option Elab.async false
set_option linter.unusedVariables false
set_option maxRecDepth 100000
namespace Mine

/-! ## the state before the call -/
noncomputable def vStr : Value → Bool
  | .str _ _ => true
  | _ => false
noncomputable def vInt : Value → Bool
  | .int _ _ => true
  | _ => false
noncomputable def vBool : Value → Bool
  | .bool _ => true
  | _ => false
theorem vStr_get {v : Value} (h : vStr v = true) : ∃ x t, v = .str x t := by cases v <;> first | (cases h; done) | exact ⟨_, _, rfl⟩
theorem vInt_get {v : Value} (h : vInt v = true) : ∃ x t, v = .int x t := by cases v <;> first | (cases h; done) | exact ⟨_, _, rfl⟩
theorem vBool_get {v : Value} (h : vBool v = true) : ∃ x, v = .bool x := by cases v <;> first | (cases h; done) | exact ⟨_, rfl⟩
noncomputable def fldOf : Data → Option (Array Value)
  | .fields vs => some vs
  | _ => none
theorem fldOf_some {d : Data} {vs : Array Value} (h : fldOf d = some vs) : d = .fields vs := by cases d <;> first | (cases h; done) | (cases h; rfl)
theorem any_get {α : Type} {o : Option α} {p : α → Bool} (h : o.any p = true) : ∃ a, o = some a ∧ p a = true := by
  cases o with
  | none => cases h
  | some a => exact ⟨a, rfl, h⟩
noncomputable def codeOk (K : Frag) (cd P : Addr) : Bool := (K.lookup cd).any fun o => o.cls == .type "code" && (fldOf o.data).any fun vs => vs[11]? == some (.ref P) && vStr (vs.getD 18 .none) && vInt (vs.getD 7 .none) && vBool (vs.getD 9 .none) && vInt (vs.getD 10 .none)
theorem codeOk_get {K : Frag} {cd P : Addr} {h : Heap} (X : K.In h) (ok : codeOk K cd P = true) (tab : K.lookup P = some { cls := .none, data := .fields #[] }) (hne : cd ≠ P) : h.IsCode cd P #[] ∧ h.TableAt cd P #[] := by
  obtain ⟨o, e1, ok⟩ := any_get ok
  obtain ⟨hc, ok⟩ := Bool.and_eq_true_iff.mp ok
  obtain ⟨vs, e2, ok⟩ := any_get ok
  have hd := fldOf_some e2
  simp only [Bool.and_eq_true] at ok
  obtain ⟨⟨⟨⟨g1, g2⟩, g3⟩, g4⟩, g5⟩ := ok
  have g1 := beq_iff_eq.mp g1
  obtain ⟨f, tf, g2⟩ := vStr_get g2
  obtain ⟨i, ti, g3⟩ := vInt_get g3
  obtain ⟨b, g4⟩ := vBool_get g4
  obtain ⟨t, tt, g5⟩ := vInt_get g5
  have hE := X _ _ e1
  have hP := X _ _ tab
  exact ⟨⟨o, vs, f, tf, i, ti, b, t, tt, _, hE, hd, by rw [Array.getD_eq_getD_getElem?, g1]; rfl, g2, g3, g4, g5, hP, rfl, trivial, hne⟩, ⟨o, vs, hE, beq_iff_eq.mp hc, hd, g1⟩, hP⟩

theorem reads_ints {Z : AP} {h : Heap} : ∀ {ns : List Int} {vs : List Value} {as : List Addr}, ReadsAll h vs (ns.map .int) as → Rps Z h vs (ns.map .int)
  | [], _, _, r => by cases r; exact .nil
  | n :: ns, _, _, r => by
    cases r with
    | cons a r => cases a; exact .cons (.int _ _) (reads_ints r)

theorem law_end {w : World} {s₁ : Shared} {mg mb : Str → Option Value} {K₀ : Frag} {script : List Int} {as : List Addr} {vs : Array Value} {nn : Nat} (KX : K₀.In s₁.heap) (k : KF (cut K₀)) (k1 : codeOk K₀ 66 62 = true) (k2 : codeOk K₀ 73 69 = true) (k3 : K₀.lookup 62 = some { cls := .none, data := .fields #[] }) (k4 : K₀.lookup 69 = some { cls := .none, data := .fields #[] }) (g : s₁.heap.Ns mainGlobals mg) (b : s₁.heap.Ns builtinsNs mb) (lim : s₁.heap.NoLimit)
    (bm : ∃ bm ob, mg "__builtins__" = some (.ref bm) ∧ bm ≠ builtinsNs ∧ s₁.heap.get? bm = some ob ∧ ob.cls = .type "module" ∧ ob.dict = some builtinsNs ∧ ob.data = .plain) (size : s₁.heap.objs.size = 235) (gens : s₁.gens = #[]) (h234 : s₁.heap.get? 234 = some { cls := .type "list", data := .seq vs nn })
    (rd : Reads s₁.heap (.ref 234) (.list (script.map .int)) as) (hlen : script.length ≤ 63) {Q : Value → Shared → Prop} {E : Value → Shared → Prop} (hQ : ∀ s', OldK s₁.heap s'.heap → s'.os = s₁.os → AllBare s'.gens → Q (.bool true) s') :
    wpAny (model pg w) callerA (call (.ref 233) [.ref 234]) Q E s₁ := by
  obtain ⟨i1, t1⟩ := codeOk_get KX k1 k3 (by decide)
  obtain ⟨i2, t2⟩ := codeOk_get KX k2 k4 (by decide)
  let c : Cx := {
    w := w, s₁ := s₁, K := cut K₀, mg := mg, mb := mb
    kin := fun a o e => by
      rw [cut_lookup] at e
      split at e
      · cases e
      · exact KX a o e
    kno := ⟨by rw [cut_lookup, if_pos (.inl rfl)], by rw [cut_lookup, if_pos (.inr rfl)]⟩
    g := g, b := b, lim := lim, size := size, top := ⟨_, h234⟩ }
  have G : GenFacts c := by
    obtain ⟨bm, ob, e1, e2, e3, e4, e5, e6⟩ := bm
    refine ⟨bm, ob, e1, e2, fun q => ?_, fun q => ?_, e3, e4, e5, e6⟩
    · have e3' : s₁.heap.get? bm = some ob := e3
      rw [q, t1.2] at e3'; cases e3'; cases e6
    · have e3' : s₁.heap.get? bm = some ob := e3
      rw [q, t2.2] at e3'; cases e3'; cases e6
  have kc : KF c.K := k
  have LF : LawFacts2 c := kc.law G
  have O : Old c s₁.heap := ⟨fun b o e _ _ => e, ⟨_, i1, t1⟩, ⟨_, i2, t2⟩, fun P hP ps e => ⟨#[], by simpa using e⟩⟩
  have p : Pre c (fun _ => False) (4 + 6) none callerA s₁ := by
    refine ⟨O, by rw [gens]; exact .of_eq rfl, fun _ z => z.elim, ⟨rfl, by decide, by decide, [], rfl, fun _ m => nomatch m⟩, fun a e => by cases e⟩
  have r : RVs (fun _ => False) s₁.heap none [.ref 234] [.d (.list (script.map .int))] := by
    refine .cons ?_ .nil
    cases rd with
    | list ho hc hd r =>
      rw [h234] at ho
      cases ho
      cases hd
      exact .list (fun z => z) h234 rfl rfl rfl (reads_ints r)
  refine (fn_law (n := 4) LF kc.s233.at hlen).call p r fun v s' P rv => ?_
  rw [rv.bool_inv]
  refine hQ s' ⟨fun b o e => ?_, P.stp.al⟩ P.stp.os P.stp.gens
  by_cases h1 : b = 62
  · subst h1
    rw [t1.2] at e; cases e
    obtain ⟨more, q⟩ := P.stp.old.ex 62 (.inl rfl) #[] t1.2
    exact .inr (.inl ⟨t1.isCodeTable, rfl, #[], more, rfl, q⟩)
  by_cases h2 : b = 69
  · subst h2
    rw [t2.2] at e; cases e
    obtain ⟨more, q⟩ := P.stp.old.ex 69 (.inr rfl) #[] t2.2
    exact .inr (.inl ⟨t2.isCodeTable, rfl, #[], more, rfl, q⟩)
  exact .inl (P.stp.old.keep b o e h1 h2)

theorem script_obj {R : WRecords} {w : World} {s₀ s₁ : Shared} {ns : List Int} {a : Addr} {as : List Addr} (L : Laid R w s₀ s₁ [ofPy (PyData.list (ns.map PyData.int))] [.ref a] as) : ∃ vs nn, s₁.heap.get? a = some { cls := .type "list", data := .seq vs nn } := by
  obtain ⟨ord, _, e⟩ := L.laid
  simp only [ofPy, layAllW, layW] at e
  cases q : layAllW R (classAt s₀.heap) w.params ord (ofPys (List.map PyData.int ns)) s₀ with
  | none => rw [q] at e; cases e
  | some r =>
    rw [q] at e
    simp only [Option.some.injEq, Prod.mk.injEq, List.cons.injEq, Value.ref.injEq] at e
    obtain ⟨⟨ea, _⟩, es⟩ := e
    rw [← es, ← ea]
    exact ⟨_, _, Heap.get?_push_size _ rfl⟩
end Mine
end

section
open PySem PySem.W PySem.W.X PySem.W.ZRun PyProof.Rows
set_option Elab.async false
set_option linter.unusedVariables false
set_option maxRecDepth 100000
set_option maxHeartbeats 0
namespace Mine
/-! ## the head, in pieces -/
/-- the one statement of the text that a look takes -/
noncomputable def vw : Program := { pg with main := { pg.main with body := ([15] : List Nat).filterMap fun i => pg.main.body[i]? } }
noncomputable def lo : List Str := ["_wall", "EMPTYSTRING", "_Accumulator", "Error", "error_reply", "parse257", "Whitespace", "_law_column", "_law_job", "_law_name", "_law_send"]
noncomputable def xt (s : Shared) : Bool := xlAt vw [] s && recOk [] s

noncomputable def bE : List Stmt := behindTheImports pg
noncomputable def enV : Env := { scope := pg.main.scope, locals := mainNs, globals := mainNs, cells := [], code := .ref 13, frame := some 14 }
noncomputable def cE : Code := .body bE enV
noncomputable def sts (i n : Nat) : List Stmt := (bE.drop i).take n
noncomputable def q0 : Pos := ⟨0, 0, 0, 0⟩
noncomputable def p1 : Pos := ⟨6, 0, 36, 32⟩
noncomputable def p2 : Pos := ⟨38, 0, 39, 8⟩
noncomputable def p3 : Pos := ⟨59, 0, 59, 8⟩
noncomputable def p4 : Pos := ⟨60, 0, 106, 16⟩
noncomputable def p5 : Pos := ⟨138, 0, 170, 15⟩
noncomputable def stA (h : Heap) (k : Nat) (os : OsState) : Shared := ⟨h, #[], {}, k, os⟩
abbrev an : Option Value := some (.ref 6)
theorem opens (w : World) : (fencedOpening treeTable pg w 3438).map (fun s => (s.heap, s.gens, s.drawn, s.toks)) = some (boot_heap w.params, Array.mk [], boot_drawn, boot_toks) :=
  boot_open (p := pg) (N := 3438) (by kernel_rfl) rfl (fun s => by kernel_rfl) w
theorem size0 (w : World) : ((boot_heap w.params).isNs mainGlobals && (Array.mk [] : Array GenState).size == 0, (boot_heap w.params).objs.size, (boot_heap w.params).nsMap mainGlobals "__annotations__") = (true, 11, an) := by
  rw [PySem.W.Fast.te8920871248978507458]
  kernel_rfl
theorem head0 (w : World) (os : OsState) : topGo treeTable pg w 11 an 12 ⟨boot_heap w.params, Array.mk [], boot_drawn, boot_toks, os⟩ (topStub pg) = some (stA (hp0 w.params) 187 os, ⟨denote treeTable cE, cE, q0, [topFrame q0]⟩) := by
  rw [PySem.W.Fast.te15667345088766844465, PySem.W.Fast.te11892475500146522536, PySem.W.Fast.te14364793385576792824]
  kernel_rfl
theorem headB (w : World) (os : OsState) : segRun treeTable pg w 11 an 1 1 (stA (hp0 w.params) 187 os) (blockOf bE enV cE q0 [topFrame q0]) = some (.next, stA (hp0 w.params) 187 os, cE, q0) := by
  rw [PySem.W.Fast.te14374325043358763698, PySem.W.Fast.te14364793385576792824]
  kernel_rfl
theorem head1 (w : World) (os : OsState) : segRun treeTable pg w 11 an 1 550 (stA (hp0 w.params) 187 os) (piecesOf (sts 0 4) enV cE q0 [topFrame q0]) = some (.next, stA (hp1 w.params) 293 os, cE, p1) := by
  rw [PySem.W.Fast.te14374325043358763698, PySem.W.Fast.te14364793385576792824]
  kernel_rfl
theorem head2 (w : World) (os : OsState) : segRun treeTable pg w 11 an 1 320 (stA (hp1 w.params) 293 os) (piecesOf (sts 4 2) enV cE p1 [topFrame q0]) = some (.next, stA (hp2 w.params) 315 os, cE, p2) := by
  rw [PySem.W.Fast.te14374325043358763698, PySem.W.Fast.te14364793385576792824]
  kernel_rfl
theorem head2b (w : World) (os : OsState) : segRun treeTable pg w 11 an 1 320 (stA (hp2 w.params) 315 os) (piecesOf (sts 6 3) enV cE p2 [topFrame q0]) = some (.next, stA (hp3 w.params) 344 os, cE, p3) := by
  rw [PySem.W.Fast.te14374325043358763698, PySem.W.Fast.te14364793385576792824]
  kernel_rfl
theorem head3F (w : World) (os : OsState) : segRun treeTable pg (w.withFollow "special-get-raises" false) 11 an 1 489 (stA (hp3 (w.withFollow "special-get-raises" false).params) 344 os) (piecesOf (sts 9 1) enV cE p3 [topFrame q0]) = some (.next, stA (hp4 (w.withFollow "special-get-raises" false).params) 440 os, cE, p4) := by
  rw [PySem.W.Fast.te14374325043358763698, PySem.W.Fast.te14364793385576792824]
  kernel_rfl
theorem head3T (w : World) (os : OsState) : segRun treeTable pg (w.withFollow "special-get-raises" true) 11 an 1 489 (stA (hp3 (w.withFollow "special-get-raises" true).params) 344 os) (piecesOf (sts 9 1) enV cE p3 [topFrame q0]) = some (.next, stA (hp4 (w.withFollow "special-get-raises" true).params) 440 os, cE, p4) := by
  rw [PySem.W.Fast.te14374325043358763698, PySem.W.Fast.te14364793385576792824]
  kernel_rfl
theorem head3 (w : World) : ∀ os : OsState, segRun treeTable pg w 11 an 1 489 (stA (hp3 w.params) 344 os) (piecesOf (sts 9 1) enV cE p3 [topFrame q0]) = some (.next, stA (hp4 w.params) 440 os, cE, p4) :=
  byRow2 "special-get-raises" (P := fun w => ∀ os : OsState, segRun treeTable pg w 11 an 1 489 (stA (hp3 w.params) 344 os) (piecesOf (sts 9 1) enV cE p3 [topFrame q0]) = some (.next, stA (hp4 w.params) 440 os, cE, p4)) head3F head3T w
theorem head4 (w : World) (os : OsState) : segRun treeTable pg w 11 an 1 160 (stA (hp4 w.params) 440 os) (piecesOf (sts 10 6) enV cE p4 [topFrame q0]) = some (.next, stA (hp5 w.params) 486 os, cE, p5) := by
  rw [PySem.W.Fast.te14374325043358763698, PySem.W.Fast.te14364793385576792824]
  kernel_rfl
theorem head5 (w : World) (os : OsState) : topRun treeTable pg w 11 an 2 (stA (hp5 w.params) 486 os) ⟨doneF .next, cE, p5, [topFrame q0]⟩ = some (stA (hp5 w.params) 486 os) := by
  rw [PySem.W.Fast.te14082659384304107361, PySem.W.Fast.te14364793385576792824]
  kernel_rfl
theorem sts_all : bE = sts 0 4 ++ (sts 4 2 ++ (sts 6 3 ++ (sts 9 1 ++ (sts 10 6 ++ [])))) := by kernel_rfl
theorem headRun (w : World) (os : OsState) : topRun treeTable pg w 11 an (12 + (1 + (550 + (320 + (320 + (489 + (160 + 2))))))) ⟨boot_heap w.params, Array.mk [], boot_drawn, boot_toks, os⟩ (topStub pg) = some (stA (hp5 w.params) 486 os) := by
  have k4 := piece_app (head4 w os) (piece_nil (env := enV) (head5 w os))
  have k1 := piece_app (head1 w os) (piece_app (head2 w os) (piece_app (head2b w os) (piece_app (head3 w os) k4)))
  rw [← sts_all] at k1
  exact go_top (head0 w os) (piece_block (headB w os) k1)
theorem lookS (w : World) (os : OsState) : (staticsOk (importedModules pg.main.body) (boot_heap w.params) (hp5 w.params) && namesBound pg (hp5 w.params) && gensDone ⟨hp5 w.params, #[], {}, 486, os⟩ && laidKept (boot_heap w.params) (hp5 w.params)) = true := by kernel_rfl
theorem lookO (w : World) (os : OsState) : openSeen vw lo (importedModules pg.main.body) xt true ⟨hp5 w.params, #[], {}, 486, os⟩ = openGood vw lo := by
  rw [PySem.W.Fast.te4187177175401517315]
  kernel_rfl
theorem left_all : LeftO pg vw lo xt (fun s => s.heap) (fun w => hp5 w.params) 3438 :=
  LeftO.of_pieces opens size0 headRun rfl fun w => funext fun os => looks_pair (lookS w os) (looks_pair (lookO w os) rfl)
end Mine
end

section
open PySem PySem.W PyProof.Rows PySem.Calls PySem.Spec
set_option Elab.async false
set_option linter.unusedVariables false
set_option maxRecDepth 100000
namespace Mine
theorem nr_app (lk : Look) : ∀ (l : List Stmt) (n : Nat), noRoadLSs lk (l.take n) = true → noRoadLSs lk (l.drop n) = true → noRoadLSs lk l = true
  | [], _, _, _ => by unfold noRoadLSs; rfl
  | _ :: _, 0, _, h => h
  | s :: r, n + 1, h, h' => by
    rw [List.take_succ_cons] at h
    unfold noRoadLSs at h ⊢
    obtain ⟨h1, h2⟩ := Bool.and_eq_true_iff.mp h
    exact look_both h1 (nr_app lk r n h2 h')
abbrev LW := PySem.Challenge.rw_xl0015_01
noncomputable def lkP : Look := { strict := !(importedModules pg.main.body).all cThrough.contains, foot := none, bare := (["vars", "dir", "locals"] : List Str).filter (readsOut pg pg.main.body) }
noncomputable def lkV : Look := { strict := false, foot := none, bare := [] }
theorem lk_eq : lkP = lkV := by kernel_rfl
theorem sa_sre : sreFenced pg.main = true := by kernel_rfl
theorem sa_mods : ((moduleNames pg.main.body).isEmpty || lookedIntoSs (moduleNames pg.main.body) pg.main.body) = true := by kernel_rfl
theorem sa_names : namesResolve pg = true := by kernel_rfl
theorem sa_bound : pg.boundNames.all (fun n => !worldNames.contains n) = true := by kernel_rfl
theorem sa_r1 : noRoadLSs lkV (pg.main.body.take 9) = true := by kernel_rfl
theorem sa_r2 : noRoadLSs lkV (pg.main.body.drop 9) = true := by kernel_rfl
theorem sa_road : noRoadLSs lkP pg.main.body = true := by rw [lk_eq]; exact nr_app _ _ 9 sa_r1 sa_r2
theorem sa_meet : namesMeet pg pg.main.body (fun _ n => attrL n) = true := by kernel_rfl
theorem sa_open : looksOpen LW.row.prog = true := by
  show looksOpen pg = true
  unfold looksOpen
  exact look_both (look_both (look_both (look_both (look_both sa_sre sa_mods) sa_names) sa_bound) sa_road) sa_meet
theorem sa_part : LW.row.partSaid = true := by
  unfold OpenRow.partSaid
  refine look_both (look_both (look_both (look_both (look_both (look_both (look_both (look_both (look_both (look_both (look_both (look_both (look_both sa_open ?_) ?_) ?_) ?_) ?_) ?_) ?_) ?_) ?_) ?_) ?_) ?_) ?_ <;> kernel_rfl
theorem sa0 : LW.row.wellSaid = true := by
  unfold OpenRow.wellSaid
  refine look_both (look_both sa_part ?_) ?_ <;> kernel_rfl
theorem sa3 : noClassBlock LW.prog LW.footing = true := by kernel_rfl
theorem sa5 : noRoadLSs { strict := true, foot := some LW.bound', writes := LW.writes, may := LW.may } LW.footing = true := by kernel_rfl
theorem sa6 : defStands LW.about LW.above = true := by kernel_rfl
theorem sa10 : ((LW.prog.main.body.flatMap importedNames).all (fun n => !LW.reads n || (drawsOf n LW.prog.main.body).all fun mn => mn.2 != ("attrgetter" : Str) && mn.2 != ("methodcaller" : Str))) = true := by kernel_rfl
theorem sa11 : namesMeet LW.prog LW.footing (fun sc n => (!(["type", "isinstance", "issubclass", "getattr", "hasattr"] : List Str).contains n || sc.names.lookup n == some .globalImplicit) &&
    (LW.may != some n || sc.kind == .module || sc.names.lookup n == some .globalImplicit)) = true := by kernel_rfl
theorem sa13 : namesMeet LW.prog LW.above (fun _ n => !LW.own.contains n) = true := by kernel_rfl
theorem sa14 : (namesMeet LW.prog LW.footing fun sc n => sc.kind == .module || sc.names.lookup n != some .globalExplicit) = true := by kernel_rfl
theorem said_all : OpenLaw.wellSaid LW = true := by
  unfold OpenLaw.wellSaid
  refine look_both (look_both (look_both (look_both (look_both (look_both (look_both (look_both (look_both (look_both (look_both (look_both (look_both (look_both (look_both (look_both (look_both (look_both sa0 ?_) ?_) sa3) ?_) ?_) sa5) sa6) ?_) ?_) ?_) ?_) sa10) sa11) ?_) ?_) ?_) sa13) sa14 <;> kernel_rfl
theorem fragL_lookup : ∀ (l : List Obj) (n a : Nat) (o : Obj), (fragL n l).lookup a = some o → n ≤ a ∧ l[a - n]? = some o
  | [], n, a, o, e => by cases e
  | x :: l, n, a, o, e => by
    unfold fragL at e
    rw [List.lookup_cons] at e
    cases hb : a == n with
    | true =>
      rw [hb] at e
      have := beq_iff_eq.mp hb
      subst this
      rw [Nat.sub_self]
      exact ⟨Nat.le_refl _, e⟩
    | false =>
      rw [hb] at e
      obtain ⟨h1, h2⟩ := fragL_lookup l (n + 1) a o e
      refine ⟨by omega, ?_⟩
      have q : a - n = (a - (n + 1)) + 1 := by omega
      rw [q]
      exact h2
theorem fragL_in (w : World) : (fragL 0 (hp5 w.params).objs.toList).In (hp5 w.params) := fun a o e => by
  obtain ⟨_, h⟩ := fragL_lookup _ _ _ _ e
  have nf : (fragL 0 (hp5 w.params).objs.toList).all (fun p => match p.2.data with | .freed => false | _ => true) = true := by kernel_rfl
  have hm := List.all_eq_true.mp nf _ (lookup_mem e)
  rw [Nat.sub_zero, Array.getElem?_toList] at h
  unfold Heap.get?
  rw [h]
  revert hm
  obtain ⟨c, d, dt, sl⟩ := o
  cases dt <;> first | (intro h; rfl) | (intro h; cases h)
theorem last_step {R : WRecords} {w : World} {s₀ s₁ : Shared} {mg mb : Str → Option Value} {script : List Int} {a fa : Addr} {as bs : List Addr} (L : Laid R w s₀ s₁ [ofPy (PyData.list (script.map PyData.int))] [.ref a] as) (g : s₁.heap.Ns mainGlobals mg) (b : s₁.heap.Ns builtinsNs mb) (lim : s₁.heap.NoLimit)
    (bm : ∃ bm ob, mg "__builtins__" = some (.ref bm) ∧ bm ≠ builtinsNs ∧ s₁.heap.get? bm = some ob ∧ ob.cls = .type "module" ∧ ob.dict = some builtinsNs ∧ ob.data = .plain) (gens : s₁.gens = #[]) (y : s₀.heap = hp5 w.params) (hat : a = s₀.heap.objs.size) (hsz : s₁.heap.objs.size = s₀.heap.objs.size + 1) (hmg : mg "law" = some (.ref fa))
    (rd : Reads s₁.heap (.ref a) (.list (script.map .int)) bs) (hlen : script.length ≤ 63) {Q : Value → Shared → Prop} {E : Value → Shared → Prop} (hQ : ∀ s', OldK s₁.heap s'.heap → s'.os = s₁.os → AllBare s'.gens → Q (.bool true) s') :
    wpAny (model pg w) callerA (call (.ref fa) [.ref a]) Q E s₁ := by
  have y4 : s₀.heap.objs.size = 234 := by rw [y]; kernel_rfl
  rw [y4] at hat hsz
  subst hat
  have KX : (fragL 0 (hp5 w.params).objs.toList).In s₁.heap := Frag.In.keeps (by rw [y]; exact fragL_in _) L.keeps
  have k : KF (cut (fragL 0 (hp5 w.params).objs.toList)) := ⟨_, rfl⟩
  have KC : (cut (fragL 0 (hp5 w.params).objs.toList)).In s₁.heap := fun a o e => by
    rw [cut_lookup] at e
    split at e
    · cases e
    · exact KX a o e
  have hfa := mg_of KC g k.g_law
  rw [hmg] at hfa
  cases hfa
  obtain ⟨vs, nn, h234⟩ := script_obj L
  exact law_end KX k (by kernel_rfl) (by kernel_rfl) (by kernel_rfl) (by kernel_rfl) g b lim bm hsz gens h234 rd hlen hQ
end Mine
end

open PySem PySem.W PySem.W.X PySem.W.ZRun PyProof.Rows
set_option maxRecDepth 100000 in
set_option maxHeartbeats 0 in
theorem PySem.Challenge.cw_xl0015_01_holds : PySem.Challenge.rw_xl0015_01.Holds := by
  w_on
  refine holds_law Mine.said_all fun said => ?_
  refine holds_openX (q := Mine.vw) (loose := Mine.lo) (Xt := Mine.xt) (XP := XL Mine.vw []) (Yf := fun s => s.heap) (Ya := fun w => Mine.hp5 w.params) (N := 3438) Mine.left_all (fun s e => xl_of s (Bool.and_eq_true_iff.mp e).1) XL.keeps (by rfl) (by rfl) (by rfl) (fun s e => recFacts_of (Bool.and_eq_true_iff.mp e).2) (by rfl) (by assumption) (by decide +kernel) ⟨rfl, rfl, rfl, rfl, rfl, by decide +kernel⟩ ?hw ?hc
  case hw => w_witness2
  k_fill
  intro w s₀ s₁ mg mb G y fa o pm cd doc dV kV ho hd hcd hD hmg hg args vals as L hpre hlay hrd hwl hlo
  refine Ground.open G ?_
  intro T B D TE TW
  clear ho hd hcd hD B D TE TW
  wrow_args hpre hlay hrd hwl hlo
  obtain ⟨hat, hsz⟩ := script_at L
  exact Mine.last_step L T.g T.b T.nolimit T.bmain hg y hat hsz hmg (by assumption) (by omega) fun s' hk ho' hgn => ⟨.inl ⟨_, .bool true, [], rfl, fun _ => rfl, .bool _, by kernel_rfl, fun _ => ⟨.nil, fun _ m => nomatch m⟩⟩, hk, ho', hgn⟩
