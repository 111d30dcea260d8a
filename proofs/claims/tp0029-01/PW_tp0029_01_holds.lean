import PyProof.Rows.All
import Wide.All
import OpenK.AllK
import Wide.FinOn
import PySem.Challenge.RW_tp0029_01
set_option Elab.async false
set_option linter.all false
section
open PySem PySem.W PyProof.Rows PySem.Calls
set_option maxRecDepth 10000
namespace Mine
/-- plain data -/
inductive D where
  | none
  | bool (b : Bool)
  | int (i : Int)
  | float (x : UInt64)
  | str (x : Str)
  | bytes (b : Array UInt8)
  | tup (ds : List D)
  | lst (ds : List D)
  | tbl (rows : List D)
  | rng (a b : Int)
  | pls (ds : List D)
  | ins (l : Addr)
  | adr (a : Addr)
  | mat (x : Array UInt8) (b e : Nat)
/-- the class Headers' place -/
noncomputable abbrev hcls : Addr := 182
noncomputable abbrev hname : Str := Str.ofString "_headers"
/-- what the dict of an object of the class holds -/
noncomputable def hdr (l : Addr) : Str → Option Value := fun y => if y = hname then some (.ref l) else none
mutual
inductive Rep (X : Addr → Prop) (h : Heap) : Value → D → Prop
  | none : Rep X h .none .none
  | bool (b : Bool) : Rep X h (.bool b) (.bool b)
  | int (i : Int) (t : Tok) : Rep X h (.int i t) (.int i)
  | float (x : UInt64) (t : Tok) : Rep X h (.float x t) (.float x)
  | str (x : Str) (t : Tok) : Rep X h (.str x t) (.str x)
  | bytes (b : Array UInt8) (t : Tok) : Rep X h (.bytes b t) (.bytes b)
  | tup {a : Addr} {vs : List Value} {ds : List D} : ¬ X a → h.IsTuple a vs.toArray → Reps X h vs ds → Rep X h (.ref a) (.tup ds)
  | lst {a : Addr} {vs : List Value} {ds : List D} : ¬ X a → h.IsList a vs.toArray → Reps X h vs ds → Rep X h (.ref a) (.lst ds)
  | tbl {a dx l : Addr} {vs : List Value} {ds : List D} {sl : Array (Option Value)} : ¬ X a ∧ ¬ X dx ∧ ¬ X l → h.get? a = some ⟨.ref hcls, some dx, .plain, sl⟩ → h.Ns1 dx (hdr l) →
      h.IsList l vs.toArray → Reps X h vs ds → Rep X h (.ref a) (.tbl ds)
  | rng {r : Addr} {a b : Int} {t u v : Tok} : ¬ X r → h.get? r = some { cls := .type "range", data := .fields #[.int a t, .int b u, .int 1 v] } → Rep X h (.ref r) (.rng a b)
  | pls {a : Addr} {vs : List Value} {ds : List D} : ¬ X a → h.PlainList a vs.toArray → Reps X h vs ds → Rep X h (.ref a) (.pls ds)
  | ins {a dx l : Addr} {sl : Array (Option Value)} : ¬ X a ∧ ¬ X dx → h.get? a = some ⟨.ref hcls, some dx, .plain, sl⟩ → h.Ns1 dx (hdr l) → Rep X h (.ref a) (.ins l)
  | adr (a : Addr) : Rep X h (.ref a) (.adr a)
  | mat {a tu : Addr} {x : Array UInt8} {t : Tok} {p l i : Value} {s b e f : Int} {k : Nat} {b' e' : Nat} : ¬ X a ∧ ¬ X tu → b = b' ∧ e = e' → h.get? a = some { cls := .type "re.Match", data := .fields #[.bytes x t, .ref 198, p, l, i, .ref tu] } →
      h.get? tu = some { cls := .type "tuple", data := .seq #[rawInt s, rawInt f, rawInt b, rawInt e] k } → Rep X h (.ref a) (.mat x b' e')
inductive Reps (X : Addr → Prop) (h : Heap) : List Value → List D → Prop
  | nil : Reps X h [] []
  | cons {v : Value} {d : D} {vs : List Value} {ds : List D} : Rep X h v d → Reps X h vs ds → Reps X h (v :: vs) (d :: ds)
end
/-- what data live on: tuples, lists, the tables; no cell, no frame's dict, no iterator -/
noncomputable def Dat (o : Obj) : Bool := match o.data with
  | .seq _ _ => true
  | .plain => true
  | .dict es _ => (nsFind es hname).isSome
  | .fields _ => o.cls == .type "range" || o.cls == .type "re.Match"
  | _ => false
noncomputable def Seqs (X : Addr → Prop) (h h' : Heap) : Prop := ∀ a o, ¬ X a → h.get? a = some o → Dat o = true → h'.get? a = some o
theorem Seqs.refl (X : Addr → Prop) (h : Heap) : Seqs X h h := fun _ _ _ e _ => e
theorem Seqs.trans {X : Addr → Prop} {h h' h'' : Heap} (x : Seqs X h h') (y : Seqs X h' h'') : Seqs X h h'' := fun a o q e d => y a o q (x a o q e d) d
theorem Seqs.sub {X Y : Addr → Prop} {h h' : Heap} (x : Seqs X h h') (k : ∀ a, X a → Y a) : Seqs Y h h' := fun a o q e d => x a o (fun z => q (k a z)) e d
theorem dat_seq {o : Obj} {xs n} (h : o.data = .seq xs n) : Dat o = true := by unfold Dat; rw [h]
theorem Seqs.list {X : Addr → Prop} {h h' : Heap} (k : Seqs X h h') {a : Addr} (q : ¬ X a) {xs : Array Value} (x : h.IsList a xs) : h'.IsList a xs := by
  obtain ⟨o, ho, hc, n, hd⟩ := x
  exact ⟨o, k _ _ q ho (dat_seq hd), hc, n, hd⟩
theorem Seqs.tuple {X : Addr → Prop} {h h' : Heap} (k : Seqs X h h') {a : Addr} (q : ¬ X a) {xs : Array Value} (x : h.IsTuple a xs) : h'.IsTuple a xs := by
  obtain ⟨o, ho, hc, n, hd⟩ := x
  exact ⟨o, k _ _ q ho (dat_seq hd), hc, n, hd⟩
theorem Seqs.hdr {X : Addr → Prop} {h h' : Heap} (k : Seqs X h h') {dx l : Addr} (q : ¬ X dx) (x : h.Ns1 dx (hdr l)) : h'.Ns1 dx (hdr l) := by
  obtain ⟨o, es, ep, ho, hd, r1, r2, r3⟩ := x
  refine ⟨o, es, ep, k _ _ q ho ?_, hd, r1, r2, r3⟩
  unfold Dat; rw [hd]; dsimp only; rw [r3]; rfl
theorem ns_mono {X Y : Addr → Prop} {h h' : Heap} (k : ∀ a o, ¬ X a → h.get? a = some o → Dat o = true → ¬ Y a ∧ h'.get? a = some o) {dx l : Addr} (q : ¬ X dx) (x : h.Ns1 dx (hdr l)) : ¬ Y dx ∧ h'.Ns1 dx (hdr l) := by
  obtain ⟨o, es, ep, ho, hd, r1, r2, r3⟩ := x
  have hD : Dat o = true := by unfold Dat; rw [hd]; dsimp only; rw [r3]; rfl
  exact ⟨(k _ _ q ho hD).1, o, es, ep, (k _ _ q ho hD).2, hd, r1, r2, r3⟩
mutual
theorem Rep.mono {X Y : Addr → Prop} {h h' : Heap} (k : ∀ a o, ¬ X a → h.get? a = some o → Dat o = true → ¬ Y a ∧ h'.get? a = some o) : ∀ {v : Value} {d : D}, Rep X h v d → Rep Y h' v d
  | _, _, .none => .none
  | _, _, .bool b => .bool b
  | _, _, .int i t => .int i t
  | _, _, .float i t => .float i t
  | _, _, .str i t => .str i t
  | _, _, .bytes i t => .bytes i t
  | _, _, .tup q ⟨_, x, c, n, e⟩ r => .tup (k _ _ q x (dat_seq e)).1 ⟨_, (k _ _ q x (dat_seq e)).2, c, n, e⟩ (r.mono k)
  | _, _, .lst q ⟨_, x, c, n, e⟩ r => .lst (k _ _ q x (dat_seq e)).1 ⟨_, (k _ _ q x (dat_seq e)).2, c, n, e⟩ (r.mono k)
  | _, _, .tbl q x y ⟨_, z, c, n, e⟩ r => .tbl ⟨(k _ _ q.1 x rfl).1, (ns_mono k q.2.1 y).1, (k _ _ q.2.2 z (dat_seq e)).1⟩ (k _ _ q.1 x rfl).2 (ns_mono k q.2.1 y).2 ⟨_, (k _ _ q.2.2 z (dat_seq e)).2, c, n, e⟩ (r.mono k)
  | _, _, .rng q x => .rng (k _ _ q x rfl).1 (k _ _ q x rfl).2
  | _, _, .pls q ⟨n, x⟩ r => .pls (k _ _ q x rfl).1 ⟨n, (k _ _ q x rfl).2⟩ (r.mono k)
  | _, _, .ins q x y => .ins ⟨(k _ _ q.1 x rfl).1, (ns_mono k q.2 y).1⟩ (k _ _ q.1 x rfl).2 (ns_mono k q.2 y).2
  | _, _, .adr a => .adr a
  | _, _, .mat q r x y => .mat ⟨(k _ _ q.1 x rfl).1, (k _ _ q.2 y rfl).1⟩ r (k _ _ q.1 x rfl).2 (k _ _ q.2 y rfl).2
theorem Reps.mono {X Y : Addr → Prop} {h h' : Heap} (k : ∀ a o, ¬ X a → h.get? a = some o → Dat o = true → ¬ Y a ∧ h'.get? a = some o) : ∀ {vs : List Value} {ds : List D}, Reps X h vs ds → Reps Y h' vs ds
  | _, _, .nil => .nil
  | _, _, .cons r rs => .cons (r.mono k) (rs.mono k)
end
theorem mono_seqs {X : Addr → Prop} {h h' : Heap} (k : Seqs X h h') : ∀ a o, ¬ X a → h.get? a = some o → Dat o = true → ¬ X a ∧ h'.get? a = some o := fun a o q e d => ⟨q, k a o q e d⟩
theorem mono_avoid {X Y : Addr → Prop} {h : Heap} (k : ∀ a, Y a → X a ∨ h.get? a = Option.none) : ∀ a o, ¬ X a → h.get? a = some o → Dat o = true → ¬ Y a ∧ h.get? a = some o :=
  fun a o q e _ => ⟨fun y => (k a y).elim q (fun e' => by rw [e'] at e; cases e), e⟩
theorem Rep.seqs {X : Addr → Prop} {h h' : Heap} (k : Seqs X h h') {v : Value} {d : D} (r : Rep X h v d) : Rep X h' v d := r.mono (mono_seqs k)
theorem Reps.seqs {X : Addr → Prop} {h h' : Heap} (k : Seqs X h h') {vs : List Value} {ds : List D} (r : Reps X h vs ds) : Reps X h' vs ds := r.mono (mono_seqs k)
theorem Rep.avoid {X Y : Addr → Prop} {h : Heap} (k : ∀ a, Y a → X a ∨ h.get? a = Option.none) {v : Value} {d : D} (r : Rep X h v d) : Rep Y h v d := r.mono (mono_avoid k)
theorem Reps.avoid {X Y : Addr → Prop} {h : Heap} (k : ∀ a, Y a → X a ∨ h.get? a = Option.none) {vs : List Value} {ds : List D} (r : Reps X h vs ds) : Reps Y h vs ds := r.mono (mono_avoid k)
/-- what a value is that stands for a datum -/
noncomputable def RepI (X : Addr → Prop) (h : Heap) (v : Value) : D → Prop
  | .none => v = .none
  | .bool b => v = .bool b
  | .int i => ∃ t, v = .int i t
  | .float x => ∃ t, v = .float x t
  | .str x => ∃ t, v = .str x t
  | .bytes x => ∃ t, v = .bytes x t
  | .tup ds => ∃ a vs, v = .ref a ∧ ¬ X a ∧ h.IsTuple a (List.toArray vs) ∧ Reps X h vs ds
  | .lst ds => ∃ a vs, v = .ref a ∧ ¬ X a ∧ h.IsList a (List.toArray vs) ∧ Reps X h vs ds
  | .pls ds => ∃ a vs, v = .ref a ∧ ¬ X a ∧ h.PlainList a (List.toArray vs) ∧ Reps X h vs ds
  | _ => True
theorem rep_inv {X : Addr → Prop} {h : Heap} {v : Value} {d : D} (r : Rep X h v d) : RepI X h v d := by
  cases r with
  | none => rfl
  | bool => rfl
  | int => exact ⟨_, rfl⟩
  | float => exact ⟨_, rfl⟩
  | str => exact ⟨_, rfl⟩
  | bytes => exact ⟨_, rfl⟩
  | tup x y z => exact ⟨_, _, rfl, x, y, z⟩
  | lst x y z => exact ⟨_, _, rfl, x, y, z⟩
  | pls x y z => exact ⟨_, _, rfl, x, y, z⟩
  | _ => trivial
theorem rep_int_inv {X : Addr → Prop} {h : Heap} {v : Value} {i : Int} (r : Rep X h v (.int i)) : ∃ t, v = .int i t := rep_inv r
theorem rep_str_inv {X : Addr → Prop} {h : Heap} {v : Value} {i : Str} (r : Rep X h v (.str i)) : ∃ t, v = .str i t := rep_inv r
theorem rep_bytes_inv {X : Addr → Prop} {h : Heap} {v : Value} {i : Array UInt8} (r : Rep X h v (.bytes i)) : ∃ t, v = .bytes i t := rep_inv r
theorem rep_tup_inv {X : Addr → Prop} {h : Heap} {v : Value} {ds : List D} (r : Rep X h v (.tup ds)) : ∃ a vs, v = .ref a ∧ ¬ X a ∧ h.IsTuple a (List.toArray vs) ∧ Reps X h vs ds := rep_inv r
theorem rep_lst_inv {X : Addr → Prop} {h : Heap} {v : Value} {ds : List D} (r : Rep X h v (.lst ds)) : ∃ a vs, v = .ref a ∧ ¬ X a ∧ h.IsList a (List.toArray vs) ∧ Reps X h vs ds := rep_inv r
theorem Rep.weak {X : Addr → Prop} {h : Heap} {v : Value} {ds : List D} (r : Rep X h v (.pls ds)) : Rep X h v (.lst ds) := by
  obtain ⟨_, _, rfl, q, x, rs⟩ := rep_inv r
  exact .lst q x.isList rs
noncomputable def KeepsH (h h' : Heap) : Prop := ∀ b o, h.get? b = some o → h'.get? b = some o
theorem KeepsH.refl (h : Heap) : KeepsH h h := fun _ _ e => e
theorem KeepsH.trans {h h' h'' : Heap} (x : KeepsH h h') (y : KeepsH h' h'') : KeepsH h h'' := fun b o e => y b o (x b o e)
theorem KeepsH.seqs {h h' : Heap} (X : Addr → Prop) (x : KeepsH h h') : Seqs X h h' := fun a o _ e _ => x a o e
theorem KeepsH.push (h : Heap) (o : Obj) : KeepsH h (h.push o) := fun _ _ e => Heap.get?_push_of_some _ e
theorem Rep.keeps {X : Addr → Prop} {h h' : Heap} (k : KeepsH h h') {v : Value} {d : D} (r : Rep X h v d) : Rep X h' v d := r.seqs (k.seqs X)
theorem Reps.keeps {X : Addr → Prop} {h h' : Heap} (k : KeepsH h h') {v : List Value} {d : List D} (r : Reps X h v d) : Reps X h' v d := r.seqs (k.seqs X)
theorem Reps.length {X : Addr → Prop} {h : Heap} : ∀ {vs : List Value} {ds : List D}, Reps X h vs ds → vs.length = ds.length
  | _, _, .nil => rfl
  | _, _, .cons _ r => congrArg (· + 1) r.length
theorem Reps.get {X : Addr → Prop} {h : Heap} : ∀ {vs : List Value} {ds : List D}, Reps X h vs ds → ∀ {i : Nat} {d : D}, ds[i]? = some d → ∃ v, vs[i]? = some v ∧ Rep X h v d
  | _, _, .nil, i, d, e => by simp at e
  | _, _, .cons (v := v) r rs, 0, d, e => by simp at e; subst e; exact ⟨v, by simp, r⟩
  | _, _, .cons r rs, i + 1, d, e => by simp at e ⊢; exact rs.get e
theorem Reps.getV {X : Addr → Prop} {h : Heap} : ∀ {vs : List Value} {ds : List D}, Reps X h vs ds → ∀ {i : Nat} {v : Value}, vs[i]? = some v → ∃ d, ds[i]? = some d ∧ Rep X h v d
  | _, _, .nil, i, d, e => by simp at e
  | _, _, .cons (d := d) r rs, 0, v, e => by simp at e; subst e; exact ⟨d, by simp, r⟩
  | _, _, .cons r rs, i + 1, d, e => by simp at e ⊢; exact rs.getV e
theorem Reps.append {X : Addr → Prop} {h : Heap} : ∀ {vs : List Value} {ds : List D} {us : List Value} {es : List D}, Reps X h vs ds → Reps X h us es → Reps X h (vs ++ us) (ds ++ es)
  | _, _, _, _, .nil, r => r
  | _, _, _, _, .cons a b, r => .cons a (b.append r)
theorem Reps.snoc {X : Addr → Prop} {h : Heap} {vs : List Value} {ds : List D} {v : Value} {d : D} (r : Reps X h vs ds) (x : Rep X h v d) : Reps X h (vs ++ [v]) (ds ++ [d]) := r.append (.cons x .nil)
theorem Reps.drop {X : Addr → Prop} {h : Heap} : ∀ {vs : List Value} {ds : List D} (n : Nat), Reps X h vs ds → Reps X h (vs.drop n) (ds.drop n)
  | _, _, 0, r => r
  | _, _, n + 1, .nil => by simp; exact .nil
  | _, _, n + 1, .cons _ r => by simp; exact r.drop n
theorem Reps.take {X : Addr → Prop} {h : Heap} : ∀ {vs : List Value} {ds : List D} (n : Nat), Reps X h vs ds → Reps X h (vs.take n) (ds.take n)
  | _, _, 0, r => by simp; exact .nil
  | _, _, n + 1, .nil => by simp; exact .nil
  | _, _, n + 1, .cons a r => by simp; exact .cons a (r.take n)
/-- a state gone on: the heap keeps all, and the counter of tokens may have moved -/
theorem keeps_heap {s s' : Shared} (k : Keeps s s') : KeepsH s.heap s'.heap := by
  obtain ⟨h, t, rfl, k⟩ := k
  exact k
theorem keeps_trans {s s' s'' : Shared} (k : Keeps s s') (l : Keeps s' s'') : Keeps s s'' := by
  obtain ⟨h, t, rfl, k⟩ := k
  obtain ⟨h', t', rfl, l⟩ := l
  exact ⟨h', t', rfl, fun b o e => l b o (k b o e)⟩
theorem keeps_refl (s : Shared) : Keeps s s := ⟨s.heap, s.toks, rfl, fun _ _ e => e⟩
theorem keeps_tok (s : Shared) (t : Nat) : Keeps s { s with toks := t } := ⟨s.heap, t, rfl, fun _ _ e => e⟩
end Mine
end
section
open PySem PySem.W PyProof.Rows PySem.Calls
set_option maxRecDepth 10000
namespace Mine
/-- what stands around a call: the world, the written part of the heap, the module's names -/
structure Cx where
  w : World
  K : Frag
  mg : Str → Option Value
noncomputable abbrev pw : Program := PySem.Challenge.pw_tp0029_01
noncomputable abbrev Cx.M (c : Cx) : Model := model pw c.w
/-- the top as the run has left it -/
structure Glo0 (c : Cx) (h : Heap) : Prop where
  g : h.Ns mainGlobals c.mg
  b : ∃ mb, h.Ns builtinsNs mb ∧ ∀ x, x ≠ ("__name__" : Str) → mb x = bootBuiltins x
  lim : h.NoLimit
  k : c.K.In h
theorem Glo0.keeps {c : Cx} {h h' : Heap} (G : Glo0 c h) (k : KeepsH h h') : Glo0 c h' := by
  obtain ⟨g, ⟨mb, b1, b2⟩, ⟨mc, l1, l2⟩, x⟩ := G
  exact ⟨g.keeps k, ⟨mb, b1.keeps k, b2⟩, ⟨mc, l1.keeps k, l2⟩, x.keeps k⟩
/-- what is hidden is there -/
noncomputable def Vis (X : Addr → Prop) (h : Heap) : Prop := ∀ a, X a → ∃ o, h.get? a = some o
theorem Vis.keeps {X : Addr → Prop} {h h' : Heap} (V : Vis X h) (k : KeepsH h h') : Vis X h' := fun a q => (V a q).elim fun o e => ⟨o, k a o e⟩
structure Glo (c : Cx) (X : Addr → Prop) (h : Heap) : Prop extends Glo0 c h where
  vis : Vis X h
theorem Glo.keeps {c : Cx} {X : Addr → Prop} {h h' : Heap} (G : Glo c X h) (k : KeepsH h h') : Glo c X h' := ⟨G.toGlo0.keeps k, G.vis.keeps k⟩
theorem Glo.new {c : Cx} {X : Addr → Prop} {h : Heap} (G : Glo c X h) : ¬ X h.objs.size := fun q => by
  obtain ⟨o, e⟩ := G.vis _ q
  exact Nat.lt_irrefl _ (Heap.lt_size e)
structure Room (n : Nat) (A : Around) : Prop where
  handled : A.handled = none
  depth : A.depth + n < recursionLimit
  units : A.units + 16 * n + 100 < cLine
theorem Room.mono {n m : Nat} {A : Around} (r : Room n A) (h : m ≤ n) : Room m A :=
  ⟨r.handled, by have := r.depth; omega, by have := r.units; omega⟩
theorem Room.deeper {n : Nat} {A : Around} (r : Room (n + 1) A) (e : Env) : Room n (A.deeper e) :=
  ⟨r.handled, by have := r.depth; show A.depth + 1 + n < _; omega, by have := r.units; show A.units + 3 + _ + _ < _; omega⟩
theorem Room.in1 {n : Nat} {A : Around} (r : Room (n + 1) A) : Room n A.in1 :=
  ⟨r.handled, by have := r.depth; show A.depth + n < _; omega, by have := r.units; show A.units + 1 + _ + _ < _; omega⟩
theorem Room.u {n : Nat} {A : Around} (r : Room n A) : A.units < cLine := by have := r.units; omega
theorem Room.u64 {n : Nat} {A : Around} (r : Room n A) : A.units + 64 < cLine := by have := r.units; omega
noncomputable abbrev Loc := List (Str × D)
structure FrameOK (X : Addr → Prop) (s : Shared) (env : Env) (ρ : Loc) : Prop where
  fn : env.scope.kind = .function
  gl : env.globals = mainGlobals
  bl : env.builtins = builtinsNs
  loc : ∃ m, s.heap.Ns env.locals m ∧ ∀ x d, env.scope.names.lookup x = some .local → ρ.lookup x = some d → ∃ v, m x = some v ∧ Rep X s.heap v d
  cel : ∀ x d, (env.scope.names.lookup x = some .cell ∨ env.scope.names.lookup x = some .free) → ρ.lookup x = some d →
    ∃ c v, env.cells.lookup x = some c ∧ s.heap.IsCell c (some v) ∧ Rep X s.heap v d
  apart : ∀ x y a, env.cells.lookup x = some a → env.cells.lookup y = some a → x = y
theorem FrameOK.keeps {X : Addr → Prop} {s s' : Shared} {env : Env} {ρ : Loc} (F : FrameOK X s env ρ) (k : KeepsH s.heap s'.heap) : FrameOK X s' env ρ := by
  obtain ⟨a, b, c, ⟨m, hm, hl⟩, hc, hap⟩ := F
  refine ⟨a, b, c, ⟨m, hm.keeps k, fun x d h1 h2 => ?_⟩, fun x d h1 h2 => ?_, hap⟩
  · obtain ⟨v, hv, r⟩ := hl x d h1 h2
    exact ⟨v, hv, r.keeps k⟩
  · obtain ⟨cl, v, h3, h4, r⟩ := hc x d h1 h2
    exact ⟨cl, v, h3, h4.keeps k, r.keeps k⟩
variable (c : Cx)
/-- the expression's value is this datum, whatever the state -/
noncomputable def Ev (n : Nat) (sc : Scope) (ρ : Loc) (e : Expr) (d : D) : Prop :=
  ∀ (X : Addr → Prop) (A : Around) (E : Value → Shared → Prop) (s : Shared) (env : Env) (Q : Value → Shared → Prop),
    Room n A → Glo c X s.heap → env.scope = sc → FrameOK X s env ρ →
    (∀ v s', Keeps s s' → Rep X s'.heap v d → Q v s') → wpAny c.M A (eval e env) Q E s
/-- the same of a test -/
noncomputable def Tst (n : Nat) (sc : Scope) (ρ : Loc) (e : Expr) (b : Bool) : Prop :=
  ∀ (X : Addr → Prop) (A : Around) (E : Value → Shared → Prop) (s : Shared) (env : Env) (Q : Bool → Shared → Prop),
    Room n A → Glo c X s.heap → env.scope = sc → FrameOK X s env ρ →
    (∀ s', Keeps s s' → Q b s') → wpAny c.M A (isTrue e env (eval e env)) Q E s
/-- the expression's value is this very value -/
noncomputable def EvV (n : Nat) (sc : Scope) (ρ : Loc) (e : Expr) (v : Value) : Prop :=
  ∀ (X : Addr → Prop) (A : Around) (E : Value → Shared → Prop) (s : Shared) (env : Env) (Q : Value → Shared → Prop),
    Room n A → Glo c X s.heap → env.scope = sc → FrameOK X s env ρ →
    (∀ s', Keeps s s' → Q v s') → wpAny c.M A (eval e env) Q E s
section
variable {c : Cx} {n : Nat} {sc : Scope} {ρ : Loc} {x : Str} {pos : Pos} {d : D}
theorem ev_local (hk : sc.names.lookup x = some .local) (hr : ρ.lookup x = some d) (hd : (x == ("__debug__" : Str)) = false := by decide) : Ev c n sc ρ (.Name x pos) d := by
  intro X A E s env Q R G he F h
  subst he
  obtain ⟨m, hm, hl⟩ := F.loc
  obtain ⟨v, hv, r⟩ := hl x d hk hr
  exact wpAny_Name (wpAny_loadName_local F.fn hk hm hv (h v s (keeps_refl s) r)) hd
theorem ev_cell (hk : sc.names.lookup x = some .cell) (hr : ρ.lookup x = some d) (hd : (x == ("__debug__" : Str)) = false := by decide) : Ev c n sc ρ (.Name x pos) d := by
  intro X A E s env Q R G he F h
  subst he
  obtain ⟨cl, v, h1, h2, r⟩ := F.cel x d (.inl hk) hr
  exact wpAny_Name (wpAny_loadName_cell F.fn hk h1 h2 (h v s (keeps_refl s) r)) hd
theorem ev_free (hk : sc.names.lookup x = some .free) (hr : ρ.lookup x = some d) (hd : (x == ("__debug__" : Str)) = false := by decide) (hn : (x == ("__classdict__" : Str)) = false := by decide) : Ev c n sc ρ (.Name x pos) d := by
  intro X A E s env Q R G he F h
  subst he
  obtain ⟨cl, v, h1, h2, r⟩ := F.cel x d (.inr hk) hr
  exact wpAny_Name (wpAny_loadName_free F.fn hk h1 h2 (h v s (keeps_refl s) r) hn) hd
theorem ev_global {v : Value} (hk : sc.names.lookup x = some .globalImplicit) (hv : c.mg x = some v) (hd : (x == ("__debug__" : Str)) = false := by decide) : EvV c n sc ρ (.Name x pos) v := by
  intro X A E s env Q R G he F h
  subst he
  exact Name_function_global F.fn hk (loadGlobal_global (by rw [F.gl]; exact G.g) hv (h s (keeps_refl s))) hd
theorem ev_builtin {v : Value} (hk : sc.names.lookup x = some .globalImplicit) (hv : c.mg x = none) (hb : bootBuiltins x = some v) (hn : x ≠ ("__name__" : Str) := by decide) (hd : (x == ("__debug__" : Str)) = false := by decide) : EvV c n sc ρ (.Name x pos) v := by
  intro X A E s env Q R G he F h
  subst he
  obtain ⟨mb, b1, b2⟩ := G.b
  exact Name_function_global F.fn hk (loadGlobal_builtin (by rw [F.gl]; exact G.g) hv (by rw [F.bl]; exact b1) ((b2 x hn).trans hb) (h s (keeps_refl s))) hd
theorem ev_int {i : Int} {k : Nat} : Ev c n sc ρ (.Constant (.int i) k pos) (.int i) := by
  intro X A E s env Q R G he F h
  exact wpAny_Constant_int (h _ _ (keeps_tok s _) (.int _ _))
theorem ev_str {i : Str} {k : Nat} : Ev c n sc ρ (.Constant (.str i) k pos) (.str i) := by
  intro X A E s env Q R G he F h
  exact Constant_str (h _ _ (keeps_tok s _) (.str _ _))
theorem ev_none {k : Nat} : Ev c n sc ρ (.Constant .none k pos) .none := by
  intro X A E s env Q R G he F h
  exact fun _ _ _ => (h _ _ (keeps_refl s) .none)
theorem ev_bool {b : Bool} {k : Nat} : Ev c n sc ρ (.Constant (.bool b) k pos) (.bool b) := by
  intro X A E s env Q R G he F h
  exact fun _ _ _ => (h _ _ (keeps_refl s) (.bool b))
theorem ev_float {b : UInt64} {k : Nat} : Ev c n sc ρ (.Constant (.float b) k pos) (.float b) := by
  intro X A E s env Q R G he F h
  exact fun _ _ _ => (h _ _ (keeps_tok s _) (.float b _))
theorem ev_bytes {b : List UInt8} {k : Nat} : Ev c n sc ρ (.Constant (.bytes b) k pos) (.bytes b.toArray) := by
  intro X A E s env Q R G he F h
  exact fun _ _ _ => (h _ _ (keeps_tok s _) (.bytes _ _))
end
end Mine
end
section
open PySem PySem.W PyProof.Rows PySem.Calls
set_option maxRecDepth 10000
namespace Mine
variable (c : Cx)
noncomputable def Bin (n : Nat) (op : Operator) (d₁ d₂ d : D) : Prop :=
  ∀ (X : Addr → Prop) (A : Around) (E : Value → Shared → Prop) (s : Shared) (v₁ v₂ : Value) (Q : Value → Shared → Prop),
    Room n A → Glo c X s.heap → Rep X s.heap v₁ d₁ → Rep X s.heap v₂ d₂ →
    (∀ v s', Keeps s s' → Rep X s'.heap v d → Q v s') → wpAny c.M A (binaryOp op v₁ v₂) Q E s
noncomputable def Cmp (n : Nat) (op : CmpOp) (d₁ d₂ : D) (b : Bool) : Prop :=
  ∀ (X : Addr → Prop) (A : Around) (E : Value → Shared → Prop) (s : Shared) (v₁ v₂ : Value) (Q : Value → Shared → Prop),
    Room n A → Glo c X s.heap → Rep X s.heap v₁ d₁ → Rep X s.heap v₂ d₂ →
    (∀ s', Keeps s s' → Q (.bool b) s') → wpAny c.M A (compareOp op v₁ v₂) Q E s
noncomputable def Tru (n : Nat) (d : D) (b : Bool) : Prop :=
  ∀ (X : Addr → Prop) (A : Around) (E : Value → Shared → Prop) (s : Shared) (v : Value) (Q : Bool → Shared → Prop),
    Room n A → Glo c X s.heap → Rep X s.heap v d → (∀ s', Keeps s s' → Q b s') → wpAny c.M A (truthy v) Q E s
section
variable {c : Cx} {n : Nat} {sc : Scope} {ρ : Loc} {pos : Pos} {d d₁ d₂ : D} {l r e : PySem.Expr}
theorem ev_bin {op : Operator} (hl : Ev c n sc ρ l d₁) (hr : Ev c n sc ρ r d₂) (h : Bin c n op d₁ d₂ d) : Ev c n sc ρ (.BinOp l op r pos) d := by
  intro X A E s env Q R G he F hQ
  refine wpAny_BinOp (hl X A E s env _ R G he F fun v₁ s₁ k₁ r₁ => ?_)
  refine hr X A E s₁ env _ R (G.keeps (keeps_heap k₁)) he (F.keeps (keeps_heap k₁)) fun v₂ s₂ k₂ r₂ => ?_
  refine h X A E s₂ v₁ v₂ Q R (G.keeps (keeps_heap (keeps_trans k₁ k₂))) (r₁.keeps (keeps_heap k₂)) r₂ fun v s' k r => hQ v s' (keeps_trans (keeps_trans k₁ k₂) k) r
theorem ev_cmp {op : CmpOp} {b : Bool} (hl : Ev c n sc ρ l d₁) (hr : Ev c n sc ρ r d₂) (h : Cmp c n op d₁ d₂ b) (hm : behindInMarks op r = false := by with_unfolding_all rfl) : Ev c n sc ρ (.Compare l [op] [r] pos) (.bool b) := by
  intro X A E s env Q R G he F hQ
  refine wpAny_Compare1 (hl X A E s env _ R G he F fun v₁ s₁ k₁ r₁ => ?_) hm
  refine hr X A E s₁ env _ R (G.keeps (keeps_heap k₁)) he (F.keeps (keeps_heap k₁)) fun v₂ s₂ k₂ r₂ => ?_
  refine h X A E s₂ v₁ v₂ Q R (G.keeps (keeps_heap (keeps_trans k₁ k₂))) (r₁.keeps (keeps_heap k₂)) r₂ fun s' k => hQ _ s' (keeps_trans (keeps_trans k₁ k₂) k) (.bool b)
theorem tst_cmp {op : CmpOp} {b : Bool} (hl : Ev c n sc ρ l d₁) (hr : Ev c n sc ρ r d₂) (h : Cmp c n op d₁ d₂ b) (hm : behindInMarks op r = false := by with_unfolding_all rfl) : Tst c n sc ρ (.Compare l [op] [r] pos) b := by
  intro X A E s env Q R G he F hQ
  refine wpAny_isTrue_Compare1 (hl X A E s env _ R G he F fun v₁ s₁ k₁ r₁ => ?_) hm
  refine hr X A E s₁ env _ R (G.keeps (keeps_heap k₁)) he (F.keeps (keeps_heap k₁)) fun v₂ s₂ k₂ r₂ => ?_
  refine h X A E s₂ v₁ v₂ _ R (G.keeps (keeps_heap (keeps_trans k₁ k₂))) (r₁.keeps (keeps_heap k₂)) r₂ fun s' k => ?_
  exact wpAny_truthy_bool (hQ s' (keeps_trans (keeps_trans k₁ k₂) k))
/-- a chain of two comparisons whose first is a bool -/
theorem tst_chain2 {op₁ op₂ : CmpOp} {r₂ : PySem.Expr} {d₃ : D} {b₁ b₂ : Bool} (hl : Ev c n sc ρ l d₁) (hr : Ev c n sc ρ r d₂) (hr₂ : b₁ = true → Ev c n sc ρ r₂ d₃) (h₁ : Cmp c n op₁ d₁ d₂ b₁) (h₂ : b₁ = true → Cmp c n op₂ d₂ d₃ b₂)
    (hm : lastMarks (op₁ :: op₂ :: []) (r :: r₂ :: []) = false := by with_unfolding_all rfl) : Tst c n sc ρ (.Compare l [op₁, op₂] [r, r₂] pos) (b₁ && b₂) := by
  intro X A E s env Q R G he F hQ
  refine isTrue_chain (hl X A E s env _ R G he F fun v₁ s₁ k₁ r₁ => ?_) hm
  show wpAny c.M A (do
    let rv ← holding [v₁] (eval r env)
    standAt pos
    let t ← holding [v₁, rv] (compareOp op₁ v₁ rv)
    release [v₁, rv] [t]
    if ← holding [t, rv] (truthy t) then testChain pos rv [op₂] [eval r₂ env] else pure false) Q E s₁
  refine wpAny_bind (wpAny_holding (hr X A E s₁ env _ R (G.keeps (keeps_heap k₁)) he (F.keeps (keeps_heap k₁)) fun v₂ s₂ k₂ r₂' => wpAny_bind (wpAny_standAt (wpAny_bind (wpAny_holding ?_)))))
  have G₂ := G.keeps (keeps_heap (keeps_trans k₁ k₂))
  refine h₁ X A E s₂ v₁ v₂ _ R G₂ (r₁.keeps (keeps_heap k₂)) r₂' fun s₃ k₃ => ?_
  refine wpAny_bind (wpAny_release (wpAny_bind (wpAny_holding (wpAny_truthy_bool ?_))))
  have k03 := keeps_trans (keeps_trans k₁ k₂) k₃
  cases b₁ with
  | false =>
    simp only [Bool.false_eq_true, if_false]
    exact wpAny_pure (hQ s₃ k03)
  | true =>
    simp only [if_true]
    show wpAny c.M A (do
      let rv ← holding [v₂] (eval r₂ env)
      standAt pos
      let t ← operate [v₂, rv] (compareOp op₂ v₂ rv)
      holding [t] (truthy t)) Q E s₃
    refine wpAny_bind (wpAny_holding (hr₂ rfl X A E s₃ env _ R (G.keeps (keeps_heap k03)) he (F.keeps (keeps_heap k03)) fun v₃ s₄ k₄ r₃ => wpAny_bind (wpAny_standAt (wpAny_bind (wpAny_operate' ?_)))))
    have k04 := keeps_trans k03 k₄
    refine h₂ rfl X A E s₄ v₂ v₃ _ R (G.keeps (keeps_heap k04)) (r₂'.keeps (keeps_heap (keeps_trans k₃ k₄))) r₃ fun s₅ k₅ => ?_
    exact wpAny_holding (wpAny_truthy_bool (hQ s₅ (keeps_trans k04 k₅)))
theorem tst_plain {b : Bool} (h : Ev c n sc ρ e d) (ht : Tru c n d b) (he : ∀ env whole, isTrue e env whole = (do let v ← whole; standAt e.pos; holding [v] (truthy v)) := by intro _ _; rfl) : Tst c n sc ρ e b := by
  intro X A E s env Q R G hs F hQ
  refine isTrue_plain (h X A E s env _ R G hs F fun v₁ s₁ k₁ r₁ => ?_) (he _ _)
  exact ht X A E s₁ v₁ Q R (G.keeps (keeps_heap k₁)) r₁ fun s' k => hQ s' (keeps_trans k₁ k)
theorem tst_not {b : Bool} (h : Tst c n sc ρ e b) : Tst c n sc ρ (.UnaryOp .Not e pos) (!b) := by
  intro X A E s env Q R G hs F hQ
  exact wpAny_isTrue_Not (h X A E s env _ R G hs F fun s' k => hQ s' k)
theorem tst_or {b₁ b₂ : Bool} (h₁ : Tst c n sc ρ l b₁) (h₂ : b₁ = false → Tst c n sc ρ r b₂) : Tst c n sc ρ (.BoolOp .Or [l, r] pos) (b₁ || b₂) := by
  intro X A E s env Q R G hs F hQ
  show wpAny c.M A (do
    match BoolOp.Or, ← isTrue l env (eval l env) with
    | .And, false => pure false
    | .Or, true => pure true
    | _, _ => do
      match BoolOp.Or, ← isTrue r env (eval r env) with
      | .And, false => pure false
      | .Or, true => pure true
      | _, _ => pure false) Q E s
  refine wpAny_bind (h₁ X A E s env _ R G hs F fun s₁ k₁ => ?_)
  cases b₁ with
  | true => exact wpAny_pure (hQ s₁ k₁)
  | false =>
    refine wpAny_bind (h₂ rfl X A E s₁ env _ R (G.keeps (keeps_heap k₁)) hs (F.keeps (keeps_heap k₁)) fun s₂ k₂ => ?_)
    cases b₂ <;> exact wpAny_pure (hQ s₂ (keeps_trans k₁ k₂))
theorem tst_and {b₁ b₂ : Bool} (h₁ : Tst c n sc ρ l b₁) (h₂ : b₁ = true → Tst c n sc ρ r b₂) : Tst c n sc ρ (.BoolOp .And [l, r] pos) (b₁ && b₂) := by
  intro X A E s env Q R G hs F hQ
  show wpAny c.M A (do
    match BoolOp.And, ← isTrue l env (eval l env) with
    | .And, false => pure false
    | .Or, true => pure true
    | _, _ => do
      match BoolOp.And, ← isTrue r env (eval r env) with
      | .And, false => pure false
      | .Or, true => pure true
      | _, _ => pure true) Q E s
  refine wpAny_bind (h₁ X A E s env _ R G hs F fun s₁ k₁ => ?_)
  cases b₁ with
  | false => exact wpAny_pure (hQ s₁ k₁)
  | true =>
    refine wpAny_bind (h₂ rfl X A E s₁ env _ R (G.keeps (keeps_heap k₁)) hs (F.keeps (keeps_heap k₁)) fun s₂ k₂ => ?_)
    cases b₂ <;> exact wpAny_pure (hQ s₂ (keeps_trans k₁ k₂))
theorem ev_or {b₁ b₂ : Bool} (h₁ : Ev c n sc ρ l (.bool b₁)) (h₂ : b₁ = false → Ev c n sc ρ r (.bool b₂)) : Ev c n sc ρ (.BoolOp .Or [l, r] pos) (.bool (b₁ || b₂)) := by
  intro X A E s env Q R G hs F hQ
  refine wpAny_Or2 (h₁ X A E s env _ R G hs F fun v₁ s₁ k₁ r₁ => ?_)
  cases r₁
  refine wpAny_truthy_bool ?_
  cases b₁ with
  | true => exact hQ _ s₁ k₁ (.bool true)
  | false =>
    refine h₂ rfl X A E s₁ env _ R (G.keeps (keeps_heap k₁)) hs (F.keeps (keeps_heap k₁)) fun v₂ s₂ k₂ r₂ => ?_
    exact hQ _ s₂ (keeps_trans k₁ k₂) (by simpa using r₂)
theorem ev_and {b₁ b₂ : Bool} (h₁ : Ev c n sc ρ l (.bool b₁)) (h₂ : b₁ = true → Ev c n sc ρ r (.bool b₂)) : Ev c n sc ρ (.BoolOp .And [l, r] pos) (.bool (b₁ && b₂)) := by
  intro X A E s env Q R G hs F hQ
  refine wpAny_And2 (h₁ X A E s env _ R G hs F fun v₁ s₁ k₁ r₁ => ?_)
  cases r₁
  refine wpAny_truthy_bool ?_
  cases b₁ with
  | false => exact hQ _ s₁ k₁ (.bool false)
  | true =>
    refine h₂ rfl X A E s₁ env _ R (G.keeps (keeps_heap k₁)) hs (F.keeps (keeps_heap k₁)) fun v₂ s₂ k₂ r₂ => ?_
    exact hQ _ s₂ (keeps_trans k₁ k₂) (by simpa using r₂)
theorem ev_if {t : PySem.Expr} {b : Bool} (ht : Tst c n sc ρ t b) (h₁ : b = true → Ev c n sc ρ l d) (h₂ : b = false → Ev c n sc ρ r d) : Ev c n sc ρ (.IfExp t l r pos) d := by
  intro X A E s env Q R G hs F hQ
  refine wpAny_IfExp (ht X A E s env _ R G hs F fun s₁ k₁ => ?_)
  cases b with
  | true => exact h₁ rfl X A E s₁ env _ R (G.keeps (keeps_heap k₁)) hs (F.keeps (keeps_heap k₁)) fun v₂ s₂ k₂ r₂ => hQ _ s₂ (keeps_trans k₁ k₂) r₂
  | false => exact h₂ rfl X A E s₁ env _ R (G.keeps (keeps_heap k₁)) hs (F.keeps (keeps_heap k₁)) fun v₂ s₂ k₂ r₂ => hQ _ s₂ (keeps_trans k₁ k₂) r₂
theorem ev_mono {m : Nat} (h : Ev c n sc ρ e d) (hm : n ≤ m) : Ev c m sc ρ e d := fun X A E s env Q R G hs F hQ => h X A E s env Q (R.mono hm) G hs F hQ
theorem tru_bool {b : Bool} : Tru c n (.bool b) b := by
  intro X A E s v Q R G r h
  cases r
  exact wpAny_truthy_bool (h s (keeps_refl s))
theorem tru_none : Tru c n .none false := by
  intro X A E s v Q R G r h
  cases r
  exact truthy_none (h s (keeps_refl s))
theorem tru_int {i : Int} : Tru c n (.int i) (i != 0) := by
  intro X A E s v Q R G r h
  obtain ⟨_, rfl⟩ := rep_inv r
  exact truthy_int (h s (keeps_refl s))
theorem bin_add {a b : Int} : Bin c n .Add (.int a) (.int b) (.int (a + b)) := by
  intro X A E s v₁ v₂ Q R G r₁ r₂ h
  obtain ⟨_, rfl⟩ := rep_inv r₁; obtain ⟨_, rfl⟩ := rep_inv r₂
  exact add_int (h _ _ (keeps_tok s _) (.int _ _))
theorem bin_sub {a b : Int} : Bin c n .Sub (.int a) (.int b) (.int (a - b)) := by
  intro X A E s v₁ v₂ Q R G r₁ r₂ h
  obtain ⟨_, rfl⟩ := rep_inv r₁; obtain ⟨_, rfl⟩ := rep_inv r₂
  exact sub_int (h _ _ (keeps_tok s _) (.int _ _))
theorem bin_mul {a b : Int} (hm : IntMulOk a b) : Bin c n .Mult (.int a) (.int b) (.int (a * b)) := by
  intro X A E s v₁ v₂ Q R G r₁ r₂ h
  obtain ⟨_, rfl⟩ := rep_inv r₁; obtain ⟨_, rfl⟩ := rep_inv r₂
  exact mul_int (h _ _ (keeps_tok s _) (.int _ _)) hm
theorem bin_mod {a b : Int} (hb : b ≠ 0) : Bin c n .Mod (.int a) (.int b) (.int (a.fmod b)) := by
  intro X A E s v₁ v₂ Q R G r₁ r₂ h
  obtain ⟨_, rfl⟩ := rep_inv r₁; obtain ⟨_, rfl⟩ := rep_inv r₂
  exact mod_int hb (h _ _ (keeps_tok s _) (.int _ _))
theorem bin_floordiv {a b : Int} (hb : b ≠ 0) (hp : Builtin.divisionGoesByPylong a b = false) : Bin c n .FloorDiv (.int a) (.int b) (.int (a.fdiv b)) := by
  intro X A E s v₁ v₂ Q R G r₁ r₂ h
  obtain ⟨_, rfl⟩ := rep_inv r₁; obtain ⟨_, rfl⟩ := rep_inv r₂
  exact floordiv_int hb (h _ _ (keeps_tok s _) (.int _ _)) (.inl hp)
theorem cmp_eq {a b : Int} : Cmp c n .Eq (.int a) (.int b) (a == b) := by
  intro X A E s v₁ v₂ Q R G r₁ r₂ h
  obtain ⟨_, rfl⟩ := rep_inv r₁; obtain ⟨_, rfl⟩ := rep_inv r₂
  exact eq_int (h s (keeps_refl s))
theorem cmp_lt {a b : Int} : Cmp c n .Lt (.int a) (.int b) (decide (a < b)) := by
  intro X A E s v₁ v₂ Q R G r₁ r₂ h
  obtain ⟨_, rfl⟩ := rep_inv r₁; obtain ⟨_, rfl⟩ := rep_inv r₂
  exact lt_int (h s (keeps_refl s))
theorem cmp_gt {a b : Int} : Cmp c n .Gt (.int a) (.int b) (decide (b < a)) := by
  intro X A E s v₁ v₂ Q R G r₁ r₂ h
  obtain ⟨_, rfl⟩ := rep_inv r₁; obtain ⟨_, rfl⟩ := rep_inv r₂
  exact gt_int (h s (keeps_refl s))
theorem cmp_le {a b : Int} : Cmp c n .LtE (.int a) (.int b) (decide (a ≤ b)) := by
  intro X A E s v₁ v₂ Q R G r₁ r₂ h
  obtain ⟨_, rfl⟩ := rep_inv r₁; obtain ⟨_, rfl⟩ := rep_inv r₂
  exact PyProof.Rows.le_int (h s (keeps_refl s))
theorem cmp_ge {a b : Int} : Cmp c n .GtE (.int a) (.int b) (decide (b ≤ a)) := by
  intro X A E s v₁ v₂ Q R G r₁ r₂ h
  obtain ⟨_, rfl⟩ := rep_inv r₁; obtain ⟨_, rfl⟩ := rep_inv r₂
  exact PyProof.Rows.ge_int (h s (keeps_refl s))
theorem cmp_is_none_true {op : CmpOp} (ho : op = .Is) : Cmp c n op .none .none true := by
  subst ho
  intro X A E s v₁ v₂ Q R G r₁ r₂ h
  cases r₁; cases r₂
  exact fun _ _ _ => h s (keeps_refl s)
end
end Mine
end
section
open PySem PySem.W PyProof.Rows PySem.Calls
set_option maxRecDepth 10000
namespace Mine
noncomputable def mainOnly (b : Addr) (env : Env) (ow : List (Str × Addr)) : Prop := b ≠ env.locals ∧ ∀ x, ow.lookup x ≠ some b
structure Base (c : Cx) (X : Addr → Prop) (os : List Str) (h₀ : Heap) (s : Shared) (env : Env) (ow : List (Str × Addr)) : Prop where
  glo : Glo0 c h₀
  vis : Vis X s.heap
  keep : KeepsH h₀ s.heap
  fresh : h₀.get? env.locals = none
  nohdr : ∃ m, s.heap.Ns env.locals m ∧ m hname = none
  cells : ∀ x a, ow.lookup x = some a → env.cells.lookup x = some a ∧ h₀.get? a = none ∧ ∃ v, s.heap.IsCell a v
  has : ∀ x ∈ os, ∃ a, ow.lookup x = some a
theorem Base.gl {c : Cx} {X : Addr → Prop} {os : List Str} {h₀ : Heap} {s : Shared} {env : Env} {ow : List (Str × Addr)} (B : Base c X os h₀ s env ow) : Glo c X s.heap := ⟨B.glo.keeps B.keep, B.vis⟩
theorem Base.more {c : Cx} {X : Addr → Prop} {os : List Str} {h₀ : Heap} {s s' : Shared} {env : Env} {ow : List (Str × Addr)} (B : Base c X os h₀ s env ow) (k : KeepsH s.heap s'.heap) : Base c X os h₀ s' env ow := by
  obtain ⟨a, vi, b, d, ⟨m, hm, hx⟩, e, g⟩ := B
  exact ⟨a, vi.keeps k, b.trans k, d, ⟨m, hm.keeps k, hx⟩, fun x y h => ⟨(e x y h).1, (e x y h).2.1, (e x y h).2.2.elim fun v hv => ⟨v, hv.keeps k⟩⟩, g⟩
/-- all but the frame's own has stayed -/
noncomputable def Moved (env : Env) (ow : List (Str × Addr)) (s s' : Shared) : Prop :=
  (∃ h' tk, s' = { s with heap := h', toks := tk }) ∧ ∀ b o, mainOnly b env ow → s.heap.get? b = some o → s'.heap.get? b = some o
theorem Moved.of_keeps {env : Env} {ow : List (Str × Addr)} {s s' : Shared} (k : Keeps s s') : Moved env ow s s' := by
  obtain ⟨h', tk, rfl, k⟩ := k
  exact ⟨⟨h', tk, rfl⟩, fun b o _ e => k b o e⟩
theorem Moved.trans {env : Env} {ow : List (Str × Addr)} {s s' s'' : Shared} (k : Moved env ow s s') (l : Moved env ow s' s'') : Moved env ow s s'' := by
  obtain ⟨⟨h', tk, rfl⟩, k⟩ := k
  obtain ⟨⟨h'', tk', rfl⟩, l⟩ := l
  exact ⟨⟨h'', tk', rfl⟩, fun b o hb e => l b o hb (k b o hb e)⟩
theorem Base.notDat {c : Cx} {X : Addr → Prop} {os : List Str} {h₀ : Heap} {s : Shared} {env : Env} {ow : List (Str × Addr)} (B : Base c X os h₀ s env ow) {b : Addr} {o : Obj} (ho : s.heap.get? b = some o) (hd : Dat o = true) : mainOnly b env ow := by
  constructor
  · rintro rfl
    obtain ⟨m, ⟨o', es, ep, h1, h2, _, h4⟩, hx⟩ := B.nohdr
    rw [ho] at h1; cases h1
    unfold Dat at hd
    rw [h2] at hd
    dsimp only at hd
    rw [h4, hx] at hd
    cases hd
  · intro x hx
    obtain ⟨_, _, v, o', h1, h2⟩ := B.cells x b hx
    rw [ho] at h1; cases h1
    unfold Dat at hd
    rw [h2] at hd
    cases hd
theorem Moved.seqs {c : Cx} {X : Addr → Prop} {os : List Str} {h₀ : Heap} {s s' : Shared} {env : Env} {ow : List (Str × Addr)} (B : Base c X os h₀ s env ow) (k : Moved env ow s s') : Seqs X s.heap s'.heap :=
  fun a o _ ho hd => k.2 a o (B.notDat ho hd) ho
theorem Moved.keep {c : Cx} {X : Addr → Prop} {os : List Str} {h₀ : Heap} {s s' : Shared} {env : Env} {ow : List (Str × Addr)} (B : Base c X os h₀ s env ow) (k : Moved env ow s s') : KeepsH h₀ s'.heap := fun b o ho => by
  refine k.2 b o ⟨?_, fun x hx => ?_⟩ (B.keep b o ho)
  · rintro rfl; rw [B.fresh] at ho; cases ho
  · rw [(B.cells x b hx).2.1] at ho; cases ho
theorem Moved.vis {c : Cx} {X : Addr → Prop} {os : List Str} {h₀ : Heap} {s s' : Shared} {env : Env} {ow : List (Str × Addr)} (B : Base c X os h₀ s env ow) (k : Moved env ow s s')
    (hL : ∃ o, s'.heap.get? env.locals = some o) (hc : ∀ x a, ow.lookup x = some a → ∃ o, s'.heap.get? a = some o) : Vis X s'.heap := fun b q => by
  obtain ⟨o, ho⟩ := B.vis b q
  by_cases h1 : b = env.locals
  · subst h1; exact hL
  · by_cases h2 : ∃ x, ow.lookup x = some b
    · obtain ⟨x, hx⟩ := h2; exact hc x b hx
    · exact ⟨o, k.2 b o ⟨h1, fun x hx => h2 ⟨x, hx⟩⟩ ho⟩
inductive Out where
  | next (ρ : Loc)
  | ret (d : D)
noncomputable def OutOK (X : Addr → Prop) (s : Shared) (env : Env) : Out → Flow → Prop
  | .next ρ, f => f = .next ∧ FrameOK X s env ρ
  | .ret d, f => ∃ v, f = .ret v ∧ Rep X s.heap v d
variable (c : Cx)
noncomputable def Ex (n : Nat) (os : List Str) (sc : Scope) (ρ : Loc) (b : List Stmt) (out : Out) : Prop :=
  ∀ (X : Addr → Prop) (A : Around) (E : Value → Shared → Prop) (s : Shared) (env : Env) (ow : List (Str × Addr)) (h₀ : Heap) (Q : Flow → Shared → Prop),
    Room n A → Base c X os h₀ s env ow → env.scope = sc → FrameOK X s env ρ →
    (∀ f s', Moved env ow s s' → Base c X os h₀ s' env ow → OutOK X s' env out f → Q f s') → wpAny c.M A (execs b env) Q E s
noncomputable def Ex1 (n : Nat) (os : List Str) (sc : Scope) (ρ : Loc) (st : Stmt) (out : Out) : Prop :=
  ∀ (X : Addr → Prop) (A : Around) (E : Value → Shared → Prop) (s : Shared) (env : Env) (ow : List (Str × Addr)) (h₀ : Heap) (Q : Flow → Shared → Prop),
    Room n A → Base c X os h₀ s env ow → env.scope = sc → FrameOK X s env ρ →
    (∀ f s', Moved env ow s s' → Base c X os h₀ s' env ow → OutOK X s' env out f → Q f s') → wpAny c.M A (exec st env) Q E s
/-- a store under a name -/
noncomputable def Sto (n : Nat) (os : List Str) (sc : Scope) (ρ : Loc) (x : Str) (d : D) : Prop :=
  ∀ (X : Addr → Prop) (A : Around) (E : Value → Shared → Prop) (s : Shared) (env : Env) (ow : List (Str × Addr)) (h₀ : Heap) (v : Value) (Q : Unit → Shared → Prop),
    Room n A → Base c X os h₀ s env ow → env.scope = sc → FrameOK X s env ρ → Rep X s.heap v d →
    (∀ s', Moved env ow s s' → Base c X os h₀ s' env ow → FrameOK X s' env ((x, d) :: ρ) → Q () s') → wpAny c.M A (storeName env x v) Q E s
section
variable {c : Cx} {n : Nat} {os : List Str} {sc : Scope} {ρ : Loc} {x : Str} {pos : Pos} {d : D}
theorem lookup_cons_ne {ρ : Loc} {x y : Str} {d : D} (h : y ≠ x) : List.lookup y ((x, d) :: ρ) = ρ.lookup y := by
  have e : (y == x) = false := by simpa using h
  simp [List.lookup, e]
theorem lookup_cons_self {ρ : Loc} {x : Str} {d : D} : List.lookup x ((x, d) :: ρ) = some d := by
  simp [List.lookup]
theorem sto_local (hk : sc.names.lookup x = some .local) (hx : x ≠ hname) : Sto c n os sc ρ x d := by
  intro X A E s env ow h₀ v Q R B he F r h
  subst he
  obtain ⟨m, hm, hl⟩ := F.loc
  have hp : (env.scope.kind == .class || (env.scope.kind == .module && env.locals != env.globals)) = false := by rw [F.fn]; rfl
  refine wpAny_storeName_local hk hm (fun h' hn hs => ?_) hp
  have hmv : Moved env ow s { s with heap := h', toks := s.toks + 1 } := ⟨⟨_, _, rfl⟩, fun b o hb e => (hs.2 b hb.1).trans e⟩
  have hsq := hmv.seqs B
  have hcl : ∀ {a : Addr} {w : Option Value}, s.heap.IsCell a w → h'.IsCell a w := fun {a w} ⟨o, h1, h2⟩ => by
    refine ⟨o, (hs.2 a ?_).trans h1, h2⟩
    rintro rfl
    obtain ⟨o', es, ep, h3, h4, _⟩ := hm
    rw [h1] at h3; cases h3
    rw [h2] at h4; cases h4
  have hmm : ∀ m', s.heap.Ns env.locals m' → m' = m := fun m' hm' => by
    obtain ⟨o1, es1, ep1, a1, a2, _, a4⟩ := hm'
    obtain ⟨o2, es2, ep2, b1, b2, _, b4⟩ := hm
    rw [a1] at b1; cases b1
    rw [a2] at b2; cases b2
    funext y
    rw [← a4, ← b4]
  refine h _ hmv ⟨B.glo, hmv.vis B (by obtain ⟨o, _, _, q, _⟩ := hn; exact ⟨o, q⟩) (fun y a hy => by obtain ⟨_, _, v, hv⟩ := B.cells y a hy; obtain ⟨o, q, _⟩ := hcl hv; exact ⟨o, q⟩), hmv.keep B, B.fresh, ⟨_, hn, ?_⟩, fun y a hy => ⟨(B.cells y a hy).1, (B.cells y a hy).2.1, (B.cells y a hy).2.2.elim fun v hv => ⟨v, hcl hv⟩⟩, B.has⟩ ⟨F.fn, F.gl, F.bl, ⟨_, hn, fun y e hy hl' => ?_⟩, fun y e hy hl' => ?_, F.apart⟩
  · rw [if_neg (Ne.symm hx)]
    obtain ⟨m', hm', hh⟩ := B.nohdr
    rw [hmm m' hm'] at hh
    exact hh
  · by_cases hyx : y = x
    · subst hyx
      rw [lookup_cons_self] at hl'
      cases hl'
      exact ⟨v, if_pos rfl, r.seqs hsq⟩
    · rw [lookup_cons_ne hyx] at hl'
      obtain ⟨u, hu, ru⟩ := hl y e hy hl'
      exact ⟨u, by rw [if_neg hyx]; exact hu, ru.seqs hsq⟩
  · have hyx : y ≠ x := by rintro rfl; rw [hk] at hy; rcases hy with hy | hy <;> cases hy
    rw [lookup_cons_ne hyx] at hl'
    obtain ⟨cl, u, h1, h2, ru⟩ := F.cel y e hy hl'
    exact ⟨cl, u, h1, hcl h2, ru.seqs hsq⟩
theorem sto_cell (hk : sc.names.lookup x = some .cell) (hos : x ∈ os) : Sto c n os sc ρ x d := by
  intro X A E s env ow h₀ v Q R B he F r h
  subst he
  obtain ⟨cl, how⟩ := B.has x hos
  obtain ⟨hcl, hc0, v₀, hv₀⟩ := B.cells x cl how
  refine wpAny_storeName_cell F.fn hk hcl hv₀ fun h' hn hs => ?_
  have hmv : Moved env ow s { s with heap := h' } := ⟨⟨_, _, rfl⟩, fun b o hb e => (hs.2 b (by rintro rfl; exact hb.2 x how)).trans e⟩
  have hsq := hmv.seqs B
  have hL : env.locals ≠ cl := by
    rintro rfl
    obtain ⟨m, ⟨o', es, ep, h3, h4, _⟩, _⟩ := B.nohdr
    obtain ⟨o, h1, h2⟩ := hv₀
    rw [h1] at h3; cases h3
    rw [h2] at h4; cases h4
  have hcc : ∀ y a, ow.lookup y = some a → ∃ v, h'.IsCell a v := fun y a hy => by
    by_cases ha : a = cl
    · subst ha; exact ⟨_, hn⟩
    · obtain ⟨_, _, u, o, h1, h2⟩ := B.cells y a hy
      exact ⟨u, o, (hs.2 a ha).trans h1, h2⟩
  refine h _ hmv ⟨B.glo, hmv.vis B ?_ (fun y a hy => by obtain ⟨v, o, q, _⟩ := hcc y a hy; exact ⟨o, q⟩), hmv.keep B, B.fresh, ?_, fun y a hy => ⟨(B.cells y a hy).1, (B.cells y a hy).2.1, hcc y a hy⟩, B.has⟩ ⟨F.fn, F.gl, F.bl, ?_, fun y e hy hl' => ?_, F.apart⟩
  · obtain ⟨m, ⟨o, _, _, q, _⟩, hh⟩ := B.nohdr
    exact ⟨o, (hs.2 _ hL).trans q⟩
  · obtain ⟨m, hm, hh⟩ := B.nohdr
    exact ⟨m, hm.sameBut hs hL, hh⟩
  · obtain ⟨m, hm, hl⟩ := F.loc
    refine ⟨m, hm.sameBut hs hL, fun y e hy hl' => ?_⟩
    have hyx : y ≠ x := by rintro rfl; rw [hk] at hy; cases hy
    rw [lookup_cons_ne hyx] at hl'
    obtain ⟨u, hu, ru⟩ := hl y e hy hl'
    exact ⟨u, hu, ru.seqs hsq⟩
  · by_cases hyx : y = x
    · subst hyx
      rw [lookup_cons_self] at hl'
      cases hl'
      exact ⟨cl, v, hcl, hn, r.seqs hsq⟩
    · rw [lookup_cons_ne hyx] at hl'
      obtain ⟨cl', u, h1, ⟨o, h2, h3⟩, ru⟩ := F.cel y e hy hl'
      have hne : cl' ≠ cl := by rintro rfl; exact hyx (F.apart _ _ _ h1 hcl)
      exact ⟨cl', u, h1, ⟨o, (hs.2 cl' hne).trans h2, h3⟩, ru.seqs hsq⟩
theorem ex_nil : Ex c n os sc ρ [] (.next ρ) := by
  intro X A E s env ow h₀ Q R B he F h
  exact wpAny_execs_nil (h _ s (Moved.of_keeps (keeps_refl s)) B ⟨rfl, F⟩)
theorem ex_cons {st : Stmt} {b : List Stmt} {ρ' : Loc} {out : Out} (h₁ : Ex1 c n os sc ρ st (.next ρ')) (h₂ : Ex c n os sc ρ' b out) : Ex c n os sc ρ (st :: b) out := by
  intro X A E s env ow h₀ Q R B he F h
  refine wpAny_execs_cons (h₁ X A E s env ow h₀ _ R B he F fun f s' mv B' ho => ?_)
  obtain ⟨rfl, F'⟩ := ho
  exact h₂ X A E s' env ow h₀ _ R B' he F' fun f s'' mv' B'' ho => h f s'' (mv.trans mv') B'' ho
theorem ex_ret {st : Stmt} {b : List Stmt} (h₁ : Ex1 c n os sc ρ st (.ret d)) : Ex c n os sc ρ (st :: b) (.ret d) := by
  intro X A E s env ow h₀ Q R B he F h
  refine wpAny_execs_cons (h₁ X A E s env ow h₀ _ R B he F fun f s' mv B' ho => ?_)
  obtain ⟨v, rfl, r⟩ := ho
  exact h _ s' mv B' ⟨v, rfl, r⟩
theorem ex1_return {e : PySem.Expr} (he : Ev c n sc ρ e d) : Ex1 c n os sc ρ (.Return (some e) pos) (.ret d) := by
  intro X A E s env ow h₀ Q R B hs F h
  exact wpAny_Return_some (he X A E s env _ R B.gl hs F fun v s' k r => h _ s' (Moved.of_keeps k) (B.more (keeps_heap k)) ⟨v, rfl, r⟩)
theorem ex1_returnNone : Ex1 c n os sc ρ (.Return none pos) (.ret .none) := by
  intro X A E s env ow h₀ Q R B hs F h
  exact wpAny_Return_none (h _ s (Moved.of_keeps (keeps_refl s)) B ⟨_, rfl, .none⟩)
theorem ex1_assign {e : PySem.Expr} {px : Pos} (he : Ev c n sc ρ e d) (hst : Sto c n os sc ρ x d) (hsw : ∀ env : Env, swapsWith e (some (.Name x px)) pos.line env = pure false := by intro _; rfl) : Ex1 c n os sc ρ (.Assign [.Name x px] e pos) (.next ((x, d) :: ρ)) := by
  intro X A E s env ow h₀ Q R B hs F h
  refine wpAny_Assign_Name (he X A E s env _ R B.gl hs F fun v s' k r => ?_) (hsw env)
  refine hst X A E s' env ow h₀ v _ R (B.more (keeps_heap k)) hs (F.keeps (keeps_heap k)) r fun s'' mv B' F' => ?_
  exact h _ s'' ((Moved.of_keeps k).trans mv) B' ⟨rfl, F'⟩
theorem ex1_if {t : PySem.Expr} {b : Bool} {l r : List Stmt} {out : Out} (ht : Tst c n sc ρ t b) (h₁ : b = true → Ex c n os sc ρ l out) (h₂ : b = false → Ex c n os sc ρ r out) : Ex1 c n os sc ρ (.If t l r pos) out := by
  intro X A E s env ow h₀ Q R B hs F h
  refine wpAny_If (ht X A E s env _ R B.gl hs F fun s' k => ?_)
  have kk := keeps_heap k
  cases b with
  | true => exact h₁ rfl X A E s' env ow h₀ _ R (B.more kk) hs (F.keeps kk) fun f s'' mv B' ho => h f s'' ((Moved.of_keeps k).trans mv) B' ho
  | false => exact h₂ rfl X A E s' env ow h₀ _ R (B.more kk) hs (F.keeps kk) fun f s'' mv B' ho => h f s'' ((Moved.of_keeps k).trans mv) B' ho
end
end Mine
end
section
open PySem PySem.W PyProof.Rows PySem.Calls
set_option maxRecDepth 10000
namespace Mine
noncomputable def Out.val : Out → D
  | .ret d => d
  | .next _ => .none
variable (c : Cx)
/-- a call by position: what it gives -/
noncomputable def Fn (n : Nat) (f : Value) (ds : List D) (d : D) : Prop :=
  ∀ (X : Addr → Prop) (A : Around) (E : Value → Shared → Prop) (s : Shared) (vs : List Value) (Q : Value → Shared → Prop),
    Room n A → Glo c X s.heap → Reps X s.heap vs ds → (∀ v s', Keeps s s' → Rep X s'.heap v d → Q v s') → wpAny c.M A (call f vs) Q E s
section
variable {c : Cx} {n : Nat}
theorem bindL_get {k : Str → Option NameKind} {x : Str} (hx : k x = some .local) : ∀ (bs : List (Str × Value)) (m : Str → Option Value),
    bindL k bs m x = match bs.reverse.lookup x with | some v => some v | none => m x
  | [], m => rfl
  | (n, v) :: r, m => by
    show bindL k r _ x = _
    rw [bindL_get hx r, List.reverse_cons, List.lookup_append]
    cases h : r.reverse.lookup x with
    | some u => simp
    | none =>
      by_cases hn : x = n
      · subst hn; simp [hx, List.lookup]
      · have e : (x == n) = false := by simpa using hn
        by_cases hk : k n = some .local
        · simp [hk, List.lookup, e, hn]
        · simp [hk, List.lookup, e]
theorem bindC_get {k : Str → Option NameKind} {x : Str} (hx : k x ≠ some .local) : ∀ (bs : List (Str × Value)) (m : Str → Option Value),
    bindC k bs m x = match bs.reverse.lookup x with | some v => some v | none => m x
  | [], m => rfl
  | (n, v) :: r, m => by
    show bindC k r _ x = _
    rw [bindC_get hx r, List.reverse_cons, List.lookup_append]
    cases h : r.reverse.lookup x with
    | some u => simp
    | none =>
      by_cases hn : x = n
      · subst hn; simp [hx, List.lookup]
      · have e : (x == n) = false := by simpa using hn
        by_cases hk : k n = some .local
        · simp [hk, List.lookup, e]
        · simp [hk, List.lookup, e, hn]
theorem lookup_rev {α : Type} : ∀ {l : List (Str × α)} {x : Str}, (l.map (·.1)).Nodup → l.reverse.lookup x = l.lookup x
  | [], _, _ => rfl
  | (a, v) :: r, x, h => by
    simp only [List.map_cons, List.nodup_cons] at h
    rw [List.reverse_cons, List.lookup_append, lookup_rev h.2]
    by_cases e : x = a
    · subst e
      have : r.lookup x = none := by
        rw [List.lookup_eq_none_iff]
        intro p hp
        have : p.1 ≠ x := fun q => h.1 (q ▸ List.mem_map_of_mem hp)
        simpa using fun q => this q.symm
      rw [this]
      simp [List.lookup]
    · have e' : (x == a) = false := by simpa using e
      simp [List.lookup, e']
theorem reps_zip {X : Addr → Prop} {h : Heap} : ∀ {names : List Str} {vs : List Value} {ds : List D}, Reps X h vs ds → ∀ {x : Str} {d : D}, (names.zip ds).lookup x = some d → ∃ v, (names.zip vs).lookup x = some v ∧ Rep X h v d
  | [], _, _, _, x, d, e => by simp at e
  | _ :: _, _, _, .nil, x, d, e => by simp at e
  | a :: names, _, _, .cons (v := v) r rs, x, d, e => by
    simp only [List.zip_cons_cons, List.lookup] at e ⊢
    cases hx : x == a with
    | true => rw [hx] at e; cases e; exact ⟨v, rfl, r⟩
    | false => rw [hx] at e; exact reps_zip rs e
structure FnAt (c : Cx) (a : Addr) (fd : FuncData) (body : List Stmt) (names : List Str) : Prop where
  obj : ∀ h, c.K.In h → (∃ o, h.get? a = some o ∧ o.data = .func fd) ∧ h.CodeRec fd.code fd.qualname
  body : fd.body = .stmts body
  gl : fd.globals = mainGlobals
  clos : fd.closure = []
  bl : fd.builtins = builtinsNs
  bind : ∀ vs : List Value, vs.length = names.length → bindArgs fd ⟨vs, []⟩ = pure (names.zip vs)
  nodup : names.Nodup
  kinds : ∀ x ∈ names, fd.scope.names.lookup x = some .local ∨ fd.scope.names.lookup x = some .cell
  hdr : ∀ x ∈ names, x ≠ hname
  fn : fd.scope.kind = .function
  co : fd.scope.isCoroutine = false
  gen : fd.scope.isGenerator = false
  cells : ∀ (k : Nat) x, fd.scope.names.lookup x = some .cell → ((cellsFrom k fd.scope.names []).lookup x).isSome = true
  cellsOnly : ∀ (k : Nat) x a, (cellsFrom k fd.scope.names []).lookup x = some a → fd.scope.names.lookup x ≠ some .local
  free : ∀ x, fd.scope.names.lookup x ≠ some .free
theorem mem_of_lookup' {α : Type} : ∀ {l : List (Str × α)} {x : Str} {a : α}, l.lookup x = some a → (x, a) ∈ l
  | [], _, _, h => by simp at h
  | (m, b) :: r, x, a, h => by
    simp only [List.lookup] at h
    cases e : x == m with
    | true => rw [e] at h; cases h; rw [eq_of_beq e]; exact List.mem_cons_self
    | false => rw [e] at h; exact List.mem_cons_of_mem _ (mem_of_lookup' h)
theorem pairwise_same : ∀ {l : List (Str × Addr)}, (l.Pairwise fun x y => x.2 ≠ y.2) → ∀ {p q : Str × Addr}, p ∈ l → q ∈ l → p.2 = q.2 → p = q
  | [], _, p, q, hp, _, _ => by cases hp
  | z :: r, h, p, q, hp, hq, e => by
    rw [List.pairwise_cons] at h
    rcases List.mem_cons.mp hp with hp' | hp' <;> rcases List.mem_cons.mp hq with hq' | hq'
    · rw [hp', hq']
    · exact absurd (hp' ▸ e) (h.1 q hq')
    · exact absurd (hq' ▸ e.symm) (h.1 p hp')
    · exact pairwise_same h.2 hp' hq' e
theorem pairwise_lookup {l : List (Str × Addr)} (h : l.Pairwise fun x y => x.2 ≠ y.2) {x y : Str} {a : Addr} (hx : l.lookup x = some a) (hy : l.lookup y = some a) : x = y :=
  congrArg Prod.fst (pairwise_same h (mem_of_lookup' hx) (mem_of_lookup' hy) rfl)
theorem fn_def {a : Addr} {fd : FuncData} {body : List Stmt} {names : List Str} {ds : List D} {out : Out} (H : FnAt c a fd body names) (hlen : ds.length = names.length)
    {os : List Str} (hos : ∀ x ∈ os, fd.scope.names.lookup x = some .cell) (h : Ex c n os fd.scope (names.zip ds) body out) : Fn c (n + 1) (.ref a) ds out.val := by
  intro X A E s vs Q R G r hQ
  obtain ⟨⟨o, ho, hd⟩, hcd⟩ := H.obj s.heap G.k
  have hvl : vs.length = names.length := r.length.trans hlen
  refine wpAny_call (codeAny_call_function (A := A) (by have := R.depth; omega) ho hd H.co H.gen H.body hcd ?_)
  rw [H.bind vs hvl]
  refine wpAny_pure ?_
  rw [H.clos]
  have hmem : ∀ p ∈ names.zip vs, p.1 ∈ names := fun p hp => (List.of_mem_zip hp).1
  refine wpAny_newFunctionEnv_cells H.fn (fun x hx => ?_) fun env he s' ic => ?_
  · rcases H.kinds _ (hmem x hx) with h1 | h1
    · exact .inl h1
    · exact .inr ⟨h1, H.cells _ _ h1⟩
  have hsc : env.scope = fd.scope := by rw [he]; rfl
  have hcl : env.cells = cellsFrom (s.heap.objs.size + 1) fd.scope.names [] := by rw [he]; rfl
  have hko : env.kindOf = fun x => fd.scope.names.lookup x := by funext x; unfold Env.kindOf; rw [hsc]
  obtain ⟨⟨⟨h', tk, hs'⟩, hns, hkeep, hfresh⟩, hcell, hapart, habove⟩ := ic
  have hnd : ((names.zip vs).map (·.1)).Nodup := by
    rw [List.map_fst_zip (by omega)]; exact H.nodup
  have none_of : ∀ b, s.heap.objs.size ≤ b → s.heap.get? b = none := fun b hb => by
    cases e : s.heap.get? b with
    | none => rfl
    | some o' => exact absurd (Heap.lt_size e) (Nat.not_lt.mpr hb)
  have hK : KeepsH s.heap s'.heap := hkeep
  refine ⟨G.lim.keeps hkeep, codeAny_func ?_⟩
  have B : Base c X os s.heap s' env env.cells := by
    refine ⟨G.toGlo0, G.vis.keeps hK, hK, none_of _ hfresh, ⟨_, hns, ?_⟩, fun x b hb => ⟨hb, none_of _ ?_, _, hcell x b hb⟩, fun x hx => ?_⟩
    · by_cases hk : env.kindOf hname = some .local
      · rw [bindL_get hk, lookup_rev hnd]
        have : (names.zip vs).lookup hname = none := by
          rw [List.lookup_eq_none_iff]
          intro p hp
          have := H.hdr _ (hmem p hp)
          simpa using fun q => this q.symm
        rw [this]
      · have : ∀ (bs : List (Str × Value)) (m : Str → Option Value), (∀ p ∈ bs, p.1 ≠ hname) → bindL env.kindOf bs m hname = m hname := by
          intro bs
          induction bs with
          | nil => intro m _; rfl
          | cons p bs ih =>
            intro m hm
            obtain ⟨q, u⟩ := p
            show bindL env.kindOf bs _ hname = _
            rw [ih _ fun p hp => hm p (List.mem_cons_of_mem _ hp)]
            split
            · exact if_neg (Ne.symm (hm (q, u) List.mem_cons_self))
            · rfl
        rw [this _ _ fun p hp => H.hdr _ (hmem p hp)]
    · exact Nat.le_trans hfresh (Nat.le_of_lt (habove x b (mem_of_lookup' hb)))
    · rw [hcl]
      exact Option.isSome_iff_exists.mp (H.cells _ x (hos x hx))
  have rK : Reps X s'.heap vs ds := r.keeps hK
  have F : FrameOK X s' env (names.zip ds) := by
    refine ⟨by rw [hsc]; exact H.fn, by rw [he]; exact H.gl, by rw [he]; exact H.bl, ⟨_, hns, fun x d hx hd' => ?_⟩, fun x d hx hd' => ?_, fun x y b hx hy => pairwise_lookup hapart hx hy⟩
    · obtain ⟨v, hv, rv⟩ := reps_zip rK hd'
      refine ⟨v, ?_, rv⟩
      rw [bindL_get (by rw [hko]; rw [hsc] at hx; exact hx), lookup_rev hnd, hv]
    · rw [hsc] at hx
      rcases hx with hx | hx
      · obtain ⟨v, hv, rv⟩ := reps_zip rK hd'
        obtain ⟨b, hb⟩ := Option.isSome_iff_exists.mp (H.cells (s.heap.objs.size + 1) x hx)
        refine ⟨b, v, by rw [hcl]; exact hb, ?_, rv⟩
        have := hcell x b (by rw [hcl]; exact hb)
        rw [bindC_get (by rw [hko]; dsimp only; rw [hx]; intro q; cases q), lookup_rev hnd, hv] at this
        exact this
      · exact absurd hx (H.free x)
  refine h X _ _ s' env env.cells s.heap _ (R.deeper env) B hsc F fun f s'' mv B' ok => ?_
  have kk : Keeps s s'' := by
    obtain ⟨⟨h2, tk2, e2⟩, _⟩ := mv
    have kb := B'.keep
    rw [e2] at kb
    exact ⟨h2, tk2, by rw [e2, hs'], kb⟩
  cases out with
  | next ρ' =>
    obtain ⟨rfl, _⟩ := ok
    exact hQ _ s'' kk .none
  | ret d =>
    obtain ⟨v, rfl, rv⟩ := ok
    exact hQ _ s'' kk rv
end
end Mine
end
section
open PySem PySem.W PyProof.Rows PySem.Calls
set_option maxRecDepth 10000
namespace Mine
/-- the expressions' values, from left to right -/
inductive EvAll (c : Cx) (n : Nat) (sc : Scope) (ρ : Loc) : List PySem.Expr → List D → Prop
  | nil : EvAll c n sc ρ [] []
  | cons {e : PySem.Expr} {es : List PySem.Expr} {d : D} {ds : List D} : Ev c n sc ρ e d → (∀ rest env, starEach (e :: rest) env = (false, eval e env) :: starEach rest env) → EvAll c n sc ρ es ds → EvAll c n sc ρ (e :: es) (d :: ds)
theorem EvAll.cons' {c : Cx} {n : Nat} {sc : Scope} {ρ : Loc} {e : PySem.Expr} {es : List PySem.Expr} {d : D} {ds : List D} (h : Ev c n sc ρ e d) (r : EvAll c n sc ρ es ds)
    (hs : ∀ rest env, starEach (e :: rest) env = (false, eval e env) :: starEach rest env := by intro _ _; rfl) : EvAll c n sc ρ (e :: es) (d :: ds) := .cons h hs r
section
variable {c : Cx} {n : Nat} {sc : Scope} {ρ : Loc} {pos : Pos} {d : D}
theorem spliced_all {es : List PySem.Expr} {ds : List D} (h : EvAll c n sc ρ es ds) : ∀ (X : Addr → Prop) (A : Around) (E : Value → Shared → Prop) (s : Shared) (env : Env) (Q : List Value → Shared → Prop),
    Room n A → Glo c X s.heap → env.scope = sc → FrameOK X s env ρ →
    (∀ vs s', Keeps s s' → Reps X s'.heap vs ds → Q vs s') → wpAny c.M A (spliced (backTo pos (starEach es env))) Q E s := by
  induction h with
  | nil =>
    intro X A E s env Q R G he F hQ
    exact spliced_nil (hQ [] s (keeps_refl s) .nil)
  | cons hd hs _ ih =>
    intro X A E s env Q R G he F hQ
    rw [hs]
    refine spliced_cons (hd X A E s env _ R G he F fun v s₁ k₁ r₁ => ?_)
    refine ih X A E s₁ env _ R (G.keeps (keeps_heap k₁)) he (F.keeps (keeps_heap k₁)) fun vs s₂ k₂ r₂ => ?_
    exact hQ _ s₂ (keeps_trans k₁ k₂) (.cons (r₁.keeps (keeps_heap k₂)) r₂)
theorem back_any {es : List PySem.Expr} {ds : List D} (h : EvAll c n sc ρ es ds) (env : Env) : (backTo pos (starEach es env)).any (·.1) = false := by
  induction h with
  | nil => rfl
  | cons hd hs _ ih => rw [hs]; exact ih
noncomputable def KeepF (c : Cx) (f : Value) : Prop := ∀ h, c.K.In h → ∃ k, (k = Keeper.frame ∨ k = Keeper.machine ∨ k = Keeper.boundFrame) ∧ Looks c.M h (keeperOf f) k
theorem keepF_builtin (id : String) : KeepF c (.builtin id) := fun _ _ => ⟨.machine, .inr (.inl rfl), Looks.of_pure rfl⟩
theorem keepF_type (id : String) : KeepF c (.type id) := fun _ _ => ⟨.machine, .inr (.inl rfl), Looks.of_pure rfl⟩
theorem FnAt.keepF {a : Addr} {fd : FuncData} {body : List Stmt} {names : List Str} (H : FnAt c a fd body names) : KeepF c (.ref a) := fun h hk => by
  obtain ⟨⟨o, ho, hd⟩, _⟩ := H.obj h hk
  refine ⟨.frame, .inl rfl, ?_⟩
  refine (Looks.ld (part := none) ho).andThen ?_
  rw [hd]
  exact .now
theorem callWith_all {f : Value} {first : List Value} {fds : List D} {es : List PySem.Expr} {ds : List D} (hf : KeepF c f) (h : EvAll c n sc ρ es ds) (hc : Fn c n f (fds ++ ds) d)
    (X : Addr → Prop) (A : Around) (E : Value → Shared → Prop) (s : Shared) (env : Env) (Q : Value → Shared → Prop) (R : Room n A) (G : Glo c X s.heap) (he : env.scope = sc) (F : FrameOK X s env ρ) (r₀ : Reps X s.heap first fds)
    (hQ : ∀ v s', Keeps s s' → Rep X s'.heap v d → Q v s') : wpAny c.M A (callWith pos f first (backTo pos (starEach es env)) (backToKw pos [])) Q E s := by
  refine callWith_of (P := fun h => c.K.In h) (by rw [back_any h env]; rfl) hf ?_
  cases h with
  | nil =>
    refine evalArgs_nil3 ⟨G.k, ?_⟩
    exact hc X A E s _ Q R G (by simpa using r₀) hQ
  | cons hd hs hr =>
    have h' : EvAll c n sc ρ _ _ := .cons hd hs hr
    rw [hs]
    refine evalArgs_plain ?_
    have := spliced_all (pos := pos) h' X A E s env (fun vs s₁ => c.K.In s₁.heap ∧ wpAny c.M A (call f (first ++ vs) []) Q E s₁) R G he F fun vs s₁ k₁ r₁ => ⟨(G.keeps (keeps_heap k₁)).k, ?_⟩
    · rw [hs] at this
      exact this
    · exact hc X A E s₁ _ Q R (G.keeps (keeps_heap k₁)) ((r₀.keeps (keeps_heap k₁)).append r₁) fun v s' k r => hQ v s' (keeps_trans k₁ k) r
theorem ev_call {id : Str} {p : Pos} {f : Value} {es : List PySem.Expr} {ds : List D} (hn : EvV c n sc ρ (.Name id p) f) (hf : KeepF c f) (h : EvAll c n sc ρ es ds) (hc : Fn c n f ds d) : Ev c n sc ρ (.Call (.Name id p) es [] pos) d := by
  intro X A E s env Q R G he F hQ
  refine wpAny_Call_Name_kw (hn X A E s env _ R G he F fun s₁ k₁ => ?_)
  exact callWith_all (first := []) (fds := []) hf h hc X A E s₁ env Q R (G.keeps (keeps_heap k₁)) he (F.keeps (keeps_heap k₁)) .nil fun v s' k r => hQ v s' (keeps_trans k₁ k) r
theorem ev_list {es : List PySem.Expr} {ds : List D} (h : EvAll c n sc ρ es ds) (hz : es.length ≤ sizeLine := by decide) : Ev c n sc ρ (.List es pos) (.lst ds) := by
  intro X A E s env Q R G he F hQ
  refine wpAny_List_spliced (spliced_all h X A E s env _ R G he F fun vs s₁ k₁ r₁ => ⟨?_, ?_⟩)
  · rw [r₁.length]
    have : ds.length = es.length := by
      clear r₁ k₁ hQ F he G R
      induction h with
      | nil => rfl
      | cons _ _ _ ih => simp only [List.length_cons] at hz ⊢; rw [ih (by omega)]
    omega
  · refine hQ _ _ (keeps_trans k₁ ⟨_, _, rfl, KeepsH.push _ _⟩) (.lst (G.keeps (keeps_heap k₁)).new ⟨_, Heap.get?_push_size _ rfl, rfl, _, rfl⟩ (r₁.keeps (KeepsH.push _ _)))
theorem ev_tuple {es : List PySem.Expr} {ds : List D} {k : Nat} (h : EvAll c n sc ρ es ds) (hz : es.length ≤ sizeLine := by decide) : Ev c n sc ρ (.Tuple es k pos) (.tup ds) := by
  intro X A E s env Q R G he F hQ
  refine wpAny_Tuple_spliced (spliced_all h X A E s env _ R G he F fun vs s₁ k₁ r₁ => ⟨?_, ?_⟩)
  · rw [r₁.length]
    have : ds.length = es.length := by
      clear r₁ k₁ hQ F he G R
      induction h with
      | nil => rfl
      | cons _ _ _ ih => simp only [List.length_cons] at hz ⊢; rw [ih (by omega)]
    omega
  · refine hQ _ _ (keeps_trans k₁ ⟨_, _, rfl, KeepsH.push _ _⟩) (.tup (G.keeps (keeps_heap k₁)).new ⟨_, Heap.get?_push_size _ rfl, rfl, _, rfl⟩ (r₁.keeps (KeepsH.push _ _)))
end
end Mine
end
section
open PySem PySem.W PyProof.Rows PySem.Calls
set_option maxRecDepth 10000
namespace Mine
/-- an assignment to a target -/
noncomputable def Asg (c : Cx) (n : Nat) (os : List Str) (sc : Scope) (ρ : Loc) (t : PySem.Expr) (d : D) (bs : Loc) : Prop :=
  ∀ (X : Addr → Prop) (A : Around) (E : Value → Shared → Prop) (s : Shared) (env : Env) (ow : List (Str × Addr)) (h₀ : Heap) (v : Value) (Q : Unit → Shared → Prop),
    Room n A → Base c X os h₀ s env ow → env.scope = sc → FrameOK X s env ρ → Rep X s.heap v d →
    (∀ s', Moved env ow s s' → Base c X os h₀ s' env ow → FrameOK X s' env (bs ++ ρ) → Q () s') → wpAny c.M A (assign t env v) Q E s
section
variable {c : Cx} {n : Nat} {os : List Str} {sc : Scope} {ρ : Loc} {x y : Str} {pos : Pos} {d : D}
theorem asg_name (h : Sto c n os sc ρ x d) : Asg c n os sc ρ (.Name x pos) d [(x, d)] := by
  intro X A E s env ow h₀ v Q R B he F r hQ
  exact wpAny_assign_Name (h X A E s env ow h₀ v Q R B he F r hQ)
/-- two names at once -/
theorem asg_pair {d₁ d₂ : D} {k : Nat} {p₁ p₂ : Pos} (h₁ : Sto c n os sc ρ x d₁) (h₂ : Sto c n os sc ((x, d₁) :: ρ) y d₂) : Asg c n os sc ρ (.Tuple [.Name x p₁, .Name y p₂] k pos) (.tup [d₁, d₂]) [(y, d₂), (x, d₁)] := by
  intro X A E s env ow h₀ v Q R B he F r hQ
  obtain ⟨_, _, rfl, hnx, ht, rs⟩ := rep_inv r
  rename_i t vs
  cases rs with
  | cons r₁ rs => cases rs with
    | cons r₂ rs => cases rs
                    rename_i v₁ v₂
                    refine wpAny_assign_Tuple R.handled ht rfl rfl fun h' hx => ?_
                    have kk : KeepsH s.heap h' := fun b o e => hx b o (Nat.ne_of_lt (Heap.lt_size e)) e
                    show wpAny c.M A (assignInOrder [assign (.Name x p₁) env, assign (.Name y p₂) env] [v₁, v₂]) Q E { s with heap := h' }
                    unfold assignInOrder
                    refine wpAny_bind (wpAny_holding (wpAny_assign_Name (h₁ X A E _ env ow h₀ v₁ _ R (B.more kk) he (F.keeps (s' := { s with heap := h' }) kk) (r₁.keeps kk) fun s₁ m₁ B₁ F₁ => ?_)))
                    unfold assignInOrder
                    refine wpAny_bind (wpAny_holding (wpAny_assign_Name (h₂ X A E s₁ env ow h₀ v₂ _ R B₁ he F₁ ((r₂.keeps kk).seqs (m₁.seqs (B.more (s' := { s with heap := h' }) kk))) fun s₂ m₂ B₂ F₂ => ?_)))
                    unfold assignInOrder
                    have m0 : Moved env ow s { s with heap := h' } := Moved.of_keeps ⟨h', s.toks, rfl, kk⟩
                    exact wpAny_pure (hQ s₂ ((m0.trans m₁).trans m₂) B₂ F₂)
theorem asg_triple {d₁ d₂ d₃ : D} {z : Str} {k : Nat} {p₁ p₂ p₃ : Pos} (h₁ : Sto c n os sc ρ x d₁) (h₂ : Sto c n os sc ((x, d₁) :: ρ) y d₂) (h₃ : Sto c n os sc ((y, d₂) :: (x, d₁) :: ρ) z d₃) :
    Asg c n os sc ρ (.Tuple [.Name x p₁, .Name y p₂, .Name z p₃] k pos) (.tup [d₁, d₂, d₃]) [(z, d₃), (y, d₂), (x, d₁)] := by
  intro X A E s env ow h₀ v Q R B he F r hQ
  obtain ⟨_, _, rfl, hnx, ht, rs⟩ := rep_inv r
  rename_i t vs
  cases rs with
  | cons r₁ rs => cases rs with
    | cons r₂ rs => cases rs with
      | cons r₃ rs => cases rs
                      rename_i v₁ v₂ v₃
                      refine wpAny_assign_Tuple R.handled ht rfl rfl fun h' hx => ?_
                      have kk : KeepsH s.heap h' := fun b o e => hx b o (Nat.ne_of_lt (Heap.lt_size e)) e
                      show wpAny c.M A (assignInOrder [assign (.Name x p₁) env, assign (.Name y p₂) env, assign (.Name z p₃) env] [v₁, v₂, v₃]) Q E { s with heap := h' }
                      unfold assignInOrder
                      refine wpAny_bind (wpAny_holding (wpAny_assign_Name (h₁ X A E _ env ow h₀ v₁ _ R (B.more kk) he (F.keeps (s' := { s with heap := h' }) kk) (r₁.keeps kk) fun s₁ m₁ B₁ F₁ => ?_)))
                      unfold assignInOrder
                      have q₁ := m₁.seqs (B.more (s' := { s with heap := h' }) kk)
                      refine wpAny_bind (wpAny_holding (wpAny_assign_Name (h₂ X A E s₁ env ow h₀ v₂ _ R B₁ he F₁ ((r₂.keeps kk).seqs q₁) fun s₂ m₂ B₂ F₂ => ?_)))
                      unfold assignInOrder
                      refine wpAny_bind (wpAny_holding (wpAny_assign_Name (h₃ X A E s₂ env ow h₀ v₃ _ R B₂ he F₂ ((r₃.keeps kk).seqs (q₁.trans (m₂.seqs B₁))) fun s₃ m₃ B₃ F₃ => ?_)))
                      unfold assignInOrder
                      have m0 : Moved env ow s { s with heap := h' } := Moved.of_keeps ⟨h', s.toks, rfl, kk⟩
                      exact wpAny_pure (hQ s₃ (((m0.trans m₁).trans m₂).trans m₃) B₃ F₃)
/-- x, y = e -/
theorem ex1_assignTup {e : PySem.Expr} {es : List PySem.Expr} {k : Nat} {px : Pos} {bs : Loc} (he : Ev c n sc ρ e d) (ha : Asg c n os sc ρ (.Tuple es k px) d bs)
    (hx : ∀ (M : Model) (A : Around) (E : Value → Shared → Prop) (s : Shared) (env : Env) (Q : Flow → Shared → Prop), wpAny M A (eval e env) (fun v s' => wpAny M A (assign (.Tuple es k px) env v) (fun _ s'' => Q .next s'') E s') E s → wpAny M A (exec (.Assign [.Tuple es k px] e pos) env) Q E s) :
    Ex1 c n os sc ρ (.Assign [.Tuple es k px] e pos) (.next (bs ++ ρ)) := by
  intro X A E s env ow h₀ Q R B hs F h
  refine hx _ A E s env Q (he X A E s env _ R B.gl hs F fun v s' k r => ?_)
  refine ha X A E s' env ow h₀ v _ R (B.more (keeps_heap k)) hs (F.keeps (keeps_heap k)) r fun s'' mv B' F' => ?_
  exact h _ s'' ((Moved.of_keeps k).trans mv) B' ⟨rfl, F'⟩
end
end Mine
end
section
open PySem PySem.W PyProof.Rows PySem.Calls
set_option maxRecDepth 10000
namespace Mine
/-- an iterator I that hands on these data; hb: the heap that bears them -/
structure Itr (c : Cx) (X : Addr → Prop) (A : Around) (t : PySem.Expr) (hb : Heap) (I : Addr) (fp wr : List Addr) (ds : List D) (St : Nat → Heap → Prop) : Prop where
  sub : ∀ b ∈ wr, b ∈ fp
  old : ∀ b ∈ fp, b < hb.objs.size
  live : ∀ i h, St i h → ∀ b ∈ wr, ∃ o, h.get? b = some o ∧ Dat o = false ∧ ∀ v, o.data ≠ .cell v
  away : ∀ i h, St i h → ∀ b ∈ fp, b ∈ wr ∨ ∃ o, h.get? b = some o ∧ Dat o = true
  frame : ∀ i h h', St i h → (∀ b ∈ fp, ∀ o, h.get? b = some o → h'.get? b = some o) → St i h'
  item : ∀ i (s : Shared) d (Q : Value → Shared → Prop) (E : Value → Shared → Prop), ds[i]? = some d → St i s.heap → Seqs X hb s.heap → Vis X s.heap →
    (∀ v h' tk, Rep X h' v d → St (i + 1) h' → (∀ b o, b ∉ wr → s.heap.get? b = some o → h'.get? b = some o) → Q v { s with heap := h', toks := tk }) →
    wpAny c.M A (pyNext (.ref I)) (fun r s₁ => ∃ v, r = some v ∧ wpAny c.M A (letOwnedTupleGo t (.ref I) v) (fun _ s₂ => Q v s₂) E s₁) E s
  done : ∀ (s : Shared) (Q : Option Value → Shared → Prop) (E : Value → Shared → Prop), St ds.length s.heap →
    (∀ h' tk, (∀ b o, b ∉ wr → s.heap.get? b = some o → h'.get? b = some o) → Q none { s with heap := h', toks := tk }) → wpAny c.M A (pyNext (.ref I)) Q E s
  self : ∀ i (s : Shared) (Q : Value → Shared → Prop) (E : Value → Shared → Prop), St i s.heap → Q (.ref I) s → wpAny c.M A (pyIter (.ref I)) Q E s
/-- a target that no tuple is let go for -/
noncomputable def Plainly (t : PySem.Expr) : Prop := (∀ it v, letOwnedTupleGo t it v = pure ()) ∨ ∃ es k pos, t = .Tuple es k pos
section
variable {c : Cx} {X : Addr → Prop} {A : Around}
theorem itr_list {t : PySem.Expr} {hb : Heap} {I l : Addr} {vs : List Value} {ds : List D} (hh : A.handled = none) (ht : Plainly t) (hne : l ≠ I) (hI : I < hb.objs.size)
    (hl : hb.IsList l vs.toArray) (r : Reps X hb vs ds) : Itr c X A t hb I [I, l] [I] ds (fun i h => h.IsListIter I l i ∧ h.IsList l vs.toArray) := by
  have hlen := r.length
  refine ⟨fun b hb => by simp at hb; simp [hb], fun b hb' => ?_, fun i h st b hb' => by simp at hb'; subst hb'; obtain ⟨o, e, hc, hd⟩ := st.1; exact ⟨o, e, by unfold Dat; rw [hd]; dsimp only; rw [hc]; decide, fun v q => by rw [hd] at q; cases q⟩,
    fun i h st b hb' => by
      simp at hb'
      rcases hb' with rfl | rfl
      · exact .inl (by simp)
      · obtain ⟨o, e, _, k, hd⟩ := st.2; exact .inr ⟨o, e, dat_seq hd⟩,
    fun _ _ _ st hk => ⟨st.1.at fun o e => hk I (by simp) o e, st.2.at fun o e => hk l (by simp) o e⟩, ?_, ?_, fun _ _ _ _ st hQ => wpAny_pyIter_listiter st.1 hQ⟩
  · simp at hb'
    rcases hb' with rfl | rfl
    · exact hI
    · obtain ⟨o, e, _⟩ := hl; exact Heap.lt_size e
  · intro i s d Q E hd st sq _ hQ
    obtain ⟨v, hv, rv⟩ := r.get hd
    refine wpAny_pyNext_list_item st.1 st.2 (x := v) (by simpa using hv) fun h' hit' hs' => ⟨v, rfl, ?_⟩
    have fin : Q v { s with heap := h' } := by
      refine hQ v h' s.toks ?_ ⟨hit', st.2.extBut hs'.extBut hne⟩ fun b o hb e => hs'.extBut b o (fun h => hb (by simp [h])) e
      refine (rv.seqs sq).seqs fun a o _ e hd => hs'.extBut a o ?_ e
      rintro rfl
      obtain ⟨o', e', hc', hd'⟩ := st.1
      rw [e] at e'; cases e'
      unfold Dat at hd
      rw [hd'] at hd
      dsimp only at hd
      rw [hc'] at hd
      exact absurd hd (by decide)
    rcases ht with ht | ⟨es, k, pos, rfl⟩
    · rw [ht]; exact wpAny_pure fin
    · cases v with
      | ref a => exact wpAny_letOwnedTupleGo_listiter hit' fin
      | _ => exact wpAny_pure fin
  · intro s Q E st hQ
    exact wpAny_pyNext_list_end hh st.1 st.2 (by simp; omega) fun h' he' => hQ h' s.toks fun b o hb e => he' b o (fun h => hb (by simp [h])) e
end
/-- the tests of a clause -/
inductive Tests (c : Cx) (n : Nat) (sc : Scope) (ρ : Loc) : List PySem.Expr → Bool → Prop
  | nil : Tests c n sc ρ [] true
  | one {t : PySem.Expr} {b : Bool} : Tst c n sc ρ t b → Tests c n sc ρ [t] b
section
variable {c : Cx} {n : Nat} {os : List Str} {sc : Scope} {ρ : Loc}
theorem tests_run {X : Addr → Prop} {A : Around} {E : Value → Shared → Prop} {s : Shared} {env : Env} {Q : Bool → Shared → Prop} {ifs : List PySem.Expr} {b : Bool} (h : Tests c n sc ρ ifs b) (R : Room n A) (G : Glo c X s.heap) (he : env.scope = sc) (F : FrameOK X s env ρ)
    (hQ : ∀ s', Keeps s s' → Q b s') :
    wpAny c.M A (forIn ifs true fun c r => if r = true then do let ok ← isTrue c env (eval c env); pure (ForInStep.yield ok) else pure (ForInStep.yield r)) Q E s := by
  cases h with
  | nil => exact wpAny_tests_nil (hQ s (keeps_refl s))
  | one ht => exact wpAny_tests_one (ht X A E s env Q R G he F hQ)
theorem Base.but {X : Addr → Prop} {h₀ : Heap} {s s' : Shared} {env : Env} {ow : List (Str × Addr)} (B : Base c X os h₀ s env ow) (W : Addr → Prop) (k : ∀ b o, ¬ W b → s.heap.get? b = some o → s'.heap.get? b = some o)
    (hl : ∀ b, W b → X b → ∃ o, s'.heap.get? b = some o) (hW : ∀ b, W b → h₀.get? b = none ∧ b ≠ env.locals ∧ ∀ x, ow.lookup x ≠ some b) : Base c X os h₀ s' env ow := by
  obtain ⟨a, vi, kp, d, ⟨m, hm, hx⟩, e, g⟩ := B
  refine ⟨a, fun b q => ?_, fun b o ho => ?_, d, ⟨m, hm.at' fun o ho => k _ o (fun w => (hW _ w).2.1 rfl) ho, hx⟩, fun x y h => ⟨(e x y h).1, (e x y h).2.1, ?_⟩, g⟩
  · by_cases w : W b
    · exact hl b w q
    · obtain ⟨o, ho⟩ := vi b q; exact ⟨o, k b o w ho⟩
  · exact k b o (fun w => by rw [(hW b w).1] at ho; cases ho) (kp b o ho)
  · obtain ⟨v, o, h1, h2⟩ := (e x y h).2.2
    exact ⟨v, o, k y o (fun w => (hW y w).2.2 x h) h1, h2⟩
/-- the frame of a comprehension: its free names stand below -/
structure CompBase (c : Cx) (X : Addr → Prop) (h₀ : Heap) (cenv : Env) (ρ : Loc) : Prop where
  fn : cenv.scope.kind = .function
  gl : cenv.globals = mainGlobals
  bl : cenv.builtins = builtinsNs
  free : ∀ x d, ρ.lookup x = some d → cenv.scope.names.lookup x ≠ some .local ∧ ∃ cl v, cenv.cells.lookup x = some cl ∧ h₀.IsCell cl (some v) ∧ Rep X h₀ v d
  apart : ∀ x y a, cenv.cells.lookup x = some a → cenv.cells.lookup y = some a → x = y
theorem CompBase.frame {X Y : Addr → Prop} {h₀ : Heap} {s : Shared} {cenv : Env} {m : Str → Option Value} (C : CompBase c X h₀ cenv ρ) (k : KeepsH h₀ s.heap) (hY : ∀ a, Y a → X a ∨ h₀.get? a = none) (hm : s.heap.Ns cenv.locals m) : FrameOK Y s cenv ρ :=
  ⟨C.fn, C.gl, C.bl, ⟨m, hm, fun x d hx hd => absurd hx (C.free x d hd).1⟩, fun x d _ hd => by
    obtain ⟨_, cl, v, h1, h2, r⟩ := C.free x d hd
    exact ⟨cl, v, h1, h2.keeps k, (r.avoid hY).keeps k⟩, C.apart⟩
theorem take_filter_succ {α β : Type} (p : α → Bool) (g : α → β) (l : List α) (i : Nat) (v : α) (h : l[i]? = some v) : ((l.take (i + 1)).filter p).map g = ((l.take i).filter p).map g ++ (if p v then [g v] else []) := by
  rw [List.take_add_one, h, List.filter_append, List.map_append]
  cases hp : p v <;> simp [hp]
theorem comp_loop {X : Addr → Prop} {A : Around} {R : Result → Shared → Prop} {s : Shared} {elt t iter : PySem.Expr} {ifs : List PySem.Expr} {scope : Scope} {pos : Pos} {I D₀ : Addr} {fp wr : List Addr} {hb h₀ : Heap} {ds : List D} {St : Nat → Heap → Prop}
    {cenv : Env} {ow : List (Str × Addr)} (p : D → Bool) (g : D → D) (tb : D → Loc)
    (Rm : Room n A) (W : Itr c (fun a => X a ∨ a = D₀) A t hb I fp wr ds St) (CB : CompBase c X h₀ cenv ρ) (hsc : cenv.scope = sc)
    (hasg : ∀ d ∈ ds, Asg c n os sc ρ t d (tb d)) (htest : ∀ d ∈ ds, Tests c n sc (tb d ++ ρ) ifs (p d)) (helt : ∀ d ∈ ds, p d = true → Ev c n sc (tb d ++ ρ) elt (g d))
    (hst : St 0 s.heap) (hacc : s.heap.PlainList D₀ #[]) (B : Base c (fun a => X a ∨ a = D₀) os h₀ s cenv ow) (hhb : Seqs (fun a => X a ∨ a = D₀) hb s.heap)
    (hfp : ∀ b ∈ fp, b ≠ cenv.locals ∧ (∀ x, ow.lookup x ≠ some b) ∧ b ≠ D₀) (hwr : ∀ b ∈ wr, h₀.get? b = none) (hD : h₀.get? D₀ = none) (hDC : D₀ ≠ cenv.locals) (hDo : ∀ x, ow.lookup x ≠ some D₀) (hsz : ds.length ≤ sizeLine)
    (hR : ∀ h' tk m' ys, h'.Ns cenv.locals m' → m' hname = none → h'.PlainList D₀ (List.toArray ys) → Reps (fun a => X a ∨ a = D₀) h' ys ((ds.filter p).map g) → KeepsH h₀ h' → R (.ok .next) { s with heap := h', toks := tk }) :
    codeAny c.M A (.compLoop (.ListComp elt [⟨t, iter, ifs, 0⟩] scope pos) 0 (.ref I) (.ref D₀) cenv) R s := by
  refine codeAny_loop rfl (fun k s' => ∃ i h' tk ys, s' = { s with heap := h', toks := tk } ∧ St i h' ∧ h'.PlainList D₀ ys ∧ Reps (fun a => X a ∨ a = D₀) h' ys.toList (((ds.take i).filter p).map g) ∧
    Base c (fun a => X a ∨ a = D₀) os h₀ s' cenv ow ∧ Seqs (fun a => X a ∨ a = D₀) hb h' ∧ i ≤ ds.length ∧ k = ds.length + 1 - i) ?_ (ds.length + 1)
    ⟨0, s.heap, s.toks, #[], rfl, hst, hacc, by simpa using Reps.nil, B, hhb, Nat.zero_le _, rfl⟩
  rintro k s' ⟨i, H, tk, ys, rfl, hst', hacc', hys, B', hq, hi, rfl⟩
  show wpAny c.M A ((compTurn (.ListComp elt [⟨t, iter, ifs, 0⟩] scope pos) 0 (.ref I) (.ref D₀) cenv).onRaise (fun x => do noteFrame x cenv; theTreesLotGoes x)) _ _ _
  refine wpAny_noted ?_
  rw [compTurn_list]
  refine wpAny_bind (wpAny_standAt (wpAny_bind ?_))
  -- what the iterator's step leaves
  have step : ∀ {h₁ : Heap}, (∀ b o, b ∉ wr → H.get? b = some o → h₁.get? b = some o) → Seqs (fun a => X a ∨ a = D₀) H h₁ := fun {h₁} hk₁ a o _ e hda => hk₁ a o (fun hm => by
    obtain ⟨o', e', hn, _⟩ := W.live _ _ hst' a hm
    rw [e] at e'; cases e'
    rw [hda] at hn; cases hn) e
  have keepD : ∀ {h₁ : Heap}, (∀ b o, b ∉ wr → H.get? b = some o → h₁.get? b = some o) → ∀ o, H.get? D₀ = some o → h₁.get? D₀ = some o := fun {h₁} hk₁ o e => hk₁ _ o (fun hm => (hfp _ (W.sub _ hm)).2.2 rfl) e
  cases hd : ds[i]? with
  | none =>
    have hin : i = ds.length := by
      have : ds.length ≤ i := by simpa using hd
      omega
    subst hin
    refine W.done _ _ _ hst' fun h₁ tk₁ hk₁ => wpAny_pure ?_
    rw [List.take_of_length_le (Nat.le_refl _)] at hys
    obtain ⟨m', hm', hx'⟩ := B'.nohdr
    refine hR h₁ tk₁ m' ys.toList (hm'.at' fun o e => hk₁ _ o (fun hm => (hfp _ (W.sub _ hm)).1 rfl) e) hx' (by simpa using (hacc'.at (keepD hk₁))) (hys.seqs (step hk₁)) fun b o ho => hk₁ b o (fun hm => by rw [hwr b hm] at ho; cases ho) (B'.keep b o ho)
  | some d =>
    have hmem : d ∈ ds := List.mem_of_getElem? hd
    have hlt : i < ds.length := by
      rcases Nat.lt_or_ge i ds.length with h | h
      · exact h
      · rw [List.getElem?_eq_none h] at hd; cases hd
    have vis : Vis (fun a => X a ∨ a = D₀) H := B'.vis
    refine wpAny_mono (W.item i _ d (fun v s₂ => ∃ h₁ tk₁, s₂ = { s with heap := h₁, toks := tk₁ } ∧ Rep (fun a => X a ∨ a = D₀) h₁ v d ∧ St (i + 1) h₁ ∧ (∀ b o, b ∉ wr → H.get? b = some o → h₁.get? b = some o)) _ hd hst' hq vis
      fun v h₁ tk₁ rv st₁ hk₁ => ⟨h₁, tk₁, rfl, rv, st₁, hk₁⟩) (fun r s₁ h₁' => ?_) fun _ _ e => e
    obtain ⟨v, rfl, hv⟩ := h₁'
    dsimp only
    refine wpAny_bind (wpAny_mono hv (fun _ s₂ hs₂ => ?_) fun _ _ e => e)
    obtain ⟨h₁, tk₁, rfl, rv, st₁, hk₁⟩ := hs₂
    have B₁ : Base c (fun a => X a ∨ a = D₀) os h₀ { s with heap := h₁, toks := tk₁ } cenv ow := B'.but (fun b => b ∈ wr) (fun b o hm e => hk₁ b o hm e) (fun b hm _ => by obtain ⟨o, e, _⟩ := W.live _ _ st₁ b hm; exact ⟨o, e⟩)
      fun b hm => ⟨hwr b hm, (hfp b (W.sub b hm)).1, (hfp b (W.sub b hm)).2.1⟩
    have hacc₁ := hacc'.at (keepD hk₁)
    have hys₁ := hys.seqs (step hk₁)
    have hq₁ := hq.trans (step hk₁)
    obtain ⟨m₁, hm₁, _⟩ := B₁.nohdr
    have F₁ : FrameOK (fun a => X a ∨ a = D₀) { s with heap := h₁, toks := tk₁ } cenv ρ := CB.frame B₁.keep (fun a q => q.elim .inl fun e => .inr (e ▸ hD)) hm₁
    refine wpAny_bind (hasg d hmem _ A _ _ cenv ow h₀ v _ Rm B₁ hsc F₁ rv fun s₂ m₂ B₂ F₂ => ?_)
    have sq₂ := m₂.seqs B₁
    have keepM : ∀ {b o}, b ≠ cenv.locals → (∀ x, ow.lookup x ≠ some b) → h₁.get? b = some o → s₂.heap.get? b = some o := fun {b o} h1 h2 e => m₂.2 b o ⟨h1, h2⟩ e
    have st₂ : St (i + 1) s₂.heap := W.frame _ _ _ st₁ fun b hb' o e => keepM (hfp b hb').1 (hfp b hb').2.1 e
    have hacc₂ : s₂.heap.PlainList D₀ ys := hacc₁.at fun o e => keepM hDC hDo e
    have hys₂ := hys₁.seqs sq₂
    have hq₂ := hq₁.trans sq₂
    obtain ⟨⟨hp₂, tk₂, rfl⟩, _⟩ := m₂
    refine wpAny_bind (tests_run (htest d hmem) Rm B₂.gl hsc F₂ fun s₃ k₃ => ?_)
    have kk₃ := keeps_heap k₃
    have B₃ := B₂.more kk₃
    have F₃ := F₂.keeps kk₃
    have st₃ : St (i + 1) s₃.heap := W.frame _ _ _ st₂ fun b _ o e => kk₃ b o e
    have hacc₃ : s₃.heap.PlainList D₀ ys := hacc₂.at fun o e => kk₃ _ o e
    have hys₃ := hys₂.keeps kk₃
    have hq₃ := hq₂.trans (kk₃.seqs _)
    obtain ⟨hp₃, tk₃, rfl, _⟩ := k₃
    have hta := take_filter_succ p g ds i d hd
    cases hpd : p d with
    | false =>
      refine wpAny_pure ⟨rfl, ds.length + 1 - (i + 1), by omega, i + 1, hp₃, tk₃, ys, rfl, st₃, hacc₃, ?_, B₃, hq₃, hlt, rfl⟩
      rw [hta, hpd]
      simpa using hys₃
    | true =>
      have hel := helt d hmem hpd
      refine wpAny_bind (wpAny_bind (hel _ A _ _ cenv _ Rm B₃.gl hsc F₃ fun y s₄ k₄ ry => ?_))
      have kk₄ := keeps_heap k₄
      have B₄ := B₃.more kk₄
      have st₄ : St (i + 1) s₄.heap := W.frame _ _ _ st₃ fun b _ o e => kk₄ b o e
      have hacc₄ : s₄.heap.PlainList D₀ ys := hacc₃.at fun o e => kk₄ _ o e
      have hys₄ := hys₃.keeps kk₄
      have hq₄ := hq₃.trans (kk₄.seqs _)
      obtain ⟨hp₄, tk₄, rfl, _⟩ := k₄
      have hyz : ys.size ≤ sizeLine := by
        have e1 := hys.length
        have e2 : ((ds.take i).filter p).length ≤ (ds.take i).length := List.length_filter_le _ _
        simp at e1 e2
        omega
      refine wpAny_bind (wpAny_list_append_plain (hsz := hyz) hacc₄ fun h₅ hl₅ hs₅ => wpAny_pure (wpAny_pure ⟨rfl, ?_⟩))
      have sq₅ : Seqs (fun a => X a ∨ a = D₀) hp₄ h₅ := fun a o q e _ => (hs₅.2 a (fun z => q (.inr z))).trans e
      refine ⟨ds.length + 1 - (i + 1), by omega, i + 1, h₅, tk₄, ys.push y, rfl, W.frame _ _ _ st₄ fun b hb' o e => (hs₅.2 b (hfp b hb').2.2).trans e, hl₅, ?_, ?_, hq₄.trans sq₅, hlt, rfl⟩
      · rw [hta, hpd]
        simpa using (hys₄.seqs sq₅).snoc (ry.seqs sq₅)
      · refine B₄.but (fun b => b = D₀) (fun b o hb' e => (hs₅.2 b hb').trans e) (fun b hb' _ => ?_) (fun b hb' => by subst hb'; exact ⟨hD, hDC, hDo⟩)
        subst hb'
        obtain ⟨k, e⟩ := hl₅
        exact ⟨_, e⟩
end
end Mine
end
section
open PySem PySem.W PyProof.Rows PySem.Calls
set_option maxRecDepth 10000
namespace Mine
/-- an expression that is walked over: its data -/
noncomputable def Srcs (c : Cx) (n : Nat) (sc : Scope) (ρ : Loc) (iter t : PySem.Expr) (ds : List D) : Prop :=
  ∀ (X : Addr → Prop) (A : Around) (E : Value → Shared → Prop) (s : Shared) (env : Env) (Q : Value → Shared → Prop),
    Room n A → Glo c X s.heap → env.scope = sc → FrameOK X s env ρ →
    (∀ I s₂ fp wr St, Keeps s s₂ → (∀ Y : Addr → Prop, (∀ a, Y a → X a ∨ s₂.heap.get? a = none) → Itr c Y A t s₂.heap I fp wr ds St) → St 0 s₂.heap → (∀ b ∈ wr, s.heap.get? b = none) → Q (.ref I) s₂) →
    wpAny c.M A (eval iter env) (fun x s₁ => wpAny c.M A (pyIter x) Q E s₁) E s
section
variable {c : Cx} {n : Nat} {sc : Scope} {ρ : Loc} {iter t : PySem.Expr}
theorem none_new (h : Heap) : h.get? h.objs.size = none := by
  cases e : h.get? h.objs.size with
  | none => rfl
  | some o => exact absurd (Heap.lt_size e) (Nat.lt_irrefl _)
theorem none_old {h h' : Heap} (k : KeepsH h h') {a : Addr} (e : h'.get? a = none) : h.get? a = none := by
  cases q : h.get? a with
  | none => rfl
  | some o => rw [k a o q] at e; cases e
theorem src_list {ds : List D} (h : Ev c n sc ρ iter (.lst ds)) (ht : Plainly t) : Srcs c n sc ρ iter t ds := by
  intro X A E s env Q R G he F hQ
  refine h X A E s env _ R G he F fun v s₁ k₁ r => ?_
  obtain ⟨_, _, rfl, hx, hl, rs⟩ := rep_inv r
  rename_i l vs
  refine wpAny_pyIter_list hl (hQ _ _ [s₁.heap.objs.size, l] [s₁.heap.objs.size] (fun i h => h.IsListIter s₁.heap.objs.size l i ∧ h.IsList l vs.toArray) ?_ (fun Y hY => ?_) ?_ ?_)
  · exact keeps_trans k₁ ⟨_, _, rfl, KeepsH.push _ _⟩
  · have hlt : l < s₁.heap.objs.size := by obtain ⟨o, e, _⟩ := hl; exact Heap.lt_size e
    refine itr_list R.handled ht (Nat.ne_of_lt hlt) (by show _ < (s₁.heap.push _).objs.size; rw [Heap.size_push]; exact Nat.lt_succ_self _) (hl.push _) ?_
    exact (rs.keeps (KeepsH.push _ _)).avoid hY
  · exact ⟨⟨_, Heap.get?_push_size _ rfl, rfl, rfl⟩, hl.push _⟩
  · intro b hb
    simp at hb
    subst hb
    exact none_old (keeps_heap k₁) (none_new _)
noncomputable def rngData (a b : Int) : List D := (List.range (b - a).toNat).map fun (i : Nat) => D.int (a + (i : Int))
theorem src_range {a b : Int} (h : Ev c n sc ρ iter (.rng a b)) (ht : ∀ it v, letOwnedTupleGo t it v = pure ()) (hs : Builtin.Range.small a b 1 = true) (hz : Builtin.Range.rangeSize a b 1 = ((b - a).toNat : Int)) : Srcs c n sc ρ iter t (rngData a b) := by
  intro X A E s env Q R G he F hQ
  refine h X A E s env _ R G he F fun v s₁ k₁ r => ?_
  cases r with
  | rng hx hr =>
    rename_i l t₁ u₁ v₁
    refine wpAny_pyIter_range (r := l) (a := a) (b := b) (c := 1) hr hs (hQ _ _ [s₁.heap.objs.size] [s₁.heap.objs.size] (fun i h => IsRangeIter h s₁.heap.objs.size (a + (i : Nat) * 1) (((b - a).toNat : Int) - (i : Nat)) 1) ?_ (fun Y hY => ?_) ?_ ?_)
    · exact keeps_trans k₁ ⟨_, _, rfl, KeepsH.push _ _⟩
    · have W := Walks.range (prog := pw) (w := c.w) (A := A) R.handled s₁.heap.objs.size a 1 (b - a).toNat
      have hlen : (rngData a b).length = (b - a).toNat := by simp [rngData]
      have nd : ∀ {h : Heap} {x y z : Int}, IsRangeIter h s₁.heap.objs.size x y z → ∃ o, h.get? s₁.heap.objs.size = some o ∧ Dat o = false ∧ ∀ v, o.data ≠ .cell v := fun {h x y z} e => ⟨_, e, rfl, fun _ q => by cases q⟩
      refine ⟨W.sub, fun q hq => ?_, fun i h st q hq => ?_, fun i h st q hq => .inl hq, W.frame, fun i s d Q E hd st sq vis hQ => ?_, fun s Q E st hQ => ?_, W.self⟩
      · simp at hq; subst hq
        show _ < (s₁.heap.push _).objs.size
        rw [Heap.size_push]; exact Nat.lt_succ_self _
      · simp at hq; subst hq; exact nd st
      · have hi : i < (b - a).toNat := by
          rcases Nat.lt_or_ge i (b - a).toNat with q | q
          · exact q
          · rw [List.getElem?_eq_none (by rw [hlen]; exact q)] at hd; cases hd
        have hdv : d = .int (a + (i : Int)) := by
          have := hd
          simp [rngData, List.getElem?_map, List.getElem?_range hi] at this
          exact this.symm
        refine wpAny_mono (W.item i s (fun r s' => ∃ v h' tk, r = some v ∧ s' = { s with heap := h', toks := tk } ∧ (∃ t, v = .int (a + i * 1) t) ∧ IsRangeIter h' s₁.heap.objs.size (a + ((i + 1 : Nat) : Int) * 1) (((b - a).toNat : Int) - ((i + 1 : Nat) : Int)) 1 ∧
          (∀ b o, b ∉ [s₁.heap.objs.size] → s.heap.get? b = some o → h'.get? b = some o)) E hi st fun v h' tk pv st' hk => ⟨v, h', tk, rfl, rfl, pv, st', hk⟩) (fun r s' hr' => ?_) fun _ _ e => e
        obtain ⟨v, h', tk, rfl, rfl, ⟨t, rfl⟩, st', hk⟩ := hr'
        refine ⟨_, rfl, ?_⟩
        rw [ht]
        refine wpAny_pure (hQ _ h' tk ?_ st' hk)
        rw [hdv, Int.mul_one]
        exact .int _ _
      · rw [hlen] at st
        exact W.done s Q E st hQ
    · show IsRangeIter (s₁.heap.push _) _ _ _ _
      have e1 : a + ((0 : Nat) : Int) * 1 = a := by simp
      have e2 : ((b - a).toNat : Int) - ((0 : Nat) : Int) = ((b - a).toNat : Int) := by simp
      rw [e1, e2, hz]
      exact Heap.get?_push_size _ rfl
    · intro b hb
      simp at hb
      subst hb
      exact none_old (keeps_heap k₁) (none_new _)
end
noncomputable def relab (scope sc : Scope) : Scope := { scope with names := scope.names.map fun (n, k) => if (k == .free && sc.kind == .function && sc.names.lookup n == some .cell) then (n, .cell) else (n, k) }
noncomputable def clOf (cells : List (Str × Addr)) : List (Str × NameKind) → List (Str × Addr) → List (Str × Addr)
  | [], acc => acc
  | (x, k) :: r, acc => clOf cells r (if k == .free then (x, (cells.lookup x).getD 0) :: acc else acc)
theorem closure_is (env : Env) : ∀ (names : List (Str × NameKind)) (acc : List (Str × Addr)), (∀ x, (x, NameKind.free) ∈ names → ∃ a, env.cells.lookup x = some a) →
    (forIn names acc (fun (x : Str × NameKind) (cs : List (Str × Addr)) => if (x.2 == .free) = true then (do let a ← cellOf env x.1; pure (ForInStep.yield ((x.1, a) :: cs))) else pure (ForInStep.yield cs)) : Sem _) = pure (clOf env.cells names acc)
  | [], acc, _ => rfl
  | (x, k) :: r, acc, h => by
    rw [List.forIn_cons]
    have ih := fun acc => closure_is env r acc fun y hy => h y (List.mem_cons_of_mem _ hy)
    unfold clOf
    cases hk : k == NameKind.free with
    | true =>
      have : k = .free := by simpa using hk
      subst this
      obtain ⟨a, ha⟩ := h x List.mem_cons_self
      simp only [if_true, cellOf, ha, pure_bind, Option.getD_some]
      exact ih _
    | false =>
      simp only [Bool.false_eq_true, if_false, pure_bind]
      exact ih _
theorem clOf_mem (cells : List (Str × Addr)) : ∀ (names : List (Str × NameKind)) (acc : List (Str × Addr)) (x : Str) (a : Addr), (x, a) ∈ clOf cells names acc → (x, a) ∈ acc ∨ ((x, NameKind.free) ∈ names ∧ a = (cells.lookup x).getD 0)
  | [], _, _, _, h => .inl h
  | (y, k) :: r, acc, x, a, h => by
    unfold clOf at h
    rcases clOf_mem cells r _ x a h with h1 | ⟨h1, h2⟩
    · split at h1
      · rename_i hk
        have : k = .free := by simpa using hk
        subst this
        rcases List.mem_cons.mp h1 with e | h1
        · cases e; exact .inr ⟨List.mem_cons_self, rfl⟩
        · exact .inl h1
      · exact .inl h1
    · exact .inr ⟨List.mem_cons_of_mem _ h1, h2⟩
theorem clOf_keep (cells : List (Str × Addr)) : ∀ (names : List (Str × NameKind)) (acc : List (Str × Addr)) (p : Str × Addr), p ∈ acc → p ∈ clOf cells names acc
  | [], _, _, h => h
  | (y, k) :: r, acc, p, h => by
    unfold clOf
    refine clOf_keep cells r _ p ?_
    split
    · exact List.mem_cons_of_mem _ h
    · exact h
theorem clOf_has (cells : List (Str × Addr)) : ∀ (names : List (Str × NameKind)) (acc : List (Str × Addr)) (x : Str), (x, NameKind.free) ∈ names → (x, (cells.lookup x).getD 0) ∈ clOf cells names acc
  | (y, k) :: r, acc, x, h => by
    unfold clOf
    rcases List.mem_cons.mp h with e | h
    · cases e
      exact clOf_keep cells r _ _ List.mem_cons_self
    · exact clOf_has cells r _ x h
theorem lookup_isSome_of_mem {α : Type} : ∀ {l : List (Str × α)} {x : Str} {a : α}, (x, a) ∈ l → ∃ b, l.lookup x = some b
  | (y, b) :: r, x, a, h => by
    simp only [List.lookup]
    cases e : x == y with
    | true => exact ⟨b, rfl⟩
    | false =>
      rcases List.mem_cons.mp h with q | q
      · cases q; simp at e
      · exact lookup_isSome_of_mem q
theorem clOf_lookup (cells : List (Str × Addr)) {names : List (Str × NameKind)} {x : Str} (h : (x, NameKind.free) ∈ names) : (clOf cells names []).lookup x = some ((cells.lookup x).getD 0) := by
  obtain ⟨b, hb⟩ := lookup_isSome_of_mem (clOf_has cells names [] x h)
  rw [hb]
  rcases clOf_mem cells names [] x b (mem_of_lookup' hb) with h | ⟨_, e⟩
  · cases h
  · rw [e]
theorem cellsFrom_append : ∀ (names : List (Str × NameKind)) (k : Nat) (acc : List (Str × Addr)), cellsFrom k names acc = cellsFrom k names [] ++ acc
  | [], _, acc => rfl
  | (x, kd) :: r, k, acc => by
    unfold cellsFrom
    split
    · rw [cellsFrom_append r (k + 1) ((x, k) :: acc), cellsFrom_append r (k + 1) [(x, k)], List.append_assoc]; rfl
    · exact cellsFrom_append r k acc
theorem cellsFrom_mem : ∀ (names : List (Str × NameKind)) (k : Nat) (acc : List (Str × Addr)) (x : Str) (a : Addr), (x, a) ∈ cellsFrom k names acc → (x, a) ∈ acc ∨ (x, NameKind.cell) ∈ names
  | [], _, _, _, _, h => .inl h
  | (y, kd) :: r, k, acc, x, a, h => by
    unfold cellsFrom at h
    split at h
    · rename_i hk
      have : kd = .cell := by simpa using hk
      subst this
      rcases cellsFrom_mem r _ _ x a h with h | h
      · rcases List.mem_cons.mp h with e | h
        · cases e; exact .inr List.mem_cons_self
        · exact .inl h
      · exact .inr (List.mem_cons_of_mem _ h)
    · rcases cellsFrom_mem r _ _ x a h with h | h
      · exact .inl h
      · exact .inr (List.mem_cons_of_mem _ h)
theorem cellsFrom_keep : ∀ (names : List (Str × NameKind)) (k : Nat) (acc : List (Str × Addr)) (p : Str × Addr), p ∈ acc → p ∈ cellsFrom k names acc
  | [], _, _, _, h => h
  | (y, kd) :: r, k, acc, p, h => by
    unfold cellsFrom
    split
    · exact cellsFrom_keep r _ _ p (List.mem_cons_of_mem _ h)
    · exact cellsFrom_keep r _ _ p h
theorem cellsFrom_has : ∀ (names : List (Str × NameKind)) (k : Nat) (acc : List (Str × Addr)) (x : Str), (x, NameKind.cell) ∈ names → ∃ a, (x, a) ∈ cellsFrom k names acc
  | (y, kd) :: r, k, acc, x, h => by
    unfold cellsFrom
    rcases List.mem_cons.mp h with e | h
    · cases e
      exact ⟨k, by simp only [beq_self_eq_true, if_true]; exact cellsFrom_keep r _ _ _ List.mem_cons_self⟩
    · split
      · exact cellsFrom_has r _ _ x h
      · exact cellsFrom_has r _ _ x h
theorem nodup_kind {l : List (Str × NameKind)} (h : (l.map (·.1)).Nodup) {x : Str} {a b : NameKind} (ha : (x, a) ∈ l) (hb : (x, b) ∈ l) : a = b := by
  induction l with
  | nil => cases ha
  | cons p r ih =>
    simp only [List.map_cons, List.nodup_cons] at h
    rcases List.mem_cons.mp ha with e | ha <;> rcases List.mem_cons.mp hb with e' | hb
    · rw [← e] at e'; cases e'; rfl
    · exact absurd (List.mem_map.mpr ⟨(x, b), hb, by rw [← e]⟩) h.1
    · exact absurd (List.mem_map.mpr ⟨(x, a), ha, by rw [← e']⟩) h.1
    · exact ih h.2 ha hb
theorem lookup_of_mem {l : List (Str × NameKind)} (h : (l.map (·.1)).Nodup) {x : Str} {a : NameKind} (ha : (x, a) ∈ l) : l.lookup x = some a := by
  obtain ⟨b, hb⟩ := lookup_isSome_of_mem ha
  rw [hb, nodup_kind h ha (mem_of_lookup' hb)]
end Mine
end
section
open PySem PySem.W PyProof.Rows PySem.Calls
set_option maxRecDepth 10000
namespace Mine
section
variable {c : Cx} {n : Nat} {sc : Scope} {ρ : Loc}
theorem closureFor_is (scope : Scope) (env : Env) (h : ∀ x, (x, NameKind.free) ∈ scope.names → ∃ a, env.cells.lookup x = some a) : closureFor scope env = pure (clOf env.cells scope.names []) := by
  have e := closure_is env scope.names [] h
  have e2 : closureFor scope env = (forIn scope.names ([] : List (Str × Addr)) (fun (x : Str × NameKind) (cs : List (Str × Addr)) => if (x.2 == .free) = true then (do let a ← cellOf env x.1; pure (ForInStep.yield ((x.1, a) :: cs))) else pure (ForInStep.yield cs)) : Sem _) >>= pure := rfl
  rw [e2, e]
  rfl
theorem newCompEnv {M : Model} {A : Around} {E : Value → Shared → Prop} {s : Shared} {scope : Scope} {globals : Addr} {cl : List (Str × Addr)} {qual : Str} {env : Env} {Q : Env → Shared → Prop}
    (hQ : Q { scope, locals := s.heap.objs.size, globals, cells := cellsFrom (s.heap.objs.size + 1) scope.names cl, qual, func := none, code := env.code, frame := env.frame, builtins := env.builtins }
      { s with heap := pushCells (s.heap.push { cls := .type "dict", data := .dict #[] }) scope.names }) :
    wpAny M A (newFunctionEnv scope globals cl [] qual none .none (some env)) Q E s := by
  simp only [newFunctionEnv, Option.isSome_some, if_true]
  refine wpAny_bind (wpAny_alloc ?_)
  refine wpAny_bind (wpAny_layCells _ (fun name kind cells => by cases hkc : kind == NameKind.cell <;> simp [hkc]) _ _ _ _ ?_)
  rw [show ({ s with heap := s.heap.push { cls := .type "dict", data := .dict #[] } } : Shared).heap.objs.size = s.heap.objs.size + 1 from Heap.size_push ..]
  simp only [List.forIn_nil]
  exact wpAny_bind (wpAny_pure (wpAny_pure hQ))
/-- what a comprehension is about, statically -/
structure CompSc (sc scope : Scope) (ρ ρf : Loc) (os : List Str) : Prop where
  kind : scope.kind = .function
  nodup : (scope.names.map (·.1)).Nodup
  free : ∀ x, (x, NameKind.free) ∈ scope.names → (sc.names.lookup x = some .cell ∨ sc.names.lookup x = some .free) ∧ ∃ d, ρ.lookup x = some d
  sub : ∀ x d, ρf.lookup x = some d → (x, NameKind.free) ∈ scope.names ∧ ρ.lookup x = some d
  own : ∀ x ∈ os, (x, NameKind.cell) ∈ scope.names
theorem relab_lookup {scope sc : Scope} {x : Str} {k : NameKind} (hx : scope.names.lookup x = some k) (hk : k ≠ .free) : (relab scope sc).names.lookup x = some k := by
  unfold relab
  dsimp only
  generalize scope.names = l at hx ⊢
  induction l with
  | nil => cases hx
  | cons p r ih =>
    obtain ⟨y, ky⟩ := p
    simp only [List.lookup] at hx
    simp only [List.map_cons]
    cases e : x == y with
    | true =>
      rw [e] at hx; cases hx
      have hf : (k == NameKind.free) = false := by simpa using hk
      simp [List.lookup, e, hf]
    | false =>
      rw [e] at hx
      have := ih hx
      split <;> simp only [List.lookup, e] <;> exact this
theorem relab_free {scope sc : Scope} {x : Str} (hx : scope.names.lookup x = some .free) : (relab scope sc).names.lookup x ≠ some .local := by
  unfold relab
  dsimp only
  generalize scope.names = l at hx ⊢
  induction l with
  | nil => cases hx
  | cons p r ih =>
    obtain ⟨y, ky⟩ := p
    simp only [List.lookup] at hx
    simp only [List.map_cons]
    cases e : x == y with
    | true =>
      rw [e] at hx; cases hx
      split <;> simp [List.lookup, e]
    | false =>
      rw [e] at hx
      have := ih hx
      split <;> simp only [List.lookup, e] <;> exact this
theorem seqs_sameBut {X : Addr → Prop} {h h' : Heap} {C : Addr} {m : Str → Option Value} (hs : Heap.SameBut C h h') (hm : h.Ns C m) (hx : m hname = none) : Seqs X h h' := fun a o _ ho hd => by
  refine (hs.2 a ?_).trans ho
  rintro rfl
  obtain ⟨o', es, ep, h1, h2, _, h4⟩ := hm
  rw [ho] at h1; cases h1
  unfold Dat at hd
  rw [h2] at hd
  dsimp only at hd
  rw [h4, hx] at hd
  cases hd
theorem comp_any {elt t iter : PySem.Expr} {ifs : List PySem.Expr} {scope : Scope} {pos p₀ : Pos} {ds : List D} {ρf : Loc} {os : List Str} (p : D → Bool) (g : D → D) (tb : D → Loc)
    (S : CompSc sc scope ρ ρf os) (hsrc : Srcs c n sc ρ iter t ds) (hasg : ∀ d ∈ ds, Asg c n os (relab scope sc) ρf t d (tb d))
    (htest : ∀ d ∈ ds, Tests c n (relab scope sc) (tb d ++ ρf) ifs (p d)) (helt : ∀ d ∈ ds, p d = true → Ev c n (relab scope sc) (tb d ++ ρf) elt (g d)) (hsz : ds.length ≤ sizeLine)
    (hfs : ∀ env x, foldedSetIterable iter env x = pure x) {use : Option (Value → Sem Unit)}
    (X : Addr → Prop) (A : Around) (E : Value → Shared → Prop) (s : Shared) (env : Env) (Q : Value → Shared → Prop) (R : Room n A) (G : Glo c X s.heap) (he : env.scope = sc) (F : FrameOK X s env ρ)
    (hQ : ∀ D₀ C s' ys m, Keeps s s' → s.heap.get? C = none → D₀ ≠ C → s.heap.get? D₀ = none → s'.heap.Ns C m → m hname = none → s'.heap.PlainList D₀ (List.toArray ys) → Reps (fun a => X a ∨ a = D₀) s'.heap ys ((ds.filter p).map g) →
      compPost c.M A E use Q (.ref D₀) C (.ok .next) s') :
    wpAny c.M A (comprehension (.ListComp elt [⟨t, iter, ifs, 0⟩] scope pos) scope env p₀ (newList []) false (eval iter env) use) Q E s := by
  have hfcell : ∀ x, (x, NameKind.free) ∈ scope.names → ∃ a, env.cells.lookup x = some a := fun x hx => by
    obtain ⟨h1, d, hd⟩ := S.free x hx
    obtain ⟨cl, v, h2, _⟩ := F.cel x d (by rw [he]; exact h1) hd
    exact ⟨cl, h2⟩
  refine wpAny_comprehension_free (g := ⟨t, iter, ifs, 0⟩) (gs := []) rfl (hfs env) (closureFor_is scope env hfcell) S.kind (fun x hx hk => lookup_of_mem S.nodup (by rw [← hk]; exact hx)) ?_
  refine hsrc X A E s env _ R G he F fun I s₂ fp wr St k₂ W hst hwr => ?_
  refine wpAny_newObj_type (newCompEnv ?_)
  -- the list at D₀, the frame at C
  generalize hD : s₂.heap.objs.size = D₀
  have kk₂ := keeps_heap k₂
  have hX₀ : ¬ X D₀ := fun q => by
    obtain ⟨o, ho⟩ := G.vis _ q
    have := Heap.lt_size (kk₂ _ o ho)
    rw [hD] at this; exact Nat.lt_irrefl _ this
  generalize hH1 : s₂.heap.push { cls := .type "list", dict := none, data := .seq ([] : List Value).toArray } = H₁
  have hszH : H₁.objs.size = D₀ + 1 := by rw [← hH1, Heap.size_push, hD]
  have kH₁ : KeepsH s₂.heap H₁ := by rw [← hH1]; exact KeepsH.push _ _
  generalize hH2 : H₁.push { cls := .type "dict", data := .dict #[] } = H₂
  have hszH2 : H₂.objs.size = D₀ + 1 + 1 := by rw [← hH2, Heap.size_push, hszH]
  have kH₂ : KeepsH H₁ H₂ := by rw [← hH2]; exact KeepsH.push _ _
  have kH₃ : KeepsH H₂ (pushCells H₂ scope.names) := fun b o e => pushCells_keeps _ _ b o e
  have kall : KeepsH s₂.heap (pushCells H₂ scope.names) := (kH₁.trans kH₂).trans kH₃
  show codeAny c.M A (.compStart _ 0 (.ref I) (.ref D₀) _) (compPost c.M A E use Q (.ref D₀) H₁.objs.size) { s₂ with heap := pushCells H₂ scope.names }
  rw [hszH]
  have hDat : (pushCells H₂ scope.names).PlainList D₀ #[] := ⟨0, kH₃ _ _ (kH₂ _ _ (by rw [← hH1, ← hD]; exact Heap.get?_push_size _ rfl))⟩
  have hNs : (pushCells H₂ scope.names).Ns (D₀ + 1) (fun _ => none) := by
    have := Heap.Ns.new H₁ (.type "dict")
    rw [hH2, hszH] at this
    exact this.keeps kH₃
  have ok := cellsFrom_ok scope.names H₂ (D₀ + 2) [] ⟨fun _ _ hm => (nomatch hm), List.Pairwise.nil⟩ (by rw [hszH2]; exact Nat.le_refl _)
  rw [hszH2] at ok
  have s2none : ∀ {a : Nat}, D₀ ≤ a → s₂.heap.get? a = none := fun {a} ha => by
    cases e : s₂.heap.get? a with
    | none => rfl
    | some o => have := Heap.lt_size e; rw [hD] at this; exact absurd this (Nat.not_lt.mpr ha)
  have snone : ∀ {a : Nat}, D₀ ≤ a → s.heap.get? a = none := fun {a} ha => none_old kk₂ (s2none ha)
  -- the cells
  generalize how : cellsFrom (D₀ + 1 + 1) scope.names [] = ow at ok
  have hcells : cellsFrom (D₀ + 1 + 1) scope.names (clOf env.cells scope.names []) = ow ++ clOf env.cells scope.names [] := by rw [cellsFrom_append, how]
  have owCell : ∀ {x a}, (x, a) ∈ ow → (x, NameKind.cell) ∈ scope.names := fun {x a} h => by
    rw [← how] at h
    rcases cellsFrom_mem _ _ _ x a h with h | h
    · cases h
    · exact h
  have clFree : ∀ {x a}, (x, a) ∈ clOf env.cells scope.names [] → (x, NameKind.free) ∈ scope.names ∧ env.cells.lookup x = some a := fun {x a} h => by
    rcases clOf_mem env.cells scope.names [] x a h with h | ⟨h1, h2⟩
    · cases h
    · obtain ⟨b, hb⟩ := hfcell x h1
      rw [hb] at h2; cases h2
      exact ⟨h1, hb⟩
  have owGe : ∀ {x a}, (x, a) ∈ ow → D₀ + 2 ≤ a := fun {x a} h => (ok.empty x a h).2
  have owLook : ∀ {x a}, ow.lookup x = some a → (ow ++ clOf env.cells scope.names []).lookup x = some a := fun {x a} h => by rw [List.lookup_append, h]; rfl
  have clLook : ∀ {x a}, (x, NameKind.free) ∈ scope.names → env.cells.lookup x = some a → (ow ++ clOf env.cells scope.names []).lookup x = some a := fun {x a} h1 h2 => by
    rw [List.lookup_append]
    have : ow.lookup x = none := by
      cases e : ow.lookup x with
      | none => rfl
      | some b => exact absurd (nodup_kind S.nodup h1 (owCell (mem_of_lookup' e))) (by decide)
    rw [this, clOf_lookup env.cells h1, h2]
    rfl
  have hcellsEnv : ∀ {x a}, env.cells.lookup x = some a → (∃ d, ρ.lookup x = some d ∧ (env.scope.names.lookup x = some .cell ∨ env.scope.names.lookup x = some .free)) → a < D₀ := fun {x a} hx hd => by
    obtain ⟨d, hd, hk⟩ := hd
    obtain ⟨cl, v, h1, ⟨o, h2, _⟩, _⟩ := F.cel x d hk hd
    rw [hx] at h1; cases h1
    have := Heap.lt_size (kk₂ _ o h2)
    rw [hD] at this; exact this
  have freeLt : ∀ {x a}, (x, NameKind.free) ∈ scope.names → env.cells.lookup x = some a → a < D₀ := fun {x a} h1 h2 => by
    obtain ⟨h3, d, hd⟩ := S.free x h1
    exact hcellsEnv h2 ⟨d, hd, by rw [he]; exact h3⟩
  have hap : ∀ x y a, (ow ++ clOf env.cells scope.names []).lookup x = some a → (ow ++ clOf env.cells scope.names []).lookup y = some a → x = y := fun x y a hx hy => by
    have hx' := List.mem_append.mp (mem_of_lookup' hx)
    have hy' := List.mem_append.mp (mem_of_lookup' hy)
    rcases hx' with hx' | hx' <;> rcases hy' with hy' | hy'
    · exact congrArg Prod.fst (pairwise_same ok.apart hx' hy' rfl)
    · have h1 := owGe hx'
      have h2 := freeLt (clFree hy').1 (clFree hy').2
      exact absurd h2 (Nat.not_lt.mpr (by omega))
    · have h1 := owGe hy'
      have h2 := freeLt (clFree hx').1 (clFree hx').2
      exact absurd h2 (Nat.not_lt.mpr (by omega))
    · exact F.apart x y a (clFree hx').2 (clFree hy').2
  rw [hcells]
  have CB : CompBase c X s.heap { scope := relabel scope env, locals := D₀ + 1, globals := env.globals, cells := ow ++ clOf env.cells scope.names [], qual := env.qual, func := none, code := env.code, frame := env.frame, builtins := env.builtins } ρf := by
    refine ⟨S.kind, F.gl, F.bl, fun x d hd => ?_, hap⟩
    obtain ⟨h1, h2⟩ := S.sub x d hd
    obtain ⟨h3, _⟩ := S.free x h1
    obtain ⟨cl, v, h4, h5, r⟩ := F.cel x d (by rw [he]; exact h3) h2
    exact ⟨relab_free (lookup_of_mem S.nodup h1), cl, v, clLook h1 h4, h5, r⟩
  have B : Base c (fun a => X a ∨ a = D₀) os s.heap { s₂ with heap := pushCells H₂ scope.names } { scope := relabel scope env, locals := D₀ + 1, globals := env.globals, cells := ow ++ clOf env.cells scope.names [], qual := env.qual, func := none, code := env.code, frame := env.frame, builtins := env.builtins } ow := by
    refine ⟨G.toGlo0, fun a q => ?_, kk₂.trans kall, snone (Nat.le_succ _), ⟨_, hNs, rfl⟩, fun x a h => ⟨owLook h, snone ?_, none, (ok.empty x a (mem_of_lookup' h)).1⟩, fun x hx => ?_⟩
    · rcases q with q | rfl
      · obtain ⟨o, ho⟩ := G.vis a q
        exact ⟨o, kall _ _ (kk₂ _ _ ho)⟩
      · obtain ⟨k, e⟩ := hDat; exact ⟨_, e⟩
    · have := owGe (mem_of_lookup' h)
      exact Nat.le_trans (Nat.le_add_right _ _) this
    · obtain ⟨a, ha⟩ := cellsFrom_has scope.names (D₀ + 1 + 1) [] x (S.own x hx)
      rw [how] at ha
      exact lookup_isSome_of_mem ha
  have W' := W (fun a => X a ∨ a = D₀) (fun a q => q.elim .inl fun e => .inr (e ▸ s2none (Nat.le_refl _)))
  have hst' : St 0 (pushCells H₂ scope.names) := W'.frame _ _ _ hst fun b _ o e => kall b o e
  have loop := comp_loop (R := compPost c.M A E use Q (.ref D₀) (D₀ + 1)) (elt := elt) (iter := iter) (scope := scope) (pos := pos) (cenv := { scope := relabel scope env, locals := D₀ + 1, globals := env.globals, cells := ow ++ clOf env.cells scope.names [], qual := env.qual, func := none, code := env.code, frame := env.frame, builtins := env.builtins })
    p g tb R W' CB (by show relabel scope env = relab scope sc; rw [← he]; rfl) hasg htest helt hst' hDat B (kall.seqs _) (fun b hb => ?_) (fun b hb => hwr b hb) (snone (Nat.le_refl _)) (Nat.ne_of_lt (Nat.lt_succ_self _)) (fun x hx => ?_) hsz
    fun h' tk m' ys hm' hx' hl hys kp => ?_
  · exact codeAny_compStart_list loop (W'.self 0 _ _ _ hst' loop)
  · have hb' := W'.old b hb
    rw [hD] at hb'
    refine ⟨Nat.ne_of_lt (Nat.lt_succ_of_lt hb'), fun x hx => ?_, Nat.ne_of_lt hb'⟩
    have := owGe (mem_of_lookup' hx)
    exact absurd hb' (Nat.not_lt.mpr (by omega))
  · have := owGe (mem_of_lookup' hx)
    omega
  · obtain ⟨h₂, tk₂, rfl, _⟩ := k₂
    exact hQ D₀ (D₀ + 1) { s with heap := h', toks := tk } ys m' ⟨h', tk, rfl, kp⟩ (snone (Nat.le_succ _)) (Nat.ne_of_lt (Nat.lt_succ_self _)) (snone (Nat.le_refl _)) hm' hx' hl hys
end
end Mine
end
section
open PySem PySem.W PyProof.Rows PySem.Calls
set_option maxRecDepth 10000
namespace Mine
section
variable {c : Cx} {n : Nat} {sc : Scope} {ρ : Loc}
/-- a plain list is a list -/
theorem ev_pls {e : PySem.Expr} {ds : List D} (h : Ev c n sc ρ e (.pls ds)) : Ev c n sc ρ e (.lst ds) := by
  intro X A E s env Q R G he F hQ
  exact h X A E s env Q R G he F fun v s' k r => hQ v s' k r.weak
theorem rep_of_comp {X : Addr → Prop} {h h' : Heap} {D₀ C : Addr} {m : Str → Option Value} {ys : List Value} {ds : List D} (hX : ¬ X D₀) (hl : h.PlainList D₀ (List.toArray ys)) (hr : Reps (fun a => X a ∨ a = D₀) h ys ds)
    (hm : h.Ns C m) (hx : m hname = none) (hs : Heap.SameBut C h h') (hne : D₀ ≠ C) : Rep X h' (.ref D₀) (.pls ds) := by
  refine .pls hX ?_ ((hr.seqs (seqs_sameBut hs hm hx)).avoid fun a q => .inl (.inl q))
  exact hl.extBut hs.extBut hne
theorem ev_compP {elt t iter : PySem.Expr} {ifs : List PySem.Expr} {scope : Scope} {pos : Pos} {ds : List D} {ρf : Loc} {os : List Str} (p : D → Bool) (g : D → D) (tb : D → Loc)
    (S : CompSc sc scope ρ ρf os) (hsrc : Srcs c n sc ρ iter t ds) (hasg : ∀ d ∈ ds, Asg c n os (relab scope sc) ρf t d (tb d))
    (htest : ∀ d ∈ ds, Tests c n (relab scope sc) (tb d ++ ρf) ifs (p d)) (helt : ∀ d ∈ ds, p d = true → Ev c n (relab scope sc) (tb d ++ ρf) elt (g d)) (hsz : ds.length ≤ sizeLine)
    (hfs : ∀ env x, foldedSetIterable iter env x = pure x := by intro _ _; rfl) :
    Ev c n sc ρ (.ListComp elt [⟨t, iter, ifs, 0⟩] scope pos) (.pls ((ds.filter p).map g)) := by
  intro X A E s env Q R G he F hQ
  rw [eval_ListComp]
  refine comp_any p g tb S hsrc hasg htest helt hsz hfs (use := none) X A E s env Q R G he F fun D₀ C s' ys m k hC hne hD hm hx hl hr => ?_
  refine ⟨m, hm, fun h' hs => ?_⟩
  have hX : ¬ X D₀ := fun q => by obtain ⟨o, e⟩ := G.vis _ q; rw [hD] at e; cases e
  obtain ⟨hp, tk, rfl, kp⟩ := k
  refine hQ _ _ ⟨h', tk, rfl, fun b o e => ?_⟩ (rep_of_comp hX hl hr hm hx hs hne)
  exact (hs.2 b (by rintro rfl; rw [hC] at e; cases e)).trans (kp b o e)
theorem ev_comp {elt t iter : PySem.Expr} {ifs : List PySem.Expr} {scope : Scope} {pos : Pos} {ds : List D} {ρf : Loc} {os : List Str} (p : D → Bool) (g : D → D) (tb : D → Loc)
    (S : CompSc sc scope ρ ρf os) (hsrc : Srcs c n sc ρ iter t ds) (hasg : ∀ d ∈ ds, Asg c n os (relab scope sc) ρf t d (tb d))
    (htest : ∀ d ∈ ds, Tests c n (relab scope sc) (tb d ++ ρf) ifs (p d)) (helt : ∀ d ∈ ds, p d = true → Ev c n (relab scope sc) (tb d ++ ρf) elt (g d)) (hsz : ds.length ≤ sizeLine)
    (hfs : ∀ env x, foldedSetIterable iter env x = pure x := by intro _ _; rfl) :
    Ev c n sc ρ (.ListComp elt [⟨t, iter, ifs, 0⟩] scope pos) (.lst ((ds.filter p).map g)) := by
  intro X A E s env Q R G he F hQ
  exact ev_compP p g tb S hsrc hasg htest helt hsz hfs X A E s env Q R G he F fun v s' k r => hQ v s' k r.weak
theorem FrameOK.but {X : Addr → Prop} {s s' : Shared} {env : Env} {C : Addr} {m : Str → Option Value} (F : FrameOK X s env ρ) (hs : Heap.SameBut C s.heap s'.heap) (hm : s.heap.Ns C m) (hx : m hname = none) (hL : C ≠ env.locals) : FrameOK X s' env ρ := by
  have sq : Seqs X s.heap s'.heap := seqs_sameBut hs hm hx
  obtain ⟨a, b, c, ⟨m', hm', hl⟩, hc, hap⟩ := F
  refine ⟨a, b, c, ⟨m', hm'.sameBut hs (Ne.symm hL), fun x d h1 h2 => ?_⟩, fun x d h1 h2 => ?_, hap⟩
  · obtain ⟨v, hv, r⟩ := hl x d h1 h2
    exact ⟨v, hv, r.seqs sq⟩
  · obtain ⟨cl, v, h3, ⟨o, h4, h5⟩, r⟩ := hc x d h1 h2
    refine ⟨cl, v, h3, ⟨o, (hs.2 cl ?_).trans h4, h5⟩, r.seqs sq⟩
    rintro rfl
    obtain ⟨o', es, ep, q1, q2, _⟩ := hm
    rw [h4] at q1; cases q1
    rw [h5] at q2; cases q2
/-- y = [.. for ..] -/
theorem ex1_assignCompP {elt t iter : PySem.Expr} {ifs : List PySem.Expr} {scope : Scope} {pos spos py : Pos} {y : Str} {ds : List D} {ρf : Loc} {os os' : List Str} (p : D → Bool) (g : D → D) (tb : D → Loc)
    (S : CompSc sc scope ρ ρf os) (hsrc : Srcs c n sc ρ iter t ds) (hasg : ∀ d ∈ ds, Asg c n os (relab scope sc) ρf t d (tb d))
    (htest : ∀ d ∈ ds, Tests c n (relab scope sc) (tb d ++ ρf) ifs (p d)) (helt : ∀ d ∈ ds, p d = true → Ev c n (relab scope sc) (tb d ++ ρf) elt (g d)) (hsz : ds.length ≤ sizeLine)
    (hst : Sto c n os' sc ρ y (.pls ((ds.filter p).map g)))
    (hsw : ∀ env : Env, env.scope = sc → swapsWith (.ListComp elt [⟨t, iter, ifs, 0⟩] scope pos) (some (.Name y py)) spos.line env = pure true)
    (hfs : ∀ env x, foldedSetIterable iter env x = pure x := by intro _ _; rfl) :
    Ex1 c n os' sc ρ (.Assign [.Name y py] (.ListComp elt [⟨t, iter, ifs, 0⟩] scope pos) spos) (.next ((y, .pls ((ds.filter p).map g)) :: ρ)) := by
  intro X A E s env ow h₀ Q R B he F h
  rw [exec_Assign_Name_used _ _ _ _ (hsw env he)]
  refine wpAny_bind (wpAny_standAt (wpAny_bind ?_))
  show wpAny c.M A (do let _ ← comprehension (.ListComp elt [⟨t, iter, ifs, 0⟩] scope pos) scope env _ (newList []) false (eval iter env) (some (assign (.Name y py) env))) _ _ s
  refine wpAny_bind (comp_any p g tb S hsrc hasg htest helt hsz hfs (use := some (assign (.Name y py) env)) X A E s env _ R B.gl he F fun D₀ C s' ys m k hC hne hD hm hx hl hr => ?_)
  have kk := keeps_heap k
  have hX : ¬ X D₀ := fun q => by obtain ⟨o, e⟩ := B.vis _ q; rw [hD] at e; cases e
  have B' := B.more kk
  have F' := F.keeps kk
  have hCL : C ≠ env.locals := by
    rintro rfl
    obtain ⟨m, ⟨o, _, _, q, _⟩, _⟩ := B.nohdr
    rw [hC] at q; cases q
  have hCo : ∀ x, ow.lookup x ≠ some C := fun x q => by
    obtain ⟨_, _, v, o, e, _⟩ := B.cells x C q
    rw [hC] at e; cases e
  show wpAny c.M A (assign (.Name y py) env (.ref D₀)) _ _ _
  refine wpAny_assign_Name (hst X A E s' env ow h₀ (.ref D₀) _ R B' he F' (rep_of_comp (C := C) hX hl hr hm hx ⟨rfl, fun _ _ => rfl⟩ hne) fun s'' mv B'' F'' => ?_)
  have hm'' : s''.heap.Ns C m := hm.at' fun o e => mv.2 C o ⟨hCL, hCo⟩ e
  refine ⟨m, hm'', fun h' hs => ?_⟩
  refine wpAny_pure (wpAny_pure ?_)
  have mv2 : Moved env ow s'' { s'' with heap := h' } → Moved env ow s { s'' with heap := h' } := fun q => ((Moved.of_keeps k).trans mv).trans q
  have hmove : Moved env ow s { s'' with heap := h' } := by
    refine ⟨?_, fun b o hb e => ?_⟩
    · obtain ⟨h1, t1, rfl, _⟩ := k
      obtain ⟨⟨h2, t2, rfl⟩, _⟩ := mv
      exact ⟨h', t2, rfl⟩
    · have hbC : b ≠ C := by rintro rfl; rw [hC] at e; cases e
      exact (hs.2 b hbC).trans (mv.2 b o hb (kk b o e))
  have Bf : Base c X os' h₀ { s'' with heap := h' } env ow := by
    refine B''.but (fun b => b = C) (fun b o hb e => (hs.2 b hb).trans e) (fun b hb hxb => ?_) (fun b hb => ?_)
    · subst hb
      obtain ⟨o, e⟩ := B.vis _ hxb
      rw [hC] at e; cases e
    · subst hb
      refine ⟨none_old B.keep hC, hCL, hCo⟩
  exact h _ _ hmove Bf ⟨rfl, F''.but (s' := { s'' with heap := h' }) hs hm'' hx hCL⟩
/-- y = [.. for ..] -/
theorem ex1_assignComp {elt t iter : PySem.Expr} {ifs : List PySem.Expr} {scope : Scope} {pos spos py : Pos} {y : Str} {ds : List D} {ρf : Loc} {os os' : List Str} (p : D → Bool) (g : D → D) (tb : D → Loc)
    (S : CompSc sc scope ρ ρf os) (hsrc : Srcs c n sc ρ iter t ds) (hasg : ∀ d ∈ ds, Asg c n os (relab scope sc) ρf t d (tb d))
    (htest : ∀ d ∈ ds, Tests c n (relab scope sc) (tb d ++ ρf) ifs (p d)) (helt : ∀ d ∈ ds, p d = true → Ev c n (relab scope sc) (tb d ++ ρf) elt (g d)) (hsz : ds.length ≤ sizeLine)
    (hst : Sto c n os' sc ρ y (.lst ((ds.filter p).map g)))
    (hsw : ∀ env : Env, env.scope = sc → swapsWith (.ListComp elt [⟨t, iter, ifs, 0⟩] scope pos) (some (.Name y py)) spos.line env = pure true)
    (hfs : ∀ env x, foldedSetIterable iter env x = pure x := by intro _ _; rfl) :
    Ex1 c n os' sc ρ (.Assign [.Name y py] (.ListComp elt [⟨t, iter, ifs, 0⟩] scope pos) spos) (.next ((y, .lst ((ds.filter p).map g)) :: ρ)) := by
  intro X A E s env ow h₀ Q R B he F h
  rw [exec_Assign_Name_used _ _ _ _ (hsw env he)]
  refine wpAny_bind (wpAny_standAt (wpAny_bind ?_))
  show wpAny c.M A (do let _ ← comprehension (.ListComp elt [⟨t, iter, ifs, 0⟩] scope pos) scope env _ (newList []) false (eval iter env) (some (assign (.Name y py) env))) _ _ s
  refine wpAny_bind (comp_any p g tb S hsrc hasg htest helt hsz hfs (use := some (assign (.Name y py) env)) X A E s env _ R B.gl he F fun D₀ C s' ys m k hC hne hD hm hx hl hr => ?_)
  have kk := keeps_heap k
  have hX : ¬ X D₀ := fun q => by obtain ⟨o, e⟩ := B.vis _ q; rw [hD] at e; cases e
  have B' := B.more kk
  have F' := F.keeps kk
  have hCL : C ≠ env.locals := by
    rintro rfl
    obtain ⟨m, ⟨o, _, _, q, _⟩, _⟩ := B.nohdr
    rw [hC] at q; cases q
  have hCo : ∀ x, ow.lookup x ≠ some C := fun x q => by
    obtain ⟨_, _, v, o, e, _⟩ := B.cells x C q
    rw [hC] at e; cases e
  show wpAny c.M A (assign (.Name y py) env (.ref D₀)) _ _ _
  refine wpAny_assign_Name (hst X A E s' env ow h₀ (.ref D₀) _ R B' he F' (rep_of_comp (C := C) hX hl hr hm hx ⟨rfl, fun _ _ => rfl⟩ hne).weak fun s'' mv B'' F'' => ?_)
  have hm'' : s''.heap.Ns C m := hm.at' fun o e => mv.2 C o ⟨hCL, hCo⟩ e
  refine ⟨m, hm'', fun h' hs => ?_⟩
  refine wpAny_pure (wpAny_pure ?_)
  have mv2 : Moved env ow s'' { s'' with heap := h' } → Moved env ow s { s'' with heap := h' } := fun q => ((Moved.of_keeps k).trans mv).trans q
  have hmove : Moved env ow s { s'' with heap := h' } := by
    refine ⟨?_, fun b o hb e => ?_⟩
    · obtain ⟨h1, t1, rfl, _⟩ := k
      obtain ⟨⟨h2, t2, rfl⟩, _⟩ := mv
      exact ⟨h', t2, rfl⟩
    · have hbC : b ≠ C := by rintro rfl; rw [hC] at e; cases e
      exact (hs.2 b hbC).trans (mv.2 b o hb (kk b o e))
  have Bf : Base c X os' h₀ { s'' with heap := h' } env ow := by
    refine B''.but (fun b => b = C) (fun b o hb e => (hs.2 b hb).trans e) (fun b hb hxb => ?_) (fun b hb => ?_)
    · subst hb
      obtain ⟨o, e⟩ := B.vis _ hxb
      rw [hC] at e; cases e
    · subst hb
      refine ⟨none_old B.keep hC, hCL, hCo⟩
  exact h _ _ hmove Bf ⟨rfl, F''.but (s' := { s'' with heap := h' }) hs hm'' hx hCL⟩
end
end Mine
end
section
open PySem PySem.W PyProof.Rows PySem.Calls
set_option maxRecDepth 10000
namespace Mine
noncomputable def forOut (step : D → Loc → Out) : List D → Loc → Out
  | [], ρ => .next ρ
  | d :: ds, ρ => match step d ρ with
    | .next ρ' => forOut step ds ρ'
    | .ret v => .ret v
section
variable {c : Cx} {n : Nat} {os : List Str} {sc : Scope} {ρ : Loc}
theorem FrameOK.butW {X : Addr → Prop} {s s' : Shared} {env : Env} (F : FrameOK X s env ρ) (W : Addr → Prop) (k : ∀ b o, ¬ W b → s.heap.get? b = some o → s'.heap.get? b = some o)
    (hW : ∀ b, W b → b ≠ env.locals ∧ ∃ o, s.heap.get? b = some o ∧ Dat o = false ∧ ∀ v, o.data ≠ .cell v) : FrameOK X s' env ρ := by
  have sq : Seqs X s.heap s'.heap := fun a o _ e hd => k a o (fun w => by
    obtain ⟨_, o', e', hn, _⟩ := hW a w
    rw [e] at e'; cases e'
    rw [hd] at hn; cases hn) e
  obtain ⟨a, b, c, ⟨m', hm', hl⟩, hc, hap⟩ := F
  refine ⟨a, b, c, ⟨m', hm'.at' fun o e => k _ o (fun w => (hW _ w).1 rfl) e, fun x d h1 h2 => ?_⟩, fun x d h1 h2 => ?_, hap⟩
  · obtain ⟨v, hv, r⟩ := hl x d h1 h2
    exact ⟨v, hv, r.seqs sq⟩
  · obtain ⟨cl, v, h3, ⟨o, h4, h5⟩, r⟩ := hc x d h1 h2
    refine ⟨cl, v, h3, ⟨o, k cl o (fun w => ?_) h4, h5⟩, r.seqs sq⟩
    obtain ⟨_, o', e', _, hn⟩ := hW cl w
    rw [h4] at e'; cases e'
    exact hn _ h5
theorem FrameOK.weak {X : Addr → Prop} {s : Shared} {env : Env} {ρ' : Loc} (F : FrameOK X s env ρ) (h : ∀ x d, ρ'.lookup x = some d → ρ.lookup x = some d) : FrameOK X s env ρ' := by
  obtain ⟨a, b, c, ⟨m', hm', hl⟩, hc, hap⟩ := F
  exact ⟨a, b, c, ⟨m', hm', fun x d h1 h2 => hl x d h1 (h x d h2)⟩, fun x d h1 h2 => hc x d h1 (h x d h2), hap⟩
theorem ex_weak {b : List Stmt} {ρ' : Loc} {out : Out} (h : Ex c n os sc ρ' b out) (hw : ∀ x d, ρ'.lookup x = some d → ρ.lookup x = some d) : Ex c n os sc ρ b out := by
  intro X A E s env ow h₀ Q R B he F hQ
  exact h X A E s env ow h₀ Q R B he (F.weak hw) hQ
theorem ex_out {b : List Stmt} {ρ₁ ρ₂ : Loc} (h : Ex c n os sc ρ b (.next ρ₁)) (hw : ∀ x d, ρ₂.lookup x = some d → ρ₁.lookup x = some d) : Ex c n os sc ρ b (.next ρ₂) := by
  intro X A E s env ow h₀ Q R B he F hQ
  exact h X A E s env ow h₀ Q R B he F fun f s' mv B' ok => hQ f s' mv B' ⟨ok.1, ok.2.weak hw⟩
theorem ex1_for {t iter : PySem.Expr} {body : List Stmt} {pos : Pos} {ds : List D} (step : D → Loc → Out) (I : List D → Loc → Prop) (hsrc : Srcs c n sc ρ iter t ds) (h0 : I ds ρ)
    (turn : ∀ d r ρ, I (d :: r) ρ → (∃ bs, Asg c n os sc ρ t d bs ∧ Ex c n os sc (bs ++ ρ) body (step d ρ)) ∧ ∀ ρ', step d ρ = .next ρ' → I r ρ')
    (hfs : ∀ env x, foldedSetIterable iter env x = pure x := by intro _ _; rfl) : Ex1 c n os sc ρ (.For t iter body [] pos) (forOut step ds ρ) := by
  intro X A E s env ow h₀ Q R B he F hQ
  refine wpAny_For ?_ (hfs env)
  refine hsrc X A E s env _ R B.gl he F fun It s₂ fp wr St k₂ W hst hwr => ?_
  have kk₂ := keeps_heap k₂
  have W' := W X (fun a q => .inl q)
  have wrMain : ∀ b ∈ wr, mainOnly b env ow := fun b hb => by
    refine ⟨?_, fun x q => ?_⟩
    · rintro rfl
      obtain ⟨m, ⟨o, _, _, q, _⟩, _⟩ := B.nohdr
      rw [hwr _ hb] at q; cases q
    · obtain ⟨_, _, v, o, e, _⟩ := B.cells x b q
      rw [hwr _ hb] at e; cases e
  have wr0 : ∀ b ∈ wr, h₀.get? b = none := fun b hb => none_old B.keep (hwr b hb)
  refine codeAny_forLoop_any (fun k s' => ∃ i ρ', St i s'.heap ∧ i ≤ ds.length ∧ I (ds.drop i) ρ' ∧ forOut step ds ρ = forOut step (ds.drop i) ρ' ∧ Base c X os h₀ s' env ow ∧ FrameOK X s' env ρ' ∧ Seqs X s₂.heap s'.heap ∧
      ((∃ h' tk, s' = { s with heap := h', toks := tk }) ∧ ∀ b o, mainOnly b env ow → s.heap.get? b = some o → s'.heap.get? b = some o) ∧ k = ds.length + 1 - i) ?_ (ds.length + 1)
    ⟨0, ρ, hst, Nat.zero_le _, h0, rfl, B.more kk₂, F.keeps kk₂, Seqs.refl _ _, ⟨by obtain ⟨h1, t1, e, _⟩ := k₂; exact ⟨h1, t1, e⟩, fun b o _ e => kk₂ b o e⟩, rfl⟩
  rintro k s' ⟨i, ρ', hst', hi, hI, hout, B', F', sq, ⟨hsame, hmain⟩, rfl⟩
  have stepS : ∀ {h₁ : Heap}, (∀ b o, b ∉ wr → s'.heap.get? b = some o → h₁.get? b = some o) → Seqs X s'.heap h₁ := fun {h₁} hk₁ a o _ e hda => hk₁ a o (fun hm => by
    obtain ⟨o', e', hn, _⟩ := W'.live _ _ hst' a hm
    rw [e] at e'; cases e'
    rw [hda] at hn; cases hn) e
  have lv : ∀ {h₁ : Heap} {tk₁ : Nat} {j : Nat}, (∀ b o, b ∉ wr → s'.heap.get? b = some o → h₁.get? b = some o) → St j h₁ → Base c X os h₀ { s' with heap := h₁, toks := tk₁ } env ow := fun {h₁ tk₁ j} hk₁ st₁ =>
    B'.but (fun b => b ∈ wr) (fun b o hm e => hk₁ b o hm e) (fun b hm _ => by obtain ⟨o, e, _⟩ := W'.live _ _ st₁ b hm; exact ⟨o, e⟩) fun b hm => ⟨wr0 b hm, (wrMain b hm).1, (wrMain b hm).2⟩
  have lf : ∀ {h₁ : Heap} {tk₁ : Nat}, (∀ b o, b ∉ wr → s'.heap.get? b = some o → h₁.get? b = some o) → FrameOK X { s' with heap := h₁, toks := tk₁ } env ρ' := fun {h₁ tk₁} hk₁ =>
    F'.butW (fun b => b ∈ wr) (fun b o hm e => hk₁ b o hm e) fun b hm => ⟨(wrMain b hm).1, W'.live _ _ hst' b hm⟩
  have mainStep : ∀ {h₁ : Heap}, (∀ b o, b ∉ wr → s'.heap.get? b = some o → h₁.get? b = some o) → ∀ b o, mainOnly b env ow → s.heap.get? b = some o → h₁.get? b = some o := fun {h₁} hk₁ b o hb e =>
    hk₁ b o (fun hm => by rw [hwr b hm] at e; cases e) (hmain b o hb e)
  cases hd : ds[i]? with
  | none =>
    have hin : i = ds.length := by
      have : ds.length ≤ i := by simpa using hd
      omega
    subst hin
    refine W'.done _ _ _ hst' fun h₁ tk₁ hk₁ => ?_
    refine wpAny_execs_nil ?_
    have hB : Base c X os h₀ { s' with heap := h₁, toks := tk₁ } env ow := by
      refine B'.but (fun b => b ∈ wr) (fun b o hm e => hk₁ b o hm e) (fun b hm hx => ?_) fun b hm => ⟨wr0 b hm, (wrMain b hm).1, (wrMain b hm).2⟩
      obtain ⟨o, e⟩ := B.vis b hx
      rw [hwr b hm] at e; cases e
    rw [List.drop_of_length_le (Nat.le_refl _)] at hout
    refine hQ .next _ ⟨?_, mainStep hk₁⟩ hB (by rw [hout]; exact ⟨rfl, lf hk₁⟩)
    obtain ⟨h1, t1, rfl⟩ := hsame
    exact ⟨h₁, tk₁, rfl⟩
  | some d =>
    have hlt : i < ds.length := by
      rcases Nat.lt_or_ge i ds.length with h | h
      · exact h
      · rw [List.getElem?_eq_none h] at hd; cases hd
    have hdrop : ds.drop i = d :: ds.drop (i + 1) := by
      rw [List.drop_eq_getElem_cons hlt]
      congr 1
      rw [List.getElem?_eq_getElem hlt] at hd
      exact Option.some.inj hd
    rw [hdrop] at hI hout
    obtain ⟨⟨bs, ha, hb⟩, hnx⟩ := turn d _ ρ' hI
    refine wpAny_mono (W'.item i _ d (fun v s₂ => ∃ h₁ tk₁, s₂ = { s' with heap := h₁, toks := tk₁ } ∧ Rep X h₁ v d ∧ St (i + 1) h₁ ∧ (∀ b o, b ∉ wr → s'.heap.get? b = some o → h₁.get? b = some o)) _ hd hst' sq B'.vis
      fun v h₁ tk₁ rv st₁ hk₁ => ⟨h₁, tk₁, rfl, rv, st₁, hk₁⟩) (fun r s₁ h₁' => ?_) fun _ _ e => e
    obtain ⟨v, rfl, hv⟩ := h₁'
    dsimp only
    refine wpAny_mono hv (fun _ s₂' hs₂ => ?_) fun _ _ e => e
    obtain ⟨h₁, tk₁, rfl, rv, st₁, hk₁⟩ := hs₂
    have B₁ : Base c X os h₀ { s' with heap := h₁, toks := tk₁ } env ow := lv hk₁ st₁
    have F₁ : FrameOK X { s' with heap := h₁, toks := tk₁ } env ρ' := lf hk₁
    refine ha X A _ _ env ow h₀ v _ R B₁ he F₁ rv fun s₃ m₃ B₃ F₃ => ?_
    refine hb X A _ s₃ env ow h₀ _ R B₃ he F₃ fun f s₄ m₄ B₄ ok => ?_
    have m₁₄ := m₃.trans m₄
    have sq₄ : Seqs X s₂.heap s₄.heap := ((sq.trans (stepS hk₁)).trans (m₃.seqs B₁)).trans (m₄.seqs B₃)
    have same₄ : ∃ h' tk, s₄ = { s with heap := h', toks := tk } := by
      obtain ⟨h1, t1, rfl⟩ := hsame
      obtain ⟨⟨h2, t2, rfl⟩, _⟩ := m₁₄
      exact ⟨h2, t2, rfl⟩
    have main₄ : ∀ b o, mainOnly b env ow → s.heap.get? b = some o → s₄.heap.get? b = some o := fun b o hb' e => m₁₄.2 b o hb' (mainStep hk₁ b o hb' e)
    have st₄ : St (i + 1) s₄.heap := W'.frame _ _ _ st₁ fun b hb' o e => m₁₄.2 b o (by
      rcases W'.away _ _ st₁ b hb' with h | ⟨o', e', hd'⟩
      · exact wrMain b h
      · exact B₁.notDat (s := { s' with heap := h₁, toks := tk₁ }) e' hd') e
    cases hs : step d ρ' with
    | next ρ'' =>
      rw [hs] at ok
      obtain ⟨rfl, F₄⟩ := ok
      refine ⟨ds.length + 1 - (i + 1), by omega, i + 1, ρ'', st₄, hlt, hnx ρ'' hs, ?_, B₄, F₄, sq₄, ⟨same₄, main₄⟩, rfl⟩
      rw [hout]
      show (match step d ρ' with | .next ρ' => forOut step (ds.drop (i + 1)) ρ' | .ret v => .ret v) = _
      rw [hs]
    | ret dv =>
      rw [hs] at ok
      obtain ⟨u, rfl, ru⟩ := ok
      refine hQ (.ret u) s₄ ⟨same₄, main₄⟩ B₄ ?_
      rw [hout]
      show OutOK X s₄ env (match step d ρ' with | .next ρ' => forOut step (ds.drop (i + 1)) ρ' | .ret v => .ret v) _
      rw [hs]
      exact ⟨u, rfl, ru⟩
end
end Mine
end
section
open PySem PySem.W PyProof.Rows PySem.Calls
set_option maxRecDepth 10000
namespace Mine
section
variable {c : Cx} {n : Nat} {sc : Scope} {ρ : Loc} {e i : PySem.Expr} {pos : Pos}
/-- an index that is no cut -/
noncomputable abbrev PlainIx (i : PySem.Expr) : Prop := ∀ o v, subscripted i false o v = operate [o, v] (getItem o v)
theorem ev_item_tup {ds : List D} {k : Int} {d : D} (he : Ev c n sc ρ e (.tup ds)) (hi : Ev c n sc ρ i (.int k)) (h0 : 0 ≤ k) (hk : ds[k.toNat]? = some d) (hz : ds.length < 2 ^ 62 := by first | decide | (simp; done))
    (hix : PlainIx i := by intro _ _; with_unfolding_all rfl) : Ev c n sc ρ (.Subscript e i pos) d := by
  intro X A E s env Q R G hs F hQ
  refine Subscript_ (he X A E s env _ R G hs F fun v₁ s₁ k₁ r₁ => ?_)
  refine hi X A E s₁ env _ R (G.keeps (keeps_heap k₁)) hs (F.keeps (keeps_heap k₁)) fun v₂ s₂ k₂ r₂ => ?_
  have r₁' := r₁.keeps (keeps_heap k₂)
  obtain ⟨_, _, rfl, hx, ht, rs⟩ := rep_inv r₁'
  obtain ⟨_, rfl⟩ := rep_inv r₂
  rename_i a vs t
  obtain ⟨v, hv, rv⟩ := rs.get hk
  have hlen := rs.length
  have hlt : k.toNat < ds.length := by
    rcases Nat.lt_or_ge k.toNat ds.length with h | h
    · exact h
    · rw [List.getElem?_eq_none h] at hk; cases hk
  refine item_tupleT (l := vs) (j := k.toNat) ht (by omega) (by omega) ?_ hv (hQ v s₂ (keeps_trans k₁ k₂) rv) (hix _ _)
  unfold seqIndex?
  rw [hlen]
  have h2 : ¬ k < 0 := by omega
  simp only [h2, if_false]
  rw [if_pos (by simp; omega)]
theorem ev_item_list {ds : List D} {k : Int} {d : D} (he : Ev c n sc ρ e (.lst ds)) (hi : Ev c n sc ρ i (.int k)) (h0 : 0 ≤ k) (hk : ds[k.toNat]? = some d) (hf : k < 2 ^ 63 := by first | decide | omega)
    (hix : PlainIx i := by intro _ _; with_unfolding_all rfl) : Ev c n sc ρ (.Subscript e i pos) d := by
  intro X A E s env Q R G hs F hQ
  refine Subscript_ (he X A E s env _ R G hs F fun v₁ s₁ k₁ r₁ => ?_)
  refine hi X A E s₁ env _ R (G.keeps (keeps_heap k₁)) hs (F.keeps (keeps_heap k₁)) fun v₂ s₂ k₂ r₂ => ?_
  have r₁' := r₁.keeps (keeps_heap k₂)
  obtain ⟨_, _, rfl, hx, ht, rs⟩ := rep_inv r₁'
  obtain ⟨_, rfl⟩ := rep_inv r₂
  rename_i a vs t
  obtain ⟨v, hv, rv⟩ := rs.get hk
  exact tail_any ht.typeIs slot_list_getitem.lookup (wpAny_getItem_list ht h0 hf (by simpa using hv) (hQ v s₂ (keeps_trans k₁ k₂) rv)) (hix _ _)
theorem ev_item_bytes {l : List UInt8} {k : Int} (he : Ev c n sc ρ e (.bytes l.toArray)) (hi : Ev c n sc ρ i (.int k)) (h0 : 0 ≤ k) (hk : k < l.length) (hf : l.length ≤ 1099511627776 := by first | decide | (simp; done))
    (hix : PlainIx i := by intro _ _; with_unfolding_all rfl) : Ev c n sc ρ (.Subscript e i pos) (.int (l.getD k.toNat 0).toNat) := by
  intro X A E s env Q R G hs F hQ
  refine Subscript_ (he X A E s env _ R G hs F fun v₁ s₁ k₁ r₁ => ?_)
  refine hi X A E s₁ env _ R (G.keeps (keeps_heap k₁)) hs (F.keeps (keeps_heap k₁)) fun v₂ s₂ k₂ r₂ => ?_
  have r₁' := r₁.keeps (keeps_heap k₂)
  obtain ⟨_, rfl⟩ := rep_inv r₁'
  obtain ⟨_, rfl⟩ := rep_inv r₂
  refine tail_any (T := "bytes") (typeIs_bytes s₂ _ _) FB.slot_bytes_getitem.lookup (getItem_bytes hf h0 hk (hQ _ _ (keeps_trans (keeps_trans k₁ k₂) (keeps_tok _ _)) (.int _ _))) (hix _ _)
end
end Mine
end
section
open PySem PySem.W PyProof.Rows PySem.Calls
set_option maxRecDepth 10000
namespace Mine
section
variable {c : Cx} {n : Nat}
theorem reps1 {X : Addr → Prop} {h : Heap} {vs : List Value} {d : D} (r : Reps X h vs [d]) : ∃ v, vs = [v] ∧ Rep X h v d := by
  cases r with
  | cons r rs => cases rs; exact ⟨_, rfl, r⟩
theorem reps2 {X : Addr → Prop} {h : Heap} {vs : List Value} {d e : D} (r : Reps X h vs [d, e]) : ∃ v u, vs = [v, u] ∧ Rep X h v d ∧ Rep X h u e := by
  cases r with
  | cons r rs => obtain ⟨u, rfl, q⟩ := reps1 rs; exact ⟨_, _, rfl, r, q⟩
theorem reps3 {X : Addr → Prop} {h : Heap} {vs : List Value} {d e f : D} (r : Reps X h vs [d, e, f]) : ∃ v u w, vs = [v, u, w] ∧ Rep X h v d ∧ Rep X h u e ∧ Rep X h w f := by
  cases r with
  | cons r rs => obtain ⟨u, w, rfl, q, p⟩ := reps2 rs; exact ⟨_, _, _, rfl, r, q, p⟩
theorem fn_len {ds : List D} (hz : ds.length < 2 ^ 60) : Fn c n (.builtin "len") [.lst ds] (.int ds.length) := by
  intro X A E s vs Q R G r hQ
  obtain ⟨v, rfl, q⟩ := reps1 r
  obtain ⟨_, _, rfl, hx, hl, rs⟩ := rep_inv q
  refine call_len_list hl ?_ (hQ _ _ (keeps_trans (keeps_tok s _) (keeps_tok _ _)) ?_)
  · rw [List.size_toArray, rs.length]; omega
  · rw [List.size_toArray, rs.length]; exact .int _ _
theorem fn_abs {a : Int} : Fn c n (.builtin "abs") [.int a] (.int (a.natAbs : Int)) := by
  intro X A E s vs Q R G r hQ
  obtain ⟨v, rfl, q⟩ := reps1 r
  obtain ⟨_, rfl⟩ := rep_inv q
  refine call_abs_int fun u tk => ?_
  have e : (if a < 0 then -a else a) = (a.natAbs : Int) := by split <;> omega
  rw [e]
  exact hQ _ _ (keeps_tok s _) (.int _ _)
theorem fn_int_int {a : Int} : Fn c n (.type "int") [.int a] (.int a) := by
  intro X A E s vs Q R G r hQ
  obtain ⟨v, rfl, q⟩ := reps1 r
  obtain ⟨_, rfl⟩ := rep_inv q
  exact call_int_int (hQ _ _ (keeps_refl s) (.int _ _))
theorem fn_int_float {x : UInt64} {sg : Bool} {m : Nat} {e : Int} (hd : Float64.decode x = .fin sg m e) : Fn c n (.type "int") [.float x] (.int (Float64.truncOf sg m e)) := by
  intro X A E s vs Q R G r hQ
  obtain ⟨v, rfl, q⟩ := reps1 r
  obtain ⟨_, rfl⟩ := rep_inv q
  exact call_int_float hd (hQ _ _ (keeps_tok s _) (.int _ _))
theorem fn_range1 {a : Int} : Fn c n (.type "range") [.int a] (.rng 0 a) := by
  intro X A E s vs Q R G r hQ
  obtain ⟨v, rfl, q⟩ := reps1 r
  obtain ⟨_, rfl⟩ := rep_inv q
  refine call_range_1 (hQ _ _ ⟨_, _, rfl, KeepsH.push _ _⟩ (.rng G.new (Heap.get?_push_size _ rfl)))
theorem fn_range2 {a b : Int} : Fn c n (.type "range") [.int a, .int b] (.rng a b) := by
  intro X A E s vs Q R G r hQ
  obtain ⟨v, u, rfl, q, q2⟩ := reps2 r
  obtain ⟨_, rfl⟩ := rep_inv q; obtain ⟨_, rfl⟩ := rep_inv q2
  refine call_range_2 (hQ _ _ ⟨_, _, rfl, KeepsH.push _ _⟩ (.rng G.new (Heap.get?_push_size _ rfl)))
theorem fn_tuple {ds : List D} (hz : ds.length ≤ sizeLine) : Fn c n (.type "tuple") [.lst ds] (.tup ds) := by
  intro X A E s vs Q R G r hQ
  obtain ⟨v, rfl, q⟩ := reps1 r
  obtain ⟨_, _, rfl, hx, hl, rs⟩ := rep_inv q
  refine call_tuple_list hl (fun h' k => ?_) (by rw [List.size_toArray, rs.length]; exact hz)
  rename_i l us
  have kk : KeepsH s.heap (h'.push { cls := .type "tuple", data := .seq us.toArray }) := KeepsH.trans (h' := h') k (KeepsH.push _ _)
  refine hQ _ _ ⟨_, _, rfl, kk⟩ (.tup ?_ ⟨_, Heap.get?_push_size _ rfl, rfl, _, rfl⟩ (rs.keeps kk))
  exact ((G.keeps (h' := h') k)).new
end
/-- the values of a list of ints -/
theorem reps_ints {X : Addr → Prop} {h : Heap} : ∀ {vs : List Value} {ns : List Int}, Reps X h vs (ns.map .int) → IntsAre vs ns
  | _, [], r => by cases r; exact .nil
  | _, n :: ns, r => by
    cases r with
    | cons q rs =>
      obtain ⟨_, rfl⟩ := rep_int_inv q
      exact .cons _ _ (reps_ints rs)
theorem ints_reps {X : Addr → Prop} {h : Heap} : ∀ {vs : List Value} {ns : List Int}, IntsAre vs ns → Reps X h vs (ns.map .int)
  | _, _, .nil => .nil
  | _, _, .cons i t r => .cons (.int i t) (ints_reps r)
theorem ints_at : ∀ {vs : List Value} {ns : List Int}, IntsAre vs ns → ∀ {i : Nat} {v : Value}, vs[i]? = some v → ∃ t, v = .int (ns.getD i 0) t
  | _, _, .nil, i, v, e => by simp at e
  | _, _, .cons j t r, 0, v, e => by simp at e; subst e; exact ⟨t, by simp⟩
  | _, _, .cons j t r, i + 1, v, e => by simp at e; obtain ⟨u, rfl⟩ := ints_at r e; exact ⟨u, by simp⟩
theorem ints_len : ∀ {vs : List Value} {ns : List Int}, IntsAre vs ns → vs.length = ns.length
  | _, _, .nil => rfl
  | _, _, .cons _ _ r => congrArg (· + 1) (ints_len r)
end Mine
end
section
open PySem PySem.W PyProof.Rows PySem.Calls
set_option maxRecDepth 10000
namespace Mine
/-- a part of a cut -/
noncomputable def PEv (c : Cx) (n : Nat) (sc : Scope) (ρ : Loc) (e : Option PySem.Expr) (i : Option Int) : Prop :=
  ∀ (X : Addr → Prop) (A : Around) (E : Value → Shared → Prop) (s : Shared) (env : Env) (Q : Value → Shared → Prop),
    Room n A → Glo c X s.heap → env.scope = sc → FrameOK X s env ρ →
    (∀ v s', Keeps s s' → IsPart v i → Q v s') → wpAny c.M A (evalPart e env) Q E s
noncomputable def pickD (ds : List D) (lo hi st : Option Int) : List D :=
  (sliceRange (sliceBounds lo hi st ds.length).1 (sliceBounds lo hi st ds.length).2.1 (sliceBounds lo hi st ds.length).2.2).filterMap (ds[·]?)
theorem Reps.places {X : Addr → Prop} {h : Heap} {vs : List Value} {ds : List D} (r : Reps X h vs ds) : ∀ js : List Nat, Reps X h (js.filterMap (vs[·]?)) (js.filterMap (ds[·]?))
  | [] => .nil
  | j :: js => by
    have ih := r.places js
    cases hn : ds[j]? with
    | some d =>
      obtain ⟨v, hv, rv⟩ := r.get hn
      simp only [List.filterMap_cons, hn, hv]
      exact .cons rv ih
    | none =>
      have hv : vs[j]? = none := by
        rw [List.getElem?_eq_none_iff] at hn ⊢
        rw [r.length]; exact hn
      simp only [List.filterMap_cons, hn, hv]
      exact ih
theorem Reps.pick {X : Addr → Prop} {h : Heap} {vs : List Value} {ds : List D} (r : Reps X h vs ds) (lo hi st : Option Int) : Reps X h (slicePick vs.toArray lo hi st).toList (pickD ds lo hi st) := by
  have e : (slicePick vs.toArray lo hi st).toList = (sliceRange (sliceBounds lo hi st ds.length).1 (sliceBounds lo hi st ds.length).2.1 (sliceBounds lo hi st ds.length).2.2).filterMap (vs[·]?) := by
    simp [slicePick, r.length]
  rw [e]
  exact r.places _
noncomputable abbrev CutIx (i : PySem.Expr) : Prop := ∀ o v, ∃ ops, subscripted i false o v = operate ops (getItem o v)
section
variable {c : Cx} {n : Nat} {sc : Scope} {ρ : Loc}
theorem pe_none : PEv c n sc ρ none none := by
  intro X A E s env Q R G hs F hQ
  rw [evalPart_none]
  exact wpAny_pure (hQ _ _ (keeps_refl s) .none)
theorem pe_some {e : PySem.Expr} {i : Int} (h : Ev c n sc ρ e (.int i)) : PEv c n sc ρ (some e) (some i) := by
  intro X A E s env Q R G hs F hQ
  rw [evalPart_some]
  refine h X A E s env _ R G hs F fun v s' k r => ?_
  obtain ⟨_, rfl⟩ := rep_inv r
  exact hQ _ _ k (.int _ _)
theorem ev_slice_list {e : PySem.Expr} {l u t : Option PySem.Expr} {lo hi st : Option Int} {ds : List D} {p pos : Pos} (he : Ev c n sc ρ e (.lst ds)) (hl : PEv c n sc ρ l lo) (hu : PEv c n sc ρ u hi) (ht : PEv c n sc ρ t st)
    (h0 : st ≠ some 0 := by decide) (hz : ds.length ≤ sizeLine := by first | assumption | (rw [sizeLine_eq]; omega))
    (hlt : ∀ o r, letTemporaryGo e o r = pure () := by intro _ _; rfl) (hix : CutIx (.Slice l u t p) := by intro _ _; exact ⟨_, by with_unfolding_all rfl⟩) : Ev c n sc ρ (.Subscript e (.Slice l u t p) pos) (.lst (pickD ds lo hi st)) := by
  intro X A E s env Q R G hs F hQ
  refine Subscript_ (he X A E s env _ R G hs F fun v₁ s₁ k₁ r₁ => wpAny_Slice ?_)
  refine hl X A E s₁ env _ R (G.keeps (keeps_heap k₁)) hs (F.keeps (keeps_heap k₁)) fun vl s₂ k₂ pl => ?_
  have k₂' := keeps_trans k₁ k₂
  refine hu X A E s₂ env _ R (G.keeps (keeps_heap k₂')) hs (F.keeps (keeps_heap k₂')) fun vu s₃ k₃ pu => ?_
  have k₃' := keeps_trans k₂' k₃
  refine ht X A E s₃ env _ R (G.keeps (keeps_heap k₃')) hs (F.keeps (keeps_heap k₃')) fun vt s₄ k₄ pt => ?_
  have k₄' := keeps_trans k₃' k₄
  have r₁' := r₁.keeps (keeps_heap (keeps_trans k₂ (keeps_trans k₃ k₄)))
  obtain ⟨_, _, rfl, hx, hl, rs⟩ := rep_inv r₁'
  rename_i a vs
  refine subscriptTail_ops (Heap.IsList.typeIs (s := { s₄ with heap := s₄.heap.push { cls := .type "slice", data := .fields #[vl, vu, vt] } }) (hl.push _)) list_getitem_lookup
    (wpAny_getItem_list_slice (hl.push _) (Heap.IsSliceOf.new ..) pl pu pt h0 ?_ (by rw [List.size_toArray, rs.length]; exact hz)) (hix _ _).choose_spec (hlt _)
  have kk : KeepsH s₄.heap ((s₄.heap.push { cls := .type "slice", data := .fields #[vl, vu, vt] }).push { cls := .type "list", data := .seq (slicePick vs.toArray lo hi st) }) := (KeepsH.push _ _).trans (KeepsH.push _ _)
  refine hQ _ _ (keeps_trans k₄' ⟨_, _, rfl, kk⟩) (.lst ((G.keeps ((keeps_heap k₄').trans (KeepsH.push s₄.heap _))).new) (vs := (slicePick vs.toArray lo hi st).toList) ⟨_, Heap.get?_push_size _ rfl, rfl, _, by rw [Array.toArray_toList]⟩ ((rs.pick lo hi st).keeps kk))
theorem ev_slice_bytes {e : PySem.Expr} {l u : Option PySem.Expr} {lo hi : Option Int} {b : Array UInt8} {p pos : Pos} (he : Ev c n sc ρ e (.bytes b)) (hl : PEv c n sc ρ l lo) (hu : PEv c n sc ρ u hi)
    (hz : b.size ≤ 16777216 := by first | assumption | decide) (hlt : ∀ o r, letTemporaryGo e o r = pure () := by intro _ _; rfl) (hix : CutIx (.Slice l u none p) := by intro _ _; exact ⟨_, by with_unfolding_all rfl⟩) : Ev c n sc ρ (.Subscript e (.Slice l u none p) pos) (.bytes (KBy.picked b lo hi)) := by
  intro X A E s env Q R G hs F hQ
  refine Subscript_ (he X A E s env _ R G hs F fun v₁ s₁ k₁ r₁ => wpAny_Slice ?_)
  refine hl X A E s₁ env _ R (G.keeps (keeps_heap k₁)) hs (F.keeps (keeps_heap k₁)) fun vl s₂ k₂ pl => ?_
  have k₂' := keeps_trans k₁ k₂
  refine hu X A E s₂ env _ R (G.keeps (keeps_heap k₂')) hs (F.keeps (keeps_heap k₂')) fun vu s₃ k₃ pu => ?_
  have k₃' := keeps_trans k₂' k₃
  rw [evalPart_none]
  refine wpAny_pure ?_
  obtain ⟨_, rfl⟩ := rep_inv r₁
  rename_i t
  refine tail_of_ItemOn ⟨"bytes", _, FB.slot_bytes_getitem.lookup, typeIs_bytes _ _ _, getItem_meets (typeIs_bytes _ _ _) (by decide) FB.slot_bytes_getitem FB.entry_bytes_getitem (FB.args_bytes_getitem_2 _ _) (KBc.meets_slice2 b t _ pl pu)
    ⟨Heap.IsSliceOf.new _ _ _ _, Nat.le_trans (KBc.size_picked_le b lo hi) (by rw [sizeLine_eq]; omega), fun t' k => ?_⟩⟩ (hix _ _).choose_spec (hlt _)
  exact hQ _ _ (keeps_trans k₃' ⟨_, _, rfl, KeepsH.push _ _⟩) (.bytes _ _)
end
end Mine
end
section
open PySem PySem.W PyProof.Rows PySem.Calls
set_option maxRecDepth 10000
namespace Mine
theorem keeps_new1 {s : Shared} {o : Obj} {h' : Heap} {tk : Nat} (k : ∀ b o', b ∉ [s.heap.objs.size] → (s.heap.push o).get? b = some o' → h'.get? b = some o') : Keeps s { s with heap := h', toks := tk } := by
  exact ⟨h', tk, rfl, fun b o' e => k b o' (fun hb => Nat.ne_of_lt (Heap.lt_size e) (List.mem_singleton.mp hb)) (Heap.get?_push_of_some _ e)⟩
theorem keeps_new2 {s : Shared} {o o₁ : Obj} {h' : Heap} {tk : Nat} (k : ∀ b o', b ∉ [(s.heap.push o₁).objs.size] → ((s.heap.push o₁).push o).get? b = some o' → h'.get? b = some o') : Keeps s { s with heap := h', toks := tk } := by
  exact ⟨h', tk, rfl, fun b o' e => k b o' (fun hb => Nat.ne_of_lt (Nat.lt_succ_of_lt (Heap.lt_size e)) ((List.mem_singleton.mp hb).trans (Heap.size_push _ _))) (Heap.get?_push_of_some _ (Heap.get?_push_of_some _ e))⟩
theorem preSum_take (ns : List Int) : ∀ k, k ≤ ns.length → preSum (fun i => ns.getD i 0) k = (ns.take k).sum
  | 0, _ => by simp [preSum]
  | k + 1, h => by
    rw [preSum, preSum_take ns k (by omega), List.take_succ_eq_append_getElem (by omega), List.sum_append, List.sum_singleton]
    simp only [List.getD, List.getElem?_eq_getElem (show k < ns.length by omega), Option.getD_some]
theorem preSum_all (ns : List Int) : preSum (fun i => ns.getD i 0) ns.length = ns.sum := by
  rw [preSum_take ns _ (Nat.le_refl _), List.take_length]
/-- where the best stands, by the model's way -/
noncomputable def bestI (gt : Bool) (ns : List Int) : Int := ns.getD (argBest (fun i j => if gt then decide (ns.getD i 0 > ns.getD j 0) else decide (ns.getD i 0 < ns.getD j 0)) (ns.length - 1)) 0
theorem reps_at {X : Addr → Prop} {h : Heap} {vs : List Value} {ns : List Int} (r : Reps X h vs (ns.map .int)) {i : Nat} {v : Value} (e : (vs.toArray)[i]? = some v) : ∃ t, v = .int (ns.getD i 0) t :=
  ints_at (reps_ints r) (by simpa using e)
section
variable {c : Cx} {n : Nat}
theorem fn_sum {ns : List Int} : Fn c n (.builtin "sum") [.lst (ns.map .int)] (.int ns.sum) := by
  intro X A E s vs Q R G r hQ
  obtain ⟨v, rfl, q⟩ := reps1 r
  obtain ⟨_, _, rfl, hx, hl, rs⟩ := rep_inv q
  rename_i l us
  have hlt : l < s.heap.objs.size := by obtain ⟨_, e, _⟩ := hl; exact Heap.lt_size e
  have hlen : us.toArray.size = ns.length := by rw [List.size_toArray, ints_len (reps_ints rs)]
  refine call_sum_walkG (wpAny_pyIter_list hl ⟨s.heap.objs.size, _, _, _, _, _, fun i => ns.getD i 0, rfl, Walks.list (by exact R.handled) s.heap.objs.size l (Nat.ne_of_lt hlt) us.toArray,
    ⟨⟨_, Heap.get?_push_size _ rfl, rfl, rfl⟩, hl.push _⟩, fun b hb => ?_, fun i v e => reps_at rs e, fun h' tk t' k => ?_⟩)
  · show b < (s.heap.push _).objs.size
    rw [Heap.size_push]
    simp at hb; rcases hb with rfl | rfl
    · exact Nat.lt_succ_self _
    · exact Nat.lt_succ_of_lt hlt
  · rw [hlen, preSum_all]
    exact hQ _ _ (keeps_new1 k) (.int _ _)
theorem fn_max {ns : List Int} (h0 : ns ≠ []) : Fn c n (.builtin "max") [.lst (ns.map .int)] (.int (bestI true ns)) := by
  intro X A E s vs Q R G r hQ
  obtain ⟨v, rfl, q⟩ := reps1 r
  obtain ⟨_, _, rfl, hx, hl, rs⟩ := rep_inv q
  rename_i l us
  have hlt : l < s.heap.objs.size := by obtain ⟨_, e, _⟩ := hl; exact Heap.lt_size e
  have hlen : us.toArray.size = ns.length := by rw [List.size_toArray, ints_len (reps_ints rs)]
  have hpos : 0 < ns.length := List.length_pos_iff.mpr h0
  refine call_max_walk (wpAny_pyIter_list hl ⟨s.heap.objs.size, _, _, _, _, _, _, rfl, Walks.list (by exact R.handled) s.heap.objs.size l (Nat.ne_of_lt hlt) us.toArray,
    ⟨⟨_, Heap.get?_push_size _ rfl, rfl, rfl⟩, hl.push _⟩, fun b hb => ?_, by omega, CmpOf.ints_gt (fun i => ns.getD i 0) (fun i v e => reps_at rs e), fun v h' tk e k => ?_⟩)
  · show b < (s.heap.push _).objs.size
    rw [Heap.size_push]
    simp at hb; rcases hb with rfl | rfl
    · exact Nat.lt_succ_self _
    · exact Nat.lt_succ_of_lt hlt
  · obtain ⟨t, rfl⟩ := reps_at rs e
    rw [hlen]
    exact hQ _ _ (keeps_new1 k) (.int _ _)
theorem min_tup {X : Addr → Prop} {A : Around} {E : Value → Shared → Prop} {s : Shared} {us : List Value} {ns : List Int} {Q : Value → Shared → Prop} (hh : A.handled = none) (rs : Reps X s.heap us (ns.map .int)) (h0 : 0 < ns.length)
    (hQ : ∀ v s', Keeps s s' → Rep X s'.heap v (.int (bestI false ns)) → Q v s') :
    wpAny c.M A (pyIter (.ref s.heap.objs.size)) (fun it s₂ => ∃ I fp wr n P St bt, it = .ref I ∧ Walks pw c.w A I fp wr n P St ∧ St 0 s₂.heap ∧ (∀ b ∈ fp, b < s₂.heap.objs.size) ∧ 0 < n ∧ CmpOf pw c.w A .Lt P bt ∧
      ∀ v h' tk, P (argBest bt (n - 1)) v → (∀ b o, b ∉ wr → s₂.heap.get? b = some o → h'.get? b = some o) → Q v { s₂ with heap := h', toks := tk }) E
      { s with heap := s.heap.push { cls := .type "tuple", data := .seq us.toArray } } := by
  have ht : (s.heap.push { cls := .type "tuple", data := .seq us.toArray }).IsTuple s.heap.objs.size us.toArray := ⟨_, Heap.get?_push_size _ rfl, rfl, _, rfl⟩
  have hlen : us.toArray.size = ns.length := by rw [List.size_toArray, ints_len (reps_ints rs)]
  refine wpAny_pyIter_tuple ht ⟨(s.heap.push { cls := .type "tuple", data := .seq us.toArray }).objs.size, _, _, _, _, _, _, rfl, Walks.tuple hh _ s.heap.objs.size (by rw [Heap.size_push]; exact Nat.ne_of_lt (Nat.lt_succ_self _)) us.toArray,
    ⟨⟨_, Heap.get?_push_size _ rfl, rfl, rfl⟩, ht.push _⟩, fun b hb => ?_, by omega, CmpOf.ints_lt (fun i => ns.getD i 0) (fun i v e => reps_at rs e), fun v h' tk e k => ?_⟩
  · show b < ((s.heap.push _).push _).objs.size
    rw [Heap.size_push, Heap.size_push]
    simp [Heap.size_push] at hb; rcases hb with rfl | rfl
    · exact Nat.lt_succ_self _
    · exact Nat.lt_succ_of_lt (Nat.lt_succ_self _)
  · obtain ⟨t, rfl⟩ := reps_at rs e
    rw [hlen]
    exact hQ _ _ (keeps_new2 k) (.int _ _)
theorem fn_min2 {a b : Int} : Fn c n (.builtin "min") [.int a, .int b] (.int (bestI false [a, b])) := by
  intro X A E s vs Q R G r hQ
  obtain ⟨v, u, rfl, q₁, q₂⟩ := reps2 r
  exact call_min_two (min_tup (us := [v, u]) (ns := [a, b]) (by exact R.handled) r (by simp) hQ)
theorem fn_min3 {a b d : Int} : Fn c n (.builtin "min") [.int a, .int b, .int d] (.int (bestI false [a, b, d])) := by
  intro X A E s vs Q R G r hQ
  obtain ⟨v, u, w, rfl, q₁, q₂, q₃⟩ := reps3 r
  exact call_min_three (min_tup (us := [v, u, w]) (ns := [a, b, d]) (by exact R.handled) r (by simp) hQ)
theorem fn_bytes {ns : List Int} (hr : ∀ n ∈ ns, 0 ≤ n ∧ n < 256) (hz : ns.length ≤ 1000 := by simp) : Fn c n (.type "bytes") [.lst (ns.map .int)] (.bytes (byteArr ns)) := by
  intro X A E s vs Q R G r hQ
  obtain ⟨v, rfl, q⟩ := reps1 r
  obtain ⟨_, _, rfl, hx, hl, rs⟩ := rep_inv q
  refine call_bytes_ints hl (reps_ints rs) hr (by rw [ints_len (reps_ints rs), sizeLine_eq]; omega) R.handled fun h' t k hk => hQ _ _ ⟨_, _, rfl, hk⟩ (.bytes _ _)
theorem fn_divmod {a b : Int} (hb : b ≠ 0) (hp : Builtin.divisionGoesByPylong a b = false) : Fn c n (.builtin "divmod") [.int a, .int b] (.tup [.int (a.fdiv b), .int (a.fmod b)]) := by
  intro X A E s vs Q R G r hQ
  obtain ⟨v, u, rfl, q₁, q₂⟩ := reps2 r
  obtain ⟨_, rfl⟩ := rep_inv q₁; obtain ⟨_, rfl⟩ := rep_inv q₂
  refine divmod_int hb (hQ _ _ ⟨_, _, rfl, KeepsH.push _ _⟩ (.tup G.new (vs := [_, _]) ⟨_, Heap.get?_push_size _ rfl, rfl, _, rfl⟩ (.cons (.int _ _) (.cons (.int _ _) .nil)))) (.inl hp)
end
end Mine
end
section
open PySem PySem.W PyProof.Rows PySem.Calls
set_option maxRecDepth 100000
namespace Mine
noncomputable def stmtAt (i : Nat) : Stmt := (pw.main.body[i]?).getD (.Pass default)
noncomputable def bodyOf : Stmt → List Stmt
  | .FunctionDef _ _ b .. => b
  | .ClassDef _ _ _ b .. => b
  | _ => []
noncomputable def scopeOf : Stmt → Scope
  | .FunctionDef _ _ _ _ _ _ s .. => s
  | _ => default
noncomputable def paramsOf : Stmt → Arguments
  | .FunctionDef _ a .. => a
  | _ => default
noncomputable def nameOf : Stmt → Str
  | .FunctionDef n .. => n
  | .ClassDef n .. => n
  | _ => default
/-- the function's object: what the def of this text makes -/
noncomputable def fdOf (st : Stmt) (a : Addr) (q : Str) (dfl kwd pm : Value) : FuncData :=
  { name := nameOf st, qualname := q, params := paramsOf st, body := .stmts (bodyOf st), scope := scopeOf st, globals := mainGlobals, closure := [], defaults := dfl, kwdefaults := kwd,
    pyModule := pm, code := .ref (a - 1), builtins := builtinsNs }
noncomputable def FnObj (c : Cx) (st : Stmt) (a : Addr) : Prop := ∃ pm, ∀ h, c.K.In h → (∃ o, h.get? a = some o ∧ o.data = .func (fdOf st a (nameOf st) .none .none pm)) ∧ h.CodeRec (.ref (a - 1)) (nameOf st)
theorem cells_some {names : List (Str × NameKind)} (hn : (names.map (·.1)).Nodup) (k : Nat) (x : Str) (h : names.lookup x = some .cell) : ((cellsFrom k names []).lookup x).isSome = true := by
  obtain ⟨a, ha⟩ := cellsFrom_has names k [] x (mem_of_lookup' h)
  obtain ⟨b, hb⟩ := lookup_isSome_of_mem ha
  rw [hb]; rfl
theorem cells_only {names : List (Str × NameKind)} (hn : (names.map (·.1)).Nodup) (k : Nat) (x : Str) (a : Addr) (h : (cellsFrom k names []).lookup x = some a) : names.lookup x ≠ some .local := by
  intro hl
  rcases cellsFrom_mem names k [] x a (mem_of_lookup' h) with q | q
  · cases q
  · have := nodup_kind hn (mem_of_lookup' hl) q
    cases this
theorem no_free {names : List (Str × NameKind)} (h : names.all (fun p => p.2 != .free) = true) (x : Str) : names.lookup x ≠ some .free := by
  intro hl
  have := List.all_eq_true.mp h _ (mem_of_lookup' hl)
  simp at this
theorem fn_at {c : Cx} {st : Stmt} {a : Addr} (H : FnObj c st a) (names : List Str)
    (bind : ∀ (pm : Value) (vs : List Value), vs.length = names.length → bindArgs (fdOf st a (nameOf st) .none .none pm) ⟨vs, []⟩ = pure (names.zip vs))
    (nd : ((scopeOf st).names.map (·.1)).Nodup) (nn : names.Nodup) (kinds : ∀ x ∈ names, (scopeOf st).names.lookup x = some .local ∨ (scopeOf st).names.lookup x = some .cell) (hdr : ∀ x ∈ names, x ≠ hname)
    (fn : (scopeOf st).kind = .function) (co : (scopeOf st).isCoroutine = false) (gen : (scopeOf st).isGenerator = false) (free : (scopeOf st).names.all (fun p => p.2 != .free) = true) :
    ∃ fd, FnAt c a fd (bodyOf st) names ∧ fd.scope = scopeOf st := by
  obtain ⟨pm, H⟩ := H
  exact ⟨_, ⟨H, rfl, rfl, rfl, rfl, bind pm, nn, kinds, hdr, fn, co, gen, cells_some nd, cells_only nd, no_free free⟩, rfl⟩
theorem fn_of {c : Cx} {st : Stmt} {a : Addr} {names : List Str} {n : Nat} {ds : List D} {out : Out} {os : List Str} (H : ∃ fd, FnAt c a fd (bodyOf st) names ∧ fd.scope = scopeOf st) (hlen : ds.length = names.length)
    (h : Ex c n os (scopeOf st) (names.zip ds) (bodyOf st) out) (hos : ∀ x ∈ os, (scopeOf st).names.lookup x = some .cell := by first | (intro x hx; cases hx; done) | decide) : Fn c (n + 1) (.ref a) ds out.val := by
  obtain ⟨fd, H, e⟩ := H
  exact fn_def H hlen (by rw [e]; exact hos) (by rw [e]; exact h)
theorem keepF_of {c : Cx} {st : Stmt} {a : Addr} {names : List Str} (H : ∃ fd, FnAt c a fd (bodyOf st) names ∧ fd.scope = scopeOf st) : KeepF c (.ref a) := by
  obtain ⟨fd, H, e⟩ := H
  exact H.keepF
noncomputable abbrev S (x : String) : Str := Str.ofString x
theorem bind1 {α : Type} {f : List Value → Prop} (h : ∀ a, f [a]) : ∀ vs : List Value, vs.length = 1 → f vs
  | [a], _ => h a
theorem bind2 {f : List Value → Prop} (h : ∀ a b, f [a, b]) : ∀ vs : List Value, vs.length = 2 → f vs
  | [a, b], _ => h a b
theorem bind3 {f : List Value → Prop} (h : ∀ a b c, f [a, b, c]) : ∀ vs : List Value, vs.length = 3 → f vs
  | [a, b, c], _ => h a b c
theorem at_cross {c : Cx} (H : FnObj c (stmtAt 18) 238) : ∃ fd, FnAt c 238 fd (bodyOf (stmtAt 18)) [S "a", S "b"] ∧ fd.scope = scopeOf (stmtAt 18) :=
  fn_at H _ (fun pm => bind2 fun a b => by rfl) (by decide) (by decide) (by decide) (by decide) rfl rfl rfl rfl
theorem fn_cross {c : Cx} (H : FnObj c (stmtAt 18) 238) {n : Nat} {a1 a2 b1 b2 : Int} (h1 : IntMulOk a1 b2) (h2 : IntMulOk a2 b1) :
    Fn c (n + 1) (.ref 238) [.tup [.int a1, .int a2], .tup [.int b1, .int b2]] (.int (a1 * b2 - a2 * b1)) := by
  refine fn_of (out := .ret _) (os := []) (at_cross H) rfl ?_
  refine ex_ret (ex1_return (ev_bin (ev_bin ?_ ?_ (bin_mul h1)) (ev_bin ?_ ?_ (bin_mul h2)) bin_sub))
  · exact ev_item_tup (ev_local rfl rfl) ev_int (by decide) rfl
  · exact ev_item_tup (ev_local rfl rfl) ev_int (by decide) rfl
  · exact ev_item_tup (ev_local rfl rfl) ev_int (by decide) rfl
  · exact ev_item_tup (ev_local rfl rfl) ev_int (by decide) rfl
end Mine
end
section
open PySem PySem.W PyProof.Rows PySem.Calls
set_option maxRecDepth 100000
namespace Mine
theorem fn_way {c : Cx} (H : FnObj c (stmtAt 17) 231) {n : Nat} {w0 w1 w2 w3 : UInt8} {x y : Int} :
    Fn c (n + 1) (.ref 231) [.bytes #[w0, w1, w2, w3], .tup [.int x, .int y]] (.tup [.int ((w1.toNat : Int) - (w3.toNat : Int) - x), .int ((w2.toNat : Int) - (w3.toNat : Int) - y)]) := by
  refine fn_of (out := .ret _) (os := []) (names := [S "word", S "spot"]) (fn_at H _ (fun pm => bind2 fun a b => by rfl) (by decide) (by decide) (by decide) (by decide) rfl rfl rfl rfl) rfl ?_
  have ew : ∀ {k : Int} {pos p p' : Pos} {t : Nat}, 0 ≤ k → k < ([w0, w1, w2, w3] : List UInt8).length → Ev c n (scopeOf (stmtAt 17)) ([S "word", S "spot"].zip [.bytes #[w0, w1, w2, w3], .tup [.int x, .int y]]) (.Subscript (.Name (S "word") p) (.Constant (.int k) t p') pos) (.int (([w0, w1, w2, w3] : List UInt8).getD k.toNat 0).toNat) :=
    fun h0 hk => ev_item_bytes (l := [w0, w1, w2, w3]) (ev_local rfl rfl) ev_int h0 hk
  refine ex_ret (ex1_return (ev_tuple (.cons' (ev_bin (ev_bin (ew (by decide) (by simp)) (ew (by decide) (by simp)) bin_sub) ?_ bin_sub) (.cons' (ev_bin (ev_bin (ew (by decide) (by simp)) (ew (by decide) (by simp)) bin_sub) ?_ bin_sub) .nil))))
  · exact ev_item_tup (ev_local rfl rfl) ev_int (by decide) rfl
  · exact ev_item_tup (ev_local rfl rfl) ev_int (by decide) rfl
/-- what the law calls the plain word -/
noncomputable def plainP (k num : Int) : List Int := [66 + k, 65 + num.fdiv 16, 65 + (num.fdiv 4).fmod 4, 65 + num.fmod 4]
theorem noPy {a b : Int} (h0 : 0 ≤ a) (h1 : a < 1000000) (hb : 0 < b ∧ b < 1000 := by decide) : Builtin.divisionGoesByPylong a b = false := PyProof.noPylong_small (by omega)
theorem fn_plain {c : Cx} (H : FnObj c (stmtAt 16) 224) (hb : c.mg (S "bytes") = none) {n : Nat} {k num : Int} (hk : 0 ≤ k ∧ k < 5) (hn : 0 ≤ num ∧ num < 64) :
    Fn c (n + 1) (.ref 224) [.int k, .int num] (.bytes (byteArr (plainP k num))) := by
  refine fn_of (out := .ret _) (os := []) (names := [S "place", S "number"]) (fn_at H _ (fun pm => bind2 fun a b => by rfl) (by decide) (by decide) (by decide) (by decide) rfl rfl rfl rfl) rfl ?_
  refine ex_ret (ex1_return (ev_call (ev_builtin rfl hb (by rfl)) (keepF_type _) (.cons' (ev_list (.cons' ?_ (.cons' ?_ (.cons' ?_ (.cons' ?_ .nil))))) .nil) (fn_bytes (ns := plainP k num) ?_ (by simp [plainP]))))
  · exact ev_bin ev_int (ev_local rfl rfl) bin_add
  · exact ev_bin ev_int (ev_bin (ev_local rfl rfl) ev_int (bin_floordiv (by decide) (noPy hn.1 (by omega)))) bin_add
  · exact ev_bin ev_int (ev_bin (ev_bin (ev_local rfl rfl) ev_int (bin_floordiv (by decide) (noPy hn.1 (by omega)))) ev_int (bin_mod (by decide))) bin_add
  · exact ev_bin ev_int (ev_bin (ev_local rfl rfl) ev_int (bin_mod (by decide))) bin_add
  · simp only [plainP, Int.fdiv_eq_ediv_of_nonneg _ (show (0:Int) ≤ 16 by decide), Int.fdiv_eq_ediv_of_nonneg _ (show (0:Int) ≤ 4 by decide), Int.fmod_eq_emod_of_nonneg _ (show (0:Int) ≤ 4 by decide), List.mem_cons, List.not_mem_nil, or_false]
    intro z hz
    omega
end Mine
end
section
open PySem PySem.W PyProof.Rows PySem.Calls
set_option maxRecDepth 100000
namespace Mine
theorem rng_mem {a b : Int} {d : D} (h : d ∈ rngData a b) : ∃ i : Int, d = .int i ∧ a ≤ i ∧ i < b := by
  unfold rngData at h
  obtain ⟨i, hi, rfl⟩ := List.mem_map.mp h
  have := List.mem_range.mp hi
  exact ⟨_, rfl, by omega, by omega⟩
theorem rngData_len (a b : Int) : (rngData a b).length = (b - a).toNat := by simp [rngData]
noncomputable def pickI (ns : List Int) (lo hi st : Option Int) : List Int :=
  (sliceRange (sliceBounds lo hi st ns.length).1 (sliceBounds lo hi st ns.length).2.1 (sliceBounds lo hi st ns.length).2.2).filterMap (ns[·]?)
theorem pick_ints (ns : List Int) (lo hi st : Option Int) : pickD (ns.map .int) lo hi st = (pickI ns lo hi st).map .int := by
  unfold pickD pickI
  rw [List.length_map, List.map_filterMap]
  congr 1
  funext j
  rw [List.getElem?_map]
noncomputable def D.toInt : D → Int
  | .int i => i
  | _ => 0
noncomputable def SubL (ρ : Loc) : Loc → Prop
  | [] => True
  | (x, d) :: r => ρ.lookup x = some d ∧ SubL ρ r
theorem SubL.at {ρ : Loc} : ∀ {ρf : Loc}, SubL ρ ρf → ∀ {x : Str} {d : D}, ρf.lookup x = some d → ρ.lookup x = some d
  | [], _, x, d, h => by cases h
  | (y, e) :: r, ⟨h1, h2⟩, x, d, h => by
    by_cases hxy : x = y
    · subst hxy; rw [lookup_cons_self] at h; cases h; exact h1
    · rw [lookup_cons_ne hxy] at h; exact h2.at h
theorem compSc_of {sc scope : Scope} {ρ ρf : Loc} {os : List Str} (hsub : SubL ρ ρf) (fs : List Str) (he : fs = ρf.map (·.1)) (hk : scope.kind = .function := by rfl) (hn : (scope.names.map (·.1)).Nodup := by decide)
    (h1 : scope.names.all (fun p => p.2 != .free || fs.contains p.1) = true := by rfl) (h2 : fs.all (fun x => scope.names.contains (x, .free)) = true := by rfl)
    (h3 : fs.all (fun x => sc.names.lookup x == some .cell || sc.names.lookup x == some .free) = true := by rfl) (h4 : os.all (fun x => scope.names.contains (x, .cell)) = true := by rfl) : CompSc sc scope ρ ρf os := by
  subst he
  refine ⟨hk, hn, fun x hx => ?_, fun x d hx => ⟨?_, hsub.at hx⟩, fun x hx => ?_⟩
  · have a := List.all_eq_true.mp h1 _ hx
    simp only [bne_self_eq_false, Bool.false_or, List.contains_iff_mem] at a
    have b := List.all_eq_true.mp h3 _ a
    refine ⟨by simpa using b, ?_⟩
    obtain ⟨p, hp, rfl⟩ := List.mem_map.mp a
    obtain ⟨d, hd⟩ := lookup_isSome_of_mem hp
    exact ⟨d, hsub.at hd⟩
  · have a : x ∈ ρf.map (·.1) := List.mem_map.mpr ⟨(x, d), mem_of_lookup' hx, rfl⟩
    simpa using List.all_eq_true.mp h2 _ a
  · simpa using List.all_eq_true.mp h4 _ hx
noncomputable def firstL : List Int := [52, 28, 10, 3, 50]
noncomputable def numP (xs : List Int) (k : Int) : Int := (firstL.getD k.toNat 0 + (pickI xs (some k) none (some 5)).sum).fmod 64
theorem fn_numbers {c : Cx} (H : FnObj c (stmtAt 15) 217) (hs : c.mg (S "sum") = none) (hr : c.mg (S "range") = none) {n : Nat} {xs : List Int} (hx : xs.length < 64) :
    Fn c (n + 1) (.ref 217) [.lst (xs.map .int)] (.lst (((List.range 5).map fun (k : Nat) => numP xs k).map .int)) := by
  refine fn_of (out := .ret _) (os := [S "first"]) (names := [S "script"]) (fn_at H _ (fun pm => bind1 (α := Unit) fun a => by rfl) (by decide) (by decide) (by decide) (by decide) rfl rfl rfl rfl) rfl ?_
  refine ex_cons (ρ' := (S "first", .lst (firstL.map .int)) :: [S "script"].zip [.lst (xs.map .int)]) (ex1_assign (ev_list (.cons' ev_int (.cons' ev_int (.cons' ev_int (.cons' ev_int (.cons' ev_int .nil)))))) (sto_cell rfl (by decide))) (ex_ret (ex1_return ?_))
  have hd : ∀ d ∈ rngData 0 5, ∃ i : Int, d = .int i ∧ 0 ≤ i ∧ i < 5 := fun d h => rng_mem h
  refine ev_comp (ds := rngData 0 5) (ρf := [(S "first", .lst (firstL.map .int)), (S "script", .lst (xs.map .int))]) (os := []) (fun _ => true) (fun d => .int (numP xs d.toInt)) (fun d => [(S "place", d)]) ?S (src_range (ev_call (ev_builtin rfl hr (by rfl)) (keepF_type _) (.cons' ev_int .nil) fn_range1) (by intro _ _; rfl) (by decide) (by decide)) ?a ?t ?e (by rw [rngData_len, sizeLine_eq]; decide)
  case S => exact compSc_of ⟨rfl, rfl, trivial⟩ [S "first", S "script"] rfl
  case a => intro d _; exact asg_name (sto_local rfl (by decide))
  case t => intro d _; exact .nil
  case e =>
    intro d h _
    obtain ⟨i, rfl, h0, h1⟩ := hd d h
    refine ev_bin (ev_bin ?_ ?_ bin_add) ev_int (bin_mod (by decide))
    · refine ev_item_list (ds := firstL.map .int) (ev_cell rfl rfl) (ev_local rfl rfl) h0 ?_
      have : i = 0 ∨ i = 1 ∨ i = 2 ∨ i = 3 ∨ i = 4 := by omega
      rcases this with rfl | rfl | rfl | rfl | rfl <;> rfl
    · refine ev_call (ev_builtin rfl hs (by rfl)) (keepF_builtin _) (.cons' (ev_slice_list (ds := xs.map .int) (lo := some i) (hi := none) (st := some 5) (ev_cell rfl rfl) (pe_some (ev_local rfl rfl)) pe_none (pe_some ev_int) (by decide) (by rw [sizeLine_eq, List.length_map]; omega)) .nil) ?_
      rw [pick_ints]
      exact fn_sum
end Mine
end
section
open PySem PySem.W PyProof.Rows PySem.Calls
set_option maxRecDepth 10000
namespace Mine
open AutoSeq1 (wpAny_loadPart')
open MeetsSeq MeetsSeq2 MeetsSeq3 SeqRoads2 SeqAt
theorem ne_loopAt (l b : Addr) (items items2 : Array Value) (n n2 : Nat) (dd dd2 : Option Addr) (sl sl2 : Array (Option Value)) (hsz : items.size = items2.size) (e : Nat → Bool) (k : Nat) :
    ∀ i : Nat, items.size - i = k → Meets (Builtin.«list.__eq__.loop» ⟨[.ref l, .ref b, rawInt i, rawInt 3], []⟩)
      (fun A R s => s.heap.get? l = some { cls := .type "list", dict := dd, data := .seq items n, slots := sl } ∧ s.heap.get? b = some { cls := .type "list", dict := dd2, data := .seq items2 n2, slots := sl2 } ∧
        (∀ j (h1 : j < items.size) (h2 : j < items2.size), EqAt A.in1 s items[j] items2[j] (e j)) ∧
        R (.ok (.ret (.bool (!(((List.range items.size).drop i).all e))))) s) := by
  induction k with
  | zero =>
    intro i hk prog w A R s h
    obtain ⟨hp, g, d, tk, os⟩ := s; obtain ⟨hl, hb, he, h⟩ := h
    wp_walk using wpAny_loadPart' hl, wpAny_loadPart' hb
    have hi1 : items[((i : Nat) : Int).toNat]? = none := by simp; omega
    have hi2 : items2[((i : Nat) : Int).toNat]? = none := by simp; omega
    have hd : (List.range items.size).drop i = [] := by simp; omega
    rw [hd] at h
    rw [hi1, hi2]
    wp_walk using wpAny_loadPart' hl, wpAny_loadPart' hb
    show R (.ok (.ret (.bool (items.size != items2.size)))) _
    rw [hsz]
    simpa using h
  | succ k ih =>
    intro i hk prog w A R s h
    obtain ⟨hp, g, d, tk, os⟩ := s; obtain ⟨hl, hb, he, h⟩ := h
    wp_walk using wpAny_loadPart' hl, wpAny_loadPart' hb
    have hlt : i < items.size := by omega
    have hlt2 : i < items2.size := by omega
    have hi1 : items[((i : Nat) : Int).toNat]? = some items[i] := by simp [hlt]
    have hi2 : items2[((i : Nat) : Int).toNat]? = some items2[i] := by simp [hlt2]
    have hd : (List.range items.size).drop i = i :: (List.range items.size).drop (i + 1) := by simp [List.drop_eq_getElem_cons, hlt]
    have hc : ((i : Int) + 1) = ((i + 1 : Nat) : Int) := by push_cast; rfl
    rw [hd, List.all_cons] at h
    rw [hi1, hi2]
    refine wpAny_bind (he i hlt hlt2 prog w _ _ ?_)
    cases hb' : e i with
    | true =>
      rw [hb'] at h
      wp_walk
      rw [hc]
      exact ⟨plainId_quiet plain_eq_loop _, codeAny_builtin entry_eq_loop (by
        rw [Around.under_plainId plain_eq_loop _]
        exact ih (i + 1) (by omega) prog w A R _ ⟨hl, hb, he, by simpa using h⟩)⟩
    | false =>
      rw [hb'] at h
      wp_walk using wpAny_loadPart' hl, wpAny_loadPart' hb
      rw [hi1, hi2]
      wp_walk
      simpa using h
theorem list_neAt (l b : Addr) (items items2 : Array Value) (n n2 : Nat) (dd dd2 : Option Addr) (sl sl2 : Array (Option Value)) (hsz : items.size = items2.size) (e : Nat → Bool) :
    Meets (Builtin.«list.__ne__» ⟨[.ref l, .ref b], []⟩)
      (fun A R s => s.heap.get? l = some { cls := .type "list", dict := dd, data := .seq items n, slots := sl } ∧ s.heap.get? b = some { cls := .type "list", dict := dd2, data := .seq items2 n2, slots := sl2 } ∧
        (∀ j (h1 : j < items.size) (h2 : j < items2.size), EqAt A.in1 s items[j] items2[j] (e j)) ∧
        R (.ok (.ret (.bool (!((List.range items.size).all e))))) s) := by
  intro prog w A R s h
  obtain ⟨hp, g, d, tk, os⟩ := s; obtain ⟨hl, hb, he, h⟩ := h
  have f3 := AutoSeq1.sub_list_list
  have hne : ¬ (items.size != items2.size) = true := by simp [hsz]
  wp_walk using wpAny_loadPart' hl, wpAny_loadPart' hb
  exact ⟨plainId_quiet plain_eq_loop _, codeAny_builtin entry_eq_loop (by
    rw [Around.under_plainId plain_eq_loop _]
    exact ne_loopAt l b items items2 n n2 dd dd2 sl sl2 hsz e _ 0 rfl prog w A R _ ⟨hl, hb, he, by simpa using h⟩)⟩
theorem list_ne_lengthsAt (l b : Addr) (items items2 : Array Value) (n n2 : Nat) (dd dd2 : Option Addr) (sl sl2 : Array (Option Value)) (hc0 : (items.size != items2.size) = true) :
    Meets (Builtin.«list.__ne__» ⟨[.ref l, .ref b], []⟩)
      (fun _ R s => s.heap.get? l = some { cls := .type "list", dict := dd, data := .seq items n, slots := sl } ∧ s.heap.get? b = some { cls := .type "list", dict := dd2, data := .seq items2 n2, slots := sl2 } ∧
        R (.ok (.ret (.bool true))) s) :=
  .of_wp fun prog w A R s h => by
    obtain ⟨hp, g, d, tk, os⟩ := s; obtain ⟨hl, hb, h⟩ := h
    have f3 := AutoSeq1.sub_list_list
    wp_walk using wpAny_loadPart' hl, wpAny_loadPart' hb
    exact ⟨_, rfl, h⟩
theorem tuple_neAt (l b : Addr) (items items2 : Array Value) (n n2 : Nat) (dd dd2 : Option Addr) (sl sl2 : Array (Option Value)) (e : Nat → Bool) :
    Meets (Builtin.«tuple.__ne__» ⟨[.ref l, .ref b], []⟩)
      (fun A R s => s.heap.get? l = some { cls := .type "tuple", dict := dd, data := .seq items n, slots := sl } ∧ s.heap.get? b = some { cls := .type "tuple", dict := dd2, data := .seq items2 n2, slots := sl2 } ∧
        (∀ j (h1 : j < items.size) (h2 : j < items2.size), EqAt A.in1 s items[j] items2[j] (e j)) ∧
        R (.ok (.ret (.bool (!((List.range (min items.size items2.size)).all e && items.size == items2.size))))) s) :=
  .of_wp fun prog w A R s h => by
    obtain ⟨hp, g, d, tk, os⟩ := s; obtain ⟨hl, hb, he, h⟩ := h
    have f2 := AutoSeq1.sub_tuple_tuple
    have hZ : (items.toList.zip items2.toList).length = min items.size items2.size := by simp
    wp_walk using wpAny_loadPart' hl, wpAny_loadPart' hb, wpAny_forIn_list _ (fun rest b s' => b.1 = none ∧ s' = ⟨hp, g, d, tk, os⟩ ∧ ∃ i, rest = (items.toList.zip items2.toList).drop i ∧
      R (.ok (.ret (.bool (!(((List.range (min items.size items2.size)).drop i).all e && items.size == items2.size))))) ⟨hp, g, d, tk, os⟩) _
    case turn =>
      rintro ⟨y, x⟩ rest b s' ⟨hb', rfl, i, hz, hR⟩
      have hlt : i < (items.toList.zip items2.toList).length := by
        rcases Nat.lt_or_ge i (items.toList.zip items2.toList).length with h' | h'
        · exact h'
        · rw [List.drop_of_length_le h'] at hz; cases hz
      have hm : i < min items.size items2.size := hZ ▸ hlt
      have h1 : i < items.size := Nat.lt_of_lt_of_le hm (Nat.min_le_left _ _)
      have h2 : i < items2.size := Nat.lt_of_lt_of_le hm (Nat.min_le_right _ _)
      rw [List.drop_eq_getElem_cons hlt] at hz
      injection hz with hyx hrest
      have hy : y = items[i] := by have := congrArg Prod.fst hyx; simpa using this
      have hx : x = items2[i] := by have := congrArg Prod.snd hyx; simpa using this
      subst hy hx
      have hd : (List.range (min items.size items2.size)).drop i = i :: (List.range (min items.size items2.size)).drop (i + 1) := by simp [List.drop_eq_getElem_cons, hm]
      rw [hd, List.all_cons] at hR
      refine wpAny_bind (he i h1 h2 prog w _ _ ?_)
      cases hy : e i with
      | true =>
        rw [hy] at hR
        wp_walk
        exact ⟨rfl, rfl, i + 1, hrest, by simpa using hR⟩
      | false =>
        rw [hy] at hR
        wp_walk
        exact ⟨_, rfl, by simpa using hR⟩
    case fin =>
      rintro ⟨b1, b2⟩ s' ⟨hb', rfl, i, hz, hR⟩
      simp only at hb'
      subst hb'
      have hge : min items.size items2.size ≤ i := by
        rcases Nat.lt_or_ge i (items.toList.zip items2.toList).length with h' | h'
        · rw [List.drop_eq_getElem_cons h'] at hz; cases hz
        · exact hZ ▸ h'
      rw [List.drop_of_length_le (by simpa using hge)] at hR
      wp_walk
      exact ⟨_, rfl, by simpa [Builtin.Tuple.tupleCompareSizes, bne] using hR⟩
    case h =>
      exact ⟨rfl, rfl, 0, rfl, by simpa using h⟩
section
variable {prog : Program} {w : World} {A : Around} {E : Value → Shared → Prop} {s : Shared}
theorem ne_listAt {l b : Addr} {items items2 : Array Value} {e : Nat → Bool} {Q : Value → Shared → Prop} (hl : s.heap.IsList l items) (hb : s.heap.IsList b items2) (hsz : items.size = items2.size) (hu : A.units < cLine)
    (he : ∀ j (h1 : j < items.size) (h2 : j < items2.size), EqAt A.in1 s items[j] items2[j] (e j)) (h : Q (.bool (!(List.range items.size).all e)) s) : wpAny (model prog w) A (compareOp .NotEq (.ref l) (.ref b)) Q E s := by
  obtain ⟨⟨cls, dd, data, sl⟩, ho, hc, n, hd⟩ := id hl
  obtain ⟨⟨cls2, dd2, data2, sl2⟩, ho2, hc2, n2, hd2⟩ := id hb
  simp only at hc hd hc2 hd2
  subst hc hd hc2 hd2
  exact richCompare_meets_room (op := .NotEq) ⟨_, ho, rfl⟩ ⟨_, ho2, rfl⟩ F.slot_list_ne F.entry_list_ne (F.args_list_ne_2 _ _) (list_neAt l b items items2 n n2 dd dd2 sl sl2 hsz e)
    ⟨ho, ho2, he, show Value.bool (!(List.range items.size).all e) ≠ Value.notImplemented ∧ Q (.bool (!(List.range items.size).all e)) s from ⟨(fun x => nomatch x), h⟩⟩ hu
theorem ne_list_lengthsAt {l b : Addr} {items items2 : Array Value} {Q : Value → Shared → Prop} (hl : s.heap.IsList l items) (hb : s.heap.IsList b items2) (hsz : (items.size != items2.size) = true) (hu : A.units < cLine)
    (h : Q (.bool true) s) : wpAny (model prog w) A (compareOp .NotEq (.ref l) (.ref b)) Q E s := by
  obtain ⟨⟨cls, dd, data, sl⟩, ho, hc, n, hd⟩ := id hl
  obtain ⟨⟨cls2, dd2, data2, sl2⟩, ho2, hc2, n2, hd2⟩ := id hb
  simp only at hc hd hc2 hd2
  subst hc hd hc2 hd2
  exact richCompare_meets_room (op := .NotEq) ⟨_, ho, rfl⟩ ⟨_, ho2, rfl⟩ F.slot_list_ne F.entry_list_ne (F.args_list_ne_2 _ _) (list_ne_lengthsAt l b items items2 n n2 dd dd2 sl sl2 hsz)
    ⟨ho, ho2, show Value.bool true ≠ Value.notImplemented ∧ Q (.bool true) s from ⟨(fun x => nomatch x), h⟩⟩ hu
theorem ne_tupleAt {l b : Addr} {items items2 : Array Value} {e : Nat → Bool} {Q : Value → Shared → Prop} (hl : s.heap.IsTuple l items) (hb : s.heap.IsTuple b items2) (hu : A.units < cLine)
    (he : ∀ j (h1 : j < items.size) (h2 : j < items2.size), EqAt A.in1 s items[j] items2[j] (e j)) (h : Q (.bool (!((List.range (min items.size items2.size)).all e && items.size == items2.size))) s) : wpAny (model prog w) A (compareOp .NotEq (.ref l) (.ref b)) Q E s := by
  obtain ⟨⟨cls, dd, data, sl⟩, ho, hc, n, hd⟩ := id hl
  obtain ⟨⟨cls2, dd2, data2, sl2⟩, ho2, hc2, n2, hd2⟩ := id hb
  simp only at hc hd hc2 hd2
  subst hc hd hc2 hd2
  exact richCompare_meets_room (op := .NotEq) ⟨_, ho, rfl⟩ ⟨_, ho2, rfl⟩ F.slot_tuple_ne F.entry_tuple_ne (F.args_tuple_ne_2 _ _) (tuple_neAt l b items items2 n n2 dd dd2 sl sl2 e)
    ⟨ho, ho2, he, show Value.bool (!((List.range (min items.size items2.size)).all e && items.size == items2.size)) ≠ Value.notImplemented ∧ Q (.bool (!((List.range (min items.size items2.size)).all e && items.size == items2.size))) s from ⟨(fun x => nomatch x), h⟩⟩ hu
end
end Mine
end
section
open PySem PySem.W PyProof.Rows PySem.Calls
set_option maxRecDepth 10000
namespace Mine
open SeqAt
mutual
noncomputable def eqD : D → D → Bool
  | .int a, .int b => a == b
  | .str a, .str b => a == b
  | .bytes a, .bytes b => a == b
  | .tup a, .tup b => eqDs a b
  | .lst a, .lst b => eqDs a b
  | _, _ => false
noncomputable def eqDs : List D → List D → Bool
  | [], [] => true
  | a :: as, b :: bs => eqD a b && eqDs as bs
  | _, _ => false
end
/-- of one kind, down to this depth -/
noncomputable def likeD : Nat → D → D → Bool
  | _, .int _, .int _ => true
  | _, .str _, .str _ => true
  | _, .bytes _, .bytes _ => true
  | k + 1, .tup a, .tup b => a.all fun x => b.all fun y => likeD k x y
  | k + 1, .lst a, .lst b => a.all fun x => b.all fun y => likeD k x y
  | _, _, _ => false
theorem eqDs_eq : ∀ (as bs : List D), eqDs as bs = ((List.range (min as.length bs.length)).all (fun j => eqD (as.getD j .none) (bs.getD j .none)) && as.length == bs.length)
  | [], [] => rfl
  | [], _ :: _ => by simp [eqDs]
  | _ :: _, [] => by simp [eqDs]
  | a :: as, b :: bs => by
    rw [eqDs, eqDs_eq as bs]
    have e : min (a :: as).length (b :: bs).length = min as.length bs.length + 1 := by simp only [List.length_cons]; omega
    rw [e, List.range_succ_eq_map, List.all_cons, List.all_map]
    simp only [List.getD_cons_zero, List.length_cons, Bool.and_assoc]
    congr 1
    congr 1
    rw [Bool.eq_iff_iff]; simp
/-- two of one kind -/
inductive LikeC (k : Nat) : D → D → Prop
  | int (a b : Int) : LikeC k (.int a) (.int b)
  | str (a b : Str) : LikeC k (.str a) (.str b)
  | bytes (a b : Array UInt8) : LikeC k (.bytes a) (.bytes b)
  | tup {m : Nat} {a b : List D} : k = m + 1 → (∀ x ∈ a, ∀ y ∈ b, likeD m x y = true) → LikeC k (.tup a) (.tup b)
  | lst {m : Nat} {a b : List D} : k = m + 1 → (∀ x ∈ a, ∀ y ∈ b, likeD m x y = true) → LikeC k (.lst a) (.lst b)
theorem like_cases {k : Nat} {d e : D} (h : likeD k d e = true) : LikeC k d e := by
  unfold likeD at h
  split at h
  · exact .int _ _
  · exact .str _ _
  · exact .bytes _ _
  · exact .tup rfl (by simpa only [List.all_eq_true] using h)
  · exact .lst rfl (by simpa only [List.all_eq_true] using h)
  · cases h
theorem eqDs_refl' {k : Nat} (ih : ∀ d, likeD k d d = true → eqD d d = true) : ∀ ds : List D, (∀ d ∈ ds, likeD k d d = true) → eqDs ds ds = true
  | [], _ => rfl
  | d :: ds, h => by rw [eqDs, ih d (h d (.head _)), eqDs_refl' ih ds fun x hx => h x (.tail _ hx)]; rfl
theorem eqD_refl (k : Nat) : ∀ (d : D), likeD k d d = true → eqD d d = true := by
  induction k with
  | zero =>
    intro d h
    cases like_cases h with
    | int a => rw [eqD]; exact beq_self_eq_true _
    | str a => rw [eqD]; exact beq_self_eq_true _
    | bytes a => rw [eqD]; exact beq_self_eq_true _
    | tup hk => cases hk
    | lst hk => cases hk
  | succ k ih =>
    intro d h
    cases like_cases h with
    | int a => rw [eqD]; exact beq_self_eq_true _
    | str a => rw [eqD]; exact beq_self_eq_true _
    | bytes a => rw [eqD]; exact beq_self_eq_true _
    | tup hk q => cases hk; rw [eqD]; exact eqDs_refl' ih _ fun x hx => q x hx x hx
    | lst hk q => cases hk; rw [eqD]; exact eqDs_refl' ih _ fun x hx => q x hx x hx
theorem eqDs_refl (k : Nat) (ds : List D) (h : ∀ d ∈ ds, likeD k d d = true) : eqDs ds ds = true := eqDs_refl' (eqD_refl k) ds h
theorem reps_eq' {X : Addr → Prop} {h : Heap} {k : Nat} (ih : ∀ {v : Value} {d e : D}, Rep X h v d → Rep X h v e → likeD k d e = true → d = e) : ∀ {vs : List Value} {ds es : List D}, Reps X h vs ds → Reps X h vs es → (∀ x ∈ ds, ∀ y ∈ es, likeD k x y = true) → ds = es
  | _, _, _, .nil, .nil, _ => rfl
  | _, _, _, .cons r rs, .cons q qs, hl => by
    rw [ih r q (hl _ (.head _) _ (.head _)), reps_eq' ih rs qs fun x hx y hy => hl x (.tail _ hx) y (.tail _ hy)]
theorem rep_eq {X : Addr → Prop} {h : Heap} (k : Nat) : ∀ {v : Value} {d e : D}, Rep X h v d → Rep X h v e → likeD k d e = true → d = e := by
  induction k with
  | zero =>
    intro v d e r q hl
    cases like_cases hl with
    | int a b => obtain ⟨t, rfl⟩ := rep_int_inv r; obtain ⟨u, e⟩ := rep_int_inv q; cases e; rfl
    | str a b => obtain ⟨t, rfl⟩ := rep_str_inv r; obtain ⟨u, e⟩ := rep_str_inv q; cases e; rfl
    | bytes a b => obtain ⟨t, rfl⟩ := rep_bytes_inv r; obtain ⟨u, e⟩ := rep_bytes_inv q; cases e; rfl
    | tup hk => cases hk
    | lst hk => cases hk
  | succ k ih =>
    intro v d e r q hl
    cases like_cases hl with
    | int a b => obtain ⟨t, rfl⟩ := rep_int_inv r; obtain ⟨u, e⟩ := rep_int_inv q; cases e; rfl
    | str a b => obtain ⟨t, rfl⟩ := rep_str_inv r; obtain ⟨u, e⟩ := rep_str_inv q; cases e; rfl
    | bytes a b => obtain ⟨t, rfl⟩ := rep_bytes_inv r; obtain ⟨u, e⟩ := rep_bytes_inv q; cases e; rfl
    | tup hk hl =>
      cases hk
      obtain ⟨a, vs, rfl, _, ⟨o, h1, h2, n, h3⟩, rs⟩ := rep_tup_inv r
      obtain ⟨b, us, e, _, ⟨o', g1, g2, n', g3⟩, qs⟩ := rep_tup_inv q
      cases e
      rw [h1] at g1; cases g1; rw [h3] at g3; cases g3
      rw [reps_eq' ih rs qs hl]
    | lst hk hl =>
      cases hk
      obtain ⟨a, vs, rfl, _, ⟨o, h1, h2, n, h3⟩, rs⟩ := rep_lst_inv r
      obtain ⟨b, us, e, _, ⟨o', g1, g2, n', g3⟩, qs⟩ := rep_lst_inv q
      cases e
      rw [h1] at g1; cases g1; rw [h3] at g3; cases g3
      rw [reps_eq' ih rs qs hl]
theorem reps_getD {X : Addr → Prop} {h : Heap} {vs : List Value} {ds : List D} (r : Reps X h vs ds) {j : Nat} (hj : j < vs.toArray.size) : Rep X h (vs.toArray[j]) (ds.getD j .none) := by
  have hv : vs[j]? = some (vs.toArray[j]) := by simp at hj; simp [hj]
  obtain ⟨d, hd, rv⟩ := r.getV hv
  rw [List.getD, hd]; exact rv
theorem like_at {k : Nat} {ds es : List D} (h : ∀ x ∈ ds, ∀ y ∈ es, likeD k x y = true) {j : Nat} (h1 : j < ds.length) (h2 : j < es.length) : likeD k (ds.getD j .none) (es.getD j .none) = true := by
  rw [List.getD, List.getElem?_eq_getElem h1, List.getD, List.getElem?_eq_getElem h2]
  exact h _ (List.getElem_mem h1) _ (List.getElem_mem h2)
theorem eqAt_bytes {A : Around} {s : Shared} {a b : Array UInt8} {t u : Tok} : EqAt A s (.bytes a t) (.bytes b u) (a == b) := fun prog w E Q h =>
  eqBool_bytes (by rw [show decide (a.toList = b.toList) = (a == b) by rw [Bool.eq_iff_iff]; simp [Array.toList_inj]]; exact h)
theorem eqAt_like {X : Addr → Prop} : ∀ (k : Nat) {A : Around} {s : Shared} {v u : Value} {d e : D}, A.units + 4 * k < cLine → Rep X s.heap v d → Rep X s.heap u e → likeD k d e = true → EqAt A s v u (eqD d e) := by
  intro k
  induction k with
  | zero =>
    intro A s v u d e hu r q hl
    cases like_cases hl with
    | int a b => obtain ⟨t, rfl⟩ := rep_int_inv r; obtain ⟨u, rfl⟩ := rep_int_inv q; rw [eqD]; exact EqAt.int_int _ _ _ _
    | str a b => obtain ⟨t, rfl⟩ := rep_str_inv r; obtain ⟨u, rfl⟩ := rep_str_inv q; rw [eqD]; exact EqAt.str_str _ _ _ _
    | bytes a b => obtain ⟨t, rfl⟩ := rep_bytes_inv r; obtain ⟨u, rfl⟩ := rep_bytes_inv q; rw [eqD]; exact eqAt_bytes
    | tup hk => cases hk
    | lst hk => cases hk
  | succ k ih =>
    intro A s v u d e hu r q hl
    cases like_cases hl with
    | int a b => obtain ⟨t, rfl⟩ := rep_int_inv r; obtain ⟨u, rfl⟩ := rep_int_inv q; rw [eqD]; exact EqAt.int_int _ _ _ _
    | str a b => obtain ⟨t, rfl⟩ := rep_str_inv r; obtain ⟨u, rfl⟩ := rep_str_inv q; rw [eqD]; exact EqAt.str_str _ _ _ _
    | bytes a b => obtain ⟨t, rfl⟩ := rep_bytes_inv r; obtain ⟨u, rfl⟩ := rep_bytes_inv q; rw [eqD]; exact eqAt_bytes
    | tup hk hl' =>
      rename_i ds es
      cases hk
      obtain ⟨l, vs, rfl, hx, ht, rs⟩ := rep_tup_inv r
      obtain ⟨b, us, rfl, hx', ht', qs⟩ := rep_tup_inv q
      by_cases hlb : l = b
      · subst hlb
        have ed := rep_eq (k + 1) (.tup hx ht rs) (.tup hx' ht' qs) hl
        rw [← ed] at hl ⊢
        rw [eqD_refl _ _ hl]
        exact EqAt.same _
      · have hlr := rs.length
        have hlq := qs.length
        rw [eqD, eqDs_eq]
        have := EqAt.of_refs hlb (RcAt.tuples (e := fun j => eqD (ds.getD j .none) (es.getD j .none)) ht ht' (by omega) fun j h1 h2 => ih (A := A.in1) (by show A.units + 1 + _ < _; omega) (reps_getD rs h1) (reps_getD qs h2) (like_at hl' (by simp at h1; omega) (by simp at h2; omega)))
        simpa [hlr, hlq] using this
    | lst hk hl' =>
      rename_i ds es
      cases hk
      obtain ⟨l, vs, rfl, hx, ht, rs⟩ := rep_lst_inv r
      obtain ⟨b, us, rfl, hx', ht', qs⟩ := rep_lst_inv q
      by_cases hlb : l = b
      · subst hlb
        have ed := rep_eq (k + 1) (.lst hx ht rs) (.lst hx' ht' qs) hl
        rw [← ed] at hl ⊢
        rw [eqD_refl _ _ hl]
        exact EqAt.same _
      · have hlr := rs.length
        have hlq := qs.length
        rw [eqD, eqDs_eq]
        by_cases hsz : ds.length = es.length
        · have := EqAt.of_refs hlb (RcAt.lists (e := fun j => eqD (ds.getD j .none) (es.getD j .none)) ht ht' (by simp; omega) (by omega) fun j h1 h2 => ih (A := A.in1) (by show A.units + 1 + _ < _; omega) (reps_getD rs h1) (reps_getD qs h2) (like_at hl' (by simp at h1; omega) (by simp at h2; omega)))
          have e1 : min ds.length es.length = vs.toArray.size := by simp; omega
          have e2 : (ds.length == es.length) = true := by simp [hsz]
          rw [e1, e2, Bool.and_true]
          exact this
        · have := EqAt.of_refs (A := A) hlb (RcAt.lists_lengths ht ht' (by simp; omega) (by omega))
          have e2 : (ds.length == es.length) = false := by simp [hsz]
          rw [e2, Bool.and_false]
          exact this
end Mine
end
section
open PySem PySem.W PyProof.Rows PySem.Calls
set_option maxRecDepth 10000
namespace Mine
open SeqAt
section
variable {c : Cx} {n : Nat}
theorem cmp_eq_tup {k : Nat} {ds es : List D} (hl : likeD (k + 1) (.tup ds) (.tup es) = true) (hk : k ≤ 10 := by decide) : Cmp c n .Eq (.tup ds) (.tup es) (eqDs ds es) := by
  intro X A E s v₁ v₂ Q R G r q h
  have hu := R.u64
  obtain ⟨_, _, rfl, hx, ht, rs⟩ := rep_inv r
  obtain ⟨_, _, rfl, hx', ht', qs⟩ := rep_inv q
  simp only [likeD, List.all_eq_true] at hl
  have hlr := rs.length
  have hlq := qs.length
  refine eq_tupleAt (e := fun j => eqD (ds.getD j .none) (es.getD j .none)) ht ht' (by omega) (fun j h1 h2 => eqAt_like k (A := A.in1) (by show A.units + 1 + _ < _; omega) (reps_getD rs h1) (reps_getD qs h2) (like_at hl (by simp at h1; omega) (by simp at h2; omega))) ?_
  have := h s (keeps_refl s)
  rw [eqDs_eq] at this
  simpa [hlr, hlq] using this
theorem cmp_ne_tup {k : Nat} {ds es : List D} (hl : likeD (k + 1) (.tup ds) (.tup es) = true) (hk : k ≤ 10 := by decide) : Cmp c n .NotEq (.tup ds) (.tup es) (!eqDs ds es) := by
  intro X A E s v₁ v₂ Q R G r q h
  have hu := R.u64
  obtain ⟨_, _, rfl, hx, ht, rs⟩ := rep_inv r
  obtain ⟨_, _, rfl, hx', ht', qs⟩ := rep_inv q
  simp only [likeD, List.all_eq_true] at hl
  have hlr := rs.length
  have hlq := qs.length
  refine ne_tupleAt (e := fun j => eqD (ds.getD j .none) (es.getD j .none)) ht ht' (by omega) (fun j h1 h2 => eqAt_like k (A := A.in1) (by show A.units + 1 + _ < _; omega) (reps_getD rs h1) (reps_getD qs h2) (like_at hl (by simp at h1; omega) (by simp at h2; omega))) ?_
  have := h s (keeps_refl s)
  rw [eqDs_eq] at this
  simpa [hlr, hlq] using this
theorem cmp_ne_lst {k : Nat} {ds es : List D} (hl : likeD (k + 1) (.lst ds) (.lst es) = true) (hk : k ≤ 10 := by decide) : Cmp c n .NotEq (.lst ds) (.lst es) (!eqDs ds es) := by
  intro X A E s v₁ v₂ Q R G r q h
  have hu := R.u64
  obtain ⟨_, _, rfl, hx, ht, rs⟩ := rep_inv r
  obtain ⟨_, _, rfl, hx', ht', qs⟩ := rep_inv q
  simp only [likeD, List.all_eq_true] at hl
  have hlr := rs.length
  have hlq := qs.length
  have h' := h s (keeps_refl s)
  rw [eqDs_eq] at h'
  by_cases hsz : ds.length = es.length
  · refine ne_listAt (e := fun j => eqD (ds.getD j .none) (es.getD j .none)) ht ht' (by simp; omega) (by omega) (fun j h1 h2 => eqAt_like k (A := A.in1) (by show A.units + 1 + _ < _; omega) (reps_getD rs h1) (reps_getD qs h2) (like_at hl (by simp at h1; omega) (by simp at h2; omega))) ?_
    rename_i a vs b us
    have e1 : min ds.length es.length = vs.toArray.size := by simp; omega
    have e2 : (ds.length == es.length) = true := by simp [hsz]
    rw [e1, e2, Bool.and_true] at h'
    exact h'
  · have e2 : (ds.length == es.length) = false := by simp [hsz]
    rw [e2, Bool.and_false] at h'
    exact ne_list_lengthsAt ht ht' (by simp; omega) (by omega) h'
theorem cmp_eq_str {a b : Str} : Cmp c n .Eq (.str a) (.str b) (a == b) := by
  intro X A E s v₁ v₂ Q R G r q h
  obtain ⟨_, rfl⟩ := rep_inv r; obtain ⟨_, rfl⟩ := rep_inv q
  exact P.eq_str (by rw [str_beq]; exact h s (keeps_refl s))
theorem cmp_ne_str {a b : Str} : Cmp c n .NotEq (.str a) (.str b) (!(a == b)) := by
  intro X A E s v₁ v₂ Q R G r q h
  obtain ⟨_, rfl⟩ := rep_inv r; obtain ⟨_, rfl⟩ := rep_inv q
  exact P.ne_str (by rw [bne, str_beq]; exact h s (keeps_refl s))
theorem any_reps {X : Addr → Prop} {h : Heap} (f : Value → Bool) (g : D → Bool) : ∀ {vs : List Value} {ds : List D}, Reps X h vs ds → (∀ v d, Rep X h v d → v ∈ vs → d ∈ ds → f v = g d) → vs.any f = ds.any g
  | _, _, .nil, _ => rfl
  | _, _, .cons r rs, hf => by
    rw [List.any_cons, List.any_cons, hf _ _ r (.head _) (.head _), any_reps f g rs fun v d q h1 h2 => hf v d q (.tail _ h1) (.tail _ h2)]
open Classical in
theorem notin_list {X : Addr → Prop} {A : Around} {E : Value → Shared → Prop} {s : Shared} {u : Value} {l : Addr} {vs : List Value} {ds : List D} {e : D} {k : Nat} {Q : Value → Shared → Prop} (hu : A.units + 1 + 4 * k < cLine)
    (ht : s.heap.IsList l vs.toArray) (rs : Reps X s.heap vs ds) (r : Rep X s.heap u e) (hl : ∀ d ∈ ds, likeD k d e = true) (hl2 : ∀ x ∈ ds, ∀ y ∈ ds, likeD k x y = true) (h : Q (.bool (!(ds.any fun d => eqD d e))) s) : wpAny c.M A (compareOp .NotIn u (.ref l)) Q E s := by
  have key : ∀ v, v ∈ vs → ∃ d, Rep X s.heap v d ∧ d ∈ ds := fun v hv => by
    obtain ⟨i, hi, rfl⟩ := List.mem_iff_getElem.mp hv
    obtain ⟨d, hd, rd⟩ := rs.getV (List.getElem?_eq_getElem hi)
    exact ⟨d, rd, List.mem_of_getElem? hd⟩
  let f : Value → Bool := fun v => if hv : ∃ d, Rep X s.heap v d ∧ d ∈ ds then eqD hv.choose e else false
  have hf : ∀ v d, Rep X s.heap v d → v ∈ vs → d ∈ ds → f v = eqD d e := fun v d rd hv hd => by
    have hex : ∃ d, Rep X s.heap v d ∧ d ∈ ds := ⟨d, rd, hd⟩
    show (if hv : ∃ d, Rep X s.heap v d ∧ d ∈ ds then eqD hv.choose e else false) = _
    rw [dif_pos hex]
    rw [rep_eq k hex.choose_spec.1 rd (hl2 _ hex.choose_spec.2 _ hd)]
  refine notIn_listAt f ht (fun v hv => ?_) ?_
  · have hv' : v ∈ vs := by simpa using hv
    obtain ⟨d, rd, hd⟩ := key v hv'
    rw [hf v d rd hv' hd]
    exact eqAt_like k (A := A.in1) (by show A.units + 1 + _ < _; omega) rd r (hl d hd)
  · rw [List.any_toArray, any_reps f _ rs hf]; exact h
theorem cmp_notin_lst {k : Nat} {ds : List D} {e : D} (hl : ∀ d ∈ ds, likeD k d e = true) (hl2 : ∀ x ∈ ds, ∀ y ∈ ds, likeD k x y = true) (hk : k ≤ 10 := by decide) : Cmp c n .NotIn e (.lst ds) (!(ds.any fun d => eqD d e)) := by
  intro X A E s v₁ v₂ Q R G r q h
  have hu := R.u64
  obtain ⟨_, _, rfl, hx, ht, rs⟩ := rep_inv q
  exact notin_list (k := k) (by omega) ht rs r hl hl2 (h s (keeps_refl s))
theorem cmp_is_none {d : D} (hd : d ≠ .none) : Cmp c n .Is d .none false := by
  intro X A E s v₁ v₂ Q R G r q h
  cases q
  cases r <;> first | exact absurd rfl hd | exact is_none_ne (by intro x; cases x) (h s (keeps_refl s))
theorem cmp_isnot_none {d : D} (hd : d ≠ .none) : Cmp c n .IsNot d .none true := by
  intro X A E s v₁ v₂ Q R G r q h
  cases q
  cases r <;> first | exact absurd rfl hd | exact isnot_none_ne (by intro x; cases x) (h s (keeps_refl s))
end
end Mine
end
section
open PySem PySem.W PyProof.Rows PySem.Calls
set_option maxRecDepth 100000
namespace Mine
noncomputable abbrev P2 := Int × Int
noncomputable def toP (p : P2) : D := .tup [.int p.1, .int p.2]
noncomputable def Sm (p : P2) : Prop := -1000 ≤ p.1 ∧ p.1 ≤ 1000 ∧ -1000 ≤ p.2 ∧ p.2 ≤ 1000
theorem mulOk {a b : Int} (h1 : -1000 ≤ b) (h2 : b ≤ 1000) : IntMulOk a b := IntMulOk.of_right (intBits_le_64 (by omega) (by omega))
noncomputable def crossP (a b : P2) : Int := a.1 * b.2 - a.2 * b.1
noncomputable def aheadP (a b : P2) : Bool := decide (0 < crossP a b) || (crossP a b == 0 && decide (0 < a.1 * b.1 + a.2 * b.2))
theorem fn_crossP {c : Cx} (H : FnObj c (stmtAt 18) 238) {n : Nat} {a b : P2} (hb : Sm b) : Fn c (n + 1) (.ref 238) [toP a, toP b] (.int (crossP a b)) :=
  fn_cross H (mulOk hb.2.2.1 hb.2.2.2) (mulOk hb.1 hb.2.1)
theorem at_cross' {c : Cx} (H : FnObj c (stmtAt 18) 238) : KeepF c (.ref 238) := keepF_of (at_cross H)
theorem ev_fst {c : Cx} {n : Nat} {sc : Scope} {ρ : Loc} {e i : PySem.Expr} {pos : Pos} {p : P2} (he : Ev c n sc ρ e (toP p)) (hi : Ev c n sc ρ i (.int 0)) (hix : PlainIx i := by intro _ _; with_unfolding_all rfl) : Ev c n sc ρ (.Subscript e i pos) (.int p.1) :=
  ev_item_tup (k := 0) he hi (by decide) rfl (by simp) hix
theorem ev_snd {c : Cx} {n : Nat} {sc : Scope} {ρ : Loc} {e i : PySem.Expr} {pos : Pos} {p : P2} (he : Ev c n sc ρ e (toP p)) (hi : Ev c n sc ρ i (.int 1)) (hix : PlainIx i := by intro _ _; with_unfolding_all rfl) : Ev c n sc ρ (.Subscript e i pos) (.int p.2) :=
  ev_item_tup (k := 1) he hi (by decide) rfl (by simp) hix
theorem at_ahead {c : Cx} (H : FnObj c (stmtAt 19) 245) : ∃ fd, FnAt c 245 fd (bodyOf (stmtAt 19)) [S "a", S "b"] ∧ fd.scope = scopeOf (stmtAt 19) :=
  fn_at H _ (fun pm => bind2 fun a b => by rfl) (by decide) (by decide) (by decide) (by decide) rfl rfl rfl rfl
theorem fn_ahead {c : Cx} (H : FnObj c (stmtAt 19) 245) (Hc : FnObj c (stmtAt 18) 238) (hm : c.mg (S "_law_cross") = some (.ref 238)) {n : Nat} {a b : P2} (hb : Sm b) :
    Fn c (n + 2) (.ref 245) [toP a, toP b] (.bool (aheadP a b)) := by
  refine fn_of (out := .ret _) (os := []) (at_ahead H) rfl ?_
  refine ex_cons (ex1_assign (ev_call (ev_global rfl hm) (at_cross' Hc) (.cons' (ev_local rfl rfl) (.cons' (ev_local rfl rfl) .nil)) (fn_crossP Hc hb)) (sto_local rfl (by decide))) (ex_ret (ex1_return ?_))
  refine ev_or (b₁ := decide (0 < crossP a b)) (b₂ := (crossP a b == 0 && decide (0 < a.1 * b.1 + a.2 * b.2))) (ev_cmp (ev_local rfl rfl) ev_int cmp_gt) fun _ => ?_
  refine ev_and (b₁ := crossP a b == 0) (b₂ := decide (0 < a.1 * b.1 + a.2 * b.2)) (ev_cmp (ev_local rfl rfl) ev_int cmp_eq) fun _ => ?_
  refine ev_cmp (ev_bin (ev_bin (ev_fst (ev_local rfl rfl) ev_int) (ev_fst (ev_local rfl rfl) ev_int) (bin_mul (mulOk hb.1 hb.2.1))) (ev_bin (ev_snd (ev_local rfl rfl) ev_int) (ev_snd (ev_local rfl rfl) ev_int) (bin_mul (mulOk hb.2.2.1 hb.2.2.2))) bin_add) ev_int cmp_gt
end Mine
end
section
open PySem PySem.W PyProof.Rows PySem.Calls
set_option maxRecDepth 100000
namespace Mine
section
variable {c : Cx} {n : Nat} {os : List Str} {sc : Scope} {ρ : Loc} {x : Str} {pos : Pos} {d : D}
theorem ex1_assign' {e : PySem.Expr} {px : Pos} (he : Ev c n sc ρ e d) (hst : Sto c n os sc ρ x d) (hsw : ∀ env : Env, env.scope = sc → swapsWith e (some (.Name x px)) pos.line env = pure false) : Ex1 c n os sc ρ (.Assign [.Name x px] e pos) (.next ((x, d) :: ρ)) := by
  intro X A E s env ow h₀ Q R B hs F h
  refine wpAny_Assign_Name (he X A E s env _ R B.gl hs F fun v s' k r => ?_) (hsw env hs)
  refine hst X A E s' env ow h₀ v _ R (B.more (keeps_heap k)) hs (F.keeps (keeps_heap k)) r fun s'' mv B' F' => ?_
  exact h _ s'' ((Moved.of_keeps k).trans mv) B' ⟨rfl, F'⟩
theorem bin_add_lst {ds es : List D} (hz : ds.length + es.length ≤ sizeLine := by first | assumption | (rw [sizeLine_eq]; simp; omega)) : Bin c n .Add (.lst ds) (.lst es) (.lst (ds ++ es)) := by
  intro X A E s v₁ v₂ Q R G r₁ r₂ h
  obtain ⟨_, _, rfl, hx, ht, rs⟩ := rep_inv r₁
  obtain ⟨_, _, rfl, hx', ht', qs⟩ := rep_inv r₂
  rename_i l vs b us
  obtain ⟨⟨cls, dd, data, sl⟩, ho, hc, n, hd⟩ := id ht
  obtain ⟨⟨cls2, dd2, data2, sl2⟩, ho2, hc2, n2, hd2⟩ := id ht'
  simp only at hc hd hc2 hd2
  subst hc hd hc2 hd2
  refine concat_meets ⟨_, ho, rfl⟩ ⟨_, ho2, rfl⟩ noFill_list_add seq_list_add PySem.F.slot_list_add PySem.F.entry_list_add (PySem.F.args_list_add_2 _ _) (list_addW l b vs.toArray us.toArray n n2 dd dd2 sl sl2 (by simp; have := rs.length; have := qs.length; omega)) ⟨ho, ho2, ?_⟩
  exact (h _ _ ⟨_, _, rfl, KeepsH.push _ _⟩ (.lst G.new (vs := vs ++ us) ⟨_, Heap.get?_push_size _ rfl, rfl, 0, by simp⟩ ((rs.append qs).keeps (KeepsH.push _ _))))
end
/-- the same, the store in a cell (or of another line) -/
theorem noSwap_cell {sc : Scope} {e : PySem.Expr} {x : Str} {px : Pos} {k : Nat} (h : (sc.names.lookup x == some .local) = false) : ∀ env : Env, env.scope = sc → swapsWith e (some (.Name x px)) k env = pure false := by
  intro env he
  subst he
  have hk : (env.kindOf x == some .local) = false := h
  unfold swapsWith
  split <;> simp [hk]
theorem swap_local {sc : Scope} {elt : PySem.Expr} {gs : List Comprehension} {scope : Scope} {pos : Pos} {x : Str} {px : Pos} {k : Nat} (hk : sc.kind = .function) (h : sc.names.lookup x = some .local) (hp : (px.line == pos.line) = true) (hn : (scope.names.any fun p => p.1 == x && (p.2 == .local || p.2 == .cell)) = false) :
    ∀ env : Env, env.scope = sc → swapsWith (.ListComp elt gs scope pos) (some (.Name x px)) k env = pure true := by
  intro env he
  subst he
  have hb : env.blockKind = .function := by unfold Env.blockKind; rw [hk]; rfl
  have hk' : env.kindOf x = some .local := h
  show (pure (env.blockKind == .function && env.kindOf x == some .local && px.line == pos.line && !(scope.names.any fun p => p.1 == x && (p.2 == .local || p.2 == .cell))) : Sem Bool) = pure true
  rw [hb, hk', hp, hn]; rfl
end Mine
end
section
open PySem PySem.W PyProof.Rows PySem.Calls
set_option maxRecDepth 100000
namespace Mine
theorem fm {α : Type} (f : α → D) (inv : D → α) (hi : ∀ a, inv (f a) = a) (p : α → Bool) (g : α → D) : ∀ l : List α, (((l.map f).filter fun d => p (inv d)).map fun d => g (inv d)) = (l.filter p).map g
  | [] => rfl
  | a :: l => by
    rw [List.map_cons, List.filter_cons, List.filter_cons, hi]
    cases hp : p a
    · simp only [Bool.false_eq_true, if_false]; exact fm f inv hi p g l
    · simp only [if_true, List.map_cons, hi]; rw [fm f inv hi p g l]
theorem filter_all {α : Type} (l : List α) : l.filter (fun _ => true) = l := by simp
section
variable {c : Cx} {n : Nat} {sc : Scope} {ρ : Loc} {α : Type}
theorem ev_compT {elt t iter : PySem.Expr} {ifs : List PySem.Expr} {scope : Scope} {pos : Pos} {ρf : Loc} (f : α → D) (inv : D → α) (hi : ∀ a, inv (f a) = a) (l : List α) (os : List Str) (p : α → Bool) (g : α → D) (tb : α → Loc)
    (S : CompSc sc scope ρ ρf os) (hsrc : Srcs c n sc ρ iter t (l.map f)) (hasg : ∀ a ∈ l, Asg c n os (relab scope sc) ρf t (f a) (tb a))
    (htest : ∀ a ∈ l, Tests c n (relab scope sc) (tb a ++ ρf) ifs (p a)) (helt : ∀ a ∈ l, p a = true → Ev c n (relab scope sc) (tb a ++ ρf) elt (g a)) (hsz : l.length ≤ 1000)
    (hfs : ∀ env x, foldedSetIterable iter env x = pure x := by intro _ _; rfl) :
    Ev c n sc ρ (.ListComp elt [⟨t, iter, ifs, 0⟩] scope pos) (.lst ((l.filter p).map g)) := by
  rw [← fm f inv hi p g l]
  have hm : ∀ d ∈ l.map f, ∃ a ∈ l, d = f a := fun d hd => by obtain ⟨a, ha, rfl⟩ := List.mem_map.mp hd; exact ⟨a, ha, rfl⟩
  refine ev_comp (fun d => p (inv d)) (fun d => g (inv d)) (fun d => tb (inv d)) S hsrc (fun d hd => ?_) (fun d hd => ?_) (fun d hd hp => ?_) (by rw [List.length_map, sizeLine_eq]; omega) hfs
  · obtain ⟨a, ha, rfl⟩ := hm d hd; rw [hi]; exact hasg a ha
  · obtain ⟨a, ha, rfl⟩ := hm d hd; rw [hi]; exact htest a ha
  · obtain ⟨a, ha, rfl⟩ := hm d hd; rw [hi] at hp ⊢; exact helt a ha hp
theorem ex1_assignCompT {elt t iter : PySem.Expr} {ifs : List PySem.Expr} {scope : Scope} {pos spos py : Pos} {y : Str} {ρf : Loc} (f : α → D) (inv : D → α) (hi : ∀ a, inv (f a) = a) (l : List α) (os os' : List Str) (p : α → Bool) (g : α → D) (tb : α → Loc)
    (S : CompSc sc scope ρ ρf os) (hsrc : Srcs c n sc ρ iter t (l.map f)) (hasg : ∀ a ∈ l, Asg c n os (relab scope sc) ρf t (f a) (tb a))
    (htest : ∀ a ∈ l, Tests c n (relab scope sc) (tb a ++ ρf) ifs (p a)) (helt : ∀ a ∈ l, p a = true → Ev c n (relab scope sc) (tb a ++ ρf) elt (g a)) (hsz : l.length ≤ 1000)
    (hst : Sto c n os' sc ρ y (.lst ((l.filter p).map g)))
    (hsw : ∀ env : Env, env.scope = sc → swapsWith (.ListComp elt [⟨t, iter, ifs, 0⟩] scope pos) (some (.Name y py)) spos.line env = pure true)
    (hfs : ∀ env x, foldedSetIterable iter env x = pure x := by intro _ _; rfl) :
    Ex1 c n os' sc ρ (.Assign [.Name y py] (.ListComp elt [⟨t, iter, ifs, 0⟩] scope pos) spos) (.next ((y, .lst ((l.filter p).map g)) :: ρ)) := by
  rw [← fm f inv hi p g l] at hst ⊢
  have hm : ∀ d ∈ l.map f, ∃ a ∈ l, d = f a := fun d hd => by obtain ⟨a, ha, rfl⟩ := List.mem_map.mp hd; exact ⟨a, ha, rfl⟩
  refine ex1_assignComp (fun d => p (inv d)) (fun d => g (inv d)) (fun d => tb (inv d)) S hsrc (fun d hd => ?_) (fun d hd => ?_) (fun d hd hp => ?_) (by rw [List.length_map, sizeLine_eq]; omega) hst hsw hfs
  · obtain ⟨a, ha, rfl⟩ := hm d hd; rw [hi]; exact hasg a ha
  · obtain ⟨a, ha, rfl⟩ := hm d hd; rw [hi]; exact htest a ha
  · obtain ⟨a, ha, rfl⟩ := hm d hd; rw [hi] at hp ⊢; exact helt a ha hp
theorem ev_compM {elt t iter : PySem.Expr} {scope : Scope} {pos : Pos} {ρf : Loc} (f : α → D) (inv : D → α) (hi : ∀ a, inv (f a) = a) (l : List α) (os : List Str) (g : α → D) (tb : α → Loc)
    (S : CompSc sc scope ρ ρf os) (hsrc : Srcs c n sc ρ iter t (l.map f)) (hasg : ∀ a ∈ l, Asg c n os (relab scope sc) ρf t (f a) (tb a))
    (helt : ∀ a ∈ l, Ev c n (relab scope sc) (tb a ++ ρf) elt (g a)) (hsz : l.length ≤ 1000)
    (hfs : ∀ env x, foldedSetIterable iter env x = pure x := by intro _ _; rfl) :
    Ev c n sc ρ (.ListComp elt [⟨t, iter, [], 0⟩] scope pos) (.lst (l.map g)) := by
  have := ev_compT f inv hi l os (fun _ => true) g tb S hsrc hasg (fun _ _ => .nil) (fun a ha _ => helt a ha) hsz hfs (pos := pos)
  rwa [filter_all] at this
theorem ex1_assignCompM {elt t iter : PySem.Expr} {scope : Scope} {pos spos py : Pos} {y : Str} {ρf : Loc} (f : α → D) (inv : D → α) (hi : ∀ a, inv (f a) = a) (l : List α) (os os' : List Str) (g : α → D) (tb : α → Loc)
    (S : CompSc sc scope ρ ρf os) (hsrc : Srcs c n sc ρ iter t (l.map f)) (hasg : ∀ a ∈ l, Asg c n os (relab scope sc) ρf t (f a) (tb a))
    (helt : ∀ a ∈ l, Ev c n (relab scope sc) (tb a ++ ρf) elt (g a)) (hsz : l.length ≤ 1000)
    (hst : Sto c n os' sc ρ y (.lst (l.map g)))
    (hsw : ∀ env : Env, env.scope = sc → swapsWith (.ListComp elt [⟨t, iter, [], 0⟩] scope pos) (some (.Name y py)) spos.line env = pure true)
    (hfs : ∀ env x, foldedSetIterable iter env x = pure x := by intro _ _; rfl) :
    Ex1 c n os' sc ρ (.Assign [.Name y py] (.ListComp elt [⟨t, iter, [], 0⟩] scope pos) spos) (.next ((y, .lst (l.map g)) :: ρ)) := by
  have := ex1_assignCompT (os' := os') f inv hi l os (p := fun _ => true) (g := g) (tb := tb) S hsrc hasg (fun _ _ => .nil) (fun a ha _ => helt a ha) hsz (by rw [filter_all]; exact hst) hsw hfs
  rwa [filter_all] at this
end
noncomputable def D.toP2 : D → P2
  | .tup [.int a, .int b] => (a, b)
  | _ => (0, 0)
noncomputable def notO (p : P2) : Bool := !(p.1 == 0 && p.2 == 0)
noncomputable def depthP (ways : List P2) : Int := ways.length - bestI true ([0] ++ (ways.filter notO).map fun a => (((ways.filter notO).filter (aheadP a)).length : Int))
theorem like_P (a b : P2) : likeD 1 (toP a) (toP b) = true := rfl
theorem fn_depth {c : Cx} (H : FnObj c (stmtAt 20) 250) (Ha : FnObj c (stmtAt 19) 245) (Hc : FnObj c (stmtAt 18) 238) (hmc : c.mg (S "_law_cross") = some (.ref 238)) (hma : c.mg (S "_law_ahead") = some (.ref 245))
    (hl : c.mg (S "len") = none) (hx : c.mg (S "max") = none) {n : Nat} {ways : List P2} (hs : ∀ w ∈ ways, Sm w) (hz : ways.length ≤ 100) : Fn c (n + 3) (.ref 250) [.lst (ways.map toP)] (.int (depthP ways)) := by
  refine fn_of (out := .ret _) (os := [S "away"]) (names := [S "ways"]) (fn_at H _ (fun pm => bind1 (α := Unit) fun a => by rfl) (by decide) (by decide) (by decide) (by decide) rfl rfl rfl rfl) rfl ?_
  have haw : (ways.filter notO).length ≤ ways.length := List.length_filter_le _ _
  refine ex_cons (ρ' := (S "away", .lst ((ways.filter notO).map toP)) :: [S "ways"].zip [.lst (ways.map toP)]) (ex1_assign' (ev_compT (ρf := []) toP D.toP2 (fun _ => rfl) ways [] notO toP (fun a => [(S "way", toP a)]) ?S (src_list (ev_local rfl rfl) (.inl (by intro _ _; rfl))) ?a ?t ?e (by omega)) (sto_cell rfl (by decide)) (noSwap_cell rfl)) (ex_ret (ex1_return ?_))
  case S => exact compSc_of trivial [] rfl
  case a => intro a _; exact asg_name (sto_local rfl (by decide))
  case t => intro a _; exact .one (tst_cmp (ev_local rfl rfl) (ev_tuple (.cons' ev_int (.cons' ev_int .nil))) (by have := cmp_ne_tup (c := c) (n := n + 2) (ds := [.int a.1, .int a.2]) (es := [.int 0, .int 0]) (k := 0) rfl; simpa [eqDs, eqD, notO, toP] using this))
  case e => intro a _ _; exact ev_local rfl rfl
  generalize haway : ways.filter notO = away at *
  have hsa : ∀ w ∈ away, Sm w := fun w hw => hs w (by rw [← haway] at hw; exact (List.mem_filter.mp hw).1)
  refine ev_bin (d₁ := .int ways.length) (d₂ := .int (bestI true ([0] ++ away.map fun a => ((away.filter (aheadP a)).length : Int)))) ?_ ?_ ?_
  · have := fn_len (c := c) (n := n + 2) (ds := ways.map toP) (by rw [List.length_map]; omega)
    rw [List.length_map] at this
    exact ev_call (ev_builtin rfl hl (by rfl)) (keepF_builtin _) (.cons' (ev_local rfl rfl) .nil) this
  · refine ev_call (ev_builtin rfl hx (by rfl)) (keepF_builtin _) (.cons' (d := .lst (([0] ++ away.map fun a => ((away.filter (aheadP a)).length : Int)).map .int)) ?_ .nil) (fn_max (by simp))
    have hsz : away.length ≤ 100 := by omega
    rw [List.map_append, List.map_map]
    refine ev_bin (d₁ := .lst [.int 0]) (d₂ := .lst (away.map fun a => .int ((away.filter (aheadP a)).length : Int))) (ev_list (.cons' ev_int .nil)) ?_ (bin_add_lst (by simp [sizeLine_eq]; omega))
    refine ev_compM (ρf := [(S "away", .lst (away.map toP))]) toP D.toP2 (fun _ => rfl) away [S "a"] (fun a => .int ((away.filter (aheadP a)).length : Int)) (fun a => [(S "a", toP a)]) ?S (src_list (ev_cell rfl rfl) (.inl (by intro _ _; rfl))) ?a ?e (by omega)
    case S => exact compSc_of ⟨rfl, trivial⟩ [S "away"] rfl
    case a => intro a _; exact asg_name (sto_cell rfl (by decide))
    case e =>
      intro a ha
      have hl' := fn_len (c := c) (n := n + 2) (ds := (away.filter (aheadP a)).map toP) (by rw [List.length_map]; have := List.length_filter_le (aheadP a) away; omega)
      rw [List.length_map] at hl'
      refine ev_call (ev_builtin rfl hl (by rfl)) (keepF_builtin _) (.cons' (ev_compT (ρf := [(S "a", toP a)]) toP D.toP2 (fun _ => rfl) away [] (aheadP a) toP (fun b => [(S "b", toP b)]) ?S2 (src_list (ev_cell rfl rfl) (.inl (by intro _ _; rfl))) ?a2 ?t2 ?e2 (by omega)) .nil) hl'
      case S2 => exact compSc_of ⟨rfl, trivial⟩ [S "a"] rfl
      case a2 => intro b _; exact asg_name (sto_local rfl (by decide))
      case t2 => intro b hb; exact .one (tst_plain (ev_call (ev_global rfl hma) (keepF_of (at_ahead Ha)) (.cons' (ev_cell rfl rfl) (.cons' (ev_local rfl rfl) .nil)) (fn_ahead Ha Hc hmc (hsa b hb))) tru_bool)
      case e2 => intro b _ _; exact ev_local rfl rfl
  · unfold depthP; rw [haway]; exact bin_sub
end Mine
end
section
open PySem PySem.W PyProof.Rows PySem.Calls
set_option maxRecDepth 100000
namespace Mine
open SeqAt
theorem slot_bytes_lt : Slot "bytes" (cmpInfo .Lt).2.1 "bytes.__lt__" :=
  .of (owner := "bytes") (n := "__lt__") (by rw [typeLookup_type, builtinLookup_eq_fast]; kernel_rfl) (by decide +kernel) (by decide +kernel) (by decide +kernel)
    (by first | exact .inl (by decide +kernel) | exact .inr (by decide +kernel)) (by rw [isSubtype_type]; kernel_rfl)
theorem entry_bytes_lt : entryFor table "bytes.__lt__" = some Builtin.«bytes.__lt__» := entryFor_of_tree (by kernel_rfl)
theorem args_bytes_lt_2 (a b : Value) : argsOk "bytes.__lt__" ⟨[a, b], []⟩ := by
  unfold argsOk; rw [signature?_of (id := "bytes.__lt__") (n := ['_', '_', 't', 'l', '_', '_']) (o := ['s', 'e', 't', 'y', 'b']) (by kernel_rfl) FB.owner_bytes]; kernel_rfl
noncomputable def ltB (b c : Array UInt8) : Bool := Builtin.Bytes.order b.toList c.toList == .lt
theorem gives_bytes_lt (b c : Array UInt8) (t u : Tok) : Gives (Builtin.«bytes.__lt__» ⟨[.bytes b t, .bytes c u], []⟩) (.val (.bool (ltB b c))) := by
  refine .of_wp fun M A E s Q hq => ?_
  show wpAny M A (isInstance (.bytes c u) (.type "bytes") >>= fun r => _) _ E s
  refine wpAny_bind (wpAny_isInstance (typeIs_bytes s c u) F.sub_bytes_bytes ?_)
  exact wpAny_pure ⟨_, rfl, hq⟩
section
variable {prog : Program} {w : World} {A : Around} {E : Value → Shared → Prop} {s : Shared}
theorem lt_bytes {b c : Array UInt8} {t u : Tok} {Q : Value → Shared → Prop} (h : Q (.bool (ltB b c)) s) : wpAny (model prog w) A (compareOp .Lt (.bytes b t) (.bytes c u)) Q E s :=
  compareOp_gives (op := .Lt) (typeIs_bytes s b t) (typeIs_bytes s c u) slot_bytes_lt entry_bytes_lt (args_bytes_lt_2 _ _) (gives_bytes_lt b c t u) (fun e => nomatch e) h
theorem call_bytes_lt {b c : Array UInt8} {t u : Tok} {Q : Value → Shared → Prop} (h : Q (.bool (ltB b c)) s) :
    wpAny (model prog w) A (call (.builtin "bytes.__lt__") [.bytes b t, .bytes c u]) Q E s := by
  refine wpAny_call_entry slot_bytes_lt (typeIs_bytes s b t) entry_bytes_lt ?_ (args_bytes_lt_2 _ _)
  show wpAny _ _ (isInstance (.bytes c u) (.type "bytes") >>= fun r => _) _ _ s
  refine wpAny_bind (wpAny_isInstance (typeIs_bytes s c u) F.sub_bytes_bytes ?_)
  exact wpAny_pure ⟨_, rfl, h⟩
theorem oneLt_bytes {b c : Array UInt8} {t u : Tok} {Q : Bool → Shared → Prop} (h : Q (ltB b c) s) : wpAny (model prog w) A (oneLt' true (.bytes b t) (.bytes c u)) Q E s := by
  rw [oneLt'_eq]
  simp only [if_true]
  refine wpAny_bind (wpAny_cRoomFor_byValue rfl ?_)
  refine wpAny_bind (wpAny_callSpecialIfBound?_slot (typeIs_bytes s b t) slot_bytes_lt (call_bytes_lt ?_))
  exact wpAny_truthy_bool h
end
/-- the order of plain values -/
noncomputable def ltD : D → D → Bool
  | .int a, .int b => decide (a < b)
  | .bytes a, .bytes b => ltB a b
  | .str a, .str b => decide (a.cps.toList < b.cps.toList)
  | _, _ => false
noncomputable def ltDs : List D → List D → Bool
  | a :: as, b :: bs => if eqD a b then ltDs as bs else ltD a b
  | as, bs => decide (as.length < bs.length)
theorem oneLtD {prog : Program} {w : World} {A : Around} {s : Shared} {X : Addr → Prop} {v u : Value} {d e : D} {f : Bool} {Q : Bool → Shared → Prop} (r : Rep X s.heap v d) (q : Rep X s.heap u e) (hl : likeD 0 d e = true) (h : Q (ltD d e) s) :
    wpAny (model prog w) A (oneLt' f v u) Q (fun _ _ => False) s := by
  cases like_cases hl with
  | int a b =>
    obtain ⟨t, rfl⟩ := rep_int_inv r
    obtain ⟨t', rfl⟩ := rep_int_inv q
    cases f
    · exact kat_one _ _ (lt_int h)
    · exact oneLt_int h
  | str a b =>
    obtain ⟨t, rfl⟩ := rep_str_inv r
    obtain ⟨t', rfl⟩ := rep_str_inv q
    cases f
    · exact kat_one _ _ (P.lt_str h)
    · exact oneLt_str h
  | bytes a b =>
    obtain ⟨t, rfl⟩ := rep_bytes_inv r
    obtain ⟨t', rfl⟩ := rep_bytes_inv q
    cases f
    · exact kat_one _ _ (lt_bytes h)
    · exact oneLt_bytes h
  | tup hk => cases hk
  | lst hk => cases hk
theorem lexD {prog : Program} {w : World} {A : Around} {s : Shared} {X : Addr → Prop} {b fin : Bool} {Q : Bool → Shared → Prop} (hu : A.units + 4 < cLine) : ∀ {vs us : List Value} {ds es : List D} (i : Nat), Reps X s.heap vs ds → Reps X s.heap us es →
    (∀ x ∈ ds, ∀ y ∈ es, likeD 0 x y = true) → fin = decide (ds.length < es.length) → Q (ltDs ds es) s → KatLex prog w A b fin Q (vs.zip us) i s
  | _, _, _, _, i, .nil, .nil, _, hf, h => by subst hf; exact kat_nil h
  | _, _, _, _, i, .nil, .cons _ _, _, hf, h => by subst hf; exact kat_nil h
  | _, _, _, _, i, .cons _ _, .nil, _, hf, h => by subst hf; exact kat_nil h
  | _, _, _, _, i, .cons (d := d) r rs, .cons (d := e) q qs, hl, hf, h => by
    refine kat_cons (eqAt_like 0 (by omega) r q (hl _ (.head _) _ (.head _)) prog w _ _ (kat_go (fun he => kat_yes ?_) fun he => kat_no ?_))
    · rw [ltDs, if_pos he] at h
      refine lexD hu (i + 1) rs qs (fun x hx y hy => hl x (.tail _ hx) y (.tail _ hy)) ?_ h
      rw [hf]; simp
    · rw [ltDs, if_neg (by rw [he]; simp)] at h
      exact oneLtD r q (hl _ (.head _) _ (.head _)) h
/-- the run of the sort's questions -/
noncomputable def krun {α : Type} (n : Nat) (lt : Nat → Nat → Bool) : KasT α → Option α
  | .ret a => some a
  | .ask i j k => if i < n ∧ j < n then krun n lt (k (lt i j)) else none
theorem krun_wp {α : Type} {n : Nat} {lt : Nat → Nat → Bool} {cmp : Nat → Nat → (Bool → Shared → Prop) → Shared → Prop} {s : Shared} (hc : ∀ i j C, i < n → j < n → C (lt i j) s → cmp i j C s) {Q : α → Shared → Prop} :
    ∀ (t : KasT α) {a : α}, krun n lt t = some a → Q a s → t.kasWp cmp Q s
  | .ret a, b, h, hq => by cases h; exact hq
  | .ask i j k, b, h, hq => by
    rw [krun] at h
    by_cases hb : i < n ∧ j < n
    · rw [if_pos hb] at h
      exact hc i j _ hb.1 hb.2 (krun_wp hc (k (lt i j)) h hq)
    · rw [if_neg hb] at h; cases h
end Mine
end
section
open PySem PySem.W PyProof.Rows PySem.Calls
set_option maxRecDepth 100000
namespace Mine
open SeqAt
section
variable {prog : Program} {w : World} {A : Around} {E : Value → Shared → Prop} {s : Shared}
theorem list_sort_kas {a : Addr} {vs : List Value} {n : Nat} {P : PySem.Fin → Shared → Prop} {κ : SortKind} {lt : Nat → Nat → Bool} {p : Array Nat} (ho : s.heap.get? a = some (seqObj "list" vs.toArray n))
    (h2 : 2 ≤ vs.length) (h64 : vs.length < 64) (hrun : krun vs.length lt (kas_sort vs.length) = some p)
    (hk : ∀ (s' : Shared), (∀ b o, b ≠ a → s.heap.get? b = some o → s'.heap.get? b = some o) → ∀ (Q : SortKind → Shared → Prop), Q κ s' → wpAny (model prog w) A (keyKind' vs.toArray) Q E s')
    (hc : ∀ (s' : Shared), (∀ b o, b ≠ a → s.heap.get? b = some o → s'.heap.get? b = some o) → ∀ i j C, i < vs.length → j < vs.length → C (lt i j) s' → kas_ask prog w A κ vs i j C s')
    (h : P (.done (.ret .none)) { s with heap := sortedHeap s.heap a vs (p.toList.map fun i => vs.getD i Value.none).toArray }) :
    wpAny (model prog w) A (Builtin.«list.sort» ⟨[.ref a], []⟩) P E s := by
  rw [list_sort_plain]
  have ha : a < s.heap.objs.size := Heap.lt_size ho
  refine wpAny_bind (listItems_at ho rfl ?_)
  refine wpAny_bind (listUpdate_at ho rfl ?_ (by rw [List.size_toArray, sizeLine_eq]; omega) (Nat.zero_le _))
  obtain ⟨e1, ho1⟩ : ∃ e1, (s.heap.update a (Obj.mapSeq fun _ => (#[] : Array Value))).get? a = some (seqObj "list" #[] e1) := ⟨_, get?_update_seq ho (fun _ => #[])⟩
  refine wpAny_bind (seqEpoch_at ho1 rfl ?_)
  refine wpAny_bind (wpAny_newTuple ?_ (by show vs.length ≤ _; rw [sizeLine_eq]; omega))
  refine wpAny_bind (wpAny_newList ?_ (Nat.zero_le _))
  refine wpAny_holding ?_
  have ho6 : (((s.heap.update a (Obj.mapSeq fun _ => (#[] : Array Value))).push (seqObj "tuple" vs.toArray 0)).push (seqObj "list" #[] 0)).get? a = some (seqObj "list" #[] e1) := by
    rw [Heap.get?_push_ne _ _ _ (by rw [size_push', Heap.size_update]; exact Nat.ne_of_lt (Nat.lt_succ_of_lt ha)), Heap.get?_push_ne _ _ _ (by rw [Heap.size_update]; exact Nat.ne_of_lt ha)]
    exact ho1
  show wpAny (model prog w) A _ P E { s with heap := ((s.heap.update a (Obj.mapSeq fun _ => (#[] : Array Value))).push (seqObj "tuple" vs.toArray 0)).push (seqObj "list" #[] 0) }
  dsimp only
  have keep : ∀ b o, b ≠ a → s.heap.get? b = some o → (((s.heap.update a (Obj.mapSeq fun _ => (#[] : Array Value))).push (seqObj "tuple" vs.toArray 0)).push (seqObj "list" #[] 0)).get? b = some o := fun b o hb e =>
    Heap.get?_push_of_some _ (Heap.get?_push_of_some _ (by rw [Heap.get?_update_ne _ _ _ _ hb]; exact e))
  have hn2 : ¬ vs.toArray.size < 2 := by rw [List.size_toArray]; omega
  rw [if_neg hn2, if_neg hn2]
  refine wpAny_bind (hk { s with heap := ((s.heap.update a (Obj.mapSeq fun _ => (#[] : Array Value))).push (seqObj "tuple" vs.toArray 0)).push (seqObj "list" #[] 0) } keep _ ?_)
  refine wpAny_bind (wpAny_mono (kat_run (ks := vs) (vs := vs) (Q := fun st' s' => s' = { s with heap := ((s.heap.update a (Obj.mapSeq fun _ => (#[] : Array Value))).push (seqObj "tuple" vs.toArray 0)).push (seqObj "list" #[] 0) } ∧ arrOf st' = p.map (kas_item (vs.toArray.zip vs.toArray)) ∧ failedOf st' = none ∧ p.size = vs.length)
    (G := fun p' s' => p' = p ∧ s' = { s with heap := ((s.heap.update a (Obj.mapSeq fun _ => (#[] : Array Value))).push (seqObj "tuple" vs.toArray 0)).push (seqObj "list" #[] 0) })
    rfl h2 h64 (fun p' st' s' a1 a2 a3 a4 => ⟨a4.2, by rw [← a4.1]; exact a2, a3, by rw [← a4.1]; exact a1⟩) (krun_wp (fun i j C hi hj hC => hc { s with heap := ((s.heap.update a (Obj.mapSeq fun _ => (#[] : Array Value))).push (seqObj "tuple" vs.toArray 0)).push (seqObj "list" #[] 0) } keep i j C hi hj hC) _ hrun ⟨rfl, rfl⟩)) ?_ fun _ _ e => e)
  rintro ⟨⟨⟩, st'⟩ s' ⟨rfl, har, hf, hsz⟩
  dsimp only
  have hout := kat_snds (ks := vs) (vs := vs) rfl har
  rw [hout]
  refine wpAny_bind (seqEpoch_at ho6 rfl ?_)
  refine wpAny_bind (listUpdate_at ho6 rfl ?_ (Nat.zero_le _) (by show (List.toArray _).size ≤ _; rw [List.size_toArray, List.length_map, Array.length_toList, hsz, sizeLine_eq]; omega))
  rw [hf]
  simp only [bne_self_eq_false, Bool.false_eq_true, if_false]
  exact wpAny_pure h
theorem sorted_kas {l : Addr} {vs : List Value} {Q : Value → Shared → Prop} {κ : SortKind} {lt : Nat → Nat → Bool} {p : Array Nat} (hl : s.heap.IsList l vs.toArray)
    (h2 : 2 ≤ vs.length) (h64 : vs.length < 64) (hrun : krun vs.length lt (kas_sort vs.length) = some p)
    (hk : ∀ (s' : Shared), KeepsH s.heap s'.heap → ∀ (E : Value → Shared → Prop) (Q : SortKind → Shared → Prop), Q κ s' → wpAny (model prog w) A.in1.in1 (keyKind' vs.toArray) Q E s')
    (hc : ∀ (s' : Shared), KeepsH s.heap s'.heap → ∀ i j C, i < vs.length → j < vs.length → C (lt i j) s' → kas_ask prog w A.in1.in1 κ vs i j C s')
    (h : Q (.ref (s.heap.objs.size + 1)) { s with heap := sortedAll s.heap vs (p.toList.map fun i => vs.getD i Value.none).toArray }) :
    wpAny (model prog w) A (call (.builtin "sorted") [.ref l]) Q E s := by
  refine Calls.call_function_entry kind_sorted plain_sorted entry_sorted (args_sorted1 _) ?_
  unfold Builtin.«sorted»
  refine wpAny_bind (m := checkCount "sorted" 1 1 _) (wpAny_pure ?_)
  refine wpAny_bind (collect_list hl ?_ (by rw [sizeLine_eq]; omega))
  refine wpAny_bind (wpAny_newList ?_ (by rw [sizeLine_eq]; omega))
  have hsz : ((s.heap.push (seqObj "list" #[] 0)).update s.heap.objs.size (Obj.mapSeq (· ++ vs.toArray))).objs.size = s.heap.objs.size + 1 := by
    rw [Heap.size_update, size_push']
  have hoL : (((s.heap.push (seqObj "list" #[] 0)).update s.heap.objs.size (Obj.mapSeq (· ++ vs.toArray))).push (seqObj "list" vs.toArray 0)).get? (s.heap.objs.size + 1) = some (seqObj "list" vs.toArray 0) := by
    rw [← hsz]; exact Heap.get?_push_size _ rfl
  have keep : ∀ b o, s.heap.get? b = some o → b ≠ s.heap.objs.size + 1 ∧ (((s.heap.push (seqObj "list" #[] 0)).update s.heap.objs.size (Obj.mapSeq (· ++ vs.toArray))).push (seqObj "list" vs.toArray 0)).get? b = some o := fun b o q => by
    have hlt : b < s.heap.objs.size := Heap.lt_size q
    refine ⟨Nat.ne_of_lt (Nat.lt_succ_of_lt hlt), ?_⟩
    rw [Heap.get?_push_ne _ _ _ (by rw [hsz]; exact Nat.ne_of_lt (Nat.lt_succ_of_lt hlt)), Heap.get?_update_ne _ _ _ _ (Nat.ne_of_lt hlt), Heap.get?_push_ne _ _ _ (Nat.ne_of_lt hlt)]
    exact q
  show wpAny _ _ _ _ _ { s with heap := ((s.heap.push (seqObj "list" #[] 0)).update s.heap.objs.size (Obj.mapSeq (· ++ vs.toArray))).push (seqObj "list" vs.toArray 0) }
  rw [hsz]
  refine wpAny_bind (wpAny_holding (wpAny_call_entry slot_list_sort ⟨_, hoL, rfl⟩ entry_list_sort (list_sort_kas hoL h2 h64 hrun (fun s' k Q hq => hk s' (fun b o e => k b o (keep b o e).1 (keep b o e).2) _ Q hq) (fun s' k i j C hi hj hC => hc s' (fun b o e => k b o (keep b o e).1 (keep b o e).2) i j C hi hj hC) ⟨_, rfl, ?_⟩) (args_list_sort _)))
  exact wpAny_pure ⟨_, rfl, h⟩
end
theorem keeps_sortedHeap {h : Heap} {a : Addr} {vs : List Value} {out : Array Value} {b : Addr} {o : Obj} (hb : b ≠ a) (e : h.get? b = some o) : (sortedHeap h a vs out).get? b = some o := by
  unfold sortedHeap
  rw [Heap.get?_update_ne _ _ _ _ hb]
  exact Heap.get?_push_of_some _ (Heap.get?_push_of_some _ (by rw [Heap.get?_update_ne _ _ _ _ hb]; exact e))
theorem sortedHeap_at {h : Heap} {a : Addr} {vs : List Value} {out : Array Value} {n : Nat} (e : h.get? a = some (seqObj "list" vs.toArray n)) : (sortedHeap h a vs out).IsList a out := by
  unfold sortedHeap
  have ha : a < h.objs.size := Heap.lt_size e
  obtain ⟨e1, ho1⟩ : ∃ e1, (h.update a (Obj.mapSeq fun _ => (#[] : Array Value))).get? a = some (seqObj "list" #[] e1) := ⟨_, get?_update_seq e (fun _ => #[])⟩
  have ho6 : (((h.update a (Obj.mapSeq fun _ => (#[] : Array Value))).push (seqObj "tuple" vs.toArray 0)).push (seqObj "list" #[] 0)).get? a = some (seqObj "list" #[] e1) := by
    rw [Heap.get?_push_ne _ _ _ (by rw [size_push', Heap.size_update]; exact Nat.ne_of_lt (Nat.lt_succ_of_lt ha)), Heap.get?_push_ne _ _ _ (by rw [Heap.size_update]; exact Nat.ne_of_lt ha)]
    exact ho1
  exact ⟨_, get?_update_seq ho6 (fun _ => out), rfl, _, rfl⟩
theorem sortedAll_keeps (h : Heap) (vs : List Value) (out : Array Value) : KeepsH h (sortedAll h vs out) := fun b o e => by
  have hlt : b < h.objs.size := Heap.lt_size e
  unfold sortedAll
  refine keeps_sortedHeap (Nat.ne_of_lt (Nat.lt_succ_of_lt hlt)) (Heap.get?_push_of_some _ ?_)
  rw [Heap.get?_update_ne _ _ _ _ (Nat.ne_of_lt hlt)]
  exact Heap.get?_push_of_some _ e
theorem sortedAll_at (h : Heap) (vs : List Value) (out : Array Value) : (sortedAll h vs out).IsList (h.objs.size + 1) out := by
  unfold sortedAll
  refine sortedHeap_at (n := 0) ?_
  have hsz : ((h.push (seqObj "list" #[] 0)).update h.objs.size (Obj.mapSeq (· ++ vs.toArray))).objs.size = h.objs.size + 1 := by
    rw [Heap.size_update, size_push']
  rw [← hsz]; exact Heap.get?_push_size _ rfl
/-- the order in which the sort leaves its items -/
noncomputable def sortD (ds : List D) (p : Array Nat) : List D := p.toList.map fun i => ds.getD i .none
noncomputable def kTup (ds : List D) (i j : Nat) : Bool := match ds.getD i .none, ds.getD j .none with
  | .tup a, .tup b => ltDs a b
  | _, _ => false
theorem reps_firsts {X : Addr → Prop} {h : Heap} : ∀ {vs : List Value} {ts : List (List D)}, Reps X h vs (ts.map .tup) → (∀ t ∈ ts, t ≠ []) → ∃ fs, KatTups h vs fs ∧ fs.length = ts.length ∧ ∀ f ∈ fs, ∃ t ∈ ts, ∃ d ∈ t, Rep X h f d
  | _, [], .nil, _ => ⟨[], KatTups.nil, rfl, fun f hf => by cases hf⟩
  | _, t :: ts, .cons r rs, hne => by
    obtain ⟨fs, k, hl, hf⟩ := reps_firsts rs fun t ht => hne t (.tail _ ht)
    obtain ⟨_, _, rfl, hx, ht, qs⟩ := rep_inv r
    obtain ⟨o, ho, hc, n, hd⟩ := ht
    cases t with
    | nil => exact absurd rfl (hne [] (.head _))
    | cons d t =>
      cases qs with
      | cons q qs =>
        rename_i v us
        refine ⟨v :: fs, KatTups.cons ho hc hd (by simp) k, by simp [hl], fun f hf' => ?_⟩
        rcases List.mem_cons.mp hf' with rfl | hf'
        · exact ⟨d :: t, .head _, d, .head _, q⟩
        · obtain ⟨t', ht', e⟩ := hf f hf'; exact ⟨t', .tail _ ht', e⟩
noncomputable def isKind (T : String) : D → Prop
  | .int _ => T = "int"
  | .bytes _ => T = "bytes"
  | .str _ => T = "str"
  | _ => False
theorem looks_kind {M : Model} {X : Addr → Prop} {h : Heap} {v : Value} {d : D} (T : String) (r : Rep X h v d) (hd : isKind T d) : Looks M h (typeOf v) (.type T) := by
  cases r <;> first | exact hd.elim | (unfold isKind at hd; subst hd; exact Looks.of_pure rfl)
end Mine
end
section
open PySem PySem.W PyProof.Rows PySem.Calls
set_option maxRecDepth 100000
namespace Mine
open SeqAt
section
variable {prog : Program} {w : World} {A : Around} {E : Value → Shared → Prop} {s : Shared}
theorem list_sort_small {a : Addr} {vs : List Value} {n : Nat} {P : PySem.Fin → Shared → Prop} (ho : s.heap.get? a = some (seqObj "list" vs.toArray n)) (h2 : vs.length < 2)
    (h : P (.done (.ret .none)) { s with heap := sortedHeap s.heap a vs vs.toArray }) :
    wpAny (model prog w) A (Builtin.«list.sort» ⟨[.ref a], []⟩) P E s := by
  rw [list_sort_plain]
  have ha : a < s.heap.objs.size := Heap.lt_size ho
  refine wpAny_bind (listItems_at ho rfl ?_)
  refine wpAny_bind (listUpdate_at ho rfl ?_ (by rw [List.size_toArray, sizeLine_eq]; omega) (Nat.zero_le _))
  obtain ⟨e1, ho1⟩ : ∃ e1, (s.heap.update a (Obj.mapSeq fun _ => (#[] : Array Value))).get? a = some (seqObj "list" #[] e1) := ⟨_, get?_update_seq ho (fun _ => #[])⟩
  refine wpAny_bind (seqEpoch_at ho1 rfl ?_)
  refine wpAny_bind (wpAny_newTuple ?_ (by show vs.length ≤ _; rw [sizeLine_eq]; omega))
  refine wpAny_bind (wpAny_newList ?_ (Nat.zero_le _))
  refine wpAny_holding ?_
  have ho6 : (((s.heap.update a (Obj.mapSeq fun _ => (#[] : Array Value))).push (seqObj "tuple" vs.toArray 0)).push (seqObj "list" #[] 0)).get? a = some (seqObj "list" #[] e1) := by
    rw [Heap.get?_push_ne _ _ _ (by rw [size_push', Heap.size_update]; exact Nat.ne_of_lt (Nat.lt_succ_of_lt ha)), Heap.get?_push_ne _ _ _ (by rw [Heap.size_update]; exact Nat.ne_of_lt ha)]
    exact ho1
  show wpAny (model prog w) A _ P E { s with heap := ((s.heap.update a (Obj.mapSeq fun _ => (#[] : Array Value))).push (seqObj "tuple" vs.toArray 0)).push (seqObj "list" #[] 0) }
  dsimp only
  have hn2 : vs.toArray.size < 2 := by rw [List.size_toArray]; omega
  rw [if_pos hn2, if_pos hn2]
  refine wpAny_bind (wpAny_pure ?_)
  rw [StateT.run_pure]
  refine wpAny_bind (wpAny_pure ?_)
  dsimp only
  refine wpAny_bind (seqEpoch_at ho6 rfl ?_)
  have e : (arrOf (SortSt.mk' general' (vs.toArray.zip vs.toArray) #[] 7 none)).map (·.2) = vs.toArray := by
    show (vs.toArray.zip vs.toArray).map (·.2) = _
    apply Array.toList_inj.mp
    simp [List.map_snd_zip]
  rw [e]
  refine wpAny_bind (listUpdate_at ho6 rfl ?_ (Nat.zero_le _) (by rw [List.size_toArray, sizeLine_eq]; omega))
  simp only [bne_self_eq_false, Bool.false_eq_true, if_false]
  exact wpAny_pure h
theorem sorted_small {l : Addr} {vs : List Value} {Q : Value → Shared → Prop} (hl : s.heap.IsList l vs.toArray) (h2 : vs.length < 2)
    (h : Q (.ref (s.heap.objs.size + 1)) { s with heap := sortedAll s.heap vs vs.toArray }) :
    wpAny (model prog w) A (call (.builtin "sorted") [.ref l]) Q E s := by
  refine Calls.call_function_entry kind_sorted plain_sorted entry_sorted (args_sorted1 _) ?_
  unfold Builtin.«sorted»
  refine wpAny_bind (m := checkCount "sorted" 1 1 _) (wpAny_pure ?_)
  refine wpAny_bind (collect_list hl ?_ (by rw [sizeLine_eq]; omega))
  refine wpAny_bind (wpAny_newList ?_ (by rw [sizeLine_eq]; omega))
  have hsz : ((s.heap.push (seqObj "list" #[] 0)).update s.heap.objs.size (Obj.mapSeq (· ++ vs.toArray))).objs.size = s.heap.objs.size + 1 := by
    rw [Heap.size_update, size_push']
  have hoL : (((s.heap.push (seqObj "list" #[] 0)).update s.heap.objs.size (Obj.mapSeq (· ++ vs.toArray))).push (seqObj "list" vs.toArray 0)).get? (s.heap.objs.size + 1) = some (seqObj "list" vs.toArray 0) := by
    rw [← hsz]; exact Heap.get?_push_size _ rfl
  show wpAny _ _ _ _ _ { s with heap := ((s.heap.push (seqObj "list" #[] 0)).update s.heap.objs.size (Obj.mapSeq (· ++ vs.toArray))).push (seqObj "list" vs.toArray 0) }
  rw [hsz]
  refine wpAny_bind (wpAny_holding (wpAny_call_entry slot_list_sort ⟨_, hoL, rfl⟩ entry_list_sort (list_sort_small hoL h2 ⟨_, rfl, ?_⟩) (args_list_sort _)))
  exact wpAny_pure ⟨_, rfl, h⟩
end
theorem Reps.sortD {X : Addr → Prop} {h : Heap} {vs : List Value} {ds : List D} (r : Reps X h vs ds) : ∀ l : List Nat, Reps X h (l.map fun i => vs.getD i Value.none) (l.map fun i => ds.getD i .none)
  | [] => .nil
  | i :: l => by
    refine .cons ?_ (r.sortD l)
    show Rep X h (vs.getD i Value.none) (ds.getD i .none)
    by_cases hi : i < vs.length
    · obtain ⟨d, hd, rd⟩ := r.getV (List.getElem?_eq_getElem hi)
      rw [List.getD, List.getElem?_eq_getElem hi, List.getD, hd]; exact rd
    · rw [List.getD, List.getElem?_eq_none (by omega), List.getD, List.getElem?_eq_none (by rw [← r.length]; omega)]
      exact .none
/-- what the sort of tuples leaves -/
inductive Sorts (ds : List D) : List D → Prop
  | small : ds.length < 2 → Sorts ds ds
  | run {p : Array Nat} : 2 ≤ ds.length → krun ds.length (kTup ds) (kas_sort ds.length) = some p → Sorts ds (sortD ds p)
section
variable {c : Cx} {n : Nat}
theorem fn_sorted_tups {ts : List (List D)} {out : List D} (T : String) (hTt : (Value.type T == Value.type T) = true) (hb : (Value.type T != Value.type "tuple") = true) (hT : ∀ t ∈ ts, ∀ d ∈ t, isKind T d)
    (hne : ∀ t ∈ ts, t ≠ []) (hlike : ∀ t ∈ ts, ∀ u ∈ ts, ∀ x ∈ t, ∀ y ∈ u, likeD 0 x y = true) (h64 : ts.length < 64) (hs : Sorts (ts.map .tup) out) : Fn c n (.builtin "sorted") [.lst (ts.map .tup)] (.lst out) := by
  intro X A E s vs Q R G r hQ
  obtain ⟨v, rfl, q⟩ := reps1 r
  have hu := R.u64
  obtain ⟨_, _, rfl, hx, hl, rs⟩ := rep_inv q
  rename_i l us
  have hlen : us.length = ts.length := by rw [rs.length, List.length_map]
  have hnew : ∀ (vs' : List Value) (o : Array Value), ¬ X (s.heap.objs.size + 1) := fun _ _ q => by
    obtain ⟨o, e⟩ := G.vis _ q
    exact absurd (Heap.lt_size e) (by exact Nat.not_lt.mpr (Nat.le_succ _))
  cases hs with
  | small h =>
    refine sorted_small hl (by rw [hlen]; simpa using h) (hQ _ _ ⟨_, _, rfl, sortedAll_keeps _ _ _⟩ (.lst (hnew [] #[]) (vs := us) (sortedAll_at _ _ _) (rs.keeps (sortedAll_keeps _ _ _))))
  | run h2 hrun =>
    rename_i p
    rw [List.length_map] at h2 hrun
    rw [← hlen] at hrun
    refine sorted_kas hl (by omega) (by omega) hrun (κ := tuples' (Value.type T != Value.type "tuple")) (fun s' k E' Q' hq => ?_) (fun s' k i j C hi hj hC => ?_) (hQ _ _ ⟨_, _, rfl, sortedAll_keeps _ _ _⟩ (.lst (hnew [] #[]) (sortedAll_at _ _ _) ((rs.sortD p.toList).keeps (sortedAll_keeps _ _ _))))
    · obtain ⟨fs, kt, hfl, hf⟩ := reps_firsts (rs.keeps k) hne
      refine kat_kind kt (by omega) (fun f hf' => ?_) hTt hq
      obtain ⟨t, ht, d, hd, rd⟩ := hf f hf'
      exact looks_kind T rd (hT t ht d hd)
    · have rs' := rs.keeps k
      obtain ⟨di, hdi, ri⟩ := rs'.getV (List.getElem?_eq_getElem hi)
      obtain ⟨dj, hdj, rj⟩ := rs'.getV (List.getElem?_eq_getElem hj)
      have hvi : us.getD i Value.none = us[i] := by rw [List.getD, List.getElem?_eq_getElem hi]; rfl
      have hvj : us.getD j Value.none = us[j] := by rw [List.getD, List.getElem?_eq_getElem hj]; rfl
      rw [List.getElem?_map] at hdi hdj
      obtain ⟨ti, hti, rfl⟩ := Option.map_eq_some_iff.mp hdi
      obtain ⟨tj, htj, rfl⟩ := Option.map_eq_some_iff.mp hdj
      have hC' : C (ltDs ti tj) s' := by
        have e : kTup (ts.map .tup) i j = ltDs ti tj := by
          unfold kTup
          simp only [List.getD, List.getElem?_map, hti, htj, Option.map_some, Option.getD_some]
        rw [← e]; exact hC
      unfold kas_ask
      rw [hvi, hvj]
      have mi := List.mem_of_getElem? hti
      have mj := List.mem_of_getElem? htj
      generalize us[i] = vi at ri
      generalize us[j] = vj at rj
      obtain ⟨_, _, rfl, hx1, ht1, qs1⟩ := rep_inv ri
      obtain ⟨_, _, rfl, hx2, ht2, qs2⟩ := rep_inv rj
      obtain ⟨o1, ho1, hc1, n1, hd1⟩ := ht1
      obtain ⟨o2, ho2, hc2, n2, hd2⟩ := ht2
      rw [hb]
      refine kat_lt ho1 hd1 ho2 hd2 ?_
      refine lexD (X := X) (by show A.units + 1 + 1 + 4 < _; omega) 0 qs1 qs2 (hlike ti mi tj mj) ?_ hC'
      rw [List.size_toArray, List.size_toArray, qs1.length, qs2.length]
end
end Mine
end
section
open PySem PySem.W PyProof.Rows PySem.Calls
set_option maxRecDepth 100000
namespace Mine
noncomputable def insI (a : Int) : List Int → List Int
  | [] => [a]
  | b :: l => if a ≤ b then a :: b :: l else b :: insI a l
noncomputable def sortI : List Int → List Int
  | [] => []
  | a :: l => insI a (sortI l)
theorem insI_perm (a : Int) : ∀ l, (insI a l).Perm (a :: l)
  | [] => .refl _
  | b :: l => by
    unfold insI
    split
    · exact .refl _
    · exact ((insI_perm a l).cons b).trans (.swap a b l)
theorem sortI_perm : ∀ l, (sortI l).Perm l
  | [] => .refl _
  | a :: l => (insI_perm a _).trans ((sortI_perm l).cons a)
theorem insI_sorted (a : Int) : ∀ l, l.Pairwise (· ≤ ·) → (insI a l).Pairwise (· ≤ ·)
  | [], _ => by simp [insI]
  | b :: l, h => by
    unfold insI
    have hp := List.pairwise_cons.mp h
    split
    · rename_i hab
      exact List.pairwise_cons.mpr ⟨fun x hx => by
        rcases List.mem_cons.mp hx with rfl | hx
        · exact hab
        · exact Int.le_trans hab (hp.1 x hx), h⟩
    · rename_i hab
      exact List.pairwise_cons.mpr ⟨fun x hx => by
        rcases List.mem_cons.mp ((insI_perm a l).mem_iff.mp hx) with rfl | hx
        · omega
        · exact hp.1 x hx, insI_sorted a l hp.2⟩
theorem sortI_sorted : ∀ l, (sortI l).Pairwise (· ≤ ·)
  | [] => .nil
  | a :: l => insI_sorted a _ (sortI_sorted l)
noncomputable def leS (a b : Str) : Prop := strKind.kle a.cps.toList b.cps.toList
theorem rising_pw : ∀ (l : List Str) (p : Str), risingS p l = true → (p :: l).Pairwise leS
  | [], p, _ => by simp
  | x :: r, p, h => by
    rw [risingS, Bool.and_eq_true] at h
    have ih := rising_pw r x h.2
    have hpx : leS p x := by
      show decide (x.cps.toList < p.cps.toList) = false
      rw [← ltCps_eq]; simpa using h.1
    refine List.pairwise_cons.mpr ⟨fun y hy => ?_, ih⟩
    rcases List.mem_cons.mp hy with rfl | hy
    · exact hpx
    · exact KeyOrd.kle_trans hpx ((List.pairwise_cons.mp ih).1 y hy)
theorem sorted_pw : ∀ (l : List Str), sortedS l = true → l.Pairwise leS
  | [], _ => .nil
  | x :: r, h => rising_pw r x h
theorem leS_anti {a b : Str} (h : leS a b) (k : leS b a) : a = b := by
  have : a.cps.toList = b.cps.toList := KeyOrd.kle_antisymm h k
  cases a; cases b; simp only [Str.mk.injEq]; exact Array.toList_inj.mp this
theorem reps_strs {X : Addr → Prop} {h : Heap} : ∀ {vs : List Value} {ss : List Str}, Reps X h vs (ss.map .str) → StrsAre vs ss
  | _, [], r => by cases r; exact .nil
  | _, n :: ns, r => by
    cases r with
    | cons q rs =>
      obtain ⟨_, rfl⟩ := rep_str_inv q
      exact .cons _ _ (reps_strs rs)
theorem strs_reps {X : Addr → Prop} {h : Heap} : ∀ {vs : List Value} {ss : List Str}, StrsAre vs ss → Reps X h vs (ss.map .str)
  | _, _, .nil => .nil
  | _, _, .cons i t r => .cons (.str i t) (strs_reps r)
section
variable {c : Cx} {n : Nat}
theorem new1 {X : Addr → Prop} {h : Heap} (G : Glo c X h) : ¬ X (h.objs.size + 1) := fun q => by
  obtain ⟨o, e⟩ := G.vis _ q
  exact absurd (Heap.lt_size e) (by exact Nat.not_lt.mpr (Nat.le_succ _))
theorem fn_sorted_ints {ns : List Int} (h64 : ns.length < 64) : Fn c n (.builtin "sorted") [.lst (ns.map .int)] (.lst ((sortI ns).map .int)) := by
  intro X A E s vs Q R G r hQ
  obtain ⟨v, rfl, q⟩ := reps1 r
  obtain ⟨_, _, rfl, hx, hl, rs⟩ := rep_inv q
  refine sorted_ints hl (reps_ints rs) (by rw [ints_len (reps_ints rs)]; exact h64) fun out ns' h1 h2 h3 => ?_
  have e : ns' = sortI ns := List.Perm.eq_of_pairwise (le := (· ≤ ·)) (fun a b _ _ h k => Int.le_antisymm h k) h3 (sortI_sorted ns) (h2.trans (sortI_perm ns).symm)
  subst e
  exact hQ _ _ ⟨_, _, rfl, sortedAll_keeps _ _ _⟩ (.lst (new1 G) (vs := out.toList) (by rw [Array.toArray_toList]; exact sortedAll_at _ _ _) (ints_reps h1))
theorem fn_sorted_strs {ss out : List Str} (h64 : ss.length < 64) (hp : out.Perm ss) (hs : out.Pairwise leS) : Fn c n (.builtin "sorted") [.lst (ss.map .str)] (.lst (out.map .str)) := by
  intro X A E s vs Q R G r hQ
  obtain ⟨v, rfl, q⟩ := reps1 r
  obtain ⟨_, _, rfl, hx, hl, rs⟩ := rep_inv q
  have hlen : ∀ {vs : List Value} {ss : List Str}, StrsAre vs ss → vs.length = ss.length := fun h => by
    induction h with
    | nil => rfl
    | cons _ _ _ ih => simp [ih]
  refine sorted_strs hl (reps_strs rs) (by rw [hlen (reps_strs rs)]; exact h64) fun o ss' h1 h2 h3 => ?_
  have e : ss' = out := List.Perm.eq_of_pairwise (le := leS) (fun a b _ _ h k => leS_anti h k) (sorted_pw _ h3) hs (h2.trans hp.symm)
  subst e
  exact hQ _ _ ⟨_, _, rfl, sortedAll_keeps _ _ _⟩ (.lst (new1 G) (vs := o.toList) (by rw [Array.toArray_toList]; exact sortedAll_at _ _ _) (strs_reps h1))
end
end Mine
end
section
open PySem PySem.W PyProof.Rows PySem.Calls
set_option maxRecDepth 100000
namespace Mine
noncomputable def okD (ds : List D) : Bool := decide (ds.length < 2) || match krun ds.length (kTup ds) (kas_sort ds.length) with
  | some p => p.size == ds.length && p.toList.all fun i => decide (i < ds.length)
  | none => false
noncomputable def srtD (ds : List D) : List D := if ds.length < 2 then ds else sortD ds ((krun ds.length (kTup ds) (kas_sort ds.length)).getD #[])
theorem sorts_of {ds : List D} (h : okD ds = true) : Sorts ds (srtD ds) := by
  unfold srtD
  by_cases h2 : ds.length < 2
  · rw [if_pos h2]; exact .small h2
  · rw [if_neg h2]
    unfold okD at h
    rw [decide_eq_false h2, Bool.false_or] at h
    cases hp : krun ds.length (kTup ds) (kas_sort ds.length) with
    | none => rw [hp] at h; cases h
    | some p => exact .run (by omega) hp
theorem okD_some {ds : List D} (h : okD ds = true) (h2 : ¬ ds.length < 2) : ∃ p, krun ds.length (kTup ds) (kas_sort ds.length) = some p ∧ p.size = ds.length ∧ ∀ i ∈ p.toList, i < ds.length := by
  unfold okD at h
  rw [decide_eq_false h2, Bool.false_or] at h
  cases hp : krun ds.length (kTup ds) (kas_sort ds.length) with
  | none => rw [hp] at h; cases h
  | some p =>
    rw [hp] at h
    simp only [Bool.and_eq_true, beq_iff_eq, List.all_eq_true, decide_eq_true_eq] at h
    exact ⟨p, rfl, h.1, h.2⟩
theorem srtD_len {ds : List D} (h : okD ds = true) : (srtD ds).length = ds.length := by
  unfold srtD
  by_cases h2 : ds.length < 2
  · rw [if_pos h2]
  · rw [if_neg h2]
    obtain ⟨p, hp, hz, _⟩ := okD_some h h2
    rw [hp, Option.getD_some]
    unfold sortD
    rw [List.length_map, Array.length_toList, hz]
theorem srtD_mem {ds : List D} (h : okD ds = true) {d : D} (hd : d ∈ srtD ds) : d ∈ ds := by
  unfold srtD at hd
  by_cases h2 : ds.length < 2
  · rwa [if_pos h2] at hd
  · rw [if_neg h2] at hd
    obtain ⟨p, hp, _, hi⟩ := okD_some h h2
    rw [hp, Option.getD_some] at hd
    obtain ⟨i, hm, rfl⟩ := List.mem_map.mp hd
    have := hi i hm
    rw [List.getD, List.getElem?_eq_getElem this]; exact List.getElem_mem this
/-- outward from the middle: pairs (how far, which) -/
noncomputable def farP (lo mid hi : Int) : List D := (rngData lo (hi + 1)).map fun d => toP (((d.toInt - mid).natAbs : Int), d.toInt)
noncomputable def outP (lo mid hi : Int) : List D := (srtD (farP lo mid hi)).map fun d => .int d.toP2.2
theorem at_outward {c : Cx} (H : FnObj c (stmtAt 21) 255) : ∃ fd, FnAt c 255 fd (bodyOf (stmtAt 21)) [S "row"] ∧ fd.scope = scopeOf (stmtAt 21) :=
  fn_at H _ (fun pm => bind1 (α := Unit) fun a => by rfl) (by decide) (by decide) (by decide) (by decide) rfl rfl rfl rfl
theorem fn_outward {c : Cx} (H : FnObj c (stmtAt 21) 255) (hs : c.mg (S "sorted") = none) (hr : c.mg (S "range") = none) (ha : c.mg (S "abs") = none) {n : Nat} {r0 lo mid hi r4 : Int} (hlo : -3 ≤ lo) (hhi : hi ≤ 3) (hlh : lo ≤ hi) (hok : okD (farP lo mid hi) = true) :
    Fn c (n + 1) (.ref 255) [.lst ([r0, lo, mid, hi, r4].map .int)] (.lst (outP lo mid hi)) := by
  refine fn_of (out := .ret _) (os := []) (at_outward H) rfl ?_
  refine ex_ret (ex1_return ?_)
  have hp : ∀ d ∈ srtD (farP lo mid hi), d = toP d.toP2 := fun d hd => by
    obtain ⟨e, _, rfl⟩ := List.mem_map.mp (srtD_mem hok hd)
    rfl
  have hlen : (rngData lo (hi + 1)).length ≤ 7 := by rw [rngData_len]; omega
  refine ev_compM (α := D) (ρf := []) (l := srtD (farP lo mid hi)) id id (fun _ => rfl) (os := []) (g := fun d => .int d.toP2.2) (tb := fun d => [(S "one", .int d.toP2.2), (S "far", .int d.toP2.1)]) ?S ?src ?asg ?elt ?siz
  case S => exact compSc_of trivial [] rfl
  case src =>
    rw [List.map_id]
    refine src_list (ev_call (ev_builtin rfl hs (by rfl)) (keepF_builtin _) (.cons' (d := .lst (farP lo mid hi)) ?_ .nil) ?_) (.inr ⟨_, _, _, rfl⟩)
    · refine ev_compM (α := D) (ρf := [(S "row", .lst ([r0, lo, mid, hi, r4].map .int))]) (l := rngData lo (hi + 1)) id id (fun _ => rfl) (os := []) (g := fun d => toP (((d.toInt - mid).natAbs : Int), d.toInt)) (tb := fun d => [(S "one", d)]) ?S2 ?src2 ?asg2 ?elt2 ?siz2
      case S2 => exact compSc_of ⟨rfl, trivial⟩ [S "row"] rfl
      case src2 =>
        rw [List.map_id]
        refine src_range (ev_call (ev_builtin rfl hr (by rfl)) (keepF_type _) (.cons' ?_ (.cons' (ev_bin ?_ ev_int bin_add) .nil)) fn_range2) (by intro _ _; rfl) ?_ ?_
        · exact ev_item_list (ds := [r0, lo, mid, hi, r4].map .int) (k := 1) (ev_cell rfl rfl) ev_int (by decide) rfl
        · exact ev_item_list (ds := [r0, lo, mid, hi, r4].map .int) (k := 3) (ev_cell rfl rfl) ev_int (by decide) rfl
        · exact small_one (by omega) (by omega) (by omega) (by omega)
        · unfold Builtin.Range.rangeSize; simp; split <;> omega
      case asg2 => intro d hd; exact asg_name (sto_local rfl (by decide))
      case elt2 =>
        intro d hd
        obtain ⟨i, rfl, h0, h1⟩ := rng_mem hd
        refine ev_tuple (.cons' (ev_call (ev_builtin rfl ha (by rfl)) (keepF_builtin _) (.cons' (ev_bin (ev_local rfl rfl) ?_ bin_sub) .nil) fn_abs) (.cons' (ev_local rfl rfl) .nil))
        exact ev_item_list (ds := [r0, lo, mid, hi, r4].map .int) (k := 2) (ev_cell rfl rfl) ev_int (by decide) rfl
      case siz2 => omega
    · have hform : farP lo mid hi = ((rngData lo (hi + 1)).map fun d => [D.int ((d.toInt - mid).natAbs : Int), D.int d.toInt]).map .tup := by unfold farP; rw [List.map_map]; rfl
      have hso := sorts_of hok
      rw [hform] at hso ⊢
      refine fn_sorted_tups "int" rfl rfl ?_ ?_ ?_ ?_ hso
      · intro t ht d hd
        obtain ⟨e, _, rfl⟩ := List.mem_map.mp ht
        simp at hd; rcases hd with rfl | rfl <;> rfl
      · intro t ht
        obtain ⟨e, _, rfl⟩ := List.mem_map.mp ht
        simp
      · intro t ht u hu x hx y hy
        obtain ⟨e, _, rfl⟩ := List.mem_map.mp ht
        obtain ⟨e', _, rfl⟩ := List.mem_map.mp hu
        simp at hx hy; rcases hx with rfl | rfl <;> rcases hy with rfl | rfl <;> rfl
      · rw [List.length_map]; omega
  case asg => intro d hd; rw [show id d = toP d.toP2 from hp d hd]; exact asg_pair (sto_local rfl (by decide)) (sto_local rfl (by decide))
  case elt => intro d hd; exact ev_local rfl rfl
  case siz => rw [srtD_len hok]; unfold farP; rw [List.length_map]; omega
end Mine
end
section
open PySem PySem.W PyProof.Rows PySem.Calls
set_option maxRecDepth 100000
namespace Mine
noncomputable def smallInts : List Int := [-3, -2, -1, 0, 1, 2, 3]
theorem okFar_all : (smallInts.all fun lo => smallInts.all fun mid => smallInts.all fun hi => okD (farP lo mid hi)) = true := by decide +kernel
theorem mem_ints (l : List Int) (lo : Int) (n : Nat) (hl : ((List.range n).all fun k => l.contains (lo + (k : Int))) = true) {x : Int} (h1 : lo ≤ x) (h2 : x < lo + n) : x ∈ l := by
  have := List.all_eq_true.mp hl (x - lo).toNat (List.mem_range.mpr (by omega))
  rw [Int.toNat_of_nonneg (by omega), List.contains_iff_mem] at this
  rwa [show lo + (x - lo) = x by omega] at this
theorem mem_small {x : Int} (h0 : -3 ≤ x) (h1 : x ≤ 3) : x ∈ smallInts := mem_ints _ (-3) 7 (by decide +kernel) h0 (by omega)
theorem okFar {lo mid hi : Int} (h : -3 ≤ lo ∧ lo ≤ 3) (h' : -3 ≤ mid ∧ mid ≤ 3) (h'' : -3 ≤ hi ∧ hi ≤ 3) : okD (farP lo mid hi) = true :=
  List.all_eq_true.mp (List.all_eq_true.mp (List.all_eq_true.mp okFar_all lo (mem_small h.1 h.2)) mid (mem_small h'.1 h'.2)) hi (mem_small h''.1 h''.2)
end Mine
end
section
open PySem PySem.W PyProof.Rows PySem.Calls
set_option maxRecDepth 100000
namespace Mine
noncomputable abbrev Wd := UInt8 × UInt8 × UInt8 × UInt8
noncomputable def toW (w : Wd) : D := .bytes #[w.1, w.2.1, w.2.2.1, w.2.2.2]
noncomputable def D.toWd : D → Wd
  | .bytes b => (b.getD 0 0, b.getD 1 0, b.getD 2 0, b.getD 3 0)
  | _ => (0, 0, 0, 0)
noncomputable def wayP (w : Wd) (p : P2) : P2 := ((w.2.1.toNat : Int) - (w.2.2.2.toNat : Int) - p.1, (w.2.2.1.toNat : Int) - (w.2.2.2.toNat : Int) - p.2)
theorem fn_wayP {c : Cx} (H : FnObj c (stmtAt 17) 231) {n : Nat} {w : Wd} {p : P2} : Fn c (n + 1) (.ref 231) [toW w, toP p] (toP (wayP w p)) := fn_way H
theorem at_way {c : Cx} (H : FnObj c (stmtAt 17) 231) : ∃ fd, FnAt c 231 fd (bodyOf (stmtAt 17)) [S "word", S "spot"] ∧ fd.scope = scopeOf (stmtAt 17) :=
  fn_at H _ (fun pm => bind2 fun a b => by rfl) (by decide) (by decide) (by decide) (by decide) rfl rfl rfl rfl
theorem at_depth {c : Cx} (H : FnObj c (stmtAt 20) 250) : ∃ fd, FnAt c 250 fd (bodyOf (stmtAt 20)) [S "ways"] ∧ fd.scope = scopeOf (stmtAt 20) :=
  fn_at H _ (fun pm => bind1 (α := Unit) fun a => by rfl) (by decide) (by decide) (by decide) (by decide) rfl rfl rfl rfl
noncomputable def outI (lo mid hi : Int) : List Int := (srtD (farP lo mid hi)).map fun d => d.toP2.2
theorem outP_eq (lo mid hi : Int) : outP lo mid hi = (outI lo mid hi).map .int := by unfold outP outI; rw [List.map_map]; rfl
theorem outI_mem {lo mid hi x : Int} (hok : okD (farP lo mid hi) = true) (hx : x ∈ outI lo mid hi) : lo ≤ x ∧ x ≤ hi := by
  obtain ⟨d, hd, rfl⟩ := List.mem_map.mp hx
  obtain ⟨e, he, rfl⟩ := List.mem_map.mp (srtD_mem hok hd)
  obtain ⟨i, rfl, h0, h1⟩ := rng_mem he
  exact ⟨h0, by show i ≤ hi; omega⟩
/-- outward over a sorted list of five -/
noncomputable def outL (l : List Int) : List Int := outI (l.getD 1 0) (l.getD 2 0) (l.getD 3 0)
noncomputable def okP (ws : List Wd) (x y : Int) : Bool :=
  (decide ((sortI ((ws.map fun w => wayP w (0, 0)).map fun p => p.1 - p.2)).getD 1 0 ≤ x - y) && decide (x - y ≤ (sortI ((ws.map fun w => wayP w (0, 0)).map fun p => p.1 - p.2)).getD 3 0)) && decide (2 ≤ depthP (ws.map fun w => wayP w (x, y)))
noncomputable def spotP (ws : List Wd) : Option P2 :=
  (outL (sortI ((ws.map fun w => wayP w (0, 0)).map fun p => p.1))).findSome? fun x => ((outL (sortI ((ws.map fun w => wayP w (0, 0)).map fun p => p.2))).find? fun y => okP ws x y).map fun y => (x, y)
noncomputable def optD : Option P2 → D
  | some p => toP p
  | none => .none
theorem five {l : List Int} (h : l.length = 5) : ∃ a b c d e, l = [a, b, c, d, e] := by
  match l, h with
  | [a, b, c, d, e], _ => exact ⟨a, b, c, d, e, rfl⟩
noncomputable def outOf (ρ : Loc) : Option D → Out
  | some v => .ret v
  | none => .next ρ
theorem for_fs {α : Type} (f : α → D) (inv : D → α) (hi : ∀ a, inv (f a) = a) (g : α → Option D) (ρ : Loc) : ∀ l : List α, forOut (fun d _ => outOf ρ (g (inv d))) (l.map f) ρ = outOf ρ (l.findSome? g)
  | [] => rfl
  | a :: l => by
    rw [List.map_cons, forOut, List.findSome?_cons, hi]
    cases h : g a
    · exact for_fs f inv hi g ρ l
    · rfl
theorem findSome_map {α β γ : Type} (h : α → Option β) (k : β → γ) : ∀ l : List α, (l.findSome? fun a => (h a).map k) = (l.findSome? h).map k
  | [] => rfl
  | a :: l => by
    rw [List.findSome?_cons, List.findSome?_cons]
    cases e : h a
    · exact findSome_map h k l
    · rfl
theorem find_fs {α β : Type} (p : α → Bool) (k : α → β) : ∀ l : List α, (l.findSome? fun a => if p a then some (k a) else none) = (l.find? p).map k
  | [] => rfl
  | a :: l => by
    rw [List.findSome?_cons, List.find?_cons]
    cases e : p a
    · exact find_fs p k l
    · rfl
theorem sub_refl (ρ : Loc) : ∀ x d, ρ.lookup x = some d → ρ.lookup x = some d := fun _ _ h => h
/-- in the box -/
noncomputable def InBox (ws : List Wd) : Prop := ∀ w ∈ ws, (-3 ≤ (wayP w (0, 0)).1 ∧ (wayP w (0, 0)).1 ≤ 3) ∧ (-3 ≤ (wayP w (0, 0)).2 ∧ (wayP w (0, 0)).2 ≤ 3)
theorem sortI_in {l : List Int} (h : ∀ x ∈ l, -3 ≤ x ∧ x ≤ 3) : ∀ x ∈ sortI l, -3 ≤ x ∧ x ≤ 3 := fun x hx => h x ((sortI_perm l).mem_iff.mp hx)
theorem sortI_len (l : List Int) : (sortI l).length = l.length := (sortI_perm l).length_eq
end Mine
end
section
open PySem PySem.W PyProof.Rows PySem.Calls
set_option maxRecDepth 100000
namespace Mine
theorem fn_outL {c : Cx} (H : FnObj c (stmtAt 21) 255) (hs : c.mg (S "sorted") = none) (hr : c.mg (S "range") = none) (ha : c.mg (S "abs") = none) {n : Nat} {l : List Int} (h5 : l.length = 5) (hso : l.Pairwise (· ≤ ·)) (hin : ∀ x ∈ l, -3 ≤ x ∧ x ≤ 3) :
    Fn c (n + 1) (.ref 255) [.lst (l.map .int)] (.lst ((outL l).map .int)) := by
  obtain ⟨a, b, d, e, f, rfl⟩ := five h5
  have hb := hin b (by simp)
  have hd := hin d (by simp)
  have he := hin e (by simp)
  have hbe : b ≤ e := by simp at hso; omega
  have := fn_outward (n := n) (r0 := a) (lo := b) (mid := d) (hi := e) (r4 := f) H hs hr ha hb.1 he.2 hbe (okFar hb hd he)
  rw [outP_eq] at this
  exact this
theorem outL_in {l : List Int} (h5 : l.length = 5) (hin : ∀ x ∈ l, -3 ≤ x ∧ x ≤ 3) {x : Int} (hx : x ∈ outL l) : -3 ≤ x ∧ x ≤ 3 := by
  obtain ⟨a, b, d, e, f, rfl⟩ := five h5
  have hb := hin b (by simp)
  have hd := hin d (by simp)
  have he := hin e (by simp)
  have := outI_mem (okFar hb hd he) hx
  omega
theorem ev_row {c : Cx} (H : FnObj c (stmtAt 21) 255) (hs : c.mg (S "sorted") = none) (hr : c.mg (S "range") = none) (ha : c.mg (S "abs") = none) (ho : c.mg (S "_law_outward") = some (.ref 255)) {n : Nat} {sc scope : Scope} {ρ : Loc} {sp : List P2} {pos pos2 pos3 p1 p2 p3 p4 p5 p6 p7 : Pos} {f : P2 → Int} {k : Int} {t : Nat}
    (S0 : CompSc sc scope ρ [] []) (hsp : sc.names.lookup (S "spots") = some .local) (hsp' : ρ.lookup (S "spots") = some (.lst (sp.map toP))) (g1 : sc.names.lookup (S "sorted") = some .globalImplicit) (g2 : sc.names.lookup (S "_law_outward") = some .globalImplicit)
    (hx : (relab scope sc).names.lookup (S "spot") = some .local)
    (he : ∀ p ∈ sp, Ev c (n + 1) (relab scope sc) ([(S "spot", toP p)] ++ []) (.Subscript (.Name (S "spot") p1) (.Constant (.int k) t p2) p3) (.int (f p)))
    (h5 : sp.length = 5) (hin : ∀ p ∈ sp, -3 ≤ f p ∧ f p ≤ 3) :
    Ev c (n + 1) sc ρ (.Call (.Name (S "_law_outward") p4) [.Call (.Name (S "sorted") p5) [.ListComp (.Subscript (.Name (S "spot") p1) (.Constant (.int k) t p2) p3) [⟨.Name (S "spot") p6, .Name (S "spots") p7, [], 0⟩] scope pos] [] pos2] [] pos3) (.lst ((outL (sortI (sp.map f))).map .int)) := by
  have hl : ∀ x ∈ sp.map f, -3 ≤ x ∧ x ≤ 3 := fun x hx => by obtain ⟨p, hp, rfl⟩ := List.mem_map.mp hx; exact hin p hp
  refine ev_call (ev_global g2 ho) (keepF_of (at_outward H)) (.cons' (d := .lst ((sortI (sp.map f)).map .int)) ?_ .nil) (fn_outL H hs hr ha (by rw [sortI_len, List.length_map, h5]) (sortI_sorted _) (sortI_in hl))
  refine ev_call (ev_builtin g1 hs (by rfl)) (keepF_builtin _) (.cons' (d := .lst ((sp.map f).map .int)) ?_ .nil) (fn_sorted_ints (by rw [List.length_map, h5]; decide))
  rw [List.map_map]
  exact ev_compM (ρf := []) toP D.toP2 (fun _ => rfl) sp [] (fun p => .int (f p)) (fun p => [(S "spot", toP p)]) S0 (src_list (ev_local hsp hsp') (.inl (by intro _ _; rfl))) (fun p _ => asg_name (sto_local hx (by decide))) he (by omega)
theorem lookup_ext {ρ : Loc} {x : Str} {e : D} (h : ρ.lookup x = none) : ∀ y d, ρ.lookup y = some d → List.lookup y ((x, e) :: ρ) = some d := fun y d hy => by
  rw [lookup_cons_ne (by rintro rfl; rw [h] at hy; cases hy)]; exact hy
theorem ex_one {c : Cx} {n : Nat} {os : List Str} {sc : Scope} {ρ ρ' : Loc} {st : Stmt} {o : Option D} (h : Ex1 c n os sc ρ st (outOf ρ o)) (hw : ∀ y d, ρ'.lookup y = some d → ρ.lookup y = some d) : Ex c n os sc ρ [st] (outOf ρ' o) := by
  cases o with
  | none => exact ex_out (ex_cons h ex_nil) hw
  | some v => exact ex_ret h
theorem outOf_next {ρ ρ' : Loc} {o : Option D} (h : outOf ρ o = .next ρ') : ρ' = ρ := by
  cases o <;> cases h; rfl
noncomputable abbrev spS : Scope := scopeOf (stmtAt 22)
theorem fn_spot {c : Cx} (H : FnObj c (stmtAt 22) 260) (Ho : FnObj c (stmtAt 21) 255) (Hd : FnObj c (stmtAt 20) 250) (Ha : FnObj c (stmtAt 19) 245) (Hc : FnObj c (stmtAt 18) 238) (Hw : FnObj c (stmtAt 17) 231)
    (hs : c.mg (S "sorted") = none) (hr : c.mg (S "range") = none) (ha : c.mg (S "abs") = none) (hl : c.mg (S "len") = none) (hx : c.mg (S "max") = none)
    (ho : c.mg (S "_law_outward") = some (.ref 255)) (hmc : c.mg (S "_law_cross") = some (.ref 238)) (hma : c.mg (S "_law_ahead") = some (.ref 245)) (hmd : c.mg (S "_law_depth") = some (.ref 250)) (hmw : c.mg (S "_law_way") = some (.ref 231))
    {n : Nat} {ws : List Wd} (h5 : ws.length = 5) (hbox : InBox ws) : Fn c (n + 4) (.ref 260) [.lst (ws.map toW)] (optD (spotP ws)) := by
  refine fn_of (n := n + 3) (out := .ret (optD (spotP ws))) (os := [S "x", S "y"]) (names := [S "words"]) (ds := [.lst (ws.map toW)]) (fn_at H _ (fun pm => bind1 (α := Unit) fun a => by rfl) (by decide) (by decide) (by decide) (by decide) rfl rfl rfl rfl) rfl ?_
  obtain ⟨sp, hsp⟩ : ∃ sp, sp = ws.map fun w => wayP w (0, 0) := ⟨_, rfl⟩
  have hsp5 : sp.length = 5 := by rw [hsp, List.length_map, h5]
  have hin : ∀ p ∈ sp, (-3 ≤ p.1 ∧ p.1 ≤ 3) ∧ (-3 ≤ p.2 ∧ p.2 ≤ 3) := fun p hp => by rw [hsp] at hp; obtain ⟨w, hw, rfl⟩ := List.mem_map.mp hp; exact hbox w hw
  have hspt : ws.map (fun w => toP (wayP w (0, 0))) = sp.map toP := by rw [hsp, List.map_map]; rfl
  refine ex_cons (ρ' := [(S "spots", .lst (ws.map (fun w => toP (wayP w (0, 0))))), (S "words", .lst (ws.map toW))]) (ex1_assignCompM (ρf := []) toW D.toWd (fun _ => rfl) ws [] [S "x", S "y"] (fun w => toP (wayP w (0, 0))) (fun w => [(S "word", toW w)]) ?S ?src ?asg ?elt ?siz ?sto ?swp) ?rest
  case S => exact compSc_of trivial [] rfl
  case src => exact src_list (ev_local rfl rfl) (.inl (by intro _ _; rfl))
  case asg => intro w _; exact asg_name (sto_local rfl (by decide))
  case elt => intro w _; exact ev_call (ev_global rfl hmw) (keepF_of (at_way Hw)) (.cons' (ev_local rfl rfl) (.cons' (ev_tuple (.cons' ev_int (.cons' ev_int .nil))) .nil)) (fn_wayP (n := n + 2) (p := (0, 0)) Hw)
  case siz => omega
  case sto => exact sto_local rfl (by decide)
  case swp => exact swap_local rfl rfl rfl rfl
  rw [hspt]
  have hgi : sp.map (fun p => D.int (p.1 - p.2)) = (sp.map fun p => p.1 - p.2).map .int := by rw [List.map_map]; rfl
  obtain ⟨gaps, hgaps⟩ : ∃ gaps, gaps = sortI (sp.map fun p => p.1 - p.2) := ⟨_, rfl⟩
  refine ex_cons (ρ' := [(S "gaps", .lst (gaps.map .int)), (S "spots", .lst (sp.map toP)), (S "words", .lst (ws.map toW))]) (ex1_assign (ev_call (ev_builtin rfl hs (by rfl)) (keepF_builtin _) (.cons' (d := .lst ((sp.map fun p => p.1 - p.2).map .int)) ?gap .nil) (by rw [hgaps]; exact fn_sorted_ints (by rw [List.length_map, hsp5]; decide))) (sto_local rfl (by decide))) ?rest2
  case gap =>
    rw [← hgi]
    refine ev_compM (ρf := []) toP D.toP2 (fun _ => rfl) sp [] (fun p => .int (p.1 - p.2)) (fun p => [(S "y", .int p.2), (S "x", .int p.1)]) ?S ?src ?asg ?elt (by omega)
    case S => exact compSc_of trivial [] rfl
    case src => exact src_list (ev_local rfl rfl) (.inr ⟨_, _, _, rfl⟩)
    case asg => intro p _; exact asg_pair (sto_local rfl (by decide)) (sto_local rfl (by decide))
    case elt => intro p _; exact ev_bin (ev_local rfl rfl) (ev_local rfl rfl) bin_sub
  obtain ⟨g0, g1, g2, g3, g4, hg5⟩ := five (l := gaps) (by rw [hgaps, sortI_len, List.length_map, hsp5])
  obtain ⟨xs, hxs⟩ : ∃ xs, xs = outL (sortI (sp.map fun p => p.1)) := ⟨_, rfl⟩
  obtain ⟨ys, hys⟩ : ∃ ys, ys = outL (sortI (sp.map fun p => p.2)) := ⟨_, rfl⟩
  have hspot : spotP ws = xs.findSome? fun x => (ys.find? fun y => okP ws x y).map fun y => (x, y) := by unfold spotP; rw [hxs, hys, hsp]
  have hxin : ∀ x ∈ xs, -3 ≤ x ∧ x ≤ 3 := fun x hx => outL_in (by rw [sortI_len, List.length_map, hsp5]) (sortI_in fun x hx => by obtain ⟨p, hp, rfl⟩ := List.mem_map.mp hx; exact (hin p hp).1) (by rw [← hxs]; exact hx)
  have hyin : ∀ y ∈ ys, -3 ≤ y ∧ y ≤ 3 := fun y hy => outL_in (by rw [sortI_len, List.length_map, hsp5]) (sortI_in fun x hx => by obtain ⟨p, hp, rfl⟩ := List.mem_map.mp hx; exact (hin p hp).2) (by rw [← hys]; exact hy)
  obtain ⟨ρ0, hρ⟩ : ∃ ρ0 : Loc, ρ0 = [(S "gaps", .lst (gaps.map .int)), (S "spots", .lst (sp.map toP)), (S "words", .lst (ws.map toW))] := ⟨_, rfl⟩
  have hfor : Ex1 c (n + 3) [S "x", S "y"] spS ρ0 ((bodyOf (stmtAt 22))[2]) (outOf ρ0 ((spotP ws).map toP)) := by
    rw [hspot, ← findSome_map, ← for_fs D.int D.toInt (fun _ => rfl)]
    refine ex1_for _ (fun r ρ => ρ = ρ0 ∧ ∀ d ∈ r, ∃ x, d = .int x ∧ -3 ≤ x ∧ x ≤ 3) (src_list ?row (.inl (by intro _ _; rfl))) ⟨rfl, fun d hd => by obtain ⟨x, hx, rfl⟩ := List.mem_map.mp hd; exact ⟨x, rfl, hxin x hx⟩⟩ ?turn
    case row =>
      subst hρ; rw [hxs]
      exact ev_row Ho hs hr ha ho (compSc_of trivial [] rfl) rfl rfl rfl rfl rfl (fun p _ => ev_fst (ev_local rfl rfl) ev_int) hsp5 (fun p hp => (hin p hp).1)
    case turn =>
      intro d r ρ ⟨hρ', hd⟩
      subst hρ'
      obtain ⟨x, rfl, hx0, hx1⟩ := hd d (.head _)
      refine ⟨⟨[(S "x", .int x)], asg_name (sto_cell rfl (by decide)), ?_⟩, fun ρ' hn => ?_⟩
      · have hg : (((ys.find? fun y => okP ws x y).map fun y => (x, y)).map toP) = ys.findSome? fun y => if okP ws x y then some (toP (x, y)) else none := by
          rw [find_fs, Option.map_map]; rfl
        show Ex c (n + 3) _ spS _ _ (outOf ρ (((ys.find? fun y => okP ws x y).map fun y => (x, y)).map toP))
        rw [hg]
        refine ex_one ?_ (lookup_ext (by rw [hρ]; rfl))
        show Ex1 c (n + 3) _ spS ((S "x", .int x) :: ρ) _ _
        rw [← for_fs D.int D.toInt (fun _ => rfl)]
        refine ex1_for _ (fun r ρ' => ρ' = (S "x", .int x) :: ρ ∧ ∀ d ∈ r, ∃ x, d = .int x ∧ -3 ≤ x ∧ x ≤ 3) (src_list ?row2 (.inl (by intro _ _; rfl))) ⟨rfl, fun d hd => by obtain ⟨x, hx, rfl⟩ := List.mem_map.mp hd; exact ⟨x, rfl, hyin x hx⟩⟩ ?turn2
        case row2 =>
          subst hρ; rw [hys]
          exact ev_row Ho hs hr ha ho (compSc_of trivial [] rfl) rfl rfl rfl rfl rfl (fun p _ => ev_snd (ev_local rfl rfl) ev_int) hsp5 (fun p hp => (hin p hp).2)
        case turn2 =>
          intro d r' ρ'' ⟨hρ'', hd'⟩
          subst hρ''
          obtain ⟨y, rfl, hy0, hy1⟩ := hd' d (.head _)
          refine ⟨⟨[(S "y", .int y)], asg_name (sto_cell rfl (by decide)), ?_⟩, fun ρ' hn => ?_⟩
          · have hok : okP ws x y = ((decide (gaps.getD 1 0 ≤ x - y) && decide (x - y ≤ gaps.getD 3 0)) && decide (2 ≤ depthP (ws.map fun w => wayP w (x, y)))) := by unfold okP; rw [hgaps, hsp]
            show Ex c (n + 3) _ spS ((S "y", .int y) :: (S "x", .int x) :: ρ) _ (outOf ((S "x", .int x) :: ρ) (if okP ws x y then some (toP (x, y)) else none))
            rw [hok]
            subst hρ
            refine ex_one (ρ := (S "y", .int y) :: (S "x", .int x) :: _) ?_ (lookup_ext rfl)
            refine ex1_if (b := decide (gaps.getD 1 0 ≤ x - y) && decide (x - y ≤ gaps.getD 3 0)) ?tst (fun hb => ?yes) (fun hb => ?no)
            case tst =>
              subst hg5
              refine tst_chain2 ?_ (ev_bin (ev_cell rfl rfl) (ev_cell rfl rfl) bin_sub) (fun _ => ?_) cmp_le (fun _ => cmp_le)
              · exact ev_item_list (ds := [g0, g1, g2, g3, g4].map .int) (k := 1) (ev_local rfl rfl) ev_int (by decide) rfl
              · exact ev_item_list (ds := [g0, g1, g2, g3, g4].map .int) (k := 3) (ev_local rfl rfl) ev_int (by decide) rfl
            case no => rw [hb, Bool.false_and]; exact ex_nil
            case yes =>
              rw [hb, Bool.true_and]
              refine ex_one ?_ (sub_refl _)
              have hsm : ∀ w ∈ ws.map (fun w => wayP w (x, y)), Sm w := fun p hp => by
                obtain ⟨w, hw, rfl⟩ := List.mem_map.mp hp
                have hb := hbox w hw
                simp only [wayP, Int.sub_zero] at hb
                refine ⟨?_, ?_, ?_, ?_⟩ <;> simp only [wayP] <;> omega
              refine ex1_if (b := decide (2 ≤ depthP (ws.map fun w => wayP w (x, y)))) (tst_cmp (ev_call (ev_global rfl hmd) (keepF_of (at_depth Hd)) (.cons' ?ways .nil) (fn_depth (n := n) Hd Ha Hc hmc hma hl hx hsm (by rw [List.length_map, h5]; decide))) ev_int cmp_ge) (fun hb => ?yes2) (fun hb => ?no2)
              case ways =>
                rw [List.map_map]
                refine ev_compM (ρf := [(S "x", .int x), (S "y", .int y)]) toW D.toWd (fun _ => rfl) ws [] (fun w => toP (wayP w (x, y))) (fun w => [(S "word", toW w)]) ?S ?src ?asg ?elt (by omega)
                case S => exact compSc_of ⟨rfl, rfl, trivial⟩ [S "x", S "y"] rfl
                case src => exact src_list (ev_local rfl rfl) (.inl (by intro _ _; rfl))
                case asg => intro w _; exact asg_name (sto_local rfl (by decide))
                case elt => intro w _; exact ev_call (ev_global rfl hmw) (keepF_of (at_way Hw)) (.cons' (ev_local rfl rfl) (.cons' (ev_tuple (.cons' (ev_cell rfl rfl) (.cons' (ev_cell rfl rfl) .nil))) .nil)) (fn_wayP (n := n + 2) (p := (x, y)) Hw)
              case yes2 => rw [hb]; exact ex_ret (ex1_return (ev_tuple (.cons' (ev_cell rfl rfl) (.cons' (ev_cell rfl rfl) .nil))))
              case no2 => rw [hb]; exact ex_nil
          · exact ⟨outOf_next hn, fun d hd => hd' d (.tail _ hd)⟩
      · exact ⟨outOf_next hn, fun d hd' => hd d (.tail _ hd')⟩
  rw [← hρ]
  cases hc : spotP ws with
  | none =>
    rw [hc] at hfor
    exact ex_cons hfor (ex_ret ex1_returnNone)
  | some p =>
    rw [hc] at hfor
    exact ex_ret hfor
end Mine
end
section
open PySem PySem.W PyProof.Rows PySem.Calls
set_option maxRecDepth 100000
namespace Mine
section
variable {c : Cx} {n : Nat} {os : List Str} {sc : Scope}
theorem ex1_while {test : PySem.Expr} {body : List Stmt} {pos : Pos} (ρs : Nat → Loc) (k : Nat) (hy : ∀ i, i < k → Tst c n sc (ρs i) test true ∧ Ex c n os sc (ρs i) body (.next (ρs (i + 1)))) (hn : Tst c n sc (ρs k) test false) :
    Ex1 c n os sc (ρs 0) (.While test body [] pos) (.next (ρs k)) := by
  intro X A E s env ow h₀ Q R B he F hQ
  refine wpAny_While (codeAny_whileLoop (fun m s' => ∃ i, i ≤ k ∧ m = k - i ∧ Moved env ow s s' ∧ Base c X os h₀ s' env ow ∧ FrameOK X s' env (ρs i)) ?_ k ⟨0, Nat.zero_le _, rfl, Moved.of_keeps (keeps_refl s), B, F⟩)
  rintro m s' ⟨i, hi, rfl, mv, B', F'⟩
  by_cases hik : i < k
  · obtain ⟨ht, hb⟩ := hy i hik
    refine ht X A _ s' env _ R B'.gl he F' fun s₂ k₂ => ?_
    simp only [if_true]
    refine hb X A _ s₂ env ow h₀ _ R (B'.more (keeps_heap k₂)) he (F'.keeps (keeps_heap k₂)) fun f s₃ mv₃ B₃ ho => ?_
    obtain ⟨rfl, F₃⟩ := ho
    exact ⟨k - (i + 1), by omega, i + 1, by omega, rfl, (mv.trans (Moved.of_keeps k₂)).trans mv₃, B₃, F₃⟩
  · have : i = k := by omega
    subst this
    refine hn X A _ s' env _ R B'.gl he F' fun s₂ k₂ => ?_
    simp only [Bool.false_eq_true, if_false]
    refine wpAny_execs_nil ?_
    exact hQ .next s₂ (mv.trans (Moved.of_keeps k₂)) (B'.more (keeps_heap k₂)) ⟨rfl, F'.keeps (keeps_heap k₂)⟩
theorem bin_add_bytes {b d : Array UInt8} (hz : b.size + d.size ≤ 16777216) : Bin c n .Add (.bytes b) (.bytes d) (.bytes (b ++ d)) := by
  intro X A E s v₁ v₂ Q R G r₁ r₂ h
  obtain ⟨_, rfl⟩ := rep_inv r₁; obtain ⟨_, rfl⟩ := rep_inv r₂
  exact KBy.add_bytes hz fun t' k => h _ _ (keeps_tok s _) (.bytes _ _)
end
end Mine
end
section
open PySem PySem.W PyProof.Rows PySem.Calls
set_option maxRecDepth 100000
namespace Mine
theorem tst_as {c : Cx} {n : Nat} {sc : Scope} {ρ : Loc} {e : PySem.Expr} {b b' : Bool} (h : Tst c n sc ρ e b) (hb : b = b') : Tst c n sc ρ e b' := hb ▸ h
theorem ev_as {c : Cx} {n : Nat} {sc : Scope} {ρ : Loc} {e : PySem.Expr} {b b' : D} (h : Ev c n sc ρ e b) (hb : b = b') : Ev c n sc ρ e b' := hb ▸ h
noncomputable def APb : Array UInt8 := #[65, 66, 67, 68, 69, 70, 71, 72, 73, 74, 75, 76, 77, 78, 79, 80]
/-- the low i figures to the base 16 -/
noncomputable def apV (num : Nat) : Nat → Array UInt8
  | 0 => #[]
  | i + 1 => #[UInt8.ofNat (65 + num / 16 ^ i % 16)] ++ apV num i
theorem apV_size (num : Nat) : ∀ i, (apV num i).size = i
  | 0 => rfl
  | i + 1 => by rw [apV, Array.size_append, apV_size num i]; simp; omega
theorem AP_pick : (List.range 16).all (fun m => KBy.picked APb (some (m : Int)) (some ((m : Int) + 1)) == #[UInt8.ofNat (65 + m)]) = true := by decide +kernel
noncomputable def apR (num i : Nat) : Loc := [(S "val", .bytes (apV num i)), (S "num", .int ((num / 16 ^ i : Nat) : Int)), (S "AP", .bytes APb)]
noncomputable abbrev apS : Scope := scopeOf (stmtAt 12)
theorem at_ap {c : Cx} (H : FnObj c (stmtAt 12) 205) : ∃ fd, FnAt c 205 fd (bodyOf (stmtAt 12)) [S "num"] ∧ fd.scope = scopeOf (stmtAt 12) :=
  fn_at H _ (fun pm => bind1 (α := Unit) fun a => by rfl) (by decide) (by decide) (by decide) (by decide) rfl rfl rfl rfl
theorem fn_ap {c : Cx} (H : FnObj c (stmtAt 12) 205) (hi : c.mg (S "int") = none) (ha : c.mg (S "abs") = none) (hd : c.mg (S "divmod") = none) {n num k : Nat} (hk : k ≤ 100) (h1 : num / 16 ^ k = 0) (h0 : ∀ i, i < k → num / 16 ^ i ≠ 0) :
    Fn c (n + 1) (.ref 205) [.int num] (.bytes (apV num k)) := by
  refine fn_of (out := .ret _) (os := []) (at_ap H) rfl ?_
  refine ex_cons (ex1_assign ev_bytes (sto_local rfl (by decide))) (ex_cons (ex1_assign ev_bytes (sto_local rfl (by decide))) (ex_cons (ρ' := (S "num", .int ((num : Int).natAbs : Int)) :: (S "AP", .bytes APb) :: (S "val", .bytes #[]) :: [S "num"].zip [.int (num : Int)]) (ex1_assign (ev_call (ev_builtin rfl hi (by rfl)) (keepF_type _) (.cons' (ev_call (ev_builtin rfl ha (by rfl)) (keepF_builtin _) (.cons' (ev_local rfl rfl) .nil) fn_abs) .nil) fn_int_int) (sto_local rfl (by decide))) (ex_weak (ρ' := apR num 0) ?_ (fun x d hx => SubL.at (ρf := apR num 0) ⟨rfl, by simp, rfl, trivial⟩ hx))))
  refine ex_cons (ρ' := apR num k) (ex1_while (apR num) k (fun i hi' => ⟨?tst, ?bod⟩) ?fin) (ex_ret (ex1_return (ev_local rfl rfl)))
  case tst => exact tst_as (tst_plain (ev_local rfl rfl) tru_int) (by have := h0 i hi'; rw [bne_iff_ne]; exact fun e => this (Int.ofNat_eq_zero.mp e))
  case fin => exact tst_as (tst_plain (ev_local rfl rfl) tru_int) (by rw [h1]; rfl)
  case bod =>
    have hm : num / 16 ^ i % 16 < 16 := Nat.mod_lt _ (by decide)
    refine ex_cons (ρ' := (S "mod", .int ((num / 16 ^ i % 16 : Nat) : Int)) :: (S "num", .int ((num / 16 ^ (i + 1) : Nat) : Int)) :: apR num i) (ex1_assignTup (bs := [(S "mod", .int ((num / 16 ^ i % 16 : Nat) : Int)), (S "num", .int ((num / 16 ^ (i + 1) : Nat) : Int))]) (ev_call (ev_builtin rfl hd (by rfl)) (keepF_builtin _) (.cons' (ev_local rfl rfl) (.cons' ev_int .nil)) ?dm) (asg_pair (sto_local rfl (by decide)) (sto_local rfl (by decide))) (fun _ _ _ _ _ _ h => PyProof.Rows.Assign_Tuple h)) ?rest
    case dm =>
      have := fn_divmod (c := c) (n := n) (a := ((num / 16 ^ i : Nat) : Int)) (b := 16) (by decide) (PyProof.noPylong_small (by decide))
      rw [Int.fdiv_eq_ediv_of_nonneg _ (by decide), Int.fmod_eq_emod_of_nonneg _ (by decide)] at this
      rw [show ((num / 16 ^ (i + 1) : Nat) : Int) = ((num / 16 ^ i : Nat) : Int) / 16 by rw [Nat.pow_succ, ← Nat.div_div_eq_div_mul]; rfl]
      exact this
    case rest =>
      refine ex_out (ρ₁ := (S "val", .bytes (apV num (i + 1))) :: (S "mod", .int ((num / 16 ^ i % 16 : Nat) : Int)) :: (S "num", .int ((num / 16 ^ (i + 1) : Nat) : Int)) :: apR num i) (ex_cons (ex1_assign (ev_bin (d₁ := .bytes #[UInt8.ofNat (65 + num / 16 ^ i % 16)]) (d₂ := .bytes (apV num i)) ?pick (ev_local rfl rfl) (bin_add_bytes (by rw [apV_size]; simp; omega))) (sto_local rfl (by decide))) ex_nil) (fun x d hx => SubL.at (ρf := apR num (i + 1)) ⟨rfl, rfl, rfl, trivial⟩ hx)
      have hp := List.all_eq_true.mp AP_pick _ (List.mem_range.mpr hm)
      rw [← eq_of_beq hp]
      exact ev_slice_bytes (b := APb) (ev_local rfl rfl) (pe_some (ev_local rfl rfl)) (pe_some (ev_bin (ev_local rfl rfl) ev_int bin_add))
end Mine
end
section
open PySem PySem.W PyProof.Rows PySem.Calls
set_option maxRecDepth 10000
namespace Mine
section
variable {c : Cx} {n : Nat} {sc : Scope} {ρ : Loc} {pos : Pos} {d : D}
theorem callWith_raw {f : Value} {first : List Value} {es : List PySem.Expr} {ds : List D} (hf : KeepF c f) (h : EvAll c n sc ρ es ds)
    (X : Addr → Prop) (A : Around) (E : Value → Shared → Prop) (s : Shared) (env : Env) (Q : Value → Shared → Prop) (R : Room n A) (G : Glo c X s.heap) (he : env.scope = sc) (F : FrameOK X s env ρ)
    (hc : ∀ s₁ vs, Keeps s s₁ → Reps X s₁.heap vs ds → wpAny c.M A (call f (first ++ vs)) Q E s₁) : wpAny c.M A (callWith pos f first (backTo pos (starEach es env)) (backToKw pos [])) Q E s := by
  refine callWith_of (P := fun h => c.K.In h) (by rw [back_any h env]; rfl) hf ?_
  cases h with
  | nil =>
    refine evalArgs_nil3 ⟨G.k, ?_⟩
    have := hc s [] (keeps_refl s) .nil
    simpa using this
  | cons hd hs hr =>
    have h' : EvAll c n sc ρ _ _ := .cons hd hs hr
    rw [hs]
    refine evalArgs_plain ?_
    have := spliced_all (pos := pos) h' X A E s env (fun vs s₁ => c.K.In s₁.heap ∧ wpAny c.M A (call f (first ++ vs) []) Q E s₁) R G he F fun vs s₁ k₁ r₁ => ⟨(G.keeps (keeps_heap k₁)).k, hc s₁ vs k₁ r₁⟩
    rw [hs] at this
    exact this
noncomputable def enumD (ds : List D) : List D := ds.zipIdx.map fun p => .tup [.int p.2, p.1]
theorem enumD_get {ds : List D} {i : Nat} {d : D} (h : (enumD ds)[i]? = some d) : ∃ x, ds[i]? = some x ∧ d = .tup [.int i, x] := by
  unfold enumD at h
  rw [List.getElem?_map] at h
  obtain ⟨p, hp, rfl⟩ := Option.map_eq_some_iff.mp h
  rw [List.getElem?_zipIdx] at hp
  obtain ⟨x, hx, rfl⟩ := Option.map_eq_some_iff.mp hp
  exact ⟨x, hx, by simp⟩
theorem enumD_len (ds : List D) : (enumD ds).length = ds.length := by simp [enumD]
theorem itr_enum {X : Addr → Prop} {A : Around} {es : List PySem.Expr} {k : Nat} {pt : Pos} {hb : Heap} {e it l : Addr} {vs : List Value} {ds : List D} (hh : A.handled = none) (hei : e ≠ it) (hle : l ≠ e) (hli : l ≠ it) (he : e < hb.objs.size) (hi : it < hb.objs.size)
    (hl : hb.IsList l vs.toArray) (r : Reps X hb vs ds) : Itr c X A (.Tuple es k pt) hb e [e, it, l] [e, it] (enumD ds) (fun i h => (∃ old, IsEnum h e it i old) ∧ h.IsListIter it l i ∧ h.IsList l vs.toArray) where
  sub := fun b hb => by simp at hb; rcases hb with rfl | rfl <;> simp
  old := fun b hb' => by
    simp at hb'
    rcases hb' with rfl | rfl | rfl
    · exact he
    · exact hi
    · obtain ⟨o, x, _⟩ := hl; exact Heap.lt_size x
  live := fun i h st b hb' => by
    obtain ⟨⟨old, he⟩, hit, hl⟩ := st
    simp at hb'
    rcases hb' with rfl | rfl
    · exact ⟨_, he, rfl, fun v q => by cases q⟩
    · obtain ⟨o, x, hc, hd⟩ := hit
      exact ⟨o, x, by unfold Dat; rw [hd]; dsimp only; rw [hc]; decide, fun v q => by rw [hd] at q; cases q⟩
  away := fun i h st b hb' => by
    obtain ⟨_, _, o, x, _, k, hd⟩ := st
    simp at hb'
    rcases hb' with rfl | rfl | rfl
    · exact .inl (by simp)
    · exact .inl (by simp)
    · exact .inr ⟨o, x, dat_seq hd⟩
  frame := fun i h h' hst hk => by
    obtain ⟨⟨old, he⟩, hit, hl⟩ := hst
    exact ⟨⟨old, hk e (by simp) _ he⟩, hit.at fun o x => hk it (by simp) o x, hl.at fun o x => hk l (by simp) o x⟩
  item := fun i s d Q E hd st sq V hQ => by
    obtain ⟨x, hx, rfl⟩ := enumD_get hd
    obtain ⟨v, hv, rv⟩ := r.get hx
    obtain ⟨⟨old, he⟩, hit, hl⟩ := st
    have helt : e < s.heap.objs.size := Heap.lt_size he
    have hilt : it < s.heap.objs.size := by obtain ⟨_, x, _⟩ := hit; exact Heap.lt_size x
    have hllt : l < s.heap.objs.size := by obtain ⟨_, x, _⟩ := hl; exact Heap.lt_size x
    refine wpAny_pyNext_enum_item he hit hl (x := v) (by simpa using hv) hei fun h' ho hit' hT hsz hk => ⟨_, rfl, ?_⟩
    refine wpAny_letOwnedTupleGo_enum ho fun h'' he' hs' => ?_
    have hT' : h''.get? s.heap.objs.size = _ := (hs'.2 _ (Nat.ne_of_gt helt)).trans hT
    have kk : ∀ b o, b ∉ [e, it] → s.heap.get? b = some o → h''.get? b = some o := fun b o hb y =>
      (hs'.2 b fun e' => hb (by simp [e'])).trans (hk b o (fun e' => hb (by simp [e'])) (fun e' => hb (by simp [e'])) y)
    refine hQ _ h'' (s.toks + 1) (.tup (fun q => ?_) (vs := [.int i s.toks, v]) ⟨_, hT', rfl, _, rfl⟩ (.cons (.int _ _) (.cons ((rv.seqs sq).seqs fun a o _ y hda => kk a o (fun hm => ?_) y) .nil))) ⟨⟨v, by simpa using he'⟩, hit'.at fun o y => (hs'.2 it hei.symm).trans y, hl.at fun o y => kk l o (by simp [hle, hli]) y⟩ kk
    · obtain ⟨o, y⟩ := V _ q
      exact Nat.lt_irrefl _ (Heap.lt_size y)
    · simp at hm
      rcases hm with rfl | rfl
      · rw [he] at y; cases y; exact absurd hda (show ¬ ((Value.type "enumerate" == Value.type "range" || Value.type "enumerate" == Value.type "re.Match") = true) by decide)
      · obtain ⟨o', y', hc, hd⟩ := hit
        rw [y] at y'; cases y'
        unfold Dat at hda
        rw [hd] at hda
        dsimp only at hda
        rw [hc] at hda
        exact absurd hda (by decide)
  done := fun s Q E hst hQ => by
    obtain ⟨⟨old, he⟩, hit, hl⟩ := hst
    rw [enumD_len, ← r.length] at he hit
    exact wpAny_pyNext_enum_end hh he hit hl (Array.getElem?_eq_none (by simp)) fun h' hx => hQ h' s.toks fun b o hb y => hx b o (fun e' => hb (by simp [e'])) y
  self := fun i s Q E hst hQ => by
    obtain ⟨⟨old, he⟩, _, _⟩ := hst
    exact wpAny_pyIter_enum he hQ
theorem src_enum {p : Pos} {id : Str} {e : PySem.Expr} {ds : List D} {es : List PySem.Expr} {k : Nat} {pt : Pos} (hn : EvV c n sc ρ (.Name id p) (.type "enumerate")) (h : Ev c n sc ρ e (.lst ds)) (hst : EvAll c n sc ρ [e] [.lst ds]) : Srcs c n sc ρ (.Call (.Name id p) [e] [] pos) (.Tuple es k pt) (enumD ds) := by
  intro X A E s env Q R G he F hQ
  refine wpAny_Call_Name_kw (hn X A E s env _ R G he F fun s₀ k₀ => ?_)
  refine callWith_raw (first := []) (keepF_type _) hst X A E s₀ env _ R (G.keeps (keeps_heap k₀)) he (F.keeps (keeps_heap k₀)) fun s₁ vs k₁ rs => ?_
  obtain ⟨v, rfl, q⟩ := reps1 rs
  have k01 := keeps_trans k₀ k₁
  obtain ⟨_, _, rfl, hx, hl, rs⟩ := rep_inv q
  rename_i l us _
  have hlt : l < s₁.heap.objs.size := by obtain ⟨o, y, _⟩ := hl; exact Heap.lt_size y
  refine call_enumerate_list hl fun h' he' hit' hsz hk => ?_
  refine wpAny_pyIter_enum he' ?_
  refine hQ _ _ _ _ _ (keeps_trans k01 ⟨h', s₁.toks, rfl, hk⟩) (fun Y hY => itr_enum R.handled (by exact Nat.ne_of_gt (Nat.lt_succ_self _)) (Nat.ne_of_lt (Nat.lt_succ_of_lt hlt)) (Nat.ne_of_lt hlt) (by rw [hsz]; exact Nat.lt_succ_self _) (by rw [hsz]; exact Nat.lt_succ_of_lt (Nat.lt_succ_self _)) (hl.at fun o y => hk l o y) ((rs.keeps hk).avoid hY)) ⟨⟨.none, he'⟩, hit', hl.at fun o y => hk l o y⟩ fun b hb => ?_
  simp at hb
  rcases hb with rfl | rfl
  · exact none_old (keeps_heap k01) (Heap.get?_none_of_le (Nat.le_succ _))
  · exact none_old (keeps_heap k01) (none_new _)
end
end Mine
end
section
open PySem PySem.W PyProof.Rows PySem.Calls
set_option maxRecDepth 100000
namespace Mine
theorem pickD_mem {ds : List D} {lo hi st : Option Int} {d : D} (h : d ∈ pickD ds lo hi st) : d ∈ ds := by
  unfold pickD at h
  obtain ⟨i, _, hi'⟩ := List.mem_filterMap.mp h
  exact List.mem_of_getElem? hi'
noncomputable def enP (p : D × Nat) : D := .tup [.int p.2, p.1]
noncomputable def D.toEn : D → D × Nat
  | .tup [.int i, x] => (x, i.toNat)
  | _ => (.none, 0)
noncomputable def onceP (ds : List D) (p : D × Nat) : Bool := !((pickD ds none (some (p.2 : Int)) none).any fun y => eqD y p.1)
noncomputable def onceL (ds : List D) : List D := (ds.zipIdx.filter (onceP ds)).map (·.1)
noncomputable abbrev onS : Scope := scopeOf (stmtAt 23)
theorem at_once {c : Cx} (H : FnObj c (stmtAt 23) 265) : ∃ fd, FnAt c 265 fd (bodyOf (stmtAt 23)) [S "row"] ∧ fd.scope = scopeOf (stmtAt 23) :=
  fn_at H _ (fun pm => bind1 (α := Unit) fun a => by rfl) (by decide) (by decide) (by decide) (by decide) rfl rfl rfl rfl
theorem fn_once {c : Cx} (H : FnObj c (stmtAt 23) 265) (hs : c.mg (S "sorted") = none) (he : c.mg (S "enumerate") = none) {n : Nat} {ds out : List D} {k : Nat} (hk : k ≤ 10) (hlike : ∀ x ∈ ds, ∀ y ∈ ds, likeD k x y = true) (hz : ds.length ≤ 100)
    (hsort : Fn c n (.builtin "sorted") [.lst (onceL ds)] (.lst out)) : Fn c (n + 1) (.ref 265) [.lst ds] (.lst out) := by
  refine fn_of (out := .ret _) (os := []) (at_once H) rfl ?_
  refine ex_ret (ex1_return (ev_call (ev_builtin rfl hs (by rfl)) (keepF_builtin _) (.cons' (d := .lst (onceL ds)) ?_ .nil) hsort))
  refine ev_compT (α := D × Nat) (ρf := [(S "row", .lst ds)]) enP D.toEn (fun _ => rfl) ds.zipIdx [] (onceP ds) (·.1) (fun p => [(S "one", p.1), (S "place", .int p.2)]) ?S ?src ?asg ?tst ?elt (by simp; omega)
  case S => exact compSc_of ⟨rfl, trivial⟩ [S "row"] rfl
  case src => exact src_enum (ev_builtin rfl he (by rfl)) (ev_cell rfl rfl) (.cons' (ev_cell rfl rfl) .nil)
  case asg => intro p _; exact asg_pair (sto_local rfl (by decide)) (sto_local rfl (by decide))
  case elt => intro p _ _; exact ev_local rfl rfl
  case tst =>
    intro p hp
    have hpm : p.1 ∈ ds := by
      obtain ⟨x, i⟩ := p
      exact List.fst_mem_of_mem_zipIdx hp
    exact .one (tst_cmp (ev_local rfl rfl) (ev_slice_list (ds := ds) (lo := none) (hi := some (p.2 : Int)) (st := none) (ev_cell rfl rfl) pe_none (pe_some (ev_local rfl rfl)) pe_none (by decide) (by rw [sizeLine_eq]; omega)) (cmp_notin_lst (k := k) (fun d hd => hlike d (pickD_mem hd) _ hpm) (fun x hx y hy => hlike x (pickD_mem hx) y (pickD_mem hy)) hk))
end Mine
end
section
open PySem PySem.W PyProof.Rows PySem.Calls
set_option maxRecDepth 100000
namespace Mine
theorem lst_at {α : Type} (f : α → D) (l : List α) (d : α) {i : Int} (h0 : 0 ≤ i) (h1 : i < l.length) : (l.map f)[i.toNat]? = some (f (l.getD i.toNat d)) := by
  have h : i.toNat < l.length := by omega
  rw [List.getElem?_map, List.getElem?_eq_getElem h, List.getD, List.getElem?_eq_getElem h]; rfl
noncomputable def ks5 : List Int := [0, 1, 2, 3, 4]
theorem rng5 : rngData 0 5 = ks5.map .int := rfl
noncomputable def wAt (vs : List P2) (k : Int) : P2 := vs.getD k.toNat (0, 0)
noncomputable def pAt (ws : List Wd) (k : Int) : Wd := ws.getD k.toNat (0, 0, 0, 0)
noncomputable def awayK (vs : List P2) : List Int := ks5.filter fun k => notO (wAt vs k)
noncomputable def dueRow (ws : List Wd) (vs : List P2) (a : Int) : List Wd := ((awayK vs).filter fun b => crossP (wAt vs a) (wAt vs b) == 0).map (pAt ws)
noncomputable def tupW (l : List Wd) : D := .tup (l.map toW)
noncomputable def dueRows (ws : List Wd) (vs : List P2) : List (List Wd) := (awayK vs).map (dueRow ws vs)
noncomputable abbrev duS : Scope := scopeOf (stmtAt 26)
theorem at_due {c : Cx} (H : FnObj c (stmtAt 26) 284) : ∃ fd, FnAt c 284 fd (bodyOf (stmtAt 26)) [S "plain", S "ways"] ∧ fd.scope = scopeOf (stmtAt 26) :=
  fn_at H _ (fun pm => bind2 fun a b => by rfl) (by decide) (by decide) (by decide) (by decide) rfl rfl rfl rfl
theorem like_rows (rows : List (List Wd)) : ∀ x ∈ rows.map tupW, ∀ y ∈ rows.map tupW, likeD 1 x y = true := by
  intro x hx y hy
  obtain ⟨a, _, rfl⟩ := List.mem_map.mp hx
  obtain ⟨b, _, rfl⟩ := List.mem_map.mp hy
  simp only [tupW, likeD, List.all_eq_true]
  intro u hu v hv
  obtain ⟨a', _, rfl⟩ := List.mem_map.mp hu
  obtain ⟨b', _, rfl⟩ := List.mem_map.mp hv
  rfl
theorem awayK_in {vs : List P2} {k : Int} (h : k ∈ awayK vs) : 0 ≤ k ∧ k < 5 := by
  have := (List.mem_filter.mp h).1
  unfold ks5 at this
  simp at this
  omega
theorem fn_due {c : Cx} (H : FnObj c (stmtAt 26) 284) (Ho : FnObj c (stmtAt 23) 265) (Hc : FnObj c (stmtAt 18) 238) (hs : c.mg (S "sorted") = none) (he : c.mg (S "enumerate") = none) (hr : c.mg (S "range") = none) (ht : c.mg (S "tuple") = none)
    (hmc : c.mg (S "_law_cross") = some (.ref 238)) (hmo : c.mg (S "_law_once") = some (.ref 265)) {n : Nat} {ws : List Wd} {vs : List P2} {out : List D} (hw : ws.length = 5) (hv : vs.length = 5) (hsm : ∀ v ∈ vs, Sm v)
    (hsort : Fn c n (.builtin "sorted") [.lst (onceL ((dueRows ws vs).map tupW))] (.lst out)) : Fn c (n + 2) (.ref 284) [.lst (ws.map toW), .lst (vs.map toP)] (.lst out) := by
  refine fn_of (out := .ret _) (os := [S "away"]) (at_due H) rfl ?_
  have hsm0 : ∀ k : Int, Sm (wAt vs k) := fun k => by
    unfold wAt
    by_cases hk : k.toNat < vs.length
    · rw [List.getD, List.getElem?_eq_getElem hk]; exact hsm _ (List.getElem_mem hk)
    · rw [List.getD, List.getElem?_eq_none (by omega)]; exact ⟨by decide, by decide, by decide, by decide⟩
  refine ex_cons (ρ' := (S "away", .lst ((awayK vs).map .int)) :: [S "plain", S "ways"].zip [.lst (ws.map toW), .lst (vs.map toP)]) (ex1_assign' (ev_compT (ρf := [(S "ways", .lst (vs.map toP))]) D.int D.toInt (fun _ => rfl) ks5 [] (fun k => notO (wAt vs k)) .int (fun k => [(S "place", .int k)]) ?S ?src ?asg ?tst ?elt (by decide)) (sto_cell rfl (by decide)) (noSwap_cell rfl)) (ex_ret (ex1_return ?_))
  case S => exact compSc_of ⟨rfl, trivial⟩ [S "ways"] rfl
  case src =>
    rw [← rng5]
    exact src_range (ev_call (ev_builtin rfl hr (by rfl)) (keepF_type _) (.cons' ev_int .nil) fn_range1) (by intro _ _; rfl) (by decide) (by decide)
  case asg => intro k _; exact asg_name (sto_local rfl (by decide))
  case elt => intro k _ _; exact ev_local rfl rfl
  case tst =>
    intro k hk
    have hk5 : 0 ≤ k ∧ k < 5 := by unfold ks5 at hk; simp at hk; omega
    refine .one (tst_as (tst_cmp (d₁ := toP (wAt vs k)) (d₂ := .tup [.int 0, .int 0]) (ev_item_list (ds := vs.map toP) (ev_cell rfl rfl) (ev_local rfl rfl) hk5.1 (lst_at toP vs (0, 0) hk5.1 (by omega))) (ev_tuple (.cons' ev_int (.cons' ev_int .nil))) (cmp_ne_tup (k := 0) rfl)) ?_)
    simp [eqDs, eqD, notO]
  have hal : (awayK vs).length ≤ 5 := Nat.le_trans (List.length_filter_le _ _) (by decide)
  refine ev_call (ev_global rfl hmo) (keepF_of (at_once Ho)) (.cons' (d := .lst ((dueRows ws vs).map tupW)) ?rows .nil) (fn_once Ho hs he (k := 1) (by decide) (like_rows _) (by rw [List.length_map]; unfold dueRows; rw [List.length_map]; omega) hsort)
  unfold dueRows
  rw [List.map_map]
  refine ev_compM (ρf := [(S "away", .lst ((awayK vs).map .int)), (S "plain", .lst (ws.map toW)), (S "ways", .lst (vs.map toP))]) D.int D.toInt (fun _ => rfl) (awayK vs) [S "a"] (fun a => tupW (dueRow ws vs a)) (fun a => [(S "a", .int a)]) ?S2 (src_list (ev_cell rfl rfl) (.inl (by intro _ _; rfl))) ?asg2 ?elt2 (by omega)
  case S2 => exact compSc_of ⟨rfl, rfl, rfl, trivial⟩ [S "away", S "plain", S "ways"] rfl
  case asg2 => intro k _; exact asg_name (sto_cell rfl (by decide))
  case elt2 =>
    intro a ha
    have ha5 := awayK_in ha
    have hlen : (dueRow ws vs a).length ≤ 5 := by unfold dueRow; rw [List.length_map]; exact Nat.le_trans (List.length_filter_le _ _) hal
    refine ev_call (ev_builtin rfl ht (by rfl)) (keepF_type _) (.cons' (d := .lst ((dueRow ws vs a).map toW)) ?_ .nil) (fn_tuple (by rw [List.length_map, sizeLine_eq]; omega))
    unfold dueRow
    rw [List.map_map]
    refine ev_compT (ρf := [(S "a", .int a), (S "plain", .lst (ws.map toW)), (S "ways", .lst (vs.map toP))]) D.int D.toInt (fun _ => rfl) (awayK vs) [] (fun b => crossP (wAt vs a) (wAt vs b) == 0) (fun b => toW (pAt ws b)) (fun b => [(S "b", .int b)]) ?S3 (src_list (ev_cell rfl rfl) (.inl (by intro _ _; rfl))) ?asg3 ?tst3 ?elt3 (by omega)
    case S3 => exact compSc_of ⟨rfl, rfl, rfl, trivial⟩ [S "a", S "plain", S "ways"] rfl
    case asg3 => intro k _; exact asg_name (sto_local rfl (by decide))
    case elt3 => intro b hb _; exact ev_item_list (ds := ws.map toW) (ev_cell rfl rfl) (ev_local rfl rfl) (awayK_in hb).1 (lst_at toW ws (0, 0, 0, 0) (awayK_in hb).1 (by rw [hw]; exact (awayK_in hb).2)) (by have := (awayK_in hb).2; omega)
    case tst3 =>
      intro b hb
      refine .one (tst_cmp (ev_call (ev_global rfl hmc) (at_cross' Hc) (.cons' ?_ (.cons' ?_ .nil)) (fn_crossP Hc (hsm0 b))) ev_int cmp_eq)
      · exact ev_item_list (ds := vs.map toP) (ev_cell rfl rfl) (ev_cell rfl rfl) ha5.1 (lst_at toP vs (0, 0) ha5.1 (by rw [hv]; exact ha5.2)) (by omega)
      · exact ev_item_list (ds := vs.map toP) (ev_cell rfl rfl) (ev_local rfl rfl) (awayK_in hb).1 (lst_at toP vs (0, 0) (awayK_in hb).1 (by rw [hv]; exact (awayK_in hb).2)) (by have := (awayK_in hb).2; omega)
end Mine
end
section
open PySem PySem.W PyProof.Rows PySem.Calls
set_option maxRecDepth 10000
namespace Mine
/-- a call whose last arguments are named -/
noncomputable def FnK (c : Cx) (n : Nat) (f : Value) (np : Nat) (kwn : List Str) (ds : List D) (d : D) : Prop :=
  ∀ (X : Addr → Prop) (A : Around) (E : Value → Shared → Prop) (s : Shared) (vs : List Value) (Q : Value → Shared → Prop),
    Room n A → Glo c X s.heap → Reps X s.heap vs ds → (∀ v s', Keeps s s' → Rep X s'.heap v d → Q v s') → wpAny c.M A (call f (vs.take np) (kwn.zip (vs.drop np))) Q E s
structure FnAtK (c : Cx) (a : Addr) (fd : FuncData) (body : List Stmt) (names : List Str) (np : Nat) (kwn : List Str) : Prop where
  obj : ∀ h, c.K.In h → (∃ o, h.get? a = some o ∧ o.data = .func fd) ∧ h.CodeRec fd.code fd.qualname
  body : fd.body = .stmts body
  gl : fd.globals = mainGlobals
  clos : fd.closure = []
  bl : fd.builtins = builtinsNs
  bind : ∀ vs : List Value, vs.length = names.length → bindArgs fd ⟨vs.take np, kwn.zip (vs.drop np)⟩ = pure (names.zip vs)
  nodup : names.Nodup
  kinds : ∀ x ∈ names, fd.scope.names.lookup x = some .local ∨ fd.scope.names.lookup x = some .cell
  hdr : ∀ x ∈ names, x ≠ hname
  fn : fd.scope.kind = .function
  co : fd.scope.isCoroutine = false
  gen : fd.scope.isGenerator = false
  cells : ∀ (k : Nat) x, fd.scope.names.lookup x = some .cell → ((cellsFrom k fd.scope.names []).lookup x).isSome = true
  cellsOnly : ∀ (k : Nat) x a, (cellsFrom k fd.scope.names []).lookup x = some a → fd.scope.names.lookup x ≠ some .local
  free : ∀ x, fd.scope.names.lookup x ≠ some .free
section
variable {c : Cx} {n : Nat}
theorem fn_defK {a : Addr} {fd : FuncData} {body : List Stmt} {names : List Str} {np : Nat} {kwn : List Str} {ds : List D} {out : Out} (H : FnAtK c a fd body names np kwn) (hlen : ds.length = names.length)
    {os : List Str} (hos : ∀ x ∈ os, fd.scope.names.lookup x = some .cell) (h : Ex c n os fd.scope (names.zip ds) body out) : FnK c (n + 1) (.ref a) np kwn ds out.val := by
  intro X A E s vs Q R G r hQ
  obtain ⟨⟨o, ho, hd⟩, hcd⟩ := H.obj s.heap G.k
  have hvl : vs.length = names.length := r.length.trans hlen
  refine wpAny_call (codeAny_call_function (A := A) (by have := R.depth; omega) ho hd H.co H.gen H.body hcd ?_)
  rw [H.bind vs hvl]
  refine wpAny_pure ?_
  rw [H.clos]
  have hmem : ∀ p ∈ names.zip vs, p.1 ∈ names := fun p hp => (List.of_mem_zip hp).1
  refine wpAny_newFunctionEnv_cells H.fn (fun x hx => ?_) fun env he s' ic => ?_
  · rcases H.kinds _ (hmem x hx) with h1 | h1
    · exact .inl h1
    · exact .inr ⟨h1, H.cells _ _ h1⟩
  have hsc : env.scope = fd.scope := by rw [he]; rfl
  have hcl : env.cells = cellsFrom (s.heap.objs.size + 1) fd.scope.names [] := by rw [he]; rfl
  have hko : env.kindOf = fun x => fd.scope.names.lookup x := by funext x; unfold Env.kindOf; rw [hsc]
  obtain ⟨⟨⟨h', tk, hs'⟩, hns, hkeep, hfresh⟩, hcell, hapart, habove⟩ := ic
  have hnd : ((names.zip vs).map (·.1)).Nodup := by
    rw [List.map_fst_zip (by omega)]; exact H.nodup
  have none_of : ∀ b, s.heap.objs.size ≤ b → s.heap.get? b = none := fun b hb => by
    cases e : s.heap.get? b with
    | none => rfl
    | some o' => exact absurd (Heap.lt_size e) (Nat.not_lt.mpr hb)
  have hK : KeepsH s.heap s'.heap := hkeep
  refine ⟨G.lim.keeps hkeep, codeAny_func ?_⟩
  have B : Base c X os s.heap s' env env.cells := by
    refine ⟨G.toGlo0, G.vis.keeps hK, hK, none_of _ hfresh, ⟨_, hns, ?_⟩, fun x b hb => ⟨hb, none_of _ ?_, _, hcell x b hb⟩, fun x hx => ?_⟩
    · by_cases hk : env.kindOf hname = some .local
      · rw [bindL_get hk, lookup_rev hnd]
        have : (names.zip vs).lookup hname = none := by
          rw [List.lookup_eq_none_iff]
          intro p hp
          have := H.hdr _ (hmem p hp)
          simpa using fun q => this q.symm
        rw [this]
      · have : ∀ (bs : List (Str × Value)) (m : Str → Option Value), (∀ p ∈ bs, p.1 ≠ hname) → bindL env.kindOf bs m hname = m hname := by
          intro bs
          induction bs with
          | nil => intro m _; rfl
          | cons p bs ih =>
            intro m hm
            obtain ⟨q, u⟩ := p
            show bindL env.kindOf bs _ hname = _
            rw [ih _ fun p hp => hm p (List.mem_cons_of_mem _ hp)]
            split
            · exact if_neg (Ne.symm (hm (q, u) List.mem_cons_self))
            · rfl
        rw [this _ _ fun p hp => H.hdr _ (hmem p hp)]
    · exact Nat.le_trans hfresh (Nat.le_of_lt (habove x b (mem_of_lookup' hb)))
    · rw [hcl]
      exact Option.isSome_iff_exists.mp (H.cells _ x (hos x hx))
  have rK : Reps X s'.heap vs ds := r.keeps hK
  have F : FrameOK X s' env (names.zip ds) := by
    refine ⟨by rw [hsc]; exact H.fn, by rw [he]; exact H.gl, by rw [he]; exact H.bl, ⟨_, hns, fun x d hx hd' => ?_⟩, fun x d hx hd' => ?_, fun x y b hx hy => pairwise_lookup hapart hx hy⟩
    · obtain ⟨v, hv, rv⟩ := reps_zip rK hd'
      refine ⟨v, ?_, rv⟩
      rw [bindL_get (by rw [hko]; rw [hsc] at hx; exact hx), lookup_rev hnd, hv]
    · rw [hsc] at hx
      rcases hx with hx | hx
      · obtain ⟨v, hv, rv⟩ := reps_zip rK hd'
        obtain ⟨b, hb⟩ := Option.isSome_iff_exists.mp (H.cells (s.heap.objs.size + 1) x hx)
        refine ⟨b, v, by rw [hcl]; exact hb, ?_, rv⟩
        have := hcell x b (by rw [hcl]; exact hb)
        rw [bindC_get (by rw [hko]; dsimp only; rw [hx]; intro q; cases q), lookup_rev hnd, hv] at this
        exact this
      · exact absurd hx (H.free x)
  refine h X _ _ s' env env.cells s.heap _ (R.deeper env) B hsc F fun f s'' mv B' ok => ?_
  have kk : Keeps s s'' := by
    obtain ⟨⟨h2, tk2, e2⟩, _⟩ := mv
    have kb := B'.keep
    rw [e2] at kb
    exact ⟨h2, tk2, by rw [e2, hs'], kb⟩
  cases out with
  | next ρ' =>
    obtain ⟨rfl, _⟩ := ok
    exact hQ _ s'' kk .none
  | ret d =>
    obtain ⟨v, rfl, rv⟩ := ok
    exact hQ _ s'' kk rv
/-- a method's look-up -/
noncomputable def Mth (c : Cx) (d₀ : D) (name : Str) (f : Value) : Prop :=
  ∀ (X : Addr → Prop) (A : Around) (E : Value → Shared → Prop) (s : Shared) (v : Value) (pl : Sem Bool) (Q : Value × List Value → Shared → Prop),
    Glo c X s.heap → Rep X s.heap v d₀ → Q (f, [v]) s → wpAny c.M A (getMethod v name pl) Q E s
theorem call_attr {M : Model} {A : Around} {E : Value → Shared → Prop} {s : Shared} {env : Env} {o : PySem.Expr} {name : Str} {apos pos : Pos} {args : List PySem.Expr} {kws : List Keyword} {Q : Value → Shared → Prop}
    (hbase : attributeBase o name env (eval o env) = eval o env) (hfew : methodCallForm (args.length + kws.length) (backTo pos (starEach args env)) (backToKw pos (keywordEach kws env)) = true)
    (hline : (apos.endLine == pos.line) = true)
    (h : wpAny M A (eval o env) (fun ov s₁ => ∀ pl, wpAny M A (getMethod ov name pl) (fun r s₂ => wpAny M A (callWith pos r.1 r.2 (backTo pos (starEach args env)) (backToKw pos (keywordEach kws env))) Q E s₂) E s₁) E s) :
    wpAny M A (eval (.Call (.Attribute o name apos) args kws pos) env) Q E s := by
  rw [arm_eval_Call, hbase]
  refine wpAny_bind (wpAny_mono h (fun ov s₁ h₁ => ?_) fun _ _ e => e)
  refine wpAny_bind (wpAny_standAt ?_)
  have hpos : methodCallPos true o env apos pos = pure pos := by unfold methodCallPos; simp [hline]
  unfold methodCall
  rw [hfew]
  refine wpAny_bind (wpAny_holding (wpAny_mono (h₁ _) (fun r s₂ h₂ => ?_) fun _ _ e => e))
  exact wpAny_bind (wpAny_of_eq hpos h₂)
end
section
variable {c : Cx} {n : Nat} {sc : Scope} {ρ : Loc} {pos apos : Pos} {d d₀ : D} {o : PySem.Expr} {name : Str} {f : Value}
theorem few_of {es : List PySem.Expr} {ds : List D} (h : EvAll c n sc ρ es ds) (hl : es.length + 0 < 30) (env : Env) : methodCallForm (es.length + 0) (backTo pos (starEach es env)) (backToKw pos (keywordEach [] env)) = true := by
  have e : (backTo pos (starEach es env)).all (fun x => !x.1) = true := by
    have := back_any (pos := pos) h env
    rw [List.all_eq_true]
    intro x hx
    rw [List.any_eq_false] at this
    simpa using this x hx
  unfold methodCallForm
  rw [e]
  show (true && true && decide (es.length + 0 + 0 < 30)) = true
  simp at hl ⊢
  exact hl
theorem ev_meth {es : List PySem.Expr} {ds : List D} (ho : Ev c n sc ρ o d₀) (hm : Mth c d₀ name f) (hf : KeepF c f) (h : EvAll c n sc ρ es ds) (hc : Fn c n f (d₀ :: ds) d)
    (hbase : ∀ env, attributeBase o name env (eval o env) = eval o env := by intro _; rfl)
    (hl : es.length + 0 < 30 := by decide)
    (hline : (apos.endLine == pos.line) = true := by rfl) : Ev c n sc ρ (.Call (.Attribute o name apos) es [] pos) d := by
  intro X A E s env Q R G he F hQ
  refine call_attr (hbase env) (few_of h hl env) hline (ho X A E s env _ R G he F fun v s₁ k₁ r₁ pl => ?_)
  have G₁ := G.keeps (keeps_heap k₁)
  refine hm X A E s₁ v pl _ G₁ r₁ ?_
  exact callWith_all (first := [v]) (fds := [d₀]) hf h hc X A E s₁ env Q R G₁ he (F.keeps (keeps_heap k₁)) (.cons r₁ .nil) fun v s' k r => hQ v s' (keeps_trans k₁ k) r
/-- the named arguments -/
inductive KwAll (c : Cx) (n : Nat) (sc : Scope) (ρ : Loc) : List Keyword → List Str → List D → Prop
  | nil : KwAll c n sc ρ [] [] []
  | cons {x : Str} {e : PySem.Expr} {p : Pos} {ks : List Keyword} {xs : List Str} {d : D} {ds : List D} : Ev c n sc ρ e d → KwAll c n sc ρ ks xs ds → KwAll c n sc ρ (⟨some x, e, p⟩ :: ks) (x :: xs) (d :: ds)
theorem kw_names {ks : List Keyword} {xs : List Str} {ds : List D} (h : KwAll c n sc ρ ks xs ds) (env : Env) : (backToKw pos (keywordEach ks env)).filterMap (·.1) = xs ∧ (backToKw pos (keywordEach ks env)).all (·.1.isSome) = true ∧ (backToKw pos (keywordEach ks env)).any (·.1.isNone) = false := by
  induction h with
  | nil => exact ⟨rfl, rfl, rfl⟩
  | cons _ _ ih =>
    obtain ⟨h1, h2, h3⟩ := ih
    exact ⟨congrArg (_ :: ·) h1, by simpa [backToKw, keywordEach] using h2, by simpa [backToKw, keywordEach] using h3⟩
theorem kw_run {ks : List Keyword} {xs : List Str} {ds : List D} (h : KwAll c n sc ρ ks xs ds) : ∀ (X : Addr → Prop) (A : Around) (E : Value → Shared → Prop) (s : Shared) (env : Env) (Q : List Value → Shared → Prop),
    Room n A → Glo c X s.heap → env.scope = sc → FrameOK X s env ρ → (∀ vs s', Keeps s s' → Reps X s'.heap vs ds → Q vs s') → wpAny c.M A (evalAll ((backToKw pos (keywordEach ks env)).map (·.2))) Q E s := by
  induction h with
  | nil =>
    intro X A E s env Q R G he F hQ
    exact kwAll_nil (hQ [] s (keeps_refl s) .nil)
  | cons hd _ ih =>
    intro X A E s env Q R G he F hQ
    refine kwAll_cons (hd X A E s env _ R G he F fun v s₁ k₁ r₁ => ?_)
    refine ih X A E s₁ env _ R (G.keeps (keeps_heap k₁)) he (F.keeps (keeps_heap k₁)) fun vs s₂ k₂ r₂ => ?_
    exact hQ _ s₂ (keeps_trans k₁ k₂) (.cons (r₁.keeps (keeps_heap k₂)) r₂)
/-- o.name(e, x=k) -/
theorem ev_methK {e : PySem.Expr} {de : D} {ks : List Keyword} {xs : List Str} {kds : List D} (ho : Ev c n sc ρ o d₀) (hm : Mth c d₀ name f) (hf : KeepF c f) (h : Ev c n sc ρ e de) (hk : KwAll c n sc ρ ks xs kds)
    (hc : FnK c n f 2 xs (d₀ :: de :: kds) d)
    (hst : ∀ env, starEach [e] env = [(false, eval e env)] := by intro _; rfl)
    (hbase : ∀ env, attributeBase o name env (eval o env) = eval o env := by intro _; rfl)
    (hfew : ∀ env, methodCallForm (1 + ks.length) (backTo pos (starEach [e] env)) (backToKw pos (keywordEach ks env)) = true := by intro _; rfl)
    (hline : (apos.endLine == pos.line) = true := by rfl) : Ev c n sc ρ (.Call (.Attribute o name apos) [e] ks pos) d := by
  intro X A E s env Q R G he F hQ
  refine call_attr (hbase env) (hfew env) hline (ho X A E s env _ R G he F fun v s₁ k₁ r₁ pl => ?_)
  have G₁ := G.keeps (keeps_heap k₁)
  have F₁ := F.keeps (keeps_heap k₁)
  refine hm X A E s₁ v pl _ G₁ r₁ ?_
  obtain ⟨hn, hall, hany⟩ := kw_names (pos := pos) hk env
  dsimp only
  refine callWith_of (P := fun h => c.K.In h) (by rw [hst, hany]; rfl) hf ?_
  refine evalArgs_kw2 hall ?_ (hst env)
  rw [hst]
  refine Calls.spliced_cons (h X A E s₁ env _ R G₁ he F₁ fun u s₂ k₂ r₂ => Calls.spliced_nil ?_)
  have G₂ := G₁.keeps (keeps_heap k₂)
  refine kw_run hk X A E s₂ env _ R G₂ he (F₁.keeps (keeps_heap k₂)) fun vs s₃ k₃ r₃ => ⟨(G₂.keeps (keeps_heap k₃)).k, ?_⟩
  rw [hn]
  have G₃ := G₂.keeps (keeps_heap k₃)
  exact hc X A E s₃ (v :: u :: vs) Q R G₃ (.cons (r₁.keeps (keeps_heap (keeps_trans k₂ k₃))) (.cons (r₂.keeps (keeps_heap k₃)) r₃)) fun w s' k r => hQ w s' (keeps_trans (keeps_trans k₁ (keeps_trans k₂ k₃)) k) r
/-- a receiver of a built-in type -/
noncomputable def OnType (c : Cx) (d₀ : D) (T : String) : Prop := ∀ (X : Addr → Prop) (s : Shared) (v : Value), Glo c X s.heap → Rep X s.heap v d₀ → s.TypeIs v T ∧ ∀ a, v = .ref a → ∃ ob, s.heap.get? a = some ob ∧ ob.dict = none
theorem mth_of {T id : String} (hT : OnType c d₀ T) (pa : PlainAttrs T) (slot : Slot T name id) (hty : typeOf (.builtin id) = pure (.type "method_descriptor")) : Mth c d₀ name (.builtin id) := by
  intro X A E s v pl Q G r hQ
  obtain ⟨h1, h2⟩ := hT X s v G r
  exact getMethod_builtin h1 pa slot hty h2 hQ
theorem on_str {x : Str} : OnType c (.str x) "str" := by
  intro X s v G r
  obtain ⟨_, rfl⟩ := rep_inv r
  exact ⟨typeIs_str _ _ _, fun _ e => nomatch e⟩
theorem on_bytes {x : Array UInt8} : OnType c (.bytes x) "bytes" := by
  intro X s v G r
  obtain ⟨_, rfl⟩ := rep_inv r
  exact ⟨typeIs_bytes _ _ _, fun _ e => nomatch e⟩
theorem on_pls {ds : List D} : OnType c (.pls ds) "list" := by
  intro X s v G r
  obtain ⟨_, _, rfl, q, x, rs⟩ := rep_inv r
  obtain ⟨k, e⟩ := x
  exact ⟨⟨_, e, rfl⟩, fun a h => by cases h; exact ⟨_, e, rfl⟩⟩
theorem on_mat {x : Array UInt8} {b e : Nat} : OnType c (.mat x b e) "re.Match" := by
  intro X s v G r
  cases r with
  | mat q _ x y => exact ⟨⟨_, x, rfl⟩, fun a h => by cases h; exact ⟨_, x, rfl⟩⟩
end
end Mine
end
section
open PySem PySem.W PyProof.Rows PySem.Calls
set_option maxRecDepth 100000
namespace Mine
theorem plainAttrs_pat : PlainAttrs "re.Pattern" :=
  ⟨⟨"object.__getattribute__", by rw [typeLookup_type, builtinLookup_eq_fast]; kernel_rfl, by decide +kernel⟩, by rw [typeLookup_type, builtinLookup_eq_fast]; kernel_rfl⟩
theorem owner_pat : Manifest.owners.lookup (String.ofList ['n', 'r', 'e', 't', 't', 'a', 'P', '.', 'e', 'r'].reverse) = some Manifest.sig_re_Pattern := by kernel_rfl
theorem plainAttrs_mat : PlainAttrs "re.Match" :=
  ⟨⟨"object.__getattribute__", by rw [typeLookup_type, builtinLookup_eq_fast]; kernel_rfl, by decide +kernel⟩, by rw [typeLookup_type, builtinLookup_eq_fast]; kernel_rfl⟩
theorem owner_mat : Manifest.owners.lookup (String.ofList ['h', 'c', 't', 'a', 'M', '.', 'e', 'r'].reverse) = some Manifest.sig_re_Match := by kernel_rfl
theorem slot_pat_search : Slot "re.Pattern" "search" "re.Pattern.search" :=
  .of (owner := "re.Pattern") (n := "search") (by rw [typeLookup_type, builtinLookup_eq_fast]; kernel_rfl) (by decide +kernel) (by decide +kernel) (by decide +kernel)
    (by first | exact .inl (by decide +kernel) | exact .inr (by decide +kernel)) (by rw [isSubtype_type]; kernel_rfl)
theorem type_pat_search : typeOf (.builtin "re.Pattern.search") = pure (.type "method_descriptor") := by show builtinType _ = _; rw [builtinType_eq_fast]; kernel_rfl
theorem entry_pat_search : entryFor table "re.Pattern.search" = some Builtin.«re.Pattern.search» := entryFor_of_tree (by kernel_rfl)
theorem args_pat_search_2 (a b : Value) : argsOk "re.Pattern.search" ⟨[a, b], []⟩ := by
  unfold argsOk; rw [signature?_of (id := "re.Pattern.search") (n := ['h', 'c', 'r', 'a', 'e', 's']) (o := ['n', 'r', 'e', 't', 't', 'a', 'P', '.', 'e', 'r']) (by kernel_rfl) owner_pat]; kernel_rfl
theorem slot_pat_match : Slot "re.Pattern" "match" "re.Pattern.match" :=
  .of (owner := "re.Pattern") (n := "match") (by rw [typeLookup_type, builtinLookup_eq_fast]; kernel_rfl) (by decide +kernel) (by decide +kernel) (by decide +kernel)
    (by first | exact .inl (by decide +kernel) | exact .inr (by decide +kernel)) (by rw [isSubtype_type]; kernel_rfl)
theorem type_pat_match : typeOf (.builtin "re.Pattern.match") = pure (.type "method_descriptor") := by show builtinType _ = _; rw [builtinType_eq_fast]; kernel_rfl
theorem entry_pat_match : entryFor table "re.Pattern.match" = some Builtin.«re.Pattern.match» := entryFor_of_tree (by kernel_rfl)
theorem args_pat_match_2 (a b : Value) : argsOk "re.Pattern.match" ⟨[a, b], []⟩ := by
  unfold argsOk; rw [signature?_of (id := "re.Pattern.match") (n := ['h', 'c', 't', 'a', 'm']) (o := ['n', 'r', 'e', 't', 't', 'a', 'P', '.', 'e', 'r']) (by kernel_rfl) owner_pat]; kernel_rfl
theorem slot_mat_group : Slot "re.Match" "group" "re.Match.group" :=
  .of (owner := "re.Match") (n := "group") (by rw [typeLookup_type, builtinLookup_eq_fast]; kernel_rfl) (by decide +kernel) (by decide +kernel) (by decide +kernel)
    (by first | exact .inl (by decide +kernel) | exact .inr (by decide +kernel)) (by rw [isSubtype_type]; kernel_rfl)
theorem type_mat_group : typeOf (.builtin "re.Match.group") = pure (.type "method_descriptor") := by show builtinType _ = _; rw [builtinType_eq_fast]; kernel_rfl
theorem entry_mat_group : entryFor table "re.Match.group" = some Builtin.«re.Match.group» := entryFor_of_tree (by kernel_rfl)
theorem args_mat_group_2 (a b : Value) : argsOk "re.Match.group" ⟨[a, b], []⟩ := by
  unfold argsOk; rw [signature?_of (id := "re.Match.group") (n := ['p', 'u', 'o', 'r', 'g']) (o := ['h', 'c', 't', 'a', 'M', '.', 'e', 'r']) (by kernel_rfl) owner_mat]; kernel_rfl
theorem slot_bytes_split : Slot "bytes" "split" "bytes.split" :=
  .of (owner := "bytes") (n := "split") (by rw [typeLookup_type, builtinLookup_eq_fast]; kernel_rfl) (by decide +kernel) (by decide +kernel) (by decide +kernel)
    (by first | exact .inl (by decide +kernel) | exact .inr (by decide +kernel)) (by rw [isSubtype_type]; kernel_rfl)
theorem type_bytes_split : typeOf (.builtin "bytes.split") = pure (.type "method_descriptor") := by show builtinType _ = _; rw [builtinType_eq_fast]; kernel_rfl
theorem entry_bytes_split : entryFor table "bytes.split" = some Builtin.«bytes.split» := entryFor_of_tree (by kernel_rfl)
theorem args_bytes_split_1 (a : Value) : argsOk "bytes.split" ⟨[a], []⟩ := by
  unfold argsOk; rw [signature?_of (id := "bytes.split") (n := ['t', 'i', 'l', 'p', 's']) (o := ['s', 'e', 't', 'y', 'b']) (by kernel_rfl) PySem.W.FB.owner_bytes]; kernel_rfl
theorem args_bytes_decode_2 (a b : Value) : argsOk "bytes.decode" ⟨[a, b], []⟩ := by
  unfold argsOk; rw [signature?_of (id := "bytes.decode") (n := ['e', 'd', 'o', 'c', 'e', 'd']) (o := ['s', 'e', 't', 'y', 'b']) (by kernel_rfl) PySem.W.FB.owner_bytes]; kernel_rfl
theorem no_bool_mat : typeLookup (.type "re.Match") "__bool__" = pure none := by rw [typeLookup_type, builtinLookup_eq_fast]; kernel_rfl
theorem no_len_mat : typeLookup (.type "re.Match") "__len__" = pure none := by rw [typeLookup_type, builtinLookup_eq_fast]; kernel_rfl
end Mine
end
section
open PySem PySem.W PyProof.Rows PySem.Calls
set_option maxRecDepth 100000
namespace Mine
/-- what the class holds, as far as it is asked -/
noncomputable def clsTab : List (Str × Option Value) := [(S "__getattribute__", none), (S "__getattr__", none), (S "__setattr__", none), (hname, none), (S "__init__", some (.ref 76)), (S "_convert_string_type", some (.ref 83)),
  (S "get_all", some (.ref 121)), (S "keys", some (.ref 134)), (S "items", some (.ref 146)), (S "add_header", some (.ref 179))]
noncomputable def HObj (c : Cx) : Prop := ∀ h, c.K.In h → (∃ nm q bs sn sub col dd k0 k1 k2 k3 k5, h.get? hcls = some (excClassObj nm q hcls 181 bs [.type "object"] true sn sub false col dd k0 k1 k2 k3 k5 "object.__new__")) ∧
  ∃ mN, h.Ns 181 mN ∧ ∀ x v, clsTab.lookup x = some v → mN x = v
/-- a method of the class -/
noncomputable def MObj (c : Cx) (st : Stmt) (a : Addr) (q : Str) (dfl : Value) : Prop := ∃ pm, ∀ h, c.K.In h → (∃ o, h.get? a = some o ∧ o.cls = .type "function" ∧ o.data = .func (fdOf st a q dfl .none pm)) ∧ h.CodeRec (.ref (a - 1)) q
/-- the i-th statement of the class -/
noncomputable def mthAt (i : Nat) : Stmt := ((bodyOf (stmtAt 7))[i]?).getD (.Pass default)
theorem ins_inst {X : Addr → Prop} {h : Heap} {v : Value} {l : Addr} (r : Rep X h v (.ins l)) : ∃ a dx, v = .ref a ∧ ¬ X a ∧ ¬ X dx ∧ h.Inst a hcls (hdr l) := by
  cases r with
  | ins q x y => 
    rename_i a dx sl
    refine ⟨a, dx, rfl, q.1, q.2, _, x, rfl, fun c => (by simp), .inr ⟨dx, rfl, ?_, y⟩⟩
    rintro rfl
    obtain ⟨o, es, ep, ho, hd, _⟩ := y
    rw [x] at ho; cases ho
    cases hd
theorem tbl_ins {X : Addr → Prop} {h : Heap} {v : Value} {ds : List D} (r : Rep X h v (.tbl ds)) : ∃ l vs, Rep X h v (.ins l) ∧ ¬ X l ∧ h.IsList l (List.toArray vs) ∧ Reps X h vs ds := by
  cases r with
  | tbl q x y z rs => exact ⟨_, _, .ins ⟨q.1, q.2.1⟩ x y, q.2.2, z, rs⟩
section
variable {c : Cx} {n : Nat} {sc : Scope} {ρ : Loc} {pos apos : Pos} {d d₀ : D} {name : Str} {f : Addr}
theorem get_ins (H : HObj c) {st : Stmt} {q : Str} {dfl : Value} (Hf : MObj c st f q dfl) (hn : clsTab.lookup name = some (some (.ref f))) (hx : name ≠ hname) (hB : typeLookup (.type "object") name = pure none)
    (X : Addr → Prop) (A : Around) (E : Value → Shared → Prop) (s : Shared) (v : Value) (l : Addr) (pl : Sem Bool) (Q : Value × List Value → Shared → Prop) (G : Glo c X s.heap) (r : Rep X s.heap v (.ins l)) (hQ : Q (.ref f, [v]) s) : wpAny c.M A (getMethod v name pl) Q E s := by
  obtain ⟨a, dx, rfl, _, _, I⟩ := ins_inst r
  obtain ⟨⟨nm, q, bs, sn, sub, col, dd, k0, k1, k2, k3, k5, hC⟩, mN, hN, hm⟩ := H _ G.k
  obtain ⟨pm, Hf⟩ := Hf
  obtain ⟨⟨o, ho, hc, hd⟩, _⟩ := Hf _ G.k
  obtain ⟨hh, g, d, t, os⟩ := s
  exact method_of hC hN (hm _ _ rfl) (hm _ _ rfl) (hm _ _ hn) ho hc hB I (if_neg hx) hQ
theorem mth_ins (H : HObj c) {st : Stmt} {q : Str} {dfl : Value} (Hf : MObj c st f q dfl) (l : Addr) (hn : clsTab.lookup name = some (some (.ref f)) := by rfl) (hx : name ≠ hname := by decide)
    (hB : typeLookup (.type "object") name = pure none := by rw [typeLookup_type, builtinLookup_eq_fast]; kernel_rfl) : Mth c (.ins l) name (.ref f) := by
  intro X A E s v pl Q G r hQ
  exact get_ins H Hf hn hx hB X A E s v l pl Q G r hQ
theorem mth_tbl (H : HObj c) {st : Stmt} {q : Str} {dfl : Value} (Hf : MObj c st f q dfl) (ds : List D) (hn : clsTab.lookup name = some (some (.ref f)) := by rfl) (hx : name ≠ hname := by decide)
    (hB : typeLookup (.type "object") name = pure none := by rw [typeLookup_type, builtinLookup_eq_fast]; kernel_rfl) : Mth c (.tbl ds) name (.ref f) := by
  intro X A E s v pl Q G r hQ
  obtain ⟨l, vs, r', _⟩ := tbl_ins r
  exact get_ins H Hf hn hx hB X A E s v l pl Q G r' hQ
theorem MObj.keepF {st : Stmt} {q : Str} {dfl : Value} (Hf : MObj c st f q dfl) : KeepF c (.ref f) := fun h hk => by
  obtain ⟨pm, Hf⟩ := Hf
  obtain ⟨⟨o, ho, _, hd⟩, _⟩ := Hf h hk
  refine ⟨.frame, .inl rfl, ?_⟩
  refine (Looks.ld (part := none) ho).andThen ?_
  rw [hd]
  exact .now
theorem obj_hdr : typeLookup (.type "object") hname = pure none := by rw [typeLookup_type, builtinLookup_eq_fast]; kernel_rfl
theorem getattr_hdr (H : HObj c) (X : Addr → Prop) (A : Around) (E : Value → Shared → Prop) (s : Shared) (v : Value) (l : Addr) (Q : Value → Shared → Prop) (G : Glo c X s.heap) (r : Rep X s.heap v (.ins l)) (hQ : Q (.ref l) { s with toks := s.toks + 1 }) :
    wpAny c.M A (getAttr v hname true) Q E s := by
  obtain ⟨a, dx, rfl, _, _, I⟩ := ins_inst r
  obtain ⟨⟨nm, q, bs, sn, sub, col, dd, k0, k1, k2, k3, k5, hC⟩, mN, hN, hm⟩ := H _ G.k
  obtain ⟨hh, g, d, t, os⟩ := s
  exact load_attr hC hN (hm _ _ rfl) (hm _ _ rfl) obj_hdr I (if_pos rfl) rfl hQ
theorem ev_hdr_ins (H : HObj c) {x : Str} {np : Pos} {l : Addr} (h : Ev c n sc ρ (.Name x np) (.ins l)) : Ev c n sc ρ (.Attribute (.Name x np) hname pos) (.adr l) := by
  intro X A E s env Q R G he F hQ
  refine Attribute_name (h X A E s env _ R G he F fun v s₁ k₁ r₁ => ?_)
  exact getattr_hdr H X A E s₁ v l _ (G.keeps (keeps_heap k₁)) r₁ (hQ _ _ (keeps_trans k₁ (keeps_tok _ _)) (.adr _))
theorem ev_hdr_tbl (H : HObj c) {x : Str} {np : Pos} {ds : List D} (h : Ev c n sc ρ (.Name x np) (.tbl ds)) : Ev c n sc ρ (.Attribute (.Name x np) hname pos) (.lst ds) := by
  intro X A E s env Q R G he F hQ
  refine Attribute_name (h X A E s env _ R G he F fun v s₁ k₁ r₁ => ?_)
  obtain ⟨l, vs, r', hx, hl, rs⟩ := tbl_ins r₁
  exact getattr_hdr H X A E s₁ v l _ (G.keeps (keeps_heap k₁)) r' (hQ _ _ (keeps_trans k₁ (keeps_tok _ _)) (.lst hx hl rs))
end
/-- a method walked as a function -/
theorem m_at {c : Cx} {st : Stmt} {a : Addr} {q : Str} (H : MObj c st a q .none) (names : List Str)
    (bind : ∀ (pm : Value) (vs : List Value), vs.length = names.length → bindArgs (fdOf st a q .none .none pm) ⟨vs, []⟩ = pure (names.zip vs))
    (nd : ((scopeOf st).names.map (·.1)).Nodup) (nn : names.Nodup) (kinds : ∀ x ∈ names, (scopeOf st).names.lookup x = some .local ∨ (scopeOf st).names.lookup x = some .cell) (hdr : ∀ x ∈ names, x ≠ hname)
    (fn : (scopeOf st).kind = .function) (co : (scopeOf st).isCoroutine = false) (gen : (scopeOf st).isGenerator = false) (free : (scopeOf st).names.all (fun p => p.2 != .free) = true) :
    ∃ fd, FnAt c a fd (bodyOf st) names ∧ fd.scope = scopeOf st := by
  obtain ⟨pm, H⟩ := H
  exact ⟨_, ⟨fun h hk => ⟨let ⟨o, h1, _, h2⟩ := (H h hk).1; ⟨o, h1, h2⟩, (H h hk).2⟩, rfl, rfl, rfl, rfl, bind pm, nn, kinds, hdr, fn, co, gen, cells_some nd, cells_only nd, no_free free⟩, rfl⟩
theorem m_atK {c : Cx} {st : Stmt} {a : Addr} {q : Str} (H : MObj c st a q .none) (names : List Str) (np : Nat) (kwn : List Str)
    (bind : ∀ (pm : Value) (vs : List Value), vs.length = names.length → bindArgs (fdOf st a q .none .none pm) ⟨vs.take np, kwn.zip (vs.drop np)⟩ = pure (names.zip vs))
    (nd : ((scopeOf st).names.map (·.1)).Nodup) (nn : names.Nodup) (kinds : ∀ x ∈ names, (scopeOf st).names.lookup x = some .local ∨ (scopeOf st).names.lookup x = some .cell) (hdr : ∀ x ∈ names, x ≠ hname)
    (fn : (scopeOf st).kind = .function) (co : (scopeOf st).isCoroutine = false) (gen : (scopeOf st).isGenerator = false) (free : (scopeOf st).names.all (fun p => p.2 != .free) = true) :
    ∃ fd, FnAtK c a fd (bodyOf st) names np kwn ∧ fd.scope = scopeOf st := by
  obtain ⟨pm, H⟩ := H
  exact ⟨_, ⟨fun h hk => ⟨let ⟨o, h1, _, h2⟩ := (H h hk).1; ⟨o, h1, h2⟩, (H h hk).2⟩, rfl, rfl, rfl, rfl, bind pm, nn, kinds, hdr, fn, co, gen, cells_some nd, cells_only nd, no_free free⟩, rfl⟩
theorem fnK_of {c : Cx} {st : Stmt} {a : Addr} {names : List Str} {np : Nat} {kwn : List Str} {n : Nat} {ds : List D} {out : Out} {os : List Str} (H : ∃ fd, FnAtK c a fd (bodyOf st) names np kwn ∧ fd.scope = scopeOf st) (hlen : ds.length = names.length)
    (h : Ex c n os (scopeOf st) (names.zip ds) (bodyOf st) out) (hos : ∀ x ∈ os, (scopeOf st).names.lookup x = some .cell := by first | (intro x hx; cases hx; done) | decide) : FnK c (n + 1) (.ref a) np kwn ds out.val := by
  obtain ⟨fd, H, e⟩ := H
  exact fn_defK H hlen (by rw [e]; exact hos) (by rw [e]; exact h)
end Mine
end
section
open PySem PySem.W PyProof.Rows PySem.Calls
set_option maxRecDepth 100000
namespace Mine
theorem countIn_strs (k : Str) : ∀ ys : List Str, PySem.Spec.countIn (.str k) (ys.map PyData.str) = ((ys.filter (· == k)).length : Int)
  | [] => rfl
  | y :: ys => by
    rw [List.map_cons, PySem.Spec.countIn, countIn_strs k ys, List.filter_cons]
    simp only [PySem.Spec.same]
    by_cases h : y = k
    · subst h; simp; omega
    · have h' : (y == k) = false := by simpa using h
      simp [h']
section
variable {c : Cx} {n : Nat}
theorem fn_lower {x : Str} (hz : x.length ≤ 1000) : Fn c n (.builtin "str.lower") [.str x] (.str (Txt.lower x)) := by
  intro X A E s vs Q R G r hQ
  obtain ⟨v, rfl, q⟩ := reps1 r
  obtain ⟨_, rfl⟩ := rep_inv q
  exact SCL.lower (by omega) fun _ => hQ _ _ (keeps_tok s _) (.str _ _)
theorem fn_upper {x : Str} (hz : x.length ≤ 1000) : Fn c n (.builtin "str.upper") [.str x] (.str (Txt.upper x)) := by
  intro X A E s vs Q R G r hQ
  obtain ⟨v, rfl, q⟩ := reps1 r
  obtain ⟨_, rfl⟩ := rep_inv q
  exact SCL.upper (by omega) fun _ => hQ _ _ (keeps_tok s _) (.str _ _)
theorem fn_join {x : Str} {ys : List Str} (hok : (ys.map (·.length)).sum + ys.length * x.length ≤ 16777216) : Fn c n (.builtin "str.join") [.str x, .lst (ys.map .str)] (.str (Txt.join x ys)) := by
  intro X A E s vs Q R G r hQ
  obtain ⟨v, u, rfl, q, p⟩ := reps2 r
  obtain ⟨_, rfl⟩ := rep_inv q
  obtain ⟨_, _, rfl, hx, hl, rs⟩ := rep_inv p
  exact join_list hl (by simpa using reps_strs rs) hok fun t' k => hQ _ _ (keeps_tok s _) (.str _ _)
theorem fn_count {k : Str} {ys : List Str} : Fn c n (.builtin "list.count") [.pls (ys.map .str), .str k] (.int ((ys.filter (· == k)).length : Int)) := by
  intro X A E s vs Q R G r hQ
  obtain ⟨v, u, rfl, q, p⟩ := reps2 r
  cases p
  obtain ⟨_, _, rfl, hx, hl, rs⟩ := rep_inv q
  refine count_list_strs hl.isList (reps_strs rs) ?_
  rw [countIn_strs]
  exact hQ _ _ (keeps_tok s _) (.int _ _)
theorem mth_lower {x : Str} : Mth c (.str x) (S "lower") (.builtin "str.lower") := mth_of on_str PySem.F.plainAttrs_str PySem.F.slot_str_lower PySem.F.type_str_lower
theorem mth_upper {x : Str} : Mth c (.str x) (S "upper") (.builtin "str.upper") := mth_of on_str PySem.F.plainAttrs_str PySem.F.slot_str_upper PySem.F.type_str_upper
theorem mth_join {x : Str} : Mth c (.str x) (S "join") (.builtin "str.join") := mth_of on_str PySem.F.plainAttrs_str PySem.F.slot_str_join PySem.F.type_str_join
theorem mth_count {ds : List D} : Mth c (.pls ds) (S "count") (.builtin "list.count") := mth_of on_pls PySem.F.plainAttrs_list PySem.F.slot_list_count PySem.F.type_list_count
end
end Mine
end
section
open PySem PySem.W PyProof.Rows PySem.Calls
set_option maxRecDepth 100000
namespace Mine
open PySem.Sre (M)
theorem run_done (m : M) (h : m.outcome.isSome = true) : ∀ n, m.runFor n = m
  | 0 => rfl
  | n + 1 => by show (if m.outcome.isSome then m else _) = m; rw [if_pos h]
theorem run_succ (m : M) (h : m.outcome.isSome = false) (n : Nat) : m.runFor (n + 1) = m.step.runFor n := by
  show (if m.outcome.isSome then m else _) = _; rw [h]; rfl
theorem run_add (a b : Nat) : ∀ m : M, m.runFor (a + b) = (m.runFor a).runFor b := by
  induction a with
  | zero => intro m; rw [Nat.zero_add]; rfl
  | succ a ih =>
    intro m
    cases h : m.outcome.isSome with
    | true => rw [run_done m h, run_done m h, run_done m h]
    | false => rw [Nat.succ_add, run_succ m h, run_succ m h, ih]
section
variable {Mo : Model} {A : Around} {E : Value → Shared → Prop} {s : Shared}
theorem drive {Q : M → Shared → Prop} : ∀ (turns N : Nat) (m : M), (m.runFor N).outcome.isSome = true → N ≤ 4 * turns → 0 < turns → Q (m.runFor N) s → wpAny Mo A (Builtin.Re.reDrive turns m) Q E s
  | 0, _, _, _, _, h0, _ => absurd h0 (Nat.lt_irrefl _)
  | turns + 1, N, m, hd, hN, _, hQ => by
    show wpAny Mo A (if ((m.runFor 4).outcome.isSome : Bool) then pure (m.runFor 4) else do rule "sre.turn"; Builtin.Re.reDrive turns (m.runFor 4)) Q E s
    cases h4 : (m.runFor 4).outcome.isSome with
    | true =>
      have e : m.runFor N = m.runFor 4 := by
        rcases Nat.le_total 4 N with h | h
        · obtain ⟨k, rfl⟩ := Nat.exists_eq_add_of_le h
          rw [run_add, run_done _ h4]
        · obtain ⟨k, hk⟩ := Nat.exists_eq_add_of_le h
          rw [hk, run_add, run_done _ hd]
      rw [e] at hQ
      exact wpAny_pure hQ
    | false =>
      have hN4 : 4 < N := by
        rcases Nat.lt_or_ge 4 N with h | h
        · exact h
        · obtain ⟨k, hk⟩ := Nat.exists_eq_add_of_le h
          rw [hk, run_add, run_done _ hd, hd] at h4; cases h4
      obtain ⟨k, rfl⟩ := Nat.exists_eq_add_of_le (Nat.le_of_lt hN4)
      rw [run_add] at hd hQ
      exact wpAny_bind (wpAny_rule (drive turns k _ hd (by omega) (by omega) hQ))
theorem rules_loop {α : Type} {f : α → PUnit → Sem (ForInStep PUnit)} {Q : PUnit → Shared → Prop} (hf : ∀ i (Q : ForInStep PUnit → Shared → Prop), Q (.yield ⟨⟩) s → wpAny Mo A (f i ⟨⟩) Q E s) : ∀ l : List α, Q ⟨⟩ s → wpAny Mo A (forIn l PUnit.unit f) Q E s
  | [], hQ => wpAny_pure hQ
  | x :: l, hQ => by
    rw [List.forIn_cons]
    refine wpAny_bind (hf x _ ?_)
    exact rules_loop hf l hQ
/-- the machine runs to its end -/
theorem toEnd {Q : Option M → Shared → Prop} {N : Nat} {m : M} (hN : N ≤ 4 * 2 ^ 64)
    (h : ((m.runFor N).outcome = some .failed ∧ Q none s) ∨ ((m.runFor N).outcome = some .matched ∧ Q (some (m.runFor N)) s)) : wpAny Mo A (Builtin.Re.reRunToEnd m) Q E s := by
  unfold Builtin.Re.reRunToEnd
  have hd : (m.runFor N).outcome.isSome = true := by rcases h with ⟨h, _⟩ | ⟨h, _⟩ <;> rw [h] <;> rfl
  refine wpAny_bind (drive _ N m hd hN (Nat.two_pow_pos 64) ?_)
  refine wpAny_bind (rules_loop (fun i Q hQ => ?_) _ ?_)
  · split
    · exact wpAny_bind (wpAny_rule (wpAny_pure hQ))
    · exact wpAny_pure hQ
  · rcases h with ⟨h, hq⟩ | ⟨h, hq⟩ <;> rw [h] <;> exact wpAny_pure hq
end
/-- no start is admitted -/
theorem admitted_none {m : M} (h : ∀ s, s < m.lim → ∀ seen, ∃ sn, Sre.inSet m.code (m.text.getD s 0) m.code.size 5 true seen = .ok (false, sn)) : ∀ fuel s seen, ∃ sn, m.admitted fuel s seen = .ok (none, sn)
  | 0, s, seen => ⟨seen, rfl⟩
  | fuel + 1, s, seen => by
    by_cases hs : s ≥ m.lim
    · exact ⟨seen, by unfold M.admitted; rw [if_pos hs]⟩
    · obtain ⟨sn, e⟩ := h s (by omega) seen
      obtain ⟨sn', e'⟩ := admitted_none h fuel (s + 1) sn
      exact ⟨sn', by unfold M.admitted; rw [if_neg hs, e]; exact e'⟩
theorem attempt_none {m : M} (hf : m.hasFirstSet = true) (h : ∀ s, s < m.lim → ∀ seen, ∃ sn, Sre.inSet m.code (m.text.getD s 0) m.code.size 5 true seen = .ok (false, sn)) (s : Nat) (first : Bool) : ∃ sn, m.attemptFrom s first = { m with seen := sn }.say false := by
  obtain ⟨sn, e⟩ := admitted_none h (m.lim + 1 - s) s m.seen
  exact ⟨sn, by unfold M.attemptFrom; rw [hf]; simp only [Bool.not_true, Bool.false_eq_true, if_false]; rw [e]⟩
theorem attempt_fail {m : M} {s : Nat} {first : Bool} (hf : m.hasFirstSet = true) (h : ∀ s, s < m.lim → ∀ seen, ∃ sn, Sre.inSet m.code (m.text.getD s 0) m.code.size 5 true seen = .ok (false, sn)) (ha : m.frames = []) (ho : m.outcome = none) :
    ((m.attemptFrom s first).runFor 1).outcome = some .failed := by
  obtain ⟨sn, e⟩ := attempt_none hf h s first
  rw [e]
  cases m
  dsimp only at ha ho
  subst ha ho
  rfl
theorem search_none {code text : Array Nat} {g n : Nat} (hf : ((match Sre.ops[code.getD 0 0]? with | some .INFO => true | _ => false) && code.getD 2 0 == 4) = true)
    (h : ∀ s, s < n → ∀ seen, ∃ sn, Sre.inSet code (text.getD s 0) code.size 5 true seen = .ok (false, sn)) : ((Sre.forSearch code text g 0 n false).runFor 1).outcome = some .failed := by
  unfold Sre.forSearch
  dsimp only
  split
  · rfl
  · exact attempt_fail hf h rfl rfl
noncomputable def nameCode : Array Nat := #[14, 10, 4, 1, 1, 22, 0, 31, 16, 127, 0, 13, 7, 22, 0, 31, 16, 127, 0, 1]
noncomputable def valCode : Array Nat := #[14, 14, 4, 1, 1, 9, 4294966783, 0, 0, 2147483648, 0, 0, 0, 0, 0, 13, 11, 9, 4294966783, 0, 0, 2147483648, 0, 0, 0, 0, 0, 1]
/-- a text of plain letters -/
noncomputable def Seen1 (x : Str) : Prop := ∀ i, i < x.cps.size → 32 ≤ x.cps.getD i 0 ∧ x.cps.getD i 0 < 127
theorem name_in (c : Nat) (h : 32 ≤ c ∧ c < 127) (seen : Sre.Seen) : ∃ sn, Sre.inSet nameCode c nameCode.size 5 true seen = .ok (false, sn) := by
  have e : Sre.inSet nameCode c nameCode.size 5 true seen = (if (decide (0 ≤ c) && decide (c ≤ 31)) then .ok (true, seen.add 22) else if c == 127 then .ok (true, (seen.add 22).add 16) else .ok (false, ((seen.add 22).add 16).add 0)) := rfl
  have h1 : (decide (0 ≤ c) && decide (c ≤ 31)) = false := by simp; omega
  have h2 : (c == 127) = false := by simp; omega
  rw [e, h1, h2]
  exact ⟨_, rfl⟩
theorem val_bits : ∀ c : Nat, c < 127 → 32 ≤ c → (valCode.getD (5 + (1 + c / 32)) 0).testBit (c % 32) = false := by decide +kernel
theorem val_in (c : Nat) (h : 32 ≤ c ∧ c < 127) (seen : Sre.Seen) : ∃ sn, Sre.inSet valCode c valCode.size 5 true seen = .ok (false, sn) := by
  have e : Sre.inSet valCode c valCode.size 5 true seen = (if (decide (c < 256) && (valCode.getD (5 + (1 + c / 32)) 0).testBit (c % 32)) then .ok (true, seen.add 9) else .ok (false, (seen.add 9).add 0)) := rfl
  rw [e, val_bits c h.2 h.1, Bool.and_false]
  exact ⟨_, rfl⟩
/-- a pattern's object -/
noncomputable def PatAt (h : Heap) (a : Addr) (code : Array Nat) (groups kind : Int) : Prop := ∃ o fs tu, h.get? a = some o ∧ o.cls = .type "re.Pattern" ∧ o.dict = none ∧ o.data = .fields fs ∧ fs.getD 5 .none = .ref tu ∧ fs.getD 6 .none = .int kind 0 ∧ fs.getD 2 .none = .int groups 0 ∧
  ∃ o' n vs, h.get? tu = some o' ∧ o'.data = .seq vs n ∧ (vs.map Builtin.Re.reRawOf).map (·.toNat) = code
noncomputable def PatObj (c : Cx) (a : Addr) (code : Array Nat) (groups kind : Int) : Prop := ∀ h, c.K.In h → PatAt h a code groups kind
theorem named_eq {id : String} {f : String} {v : Value} : Builtin.Re.reNamed id f ["string", "pos", "endpos"] 1 [v] [] = pure [some v, none, none] := rfl
theorem target_str {prog : Program} {w : World} {A : Around} {E : Value → Shared → Prop} {s : Shared} {id f : String} {a : Addr} {x : Str} {t : Tok} {code : Array Nat} {groups : Int} {Q : Builtin.Re.ReTarget → Shared → Prop} (P : PatAt s.heap a code groups 0) (hz : x.length ≤ 1000)
    (h : Q { pattern := .ref a, string := .str x t, code, text := x.cps, kind := 0, groups := groups.toNat, pos := 0, lim := x.cps.size } s) : wpAny (model prog w) A (Builtin.Re.reTarget id f ⟨[.ref a, .str x t], []⟩) Q E s := by
  obtain ⟨o, fs, tu, ho, _, _, hd, h5, h6, h2, o', n, vs, ho', hd', hc⟩ := P
  unfold Builtin.Re.reTarget
  dsimp only
  rw [named_eq]
  refine wpAny_bind (wpAny_pure ?_)
  dsimp only
  refine wpAny_bind (wpAny_pure (wpAny_bind (wpAny_pure (wpAny_bind (wpAny_fieldsOf ho hd (wpAny_bind ?_))))))
  show wpAny _ _ (pure (x.cps, 0)) _ _ _
  refine wpAny_pure ?_
  dsimp only
  rw [h6, h5, h2]
  rw [if_neg (by decide), if_neg (by decide)]
  refine wpAny_bind ?_
  show wpAny _ _ (pure PUnit.unit) _ _ _
  refine wpAny_pure (wpAny_bind ?_)
  unfold Builtin.Re.reRawItems
  refine wpAny_bind (wpAny_seqItems ho' hd' (wpAny_pure (wpAny_pure ?_)))
  have e1 : min (Int.toNat 0) x.cps.size = 0 := by simp
  have e2 : min (2 ^ 63 - 1 : Int).toNat x.cps.size = x.cps.size := by
    have : x.cps.size = x.length := rfl
    omega
  rw [e1, e2]
  have e3 : Array.map (fun x => x.toNat) (Array.map Builtin.Re.reRawOf ((some vs).getD #[])) = code := hc
  rw [e3]
  exact h
theorem meets_search {a : Addr} {x : Str} {t : Tok} {code : Array Nat} {groups : Int} (hz : x.length ≤ 1000) (hn : ((Sre.forSearch code x.cps groups.toNat 0 x.cps.size false).runFor 1).outcome = some .failed) :
    Meets (Builtin.«re.Pattern.search» ⟨[.ref a, .str x t], []⟩) (fun _ R s => PatAt s.heap a code groups 0 ∧ R (.ok (.ret .none)) s) := by
  refine .of_wp fun prog w A R s hS => ?_
  obtain ⟨P, hR⟩ := hS
  unfold Builtin.«re.Pattern.search»
  refine wpAny_bind (target_str P hz ?_)
  dsimp only
  unfold Builtin.Re.reAnswer
  refine wpAny_bind (toEnd (N := 1) (by decide) (.inl ⟨hn, ?_⟩))
  exact wpAny_pure ⟨_, rfl, hR⟩
section
variable {c : Cx} {n : Nat}
theorem fn_search {a : Addr} {code : Array Nat} {g : Int} {x : Str} (P : PatObj c a code g 0) (hz : x.length ≤ 1000) (hf : ((match Sre.ops[code.getD 0 0]? with | some .INFO => true | _ => false) && code.getD 2 0 == 4) = true)
    (hs : ∀ i, i < x.cps.size → ∀ seen, ∃ sn, Sre.inSet code (x.cps.getD i 0) code.size 5 true seen = .ok (false, sn)) : Fn c n (.builtin "re.Pattern.search") [.adr a, .str x] .none := by
  intro X A E s vs Q R G r hQ
  obtain ⟨v, u, rfl, q, p⟩ := reps2 r
  cases q; cases p
  have PA := P _ G.k
  have hT : s.TypeIs (.ref a) "re.Pattern" := by obtain ⟨o, fs, tu, ho, hc, _⟩ := PA; exact ⟨_, ho, hc⟩
  exact call_meets slot_pat_search hT entry_pat_search (args_pat_search_2 _ _) (meets_search hz (search_none hf hs)) ⟨PA, hQ _ _ (keeps_refl s) .none⟩
theorem fn_search_name {x : Str} (P : PatObj c 48 nameCode 0 0) (hz : x.length ≤ 1000) (hx : Seen1 x) : Fn c n (.builtin "re.Pattern.search") [.adr 48, .str x] .none :=
  fn_search P hz rfl fun i hi => name_in _ (hx i hi)
theorem fn_search_val {x : Str} (P : PatObj c 53 valCode 0 0) (hz : x.length ≤ 1000) (hx : Seen1 x) : Fn c n (.builtin "re.Pattern.search") [.adr 53, .str x] .none :=
  fn_search P hz rfl fun i hi => val_in _ (hx i hi)
theorem mth_search {a : Addr} {code : Array Nat} {g k : Int} (P : PatObj c a code g k) : Mth c (.adr a) (S "search") (.builtin "re.Pattern.search") :=
  mth_of (fun X s v G r => by
    cases r
    obtain ⟨o, fs, tu, ho, hc, hd, _⟩ := P _ G.k
    exact ⟨⟨_, ho, hc⟩, fun a' e => by cases e; exact ⟨_, ho, hd⟩⟩) plainAttrs_pat slot_pat_search type_pat_search
theorem mth_match {a : Addr} {code : Array Nat} {g k : Int} (P : PatObj c a code g k) : Mth c (.adr a) (S "match") (.builtin "re.Pattern.match") :=
  mth_of (fun X s v G r => by
    cases r
    obtain ⟨o, fs, tu, ho, hc, hd, _⟩ := P _ G.k
    exact ⟨⟨_, ho, hc⟩, fun a' e => by cases e; exact ⟨_, ho, hd⟩⟩) plainAttrs_pat slot_pat_match type_pat_match
end
end Mine
end
section
open PySem PySem.W PyProof.Rows PySem.Calls
set_option maxRecDepth 100000
namespace Mine
section
variable {c : Cx} {n : Nat} {sc : Scope} {ρ : Loc} {pos : Pos} {d : D}
theorem ev_adr {e : PySem.Expr} {a : Addr} (h : EvV c n sc ρ e (.ref a)) : Ev c n sc ρ e (.adr a) := by
  intro X A E s env Q R G he F hQ
  exact h X A E s env _ R G he F fun s' k => hQ _ s' k (.adr a)
/-- type(e) is T -/
theorem tst_type {idp tp ip cp : Pos} {e : PySem.Expr} {T : String} {tn : Str} (ht : EvV c n sc ρ (.Name (S "type") idp) (.type "type")) (hn : EvV c n sc ρ (.Name tn tp) (.type T))
    (h : EvAll c n sc ρ [e] [d]) (hd : ∀ (X : Addr → Prop) (s : Shared) (v : Value), Rep X s.heap v d → s.TypeIs v T) (hb : (Value.type T == Value.type "builtin_function_or_method") = false) :
    Tst c n sc ρ (.Compare (.Call (.Name (S "type") idp) [e] [] ip) [.Is] [.Name tn tp] cp) true := by
  intro X A E s env Q R G he F hQ
  refine wpAny_isTrue_Compare1 ?_ rfl
  refine wpAny_Call_Name_kw (ht X A E s env _ R G he F fun s₀ k₀ => ?_)
  refine callWith_raw (first := []) (ds := [d]) (keepF_type _) h X A E s₀ env _ R (G.keeps (keeps_heap k₀)) he (F.keeps (keeps_heap k₀)) fun s₁ vs k₁ rs => ?_
  obtain ⟨v, rfl, q⟩ := reps1 rs
  refine call_type_of (hd X s₁ v q) hb ?_
  have k01 := keeps_trans k₀ k₁
  refine hn X A E s₁ env _ R (G.keeps (keeps_heap k01)) he (F.keeps (keeps_heap k01)) fun s₂ k₂ => ?_
  refine wpAny_is_self ?_ (wpAny_truthy_bool (hQ s₂ (keeps_trans k01 k₂)))
  rfl
end
noncomputable abbrev cvS : Scope := scopeOf (mthAt 1)
theorem at_conv {c : Cx} (H : MObj c (mthAt 1) 83 (S "Headers._convert_string_type") .none) : ∃ fd, FnAtK c 83 fd (bodyOf (mthAt 1)) [S "self", S "value", S "name"] 2 [S "name"] ∧ fd.scope = cvS :=
  m_atK H _ 2 [S "name"] (fun pm => bind3 fun a b d => by rfl) (by decide) (by decide) (by decide) (by decide) rfl rfl rfl rfl
/-- what the top binds, as the class wants it -/
structure HGlo (c : Cx) : Prop where
  typ : c.mg (S "type") = none
  str : c.mg (S "str") = none
  lst : c.mg (S "list") = none
  nre : c.mg (S "_name_disallowed_re") = some (.ref 48)
  vre : c.mg (S "_value_disallowed_re") = some (.ref 53)
  np : PatObj c 48 nameCode 0 0
  vp : PatObj c 53 valCode 0 0
  cls : HObj c
  conv : MObj c (mthAt 1) 83 (S "Headers._convert_string_type") .none
theorem fn_conv {c : Cx} (H : HGlo c) {n : Nat} {d₀ : D} {x : Str} {b : Bool} (hz : x.length ≤ 1000) (hx : Seen1 x) : FnK c (n + 1) (.ref 83) 2 [S "name"] [d₀, .str x, .bool b] (.str x) := by
  refine fnK_of (out := .ret _) (os := []) (at_conv H.conv) rfl ?_
  refine ex_ret (ex1_if (b := true) (tst_type (d := .str x) (ev_builtin rfl H.typ (by rfl)) (ev_builtin rfl H.str (by rfl)) (.cons' (ev_local rfl rfl) .nil) (fun X s v r => by cases r; exact typeIs_str _ _ _) (by decide)) (fun _ => ?_) (fun h => nomatch h))
  cases b with
  | true =>
    refine ex_cons (ρ' := (S "regex", .adr 48) :: _) (ex1_assign' (ev_if (b := true) (tst_plain (ev_local rfl rfl) tru_bool) (fun _ => ev_adr (ev_global rfl H.nre)) (fun h => nomatch h)) (sto_local rfl (by decide)) (fun env he => by rfl)) ?_
    refine ex_cons (ex1_if (b := false) (tst_plain (ev_meth (d₀ := .adr 48) (ev_local rfl rfl) (mth_search H.np) (keepF_builtin _) (.cons' (ev_local rfl rfl) .nil) (fn_search_name H.np hz hx)) tru_none) (fun h => nomatch h) (fun _ => ex_nil)) (ex_ret (ex1_return (ev_local rfl rfl)))
  | false =>
    refine ex_cons (ρ' := (S "regex", .adr 53) :: _) (ex1_assign' (ev_if (b := false) (tst_plain (ev_local rfl rfl) tru_bool) (fun h => nomatch h) (fun _ => ev_adr (ev_global rfl H.vre))) (sto_local rfl (by decide)) (fun env he => by rfl)) ?_
    refine ex_cons (ex1_if (b := false) (tst_plain (ev_meth (d₀ := .adr 53) (ev_local rfl rfl) (mth_search H.vp) (keepF_builtin _) (.cons' (ev_local rfl rfl) .nil) (fn_search_val H.vp hz hx)) tru_none) (fun h => nomatch h) (fun _ => ex_nil)) (ex_ret (ex1_return (ev_local rfl rfl)))
end Mine
end
section
open PySem PySem.W PyProof.Rows PySem.Calls
set_option maxRecDepth 100000
namespace Mine
section
variable {c : Cx} {n : Nat} {sc : Scope} {ρ : Loc}
theorem ev_slice_listA {e : PySem.Expr} {l u t : Option PySem.Expr} {lo hi st : Option Int} {ds : List D} {p pos : Pos} (he : Ev c n sc ρ e (.lst ds)) (hl : PEv c n sc ρ l lo) (hu : PEv c n sc ρ u hi) (ht : PEv c n sc ρ t st)
    (h0 : st ≠ some 0 := by decide) (hz : ds.length ≤ sizeLine := by first | assumption | (rw [sizeLine_eq]; omega))
    (hix : CutIx (.Slice l u t p) := by intro _ _; exact ⟨_, by with_unfolding_all rfl⟩) : Ev c n sc ρ (.Subscript e (.Slice l u t p) pos) (.lst (pickD ds lo hi st)) := by
  intro X A E s env Q R G hs F hQ
  refine Subscript_ (he X A E s env _ R G hs F fun v₁ s₁ k₁ r₁ => wpAny_Slice ?_)
  refine hl X A E s₁ env _ R (G.keeps (keeps_heap k₁)) hs (F.keeps (keeps_heap k₁)) fun vl s₂ k₂ pl => ?_
  have k₂' := keeps_trans k₁ k₂
  refine hu X A E s₂ env _ R (G.keeps (keeps_heap k₂')) hs (F.keeps (keeps_heap k₂')) fun vu s₃ k₃ pu => ?_
  have k₃' := keeps_trans k₂' k₃
  refine ht X A E s₃ env _ R (G.keeps (keeps_heap k₃')) hs (F.keeps (keeps_heap k₃')) fun vt s₄ k₄ pt => ?_
  have k₄' := keeps_trans k₃' k₄
  have r₁' := r₁.keeps (keeps_heap (keeps_trans k₂ (keeps_trans k₃ k₄)))
  obtain ⟨_, _, rfl, hx, hl, rs⟩ := rep_inv r₁'
  rename_i a vs
  refine tail_any (Heap.IsList.typeIs (s := { s₄ with heap := s₄.heap.push { cls := .type "slice", data := .fields #[vl, vu, vt] } }) (hl.push _)) list_getitem_lookup
    (wpAny_getItem_list_slice (hl.push _) (Heap.IsSliceOf.new ..) pl pu pt h0 ?_ (by rw [List.size_toArray, rs.length]; exact hz)) (hix _ _).choose_spec
  have kk : KeepsH s₄.heap ((s₄.heap.push { cls := .type "slice", data := .fields #[vl, vu, vt] }).push { cls := .type "list", data := .seq (slicePick vs.toArray lo hi st) }) := (KeepsH.push _ _).trans (KeepsH.push _ _)
  refine hQ _ _ (keeps_trans k₄' ⟨_, _, rfl, kk⟩) (.lst ((G.keeps ((keeps_heap k₄').trans (KeepsH.push s₄.heap _))).new) (vs := (slicePick vs.toArray lo hi st).toList) ⟨_, Heap.get?_push_size _ rfl, rfl, _, by rw [Array.toArray_toList]⟩ ((rs.pick lo hi st).keeps kk))
end
theorem pick_all5 : ∀ ds : List D, ds.length = 5 → pickD ds none none none = ds
  | [a, b, d, e, f], _ => by
    have e1 : sliceRange (sliceBounds none none none 5).1 (sliceBounds none none none 5).2.1 (sliceBounds none none none 5).2.2 = [0, 1, 2, 3, 4] := by decide +kernel
    show (sliceRange (sliceBounds none none none 5).1 (sliceBounds none none none 5).2.1 (sliceBounds none none none 5).2.2).filterMap _ = _
    rw [e1]; rfl
/-- a line of the table: name and word -/
noncomputable abbrev Hd := Str × Str
noncomputable def hdD (p : Hd) : D := .tup [.str p.1, .str p.2]
noncomputable def D.toHd : D → Hd
  | .tup [.str a, .str b] => (a, b)
  | _ => (default, default)
noncomputable def tblD (rows : List Hd) : D := .tbl (rows.map hdD)
theorem at_items {c : Cx} (H : MObj c (mthAt 11) 146 (S "Headers.items") .none) : ∃ fd, FnAt c 146 fd (bodyOf (mthAt 11)) [S "self"] ∧ fd.scope = scopeOf (mthAt 11) :=
  m_at H _ (fun pm => bind1 (α := Unit) fun a => by rfl) (by decide) (by decide) (by decide) (by decide) rfl rfl rfl rfl
theorem fn_items {c : Cx} (H : HGlo c) (Hi : MObj c (mthAt 11) 146 (S "Headers.items") .none) {n : Nat} {rows : List Hd} (h5 : rows.length = 5) : Fn c (n + 1) (.ref 146) [tblD rows] (.lst (rows.map hdD)) := by
  refine fn_of (out := .ret _) (os := []) (at_items Hi) rfl ?_
  refine ex_ret (ex1_return ?_)
  rw [← pick_all5 (rows.map hdD) (by rw [List.length_map]; exact h5)]
  exact ev_slice_listA (ds := rows.map hdD) (ev_hdr_tbl H.cls (ev_local rfl rfl)) pe_none pe_none pe_none (by decide) (by rw [sizeLine_eq, List.length_map]; omega)
theorem at_keys {c : Cx} (H : MObj c (mthAt 9) 134 (S "Headers.keys") .none) : ∃ fd, FnAt c 134 fd (bodyOf (mthAt 9)) [S "self"] ∧ fd.scope = scopeOf (mthAt 9) :=
  m_at H _ (fun pm => bind1 (α := Unit) fun a => by rfl) (by decide) (by decide) (by decide) (by decide) rfl rfl rfl rfl
theorem fn_keys {c : Cx} (H : HGlo c) (Hi : MObj c (mthAt 9) 134 (S "Headers.keys") .none) {n : Nat} {rows : List Hd} (h5 : rows.length ≤ 5) : Fn c (n + 1) (.ref 134) [tblD rows] (.lst (rows.map fun p => .str p.1)) := by
  refine fn_of (out := .ret _) (os := []) (at_keys Hi) rfl ?_
  refine ex_ret (ex1_return ?_)
  refine ev_compM (ρf := []) hdD D.toHd (fun _ => rfl) rows [] (fun p => .str p.1) (fun p => [(S "v", .str p.2), (S "k", .str p.1)]) ?S (src_list (ev_hdr_tbl H.cls (ev_local rfl rfl)) (.inr ⟨_, _, _, rfl⟩)) ?asg ?elt (by omega)
  case S => exact compSc_of trivial [] rfl
  case asg => intro p _; exact asg_pair (sto_local rfl (by decide)) (sto_local rfl (by decide))
  case elt => intro p _; exact ev_local rfl rfl
theorem at_getall {c : Cx} (H : MObj c (mthAt 7) 121 (S "Headers.get_all") .none) : ∃ fd, FnAt c 121 fd (bodyOf (mthAt 7)) [S "self", S "name"] ∧ fd.scope = scopeOf (mthAt 7) :=
  m_at H _ (fun pm => bind2 fun a b => by rfl) (by decide) (by decide) (by decide) (by decide) rfl rfl rfl rfl
noncomputable def getAll (rows : List Hd) (x : Str) : List Str := (rows.filter fun p => Txt.lower p.1 == Txt.lower x).map (·.2)
theorem fn_getall {c : Cx} (H : HGlo c) (Hi : MObj c (mthAt 7) 121 (S "Headers.get_all") .none) {n : Nat} {rows : List Hd} {x : Str} (h5 : rows.length ≤ 5) (hz : ∀ p ∈ rows, p.1.length ≤ 1000) (hx : x.length ≤ 1000) (hx' : (Txt.lower x).length ≤ 1000) (hs : Seen1 (Txt.lower x)) :
    Fn c (n + 2) (.ref 121) [tblD rows, .str x] (.lst ((getAll rows x).map .str)) := by
  refine fn_of (out := .ret _) (os := [S "name"]) (at_getall Hi) rfl ?_
  refine ex_cons (ρ' := (S "name", .str (Txt.lower x)) :: _) (ex1_assign' (ev_methK (d₀ := tblD rows) (de := .str (Txt.lower x)) (kds := [.bool true]) (ev_local rfl rfl) (mth_tbl H.cls H.conv _) H.conv.keepF ?low (.cons ev_bool .nil) (fn_conv H hx' hs)) (sto_cell rfl (by decide)) (noSwap_cell rfl)) (ex_ret (ex1_return ?_))
  case low => exact ev_meth (d₀ := .str x) (ev_cell rfl rfl) mth_lower (keepF_builtin _) .nil (fn_lower hx)
  unfold getAll
  rw [List.map_map]
  refine ev_compT (ρf := [(S "name", .str (Txt.lower x))]) hdD D.toHd (fun _ => rfl) rows [] (fun p => Txt.lower p.1 == Txt.lower x) (fun p => .str p.2) (fun p => [(S "kv", hdD p)]) ?S (src_list (ev_hdr_tbl H.cls (ev_local rfl rfl)) (.inl (by intro _ _; rfl))) ?asg ?tst ?elt (by omega)
  case S => exact compSc_of ⟨rfl, trivial⟩ [S "name"] rfl
  case asg => intro p _; exact asg_name (sto_local rfl (by decide))
  case tst =>
    intro p hp
    exact .one (tst_cmp (ev_meth (d₀ := .str p.1) (ev_item_tup (ds := [.str p.1, .str p.2]) (ev_local rfl rfl) ev_int (by decide) rfl) mth_lower (keepF_builtin _) .nil (fn_lower (hz p hp))) (ev_cell rfl rfl) cmp_eq_str)
  case elt => intro p hp _; exact ev_item_tup (ds := [.str p.1, .str p.2]) (ev_local rfl rfl) ev_int (by decide) rfl
end Mine
end
section
open PySem PySem.W PyProof.Rows PySem.Calls
set_option maxRecDepth 100000
namespace Mine
section
variable {c : Cx} {n : Nat} {sc : Scope} {ρ : Loc} {α : Type}
theorem ex1_assignCompTP {elt t iter : PySem.Expr} {ifs : List PySem.Expr} {scope : Scope} {pos spos py : Pos} {y : Str} {ρf : Loc} (f : α → D) (inv : D → α) (hi : ∀ a, inv (f a) = a) (l : List α) (os os' : List Str) (p : α → Bool) (g : α → D) (tb : α → Loc)
    (S : CompSc sc scope ρ ρf os) (hsrc : Srcs c n sc ρ iter t (l.map f)) (hasg : ∀ a ∈ l, Asg c n os (relab scope sc) ρf t (f a) (tb a))
    (htest : ∀ a ∈ l, Tests c n (relab scope sc) (tb a ++ ρf) ifs (p a)) (helt : ∀ a ∈ l, p a = true → Ev c n (relab scope sc) (tb a ++ ρf) elt (g a)) (hsz : l.length ≤ 1000)
    (hst : Sto c n os' sc ρ y (.pls ((l.filter p).map g)))
    (hsw : ∀ env : Env, env.scope = sc → swapsWith (.ListComp elt [⟨t, iter, ifs, 0⟩] scope pos) (some (.Name y py)) spos.line env = pure true)
    (hfs : ∀ env x, foldedSetIterable iter env x = pure x := by intro _ _; rfl) :
    Ex1 c n os' sc ρ (.Assign [.Name y py] (.ListComp elt [⟨t, iter, ifs, 0⟩] scope pos) spos) (.next ((y, .pls ((l.filter p).map g)) :: ρ)) := by
  rw [← fm f inv hi p g l] at hst ⊢
  have hm : ∀ d ∈ l.map f, ∃ a ∈ l, d = f a := fun d hd => by obtain ⟨a, ha, rfl⟩ := List.mem_map.mp hd; exact ⟨a, ha, rfl⟩
  refine ex1_assignCompP (fun d => p (inv d)) (fun d => g (inv d)) (fun d => tb (inv d)) S hsrc (fun d hd => ?_) (fun d hd => ?_) (fun d hd hp => ?_) (by rw [List.length_map, sizeLine_eq]; omega) hst hsw hfs
  · obtain ⟨a, ha, rfl⟩ := hm d hd; rw [hi]; exact hasg a ha
  · obtain ⟨a, ha, rfl⟩ := hm d hd; rw [hi]; exact htest a ha
  · obtain ⟨a, ha, rfl⟩ := hm d hd; rw [hi] at hp ⊢; exact helt a ha hp
theorem ex1_assignCompMP {elt t iter : PySem.Expr} {scope : Scope} {pos spos py : Pos} {y : Str} {ρf : Loc} (f : α → D) (inv : D → α) (hi : ∀ a, inv (f a) = a) (l : List α) (os os' : List Str) (g : α → D) (tb : α → Loc)
    (S : CompSc sc scope ρ ρf os) (hsrc : Srcs c n sc ρ iter t (l.map f)) (hasg : ∀ a ∈ l, Asg c n os (relab scope sc) ρf t (f a) (tb a))
    (helt : ∀ a ∈ l, Ev c n (relab scope sc) (tb a ++ ρf) elt (g a)) (hsz : l.length ≤ 1000)
    (hst : Sto c n os' sc ρ y (.pls (l.map g)))
    (hsw : ∀ env : Env, env.scope = sc → swapsWith (.ListComp elt [⟨t, iter, [], 0⟩] scope pos) (some (.Name y py)) spos.line env = pure true)
    (hfs : ∀ env x, foldedSetIterable iter env x = pure x := by intro _ _; rfl) :
    Ex1 c n os' sc ρ (.Assign [.Name y py] (.ListComp elt [⟨t, iter, [], 0⟩] scope pos) spos) (.next ((y, .pls (l.map g)) :: ρ)) := by
  have := ex1_assignCompTP (os' := os') f inv hi l os (p := fun _ => true) (g := g) (tb := tb) S hsrc hasg (fun _ _ => .nil) (fun a ha _ => helt a ha) hsz (by rw [filter_all]; exact hst) hsw hfs
  rwa [filter_all] at this
end
noncomputable def D.toStr : D → Str
  | .str x => x
  | _ => default
noncomputable abbrev dash : Str := Str.ofString "-"
noncomputable def cntK (keys : List Str) (k : Str) : Int := ((keys.filter (· == k)).length : Int)
noncomputable def lowK (k : Str) : Bool := !(k == dash) && k == Txt.lower k
noncomputable def fewStep (keys : List Str) (away : Int) (x : Int × Int) (k : Str) : Int × Int :=
  (x.1 - cntK keys k + cntK keys (Txt.upper k), bestI false [x.2, x.1 - cntK keys k + cntK keys (Txt.upper k), away - (x.1 - cntK keys k + cntK keys (Txt.upper k))])
noncomputable def fewestI (keys names : List Str) : Int :=
  cntK keys dash + (names.foldl (fewStep keys ((keys.length : Int) - cntK keys dash)) (((keys.filter lowK).length : Int), bestI false [((keys.filter lowK).length : Int), (keys.length : Int) - cntK keys dash - ((keys.filter lowK).length : Int)])).2
noncomputable abbrev fewS : Scope := scopeOf (stmtAt 27)
theorem at_few {c : Cx} (H : FnObj c (stmtAt 27) 289) : ∃ fd, FnAt c 289 fd (bodyOf (stmtAt 27)) [S "table", S "names"] ∧ fd.scope = scopeOf (stmtAt 27) :=
  fn_at H _ (fun pm => bind2 fun a b => by rfl) (by decide) (by decide) (by decide) (by decide) rfl rfl rfl rfl
/-- one turn of the walk by the names -/
noncomputable def fewTurn (keys : List Str) (away : Int) (d : D) (ρ : Loc) : Out :=
  match d, ρ with
  | .str k, (x, .int l) :: (y, .int h) :: r => .next ((x, .int (fewStep keys away (h, l) k).2) :: (y, .int (fewStep keys away (h, l) k).1) :: r)
  | _, ρ => .next ρ
theorem few_out (keys : List Str) (away : Int) (x y : Str) (r : Loc) : ∀ (names : List Str) (h l : Int),
    forOut (fewTurn keys away) (names.map .str) ((x, .int l) :: (y, .int h) :: r) = .next ((x, .int (names.foldl (fewStep keys away) (h, l)).2) :: (y, .int (names.foldl (fewStep keys away) (h, l)).1) :: r)
  | [], h, l => rfl
  | k :: names, h, l => by
    rw [List.map_cons, forOut]
    exact few_out keys away x y r names _ _
theorem weak_two {a b z : Str} {va vb vz wa wb : D} {r : Loc} (hz : r.lookup z = none) : ∀ x d, List.lookup x ((a, va) :: (b, vb) :: r) = some d → List.lookup x ((a, va) :: (b, vb) :: (z, vz) :: (a, wa) :: (b, wb) :: r) = some d := by
  intro x d h
  by_cases h1 : x = a
  · subst h1; rw [lookup_cons_self] at h ⊢; exact h
  · rw [lookup_cons_ne h1] at h ⊢
    by_cases h2 : x = b
    · subst h2; rw [lookup_cons_self] at h ⊢; exact h
    · rw [lookup_cons_ne h2] at h ⊢
      rw [lookup_cons_ne (by rintro rfl; rw [hz] at h; cases h), lookup_cons_ne h1, lookup_cons_ne h2]
      exact h
theorem fn_few {c : Cx} (G : HGlo c) (H : FnObj c (stmtAt 27) 289) (Hi : MObj c (mthAt 11) 146 (S "Headers.items") .none) (hl : c.mg (S "len") = none) (hm : c.mg (S "min") = none) {n : Nat} {rows : List Hd} {names : List Str}
    (h5 : rows.length = 5) (hz : ∀ p ∈ rows, p.1.length ≤ 1000) (hn : ∀ x ∈ names, x.length ≤ 1000) : Fn c (n + 2) (.ref 289) [tblD rows, .lst (names.map .str)] (.int (fewestI (rows.map (·.1)) names)) := by
  refine fn_of (out := .ret _) (os := []) (at_few H) rfl ?_
  have hk : ∀ k ∈ rows.map (·.1), k.length ≤ 1000 := fun k hk => by obtain ⟨p, hp, rfl⟩ := List.mem_map.mp hk; exact hz p hp
  have hk5 : (rows.map (·.1)).length = 5 := by rw [List.length_map]; exact h5
  refine ex_cons (ρ' := (S "rows", .pls ((rows.map (·.1)).map .str)) :: [S "table", S "names"].zip [tblD rows, .lst (names.map .str)]) ?s1 ?_
  case s1 =>
    rw [List.map_map]
    refine ex1_assignCompMP (ρf := []) hdD D.toHd (fun _ => rfl) rows [] [] (fun p => .str p.1) (fun p => [(S "word", .str p.2), (S "key", .str p.1)]) ?S (src_list (ev_meth (d₀ := tblD rows) (ev_local rfl rfl) (mth_tbl G.cls Hi _) Hi.keepF .nil (fn_items G Hi h5)) (.inr ⟨_, _, _, rfl⟩)) ?asg ?elt (by omega) (sto_local rfl (by decide)) (swap_local rfl rfl rfl (by decide))
    case S => exact compSc_of trivial [] rfl
    case asg => intro p _; exact asg_pair (sto_local rfl (by decide)) (sto_local rfl (by decide))
    case elt => intro p _; exact ev_local rfl rfl
  generalize hkeys : rows.map (·.1) = keys at *
  have lenF : ∀ (p : Str → Bool) (n : Nat), Fn c n (.builtin "len") [.lst ((keys.filter p).map .str)] (.int ((keys.filter p).length : Int)) := fun p n => by
    have := fn_len (c := c) (n := n) (ds := (keys.filter p).map .str) (by rw [List.length_map]; have := List.length_filter_le p keys; omega)
    rwa [List.length_map] at this
  have lenA : ∀ (n : Nat), Fn c n (.builtin "len") [.lst (keys.map .str)] (.int (keys.length : Int)) := fun n => by
    have := fn_len (c := c) (n := n) (ds := keys.map .str) (by rw [List.length_map]; omega)
    rwa [List.length_map] at this
  refine ex_cons (ρ' := (S "here", .int (cntK keys dash)) :: _) (ex1_assign' (ev_call (ev_builtin rfl hl (by rfl)) (keepF_builtin _) (.cons' (ev_compT (ρf := []) .str D.toStr (fun _ => rfl) keys [] (fun k => k == dash) .str (fun k => [(S "key", .str k)]) ?S2 (src_list (ev_pls (ev_local rfl rfl)) (.inl (by intro _ _; rfl))) ?asg2 ?tst2 ?elt2 (by omega)) .nil) (lenF _ _)) (sto_local rfl (by decide)) (fun env he => by rfl)) ?_
  case S2 => exact compSc_of trivial [] rfl
  case asg2 => intro p _; exact asg_name (sto_local rfl (by decide))
  case tst2 => intro p _; exact .one (tst_cmp (ev_local rfl rfl) ev_str cmp_eq_str)
  case elt2 => intro p _ _; exact ev_local rfl rfl
  refine ex_cons (ρ' := (S "away", .int ((keys.length : Int) - cntK keys dash)) :: _) (ex1_assign' (ev_bin (ev_call (ev_builtin rfl hl (by rfl)) (keepF_builtin _) (.cons' (ev_pls (ev_local rfl rfl)) .nil) (lenA _)) (ev_local rfl rfl) bin_sub) (sto_local rfl (by decide)) (fun env he => by rfl)) ?_
  refine ex_cons (ρ' := (S "half", .int ((keys.filter lowK).length : Int)) :: _) (ex1_assign' (ev_call (ev_builtin rfl hl (by rfl)) (keepF_builtin _) (.cons' (ev_compT (ρf := []) .str D.toStr (fun _ => rfl) keys [] lowK .str (fun k => [(S "key", .str k)]) ?S3 (src_list (ev_pls (ev_local rfl rfl)) (.inl (by intro _ _; rfl))) ?asg3 ?tst3 ?elt3 (by omega)) .nil) (lenF _ _)) (sto_local rfl (by decide)) (fun env he => by rfl)) ?_
  case S3 => exact compSc_of trivial [] rfl
  case asg3 => intro p _; exact asg_name (sto_local rfl (by decide))
  case tst3 => intro p hp; exact .one (tst_and (tst_cmp (ev_local rfl rfl) ev_str cmp_ne_str) (fun _ => tst_cmp (ev_local rfl rfl) (ev_meth (d₀ := .str p) (ev_local rfl rfl) mth_lower (keepF_builtin _) .nil (fn_lower (hk p hp))) cmp_eq_str))
  case elt3 => intro p _ _; exact ev_local rfl rfl
  unfold fewestI
  generalize ((keys.length : Int) - cntK keys dash) = away
  generalize ((keys.filter lowK).length : Int) = half
  generalize hhere : cntK keys dash = here
  refine ex_cons (ρ' := (S "least", .int (bestI false [half, away - half])) :: _) (ex1_assign' (ev_call (ev_builtin rfl hm (by rfl)) (keepF_builtin _) (.cons' (ev_local rfl rfl) (.cons' (ev_bin (ev_local rfl rfl) (ev_local rfl rfl) bin_sub) .nil)) fn_min2) (sto_local rfl (by decide)) (fun env he => by rfl)) ?_
  generalize bestI false [half, away - half] = least
  have hout := few_out keys away (S "least") (S "half") ((S "away", .int away) :: (S "here", .int here) :: (S "rows", .pls (keys.map .str)) :: [S "table", S "names"].zip [tblD rows, .lst (names.map .str)]) names half least
  refine ex_cons (ρ' := (S "least", .int (names.foldl (fewStep keys away) (half, least)).2) :: (S "half", .int (names.foldl (fewStep keys away) (half, least)).1) :: ((S "away", .int away) :: (S "here", .int here) :: (S "rows", .pls (keys.map .str)) :: [S "table", S "names"].zip [tblD rows, .lst (names.map .str)])) ?loop (ex_ret (ex1_return (ev_bin (ev_local rfl rfl) (ev_local rfl rfl) bin_add)))
  rw [← hout]
  refine ex1_for (fewTurn keys away) (fun ds ρ => ∃ (ms : List Str) (h l : Int), (∀ x ∈ ms, x ∈ names) ∧ ds = ms.map .str ∧ ρ = (S "least", .int l) :: (S "half", .int h) :: ((S "away", .int away) :: (S "here", .int here) :: (S "rows", .pls (keys.map .str)) :: [S "table", S "names"].zip [tblD rows, .lst (names.map .str)])) (src_list (ev_local rfl rfl) (.inl (by intro _ _; rfl))) ⟨names, half, least, fun _ h => h, rfl, rfl⟩ ?_
  rintro d r ρ ⟨ms, h, l, hms, hds, rfl⟩
  cases ms with
  | nil => cases hds
  | cons k ms =>
    rw [List.map_cons] at hds
    obtain ⟨rfl, rfl⟩ := List.cons.inj hds
    refine ⟨⟨[(S "name", .str k)], asg_name (sto_local rfl (by decide)), ?_⟩, fun ρ' hρ => ⟨ms, _, _, fun x hx => hms x (.tail _ hx), rfl, (Out.next.inj hρ).symm⟩⟩
    have hkl := hn k (hms k (.head _))
    refine ex_out (ρ₁ := (S "least", .int (fewStep keys away (h, l) k).2) :: (S "half", .int (fewStep keys away (h, l) k).1) :: (S "name", .str k) :: (S "least", .int l) :: (S "half", .int h) :: ((S "away", .int away) :: (S "here", .int here) :: (S "rows", .pls (keys.map .str)) :: [S "table", S "names"].zip [tblD rows, .lst (names.map .str)])) ?_ ?_
    · refine ex_cons (ρ' := (S "half", .int (fewStep keys away (h, l) k).1) :: (S "name", .str k) :: _) (ex1_assign' (ev_bin (ev_bin (ev_local rfl rfl) (ev_meth (d₀ := .pls (keys.map .str)) (ev_local rfl rfl) mth_count (keepF_builtin _) (.cons' (ev_local rfl rfl) .nil) fn_count) bin_sub) (ev_meth (d₀ := .pls (keys.map .str)) (ev_local rfl rfl) mth_count (keepF_builtin _) (.cons' (ev_meth (d₀ := .str k) (ev_local rfl rfl) mth_upper (keepF_builtin _) .nil (fn_upper hkl)) .nil) fn_count) bin_add) (sto_local rfl (by decide)) (fun env he => by rfl)) ?_
      refine ex_cons (ρ' := (S "least", .int (fewStep keys away (h, l) k).2) :: _) (ex1_assign' (ev_call (ev_builtin rfl hm (by rfl)) (keepF_builtin _) (.cons' (ev_local rfl rfl) (.cons' (ev_local rfl rfl) (.cons' (ev_bin (ev_local rfl rfl) (ev_local rfl rfl) bin_sub) .nil))) fn_min3) (sto_local rfl (by decide)) (fun env he => by rfl)) ex_nil
    · exact weak_two rfl
end Mine
end
section
open PySem PySem.W PyProof.Rows PySem.Calls
set_option maxRecDepth 100000
namespace Mine
noncomputable def eqF (a b : UInt64) : Bool := Float64.cmp a b == some Ordering.eq
noncomputable def leF (a b : UInt64) : Bool := Float64.cmp a b == some Ordering.lt || Float64.cmp a b == some Ordering.eq
noncomputable def bestF (gt : Bool) (fs : List UInt64) : UInt64 := fs.getD (argBest (fun i j => if gt then Float64.cmp (fs.getD i 0) (fs.getD j 0) == some Ordering.gt else Float64.cmp (fs.getD i 0) (fs.getD j 0) == some Ordering.lt) (fs.length - 1)) 0
section
variable {c : Cx} {n : Nat}
theorem bin_addf {a b : UInt64} : Bin c n .Add (.float a) (.float b) (.float (Float64.add a b)) := by
  intro X A E s v₁ v₂ Q R G r₁ r₂ h
  obtain ⟨_, rfl⟩ := rep_inv r₁; obtain ⟨_, rfl⟩ := rep_inv r₂
  exact add_float (h _ _ (keeps_tok s _) (.float _ _))
theorem bin_subf {a b : UInt64} : Bin c n .Sub (.float a) (.float b) (.float (Float64.sub a b)) := by
  intro X A E s v₁ v₂ Q R G r₁ r₂ h
  obtain ⟨_, rfl⟩ := rep_inv r₁; obtain ⟨_, rfl⟩ := rep_inv r₂
  exact sub_float (h _ _ (keeps_tok s _) (.float _ _))
theorem bin_divf {a b : UInt64} (hz : Float64.isZero b = false) : Bin c n .Div (.float a) (.float b) (.float (Float64.div a b)) := by
  intro X A E s v₁ v₂ Q R G r₁ r₂ h
  obtain ⟨_, rfl⟩ := rep_inv r₁; obtain ⟨_, rfl⟩ := rep_inv r₂
  exact truediv_float_or R.handled (fun hb => by rw [hz] at hb; cases hb) fun _ => h _ _ (keeps_tok s _) (.float _ _)
theorem bin_modf {a b : UInt64} (hz : Float64.isZero b = false) : Bin c n .Mod (.float a) (.float b) (.float (Float64.divmod a b).2) := by
  intro X A E s v₁ v₂ Q R G r₁ r₂ h
  obtain ⟨_, rfl⟩ := rep_inv r₁; obtain ⟨_, rfl⟩ := rep_inv r₂
  exact PySem.Flt.mod_ff R.handled (fun hb => by rw [hz] at hb; cases hb) fun _ => h _ _ (keeps_tok s _) (.float _ _)
theorem bin_mulfi {a : UInt64} {k : Int} (hk : k.natAbs < 1000) : Bin c n .Mult (.float a) (.int k) (.float (Float64.mul a (Float64.ofInt k))) := by
  intro X A E s v₁ v₂ Q R G r₁ r₂ h
  obtain ⟨_, rfl⟩ := rep_inv r₁; obtain ⟨_, rfl⟩ := rep_inv r₂
  exact mul_fi_fits (Nat.lt_trans hk (by decide +kernel)) (h _ _ (keeps_tok s _) (.float _ _))
noncomputable def fracF (a b : Int) : UInt64 := Float64.ofFrac (decide (a < 0) != decide (b < 0)) a.natAbs b.natAbs
theorem bin_divii {a b : Int} (hb : b ≠ 0) (ha : a.natAbs < 1000) : Bin c n .Div (.int a) (.int b) (.float (fracF a b)) := by
  intro X A E s v₁ v₂ Q R G r₁ r₂ h
  obtain ⟨_, rfl⟩ := rep_inv r₁; obtain ⟨_, rfl⟩ := rep_inv r₂
  exact PySem.Flt.div_ii_fits R.handled (Nat.lt_trans ha (by decide +kernel)) (fun h0 => absurd h0 hb) fun _ _ => h _ _ (keeps_tok s _) (.float _ _)
theorem cmp_lef {a b : UInt64} : Cmp c n .LtE (.float a) (.float b) (leF a b) := by
  intro X A E s v₁ v₂ Q R G r₁ r₂ h
  obtain ⟨_, rfl⟩ := rep_inv r₁; obtain ⟨_, rfl⟩ := rep_inv r₂
  exact AutoFloatOps.le_0 (h s (keeps_refl s))
theorem cmp_eqf {a b : UInt64} : Cmp c n .Eq (.float a) (.float b) (eqF a b) := by
  intro X A E s v₁ v₂ Q R G r₁ r₂ h
  obtain ⟨_, rfl⟩ := rep_inv r₁; obtain ⟨_, rfl⟩ := rep_inv r₂
  exact AutoFloatOps.eq_0 (h s (keeps_refl s))
theorem floats_lt {prog : Program} {w : World} {A : Around} {P : Nat → Value → Prop} (val : Nat → UInt64) (hval : ∀ i v, P i v → ∃ t, v = .float (val i) t) : CmpOf prog w A .Lt P (fun i j => Float64.cmp (val i) (val j) == some Ordering.lt) := fun i j vi vj s Q E hi hj h => by
  obtain ⟨t, rfl⟩ := hval i vi hi
  obtain ⟨u, rfl⟩ := hval j vj hj
  exact richCompare_gives (op := .Lt) (typeIs_float s _ t) (typeIs_float s _ u) F.slot_float_lt F.entry_float_lt (F.args_float_lt_2 _ _) (AutoFloatG5.float___lt___float_float_0 _ t _ u) (fun x => nomatch x) h
theorem floats_gt {prog : Program} {w : World} {A : Around} {P : Nat → Value → Prop} (val : Nat → UInt64) (hval : ∀ i v, P i v → ∃ t, v = .float (val i) t) : CmpOf prog w A .Gt P (fun i j => Float64.cmp (val i) (val j) == some Ordering.gt) := fun i j vi vj s Q E hi hj h => by
  obtain ⟨t, rfl⟩ := hval i vi hi
  obtain ⟨u, rfl⟩ := hval j vj hj
  exact richCompare_gives (op := .Gt) (typeIs_float s _ t) (typeIs_float s _ u) F.slot_float_gt F.entry_float_gt (F.args_float_gt_2 _ _) (AutoFloatG4.float___gt___float_float_0 _ t _ u) (fun x => nomatch x) h
theorem reps_fat0 {X : Addr → Prop} {h : Heap} : ∀ {vs : List Value} {ns : List UInt64}, Reps X h vs (ns.map .float) → ∀ {i : Nat} {v : Value}, vs[i]? = some v → ∃ t, v = .float (ns.getD i 0) t
  | _, [], r, i, v, e => by cases r; simp at e
  | _, _ :: _, r, i, v, e => by
    cases r with
    | cons q rs =>
      obtain ⟨t, rfl⟩ := rep_inv q
      cases i with
      | zero => simp at e; subst e; exact ⟨t, by simp⟩
      | succ i => simp at e; obtain ⟨u, rfl⟩ := reps_fat0 rs e; exact ⟨u, by simp⟩
theorem reps_fat {X : Addr → Prop} {h : Heap} {vs : List Value} {ns : List UInt64} (r : Reps X h vs (ns.map .float)) {i : Nat} {v : Value} (e : (vs.toArray)[i]? = some v) : ∃ t, v = .float (ns.getD i 0) t :=
  reps_fat0 r (by simpa using e)
theorem best_tup {X : Addr → Prop} {A : Around} {E : Value → Shared → Prop} {s : Shared} {us : List Value} {ns : List UInt64} {Q : Value → Shared → Prop} (gt : Bool) (hh : A.handled = none) (rs : Reps X s.heap us (ns.map .float)) (h0 : 0 < ns.length)
    (hQ : ∀ v s', Keeps s s' → Rep X s'.heap v (.float (bestF gt ns)) → Q v s') :
    wpAny c.M A (pyIter (.ref s.heap.objs.size)) (fun it s₂ => ∃ I fp wr n P St bt, it = .ref I ∧ Walks pw c.w A I fp wr n P St ∧ St 0 s₂.heap ∧ (∀ b ∈ fp, b < s₂.heap.objs.size) ∧ 0 < n ∧ CmpOf pw c.w A (if gt then .Gt else .Lt) P bt ∧
      ∀ v h' tk, P (argBest bt (n - 1)) v → (∀ b o, b ∉ wr → s₂.heap.get? b = some o → h'.get? b = some o) → Q v { s₂ with heap := h', toks := tk }) E
      { s with heap := s.heap.push { cls := .type "tuple", data := .seq us.toArray } } := by
  have ht : (s.heap.push { cls := .type "tuple", data := .seq us.toArray }).IsTuple s.heap.objs.size us.toArray := ⟨_, Heap.get?_push_size _ rfl, rfl, _, rfl⟩
  have hlen : us.toArray.size = ns.length := by rw [List.size_toArray, rs.length, List.length_map]
  refine wpAny_pyIter_tuple ht ⟨(s.heap.push { cls := .type "tuple", data := .seq us.toArray }).objs.size, _, _, _, _, _, (fun i j => if gt then Float64.cmp (ns.getD i 0) (ns.getD j 0) == some Ordering.gt else Float64.cmp (ns.getD i 0) (ns.getD j 0) == some Ordering.lt), rfl, Walks.tuple hh _ s.heap.objs.size (by rw [Heap.size_push]; exact Nat.ne_of_lt (Nat.lt_succ_self _)) us.toArray,
    ⟨⟨_, Heap.get?_push_size _ rfl, rfl, rfl⟩, ht.push _⟩, fun b hb => ?_, by omega, ?_, fun v h' tk e k => ?_⟩
  · show b < ((s.heap.push _).push _).objs.size
    rw [Heap.size_push, Heap.size_push]
    simp [Heap.size_push] at hb; rcases hb with rfl | rfl
    · exact Nat.lt_succ_self _
    · exact Nat.lt_succ_of_lt (Nat.lt_succ_self _)
  · have hat : ∀ (i : Nat) (v : Value), us.toArray[i]? = some v → ∃ t, v = Value.float (ns.getD i 0) t := fun i v e => reps_fat rs e
    cases gt with
    | true => exact floats_gt (fun i => ns.getD i 0) hat
    | false => exact floats_lt (fun i => ns.getD i 0) hat
  · obtain ⟨t, rfl⟩ := reps_fat rs e
    rw [hlen]
    exact hQ _ _ (keeps_new2 k) (.float _ _)
theorem fn_max3f {a b d : UInt64} : Fn c n (.builtin "max") [.float a, .float b, .float d] (.float (bestF true [a, b, d])) := by
  intro X A E s vs Q R G r hQ
  obtain ⟨v, u, w, rfl, q₁, q₂, q₃⟩ := reps3 r
  exact call_max_three (best_tup (us := [v, u, w]) (ns := [a, b, d]) true (by exact R.handled) r (by simp) hQ)
theorem fn_min3f {a b d : UInt64} : Fn c n (.builtin "min") [.float a, .float b, .float d] (.float (bestF false [a, b, d])) := by
  intro X A E s vs Q R G r hQ
  obtain ⟨v, u, w, rfl, q₁, q₂, q₃⟩ := reps3 r
  exact call_min_three (best_tup (us := [v, u, w]) (ns := [a, b, d]) false (by exact R.handled) r (by simp) hQ)
end
end Mine
end
section
open PySem PySem.W PyProof.Rows PySem.Calls
set_option maxRecDepth 100000
namespace Mine
noncomputable abbrev F0 : UInt64 := 0
noncomputable abbrev Fh : UInt64 := 4602678819172646912
noncomputable abbrev F1 : UInt64 := 4607182418800017408
noncomputable abbrev F2 : UInt64 := 4611686018427387904
noncomputable abbrev F4 : UInt64 := 4616189618054758400
noncomputable abbrev F6 : UInt64 := 4618441417868443648
noncomputable def hueH (r g maxc rc gc bc : UInt64) : UInt64 := if eqF r maxc then Float64.sub bc gc else if eqF g maxc then Float64.sub (Float64.add F2 rc) bc else Float64.sub (Float64.add F4 gc) rc
noncomputable def hueF (r g b maxc rangec : UInt64) : UInt64 :=
  (Float64.divmod (Float64.div (hueH r g maxc (Float64.div (Float64.sub maxc r) rangec) (Float64.div (Float64.sub maxc g) rangec) (Float64.div (Float64.sub maxc b) rangec)) F6) F1).2
noncomputable def hlsTail (r g b maxc minc : UInt64) : Option (UInt64 × UInt64 × UInt64) :=
  if eqF minc maxc then some (F0, Float64.div (Float64.add maxc minc) F2, F0)
  else if Float64.isZero (Float64.sub maxc minc) then none
  else if leF (Float64.div (Float64.add maxc minc) F2) Fh then
    (if Float64.isZero (Float64.add maxc minc) then none else some (hueF r g b maxc (Float64.sub maxc minc), Float64.div (Float64.add maxc minc) F2, Float64.div (Float64.sub maxc minc) (Float64.add maxc minc)))
  else if Float64.isZero (Float64.sub (Float64.sub F2 maxc) minc) then none
  else some (hueF r g b maxc (Float64.sub maxc minc), Float64.div (Float64.add maxc minc) F2, Float64.div (Float64.sub maxc minc) (Float64.sub (Float64.sub F2 maxc) minc))
noncomputable def hlsF (r g b : UInt64) : Option (UInt64 × UInt64 × UInt64) := hlsTail r g b (bestF true [r, g, b]) (bestF false [r, g, b])
noncomputable abbrev hlS : Scope := scopeOf (stmtAt 9)
theorem at_hls {c : Cx} (H : FnObj c (stmtAt 9) 193) : ∃ fd, FnAt c 193 fd (bodyOf (stmtAt 9)) [S "r", S "g", S "b"] ∧ fd.scope = hlS :=
  fn_at H _ (fun pm => bind3 fun a b d => by rfl) (by decide) (by decide) (by decide) (by decide) rfl rfl rfl rfl
theorem nz2 : Float64.isZero F2 = false := by decide +kernel
theorem nz6 : Float64.isZero F6 = false := by decide +kernel
theorem nz1 : Float64.isZero F1 = false := by decide +kernel
theorem fn_hls {c : Cx} (H : FnObj c (stmtAt 9) 193) (hx : c.mg (S "max") = none) (hm : c.mg (S "min") = none) {n : Nat} {r g b h l s : UInt64} (hr : hlsF r g b = some (h, l, s)) :
    Fn c (n + 1) (.ref 193) [.float r, .float g, .float b] (.tup [.float h, .float l, .float s]) := by
  refine fn_of (out := .ret _) (os := []) (at_hls H) rfl ?_
  unfold hlsF at hr
  refine ex_cons (ρ' := (S "maxc", .float (bestF true [r, g, b])) :: _) (ex1_assign' (ev_call (ev_builtin rfl hx (by rfl)) (keepF_builtin _) (.cons' (ev_local rfl rfl) (.cons' (ev_local rfl rfl) (.cons' (ev_local rfl rfl) .nil))) fn_max3f) (sto_local rfl (by decide)) (fun env he => by rfl)) ?_
  refine ex_cons (ρ' := (S "minc", .float (bestF false [r, g, b])) :: _) (ex1_assign' (ev_call (ev_builtin rfl hm (by rfl)) (keepF_builtin _) (.cons' (ev_local rfl rfl) (.cons' (ev_local rfl rfl) (.cons' (ev_local rfl rfl) .nil))) fn_min3f) (sto_local rfl (by decide)) (fun env he => by rfl)) ?_
  generalize bestF true [r, g, b] = maxc at hr ⊢
  generalize bestF false [r, g, b] = minc at hr ⊢
  unfold hlsTail at hr
  refine ex_cons (ρ' := (S "sumc", .float (Float64.add maxc minc)) :: _) (ex1_assign' (ev_bin (ev_local rfl rfl) (ev_local rfl rfl) bin_addf) (sto_local rfl (by decide)) (fun env he => by rfl)) ?_
  refine ex_cons (ρ' := (S "rangec", .float (Float64.sub maxc minc)) :: _) (ex1_assign' (ev_bin (ev_local rfl rfl) (ev_local rfl rfl) bin_subf) (sto_local rfl (by decide)) (fun env he => by rfl)) ?_
  generalize Float64.add maxc minc = sumc at hr ⊢
  generalize Float64.sub maxc minc = rangec at hr ⊢
  refine ex_cons (ρ' := (S "l", .float (Float64.div sumc F2)) :: _) (ex1_assign' (ev_bin (ev_local rfl rfl) ev_float (bin_divf nz2)) (sto_local rfl (by decide)) (fun env he => by rfl)) ?_
  generalize Float64.div sumc F2 = lv at hr ⊢
  cases hq : eqF minc maxc with
  | true =>
    rw [hq, if_pos rfl] at hr
    cases hr
    exact ex_ret (ex1_if (b := true) (hq ▸ tst_cmp (ev_local rfl rfl) (ev_local rfl rfl) cmp_eqf) (fun _ => ex_ret (ex1_return (ev_tuple (.cons' ev_float (.cons' (ev_local rfl rfl) (.cons' ev_float .nil)))))) (fun h => nomatch h))
  | false =>
    rw [hq, if_neg (by decide)] at hr
    refine ex_cons (ex1_if (b := false) (hq ▸ tst_cmp (ev_local rfl rfl) (ev_local rfl rfl) cmp_eqf) (fun h => nomatch h) (fun _ => ex_nil)) ?_
    cases hrz : Float64.isZero rangec with
    | true => rw [hrz, if_pos rfl] at hr; cases hr
    | false =>
      rw [hrz, if_neg (by decide)] at hr
      have rest : ∀ sv, h = hueF r g b maxc rangec → l = lv → s = sv → Ex c n [] hlS ((S "s", .float sv) :: (S "l", .float lv) :: (S "rangec", .float rangec) :: (S "sumc", .float sumc) :: (S "minc", .float minc) :: (S "maxc", .float maxc) :: [S "r", S "g", S "b"].zip [.float r, .float g, .float b])
          ((bodyOf (stmtAt 9)).drop 7) (.ret (.tup [.float h, .float l, .float s])) := by
        rintro sv rfl rfl rfl
        unfold hueF
        refine ex_cons (ρ' := (S "rc", .float (Float64.div (Float64.sub maxc r) rangec)) :: _) (ex1_assign' (ev_bin (ev_bin (ev_local rfl rfl) (ev_local rfl rfl) bin_subf) (ev_local rfl rfl) (bin_divf hrz)) (sto_local rfl (by decide)) (fun env he => by rfl)) ?_
        refine ex_cons (ρ' := (S "gc", .float (Float64.div (Float64.sub maxc g) rangec)) :: _) (ex1_assign' (ev_bin (ev_bin (ev_local rfl rfl) (ev_local rfl rfl) bin_subf) (ev_local rfl rfl) (bin_divf hrz)) (sto_local rfl (by decide)) (fun env he => by rfl)) ?_
        refine ex_cons (ρ' := (S "bc", .float (Float64.div (Float64.sub maxc b) rangec)) :: _) (ex1_assign' (ev_bin (ev_bin (ev_local rfl rfl) (ev_local rfl rfl) bin_subf) (ev_local rfl rfl) (bin_divf hrz)) (sto_local rfl (by decide)) (fun env he => by rfl)) ?_
        generalize Float64.div (Float64.sub maxc r) rangec = rc
        generalize Float64.div (Float64.sub maxc g) rangec = gc
        generalize Float64.div (Float64.sub maxc b) rangec = bc
        refine ex_cons (ρ' := (S "h", .float (hueH r g maxc rc gc bc)) :: (S "bc", .float bc) :: (S "gc", .float gc) :: (S "rc", .float rc) :: (S "s", .float s) :: (S "l", .float l) :: (S "rangec", .float rangec) :: (S "sumc", .float sumc) :: (S "minc", .float minc) :: (S "maxc", .float maxc) :: [S "r", S "g", S "b"].zip [.float r, .float g, .float b]) (ex1_if (b := eqF r maxc) (tst_cmp (ev_local rfl rfl) (ev_local rfl rfl) cmp_eqf) (fun h1 => ?_) (fun h1 => ?_)) ?_
        · unfold hueH; rw [if_pos h1]
          exact ex_cons (ex1_assign' (ev_bin (ev_local rfl rfl) (ev_local rfl rfl) bin_subf) (sto_local rfl (by decide)) (fun env he => by rfl)) ex_nil
        · unfold hueH; rw [h1, if_neg (by decide)]
          refine ex_cons (ex1_if (b := eqF g maxc) (tst_cmp (ev_local rfl rfl) (ev_local rfl rfl) cmp_eqf) (fun h2 => ?_) (fun h2 => ?_)) ex_nil
          · rw [if_pos h2]
            exact ex_cons (ex1_assign' (ev_bin (ev_bin ev_float (ev_local rfl rfl) bin_addf) (ev_local rfl rfl) bin_subf) (sto_local rfl (by decide)) (fun env he => by rfl)) ex_nil
          · rw [h2, if_neg (by decide)]
            exact ex_cons (ex1_assign' (ev_bin (ev_bin ev_float (ev_local rfl rfl) bin_addf) (ev_local rfl rfl) bin_subf) (sto_local rfl (by decide)) (fun env he => by rfl)) ex_nil
        · generalize hueH r g maxc rc gc bc = hh
          refine ex_cons (ρ' := (S "h", .float (Float64.divmod (Float64.div hh F6) F1).2) :: _) (ex1_assign' (ev_bin (ev_bin (ev_local rfl rfl) ev_float (bin_divf nz6)) ev_float (bin_modf nz1)) (sto_local rfl (by decide)) (fun env he => by rfl)) ?_
          exact ex_ret (ex1_return (ev_tuple (.cons' (ev_local rfl rfl) (.cons' (ev_local rfl rfl) (.cons' (ev_local rfl rfl) .nil)))))
      cases hle : leF lv Fh with
      | true =>
        rw [hle, if_pos rfl] at hr
        cases hz : Float64.isZero sumc with
        | true => rw [hz, if_pos rfl] at hr; cases hr
        | false =>
          rw [hz, if_neg (by decide)] at hr
          simp only [Option.some.injEq, Prod.mk.injEq] at hr
          refine ex_cons (ρ' := (S "s", .float (Float64.div rangec sumc)) :: _) (ex1_if (b := true) (hle ▸ tst_cmp (ev_local rfl rfl) ev_float cmp_lef) (fun _ => ?_) (fun h => nomatch h)) (rest _ hr.1.symm hr.2.1.symm hr.2.2.symm)
          exact ex_cons (ex1_assign' (ev_bin (ev_local rfl rfl) (ev_local rfl rfl) (bin_divf hz)) (sto_local rfl (by decide)) (fun env he => by rfl)) ex_nil
      | false =>
        rw [hle, if_neg (by decide)] at hr
        cases hz : Float64.isZero (Float64.sub (Float64.sub F2 maxc) minc) with
        | true => rw [hz, if_pos rfl] at hr; cases hr
        | false =>
          rw [hz, if_neg (by decide)] at hr
          simp only [Option.some.injEq, Prod.mk.injEq] at hr
          refine ex_cons (ρ' := (S "s", .float (Float64.div rangec (Float64.sub (Float64.sub F2 maxc) minc))) :: _) (ex1_if (b := false) (hle ▸ tst_cmp (ev_local rfl rfl) ev_float cmp_lef) (fun h => nomatch h) (fun _ => ?_)) (rest _ hr.1.symm hr.2.1.symm hr.2.2.symm)
          exact ex_cons (ex1_assign' (ev_bin (ev_local rfl rfl) (ev_bin (ev_bin ev_float (ev_local rfl rfl) bin_subf) (ev_local rfl rfl) bin_subf) (bin_divf hz)) (sto_local rfl (by decide)) (fun env he => by rfl)) ex_nil
end Mine
end
section
open PySem PySem.W PyProof.Rows PySem.Calls PySem.Builtin
set_option maxRecDepth 100000
namespace Mine
theorem forIn_steps {α β : Type} {f : α → β → Sem (ForInStep β)} (g : Nat → β) (N : Nat) (hf : ∀ x j, j < N → f x (g j) = pure (.yield (g (j + 1)))) : ∀ (l : List α) (j : Nat), j + l.length ≤ N → forIn l (g j) f = pure (g (j + l.length))
  | [], j, _ => rfl
  | x :: l, j, h => by
    rw [List.forIn_cons, hf x j (by simp at h; omega)]
    show forIn l (g (j + 1)) f = _
    rw [forIn_steps g N hf l (j + 1) (by simp at h; omega), List.length_cons]
    congr 2
    omega
theorem forIn_done {α β : Type} {f : α → β → Sem (ForInStep β)} {b : β} (hf : ∀ x, f x b = pure (.done b)) : ∀ l : List α, forIn l b f = pure b
  | [] => rfl
  | x :: l => by rw [List.forIn_cons, hf x]; rfl
theorem dec_run {id : String} {l : List UInt8} (hb : ∀ c ∈ l, c.toNat < 128) (hz : l.length ≤ 1000) : _codecs.runDecoder id _codecs.asciiDecoder none true l.toArray 0 [] = pure ((l.map (·.toNat)).toArray, l.length) := by
  unfold _codecs.runDecoder
  simp only [Std.Legacy.Range.forIn_eq_forIn_range', Std.Legacy.Range.size, Nat.sub_zero, Nat.add_sub_cancel, Nat.div_one]
  refine (congrArg (fun m => m >>= _) (forIn_steps (fun j => ((j, ((l.take j).map (·.toNat)).toArray, {}) : Nat × Array Nat × _codecs.Faults)) l.length ?_ (List.range' 0 l.toArray.size) 0 (by simp))).trans ?_
  rotate_left
  · show (pure _ : Sem _) = pure _
    simp
  · intro x j hj
    dsimp only
    have hc : l[j] ∈ l := List.getElem_mem hj
    rw [if_neg (by simp [sizeLine_eq]; omega), if_neg (by simp; omega)]
    have hf : _codecs.asciiDecoder.find true l.toArray j = .text [(l[j]).toNat] (j + 1) := by
      show (if ((l.toArray.getD j 0).toNat < 128) then _codecs.Found.char (l.toArray.getD j 0).toNat (j + 1) else _) = _
      have e : l.toArray.getD j 0 = l[j] := by simp [Array.getD, hj]
      rw [e, if_pos (hb _ hc)]; rfl
    rw [hf]
    dsimp only
    congr 4
    rw [List.take_add_one, List.getElem?_eq_getElem hj]
    simp
    rw [List.take_add_one, List.getElem?_map, List.getElem?_eq_getElem hj]
    rfl
theorem enc_run {id : String} {s : Str} {v : Value} (hb : ∀ c ∈ s.cps.toList, c < 128) (hz : s.cps.size ≤ 1000) : _codecs.encodeNarrow id _codecs.asciiCodec none v s = pure (s.cps.map (·.toUInt8)) := by
  unfold _codecs.encodeNarrow
  simp only [Std.Legacy.Range.forIn_eq_forIn_range', Std.Legacy.Range.size, Nat.sub_zero, Nat.add_sub_cancel, Nat.div_one]
  have hbad : ∀ c ∈ s.cps.toList, _codecs.asciiCodec.bad c = false := fun c hc => by
    show decide (c ≥ 128) = false
    have := hb c hc
    simp; omega
  have hfind : Array.findIdx? _codecs.asciiCodec.bad (s.cps.extract 0) = none := by
    rw [Array.findIdx?_eq_none_iff]
    intro x hx
    rw [Array.extract_size] at hx
    exact hbad x (by simpa using hx)
  have hlen : s.length = s.cps.size := rfl
  rw [hlen]
  rcases Nat.eq_zero_or_pos s.cps.size with h0 | hp
  · have : s.cps = #[] := by simpa using h0
    rw [this]
    show (pure (#[] : Array UInt8) : Sem _) = pure _
    simp
  · obtain ⟨n, hn⟩ : ∃ n, s.cps.size = n + 1 := ⟨s.cps.size - 1, by omega⟩
    have h0 : s.cps[0]? = some s.cps[0] := by rw [Array.getElem?_eq_getElem]
    have e : List.range' 0 s.cps.size 1 = 0 :: List.range' 1 n 1 := by rw [hn]; rfl
    rw [e, List.forIn_cons]
    dsimp only
    rw [if_neg (by decide), h0]
    dsimp only
    rw [if_pos (by rw [hbad _ (by simp)]; rfl), hfind]
    show (forIn (List.range' 1 n 1) _ _ >>= _) = _
    have hfold : ∀ l : List Nat, ∀ acc : Array UInt8, l.foldl (fun acc y => acc ++ (_codecs.asciiCodec.bytesOf y).toArray) acc = acc ++ (l.map (·.toUInt8)).toArray := by
      intro l
      induction l with
      | nil => intro acc; simp
      | cons y l ih =>
        intro acc
        rw [List.foldl_cons, ih]
        show (acc ++ [y.toUInt8].toArray) ++ _ = _
        simp
    have hall : Array.foldl (fun acc y => acc ++ (_codecs.asciiCodec.bytesOf y).toArray) #[] ((s.cps.extract 0).extract 0 ((none : Option Nat).getD (s.cps.extract 0).size)) = s.cps.map (·.toUInt8) := by
      simp only [Option.getD_none, Array.extract_size]
      rw [← Array.foldl_toList, hfold]
      apply Array.ext'
      simp
    rw [hall]
    refine (congrArg (fun m => m >>= _) (forIn_done (fun x => ?_) _)).trans ?_
    · dsimp only
      rw [if_neg (by rw [Array.size_map, sizeLine_eq]; omega)]
      have hx : s.cps[0 + (none : Option Nat).getD (s.cps.extract 0).size]? = none := by simp
      rw [hx]
    · rfl
noncomputable abbrev asciiS : PySem.Str := Str.ofString "ascii"
theorem road_ascii {id : String} {b : Array UInt8} : _codecs.decodeRoad id b asciiS none [] = (_codecs.runDecoder id _codecs.asciiDecoder none true b 0 [] >>= fun r => mkStr ⟨r.1⟩) := by kernel_rfl
/-- the text of these bytes -/
noncomputable def txtOf (l : List UInt8) : PySem.Str := ⟨(l.map (·.toNat)).toArray⟩
theorem meets_text {l : List UInt8} {t : Tok} {d : PySem.Str} {t1 t2 : Tok} (hb : ∀ c ∈ l, c.toNat < 128) (hz : l.length ≤ 1000) :
    Meets («_codecs.decode.text» ⟨[.bytes l.toArray t, .str asciiS t1, .none, .str d t2], []⟩) (fun _ R s => R (.ok (.ret (.str (txtOf l) s.toks))) { s with toks := s.toks + 1 }) := by
  refine .of_wp fun prog w A R s h => ?_
  show wpAny _ _ (Bytes.bytesLike _ (.bytes l.toArray t) >>= fun r => _) _ _ s
  refine wpAny_bind (wpAny_of_eq KBd.like_eq ?_)
  refine wpAny_bind (wpAny_of_eq KBd.held_eq ?_)
  show wpAny _ _ (_codecs.decodeRoad _ l.toArray asciiS none [] >>= fun v => _) _ _ s
  rw [road_ascii, dec_run hb hz]
  refine wpAny_bind (wpAny_bind (wpAny_pure ?_))
  exact wpAny_mkStr (wpAny_pure ⟨_, rfl, h⟩) (by show ((l.map (·.toNat)).toArray).size ≤ sizeLine; simp [sizeLine_eq]; omega)
theorem entry_dec {c : UInt8} {cs : List UInt8} {t u : Tok} : «bytes.decode» ⟨[.bytes (c :: cs).toArray t, .str asciiS u], []⟩ = (mkStr (PySem.Str.ofString "utf-8") >>= fun _ => mkStr asciiS >>= fun e => mkStr (PySem.Str.ofString "bytes.decode") >>= fun d =>
    call (.builtin "_codecs.decode.text") [.bytes (c :: cs).toArray t, e, .none, d] >>= fun v => ret v) := by kernel_rfl
theorem meets_dec {c : UInt8} {cs : List UInt8} {t u : Tok} (hb : ∀ x ∈ c :: cs, x.toNat < 128) (hz : (c :: cs).length ≤ 1000) :
    Meets («bytes.decode» ⟨[.bytes (c :: cs).toArray t, .str asciiS u], []⟩) (fun _ R s => ∀ t' k, R (.ok (.ret (.str (txtOf (c :: cs)) t'))) { s with toks := k }) := by
  refine .of_wp fun prog w A R s h => ?_
  rw [entry_dec]
  refine wpAny_bind (wpAny_mkStr ?_ (by decide))
  refine wpAny_bind (wpAny_mkStr ?_ (by decide))
  refine wpAny_bind (wpAny_mkStr ?_ (by decide))
  exact wpAny_bind (call_function_meets KBd.kind_text KBd.plain_text KBd.entry_text (KBd.args_text _ _ _ _) (meets_text hb hz) (wpAny_pure ⟨_, rfl, h _ _⟩))
theorem entry_enc {x : PySem.Str} {t u : Tok} : «str.encode» ⟨[.str x t, .str asciiS u], []⟩ = ((_codecs.encodeNarrow "str.encode" _codecs.asciiCodec none (.str x t) x >>= fun b => mkBytes b) >>= fun v => ret v) := by kernel_rfl
theorem meets_enc {x : PySem.Str} {t u : Tok} (hb : ∀ c ∈ x.cps.toList, c < 128) (hz : x.cps.size ≤ 1000) :
    Meets («str.encode» ⟨[.str x t, .str asciiS u], []⟩) (fun _ R s => ∀ t' k, R (.ok (.ret (.bytes (x.cps.map (·.toUInt8)) t'))) { s with toks := k }) := by
  refine .of_wp fun prog w A R s h => ?_
  rw [entry_enc, enc_run hb hz]
  refine wpAny_bind (wpAny_bind (wpAny_pure (wpAny_mkBytes (wpAny_pure ⟨_, rfl, h _ _⟩) (by rw [Array.size_map, sizeLine_eq]; omega))))
/-- the words between spaces -/
noncomputable def wordsB (l : List UInt8) : List (List UInt8) := Bytes.words (l.length + 1) (l.length + 1) l
theorem takeW_all {α : Type} {p : α → Bool} : ∀ {l : List α}, (∀ c ∈ l, p c = true) → l.takeWhile p = l ∧ l.dropWhile p = []
  | [], _ => ⟨rfl, rfl⟩
  | a :: l, h => by
    obtain ⟨h1, h2⟩ := takeW_all (l := l) fun c hc => h c (.tail _ hc)
    rw [List.takeWhile_cons, List.dropWhile_cons, h a (.head _), if_pos rfl, if_pos rfl, h1, h2]
    exact ⟨rfl, rfl⟩
theorem words_one {l : List UInt8} (h0 : l ≠ []) (h : ∀ c ∈ l, Bytes.isSpace c = false) : wordsB l = [l] := by
  unfold wordsB
  have e1 : l.dropWhile Bytes.isSpace = l := by
    cases l with
    | nil => rfl
    | cons a l => rw [List.dropWhile_cons, h a (.head _)]; rfl
  have e2 : l.takeWhile (!Bytes.isSpace ·) = l := (takeW_all fun c hc => by rw [h c hc]; rfl).1
  have e3 : l.dropWhile (!Bytes.isSpace ·) = [] := (takeW_all fun c hc => by rw [h c hc]; rfl).2
  rw [Bytes.words, e1]
  cases hl : l with
  | nil => exact absurd hl h0
  | cons a r =>
    dsimp only
    rw [← hl, e2, e3, if_neg (by rw [hl]; simp)]
    rw [hl]; rfl
theorem mapM_bytes {M : Model} {A : Around} {E : Value → Shared → Prop} : ∀ (ls : List (List UInt8)) (s : Shared) (Q : List Value → Shared → Prop), (∀ l ∈ ls, l.length ≤ 1000) →
    (∀ vs k, (∀ X h, Reps X h vs (ls.map fun l => .bytes l.toArray)) → vs.length = ls.length → Q vs { s with toks := k }) → wpAny M A (ls.mapM fun l => mkBytes l.toArray) Q E s
  | [], s, Q, _, hQ => wpAny_pure (hQ [] s.toks (fun _ _ => .nil) rfl)
  | l :: ls, s, Q, hz, hQ => by
    rw [List.mapM_cons]
    refine wpAny_bind (wpAny_mkBytes ?_ (by simp [sizeLine_eq]; have := hz l (.head _); omega))
    refine wpAny_bind (mapM_bytes ls _ _ (fun l h => hz l (.tail _ h)) fun vs k r hl => wpAny_pure ?_)
    exact hQ _ k (fun X h => .cons (.bytes _ _) (r X h)) (by simp [hl])
theorem entry_split {b : Array UInt8} {t : Tok} : «bytes.split» ⟨[.bytes b t], []⟩ = (rule "bytes.split.whitespace" >>= fun _ =>
    if (decide (b.size + 1 > 0) && !b.isEmpty && !b.any Bytes.isSpace) = true then newList [.bytes b t] >>= fun v => ret v
    else (Bytes.words (b.size + 1) (b.size + 1) b.toList).mapM (fun w => mkBytes w.toArray) >>= fun ws => newList ws >>= fun v => ret v) := by kernel_rfl
section
variable {c : Cx} {n : Nat}
theorem fn_decode {l : List UInt8} (h0 : l ≠ []) (hb : ∀ c ∈ l, c.toNat < 128) (hz : l.length ≤ 1000) : Fn c n (.builtin "bytes.decode") [.bytes l.toArray, .str asciiS] (.str (txtOf l)) := by
  intro X A E s vs Q R G r hQ
  obtain ⟨v, u, rfl, q, p⟩ := reps2 r
  obtain ⟨_, rfl⟩ := rep_inv q; obtain ⟨_, rfl⟩ := rep_inv p
  cases l with
  | nil => exact absurd rfl h0
  | cons a l => exact call_meets FB.slot_bytes_decode (typeIs_bytes _ _ _) FB.entry_bytes_decode (args_bytes_decode_2 _ _) (meets_dec hb hz) fun t' k => hQ _ _ (keeps_tok s _) (.str _ _)
theorem fn_encode {x : PySem.Str} (hb : ∀ c ∈ x.cps.toList, c < 128) (hz : x.cps.size ≤ 1000) : Fn c n (.builtin "str.encode") [.str x, .str asciiS] (.bytes (x.cps.map (·.toUInt8))) := by
  intro X A E s vs Q R G r hQ
  obtain ⟨v, u, rfl, q, p⟩ := reps2 r
  obtain ⟨_, rfl⟩ := rep_inv q; obtain ⟨_, rfl⟩ := rep_inv p
  exact call_meets F.slot_str_encode (typeIs_str _ _ _) F.entry_str_encode (F.args_str_encode_2 _ _) (meets_enc hb hz) fun t' k => hQ _ _ (keeps_tok s _) (.bytes _ _)
theorem mth_decode {b : Array UInt8} : Mth c (.bytes b) (S "decode") (.builtin "bytes.decode") := mth_of on_bytes FB.plainAttrs_bytes FB.slot_bytes_decode FB.type_bytes_decode
theorem mth_encode {x : PySem.Str} : Mth c (.str x) (S "encode") (.builtin "str.encode") := mth_of on_str F.plainAttrs_str F.slot_str_encode F.type_str_encode
theorem mth_split {b : Array UInt8} : Mth c (.bytes b) (S "split") (.builtin "bytes.split") := mth_of on_bytes FB.plainAttrs_bytes slot_bytes_split type_bytes_split
end
end Mine
end
section
open PySem PySem.W PyProof.Rows PySem.Calls
set_option maxRecDepth 100000
namespace Mine
open PySem.Sre (M)
noncomputable def flagsCode : Array Nat := #[14, 4, 0, 8, 4294967295, 24, 5, 0, 4294967295, 2, 1, 16, 70, 16, 76, 16, 65, 16, 71, 16, 83, 16, 32, 16, 40, 17, 0, 24, 6, 0, 4294967295, 20, 41, 1, 17, 1, 16, 41, 1]
theorem run_all {code text : Array Nat} {i : Nat} {ok : Nat → Bool} (ha : ∀ c sn, Sre.accepts code i c sn = .ok (ok c, sn)) : ∀ (k p found : Nat) (sn : Sre.Seen), (∀ q, p ≤ q → q < p + k → ok (text.getD q 0) = true) → Sre.run code text i k p found sn = .ok (found + k, sn)
  | 0, p, found, sn, _ => rfl
  | k + 1, p, found, sn, h => by
    rw [Sre.run, ha, h p (Nat.le_refl _) (by omega)]
    show Sre.run code text i k (p + 1) (found + 1) sn = _
    rw [run_all ha k (p + 1) (found + 1) sn fun q h1 h2 => h q (by omega) (by omega)]
    congr 2; omega
theorem run_stop {code text : Array Nat} {i : Nat} {ok : Nat → Bool} (ha : ∀ c sn, Sre.accepts code i c sn = .ok (ok c, sn)) : ∀ (k p found : Nat) (sn : Sre.Seen), (∀ q, p ≤ q → q < p + k → ok (text.getD q 0) = true) → ok (text.getD (p + k) 0) = false → Sre.run code text i (k + 1) p found sn = .ok (found + k, sn)
  | 0, p, found, sn, _, he => by
    rw [Sre.run, ha]
    rw [Nat.add_zero] at he
    rw [he]; rfl
  | k + 1, p, found, sn, h, he => by
    rw [Sre.run, ha, h p (Nat.le_refl _) (by omega)]
    show Sre.run code text i (k + 1) (p + 1) (found + 1) sn = _
    rw [run_stop ha k (p + 1) (found + 1) sn (fun q h1 h2 => h q (by omega) (by omega)) (by rw [← he]; congr 2; omega)]
    congr 2; omega
noncomputable def k0 : Sre.Kept := {}
/-- the dots have taken p letters -/
noncomputable def frA (p : Nat) : Sre.Frame := { wait := .giveBack, pc := 5, pos := p, outermost := true, count := p, kept := k0 }
noncomputable def stA (T : Array Nat) (p : Nat) (sn : Sre.Seen) : M := { code := flagsCode, text := T, lim := T.size, start := 0, pc := 11, pos := p, handed := p, marks := #[none, none], seen := sn, frames := [frA p], weight := 1 }
/-- at a literal -/
theorem step_lit {m : M} (ho : m.outcome = none) (ha : m.answer = none) (hpc : m.pc < m.code.size) (hop : m.code.getD m.pc 0 = 16) :
    m.step = if m.pos ≥ m.lim then { m with seen := m.seen.add 16 }.say false else if m.text.getD m.pos 0 == m.code.getD (m.pc + 1) 0 then { m with seen := m.seen.add 16, pc := m.pc + 2, pos := m.pos + 1 } else { m with seen := m.seen.add 16 }.say false := by
  obtain ⟨code, text, lim, start, lastStart, wholeText, mustAdvance, pc, pos, handed, outermost, marks, lastmark, lastindex, loops, inner, frames, weight, answer, seen, outcome⟩ := m
  dsimp only at ho ha hpc hop ⊢
  subst ho ha
  unfold M.step
  dsimp only
  rw [if_neg (by decide), if_pos hpc]
  unfold M.exec M.word
  dsimp only
  rw [Nat.add_zero, hop]
  have e1 : ∀ sn, Sre.accepts code pc (text.getD pos 0) sn = .ok (text.getD pos 0 == code.getD (pc + 1) 0, sn) := fun sn => by unfold Sre.accepts; rw [hop]; rfl
  have e2 : Sre.itemWidth code pc = 2 := by unfold Sre.itemWidth; rw [hop]; rfl
  show (if pos ≥ lim then _ else match Sre.accepts code pc (text.getD pos 0) _ with | .error why => _ | .ok (false, seen) => _ | .ok (true, seen) => _) = _
  split
  · rfl
  · rw [e1, e2]
    cases (text.getD pos 0 == code.getD (pc + 1) 0) <;> rfl
/-- a text of flags: b letters between the brackets -/
structure FlagsText (T : Array Nat) (b : Nat) : Prop where
  size : T.size = b + 8
  h0 : T.getD 0 0 = 70
  h1 : T.getD 1 0 = 76
  h2 : T.getD 2 0 = 65
  h3 : T.getD 3 0 = 71
  h4 : T.getD 4 0 = 83
  h5 : T.getD 5 0 = 32
  h6 : T.getD 6 0 = 40
  inn : ∀ q, 7 ≤ q → q < 7 + b → T.getD q 0 ≠ 41
  last : T.getD (7 + b) 0 = 41
  noL : ∀ q, 2 ≤ q → T.getD q 0 ≠ 76
  noN : ∀ q, T.getD q 0 ≠ 10
noncomputable def stF (T : Array Nat) (p : Nat) (sn : Sre.Seen) (pc pos : Nat) : M := { code := flagsCode, text := T, lim := T.size, start := 0, pc, pos, handed := p, marks := #[none, none], seen := sn, frames := [frA p], weight := 1, answer := some false }
theorem back_step (T : Array Nat) (q : Nat) (sn : Sre.Seen) (pc pos : Nat) : (stF T (q + 1) sn pc pos).step = stA T q sn := by
  have e : ((q + 1 : Nat) : Int) - 1 = (q : Int) := by omega
  show (if ((q + 1 : Nat) : Int) - 1 < ((0 : Nat) : Int) then _ else ({ code := flagsCode, text := T, lim := T.size, start := 0, pc := 11, pos := q, handed := q, marks := #[none, none], seen := sn, frames := [{ frA q with count := ((q + 1 : Nat) : Int) - 1 }], weight := 1 } : M)) = _
  rw [if_neg (by omega), e]
  rfl
theorem st_fail {T : Array Nat} {b : Nat} (F : FlagsText T b) {q : Nat} (hpn : q + 1 ≤ T.size) (sn : Sre.Seen) : ∃ k sn', k ≤ 3 ∧ (stA T (q + 1) sn).runFor k = stA T q sn' := by
  have s1 : (stA T (q + 1) sn).step = if q + 1 ≥ T.size then stF T (q + 1) (sn.add 16) 11 (q + 1) else if T.getD (q + 1) 0 == 70 then { stA T (q + 1) (sn.add 16) with pc := 13, pos := q + 2 } else stF T (q + 1) (sn.add 16) 11 (q + 1) :=
    step_lit (m := stA T (q + 1) sn) rfl rfl (show 11 < flagsCode.size by decide) rfl
  have s2 : ∀ sn', ({ stA T (q + 1) sn' with pc := 13, pos := q + 2 } : M).step = if q + 2 ≥ T.size then stF T (q + 1) (sn'.add 16) 13 (q + 2) else if T.getD (q + 2) 0 == 76 then { stA T (q + 1) (sn'.add 16) with pc := 15, pos := q + 3 } else stF T (q + 1) (sn'.add 16) 13 (q + 2) := fun sn' =>
    step_lit (m := { stA T (q + 1) sn' with pc := 13, pos := q + 2 }) rfl rfl (show 13 < flagsCode.size by decide) rfl
  have direct : (stA T (q + 1) sn).step = stF T (q + 1) (sn.add 16) 11 (q + 1) → ∃ k sn', k ≤ 3 ∧ (stA T (q + 1) sn).runFor k = stA T q sn' := fun h => by
    refine ⟨2, sn.add 16, by omega, ?_⟩
    rw [run_succ _ rfl, h, run_succ _ rfl, back_step]
    rfl
  by_cases h1 : q + 1 ≥ T.size
  · exact direct (by rw [s1, if_pos h1])
  · by_cases h2 : T.getD (q + 1) 0 == 70
    · rw [if_neg h1, if_pos h2] at s1
      refine ⟨3, (sn.add 16).add 16, by omega, ?_⟩
      have s3 := s2 (sn.add 16)
      have hno : (T.getD (q + 2) 0 == 76) = false := by have := F.noL (q + 2) (by omega); simpa using this
      rw [hno] at s3
      have s4 : ({ stA T (q + 1) (sn.add 16) with pc := 13, pos := q + 2 } : M).step = stF T (q + 1) ((sn.add 16).add 16) 13 (q + 2) := by
        rw [s3]; split <;> rfl
      rw [run_succ _ rfl, s1, run_succ _ rfl, s4, run_succ _ rfl, back_step]
      rfl
    · exact direct (by rw [s1, if_neg h1, if_neg h2])
/-- down to the first letter -/
theorem st_down {T : Array Nat} {b : Nat} (F : FlagsText T b) : ∀ p, p ≤ T.size → ∀ sn, ∃ k sn', k ≤ 3 * p ∧ (stA T p sn).runFor k = stA T 0 sn'
  | 0, _, sn => ⟨0, sn, by omega, rfl⟩
  | p + 1, hp, sn => by
    obtain ⟨k, sn', hk, e⟩ := st_fail F hp sn
    obtain ⟨k', sn'', hk', e'⟩ := st_down F p (by omega) sn'
    exact ⟨k + k', sn'', by omega, by rw [run_add, e, e']⟩
/-- a literal that fits -/
theorem lit_ok {m : M} {c : Nat} (ho : m.outcome = none) (ha : m.answer = none) (hpc : m.pc < m.code.size) (hop : m.code.getD m.pc 0 = 16) (hp : m.pos < m.lim) (hc : m.code.getD (m.pc + 1) 0 = c) (ht : m.text.getD m.pos 0 = c) :
    m.step = { m with seen := m.seen.add 16, pc := m.pc + 2, pos := m.pos + 1 } := by
  rw [step_lit ho ha hpc hop, if_neg (by omega), ht, hc, if_pos (by simp)]
noncomputable def stB (T : Array Nat) (sn : Sre.Seen) (pc pos : Nat) : M := { stA T 0 sn with pc, pos }
theorem st_head {T : Array Nat} {b : Nat} (F : FlagsText T b) (sn : Sre.Seen) : ∃ sn', (stA T 0 sn).runFor 7 = stB T sn' 25 7 := by
  have hsz := F.size
  have l : ∀ (pc pos c : Nat) (sn : Sre.Seen), pc < flagsCode.size → flagsCode.getD pc 0 = 16 → flagsCode.getD (pc + 1) 0 = c → pos < T.size → T.getD pos 0 = c → (stB T sn pc pos).step = stB T (sn.add 16) (pc + 2) (pos + 1) :=
    fun pc pos c sn h1 h2 h3 h4 h5 => lit_ok (m := stB T sn pc pos) rfl rfl h1 h2 h4 h3 h5
  have e0 : stA T 0 sn = stB T sn 11 0 := rfl
  refine ⟨((((((sn.add 16).add 16).add 16).add 16).add 16).add 16).add 16, ?_⟩
  rw [e0, run_succ _ rfl, l 11 0 70 _ (by decide) rfl rfl (by omega) F.h0, run_succ _ rfl, l 13 1 76 _ (by decide) rfl rfl (by omega) F.h1, run_succ _ rfl, l 15 2 65 _ (by decide) rfl rfl (by omega) F.h2,
    run_succ _ rfl, l 17 3 71 _ (by decide) rfl rfl (by omega) F.h3, run_succ _ rfl, l 19 4 83 _ (by decide) rfl rfl (by omega) F.h4, run_succ _ rfl, l 21 5 32 _ (by decide) rfl rfl (by omega) F.h5, run_succ _ rfl, l 23 6 40 _ (by decide) rfl rfl (by omega) F.h6]
  rfl
noncomputable def stC (T : Array Nat) (sn : Sre.Seen) : M := { code := flagsCode, text := T, lim := T.size, start := 0, pc := 27, pos := 7, handed := 0, marks := #[some 7, none], lastmark := 0, seen := sn, frames := [frA 0], weight := 1 }
theorem st_mark0 (T : Array Nat) (sn : Sre.Seen) : (stB T sn 25 7).step = stC T (sn.add 17) := rfl
noncomputable def kD : Sre.Kept := { lastmark := 0 }
noncomputable def frD (b : Nat) : Sre.Frame := { wait := .giveBack, pc := 27, pos := 7 + b, outermost := true, count := b, kept := kD }
noncomputable def stD (T : Array Nat) (b : Nat) (sn : Sre.Seen) : M := { code := flagsCode, text := T, lim := T.size, start := 0, pc := 34, pos := 7 + b, handed := 7 + b, marks := #[some 7, none], lastmark := 0, seen := sn, frames := [frD b, frA 0], weight := 2 }
theorem acc_any (c : Nat) (sn : Sre.Seen) : Sre.accepts flagsCode 9 c sn = .ok (c != 10, sn) := rfl
theorem acc_not (c : Nat) (sn : Sre.Seen) : Sre.accepts flagsCode 31 c sn = .ok (c != 41, sn) := rfl
theorem st_flags {T : Array Nat} {b : Nat} (F : FlagsText T b) (hb : b ≤ 1000) (sn : Sre.Seen) : ∃ sn', (stC T sn).step = stD T b sn' := by
  have hsz := F.size
  refine ⟨(sn.add 24).add 20, ?_⟩
  show (if ((0 : Nat) : Int) > ((T.size : Int) - ((7 : Nat) : Int)) then _ else match Sre.run flagsCode T 31 (min 4294967295 ((T.size : Int) - ((7 : Nat) : Int)).toNat) 7 0 ((sn.add 24).add 20) with | .error why => _ | .ok (n, seen) => _) = _
  rw [if_neg (by omega), show min 4294967295 ((T.size : Int) - ((7 : Nat) : Int)).toNat = b + 1 by omega, run_stop acc_not b 7 0 _ (fun q h1 h2 => by have := F.inn q h1 h2; simpa using this) (by rw [F.last]; rfl), Nat.zero_add]
  show (if b < 0 then _ else _) = _
  rw [if_neg (Nat.not_lt_zero _)]
  rfl
noncomputable def stE (T : Array Nat) (b : Nat) (sn : Sre.Seen) (pc pos : Nat) : M := { code := flagsCode, text := T, lim := T.size, start := 0, pc, pos, handed := 7 + b, marks := #[some 7, some (7 + b)], lastmark := 1, lastindex := 1, seen := sn, frames := [frD b, frA 0], weight := 2 }
theorem st_mark1 (T : Array Nat) (b : Nat) (sn : Sre.Seen) : (stD T b sn).step = stE T b (sn.add 17) 36 (7 + b) := by
  have e : (stD T b sn).step = ({ stD T b sn with seen := sn.add 17 } : M).mark 1 := rfl
  rw [e]
  unfold M.mark stD stE
  dsimp only
  rw [if_pos (by decide), if_pos (by decide)]
  rfl
noncomputable def stZ (T : Array Nat) (b : Nat) (sn : Sre.Seen) : M := { code := flagsCode, text := T, lim := T.size, start := 0, pc := 5, pos := 0, handed := 8 + b, marks := #[some 7, some (7 + b)], lastmark := 1, lastindex := 1, seen := sn, frames := [], weight := 0, answer := some true, outcome := some .matched }
theorem st_end (T : Array Nat) (b : Nat) (sn : Sre.Seen) : (stE T b sn 38 (8 + b)).runFor 4 = stZ T b (sn.add 1) := rfl
theorem st_lit (T : Array Nat) (b : Nat) (F : FlagsText T b) (sn : Sre.Seen) : (stE T b sn 36 (7 + b)).step = stE T b (sn.add 16) 38 (7 + b + 1) :=
  lit_ok (m := stE T b sn 36 (7 + b)) (c := 41) rfl rfl (show 36 < flagsCode.size by decide) rfl (show 7 + b < T.size by rw [F.size]; omega) rfl F.last
/-- the first run: to the end of the text -/
noncomputable def st0 (T : Array Nat) : M := { code := flagsCode, text := T, lim := T.size, start := 0, pc := 5, pos := 0, handed := 0, marks := #[none, none], seen := ({} : Sre.Seen).add 14 }
theorem st_first {T : Array Nat} {b : Nat} (F : FlagsText T b) (hb : b ≤ 1000) : ∃ sn', (st0 T).step = stA T T.size sn' := by
  have hsz := F.size
  refine ⟨((({} : Sre.Seen).add 14).add 24).add 2, ?_⟩
  show (if ((0 : Nat) : Int) > ((T.size : Int) - ((0 : Nat) : Int)) then ({ st0 T with seen := (({} : Sre.Seen).add 14).add 24 } : M).say false else match Sre.run flagsCode T 9 (min 4294967295 ((T.size : Int) - ((0 : Nat) : Int)).toNat) 0 0 (((({} : Sre.Seen).add 14).add 24).add 2) with | .error why => _ | .ok (n, seen) => _) = _
  rw [if_neg (by omega), show min 4294967295 ((T.size : Int) - ((0 : Nat) : Int)).toNat = T.size by omega, run_all acc_any T.size 0 0 _ (fun q h1 h2 => by have := F.noN q; simpa using this), Nat.zero_add]
  show (if T.size < 0 then _ else _) = _
  rw [if_neg (Nat.not_lt_zero _)]
  show ({ code := flagsCode, text := T, lim := T.size, start := 0, pc := 11, pos := 0 + T.size, handed := 0 + T.size, marks := #[none, none], seen := (((({} : Sre.Seen).add 14).add 24).add 2), frames := [{ wait := .giveBack, pc := 5, pos := 0 + T.size, outermost := true, count := T.size, kept := k0 }], weight := 1 } : M) = _
  rw [Nat.zero_add]
  rfl
theorem forMatch_eq {T : Array Nat} {b : Nat} (F : FlagsText T b) : Sre.forMatch flagsCode T 1 0 T.size false false = st0 T := by
  have hsz := F.size
  show (if ((8 : Nat) != 0 && decide (0 ≤ T.size) && decide (T.size - 0 < 8)) = true then _ else st0 T) = _
  rw [if_neg (by simp; omega)]
theorem flags_run {T : Array Nat} {b : Nat} (F : FlagsText T b) (hb : b ≤ 1000) : ∃ N sn, N ≤ 4 * 2 ^ 64 ∧ (Sre.forMatch flagsCode T 1 0 T.size false false).runFor N = stZ T b sn := by
  have hsz := F.size
  rw [forMatch_eq F]
  obtain ⟨s1, e1⟩ := st_first F hb
  obtain ⟨k, s2, hk, e2⟩ := st_down F T.size (Nat.le_refl _) s1
  obtain ⟨s3, e3⟩ := st_head F s2
  obtain ⟨s4, e4⟩ := st_flags F hb (s3.add 17)
  refine ⟨1 + (k + (7 + (1 + (1 + (1 + (1 + 4)))))), ((s4.add 17).add 16).add 1, ?_, ?_⟩
  · have : (2 : Nat) ^ 64 = 18446744073709551616 := by decide
    omega
  · have a1 : (st0 T).runFor 1 = stA T T.size s1 := by rw [run_succ _ rfl, e1]; rfl
    have a3 : (stB T s3 25 7).runFor 1 = stC T (s3.add 17) := by rw [run_succ _ rfl, st_mark0]; rfl
    have a4 : (stC T (s3.add 17)).runFor 1 = stD T b s4 := by rw [run_succ _ rfl, e4]; rfl
    have a5 : (stD T b s4).runFor 1 = stE T b (s4.add 17) 36 (7 + b) := by rw [run_succ _ rfl, st_mark1]; rfl
    have a6 : (stE T b (s4.add 17) 36 (7 + b)).runFor 1 = stE T b ((s4.add 17).add 16) 38 (8 + b) := by rw [run_succ _ rfl, st_lit T b F, show 7 + b + 1 = 8 + b by omega]; rfl
    rw [run_add, a1, run_add, e2, run_add, e3, run_add, a3, run_add, a4, run_add, a5, run_add, a6, st_end]
end Mine
end
section
open PySem PySem.W PyProof.Rows PySem.Calls
set_option maxRecDepth 100000
namespace Mine
theorem str_index : typeLookup (.type "str") "__index__" = pure none := by rw [typeLookup_type, builtinLookup_eq_fast]; kernel_rfl
theorem bytes_bytes : isSubtype (.type "bytes") (.type "bytes") = pure true := by rw [isSubtype_type]; kernel_rfl
theorem target_bytes {prog : Program} {w : World} {A : Around} {E : Value → Shared → Prop} {s : Shared} {id f : String} {a : Addr} {x : Array UInt8} {t : Tok} {code : Array Nat} {groups : Int} {Q : Builtin.Re.ReTarget → Shared → Prop} (P : PatAt s.heap a code groups 1) (hz : x.size ≤ 1000)
    (h : Q { pattern := .ref a, string := .bytes x t, code, text := x.map (·.toNat), kind := 1, groups := groups.toNat, pos := 0, lim := (x.map (·.toNat)).size } s) : wpAny (model prog w) A (Builtin.Re.reTarget id f ⟨[.ref a, .bytes x t], []⟩) Q E s := by
  obtain ⟨o, fs, tu, ho, _, _, hd, h5, h6, h2, o', n, vs, ho', hd', hc⟩ := P
  unfold Builtin.Re.reTarget
  dsimp only
  rw [named_eq]
  refine wpAny_bind (wpAny_pure ?_)
  dsimp only
  refine wpAny_bind (wpAny_pure (wpAny_bind (wpAny_pure (wpAny_bind (wpAny_fieldsOf ho hd (wpAny_bind ?_))))))
  unfold Builtin.Re.reTextOf
  rw [KBy.quiet_eq]
  show wpAny _ _ (pure (x.map (·.toNat), 1)) _ _ _
  refine wpAny_pure ?_
  dsimp only
  rw [h6, h5, h2]
  rw [if_neg (by decide), if_neg (by decide)]
  refine wpAny_bind ?_
  unfold Builtin.Re.reNoCollectionInside
  rw [if_pos (by decide)]
  refine wpAny_bind (wpAny_isInstance (typeIs_bytes _ _ _) bytes_bytes ?_)
  show wpAny _ _ (pure PUnit.unit) _ _ _
  refine wpAny_pure (wpAny_bind ?_)
  unfold Builtin.Re.reRawItems
  refine wpAny_bind (wpAny_seqItems ho' hd' (wpAny_pure (wpAny_pure ?_)))
  have e1 : min (Int.toNat 0) (x.map (·.toNat)).size = 0 := by simp
  have e2 : min (2 ^ 63 - 1 : Int).toNat (x.map (·.toNat)).size = (x.map (·.toNat)).size := by
    have : (x.map (·.toNat)).size = x.size := by simp
    omega
  rw [e1, e2]
  have e3 : Array.map (fun x => x.toNat) (Array.map Builtin.Re.reRawOf ((some vs).getD #[])) = code := hc
  rw [e3]
  exact h
/-- what a match leaves in the heap -/
theorem newMatch {prog : Program} {w : World} {A : Around} {E : Value → Shared → Prop} {s : Shared} {a : Addr} {x : Array UInt8} {t : Tok} {T : Array Nat} {b : Nat} {sn : Sre.Seen} {n : Nat} {Q : Value → Shared → Prop}
    (h : Q (.ref (s.heap.objs.size + 1)) { s with heap := (s.heap.push { cls := .type "tuple", data := .seq #[rawInt 0, rawInt (8 + b : Nat), rawInt (7 : Nat), rawInt (7 + b : Nat)] }).push { cls := .type "re.Match", data := .fields #[.bytes x t, .ref a, rawInt 0, rawInt n, rawInt 1, .ref s.heap.objs.size] } }) :
    wpAny (model prog w) A (Builtin.Re.reNewMatch (.ref a) (.bytes x t) 1 0 n (stZ T b sn)) Q E s := by
  unfold Builtin.Re.reNewMatch
  show wpAny _ _ (if ((decide ((1 : Int) ≤ 1) && decide (7 + b < 7)) || false) = true then _ else (newTuple (rawInt (0 : Nat) :: rawInt (8 + b : Nat) :: [rawInt (7 : Nat), rawInt (7 + b : Nat)]) >>= fun u => newFields "re.Match" [.bytes x t, .ref a, rawInt (0 : Nat), rawInt n, rawInt 1, u])) Q E s
  rw [if_neg (by simp)]
  refine wpAny_bind (wpAny_newTuple ?_ (show 4 ≤ sizeLine by decide))
  unfold newFields
  refine wpAny_newObj_type ?_
  show Q (.ref (s.heap.push _).objs.size) _
  rw [Heap.size_push]
  exact h
/-- a match of the flags -/
theorem meets_match {a : Addr} {x : Array UInt8} {t : Tok} {b : Nat} (F : FlagsText (x.map (·.toNat)) b) (hb : b ≤ 900) :
    Meets (Builtin.«re.Pattern.match» ⟨[.ref a, .bytes x t], []⟩) (fun _ R s => PatAt s.heap a flagsCode 1 1 ∧ ∀ n, R (.ok (.ret (.ref (s.heap.objs.size + 1)))) { s with heap := (s.heap.push { cls := .type "tuple", data := .seq #[rawInt 0, rawInt (8 + b : Nat), rawInt (7 : Nat), rawInt (7 + b : Nat)] }).push { cls := .type "re.Match", data := .fields #[.bytes x t, .ref a, rawInt 0, n, rawInt 1, .ref s.heap.objs.size] } }) := by
  refine .of_wp fun prog w A R s hS => ?_
  obtain ⟨P, hR⟩ := hS
  obtain ⟨N, sn, hN, e⟩ := flags_run F (by omega)
  have hx : x.size ≤ 1000 := by have := F.size; simp at this; omega
  unfold Builtin.«re.Pattern.match»
  refine wpAny_bind (target_bytes P hx ?_)
  dsimp only
  unfold Builtin.Re.reAnswer
  refine wpAny_bind (toEnd hN (.inr ⟨by rw [show (1 : Int).toNat = 1 from rfl, e]; rfl, ?_⟩))
  rw [show (1 : Int).toNat = 1 from rfl, e]
  dsimp only
  exact wpAny_bind (newMatch (wpAny_pure ⟨_, rfl, hR _⟩))
/-- the names of the groups -/
noncomputable def FlagsDict (c : Cx) : Prop := ∀ h, c.K.In h → h.MapOf (strKind pw c.w) 195 (fun k => if k = S "flags" then some (.int 1 619) else none)
/-- the pattern's object, with its names -/
noncomputable def FlagsObj (c : Cx) : Prop := ∀ h, c.K.In h → ∃ o fs, h.get? 198 = some o ∧ o.data = .fields fs ∧ fs.getD 3 .none = .ref 195
section
variable {c : Cx} {n : Nat}
theorem fn_match {x : Array UInt8} {b : Nat} (P : PatObj c 198 flagsCode 1 1) (F : FlagsText (x.map (·.toNat)) b) (hb : b ≤ 900) : Fn c n (.builtin "re.Pattern.match") [.adr 198, .bytes x] (.mat x 7 (7 + b)) := by
  intro X A E s vs Q R G r hQ
  obtain ⟨v, u, rfl, q, p⟩ := reps2 r
  cases q; cases p
  have PA := P _ G.k
  have hT : s.TypeIs (.ref 198) "re.Pattern" := by obtain ⟨o, fs, tu, ho, hc, _⟩ := PA; exact ⟨_, ho, hc⟩
  refine call_meets slot_pat_match hT entry_pat_match (args_pat_match_2 _ _) (meets_match F hb) ⟨PA, fun nv => hQ _ _ ⟨_, _, rfl, (KeepsH.push _ _).trans (KeepsH.push _ _)⟩ ?_⟩
  refine .mat ⟨fun q => ?_, G.new⟩ ⟨rfl, rfl⟩ (Heap.get?_push_at (by rw [Heap.size_push]) rfl) (Heap.get?_push_of_some _ (Heap.get?_push_at rfl rfl))
  obtain ⟨o, e⟩ := G.vis _ q
  exact absurd (Heap.lt_size e) (Nat.not_lt.mpr (Nat.le_succ _))
theorem tru_mat {x : Array UInt8} {b e : Nat} : Tru c n (.mat x b e) true := by
  intro X A E s v Q R G r h
  cases r with
  | mat q hbe ho ht =>
    have hT : s.TypeIs (.ref _) "re.Match" := ⟨_, ho, rfl⟩
    unfold truthy
    refine wpAny_bind (m := callSpecial? (.ref _) (Str.ofString "__bool__")) ?_
    unfold callSpecial?
    refine wpAny_bind (wpAny_specialOf hT no_bool_mat (wpAny_pure ?_))
    exact wpAny_bind (wpAny_specialOf hT no_len_mat (wpAny_pure (h s (keeps_refl s))))
end
end Mine
end
section
open PySem PySem.W PyProof.Rows PySem.Calls
set_option maxRecDepth 100000
namespace Mine
theorem text_back (x : Array UInt8) (b e : Nat) : (((x.map (·.toNat)).extract b e).map (·.toUInt8)) = x.extract b e := by
  rw [← Array.map_extract, Array.map_map]
  conv => rhs; rw [← Array.map_id (x.extract b e)]
  congr 1
  funext c
  simp
theorem group_run {c : Cx} {A : Around} {E : Value → Shared → Prop} {s : Shared} {a tu : Addr} {x : Array UInt8} {t u : Tok} {p l i : Value} {q f b e : Int} {k : Nat} {b' e' : Nat} {Q : Fin → Shared → Prop} (hK : c.K.In s.heap) (FD : FlagsDict c) (FO : FlagsObj c) (hz : x.size ≤ 1000) (hb : b = b') (he : e = e')
    (ho : s.heap.get? a = some { cls := .type "re.Match", data := .fields #[.bytes x t, .ref 198, p, l, i, .ref tu] }) (ht : s.heap.get? tu = some { cls := .type "tuple", data := .seq #[rawInt q, rawInt f, rawInt b, rawInt e] k })
    (h : ∀ t' tk, Q (.done (.ret (.bytes (x.extract b' e') t'))) { s with toks := tk }) : wpAny c.M A (Builtin.«re.Match.group» ⟨[.ref a, .str (S "flags") u], []⟩) Q E s := by
  subst hb he
  obtain ⟨o, fs, ho2, hd2, h3⟩ := FO _ hK
  unfold Builtin.«re.Match.group»
  refine wpAny_bind ?_
  show wpAny _ _ (pure PUnit.unit) _ _ _
  refine wpAny_pure ?_
  dsimp only
  unfold Builtin.Re.reFound
  refine wpAny_bind (wpAny_bind (wpAny_fieldsOf ho rfl (wpAny_bind ?_)))
  unfold Builtin.Re.reRawItems
  refine wpAny_bind (wpAny_seqItems ht rfl (wpAny_pure (wpAny_pure ?_)))
  have hs : Array.map Builtin.Re.reRawOf ((some #[rawInt q, rawInt f, rawInt (b' : Int), rawInt (e' : Int)]).getD #[]) = #[q, f, (b' : Int), (e' : Int)] := by simp [Builtin.Re.reRawOf, rawInt]
  rw [hs]
  refine wpAny_bind ?_
  unfold Builtin.Re.reGroupNumber
  refine wpAny_bind ?_
  refine wpAny_bind ?_
  show wpAny _ _ (pure PUnit.unit) _ _ _
  refine wpAny_pure (wpAny_pure ?_)
  dsimp only
  rw [if_neg (by decide)]
  refine wpAny_bind (wpAny_specialOf (typeIs_str _ _ _) str_index ?_)
  rw [if_neg (by decide)]
  refine wpAny_bind (wpAny_fieldsOf (a := 198) ho2 hd2 ?_)
  rw [h3]
  dsimp only
  refine wpAny_bind (wpAny_dictGet_of (k := S "flags") (by simp [PySem.strKind, Value.isStrOf]) (FD _ hK) ?_)
  rw [if_pos rfl]
  dsimp only
  refine wpAny_bind (wpAny_pure (wpAny_bind (wpAny_pure ?_)))
  show wpAny _ _ (if (decide ((1 : Int) < 0) || decide (2 * (1 : Int) ≥ ((4 : Nat) : Int))) = true then _ else pure 1) _ _ _
  rw [if_neg (by decide)]
  refine wpAny_pure ?_
  refine wpAny_bind ?_
  unfold Builtin.Re.reGroupText
  show wpAny _ _ (if (decide ((b' : Int) < 0) || decide ((e' : Int) < 0)) = true then _ else (Builtin.Re.reTextOf (.bytes x t) >>= fun r => Builtin.Re.reSlice r.1 r.2 (b' : Int).toNat (e' : Int).toNat)) _ _ _
  rw [if_neg (by simp)]
  unfold Builtin.Re.reTextOf
  refine wpAny_bind (wpAny_bind ?_)
  show wpAny _ _ (notAStandIn (.bytes x t) >>= fun _ => pure none) _ _ _
  refine wpAny_bind ?_
  show wpAny _ _ (pure PUnit.unit) _ _ _
  refine wpAny_pure (wpAny_pure ?_)
  dsimp only
  rw [KBy.quiet_eq]
  refine wpAny_bind (wpAny_pure (wpAny_pure ?_))
  unfold Builtin.Re.reSlice
  show wpAny _ _ (if ((1 : Nat) == 0) = true then _ else mkBytes (((x.map (·.toNat)).extract b' e').map (·.toUInt8))) _ _ _
  rw [if_neg (by decide), text_back]
  refine wpAny_mkBytes ?_ (by simp [sizeLine_eq]; omega)
  exact wpAny_pure (h _ _)
section
variable {c : Cx} {n : Nat}
theorem meets_group {c : Cx} {a tu : Addr} {x : Array UInt8} {t u : Tok} {p l i : Value} {q f b e : Int} {k : Nat} {b' e' : Nat} (FD : FlagsDict c) (FO : FlagsObj c) (hz : x.size ≤ 1000) (hb : b = b') (he : e = e') {A : Around} {E : Value → Shared → Prop} {s : Shared} {Q : Value → Shared → Prop} (hK : c.K.In s.heap)
    (ho : s.heap.get? a = some { cls := .type "re.Match", data := .fields #[.bytes x t, .ref 198, p, l, i, .ref tu] }) (ht : s.heap.get? tu = some { cls := .type "tuple", data := .seq #[rawInt q, rawInt f, rawInt b, rawInt e] k })
    (h : ∀ t' tk, Q (.bytes (x.extract b' e') t') { s with toks := tk }) : wpAny c.M A (call (.builtin "re.Match.group") [.ref a, .str (S "flags") u]) Q E s := by
  refine wpAny_call_entry slot_mat_group (T := "re.Match") ⟨_, ho, rfl⟩ entry_mat_group ?_ (args_mat_group_2 _ _)
  exact group_run hK FD FO hz hb he ho ht fun t' tk => ⟨_, rfl, h t' tk⟩
theorem fn_group {x : Array UInt8} {b e : Nat} (FD : FlagsDict c) (FO : FlagsObj c) (hz : x.size ≤ 1000) : Fn c n (.builtin "re.Match.group") [.mat x b e, .str (S "flags")] (.bytes (x.extract b e)) := by
  intro X A E s vs Q R G r hQ
  obtain ⟨v, u, rfl, q, p⟩ := reps2 r
  cases p
  cases q with
  | mat q hbe ho ht => exact meets_group FD FO hz hbe.1 hbe.2 G.k ho ht fun t' k => hQ _ _ (keeps_tok s _) (.bytes _ _)
theorem mth_group {x : Array UInt8} {b e : Nat} : Mth c (.mat x b e) (S "group") (.builtin "re.Match.group") := mth_of on_mat plainAttrs_mat slot_mat_group type_mat_group
theorem fn_split {l : List UInt8} {ws : List (List UInt8)} (hw : wordsB l = ws) (hl : l.length ≤ 1000) (hwz : ∀ w ∈ ws, w.length ≤ 1000) (hn : ws.length ≤ 1000) : Fn c n (.builtin "bytes.split") [.bytes l.toArray] (.lst (ws.map fun w => .bytes w.toArray)) := by
  intro X A E s vs Q R G r hQ
  obtain ⟨v, rfl, q⟩ := reps1 r
  obtain ⟨_, rfl⟩ := rep_inv q
  rename_i t
  have key : ∀ (s₀ : Shared) (Q : Value → Shared → Prop), Glo c X s₀.heap → (∀ v s', Keeps s₀ s' → Rep X s'.heap v (.lst (ws.map fun w => .bytes w.toArray)) → Q v s') → wpAny c.M A.in1 (Builtin.«bytes.split» ⟨[.bytes l.toArray t], []⟩) (fun fin s' => ∃ v, fin = .done (.ret v) ∧ Q v s') E s₀ := fun s₀ Q G hQ => by
    rw [entry_split]
    refine wpAny_bind (wpAny_rule ?_)
    by_cases hc : (decide (l.toArray.size + 1 > 0) && !l.toArray.isEmpty && !l.toArray.any Builtin.Bytes.isSpace) = true
    · rw [if_pos hc]
      simp only [Bool.and_eq_true, Bool.not_eq_true'] at hc
      have hne : l ≠ [] := by rintro rfl; simp at hc
      have hns : ∀ x ∈ l, Builtin.Bytes.isSpace x = false := fun x hx => by
        have := hc.2
        simp only [List.any_toArray, List.any_eq_false] at this
        simpa using this x hx
      rw [words_one hne hns] at hw
      subst hw
      refine wpAny_bind (wpAny_newList (wpAny_pure ⟨_, rfl, hQ _ _ ⟨_, _, rfl, KeepsH.push _ _⟩ (.lst G.new ⟨_, Heap.get?_push_size _ rfl, rfl, _, rfl⟩ (.cons (.bytes _ _) .nil))⟩) (show 1 ≤ sizeLine by decide))
    · rw [if_neg hc]
      have e : Builtin.Bytes.words (l.toArray.size + 1) (l.toArray.size + 1) l.toArray.toList = ws := by rw [← hw]; simp [wordsB]
      rw [e]
      refine wpAny_bind (mapM_bytes ws s₀ _ hwz fun vs k rv hl => ?_)
      refine wpAny_bind (wpAny_newList (wpAny_pure ⟨_, rfl, hQ _ _ ⟨_, _, rfl, KeepsH.push _ _⟩ (.lst G.new ⟨_, Heap.get?_push_size _ rfl, rfl, _, rfl⟩ (rv _ _))⟩) (by rw [hl, sizeLine_eq]; omega))
  exact wpAny_call_entry slot_bytes_split (typeIs_bytes _ _ _) entry_bytes_split (key s Q G hQ) (args_bytes_split_1 _)
end
end Mine
end
section
open PySem PySem.W PyProof.Rows PySem.Calls
set_option maxRecDepth 100000
namespace Mine
section
variable {c : Cx} {n : Nat}
theorem bin_add_str {a b : Str} (hz : a.length + b.length ≤ 1000) : Bin c n .Add (.str a) (.str b) (.str (a ++ b)) := by
  intro X A E s v₁ v₂ Q R G r₁ r₂ h
  obtain ⟨_, rfl⟩ := rep_inv r₁; obtain ⟨_, rfl⟩ := rep_inv r₂
  exact PyProof.Rows.add_str (fun t' k => h _ _ (keeps_tok s _) (.str _ _)) (by rw [sizeLine_eq]; omega)
end
/-- what ParseFlags needs of the top -/
structure PGlo (c : Cx) : Prop where
  flg : c.mg (S "Flags") = some (.ref 198)
  tup : c.mg (S "tuple") = none
  pat : PatObj c 198 flagsCode 1 1
  dic : FlagsDict c
  obj : FlagsObj c
noncomputable abbrev pfS : Scope := scopeOf (stmtAt 13)
theorem at_parse {c : Cx} (H : FnObj c (stmtAt 13) 212) : ∃ fd, FnAt c 212 fd (bodyOf (stmtAt 13)) [S "resp"] ∧ fd.scope = pfS :=
  fn_at H _ (fun pm => bind1 (α := Unit) fun a => by rfl) (by decide) (by decide) (by decide) (by decide) rfl rfl rfl rfl
theorem fn_parse {c : Cx} (P : PGlo c) (H : FnObj c (stmtAt 13) 212) {n : Nat} {x : Array UInt8} {b : Nat} {l : List UInt8} {ws : List (List UInt8)} (F : FlagsText (x.map (·.toNat)) b) (hb : b ≤ 900) (hx : x.extract 7 (7 + b) = l.toArray) (hw : wordsB l = ws) (hwz : ∀ w ∈ ws, w.length ≤ 1000) (hn : ws.length ≤ 1000) :
    Fn c (n + 1) (.ref 212) [.bytes x] (.tup (ws.map fun w => .bytes w.toArray)) := by
  refine fn_of (out := .ret _) (os := []) (at_parse H) rfl ?_
  have hxs : x.size = b + 8 := by have := F.size; simpa using this
  have hl : l.length ≤ 1000 := by
    have : l.length = (x.extract 7 (7 + b)).size := by rw [hx]; simp
    rw [this]; simp; omega
  refine ex_cons (ρ' := (S "mo", .mat x 7 (7 + b)) :: _) (ex1_assign' (ev_meth (d₀ := .adr 198) (ev_adr (ev_global rfl P.flg)) (mth_match P.pat) (keepF_builtin _) (.cons' (ev_local rfl rfl) .nil) (fn_match P.pat F hb)) (sto_local rfl (by decide)) (fun env he => by rfl)) ?_
  refine ex_cons (ex1_if (b := false) (tst_not (b := true) (tst_plain (ev_local rfl rfl) tru_mat)) (fun h => nomatch h) (fun _ => ex_nil)) ?_
  refine ex_ret (ex1_return (ev_call (ev_builtin rfl P.tup (by rfl)) (keepF_type _) (.cons' (ev_meth (d₀ := .bytes l.toArray) ?grp mth_split (keepF_builtin _) .nil (fn_split hw hl hwz hn)) .nil) (fn_tuple (by rw [List.length_map, sizeLine_eq]; omega))))
  case grp =>
    rw [← hx]
    exact ev_meth (d₀ := .mat x 7 (7 + b)) (ev_local rfl rfl) mth_group (keepF_builtin _) (.cons' ev_str .nil) (fn_group P.dic P.obj (by omega))
end Mine
end
section
open PySem PySem.W PyProof.Rows PySem.Calls
set_option maxRecDepth 100000
namespace Mine
noncomputable def wdL (w : Wd) : List UInt8 := [w.1, w.2.1, w.2.2.1, w.2.2.2]
noncomputable def txtW (w : Wd) : Str := txtOf (wdL w)
/-- letters from A to K -/
noncomputable def GoodW (w : Wd) : Prop := ∀ x ∈ wdL w, 65 ≤ x.toNat ∧ x.toNat ≤ 75
noncomputable def tailB : List Wd → List UInt8
  | [] => []
  | w :: r => 32 :: (wdL w ++ tailB r)
noncomputable def bodyB : List Wd → List UInt8
  | [] => []
  | w :: r => wdL w ++ tailB r
theorem tail_cases : ∀ r : List Wd, (r = [] ∧ tailB r = []) ∨ tailB r = 32 :: bodyB r
  | [] => .inl ⟨rfl, rfl⟩
  | _ :: _ => .inr rfl
theorem good_sp {w : Wd} (h : GoodW w) {x : UInt8} (hx : x ∈ wdL w) : Builtin.Bytes.isSpace x = false := by
  have := h x hx
  unfold Builtin.Bytes.isSpace
  have e1 : (x == 32) = false := by
    have : x ≠ 32 := by rintro rfl; exact absurd this.1 (by decide)
    simpa using this
  have e2 : decide (x ≤ 13) = false := by
    have : ¬ x ≤ 13 := fun q => by have : x.toNat ≤ 13 := q; omega
    simpa using this
  rw [e1, e2]; simp
theorem dropW_app {p : UInt8 → Bool} : ∀ {l r : List UInt8}, (∀ x ∈ l, p x = true) → (l ++ r).dropWhile p = r.dropWhile p ∧ (l ++ r).takeWhile p = l ++ r.takeWhile p
  | [], r, _ => ⟨rfl, rfl⟩
  | a :: l, r, h => by
    obtain ⟨h1, h2⟩ := dropW_app (r := r) (fun x hx => h x (.tail _ hx))
    rw [List.cons_append, List.dropWhile_cons, List.takeWhile_cons, h a (.head _), if_pos rfl, if_pos rfl, h1, h2]
    exact ⟨rfl, rfl⟩
theorem body_drop : ∀ {ws : List Wd}, (∀ w ∈ ws, GoodW w) → (bodyB ws).dropWhile Builtin.Bytes.isSpace = bodyB ws
  | [], _ => rfl
  | w :: r, h => by
    show (w.1 :: _).dropWhile _ = _
    rw [List.dropWhile_cons, good_sp (h w (.head _)) (by simp [wdL]), if_neg (by decide)]
    rfl
theorem words_body : ∀ (ws : List Wd) (fuel left : Nat) (t : List UInt8), (∀ w ∈ ws, GoodW w) → t.dropWhile Builtin.Bytes.isSpace = bodyB ws → ws.length < fuel → ws.length ≤ left → Builtin.Bytes.words fuel left t = ws.map wdL
  | [], fuel + 1, left, t, _, ht, _, _ => by rw [Builtin.Bytes.words, ht]; rfl
  | w :: r, fuel + 1, left, t, hg, ht, hf, hl => by
    have hns : ∀ x ∈ wdL w, (!Builtin.Bytes.isSpace x) = true := fun x hx => by rw [good_sp (hg w (.head _)) hx]; rfl
    have e : bodyB (w :: r) = w.1 :: ([w.2.1, w.2.2.1, w.2.2.2] ++ tailB r) := rfl
    rw [Builtin.Bytes.words, ht, e]
    dsimp only
    rw [if_neg (by simp; simp at hl; omega), ← e]
    have hb : bodyB (w :: r) = wdL w ++ tailB r := rfl
    obtain ⟨h1, h2⟩ := dropW_app (p := fun x => !Builtin.Bytes.isSpace x) (r := tailB r) hns
    rw [hb, h1, h2]
    simp only [List.length_cons] at hf hl
    rcases tail_cases r with ⟨rfl, h0⟩ | h0
    · rw [h0]
      show _ :: Builtin.Bytes.words fuel (left - 1) [] = _
      rw [words_body [] fuel (left - 1) [] (fun _ h => by cases h) rfl (by simp; omega) (by simp)]
      simp
    · rw [h0]
      have hs : (!Builtin.Bytes.isSpace 32) = false := by decide
      rw [List.dropWhile_cons, List.takeWhile_cons, hs, if_neg (by decide), if_neg (by decide)]
      rw [words_body r fuel (left - 1) (32 :: bodyB r) (fun x hx => hg x (.tail _ hx)) (by rw [List.dropWhile_cons, if_pos (by decide)]; exact body_drop fun x hx => hg x (.tail _ hx)) (by omega) (by omega)]
      simp
theorem tail_len : ∀ ws : List Wd, (tailB ws).length = 5 * ws.length
  | [] => rfl
  | w :: r => by simp [tailB, wdL, tail_len r]; omega
theorem body_len : ∀ ws : List Wd, (bodyB ws).length ≤ 5 * ws.length ∧ ws.length ≤ (bodyB ws).length
  | [] => ⟨by simp [bodyB], by simp⟩
  | w :: r => by simp [bodyB, wdL, tail_len r]; omega
theorem wordsB_body {ws : List Wd} (hg : ∀ w ∈ ws, GoodW w) : wordsB (bodyB ws) = ws.map wdL :=
  words_body ws _ _ _ hg (body_drop hg) (by have := (body_len ws).2; omega) (by have := (body_len ws).2; omega)
theorem glue_fold : ∀ (r : List Wd) (acc : Array Nat), (r.map txtW).foldl (fun acc p => acc ++ (S " ").cps ++ p.cps) acc = acc ++ ((tailB r).map (·.toNat)).toArray
  | [], acc => by simp [tailB]
  | w :: r, acc => by
    rw [List.map_cons, List.foldl_cons, glue_fold r]
    have e1 : (S " ").cps = #[32] := rfl
    have e2 : (txtW w).cps = ((wdL w).map (·.toNat)).toArray := rfl
    rw [e1, e2]
    apply Array.ext'
    simp [tailB]
theorem join_body (ws : List Wd) : (Txt.join (S " ") (ws.map txtW)).cps = ((bodyB ws).map (·.toNat)).toArray := by
  cases ws with
  | nil => rfl
  | cons w r =>
    show ((r.map txtW).foldl (fun acc p => acc ++ (S " ").cps ++ p.cps) (txtW w).cps) = _
    rw [glue_fold]
    have e2 : (txtW w).cps = ((wdL w).map (·.toNat)).toArray := rfl
    rw [e2]
    apply Array.ext'
    simp [bodyB]
/-- the whole answer -/
noncomputable def flagsL (ws : List Wd) : List Nat := [70, 76, 65, 71, 83, 32, 40] ++ (bodyB ws).map (·.toNat) ++ [41]
noncomputable def flagsS (ws : List Wd) : Str := S "FLAGS (" ++ Txt.join (S " ") (ws.map txtW) ++ S ")"
theorem flagsS_cps (ws : List Wd) : (flagsS ws).cps = (flagsL ws).toArray := by
  have e0 : (flagsS ws).cps = (S "FLAGS (").cps ++ (Txt.join (S " ") (ws.map txtW)).cps ++ (S ")").cps := rfl
  have e1 : (S "FLAGS (").cps = #[70, 76, 65, 71, 83, 32, 40] := rfl
  have e2 : (S ")").cps = #[41] := rfl
  rw [e0, join_body, e1, e2]
  apply Array.ext'
  simp [flagsL]
theorem tail_bytes : ∀ {ws : List Wd}, (∀ w ∈ ws, GoodW w) → ∀ x ∈ tailB ws, x = 32 ∨ (65 ≤ x.toNat ∧ x.toNat ≤ 75)
  | [], _, x, hx => by cases hx
  | w :: r, h, x, hx => by
    rw [tailB] at hx
    rcases List.mem_cons.mp hx with rfl | hx
    · exact .inl rfl
    · rcases List.mem_append.mp hx with hx | hx
      · exact .inr (h w (.head _) x hx)
      · exact tail_bytes (fun y hy => h y (.tail _ hy)) x hx
theorem body_bytes {ws : List Wd} (h : ∀ w ∈ ws, GoodW w) : ∀ x ∈ bodyB ws, x = 32 ∨ (65 ≤ x.toNat ∧ x.toNat ≤ 75) := by
  cases ws with
  | nil => intro x hx; cases hx
  | cons w r => exact fun x hx => tail_bytes h x (.tail _ hx)
theorem body_nat {ws : List Wd} (h : ∀ w ∈ ws, GoodW w) {q : Nat} (hq : q < (bodyB ws).length) : ((bodyB ws).map (·.toNat)).getD q 0 = 32 ∨ (65 ≤ ((bodyB ws).map (·.toNat)).getD q 0 ∧ ((bodyB ws).map (·.toNat)).getD q 0 ≤ 75) := by
  have e : ((bodyB ws).map (·.toNat)).getD q 0 = ((bodyB ws)[q]).toNat := by simp [List.getD, hq]
  rw [e]
  rcases body_bytes h _ (List.getElem_mem hq) with h1 | h1
  · left; rw [h1]; rfl
  · exact .inr h1
theorem gd_right {l r : List Nat} {k q : Nat} (h : l.length = k) : (l ++ r).getD (k + q) 0 = r.getD q 0 := by
  subst h
  simp [List.getD, List.getElem?_append_right]
theorem gd_left {l r : List Nat} {q : Nat} (h : q < l.length) : (l ++ r).getD q 0 = l.getD q 0 := by
  simp [List.getD, List.getElem?_append_left h]
theorem flags_get {ws : List Wd} {q : Nat} : (flagsL ws).getD (7 + q) 0 = if q < (bodyB ws).length then ((bodyB ws).map (fun x : UInt8 => x.toNat)).getD q 0 else if q = (bodyB ws).length then 41 else 0 := by
  unfold flagsL
  rw [List.append_assoc, gd_right (k := 7) (by rfl)]
  by_cases h : q < (bodyB ws).length
  · rw [if_pos h, gd_left (by simpa using h)]
  · rw [if_neg h]
    obtain ⟨k, rfl⟩ := Nat.exists_eq_add_of_le (Nat.not_lt.mp h)
    rw [gd_right (by simp)]
    cases k with
    | zero => rw [if_pos (by omega)]; rfl
    | succ k => rw [if_neg (by omega)]; rfl
theorem flags_text {ws : List Wd} (hg : ∀ w ∈ ws, GoodW w) {T : Array Nat} (hT : T = (flagsL ws).toArray) : FlagsText T (bodyB ws).length := by
  subst hT
  have g : ∀ q, ((flagsL ws).toArray).getD q 0 = (flagsL ws).getD q 0 := fun q => by simp
  have hb : ∀ q, (flagsL ws).getD (7 + q) 0 = 0 ∨ (flagsL ws).getD (7 + q) 0 = 41 ∨ (flagsL ws).getD (7 + q) 0 = 32 ∨ (65 ≤ (flagsL ws).getD (7 + q) 0 ∧ (flagsL ws).getD (7 + q) 0 ≤ 75) := fun q => by
    rw [flags_get]
    split
    · rename_i h
      exact .inr (.inr (body_nat hg h))
    · split
      · exact .inr (.inl rfl)
      · exact .inl rfl
  refine ⟨by simp [flagsL], rfl, rfl, rfl, rfl, rfl, rfl, rfl, fun q h1 h2 => ?_, ?_, fun q hq => ?_, fun q => ?_⟩
  · rw [g]
    obtain ⟨k, rfl⟩ := Nat.exists_eq_add_of_le h1
    rw [flags_get, if_pos (by omega)]
    rcases body_nat hg (q := k) (by omega) with h | h <;> omega
  · rw [g, flags_get, if_neg (by omega), if_pos rfl]
  · rw [g]
    by_cases h7 : 7 ≤ q
    · obtain ⟨k, rfl⟩ := Nat.exists_eq_add_of_le h7
      have := hb k
      omega
    · have : q = 2 ∨ q = 3 ∨ q = 4 ∨ q = 5 ∨ q = 6 := by omega
      rcases this with rfl | rfl | rfl | rfl | rfl
      · exact show (65 : Nat) ≠ 76 by decide
      · exact show (71 : Nat) ≠ 76 by decide
      · exact show (83 : Nat) ≠ 76 by decide
      · exact show (32 : Nat) ≠ 76 by decide
      · exact show (40 : Nat) ≠ 76 by decide
  · rw [g]
    by_cases h7 : 7 ≤ q
    · obtain ⟨k, rfl⟩ := Nat.exists_eq_add_of_le h7
      have := hb k
      omega
    · have : q = 0 ∨ q = 1 ∨ q = 2 ∨ q = 3 ∨ q = 4 ∨ q = 5 ∨ q = 6 := by omega
      rcases this with rfl | rfl | rfl | rfl | rfl | rfl | rfl
      · exact show (70 : Nat) ≠ 10 by decide
      · exact show (76 : Nat) ≠ 10 by decide
      · exact show (65 : Nat) ≠ 10 by decide
      · exact show (71 : Nat) ≠ 10 by decide
      · exact show (83 : Nat) ≠ 10 by decide
      · exact show (32 : Nat) ≠ 10 by decide
      · exact show (40 : Nat) ≠ 10 by decide
end Mine
end
section
open PySem PySem.W PyProof.Rows PySem.Calls
set_option maxRecDepth 100000
namespace Mine
/-- a line: name and word -/
noncomputable abbrev Rw := Str × Wd
noncomputable def hdW (p : Rw) : Hd := (p.1, txtW p.2)
noncomputable abbrev tblW (rows : List Rw) : D := tblD (rows.map hdW)
noncomputable def getW (rows : List Rw) (x : Str) : List Wd := (rows.filter fun p => Txt.lower p.1 == Txt.lower x).map (·.2)
theorem getAll_W (x : Str) : ∀ rows : List Rw, getAll (rows.map hdW) x = (getW rows x).map txtW
  | [] => rfl
  | p :: r => by
    have ih := getAll_W x r
    unfold getAll getW at ih ⊢
    rw [List.map_cons, List.filter_cons, List.filter_cons]
    show List.map _ (if (Txt.lower p.1 == Txt.lower x) = true then _ else _) = _
    split
    · rw [List.map_cons, List.map_cons, List.map_cons, ih]; rfl
    · exact ih
theorem nat_u8 (l : List Nat) (h : ∀ c ∈ l, c < 128) : ((l.toArray.map (·.toUInt8)).map (fun x : UInt8 => x.toNat)) = l.toArray := by
  apply Array.ext'
  simp only [Array.toList_map, List.map_map]
  conv => rhs; rw [← List.map_id l]
  apply List.map_congr_left
  intro c hc
  have := h c (by simpa using hc)
  simp
  omega
theorem flagsL_lt {ws : List Wd} (hg : ∀ w ∈ ws, GoodW w) : ∀ c ∈ flagsL ws, c < 128 := by
  intro c hc
  unfold flagsL at hc
  simp only [List.mem_append, List.mem_map] at hc
  rcases hc with (hc | ⟨x, hx, rfl⟩) | hc
  · simp at hc; omega
  · rcases body_bytes hg x hx with rfl | h
    · decide
    · omega
  · simp at hc; omega
theorem u8_nat (l : List UInt8) : (l.map (fun x : UInt8 => x.toNat)).map (·.toUInt8) = l := by
  rw [List.map_map]
  conv => rhs; rw [← List.map_id l]
  apply List.map_congr_left
  intro c _
  simp
theorem base_const {k : Const} {i : Nat} {p : Pos} {name : Str} {env : Env} {whole : Sem Value} : attributeBase (.Constant k i p) name env whole = whole := rfl
/-- 'sep'.join(..) -/
theorem ev_join {c : Cx} {n : Nat} {sc : Scope} {ρ : Loc} {x : Str} {i : Nat} {p apos pos : Pos} {es : List PySem.Expr} {ds : List D} {d : D} (h : EvAll c n sc ρ es ds) (hc : Fn c n (.builtin "str.join") (.str x :: ds) d) (hl : es.length + 0 < 30 := by decide) (hline : (apos.endLine == pos.line) = true := by rfl) :
    Ev c n sc ρ (.Call (.Attribute (.Constant (.str x) i p) (S "join") apos) es [] pos) d :=
  ev_meth (d₀ := .str x) ev_str mth_join (keepF_builtin _) h hc (fun _ => base_const) hl hline
noncomputable abbrev rwS : Scope := scopeOf (stmtAt 25)
theorem at_row {c : Cx} (H : FnObj c (stmtAt 25) 279) : ∃ fd, FnAt c 279 fd (bodyOf (stmtAt 25)) [S "table", S "name"] ∧ fd.scope = rwS :=
  fn_at H _ (fun pm => bind2 fun a b => by rfl) (by decide) (by decide) (by decide) (by decide) rfl rfl rfl rfl
theorem tupW_eq (ws : List Wd) : D.tup ((ws.map wdL).map fun w => .bytes w.toArray) = tupW ws := by
  unfold tupW; rw [List.map_map]; rfl
theorem join_len (ws : List Wd) : ((ws.map txtW).map (·.length)).sum + (ws.map txtW).length * (S " ").length = 5 * ws.length := by
  have h1 : ∀ ws : List Wd, ((ws.map txtW).map (·.length)).sum = 4 * ws.length := by
    intro ws
    induction ws with
    | nil => rfl
    | cons w r ih => rw [List.map_cons, List.map_cons, List.sum_cons, ih, List.length_cons]; show 4 + _ = _; omega
  rw [h1, List.length_map]
  show 4 * ws.length + ws.length * 1 = _
  omega
theorem fn_row {c : Cx} (G : HGlo c) (P : PGlo c) (H : FnObj c (stmtAt 25) 279) (Hp : FnObj c (stmtAt 13) 212) (Hg : MObj c (mthAt 7) 121 (S "Headers.get_all") .none) (hp : c.mg (S "ParseFlags") = some (.ref 212)) {n : Nat} {rows : List Rw} {x : Str}
    (h5 : rows.length ≤ 5) (hz : ∀ p ∈ rows, p.1.length ≤ 1000) (hg : ∀ p ∈ rows, GoodW p.2) (hx : x.length ≤ 1000) (hx' : (Txt.lower x).length ≤ 1000) (hs : Seen1 (Txt.lower x)) :
    Fn c (n + 3) (.ref 279) [tblW rows, .str x] (tupW (getW rows x)) := by
  refine fn_of (out := .ret _) (os := []) (at_row H) rfl ?_
  have hgw : ∀ w ∈ getW rows x, GoodW w := fun w hw => by
    obtain ⟨p, hp, rfl⟩ := List.mem_map.mp hw
    exact hg p (List.mem_filter.mp hp).1
  have hl5 : (getW rows x).length ≤ 5 := by unfold getW; rw [List.length_map]; exact Nat.le_trans (List.length_filter_le _ _) h5
  generalize hws : getW rows x = ws at *
  have hbl := (body_len ws).1
  have hcps : (flagsS ws).cps = (flagsL ws).toArray := flagsS_cps ws
  have hxm : (((flagsS ws).cps.map (·.toUInt8)).map (fun x : UInt8 => x.toNat)) = (flagsL ws).toArray := by rw [hcps]; exact nat_u8 _ (flagsL_lt hgw)
  have hsz : (flagsL ws).length = (bodyB ws).length + 8 := by simp [flagsL]
  have hext : ((flagsS ws).cps.map (·.toUInt8)).extract 7 (7 + (bodyB ws).length) = (bodyB ws).toArray := by
    rw [hcps]
    apply Array.ext'
    simp only [Array.toList_extract, Array.toList_map, List.extract_eq_take_drop]
    show (((flagsL ws).map (·.toUInt8)).drop 7).take (7 + (bodyB ws).length - 7) = bodyB ws
    have e : ((flagsL ws).map (·.toUInt8)).drop 7 = bodyB ws ++ [41] := by
      unfold flagsL
      rw [List.map_append, List.map_append, List.append_assoc, List.drop_left' (by simp), u8_nat]
      rfl
    rw [e, show 7 + (bodyB ws).length - 7 = (bodyB ws).length by omega, List.take_left]
  have key := fn_parse (n := n + 1) P Hp (x := (flagsS ws).cps.map (·.toUInt8)) (b := (bodyB ws).length) (l := bodyB ws) (ws := ws.map wdL) (flags_text hgw hxm) (by omega) hext (wordsB_body hgw) (fun w hw => by obtain ⟨v, _, rfl⟩ := List.mem_map.mp hw; simp [wdL]) (by rw [List.length_map]; omega)
  rw [tupW_eq] at key
  have hjl : (Txt.join (S " ") (ws.map txtW)).length ≤ 25 := by
    have : (Txt.join (S " ") (ws.map txtW)).length = (bodyB ws).length := by
      show (Txt.join (S " ") (ws.map txtW)).cps.size = _
      rw [join_body]; simp
    omega
  refine ex_ret (ex1_return (ev_call (ev_global rfl hp) (keepF_of (at_parse Hp)) (.cons' (ev_meth (d₀ := .str (flagsS ws)) ?txt mth_encode (keepF_builtin _) (.cons' ev_str .nil) (fn_encode (by rw [hcps]; exact flagsL_lt hgw) (by rw [hcps]; simp; omega))) .nil) key))
  case txt =>
    have hfj : Fn c (n + 2) (.builtin "str.join") [.str (S " "), .lst ((ws.map txtW).map .str)] (.str (Txt.join (S " ") (ws.map txtW))) := fn_join (by rw [join_len]; omega)
    have hga : Fn c (n + 2) (.ref 121) [tblW rows, .str x] (.lst ((ws.map txtW).map .str)) := by
      rw [← hws, ← getAll_W]
      exact fn_getall G Hg (by rw [List.length_map]; exact h5) (fun p hp => by obtain ⟨q, hq, rfl⟩ := List.mem_map.mp hp; exact hz q hq) hx hx' hs
    unfold flagsS
    clear hxm hext key hcps hsz
    generalize (ws.map txtW).map D.str = ds at hfj hga
    generalize Txt.join (S " ") (ws.map txtW) = j at hfj hjl ⊢
    have hl7 : (S "FLAGS (" ++ j).length = 7 + j.length := by
      show ((S "FLAGS (").cps ++ j.cps).size = _
      rw [Array.size_append]; rfl
    refine ev_bin (d₁ := .str (S "FLAGS (" ++ j)) (d₂ := .str (S ")")) (ev_bin (d₁ := .str (S "FLAGS (")) (d₂ := .str j) ev_str ?jn (bin_add_str (by show 7 + _ ≤ _; omega))) ev_str (bin_add_str (by rw [hl7]; show _ + 1 ≤ _; omega))
    refine ev_join ?args hfj
    refine .cons' ?ga .nil
    exact ev_meth (d₀ := tblW rows) (ev_local rfl rfl) (mth_tbl G.cls Hg _) Hg.keepF (.cons' (ev_local rfl rfl) .nil) hga
end Mine
end
section
open PySem PySem.W PyProof.Rows PySem.Calls
set_option maxRecDepth 100000
namespace Mine
structure FnAtR (c : Cx) (a : Addr) (fd : FuncData) (body : List Stmt) (names : List Str) : Prop where
  obj : ∀ h, c.K.In h → (∃ o, h.get? a = some o ∧ o.data = .func fd) ∧ h.CodeRec fd.code fd.qualname
  body : fd.body = .stmts body
  gl : fd.globals = mainGlobals
  clos : fd.closure = []
  bl : fd.builtins = builtinsNs
  nodup : names.Nodup
  kinds : ∀ x ∈ names, fd.scope.names.lookup x = some .local ∨ fd.scope.names.lookup x = some .cell
  hdr : ∀ x ∈ names, x ≠ hname
  fn : fd.scope.kind = .function
  co : fd.scope.isCoroutine = false
  gen : fd.scope.isGenerator = false
  cells : ∀ (k : Nat) x, fd.scope.names.lookup x = some .cell → ((cellsFrom k fd.scope.names []).lookup x).isSome = true
  cellsOnly : ∀ (k : Nat) x a, (cellsFrom k fd.scope.names []).lookup x = some a → fd.scope.names.lookup x ≠ some .local
  free : ∀ x, fd.scope.names.lookup x ≠ some .free
section
variable {c : Cx} {n : Nat}
/-- a call, its body walked by hand -/
theorem fn_raw {a : Addr} {fd : FuncData} {body : List Stmt} {names : List Str} {ds : List D} (H : FnAtR c a fd body names) (hlen : ds.length = names.length)
    {os : List Str} (hos : ∀ x ∈ os, fd.scope.names.lookup x = some .cell) {args : Args} {X : Addr → Prop} {A : Around} {E : Value → Shared → Prop} {s : Shared} {Q : Value → Shared → Prop} (R : Room (n + 1) A) (G : Glo c X s.heap) (Ext : List Value → Shared → Prop)
    (hb : ∀ E', wpAny c.M A.in1 (bindArgs fd args) (fun binds s₁ => ∃ vs, binds = names.zip vs ∧ Keeps s s₁ ∧ Reps X s₁.heap vs ds ∧ Ext vs s₁) E' s)
    (h : ∀ s₁ vs A' E' env s', Keeps s s₁ → Ext vs s₁ → Room n A' → Base c X os s₁.heap s' env env.cells → env.scope = fd.scope → FrameOK X s' env (names.zip ds) → Keeps s₁ s' → wpAny c.M A' (execs body env) (fun f s'' => Q (match f with | .ret v => v | _ => .none) s'') E' s') :
    wpAny c.M A (call (.ref a) args.pos args.kw) Q E s := by
  obtain ⟨⟨o, ho, hd⟩, hcd⟩ := H.obj s.heap G.k
  refine wpAny_call (codeAny_call_function (A := A) (by have := R.depth; omega) ho hd H.co H.gen H.body hcd ?_)
  refine wpAny_mono (hb _) (fun binds s₁ hbs => ?_) fun _ _ e => e
  obtain ⟨vs, rfl, k₁, r, hx₁⟩ := hbs
  have G₀ := G
  replace G : Glo c X s₁.heap := G.keeps (keeps_heap k₁)
  have hvl : vs.length = names.length := r.length.trans hlen
  rw [H.clos]
  have hmem : ∀ p ∈ names.zip vs, p.1 ∈ names := fun p hp => (List.of_mem_zip hp).1
  refine wpAny_newFunctionEnv_cells H.fn (fun x hx => ?_) fun env he s' ic => ?_
  · rcases H.kinds _ (hmem x hx) with h1 | h1
    · exact .inl h1
    · exact .inr ⟨h1, H.cells _ _ h1⟩
  have hsc : env.scope = fd.scope := by rw [he]; rfl
  have hcl : env.cells = cellsFrom (s₁.heap.objs.size + 1) fd.scope.names [] := by rw [he]; rfl
  have hko : env.kindOf = fun x => fd.scope.names.lookup x := by funext x; unfold Env.kindOf; rw [hsc]
  obtain ⟨⟨⟨h', tk, hs'⟩, hns, hkeep, hfresh⟩, hcell, hapart, habove⟩ := ic
  have hnd : ((names.zip vs).map (·.1)).Nodup := by
    rw [List.map_fst_zip (by omega)]; exact H.nodup
  have none_of : ∀ b, s₁.heap.objs.size ≤ b → s₁.heap.get? b = none := fun b hb => by
    cases e : s₁.heap.get? b with
    | none => rfl
    | some o' => exact absurd (Heap.lt_size e) (Nat.not_lt.mpr hb)
  have hK : KeepsH s₁.heap s'.heap := hkeep
  refine ⟨G.lim.keeps hkeep, codeAny_func ?_⟩
  have B : Base c X os s₁.heap s' env env.cells := by
    refine ⟨G.toGlo0, G.vis.keeps hK, hK, none_of _ hfresh, ⟨_, hns, ?_⟩, fun x b hb => ⟨hb, none_of _ ?_, _, hcell x b hb⟩, fun x hx => ?_⟩
    · by_cases hk : env.kindOf hname = some .local
      · rw [bindL_get hk, lookup_rev hnd]
        have : (names.zip vs).lookup hname = none := by
          rw [List.lookup_eq_none_iff]
          intro p hp
          have := H.hdr _ (hmem p hp)
          simpa using fun q => this q.symm
        rw [this]
      · have : ∀ (bs : List (Str × Value)) (m : Str → Option Value), (∀ p ∈ bs, p.1 ≠ hname) → bindL env.kindOf bs m hname = m hname := by
          intro bs
          induction bs with
          | nil => intro m _; rfl
          | cons p bs ih =>
            intro m hm
            obtain ⟨q, u⟩ := p
            show bindL env.kindOf bs _ hname = _
            rw [ih _ fun p hp => hm p (List.mem_cons_of_mem _ hp)]
            split
            · exact if_neg (Ne.symm (hm (q, u) List.mem_cons_self))
            · rfl
        rw [this _ _ fun p hp => H.hdr _ (hmem p hp)]
    · exact Nat.le_trans hfresh (Nat.le_of_lt (habove x b (mem_of_lookup' hb)))
    · rw [hcl]
      exact Option.isSome_iff_exists.mp (H.cells _ x (hos x hx))
  have rK : Reps X s'.heap vs ds := r.keeps hK
  have F : FrameOK X s' env (names.zip ds) := by
    refine ⟨by rw [hsc]; exact H.fn, by rw [he]; exact H.gl, by rw [he]; exact H.bl, ⟨_, hns, fun x d hx hd' => ?_⟩, fun x d hx hd' => ?_, fun x y b hx hy => pairwise_lookup hapart hx hy⟩
    · obtain ⟨v, hv, rv⟩ := reps_zip rK hd'
      refine ⟨v, ?_, rv⟩
      rw [bindL_get (by rw [hko]; rw [hsc] at hx; exact hx), lookup_rev hnd, hv]
    · rw [hsc] at hx
      rcases hx with hx | hx
      · obtain ⟨v, hv, rv⟩ := reps_zip rK hd'
        obtain ⟨b, hb⟩ := Option.isSome_iff_exists.mp (H.cells (s₁.heap.objs.size + 1) x hx)
        refine ⟨b, v, by rw [hcl]; exact hb, ?_, rv⟩
        have := hcell x b (by rw [hcl]; exact hb)
        rw [bindC_get (by rw [hko]; dsimp only; rw [hx]; intro q; cases q), lookup_rev hnd, hv] at this
        exact this
      · exact absurd hx (H.free x)
  have kk : Keeps s₁ s' := ⟨h', tk, hs', by rw [hs'] at hK; exact hK⟩
  refine wpAny_mono (h s₁ vs _ _ env s' k₁ hx₁ (R.deeper env) B hsc F kk) (fun f s'' hf => ?_) fun _ _ e => e
  cases f <;> exact hf
end
/-- a method's object, for a walk by hand -/
theorem m_raw {c : Cx} {st : Stmt} {a : Addr} {q : Str} {dfl : Value} (H : MObj c st a q dfl) (names : List Str)
    (nd : ((scopeOf st).names.map (·.1)).Nodup) (nn : names.Nodup) (kinds : ∀ x ∈ names, (scopeOf st).names.lookup x = some .local ∨ (scopeOf st).names.lookup x = some .cell) (hdr : ∀ x ∈ names, x ≠ hname)
    (fn : (scopeOf st).kind = .function) (co : (scopeOf st).isCoroutine = false) (gen : (scopeOf st).isGenerator = false) (free : (scopeOf st).names.all (fun p => p.2 != .free) = true) :
    ∃ fd pm, FnAtR c a fd (bodyOf st) names ∧ fd.scope = scopeOf st ∧ fd = fdOf st a q dfl .none pm := by
  obtain ⟨pm, H⟩ := H
  exact ⟨_, pm, ⟨fun h hk => ⟨let ⟨o, h1, _, h2⟩ := (H h hk).1; ⟨o, h1, h2⟩, (H h hk).2⟩, rfl, rfl, rfl, rfl, nn, kinds, hdr, fn, co, gen, cells_some nd, cells_only nd, no_free free⟩, rfl, rfl⟩
/-- the heap with a new object of the class -/
noncomputable abbrev madeH (h : Heap) : Heap := (h.push { cls := .type "dict", data := .dict #[] }).push { cls := .ref hcls, dict := some h.objs.size, data := .plain }
section
variable {prog : Program} {w : World} {A : Around} {E : Value → Shared → Prop} {h : Heap} {g : Array GenState} {d : Drawn} {t : Nat} {os : OsState}
variable {nm q : Str} {N : Addr} {bs : List Value} {sn : List Str} {sub : List Value} {col : Option Bool} {dd : Option Addr} {k0 k1 k2 k3 k5 : Option Value}
theorem type_call_made {mN : Str → Option Value} {fI : Addr} {oI : Obj} {Q : PySem.Fin → Shared → Prop}
    (hC : h.get? hcls = some (excClassObj nm q hcls N bs [.type "object"] true sn sub false col dd k0 k1 k2 k3 k5 "object.__new__")) (hn : h.Ns N mN) (hi : mN "__init__" = some (.ref fI)) (hfI : h.get? fI = some oI) (hfc : oI.cls = .type "function")
    (hq : wpAny (model prog w) A (call (.ref fI) [.ref (h.objs.size + 1)]) (fun r s' => r = .none ∧ Q (.done (.ret (.ref (h.objs.size + 1)))) s') E ⟨madeH h, g, d, t, os⟩) :
    wpAny (model prog w) A (Builtin.«type.__call__» ⟨[.ref hcls], []⟩) Q E ⟨h, g, d, t, os⟩ := by
  have hmro : mroOf (.type "object") = pure [.type "object"] := by kernel_rfl
  have hlk : typeLookup (.type "object") "__init__" = pure (some (.builtin "object.__init__")) := by rw [typeLookup_type, builtinLookup_eq_fast]; kernel_rfl
  repeat (first | with_reducible refine wpAny_loadPart_at hC ?_ | with_reducible refine wpAny_madeBy_exc hC ?_ | wp_step)
  refine codeAny_call_builtin_code (Code.quiet_builtin _ PySem.F.objNew.quiet) (wpAny_check_obj_new PySem.F.objNew hC ?_)
  refine codeAny_obj_new PySem.F.objNew hC hn hi ?_
  show wpAny _ _ _ _ _ _
  have kp : ∀ b o, h.get? b = some o → (madeH h).get? b = some o := fun b o e => Heap.get?_push_of_some _ (Heap.get?_push_of_some _ e)
  have hC₁ := kp _ _ hC
  have hfI₁ := kp _ _ hfI
  have hn₁ : (madeH h).Ns N mN := hn.keeps kp
  have hget : (madeH h).get? (h.objs.size + 1) = some { cls := .ref hcls, dict := some h.objs.size, data := .plain } := Heap.get?_push_at (by rw [Heap.size_push]) rfl
  have hcC : (Value.ref hcls :: [Value.type "object"]).contains (.ref hcls) = true := by simp
  unfold isInstance
  repeat (first | with_reducible refine wpAny_loadPart_at hget ?_ | (with_reducible refine wpAny_isSubtype_exc hC₁ ?_; rw [hcC]) | wp_step)
  show wpAny _ _ (typeLookup (.ref hcls) _) _ _ _
  refine wpAny_typeLookup_exc hC₁ hn₁ hmro hlk ?_
  rw [hi]
  refine wpAny_holding (wpAny_bind ?_)
  unfold bindSpecial
  refine wpAny_bind (wpAny_typeOf (T := "function") ⟨_, hfI₁, hfc⟩ ?_)
  rw [if_pos (by decide)]
  refine wpAny_pure (wpAny_bind (wpAny_mono hq (fun r s' hr => ?_) fun _ _ x => x))
  obtain ⟨rfl, hQ⟩ := hr
  wp_walk
  exact hQ
theorem call_made {mN : Str → Option Value} {fI : Addr} {oI : Obj} {Q : Value → Shared → Prop}
    (hC : h.get? hcls = some (excClassObj nm q hcls N bs [.type "object"] true sn sub false col dd k0 k1 k2 k3 k5 "object.__new__")) (hn : h.Ns N mN) (hi : mN "__init__" = some (.ref fI)) (hfI : h.get? fI = some oI) (hfc : oI.cls = .type "function")
    (hq : wpAny (model prog w) (A.under (.builtin "type.__call__" ⟨[.ref hcls], []⟩)) (call (.ref fI) [.ref (h.objs.size + 1)]) (fun r s' => r = .none ∧ Q (.ref (h.objs.size + 1)) s') E ⟨madeH h, g, d, t, os⟩) :
    wpAny (model prog w) A (call (.ref hcls) []) Q E ⟨h, g, d, t, os⟩ := by
  have f1 := tc_lookup
  have f2 := tc_bind (.ref hcls)
  have hT : (⟨h, g, d, t, os⟩ : Shared).TypeIs (.ref hcls) "type" := ⟨_, hC, rfl⟩
  refine wpAny_call (codeAny_of_tree ?_)
  show wpAny _ _ (callAny (.ref hcls) _) _ _ _
  repeat (any_goals (first | assumption | with_reducible refine wpAny_loadPart_at hC ?_ | wp_step))
  refine ⟨rfl, ?_⟩
  refine codeAny_call_builtin_at (Code.quiet_builtin _ (by decide +kernel)) entry_typeCall (wpAny_check_type_call_sub hC (type_call_made hC hn hi hfI hfc ?_))
  exact hq
end
end Mine
end
section
open PySem PySem.W PyProof.Rows PySem.Calls
set_option maxRecDepth 100000
namespace Mine
section
variable {c : Cx} {n : Nat} {os : List Str} {sc : Scope} {ρ : Loc} {pos : Pos} {d : D}
theorem ev_listP {es : List PySem.Expr} {ds : List D} (h : EvAll c n sc ρ es ds) (hz : es.length ≤ sizeLine := by decide) : Ev c n sc ρ (.List es pos) (.pls ds) := by
  intro X A E s env Q R G he F hQ
  refine wpAny_List_spliced (spliced_all h X A E s env _ R G he F fun vs s₁ k₁ r₁ => ⟨?_, ?_⟩)
  · rw [r₁.length]
    have : ds.length = es.length := by
      clear r₁ k₁ hQ F he G R
      induction h with
      | nil => rfl
      | cons _ _ _ ih => simp only [List.length_cons] at hz ⊢; rw [ih (by omega)]
    omega
  · refine hQ _ _ (keeps_trans k₁ ⟨_, _, rfl, KeepsH.push _ _⟩) (.pls (G.keeps (keeps_heap k₁)).new ⟨_, Heap.get?_push_size _ rfl⟩ (r₁.keeps (KeepsH.push _ _)))
/-- type(e) is not T: false -/
theorem tst_typeNot {idp tp ip cp : Pos} {e : PySem.Expr} {T : String} {tn : Str} (ht : EvV c n sc ρ (.Name (S "type") idp) (.type "type")) (hn : EvV c n sc ρ (.Name tn tp) (.type T))
    (h : EvAll c n sc ρ [e] [d]) (hd : ∀ (X : Addr → Prop) (s : Shared) (v : Value), Rep X s.heap v d → s.TypeIs v T) (hb : (Value.type T == Value.type "builtin_function_or_method") = false) :
    Tst c n sc ρ (.Compare (.Call (.Name (S "type") idp) [e] [] ip) [.IsNot] [.Name tn tp] cp) false := by
  intro X A E s env Q R G he F hQ
  refine wpAny_isTrue_Compare1 ?_ rfl
  refine wpAny_Call_Name_kw (ht X A E s env _ R G he F fun s₀ k₀ => ?_)
  refine callWith_raw (first := []) (ds := [d]) (keepF_type _) h X A E s₀ env _ R (G.keeps (keeps_heap k₀)) he (F.keeps (keeps_heap k₀)) fun s₁ vs k₁ rs => ?_
  obtain ⟨v, rfl, q⟩ := reps1 rs
  refine call_type_of (hd X s₁ v q) hb ?_
  have k01 := keeps_trans k₀ k₁
  refine hn X A E s₁ env _ R (G.keeps (keeps_heap k01)) he (F.keeps (keeps_heap k01)) fun s₂ k₂ => ?_
  refine wpAny_isNot_self ?_ (wpAny_truthy_bool (hQ s₂ (keeps_trans k01 k₂)))
  rfl
theorem cmp_isnot_none_none : Cmp c n .IsNot .none .none false := by
  intro X A E s v₁ v₂ Q R G r₁ r₂ h
  cases r₁; cases r₂
  exact wpAny_isNot_self rfl (h s (keeps_refl s))
theorem Base.low {X : Addr → Prop} {h h₀ : Heap} {s : Shared} {env : Env} {ow : List (Str × Addr)} (B : Base c X os h₀ s env ow) (k : KeepsH h h₀) (G : Glo0 c h) : Base c X os h s env ow :=
  ⟨G, B.vis, k.trans B.keep, none_old k B.fresh, B.nohdr, fun x a e => ⟨(B.cells x a e).1, none_old k (B.cells x a e).2.1, (B.cells x a e).2.2⟩, B.has⟩
/-- hidden objects may change -/
theorem FrameOK.hid {X : Addr → Prop} {s s' : Shared} {env : Env} (F : FrameOK X s env ρ) (W : Addr → Prop) (k : ∀ b o, ¬ W b → s.heap.get? b = some o → s'.heap.get? b = some o) (hX : ∀ b, W b → X b)
    (hW : ∀ b, W b → b ≠ env.locals ∧ ∀ v, ¬ s.heap.IsCell b v) : FrameOK X s' env ρ := by
  have sq : Seqs X s.heap s'.heap := fun a o q e hd => k a o (fun w => q (hX a w)) e
  obtain ⟨a, b, c, ⟨m', hm', hl⟩, hc, hap⟩ := F
  refine ⟨a, b, c, ⟨m', hm'.at' fun o e => k _ o (fun w => (hW _ w).1 rfl) e, fun x d h1 h2 => ?_⟩, fun x d h1 h2 => ?_, hap⟩
  · obtain ⟨v, hv, r⟩ := hl x d h1 h2
    exact ⟨v, hv, r.seqs sq⟩
  · obtain ⟨cl, v, h3, ⟨o, h4, h5⟩, r⟩ := hc x d h1 h2
    exact ⟨cl, v, h3, ⟨o, k cl o (fun w => (hW cl w).2 _ ⟨o, h4, h5⟩) h4, h5⟩, r.seqs sq⟩
end
/-- a fresh table -/
structure Fresh (h₀ h : Heap) (x dx l : Addr) : Prop where
  nx : h₀.get? x = none
  nd : h₀.get? dx = none
  nl : h₀.get? l = none
  ob : ∃ sl, h.get? x = some ⟨.ref hcls, some dx, .plain, sl⟩
  ns : h.Ns1 dx (hdr l)
  ls : h.PlainList l #[]
theorem Glo0.low {c : Cx} {h : Heap} {X : Addr → Prop} (G : Glo c X h) : Glo0 c h := G.toGlo0
/-- what an object's class needs to be made -/
structure IGlo (c : Cx) : Prop extends HGlo c where
  ini : MObj c (mthAt 0) 76 (S "Headers.__init__") (.ref 69)
  dfl : ∀ h, c.K.In h → ∃ o n, h.get? 69 = some o ∧ o.data = .seq #[.none] n
theorem run_init {c : Cx} (H : IGlo c) {n : Nat} {X : Addr → Prop} {A : Around} {E : Value → Shared → Prop} {h : Heap} {s : Shared} {Q : Value → Shared → Prop} (R : Room (n + 2) A) (G : Glo c X h) (hs : s.heap = madeH h)
    (hQ : ∀ h' tk l, KeepsH h h' → Fresh h h' (h.objs.size + 1) h.objs.size l → Q .none { s with heap := h', toks := tk }) : wpAny c.M A (call (.ref 76) [.ref (h.objs.size + 1)]) Q E s := by
  have kp : KeepsH h s.heap := by rw [hs]; exact fun b o e => Heap.get?_push_of_some _ (Heap.get?_push_of_some _ e)
  have nx : h.get? (h.objs.size + 1) = none := Heap.get?_none_of_le (Nat.le_succ _)
  have nd : h.get? h.objs.size = none := Heap.get?_none_of_le (Nat.le_refl _)
  have gx : s.heap.get? (h.objs.size + 1) = some { cls := .ref hcls, dict := some h.objs.size, data := .plain } := by rw [hs]; exact Heap.get?_push_at (by rw [Heap.size_push]) rfl
  have gd : s.heap.get? h.objs.size = some { cls := .type "dict", data := .dict #[] } := by rw [hs]; exact Heap.get?_push_of_some _ (Heap.get?_push_at rfl rfl)
  generalize hx : h.objs.size + 1 = x at *
  generalize hd : h.objs.size = dx at *
  have hne : dx ≠ x := by omega
  obtain ⟨fd, pm, FA, hsc, hfd⟩ := m_raw H.ini [S "self", S "headers"] (by decide) (by decide) (by decide) (by decide) rfl rfl rfl rfl
  let Y : Addr → Prop := fun b => (∃ o, h.get? b = some o) ∨ b = x ∨ b = dx
  have GY : Glo c Y s.heap := ⟨G.toGlo0.keeps kp, fun b q => by
    rcases q with ⟨o, e⟩ | rfl | rfl
    · exact ⟨o, kp _ _ e⟩
    · exact ⟨_, gx⟩
    · exact ⟨_, gd⟩⟩
  have K := GY.k
  obtain ⟨od, nd', e69, d69⟩ := H.dfl _ K
  have hb : ∀ E', wpAny c.M A.in1 (bindArgs fd ⟨[.ref x], []⟩) (fun binds s₁ => ∃ vs, binds = [S "self", S "headers"].zip vs ∧ Keeps s s₁ ∧ Reps Y s₁.heap vs [.adr x, .none] ∧ (s₁ = s ∧ vs = [.ref x, .none])) E' s := fun E' => by
    subst hfd
    exact BindsTo.of_defaults rfl e69 d69 rfl rfl _ _ _ _ ⟨[.ref x, .none], rfl, keeps_refl s, .cons (.adr x) (.cons .none .nil), rfl, rfl⟩
  refine fn_raw (args := ⟨[.ref x], []⟩) FA rfl (os := []) (fun x hx => by cases hx) R GY _ hb fun s₁ vs A' E' env s' k₁ hx₁ R' B he F kk => ?_
  obtain ⟨rfl, rfl⟩ := hx₁
  have hscope : env.scope = scopeOf (mthAt 0) := he.trans hsc
  have BL := B.low kp G.toGlo0
  have mo : ∀ b o, s₁.heap.get? b = some o → mainOnly b env env.cells := fun b o e => ⟨fun q => (by subst q; rw [B.fresh] at e; cases e), fun y q => (by rw [(B.cells y b q).2.1] at e; cases e)⟩
  have gx' := keeps_heap kk _ _ gx
  have gd' := keeps_heap kk _ _ gd
  have e1 : Ex1 c (n + 1) [] (scopeOf (mthAt 0)) ([S "self", S "headers"].zip [.adr x, .none]) (((bodyOf (mthAt 0))[0]?).getD (.Pass default)) (.next ((S "headers", .pls []) :: [S "self", S "headers"].zip [.adr x, .none])) :=
    ex1_assign' (ev_if (b := false) (tst_cmp (ev_local rfl rfl) ev_none cmp_isnot_none_none) (fun h => nomatch h) (fun _ => ev_listP .nil)) (sto_local rfl (by decide)) (fun env he => by rfl)
  have e2 : Ex1 c (n + 1) [] (scopeOf (mthAt 0)) ((S "headers", .pls []) :: [S "self", S "headers"].zip [.adr x, .none]) (((bodyOf (mthAt 0))[1]?).getD (.Pass default)) (.next ((S "headers", .pls []) :: [S "self", S "headers"].zip [.adr x, .none])) :=
    ex1_if (b := false) (tst_typeNot (d := .pls []) (ev_builtin rfl H.typ (by rfl)) (ev_builtin rfl H.lst (by rfl)) (.cons' (ev_local rfl rfl) .nil) (fun X s v r => by cases r with | pls q x rs => exact x.isList.typeIs) (by decide)) (fun h => nomatch h) (fun _ => ex_nil)
  have e4 : Ex1 c (n + 1) [] (scopeOf (mthAt 0)) ((S "headers", .pls []) :: [S "self", S "headers"].zip [.adr x, .none]) (((bodyOf (mthAt 0))[3]?).getD (.Pass default)) (.next ((S "headers", .pls []) :: [S "self", S "headers"].zip [.adr x, .none])) :=
    ex1_if (b := true) (tst_plain ev_bool tru_bool) (fun _ => ex_cons (ex1_for (fun _ ρ => .next ρ) (fun ds _ => ds = []) (src_list (ev_pls (ev_local rfl rfl)) (.inr ⟨_, _, _, rfl⟩)) rfl (fun d r ρ h => nomatch h)) ex_nil) (fun h => nomatch h)
  refine wpAny_execs_cons (e1 Y A' _ s' env env.cells h _ R' BL hscope F fun f s₂ m₂ B₂ ok => ?_)
  obtain ⟨rfl, F₂⟩ := ok
  refine wpAny_execs_cons (e2 Y A' _ s₂ env env.cells h _ R' B₂ hscope F₂ fun f s₃ m₃ B₃ ok => ?_)
  obtain ⟨rfl, F₃⟩ := ok
  have ev1 : Ev c (n + 1) (scopeOf (mthAt 0)) ((S "headers", .pls []) :: [S "self", S "headers"].zip [.adr x, .none]) (.Name (S "headers") { line := 24, col := 24, endLine := 24, endCol := 31 }) (.pls []) := ev_local rfl rfl
  have ev2 : Ev c (n + 1) (scopeOf (mthAt 0)) ((S "headers", .pls []) :: [S "self", S "headers"].zip [.adr x, .none]) (.Name (S "self") { line := 24, col := 8, endLine := 24, endCol := 12 }) (.adr x) := ev_local rfl rfl
  refine wpAny_execs_cons (plainObj_wpAny_Assign_Attribute ?_)
  refine ev1 Y A' _ s₃ env _ R' B₃.gl hscope F₃ fun v s₄ k₄ r₄ => ?_
  have B₄ := B₃.more (keeps_heap k₄)
  have F₄ := F₃.keeps (keeps_heap k₄)
  refine ev2 Y A' _ s₄ env _ R' B₄.gl hscope F₄ fun ov s₅ k₅ r₅ => ?_
  have B₅ := B₄.more (keeps_heap k₅)
  have F₅ := F₄.keeps (keeps_heap k₅)
  cases r₅
  have r₄' := r₄.keeps (keeps_heap k₅)
  obtain ⟨_, _, rfl, hnl, hpl, rs⟩ := rep_inv r₄'
  cases rs
  rename_i l
  have mv : Moved env env.cells s' s₅ := ((m₂.trans m₃).trans (Moved.of_keeps k₄)).trans (Moved.of_keeps k₅)
  have gx5 := mv.2 _ _ (mo _ _ gx) gx'
  have gd5 := mv.2 _ _ (mo _ _ gd) gd'
  have hnx : l ≠ x := fun e => hnl (.inr (.inl e))
  have hnd : l ≠ dx := fun e => hnl (.inr (.inr e))
  have hnh : h.get? l = none := by
    cases e : h.get? l with
    | none => rfl
    | some o => exact absurd (.inl ⟨o, e⟩) hnl
  obtain ⟨⟨nm, q, bs, sn, sub, col, dd, k0, k1, k2, k3, k5', hC⟩, mN, hN, hm⟩ := H.cls _ B₅.gl.k
  have hxC : x ≠ hcls := by
    rintro rfl
    rw [hC] at gx5; cases gx5
  have I : s₅.heap.Inst x hcls (fun _ => none) := ⟨_, gx5, rfl, fun c => by simp, .inr ⟨dx, rfl, hne, Heap.Ns1.of_empty ⟨_, #[], _, gd5, rfl, fun e he => absurd he (by simp), fun _ => rfl⟩⟩⟩
  have hIx : ∀ b, (b = x ∨ b = dx) → b ≠ env.locals ∧ ∀ v, ¬ s₅.heap.IsCell b v := fun b hb => by
    rcases hb with rfl | rfl
    · exact ⟨(mo _ _ gx).1, fun v ⟨o, e, e2⟩ => by rw [gx5] at e; cases e; cases e2⟩
    · exact ⟨(mo _ _ gd).1, fun v ⟨o, e, e2⟩ => by rw [gd5] at e; cases e; cases e2⟩
  obtain ⟨hh, g, d, t, os⟩ := s₅
  refine store_attr PySem.F.store_object hC hN (hm _ _ rfl) (hm _ _ rfl) obj_hdr hxC I (fun h' tk' I' hk hsame => ?_) (ns := []) (fun y hy => absurd rfl hy) (by decide)
  have hk' : ∀ b o, ¬ (b = x ∨ b = dx) → hh.get? b = some o → h'.get? b = some o := fun b o hb e => hk b o (fun q => hb (.inl q)) (fun o₀ dx' e₀ ed => by rw [gx5] at e₀; cases e₀; cases ed; exact fun q => hb (.inr q)) e
  obtain ⟨o₁, e₁, c₁, dd₁, sl₁, dk₁⟩ := hsame _ gx5
  have hd₁ := dk₁ dx rfl
  have ho₁ : o₁ = ⟨.ref hcls, some dx, .plain, o₁.slots⟩ := by
    obtain ⟨a1, a2, a3, a4⟩ := o₁
    simp only at c₁ dd₁ hd₁
    subst c₁ dd₁ hd₁
    rfl
  have hns : h'.Ns1 dx (hdr l) := by
    obtain ⟨o', e', _, _, hd'⟩ := I'
    rw [e₁] at e'; cases e'
    rcases hd' with ⟨hn0, _⟩ | ⟨d', hd'', _, hns'⟩
    · rw [hd₁] at hn0; cases hn0
    · rw [hd₁] at hd''; cases hd''; exact hns'
  have hls : h'.PlainList l #[] := hpl.at fun o e => hk' l o (fun q => q.elim hnx hnd) e
  have F₆ : FrameOK Y ⟨h', g, d, tk', os⟩ env _ := F₅.hid (s' := ⟨h', g, d, tk', os⟩) (fun b => b = x ∨ b = dx) hk' (fun b hb => .inr hb) hIx
  have B₆ : Base c Y [] h ⟨h', g, d, tk', os⟩ env env.cells := B₅.but (s' := ⟨h', g, d, tk', os⟩) (fun b => b = x ∨ b = dx) hk' (fun b hb _ => by
    rcases hb with rfl | rfl
    · exact ⟨_, e₁⟩
    · obtain ⟨o, _, _, e, _⟩ := hns; exact ⟨o, e⟩) fun b hb => ⟨by rcases hb with rfl | rfl <;> assumption, (hIx b hb).1, by rcases hb with rfl | rfl; exact (mo _ _ gx).2; exact (mo _ _ gd).2⟩
  refine wpAny_execs_cons (e4 Y A' _ _ env env.cells h _ R' B₆ hscope F₆ fun f s₇ m₇ B₇ ok => ?_)
  obtain ⟨rfl, F₇⟩ := ok
  refine wpAny_execs_nil ?_
  have m7 := m₇.2
  have a1 := m7 _ _ (B₆.notDat e₁ (by rw [ho₁]; rfl)) e₁
  have a2 : s₇.heap.Ns1 dx (hdr l) := by
    obtain ⟨o, es, ep, q1, q2, q3, q4, q5⟩ := hns
    exact ⟨o, es, ep, m7 _ _ (B₆.notDat q1 (by unfold Dat; rw [q2]; dsimp only; rw [q5]; rfl)) q1, q2, q3, q4, q5⟩
  have a3 : s₇.heap.PlainList l #[] := hls.at fun o e => m7 _ _ (B₆.notDat e (by obtain ⟨k, e'⟩ := hls; rw [e] at e'; cases e'; rfl)) e
  have hfr : Fresh h s₇.heap x dx l := ⟨nx, nd, hnh, ⟨_, by rw [a1, ho₁]⟩, a2, a3⟩
  obtain ⟨⟨h7, t7, rfl⟩, _⟩ := m₇
  obtain ⟨⟨h5, t5, e5⟩, _⟩ := mv
  obtain ⟨h0', t0', e0', _⟩ := kk
  have := hQ h7 t7 l B₇.keep hfr
  cases e5
  cases e0'
  exact this
end Mine
end
section
open PySem PySem.W PyProof.Rows PySem.Calls
set_option maxRecDepth 100000
namespace Mine
section
variable {c : Cx} {n : Nat}
theorem room_made {A : Around} (R : Room (n + 1) A) : Room n (A.under (.builtin "type.__call__" ⟨[.ref hcls], []⟩)) := by
  have h1 : (A.under (.builtin "type.__call__" ⟨[.ref hcls], []⟩)).depth = A.depth + 1 := rfl
  have h2 : (A.under (.builtin "type.__call__" ⟨[.ref hcls], []⟩)).units = A.units + 1 := rfl
  have h3 : (A.under (.builtin "type.__call__" ⟨[.ref hcls], []⟩)).handled = A.handled := rfl
  exact ⟨by rw [h3]; exact R.handled, by rw [h1]; have := R.depth; omega, by rw [h2]; have := R.units; omega⟩
theorem keepF_cls (H : HObj c) : KeepF c (.ref hcls) := fun h hk => by
  obtain ⟨⟨nm, q, bs, sn, sub, col, dd, k0, k1, k2, k3, k5, hC⟩, mN, hN, hm⟩ := H h hk
  refine ⟨.machine, .inr (.inl rfl), ?_⟩
  intro A Q E s k hq
  obtain ⟨hh, g, d, t, os⟩ := s
  have hC' := k _ _ hC
  have f1 := tc_lookup
  unfold keeperOf specialOf
  repeat (any_goals (first | assumption | with_reducible refine wpAny_loadPart_at hC' ?_ | with_reducible refine wpAny_load' hC' ?_ | wp_step))
theorem run_new (H : IGlo c) {X : Addr → Prop} {A : Around} {E : Value → Shared → Prop} {s : Shared} {Q : Value → Shared → Prop} (R : Room (n + 3) A) (G : Glo c X s.heap)
    (hQ : ∀ h' tk x dx l, KeepsH s.heap h' → Fresh s.heap h' x dx l → Q (.ref x) { s with heap := h', toks := tk }) : wpAny c.M A (call (.ref hcls) []) Q E s := by
  obtain ⟨⟨nm, q, bs, sn, sub, col, dd, k0, k1, k2, k3, k5, hC⟩, mN, hN, hm⟩ := H.cls _ G.k
  obtain ⟨pm, hI⟩ := H.ini
  obtain ⟨⟨o, ho, hc, _⟩, _⟩ := hI _ G.k
  obtain ⟨hh, g, d, t, os⟩ := s
  refine call_made hC hN (hm _ _ rfl) ho hc ?_
  exact run_init H (X := X) (h := hh) (room_made R) G rfl fun h' tk l k f => ⟨rfl, hQ h' tk _ _ l k f⟩
end
end Mine
end
section
open PySem PySem.W PyProof.Rows PySem.Calls
set_option maxRecDepth 100000
namespace Mine
section
variable {c : Cx} {n : Nat} {os : List Str} {sc : Scope} {ρ : Loc}
/-- what is hidden may change, where it is new or was hidden -/
theorem FrameOK.other {X Y : Addr → Prop} {s : Shared} {env : Env} (F : FrameOK X s env ρ) (k : ∀ a, Y a → X a ∨ s.heap.get? a = none) : FrameOK Y s env ρ := by
  obtain ⟨a, b, c, ⟨m', hm', hl⟩, hc, hap⟩ := F
  refine ⟨a, b, c, ⟨m', hm', fun x d h1 h2 => ?_⟩, fun x d h1 h2 => ?_, hap⟩
  · obtain ⟨v, hv, r⟩ := hl x d h1 h2
    exact ⟨v, hv, r.avoid k⟩
  · obtain ⟨cl, v, h3, h4, r⟩ := hc x d h1 h2
    exact ⟨cl, v, h3, h4, r.avoid k⟩
theorem Base.other {X Y : Addr → Prop} {h₀ : Heap} {s : Shared} {env : Env} {ow : List (Str × Addr)} (B : Base c X os h₀ s env ow) (v : Vis Y s.heap) : Base c Y os h₀ s env ow :=
  ⟨B.glo, v, B.keep, B.fresh, B.nohdr, B.cells, B.has⟩
/-- a local name that stands for an address is read as what stands there -/
theorem FrameOK.readAs {X : Addr → Prop} {s : Shared} {env : Env} {x : Str} {q : Addr} {d : D} (F : FrameOK X s env ρ) (hk : env.scope.names.lookup x = some .local) (hx : ρ.lookup x = some (.adr q)) (r : Rep X s.heap (.ref q) d) : FrameOK X s env ((x, d) :: ρ) := by
  obtain ⟨a, b, c, ⟨m', hm', hl⟩, hc, hap⟩ := F
  refine ⟨a, b, c, ⟨m', hm', fun y e h1 h2 => ?_⟩, fun y e h1 h2 => ?_, hap⟩
  · by_cases hyx : y = x
    · subst hyx
      rw [lookup_cons_self] at h2; cases h2
      obtain ⟨v, hv, rv⟩ := hl y _ hk hx
      cases rv
      exact ⟨_, hv, r⟩
    · rw [lookup_cons_ne hyx] at h2
      exact hl y e h1 h2
  · have hyx : y ≠ x := by rintro rfl; rw [hk] at h1; rcases h1 with h1 | h1 <;> cases h1
    rw [lookup_cons_ne hyx] at h2
    exact hc y e h1 h2
end
/-- for k, v in d.items(), where d is empty -/
theorem run_noItems {c : Cx} {X : Addr → Prop} {os : List Str} {h₀ : Heap} {A : Around} {E : Value → Shared → Prop} {s : Shared} {env : Env} {ow : List (Str × Addr)} {ρ : Loc} {Q : Flow → Shared → Prop} {xk xv x : Str} {pk pv pt pos apos cpos px : Pos} {x1 : Nat} {body : List Stmt} {p : Addr}
    (hh : A.handled = none) (B : Base c X os h₀ s env ow) (F : FrameOK X s env ρ) (hxk : env.scope.names.lookup xk = some .local) (hxv : env.scope.names.lookup xv = some .local) (hx : env.scope.names.lookup x = some .local) (hr : ρ.lookup x = some (.adr p))
    (hp : s.heap.get? p = some { cls := .type "dict", data := .dict #[] }) (hs : (p == sysModules) = false) (hd : (x == ("__debug__" : Str)) = false) (hline : (apos.endLine == cpos.line) = true) (hpl : p ≠ env.locals)
    (hQ : ∀ h' tk, (∀ b o, mainOnly b env ow → s.heap.get? b = some o → h'.get? b = some o) → FrameOK X { s with heap := h', toks := tk } env ρ → Base c X os h₀ { s with heap := h', toks := tk } env ow → Q .next { s with heap := h', toks := tk }) :
    wpAny c.M A (exec (.For (.Tuple [.Name xk pk, .Name xv pv] x1 pt) (.Call (.Attribute (.Name x px) (S "items") apos) [] [] cpos) body [] pos) env) Q E s := by
  have hm : s.heap.DictAt (PySem.strKind pw c.w) p [] 0 := ⟨_, #[], hp, ⟨rfl, rfl, rfl⟩, rfl, fun e he => by simp at he, .nil, List.nodup_nil⟩
  have F₀ := F
  obtain ⟨f1, f2, f3, ⟨m, hn, hl⟩, hc, hap⟩ := F
  obtain ⟨v, hv, rv⟩ := hl x _ hx hr
  cases rv
  refine wpAny_For (wpAny_Call_items (knd := PySem.strKind pw c.w) hs hm.dictOf rfl hline (fun Q' hQ' => wpAny_Name (wpAny_loadName_local f1 hx hn hv hQ') hd) ?_) (fun _ => rfl)
  have hlt : ∀ b o, s.heap.get? b = some o → b < s.heap.objs.size := fun b o e => Heap.lt_size e
  obtain ⟨oL, _, _, hoL, _⟩ := id hn
  refine wpAny_pyIter_items (knd := PySem.strKind pw c.w) (d := p) (kvs := []) (ep := 0) ⟨_, Heap.get?_push_size _ rfl, rfl, rfl⟩ (hm.push _) ?_
  have hsz : (s.heap.push { cls := .type "dict_items", data := .fields #[.ref p] }).objs.size = s.heap.objs.size + 1 := Heap.size_push ..
  refine codeAny_forLoop_items_locals (knd := PySem.strKind pw c.w) hh hxk hxv (by rw [f1]; rfl) ?_ hpl ?_
    (Heap.get?_push_size _ rfl) ((hm.push _).push _) ((hn.push _).push _) (fun _ m' => m' = m) rfl (fun i k v key m₁ s₁ hi => by simp at hi) fun h' tk m' hn' hJ hk => ?_
  · show (s.heap.push _).objs.size ≠ env.locals
    rw [hsz]; exact Nat.ne_of_gt (Nat.lt_succ_of_lt (hlt _ _ hoL))
  · show p ≠ (s.heap.push _).objs.size
    rw [hsz]; exact Nat.ne_of_lt (Nat.lt_succ_of_lt hm.lt_size)
  · subst hJ
    have hk' : ∀ b o, b ≠ env.locals → s.heap.get? b = some o → h'.get? b = some o := fun b o hbL e => hk b o hbL (by
      show b ≠ (s.heap.push _).objs.size
      rw [hsz]; exact Nat.ne_of_lt (Nat.lt_succ_of_lt (hlt b o e))) (Heap.get?_push_of_some _ (Heap.get?_push_of_some _ e))
    have sq : Seqs X s.heap h' := fun a o _ e hda => hk' a o (B.notDat e hda).1 e
    obtain ⟨mB, hmB, hhB⟩ := B.nohdr
    have hmm : m' hname = none := by
      obtain ⟨o1, es1, ep1, a1, a2, _, a4⟩ := hn
      obtain ⟨o2, es2, ep2, b1, b2, _, b4⟩ := hmB
      rw [a1] at b1; cases b1
      rw [a2] at b2; cases b2
      rw [← a4, b4]; exact hhB
    have hcl : ∀ {a : Addr} {w : Option Value}, s.heap.IsCell a w → h'.IsCell a w := fun {a w} ⟨o, h1, h2⟩ => ⟨o, hk' a o (by
      rintro rfl
      obtain ⟨o', es, ep, h3, h4, _⟩ := hn
      rw [h1] at h3; cases h3
      rw [h2] at h4; cases h4) h1, h2⟩
    refine hQ h' tk (fun b o hb e => hk' b o hb.1 e) ⟨f1, f2, f3, ⟨m', hn', fun y e h1 h2 => ?_⟩, fun y e h1 h2 => ?_, hap⟩ ⟨B.glo, fun b q => ?_, fun b o e => hk' b o (by rintro rfl; rw [B.fresh] at e; cases e) (B.keep b o e), B.fresh, ⟨m', hn', hmm⟩, fun y a h => ⟨(B.cells y a h).1, (B.cells y a h).2.1, (B.cells y a h).2.2.elim fun v hv => ⟨v, hcl hv⟩⟩, B.has⟩
    · obtain ⟨u, hu, ru⟩ := hl y e h1 h2
      exact ⟨u, hu, ru.seqs sq⟩
    · obtain ⟨cl, u, h3, h4, ru⟩ := hc y e h1 h2
      exact ⟨cl, u, h3, hcl h4, ru.seqs sq⟩
    · obtain ⟨o, e⟩ := B.vis b q
      by_cases hbL : b = env.locals
      · subst hbL; obtain ⟨o, _, _, q, _⟩ := hn'; exact ⟨o, q⟩
      · exact ⟨o, hk' b o hbL e⟩
end Mine
end
section
open PySem PySem.W PyProof.Rows PySem.Calls
set_option maxRecDepth 100000
namespace Mine
/-- o.append(e), o a plain list at q -/
theorem run_append {c : Cx} {n : Nat} {sc : Scope} {ρ : Loc} {X : Addr → Prop} {A : Around} {E : Value → Shared → Prop} {s : Shared} {env : Env} {Q : Flow → Shared → Prop} {o : PySem.Expr} {es : List PySem.Expr} {d : D} {apos pos epos : Pos} {q : Addr} {items : Array Value}
    (ho : Ev c n sc ρ o (.adr q)) (he : EvAll c n sc ρ es [d]) (R : Room n A) (G : Glo c X s.heap) (hs : env.scope = sc) (F : FrameOK X s env ρ) (hp : s.heap.PlainList q items) (hsz : items.size ≤ 1000)
    (hQ : ∀ s₁ h' v, Keeps s s₁ → Rep X s₁.heap v d → h'.PlainList q (items.push v) → Heap.SameBut q s₁.heap h' → Q .next { s₁ with heap := h' })
    (hbase : ∀ env, attributeBase o (S "append") env (eval o env) = eval o env := by intro _; rfl) (hl : es.length + 0 < 30 := by decide) (hline : (apos.endLine == pos.line) = true := by rfl) :
    wpAny c.M A (exec (.Expr (.Call (.Attribute o (S "append") apos) es [] pos) epos) env) Q E s := by
  refine wpAny_Expr_any (call_attr (hbase env) (few_of he hl env) hline (ho X A E s env _ R G hs F fun v s₁ k₁ r₁ pl => ?_)) (by unfold interactive; rw [F.fn]; rfl)
  cases r₁
  have hp₁ : s₁.heap.PlainList q items := hp.at fun o e => keeps_heap k₁ _ _ e
  have G₁ := G.keeps (keeps_heap k₁)
  refine getMethod_builtin hp₁.isList.typeIs PySem.F.plainAttrs_list PySem.F.slot_list_append PySem.F.type_list_append (fun a e => by cases e; obtain ⟨k, e'⟩ := hp₁; exact ⟨_, e', rfl⟩) ?_
  refine callWith_raw (first := [.ref q]) (keepF_builtin _) he X A E s₁ env _ R G₁ hs (F.keeps (keeps_heap k₁)) fun s₂ vs k₂ rs => ?_
  obtain ⟨v, rfl, rv⟩ := reps1 rs
  refine wpAny_list_append_plain (hp₁.at fun o e => keeps_heap k₂ _ _ e) (fun h' hl hsb => ?_) (by rw [sizeLine_eq]; omega)
  exact hQ s₂ h' v (keeps_trans k₁ k₂) rv hl hsb
theorem join_one (x y : Str) : Txt.join x [y] = y := rfl
theorem run_addh {c : Cx} (H : HGlo c) (Ha : MObj c (mthAt 16) 179 (S "Headers.add_header") .none) {n : Nat} {X : Addr → Prop} {A : Around} {E : Value → Shared → Prop} {s : Shared} {Q : Value → Shared → Prop} {xv nv wv : Value} {l : Addr} {items : Array Value} {nm w : Str}
    (R : Room (n + 3) A) (G : Glo c X s.heap) (rx : Rep X s.heap xv (.ins l)) (hl : s.heap.PlainList l items) (hsz : items.size ≤ 1000) (rn : Rep X s.heap nv (.str nm)) (rw' : Rep X s.heap wv (.str w)) (hX : X l)
    (h1 : nm.length ≤ 1000) (h2 : Seen1 nm) (h3 : w.length ≤ 1000) (h4 : Seen1 w)
    (hQ : ∀ h' tk tv, (∀ b o, b ≠ l → s.heap.get? b = some o → h'.get? b = some o) → h'.PlainList l (items.push tv) → Rep X h' tv (hdD (nm, w)) → Q .none { s with heap := h', toks := tk }) :
    wpAny c.M A (call (.ref 179) [xv, nv, wv]) Q E s := by
  obtain ⟨fd, pm, FA, hsc, hfd⟩ := m_raw Ha [S "self", S "_name", S "_value", S "_params"] (by decide) (by decide) (by decide) (by decide) rfl rfl rfl rfl
  have hb : ∀ E', wpAny c.M A.in1 (bindArgs fd ⟨[xv, nv, wv], []⟩) (fun binds s₁ => ∃ vs, binds = [S "self", S "_name", S "_value", S "_params"].zip vs ∧ Keeps s s₁ ∧ Reps X s₁.heap vs [.ins l, .str nm, .str w, .adr s.heap.objs.size] ∧ (s₁.heap.get? s.heap.objs.size = some { cls := .type "dict", data := .dict #[] })) E' s := fun E' => by
    subst hfd
    have e : bindArgs (fdOf (mthAt 16) 179 (S "Headers.add_header") .none .none pm) ⟨[xv, nv, wv], []⟩ = (alloc { cls := .type "dict", data := .dict #[] } >>= fun p => pure [(S "self", xv), (S "_name", nv), (S "_value", wv), (S "_params", .ref p)]) := rfl
    rw [e]
    refine wpAny_bind (wpAny_alloc (wpAny_pure ⟨[xv, nv, wv, .ref s.heap.objs.size], rfl, ⟨_, _, rfl, KeepsH.push _ _⟩, ?_, Heap.get?_push_size _ rfl⟩))
    exact .cons (rx.keeps (KeepsH.push _ _)) (.cons (rn.keeps (KeepsH.push _ _)) (.cons (rw'.keeps (KeepsH.push _ _)) (.cons (.adr _) .nil)))
  refine fn_raw (args := ⟨[xv, nv, wv], []⟩) FA rfl (os := []) (fun x hx => by cases hx) R G _ hb fun s₁ vs A' E' env s' k₁ hp R' B he F kk => ?_
  have hscope : env.scope = scopeOf (mthAt 16) := he.trans hsc
  generalize hpe : s.heap.objs.size = p at *
  have hl' : s'.heap.PlainList l items := hl.at fun o e => keeps_heap kk _ _ (keeps_heap k₁ _ _ e)
  have hp' := keeps_heap kk _ _ hp
  have k0 : ∀ b o, s.heap.get? b = some o → s'.heap.get? b = some o := fun b o e => keeps_heap kk _ _ (keeps_heap k₁ _ _ e)
  have mo : ∀ b o, s₁.heap.get? b = some o → mainOnly b env env.cells := fun b o e => ⟨fun q => (by subst q; rw [B.fresh] at e; cases e), fun y q => (by rw [(B.cells y b q).2.1] at e; cases e)⟩
  have hps : (p == sysModules) = false := by
    have hlt : hcls < s.heap.objs.size := by
      obtain ⟨⟨_, _, _, _, _, _, _, _, _, _, _, _, hC⟩, _⟩ := H.cls _ G.k
      exact Heap.lt_size hC
    have : p ≠ 1 := by rw [← hpe]; intro e; rw [e] at hlt; exact absurd hlt (by decide)
    exact beq_eq_false_iff_ne.mpr this
  -- parts = []
  refine wpAny_execs_cons (wpAny_Assign_Name ?_)
  refine wpAny_List_spliced (Calls.spliced_nil ⟨by decide, ?_⟩)
  generalize hq : s'.heap.objs.size = q
  have nq : s'.heap.get? q = none := by rw [← hq]; exact Heap.get?_none_of_le (Nat.le_refl _)
  have kq : KeepsH s'.heap (s'.heap.push { cls := .type "list", data := .seq ([] : List Value).toArray }) := KeepsH.push _ _
  have hpq : (s'.heap.push { cls := .type "list", data := .seq ([] : List Value).toArray }).PlainList q #[] := ⟨0, by rw [← hq]; exact Heap.get?_push_size _ rfl⟩
  generalize s'.heap.push { cls := .type "list", data := .seq ([] : List Value).toArray } = h₂ at kq hpq
  let Y : Addr → Prop := fun b => X b ∨ b = q
  have BY : Base c Y [] s₁.heap { s' with heap := h₂ } env env.cells := (B.more (s' := { s' with heap := h₂ }) kq).other fun b hb => by
    rcases hb with hb | rfl
    · exact (B.vis.keeps kq) b hb
    · obtain ⟨k, e⟩ := hpq; exact ⟨_, e⟩
  have FY : FrameOK Y { s' with heap := h₂ } env _ := (F.other (Y := Y) fun a ha => ha.elim .inl fun e => .inr (e ▸ nq)).keeps (s' := { s' with heap := h₂ }) kq
  have n1 : s₁.heap.get? q = none := none_old (keeps_heap kk) nq
  refine (sto_local (c := c) (n := n + 2) (x := S "parts") (d := .adr q) (sc := scopeOf (mthAt 16)) rfl (by decide)) Y A' _ { s' with heap := h₂ } env env.cells s₁.heap (.ref q) _ R' BY hscope FY (.adr q) fun s₃ m₃ B₃ F₃ => ?_
  have qm : ∀ {z : Shared} {o}, Base c Y [] s₁.heap z env env.cells → z.heap.get? q = some o → (∃ items, z.heap.PlainList q items) → mainOnly q env env.cells := fun {z o} Bz e hp => Bz.notDat e (by obtain ⟨it, k, e'⟩ := hp; rw [e] at e'; cases e'; rfl)
  obtain ⟨kp0, epq⟩ := id hpq
  have hqm : mainOnly q env env.cells := qm BY epq ⟨_, hpq⟩
  have hpq₃ : s₃.heap.PlainList q #[] := hpq.at fun o e => m₃.2 q o hqm e
  -- if _value is not None
  refine wpAny_execs_cons (wpAny_If ?_)
  have tst : Tst c (n + 2) (scopeOf (mthAt 16)) ((S "parts", .adr q) :: [S "self", S "_name", S "_value", S "_params"].zip [.ins l, .str nm, .str w, .adr p]) (.Compare (.Name (S "_value") { line := 89, col := 11, endLine := 89, endCol := 17 }) [.IsNot] [.Constant .none 0 { line := 89, col := 25, endLine := 89, endCol := 29 }] { line := 89, col := 11, endLine := 89, endCol := 29 }) true :=
    tst_cmp (ev_local rfl rfl) ev_none (cmp_isnot_none (by simp))
  refine tst Y A' _ s₃ env _ R' B₃.gl hscope F₃ fun s₄ k₄ => ?_
  rw [if_pos rfl]
  have B₄ := B₃.more (keeps_heap k₄)
  have F₄ := F₃.keeps (keeps_heap k₄)
  have hpq₄ : s₄.heap.PlainList q #[] := hpq₃.at fun o e => keeps_heap k₄ _ _ e
  have a1 : Ex1 c (n + 2) [] (scopeOf (mthAt 16)) ((S "parts", .adr q) :: [S "self", S "_name", S "_value", S "_params"].zip [.ins l, .str nm, .str w, .adr p]) (.Assign [.Name (S "_value") { line := 90, col := 12, endLine := 90, endCol := 18 }] (.Call (.Attribute (.Name (S "self") { line := 90, col := 21, endLine := 90, endCol := 25 }) (S "_convert_string_type") { line := 90, col := 21, endLine := 90, endCol := 46 }) [.Name (S "_value") { line := 90, col := 47, endLine := 90, endCol := 53 }] [⟨some (S "name"), .Constant (.bool false) 0 { line := 90, col := 60, endLine := 90, endCol := 65 }, { line := 90, col := 55, endLine := 90, endCol := 65 }⟩] { line := 90, col := 21, endLine := 90, endCol := 66 }) { line := 90, col := 12, endLine := 90, endCol := 66 })
      (.next ((S "_value", .str w) :: (S "parts", .adr q) :: [S "self", S "_name", S "_value", S "_params"].zip [.ins l, .str nm, .str w, .adr p])) :=
    ex1_assign' (ev_methK (d₀ := .ins l) (de := .str w) (kds := [.bool false]) (ev_local rfl rfl) (mth_ins H.cls H.conv l) H.conv.keepF (ev_local rfl rfl) (.cons ev_bool .nil) (fn_conv H h3 h4)) (sto_local rfl (by decide)) (fun env he => by rfl)
  refine wpAny_execs_cons (a1 Y A' _ s₄ env env.cells s₁.heap _ R' B₄ hscope F₄ fun f s₅ m₅ B₅ ok => ?_)
  obtain ⟨rfl, F₅⟩ := ok
  have hpq₅ : s₅.heap.PlainList q #[] := hpq₄.at fun o e => m₅.2 q o hqm e
  refine wpAny_execs_cons (run_append (q := q) (items := #[]) (ev_local rfl rfl) (.cons' (ev_local rfl rfl) .nil) R' B₅.gl hscope F₅ hpq₅ (by decide) fun s₆ h₇ v₇ k₆ r₇ hpq₇ sb₇ => wpAny_execs_nil ?_)
  have B₆ := B₅.more (keeps_heap k₆)
  have F₆ := F₅.keeps (keeps_heap k₆)
  have k67 : ∀ b o, ¬ (b = q) → s₆.heap.get? b = some o → h₇.get? b = some o := fun b o hb e => (sb₇.2 b hb).trans e
  have hqL : q ≠ env.locals ∧ ∀ v, ¬ s₆.heap.IsCell q v := ⟨hqm.1, fun v ⟨o, e, e2⟩ => by
    obtain ⟨k, e'⟩ := (hpq₅.at fun o e => keeps_heap k₆ _ _ e : s₆.heap.PlainList q #[])
    rw [e] at e'; cases e'; cases e2⟩
  have F₇ : FrameOK Y { s₆ with heap := h₇ } env _ := F₆.hid (s' := { s₆ with heap := h₇ }) (fun b => b = q) k67 (fun b hb => .inr hb) (fun b hb => hb ▸ hqL)
  have B₇ : Base c Y [] s₁.heap { s₆ with heap := h₇ } env env.cells := B₆.but (s' := { s₆ with heap := h₇ }) (fun b => b = q) k67 (fun b hb _ => by subst hb; obtain ⟨k, e⟩ := hpq₇; exact ⟨_, e⟩) (fun b hb => hb ▸ ⟨n1, hqm.1, hqm.2⟩)
  have rv₇ : Rep Y h₇ v₇ (.str w) := r₇.seqs fun a o hY e _ => k67 a o (fun hb => hY (.inr hb)) e
  -- no items
  have ch7 : ∀ b o, s₁.heap.get? b = some o → h₇.get? b = some o := fun b o e => by
    have hbq : ¬ b = q := by rintro rfl; rw [n1] at e; cases e
    exact k67 b o hbq (keeps_heap k₆ _ _ (m₅.2 b o (mo _ _ e) (keeps_heap k₄ _ _ (m₃.2 b o (mo _ _ e) (kq _ _ (keeps_heap kk _ _ e))))))
  refine wpAny_execs_cons (run_noItems (p := p) R'.handled B₇ F₇ (by rw [hscope]; rfl) (by rw [hscope]; rfl) (by rw [hscope]; rfl) rfl (ch7 _ _ hp) hps (by decide) rfl (mo _ _ hp).1 fun h₈ tk₈ k78 F₈ B₈ => ?_)
  have ch8 : ∀ b o, s₁.heap.get? b = some o → h₈.get? b = some o := fun b o e => k78 b o (mo _ _ e) (ch7 b o e)
  have hpq₈ : h₈.PlainList q #[v₇] := hpq₇.at fun o e => k78 q o hqm e
  have hXq : ¬ X q := fun hx => by obtain ⟨o, e⟩ := B.vis q hx; rw [nq] at e; cases e
  have rv₈ : Rep X h₈ v₇ (.str w) := by cases rv₇; exact .str _ _
  have BX : Base c X [] s₁.heap { s₆ with heap := h₈, toks := tk₈ } env env.cells := B₈.other fun b hb => B₈.vis b (.inl hb)
  have FX := (F₈.other (Y := X) fun a ha => .inl (.inl ha)).readAs (x := S "parts") (q := q) (d := .pls [.str w]) (by rw [hscope]; rfl) rfl (.pls hXq hpq₈ (.cons rv₈ .nil))
  have hl₈ : h₈.PlainList l items := hl.at fun o e => ch8 _ _ (keeps_heap k₁ _ _ e)
  have hjoin : Fn c (n + 2) (.builtin "str.join") [.str (S "; "), .lst [.str w]] (.str w) := by
    have := fn_join (c := c) (n := n + 2) (x := S "; ") (ys := [w]) (by show (w.length + 0) + 1 * 2 ≤ _; omega)
    exact this
  refine wpAny_execs_cons (run_append (q := l) (items := items) (d := .tup [.str nm, .str w]) (ev_hdr_ins H.cls (ev_local rfl rfl)) (.cons' (ev_tuple (.cons' (ev_methK (d₀ := .ins l) (de := .str nm) (kds := [.bool true]) (ev_local rfl rfl) (mth_ins H.cls H.conv l) H.conv.keepF (ev_local rfl rfl) (.cons ev_bool .nil) (fn_conv H h1 h2)) (.cons' (ev_join (.cons' (ev_pls (ev_local rfl rfl)) .nil) hjoin) .nil))) .nil) R' BX.gl hscope FX hl₈ hsz fun s₉ h' v k₉ r₉ hpl sb => wpAny_execs_nil ?_)
  obtain ⟨h9, t9, rfl, kp9⟩ := k₉
  have kb : ∀ b o, b ≠ l → s.heap.get? b = some o → h'.get? b = some o := fun b o hb e => (sb.2 b hb).trans (kp9 _ _ (ch8 _ _ (keeps_heap k₁ _ _ e)))
  have := hQ h' t9 v kb hpl (r₉.seqs fun a o ha e _ => (sb.2 a (fun q => ha (q ▸ hX))).trans e)
  obtain ⟨hA, tA, rfl, _⟩ := k₁
  obtain ⟨hB, tB, rfl, _⟩ := kk
  obtain ⟨⟨hC, tC, rfl⟩, _⟩ := m₃
  obtain ⟨hD, tD, rfl, _⟩ := k₄
  obtain ⟨⟨hE, tE, rfl⟩, _⟩ := m₅
  obtain ⟨hF, tF, rfl, _⟩ := k₆
  exact this
end Mine
end
section
open PySem PySem.W PyProof.Rows PySem.Calls
set_option maxRecDepth 100000
namespace Mine
noncomputable def turnOf (p : P2) : Option (Int × Bool) :=
  match hlsF (fracF (p.1 + 8) 16) (fracF (p.2 + 8) 16) Fh with
  | none => none
  | some (h, _, s) => match Float64.decode (Float64.add (Float64.mul h (Float64.ofInt 360)) Fh) with
    | .fin sg m e => some (Float64.truncOf sg m e, eqF s F0)
    | _ => none
noncomputable def box6 : List Int := [-6, -5, -4, -3, -2, -1, 0, 1, 2, 3, 4, 5, 6]
noncomputable def turnGood (p : P2) : Bool := match turnOf p with
  | some (t, z) => decide (0 ≤ t) && decide (t ≤ 360) && (z == !notO p)
  | none => false
theorem turns_good : (box6.all fun x => box6.all fun y => turnGood (x, y)) = true := by decide +kernel
end Mine
end
section
open PySem PySem.W PyProof.Rows PySem.Calls
set_option maxRecDepth 100000
namespace Mine
/-- small letters, great letters, of plain texts -/
noncomputable def loS (x : Str) : Str := ⟨x.cps.map lo1⟩
noncomputable def upS (x : Str) : Str := ⟨x.cps.map up1⟩
noncomputable def seenB (x : Str) : Bool := x.cps.all fun c => 32 ≤ c && c < 127
theorem seen_of {x : Str} (h : seenB x = true) : Seen1 x := by
  intro i hi
  have := Array.all_eq_true.mp h i hi
  simp only [Bool.and_eq_true, decide_eq_true_eq] at this
  rw [Array.getD, dif_pos hi]
  exact this
theorem seen_lt {x : Str} (h : seenB x = true) : ∀ c ∈ x.cps.toList, c < 128 := by
  intro c hc
  have := (Array.all_eq_true_iff_forall_mem.mp h) c (by simpa using hc)
  simp only [Bool.and_eq_true, decide_eq_true_eq] at this
  omega
theorem lower_seen {x : Str} (h : seenB x = true) : Txt.lower x = loS x := lower_ascii (seen_lt h)
theorem upper_seen {x : Str} (h : seenB x = true) : Txt.upper x = upS x := upper_ascii (seen_lt h)
noncomputable def rawK (k : Nat) : Str := txtOf (apV (256 + k) 3).toList
/-- the name of a line -/
noncomputable def nmK (k : Nat) : Str := loS (rawK k)
noncomputable def nmGood (k : Nat) : Bool := seenB (rawK k) && seenB (nmK k) && seenB (upS (nmK k)) && (loS (nmK k) == nmK k) && (loS (upS (nmK k)) == nmK k) && !(upS (nmK k) == nmK k) && (nmK k).length == 3 && (upS (nmK k)).length == 3 && !(nmK k == dash) && !(upS (nmK k) == dash)
theorem nm_good : ((List.range 180).all nmGood) = true := by decide +kernel
end Mine
end
section
open PySem PySem.W PyProof.Rows PySem.Calls
set_option maxRecDepth 100000
namespace Mine
noncomputable def nameT (t : Int) (z : Bool) : Str := if t < 180 then (if z then dash else nmK (t.fmod 180).toNat) else upS (if z then dash else nmK (t.fmod 180).toNat)
noncomputable def nameP (p : P2) : Str := match turnOf p with
  | some (t, z) => nameT t z
  | none => default
theorem nm_at {k : Nat} (h : k < 180) : nmGood k = true := List.all_eq_true.mp nm_good k (List.mem_range.mpr h)
structure NmK (k : Nat) : Prop where
  raw : seenB (rawK k) = true
  lo : seenB (nmK k) = true
  up : seenB (upS (nmK k)) = true
  lolo : loS (nmK k) = nmK k
  loup : loS (upS (nmK k)) = nmK k
  ne : upS (nmK k) ≠ nmK k
  len : (nmK k).length = 3
  lenU : (upS (nmK k)).length = 3
  nd : nmK k ≠ dash
  ndU : upS (nmK k) ≠ dash
theorem nm_k {k : Nat} (h : k < 180) : NmK k := by
  have := nm_at h
  unfold nmGood at this
  simp only [Bool.and_eq_true, beq_iff_eq, Bool.not_eq_true', beq_eq_false_iff_ne] at this
  obtain ⟨⟨⟨⟨⟨⟨⟨⟨⟨a, b⟩, c⟩, d⟩, e⟩, f⟩, g⟩, h⟩, i⟩, j⟩ := this
  exact ⟨a, b, c, d, e, f, g, h, i, j⟩
theorem turn_k (t : Int) : (t.fmod 180).toNat < 180 ∧ ((t.fmod 180).toNat : Int) = t.fmod 180 := by
  have h1 := Int.fmod_nonneg_of_pos t (b := 180) (by decide)
  have h2 := Int.fmod_lt_of_pos t (b := 180) (by decide)
  omega
theorem seen_dash : seenB dash = true := by decide +kernel
/-- what the table's walk needs of the top -/
structure TGlo (c : Cx) : Prop extends IGlo c where
  hdg : c.mg (S "Headers") = some (.ref 182)
  wayg : c.mg (S "_law_way") = some (.ref 231)
  hlsg : c.mg (S "rgb_to_hls") = some (.ref 193)
  intg : c.mg (S "int") = none
  apg : c.mg (S "Int2AP") = some (.ref 205)
  maxg : c.mg (S "max") = none
  ming : c.mg (S "min") = none
  absg : c.mg (S "abs") = none
  dmg : c.mg (S "divmod") = none
  way : FnObj c (stmtAt 17) 231
  hls : FnObj c (stmtAt 9) 193
  ap : FnObj c (stmtAt 12) 205
  add : MObj c (mthAt 16) 179 (S "Headers.add_header") .none
noncomputable abbrev taS : Scope := scopeOf (stmtAt 24)
theorem at_tab {c : Cx} (H : FnObj c (stmtAt 24) 272) : ∃ fd, FnAt c 272 fd (bodyOf (stmtAt 24)) [S "words", S "spot"] ∧ fd.scope = taS :=
  fn_at H _ (fun pm => bind2 fun a b => by rfl) (by decide) (by decide) (by decide) (by decide) rfl rfl rfl rfl
noncomputable def forBody : Stmt → List Stmt
  | .For _ _ b .. => b
  | _ => []
noncomputable def tabLoop : List Stmt := forBody (((bodyOf (stmtAt 24))[1]?).getD (.Pass default))
noncomputable def loopB (i : Nat) : Stmt := (tabLoop[i]?).getD (.Pass default)
section
variable {c : Cx} {n : Nat} {l : Addr} {ws : List Wd} {sp : P2} {w : Wd} {p : P2} {h lt s : UInt64} {t : Int} {z : Bool}
noncomputable abbrev ta0 (l : Addr) (ws : List Wd) (sp : P2) : Loc := (S "table", .ins l) :: [S "words", S "spot"].zip [.lst (ws.map toW), toP sp]
noncomputable abbrev ta1 (l : Addr) (ws : List Wd) (sp : P2) (w : Wd) : Loc := (S "word", toW w) :: ta0 l ws sp
noncomputable abbrev ta2 (l : Addr) (ws : List Wd) (sp : P2) (w : Wd) (p : P2) : Loc := (S "y", .int p.2) :: (S "x", .int p.1) :: ta1 l ws sp w
noncomputable abbrev ta3 (l : Addr) (ws : List Wd) (sp : P2) (w : Wd) (p : P2) (h lt s : UInt64) : Loc := (S "share", .float s) :: (S "light", .float lt) :: (S "hue", .float h) :: ta2 l ws sp w p
noncomputable abbrev ta4 (l : Addr) (ws : List Wd) (sp : P2) (w : Wd) (p : P2) (h lt s : UInt64) (t : Int) : Loc := (S "turn", .int t) :: ta3 l ws sp w p h lt s
noncomputable abbrev nm0 (t : Int) (z : Bool) : Str := if z then dash else nmK (t.fmod 180).toNat
noncomputable abbrev ta5 (l : Addr) (ws : List Wd) (sp : P2) (w : Wd) (p : P2) (h lt s : UInt64) (t : Int) : Loc := (S "name", .str (nm0 t (eqF s F0))) :: ta4 l ws sp w p h lt s t
theorem tab0 (H : TGlo c) : Ex1 c (n + 3) [] taS (ta1 l ws sp w) (loopB 0) (.next (ta2 l ws sp w (wayP w sp))) :=
  ex1_assignTup (bs := [(S "y", .int (wayP w sp).2), (S "x", .int (wayP w sp).1)]) (ev_call (ev_global rfl H.wayg) (keepF_of (at_way H.way)) (.cons' (ev_local rfl rfl) (.cons' (ev_local rfl rfl) .nil)) (fn_wayP H.way)) (asg_pair (sto_local rfl (by decide)) (sto_local rfl (by decide))) (fun _ _ _ _ _ _ h => PyProof.Rows.Assign_Tuple h)
theorem tab1 (H : TGlo c) (hp : p.1.natAbs < 900 ∧ p.2.natAbs < 900) (hr : hlsF (fracF (p.1 + 8) 16) (fracF (p.2 + 8) 16) Fh = some (h, lt, s)) : Ex1 c (n + 3) [] taS (ta2 l ws sp w p) (loopB 1) (.next (ta3 l ws sp w p h lt s)) := by
  refine ex1_assignTup (d := .tup [.float h, .float lt, .float s]) (bs := [(S "share", .float s), (S "light", .float lt), (S "hue", .float h)]) (ev_call (ev_global rfl H.hlsg) (keepF_of (at_hls H.hls)) (.cons' ?a1 (.cons' ?a2 (.cons' ev_float .nil))) (fn_hls H.hls H.maxg H.ming hr)) (asg_triple (sto_local rfl (by decide)) (sto_local rfl (by decide)) (sto_local rfl (by decide))) (fun _ _ _ _ _ _ h => PyProof.Rows.Assign_Tuple h)
  case a1 => exact ev_bin (ev_bin (ev_local rfl rfl) ev_int bin_add) ev_int (bin_divii (by decide) (by omega))
  case a2 => exact ev_bin (ev_bin (ev_local rfl rfl) ev_int bin_add) ev_int (bin_divii (by decide) (by omega))
theorem tab2 (H : TGlo c) {sg : Bool} {m : Nat} {e : Int} (hd : Float64.decode (Float64.add (Float64.mul h (Float64.ofInt 360)) Fh) = .fin sg m e) (ht : Float64.truncOf sg m e = t) : Ex1 c (n + 3) [] taS (ta3 l ws sp w p h lt s) (loopB 2) (.next (ta4 l ws sp w p h lt s t)) := by
  subst ht
  exact ex1_assign' (ev_call (ev_builtin rfl H.intg (by rfl)) (keepF_type _) (.cons' (ev_bin (ev_bin (ev_local rfl rfl) ev_int (bin_mulfi (by decide))) ev_float bin_addf) .nil) (fn_int_float hd)) (sto_local rfl (by decide)) (fun env he => by rfl)
theorem tab3 (H : TGlo c) : Ex1 c (n + 3) [] taS (ta4 l ws sp w p h lt s t) (loopB 3) (.next (ta5 l ws sp w p h lt s t)) := by
  obtain ⟨hk, hkt⟩ := turn_k t
  generalize hkk : (t.fmod 180).toNat = k at *
  have N := nm_k hk
  refine ex1_assign' (ev_if (b := eqF s F0) (tst_cmp (ev_local rfl rfl) ev_float cmp_eqf) (fun hb => ?yes) (fun hb => ?no)) (sto_local rfl (by decide)) (fun env he => by rfl)
  case yes => rw [hb]; exact ev_str
  case no =>
    rw [hb]
    show Ev _ _ _ _ _ (.str (nmK (t.fmod 180).toNat))
    rw [hkk]
    have hap := fn_ap (n := n + 2) H.ap H.intg H.absg H.dmg (num := 256 + k) (k := 3) (by decide) (Nat.div_eq_of_lt (by omega)) (fun i hi => by
      have : i = 0 ∨ i = 1 ∨ i = 2 := by omega
      rcases this with rfl | rfl | rfl
      · simp
      · have : 1 ≤ (256 + k) / 16 ^ 1 := (Nat.le_div_iff_mul_le (by decide)).mpr (by omega)
        omega
      · have : 1 ≤ (256 + k) / 16 ^ 2 := (Nat.le_div_iff_mul_le (by decide)).mpr (by omega)
        omega)
    have hsz := apV_size (256 + k) 3
    have hlow : Fn c (n + 3) (.builtin "str.lower") [.str (rawK k)] (.str (nmK k)) := by
      have := fn_lower (c := c) (n := n + 3) (x := rawK k) (by show ((apV (256 + k) 3).toList.map _).toArray.size ≤ _; simp [hsz])
      rwa [lower_seen N.raw] at this
    have hdec : Fn c (n + 3) (.builtin "bytes.decode") [.bytes (apV (256 + k) 3), .str asciiS] (.str (rawK k)) := by
      have := fn_decode (c := c) (n := n + 3) (l := (apV (256 + k) 3).toList) (by intro e; have := congrArg List.length e; simp [hsz] at this) (fun x hx => by
        have := seen_lt N.raw x.toNat (by show _ ∈ ((apV (256 + k) 3).toList.map (fun x : UInt8 => x.toNat)).toArray.toList; simp; exact ⟨x, by simpa using hx, rfl⟩)
        exact this) (by simp [hsz])
      rwa [Array.toArray_toList] at this
    refine ev_meth (d₀ := .str (rawK k)) (ev_meth (d₀ := .bytes (apV (256 + k) 3)) (ev_call (ev_global rfl H.apg) (keepF_of (at_ap H.ap)) (.cons' (d := .int ((256 + k : Nat) : Int)) ?num .nil) hap) mth_decode (keepF_builtin _) (.cons' ev_str .nil) hdec) mth_lower (keepF_builtin _) .nil hlow
    have e : ((256 + k : Nat) : Int) = 256 + t.fmod 180 := by rw [← hkt]; push_cast; rfl
    rw [e]
    exact ev_bin ev_int (ev_bin (ev_local rfl rfl) ev_int (bin_mod (by decide))) bin_add
end
end Mine
end
section
open PySem PySem.W PyProof.Rows PySem.Calls
set_option maxRecDepth 100000
namespace Mine
section
variable {c : Cx} {n : Nat} {l : Addr} {ws : List Wd} {sp : P2} {w : Wd} {p : P2} {h lt s : UInt64} {t : Int} {z : Bool}
theorem nm0_seen (t : Int) (z : Bool) : seenB (nm0 t z) = true ∧ (nm0 t z).length ≤ 10 := by
  obtain ⟨hk, _⟩ := turn_k t
  have N := nm_k hk
  cases z with
  | true => exact ⟨seen_dash, show dash.length ≤ 10 by decide⟩
  | false => exact ⟨N.lo, by show (nmK _).length ≤ 10; rw [N.len]; decide⟩
theorem nameT_seen (t : Int) (z : Bool) : seenB (nameT t z) = true ∧ (nameT t z).length ≤ 10 := by
  obtain ⟨hk, _⟩ := turn_k t
  have N := nm_k hk
  unfold nameT
  split
  · exact nm0_seen t z
  · cases z with
    | true => exact ⟨show seenB (upS dash) = true by decide +kernel, show (upS dash).length ≤ 10 by decide +kernel⟩
    | false => exact ⟨N.up, by show (upS (nmK _)).length ≤ 10; rw [N.lenU]; decide⟩
theorem txtW_good (hg : GoodW w) : seenB (txtW w) = true := by
  unfold seenB
  rw [Array.all_eq_true_iff_forall_mem]
  intro x hx
  have hx' : x ∈ (wdL w).map (fun c : UInt8 => c.toNat) := by simpa [txtW, txtOf] using hx
  obtain ⟨c, hc, rfl⟩ := List.mem_map.mp hx'
  have := hg c hc
  simp; omega
/-- the name and the word that are handed over -/
theorem tab4 (hg : GoodW w) : EvAll c (n + 3) taS (ta5 l ws sp w p h lt s t) (match loopB 4 with | .Expr (.Call _ es _ _) _ => es | _ => []) [.str (nameT t (eqF s F0)), .str (txtW w)] := by
  obtain ⟨h1, h2⟩ := nm0_seen t (eqF s F0)
  refine .cons' (ev_if (b := decide (t < 180)) (tst_cmp (ev_local rfl rfl) ev_int cmp_lt) (fun hb => ?yes) (fun hb => ?no)) (.cons' (ev_meth (d₀ := toW w) (ev_local rfl rfl) mth_decode (keepF_builtin _) (.cons' ev_str .nil) ?dec) .nil)
  case yes => unfold nameT; rw [if_pos (of_decide_eq_true hb)]; exact ev_local rfl rfl
  case no =>
    unfold nameT
    rw [if_neg (of_decide_eq_false hb)]
    have hup : Fn c (n + 3) (.builtin "str.upper") [.str (nm0 t (eqF s F0))] (.str (upS (nm0 t (eqF s F0)))) := by
      have := fn_upper (c := c) (n := n + 3) (x := nm0 t (eqF s F0)) (by omega)
      rwa [upper_seen h1] at this
    exact ev_meth (d₀ := .str (nm0 t (eqF s F0))) (ev_local rfl rfl) mth_upper (keepF_builtin _) .nil hup
  case dec => exact fn_decode (l := wdL w) (by simp [wdL]) (fun x hx => by have := hg x hx; omega) (by simp [wdL])
theorem loopB_len : tabLoop = [loopB 0, loopB 1, loopB 2, loopB 3, loopB 4] := rfl
/-- one turn: the line is laid at the table's end -/
theorem tab_turn (H : TGlo c) {X : Addr → Prop} {A : Around} {E : Value → Shared → Prop} {s₀ : Shared} {env : Env} {ow : List (Str × Addr)} {h₀ : Heap} {Q : Flow → Shared → Prop} {items : Array Value}
    (R : Room (n + 3) A) (B : Base c X [] h₀ s₀ env ow) (hs : env.scope = taS) (F : FrameOK X s₀ env (ta1 l ws sp w)) (hX : X l) (hl : s₀.heap.PlainList l items) (hlm : mainOnly l env ow) (hsz : items.size ≤ 1000) (hg : GoodW w)
    (hp : (wayP w sp).1.natAbs < 900 ∧ (wayP w sp).2.natAbs < 900) (ht : turnOf (wayP w sp) = some (t, z)) (hl0 : h₀.get? l = none)
    (hQ : ∀ s' tv, (∃ h' tk, s' = { s₀ with heap := h', toks := tk }) → (∀ b o, mainOnly b env ow → b ≠ l → s₀.heap.get? b = some o → s'.heap.get? b = some o) → s'.heap.PlainList l (items.push tv) → Rep X s'.heap tv (hdD (nameT t z, txtW w)) →
      Base c X [] h₀ s' env ow → FrameOK X s' env (ta0 l ws sp) → Q .next s') : wpAny c.M A (execs tabLoop env) Q E s₀ := by
  unfold turnOf at ht
  cases hr : hlsF (fracF ((wayP w sp).1 + 8) 16) (fracF ((wayP w sp).2 + 8) 16) Fh with
  | none => rw [hr] at ht; cases ht
  | some r =>
    obtain ⟨h, lt, s⟩ := r
    rw [hr] at ht
    dsimp only at ht
    cases hd : Float64.decode (Float64.add (Float64.mul h (Float64.ofInt 360)) Fh) with
    | fin sg m e =>
      rw [hd] at ht
      simp only [Option.some.injEq, Prod.mk.injEq] at ht
      obtain ⟨ht, hz⟩ := ht
      rw [loopB_len]
      refine wpAny_execs_cons (tab0 H X A _ s₀ env ow h₀ _ R B hs F fun f s₁ m₁ B₁ ok => ?_)
      obtain ⟨rfl, F₁⟩ := ok
      refine wpAny_execs_cons (tab1 H hp hr X A _ s₁ env ow h₀ _ R B₁ hs F₁ fun f s₂ m₂ B₂ ok => ?_)
      obtain ⟨rfl, F₂⟩ := ok
      refine wpAny_execs_cons (tab2 H hd ht X A _ s₂ env ow h₀ _ R B₂ hs F₂ fun f s₃ m₃ B₃ ok => ?_)
      obtain ⟨rfl, F₃⟩ := ok
      refine wpAny_execs_cons (tab3 H X A _ s₃ env ow h₀ _ R B₃ hs F₃ fun f s₄ m₄ B₄ ok => ?_)
      obtain ⟨rfl, F₄⟩ := ok
      have mv := ((m₁.trans m₂).trans m₃).trans m₄
      have hl₄ : s₄.heap.PlainList l items := hl.at fun o e => mv.2 l o hlm e
      have es := tab4 (c := c) (n := n) (l := l) (ws := ws) (sp := sp) (w := w) (p := wayP w sp) (h := h) (lt := lt) (s := s) (t := t) hg
      refine wpAny_execs_cons (wpAny_Expr_any (call_attr rfl (few_of es (by decide) env) rfl ?_) (by unfold interactive; rw [F.fn]; rfl))
      have evt : Ev c (n + 3) taS (ta5 l ws sp w (wayP w sp) h lt s t) (match loopB 4 with | .Expr (.Call (.Attribute o _ _) _ _ _) _ => o | _ => .Constant .none 0 default) (.ins l) := ev_local rfl rfl
      refine evt X A _ s₄ env _ R B₄.gl hs F₄ fun xv s₅ k₅ r₅ pl => ?_
      have G₅ := B₄.gl.keeps (keeps_heap k₅)
      refine get_ins H.cls H.add (name := S "add_header") rfl (by decide) (by rw [typeLookup_type, builtinLookup_eq_fast]; kernel_rfl) X _ _ s₅ xv l pl _ G₅ r₅ ?_
      refine callWith_raw (first := [xv]) H.add.keepF es X A _ s₅ env _ R G₅ hs (F₄.keeps (keeps_heap k₅)) fun s₆ vs k₆ rs => ?_
      obtain ⟨nv, wv, rfl, rn, rw'⟩ := reps2 rs
      have k56 := keeps_trans k₅ k₆
      have G₆ := B₄.gl.keeps (keeps_heap k56)
      have B₆ := B₄.more (keeps_heap k56)
      have F₆ := F₄.keeps (keeps_heap k56)
      obtain ⟨q1, q2⟩ := nameT_seen t (eqF s F0)
      have hl₆ : s₆.heap.PlainList l items := hl₄.at fun o e => keeps_heap k56 _ _ e
      refine run_addh H.toHGlo H.add R G₆ (r₅.keeps (keeps_heap k₆)) hl₆ hsz rn rw' hX (by omega) (seen_of q1) (by show 4 ≤ 1000; decide) (seen_of (txtW_good hg)) fun h' tk tv kk hpl rv => ?_
      refine wpAny_execs_nil ?_
      have k67 : ∀ b o, ¬ (b = l) → s₆.heap.get? b = some o → h'.get? b = some o := fun b o hb e => kk b o hb e
      have hlL : l ≠ env.locals ∧ ∀ v, ¬ s₆.heap.IsCell l v := ⟨hlm.1, fun v ⟨o, e, e2⟩ => by
        obtain ⟨k, e'⟩ := hl₆
        rw [e] at e'; cases e'; cases e2⟩
      have F₇ : FrameOK X { s₆ with heap := h', toks := tk } env _ := F₆.hid (s' := { s₆ with heap := h', toks := tk }) (fun b => b = l) k67 (fun b hb => hb ▸ hX) (fun b hb => hb ▸ hlL)
      have B₇ : Base c X [] h₀ { s₆ with heap := h', toks := tk } env ow := B₆.but (s' := { s₆ with heap := h', toks := tk }) (fun b => b = l) k67 (fun b hb _ => by subst hb; obtain ⟨k, e⟩ := hpl; exact ⟨_, e⟩) (fun b hb => hb ▸ ⟨hl0, hlm.1, hlm.2⟩)
      have sh : ∃ h' tk, s₆ = { s₀ with heap := h', toks := tk } := by
        obtain ⟨⟨hA, tA, rfl⟩, _⟩ := mv
        obtain ⟨hB, tB, rfl, _⟩ := k56
        exact ⟨_, _, rfl⟩
      refine hQ { s₆ with heap := h', toks := tk } tv ?_ (fun b o hb hbl e => kk b o hbl (keeps_heap k56 _ _ (mv.2 b o hb e))) hpl (by rw [← hz]; exact rv) B₇ (F₇.weak fun y d hy => ?_)
      · obtain ⟨hA, tA, rfl⟩ := sh; exact ⟨_, _, rfl⟩
      · have hne : ∀ q ∈ [S "name", S "turn", S "share", S "light", S "hue", S "y", S "x", S "word"], y ≠ q := by
          intro q hq e
          subst e
          simp only [List.mem_cons, List.not_mem_nil, or_false] at hq
          rcases hq with rfl | rfl | rfl | rfl | rfl | rfl | rfl | rfl <;> cases hy
        rw [lookup_cons_ne (hne _ (by simp)), lookup_cons_ne (hne _ (by simp)), lookup_cons_ne (hne _ (by simp)), lookup_cons_ne (hne _ (by simp)), lookup_cons_ne (hne _ (by simp)), lookup_cons_ne (hne _ (by simp)), lookup_cons_ne (hne _ (by simp)), lookup_cons_ne (hne _ (by simp))]
        exact hy
    | _ => rw [hd] at ht; cases ht
end
end Mine
end
section
open PySem PySem.W PyProof.Rows PySem.Calls
set_option maxRecDepth 100000
namespace Mine
noncomputable def rowOf (sp : P2) (w : Wd) : Rw := (nameP (wayP w sp), w)
theorem take_map_succ {α β : Type} (f : α → β) (l : List α) (i : Nat) (v : α) (h : l[i]? = some v) : (l.take (i + 1)).map f = (l.take i).map f ++ [f v] := by
  rw [List.take_add_one, h, List.map_append]; rfl
theorem tab_ex {c : Cx} (H : TGlo c) {n : Nat} {ws : List Wd} {sp : P2} (h5 : ws.length ≤ 5) (hg : ∀ w ∈ ws, GoodW w) (hp : ∀ w ∈ ws, (wayP w sp).1.natAbs < 900 ∧ (wayP w sp).2.natAbs < 900) (ht : ∀ w ∈ ws, ∃ t z, turnOf (wayP w sp) = some (t, z)) :
    Ex c (n + 3) [] taS ([S "words", S "spot"].zip [.lst (ws.map toW), toP sp]) (bodyOf (stmtAt 24)) (.ret (tblW (ws.map (rowOf sp)))) := by
  intro X A E s env ow h₀ Q R B he F hQ
  have hst : bodyOf (stmtAt 24) = [((bodyOf (stmtAt 24))[0]?).getD (.Pass default), ((bodyOf (stmtAt 24))[1]?).getD (.Pass default), ((bodyOf (stmtAt 24))[2]?).getD (.Pass default)] := rfl
  rw [hst]
  -- table = Headers()
  refine wpAny_execs_cons (wpAny_Assign_Name (wpAny_Call_Name_kw ?_))
  have evH : EvV c (n + 3) taS ([S "words", S "spot"].zip [.lst (ws.map toW), toP sp]) (match ((bodyOf (stmtAt 24))[0]?).getD (.Pass default) with | .Assign _ (.Call f _ _ _) _ => f | _ => .Constant .none 0 default) (.ref 182) := ev_global rfl H.hdg
  refine evH X A _ s env _ R B.gl he F fun s₁ k₁ => ?_
  refine callWith_raw (first := []) (keepF_cls H.cls) .nil X A _ s₁ env _ R (B.gl.keeps (keeps_heap k₁)) he (F.keeps (keeps_heap k₁)) fun s₂ vs k₂ rs => ?_
  cases rs
  have k12 := keeps_trans k₁ k₂
  have G₂ := B.gl.keeps (keeps_heap k12)
  refine run_new (n := n) H.toIGlo R G₂ fun h' tk x dx l kh fr => ?_
  have k03 : Keeps s { s₂ with heap := h', toks := tk } := keeps_trans k12 ⟨h', tk, rfl, kh⟩
  have nl : s.heap.get? l = none := none_old (keeps_heap k12) fr.nl
  have nx : s.heap.get? x = none := none_old (keeps_heap k12) fr.nx
  have nd : s.heap.get? dx = none := none_old (keeps_heap k12) fr.nd
  obtain ⟨sl, hob⟩ := fr.ob
  obtain ⟨lk, hls⟩ := id fr.ls
  have hxl : x ≠ l := by rintro rfl; rw [hob] at hls; cases hls
  have hdl : dx ≠ l := by
    rintro rfl
    obtain ⟨o, es, ep, q1, q2, _⟩ := fr.ns
    rw [hls] at q1; cases q1; cases q2
  have nX : ∀ a, s.heap.get? a = none → ¬ X a := fun a e q => by obtain ⟨o, e'⟩ := B.vis a q; rw [e] at e'; cases e'
  let Y : Addr → Prop := fun b => X b ∨ b = l
  have hYl : Y l := .inr rfl
  have B₃ : Base c Y [] h₀ { s₂ with heap := h', toks := tk } env ow := (B.more (keeps_heap k03)).other fun b hb => by
    rcases hb with hb | rfl
    · exact (B.vis.keeps (keeps_heap k03)) b hb
    · exact ⟨_, hls⟩
  have F₃ : FrameOK Y { s₂ with heap := h', toks := tk } env _ := (F.other (Y := Y) fun a ha => ha.elim .inl fun e => .inr (e ▸ nl)).keeps (keeps_heap k03)
  have rx : Rep Y h' (.ref x) (.ins l) := .ins ⟨fun q => q.elim (nX x nx) hxl, fun q => q.elim (nX dx nd) hdl⟩ hob fr.ns
  refine (sto_local (c := c) (n := n + 3) (x := S "table") (d := .ins l) (sc := taS) rfl (by decide)) Y A _ { s₂ with heap := h', toks := tk } env ow h₀ (.ref x) _ R B₃ he F₃ rx fun s₄ m₄ B₄ F₄ => ?_
  have hlm : mainOnly l env ow := B₃.notDat (s := { s₂ with heap := h', toks := tk }) hls rfl
  have hl₄ : s₄.heap.PlainList l #[] := fr.ls.at fun o e => m₄.2 l o hlm e
  have mv4 : Moved env ow s s₄ := (Moved.of_keeps k03).trans m₄
  have h0l : h₀.get? l = none := none_old B.keep nl
  -- for word in words
  refine wpAny_execs_cons (wpAny_For ?_)
  have evw : Ev c (n + 3) taS (ta0 l ws sp) (match ((bodyOf (stmtAt 24))[1]?).getD (.Pass default) with | .For _ i _ _ _ => i | _ => .Constant .none 0 default) (.lst (ws.map toW)) := ev_local rfl rfl
  refine evw Y A _ s₄ env _ R B₄.gl he F₄ fun wv s₅ k₅ r₅ => ?_
  obtain ⟨_, _, rfl, hnw, hlw, rs⟩ := rep_inv r₅
  rename_i lw vs
  have B₅ := B₄.more (keeps_heap k₅)
  have F₅ := F₄.keeps (keeps_heap k₅)
  have hl₅ : s₅.heap.PlainList l #[] := hl₄.at fun o e => keeps_heap k₅ _ _ e
  have hlwl : lw ≠ l := fun e => hnw (.inr e)
  have hlwm : mainOnly lw env ow := by
    obtain ⟨o, e, _, k, hd⟩ := hlw
    exact B₅.notDat e (dat_seq hd)
  refine wpAny_pyIter_list hlw ?_
  generalize hI : s₅.heap.objs.size = I
  have hlwt : lw < I := by rw [← hI]; obtain ⟨o, e, _⟩ := hlw; exact Heap.lt_size e
  have nI5 : s₅.heap.get? I = none := by rw [← hI]; exact none_new _
  have kI : KeepsH s₅.heap (s₅.heap.push { cls := .type "list_iterator", data := .fields #[.ref lw, .int 0 0] }) := KeepsH.push _ _
  have mv5 : Moved env ow s s₅ := mv4.trans (Moved.of_keeps k₅)
  have iI : (s₅.heap.push { cls := .type "list_iterator", data := .fields #[.ref lw, .int 0 0] }).IsListIter I lw 0 := by rw [← hI]; exact ⟨_, Heap.get?_push_size _ rfl, rfl, rfl⟩
  have szI : I < (s₅.heap.push { cls := .type "list_iterator", data := .fields #[.ref lw, .int 0 0] }).objs.size := by rw [Heap.size_push, hI]; exact Nat.lt_succ_self _
  generalize hh6 : s₅.heap.push { cls := .type "list_iterator", data := .fields #[.ref lw, .int 0 0] } = h₆ at *
  have W : Itr c Y A (.Name (S "word") { line := 163, col := 8, endLine := 163, endCol := 12 }) h₆ I [I, lw] [I] (ws.map toW) (fun i h => h.IsListIter I lw i ∧ h.IsList lw vs.toArray) :=
    itr_list R.handled (.inl (by intro _ _; rfl)) (Nat.ne_of_lt hlwt) szI (hlw.at fun o e => kI lw o e) (rs.keeps kI)
  have wrMain : mainOnly I env ow := by
    refine ⟨?_, fun y q => ?_⟩
    · rintro rfl
      obtain ⟨m, ⟨o, _, _, q, _⟩, _⟩ := B₅.nohdr
      rw [nI5] at q; cases q
    · obtain ⟨_, _, v, o, e, _⟩ := B₅.cells y I q
      rw [nI5] at e; cases e
  have hIl : I ≠ l := by rintro rfl; obtain ⟨k, e⟩ := hl₅; rw [nI5] at e; cases e
  have wr0 : h₀.get? I = none := none_old B₅.keep nI5
  have keep0 : ∀ b o, mainOnly b env ow → s.heap.get? b = some o → h₆.get? b = some o := fun b o hb e => kI b o (mv5.2 b o hb e)
  have same0 : ∃ h' tk, ({ s₅ with heap := h₆ } : Shared) = { s with heap := h', toks := tk } := by
    obtain ⟨⟨hA, tA, rfl⟩, _⟩ := mv5; exact ⟨_, _, rfl⟩
  refine codeAny_forLoop_any (fun k s' => ∃ i items, (s'.heap.IsListIter I lw i ∧ s'.heap.IsList lw vs.toArray) ∧ i ≤ ws.length ∧ k = ws.length + 1 - i ∧ Base c Y [] h₀ s' env ow ∧ FrameOK Y s' env (ta0 l ws sp) ∧ s'.heap.PlainList l (List.toArray items) ∧
    Reps Y s'.heap items ((ws.take i).map fun w => hdD (hdW (rowOf sp w))) ∧ (∃ h' tk, s' = { s with heap := h', toks := tk }) ∧ (∀ b o, mainOnly b env ow → s.heap.get? b = some o → s'.heap.get? b = some o) ∧ Seqs Y h₆ s'.heap) ?_ (ws.length + 1)
    ⟨0, [], ⟨iI, hlw.at fun o e => kI lw o e⟩, Nat.zero_le _, rfl, B₅.more (s' := { s₅ with heap := h₆ }) kI, F₅.keeps (s' := { s₅ with heap := h₆ }) kI, hl₅.at fun o e => kI l o e, .nil, same0, keep0, Seqs.refl _ _⟩
  rintro k s' ⟨i, items, hst', hi, rfl, B', F', hl', hrep, hsame, hmain, sq⟩
  cases hd : (ws.map toW)[i]? with
  | none =>
    have hin : i = ws.length := by
      have : ws.length ≤ i := by simpa using hd
      omega
    subst hin
    have hst2 : s'.heap.IsListIter I lw (ws.map toW).length ∧ s'.heap.IsList lw vs.toArray := by rw [List.length_map]; exact hst'
    refine W.done s' _ _ hst2 fun h₁ tk₁ hk₁ => ?_
    refine wpAny_execs_nil ?_
    have hk₁' : ∀ b o, b ≠ I → s'.heap.get? b = some o → h₁.get? b = some o := fun b o hb e => hk₁ b o (by simpa using hb) e
    have lv : ∀ b, b = I → b ≠ env.locals ∧ ∃ o, s'.heap.get? b = some o ∧ Dat o = false ∧ ∀ v, o.data ≠ .cell v := fun b hb => by
      subst hb
      exact ⟨wrMain.1, W.live _ _ hst2 _ (by simp)⟩
    have hB : Base c Y [] h₀ { s' with heap := h₁, toks := tk₁ } env ow := B'.but (s' := { s' with heap := h₁, toks := tk₁ }) (fun b => b = I) (fun b o hm e => hk₁' b o hm e) (fun b hm hx => by
      rcases hx with hx | hx
      · obtain ⟨o, e⟩ := B.vis b hx
        rw [hm] at e
        have := mv5.2 I o wrMain e
        rw [nI5] at this; cases this
      · exact absurd (hm.symm.trans hx) hIl) fun b hm => by subst hm; exact ⟨wr0, wrMain.1, wrMain.2⟩
    have hF : FrameOK Y { s' with heap := h₁, toks := tk₁ } env (ta0 l ws sp) := F'.butW (s' := { s' with heap := h₁, toks := tk₁ }) (fun b => b = I) (fun b o hm e => hk₁' b o hm e) lv
    have hlE : h₁.PlainList l (List.toArray items) := hl'.at fun o e => hk₁' l o (Ne.symm hIl) e
    have hrE : Reps Y h₁ items (ws.map fun w => hdD (hdW (rowOf sp w))) := by
      rw [List.take_of_length_le (Nat.le_refl _)] at hrep
      exact hrep.seqs fun a o _ e hda => hk₁' a o (fun q => by
        obtain ⟨_, o', e', hn, _⟩ := lv a q
        rw [e] at e'; cases e'; rw [hda] at hn; cases hn) e
    have mainE : ∀ b o, mainOnly b env ow → s.heap.get? b = some o → h₁.get? b = some o := fun b o hb e => hk₁' b o (fun q => by subst q; have := mv5.2 _ o wrMain e; rw [nI5] at this; cases this) (hmain b o hb e)
    -- return table
    have evr : Ev c (n + 3) taS (ta0 l ws sp) (match ((bodyOf (stmtAt 24))[2]?).getD (.Pass default) with | .Return (some e) _ => e | _ => .Constant .none 0 default) (.ins l) := ev_local rfl rfl
    refine wpAny_execs_cons (wpAny_Return_some (evr Y A _ { s' with heap := h₁, toks := tk₁ } env _ R hB.gl he hF fun v s₉ k₉ r₉ => ?_))
    have B₉ := hB.more (keeps_heap k₉)
    have hl₉ : s₉.heap.PlainList l (List.toArray items) := hlE.at fun o e => keeps_heap k₉ _ _ e
    have rT : Rep X s₉.heap v (tblW (ws.map (rowOf sp))) := by
      cases r₉ with
      | ins q x y =>
        have e : ((ws.map (rowOf sp)).map hdW).map hdD = ws.map fun w => hdD (hdW (rowOf sp w)) := by rw [List.map_map, List.map_map]; rfl
        show Rep X s₉.heap _ (.tbl (((ws.map (rowOf sp)).map hdW).map hdD))
        rw [e]
        exact .tbl ⟨fun z => q.1 (.inl z), fun z => q.2 (.inl z), nX l nl⟩ x y hl₉.isList ((hrE.keeps (keeps_heap k₉)).avoid fun a ha => .inl (.inl ha))
    refine hQ (.ret v) s₉ ⟨?_, fun b o hb e => keeps_heap k₉ _ _ (mainE b o hb e)⟩ (B₉.other fun b hb => B₉.vis b (.inl hb)) ⟨v, rfl, rT⟩
    obtain ⟨hA, tA, rfl⟩ := hsame
    obtain ⟨hB', tB, rfl, _⟩ := k₉
    exact ⟨_, _, rfl⟩
  | some d =>
    have hlt : i < ws.length := by
      rcases Nat.lt_or_ge i ws.length with h | h
      · exact h
      · rw [List.getElem?_eq_none (by simpa using h)] at hd; cases hd
    obtain ⟨w, hw, rfl⟩ : ∃ w, ws[i]? = some w ∧ toW w = d := by
      rw [List.getElem?_map] at hd
      exact Option.map_eq_some_iff.mp hd
    have hwm : w ∈ ws := List.mem_of_getElem? hw
    obtain ⟨t, z, htz⟩ := ht w hwm
    refine wpAny_mono (W.item i s' (toW w) (fun v s₂ => ∃ h₁ tk₁, s₂ = { s' with heap := h₁, toks := tk₁ } ∧ Rep Y h₁ v (toW w) ∧ (h₁.IsListIter I lw (i + 1) ∧ h₁.IsList lw vs.toArray) ∧ (∀ b o, b ∉ [I] → s'.heap.get? b = some o → h₁.get? b = some o)) _ hd hst' sq B'.vis
      fun v h₁ tk₁ rv st₁ hk₁ => ⟨h₁, tk₁, rfl, rv, st₁, hk₁⟩) (fun r s₁' h₁' => ?_) fun _ _ e => e
    obtain ⟨v, rfl, hv⟩ := h₁'
    dsimp only
    refine wpAny_mono hv (fun _ s₂' hs₂ => ?_) fun _ _ e => e
    obtain ⟨h₁, tk₁, rfl, rv, st₁, hk₁⟩ := hs₂
    have hk₁' : ∀ b o, b ≠ I → s'.heap.get? b = some o → h₁.get? b = some o := fun b o hb e => hk₁ b o (by simpa using hb) e
    have lv : ∀ b, b = I → b ≠ env.locals ∧ ∃ o, s'.heap.get? b = some o ∧ Dat o = false ∧ ∀ v, o.data ≠ .cell v := fun b hb => by
      subst hb
      exact ⟨wrMain.1, W.live _ _ hst' _ (by simp)⟩
    have hB : Base c Y [] h₀ { s' with heap := h₁, toks := tk₁ } env ow := B'.but (s' := { s' with heap := h₁, toks := tk₁ }) (fun b => b = I) (fun b o hm e => hk₁' b o hm e) (fun b hm hx => by
      rw [hm]
      obtain ⟨o, e, _⟩ := st₁.1
      exact ⟨o, e⟩) fun b hm => by subst hm; exact ⟨wr0, wrMain.1, wrMain.2⟩
    have hF : FrameOK Y { s' with heap := h₁, toks := tk₁ } env (ta0 l ws sp) := F'.butW (s' := { s' with heap := h₁, toks := tk₁ }) (fun b => b = I) (fun b o hm e => hk₁' b o hm e) lv
    have stepS : Seqs Y s'.heap h₁ := fun a o _ e hda => hk₁' a o (fun q => by
      obtain ⟨_, o', e', hn, _⟩ := lv a q
      rw [e] at e'; cases e'; rw [hda] at hn; cases hn) e
    have hl₁ : h₁.PlainList l (List.toArray items) := hl'.at fun o e => hk₁' l o (Ne.symm hIl) e
    refine (asg_name (sto_local (c := c) (n := n + 3) (os := []) (x := S "word") (d := toW w) (sc := taS) (ρ := ta0 l ws sp) rfl (by decide))) Y A _ { s' with heap := h₁, toks := tk₁ } env ow h₀ v _ R hB he hF rv fun s₃ m₃ B₃' F₃' => ?_
    have hl₃ : s₃.heap.PlainList l (List.toArray items) := hl₁.at fun o e => m₃.2 l o hlm e
    have hlen : items.length = (ws.take i).length := by rw [hrep.length, List.length_map]
    refine tab_turn H R B₃' he F₃' hYl hl₃ hlm (by simp; rw [hlen]; simp; omega) (hg w hwm) (hp w hwm) htz h0l fun s₄' tv hsh hkp hpl' rtv B₄' F₄' => ?_
    have sq₃ : Seqs Y h₁ s₃.heap := m₃.seqs hB
    have sq₄ : Seqs Y s₃.heap s₄'.heap := fun a o ha e hda => hkp a o (B₃'.notDat e hda) (fun q => ha (.inr q)) e
    have hnm : nameP (wayP w sp) = nameT t z := by unfold nameP; rw [htz]
    refine ⟨ws.length + 1 - (i + 1), by omega, i + 1, items ++ [tv], ?_, hlt, rfl, B₄', F₄', by simpa using hpl', ?_, ?_, ?_, ((sq.trans stepS).trans sq₃).trans sq₄⟩
    · refine ⟨st₁.1.at fun o e => hkp I o wrMain hIl (m₃.2 I o wrMain e), st₁.2.at fun o e => hkp lw o hlwm hlwl (m₃.2 lw o hlwm e)⟩
    · rw [take_map_succ _ ws i w hw]
      refine ((hrep.seqs ((stepS.trans sq₃).trans sq₄))).snoc ?_
      show Rep Y s₄'.heap tv (hdD (nameP (wayP w sp), txtW w))
      rw [hnm]
      exact rtv
    · obtain ⟨hA, tA, rfl⟩ := hsame
      obtain ⟨⟨hC, tC, rfl⟩, _⟩ := m₃
      obtain ⟨hD, tD, rfl⟩ := hsh
      exact ⟨_, _, rfl⟩
    · intro b o hb e
      have hbI : b ≠ I := fun q => by subst q; have := mv5.2 _ o wrMain e; rw [nI5] at this; cases this
      have hbl : b ≠ l := fun q => by subst q; rw [nl] at e; cases e
      exact hkp b o hb hbl (m₃.2 b o hb (hk₁' b o hbI (hmain b o hb e)))
theorem fn_table {c : Cx} (H : TGlo c) (Ht : FnObj c (stmtAt 24) 272) {n : Nat} {ws : List Wd} {sp : P2} (h5 : ws.length ≤ 5) (hg : ∀ w ∈ ws, GoodW w) (hp : ∀ w ∈ ws, (wayP w sp).1.natAbs < 900 ∧ (wayP w sp).2.natAbs < 900) (ht : ∀ w ∈ ws, ∃ t z, turnOf (wayP w sp) = some (t, z)) :
    Fn c (n + 4) (.ref 272) [.lst (ws.map toW), toP sp] (tblW (ws.map (rowOf sp))) :=
  fn_of (out := .ret _) (os := []) (at_tab Ht) rfl (tab_ex H h5 hg hp ht)
end Mine
end
section
open PySem PySem.W PyProof.Rows PySem.Calls
set_option maxRecDepth 100000
namespace Mine
noncomputable def u8 (i : Int) : UInt8 := UInt8.ofNat i.toNat
noncomputable def wOf (k m : Int) : Wd := (u8 (66 + k), u8 (65 + m / 16), u8 (65 + m / 4 % 4), u8 (65 + m % 4))
noncomputable def valI (k m : Int) : Int := 4096 * (k + 1) + 256 * (m / 16) + 16 * (m / 4 % 4) + m % 4
theorem ap_words : (ks5.all fun k => (List.range 64).all fun m => apV (valI k m).toNat 4 == #[(wOf k m).1, (wOf k m).2.1, (wOf k m).2.2.1, (wOf k m).2.2.2] && byteArr (plainP k m) == #[(wOf k m).1, (wOf k m).2.1, (wOf k m).2.2.1, (wOf k m).2.2.2]) = true := by decide +kernel
theorem ap_word {k m : Int} (hk : k ∈ ks5) (hm : 0 ≤ m ∧ m < 64) : D.bytes (apV (valI k m).toNat 4) = toW (wOf k m) ∧ D.bytes (byteArr (plainP k m)) = toW (wOf k m) := by
  have h := List.all_eq_true.mp (List.all_eq_true.mp ap_words k hk) m.toNat (List.mem_range.mpr (by omega))
  rw [Int.toNat_of_nonneg hm.1] at h
  simp only [Bool.and_eq_true, beq_iff_eq] at h
  exact ⟨congrArg D.bytes h.1, congrArg D.bytes h.2⟩
noncomputable def numL (xs : List Int) : List Int := (List.range 5).map fun (k : Nat) => numP xs k
noncomputable def numK (xs : List Int) (k : Int) : Int := (numL xs).getD k.toNat 0
theorem numP_in (xs : List Int) (k : Int) : 0 ≤ numP xs k ∧ numP xs k < 64 := by
  unfold numP
  exact ⟨Int.fmod_nonneg_of_pos _ (by decide), Int.fmod_lt_of_pos _ (by decide)⟩
theorem numK_in (xs : List Int) {k : Int} (hk : 0 ≤ k ∧ k < 5) : 0 ≤ numK xs k ∧ numK xs k < 64 := by
  unfold numK numL
  have h : k.toNat < 5 := by omega
  rw [List.getD, List.getElem?_map, List.getElem?_range h]
  exact numP_in xs _
noncomputable def wsL (xs : List Int) : List Wd := ks5.map fun k => wOf k (numK xs k)
theorem wsL_len (xs : List Int) : (wsL xs).length = 5 := rfl
theorem ks5_in {k : Int} (h : k ∈ ks5) : 0 ≤ k ∧ k < 5 := by unfold ks5 at h; simp at h; omega
theorem ap_good : (ks5.all fun k => (List.range 64).all fun m => (wdL (wOf k m)).all fun x => 65 ≤ x.toNat && x.toNat ≤ 75) = true := by decide +kernel
theorem wOf_good {k m : Int} (hk : k ∈ ks5) (hm : 0 ≤ m ∧ m < 64) : GoodW (wOf k m) := by
  have h := List.all_eq_true.mp (List.all_eq_true.mp ap_good k hk) m.toNat (List.mem_range.mpr (by omega))
  rw [Int.toNat_of_nonneg hm.1] at h
  intro x hx
  have := List.all_eq_true.mp h x hx
  simpa using this
theorem wsL_good (xs : List Int) : ∀ w ∈ wsL xs, GoodW w := by
  intro w hw
  obtain ⟨k, hk, rfl⟩ := List.mem_map.mp hw
  exact wOf_good hk (numK_in xs (ks5_in hk))
/-- all that the law finds at the top -/
structure LGlo (c : Cx) : Prop extends TGlo c, PGlo c where
  rng : c.mg (S "range") = none
  sumg : c.mg (S "sum") = none
  byt : c.mg (S "bytes") = none
  srt : c.mg (S "sorted") = none
  len : c.mg (S "len") = none
  enu : c.mg (S "enumerate") = none
  numg : c.mg (S "_law_numbers") = some (.ref 217)
  plg : c.mg (S "_law_plain") = some (.ref 224)
  crg : c.mg (S "_law_cross") = some (.ref 238)
  ahg : c.mg (S "_law_ahead") = some (.ref 245)
  deg : c.mg (S "_law_depth") = some (.ref 250)
  oug : c.mg (S "_law_outward") = some (.ref 255)
  spg : c.mg (S "_law_spot") = some (.ref 260)
  ong : c.mg (S "_law_once") = some (.ref 265)
  tag : c.mg (S "_law_table") = some (.ref 272)
  rog : c.mg (S "_law_row") = some (.ref 279)
  dug : c.mg (S "_law_due") = some (.ref 284)
  feg : c.mg (S "_law_fewest") = some (.ref 289)
  pfg : c.mg (S "ParseFlags") = some (.ref 212)
  num : FnObj c (stmtAt 15) 217
  pla : FnObj c (stmtAt 16) 224
  cro : FnObj c (stmtAt 18) 238
  ahe : FnObj c (stmtAt 19) 245
  dep : FnObj c (stmtAt 20) 250
  out : FnObj c (stmtAt 21) 255
  spo : FnObj c (stmtAt 22) 260
  onc : FnObj c (stmtAt 23) 265
  tab : FnObj c (stmtAt 24) 272
  row : FnObj c (stmtAt 25) 279
  due : FnObj c (stmtAt 26) 284
  few : FnObj c (stmtAt 27) 289
  par : FnObj c (stmtAt 13) 212
  law : FnObj c (stmtAt 28) 294
  ite : MObj c (mthAt 11) 146 (S "Headers.items") .none
  key : MObj c (mthAt 9) 134 (S "Headers.keys") .none
  gal : MObj c (mthAt 7) 121 (S "Headers.get_all") .none
noncomputable abbrev laS : Scope := scopeOf (stmtAt 28)
theorem at_law {c : Cx} (H : FnObj c (stmtAt 28) 294) : ∃ fd, FnAt c 294 fd (bodyOf (stmtAt 28)) [S "script"] ∧ fd.scope = laS :=
  fn_at H _ (fun pm => bind1 (α := Unit) fun a => by rfl) (by decide) (by decide) (by decide) (by decide) rfl rfl rfl rfl
noncomputable abbrev lawOs : List Str := [S "numbers", S "plain", S "spot", S "ways", S "table"]
noncomputable def lawB (i : Nat) : Stmt := ((bodyOf (stmtAt 28))[i]?).getD (.Pass default)
section
variable {c : Cx} {n : Nat} {xs : List Int} {z : P2}
noncomputable abbrev la0 (xs : List Int) : Loc := [S "script"].zip [.lst (xs.map .int)]
noncomputable abbrev la1 (xs : List Int) : Loc := (S "numbers", .lst ((numL xs).map .int)) :: la0 xs
noncomputable abbrev la2 (xs : List Int) : Loc := (S "places", .rng 0 5) :: la1 xs
noncomputable abbrev la3 (xs : List Int) : Loc := (S "words", .lst ((wsL xs).map toW)) :: la2 xs
noncomputable abbrev la4 (xs : List Int) : Loc := (S "plain", .lst ((wsL xs).map toW)) :: la3 xs
noncomputable abbrev la5 (xs : List Int) (z : P2) : Loc := (S "spot", toP z) :: la4 xs
theorem law0 (G : LGlo c) (hx : xs.length < 64) : Ex1 c (n + 4) lawOs laS (la0 xs) (lawB 0) (.next (la1 xs)) :=
  ex1_assign' (ev_call (ev_global rfl G.numg) (keepF_of (names := [S "script"]) (fn_at G.num _ (fun pm => bind1 (α := Unit) fun a => by rfl) (by decide) (by decide) (by decide) (by decide) rfl rfl rfl rfl)) (.cons' (ev_local rfl rfl) .nil) (fn_numbers G.num G.sumg G.rng hx)) (sto_cell rfl (by decide)) (noSwap_cell rfl)
theorem law1 (G : LGlo c) : Ex1 c (n + 4) lawOs laS (la1 xs) (lawB 1) (.next (la2 xs)) :=
  ex1_assign' (ev_call (ev_builtin rfl G.rng (by rfl)) (keepF_type _) (.cons' ev_int .nil) fn_range1) (sto_local rfl (by decide)) (fun env he => by rfl)
theorem num_at {sc : Scope} {m : Nat} {ρ : Loc} {e i : PySem.Expr} {pos : Pos} {k : Int} (hk : 0 ≤ k ∧ k < 5) (he : Ev c m sc ρ e (.lst ((numL xs).map .int))) (hi : Ev c m sc ρ i (.int k)) (hix : PlainIx i := by intro _ _; with_unfolding_all rfl) : Ev c m sc ρ (.Subscript e i pos) (.int (numK xs k)) :=
  ev_item_list he hi hk.1 (lst_at .int (numL xs) 0 hk.1 (by show k < 5; exact hk.2)) (by omega) hix
theorem wsL_map : (wsL xs).map toW = ks5.map fun k => toW (wOf k (numK xs k)) := by unfold wsL; rw [List.map_map]; rfl
theorem law2 (G : LGlo c) : Ex1 c (n + 4) lawOs laS (la2 xs) (lawB 2) (.next (la3 xs)) := by
  unfold la3
  rw [wsL_map]
  refine ex1_assignCompM (ρf := [(S "numbers", .lst ((numL xs).map .int))]) D.int D.toInt (fun _ => rfl) ks5 [] lawOs (fun k => toW (wOf k (numK xs k))) (fun k => [(S "k", .int k)]) ?S ?src ?asg ?elt (by decide) (sto_local rfl (by decide)) (swap_local rfl rfl rfl (by decide))
  case S => exact compSc_of ⟨rfl, trivial⟩ [S "numbers"] rfl
  case src => rw [← rng5]; exact src_range (ev_local rfl rfl) (by intro _ _; rfl) (by decide) (by decide)
  case asg => intro k _; exact asg_name (sto_local rfl (by decide))
  case elt =>
    intro k hk
    have hk5 := ks5_in hk
    have hm := numK_in xs hk5
    rw [← (ap_word hk hm).1]
    have hv : ((valI k (numK xs k)).toNat : Int) = valI k (numK xs k) := Int.toNat_of_nonneg (by unfold valI; omega)
    have hb : 4096 ≤ valI k (numK xs k) ∧ valI k (numK xs k) < 65536 := by unfold valI; omega
    have hap := fn_ap (n := n + 3) G.ap G.intg G.absg G.dmg (num := (valI k (numK xs k)).toNat) (k := 4) (by decide) (Nat.div_eq_of_lt (by omega)) (fun i hi => by
      have : i = 0 ∨ i = 1 ∨ i = 2 ∨ i = 3 := by omega
      rcases this with rfl | rfl | rfl | rfl
      · simp; omega
      · have : 1 ≤ (valI k (numK xs k)).toNat / 16 ^ 1 := (Nat.le_div_iff_mul_le (by decide)).mpr (by omega)
        omega
      · have : 1 ≤ (valI k (numK xs k)).toNat / 16 ^ 2 := (Nat.le_div_iff_mul_le (by decide)).mpr (by omega)
        omega
      · have : 1 ≤ (valI k (numK xs k)).toNat / 16 ^ 3 := (Nat.le_div_iff_mul_le (by decide)).mpr (by omega)
        omega)
    refine ev_call (ev_global rfl G.apg) (keepF_of (at_ap G.ap)) (.cons' (d := .int ((valI k (numK xs k)).toNat : Int)) ?num .nil) hap
    rw [hv]
    have e : valI k (numK xs k) = 4096 * (k + 1) + 256 * (numK xs k).fdiv 16 + 16 * ((numK xs k).fdiv 4).fmod 4 + (numK xs k).fmod 4 := by
      unfold valI
      rw [Int.fdiv_eq_ediv_of_nonneg _ (by decide), Int.fdiv_eq_ediv_of_nonneg _ (by decide), Int.fmod_eq_emod_of_nonneg _ (by decide), Int.fmod_eq_emod_of_nonneg _ (by decide)]
    rw [e]
    have hn : ∀ {sc ρ e i pos}, Ev c (n + 4) sc ρ e (.lst ((numL xs).map .int)) → Ev c (n + 4) sc ρ i (.int k) → PlainIx i → Ev c (n + 4) sc ρ (.Subscript e i pos) (.int (numK xs k)) := fun h1 h2 h3 => num_at hk5 h1 h2 h3
    refine ev_bin (ev_bin (ev_bin (ev_bin ev_int (ev_bin (ev_local rfl rfl) ev_int bin_add) (bin_mul (mulOk (by omega) (by omega)))) (ev_bin ev_int (ev_bin (hn (ev_cell rfl rfl) (ev_local rfl rfl) (by intro _ _; with_unfolding_all rfl)) ev_int (bin_floordiv (by decide) (noPy hm.1 (by omega)))) (bin_mul ?m1)) bin_add) (ev_bin ev_int (ev_bin (ev_bin (hn (ev_cell rfl rfl) (ev_local rfl rfl) (by intro _ _; with_unfolding_all rfl)) ev_int (bin_floordiv (by decide) (noPy hm.1 (by omega)))) ev_int (bin_mod (by decide))) (bin_mul ?m2)) bin_add) (ev_bin (hn (ev_cell rfl rfl) (ev_local rfl rfl) (by intro _ _; with_unfolding_all rfl)) ev_int (bin_mod (by decide))) bin_add
    case m1 => rw [Int.fdiv_eq_ediv_of_nonneg _ (by decide)]; exact mulOk (by omega) (by omega)
    case m2 => rw [Int.fdiv_eq_ediv_of_nonneg _ (by decide), Int.fmod_eq_emod_of_nonneg _ (by decide)]; exact mulOk (by omega) (by omega)
theorem law3 (G : LGlo c) : Ex1 c (n + 4) lawOs laS (la3 xs) (lawB 3) (.next (la4 xs)) := by
  refine ex1_assign' ?cmp (sto_cell rfl (by decide)) (noSwap_cell rfl)
  rw [show (D.lst ((wsL xs).map toW)) = .lst (ks5.map fun k => toW (wOf k (numK xs k))) from by rw [wsL_map]]
  refine ev_compM (ρf := [(S "numbers", .lst ((numL xs).map .int))]) D.int D.toInt (fun _ => rfl) ks5 [] (fun k => toW (wOf k (numK xs k))) (fun k => [(S "place", .int k)]) ?S ?src ?asg ?elt (by decide)
  case S => exact compSc_of ⟨rfl, trivial⟩ [S "numbers"] rfl
  case src => rw [← rng5]; exact src_range (ev_local rfl rfl) (by intro _ _; rfl) (by decide) (by decide)
  case asg => intro k _; exact asg_name (sto_local rfl (by decide))
  case elt =>
    intro k hk
    have hk5 := ks5_in hk
    have hm := numK_in xs hk5
    rw [← (ap_word hk hm).2]
    exact ev_call (ev_global rfl G.plg) (keepF_of (names := [S "place", S "number"]) (fn_at G.pla _ (fun pm => bind2 fun a b => by rfl) (by decide) (by decide) (by decide) (by decide) rfl rfl rfl rfl)) (.cons' (ev_local rfl rfl) (.cons' (num_at hk5 (ev_cell rfl rfl) (ev_local rfl rfl)) .nil)) (fn_plain G.pla G.byt hk5 hm)
theorem law4 (G : LGlo c) (hb : InBox (wsL xs)) (hz : spotP (wsL xs) = some z) : Ex1 c (n + 4) lawOs laS (la4 xs) (lawB 4) (.next (la5 xs z)) := by
  have h := fn_spot (n := n) G.spo G.out G.dep G.ahe G.cro G.way G.srt G.rng G.absg G.len G.maxg G.oug G.crg G.ahg G.deg G.wayg (wsL_len xs) hb
  rw [hz] at h
  exact ex1_assign' (ev_call (ev_global rfl G.spg) (keepF_of (names := [S "words"]) (fn_at G.spo _ (fun pm => bind1 (α := Unit) fun a => by rfl) (by decide) (by decide) (by decide) (by decide) rfl rfl rfl rfl)) (.cons' (ev_local rfl rfl) .nil) h) (sto_cell rfl (by decide)) (noSwap_cell rfl)
theorem like_ws (ws : List Wd) : ∀ x ∈ ws.map toW, ∀ y ∈ ws.map toW, likeD 0 x y = true := by
  intro x hx y hy
  obtain ⟨a, _, rfl⟩ := List.mem_map.mp hx
  obtain ⟨b, _, rfl⟩ := List.mem_map.mp hy
  rfl
theorem law5 (G : LGlo c) : Ex1 c (n + 4) lawOs laS (la5 xs z) (lawB 5) (.next (la5 xs z)) := by
  have hl : likeD 1 (.lst ((wsL xs).map toW)) (.lst ((wsL xs).map toW)) = true := by
    simp only [likeD, List.all_eq_true]; exact like_ws _
  refine ex1_if (b := false) (tst_as (tst_or (b₁ := false) (b₂ := false) ?t1 (fun _ => ?t2)) rfl) (fun h => nomatch h) (fun _ => ex_nil)
  case t1 =>
    refine tst_as (tst_cmp (ev_local rfl rfl) (ev_cell rfl rfl) (cmp_ne_lst hl)) ?_
    rw [eqDs_refl 0 _ fun d hd => like_ws _ d hd d hd]; rfl
  case t2 => exact tst_cmp (ev_cell rfl rfl) ev_none (cmp_is_none (by intro h; cases h))
end
end Mine
end
section
open PySem PySem.W PyProof.Rows PySem.Calls
set_option maxRecDepth 100000
namespace Mine
noncomputable def vsL (xs : List Int) (z : P2) : List P2 := (wsL xs).map fun w => wayP w z
noncomputable def rwL (xs : List Int) (z : P2) : List Rw := (wsL xs).map (rowOf z)
noncomputable def keyL (xs : List Int) (z : P2) : List Str := (rwL xs z).map (·.1)
noncomputable def lowL (xs : List Int) (z : P2) : List Str := ((keyL xs z).filter fun k => !(k == dash)).map Txt.lower
theorem nameP_seen (p : P2) (h : ∃ t b, turnOf p = some (t, b)) : seenB (nameP p) = true ∧ (nameP p).length ≤ 10 := by
  obtain ⟨t, b, h⟩ := h
  unfold nameP
  rw [h]
  exact nameT_seen t b
/-- the plain law, as the walk wants it -/
structure LawOk (xs : List Int) (z : P2) (us names : List Str) (dr : List (List Wd)) (out : List (List Wd)) : Prop where
  box : InBox (wsL xs)
  spot : spotP (wsL xs) = some z
  small : ∀ p ∈ vsL xs z, -900 < p.1 ∧ p.1 < 900 ∧ -900 < p.2 ∧ p.2 < 900
  turn : ∀ p ∈ vsL xs z, ∃ t b, turnOf p = some (t, b)
  once : onceL ((lowL xs z).map .str) = us.map .str
  uslen : us.length < 64
  perm : names.Perm us
  sorted : names.Pairwise leS
  nlen : names.length ≤ 5
  nm : ∀ x ∈ names, x.length ≤ 10 ∧ (Txt.lower x).length ≤ 30 ∧ Seen1 (Txt.lower x)
  rne : ∀ x ∈ names, getW (rwL xs z) x ≠ []
  srt1 : Sorts (names.map fun x => tupW (getW (rwL xs z) x)) (out.map tupW)
  once2 : onceL ((dueRows (wsL xs) (vsL xs z)).map tupW) = dr.map tupW
  dne : ∀ r ∈ dr, r ≠ []
  dlen : dr.length ≤ 5
  srt2 : Sorts (dr.map tupW) (out.map tupW)
  dash : getW (rwL xs z) dash = (ks5.filter fun k => !notO (wAt (vsL xs z) k)).map (pAt (wsL xs))
  few : fewestI (keyL xs z) names = depthP (vsL xs z)
section
variable {c : Cx} {n : Nat} {xs : List Int} {z : P2} {us names : List Str} {dr out : List (List Wd)}
noncomputable abbrev la6 (xs : List Int) (z : P2) : Loc := (S "ways", .lst ((vsL xs z).map toP)) :: la5 xs z
noncomputable abbrev la7 (xs : List Int) (z : P2) : Loc := (S "table", tblW (rwL xs z)) :: la6 xs z
noncomputable abbrev la8 (xs : List Int) (z : P2) (names : List Str) : Loc := (S "names", .lst (names.map .str)) :: la7 xs z
theorem sort_rows {L : List (List Wd)} (hne : ∀ r ∈ L, r ≠ []) (h64 : L.length < 64) (hs : Sorts (L.map tupW) (out.map tupW)) : Fn c n (.builtin "sorted") [.lst (L.map tupW)] (.lst (out.map tupW)) := by
  have e : L.map tupW = (L.map fun r => r.map toW).map D.tup := by rw [List.map_map]; rfl
  rw [e] at hs ⊢
  refine fn_sorted_tups "bytes" (by decide) (by decide) ?_ ?_ ?_ (by rw [List.length_map]; exact h64) hs
  · intro t ht d hd
    obtain ⟨r, _, rfl⟩ := List.mem_map.mp ht
    obtain ⟨w, _, rfl⟩ := List.mem_map.mp hd
    rfl
  · intro t ht
    obtain ⟨r, hr, rfl⟩ := List.mem_map.mp ht
    have := hne r hr
    simpa using this
  · intro t ht u hu x hx y hy
    obtain ⟨r, _, rfl⟩ := List.mem_map.mp ht
    obtain ⟨q, _, rfl⟩ := List.mem_map.mp hu
    obtain ⟨a, _, rfl⟩ := List.mem_map.mp hx
    obtain ⟨b, _, rfl⟩ := List.mem_map.mp hy
    rfl
theorem law6 (G : LGlo c) : Ex1 c (n + 4) lawOs laS (la5 xs z) (lawB 6) (.next (la6 xs z)) := by
  refine ex1_assign' ?cmp (sto_cell rfl (by decide)) (noSwap_cell rfl)
  unfold vsL
  rw [List.map_map]
  refine ev_compM (ρf := [(S "spot", toP z)]) toW D.toWd (fun _ => rfl) (wsL xs) [] (fun w => toP (wayP w z)) (fun w => [(S "word", toW w)]) ?S (src_list (ev_cell rfl rfl) (.inl (by intro _ _; rfl))) ?asg ?elt (by rw [wsL_len]; decide)
  case S => exact compSc_of ⟨rfl, trivial⟩ [S "spot"] rfl
  case asg => intro w _; exact asg_name (sto_local rfl (by decide))
  case elt => intro w _; exact ev_call (ev_global rfl G.wayg) (keepF_of (at_way G.way)) (.cons' (ev_local rfl rfl) (.cons' (ev_cell rfl rfl) .nil)) (fn_wayP G.way)
theorem law7 (G : LGlo c) (L : LawOk xs z us names dr out) : Ex1 c (n + 4) lawOs laS (la6 xs z) (lawB 7) (.next (la7 xs z)) := by
  refine ex1_assign' (ev_call (ev_global rfl G.tag) (keepF_of (at_tab G.tab)) (.cons' (ev_local rfl rfl) (.cons' (ev_cell rfl rfl) .nil)) (fn_table G.toTGlo G.tab (by rw [wsL_len]; decide) (wsL_good xs) (fun w hw => ?_) (fun w hw => L.turn _ (List.mem_map.mpr ⟨w, hw, rfl⟩)))) (sto_cell rfl (by decide)) (noSwap_cell rfl)
  have := L.small _ (List.mem_map.mpr ⟨w, hw, rfl⟩)
  omega
theorem rwL_len : (rwL xs z).length = 5 := rfl
theorem key_ok (L : LawOk xs z us names dr out) : ∀ p ∈ rwL xs z, seenB p.1 = true ∧ p.1.length ≤ 10 := by
  intro p hp
  obtain ⟨w, hw, rfl⟩ := List.mem_map.mp hp
  exact nameP_seen _ (L.turn _ (List.mem_map.mpr ⟨w, hw, rfl⟩))
theorem law8 (G : LGlo c) (L : LawOk xs z us names dr out) : Ex1 c (n + 4) lawOs laS (la7 xs z) (lawB 8) (.next (la8 xs z names)) := by
  have hsort := fn_sorted_strs (c := c) (n := n + 3) L.uslen L.perm L.sorted
  rw [← L.once] at hsort
  have hll : (lowL xs z).length ≤ 5 := by
    unfold lowL
    rw [List.length_map]
    exact Nat.le_trans (List.length_filter_le _ _) (by unfold keyL; rw [List.length_map, rwL_len]; decide)
  have honce := fn_once G.onc G.srt G.enu (k := 0) (by decide) (ds := (lowL xs z).map .str) (by
    intro x hx y hy
    obtain ⟨a, _, rfl⟩ := List.mem_map.mp hx
    obtain ⟨b, _, rfl⟩ := List.mem_map.mp hy
    rfl) (by rw [List.length_map]; omega) hsort
  refine ex1_assign' (ev_call (ev_global rfl G.ong) (keepF_of (at_once G.onc)) (.cons' (d := .lst ((lowL xs z).map .str)) ?cmp .nil) honce) (sto_local rfl (by decide)) (fun env he => by rfl)
  unfold lowL
  rw [List.map_map]
  have hk5 : (keyL xs z).length = 5 := by unfold keyL; rw [List.length_map, rwL_len]
  have hkk : ∀ k ∈ keyL xs z, k.length ≤ 10 := fun k hk => by obtain ⟨p, hp, rfl⟩ := List.mem_map.mp hk; exact (key_ok L p hp).2
  refine ev_compT (ρf := []) D.str D.toStr (fun _ => rfl) (keyL xs z) [] (fun k => !(k == dash)) (fun k => .str (Txt.lower k)) (fun k => [(S "key", .str k)]) ?S (src_list ?keys (.inl (by intro _ _; rfl))) ?asg ?tst ?elt (by omega)
  case S => exact compSc_of trivial [] rfl
  case keys =>
    have hky := fn_keys (n := n + 3) G.toHGlo G.key (rows := (rwL xs z).map hdW) (by rw [List.length_map, rwL_len]; decide)
    rw [List.map_map] at hky
    unfold keyL
    rw [List.map_map]
    exact ev_meth (d₀ := tblW (rwL xs z)) (ev_cell rfl rfl) (mth_tbl G.cls G.key _) G.key.keepF .nil hky
  case asg => intro k _; exact asg_name (sto_local rfl (by decide))
  case tst => intro k _; exact .one (tst_cmp (ev_local rfl rfl) ev_str cmp_ne_str)
  case elt => intro k hk _; exact ev_meth (d₀ := .str k) (ev_local rfl rfl) mth_lower (keepF_builtin _) .nil (fn_lower (by have := hkk k hk; omega))
theorem row_ok (G : LGlo c) (L : LawOk xs z us names dr out) {x : Str} (h1 : x.length ≤ 10) (h2 : (Txt.lower x).length ≤ 30) (h3 : Seen1 (Txt.lower x)) : Fn c (n + 4) (.ref 279) [tblW (rwL xs z), .str x] (tupW (getW (rwL xs z) x)) :=
  fn_row (n := n + 1) G.toHGlo G.toPGlo G.row G.par G.gal G.pfg (by rw [rwL_len]; decide) (fun p hp => by have := (key_ok L p hp).2; omega) (fun p hp => by obtain ⟨w, hw, rfl⟩ := List.mem_map.mp hp; exact wsL_good xs w hw) (by omega) (by omega) h3
theorem law9 (G : LGlo c) (L : LawOk xs z us names dr out) : Ex1 c (n + 4) lawOs laS (la8 xs z names) (lawB 9) (.next (la8 xs z names)) := by
  have hs1 : Fn c (n + 4) (.builtin "sorted") [.lst (names.map fun x => tupW (getW (rwL xs z) x))] (.lst (out.map tupW)) := by
    have e : (names.map fun x => tupW (getW (rwL xs z) x)) = (names.map fun x => getW (rwL xs z) x).map tupW := by rw [List.map_map]; rfl
    have hS := L.srt1
    rw [e] at hS ⊢
    exact sort_rows (fun r hr => by obtain ⟨x, hx, rfl⟩ := List.mem_map.mp hr; exact L.rne x hx) (by rw [List.length_map]; have := L.nlen; omega) hS
  have hs2 : Fn c (n + 2) (.builtin "sorted") [.lst (onceL ((dueRows (wsL xs) (vsL xs z)).map tupW))] (.lst (out.map tupW)) := by
    rw [L.once2]
    exact sort_rows L.dne (by have := L.dlen; omega) L.srt2
  have hdue := fn_due G.due G.onc G.cro G.srt G.enu G.rng G.tup G.crg G.ong (wsL_len xs) (by unfold vsL; rw [List.length_map]; rfl) (fun v hv => by have := L.small v hv; exact ⟨by omega, by omega, by omega, by omega⟩) hs2
  have hl : likeD 2 (.lst (out.map tupW)) (.lst (out.map tupW)) = true := by
    simp only [likeD, List.all_eq_true]; exact like_rows out
  refine ex1_if (b := false) (tst_as (tst_cmp (ev_call (ev_builtin rfl G.srt (by rfl)) (keepF_builtin _) (.cons' ?cmp .nil) hs1) (ev_call (ev_global rfl G.dug) (keepF_of (at_due G.due)) (.cons' (ev_cell rfl rfl) (.cons' (ev_cell rfl rfl) .nil)) hdue) (cmp_ne_lst hl)) ?_) (fun h => nomatch h) (fun _ => ex_nil)
  · refine ev_compM (ρf := [(S "table", tblW (rwL xs z))]) D.str D.toStr (fun _ => rfl) names [] (fun x => tupW (getW (rwL xs z) x)) (fun x => [(S "name", .str x)]) ?S (src_list (ev_local rfl rfl) (.inl (by intro _ _; rfl))) ?asg ?elt (by have := L.nlen; omega)
    case S => exact compSc_of ⟨rfl, trivial⟩ [S "table"] rfl
    case asg => intro x _; exact asg_name (sto_local rfl (by decide))
    case elt =>
      intro x hx
      obtain ⟨h1, h2, h3⟩ := L.nm x hx
      exact ev_call (ev_global rfl G.rog) (keepF_of (at_row G.row)) (.cons' (ev_cell rfl rfl) (.cons' (ev_local rfl rfl) .nil)) (row_ok G L h1 h2 h3)
  · rw [eqDs_refl 1 _ fun d hd => like_rows out d hd d hd]; rfl
theorem low_dash : Txt.lower dash = dash := by rw [lower_seen seen_dash]; decide +kernel
theorem law10 (G : LGlo c) (L : LawOk xs z us names dr out) : Ex1 c (n + 4) lawOs laS (la8 xs z names) (lawB 10) (.next (la8 xs z names)) := by
  have hv5 : (vsL xs z).length = 5 := by unfold vsL; rw [List.length_map]; rfl
  have hrow := row_ok (n := n) G L (x := dash) (by decide) (by rw [low_dash]; decide) (by rw [low_dash]; exact seen_of seen_dash)
  have hl : likeD 1 (tupW (getW (rwL xs z) dash)) (tupW (getW (rwL xs z) dash)) = true := by
    simp only [tupW, likeD, List.all_eq_true]; exact like_ws _
  have hlen : (ks5.filter fun k => !notO (wAt (vsL xs z) k)).length ≤ 5 := Nat.le_trans (List.length_filter_le _ _) (by decide)
  refine ex1_if (b := false) (tst_as (tst_cmp (d₂ := tupW (getW (rwL xs z) dash)) (ev_call (ev_global rfl G.rog) (keepF_of (at_row G.row)) (.cons' (ev_cell rfl rfl) (.cons' ev_str .nil)) hrow) ?tup (cmp_ne_tup (k := 0) hl)) ?_) (fun h => nomatch h) (fun _ => ex_nil)
  · have e : tupW (getW (rwL xs z) dash) = .tup ((ks5.filter fun k => !notO (wAt (vsL xs z) k)).map fun k => toW (pAt (wsL xs) k)) := by
      rw [L.dash]; unfold tupW; rw [List.map_map]; rfl
    rw [e]
    refine ev_call (ev_builtin rfl G.tup (by rfl)) (keepF_type _) (.cons' ?cmp .nil) (fn_tuple (by rw [List.length_map, sizeLine_eq]; omega))
    refine ev_compT (ρf := [(S "plain", .lst ((wsL xs).map toW)), (S "ways", .lst ((vsL xs z).map toP))]) D.int D.toInt (fun _ => rfl) ks5 [] (fun k => !notO (wAt (vsL xs z) k)) (fun k => toW (pAt (wsL xs) k)) (fun k => [(S "place", .int k)]) ?S ?src ?asg ?tst ?elt (by decide)
    case S => exact compSc_of ⟨rfl, rfl, trivial⟩ [S "plain", S "ways"] rfl
    case src => rw [← rng5]; exact src_range (ev_local rfl rfl) (by intro _ _; rfl) (by decide) (by decide)
    case asg => intro k _; exact asg_name (sto_local rfl (by decide))
    case tst =>
      intro k hk
      have hk5 := ks5_in hk
      refine .one (tst_as (tst_cmp (d₁ := toP (wAt (vsL xs z) k)) (d₂ := .tup [.int 0, .int 0]) (ev_item_list (ds := (vsL xs z).map toP) (ev_cell rfl rfl) (ev_local rfl rfl) hk5.1 (lst_at toP (vsL xs z) (0, 0) hk5.1 (by omega)) (by omega)) (ev_tuple (.cons' ev_int (.cons' ev_int .nil))) (cmp_eq_tup (k := 0) rfl)) ?_)
      simp [eqDs, eqD, notO]
    case elt => intro k hk _; exact ev_item_list (ds := (wsL xs).map toW) (ev_cell rfl rfl) (ev_local rfl rfl) (ks5_in hk).1 (lst_at toW (wsL xs) (0, 0, 0, 0) (ks5_in hk).1 (by rw [wsL_len]; exact (ks5_in hk).2)) (by have := (ks5_in hk).2; omega)
  · rw [eqDs_refl 0 _ fun d hd => like_ws _ d hd d hd]; rfl
theorem law11 (G : LGlo c) (L : LawOk xs z us names dr out) : Ex1 c (n + 4) lawOs laS (la8 xs z names) (lawB 11) (.ret (.bool true)) := by
  have hv5 : (vsL xs z).length = 5 := by unfold vsL; rw [List.length_map]; rfl
  have hfew := fn_few (n := n + 2) G.toHGlo G.few G.ite G.len G.ming (rows := (rwL xs z).map hdW) (names := names) (by rw [List.length_map, rwL_len]) (fun p hp => by obtain ⟨q, hq, rfl⟩ := List.mem_map.mp hp; have := (key_ok L q hq).2; show q.1.length ≤ 1000; omega) (fun x hx => by have := (L.nm x hx).1; omega)
  rw [List.map_map] at hfew
  have hk : ((rwL xs z).map ((fun p : Hd => p.1) ∘ hdW)) = keyL xs z := rfl
  rw [hk, L.few] at hfew
  have hdep := fn_depth (n := n + 1) G.dep G.ahe G.cro G.crg G.ahg G.len G.maxg (ways := vsL xs z) (fun v hv => by have := L.small v hv; exact ⟨by omega, by omega, by omega, by omega⟩) (by omega)
  have he := ev_cmp (c := c) (n := n + 4) (sc := laS) (ρ := la8 xs z names) (op := .Eq) (l := match lawB 11 with | .Return (some (.Compare l _ _ _)) _ => l | _ => .Constant .none 0 default) (r := match lawB 11 with | .Return (some (.Compare _ _ [r] _)) _ => r | _ => .Constant .none 0 default) (pos := match lawB 11 with | .Return (some (.Compare _ _ _ p)) _ => p | _ => default) (b := depthP (vsL xs z) == depthP (vsL xs z))
    (ev_call (ev_global rfl G.feg) (keepF_of (at_few G.few)) (.cons' (ev_cell rfl rfl) (.cons' (ev_local rfl rfl) .nil)) hfew) (ev_call (ev_global rfl G.deg) (keepF_of (at_depth G.dep)) (.cons' (ev_cell rfl rfl) .nil) hdep) cmp_eq
  rw [beq_self_eq_true] at he
  exact ex1_return he
theorem fn_law (G : LGlo c) (L : LawOk xs z us names dr out) (hx : xs.length < 64) : Fn c (n + 5) (.ref 294) [.lst (xs.map .int)] (.bool true) := by
  refine fn_of (out := .ret _) (os := lawOs) (at_law G.law) rfl ?_
  have e : bodyOf (stmtAt 28) = [lawB 0, lawB 1, lawB 2, lawB 3, lawB 4, lawB 5, lawB 6, lawB 7, lawB 8, lawB 9, lawB 10, lawB 11] := rfl
  rw [e]
  exact ex_cons (law0 G hx) (ex_cons (law1 G) (ex_cons (law2 G) (ex_cons (law3 G) (ex_cons (law4 G L.box L.spot) (ex_cons (law5 G) (ex_cons (law6 G) (ex_cons (law7 G L) (ex_cons (law8 G L) (ex_cons (law9 G L) (ex_cons (law10 G L) (ex_ret (law11 G L))))))))))))
end
end Mine
end
section
namespace Mine
/-- a line and a half -/
noncomputable abbrev Ln := Nat × Bool
/-- the half plane from the line u on -/
noncomputable def gP (u : Nat) (x : Ln) : Bool := (!x.2 && decide (u ≤ x.1)) || (x.2 && decide (x.1 < u))
noncomputable def gC (W : List Ln) (u : Nat) : Int := ((W.filter (gP u)).length : Int)
noncomputable def clC (W : List Ln) (u : Nat) (b : Bool) : Int := ((W.filter (· == (u, b))).length : Int)
/-- b lies in the half plane that a opens -/
noncomputable def ahd (a b : Ln) : Bool := if a.2 == b.2 then decide (a.1 ≤ b.1) else decide (b.1 < a.1)
theorem gC_step (W : List Ln) (u : Nat) : gC W (u + 1) = gC W u - clC W u false + clC W u true := by
  unfold gC clC
  induction W with
  | nil => rfl
  | cons x W ih =>
    obtain ⟨j, s⟩ := x
    simp only [List.filter_cons]
    have e1 : gP (u + 1) (j, s) = ((!s && decide (u + 1 ≤ j)) || (s && decide (j < u + 1))) := rfl
    have e2 : gP u (j, s) = ((!s && decide (u ≤ j)) || (s && decide (j < u))) := rfl
    have e3 : ((j, s) == (u, false)) = (decide (j = u) && !s) := by cases s <;> by_cases h : j = u <;> simp [h]
    have e4 : ((j, s) == (u, true)) = (decide (j = u) && s) := by cases s <;> by_cases h : j = u <;> simp [h]
    rw [e1, e2, e3, e4]
    cases s
    · rcases Nat.lt_trichotomy j u with h | h | h
      · have a1 : decide (u + 1 ≤ j) = false := by simp; omega
        have a2 : decide (u ≤ j) = false := by simp; omega
        have a3 : decide (j = u) = false := by simp; omega
        simp only [a1, a2, a3]; simpa using ih
      · have a1 : decide (u + 1 ≤ j) = false := by simp; omega
        have a2 : decide (u ≤ j) = true := by simp; omega
        have a3 : decide (j = u) = true := by simp; omega
        simp only [a1, a2, a3]; simp; omega
      · have a1 : decide (u + 1 ≤ j) = true := by simp; omega
        have a2 : decide (u ≤ j) = true := by simp; omega
        have a3 : decide (j = u) = false := by simp; omega
        simp only [a1, a2, a3]; simp; omega
    · rcases Nat.lt_trichotomy j u with h | h | h
      · have a1 : decide (j < u + 1) = true := by simp; omega
        have a2 : decide (j < u) = true := by simp; omega
        have a3 : decide (j = u) = false := by simp; omega
        simp only [a1, a2, a3]; simp; omega
      · have a1 : decide (j < u + 1) = true := by simp; omega
        have a2 : decide (j < u) = false := by simp; omega
        have a3 : decide (j = u) = true := by simp; omega
        simp only [a1, a2, a3]; simp; omega
      · have a1 : decide (j < u + 1) = false := by simp; omega
        have a2 : decide (j < u) = false := by simp; omega
        have a3 : decide (j = u) = false := by simp; omega
        simp only [a1, a2, a3]; simpa using ih
theorem filter_compl {α : Type} (p : α → Bool) (W : List α) : ((W.filter p).length : Int) + ((W.filter fun x => !p x).length : Int) = W.length := by
  induction W with
  | nil => rfl
  | cons x W ih =>
    simp only [List.filter_cons]
    cases p x <;> simp <;> omega
theorem gC_zero (W : List Ln) : gC W 0 = ((W.filter fun x => !x.2).length : Int) := by
  unfold gC
  congr 3
  funext x
  simp [gP]
theorem gC_top (W : List Ln) (h : ∀ x ∈ W, x.1 < 180) : gC W 180 = W.length - gC W 0 := by
  rw [gC_zero]
  have h2 : gC W 180 = ((W.filter fun x => !(!x.2)).length : Int) := by
    unfold gC
    congr 2
    apply List.filter_congr
    intro x hx
    have := h x hx
    have a1 : decide (180 ≤ x.1) = false := by simp; omega
    have a2 : decide (x.1 < 180) = true := by simp; omega
    unfold gP
    rw [a1, a2]
    simp
  rw [h2]
  have := filter_compl (fun x : Ln => !x.2) W
  omega
theorem cl_mem {W : List Ln} {u : Nat} {b : Bool} (h : 0 < clC W u b) : (u, b) ∈ W := by
  unfold clC at h
  cases hf : W.filter (· == (u, b)) with
  | nil => rw [hf] at h; simp at h
  | cons x r =>
    have hx : x ∈ W.filter (· == (u, b)) := by rw [hf]; exact .head _
    have := List.mem_filter.mp hx
    have e : x = (u, b) := by simpa using this.2
    exact e ▸ this.1
theorem cl_zero {W : List Ln} {u : Nat} {b : Bool} (h : (u, b) ∉ W) : clC W u b = 0 := by
  unfold clC
  have : W.filter (· == (u, b)) = [] := by
    rw [List.filter_eq_nil_iff]
    intro x hx q
    have e : x = (u, b) := by simpa using q
    exact h (e ▸ hx)
  rw [this]; rfl
theorem cl_nonneg (W : List Ln) (u : Nat) (b : Bool) : 0 ≤ clC W u b := by unfold clC; omega
/-- what the spot a leaves behind it -/
noncomputable def restC (W : List Ln) (a : Ln) : Int := if a.2 then gC W a.1 else W.length - gC W a.1
theorem ahd_count (W : List Ln) (a : Ln) : (((W.filter (ahd a)).length : Nat) : Int) = W.length - restC W a := by
  obtain ⟨i, s⟩ := a
  cases s
  · have e : W.filter (ahd (i, false)) = W.filter (gP i) := by
      apply List.filter_congr
      intro x _
      obtain ⟨j, t⟩ := x
      cases t <;> simp [ahd, gP]
    rw [e]
    show gC W i = W.length - (W.length - gC W i)
    omega
  · have e : W.filter (ahd (i, true)) = W.filter (fun x => !gP i x) := by
      apply List.filter_congr
      intro x _
      obtain ⟨j, t⟩ := x
      cases t
      · simp [ahd, gP]; rw [Bool.eq_iff_iff]; simp
      · simp [ahd, gP]; rw [Bool.eq_iff_iff]; simp
    rw [e]
    have := filter_compl (gP i) W
    show _ = W.length - gC W i
    unfold gC
    omega
/-- from a least half plane on there is a line where the count grows -/
theorem up_G {W : List Ln} {v : Int} (hmin : ∀ u, u ≤ 180 → v ≤ gC W u) : ∀ (k u : Nat), u + k = 180 → gC W u = v → (∃ a ∈ W, restC W a = v) ∨ (gC W 180 = v ∧ ∀ x ∈ W, x.1 < 180 → x.1 < u)
  | 0, u, hu, hv => by
    have : u = 180 := by omega
    subst this
    exact .inr ⟨hv, fun x _ h => h⟩
  | k + 1, u, hu, hv => by
    by_cases ht : (u, true) ∈ W
    · exact .inl ⟨_, ht, hv⟩
    · have h1 := gC_step W u
      rw [cl_zero ht] at h1
      have h2 := hmin (u + 1) (by omega)
      have h3 := cl_nonneg W u false
      have h4 : gC W (u + 1) = v := by omega
      have h5 : (u, false) ∉ W := fun q => by
        have : 0 < clC W u false := by
          unfold clC
          have : (u, false) ∈ W.filter (· == (u, false)) := List.mem_filter.mpr ⟨q, by simp⟩
          have := List.length_pos_of_mem this
          omega
        omega
      rcases up_G hmin k (u + 1) (by omega) h4 with h | ⟨h, hx⟩
      · exact .inl h
      · refine .inr ⟨h, fun x hxW hlt => ?_⟩
        have := hx x hxW hlt
        rcases Nat.lt_or_ge x.1 u with q | q
        · exact q
        · have : x.1 = u := by omega
          obtain ⟨j, s⟩ := x
          simp only at this
          subst this
          cases s
          · exact absurd hxW h5
          · exact absurd hxW ht
theorem up_N {W : List Ln} {v : Int} (hmin : ∀ u, u ≤ 180 → v ≤ W.length - gC W u) : ∀ (k u : Nat), u + k = 180 → W.length - gC W u = v → (∃ a ∈ W, restC W a = v) ∨ (W.length - gC W 180 = v ∧ ∀ x ∈ W, x.1 < 180 → x.1 < u)
  | 0, u, hu, hv => by
    have : u = 180 := by omega
    subst this
    exact .inr ⟨hv, fun x _ h => h⟩
  | k + 1, u, hu, hv => by
    by_cases ht : (u, false) ∈ W
    · exact .inl ⟨_, ht, hv⟩
    · have h1 := gC_step W u
      rw [cl_zero ht] at h1
      have h2 := hmin (u + 1) (by omega)
      have h3 := cl_nonneg W u true
      have h4 : W.length - gC W (u + 1) = v := by omega
      have h5 : (u, true) ∉ W := fun q => by
        have : 0 < clC W u true := by
          unfold clC
          have : (u, true) ∈ W.filter (· == (u, true)) := List.mem_filter.mpr ⟨q, by simp⟩
          have := List.length_pos_of_mem this
          omega
        omega
      rcases up_N hmin k (u + 1) (by omega) h4 with h | ⟨h, hx⟩
      · exact .inl h
      · refine .inr ⟨h, fun x hxW hlt => ?_⟩
        have := hx x hxW hlt
        rcases Nat.lt_or_ge x.1 u with q | q
        · exact q
        · have : x.1 = u := by omega
          obtain ⟨j, s⟩ := x
          simp only at this
          subst this
          cases s
          · exact absurd hxW ht
          · exact absurd hxW h5
/-- the least of all half planes is what some spot leaves behind it -/
theorem least_is {W : List Ln} (hlt : ∀ x ∈ W, x.1 < 180) (hne : W ≠ []) {v : Int} (hG : ∀ u, u ≤ 180 → v ≤ gC W u) (hN : ∀ u, u ≤ 180 → v ≤ W.length - gC W u) (hat : ∃ u, u ≤ 180 ∧ (gC W u = v ∨ W.length - gC W u = v)) : ∃ a ∈ W, restC W a = v := by
  obtain ⟨x, hx⟩ := List.exists_mem_of_ne_nil W hne
  have hx180 := hlt x hx
  have htop := gC_top W hlt
  have fromG0 : gC W 0 = v → ∃ a ∈ W, restC W a = v := fun h => by
    rcases up_G hG 180 0 rfl h with h | ⟨_, h⟩
    · exact h
    · exact absurd (h x hx hx180) (Nat.not_lt_zero _)
  have fromN0 : W.length - gC W 0 = v → ∃ a ∈ W, restC W a = v := fun h => by
    rcases up_N hN 180 0 rfl h with h | ⟨_, h⟩
    · exact h
    · exact absurd (h x hx hx180) (Nat.not_lt_zero _)
  obtain ⟨u, hu, h | h⟩ := hat
  · rcases up_G hG (180 - u) u (by omega) h with h | ⟨h, _⟩
    · exact h
    · exact fromN0 (by omega)
  · rcases up_N hN (180 - u) u (by omega) h with h | ⟨h, _⟩
    · exact h
    · exact fromG0 (by omega)
end Mine
end
section
open PySem PySem.W PyProof.Rows PySem.Calls
set_option maxRecDepth 100000
namespace Mine
theorem argBest_spec (gt : Bool) (ns : List Int) : ∀ n, argBest (fun i j => if gt then decide (ns.getD i 0 > ns.getD j 0) else decide (ns.getD i 0 < ns.getD j 0)) n ≤ n ∧
    ∀ i, i ≤ n → if gt then ns.getD i 0 ≤ ns.getD (argBest (fun i j => if gt then decide (ns.getD i 0 > ns.getD j 0) else decide (ns.getD i 0 < ns.getD j 0)) n) 0 else ns.getD (argBest (fun i j => if gt then decide (ns.getD i 0 > ns.getD j 0) else decide (ns.getD i 0 < ns.getD j 0)) n) 0 ≤ ns.getD i 0
  | 0 => ⟨Nat.le_refl _, fun i hi => by
      have : i = 0 := by omega
      subst this
      cases gt <;> simp [argBest]⟩
  | n + 1 => by
    obtain ⟨h1, h2⟩ := argBest_spec gt ns n
    rw [argBest]
    generalize argBest (fun i j => if gt then decide (ns.getD i 0 > ns.getD j 0) else decide (ns.getD i 0 < ns.getD j 0)) n = b at *
    cases gt
    · simp only [Bool.false_eq_true, if_false] at h2 ⊢
      by_cases hc : ns.getD (n + 1) 0 < ns.getD b 0
      · rw [if_pos (by simpa using hc)]
        refine ⟨Nat.le_refl _, fun i hi => ?_⟩
        rcases Nat.lt_or_ge n i with h | h
        · have : i = n + 1 := by omega
          subst this; exact Int.le_refl _
        · exact Int.le_trans (Int.le_of_lt hc) (h2 i h)
      · rw [if_neg (by simpa using hc)]
        refine ⟨by omega, fun i hi => ?_⟩
        rcases Nat.lt_or_ge n i with h | h
        · have : i = n + 1 := by omega
          subst this; omega
        · exact h2 i h
    · simp only [if_true] at h2 ⊢
      by_cases hc : ns.getD (n + 1) 0 > ns.getD b 0
      · rw [if_pos (by simpa using hc)]
        refine ⟨Nat.le_refl _, fun i hi => ?_⟩
        rcases Nat.lt_or_ge n i with h | h
        · have : i = n + 1 := by omega
          subst this; exact Int.le_refl _
        · exact Int.le_trans (h2 i h) (Int.le_of_lt hc)
      · rw [if_neg (by simpa using hc)]
        refine ⟨by omega, fun i hi => ?_⟩
        rcases Nat.lt_or_ge n i with h | h
        · have : i = n + 1 := by omega
          subst this; omega
        · exact h2 i h
theorem best_in {gt : Bool} {ns : List Int} (h : ns ≠ []) : bestI gt ns ∈ ns := by
  obtain ⟨h1, _⟩ := argBest_spec gt ns (ns.length - 1)
  have hp : 0 < ns.length := List.length_pos_iff.mpr h
  unfold bestI
  generalize argBest _ _ = b at *
  have hb : b < ns.length := by omega
  rw [List.getD, List.getElem?_eq_getElem hb]
  exact List.getElem_mem hb
theorem best_max {ns : List Int} {x : Int} (h : x ∈ ns) : x ≤ bestI true ns := by
  obtain ⟨i, hi, rfl⟩ := List.getElem_of_mem h
  have := (argBest_spec true ns (ns.length - 1)).2 i (by omega)
  simp only [if_true] at this
  unfold bestI
  have e : ns.getD i 0 = ns[i] := by rw [List.getD, List.getElem?_eq_getElem hi]; rfl
  rw [← e]
  exact this
theorem best_min {ns : List Int} {x : Int} (h : x ∈ ns) : bestI false ns ≤ x := by
  obtain ⟨i, hi, rfl⟩ := List.getElem_of_mem h
  have := (argBest_spec false ns (ns.length - 1)).2 i (by omega)
  simp only [Bool.false_eq_true, if_false] at this
  unfold bestI
  have e : ns.getD i 0 = ns[i] := by rw [List.getD, List.getElem?_eq_getElem hi]; rfl
  rw [← e]
  exact this
noncomputable def stepW (W : List Ln) (x : Int × Int) (u : Nat) : Int × Int :=
  (x.1 - clC W u false + clC W u true, bestI false [x.2, x.1 - clC W u false + clC W u true, W.length - (x.1 - clC W u false + clC W u true)])
theorem gC_const {W : List Ln} {u v : Nat} (h : ∀ x ∈ W, ¬ (u ≤ x.1 ∧ x.1 < v)) (huv : u ≤ v) : gC W v = gC W u := by
  unfold gC
  congr 2
  apply List.filter_congr
  intro x hx
  have := h x hx
  obtain ⟨j, s⟩ := x
  simp only at this
  unfold gP
  dsimp only
  by_cases hj : j < u
  · have a1 : decide (v ≤ j) = false := by simp; omega
    have a2 : decide (u ≤ j) = false := by simp; omega
    have a3 : decide (j < v) = true := by simp; omega
    have a4 : decide (j < u) = true := by simp; omega
    rw [a1, a2, a3, a4]
  · have a1 : decide (v ≤ j) = true := by simp; omega
    have a2 : decide (u ≤ j) = true := by simp; omega
    have a3 : decide (j < v) = false := by simp; omega
    have a4 : decide (j < u) = false := by simp; omega
    rw [a1, a2, a3, a4]
/-- the walk by the lines: the least of all half planes -/
theorem walk_least {W : List Ln} : ∀ (ls : List Nat) (u : Nat) (l : Int), ls.Pairwise (· < ·) → (∀ t ∈ ls, u ≤ t ∧ t < 180) → (∀ x ∈ W, u ≤ x.1 → x.1 ∈ ls) → u ≤ 180 → l ≤ gC W u → l ≤ W.length - gC W u →
    (ls.foldl (stepW W) (gC W u, l)).2 ≤ l ∧ (∀ v, u ≤ v → v ≤ 180 → (ls.foldl (stepW W) (gC W u, l)).2 ≤ gC W v ∧ (ls.foldl (stepW W) (gC W u, l)).2 ≤ W.length - gC W v) ∧
    ((ls.foldl (stepW W) (gC W u, l)).2 = l ∨ ∃ v, v ≤ 180 ∧ (gC W v = (ls.foldl (stepW W) (gC W u, l)).2 ∨ W.length - gC W v = (ls.foldl (stepW W) (gC W u, l)).2))
  | [], u, l, _, _, hin, hu, h1, h2 => by
    refine ⟨Int.le_refl _, fun v hv hv' => ?_, .inl rfl⟩
    have : gC W v = gC W u := gC_const (fun x hx ⟨q, _⟩ => by have := hin x hx q; cases this) hv
    rw [this]
    exact ⟨h1, h2⟩
  | t :: ls, u, l, hs, hb, hin, hu, h1, h2 => by
    rw [List.pairwise_cons] at hs
    obtain ⟨hut, ht⟩ := hb t (.head _)
    have hcon : ∀ v, u ≤ v → v ≤ t → gC W v = gC W u := fun v hv hv' => gC_const (fun x hx ⟨q1, q2⟩ => by
      rcases List.mem_cons.mp (hin x hx q1) with e | e
      · omega
      · have := hs.1 _ e; omega) hv
    have hst : stepW W (gC W u, l) t = (gC W (t + 1), bestI false [l, gC W (t + 1), W.length - gC W (t + 1)]) := by
      have : gC W u - clC W t false + clC W t true = gC W (t + 1) := by rw [gC_step, hcon t hut (Nat.le_refl _)]
      unfold stepW
      rw [this]
    rw [List.foldl_cons, hst]
    have b1 : bestI false [l, gC W (t + 1), W.length - gC W (t + 1)] ≤ l := best_min (by simp)
    have b2 : bestI false [l, gC W (t + 1), W.length - gC W (t + 1)] ≤ gC W (t + 1) := best_min (by simp)
    have b3 : bestI false [l, gC W (t + 1), W.length - gC W (t + 1)] ≤ W.length - gC W (t + 1) := best_min (by simp)
    have b4 : bestI false [l, gC W (t + 1), W.length - gC W (t + 1)] ∈ [l, gC W (t + 1), W.length - gC W (t + 1)] := best_in (by simp)
    generalize bestI false [l, gC W (t + 1), W.length - gC W (t + 1)] = l₁ at *
    obtain ⟨r1, r2, r3⟩ := walk_least ls (t + 1) l₁ hs.2 (fun q hq => ⟨hs.1 q hq, (hb q (.tail _ hq)).2⟩) (fun x hx hq => by
      rcases List.mem_cons.mp (hin x hx (by omega)) with e | e
      · omega
      · exact e) (by omega) b2 b3
    refine ⟨Int.le_trans r1 b1, fun v hv hv' => ?_, ?_⟩
    · rcases Nat.lt_or_ge t v with q | q
      · exact r2 v q hv'
      · rw [hcon v hv q]
        exact ⟨Int.le_trans (Int.le_trans r1 b1) h1, Int.le_trans (Int.le_trans r1 b1) h2⟩
    · rcases r3 with r3 | r3
      · simp only [List.mem_cons, List.not_mem_nil, or_false] at b4
        rcases b4 with e | e | e
        · exact .inl (r3.trans e)
        · exact .inr ⟨t + 1, by omega, .inl (by rw [r3]; exact e.symm)⟩
        · exact .inr ⟨t + 1, by omega, .inr (by rw [r3]; exact e.symm)⟩
      · exact .inr r3
theorem few_core {W : List Ln} {ls : List Nat} (hlt : ∀ x ∈ W, x.1 < 180) (hs : ls.Pairwise (· < ·)) (hls : ∀ t ∈ ls, t < 180) (hin : ∀ x ∈ W, x.1 ∈ ls) (hne : ls ≠ [] → W ≠ []) :
    (ls.foldl (stepW W) (gC W 0, bestI false [gC W 0, W.length - gC W 0])).2 = W.length - bestI true ([0] ++ W.map fun a => (((W.filter (ahd a)).length : Nat) : Int)) := by
  have b1 : bestI false [gC W 0, W.length - gC W 0] ≤ gC W 0 := best_min (by simp)
  have b2 : bestI false [gC W 0, W.length - gC W 0] ≤ W.length - gC W 0 := best_min (by simp)
  have b3 : bestI false [gC W 0, W.length - gC W 0] ∈ [gC W 0, W.length - gC W 0] := best_in (by simp)
  generalize bestI false [gC W 0, W.length - gC W 0] = l at *
  obtain ⟨r1, r2, r3⟩ := walk_least ls 0 l hs (fun t ht => ⟨Nat.zero_le _, hls t ht⟩) (fun x hx _ => hin x hx) (by decide) b1 b2
  have m1 : bestI true ([0] ++ W.map fun a => (((W.filter (ahd a)).length : Nat) : Int)) ∈ ([0] ++ W.map fun a => (((W.filter (ahd a)).length : Nat) : Int)) := best_in (by simp)
  have m2 : ∀ a ∈ W, (((W.filter (ahd a)).length : Nat) : Int) ≤ bestI true ([0] ++ W.map fun a => (((W.filter (ahd a)).length : Nat) : Int)) := fun a ha => best_max (List.mem_append_right _ (List.mem_map.mpr ⟨a, ha, rfl⟩))
  have m3 : (0 : Int) ≤ bestI true ([0] ++ W.map fun a => (((W.filter (ahd a)).length : Nat) : Int)) := best_max (by simp)
  generalize bestI true ([0] ++ W.map fun a => (((W.filter (ahd a)).length : Nat) : Int)) = mx at *
  generalize hv : (ls.foldl (stepW W) (gC W 0, l)).2 = v at *
  have hat : ∃ u, u ≤ 180 ∧ (gC W u = v ∨ W.length - gC W u = v) := by
    rcases r3 with r3 | r3
    · simp only [List.mem_cons, List.not_mem_nil, or_false] at b3
      rcases b3 with e | e
      · exact ⟨0, by decide, .inl (by omega)⟩
      · exact ⟨0, by decide, .inr (by omega)⟩
    · exact r3
  by_cases hW : W = []
  · subst hW
    have g0 : ∀ u, gC [] u = 0 := fun u => rfl
    simp at m1
    obtain ⟨u, _, h | h⟩ := hat
    · rw [g0] at h; simp; omega
    · rw [g0] at h; simp at h; simp; omega
  · obtain ⟨a, ha, hr⟩ := least_is hlt hW (fun u hu => (r2 u (Nat.zero_le _) hu).1) (fun u hu => (r2 u (Nat.zero_le _) hu).2) hat
    have h1 := m2 a ha
    rw [ahd_count, hr] at h1
    simp only [List.cons_append, List.nil_append, List.mem_cons, List.mem_map] at m1
    rcases m1 with m1 | ⟨b, hb, hbe⟩
    · have := ahd_count W a
      omega
    · rw [ahd_count] at hbe
      have hle : v ≤ restC W b := by
        unfold restC
        have hb180 := hlt b hb
        split
        · exact (r2 b.1 (Nat.zero_le _) (by omega)).1
        · exact (r2 b.1 (Nat.zero_le _) (by omega)).2
      omega
end Mine
end
section
open PySem PySem.W PyProof.Rows PySem.Calls
set_option maxRecDepth 100000
namespace Mine
/-- the turns: vector, line, half -/
noncomputable def tabT : List (P2 × Ln) := [((-6, -6), 60, true), ((-6, -5), 50, true), ((-6, -4), 40, true), ((-6, -3), 30, true), ((-6, -2), 20, true), ((-6, -1), 10, true), ((-6, 0), 0, true), ((-5, -6), 70, true), ((-5, -5), 60, true), ((-5, -4), 48, true), ((-5, -3), 36, true), ((-5, -2), 24, true), ((-5, -1), 12, true), ((-5, 0), 0, true), ((-5, 1), 170, false), ((-4, -6), 80, true), ((-4, -5), 72, true), ((-4, -4), 60, true), ((-4, -3), 45, true), ((-4, -2), 30, true), ((-4, -1), 15, true), ((-4, 0), 0, true), ((-4, 1), 168, false), ((-4, 2), 160, false), ((-3, -6), 90, true), ((-3, -5), 84, true), ((-3, -4), 75, true), ((-3, -3), 60, true), ((-3, -2), 40, true), ((-3, -1), 20, true), ((-3, 0), 0, true), ((-3, 1), 165, false), ((-3, 2), 156, false), ((-3, 3), 150, false), ((-2, -6), 100, true), ((-2, -5), 96, true), ((-2, -4), 90, true), ((-2, -3), 80, true), ((-2, -2), 60, true), ((-2, -1), 30, true), ((-2, 0), 0, true), ((-2, 1), 160, false), ((-2, 2), 150, false), ((-2, 3), 144, false), ((-2, 4), 140, false), ((-1, -6), 110, true), ((-1, -5), 108, true), ((-1, -4), 105, true), ((-1, -3), 100, true), ((-1, -2), 90, true), ((-1, -1), 60, true), ((-1, 0), 0, true), ((-1, 1), 150, false), ((-1, 2), 140, false), ((-1, 3), 135, false), ((-1, 4), 132, false), ((-1, 5), 130, false), ((0, -6), 120, true), ((0, -5), 120, true), ((0, -4), 120, true), ((0, -3), 120, true), ((0, -2), 120, true), ((0, -1), 120, true), ((0, 1), 120, false), ((0, 2), 120, false), ((0, 3), 120, false), ((0, 4), 120, false), ((0, 5), 120, false), ((0, 6), 120, false), ((1, -5), 130, true), ((1, -4), 132, true), ((1, -3), 135, true), ((1, -2), 140, true), ((1, -1), 150, true), ((1, 0), 0, false), ((1, 1), 60, false), ((1, 2), 90, false), ((1, 3), 100, false), ((1, 4), 105, false), ((1, 5), 108, false), ((1, 6), 110, false), ((2, -4), 140, true), ((2, -3), 144, true), ((2, -2), 150, true), ((2, -1), 160, true), ((2, 0), 0, false), ((2, 1), 30, false), ((2, 2), 60, false), ((2, 3), 80, false), ((2, 4), 90, false), ((2, 5), 96, false), ((2, 6), 100, false), ((3, -3), 150, true), ((3, -2), 156, true), ((3, -1), 165, true), ((3, 0), 0, false), ((3, 1), 20, false), ((3, 2), 40, false), ((3, 3), 60, false), ((3, 4), 75, false), ((3, 5), 84, false), ((3, 6), 90, false), ((4, -2), 160, true), ((4, -1), 168, true), ((4, 0), 0, false), ((4, 1), 15, false), ((4, 2), 30, false), ((4, 3), 45, false), ((4, 4), 60, false), ((4, 5), 72, false), ((4, 6), 80, false), ((5, -1), 170, true), ((5, 0), 0, false), ((5, 1), 12, false), ((5, 2), 24, false), ((5, 3), 36, false), ((5, 4), 48, false), ((5, 5), 60, false), ((5, 6), 70, false), ((6, 0), 0, false), ((6, 1), 10, false), ((6, 2), 20, false), ((6, 3), 30, false), ((6, 4), 40, false), ((6, 5), 50, false), ((6, 6), 60, false)]
theorem tabT_ok : (tabT.all fun e => match turnOf e.1 with | some (t, z) => decide (0 ≤ t) && decide (t < 360) && !z && ((t.fmod 180).toNat == e.2.1) && ((!decide (t < 180)) == e.2.2) | none => false) = true := by decide +kernel
theorem tabT_all : (box6.all fun x => box6.all fun y => !(decide (-6 ≤ x - y) && decide (x - y ≤ 6)) || !notO (x, y) || tabT.any fun e => e.1 == (x, y)) = true := by decide +kernel
theorem tabT_pairs : (tabT.all fun a => tabT.all fun b => (aheadP a.1 b.1 == ahd a.2 b.2) && ((crossP a.1 b.1 == 0) == (a.2.1 == b.2.1))) = true := by decide +kernel
theorem turn_zero : (match turnOf (0, 0) with | some (_, z) => z | none => false) = true := by decide +kernel
/-- differences of spots of the plane of hues -/
noncomputable def Hex6 (p : P2) : Prop := -6 ≤ p.1 ∧ p.1 ≤ 6 ∧ -6 ≤ p.2 ∧ p.2 ≤ 6 ∧ -6 ≤ p.1 - p.2 ∧ p.1 - p.2 ≤ 6
noncomputable def lnP (p : P2) : Ln := match turnOf p with
  | some (t, _) => ((t.fmod 180).toNat, !decide (t < 180))
  | none => (0, false)
theorem box6_in {x : Int} (h : -6 ≤ x ∧ x ≤ 6) : x ∈ box6 := mem_ints _ (-6) 13 (by decide +kernel) h.1 (by omega)
theorem tab_mem {p : P2} (h : Hex6 p) (h0 : notO p = true) : ∃ e ∈ tabT, e.1 = p := by
  obtain ⟨x, y⟩ := p
  obtain ⟨h1, h2, h3, h4, h5, h6⟩ := h
  have := List.all_eq_true.mp (List.all_eq_true.mp tabT_all x (box6_in ⟨h1, h2⟩)) y (box6_in ⟨h3, h4⟩)
  simp only at h5 h6
  rw [h0, decide_eq_true h5, decide_eq_true h6] at this
  simp only [Bool.and_self, Bool.not_true, Bool.false_or] at this
  obtain ⟨e, he, hq⟩ := List.any_eq_true.mp this
  exact ⟨e, he, by simpa using hq⟩
theorem turn_of {p : P2} (h : Hex6 p) (h0 : notO p = true) : ∃ t, turnOf p = some (t, false) ∧ 0 ≤ t ∧ t < 360 ∧ (p, lnP p) ∈ tabT := by
  obtain ⟨e, he, rfl⟩ := tab_mem h h0
  have := List.all_eq_true.mp tabT_ok e he
  cases ht : turnOf e.1 with
  | none => rw [ht] at this; cases this
  | some r =>
    obtain ⟨t, z⟩ := r
    rw [ht] at this
    simp only [Bool.and_eq_true, decide_eq_true_eq, Bool.not_eq_true', beq_iff_eq] at this
    obtain ⟨⟨⟨⟨a, b⟩, c⟩, d⟩, f⟩ := this
    subst c
    refine ⟨t, rfl, a, b, ?_⟩
    have : lnP e.1 = e.2 := by unfold lnP; rw [ht]; exact Prod.ext d f
    rw [this]
    exact he
theorem ahead_ln {p q : P2} (hp : Hex6 p) (hp0 : notO p = true) (hq : Hex6 q) (hq0 : notO q = true) : aheadP p q = ahd (lnP p) (lnP q) ∧ (crossP p q == 0) = ((lnP p).1 == (lnP q).1) := by
  obtain ⟨_, _, _, _, h1⟩ := turn_of hp hp0
  obtain ⟨_, _, _, _, h2⟩ := turn_of hq hq0
  have := List.all_eq_true.mp (List.all_eq_true.mp tabT_pairs _ h1) _ h2
  simp only [Bool.and_eq_true, beq_iff_eq] at this
  exact this
theorem ln_lt (p : P2) : (lnP p).1 < 180 := by
  unfold lnP
  split
  · rename_i t _ _
    exact (turn_k t).1
  · show 0 < 180; decide
/-- a spot's name -/
theorem name_ln {p : P2} (hp : Hex6 p) (hp0 : notO p = true) : nameP p = if (lnP p).2 then upS (nmK (lnP p).1) else nmK (lnP p).1 := by
  obtain ⟨t, ht, _, _, _⟩ := turn_of hp hp0
  unfold nameP lnP nameT
  rw [ht]
  dsimp only
  by_cases h : t < 180 <;> simp [h]
theorem name_zero {p : P2} (hp0 : notO p = false) : nameP p = dash ∧ ∃ t b, turnOf p = some (t, b) := by
  have e : p = (0, 0) := by
    unfold notO at hp0
    simp at hp0
    exact Prod.ext hp0.1 hp0.2
  subst e
  have := turn_zero
  cases ht : turnOf (0, 0) with
  | none => rw [ht] at this; cases this
  | some r =>
    obtain ⟨t, z⟩ := r
    rw [ht] at this
    dsimp only at this
    subst this
    refine ⟨?_, t, true, rfl⟩
    unfold nameP nameT
    rw [ht]
    dsimp only
    split
    · rfl
    · show upS dash = dash
      decide +kernel
theorem turn_any {p : P2} (hp : Hex6 p) : ∃ t b, turnOf p = some (t, b) := by
  cases h : notO p with
  | true => obtain ⟨t, ht, _⟩ := turn_of hp h; exact ⟨t, false, ht⟩
  | false => exact (name_zero h).2
end Mine
end
section
namespace Mine
/-- half planes u x + v y < c -/
noncomputable abbrev HP := (Int × Int) × Int
noncomputable def valH (g : Int × Int) (z : Int × Int) : Int := g.1 * z.1 + g.2 * z.2
noncomputable def Box3 (z : Int × Int) : Prop := -3 ≤ z.1 ∧ z.1 ≤ 3 ∧ -3 ≤ z.2 ∧ z.2 ≤ 3
theorem pigeon : ∀ a b c d e : Fin 4, a = b ∨ a = c ∨ a = d ∨ a = e ∨ b = c ∨ b = d ∨ b = e ∨ c = d ∨ c = e ∨ d = e := by decide +kernel
noncomputable def parF (z : Int × Int) : Fin 4 := ⟨(z.1 % 2 * 2 + z.2 % 2).toNat, by omega⟩
theorem par_eq {z w : Int × Int} (h : parF z = parF w) : z.1 % 2 = w.1 % 2 ∧ z.2 % 2 = w.2 % 2 := by
  have := congrArg Fin.val h
  simp only [parF] at this
  omega
theorem sum_lt {f g : Nat → Nat} : ∀ (l : List Nat), (∀ j ∈ l, f j ≤ g j) → (∃ i ∈ l, f i < g i) → (l.map f).sum < (l.map g).sum
  | [], _, ⟨_, h, _⟩ => by cases h
  | x :: l, h1, ⟨i, hi, hlt⟩ => by
    rw [List.map_cons, List.map_cons, List.sum_cons, List.sum_cons]
    have hx := h1 x (.head _)
    have hle : ∀ l : List Nat, (∀ j ∈ l, f j ≤ g j) → (l.map f).sum ≤ (l.map g).sum := by
      intro l
      induction l with
      | nil => intro _; exact Nat.le_refl _
      | cons y l ih =>
        intro h
        rw [List.map_cons, List.map_cons, List.sum_cons, List.sum_cons]
        have := h y (.head _)
        have := ih fun j hj => h j (.tail _ hj)
        omega
    rcases List.mem_cons.mp hi with rfl | hi
    · have := hle l fun j hj => h1 j (.tail _ hj)
      omega
    · have := sum_lt l (fun j hj => h1 j (.tail _ hj)) ⟨i, hi, hlt⟩
      omega
/-- two of the five touch: the middle lies in all -/
theorem middle {k : Nat} {G : Nat → Int × Int} {b : Nat → Int} {a : Nat → Int × Int} (hb : ∀ i, i < k → Box3 (a i)) (h1 : ∀ i, i < k → ∀ j, j < k → j ≠ i → valH (G j) (a i) < b j) (h2 : ∀ i, i < k → valH (G i) (a i) = b i) {i j : Nat} (hi : i < k) (hj : j < k) (hij : i ≠ j) (hp : parF (a i) = parF (a j)) :
    ∃ m, Box3 m ∧ ∀ l, l < k → valH (G l) m < b l := by
  obtain ⟨p1, p2⟩ := par_eq hp
  obtain ⟨x1, x2, x3, x4⟩ := hb i hi
  obtain ⟨y1, y2, y3, y4⟩ := hb j hj
  refine ⟨(((a i).1 + (a j).1) / 2, ((a i).2 + (a j).2) / 2), ⟨by simp only; omega, by simp only; omega, by simp only; omega, by simp only; omega⟩, fun l hl => ?_⟩
  have e1 : 2 * (((a i).1 + (a j).1) / 2) = (a i).1 + (a j).1 := by omega
  have e2 : 2 * (((a i).2 + (a j).2) / 2) = (a i).2 + (a j).2 := by omega
  have key : 2 * valH (G l) (((a i).1 + (a j).1) / 2, ((a i).2 + (a j).2) / 2) = valH (G l) (a i) + valH (G l) (a j) := by
    unfold valH
    simp only
    calc 2 * ((G l).1 * (((a i).1 + (a j).1) / 2) + (G l).2 * (((a i).2 + (a j).2) / 2)) = (G l).1 * (2 * (((a i).1 + (a j).1) / 2)) + (G l).2 * (2 * (((a i).2 + (a j).2) / 2)) := by
          rw [Int.mul_add, Int.mul_left_comm, Int.mul_left_comm 2 (G l).2]
      _ = _ := by rw [e1, e2, Int.mul_add, Int.mul_add]; omega
  have hle : valH (G l) (a i) + valH (G l) (a j) < 2 * b l := by
    by_cases hli : l = i
    · subst hli
      have := h2 l hl
      have := h1 j hj l hl hij
      omega
    · by_cases hlj : l = j
      · subst hlj
        have := h2 l hl
        have := h1 i hi l hl (Ne.symm hij)
        omega
      · have := h1 i hi l hl hli
        have := h1 j hj l hl hlj
        omega
  omega
/-- five or more that all are needed: impossible -/
theorem no_five {k : Nat} (hk : 5 ≤ k) (G : Nat → Int × Int) (w : Nat → Int × Int) (hw : ∀ i, i < k → Box3 (w i)) : ∀ (N : Nat) (b : Nat → Int), (((List.range k).map fun i => (valH (G i) (w i) - b i).toNat).sum ≤ N) →
    (∀ i, i < k → ∀ j, j < k → j ≠ i → valH (G j) (w i) < b j) → (∀ z, Box3 z → ∃ j, j < k ∧ b j ≤ valH (G j) z) → False := by
  intro N
  induction N using Nat.strongRecOn with
  | ind N ih =>
    intro b hN h1 h2
    by_cases hc : ∀ i, i < k → ∃ a, Box3 a ∧ (∀ j, j < k → j ≠ i → valH (G j) a < b j) ∧ valH (G i) a = b i
    · have ch : ∀ i : Nat, ∃ a, i < k → Box3 a ∧ (∀ j, j < k → j ≠ i → valH (G j) a < b j) ∧ valH (G i) a = b i := fun i => by
        by_cases hi : i < k
        · obtain ⟨a, ha⟩ := hc i hi; exact ⟨a, fun _ => ha⟩
        · exact ⟨(0, 0), fun h => absurd h hi⟩
      have ⟨a, ha⟩ := Classical.axiomOfChoice ch
      have fin : ∀ i j, i < 5 → j < 5 → i ≠ j → parF (a i) = parF (a j) → False := fun i j hi hj hij hp => by
        obtain ⟨m, hm, hl⟩ := middle (fun i hi => (ha i hi).1) (fun i hi => (ha i hi).2.1) (fun i hi => (ha i hi).2.2) (show i < k by omega) (show j < k by omega) hij hp
        obtain ⟨j, hj, hbj⟩ := h2 m hm
        have := hl j hj
        omega
      rcases pigeon (parF (a 0)) (parF (a 1)) (parF (a 2)) (parF (a 3)) (parF (a 4)) with h | h | h | h | h | h | h | h | h | h
      · exact fin 0 1 (by decide) (by decide) (by decide) h
      · exact fin 0 2 (by decide) (by decide) (by decide) h
      · exact fin 0 3 (by decide) (by decide) (by decide) h
      · exact fin 0 4 (by decide) (by decide) (by decide) h
      · exact fin 1 2 (by decide) (by decide) (by decide) h
      · exact fin 1 3 (by decide) (by decide) (by decide) h
      · exact fin 1 4 (by decide) (by decide) (by decide) h
      · exact fin 2 3 (by decide) (by decide) (by decide) h
      · exact fin 2 4 (by decide) (by decide) (by decide) h
      · exact fin 3 4 (by decide) (by decide) (by decide) h
    · have ⟨i, hc⟩ := Classical.not_forall.mp hc
      have ⟨hi, hc⟩ := Classical.not_imp.mp hc
      have hwi : b i ≤ valH (G i) (w i) := by
        obtain ⟨j, hj, hbj⟩ := h2 (w i) (hw i hi)
        by_cases hji : j = i
        · exact hji ▸ hbj
        · have := h1 i hi j hj hji; omega
      have hwn : valH (G i) (w i) ≠ b i := fun e => hc ⟨w i, hw i hi, fun j hj hji => h1 i hi j hj hji, e⟩
      let b' : Nat → Int := fun j => if j = i then b i + 1 else b j
      have hlt : ((List.range k).map fun i => (valH (G i) (w i) - b' i).toNat).sum < ((List.range k).map fun i => (valH (G i) (w i) - b i).toNat).sum := by
        refine sum_lt (List.range k) (fun j _ => ?_) ⟨i, List.mem_range.mpr hi, ?_⟩
        · show (valH (G j) (w j) - (if j = i then b i + 1 else b j)).toNat ≤ _
          split
          · rename_i e; subst e; omega
          · exact Nat.le_refl _
        · show (valH (G i) (w i) - (if i = i then b i + 1 else b i)).toNat < _
          rw [if_pos rfl]; omega
      refine ih _ (Nat.lt_of_lt_of_le hlt hN) b' (Nat.le_refl _) (fun p hp j hj hjp => ?_) (fun z hz => ?_)
      · have := h1 p hp j hj hjp
        show _ < (if j = i then b i + 1 else b j)
        split
        · rename_i e; subst e; omega
        · exact this
      · by_cases hex : ∃ j, j < k ∧ j ≠ i ∧ b j ≤ valH (G j) z
        · obtain ⟨j, hj, hji, hbj⟩ := hex
          refine ⟨j, hj, ?_⟩
          show (if j = i then b i + 1 else b j) ≤ _
          rw [if_neg hji]; exact hbj
        · have hall : ∀ j, j < k → j ≠ i → valH (G j) z < b j := fun j hj hji => by
            rcases Int.lt_or_le (valH (G j) z) (b j) with q | q
            · exact q
            · exact absurd ⟨j, hj, hji, q⟩ hex
          obtain ⟨j, hj, hbj⟩ := h2 z hz
          have hji : j = i := by
            by_cases e : j = i
            · exact e
            · have := hall j hj e; omega
          subst hji
          refine ⟨j, hj, ?_⟩
          show (if j = j then b j + 1 else b j) ≤ _
          rw [if_pos rfl]
          have : valH (G j) z ≠ b j := fun e => hc ⟨z, hz, hall, e⟩
          omega
noncomputable def empt (L : List HP) : Prop := ∀ z, Box3 z → ∃ g ∈ L, g.2 ≤ valH g.1 z
/-- four are enough (Doignon, Bell) -/
theorem four {L : List HP} : ∀ (n : Nat), L.length ≤ n → empt L → ∃ M : List HP, (∀ g ∈ M, g ∈ L) ∧ M.length ≤ 4 ∧ empt M := by
  intro n
  induction n generalizing L with
  | zero => intro h he; exact ⟨L, fun _ h => h, by omega, he⟩
  | succ n ih =>
    intro h he
    by_cases h4 : L.length ≤ 4
    · exact ⟨L, fun _ h => h, h4, he⟩
    · by_cases hr : ∃ i, i < L.length ∧ empt (L.eraseIdx i)
      · obtain ⟨i, hi, hee⟩ := hr
        obtain ⟨M, m1, m2, m3⟩ := ih (L := L.eraseIdx i) (by rw [List.length_eraseIdx_of_lt hi]; omega) hee
        exact ⟨M, fun g hg => List.mem_of_mem_eraseIdx (m1 g hg), m2, m3⟩
      · exfalso
        have hw : ∀ i, ∃ z, i < L.length → Box3 z ∧ ∀ g ∈ L.eraseIdx i, valH g.1 z < g.2 := fun i => by
          by_cases hi : i < L.length
          · have : ¬ empt (L.eraseIdx i) := fun q => hr ⟨i, hi, q⟩
            have ⟨z, hz⟩ := Classical.not_forall.mp this
            have ⟨hb, hz⟩ := Classical.not_imp.mp hz
            refine ⟨z, fun _ => ⟨hb, fun g hg => ?_⟩⟩
            rcases Int.lt_or_le (valH g.1 z) g.2 with q | q
            · exact q
            · exact absurd ⟨g, hg, q⟩ hz
          · exact ⟨(0, 0), fun q => absurd q hi⟩
        have ⟨w, hw⟩ := Classical.axiomOfChoice hw
        refine no_five (k := L.length) (by omega) (fun i => (L.getD i ((0, 0), 0)).1) w (fun i hi => (hw i hi).1) _ (fun i => (L.getD i ((0, 0), 0)).2) (Nat.le_refl _) (fun i hi j hj hji => ?_) (fun z hz => ?_)
        · have e : L.getD j ((0, 0), 0) = L[j] := by rw [List.getD, List.getElem?_eq_getElem hj]; rfl
          rw [e]
          exact (hw i hi).2 _ (List.mem_eraseIdx_iff_getElem.mpr ⟨j, hj, hji, rfl⟩)
        · obtain ⟨g, hg, hge⟩ := he z hz
          obtain ⟨j, hj, rfl⟩ := List.getElem_of_mem hg
          have e : L.getD j ((0, 0), 0) = L[j] := by rw [List.getD, List.getElem?_eq_getElem hj]; rfl
          exact ⟨j, hj, by rw [e]; exact hge⟩
/-- who is left out -/
noncomputable def outH (g : HP) (p : Int × Int) : Bool := decide (g.2 ≤ valH g.1 p)
theorem cover : ∀ (M : List HP) (P : List (Int × Int)), (∀ p ∈ P, ∃ g ∈ M, outH g p = true) → P.length ≤ (M.map fun g => (P.filter (outH g)).length).sum
  | [], P, h => by
    cases P with
    | nil => exact Nat.le_refl _
    | cons p P => obtain ⟨g, hg, _⟩ := h p (.head _); cases hg
  | g :: M, P, h => by
    have hP : P.length = (P.filter (outH g)).length + (P.filter fun p => !outH g p).length := by
      have := filter_compl (outH g) P; omega
    have ih := cover M (P.filter fun p => !outH g p) fun p hp => by
      obtain ⟨h1, h2⟩ := List.mem_filter.mp hp
      obtain ⟨q, hq, hqe⟩ := h p h1
      rcases List.mem_cons.mp hq with rfl | hq
      · rw [hqe] at h2; cases h2
      · exact ⟨q, hq, hqe⟩
    have hle : ∀ M : List HP, (M.map fun q => ((P.filter fun p => !outH g p).filter (outH q)).length).sum ≤ (M.map fun q => (P.filter (outH q)).length).sum := by
      intro M
      induction M with
      | nil => exact Nat.le_refl _
      | cons q M ih =>
        rw [List.map_cons, List.map_cons, List.sum_cons, List.sum_cons]
        have : ((P.filter fun p => !outH g p).filter (outH q)).length ≤ (P.filter (outH q)).length := ((List.filter_sublist (p := fun p => !outH g p) (l := P)).filter (outH q)).length_le
        omega
    rw [List.map_cons, List.sum_cons]
    have := hle M
    omega
/-- the plane's whole spots: five spots have one in the midst -/
theorem midst {P : List (Int × Int)} (h5 : P.length = 5) (hb : ∀ p ∈ P, Box3 p) (ok : Int × Int → Prop) (hno : ∀ z, Box3 z → ¬ ok z → ∃ g : HP, g.2 ≤ valH g.1 z ∧ (P.filter (outH g)).length ≤ 1) : ∃ z, Box3 z ∧ ok z := by
  apply Classical.byContradiction
  intro hc
  have hn : ∀ z, Box3 z → ¬ ok z := fun z hz q => hc ⟨z, hz, q⟩
  have ch : ∀ z : Int × Int, ∃ g : HP, Box3 z → g.2 ≤ valH g.1 z ∧ (P.filter (outH g)).length ≤ 1 := fun z => by
    by_cases hz : Box3 z
    · obtain ⟨g, hg⟩ := hno z hz (hn z hz); exact ⟨g, fun _ => hg⟩
    · exact ⟨((0, 0), 0), fun q => absurd q hz⟩
  have ⟨f, hf⟩ := Classical.axiomOfChoice ch
  let B : List Int := [-3, -2, -1, 0, 1, 2, 3]
  let Z : List (Int × Int) := B.flatMap fun x => B.map fun y => (x, y)
  have inB : ∀ {x : Int}, -3 ≤ x → x ≤ 3 → x ∈ B := fun {x} h1 h2 => by
    have : x = -3 ∨ x = -2 ∨ x = -1 ∨ x = 0 ∨ x = 1 ∨ x = 2 ∨ x = 3 := by omega
    rcases this with rfl | rfl | rfl | rfl | rfl | rfl | rfl <;> simp [B]
  have ofB : ∀ {x : Int}, x ∈ B → -3 ≤ x ∧ x ≤ 3 := fun {x} h => by
    simp [B] at h; omega
  have inZ : ∀ {z : Int × Int}, Box3 z → z ∈ Z := fun {z} ⟨a, b, c, d⟩ => List.mem_flatMap.mpr ⟨z.1, inB a b, List.mem_map.mpr ⟨z.2, inB c d, rfl⟩⟩
  have ofZ : ∀ {z : Int × Int}, z ∈ Z → Box3 z := fun {z} h => by
    obtain ⟨x, hx, h⟩ := List.mem_flatMap.mp h
    obtain ⟨y, hy, rfl⟩ := List.mem_map.mp h
    exact ⟨(ofB hx).1, (ofB hx).2, (ofB hy).1, (ofB hy).2⟩
  have he : empt (Z.map f) := fun z hz => ⟨f z, List.mem_map.mpr ⟨z, inZ hz, rfl⟩, (hf z hz).1⟩
  obtain ⟨M, m1, m2, m3⟩ := four (Z.map f).length (Nat.le_refl _) he
  have hcov := cover M P fun p hp => by
    obtain ⟨g, hg, hge⟩ := m3 p (hb p hp)
    exact ⟨g, hg, decide_eq_true hge⟩
  have hsum : ∀ M : List HP, (∀ g ∈ M, (P.filter (outH g)).length ≤ 1) → (M.map fun g => (P.filter (outH g)).length).sum ≤ M.length := by
    intro M
    induction M with
    | nil => intro _; exact Nat.le_refl _
    | cons g M ih =>
      intro h
      rw [List.map_cons, List.sum_cons, List.length_cons]
      have := h g (.head _)
      have := ih fun q hq => h q (.tail _ hq)
      omega
  have := hsum M fun g hg => by
    obtain ⟨z, hz, rfl⟩ := List.mem_map.mp (m1 g hg)
    exact (hf z (ofZ hz)).2
  omega
end Mine
end
section
open PySem PySem.W PyProof.Rows PySem.Calls
set_option maxRecDepth 100000
namespace Mine
noncomputable def B3 : List Int := [-3, -2, -1, 0, 1, 2, 3]
theorem B3_in {x : Int} (h1 : -3 ≤ x) (h2 : x ≤ 3) : x ∈ B3 := mem_ints _ (-3) 7 (by decide +kernel) h1 (by omega)
theorem out_all : (B3.all fun lo => B3.all fun mid => B3.all fun hi => !(decide (lo ≤ mid) && decide (mid ≤ hi)) || B3.all fun x => !(decide (lo ≤ x) && decide (x ≤ hi)) || (outI lo mid hi).contains x) = true := by decide +kernel
theorem out_mem {lo mid hi x : Int} (h0 : -3 ≤ lo) (h1 : lo ≤ mid) (h2 : mid ≤ hi) (h3 : hi ≤ 3) (hx : lo ≤ x ∧ x ≤ hi) : x ∈ outI lo mid hi := by
  have := List.all_eq_true.mp (List.all_eq_true.mp (List.all_eq_true.mp out_all lo (B3_in h0 (by omega))) mid (B3_in (by omega) (by omega))) hi (B3_in (by omega) h3)
  rw [decide_eq_true h1, decide_eq_true h2] at this
  simp only [Bool.and_self, Bool.not_true, Bool.false_or] at this
  have := List.all_eq_true.mp this x (B3_in (by omega) (by omega))
  rw [decide_eq_true hx.1, decide_eq_true hx.2] at this
  simpa using this
/-- the second and the fourth of five -/
theorem order5 {L : List Int} (h5 : L.length = 5) : ∃ a b c d e, sortI L = [a, b, c, d, e] ∧ a ≤ b ∧ b ≤ c ∧ c ≤ d ∧ d ≤ e ∧ (∀ v, v < b → (L.filter fun x => decide (x ≤ v)).length ≤ 1) ∧ (∀ v, d < v → (L.filter fun x => decide (v ≤ x)).length ≤ 1) := by
  have hp := sortI_perm L
  obtain ⟨a, b, c, d, e, hl⟩ := five (l := sortI L) (by rw [hp.length_eq]; exact h5)
  have hs := sortI_sorted L
  rw [hl] at hs hp
  simp only [List.pairwise_cons, List.mem_cons, List.not_mem_nil, or_false, forall_eq_or_imp, forall_eq] at hs
  obtain ⟨⟨h1, h2, h3, h4⟩, ⟨h5', h6, h7⟩, ⟨h8, h9⟩, h10, _⟩ := hs
  refine ⟨a, b, c, d, e, hl, h1, h5', h8, h10, fun v hv => ?_, fun v hv => ?_⟩
  · rw [← (hp.filter _).length_eq]
    have n1 : decide (b ≤ v) = false := by simp; omega
    have n2 : decide (c ≤ v) = false := by simp; omega
    have n3 : decide (d ≤ v) = false := by simp; omega
    have n4 : decide (e ≤ v) = false := by simp; omega
    simp only [List.filter_cons, List.filter_nil, n1, n2, n3, n4]
    split <;> simp
  · rw [← (hp.filter _).length_eq]
    have n1 : decide (v ≤ a) = false := by simp; omega
    have n2 : decide (v ≤ b) = false := by simp; omega
    have n3 : decide (v ≤ c) = false := by simp; omega
    have n4 : decide (v ≤ d) = false := by simp; omega
    simp only [List.filter_cons, List.filter_nil, n1, n2, n3, n4]
    simp
    split <;> simp
/-- the points of the words -/
noncomputable def ptL (ws : List Wd) : List P2 := ws.map fun w => wayP w (0, 0)
theorem way_sub (w : Wd) (z : P2) : wayP w z = ((wayP w (0, 0)).1 - z.1, (wayP w (0, 0)).2 - z.2) := by
  unfold wayP; simp
/-- a row of numbers of the points -/
theorem row_fail {P : List P2} (f : P2 → Int) (h5 : P.length = 5) {v : Int} {a b c d e : Int} (hl : sortI (P.map f) = [a, b, c, d, e]) (hv : v < b ∨ d < v) : (P.filter fun p => if v < b then decide (f p ≤ v) else decide (v ≤ f p)).length ≤ 1 := by
  obtain ⟨a', b', c', d', e', hl', _, _, _, _, h1, h2⟩ := order5 (L := P.map f) (by rw [List.length_map]; exact h5)
  rw [hl] at hl'
  injection hl' with e1 hl'; injection hl' with e2 hl'; injection hl' with e3 hl'; injection hl' with e4 hl'
  subst e1 e2 e3 e4
  by_cases hvb : v < b
  · simp only [if_pos hvb]
    have := h1 v hvb
    rw [List.filter_map, List.length_map] at this
    exact this
  · simp only [if_neg hvb]
    have := h2 v (by omega)
    rw [List.filter_map, List.length_map] at this
    exact this
end Mine
end
section
open PySem PySem.W PyProof.Rows PySem.Calls
set_option maxRecDepth 100000
namespace Mine
noncomputable def Hex3 (p : P2) : Prop := -3 ≤ p.1 ∧ p.1 ≤ 3 ∧ -3 ≤ p.2 ∧ p.2 ≤ 3 ∧ -3 ≤ p.1 - p.2 ∧ p.1 - p.2 ≤ 3
theorem row_half {P : List P2} (f : P2 → Int) (u : Int × Int) (hf : ∀ p, f p = valH u p) (h5 : P.length = 5) {z : P2} {a b c d e : Int} (hl : sortI (P.map f) = [a, b, c, d, e]) (hv : f z < b ∨ d < f z) : ∃ g : HP, g.2 ≤ valH g.1 z ∧ (P.filter (outH g)).length ≤ 1 := by
  have h := row_fail f h5 hl hv
  have hneg : ∀ p, valH (-u.1, -u.2) p = -f p := fun p => by rw [hf]; unfold valH; simp only; rw [Int.neg_mul, Int.neg_mul]; omega
  by_cases hvb : f z < b
  · simp only [if_pos hvb] at h
    refine ⟨((-u.1, -u.2), -f z), by rw [hneg]; exact Int.le_refl _, ?_⟩
    have e : (P.filter (outH ((-u.1, -u.2), -f z))) = P.filter fun p => decide (f p ≤ f z) := by
      apply List.filter_congr
      intro p _
      unfold outH
      simp only
      rw [hneg, Bool.eq_iff_iff]
      simp
    rw [e]; exact h
  · simp only [if_neg hvb] at h
    refine ⟨(u, f z), by rw [hf]; exact Int.le_refl _, ?_⟩
    have e : (P.filter (outH (u, f z))) = P.filter fun p => decide (f z ≤ f p) := by
      apply List.filter_congr
      intro p _
      unfold outH
      simp only
      rw [hf p]
    rw [e]; exact h
theorem mul36_all : (box6.all fun a => box6.all fun d => decide (-36 ≤ a * d) && decide (a * d ≤ 36)) = true := by decide +kernel
theorem mul36 {a d : Int} (ha : -6 ≤ a ∧ a ≤ 6) (hd : -6 ≤ d ∧ d ≤ 6) : -36 ≤ a * d ∧ a * d ≤ 36 := by
  have := List.all_eq_true.mp (List.all_eq_true.mp mul36_all a (box6_in ha)) d (box6_in hd)
  simpa only [Bool.and_eq_true, decide_eq_true_eq] using this
/-- an open half plane that the depth misses -/
theorem depth_half {P : List P2} (h5 : P.length = 5) (hP : ∀ p ∈ P, Box3 p) {z : P2} (hz : Box3 z) (hd : depthP (P.map fun p => (p.1 - z.1, p.2 - z.2)) < 2) : ∃ g : HP, g.2 ≤ valH g.1 z ∧ (P.filter (outH g)).length ≤ 1 := by
  unfold depthP at hd
  rw [List.length_map, h5] at hd
  generalize hW : (P.map fun p => (p.1 - z.1, p.2 - z.2)).filter notO = W at hd
  have hm : bestI true ([0] ++ W.map fun a => (((W.filter (aheadP a)).length : Nat) : Int)) ∈ ([0] ++ W.map fun a => (((W.filter (aheadP a)).length : Nat) : Int)) := best_in (by simp)
  generalize bestI true ([0] ++ W.map fun a => (((W.filter (aheadP a)).length : Nat) : Int)) = mx at *
  simp only [List.cons_append, List.nil_append, List.mem_cons, List.mem_map] at hm
  rcases hm with hm | ⟨a, ha, hae⟩
  · omega
  · have ha' : a ∈ (P.map fun p => (p.1 - z.1, p.2 - z.2)) := by rw [← hW] at ha; exact (List.mem_filter.mp ha).1
    obtain ⟨q, hq, hqa⟩ := List.mem_map.mp ha'
    obtain ⟨x1, x2, x3, x4⟩ := hP q hq
    obtain ⟨z1, z2, z3, z4⟩ := hz
    have a1 : -6 ≤ a.1 ∧ a.1 ≤ 6 := by rw [← hqa]; simp only; omega
    have a2 : -6 ≤ a.2 ∧ a.2 ≤ 6 := by rw [← hqa]; simp only; omega
    refine ⟨((1000 * a.2 - a.1, -(1000 * a.1 + a.2)), (1000 * a.2 - a.1) * z.1 + -(1000 * a.1 + a.2) * z.2), Int.le_refl _, ?_⟩
    have hlen : (W.filter (aheadP a)).length ≤ (P.filter fun p => !outH ((1000 * a.2 - a.1, -(1000 * a.1 + a.2)), (1000 * a.2 - a.1) * z.1 + -(1000 * a.1 + a.2) * z.2) p).length := by
      have e1 : W.filter (aheadP a) = ((P.filter fun p => aheadP a (p.1 - z.1, p.2 - z.2) && notO (p.1 - z.1, p.2 - z.2)).map fun p => (p.1 - z.1, p.2 - z.2)) := by
        rw [← hW, List.filter_filter, List.filter_map]; rfl
      rw [e1, List.length_map]
      have e2 : ∀ l : List P2, (∀ p ∈ l, Box3 p) → (l.filter fun p => aheadP a (p.1 - z.1, p.2 - z.2) && notO (p.1 - z.1, p.2 - z.2)).length ≤ (l.filter fun p => !outH ((1000 * a.2 - a.1, -(1000 * a.1 + a.2)), (1000 * a.2 - a.1) * z.1 + -(1000 * a.1 + a.2) * z.2) p).length := by
        intro l
        induction l with
        | nil => intro _; exact Nat.le_refl _
        | cons p l ih =>
          intro h
          have ih := ih fun q hq => h q (.tail _ hq)
          obtain ⟨y1, y2, y3, y4⟩ := h p (.head _)
          rw [List.filter_cons, List.filter_cons]
          by_cases hc : (aheadP a (p.1 - z.1, p.2 - z.2) && notO (p.1 - z.1, p.2 - z.2)) = true
          · have hah : aheadP a (p.1 - z.1, p.2 - z.2) = true := by
              rw [Bool.and_eq_true] at hc; exact hc.1
            have hno : outH ((1000 * a.2 - a.1, -(1000 * a.1 + a.2)), (1000 * a.2 - a.1) * z.1 + -(1000 * a.1 + a.2) * z.2) p = false := by
              unfold outH valH
              simp only [decide_eq_false_iff_not]
              unfold aheadP crossP at hah
              simp only [Bool.or_eq_true, Bool.and_eq_true, decide_eq_true_eq, beq_iff_eq] at hah
              generalize hd1 : p.1 - z.1 = d1 at *
              generalize hd2 : p.2 - z.2 = d2 at *
              have p1 : p.1 = z.1 + d1 := by omega
              have p2 : p.2 = z.2 + d2 := by omega
              rw [p1, p2]
              have b1 : -6 ≤ d1 ∧ d1 ≤ 6 := by omega
              have b2 : -6 ≤ d2 ∧ d2 ≤ 6 := by omega
              have m1 := mul36 a1 b1
              have m2 := mul36 a2 b2
              have ex1 : (1000 * a.2 - a.1) * (z.1 + d1) = (1000 * a.2 - a.1) * z.1 + (1000 * (a.2 * d1) - a.1 * d1) := by
                rw [Int.mul_add, Int.sub_mul (1000 * a.2) a.1 d1, Int.mul_assoc]
              have ex2 : -(1000 * a.1 + a.2) * (z.2 + d2) = -(1000 * a.1 + a.2) * z.2 - (1000 * (a.1 * d2) + a.2 * d2) := by
                rw [Int.mul_add, Int.neg_mul (1000 * a.1 + a.2) d2, Int.add_mul, Int.mul_assoc]; omega
              rw [ex1, ex2]
              generalize (1000 * a.2 - a.1) * z.1 = k1
              generalize -(1000 * a.1 + a.2) * z.2 = k2
              generalize a.1 * d1 = q1 at *
              generalize a.2 * d2 = q2 at *
              generalize a.1 * d2 = q3 at *
              generalize a.2 * d1 = q4 at *
              rcases hah with h | ⟨h, h'⟩ <;> omega
            rw [if_pos hc, hno]
            simp only [Bool.not_false, if_true, List.length_cons]
            omega
          · rw [if_neg hc]
            split
            · simp only [List.length_cons]; omega
            · exact ih
      exact e2 P hP
    have := filter_compl (outH ((1000 * a.2 - a.1, -(1000 * a.1 + a.2)), (1000 * a.2 - a.1) * z.1 + -(1000 * a.1 + a.2) * z.2)) P
    omega
theorem spot_ex {ws : List Wd} (h5 : ws.length = 5) (hex : ∀ w ∈ ws, Hex3 (wayP w (0, 0))) : ∃ z, spotP ws = some z ∧ Hex3 z := by
  have hP5 : (ptL ws).length = 5 := by unfold ptL; rw [List.length_map]; exact h5
  have hPx : ∀ p ∈ ptL ws, Hex3 p := fun p hp => by obtain ⟨w, hw, rfl⟩ := List.mem_map.mp hp; exact hex w hw
  have hPb : ∀ p ∈ ptL ws, Box3 p := fun p hp => by obtain ⟨a, b, c, d, _⟩ := hPx p hp; exact ⟨a, b, c, d⟩
  obtain ⟨a1, b1, c1, d1, e1, hl1, o1, o2, o3, o4, _, _⟩ := order5 (L := (ptL ws).map fun p => p.1) (by rw [List.length_map]; exact hP5)
  obtain ⟨a2, b2, c2, d2, e2, hl2, q1, q2, q3, q4, _, _⟩ := order5 (L := (ptL ws).map fun p => p.2) (by rw [List.length_map]; exact hP5)
  obtain ⟨a3, b3, c3, d3, e3, hl3, r1, r2, r3, r4, _, _⟩ := order5 (L := (ptL ws).map fun p => p.1 - p.2) (by rw [List.length_map]; exact hP5)
  have i1 := sortI_in (l := (ptL ws).map fun p => p.1) fun x hx => by obtain ⟨p, hp, rfl⟩ := List.mem_map.mp hx; exact ⟨(hPx p hp).1, (hPx p hp).2.1⟩
  have i2 := sortI_in (l := (ptL ws).map fun p => p.2) fun x hx => by obtain ⟨p, hp, rfl⟩ := List.mem_map.mp hx; exact ⟨(hPx p hp).2.2.1, (hPx p hp).2.2.2.1⟩
  have i3 := sortI_in (l := (ptL ws).map fun p => p.1 - p.2) fun x hx => by obtain ⟨p, hp, rfl⟩ := List.mem_map.mp hx; exact ⟨(hPx p hp).2.2.2.2.1, (hPx p hp).2.2.2.2.2⟩
  rw [hl1] at i1
  rw [hl2] at i2
  rw [hl3] at i3
  have ib1 := i1 b1 (by simp); have id1 := i1 d1 (by simp)
  have ib2 := i2 b2 (by simp); have id2 := i2 d2 (by simp)
  have ib3 := i3 b3 (by simp); have id3 := i3 d3 (by simp)
  have hways : ∀ z : P2, (ws.map fun w => wayP w z) = (ptL ws).map fun p => (p.1 - z.1, p.2 - z.2) := fun z => by
    unfold ptL; rw [List.map_map]; apply List.map_congr_left; intro w _; exact way_sub w z
  have hok : ∀ x y : Int, okP ws x y = ((decide (b3 ≤ x - y) && decide (x - y ≤ d3)) && decide (2 ≤ depthP (ws.map fun w => wayP w (x, y)))) := fun x y => by
    unfold okP
    have e : (sortI ((ws.map fun w => wayP w (0, 0)).map fun p => p.1 - p.2)) = [a3, b3, c3, d3, e3] := hl3
    rw [e]; rfl
  have ho1 : outL (sortI ((ws.map fun w => wayP w (0, 0)).map fun p => p.1)) = outI b1 c1 d1 := by
    have e : (sortI ((ws.map fun w => wayP w (0, 0)).map fun p => p.1)) = [a1, b1, c1, d1, e1] := hl1
    rw [e]; rfl
  have ho2 : outL (sortI ((ws.map fun w => wayP w (0, 0)).map fun p => p.2)) = outI b2 c2 d2 := by
    have e : (sortI ((ws.map fun w => wayP w (0, 0)).map fun p => p.2)) = [a2, b2, c2, d2, e2] := hl2
    rw [e]; rfl
  obtain ⟨z, hz, hzx, hzy, hzo⟩ := midst hP5 hPb (fun z => z.1 ∈ outI b1 c1 d1 ∧ z.2 ∈ outI b2 c2 d2 ∧ okP ws z.1 z.2 = true) (fun z hz hn => by
    by_cases h1 : z.1 < b1 ∨ d1 < z.1
    · exact row_half (fun p => p.1) (1, 0) (fun p => by unfold valH; simp only; omega) hP5 hl1 h1
    · by_cases h2 : z.2 < b2 ∨ d2 < z.2
      · exact row_half (fun p => p.2) (0, 1) (fun p => by unfold valH; simp only; omega) hP5 hl2 h2
      · by_cases h3 : z.1 - z.2 < b3 ∨ d3 < z.1 - z.2
        · exact row_half (fun p => p.1 - p.2) (1, -1) (fun p => by unfold valH; simp only; omega) hP5 hl3 h3
        · by_cases h4 : depthP (ws.map fun w => wayP w (z.1, z.2)) < 2
          · have h4' : depthP (ws.map fun w => wayP w z) < 2 := h4
            rw [hways] at h4'
            exact depth_half hP5 hPb hz h4'
          · refine absurd ⟨out_mem (by omega) o2 o3 (by omega) (by omega), out_mem (by omega) q2 q3 (by omega) (by omega), ?_⟩ hn
            rw [hok, decide_eq_true (by omega), decide_eq_true (by omega), decide_eq_true (by omega)]; rfl)
  -- the program's search finds one
  have hfind : ∃ z, spotP ws = some z := by
    unfold spotP
    rw [ho1, ho2]
    cases hf : (outI b1 c1 d1).findSome? fun x => ((outI b2 c2 d2).find? fun y => okP ws x y).map fun y => (x, y) with
    | some z => exact ⟨z, rfl⟩
    | none =>
      have := List.findSome?_eq_none_iff.mp hf z.1 hzx
      rw [Option.map_eq_none_iff, List.find?_eq_none] at this
      exact absurd hzo (this z.2 hzy)
  obtain ⟨z, hz⟩ := hfind
  refine ⟨z, hz, ?_⟩
  unfold spotP at hz
  rw [ho1, ho2] at hz
  obtain ⟨x, hx, hz⟩ := List.exists_of_findSome?_eq_some hz
  obtain ⟨y, hy, rfl⟩ := Option.map_eq_some_iff.mp hz
  have hyo := List.find?_some hy
  have hym := List.mem_of_find?_eq_some hy
  have ic1 := i1 c1 (by simp); have ic2 := i2 c2 (by simp)
  have bx := outI_mem (okFar ⟨ib1.1, ib1.2⟩ ⟨ic1.1, ic1.2⟩ ⟨id1.1, id1.2⟩) hx
  have by' := outI_mem (okFar ⟨ib2.1, ib2.2⟩ ⟨ic2.1, ic2.2⟩ ⟨id2.1, id2.2⟩) hym
  rw [hok] at hyo
  simp only [Bool.and_eq_true, decide_eq_true_eq] at hyo
  exact ⟨by show -3 ≤ x; omega, by show x ≤ 3; omega, by show -3 ≤ y; omega, by show y ≤ 3; omega, by show -3 ≤ x - y; omega, by show x - y ≤ 3; omega⟩
end Mine
end
section
open PySem PySem.W PyProof.Rows PySem.Calls
set_option maxRecDepth 100000
namespace Mine
theorem range_take {α : Type} (ds : List α) : ∀ m, m ≤ ds.length → (List.range m).filterMap (ds[·]?) = ds.take m
  | 0, _ => rfl
  | m + 1, h => by
    rw [List.range_succ, List.filterMap_append, range_take ds m (by omega), List.take_add_one]
    congr 1
theorem pick_take (ds : List D) (i : Nat) (hi : i ≤ ds.length) : pickD ds none (some (i : Int)) none = ds.take i := by
  have e : sliceBounds none (some (i : Int)) none ds.length = (0, (i : Int), 1) := by
    have a : ¬ ((i : Int) < 0) := by omega
    have b : max (0 : Int) (min (i : Int) (ds.length : Int)) = i := by omega
    show (0, (if (1 : Int) > 0 then max 0 (min (if (i : Int) < 0 then (i : Int) + ds.length else i) ds.length) else _), (1 : Int)) = _
    rw [if_pos (by decide), if_neg a, b]
  have e2 : sliceRange 0 (i : Int) 1 = List.range i := by
    unfold sliceRange
    have : (if (1 : Int) > 0 then (if (0 : Int) < i then ((i : Int) - 0 + 1 - 1) / 1 else 0) else (if (0 : Int) > i then (0 - (i : Int) - 1 - 1) / (-1) else 0)) = i := by
      rw [if_pos (by decide)]
      split <;> omega
    simp only [this]
    rw [Int.toNat_natCast]
    conv => rhs; rw [← List.map_id (List.range i)]
    apply List.map_congr_left
    intro k _
    simp
  unfold pickD
  rw [e]
  show (sliceRange 0 (i : Int) 1).filterMap _ = _
  rw [e2, range_take ds i hi]
section
variable {α : Type} [BEq α] [LawfulBEq α]
/-- each once, where it stands first -/
noncomputable def onceG (l : List α) : List α := (l.zipIdx.filter fun p => !((l.take p.2).any fun y => y == p.1)).map (·.1)
theorem onceG_snoc (l : List α) (x : α) : onceG (l ++ [x]) = onceG l ++ (if l.any (· == x) then [] else [x]) := by
  unfold onceG
  rw [List.zipIdx_append, List.filter_append, List.map_append]
  congr 1
  · congr 1
    apply List.filter_congr
    intro p hp
    have hlt : p.2 < l.length := by
      have := List.snd_lt_of_mem_zipIdx hp
      omega
    rw [List.take_append_of_le_length (by omega)]
  · show (List.filter _ [(x, 0 + l.length)]).map (·.1) = _
    rw [Nat.zero_add, List.filter_cons]
    dsimp only
    rw [List.take_left']
    · cases l.any fun y => y == x <;> rfl
    · rfl
theorem snoc_ind {P : List α → Prop} (h0 : P []) (h1 : ∀ l x, P l → P (l ++ [x])) (l : List α) : P l := by
  have : ∀ n (l : List α), l.length = n → P l := by
    intro n
    induction n with
    | zero => intro l h; have : l = [] := by simpa using h
              subst this; exact h0
    | succ n ih =>
      intro l h
      have hne : l ≠ [] := by rintro rfl; simp at h
      rw [← List.dropLast_concat_getLast hne]
      exact h1 _ _ (ih _ (by rw [List.length_dropLast]; omega))
  exact this _ l rfl
theorem onceG_mem (l : List α) : ∀ x, x ∈ onceG l ↔ x ∈ l := by
  refine snoc_ind (P := fun l => ∀ x, x ∈ onceG l ↔ x ∈ l) (fun x => Iff.rfl) (fun l y ih x => ?_) l
  rw [onceG_snoc, List.mem_append, List.mem_append, ih]
  by_cases h : y ∈ l
  · have : (l.any fun z => z == y) = true := List.any_eq_true.mpr ⟨y, h, by simp⟩
    rw [this]
    simp
    rintro rfl; exact h
  · have : (l.any fun z => z == y) = false := by
      rw [List.any_eq_false]
      intro z hz q
      have e : z = y := by simpa using q
      exact h (e ▸ hz)
    rw [this]; rfl
theorem onceG_nodup (l : List α) : (onceG l).Nodup := by
  refine snoc_ind (P := fun l => (onceG l).Nodup) List.nodup_nil (fun l y ih => ?_) l
  rw [onceG_snoc]
  by_cases h : y ∈ l
  · have : (l.any fun z => z == y) = true := List.any_eq_true.mpr ⟨y, h, by simp⟩
    rw [this]; simpa using ih
  · have : (l.any fun z => z == y) = false := by
      rw [List.any_eq_false]
      intro z hz q
      have e : z = y := by simpa using q
      exact h (e ▸ hz)
    rw [this]
    rw [List.nodup_append]
    refine ⟨ih, by simp, fun a ha b hb => ?_⟩
    have hb' : b = y := by simpa using hb
    subst hb'
    rintro rfl
    exact h ((onceG_mem l a).mp ha)
theorem onceG_len (l : List α) : (onceG l).length ≤ l.length := by
  unfold onceG
  rw [List.length_map]
  exact Nat.le_trans (List.length_filter_le _ _) (by rw [List.length_zipIdx]; exact Nat.le_refl _)
theorem onceG_map {β : Type} [BEq β] [LawfulBEq β] (g : α → β) (l : List α) : (∀ x ∈ l, ∀ y ∈ l, g x = g y → x = y) → onceG (l.map g) = (onceG l).map g := by
  refine snoc_ind (P := fun l => (∀ x ∈ l, ∀ y ∈ l, g x = g y → x = y) → onceG (l.map g) = (onceG l).map g) (fun _ => rfl) (fun l y ih hinj => ?_) l
  rw [List.map_append, List.map_cons, List.map_nil, onceG_snoc, onceG_snoc, List.map_append, ih fun a ha b hb => hinj a (List.mem_append_left _ ha) b (List.mem_append_left _ hb)]
  congr 1
  have e : ((l.map g).any fun z => z == g y) = l.any fun z => z == y := by
    rw [Bool.eq_iff_iff, List.any_eq_true, List.any_eq_true]
    constructor
    · rintro ⟨z, hz, hq⟩
      obtain ⟨w, hw, rfl⟩ := List.mem_map.mp hz
      have := hinj w (List.mem_append_left _ hw) y (List.mem_append_right _ (by simp)) (by simpa using hq)
      exact ⟨w, hw, by simpa using this⟩
    · rintro ⟨z, hz, hq⟩
      have e : z = y := by simpa using hq
      exact ⟨g z, List.mem_map.mpr ⟨z, hz, rfl⟩, by simpa using congrArg g e⟩
  rw [e]
  cases l.any fun z => z == y <;> rfl
/-- once, on data -/
theorem onceL_map (f : α → D) (hf : ∀ a b, eqD (f a) (f b) = (a == b)) (l : List α) : onceL (l.map f) = (onceG l).map f := by
  unfold onceL onceG
  rw [List.zipIdx_map, List.filter_map, List.map_map, List.map_map]
  congr 1
  apply List.filter_congr
  intro p hp
  have hlt : p.2 < l.length := by
    have := List.snd_lt_of_mem_zipIdx hp
    omega
  show (!((pickD (l.map f) none (some (p.2 : Int)) none).any fun y => eqD y (f p.1))) = _
  rw [pick_take _ _ (by rw [List.length_map]; omega), ← List.map_take, List.any_map]
  congr 2
  funext y
  exact hf y p.1
end
end Mine
end
section
open PySem PySem.W PyProof.Rows PySem.Calls
set_option maxRecDepth 100000
namespace Mine
theorem krun_congr {α : Type} {n : Nat} {lt lt' : Nat → Nat → Bool} (h : ∀ i j, i < n → j < n → lt i j = lt' i j) : ∀ t : KasT α, krun n lt t = krun n lt' t
  | .ret a => rfl
  | .ask i j k => by
    rw [krun, krun]
    by_cases hij : i < n ∧ j < n
    · rw [if_pos hij, if_pos hij, h i j hij.1 hij.2]
      exact krun_congr h _
    · rw [if_neg hij, if_neg hij]
/-- the keys in order -/
noncomputable def ascK (ks : List Nat) : List Nat := (List.range 5).filter fun k => ks.contains k
noncomputable def listsN : Nat → List (List Nat)
  | 0 => [[]]
  | n + 1 => (List.range 5).flatMap fun k => (listsN n).map (k :: ·)
theorem mem_listsN : ∀ {ks : List Nat}, (∀ k ∈ ks, k < 5) → ks ∈ listsN ks.length
  | [], _ => .head _
  | k :: ks, h => by
    rw [List.length_cons, listsN]
    exact List.mem_flatMap.mpr ⟨k, List.mem_range.mpr (h k (.head _)), List.mem_map.mpr ⟨ks, mem_listsN fun q hq => h q (.tail _ hq), rfl⟩⟩
noncomputable def nodupB : List Nat → Bool
  | [] => true
  | k :: ks => !ks.contains k && nodupB ks
theorem nodup_b : ∀ {ks : List Nat}, ks.Nodup → nodupB ks = true
  | [], _ => rfl
  | k :: ks, h => by
    rw [List.nodup_cons] at h
    rw [nodupB, nodup_b h.2]
    simpa using h.1
noncomputable def sortGood (ks : List Nat) : Bool := !nodupB ks || match krun ks.length (fun i j => decide (ks.getD i 0 < ks.getD j 0)) (kas_sort ks.length) with
  | some p => (p.toList.all fun i => decide (i < ks.length)) && (p.toList.map fun i => ks.getD i 0) == ascK ks
  | none => false
theorem sort_good : ([2, 3, 4, 5].all fun n => (listsN n).all sortGood) = true := by decide +kernel
theorem asc_small : ((listsN 0 ++ listsN 1).all fun ks => ascK ks == ks) = true := by decide +kernel
theorem sort_keys {ks : List Nat} (h5 : ∀ k ∈ ks, k < 5) (hn : ks.Nodup) (hl : 2 ≤ ks.length) (hl5 : ks.length ≤ 5) : ∃ p, krun ks.length (fun i j => decide (ks.getD i 0 < ks.getD j 0)) (kas_sort ks.length) = some p ∧ (∀ i ∈ p.toList, i < ks.length) ∧ (p.toList.map fun i => ks.getD i 0) = ascK ks := by
  have hm : ks.length ∈ [2, 3, 4, 5] := by
    have : ks.length = 2 ∨ ks.length = 3 ∨ ks.length = 4 ∨ ks.length = 5 := by omega
    rcases this with h | h | h | h <;> rw [h] <;> simp
  have h := List.all_eq_true.mp (List.all_eq_true.mp sort_good _ hm) ks (mem_listsN h5)
  unfold sortGood at h
  rw [nodup_b hn, Bool.not_true, Bool.false_or] at h
  cases hp : krun ks.length (fun i j => decide (ks.getD i 0 < ks.getD j 0)) (kas_sort ks.length) with
  | none => rw [hp] at h; cases h
  | some p =>
    rw [hp] at h
    simp only [Bool.and_eq_true, beq_iff_eq, List.all_eq_true, decide_eq_true_eq] at h
    exact ⟨p, rfl, h.1, h.2⟩
theorem asc_perm {ks ks' : List Nat} (h : ks.Perm ks') : ascK ks = ascK ks' := by
  unfold ascK
  apply List.filter_congr
  intro k _
  rw [Bool.eq_iff_iff, List.contains_iff_mem, List.contains_iff_mem]
  exact h.mem_iff
/-- the first word's place -/
noncomputable def fkW (r : List Wd) : Nat := match r with
  | w :: _ => w.1.toNat - 66
  | [] => 0
theorem toW_eq (a b : Wd) : eqD (toW a) (toW b) = (a == b) := by
  obtain ⟨a1, a2, a3, a4⟩ := a
  obtain ⟨b1, b2, b3, b4⟩ := b
  show ((#[a1, a2, a3, a4] : Array UInt8) == #[b1, b2, b3, b4]) = _
  rw [Bool.eq_iff_iff]
  simp
theorem eqDs_toW : ∀ r s : List Wd, eqDs (r.map toW) (s.map toW) = (r == s)
  | [], [] => rfl
  | [], _ :: _ => rfl
  | _ :: _, [] => rfl
  | a :: r, b :: s => by
    rw [List.map_cons, List.map_cons, eqDs, toW_eq, eqDs_toW r s]
    rfl
theorem tupW_eqD (r s : List Wd) : eqD (tupW r) (tupW s) = (r == s) := eqDs_toW r s
theorem ltB_first {a b : Wd} (h : a.1 ≠ b.1) : ltD (toW a) (toW b) = decide (a.1.toNat < b.1.toNat) := by
  obtain ⟨a1, a2, a3, a4⟩ := a
  obtain ⟨b1, b2, b3, b4⟩ := b
  simp only at h
  show (Builtin.Bytes.order (a1 :: [a2, a3, a4]) (b1 :: [b2, b3, b4]) == Ordering.lt) = decide (a1.toNat < b1.toNat)
  rw [Builtin.Bytes.order]
  have hn : a1.toNat ≠ b1.toNat := fun e => h (UInt8.toNat_inj.mp e)
  by_cases hlt : a1.toNat < b1.toNat
  · have : a1 < b1 := hlt
    simp [this, hlt]
  · have h1 : ¬ a1 < b1 := hlt
    have h2 : b1 < a1 := show b1.toNat < a1.toNat by omega
    simp [h1, h2, hlt]
/-- rows whose first words differ are compared by these -/
theorem ltDs_rows {r s : List Wd} (hr : r ≠ []) (hs : s ≠ []) (hrw : ∀ w ∈ r, 66 ≤ w.1.toNat) (hsw : ∀ w ∈ s, 66 ≤ w.1.toNat) (h : fkW r ≠ fkW s) : ltDs (r.map toW) (s.map toW) = decide (fkW r < fkW s) := by
  cases r with
  | nil => exact absurd rfl hr
  | cons a r =>
    cases s with
    | nil => exact absurd rfl hs
    | cons b s =>
      have h1 := hrw a (.head _)
      have h2 := hsw b (.head _)
      have hf : a.1.toNat - 66 ≠ b.1.toNat - 66 := h
      have hne : a.1 ≠ b.1 := fun e => hf (by rw [e])
      rw [List.map_cons, List.map_cons, ltDs, toW_eq]
      have hab : (a == b) = false := by
        rw [beq_eq_false_iff_ne]; rintro rfl; exact hne rfl
      rw [hab, if_neg (by decide), ltB_first hne]
      show _ = decide (a.1.toNat - 66 < b.1.toNat - 66)
      rw [Bool.eq_iff_iff]
      simp
      omega
/-- rows in the order of their first words -/
noncomputable def rowAt (B : List (List Wd)) (k : Nat) : List Wd := (B.find? fun r => fkW r == k).getD []
theorem rowAt_of {B : List (List Wd)} (hn : (B.map fkW).Nodup) {r : List Wd} (hr : r ∈ B) : rowAt B (fkW r) = r := by
  unfold rowAt
  induction B with
  | nil => cases hr
  | cons s B ih =>
    rw [List.map_cons, List.nodup_cons] at hn
    rw [List.find?_cons]
    rcases List.mem_cons.mp hr with rfl | hr'
    · simp
    · have : (fkW s == fkW r) = false := by
        rw [beq_eq_false_iff_ne]
        intro e
        exact hn.1 (e ▸ List.mem_map.mpr ⟨r, hr', rfl⟩)
      rw [this]
      exact ih hn.2 hr'
theorem sorts_rows {A B : List (List Wd)} (hp : A.Perm B) (hn : (B.map fkW).Nodup) (h5 : ∀ r ∈ B, fkW r < 5) (hne : ∀ r ∈ B, r ≠ []) (hw : ∀ r ∈ B, ∀ w ∈ r, 66 ≤ w.1.toNat) (hl : B.length ≤ 5) : Sorts (A.map tupW) (((ascK (B.map fkW)).map (rowAt B)).map tupW) := by
  have hA : ∀ r ∈ A, r ∈ B := fun r hr => hp.mem_iff.mp hr
  have hpk : (A.map fkW).Perm (B.map fkW) := hp.map _
  have hnA : (A.map fkW).Nodup := hpk.nodup_iff.mpr hn
  have hlA : A.length = B.length := hp.length_eq
  have hback : (A.map fkW).map (rowAt B) = A := by
    rw [List.map_map]
    conv => rhs; rw [← List.map_id A]
    apply List.map_congr_left
    intro r hr
    exact rowAt_of hn (hA r hr)
  rw [← asc_perm hpk]
  by_cases h2 : A.length < 2
  · have hasc : ascK (A.map fkW) = A.map fkW := by
      have hm : A.map fkW ∈ listsN 0 ++ listsN 1 := by
        have hml := mem_listsN (ks := A.map fkW) fun k hk => by obtain ⟨r, hr, rfl⟩ := List.mem_map.mp hk; exact h5 r (hA r hr)
        rw [List.length_map] at hml
        have h01 : A.length = 0 ∨ A.length = 1 := by omega
        rcases h01 with e | e
        · rw [e] at hml; exact List.mem_append_left _ hml
        · rw [e] at hml; exact List.mem_append_right _ hml
      simpa using List.all_eq_true.mp asc_small _ hm
    rw [hasc, hback]
    exact .small (by rw [List.length_map]; exact h2)
  · have hk5 : ∀ k ∈ A.map fkW, k < 5 := fun k hk => by obtain ⟨r, hr, rfl⟩ := List.mem_map.mp hk; exact h5 r (hA r hr)
    obtain ⟨p, hrun, hlt, hkeys⟩ := sort_keys hk5 hnA (by rw [List.length_map]; omega) (by rw [List.length_map]; omega)
    rw [List.length_map] at hrun hlt
    have hcmp : krun A.length (kTup (A.map tupW)) (kas_sort A.length) = some p := by
      rw [← hrun]
      refine krun_congr (fun i j hi hj => ?_) _
      have ei : (A.map tupW).getD i .none = tupW A[i] := by simp [List.getD, hi]
      have ej : (A.map tupW).getD j .none = tupW A[j] := by simp [List.getD, hj]
      have ki : (A.map fkW).getD i 0 = fkW A[i] := by simp [List.getD, hi]
      have kj : (A.map fkW).getD j 0 = fkW A[j] := by simp [List.getD, hj]
      unfold kTup
      rw [ei, ej, ki, kj]
      show ltDs (A[i].map toW) (A[j].map toW) = _
      have mi := hA _ (List.getElem_mem hi)
      have mj := hA _ (List.getElem_mem hj)
      by_cases hij : i = j
      · subst hij
        have : ∀ r : List Wd, ltDs (r.map toW) (r.map toW) = false := by
          intro r
          induction r with
          | nil => rfl
          | cons a r ih => rw [List.map_cons, ltDs, toW_eq, beq_self_eq_true, if_pos rfl]; exact ih
        rw [this]; simp
      · refine ltDs_rows (hne _ mi) (hne _ mj) (hw _ mi) (hw _ mj) fun e => hij ?_
        have li : i < (A.map fkW).length := by rw [List.length_map]; exact hi
        have lj : j < (A.map fkW).length := by rw [List.length_map]; exact hj
        have e2 : (A.map fkW)[i] = (A.map fkW)[j] := by simpa using e
        exact (List.getElem_inj hnA).mp e2
    have hout : ((ascK (A.map fkW)).map (rowAt B)).map tupW = sortD (A.map tupW) p := by
      rw [← hkeys]
      unfold sortD
      rw [List.map_map, List.map_map]
      apply List.map_congr_left
      intro i hi
      have hil := hlt i hi
      have ki : (A.map fkW).getD i 0 = fkW A[i] := by simp [List.getD, hil]
      have ei : (A.map tupW).getD i .none = tupW A[i] := by simp [List.getD, hil]
      show tupW (rowAt B ((A.map fkW).getD i 0)) = _
      rw [ki, ei, rowAt_of hn (hA _ (List.getElem_mem hil))]
    rw [hout]
    exact .run (by rw [List.length_map]; omega) (by rw [List.length_map]; exact hcmp)
end Mine
end
section
open PySem PySem.W PyProof.Rows PySem.Calls
set_option maxRecDepth 100000
namespace Mine
theorem nm_sorted : sortedS ((List.range 180).map nmK) = true := by decide +kernel
/-- a line's number back from its name -/
noncomputable def nmI (x : Str) : Nat := (x.cps.getD 1 0 - 97) * 16 + (x.cps.getD 2 0 - 97)
theorem nm_back : ((List.range 180).all fun k => nmI (nmK k) == k) = true := by decide +kernel
theorem nm_inj {i j : Nat} (hi : i < 180) (hj : j < 180) (h : nmK i = nmK j) : i = j := by
  have a := List.all_eq_true.mp nm_back i (List.mem_range.mpr hi)
  have b := List.all_eq_true.mp nm_back j (List.mem_range.mpr hj)
  simp only [beq_iff_eq] at a b
  rw [← a, ← b, h]
theorem nm_le {i j : Nat} (hj : j < 180) (h : i < j) : leS (nmK i) (nmK j) := by
  have hp := List.pairwise_iff_getElem.mp (sorted_pw _ nm_sorted) i j (by simp; omega) (by simpa using hj) h
  simpa using hp
theorem hex_words : (ks5.all fun k => (List.range 64).all fun m => let p := wayP (wOf k m) (0, 0); decide (-3 ≤ p.1) && decide (p.1 ≤ 3) && decide (-3 ≤ p.2) && decide (p.2 ≤ 3) && decide (-3 ≤ p.1 - p.2) && decide (p.1 - p.2 ≤ 3)) = true := by decide +kernel
theorem hex_word {k m : Int} (hk : k ∈ ks5) (hm : 0 ≤ m ∧ m < 64) : Hex3 (wayP (wOf k m) (0, 0)) := by
  have h := List.all_eq_true.mp (List.all_eq_true.mp hex_words k hk) m.toNat (List.mem_range.mpr (by omega))
  rw [Int.toNat_of_nonneg hm.1] at h
  simp only [Bool.and_eq_true, decide_eq_true_eq] at h
  obtain ⟨⟨⟨⟨⟨a, b⟩, c⟩, d⟩, e⟩, f⟩ := h
  exact ⟨a, b, c, d, e, f⟩
theorem ws_hex (xs : List Int) : ∀ w ∈ wsL xs, Hex3 (wayP w (0, 0)) := by
  intro w hw
  obtain ⟨k, hk, rfl⟩ := List.mem_map.mp hw
  exact hex_word hk (numK_in xs (ks5_in hk))
theorem ws_box (xs : List Int) : InBox (wsL xs) := by
  intro w hw
  obtain ⟨a, b, c, d, _, _⟩ := ws_hex xs w hw
  exact ⟨⟨a, b⟩, c, d⟩
section
variable {xs : List Int} {z : P2}
theorem way_hex (hz : Hex3 z) : ∀ w ∈ wsL xs, Hex6 (wayP w z) := by
  intro w hw
  obtain ⟨a, b, c, d, e, f⟩ := ws_hex xs w hw
  obtain ⟨a', b', c', d', e', f'⟩ := hz
  rw [way_sub]
  refine ⟨?_, ?_, ?_, ?_, ?_, ?_⟩ <;> simp only <;> omega
/-- a word's line -/
noncomputable def lamW (z : P2) (w : Wd) : Nat := (lnP (wayP w z)).1
theorem lam_lt (z : P2) (w : Wd) : lamW z w < 180 := ln_lt _
/-- the words away from the spot -/
noncomputable def awW (xs : List Int) (z : P2) : List Wd := (wsL xs).filter fun w => notO (wayP w z)
noncomputable def lams (xs : List Int) (z : P2) : List Nat := (awW xs z).map (lamW z)
noncomputable def rrW (xs : List Int) (z : P2) (i : Nat) : List Wd := (wsL xs).filter fun w => notO (wayP w z) && (lamW z w == i)
theorem lower_nm {i : Nat} (hi : i < 180) : Txt.lower (nmK i) = nmK i := by rw [lower_seen (nm_k hi).lo, (nm_k hi).lolo]
theorem upper_nm {i : Nat} (hi : i < 180) : Txt.upper (nmK i) = upS (nmK i) := upper_seen (nm_k hi).lo
theorem lower_way (hz : Hex3 z) {w : Wd} (hw : w ∈ wsL xs) : Txt.lower (nameP (wayP w z)) = if notO (wayP w z) then nmK (lamW z w) else dash := by
  cases h : notO (wayP w z) with
  | false => rw [(name_zero h).1, low_dash]; rfl
  | true =>
    rw [name_ln (way_hex hz w hw) h, if_pos rfl]
    have hk := nm_k (lam_lt z w)
    show Txt.lower (if (lnP (wayP w z)).2 then upS (nmK (lamW z w)) else nmK (lamW z w)) = _
    split
    · rw [lower_seen hk.up, hk.loup]
    · exact lower_nm (lam_lt z w)
theorem way_dash (hz : Hex3 z) {w : Wd} (hw : w ∈ wsL xs) : (nameP (wayP w z) == dash) = !notO (wayP w z) := by
  cases h : notO (wayP w z) with
  | false => rw [(name_zero h).1]; rfl
  | true =>
    rw [name_ln (way_hex hz w hw) h]
    have hk := nm_k (lam_lt z w)
    show ((if (lnP (wayP w z)).2 then upS (nmK (lamW z w)) else nmK (lamW z w)) == dash) = false
    rw [beq_eq_false_iff_ne]
    split
    · exact hk.ndU
    · exact hk.nd
theorem low_lams (hz : Hex3 z) : lowL xs z = (lams xs z).map nmK := by
  unfold lowL keyL rwL lams awW
  rw [List.map_map, List.filter_map, List.map_map, List.map_map]
  have e : ((wsL xs).filter ((fun k => !(k == dash)) ∘ ((·.1) ∘ rowOf z))) = (wsL xs).filter fun w => notO (wayP w z) := by
    apply List.filter_congr
    intro w hw
    show (!(nameP (wayP w z) == dash)) = _
    rw [way_dash hz hw, Bool.not_not]
  rw [e]
  apply List.map_congr_left
  intro w hw
  obtain ⟨hw, h0⟩ := List.mem_filter.mp hw
  show Txt.lower (nameP (wayP w z)) = nmK (lamW z w)
  rw [lower_way hz hw, h0]; rfl
theorem getW_ws (x : Str) : getW (rwL xs z) x = (wsL xs).filter fun w => Txt.lower (nameP (wayP w z)) == Txt.lower x := by
  unfold getW rwL
  rw [List.filter_map, List.map_map]
  conv => rhs; rw [← List.map_id (List.filter _ _)]
  rfl
theorem getW_nm (hz : Hex3 z) {i : Nat} (hi : i < 180) : getW (rwL xs z) (nmK i) = rrW xs z i := by
  rw [getW_ws]
  unfold rrW
  apply List.filter_congr
  intro w hw
  rw [lower_way hz hw, lower_nm hi]
  cases h : notO (wayP w z) with
  | false =>
    rw [Bool.false_and, beq_eq_false_iff_ne]
    exact fun e => (nm_k hi).nd e.symm
  | true =>
    rw [if_pos rfl, Bool.true_and, Bool.eq_iff_iff, beq_iff_eq, beq_iff_eq]
    exact ⟨nm_inj (lam_lt z w) hi, fun e => by rw [e]⟩
theorem getW_dash (hz : Hex3 z) : getW (rwL xs z) dash = (wsL xs).filter fun w => !notO (wayP w z) := by
  rw [getW_ws]
  apply List.filter_congr
  intro w hw
  rw [lower_way hz hw, low_dash]
  cases h : notO (wayP w z) with
  | false => rw [if_neg (by decide)]; simp
  | true =>
    rw [if_pos rfl, beq_eq_false_iff_ne.mpr (nm_k (lam_lt z w)).nd]; rfl
theorem ws_at (xs : List Int) : wsL xs = ks5.map (pAt (wsL xs)) := rfl
theorem pw_mem {xs : List Int} {k : Int} (hk : k ∈ ks5) : pAt (wsL xs) k ∈ wsL xs := by
  have h : pAt (wsL xs) k ∈ ks5.map (pAt (wsL xs)) := List.mem_map.mpr ⟨k, hk, rfl⟩
  exact h
theorem vs_at (xs : List Int) (z : P2) {k : Int} (hk : k ∈ ks5) : wAt (vsL xs z) k = wayP (pAt (wsL xs) k) z := by
  unfold ks5 at hk
  simp only [List.mem_cons, List.not_mem_nil, or_false] at hk
  rcases hk with rfl | rfl | rfl | rfl | rfl <;> rfl
theorem aw_keys : awW xs z = (awayK (vsL xs z)).map (pAt (wsL xs)) := by
  unfold awW awayK
  conv => lhs; rw [ws_at xs]
  rw [List.filter_map]
  refine congrArg (List.map (pAt (wsL xs))) (List.filter_congr fun k hk => ?_)
  show notO (wayP (pAt (wsL xs) k) z) = _
  rw [vs_at xs z hk]
theorem dash_keys (hz : Hex3 z) : getW (rwL xs z) dash = (ks5.filter fun k => !notO (wAt (vsL xs z) k)).map (pAt (wsL xs)) := by
  rw [getW_dash hz]
  conv => lhs; rw [ws_at xs]
  rw [List.filter_map]
  refine congrArg (List.map (pAt (wsL xs))) (List.filter_congr fun k hk => ?_)
  show (!notO (wayP (pAt (wsL xs) k) z)) = _
  rw [vs_at xs z hk]
theorem rr_aw (i : Nat) : rrW xs z i = (awW xs z).filter fun w => lamW z w == i := by
  unfold rrW awW
  rw [List.filter_filter]
  apply List.filter_congr
  intro w _
  rw [Bool.and_comm]
theorem due_lams (hz : Hex3 z) : dueRows (wsL xs) (vsL xs z) = (lams xs z).map (rrW xs z) := by
  unfold dueRows lams
  rw [aw_keys, List.map_map, List.map_map]
  apply List.map_congr_left
  intro a ha
  have ha5 : a ∈ ks5 := (List.mem_filter.mp ha).1
  have ha0 : notO (wAt (vsL xs z) a) = true := (List.mem_filter.mp ha).2
  show dueRow _ _ a = rrW xs z (lamW z (pAt (wsL xs) a))
  rw [rr_aw, aw_keys, List.filter_map]
  unfold dueRow
  congr 1
  apply List.filter_congr
  intro b hb
  have hb5 : b ∈ ks5 := (List.mem_filter.mp hb).1
  have hb0 : notO (wAt (vsL xs z) b) = true := (List.mem_filter.mp hb).2
  rw [vs_at xs z ha5] at ha0 ⊢
  rw [vs_at xs z hb5] at hb0 ⊢
  have hma : pAt (wsL xs) a ∈ wsL xs := pw_mem ha5
  have hmb : pAt (wsL xs) b ∈ wsL xs := pw_mem hb5
  rw [(ahead_ln (way_hex hz _ hma) ha0 (way_hex hz _ hmb) hb0).2]
  show ((lnP (wayP (pAt (wsL xs) a) z)).1 == (lnP (wayP (pAt (wsL xs) b) z)).1) = ((lnP (wayP (pAt (wsL xs) b) z)).1 == (lnP (wayP (pAt (wsL xs) a) z)).1)
  rw [Bool.eq_iff_iff, beq_iff_eq, beq_iff_eq]
  exact eq_comm
theorem lams_lt : ∀ i ∈ lams xs z, i < 180 := by
  intro i hi
  obtain ⟨w, _, rfl⟩ := List.mem_map.mp hi
  exact lam_lt z w
theorem lams_len : (lams xs z).length ≤ 5 := by
  unfold lams awW
  rw [List.length_map]
  exact Nat.le_trans (List.length_filter_le _ _) (by rw [wsL_len]; decide)
theorem rr_ne {i : Nat} (hi : i ∈ lams xs z) : ∃ w r, rrW xs z i = w :: r ∧ w ∈ wsL xs ∧ lamW z w = i := by
  obtain ⟨w, hw, rfl⟩ := List.mem_map.mp hi
  have hm : w ∈ rrW xs z (lamW z w) := by
    rw [rr_aw]
    exact List.mem_filter.mpr ⟨hw, by simp⟩
  cases h : rrW xs z (lamW z w) with
  | nil => rw [h] at hm; cases hm
  | cons u r =>
    have hu : u ∈ rrW xs z (lamW z w) := by rw [h]; exact .head _
    have := List.mem_filter.mp hu
    refine ⟨u, r, rfl, this.1, ?_⟩
    have := this.2
    simp only [Bool.and_eq_true, beq_iff_eq] at this
    exact this.2
theorem first_words : (ks5.all fun k => (wOf k 0).1.toNat == 66 + k.toNat) = true := by decide +kernel
theorem first_word {k m : Int} (hk : k ∈ ks5) : (wOf k m).1.toNat = 66 + k.toNat := by
  have h : (wOf k m).1.toNat = (wOf k 0).1.toNat := rfl
  rw [h]
  simpa using List.all_eq_true.mp first_words k hk
theorem word_inj {w u : Wd} (hw : w ∈ wsL xs) (hu : u ∈ wsL xs) (h : w.1.toNat - 66 = u.1.toNat - 66) : w = u := by
  obtain ⟨k, hk, rfl⟩ := List.mem_map.mp hw
  obtain ⟨j, hj, rfl⟩ := List.mem_map.mp hu
  rw [first_word hk, first_word hj] at h
  have h1 := ks5_in hk
  have h2 := ks5_in hj
  have : k = j := by omega
  rw [this]
theorem word_first {w : Wd} (hw : w ∈ wsL xs) : 66 ≤ w.1.toNat ∧ w.1.toNat - 66 < 5 := by
  obtain ⟨k, hk, rfl⟩ := List.mem_map.mp hw
  rw [first_word hk]
  have := ks5_in hk
  omega
theorem rr_first {i j : Nat} (hi : i ∈ lams xs z) (hj : j ∈ lams xs z) (h : fkW (rrW xs z i) = fkW (rrW xs z j)) : i = j := by
  obtain ⟨w, r, e, hw, l⟩ := rr_ne hi
  obtain ⟨u, s, e', hu, l'⟩ := rr_ne hj
  rw [e, e'] at h
  have := word_inj hw hu h
  rw [← l, ← l', this]
/-- the lines met, each once, rising -/
noncomputable def lsL (xs : List Int) (z : P2) : List Nat := (List.range 180).filter fun i => (lams xs z).contains i
theorem ls_mem {i : Nat} : i ∈ lsL xs z ↔ i ∈ lams xs z := by
  unfold lsL
  rw [List.mem_filter, List.mem_range, List.contains_iff_mem]
  exact ⟨fun h => h.2, fun h => ⟨lams_lt i h, h⟩⟩
theorem ls_asc : (lsL xs z).Pairwise (· < ·) := (List.pairwise_lt_range).filter _
theorem ls_nodup : (lsL xs z).Nodup := ls_asc.imp fun h => Nat.ne_of_lt h
theorem ls_perm : (lsL xs z).Perm (onceG (lams xs z)) :=
  (List.perm_ext_iff_of_nodup ls_nodup (onceG_nodup _)).mpr fun i => by rw [ls_mem, onceG_mem]
end
end Mine
end
section
open PySem PySem.W PyProof.Rows PySem.Calls
set_option maxRecDepth 100000
namespace Mine
section
variable {xs : List Int} {z : P2}
/-- the lines and halves of the words away -/
noncomputable def wLn (xs : List Int) (z : P2) : List Ln := (awW xs z).map fun w => lnP (wayP w z)
theorem key_ws (xs : List Int) (z : P2) : keyL xs z = (wsL xs).map fun w => nameP (wayP w z) := by
  unfold keyL rwL
  rw [List.map_map]
  rfl
theorem cnt_ws (x : Str) : cntK (keyL xs z) x = (((wsL xs).filter fun w => nameP (wayP w z) == x).length : Int) := by
  unfold cntK
  rw [key_ws, List.filter_map, List.length_map]
  rfl
theorem cl_ws (u : Nat) (b : Bool) : clC (wLn xs z) u b = (((wsL xs).filter fun w => notO (wayP w z) && (lnP (wayP w z) == (u, b))).length : Int) := by
  unfold clC wLn awW
  rw [List.filter_map, List.length_map, List.filter_filter]
  congr 2
  apply List.filter_congr
  intro w _
  rw [Bool.and_comm]
  rfl
theorem up_inj {i j : Nat} (hi : i < 180) (hj : j < 180) (h : upS (nmK i) = upS (nmK j)) : i = j :=
  nm_inj hi hj (by rw [← (nm_k hi).loup, ← (nm_k hj).loup, h])
theorem up_low {i j : Nat} (hi : i < 180) (hj : j < 180) : upS (nmK i) ≠ nmK j := by
  intro h
  have e : nmK i = nmK j := by rw [← (nm_k hi).loup, h, (nm_k hj).lolo]
  exact (nm_k hi).ne (by rw [h, ← e])
theorem cnt_low (hz : Hex3 z) {i : Nat} (hi : i < 180) : cntK (keyL xs z) (nmK i) = clC (wLn xs z) i false := by
  rw [cnt_ws, cl_ws]
  congr 2
  apply List.filter_congr
  intro w hw
  cases h : notO (wayP w z) with
  | false =>
    rw [(name_zero h).1, Bool.false_and, beq_eq_false_iff_ne]
    exact fun e => (nm_k hi).nd e.symm
  | true =>
    rw [name_ln (way_hex hz w hw) h, Bool.true_and]
    have hl := ln_lt (wayP w z)
    cases hb : (lnP (wayP w z)).2 with
    | true =>
      rw [if_pos rfl, beq_eq_false_iff_ne.mpr (up_low hl hi), eq_comm, beq_eq_false_iff_ne]
      intro e; rw [e] at hb; cases hb
    | false =>
      rw [if_neg (by decide), Bool.eq_iff_iff, beq_iff_eq, beq_iff_eq]
      exact ⟨fun e => Prod.ext (nm_inj hl hi e) hb, fun e => by rw [e]⟩
theorem cnt_up (hz : Hex3 z) {i : Nat} (hi : i < 180) : cntK (keyL xs z) (Txt.upper (nmK i)) = clC (wLn xs z) i true := by
  rw [cnt_ws, cl_ws, upper_nm hi]
  congr 2
  apply List.filter_congr
  intro w hw
  cases h : notO (wayP w z) with
  | false =>
    rw [(name_zero h).1, Bool.false_and, beq_eq_false_iff_ne]
    exact fun e => (nm_k hi).ndU e.symm
  | true =>
    rw [name_ln (way_hex hz w hw) h, Bool.true_and]
    have hl := ln_lt (wayP w z)
    cases hb : (lnP (wayP w z)).2 with
    | false =>
      rw [if_neg (by decide), beq_eq_false_iff_ne.mpr (Ne.symm (up_low hi hl)), eq_comm, beq_eq_false_iff_ne]
      intro e; rw [e] at hb; cases hb
    | true =>
      rw [if_pos rfl, Bool.eq_iff_iff, beq_iff_eq, beq_iff_eq]
      exact ⟨fun e => Prod.ext (up_inj hl hi e) hb, fun e => by rw [e]⟩
theorem cnt_dash (hz : Hex3 z) : cntK (keyL xs z) dash = (((wsL xs).filter fun w => !notO (wayP w z)).length : Int) := by
  rw [cnt_ws]
  congr 2
  apply List.filter_congr
  intro w hw
  exact way_dash hz hw
theorem wln_len : ((wLn xs z).length : Int) = ((wsL xs).filter fun w => notO (wayP w z)).length := by
  unfold wLn awW
  rw [List.length_map]
theorem away_len (hz : Hex3 z) : ((keyL xs z).length : Int) - cntK (keyL xs z) dash = (wLn xs z).length := by
  rw [cnt_dash hz, wln_len, key_ws, List.length_map]
  have := filter_compl (fun w => notO (wayP w z)) (wsL xs)
  omega
theorem low_cnt (hz : Hex3 z) : (((keyL xs z).filter lowK).length : Int) = gC (wLn xs z) 0 := by
  rw [gC_zero]
  unfold wLn awW
  rw [key_ws, List.filter_map, List.length_map, List.filter_map, List.length_map, List.filter_filter]
  congr 2
  apply List.filter_congr
  intro w hw
  show lowK (nameP (wayP w z)) = (!(lnP (wayP w z)).2 && notO (wayP w z))
  unfold lowK
  rw [way_dash hz hw, Bool.not_not, lower_way hz hw]
  cases h : notO (wayP w z) with
  | false => rw [Bool.and_false]; rfl
  | true =>
    rw [name_ln (way_hex hz w hw) h, if_pos rfl, Bool.true_and, Bool.and_true]
    have hl := ln_lt (wayP w z)
    cases hb : (lnP (wayP w z)).2 with
    | false => rw [if_neg (by decide)]; exact beq_self_eq_true _
    | true => rw [if_pos rfl]; exact beq_eq_false_iff_ne.mpr (up_low hl hl)
theorem few_fold (hz : Hex3 z) : ∀ (ls : List Nat), (∀ i ∈ ls, i < 180) → ∀ x, (ls.map nmK).foldl (fewStep (keyL xs z) (wLn xs z).length) x = ls.foldl (stepW (wLn xs z)) x
  | [], _, _ => rfl
  | i :: ls, h, x => by
    have hi := h i (.head _)
    rw [List.map_cons, List.foldl_cons, List.foldl_cons]
    have e : fewStep (keyL xs z) (wLn xs z).length x (nmK i) = stepW (wLn xs z) x i := by
      unfold fewStep stepW
      rw [cnt_low hz hi, cnt_up hz hi]
    rw [e]
    exact few_fold hz ls (fun j hj => h j (.tail _ hj)) _
theorem vs_away : (vsL xs z).filter notO = (awW xs z).map fun w => wayP w z := by
  unfold vsL awW
  rw [List.filter_map]
  rfl
theorem ahead_cnt (hz : Hex3 z) : (((vsL xs z).filter notO).map fun a => ((((vsL xs z).filter notO).filter (aheadP a)).length : Int)) = (wLn xs z).map fun a => ((((wLn xs z).filter (ahd a)).length : Nat) : Int) := by
  rw [vs_away]
  unfold wLn
  rw [List.map_map, List.map_map]
  apply List.map_congr_left
  intro a ha
  obtain ⟨ha, ha0⟩ := List.mem_filter.mp ha
  show ((((awW xs z).map fun w => wayP w z).filter (aheadP (wayP a z))).length : Int) = ((((awW xs z).map fun w => lnP (wayP w z)).filter (ahd (lnP (wayP a z)))).length : Int)
  rw [List.filter_map, List.length_map, List.filter_map, List.length_map]
  congr 2
  apply List.filter_congr
  intro b hb
  obtain ⟨hb, hb0⟩ := List.mem_filter.mp hb
  exact (ahead_ln (way_hex hz _ ha) ha0 (way_hex hz _ hb) hb0).1
theorem few_depth (hz : Hex3 z) : fewestI (keyL xs z) ((lsL xs z).map nmK) = depthP (vsL xs z) := by
  unfold fewestI depthP
  rw [away_len hz, low_cnt hz, few_fold hz _ fun i hi => lams_lt i (ls_mem.mp hi), ahead_cnt hz]
  rw [few_core (W := wLn xs z) ?a ls_asc (fun i hi => lams_lt i (ls_mem.mp hi)) ?b ?c]
  · have h1 := away_len (xs := xs) hz
    have h2 : ((keyL xs z).length : Int) = (vsL xs z).length := by rw [key_ws]; unfold vsL; rw [List.length_map, List.length_map]
    omega
  case a =>
    intro x hx
    obtain ⟨w, _, rfl⟩ := List.mem_map.mp hx
    exact ln_lt _
  case b =>
    intro x hx
    obtain ⟨w, hw, rfl⟩ := List.mem_map.mp hx
    exact ls_mem.mpr (List.mem_map.mpr ⟨w, hw, rfl⟩)
  case c =>
    intro hne e
    apply hne
    have h0 : awW xs z = [] := List.map_eq_nil_iff.mp e
    apply List.eq_nil_iff_forall_not_mem.mpr
    intro i hi
    have := ls_mem.mp hi
    unfold lams at this
    rw [h0] at this
    cases this
end
/-- the plain law holds -/
theorem law_ok (xs : List Int) : ∃ z us names dr out, LawOk xs z us names dr out := by
  obtain ⟨z, hsp, hz⟩ := spot_ex (wsL_len xs) (ws_hex xs)
  have hinj : ∀ i ∈ lams xs z, ∀ j ∈ lams xs z, nmK i = nmK j → i = j := fun i hi j hj => nm_inj (lams_lt i hi) (lams_lt j hj)
  have hlo : (onceG (lams xs z)).length ≤ 5 := Nat.le_trans (onceG_len _) lams_len
  have hll : (lsL xs z).length ≤ 5 := by rw [ls_perm.length_eq]; exact hlo
  have hon : ∀ i ∈ onceG (lams xs z), i ∈ lams xs z := fun i hi => (onceG_mem _ i).mp hi
  have hlt : ∀ i ∈ lsL xs z, i < 180 := fun i hi => lams_lt i (ls_mem.mp hi)
  have bnd : (((onceG (lams xs z)).map (rrW xs z)).map fkW).Nodup := by
    rw [List.map_map]
    refine List.pairwise_map.mpr ((onceG_nodup (lams xs z)).imp_of_mem fun {i j} hi hj hne e => hne ?_)
    exact rr_first (hon i hi) (hon j hj) e
  have b5 : ∀ r ∈ (onceG (lams xs z)).map (rrW xs z), fkW r < 5 := by
    intro r hr
    obtain ⟨i, hi, rfl⟩ := List.mem_map.mp hr
    obtain ⟨w, s, e, hw, _⟩ := rr_ne (hon i hi)
    rw [e]
    exact (word_first hw).2
  have bne : ∀ r ∈ (onceG (lams xs z)).map (rrW xs z), r ≠ [] := by
    intro r hr
    obtain ⟨i, hi, rfl⟩ := List.mem_map.mp hr
    obtain ⟨w, s, e, hw, _⟩ := rr_ne (hon i hi)
    rw [e]
    exact List.cons_ne_nil _ _
  have bw : ∀ r ∈ (onceG (lams xs z)).map (rrW xs z), ∀ w ∈ r, 66 ≤ w.1.toNat := by
    intro r hr w hw
    obtain ⟨i, hi, rfl⟩ := List.mem_map.mp hr
    exact (word_first (List.mem_filter.mp hw).1).1
  have bl : ((onceG (lams xs z)).map (rrW xs z)).length ≤ 5 := by rw [List.length_map]; exact hlo
  refine ⟨z, (onceG (lams xs z)).map nmK, (lsL xs z).map nmK, (onceG (lams xs z)).map (rrW xs z), (ascK (((onceG (lams xs z)).map (rrW xs z)).map fkW)).map (rowAt ((onceG (lams xs z)).map (rrW xs z))), ?_⟩
  exact {
    box := ws_box xs
    spot := hsp
    small := fun p hp => by
      obtain ⟨w, hw, rfl⟩ := List.mem_map.mp hp
      obtain ⟨a, b, c, d, _, _⟩ := way_hex hz w hw
      omega
    turn := fun p hp => by
      obtain ⟨w, hw, rfl⟩ := List.mem_map.mp hp
      exact turn_any (way_hex hz w hw)
    once := by
      rw [low_lams hz, onceL_map D.str (fun _ _ => rfl), onceG_map nmK _ hinj]
    uslen := by rw [List.length_map]; omega
    perm := ls_perm.map _
    sorted := List.pairwise_map.mpr (ls_asc.imp_of_mem fun {i j} hi hj h => nm_le (hlt j hj) h)
    nlen := by rw [List.length_map]; exact hll
    nm := fun x hx => by
      obtain ⟨i, hi, rfl⟩ := List.mem_map.mp hx
      have hk := nm_k (hlt i hi)
      rw [lower_nm (hlt i hi)]
      have := hk.len
      exact ⟨by omega, by omega, seen_of hk.lo⟩
    rne := fun x hx => by
      obtain ⟨i, hi, rfl⟩ := List.mem_map.mp hx
      rw [getW_nm hz (hlt i hi)]
      obtain ⟨w, s, e, _, _⟩ := rr_ne (ls_mem.mp hi)
      rw [e]
      exact List.cons_ne_nil _ _
    srt1 := by
      have e : (((lsL xs z).map nmK).map fun x => tupW (getW (rwL xs z) x)) = ((lsL xs z).map (rrW xs z)).map tupW := by
        rw [List.map_map, List.map_map]
        apply List.map_congr_left
        intro i hi
        show tupW (getW (rwL xs z) (nmK i)) = _
        rw [getW_nm hz (hlt i hi)]; rfl
      rw [e]
      exact sorts_rows (ls_perm.map _) bnd b5 bne bw bl
    once2 := by
      rw [due_lams hz, onceL_map tupW tupW_eqD, onceG_map (rrW xs z) _ fun i hi j hj e => rr_first hi hj (by rw [e])]
    dne := bne
    dlen := bl
    srt2 := sorts_rows (List.Perm.refl _) bnd b5 bne bw bl
    dash := dash_keys hz
    few := few_depth hz }
end Mine
end
section
open PySem PySem.W PyProof.Rows PySem.Calls
set_option maxRecDepth 100000
namespace Mine
/-- an entry of a dict, a def's object, a method's -/
noncomputable def kE (P : Params) (x : Str) (t : Nat) (v : Value) : DictEntry := { hash := PyData.keyHash P x, key := .str x t, val := v }
noncomputable def fnO (i : Nat) (a : Addr) (m : String) (t : Nat) : Obj := { cls := .type "function", data := .func (fdOf (stmtAt i) a (nameOf (stmtAt i)) .none .none (.str (S m) t)) }
noncomputable def mtO (i : Nat) (a : Addr) (q : Str) (dfl : Value) : Obj := { cls := .type "function", data := .func (fdOf (mthAt i) a q dfl .none (.str (S "cpy313.wsgiref.headers") 289)) }
noncomputable def o3 (P : Params) : Obj := { cls := .type "dict", data := .dict #[kE P (S "__name__") 165 (.str (S "law_tp0029_01") 642), kE P (S "__doc__") 166 (.none), kE P (S "__package__") 167 (.none), kE P (S "__loader__") 168 (.builtin "__main__.__loader__#opaque"), kE P (S "__spec__") 169 (.none), kE P (S "__annotations__") 170 (.ref 6), kE P (S "__builtins__") 171 (.ref 4), kE P (S "__file__") 173 (.str (S "/claim/cut.py") 172), kE P (S "__cached__") 174 (.none), kE P (S "_sre") 275 (.ref 12), kE P (S "_wall") 288 (.ref 38), kE P (S "tspecials") 324 (.ref 43), kE P (S "_name_disallowed_re") 350 (.ref 48), kE P (S "_value_disallowed_re") 384 (.ref 53), kE P (S "_formatparam") 394 (.ref 61), kE P (S "Headers") 551 (.ref 182), kE P (S "rgb_to_hls") 572 (.ref 193), kE P (S "Flags") 623 (.ref 198), kE P (S "Int2AP") 633 (.ref 205), kE P (S "ParseFlags") 641 (.ref 212), kE P (S "_law_numbers") 649 (.ref 217), kE P (S "_law_plain") 657 (.ref 224), kE P (S "_law_way") 665 (.ref 231), kE P (S "_law_cross") 673 (.ref 238), kE P (S "_law_ahead") 682 (.ref 245), kE P (S "_law_depth") 688 (.ref 250), kE P (S "_law_outward") 694 (.ref 255), kE P (S "_law_spot") 700 (.ref 260), kE P (S "_law_once") 706 (.ref 265), kE P (S "_law_table") 723 (.ref 272), kE P (S "_law_row") 731 (.ref 279), kE P (S "_law_due") 737 (.ref 284), kE P (S "_law_fewest") 743 (.ref 289), kE P (S "law") 749 (.ref 294)] 34 }
noncomputable def o47 : Obj := { cls := .type "tuple", data := .seq #[.int 14 0, .int 10 0, .int 4 0, .int 1 0, .int 1 0, .int 22 0, .int 0 0, .int 31 0, .int 16 0, .int 127 0, .int 0 0, .int 13 0, .int 7 0, .int 22 0, .int 0 0, .int 31 0, .int 16 0, .int 127 0, .int 0 0, .int 1 0] }
noncomputable def o48 : Obj := { cls := .type "re.Pattern", data := .fields #[.str (S "[\\x00-\\x1F\\x7F]") 326, .int 32 349, .int 0 0, .none, .none, .ref 47, .int 0 0] }
noncomputable def o52 : Obj := { cls := .type "tuple", data := .seq #[.int 14 0, .int 14 0, .int 4 0, .int 1 0, .int 1 0, .int 9 0, .int 4294966783 0, .int 0 0, .int 0 0, .int 2147483648 0, .int 0 0, .int 0 0, .int 0 0, .int 0 0, .int 0 0, .int 13 0, .int 11 0, .int 9 0, .int 4294966783 0, .int 0 0, .int 0 0, .int 2147483648 0, .int 0 0, .int 0 0, .int 0 0, .int 0 0, .int 0 0, .int 1 0] }
noncomputable def o53 : Obj := { cls := .type "re.Pattern", data := .fields #[.str (S "[\\x00-\\x08\\x0A-\\x1F\\x7F]") 352, .int 32 383, .int 0 0, .none, .none, .ref 52, .int 0 0] }
noncomputable def o69 : Obj := { cls := .type "tuple", data := .seq #[.none] }
noncomputable def o75 : Obj := { cls := .type "code", data := .fields #[.str (S "__init__") 407, .str (S "Headers.__init__") 408, .str (S "/claim/cut.py") 409, .int 20 0, .int 2 0, .int 0 0, .int 0 0, .int 3 0, .ref 70, .bool true, .int 276 0, .ref 71, .none, .ref 72, .ref 73, .ref 74, .int 414 0, .int 20 0, .str (S "/claim/cut.py") 415] }
noncomputable def o82 : Obj := { cls := .type "code", data := .fields #[.str (S "_convert_string_type") 417, .str (S "Headers._convert_string_type") 418, .str (S "/claim/cut.py") 419, .int 30 0, .int 2 0, .int 0 0, .int 1 0, .int 3 0, .ref 77, .bool true, .int 276 0, .ref 78, .none, .ref 79, .ref 80, .ref 81, .int 424 0, .int 30 0, .str (S "/claim/cut.py") 425] }
noncomputable def o120 : Obj := { cls := .type "code", data := .fields #[.str (S "get_all") 465, .str (S "Headers.get_all") 466, .str (S "/claim/cut.py") 467, .int 55 0, .int 2 0, .int 0 0, .int 0 0, .int 3 0, .ref 117, .bool true, .int 276 0, .ref 118, .none, .none, .none, .ref 119, .int 468 0, .int 55 0, .str (S "/claim/cut.py") 469] }
noncomputable def o133 : Obj := { cls := .type "code", data := .fields #[.str (S "keys") 482, .str (S "Headers.keys") 483, .str (S "/claim/cut.py") 484, .int 66 0, .int 1 0, .int 0 0, .int 0 0, .int 3 0, .ref 130, .bool true, .int 276 0, .ref 131, .none, .none, .none, .ref 132, .int 485 0, .int 66 0, .str (S "/claim/cut.py") 486] }
noncomputable def o145 : Obj := { cls := .type "code", data := .fields #[.str (S "items") 494, .str (S "Headers.items") 495, .str (S "/claim/cut.py") 496, .int 72 0, .int 1 0, .int 0 0, .int 0 0, .int 3 0, .ref 140, .bool true, .int 276 0, .ref 141, .none, .ref 142, .ref 143, .ref 144, .int 498 0, .int 72 0, .str (S "/claim/cut.py") 499] }
noncomputable def o178 : Obj := { cls := .type "code", data := .fields #[.str (S "add_header") 530, .str (S "Headers.add_header") 531, .str (S "/claim/cut.py") 532, .int 87 0, .int 3 0, .int 0 0, .int 0 0, .int 11 0, .ref 173, .bool true, .int 276 0, .ref 174, .none, .ref 175, .ref 176, .ref 177, .int 540 0, .int 87 0, .str (S "/claim/cut.py") 541] }
noncomputable def o181 (P : Params) : Obj := { cls := .type "dict", data := .dict #[kE P (S "__module__") 402 (.str (S "cpy313.wsgiref.headers") 289), kE P (S "__firstlineno__") 406 (.int 18 405), kE P (S "__init__") 416 (.ref 76), kE P (S "_convert_string_type") 426 (.ref 83), kE P (S "__len__") 433 (.ref 90), kE P (S "__setitem__") 442 (.ref 97), kE P (S "__delitem__") 448 (.ref 102), kE P (S "__getitem__") 456 (.ref 109), kE P (S "__contains__") 464 (.ref 116), kE P (S "get_all") 470 (.ref 121), kE P (S "get") 481 (.ref 129), kE P (S "keys") 487 (.ref 134), kE P (S "values") 493 (.ref 139), kE P (S "items") 500 (.ref 146), kE P (S "__repr__") 507 (.ref 153), kE P (S "__str__") 513 (.ref 158), kE P (S "__bytes__") 520 (.ref 165), kE P (S "setdefault") 529 (.ref 172), kE P (S "add_header") 542 (.ref 179), kE P (S "__static_attributes__") 544 (.ref 180), kE P (S "__dict__") 546 (.ref 183), kE P (S "__weakref__") 548 (.ref 184), kE P (S "__doc__") 549 (.none)] 4 }
noncomputable def o182 : Obj := { cls := .type "type", data := .cls { name := S "Headers", bases := [.type "object"], mro := [.ref 182, .type "object"], ns := 181, qualname := S "Headers" }, slots := #[none, none, some (.str (S "Headers") 395), some (.str (S "Headers") 403), some (.builtin "object.__new__"), some (.bool true)] }
noncomputable def o192 : Obj := { cls := .type "code", data := .fields #[.str (S "rgb_to_hls") 554, .str (S "rgb_to_hls") 555, .str (S "/claim/cut.py") 556, .int 101 0, .int 3 0, .int 0 0, .int 0 0, .int 3 0, .ref 187, .bool true, .int 276 0, .ref 188, .none, .ref 189, .ref 190, .ref 191, .int 570 0, .int 101 0, .str (S "/claim/cut.py") 571] }
noncomputable def o195 (P : Params) : Obj := { cls := .type "dict", data := .dict #[kE P (S "flags") 618 (.int 1 619)] 1 }
noncomputable def o197 : Obj := { cls := .type "tuple", data := .seq #[.int 14 0, .int 4 0, .int 0 0, .int 8 0, .int 4294967295 0, .int 24 0, .int 5 0, .int 0 0, .int 4294967295 0, .int 2 0, .int 1 0, .int 16 0, .int 70 0, .int 16 0, .int 76 0, .int 16 0, .int 65 0, .int 16 0, .int 71 0, .int 16 0, .int 83 0, .int 16 0, .int 32 0, .int 16 0, .int 40 0, .int 17 0, .int 0 0, .int 24 0, .int 6 0, .int 0 0, .int 4294967295 0, .int 20 0, .int 41 0, .int 1 0, .int 17 0, .int 1 0, .int 16 0, .int 41 0, .int 1 0] }
noncomputable def o198 : Obj := { cls := .type "re.Pattern", data := .fields #[.bytes #[46, 42, 70, 76, 65, 71, 83, 32, 92, 40, 40, 63, 80, 60, 102, 108, 97, 103, 115, 62, 91, 94, 92, 41, 93, 42, 41, 92, 41] 576, .int 0 622, .int 1 0, .ref 195, .ref 196, .ref 197, .int 1 0] }
noncomputable def o204 : Obj := { cls := .type "code", data := .fields #[.str (S "Int2AP") 624, .str (S "Int2AP") 625, .str (S "/claim/cut.py") 626, .int 126 0, .int 1 0, .int 0 0, .int 0 0, .int 3 0, .ref 199, .bool true, .int 276 0, .ref 200, .none, .ref 201, .ref 202, .ref 203, .int 631 0, .int 126 0, .str (S "/claim/cut.py") 632] }
noncomputable def o211 : Obj := { cls := .type "code", data := .fields #[.str (S "ParseFlags") 634, .str (S "ParseFlags") 635, .str (S "/claim/cut.py") 636, .int 134 0, .int 1 0, .int 0 0, .int 0 0, .int 3 0, .ref 206, .bool true, .int 276 0, .ref 207, .none, .ref 208, .ref 209, .ref 210, .int 639 0, .int 134 0, .str (S "/claim/cut.py") 640] }
noncomputable def o216 : Obj := { cls := .type "code", data := .fields #[.str (S "_law_numbers") 644, .str (S "_law_numbers") 645, .str (S "/claim/cut.py") 646, .int 140 0, .int 1 0, .int 0 0, .int 0 0, .int 3 0, .ref 213, .bool true, .int 276 0, .ref 214, .none, .none, .none, .ref 215, .int 647 0, .int 140 0, .str (S "/claim/cut.py") 648] }
noncomputable def o223 : Obj := { cls := .type "code", data := .fields #[.str (S "_law_plain") 650, .str (S "_law_plain") 651, .str (S "/claim/cut.py") 652, .int 143 0, .int 2 0, .int 0 0, .int 0 0, .int 3 0, .ref 218, .bool true, .int 276 0, .ref 219, .none, .ref 220, .ref 221, .ref 222, .int 655 0, .int 143 0, .str (S "/claim/cut.py") 656] }
noncomputable def o230 : Obj := { cls := .type "code", data := .fields #[.str (S "_law_way") 658, .str (S "_law_way") 659, .str (S "/claim/cut.py") 660, .int 145 0, .int 2 0, .int 0 0, .int 0 0, .int 3 0, .ref 225, .bool true, .int 276 0, .ref 226, .none, .ref 227, .ref 228, .ref 229, .int 663 0, .int 145 0, .str (S "/claim/cut.py") 664] }
noncomputable def o237 : Obj := { cls := .type "code", data := .fields #[.str (S "_law_cross") 666, .str (S "_law_cross") 667, .str (S "/claim/cut.py") 668, .int 147 0, .int 2 0, .int 0 0, .int 0 0, .int 3 0, .ref 232, .bool true, .int 276 0, .ref 233, .none, .ref 234, .ref 235, .ref 236, .int 671 0, .int 147 0, .str (S "/claim/cut.py") 672] }
noncomputable def o244 : Obj := { cls := .type "code", data := .fields #[.str (S "_law_ahead") 674, .str (S "_law_ahead") 675, .str (S "/claim/cut.py") 676, .int 149 0, .int 2 0, .int 0 0, .int 0 0, .int 3 0, .ref 239, .bool true, .int 276 0, .ref 240, .none, .ref 241, .ref 242, .ref 243, .int 680 0, .int 149 0, .str (S "/claim/cut.py") 681] }
noncomputable def o249 : Obj := { cls := .type "code", data := .fields #[.str (S "_law_depth") 683, .str (S "_law_depth") 684, .str (S "/claim/cut.py") 685, .int 152 0, .int 1 0, .int 0 0, .int 0 0, .int 3 0, .ref 246, .bool true, .int 276 0, .ref 247, .none, .none, .none, .ref 248, .int 686 0, .int 152 0, .str (S "/claim/cut.py") 687] }
noncomputable def o254 : Obj := { cls := .type "code", data := .fields #[.str (S "_law_outward") 689, .str (S "_law_outward") 690, .str (S "/claim/cut.py") 691, .int 155 0, .int 1 0, .int 0 0, .int 0 0, .int 3 0, .ref 251, .bool true, .int 276 0, .ref 252, .none, .none, .none, .ref 253, .int 692 0, .int 155 0, .str (S "/claim/cut.py") 693] }
noncomputable def o259 : Obj := { cls := .type "code", data := .fields #[.str (S "_law_spot") 695, .str (S "_law_spot") 696, .str (S "/claim/cut.py") 697, .int 157 0, .int 1 0, .int 0 0, .int 0 0, .int 3 0, .ref 256, .bool true, .int 276 0, .ref 257, .none, .none, .none, .ref 258, .int 698 0, .int 157 0, .str (S "/claim/cut.py") 699] }
noncomputable def o264 : Obj := { cls := .type "code", data := .fields #[.str (S "_law_once") 701, .str (S "_law_once") 702, .str (S "/claim/cut.py") 703, .int 166 0, .int 1 0, .int 0 0, .int 0 0, .int 3 0, .ref 261, .bool true, .int 276 0, .ref 262, .none, .none, .none, .ref 263, .int 704 0, .int 166 0, .str (S "/claim/cut.py") 705] }
noncomputable def o271 : Obj := { cls := .type "code", data := .fields #[.str (S "_law_table") 707, .str (S "_law_table") 708, .str (S "/claim/cut.py") 709, .int 168 0, .int 2 0, .int 0 0, .int 0 0, .int 3 0, .ref 266, .bool true, .int 276 0, .ref 267, .none, .ref 268, .ref 269, .ref 270, .int 721 0, .int 168 0, .str (S "/claim/cut.py") 722] }
noncomputable def o278 : Obj := { cls := .type "code", data := .fields #[.str (S "_law_row") 724, .str (S "_law_row") 725, .str (S "/claim/cut.py") 726, .int 177 0, .int 2 0, .int 0 0, .int 0 0, .int 3 0, .ref 273, .bool true, .int 276 0, .ref 274, .none, .ref 275, .ref 276, .ref 277, .int 729 0, .int 177 0, .str (S "/claim/cut.py") 730] }
noncomputable def o283 : Obj := { cls := .type "code", data := .fields #[.str (S "_law_due") 732, .str (S "_law_due") 733, .str (S "/claim/cut.py") 734, .int 179 0, .int 2 0, .int 0 0, .int 0 0, .int 3 0, .ref 280, .bool true, .int 276 0, .ref 281, .none, .none, .none, .ref 282, .int 735 0, .int 179 0, .str (S "/claim/cut.py") 736] }
noncomputable def o288 : Obj := { cls := .type "code", data := .fields #[.str (S "_law_fewest") 738, .str (S "_law_fewest") 739, .str (S "/claim/cut.py") 740, .int 182 0, .int 2 0, .int 0 0, .int 0 0, .int 3 0, .ref 285, .bool true, .int 276 0, .ref 286, .none, .none, .none, .ref 287, .int 741 0, .int 182 0, .str (S "/claim/cut.py") 742] }
noncomputable def o293 : Obj := { cls := .type "code", data := .fields #[.str (S "law") 744, .str (S "law") 745, .str (S "/claim/cut.py") 746, .int 192 0, .int 1 0, .int 0 0, .int 0 0, .int 3 0, .ref 290, .bool true, .int 276 0, .ref 291, .none, .none, .none, .ref 292, .int 747 0, .int 192 0, .str (S "/claim/cut.py") 748] }
noncomputable def KK (P : Params) : Frag := [(3, o3 P), (47, o47), (48, o48), (52, o52), (53, o53), (69, o69), (75, o75), (76, mtO 0 76 (S "Headers.__init__") (.ref 69)), (82, o82), (83, mtO 1 83 (S "Headers._convert_string_type") (.none)), (120, o120), (121, mtO 7 121 (S "Headers.get_all") (.none)), (133, o133), (134, mtO 9 134 (S "Headers.keys") (.none)), (145, o145), (146, mtO 11 146 (S "Headers.items") (.none)), (178, o178), (179, mtO 16 179 (S "Headers.add_header") (.none)), (181, o181 P), (182, o182), (192, o192), (193, fnO 9 193 "cpy313.colorsys" 552), (195, o195 P), (197, o197), (198, o198), (204, o204), (205, fnO 12 205 "cpy313.imaplib" 573), (211, o211), (212, fnO 13 212 "cpy313.imaplib" 573), (216, o216), (217, fnO 15 217 "law_tp0029_01" 642), (223, o223), (224, fnO 16 224 "law_tp0029_01" 642), (230, o230), (231, fnO 17 231 "law_tp0029_01" 642), (237, o237), (238, fnO 18 238 "law_tp0029_01" 642), (244, o244), (245, fnO 19 245 "law_tp0029_01" 642), (249, o249), (250, fnO 20 250 "law_tp0029_01" 642), (254, o254), (255, fnO 21 255 "law_tp0029_01" 642), (259, o259), (260, fnO 22 260 "law_tp0029_01" 642), (264, o264), (265, fnO 23 265 "law_tp0029_01" 642), (271, o271), (272, fnO 24 272 "law_tp0029_01" 642), (278, o278), (279, fnO 25 279 "law_tp0029_01" 642), (283, o283), (284, fnO 26 284 "law_tp0029_01" 642), (288, o288), (289, fnO 27 289 "law_tp0029_01" 642), (293, o293), (294, fnO 28 294 "law_tp0029_01" 642)]
noncomputable def asK : List Addr := [3, 47, 48, 52, 53, 69, 75, 76, 82, 83, 120, 121, 133, 134, 145, 146, 178, 179, 181, 182, 192, 193, 195, 197, 198, 204, 205, 211, 212, 216, 217, 223, 224, 230, 231, 237, 238, 244, 245, 249, 250, 254, 255, 259, 260, 264, 265, 271, 272, 278, 279, 283, 284, 288, 289, 293, 294]
end Mine
end
section
open PySem PySem.W PyProof.Rows PySem.Calls
set_option maxRecDepth 100000
set_option maxHeartbeats 0
namespace Mine
noncomputable abbrev TW := Fast.tw14364793385576792824
noncomputable abbrev OS := Fast.tw4187177175401517315
noncomputable abbrev IM := Fast.tw5923862056798008813
noncomputable def buildT : List Obj → BT → Nat → Option BT
  | [], t, _ => some t
  | o :: r, t, n => match ((t.ins n o).get n).isSome with
    | true => buildT r (t.ins n o) (n + 1)
    | false => none
theorem buildT_abs (life : Life) : ∀ (l : List Obj) (t : BT) (n : Nat) (t' : BT), buildT l t n = some t' → absHeap t' (n + l.length) life = ⟨(absHeap t n life).objs ++ l.toArray, life⟩
  | [], t, n, t', h => by cases h; simp; rfl
  | o :: r, t, n, t', h => by
    unfold buildT at h
    cases hs : ((t.ins n o).get n).isSome with
    | false => rw [hs] at h; cases h
    | true =>
      rw [hs] at h
      have ih := buildT_abs life r _ _ _ h
      rw [absHeap_ins hs] at ih
      have e : n + (o :: r).length = n + 1 + r.length := by rw [List.length_cons]; omega
      rw [e, ih]
      show Heap.mk _ _ = Heap.mk _ _
      refine congrArg (Heap.mk · life) ?_
      show (absHeap t n life).objs.push o ++ r.toArray = _
      simp
noncomputable def toT (s : Shared) : Option SharedT := (buildT s.heap.objs.toList .nil 0).map fun t => ⟨t, s.heap.objs.size, s.heap.life, s.gens, s.drawn, s.toks, s.os⟩
theorem toT_abs {s : Shared} {t : SharedT} (h : toT s = some t) : t.abs = s := by
  unfold toT at h
  obtain ⟨b, hb, rfl⟩ := Option.map_eq_some_iff.mp h
  have e := buildT_abs s.heap.life _ _ _ _ hb
  obtain ⟨⟨objs, life⟩, gens, drawn, toks, os⟩ := s
  show Shared.mk (absHeap b objs.size life) gens drawn toks os = _
  have e' : absHeap b objs.size life = ⟨objs, life⟩ := by
    have : (0 + objs.toList.length) = objs.size := by simp
    rw [← this]
    rw [e]
    show Heap.mk _ _ = Heap.mk _ _
    refine congrArg (Heap.mk · life) ?_
    show ((BT.nil.list 0).toArray ++ objs.toList.toArray) = objs
    simp [BT.list]
  rw [e']
noncomputable def topRunT (tb : String → Option Builtin) (p : Program) (w : World) (n₀ : Nat) (ann : Option Value) : Nat → SharedT → Thread → Option SharedT
  | 0, _, _ => none
  | n + 1, s, t => match through t with
    | true => some s
    | false => match stepOk n₀ ann t with
      | false => none
      | true => match stepT (denote tb) p w s t with
        | some (s', t') => topRunT tb p w n₀ ann n s' t'
        | none => none
theorem topRunT_of {tb : String → Option Builtin} {p : Program} {w : World} {n₀ : Nat} {ann : Option Value} : ∀ {n : Nat} {s s' : SharedT} {t : Thread}, topRunT tb p w n₀ ann n s t = some s' → topRun tb p w n₀ ann n s.abs t = some s'.abs
  | 0, _, _, _, h => by cases h
  | n + 1, s, s', t, h => by
    unfold topRunT at h
    unfold topRun
    cases he : through t with
    | true => rw [he] at h; cases h; rfl
    | false =>
      rw [he] at h
      cases hk : stepOk n₀ ann t with
      | false => rw [hk] at h; cases h
      | true =>
        rw [hk] at h
        cases hs : stepT (denote tb) p w s t with
        | none => rw [hs] at h; cases h
        | some r => obtain ⟨s₂, t₂⟩ := r; rw [hs] at h; dsimp only; rw [stepT_spec hs]; exact topRunT_of h
noncomputable def impT (tb : String → Option Builtin) (prog : Program) (w : World) : Nat → SharedT → Thread → Option SharedT
  | 0, _, _ => none
  | n + 1, s, t => match t.atExitBegin with
    | some [] => some s
    | some (_ :: _) => none
    | none => match stepT (denote tb) prog w s t with
      | some (s', t') => impT tb prog w n s' t'
      | none => none
theorem impT_of {tb : String → Option Builtin} {p : Program} {w : World} : ∀ {n : Nat} {s s' : SharedT} {t : Thread}, impT tb p w n s t = some s' → importEnds tb p w n s.abs t = some s'.abs
  | 0, _, _, _, h => by cases h
  | n + 1, s, s', t, h => by
    unfold impT at h
    unfold importEnds
    cases he : t.atExitBegin with
    | some x => cases x with
      | nil => rw [he] at h; cases h; rfl
      | cons => rw [he] at h; cases h
    | none =>
      rw [he] at h
      cases hs : stepT (denote tb) p w s t with
      | none => rw [hs] at h; cases h
      | some r => obtain ⟨s₂, t₂⟩ := r; rw [hs] at h; dsimp only; rw [stepT_spec hs]; exact impT_of h
noncomputable def startT (p : Program) : SharedT := ⟨.nil, 0, (start (opening p)).1.heap.life, (start (opening p)).1.gens, (start (opening p)).1.drawn, (start (opening p)).1.toks, (start (opening p)).1.os⟩
theorem startT_abs (p : Program) : (startT p).abs = (start (opening p)).1 := rfl
noncomputable def openT (tb : String → Option Builtin) (p : Program) (w : World) (N : Nat) : Option Shared :=
  (impT tb (opening p) w N (startT p) (start (opening p)).2).bind fun t => (fenceModules? p t.abs).bind fun s₀ =>
    match s₀.heap.isNs mainGlobals && s₀.gens.size == 0 with
    | true => (toT s₀).bind fun t₀ => (topRunT tb p w s₀.heap.objs.size (s₀.heap.nsMap mainGlobals "__annotations__") N t₀ (topStub p)).bind fun t₁ =>
      match staticsOk (importedModules p.main.body) s₀.heap t₁.abs.heap && namesBound p t₁.abs.heap && gensDone t₁.abs && laidKept s₀.heap t₁.abs.heap with
      | true => some t₁.abs
      | false => none
    | false => none
theorem openT_of {tb : String → Option Builtin} {p : Program} {w : World} {N : Nat} {s : Shared} (h : openT tb p w N = some s) : openEnds tb p w N = some s := by
  unfold openT at h
  obtain ⟨t, h1, h⟩ := Option.bind_eq_some_iff.mp h
  obtain ⟨s₀, h2, h⟩ := Option.bind_eq_some_iff.mp h
  have e1 := impT_of h1
  rw [startT_abs] at e1
  unfold openEnds fencedOpening
  rw [e1]
  show ((fenceModules? p t.abs).bind _) = _
  rw [h2]
  show topFrom tb p w N s₀ = _
  unfold topFrom
  split at h
  · rename_i hb
    rw [hb]
    dsimp only
    obtain ⟨t₀, h3, h⟩ := Option.bind_eq_some_iff.mp h
    obtain ⟨t₁, h4, h⟩ := Option.bind_eq_some_iff.mp h
    have e2 := topRunT_of h4
    rw [toT_abs h3] at e2
    rw [e2]
    exact h
  · cases h
noncomputable def qV : Program := view pw [0, 1, 3, 4, 5, 7, 9, 11, 12, 13, 15, 16, 17, 18, 19, 20, 21, 22, 23, 24, 25, 26, 27, 28]
noncomputable def looseL : List Str := [Str.ofString "tspecials", Str.ofString "_name_disallowed_re", Str.ofString "_value_disallowed_re", Str.ofString "_formatparam", Str.ofString "Flags"]
noncomputable def rW : RowW := PySem.Challenge.rw_tp0029_01.row.toRowW
noncomputable def Xt : Shared → Bool := fun s => xlAt qV [] s && recOk (RowW.records rW) s
noncomputable def Yf : Shared → List (Option Obj) := fun s => asK.map s.heap.get?
noncomputable def Ya : World → List (Option Obj) := fun w => (KK w.params).map fun p => some p.2
theorem left1 : ∀ w : World, (openT TW pw (w.withFollow "special-get-raises" false) 3430).map (fun s => (OS qV looseL (IM pw.main.body) Xt true s, Yf s)) = some (openGood qV looseL, Ya (w.withFollow "special-get-raises" false)) := by
  intro w
  kernel_rfl
theorem left2 : ∀ w : World, (openT TW pw (w.withFollow "special-get-raises" true) 3430).map (fun s => (OS qV looseL (IM pw.main.body) Xt true s, Yf s)) = some (openGood qV looseL, Ya (w.withFollow "special-get-raises" true)) := by
  intro w
  kernel_rfl
theorem left : LeftO pw qV looseL Xt Yf Ya 3430 := byRow2 "special-get-raises" (P := fun w => (openEnds treeTable pw w 3430).map (fun s => (openSeen qV looseL (importedModules pw.main.body) Xt true s, Yf s)) = some (openGood qV looseL, Ya w))
  (fun w => by
    have h := left1 w
    obtain ⟨s, hs, h⟩ := Option.map_eq_some_iff.mp h
    rw [Fast.te14364793385576792824, openT_of hs, Fast.te4187177175401517315, Fast.te5923862056798008813]
    exact congrArg some h)
  (fun w => by
    have h := left2 w
    obtain ⟨s, hs, h⟩ := Option.map_eq_some_iff.mp h
    rw [Fast.te14364793385576792824, openT_of hs, Fast.te4187177175401517315, Fast.te5923862056798008813]
    exact congrArg some h)
end Mine
end
section
open PySem PySem.W PyProof.Rows PySem.Calls
set_option maxRecDepth 100000
namespace Mine
/-- the top's names -/
noncomputable def esOf (o : Obj) : Array DictEntry := match o.data with
  | .dict es _ => es
  | _ => #[]
noncomputable def mg3 (P : Params) (x : Str) : Option Value := nsFind (esOf (o3 P)) x
theorem str_keys {es : Array DictEntry} (h : (es.toList.all fun e => match e.key with | .str _ _ => true | _ => false) = true) : StrKeys es := by
  intro e he
  have := List.all_eq_true.mp h e (by simpa using he)
  cases hk : e.key <;> rw [hk] at this <;> first | exact ⟨_, _, rfl⟩ | cases this
theorem lookup_all {l : List (Str × Option Value)} {m : Str → Option Value} (h : l.map (fun e => m e.1) = l.map (·.2)) {x : Str} {v : Option Value} (hx : l.lookup x = some v) : m x = v :=
  List.map_inj_left.mp h (x, v) (mem_of_lookup' hx)
/-- what the top holds under a name, as far as it is asked -/
noncomputable def topTab : List (Str × Option Value) := [(S "type", none), (S "str", none), (S "list", none), (S "_name_disallowed_re", some (.ref 48)), (S "_value_disallowed_re", some (.ref 53)), (S "Headers", some (.ref 182)), (S "_law_way", some (.ref 231)), (S "rgb_to_hls", some (.ref 193)), (S "int", none), (S "Int2AP", some (.ref 205)),
  (S "max", none), (S "min", none), (S "abs", none), (S "divmod", none), (S "Flags", some (.ref 198)), (S "tuple", none), (S "range", none), (S "sum", none), (S "bytes", none), (S "sorted", none), (S "len", none), (S "enumerate", none), (S "_law_numbers", some (.ref 217)), (S "_law_plain", some (.ref 224)), (S "_law_cross", some (.ref 238)), (S "_law_ahead", some (.ref 245)),
  (S "_law_depth", some (.ref 250)), (S "_law_outward", some (.ref 255)), (S "_law_spot", some (.ref 260)), (S "_law_once", some (.ref 265)), (S "_law_table", some (.ref 272)), (S "_law_row", some (.ref 279)), (S "_law_due", some (.ref 284)), (S "_law_fewest", some (.ref 289)), (S "ParseFlags", some (.ref 212))]
theorem top_tab (P : Params) : topTab.map (fun e => mg3 P e.1) = topTab.map (·.2) := by kernel_rfl
section
variable {c : Cx} (hK : c.K = KK c.w.params)
include hK
theorem k_at {h : Heap} (hk : c.K.In h) (a : Addr) (o : Obj) (e : (KK c.w.params).lookup a = some o) : h.get? a = some o := hk a o (by rw [hK]; exact e)
theorem fn_obj (i : Nat) (a : Addr) (m : String) (t : Nat) (oc : Obj) (vs : Array Value) (u : Tok) (e1 : (KK c.w.params).lookup a = some (fnO i a m t)) (e2 : (KK c.w.params).lookup (a - 1) = some oc) (e3 : oc.data = .fields vs) (e4 : vs[1]? = some (.str (nameOf (stmtAt i)) u)) : FnObj c (stmtAt i) a :=
  ⟨.str (S m) t, fun h hk => ⟨⟨_, k_at hK hk _ _ e1, rfl⟩, _, _, _, _, rfl, k_at hK hk _ _ e2, e3, e4⟩⟩
theorem mt_obj (i : Nat) (a : Addr) (q : Str) (dfl : Value) (oc : Obj) (vs : Array Value) (u : Tok) (e1 : (KK c.w.params).lookup a = some (mtO i a q dfl)) (e2 : (KK c.w.params).lookup (a - 1) = some oc) (e3 : oc.data = .fields vs) (e4 : vs[1]? = some (.str q u)) : MObj c (mthAt i) a q dfl :=
  ⟨.str (S "cpy313.wsgiref.headers") 289, fun h hk => ⟨⟨_, k_at hK hk _ _ e1, rfl, rfl⟩, _, _, _, _, rfl, k_at hK hk _ _ e2, e3, e4⟩⟩
theorem pat_obj (a : Addr) (o o' : Obj) (fs : Array Value) (tu : Addr) (n : Nat) (vs : Array Value) (code : Array Nat) (g k : Int) (e1 : (KK c.w.params).lookup a = some o) (e2 : (KK c.w.params).lookup tu = some o') (h1 : o.cls = .type "re.Pattern" ∧ o.dict = none ∧ o.data = .fields fs ∧ fs.getD 5 .none = .ref tu ∧ fs.getD 6 .none = .int k 0 ∧ fs.getD 2 .none = .int g 0)
    (h2 : o'.data = .seq vs n ∧ (vs.map Builtin.Re.reRawOf).map (·.toNat) = code) : PatObj c a code g k := by
  obtain ⟨a1, a2, a3, a4, a5, a6⟩ := h1
  obtain ⟨b1, b2⟩ := h2
  exact fun h hk => ⟨o, fs, tu, k_at hK hk _ _ e1, a1, a2, a3, a4, a5, a6, o', n, vs, k_at hK hk _ _ e2, b1, b2⟩
theorem h_obj : HObj c := by
  intro h hk
  refine ⟨⟨_, _, _, _, _, _, _, _, _, _, _, _, k_at hK hk 182 o182 rfl⟩, nsFind (esOf (o181 c.w.params)), ⟨_, _, _, k_at hK hk 181 _ rfl, rfl, str_keys (by kernel_rfl), fun _ => rfl⟩, fun x v hx => ?_⟩
  refine lookup_all (l := clsTab) ?_ hx
  kernel_rfl
theorem flags_dict : FlagsDict c := by
  intro h hk
  refine ⟨_, _, _, k_at hK hk 195 _ rfl, ⟨rfl, rfl, rfl⟩, rfl, fun e he => ?_, fun k => ?_⟩
  · have : e = kE c.w.params (S "flags") 618 (.int 1 619) := by simpa using he
    subst this
    exact ⟨S "flags", by kernel_rfl, rfl⟩
  · have hf : (PySem.strKind pw c.w).is (S "flags") (.str (S "flags") 618) = true := by
      show Value.isStrOf (S "flags") (.str (S "flags") 618) = true
      kernel_rfl
    have hd := fun y => (PySem.strKind pw c.w).is_eq_decide (k := S "flags") hf y
    show findBy (PySem.strKind pw c.w).is (#[].push ⟨PyData.keyHash c.w.params (S "flags"), .str (S "flags") 618, .int 1 619⟩) k = _
    rw [findBy_push (PySem.strKind pw c.w).is #[] (S "flags") k _ _ _ hd (by simp)]
    rfl
theorem l_glo (hm : c.mg = mg3 c.w.params) : LGlo c := by
  have M : ∀ x v, topTab.lookup x = some v → c.mg x = v := fun x v hx => by rw [hm]; exact lookup_all (m := mg3 c.w.params) (top_tab _) hx
  exact {
    typ := M _ _ rfl
    str := M _ _ rfl
    lst := M _ _ rfl
    nre := M _ _ rfl
    vre := M _ _ rfl
    np := pat_obj hK 48 o48 o47 _ _ _ _ _ _ _ rfl rfl ⟨rfl, rfl, rfl, rfl, rfl, rfl⟩ ⟨rfl, by kernel_rfl⟩
    vp := pat_obj hK 53 o53 o52 _ _ _ _ _ _ _ rfl rfl ⟨rfl, rfl, rfl, rfl, rfl, rfl⟩ ⟨rfl, by kernel_rfl⟩
    cls := h_obj hK
    conv := mt_obj hK 1 83 (S "Headers._convert_string_type") .none o82 _ _ rfl rfl rfl rfl
    ini := mt_obj hK 0 76 (S "Headers.__init__") (.ref 69) o75 _ _ rfl rfl rfl rfl
    dfl := fun h hk => ⟨_, _, k_at hK hk 69 _ rfl, rfl⟩
    hdg := M _ _ rfl
    wayg := M _ _ rfl
    hlsg := M _ _ rfl
    intg := M _ _ rfl
    apg := M _ _ rfl
    maxg := M _ _ rfl
    ming := M _ _ rfl
    absg := M _ _ rfl
    dmg := M _ _ rfl
    way := fn_obj hK 17 231 "law_tp0029_01" 642 o230 _ _ rfl rfl rfl rfl
    hls := fn_obj hK 9 193 "cpy313.colorsys" 552 o192 _ _ rfl rfl rfl rfl
    ap := fn_obj hK 12 205 "cpy313.imaplib" 573 o204 _ _ rfl rfl rfl rfl
    add := mt_obj hK 16 179 (S "Headers.add_header") .none o178 _ _ rfl rfl rfl rfl
    flg := M _ _ rfl
    tup := M _ _ rfl
    pat := pat_obj hK 198 o198 o197 _ _ _ _ _ _ _ rfl rfl ⟨rfl, rfl, rfl, rfl, rfl, rfl⟩ ⟨rfl, by kernel_rfl⟩
    dic := flags_dict hK
    obj := fun h hk => ⟨_, _, k_at hK hk 198 _ rfl, rfl, rfl⟩
    rng := M _ _ rfl
    sumg := M _ _ rfl
    byt := M _ _ rfl
    srt := M _ _ rfl
    len := M _ _ rfl
    enu := M _ _ rfl
    numg := M _ _ rfl
    plg := M _ _ rfl
    crg := M _ _ rfl
    ahg := M _ _ rfl
    deg := M _ _ rfl
    oug := M _ _ rfl
    spg := M _ _ rfl
    ong := M _ _ rfl
    tag := M _ _ rfl
    rog := M _ _ rfl
    dug := M _ _ rfl
    feg := M _ _ rfl
    pfg := M _ _ rfl
    num := fn_obj hK 15 217 "law_tp0029_01" 642 o216 _ _ rfl rfl rfl rfl
    pla := fn_obj hK 16 224 "law_tp0029_01" 642 o223 _ _ rfl rfl rfl rfl
    cro := fn_obj hK 18 238 "law_tp0029_01" 642 o237 _ _ rfl rfl rfl rfl
    ahe := fn_obj hK 19 245 "law_tp0029_01" 642 o244 _ _ rfl rfl rfl rfl
    dep := fn_obj hK 20 250 "law_tp0029_01" 642 o249 _ _ rfl rfl rfl rfl
    out := fn_obj hK 21 255 "law_tp0029_01" 642 o254 _ _ rfl rfl rfl rfl
    spo := fn_obj hK 22 260 "law_tp0029_01" 642 o259 _ _ rfl rfl rfl rfl
    onc := fn_obj hK 23 265 "law_tp0029_01" 642 o264 _ _ rfl rfl rfl rfl
    tab := fn_obj hK 24 272 "law_tp0029_01" 642 o271 _ _ rfl rfl rfl rfl
    row := fn_obj hK 25 279 "law_tp0029_01" 642 o278 _ _ rfl rfl rfl rfl
    due := fn_obj hK 26 284 "law_tp0029_01" 642 o283 _ _ rfl rfl rfl rfl
    few := fn_obj hK 27 289 "law_tp0029_01" 642 o288 _ _ rfl rfl rfl rfl
    par := fn_obj hK 13 212 "cpy313.imaplib" 573 o211 _ _ rfl rfl rfl rfl
    law := fn_obj hK 28 294 "law_tp0029_01" 642 o293 _ _ rfl rfl rfl rfl
    ite := mt_obj hK 11 146 (S "Headers.items") .none o145 _ _ rfl rfl rfl rfl
    key := mt_obj hK 9 134 (S "Headers.keys") .none o133 _ _ rfl rfl rfl rfl
    gal := mt_obj hK 7 121 (S "Headers.get_all") .none o120 _ _ rfl rfl rfl rfl }
end
end Mine
end
section
open PySem PySem.W PyProof.Rows PySem.Calls
set_option maxRecDepth 100000
namespace Mine
noncomputable def posOf : Stmt → Pos
  | .FunctionDef _ _ _ _ _ _ _ _ _ p => p
  | _ => default
noncomputable def lawD : DefRec := ⟨S "law", paramsOf (stmtAt 28), bodyOf (stmtAt 28), scopeOf (stmtAt 28), posOf (stmtAt 28)⟩
theorem law_def : defOf qV (S "law") = some (lawD, []) := by kernel_rfl
theorem law_the : pw.theDef (S "law") = some (lawD.params, lawD.body, lawD.scope) := by kernel_rfl
theorem law_kw : kwWritten? lawD.params.kwonlyargs lawD.params.kw_defaults = some [] := by kernel_rfl
theorem said : PySem.Challenge.rw_tp0029_01.wellSaid = true := by kernel_rfl
theorem zip_in {h : Heap} : ∀ (l : Frag), (l.map (·.1)).map h.get? = (l.map fun p => some p.2) → Frag.In l h
  | [], _, a, o, e => by cases e
  | (b, x) :: r, he, a, o, e => by
    rw [List.map_cons, List.map_cons, List.map_cons, List.cons.injEq] at he
    rw [List.lookup_cons] at e
    by_cases hab : a = b
    · subst hab
      rw [beq_self_eq_true] at e
      exact he.1.trans e
    · rw [beq_eq_false_iff_ne.mpr hab] at e
      exact zip_in r he.2 a o e
theorem k_addrs (P : Params) : (KK P).map (·.1) = asK := by kernel_rfl
theorem y_in (w : World) (s : Shared) (h : Yf s = Ya w) : Frag.In (KK w.params) s.heap :=
  zip_in _ (by rw [k_addrs]; exact h)
theorem mg_is {P : Params} {h : Heap} {mg : Str → Option Value} (hk : Frag.In (KK P) h) (hn : h.Ns mainGlobals mg) : mg = mg3 P := by
  obtain ⟨o, es, ep, ho, hd, _, hf⟩ := hn
  have h3 : h.get? mainGlobals = some (o3 P) := hk 3 _ rfl
  rw [h3] at ho
  cases ho
  cases hd
  funext x
  exact (hf x).symm
theorem law_at (P : Params) : mg3 P (S "law") = some (.ref 294) := by kernel_rfl
theorem room : Room 5 callerA := ⟨rfl, by decide, by decide⟩
theorem walk_end {w : World} {s₀ s₁ : Shared} {mg mb : Str → Option Value} {R : WRecords} {XP : (Str → Option Value) → Heap → Prop} {a l : Addr} {xs : List Int} {vs : List Value}
    (G : Ground qV looseL R XP w s₀ mg mb s₁.heap) (Y : Frag.In (KK w.params) s₁.heap) (hm : mg (S "law") = some (.ref a)) (hg : s₁.gens = #[]) (hL : s₁.heap.IsList l vs.toArray) (hI : IntsAre vs xs) (hx : xs.length < 64)
    {c : ClaimW} {args : List WData} {cl : Str → Option Addr} {mean : ExcName → Option Value} (hr : ∀ e, c.raises args e = false) (hp : c.post args (.bool true) args = true) :
    wpAny (model pw w) callerA (call (.ref a) [.ref l]) (fun v s' => GoodWG c cl mean args s₁ (.ok (.ret v)) s') (fun e s' => GoodWG c cl mean args s₁ (.error e) s') s₁ := by
  have em := mg_is Y G.T.g
  have ea : a = 294 := by
    rw [em, law_at] at hm
    cases hm; rfl
  subst ea
  let C : Cx := ⟨w, KK w.params, mg⟩
  have L : LGlo C := l_glo rfl em
  obtain ⟨z, us, names, dr, out, ok⟩ := law_ok xs
  have GL : Glo C (fun _ => False) s₁.heap := ⟨⟨G.T.g, ⟨mb, G.T.b, G.T.builtins⟩, G.T.nolimit, Y⟩, fun _ q => q.elim⟩
  refine fn_law (n := 0) L ok hx (fun _ => False) callerA _ s₁ [.ref l] _ room GL (.cons (.lst (fun q => q) hL (ints_reps hI)) .nil) fun v s' k r => ?_
  cases r
  obtain ⟨h', tk, rfl, kk⟩ := k
  exact ⟨.inl ⟨_, _, [], rfl, hr, ReadsW.bool true, hp, fun _ => ⟨List.nodup_nil, fun _ hm => nomatch hm⟩⟩, OldK.of_keep kk, rfl, hg ▸ AllBare.empty⟩
end Mine
end
open PySem PySem.W PyProof.Rows PySem.Calls
set_option maxRecDepth 100000 in
set_option maxHeartbeats 8000000 in
theorem PySem.Challenge.cw_tp0029_01_holds : PySem.Challenge.rw_tp0029_01.Holds := by
  w_on
  refine holds_law Mine.said fun said => ?_
  refine holds_open (q := Mine.qV) (loose := Mine.looseL) (Xt := Mine.Xt) (XP := XL Mine.qV []) (Yf := Mine.Yf) (Ya := Mine.Ya) (YP := fun w h => Frag.In (Mine.KK w.params) h) (d := Mine.lawD) (kwd := []) (N := 3430) Mine.left Mine.y_in (fun w h h' k kk a o e => kk a o (k a o e)) (fun s e => xl_of s (Bool.and_eq_true_iff.mp e).1) XL.keeps Mine.law_def Mine.law_the Mine.law_kw (fun s e => recFacts_of (Bool.and_eq_true_iff.mp e).2) (by rfl) said (by decide +kernel) ⟨rfl, rfl, rfl, rfl, rfl, by decide +kernel⟩ ?hw ?hc
  case hw => w_witness2
  case hc =>
    intro w s₀ s₁ mg mb G Y a o pm cd doc dV kV ho hd hcd hD hmg hg args vals as hpre hlay hrd hwl hlo
    clear ho hd hcd hD
    replace hmg : mg (Str.ofString "law") = some (.ref a) := hmg
    wrow_args hpre hlay hrd hwl hlo
    refine Mine.walk_end G Y hmg hg (by assumption) (by assumption) (by omega) ?_ ?_
    · intro e
      rfl
    · wrow_post
