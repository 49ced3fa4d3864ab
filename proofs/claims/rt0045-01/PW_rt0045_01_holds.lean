import PyProof.Rows.All
import Wide.All
import OpenK.AllK
import Wide.FinOn
import PySem.Challenge.RW_rt0045_01
open PySem PySem.W PyProof.Rows
set_option Elab.async false
namespace Mine
section
abbrev P0 := PySem.Challenge.pw_rt0045_01
abbrev rw0 := PySem.Challenge.rw_rt0045_01
noncomputable abbrev loose0 : List PySem.Str := [PySem.Str.ofString "b2a_base64", PySem.Str.ofString "b64encode"]
end
section
/-- data: what a value is worth -/
inductive D where
  | none
  | bool (b : Bool)
  | int (i : Int)
  | str (s : List Nat)
  | bytes (b : List UInt8)
  | tup (l : List D)
  | lst (l : List D)
  | rng (a b : Int)
  | exc (cls : Value) (l : List D)
  | val (v : Value)

noncomputable abbrev Mem := Addr → Option Obj
noncomputable def Sub (m m' : Mem) : Prop := ∀ a o, m a = some o → m' a = some o
theorem Sub.refl (m : Mem) : Sub m m := fun _ _ e => e
theorem Sub.trans {a b c : Mem} (x : Sub a b) (y : Sub b c) : Sub a c := fun p o e => y p o (x p o e)
noncomputable def SeqAt (m : Mem) (T : String) (a : Addr) (vs : List Value) : Prop := ∃ o n, m a = some o ∧ o.cls = .type T ∧ o.dict = Option.none ∧ o.data = .seq vs.toArray n
theorem SeqAt.mono {m m' : Mem} {T : String} {a : Addr} {vs : List Value} (x : SeqAt m T a vs) (h : Sub m m') : SeqAt m' T a vs :=
  let ⟨o, n, e, r⟩ := x; ⟨o, n, h _ _ e, r⟩

noncomputable def TupM (m : Mem) (t : Addr) (vs : List Value) : Prop := ∃ o n, m t = some o ∧ o.cls = .type "tuple" ∧ o.data = .seq vs.toArray n
theorem TupM.mono {m m' : Mem} {t : Addr} {vs : List Value} (x : TupM m t vs) (h : Sub m m') : TupM m' t vs := let ⟨o, n, e, r⟩ := x; ⟨o, n, h _ _ e, r⟩
mutual
noncomputable def Rd (m : Mem) : D → Value → Prop
  | .none, v => v = .none
  | .bool b, v => v = .bool b
  | .int i, v => ∃ t, v = .int i t
  | .str s, v => ∃ t, v = .str ⟨s.toArray⟩ t
  | .bytes b, v => ∃ t, v = .bytes b.toArray t
  | .tup l, v => ∃ a vs, v = .ref a ∧ SeqAt m "tuple" a vs ∧ RdL m l vs
  | .lst l, v => ∃ a vs, v = .ref a ∧ SeqAt m "list" a vs ∧ RdL m l vs
  | .rng a b, v => ∃ r t u q, v = .ref r ∧ m r = some { cls := .type "range", dict := Option.none, data := .fields #[.int a t, .int b u, .int 1 q], slots := #[] }
  | .exc cls l, v => ∃ a o ws t vs, v = .ref a ∧ m a = some o ∧ o.cls = cls ∧ o.data = .fields ws ∧ ws[0]? = some (.ref t) ∧ TupM m t vs ∧ RdL m l vs
  | .val w, v => v = w
noncomputable def RdL (m : Mem) : List D → List Value → Prop
  | [], vs => vs = []
  | d :: l, vs => ∃ v r, vs = v :: r ∧ Rd m d v ∧ RdL m l r
end

mutual
theorem Rd.mono {m m' : Mem} (h : Sub m m') : ∀ (d : D) {v : Value}, Rd m d v → Rd m' d v
  | .none, _, x => x
  | .bool _, _, x => x
  | .int _, _, x => x
  | .str _, _, x => x
  | .bytes _, _, x => x
  | .tup l, _, ⟨a, vs, e, s, r⟩ => ⟨a, vs, e, s.mono h, RdL.mono h l r⟩
  | .lst l, _, ⟨a, vs, e, s, r⟩ => ⟨a, vs, e, s.mono h, RdL.mono h l r⟩
  | .rng _ _, _, ⟨r, t, u, q, e, x⟩ => ⟨r, t, u, q, e, h _ _ x⟩
  | .exc _ l, _, ⟨a, o, ws, t, vs, e, ho, hc, hd, h0, ht, r⟩ => ⟨a, o, ws, t, vs, e, h _ _ ho, hc, hd, h0, ht.mono h, RdL.mono h l r⟩
  | .val _, _, x => x
theorem RdL.mono {m m' : Mem} (h : Sub m m') : ∀ (l : List D) {vs : List Value}, RdL m l vs → RdL m' l vs
  | [], _, x => x
  | d :: l, _, ⟨v, r, e, x, y⟩ => ⟨v, r, e, Rd.mono h d x, RdL.mono h l y⟩
end
theorem RdL.length {m : Mem} : ∀ {l : List D} {vs : List Value}, RdL m l vs → vs.length = l.length
  | [], _, x => by cases x; rfl
  | _ :: l, _, ⟨v, r, e, _, y⟩ => by subst e; simp [RdL.length y]
theorem RdL.get {m : Mem} : ∀ {l : List D} {vs : List Value} {i : Nat} {d : D}, RdL m l vs → l[i]? = some d → ∃ v, vs[i]? = some v ∧ Rd m d v
  | [], _, _, _, _, h => by simp at h
  | d :: l, _, 0, _, ⟨v, r, e, x, y⟩, h => by subst e; cases h; exact ⟨v, rfl, x⟩
  | _ :: l, _, i + 1, d, ⟨v, r, e, x, y⟩, h => by subst e; exact RdL.get (i := i) y (by simpa using h)
theorem RdL.append {m : Mem} : ∀ {l l' : List D} {vs vs' : List Value}, RdL m l vs → RdL m l' vs' → RdL m (l ++ l') (vs ++ vs')
  | [], _, _, _, x, y => by cases x; exact y
  | _ :: l, _, _, _, ⟨v, r, e, x, z⟩, y => by subst e; exact ⟨v, _, rfl, x, RdL.append z y⟩
theorem RdL.snoc {m : Mem} {l : List D} {vs : List Value} {d : D} {v : Value} (x : RdL m l vs) (y : Rd m d v) : RdL m (l ++ [d]) (vs ++ [v]) :=
  x.append ⟨v, [], rfl, y, rfl⟩
theorem RdL.drop {m : Mem} : ∀ {l : List D} {vs : List Value} (i : Nat), RdL m l vs → RdL m (l.drop i) (vs.drop i)
  | _, _, 0, x => by simpa using x
  | [], _, _ + 1, x => by cases x; simp [RdL]
  | _ :: l, _, i + 1, ⟨v, r, e, x, z⟩ => by subst e; simpa using RdL.drop i z
theorem RdL.take {m : Mem} : ∀ {l : List D} {vs : List Value} (i : Nat), RdL m l vs → RdL m (l.take i) (vs.take i)
  | _, _, 0, x => by simp [RdL]
  | [], _, _ + 1, x => by cases x; simp [RdL]
  | _ :: l, _, i + 1, ⟨v, r, e, x, z⟩ => by subst e; exact ⟨v, _, rfl, x, RdL.take i z⟩

theorem get_size_none (h : Heap) : h.get? h.objs.size = none := Heap.get?_none_of_le (Nat.le_refl _)
/-- what may become of an object that is not the frame's own: its slots may be written, and a dict may be told of a refusal -/
noncomputable def Up (o o' : Obj) : Prop := (∃ sl, o' = { o with slots := sl }) ∨ ∃ es n es' n', o.data = .dict es n ∧ o'.data = .dict es' n' ∧ (StrKeys es → StrKeys es' ∧ ∀ x, x ≠ theRefusalsKey → nsFind es' x = nsFind es x)
theorem Up.refl (o : Obj) : Up o o := .inl ⟨o.slots, rfl⟩
theorem Up.trans {a b c : Obj} (x : Up a b) (y : Up b c) : Up a c := by
  rcases x with ⟨sl, rfl⟩ | ⟨es, n, es', n', e1, e2, f⟩
  · rcases y with ⟨sl', rfl⟩ | ⟨es, n, es', n', e1, e2, f⟩
    · exact .inl ⟨sl', rfl⟩
    · exact .inr ⟨es, n, es', n', e1, e2, f⟩
  · rcases y with ⟨sl', rfl⟩ | ⟨es₂, n₂, es₃, n₃, e3, e4, f'⟩
    · exact .inr ⟨es, n, es', n', e1, e2, f⟩
    · rw [e2] at e3; cases e3
      exact .inr ⟨es, n, es₃, n₃, e1, e4, fun k => ⟨(f' (f k).1).1, fun x hx => ((f' (f k).1).2 x hx).trans ((f k).2 x hx)⟩⟩
theorem Up.same {o o' : Obj} (x : Up o o') (h : ∀ es n, o.data ≠ .dict es n) : ∃ sl, o' = { o with slots := sl } := x.elim id fun ⟨es, n, _, _, e, _⟩ => absurd e (h es n)
theorem Up.nf {o o' : Obj} (x : Up o o') (h : ∀ vs, o.data ≠ .fields vs) : ∀ vs, o'.data ≠ .fields vs := by
  rcases x with ⟨sl, rfl⟩ | ⟨es, n, es', n', e1, e2, f⟩
  · exact h
  · intro vs e; rw [e2] at e; cases e
noncomputable abbrev Kept (h h' : Heap) : Prop := ∀ a o, h.get? a = some o → ∃ o', h'.get? a = some o' ∧ Up o o'
theorem Kept.of {h h' : Heap} (k : ∀ a o, h.get? a = some o → h'.get? a = some o) : Kept h h' := fun a o e => ⟨o, k a o e, .refl o⟩
theorem lim_up {h h' : Heap} (k : ∀ o, h.get? cStatics = some o → ∃ o', h'.get? cStatics = some o' ∧ Up o o') (x : h.NoLimit) : h'.NoLimit := by
  obtain ⟨mc, ⟨o, es, ep, ho, hd, hk, hf⟩, q⟩ := x
  obtain ⟨o', ho', u⟩ := k _ ho
  rcases u with ⟨sl, rfl⟩ | ⟨es₁, n, es', n', e1, e2, f⟩
  · exact ⟨mc, ⟨_, es, ep, ho', hd, hk, hf⟩, q⟩
  · rw [hd] at e1; cases e1
    refine ⟨fun x => nsFind es' x, ⟨_, es', n', ho', e2, (f hk).1, fun _ => rfl⟩, ?_⟩
    show nsFind es' _ = none
    rw [(f hk).2 _ (by decide), hf]; exact q
theorem none_back {h h' : Heap} {a : Addr} (k : Kept h h') (e : h'.get? a = none) : h.get? a = none := by
  cases q : h.get? a with
  | none => rfl
  | some o => obtain ⟨_, e', _⟩ := k a o q; rw [e] at e'; cases e'
/-- the heap has grown: the frozen part too, all that stood stands up to slots -/
structure Grow (m : Mem) (s : Shared) (m' : Mem) (s' : Shared) : Prop where
  sub : Sub m m'
  le : ∀ a o, m' a = some o → s'.heap.get? a = some o
  new : ∀ a o, m' a = some o → m a = some o ∨ s.heap.get? a = none
  kept : Kept s.heap s'.heap
  flds : ∀ a o vs, s.heap.get? a = some o → o.data = .fields vs → s'.heap.get? a = some o
  gens : s'.gens = s.gens
  os : s'.os = s.os
  tk : s.toks ≤ s'.toks

theorem Grow.refl {m : Mem} {s : Shared} (h : ∀ a o, m a = some o → s.heap.get? a = some o) : Grow m s m s :=
  ⟨Sub.refl m, h, fun _ _ e => .inl e, fun _ o e => ⟨o, e, .refl o⟩, fun _ _ _ e _ => e, rfl, rfl, Nat.le_refl _⟩
theorem Grow.trans {m m₁ m₂ : Mem} {s s₁ s₂ : Shared} (x : Grow m s m₁ s₁) (y : Grow m₁ s₁ m₂ s₂) : Grow m s m₂ s₂ :=
  ⟨x.sub.trans y.sub, y.le, fun a o e => (y.new a o e).elim (fun e => x.new a o e) fun h => .inr (none_back x.kept h),
    fun a o e => let ⟨_, e₁, u₁⟩ := x.kept a o e; let ⟨o₂, e₂, u₂⟩ := y.kept a _ e₁; ⟨o₂, e₂, u₁.trans u₂⟩, fun a o vs e d => y.flds a o vs (x.flds a o vs e d) d, y.gens.trans x.gens, y.os.trans x.os, Nat.le_trans x.tk y.tk⟩
theorem Grow.toks {m m' : Mem} {s s' : Shared} (x : Grow m s m' s') (t : Nat) (h : s'.toks ≤ t := by ((first | exact Nat.le_succ _ | assumption | ((try dsimp only); omega)); done)) : Grow m s m' { s' with toks := t } := ⟨x.sub, x.le, x.new, x.kept, x.flds, x.gens, x.os, Nat.le_trans x.tk h⟩
/-- a new object, of which nothing is said -/
theorem Grow.push {m m' : Mem} {s s' : Shared} (x : Grow m s m' s') (o : Obj) : Grow m s m' { s' with heap := s'.heap.push o } :=
  ⟨x.sub, fun a o' e => Heap.get?_push_of_some o (x.le a o' e), x.new, fun a o' e => let ⟨sl, e', u⟩ := x.kept a o' e; ⟨sl, Heap.get?_push_of_some o e', u⟩, fun a o' vs e d => Heap.get?_push_of_some o (x.flds a o' vs e d), x.gens, x.os, x.tk⟩
noncomputable def Mem.put (m : Mem) (a : Addr) (o : Obj) : Mem := fun b => if b = a then some o else m b
theorem Mem.put_sub {m : Mem} {a : Addr} {o : Obj} (h : m a = none) : Sub m (m.put a o) := fun b o' e => by
  unfold Mem.put
  by_cases q : b = a
  · subst q; rw [h] at e; cases e
  · rw [if_neg q]; exact e
theorem Mem.put_self (m : Mem) (a : Addr) (o : Obj) : m.put a o a = some o := if_pos rfl
theorem fresh_none {m : Mem} {s : Shared} (h : ∀ a o, m a = some o → s.heap.get? a = some o) {a : Addr} (ha : s.heap.get? a = none) : m a = none := by
  cases e : m a with
  | none => rfl
  | some o => rw [h a o e] at ha; cases ha
/-- a new object, frozen -/
theorem Grow.alloc {m m' : Mem} {s s' : Shared} (x : Grow m s m' s') {o : Obj} (hf : o.isFreed = false) :
    Grow m s (m'.put s'.heap.objs.size o) { s' with heap := s'.heap.push o } where
  sub := x.sub.trans (Mem.put_sub (fresh_none x.le (get_size_none _)))
  le := fun a o' e => by
    unfold Mem.put at e
    by_cases q : a = s'.heap.objs.size
    · subst q; rw [if_pos rfl] at e; cases e; exact Heap.get?_push_size _ hf
    · rw [if_neg q] at e; exact Heap.get?_push_of_some _ (x.le a o' e)
  new := fun a o' e => by
    unfold Mem.put at e
    by_cases q : a = s'.heap.objs.size
    · subst q; exact .inr (none_back x.kept (get_size_none _))
    · rw [if_neg q] at e; exact x.new a o' e
  kept := (x.push o).kept
  flds := (x.push o).flds
  gens := x.gens
  os := x.os
  tk := x.tk
/-- an object that is new since s, and not frozen, is changed -/
theorem Grow.changeE {m m' : Mem} {s s' : Shared} {h' : Heap} {a : Addr} (x : Grow m s m' s') (hs : Heap.ExtBut a s'.heap h') (ha : s.heap.get? a = none) (hm : m' a = none) :
    Grow m s m' { s' with heap := h' } where
  sub := x.sub
  le := fun b o e => hs b o (fun q => by subst q; rw [hm] at e; cases e) (x.le b o e)
  new := x.new
  kept := fun b o e => let ⟨sl, e', u⟩ := x.kept b o e; ⟨sl, hs b _ (fun q => by subst q; rw [ha] at e; cases e) e', u⟩
  flds := fun b o vs e d => hs b _ (fun q => by subst q; rw [ha] at e; cases e) (x.flds b o vs e d)
  gens := x.gens
  os := x.os
  tk := x.tk

/-- how much room there is -/
structure Ok (l : List Env) (k : Nat) (A : Around) : Prop where
  hd : 0 < k → A.handled = none
  fr : A.frames = some l
  depth : A.depth + k < recursionLimit
  units : A.units + 4 * k + 100 < cLine
theorem Ok.le {l : List Env} {k k' : Nat} {A : Around} (x : Ok l k A) (h : k' ≤ k) : Ok l k' A := ⟨fun q => x.hd (by omega), x.fr, by have := x.depth; omega, by have := x.units; omega⟩
theorem Ok.in1 {l : List Env} {k : Nat} {A : Around} (x : Ok l (k + 1) A) : Ok l k A.in1 := ⟨fun _ => x.hd (Nat.succ_pos _), x.fr, by have := x.depth; show A.depth + k < _; omega, by have := x.units; show A.units + 1 + 4 * k + 100 < _; omega⟩
theorem Ok.deeper {l : List Env} {k : Nat} {A : Around} (x : Ok l (k + 1) A) (env : Env) : Ok (env :: l) k (A.deeper env) :=
  ⟨fun _ => x.hd (Nat.succ_pos _), Around.frames_deeper x.fr, by have := x.depth; show A.depth + 1 + k < _; omega, by have := x.units; show A.units + 3 + 4 * k + 100 < _; omega⟩
theorem Ok.dep {l : List Env} {k : Nat} {A : Around} (x : Ok l k A) : A.depth < recursionLimit := by have := x.depth; omega

/-- the surroundings: the world's own heap h0 is frozen, the frames are not -/
structure Amb (h0 : Heap) (l : List Env) (m : Mem) (s : Shared) : Prop where
  base : ∀ a o, h0.get? a = some o → m a = some o
  le : ∀ a o, m a = some o → s.heap.get? a = some o
  frames : s.heap.FunFrames h0 l
  out : ∀ env ∈ l, ∀ L, env.frame = some L → m L = none
  tk : 0 < s.toks
  lim : s.heap.NoLimit
  stn : True
theorem FunFrames.up {h h' b : Heap} (k : Kept h h') : ∀ {l : List Env}, h.FunFrames b l → h'.FunFrames b l
  | [], _ => trivial
  | _ :: _, ⟨hk, ⟨L, o, hf, hn, ho, hd⟩, hr⟩ => let ⟨o', e', u⟩ := k L o ho; ⟨hk, ⟨L, o', hf, hn, e', u.nf hd⟩, FunFrames.up k hr⟩
theorem Amb.grow {h0 : Heap} {l : List Env} {m m' : Mem} {s s' : Shared} (x : Amb h0 l m s) (g : Grow m s m' s') : Amb h0 l m' s' where
  base := fun a o e => g.sub a o (x.base a o e)
  le := g.le
  frames := FunFrames.up g.kept x.frames
  out := fun env he L hL => by
    cases e : m' L with
    | none => rfl
    | some o =>
      rcases g.new L o e with h | h
      · rw [x.out env he L hL] at h; cases h
      · obtain ⟨_, o', ho, _⟩ := x.frames.mem (List.mem_filterMap.mpr ⟨env, he, hL⟩)
        rw [h] at ho; cases ho
  tk := Nat.lt_of_lt_of_le x.tk g.tk
  lim := lim_up (g.kept _) x.lim
  stn := trivial
theorem Amb.stays {h0 : Heap} {l : List Env} {m : Mem} {s : Shared} (x : Amb h0 l m s) : h0.StaysIn s.heap := fun a o e => x.le a o (x.base a o e)

inductive Sl where
  | un
  | dat (d : D)
  | ro (d : D)
  | own (a : Addr) (l : List D)
noncomputable abbrev Sto := List (Str × Sl)
noncomputable def owns : Sto → List Addr
  | [] => []
  | (_, .own a _) :: r => a :: owns r
  | _ :: r => owns r

/-- the value of a name of a frame -/
noncomputable def Loc (h : Heap) (env : Env) (x : Str) (v : Value) : Prop :=
  (env.kindOf x = some .local ∧ x ≠ theRefusalsKey ∧ ∃ f, h.Ns env.locals f ∧ f x = some v) ∨
  ((env.kindOf x = some .cell ∨ env.kindOf x = some .free ∧ (x == ("__classdict__" : Str)) = false) ∧ ∃ c, env.cells.lookup x = some c ∧ h.IsCell c (some v))

structure Cx where
  env : Env
  frs : List Env
  wr : List Addr
  ent : Heap

/-- a name that may be written -/
noncomputable def Wrt (C : Cx) (x : Str) : Prop := C.env.kindOf x = some .local ∨ (C.env.kindOf x = some .cell ∧ ∃ c, C.env.cells.lookup x = some c ∧ c ∈ C.wr)
/-- what is static of a frame and its names -/
structure Frm (C : Cx) (keys : List Str) : Prop where
  fn : C.env.scope.kind = .function
  nodup : keys.Nodup
  nodbg : ∀ x ∈ keys, (x == ("__debug__" : Str)) = false
  loc : C.env.locals ∈ C.wr
  nd : C.wr.Nodup
  capart : ∀ x y c, C.env.cells.lookup x = some c → C.env.cells.lookup y = some c → x = y
  cloc : ∀ x, C.env.cells.lookup x ≠ some C.env.locals
  frs : ∀ env ∈ C.frs, ∀ L, env.frame = some L → L ∈ C.wr ∨ ∃ o, C.ent.get? L = some o
  nkey : ∀ x ∈ keys, x ≠ theRefusalsKey
  est : ∃ o, C.ent.get? cStatics = some o

structure Inv (h0 : Heap) (C : Cx) (m : Mem) (σ : Sto) (s : Shared) : Prop where
  amb : Amb h0 C.frs m s
  frm : Frm C (σ.map (·.1))
  wrt : ∀ x sl, (x, sl) ∈ σ → (∃ d, sl = .ro d) ∨ Wrt C x
  ns : ∃ f, s.heap.Ns C.env.locals f
  cells : ∀ x c, C.env.cells.lookup x = some c → ∃ v, s.heap.IsCell c v
  dat : ∀ x d, (x, Sl.dat d) ∈ σ ∨ (x, Sl.ro d) ∈ σ → ∃ v, Loc s.heap C.env x v ∧ Rd m d v
  own : ∀ x a l, (x, Sl.own a l) ∈ σ → Loc s.heap C.env x (.ref a) ∧ ∃ vs, SeqAt s.heap.get? "list" a vs ∧ RdL m l vs
  wr : ∀ a ∈ C.wr ++ owns σ, m a = none ∧ C.ent.get? a = none
  std : ∀ a ∈ C.wr ++ owns σ, ∃ o, s.heap.get? a = some o
  ent : ∀ a o, C.ent.get? a = some o → ∃ o', s.heap.get? a = some o'
  apart : (C.wr ++ owns σ).Nodup
end
section
noncomputable abbrev KeptUp (h h' : Heap) (a : Addr) : Prop := ∀ o, h.get? a = some o → ∃ o', h'.get? a = some o' ∧ Up o o'
theorem ns_up {h h' : Heap} {a : Addr} {f : Str → Option Value} (k : KeptUp h h' a) (x : h.Ns a f) : ∃ f', h'.Ns a f' ∧ ∀ x, x ≠ theRefusalsKey → f' x = f x := by
  obtain ⟨o, es, ep, ho, hd, hk, hf⟩ := x
  obtain ⟨o', e, u⟩ := k o ho
  rcases u with ⟨sl, rfl⟩ | ⟨es₁, n, es', n', e1, e2, q⟩
  · exact ⟨f, ⟨_, es, ep, e, hd, hk, hf⟩, fun _ _ => rfl⟩
  · rw [hd] at e1; cases e1
    exact ⟨fun x => nsFind es' x, ⟨_, es', n', e, e2, (q hk).1, fun _ => rfl⟩, fun x hx => by show nsFind es' x = f x; rw [(q hk).2 x hx, hf]⟩
theorem cell_up {h h' : Heap} {a : Addr} {v : Option Value} (k : KeptUp h h' a) (x : h.IsCell a v) : h'.IsCell a v := by
  obtain ⟨o, ho, hd⟩ := x
  obtain ⟨o', e, u⟩ := k o ho
  obtain ⟨sl, rfl⟩ := u.same fun es n q => by rw [hd] at q; cases q
  exact ⟨_, e, hd⟩
theorem seq_up {h h' : Heap} {a : Addr} {T : String} {vs : List Value} (k : KeptUp h h' a) (x : SeqAt h.get? T a vs) : SeqAt h'.get? T a vs := by
  obtain ⟨o, n, ho, hc, hd, hs⟩ := x
  obtain ⟨o', e, u⟩ := k o ho
  obtain ⟨sl, rfl⟩ := u.same fun es n q => by rw [hs] at q; cases q
  exact ⟨_, n, e, hc, hd, hs⟩
theorem Loc.up {h h' : Heap} {env : Env} {x : Str} {v : Value} (k : ∀ a, KeptUp h h' a) : Loc h env x v → Loc h' env x v
  | .inl ⟨a, nk, f, n, e⟩ => let ⟨f', n', q⟩ := ns_up (k _) n; .inl ⟨a, nk, f', n', (q x nk).trans e⟩
  | .inr ⟨a, c, e, i⟩ => .inr ⟨a, c, e, cell_up (k _) i⟩

variable {prog : Program} {w : World} {h0 : Heap}

theorem owns_mem {σ : Sto} {x : Str} {a : Addr} {l : List D} (h : (x, Sl.own a l) ∈ σ) : a ∈ owns σ := by
  induction σ with
  | nil => cases h
  | cons p r ih =>
    rcases List.mem_cons.mp h with rfl | q
    · exact List.mem_cons_self
    · obtain ⟨y, sl⟩ := p
      cases sl with
      | own b l' => exact List.mem_cons_of_mem _ (ih q)
      | un => exact ih q
      | dat d => exact ih q
      | ro d => exact ih q
theorem owns_get {σ : Sto} {a : Addr} (h : a ∈ owns σ) : ∃ x l, (x, Sl.own a l) ∈ σ := by
  induction σ with
  | nil => cases h
  | cons p r ih =>
    obtain ⟨y, sl⟩ := p
    cases sl with
    | own b l' =>
      rcases List.mem_cons.mp h with rfl | h
      · exact ⟨y, l', .head _⟩
      · let ⟨x, l, e⟩ := ih h; exact ⟨x, l, .tail _ e⟩
    | un => let ⟨x, l, e⟩ := ih h; exact ⟨x, l, .tail _ e⟩
    | dat d => let ⟨x, l, e⟩ := ih h; exact ⟨x, l, .tail _ e⟩
    | ro d => let ⟨x, l, e⟩ := ih h; exact ⟨x, l, .tail _ e⟩

theorem Inv.grow {C : Cx} {m m' : Mem} {σ : Sto} {s s' : Shared} (I : Inv h0 C m σ s) (g : Grow m s m' s') : Inv h0 C m' σ s' where
  amb := I.amb.grow g
  frm := I.frm
  wrt := I.wrt
  ns := let ⟨f, n⟩ := I.ns; let ⟨f', n', _⟩ := ns_up (g.kept _) n; ⟨f', n'⟩
  cells := fun x c h => let ⟨v, n⟩ := I.cells x c h; ⟨v, cell_up (g.kept _) n⟩
  dat := fun x d h => let ⟨v, l, r⟩ := I.dat x d h; ⟨v, l.up g.kept, r.mono g.sub⟩
  own := fun x a l h => let ⟨lo, vs, sq, r⟩ := I.own x a l h; ⟨lo.up g.kept, vs, seq_up (g.kept _) sq, r.mono g.sub⟩
  wr := fun a h => by
    refine ⟨?_, (I.wr a h).2⟩
    cases e : m' a with
    | none => rfl
    | some o =>
      rcases g.new a o e with q | q
      · rw [(I.wr a h).1] at q; cases q
      · obtain ⟨o', e'⟩ := I.std a h
        rw [q] at e'; cases e'
  std := fun a h => let ⟨o, e⟩ := I.std a h; let ⟨_, e', _⟩ := g.kept a o e; ⟨_, e'⟩
  ent := fun a o e => let ⟨o', e'⟩ := I.ent a o e; let ⟨_, e'', _⟩ := g.kept a o' e'; ⟨_, e''⟩
  apart := I.apart

inductive Res where
  | val (d : D)
  | exc (cls : Value) (args : List D)

/-- an exception on its way through the frames l -/
structure Exc (h0 : Heap) (l : List Env) (m : Mem) (s : Shared) (cls : Value) (ds : List D) (e : Value) (s' : Shared) : Prop where
  it : ∃ ea t B m' vs, e = .ref ea ∧ Heap.FlyingW B l ea cls (.ref t) s'.heap ∧ (∀ a o, m' a = some o → B.get? a = some o) ∧ Sub m m' ∧
    (∀ a o, m' a = some o → m a = some o ∨ s.heap.get? a = none) ∧ Heap.TupAt s'.heap t vs ∧ RdL m' ds vs ∧ (s.heap.get? ea = none ∧ s.heap.get? t = none) ∧
    ∀ a o vs, s.heap.get? a = some o → o.data = .fields vs → B.get? a = some o
  base : h0.StaysIn s'.heap
  kept : Kept s.heap s'.heap
  flds : ∀ a o vs, s.heap.get? a = some o → o.data = .fields vs → s'.heap.get? a = some o
  gens : s'.gens = s.gens
  os : s'.os = s.os

/-- the tree t gives r -/
noncomputable def Gv (prog : Program) (w : World) (h0 : Heap) (l : List Env) (A : Around) (m : Mem) (s : Shared) (t : Sem Value) : Res → Prop
  | .val d => wpAny (model prog w) A t (fun v s' => ∃ m', Grow m s m' s' ∧ Rd m' d v) (fun _ _ => False) s
  | .exc cls ds => wpAny (model prog w) A t (fun _ _ => False) (fun e s' => Exc h0 l m s cls ds e s') s

noncomputable def EvR (prog : Program) (w : World) (h0 : Heap) (C : Cx) (k : Nat) (σ : Sto) (e : Expr) (r : Res) : Prop :=
  ∀ A m s, Ok C.frs k A → Inv h0 C m σ s → Gv prog w h0 C.frs A m s (eval e C.env) r
noncomputable abbrev Ev (prog : Program) (w : World) (h0 : Heap) (C : Cx) (k : Nat) (σ : Sto) (e : Expr) (d : D) : Prop := EvR prog w h0 C k σ e (.val d)

/-- the writing of a value's tree, for all that goes on -/
theorem Gv.then {l : List Env} {A : Around} {m : Mem} {s : Shared} {t : Sem Value} {d : D} {Q : Value → Shared → Prop} {E : Value → Shared → Prop} (h : Gv prog w h0 l A m s t (.val d))
    (k : ∀ v m' s', Grow m s m' s' → Rd m' d v → Q v s') : wpAny (model prog w) A t Q E s :=
  wpAny_mono h (fun v s' ⟨m', g, r⟩ => k v m' s' g r) fun _ _ f => f.elim
theorem Gv.thenX {l : List Env} {A : Around} {m : Mem} {s : Shared} {t : Sem Value} {cls : Value} {ds : List D} {Q : Value → Shared → Prop} {E : Value → Shared → Prop} (h : Gv prog w h0 l A m s t (.exc cls ds))
    (k : ∀ e s', Exc h0 l m s cls ds e s' → E e s') : wpAny (model prog w) A t Q E s :=
  wpAny_mono h (fun _ _ f => f.elim) fun e s' x => k e s' x

section
variable {C : Cx} {k : Nat} {σ : Sto}

theorem Ev.none {n : Nat} {p : Pos} : Ev prog w h0 C k σ (.Constant .none n p) .none := fun _ _ _ _ I => wpAny_pure ⟨_, Grow.refl I.amb.le, rfl⟩
theorem Ev.bool {b : Bool} {n : Nat} {p : Pos} : Ev prog w h0 C k σ (.Constant (.bool b) n p) (.bool b) := fun _ _ _ _ I => wpAny_pure ⟨_, Grow.refl I.amb.le, rfl⟩
theorem Ev.int {i : Int} {n : Nat} {p : Pos} : Ev prog w h0 C k σ (.Constant (.int i) n p) (.int i) := fun _ _ _ _ I => wpAny_mkInt ⟨_, (Grow.refl I.amb.le).toks _, _, rfl⟩
theorem Ev.str {x : Str} {n : Nat} {p : Pos} {l : List Nat} (h : x.cps.toList = l) : Ev prog w h0 C k σ (.Constant (.str x) n p) (.str l) := fun _ _ s _ I =>
  wpAny_mkText ⟨_, (Grow.refl I.amb.le).toks _, s.toks, by subst h; simp⟩
theorem Ev.bytes {b : List UInt8} {n : Nat} {p : Pos} : Ev prog w h0 C k σ (.Constant (.bytes b) n p) (.bytes b) :=
  fun _ _ _ _ I => wpAny_mkTextBytes ⟨_, (Grow.refl I.amb.le).toks _, _, rfl⟩

theorem name_wp {env : Env} {x : Str} {p : Pos} {v : Value} {A : Around} {s : Shared} {Q : Value → Shared → Prop} {E : Value → Shared → Prop} (hk : env.scope.kind = .function) (hd : (x == ("__debug__" : Str)) = false)
    (l : Loc s.heap env x v) (h : Q v s) : wpAny (model prog w) A (eval (.Name x p) env) Q E s := by
  refine wpAny_Name ?_ hd
  rcases l with ⟨hl, _, f, n, e⟩ | ⟨hl, c, e, i⟩
  · exact wpAny_loadName_local hk hl n e h
  · rcases hl with hl | ⟨hl, hcd⟩
    · exact wpAny_loadName_cell hk hl e i h
    · exact wpAny_loadName_free hk hl e i h hcd
theorem Inv.nodbg {C : Cx} {m : Mem} {σ : Sto} {s : Shared} (I : Inv h0 C m σ s) {x : Str} {sl : Sl} (h : (x, sl) ∈ σ) : (x == ("__debug__" : Str)) = false :=
  I.frm.nodbg x (List.mem_map.mpr ⟨_, h, rfl⟩)
theorem Ev.name {x : Str} {p : Pos} {d : D} (h : (x, Sl.dat d) ∈ σ) : Ev prog w h0 C k σ (.Name x p) d := fun _ _ _ _ I =>
  let ⟨_, l, r⟩ := I.dat x d (.inl h)
  name_wp I.frm.fn (I.nodbg h) l ⟨_, Grow.refl I.amb.le, r⟩
theorem Ev.nameR {x : Str} {p : Pos} {d : D} (h : (x, Sl.ro d) ∈ σ) : Ev prog w h0 C k σ (.Name x p) d := fun _ _ _ _ I =>
  let ⟨_, l, r⟩ := I.dat x d (.inr h)
  name_wp I.frm.fn (I.nodbg h) l ⟨_, Grow.refl I.amb.le, r⟩

theorem Ev.binop {a b : Expr} {op : Operator} {p : Pos} {da db d : D} (ha : Ev prog w h0 C k σ a da) (hb : Ev prog w h0 C k σ b db)
    (h : ∀ l A m s va vb, Ok l k A → Amb h0 l m s → Rd m da va → Rd m db vb → Gv prog w h0 l A m s (binaryOp op va vb) (.val d)) : Ev prog w h0 C k σ (.BinOp a op b p) d := fun A m s O I => by
  refine wpAny_BinOp (Gv.then (ha A m s O I) fun va m₁ s₁ g₁ r₁ => Gv.then (hb A m₁ s₁ O (I.grow g₁)) fun vb m₂ s₂ g₂ r₂ => ?_)
  have g := g₁.trans g₂
  exact Gv.then (h C.frs A m₂ s₂ va vb O (I.grow g).amb (r₁.mono g₂.sub) r₂) fun v m₃ s₃ g₃ r₃ => ⟨m₃, g.trans g₃, r₃⟩
end
end
section
variable {prog : Program} {w : World} {h0 : Heap}

/-- an operation over two values -/
noncomputable def Bin (prog : Program) (w : World) (h0 : Heap) (f : Value → Value → Sem Value) (da db d : D) : Prop :=
  ∀ l k A m s va vb, Ok l k A → Amb h0 l m s → Rd m da va → Rd m db vb → Gv prog w h0 l A m s (f va vb) (.val d)
/-- the truth of a value -/
noncomputable def Tru (prog : Program) (w : World) (h0 : Heap) (d : D) (b : Bool) : Prop :=
  ∀ l k A m s v, Ok l k A → Amb h0 l m s → Rd m d v → wpAny (model prog w) A (truthy v) (fun c s' => c = b ∧ ∃ m', Grow m s m' s') (fun _ _ => False) s

noncomputable abbrev S (prog : Program) (w : World) (h0 : Heap) (f : Value → Value → Sem Value) := Bin prog w h0 f

section
variable {a b : Int}
theorem add_ii : Bin prog w h0 (binaryOp .Add) (.int a) (.int b) (.int (a + b)) := fun _ _ _ _ _ _ _ _ I ⟨_, e⟩ ⟨_, e'⟩ => by
  subst e e'; exact add_int ⟨_, (Grow.refl I.le).toks _, _, rfl⟩
theorem sub_ii : Bin prog w h0 (binaryOp .Sub) (.int a) (.int b) (.int (a - b)) := fun _ _ _ _ _ _ _ _ I ⟨_, e⟩ ⟨_, e'⟩ => by
  subst e e'; exact sub_int ⟨_, (Grow.refl I.le).toks _, _, rfl⟩
theorem mul_ii (h : IntMulOk a b) : Bin prog w h0 (binaryOp .Mult) (.int a) (.int b) (.int (a * b)) := fun _ _ _ _ _ _ _ _ I ⟨_, e⟩ ⟨_, e'⟩ => by
  subst e e'; exact mul_int ⟨_, (Grow.refl I.le).toks _, _, rfl⟩ h
theorem div_ii (h : b ≠ 0) (hp : Builtin.divisionGoesByPylong a b = false) : Bin prog w h0 (binaryOp .FloorDiv) (.int a) (.int b) (.int (a.fdiv b)) := fun _ _ _ _ _ _ _ _ I ⟨_, e⟩ ⟨_, e'⟩ => by
  subst e e'; exact floordiv_int h ⟨_, (Grow.refl I.le).toks _, _, rfl⟩ (.inl hp)
theorem mod_ii (h : b ≠ 0) : Bin prog w h0 (binaryOp .Mod) (.int a) (.int b) (.int (a.fmod b)) := fun _ _ _ _ _ _ _ _ I ⟨_, e⟩ ⟨_, e'⟩ => by
  subst e e'; exact mod_int h ⟨_, (Grow.refl I.le).toks _, _, rfl⟩
theorem shl_ii (h : 0 ≤ b) (h1 : b ≤ 1000000) (h2 : a.natAbs < 2 ^ 64) : Bin prog w h0 (binaryOp .LShift) (.int a) (.int b) (.int (a * 2 ^ b.toNat)) := fun _ _ _ _ _ _ _ _ I ⟨_, e⟩ ⟨_, e'⟩ => by
  subst e e'; exact lshift_int_small h h1 h2 ⟨_, (Grow.refl I.le).toks _, _, rfl⟩
theorem shr_ii (h : 0 ≤ b) : Bin prog w h0 (binaryOp .RShift) (.int a) (.int b) (.int (a.fdiv (2 ^ b.toNat))) := fun _ _ _ _ _ _ _ _ I ⟨_, e⟩ ⟨_, e'⟩ => by
  subst e e'; exact rshift_int h ⟨_, (Grow.refl I.le).toks _, _, rfl⟩
theorem and_ii : Bin prog w h0 (binaryOp .BitAnd) (.int a) (.int b) (.int (Builtin.bitAnd a b)) := fun _ _ _ _ _ _ _ _ I ⟨_, e⟩ ⟨_, e'⟩ => by
  subst e e'; exact and_int ⟨_, (Grow.refl I.le).toks _, _, rfl⟩
theorem or_ii : Bin prog w h0 (binaryOp .BitOr) (.int a) (.int b) (.int (Builtin.bitOr a b)) := fun _ _ _ _ _ _ _ _ I ⟨_, e⟩ ⟨_, e'⟩ => by
  subst e e'; exact or_int ⟨_, (Grow.refl I.le).toks _, _, rfl⟩
theorem eq_ii : Bin prog w h0 (compareOp .Eq) (.int a) (.int b) (.bool (a == b)) := fun _ _ _ _ _ _ _ _ I ⟨_, e⟩ ⟨_, e'⟩ => by
  subst e e'; exact eq_int ⟨_, Grow.refl I.le, rfl⟩
end

theorem Str.app (x y : List Nat) : ((⟨x.toArray⟩ : PySem.Str) ++ ⟨y.toArray⟩) = ⟨(x ++ y).toArray⟩ := Str.ext' (by simp [Str.cps_append])
theorem Str.len (x : List Nat) : (⟨x.toArray⟩ : PySem.Str).length = x.length := by simp [PySem.Str.length]
theorem add_ss {x y : List Nat} (h : x.length + y.length ≤ sizeLine) : Bin prog w h0 (binaryOp .Add) (.str x) (.str y) (.str (x ++ y)) := fun _ _ _ _ _ _ _ _ I ⟨_, e⟩ ⟨_, e'⟩ => by
  subst e e'; exact wpAny_with_toks (Nat.le_refl _) (add_str (fun t tk ht => ⟨_, (Grow.refl I.le).toks _ ht, t, by rw [Str.app]⟩) (by rw [Str.len, Str.len]; exact h))

section
variable {a b : Int}
theorem ne_ii : Bin prog w h0 (compareOp .NotEq) (.int a) (.int b) (.bool (a != b)) := fun _ _ _ _ _ _ _ _ I ⟨_, e⟩ ⟨_, e'⟩ => by
  subst e e'; exact ne_int ⟨_, Grow.refl I.le, rfl⟩
theorem lt_ii : Bin prog w h0 (compareOp .Lt) (.int a) (.int b) (.bool (decide (a < b))) := fun _ _ _ _ _ _ _ _ I ⟨_, e⟩ ⟨_, e'⟩ => by
  subst e e'; exact lt_int ⟨_, Grow.refl I.le, rfl⟩
theorem ge_ii : Bin prog w h0 (compareOp .GtE) (.int a) (.int b) (.bool (decide (b ≤ a))) := fun _ _ _ _ _ _ _ _ I ⟨_, e⟩ ⟨_, e'⟩ => by
  subst e e'; exact PyProof.Rows.ge_int ⟨_, Grow.refl I.le, rfl⟩
end
theorem Str.eqq (x y : List Nat) : ((⟨x.toArray⟩ : PySem.Str) == ⟨y.toArray⟩) = (x == y) := by
  rw [Bool.eq_iff_iff]; simp
theorem eq_ss {x y : List Nat} : Bin prog w h0 (compareOp .Eq) (.str x) (.str y) (.bool (x == y)) := fun _ _ _ _ _ _ _ _ I ⟨_, e⟩ ⟨_, e'⟩ => by
  subst e e'; exact PyProof.Rows.eq_str ⟨_, Grow.refl I.le, by rw [Str.eqq]; rfl⟩
theorem ne_ss {x y : List Nat} : Bin prog w h0 (compareOp .NotEq) (.str x) (.str y) (.bool (x != y)) := fun _ _ _ _ _ _ _ _ I ⟨_, e⟩ ⟨_, e'⟩ => by
  subst e e'; exact PyProof.Rows.ne_str ⟨_, Grow.refl I.le, by show Value.bool (!(_ == _)) = _; rw [Str.eqq]; rfl⟩
theorem ne_bb {x y : List UInt8} : Bin prog w h0 (compareOp .NotEq) (.bytes x) (.bytes y) (.bool (x != y)) := fun _ _ _ _ _ _ _ _ I ⟨_, e⟩ ⟨_, e'⟩ => by
  subst e e'; exact ne_bytes ⟨_, Grow.refl I.le, rfl⟩
theorem is_tt {x y : String} : Bin prog w h0 (compareOp .Is) (.val (.type x)) (.val (.type y)) (.bool (x == y)) := fun _ _ _ _ _ _ _ _ I e e' => by
  subst e e'
  exact wpAny_is_plain rfl ⟨_, Grow.refl I.le, by show Value.bool _ = Value.bool _; congr 1; rw [Bool.eq_iff_iff]; simp⟩
theorem isnot_bytes {l : List UInt8} : Bin prog w h0 (compareOp .IsNot) (.bytes l) .none (.bool true) := fun _ _ _ _ _ _ _ _ I ⟨_, e⟩ e' => by
  subst e e'; exact wpAny_isNot_other rfl (by intro e; cases e) ⟨_, Grow.refl I.le, rfl⟩
theorem is_nil_no {d : D} (hd : ∀ m v, Rd m d v → v ≠ .none) : Bin prog w h0 (compareOp .Is) d .none (.bool false) := fun _ _ _ m _ v _ _ I r e' => by
  subst e'
  exact PyProof.Rows.is_none_ne (hd m v r) ⟨_, Grow.refl I.le, rfl⟩

-- data that PyData knows
mutual
noncomputable def D.py : D → PyData
  | .none => .none
  | .bool b => .bool b
  | .int i => .int i
  | .str l => .str ⟨l.toArray⟩
  | .bytes _ => .none
  | .tup l => .tuple (D.pyL l)
  | .lst l => .list (D.pyL l)
  | .rng _ _ => .none
  | .exc _ _ => .none
  | .val _ => .none
noncomputable def D.pyL : List D → List PyData
  | [] => []
  | d :: l => d.py :: D.pyL l
end
mutual
noncomputable def D.plain : D → Bool
  | .bytes _ => false
  | .rng _ _ => false
  | .exc _ _ => false
  | .val _ => false
  | .tup l => D.plainL l
  | .lst l => D.plainL l
  | _ => true
noncomputable def D.plainL : List D → Bool
  | [] => true
  | d :: l => d.plain && D.plainL l
end
mutual
theorem reads_of {m : Mem} {h : Heap} (k : ∀ a o, m a = some o → h.get? a = some o) : ∀ (d : D) {v : Value}, d.plain = true → Rd m d v → ∃ as, Reads h v d.py as
  | .none, _, _, x => by cases x; exact ⟨_, .none⟩
  | .bool b, _, _, x => by cases x; exact ⟨_, .bool b⟩
  | .int i, _, _, ⟨t, e⟩ => by subst e; exact ⟨_, .int i t⟩
  | .str l, _, _, ⟨t, e⟩ => by subst e; exact ⟨_, .str _ t⟩
  | .bytes _, _, p, _ => by cases p
  | .tup l, _, p, ⟨a, vs, e, ⟨o, n, ho, hc, _, hs⟩, r⟩ => by
    subst e
    obtain ⟨as, q⟩ := readsL_of k l p r
    exact ⟨as, .tuple (k _ _ ho) hc hs q⟩
  | .lst l, _, p, ⟨a, vs, e, ⟨o, n, ho, hc, _, hs⟩, r⟩ => by
    subst e
    obtain ⟨as, q⟩ := readsL_of k l p r
    exact ⟨_, .list (k _ _ ho) hc hs q⟩
  | .rng _ _, _, p, _ => by cases p
  | .exc _ _, _, p, _ => by cases p
  | .val _, _, p, _ => by cases p
theorem readsL_of {m : Mem} {h : Heap} (k : ∀ a o, m a = some o → h.get? a = some o) : ∀ (l : List D) {vs : List Value}, D.plainL l = true → RdL m l vs → ∃ as, ReadsAll h vs (D.pyL l) as
  | [], _, _, x => by cases x; exact ⟨_, .nil⟩
  | d :: l, _, p, ⟨v, r, e, x, y⟩ => by
    subst e
    have p' : (d.plain && D.plainL l) = true := p
    obtain ⟨p1, p2⟩ := Bool.and_eq_true_iff.mp p'
    obtain ⟨as, q⟩ := reads_of k d p1 x
    obtain ⟨bs, q'⟩ := readsL_of k l p2 y
    exact ⟨_, .cons q q'⟩
end
noncomputable def D.eqq (d e : D) : Bool := d.py.eqv e.py
noncomputable def D.fit (d : D) : Bool := d.plain && PySem.SeqAt.shaped d.py
theorem eq_dd {d e : D} (hd : d.fit = true) (he : e.fit = true) : Bin prog w h0 (compareOp .Eq) d e (.bool (d.eqq e)) := fun _ _ _ _ _ _ _ O I r r' => by
  obtain ⟨p, q⟩ := Bool.and_eq_true_iff.mp hd
  obtain ⟨p', q'⟩ := Bool.and_eq_true_iff.mp he
  obtain ⟨as, x⟩ := reads_of I.le d p r
  obtain ⟨bs, y⟩ := reads_of I.le e p' r'
  exact PySem.SeqAt.compareEq_shaped x y q q' (by have := O.units; omega) ⟨_, Grow.refl I.le, rfl⟩
theorem ne_dd {d e : D} (hd : d.fit = true) (he : e.fit = true) : Bin prog w h0 (compareOp .NotEq) d e (.bool (!d.eqq e)) := fun _ _ _ _ _ _ _ O I r r' => by
  obtain ⟨p, q⟩ := Bool.and_eq_true_iff.mp hd
  obtain ⟨p', q'⟩ := Bool.and_eq_true_iff.mp he
  obtain ⟨as, x⟩ := reads_of I.le d p r
  obtain ⟨bs, y⟩ := reads_of I.le e p' r'
  exact PySem.SeqAt.compareNe_shaped x y q q' (by have := O.units; omega) ⟨_, Grow.refl I.le, rfl⟩

-- truth
theorem isList_of {h : Heap} {a : Addr} {vs : List Value} (x : SeqAt h.get? "list" a vs) : h.IsList a vs.toArray := let ⟨o, n, ho, hc, _, hs⟩ := x; ⟨o, ho, hc, n, hs⟩
theorem isTup_of {h : Heap} {a : Addr} {vs : List Value} (x : SeqAt h.get? "tuple" a vs) : IsTup h a vs.toArray := let ⟨o, n, ho, hc, _, hs⟩ := x; ⟨o, ho, hc, n, hs⟩
theorem seq_in {m : Mem} {h : Heap} {T : String} {a : Addr} {vs : List Value} (x : SeqAt m T a vs) (k : ∀ a o, m a = some o → h.get? a = some o) : SeqAt h.get? T a vs := SeqAt.mono x k
theorem tru_bool {b : Bool} : Tru prog w h0 (.bool b) b := fun _ _ _ _ _ _ _ I e => by subst e; exact wpAny_truthy_bool ⟨rfl, _, Grow.refl I.le⟩
theorem tru_str {l : List Nat} (h : l.length < 2 ^ 63) : Tru prog w h0 (.str l) (!l.isEmpty) := fun _ _ _ _ _ _ _ I ⟨_, e⟩ => by
  subst e
  refine PySem.P.truthy_str (by rw [Str.len]; omega) ⟨?_, _, ((Grow.refl I.le).toks _).toks _⟩
  rw [Str.len]; cases l <;> simp; omega
theorem tru_tup {l : List D} (h : l.length < 2 ^ 63) : Tru prog w h0 (.tup l) (!l.isEmpty) := fun _ _ _ _ _ _ _ I ⟨a, vs, e, q, r⟩ => by
  subst e
  have hn := RdL.length r
  refine PyProof.Rows.truthy_tuple (isTup_of (seq_in q I.le)) (by simp only [List.size_toArray, hn]; omega) ⟨?_, _, ((Grow.refl I.le).toks _).toks _⟩
  cases l <;> cases vs <;> simp_all

section
variable {C : Cx} {k : Nat} {σ : Sto}
noncomputable def EvB (prog : Program) (w : World) (h0 : Heap) (C : Cx) (k : Nat) (σ : Sto) (e : Expr) (b : Bool) : Prop :=
  ∀ A m s, Ok C.frs k A → Inv h0 C m σ s →
    wpAny (model prog w) A (isTrue e C.env (eval e C.env)) (fun c s' => c = b ∧ ∃ m', Grow m s m' s') (fun _ _ => False) s
theorem EvB.val {e : Expr} {d : D} {b : Bool} (h : Ev prog w h0 C k σ e d) (t : Tru prog w h0 d b)
    (hp : isTrue e C.env (eval e C.env) = (do let v ← eval e C.env; standAt e.pos; holding [v] (truthy v)) := by rfl) : EvB prog w h0 C k σ e b := fun A m s O I => by
  refine wpAny_isTrue_value ((h A m s O I).then fun v m₁ s₁ g₁ r₁ => ?_) hp
  exact wpAny_mono (t _ _ A m₁ s₁ v O (I.grow g₁).amb r₁) (fun c s' ⟨e, m', g⟩ => ⟨e, m', g₁.trans g⟩) fun _ _ f => f
theorem EvB.cmp {l r : Expr} {op : CmpOp} {p : Pos} {dl dr : D} {b : Bool} (hl : Ev prog w h0 C k σ l dl) (hr : Ev prog w h0 C k σ r dr)
    (h : Bin prog w h0 (compareOp op) dl dr (.bool b)) (hm : behindInMarks op r = false := by with_unfolding_all rfl) : EvB prog w h0 C k σ (.Compare l [op] [r] p) b := fun A m s O I => by
  refine wpAny_isTrue_Compare1 (Gv.then (hl A m s O I) fun va m₁ s₁ g₁ r₁ => Gv.then (hr A m₁ s₁ O (I.grow g₁)) fun vb m₂ s₂ g₂ r₂ => ?_) hm
  have g := g₁.trans g₂
  refine Gv.then (h C.frs k A m₂ s₂ va vb O (I.grow g).amb (r₁.mono g₂.sub) r₂) fun v m₃ s₃ g₃ r₃ => ?_
  cases r₃
  exact wpAny_truthy_bool ⟨rfl, m₃, g.trans g₃⟩
theorem EvB.not {x : Expr} {p : Pos} {b : Bool} (h : EvB prog w h0 C k σ x b) : EvB prog w h0 C k σ (.UnaryOp .Not x p) (!b) := fun A m s O I =>
  wpAny_isTrue_Not (wpAny_mono (h A m s O I) (fun c s' ⟨e, m', g⟩ => ⟨by rw [e], m', g⟩) fun _ _ f => f)
/-- and, or: the operands one by one -/
noncomputable def EvA (prog : Program) (w : World) (h0 : Heap) (C : Cx) (k : Nat) (σ : Sto) (op : BoolOp) (es : List Expr) (b : Bool) : Prop :=
  ∀ A m s, Ok C.frs k A → Inv h0 C m σ s →
    wpAny (model prog w) A (allTrue op es C.env) (fun c s' => c = b ∧ ∃ m', Grow m s m' s') (fun _ _ => False) s
theorem EvB.bool {op : BoolOp} {es : List Expr} {p : Pos} {b : Bool} (h : EvA prog w h0 C k σ op es b) : EvB prog w h0 C k σ (.BoolOp op es p) b := fun A m s O I =>
  wpAny_isTrue_BoolOp (h A m s O I)
theorem EvA.nil_and : EvA prog w h0 C k σ .And [] true := fun _ _ _ _ I => wpAny_allTrue_And_nil ⟨rfl, _, Grow.refl I.amb.le⟩
theorem EvA.nil_or : EvA prog w h0 C k σ .Or [] false := fun _ _ _ _ I => wpAny_allTrue_Or_nil ⟨rfl, _, Grow.refl I.amb.le⟩
theorem EvA.and {x : Expr} {es : List Expr} {b c : Bool} (h : EvB prog w h0 C k σ x b) (h' : b = true → EvA prog w h0 C k σ .And es c) : EvA prog w h0 C k σ .And (x :: es) (b && c) := fun A m s O I => by
  refine wpAny_allTrue_And_cons (wpAny_mono (h A m s O I) (fun v s₁ ⟨e, m₁, g₁⟩ => ?_) fun _ _ f => f.elim)
  subst e
  cases v with
  | false => exact ⟨rfl, m₁, g₁⟩
  | true => exact wpAny_mono (h' rfl A m₁ s₁ O (I.grow g₁)) (fun c s' ⟨e, m', g⟩ => ⟨by simp [e], m', g₁.trans g⟩) fun _ _ f => f
theorem EvA.or {x : Expr} {es : List Expr} {b c : Bool} (h : EvB prog w h0 C k σ x b) (h' : b = false → EvA prog w h0 C k σ .Or es c) : EvA prog w h0 C k σ .Or (x :: es) (b || c) := fun A m s O I => by
  refine wpAny_allTrue_Or_cons (wpAny_mono (h A m s O I) (fun v s₁ ⟨e, m₁, g₁⟩ => ?_) fun _ _ f => f.elim)
  subst e
  cases v with
  | true => exact ⟨rfl, m₁, g₁⟩
  | false => exact wpAny_mono (h' rfl A m₁ s₁ O (I.grow g₁)) (fun c s' ⟨e, m', g⟩ => ⟨by simp [e], m', g₁.trans g⟩) fun _ _ f => f
theorem Ev.ifexp {t x y : Expr} {p : Pos} {b : Bool} {d : D} (h : EvB prog w h0 C k σ t b) (h1 : b = true → Ev prog w h0 C k σ x d) (h2 : b = false → Ev prog w h0 C k σ y d) :
    Ev prog w h0 C k σ (.IfExp t x y p) d := fun A m s O I => by
  refine wpAny_IfExp (wpAny_mono (h A m s O I) (fun v s₁ ⟨e, m₁, g₁⟩ => ?_) fun _ _ f => f.elim)
  subst e
  cases v with
  | true => exact Gv.then (h1 rfl A m₁ s₁ O (I.grow g₁)) fun v m' s' g r => ⟨m', g₁.trans g, r⟩
  | false => exact Gv.then (h2 rfl A m₁ s₁ O (I.grow g₁)) fun v m' s' g r => ⟨m', g₁.trans g, r⟩
end
end
section
variable {prog : Program} {w : World} {h0 : Heap} {C : Cx} {k : Nat} {σ : Sto}

/-- expressions in a row -/
noncomputable def EvL (prog : Program) (w : World) (h0 : Heap) (C : Cx) (k : Nat) (σ : Sto) (es : List Expr) (ds : List D) : Prop :=
  (∀ p, (backTo p (starEach es C.env)).any (·.1) = false) ∧ ∀ p A m s, Ok C.frs k A → Inv h0 C m σ s →
    wpAny (model prog w) A (spliced (backTo p (starEach es C.env))) (fun vs s' => ∃ m', Grow m s m' s' ∧ RdL m' ds vs) (fun _ _ => False) s
noncomputable abbrev NoStar (e : Expr) : Prop := ∀ es env, starEach (e :: es) env = (false, eval e env) :: starEach es env
theorem EvL.nil : EvL prog w h0 C k σ [] [] := ⟨fun _ => rfl, fun _ _ _ _ _ I => Calls.spliced_nil ⟨_, Grow.refl I.amb.le, rfl⟩⟩
theorem EvL.cons {e : Expr} {es : List Expr} {d : D} {ds : List D} (h : Ev prog w h0 C k σ e d) (hs : EvL prog w h0 C k σ es ds) (hn : NoStar e := by intro _ _; rfl) :
    EvL prog w h0 C k σ (e :: es) (d :: ds) := ⟨fun p => by rw [hn]; exact hs.1 p, fun p A m s O I => by
  rw [hn]
  refine Calls.spliced_cons ((h A m s O I).then fun v m₁ s₁ g₁ r₁ => ?_)
  exact wpAny_mono (hs.2 p A m₁ s₁ O (I.grow g₁)) (fun vs s₂ ⟨m₂, g₂, r₂⟩ => ⟨m₂, g₁.trans g₂, v, vs, rfl, r₁.mono g₂.sub, r₂⟩) fun _ _ f => f⟩
theorem grow_seq {T : String} {m m' : Mem} {s s' : Shared} {vs : List Value} {ds : List D} (g : Grow m s m' s') (r : RdL m' ds vs) :
    ∃ m'', Grow m s m'' { s' with heap := s'.heap.push { cls := .type T, data := .seq vs.toArray } } ∧ SeqAt m'' T s'.heap.objs.size vs ∧ RdL m'' ds vs := by
  have g' := g.alloc (o := { cls := .type T, data := .seq vs.toArray }) rfl
  have sub : Sub m' (m'.put s'.heap.objs.size { cls := .type T, data := .seq vs.toArray }) := Mem.put_sub (fresh_none g.le (get_size_none _))
  exact ⟨_, g', ⟨_, 0, Mem.put_self _ _ _, rfl, rfl, rfl⟩, r.mono sub⟩
theorem Ev.list {es : List Expr} {ds : List D} {p : Pos} (h : EvL prog w h0 C k σ es ds) (hz : ds.length ≤ sizeLine := by decide) : Ev prog w h0 C k σ (.List es p) (.lst ds) := fun A m s O I => by
  refine List_ (wpAny_mono (h.2 p A m s O I) (fun vs s' ⟨m', g, r⟩ => ?_) fun _ _ f => f)
  obtain ⟨m'', g', q, r'⟩ := grow_seq (T := "list") g r
  exact wpAny_newList ⟨m'', g', _, vs, rfl, q, r'⟩ (by rw [r.length]; exact hz)
theorem Ev.tuple {es : List Expr} {ds : List D} {p : Pos} {n : Nat} (h : EvL prog w h0 C k σ es ds) (hz : ds.length ≤ sizeLine := by decide) : Ev prog w h0 C k σ (.Tuple es n p) (.tup ds) := fun A m s O I => by
  refine Tuple_ (wpAny_mono (h.2 p A m s O I) (fun vs s' ⟨m', g, r⟩ => ?_) fun _ _ f => f)
  obtain ⟨m'', g', q, r'⟩ := grow_seq (T := "tuple") g r
  exact wpAny_newTuple ⟨m'', g', _, vs, rfl, q, r'⟩ (by rw [r.length]; exact hz)

-- subscripts
/-- what getItem gives -/
structure Itm (prog : Program) (w : World) (h0 : Heap) (d di dr : D) : Prop where
  it : ∀ l k A m s v i, Ok l k A → Amb h0 l m s → Rd m d v → Rd m di i → Gv prog w h0 l A m s (getItem v i) (.val dr) ∧
    ∃ T id, s.TypeIs v T ∧ typeLookup (.type T) "__getitem__" = pure (some (.builtin id))
theorem Ev.sub {e i : Expr} {p : Pos} {d di dr : D} (h : Ev prog w h0 C k σ e d) (hi : Ev prog w h0 C k σ i di) (t : Itm prog w h0 d di dr)
    (hs : ∀ o v, subscripted i false o v = operate [o, v] (getItem o v) := by intros; with_unfolding_all rfl) : Ev prog w h0 C k σ (.Subscript e i p) dr := fun A m s O I => by
  refine Subscript_ ((h A m s O I).then fun v m₁ s₁ g₁ r₁ => (hi A m₁ s₁ O (I.grow g₁)).then fun vi m₂ s₂ g₂ r₂ => ?_)
  have g := g₁.trans g₂
  obtain ⟨hg, T, id, hT, hl⟩ := t.it _ _ A m₂ s₂ v vi O (I.grow g).amb (r₁.mono g₂.sub) r₂
  exact tail_any hT hl (hg.then fun x m₃ s₃ g₃ r₃ => ⟨m₃, g.trans g₃, r₃⟩) (hs _ _)
theorem itm_lst {l : List D} {i : Int} {d : D} (h0' : 0 ≤ i) (hi : i < 2 ^ 63) (h : l[i.toNat]? = some d) : Itm prog w h0 (.lst l) (.int i) d := ⟨fun _ _ _ _ _ _ _ _ I ⟨_, _, e, q, r⟩ ⟨_, e'⟩ => by
  subst e e'
  obtain ⟨v, hv, rv⟩ := r.get h
  have L := isList_of (seq_in q I.le)
  exact ⟨wpAny_getItem_list L h0' hi (by simpa using hv) ⟨_, Grow.refl I.le, rv⟩, _, _, L.typeIs, slot_list_getitem.lookup⟩⟩
theorem itm_lst_neg {l : List D} {i : Int} {d : D} (h1 : i < 0) (hi : -(l.length : Int) ≤ i) (hf : -(2 ^ 63) ≤ i) (h : l[(i + l.length).toNat]? = some d) : Itm prog w h0 (.lst l) (.int i) d := ⟨fun _ _ _ _ _ _ _ _ I ⟨_, vs, e, q, r⟩ ⟨_, e'⟩ => by
  subst e e'
  obtain ⟨v, hv, rv⟩ := r.get h
  have hn := r.length
  have L := isList_of (seq_in q I.le)
  exact ⟨wpAny_getItem_list_neg L h1 (by simpa [hn] using hi) hf (by simpa [hn] using hv) ⟨_, Grow.refl I.le, rv⟩, _, _, L.typeIs, slot_list_getitem.lookup⟩⟩
theorem seqIndex_nat {i : Int} {n : Nat} (h : 0 ≤ i) (hn : i.toNat < n) : seqIndex? i n = some i.toNat := by
  unfold seqIndex?
  have h1 : ¬ i < 0 := by omega
  simp only [h1, if_false]
  rw [if_pos]
  rw [Bool.and_eq_true]; exact ⟨decide_eq_true h, decide_eq_true (by omega)⟩
theorem itm_tup {l : List D} {i : Int} {d : D} (h0' : 0 ≤ i) (hi : i < 2 ^ 63) (h : l[i.toNat]? = some d) : Itm prog w h0 (.tup l) (.int i) d := ⟨fun _ _ _ _ _ _ _ _ I ⟨_, vs, e, q, r⟩ ⟨_, e'⟩ => by
  subst e e'
  obtain ⟨v, hv, rv⟩ := r.get h
  have hn := r.length
  have L := isTup_of (seq_in q I.le)
  have hlt : i.toNat < vs.length := (List.getElem?_eq_some_iff.mp hv).1
  refine ⟨getItem_tuple L (by omega) hi (j := i.toNat) ?_ (by simpa using hv) ⟨_, Grow.refl I.le, rv⟩, _, _, L.typeIs, F.slot_tuple_getitem.lookup⟩
  simp only [List.size_toArray]; exact seqIndex_nat h0' hlt⟩
theorem itm_str {l : List Nat} {i : Int} {c : Nat} (h0' : 0 ≤ i) (hi : i < 2 ^ 63) (h : l[i.toNat]? = some c) : Itm prog w h0 (.str l) (.int i) (.str [c]) := ⟨fun _ _ _ _ s v _ _ I ⟨t, e⟩ ⟨u, e'⟩ => by
  subst e e'
  have hlt : i.toNat < l.length := (List.getElem?_eq_some_iff.mp h).1
  have h1 : ¬ i < 0 := by omega
  refine ⟨getItem_gives (typeIs_str s _ t) (by decide) F.slot_str_getitem F.entry_str_getitem (F.args_str_getitem_2 _ _) (gives_str_getitem _ i t u c ?_ ?_) ⟨by show 1 ≤ sizeLine; decide, ⟨_, (Grow.refl I.le).toks _, _, rfl⟩⟩, _, _, typeIs_str s _ t, F.slot_str_getitem.lookup⟩
  · rw [Bool.or_eq_false_iff]; exact ⟨decide_eq_false (by omega), decide_eq_false (by omega)⟩
  · rw [Str.len, seqIndex_nat h0' hlt]; simpa using h⟩
theorem itm_bytes {l : List UInt8} {i : Int} {c : UInt8} (hf : l.length ≤ 1099511627776) (h0' : 0 ≤ i) (h : l[i.toNat]? = some c) : Itm prog w h0 (.bytes l) (.int i) (.int c.toNat) := ⟨fun _ _ _ _ s v _ _ I ⟨t, e⟩ ⟨u, e'⟩ => by
  subst e e'
  have hlt : i.toNat < l.length := (List.getElem?_eq_some_iff.mp h).1
  have e : l.getD i.toNat 0 = c := by rw [List.getD_eq_getElem?_getD, h]; rfl
  exact ⟨getItem_bytes (t := t) (u := u) hf h0' (by omega) ⟨_, (Grow.refl I.le).toks _, _, by rw [e]⟩, _, _, typeIs_bytes s _ t, FB.slot_bytes_getitem.lookup⟩⟩

-- slices
noncomputable def clips (n : Nat) (lo hi : Option Int) : Nat × Nat := (lo.elim 0 (clipAt n), hi.elim n (clipAt n))
noncomputable def slc {α : Type} (l : List α) (lo hi : Option Int) : List α := (l.drop (clips l.length lo hi).1).take ((clips l.length lo hi).2 - (clips l.length lo hi).1)
/-- a bound of a slice -/
noncomputable def EvP (prog : Program) (w : World) (h0 : Heap) (C : Cx) (k : Nat) (σ : Sto) (e : Option Expr) (i : Option Int) : Prop :=
  ∀ A m s, Ok C.frs k A → Inv h0 C m σ s →
    wpAny (model prog w) A (evalPart e C.env) (fun v s' => ∃ m' o, Grow m s m' s' ∧ v = partValue o ∧ o.map (·.1) = i) (fun _ _ => False) s
theorem EvP.none : EvP prog w h0 C k σ .none .none := fun _ _ _ _ I => wpAny_evalPart_none ⟨_, .none, Grow.refl I.amb.le, rfl, rfl⟩
theorem EvP.some {e : Expr} {i : Int} (h : Ev prog w h0 C k σ e (.int i)) : EvP prog w h0 C k σ (.some e) (.some i) := fun A m s O I =>
  wpAny_evalPart_some ((h A m s O I).then fun _ m' _ g ⟨t, e⟩ => ⟨m', .some (i, t), g, e, rfl⟩)
theorem isPart_of (o : Option (Int × Tok)) : IsPart (partValue o) (o.map (·.1)) := by
  cases o with
  | none => exact .none
  | some p => obtain ⟨i, t⟩ := p; exact .int i t
noncomputable def Slc (prog : Program) (w : World) (h0 : Heap) (d : D) (lo hi : Option Int) (dr : D) : Prop :=
  ∀ l k A m s v a, Ok l k A → Amb h0 l m s → Rd m d v → (∃ o o' : Option (Int × Tok), s.heap.IsSlice a o o' .none ∧ o.map (·.1) = lo ∧ o'.map (·.1) = hi) → Gv prog w h0 l A m s (getItem v (.ref a)) (.val dr) ∧
    ∃ T id, s.TypeIs v T ∧ typeLookup (.type T) "__getitem__" = pure (some (.builtin id))
theorem Ev.slice {e : Expr} {lo hi : Option Expr} {p p' : Pos} {d dr : D} {i j : Option Int} (h : Ev prog w h0 C k σ e d) (hl : EvP prog w h0 C k σ lo i) (hh : EvP prog w h0 C k σ hi j) (t : Slc prog w h0 d i j dr) :
    Ev prog w h0 C k σ (.Subscript e (.Slice lo hi .none p') p) dr := fun A m s O I => by
  refine Subscript_ ((h A m s O I).then fun v m₁ s₁ g₁ r₁ => wpAny_Slice ?_)
  refine wpAny_mono (hl A m₁ s₁ O (I.grow g₁)) (fun vl s₂ ⟨m₂, o, g₂, e₂, el⟩ => ?_) fun _ _ f => f.elim
  have g12 := g₁.trans g₂
  refine wpAny_mono (hh A m₂ s₂ O (I.grow g12)) (fun vu s₃ ⟨m₃, o', g₃, e₃, eu⟩ => wpAny_evalPart_none ?_) fun _ _ f => f.elim
  have g := (g12.trans g₃).push { cls := .type "slice", data := .fields #[vl, vu, .none] }
  obtain ⟨hg, T, id, hT, hlk⟩ := t _ _ A m₃ _ v s₃.heap.objs.size O (I.grow g).amb (r₁.mono (g₂.sub.trans g₃.sub)) ⟨o, o', ⟨_, Heap.get?_push_size _ rfl, rfl, by rw [e₂, e₃]; rfl⟩, el, eu⟩
  exact tail_any hT hlk (hg.then fun x m₄ s₄ g₄ r₄ => ⟨m₄, g.trans g₄, r₄⟩) rfl
theorem slc_lst {l : List D} {lo hi : Option Int} (hz : l.length ≤ sizeLine) : Slc prog w h0 (.lst l) lo hi (.lst (slc l lo hi)) := fun _ _ _ _ s _ a _ I ⟨_, vs, e, q, r⟩ ⟨o, o', ⟨ob, ho, hc, hd⟩, e1, e2⟩ => by
  subst e e1 e2
  have hn := r.length
  have L := isList_of (seq_in q I.le)
  refine ⟨wpAny_getItem_list_slice L ⟨ob, ho, hc, hd⟩ (isPart_of o) (isPart_of o') .none (by simp) ?_ (by simp [hn]; exact hz), _, _, L.typeIs, slot_list_getitem.lookup⟩
  rw [slicePick_plain]
  simp only [List.size_toArray, hn]
  obtain ⟨m'', g', q', r'⟩ := grow_seq (T := "list") (Grow.refl I.le) ((r.drop (clips l.length (o.map (·.1)) (o'.map (·.1))).1).take ((clips l.length (o.map (·.1)) (o'.map (·.1))).2 - (clips l.length (o.map (·.1)) (o'.map (·.1))).1))
  exact ⟨m'', g', _, _, rfl, q', r'⟩
theorem slc_str {l : List Nat} {lo hi : Option Int} (hz : l.length ≤ sizeLine) : Slc prog w h0 (.str l) lo hi (.str (slc l lo hi)) := fun _ _ _ m s _ a _ I ⟨t, e⟩ ⟨o, o', hs, e1, e2⟩ => by
  subst e e1 e2
  have key : (slicePicked ⟨l.toArray⟩ o o' none).filterMap ((⟨l.toArray⟩ : Str).cps[·]?) = slc l (o.map (·.1)) (o'.map (·.1)) := by
    unfold slicePicked slc
    have : Builtin.Str.strSliceIndices (o.map (·.1)) (o'.map (·.1)) 1 l.length = sliceRange (sliceBounds (o.map (·.1)) (o'.map (·.1)) none l.length).1 (sliceBounds (o.map (·.1)) (o'.map (·.1)) none l.length).2.1 1 := by
      cases o <;> cases o' <;> rfl
    rw [show (Option.map (fun x : Int × Tok => x.1) none).getD 1 = (1 : Int) from rfl, Str.len, this, sliceBounds_plain]
    simp only [sliceRange_one]
    exact (pick_run l.toArray _ _).trans (by simp [clips])
  refine ⟨wpAny_getItem_str_slice hs rfl ?_, _, _, typeIs_str s _ t, F.slot_str_getitem.lookup⟩
  unfold sliceMade
  rw [key]
  split
  · rename_i h
    rw [Bool.and_eq_true] at h
    have h2 : (slicePicked ⟨l.toArray⟩ o o' none).length = l.length := by simpa [Str.len] using h.2
    have h3 : (slc l (o.map (·.1)) (o'.map (·.1))) = l := by
      have hlen : (slc l (o.map (·.1)) (o'.map (·.1))).length = l.length := by
        have e3 : slicePicked ⟨l.toArray⟩ o o' none = (List.range ((clips l.length (o.map (·.1)) (o'.map (·.1))).2 - (clips l.length (o.map (·.1)) (o'.map (·.1))).1)).map fun k => (clips l.length (o.map (·.1)) (o'.map (·.1))).1 + k := by
          unfold slicePicked
          have : Builtin.Str.strSliceIndices (o.map (·.1)) (o'.map (·.1)) 1 l.length = sliceRange (sliceBounds (o.map (·.1)) (o'.map (·.1)) none l.length).1 (sliceBounds (o.map (·.1)) (o'.map (·.1)) none l.length).2.1 1 := by
            cases o <;> cases o' <;> rfl
          rw [show (Option.map (fun x : Int × Tok => x.1) none).getD 1 = (1 : Int) from rfl, Str.len, this, sliceBounds_plain]
          simp only [sliceRange_one]
          rfl
        rw [e3] at h2
        have h4 : ∀ n (o : Option Int), o.elim n (clipAt n) ≤ n := fun n o => by
          cases o with
          | none => exact Nat.le_refl _
          | some i => show clipAt n i ≤ n; unfold clipAt; omega
        have h5 := h4 l.length (o'.map (·.1))
        simp only [List.length_map, List.length_range] at h2
        unfold slc
        simp only [List.length_take, List.length_drop]
        simp only [clips] at h2 ⊢
        omega
      unfold slc at hlen ⊢
      simp only [List.length_take, List.length_drop] at hlen
      by_cases hl0 : l = []
      · subst hl0; simp
      · have hpos : 0 < l.length := List.length_pos_iff.mpr hl0
        have : (clips l.length (o.map (·.1)) (o'.map (·.1))).1 = 0 := by omega
        rw [this, List.drop_zero]
        exact List.take_of_length_le (by omega)
    exact ⟨m, Grow.refl I.le, t, by rw [h3]⟩
  · refine ⟨?_, m, (Grow.refl I.le).toks _, _, rfl⟩
    rw [Str.len]
    unfold slc
    simp only [List.length_take, List.length_drop]
    omega
end
section
variable {prog : Program} {w : World} {h0 : Heap} {C : Cx} {k : Nat} {σ : Sto}

/-- f called with ds gives r -/
noncomputable def Callable (prog : Program) (w : World) (h0 : Heap) (k : Nat) (f : Value) (ds : List D) (r : Res) : Prop :=
  ∀ l A m s vs, Ok l k A → Amb h0 l m s → RdL m ds vs → Gv prog w h0 l A m s (PySem.call f vs []) r
noncomputable def Keep (h0 : Heap) (f : Value) : Prop := (∃ id, f = .builtin id) ∨ (∃ T, f = .type T) ∨ ∃ a o fd, f = .ref a ∧ h0.get? a = some o ∧ o.data = .func fd

theorem Exc.pre {l : List Env} {m m₁ : Mem} {s s₁ s' : Shared} {cls : Value} {ds : List D} {e : Value} (g : Grow m s m₁ s₁) (x : Exc h0 l m₁ s₁ cls ds e s') : Exc h0 l m s cls ds e s' where
  it := by
    obtain ⟨ea, t, B, m', vs, a, b, c, d, e, f, q, n, fl⟩ := x.it
    exact ⟨ea, t, B, m', vs, a, b, c, g.sub.trans d, fun a o h => (e a o h).elim (fun h => g.new a o h) fun h => .inr (none_back g.kept h), f, q, ⟨none_back g.kept n.1, none_back g.kept n.2⟩, fun a o vs e d => fl a o vs (g.flds a o vs e d) d⟩
  base := x.base
  kept := fun a o h => let ⟨_, e, u⟩ := g.kept a o h; let ⟨sl, e', u'⟩ := x.kept a _ e; ⟨sl, e', u.trans u'⟩
  flds := fun a o vs e d => x.flds a o vs (g.flds a o vs e d) d
  gens := x.gens.trans g.gens
  os := x.os.trans g.os
/-- what comes behind: a result, taken on from a state that has grown -/
theorem Gv.on {l : List Env} {A : Around} {m m₁ : Mem} {s s₁ : Shared} {t : Sem Value} {r : Res} {Q : Value → Shared → Prop} {E : Value → Shared → Prop} (g : Grow m s m₁ s₁) (h : Gv prog w h0 l A m₁ s₁ t r)
    (q : ∀ d, r = .val d → ∀ v m' s', Grow m s m' s' → Rd m' d v → Q v s') (x : ∀ cls ds, r = .exc cls ds → ∀ e s', Exc h0 l m s cls ds e s' → E e s') : wpAny (model prog w) A t Q E s₁ := by
  cases r with
  | val d => exact Gv.then h fun v m' s' g' r' => q d rfl v m' s' (g.trans g') r'
  | exc cls ds => exact Gv.thenX h fun e s' x' => x cls ds rfl e s' (x'.pre g)
theorem Gv.mk {l : List Env} {A : Around} {m : Mem} {s : Shared} {t : Sem Value} {r : Res}
    (h : wpAny (model prog w) A t (fun v s' => ∃ d, r = .val d ∧ ∃ m', Grow m s m' s' ∧ Rd m' d v) (fun e s' => ∃ cls ds, r = .exc cls ds ∧ Exc h0 l m s cls ds e s') s) : Gv prog w h0 l A m s t r := by
  cases r with
  | val d => exact wpAny_mono h (fun v s' ⟨_, e, m', g, r⟩ => by cases e; exact ⟨m', g, r⟩) fun _ _ ⟨_, _, e, _⟩ => nomatch e
  | exc cls ds => exact wpAny_mono h (fun v s' ⟨_, e, _⟩ => nomatch e) fun _ _ ⟨_, _, e, x⟩ => by cases e; exact x

theorem evalArgs_of {es : List Expr} {ds : List D} (h : EvL prog w h0 C k σ es ds) (f : Value) (p : Pos) {A : Around} {m : Mem} {s : Shared} {E : Value → Shared → Prop} (O : Ok C.frs k A) (I : Inv h0 C m σ s)
    {Q : Args → Shared → Prop} (q : ∀ vs m' s', Grow m s m' s' → RdL m' ds vs → Q ⟨vs, []⟩ s') : wpAny (model prog w) A (evalArgs f true (backTo p (starEach es C.env)) []) Q E s := by
  have h1 := h.1 p
  have h2 := h.2 p A m s O I
  generalize backTo p (starEach es C.env) = l at h1 h2
  cases l with
  | nil =>
    unfold evalArgs
    show wpAny (model prog w) A (spliced [] >>= _) Q E s
    refine wpAny_bind (wpAny_mono h2 (fun vs s' hh => ?_) fun _ _ f => f.elim)
    obtain ⟨m', g, r⟩ := hh
    refine wpAny_bind (wpAny_pure (wpAny_holding ?_))
    exact wpAny_bind (wpAny_pure (wpAny_bind (wpAny_pure (wpAny_pure (q vs m' s' g r)))))
  | cons x rest =>
    obtain ⟨b, x⟩ := x
    have hb : b = false := by
      rw [List.any_cons, Bool.or_eq_false_iff] at h1; exact h1.1
    subst hb
    exact Calls.evalArgs_plain (wpAny_mono h2 (fun vs s' ⟨m', g, r⟩ => q vs m' s' g r) fun _ _ f => f.elim)

theorem Ev.call {x : Str} {np pos : Pos} {es : List Expr} {ds : List D} {f : Value} {r : Res} (hf : Ev prog w h0 C k σ (.Name x np) (.val f)) (hk : Keep h0 f) (ha : EvL prog w h0 C k σ es ds) (hc : Callable prog w h0 k f ds r) :
    EvR prog w h0 C k σ (.Call (.Name x np) es [] pos) r := fun A m s O I => by
  refine Gv.mk (wpAny_Call_ofName ((hf A m s O I).then fun v m₁ s₁ g₁ r₁ => ?_))
  obtain rfl : v = f := r₁
  have I₁ := I.grow g₁
  have body : ∀ vs m' s', Grow m₁ s₁ m' s' → RdL m' ds vs → wpAny (model prog w) A (PySem.call v vs []) (fun v s' => ∃ d, r = .val d ∧ ∃ m', Grow m s m' s' ∧ Rd m' d v) (fun e s' => ∃ cls ds, r = .exc cls ds ∧ Exc h0 C.frs m s cls ds e s') s' :=
    fun vs m' s' g r' => Gv.on (g₁.trans g) (hc C.frs A m' s' vs O (I₁.grow g).amb r') (fun d e v m' s' g r => ⟨d, e, m', g, r⟩) fun cls ds e e' s' x => ⟨cls, ds, e, x⟩
  rcases hk with ⟨id, rfl⟩ | ⟨T, rfl⟩ | ⟨a, o, fd, rfl, ho, hd⟩
  · exact Calls.callWith_builtin (ha.1 pos) (evalArgs_of ha _ pos O I₁ body)
  · exact PyProof.Rows.callWith_type (ha.1 pos) (evalArgs_of ha _ pos O I₁ body)
  · refine Calls.callWith_function (o := o) (fd := fd) (evalArgs_of ha _ pos O I₁ fun vs m' s' g r' => ⟨⟨?_, hd⟩, body vs m' s' g r'⟩)
    exact (I₁.grow g).amb.stays a o ho

/-- a method of a built-in type -/
structure MethR (prog : Program) (w : World) (h0 : Heap) (k : Nat) (T : String) (name : Str) (id : String) (d : D) (ds : List D) (r : Res) : Prop where
  pa : PlainAttrs T
  slot : PySem.Slot T name id
  ty : typeOf (.builtin id) = pure (.type "method_descriptor")
  isT : ∀ (m : Mem) (s : Shared) (v : Value), (∀ a o, m a = some o → s.heap.get? a = some o) → Rd m d v → s.TypeIs v T ∧ ∀ a, v = .ref a → ∃ ob, s.heap.get? a = some ob ∧ ob.dict = none
  it : ∀ l A m s v vs, Ok l k A → Amb h0 l m s → Rd m d v → RdL m ds vs → Gv prog w h0 l A m s (PySem.call (.builtin id) (v :: vs) []) r
theorem Ev.meth {o : Expr} {name : Str} {apos pos : Pos} {es : List Expr} {d : D} {ds : List D} {T id : String} {r : Res} (ho : Ev prog w h0 C k σ o d) (ha : EvL prog w h0 C k σ es ds) (M : MethR prog w h0 k T name id d ds r)
    (hbase : ∀ env, attributeBase o name env (eval o env) = eval o env := by intro _; rfl) (hline : (apos.endLine == pos.line) = true := by rfl) (hlen : decide (es.length < 30) = true := by rfl) :
    EvR prog w h0 C k σ (.Call (.Attribute o name apos) es [] pos) r := fun A m s O I => by
  refine Gv.mk (wpAny_Call_method (hbase _) ?_ hline M.pa M.slot M.ty ((ho A m s O I).then fun v m₁ s₁ g₁ r₁ => ?_))
  · rw [Bool.and_eq_true, Bool.and_eq_true]
    refine ⟨⟨?_, rfl⟩, ?_⟩
    · have := ha.1 pos
      rw [List.all_eq_true]
      intro x hx
      rw [List.any_eq_false] at this
      simpa using this x hx
    · simpa using hlen
  · have I₁ := I.grow g₁
    obtain ⟨hT, hd⟩ := M.isT m₁ s₁ v I₁.amb.le r₁
    refine ⟨hT, hd, Calls.callWith_builtin (ha.1 pos) (evalArgs_of ha _ pos O I₁ fun vs m' s' g r' => ?_)⟩
    exact Gv.on (g₁.trans g) (M.it C.frs A m' s' v vs O (I₁.grow g).amb (r₁.mono g.sub) r') (fun d e v m' s' g r => ⟨d, e, m', g, r⟩) fun cls ds e e' s' x => ⟨cls, ds, e, x⟩
end
section
variable {prog : Program} {w : World} {h0 : Heap} {C : Cx} {k : Nat} {σ : Sto}

inductive Upd : Sto → Str → Sl → Sto → Prop
  | dat {x : Str} {d : D} {sl : Sl} {r : Sto} : Upd ((x, .dat d) :: r) x sl ((x, sl) :: r)
  | un {x : Str} {sl : Sl} {r : Sto} : Upd ((x, .un) :: r) x sl ((x, sl) :: r)
  | own {x : Str} {a : Addr} {l : List D} {sl : Sl} {r : Sto} : Upd ((x, .own a l) :: r) x sl ((x, sl) :: r)
  | tail {p : Str × Sl} {x : Str} {sl : Sl} {r r' : Sto} : Upd r x sl r' → Upd (p :: r) x sl (p :: r')
theorem Upd.keys {σ σ' : Sto} {x : Str} {sl : Sl} (h : Upd σ x sl σ') : σ'.map (·.1) = σ.map (·.1) := by
  induction h with
  | tail _ ih => rw [List.map_cons, List.map_cons, ih]
  | _ => rfl
theorem Upd.there {σ σ' : Sto} {x : Str} {sl : Sl} (h : Upd σ x sl σ') : ∃ sl₀, (x, sl₀) ∈ σ ∧ ∀ d, sl₀ ≠ .ro d := by
  induction h with
  | tail _ ih => obtain ⟨s, a, b⟩ := ih; exact ⟨s, .tail _ a, b⟩
  | _ => exact ⟨_, .head _, fun _ e => nomatch e⟩
theorem Upd.mem {σ σ' : Sto} {x : Str} {sl : Sl} (h : Upd σ x sl σ') : ∀ {y : Str} {t : Sl}, (σ.map (·.1)).Nodup → (y, t) ∈ σ' → (y = x ∧ t = sl) ∨ ((y, t) ∈ σ ∧ y ≠ x) := by
  induction h with
  | tail u ih =>
    intro y t nd hm
    rw [List.map_cons, List.nodup_cons] at nd
    rcases List.mem_cons.mp hm with e | hm
    · refine .inr ⟨e ▸ .head _, fun q => ?_⟩
      obtain ⟨s, a, _⟩ := u.there
      exact nd.1 (List.mem_map.mpr ⟨_, a, by rw [← e]; exact q.symm⟩)
    · exact (ih nd.2 hm).imp id fun ⟨a, b⟩ => ⟨.tail _ a, b⟩
  | _ =>
    intro y t nd hm
    rw [List.map_cons, List.nodup_cons] at nd
    rcases List.mem_cons.mp hm with e | hm
    · cases e; exact .inl ⟨rfl, rfl⟩
    · exact .inr ⟨.tail _ hm, fun q => nd.1 (List.mem_map.mpr ⟨_, hm, q⟩)⟩
noncomputable def slOwn : Sl → List Addr
  | .own a _ => [a]
  | _ => []
theorem owns_cons (x : Str) (sl : Sl) (r : Sto) : owns ((x, sl) :: r) = slOwn sl ++ owns r := by cases sl <;> rfl
theorem Upd.split {σ σ' : Sto} {x : Str} {sl : Sl} (h : Upd σ x sl σ') : ∃ sl₀ a c, (x, sl₀) ∈ σ ∧ owns σ = a ++ slOwn sl₀ ++ c ∧ owns σ' = a ++ slOwn sl ++ c := by
  induction h with
  | @tail p x sl r r' u ih =>
    obtain ⟨sl₀, a, c, hm, e, e'⟩ := ih
    obtain ⟨y, t⟩ := p
    exact ⟨sl₀, slOwn t ++ a, c, .tail _ hm, by rw [owns_cons, e]; simp, by rw [owns_cons, e']; simp⟩
  | _ => exact ⟨_, [], _, .head _, owns_cons .., owns_cons ..⟩
theorem one_key : ∀ {σ : Sto} {x : Str} {s t : Sl}, (σ.map (·.1)).Nodup → (x, s) ∈ σ → (x, t) ∈ σ → s = t
  | p :: r, x, s, t, nd, h1, h2 => by
    rw [List.map_cons, List.nodup_cons] at nd
    rcases List.mem_cons.mp h1 with e | h1 <;> rcases List.mem_cons.mp h2 with e' | h2
    · rw [← e] at e'; exact (Prod.mk.inj e').2.symm
    · exact absurd (List.mem_map.mpr ⟨_, h2, by rw [← e]⟩) nd.1
    · exact absurd (List.mem_map.mpr ⟨_, h1, by rw [← e']⟩) nd.1
    · exact one_key nd.2 h1 h2

/-- as Grow, but the addresses of W may be written, and frozen -/
structure GrowW (W : List Addr) (m : Mem) (s : Shared) (m' : Mem) (s' : Shared) : Prop where
  sub : Sub m m'
  le : ∀ a o, m' a = some o → s'.heap.get? a = some o
  new : ∀ a o, m' a = some o → m a = some o ∨ a ∈ W ∨ s.heap.get? a = none
  kept : ∀ a o, a ∉ W → s.heap.get? a = some o → ∃ o', s'.heap.get? a = some o' ∧ Up o o'
  flds : ∀ a o vs, a ∉ W → s.heap.get? a = some o → o.data = .fields vs → s'.heap.get? a = some o
  frames : ∀ L o, s.heap.get? L = some o → ∃ o', s'.heap.get? L = some o' ∧ ((∀ vs, o.data ≠ .fields vs) → ∀ vs, o'.data ≠ .fields vs)
  gens : s'.gens = s.gens
  os : s'.os = s.os
  tk : s.toks ≤ s'.toks
theorem Grow.toW {m m' : Mem} {s s' : Shared} (x : Grow m s m' s') (W : List Addr) : GrowW W m s m' s' :=
  ⟨x.sub, x.le, fun a o e => (x.new a o e).imp id .inr, fun a o _ e => x.kept a o e, fun a o vs _ e d => x.flds a o vs e d, fun L o e => let ⟨_, e', u⟩ := x.kept L o e; ⟨_, e', u.nf⟩, x.gens, x.os, x.tk⟩
theorem GrowW.back {W : List Addr} {m m' : Mem} {s s' : Shared} (x : GrowW W m s m' s') {a : Addr} (e : s'.heap.get? a = none) : s.heap.get? a = none := by
  cases q : s.heap.get? a with
  | none => rfl
  | some o => obtain ⟨_, e', _⟩ := x.frames a o q; rw [e] at e'; cases e'
theorem GrowW.trans {W W' : List Addr} {m m₁ m₂ : Mem} {s s₁ s₂ : Shared} (x : GrowW W m s m₁ s₁) (y : GrowW W' m₁ s₁ m₂ s₂) (h : ∀ a ∈ W', a ∈ W ∨ s.heap.get? a = none) : GrowW W m s m₂ s₂ :=
  ⟨x.sub.trans y.sub, y.le, fun a o e => (y.new a o e).elim (fun e => x.new a o e) fun q => .inr (q.elim (fun q => h a q) fun q => .inr (x.back q)),
    fun a o n e => by
      obtain ⟨sl, e₁, u₁⟩ := x.kept a o n e
      obtain ⟨sl', e₂, u₂⟩ := y.kept a _ (fun q => (h a q).elim n fun q => by rw [e] at q; cases q) e₁
      exact ⟨sl', e₂, u₁.trans u₂⟩,
    fun a o vs n e d => y.flds a o vs (fun q => (h a q).elim n fun q => by rw [e] at q; cases q) (x.flds a o vs n e d) d,
    fun L o e => let ⟨_, e₁, h₁⟩ := x.frames L o e; let ⟨_, e₂, h₂⟩ := y.frames L _ e₁; ⟨_, e₂, fun hd => h₂ (h₁ hd)⟩, y.gens.trans x.gens, y.os.trans x.os, Nat.le_trans x.tk y.tk⟩

inductive Out where
  | next (σ : Sto)
  | brk (σ : Sto)
  | cont (σ : Sto)
  | ret (d : D)
  | exc (cls : Value) (ds : List D)

/-- the frame is whole again, with the names σ' -/
structure At (h0 : Heap) (C : Cx) (m : Mem) (σ : Sto) (s : Shared) (σ' : Sto) (s' : Shared) : Prop where
  it : ∃ m', GrowW (C.wr ++ owns σ) m s m' s' ∧ Inv h0 C m' σ' s'
  ow : ∀ a ∈ owns σ', a ∈ owns σ ∨ s.heap.get? a = none
noncomputable def After (h0 : Heap) (C : Cx) (m : Mem) (σ : Sto) (s : Shared) (R : Out → Prop) : Flow → Shared → Prop
  | .next, s' => ∃ σ', R (.next σ') ∧ At h0 C m σ s σ' s'
  | .brk, s' => ∃ σ', R (.brk σ') ∧ At h0 C m σ s σ' s'
  | .cont, s' => ∃ σ', R (.cont σ') ∧ At h0 C m σ s σ' s'
  | .ret v, s' => ∃ d, R (.ret d) ∧ ∃ m', GrowW (C.wr ++ owns σ) m s m' s' ∧ Rd m' d v
/-- an exception on its way, behind changes of the frame's own -/
structure ExcW (h0 : Heap) (l : List Env) (W : List Addr) (m : Mem) (s : Shared) (cls : Value) (ds : List D) (e : Value) (s' : Shared) : Prop where
  it : ∃ m₁ s₁, GrowW W m s m₁ s₁ ∧ Exc h0 l m₁ s₁ cls ds e s'
/-- an exception that was made in this very frame, behind changes of the frame's own -/
noncomputable def MadeW (h0 : Heap) (l : List Env) (W : List Addr) (m : Mem) (s : Shared) (cls : Value) (ds : List D) (e : Value) (s' : Shared) : Prop :=
  ∃ m₁ s₁ ea vs, GrowW W m s m₁ s₁ ∧ Amb h0 l m₁ s₁ ∧ e = .ref ea ∧ RdL m₁ ds vs ∧ Heap.MadeExcOf s₁.heap s'.heap ea cls vs ∧ s'.gens = s₁.gens ∧ s'.os = s₁.os
noncomputable def AfterX (h0 : Heap) (C : Cx) (m : Mem) (σ : Sto) (s : Shared) (R : Out → Prop) (e : Value) (s' : Shared) : Prop :=
  ∃ cls ds, R (.exc cls ds) ∧ (ExcW h0 C.frs (C.wr ++ owns σ) m s cls ds e s' ∨ MadeW h0 C.frs (C.wr ++ owns σ) m s cls ds e s')
noncomputable def Runs (prog : Program) (w : World) (h0 : Heap) (C : Cx) (k : Nat) (σ : Sto) (t : Sem Flow) (R : Out → Prop) : Prop :=
  ∀ A m s, Ok C.frs k A → Inv h0 C m σ s →
    wpAny (model prog w) A t (After h0 C m σ s R) (AfterX h0 C m σ s R) s
noncomputable abbrev Run (prog : Program) (w : World) (h0 : Heap) (C : Cx) (k : Nat) (σ : Sto) (b : List Stmt) (R : Out → Prop) : Prop := Runs prog w h0 C k σ (execs b C.env) R
noncomputable abbrev Run1 (prog : Program) (w : World) (h0 : Heap) (C : Cx) (k : Nat) (σ : Sto) (b : Stmt) (R : Out → Prop) : Prop := Runs prog w h0 C k σ (exec b C.env) R

theorem At.trans {m m₁ : Mem} {σ σ₁ σ₂ : Sto} {s s₁ s₂ : Shared} (g : GrowW (C.wr ++ owns σ) m s m₁ s₁) (o : ∀ a ∈ owns σ₁, a ∈ owns σ ∨ s.heap.get? a = none) (y : At h0 C m₁ σ₁ s₁ σ₂ s₂) : At h0 C m σ s σ₂ s₂ := by
  obtain ⟨⟨m₂, g₂, I₂⟩, o₂⟩ := y
  refine ⟨⟨m₂, g.trans g₂ fun a ha => ?_, I₂⟩, fun a ha => ?_⟩
  · rcases List.mem_append.mp ha with h | h
    · exact .inl (List.mem_append_left _ h)
    · exact (o a h).imp (List.mem_append_right _) id
  · exact (o₂ a ha).elim (fun h => o a h) fun h => .inr (g.back h)
theorem wmono {σ σ₁ : Sto} {s : Shared} (o : ∀ a ∈ owns σ₁, a ∈ owns σ ∨ s.heap.get? a = none) : ∀ a ∈ C.wr ++ owns σ₁, a ∈ C.wr ++ owns σ ∨ s.heap.get? a = none := fun a ha => by
  rcases List.mem_append.mp ha with h | h
  · exact .inl (List.mem_append_left _ h)
  · exact (o a h).imp (List.mem_append_right _) id
theorem After.pre {m m₁ : Mem} {σ σ₁ : Sto} {s s₁ s' : Shared} {R : Out → Prop} {f : Flow} (g : GrowW (C.wr ++ owns σ) m s m₁ s₁) (o : ∀ a ∈ owns σ₁, a ∈ owns σ ∨ s.heap.get? a = none) (y : After h0 C m₁ σ₁ s₁ R f s') : After h0 C m σ s R f s' := by
  cases f with
  | ret v => obtain ⟨d, r, m', g', q⟩ := y; exact ⟨d, r, m', g.trans g' (wmono o), q⟩
  | _ => obtain ⟨σ', r, t⟩ := y; exact ⟨σ', r, t.trans g o⟩
theorem AfterX.pre {m m₁ : Mem} {σ σ₁ : Sto} {s s₁ s' : Shared} {R : Out → Prop} {e : Value} (g : GrowW (C.wr ++ owns σ) m s m₁ s₁) (o : ∀ a ∈ owns σ₁, a ∈ owns σ ∨ s.heap.get? a = none) (y : AfterX h0 C m₁ σ₁ s₁ R e s') : AfterX h0 C m σ s R e s' := by
  obtain ⟨cls, ds, r, ⟨m₂, s₂, g₂, x⟩ | ⟨m₂, s₂, ea, vs, g₂, x⟩⟩ := y
  · exact ⟨cls, ds, r, .inl ⟨m₂, s₂, g.trans g₂ (wmono o), x⟩⟩
  · exact ⟨cls, ds, r, .inr ⟨m₂, s₂, ea, vs, g.trans g₂ (wmono o), x⟩⟩
theorem Runs.pre {t : Sem Flow} {m m₁ : Mem} {σ₁ : Sto} {s s₁ : Shared} {A : Around} {R : Out → Prop} (h : Runs prog w h0 C k σ₁ t R) (O : Ok C.frs k A) (I : Inv h0 C m₁ σ₁ s₁)
    (g : GrowW (C.wr ++ owns σ) m s m₁ s₁) (o : ∀ a ∈ owns σ₁, a ∈ owns σ ∨ s.heap.get? a = none) : wpAny (model prog w) A t (After h0 C m σ s R) (AfterX h0 C m σ s R) s₁ :=
  wpAny_mono (h A m₁ s₁ O I) (fun _ _ y => y.pre g o) fun _ _ y => y.pre g o
theorem After.mono {m : Mem} {s s' : Shared} {R R' : Out → Prop} {f : Flow} (y : After h0 C m σ s R f s') (h : ∀ o, R o → R' o) : After h0 C m σ s R' f s' := by
  cases f <;> (obtain ⟨a, r, t⟩ := y; exact ⟨a, h _ r, t⟩)
theorem Runs.mono {t : Sem Flow} {R R' : Out → Prop} (h : Runs prog w h0 C k σ t R) (q : ∀ o, R o → R' o) : Runs prog w h0 C k σ t R' := fun A m s O I =>
  wpAny_mono (h A m s O I) (fun _ _ y => y.mono q) fun _ _ ⟨c, d, r, y⟩ => ⟨c, d, q _ r, y⟩

theorem Run.nil {R : Out → Prop} (h : R (.next σ)) : Run prog w h0 C k σ [] R := fun _ _ _ _ I => wpAny_execs_nil ⟨σ, h, ⟨_, (Grow.refl I.amb.le).toW _, I⟩, fun _ h => .inl h⟩
theorem Run.cons {st : Stmt} {rest : List Stmt} {R : Out → Prop} (h : Run1 prog w h0 C k σ st (fun o => match o with | .next σ' => Run prog w h0 C k σ' rest R | o => R o)) : Run prog w h0 C k σ (st :: rest) R := fun A m s O I => by
  refine wpAny_execs_cons (wpAny_mono (h A m s O I) (fun f s₁ y => ?_) fun _ _ y => y)
  cases f with
  | next =>
    obtain ⟨σ₁, r, ⟨m₁, g₁, I₁⟩, o₁⟩ := y
    exact r.pre O I₁ g₁ o₁
  | _ => exact y

theorem Inv.nst {m : Mem} {s : Shared} {a : Addr} (I : Inv h0 C m σ s) (h : a ∈ C.wr ++ owns σ) : a ≠ cStatics := fun q => by
  obtain ⟨o, e⟩ := I.frm.est
  rw [← q, (I.wr a h).2] at e; cases e
/-- what may be stored -/
noncomputable def SlOk (C : Cx) (m : Mem) (σ : Sto) (s : Shared) (v : Value) : Sl → Prop
  | .dat d => Rd m d v
  | .own a l => v = .ref a ∧ (∃ vs, SeqAt s.heap.get? "list" a vs ∧ RdL m l vs) ∧ a ∉ C.wr ++ owns σ ∧ m a = none ∧ C.ent.get? a = none
  | _ => False
/-- a name is stored -/
theorem store {A : Around} {m : Mem} {σ σ' : Sto} {s : Shared} {x : Str} {v : Value} {sl : Sl} {E : Value → Shared → Prop} {Q : Unit → Shared → Prop} (I : Inv h0 C m σ s) (u : Upd σ x sl σ')
    (hc : SlOk C m σ s v sl)
    (q : ∀ s', GrowW (C.wr ++ owns σ) m s m s' → Inv h0 C m σ' s' → Q () s') : wpAny (model prog w) A (storeName C.env x v) Q E s := by
  obtain ⟨sl₀, hin, hro⟩ := u.there
  obtain ⟨sb, oa, oc, _, eo, eo'⟩ := u.split
  have hown : ∀ a ∈ slOwn sl, (∃ vs, SeqAt s.heap.get? "list" a vs) ∧ a ∉ C.wr ++ owns σ ∧ m a = none ∧ C.ent.get? a = none := by
    intro a ha
    cases sl with
    | own b l =>
      cases List.mem_singleton.mp ha
      obtain ⟨_, ⟨vs, h, _⟩, h2, h3, h4⟩ := hc
      exact ⟨⟨vs, h⟩, h2, h3, h4⟩
    | _ => cases ha
  -- the address that is written
  have key : ∀ (W : Addr) (h' : Heap) (tk : Nat), s.toks ≤ tk → W ∈ C.wr → Heap.SameBut W s.heap h' → (∃ f, h'.Ns C.env.locals f) → (∀ y c, C.env.cells.lookup y = some c → ∃ v, h'.IsCell c v) →
      (∀ y u, y ≠ x → Loc s.heap C.env y u → Loc h' C.env y u) → Loc h' C.env x v → (∀ L o, s.heap.get? L = some o → ∃ o', h'.get? L = some o' ∧ ((∀ vs, o.data ≠ .fields vs) → ∀ vs, o'.data ≠ .fields vs)) → Q () { s with heap := h', toks := tk } := by
    intro W h' tk htk hW hs hn hcl hloc hx hfr
    have hmW : m W = none := (I.wr W (List.mem_append_left _ hW)).1
    have le : ∀ a o, m a = some o → h'.get? a = some o := fun a o e => (hs.2 a fun q => by subst q; rw [hmW] at e; cases e).trans (I.amb.le a o e)
    have sq : ∀ a vs, a ≠ W → SeqAt s.heap.get? "list" a vs → SeqAt h'.get? "list" a vs := fun a vs n ⟨o, j, e, r⟩ => ⟨o, j, (hs.2 a n).trans e, r⟩
    have nd := I.frm.nodup
    have apart := List.nodup_append.mp I.apart
    refine q _ ⟨Sub.refl m, le, fun a o e => .inl e, fun a o n e => ⟨o, (hs.2 a fun q => n (q ▸ List.mem_append_left _ hW)).trans e, .refl o⟩, fun a o vs n e d => (hs.2 a fun q => n (q ▸ List.mem_append_left _ hW)).trans e, hfr, rfl, rfl, htk⟩
      ⟨⟨I.amb.base, le, ?_, I.amb.out, Nat.lt_of_lt_of_le I.amb.tk htk, I.amb.lim.sameBut hs (I.nst (List.mem_append_left _ hW)).symm, I.amb.stn⟩, by rw [u.keys]; exact I.frm, fun y t hm => ?_, hn, hcl, fun y d hm => ?_, fun y a l hm => ?_, fun a ha => ?_, fun a ha => ?_, fun a o e => ?_, ?_⟩
    · have : ∀ {l : List Env}, s.heap.FunFrames h0 l → h'.FunFrames h0 l := fun {l} => by
        induction l with
        | nil => exact fun _ => trivial
        | cons e r ih =>
          rintro ⟨hk, ⟨L, o, hf, hn, ho, hd⟩, hr⟩
          obtain ⟨o', ho', hd'⟩ := hfr L o ho
          exact ⟨hk, ⟨L, o', hf, hn, ho', hd' hd⟩, ih hr⟩
      exact this I.amb.frames
    · rcases u.mem nd hm with ⟨rfl, rfl⟩ | ⟨hm, _⟩
      · rcases I.wrt y sl₀ hin with ⟨d, e⟩ | h
        · exact absurd e (hro d)
        · exact .inr h
      · exact I.wrt y t hm
    · have hm' : ∃ t, (y, t) ∈ σ' ∧ (t = .dat d ∨ t = .ro d) := by
        rcases hm with h | h
        · exact ⟨_, h, .inl rfl⟩
        · exact ⟨_, h, .inr rfl⟩
      obtain ⟨t, hm', ht⟩ := hm'
      rcases u.mem nd hm' with ⟨rfl, rfl⟩ | ⟨hm', hne⟩
      · rcases ht with rfl | rfl
        · exact ⟨v, hx, hc⟩
        · exact False.elim hc
      · obtain ⟨u', lo, r⟩ := I.dat y d (ht.elim (fun e => .inl (e ▸ hm')) fun e => .inr (e ▸ hm'))
        exact ⟨u', hloc y u' hne lo, r⟩
    · rcases u.mem nd hm with ⟨rfl, rfl⟩ | ⟨hm, hne⟩
      · obtain ⟨rfl, ⟨vs, hsq, r⟩, hna, _⟩ := hc
        exact ⟨hx, vs, sq a vs (fun q => hna (q ▸ List.mem_append_left _ hW)) hsq, r⟩
      · obtain ⟨lo, vs, hsq, r⟩ := I.own y a l hm
        exact ⟨hloc y _ hne lo, vs, sq a vs (fun q => apart.2.2 _ hW _ (owns_mem hm) q.symm) hsq, r⟩
    · rcases List.mem_append.mp ha with h | h
      · exact I.wr a (List.mem_append_left _ h)
      · rw [eo'] at h
        rcases List.mem_append.mp h with h | h
        · rcases List.mem_append.mp h with h | h
          · exact I.wr a (List.mem_append_right _ (by rw [eo]; simp [h]))
          · exact (hown a h).2.2
        · exact I.wr a (List.mem_append_right _ (by rw [eo]; simp [h]))
    · have old : ∀ o, s.heap.get? a = some o → ∃ o', h'.get? a = some o' := fun o e => let ⟨o', e', _⟩ := hfr a o e; ⟨o', e'⟩
      rcases List.mem_append.mp ha with h | h
      · obtain ⟨o, e⟩ := I.std a (List.mem_append_left _ h); exact old o e
      · rw [eo'] at h
        rcases List.mem_append.mp h with h | h
        · rcases List.mem_append.mp h with h | h
          · obtain ⟨o, e⟩ := I.std a (List.mem_append_right _ (by rw [eo]; simp [h])); exact old o e
          · obtain ⟨⟨vs, o, j, e, _⟩, _⟩ := hown a h
            exact old o e
        · obtain ⟨o, e⟩ := I.std a (List.mem_append_right _ (by rw [eo]; simp [h])); exact old o e
    · obtain ⟨o', e'⟩ := I.ent a o e
      obtain ⟨o'', e'', _⟩ := hfr a o' e'
      exact ⟨o'', e''⟩
    · have ap := I.apart
      rw [eo] at ap
      rw [eo']
      have sub : (C.wr ++ (oa ++ oc)).Nodup := ap.sublist (List.Sublist.append (List.Sublist.refl _) (List.Sublist.append (List.sublist_append_left _ _) (List.Sublist.refl _)))
      cases sl with
      | own a l =>
        have hna := (hown a (.head _)).2.1
        rw [eo] at hna
        simp only [slOwn, List.nodup_append, List.mem_append, List.mem_cons, List.not_mem_nil, or_false, List.nodup_cons, not_false_eq_true, List.nodup_nil, and_true, true_and] at sub hna ⊢
        grind
      | _ => simpa [slOwn] using sub
  rcases I.wrt x sl₀ hin with ⟨d, e⟩ | hl | ⟨hl, c, hcl, hcw⟩
  · exact absurd e (hro d)
  · obtain ⟨f, n⟩ := I.ns
    refine wpAny_storeName_local hl n (fun h' hn hs => ?_) (by rw [I.frm.fn]; rfl)
    refine key C.env.locals h' _ (by first | exact Nat.le_succ _ | assumption | ((try dsimp only); omega)) I.frm.loc hs ⟨_, hn⟩ (fun y c e => ?_) (fun y u hne lo => ?_) (.inl ⟨hl, I.frm.nkey x (List.mem_map.mpr ⟨_, hin, rfl⟩), _, hn, if_pos rfl⟩) fun L o e => ?_
    · obtain ⟨v, hv⟩ := I.cells y c e
      exact ⟨v, hv.sameBut hs fun q => I.frm.cloc y (q ▸ e)⟩
    · rcases lo with ⟨a, nk, f', n', e⟩ | ⟨a, c, e, i⟩
      · refine .inl ⟨a, nk, _, hn, ?_⟩
        obtain ⟨o1, es1, ep1, g1, d1, _, v1⟩ := n
        obtain ⟨o2, es2, ep2, g2, d2, _, v2⟩ := n'
        rw [g1] at g2; cases g2
        rw [d1] at d2; cases d2
        show (if y = x then some v else f y) = some u
        rw [if_neg hne, ← v1 y, v2 y, e]
      · exact .inr ⟨a, c, e, i.sameBut hs fun q => I.frm.cloc y (q ▸ e)⟩
    · by_cases q : L = C.env.locals
      · subst q
        obtain ⟨o', es, ep, g, d, _⟩ := hn
        exact ⟨o', g, fun _ vs e => by rw [d] at e; cases e⟩
      · exact ⟨o, (hs.2 L q).trans e, id⟩
  · obtain ⟨v₀, hv⟩ := I.cells x c hcl
    refine wpAny_storeName_cell I.frm.fn hl hcl hv fun h' hn hs => ?_
    have hLc : C.env.locals ≠ c := fun q => I.frm.cloc x (q ▸ hcl)
    refine key c h' s.toks (by first | exact Nat.le_succ _ | assumption | ((try dsimp only); omega)) hcw hs ?_ (fun y c' e => ?_) (fun y u hne lo => ?_) (.inr ⟨.inl hl, c, hcl, hn⟩) fun L o e => ?_
    · obtain ⟨f, n⟩ := I.ns
      exact ⟨f, n.sameBut hs hLc⟩
    · by_cases q : c' = c
      · subst q; exact ⟨_, hn⟩
      · obtain ⟨v, hv⟩ := I.cells y c' e
        exact ⟨v, hv.sameBut hs q⟩
    · rcases lo with ⟨a, nk, f', n', e⟩ | ⟨a, c', e, i⟩
      · exact .inl ⟨a, nk, f', n'.sameBut hs hLc, e⟩
      · exact .inr ⟨a, c', e, i.sameBut hs fun q => hne (I.frm.capart y x c (q ▸ e) hcl)⟩
    · by_cases q : L = c
      · subst q
        obtain ⟨o', g, d⟩ := hn
        exact ⟨o', g, fun _ vs e => by rw [d] at e; cases e⟩
      · exact ⟨o, (hs.2 L q).trans e, id⟩
end
section
set_option linter.unusedVariables false
variable {prog : Program} {w : World} {h0 : Heap} {C : Cx} {k : Nat} {σ σ' : Sto} {R : Out → Prop}

theorem Inv.inter {m : Mem} {s : Shared} (I : Inv h0 C m σ s) : interactive C.env = false := by unfold interactive; rw [I.frm.fn]; rfl

/-- a value is stored, and what follows -/
theorem stored {A : Around} {m m₁ : Mem} {s s₁ : Shared} {x : Str} {v : Value} {sl : Sl} {E : Value → Shared → Prop} (O : Ok C.frs k A) (I : Inv h0 C m₁ σ s₁) (g : GrowW (C.wr ++ owns σ) m s m₁ s₁)
    (u : Upd σ x sl σ') (hc : SlOk C m₁ σ s₁ v sl) (hn : ∀ a ∈ slOwn sl, s.heap.get? a = none) (r : R (.next σ')) : wpAny (model prog w) A (storeName C.env x v) (fun _ => After h0 C m σ s R .next) E s₁ :=
  store I u hc fun s' g' I' => ⟨σ', r, ⟨m₁, g.trans g' fun _ h => .inl h, I'⟩, fun a ha => by
    obtain ⟨sb, oa, oc, _, eo, eo'⟩ := u.split
    rw [eo'] at ha
    rw [eo]
    rcases List.mem_append.mp ha with h | h
    · rcases List.mem_append.mp h with h | h
      · exact .inl (by simp [h])
      · exact .inr (hn a h)
    · exact .inl (by simp [h])⟩
theorem Run1.assign {x : Str} {np p : Pos} {e : Expr} {d : D} (h : Ev prog w h0 C k σ e d) (u : Upd σ x (.dat d) σ') (r : R (.next σ')) (hs : swapsWith e (some (.Name x np)) p.line C.env = pure false := by rfl) :
    Run1 prog w h0 C k σ (.Assign [.Name x np] e p) R := fun A m s O I => by
  refine wpAny_Assign_Name ((h A m s O I).then fun v m₁ s₁ g₁ r₁ => ?_) hs
  exact stored O (I.grow g₁) (g₁.toW _) u r₁ (fun _ h => nomatch h) r
/-- a new empty list, the frame's own -/
theorem Run1.newOwn {x : Str} {np p lp : Pos} (h : ∀ a, ∃ σ', Upd σ x (.own a []) σ' ∧ R (.next σ')) :
    Run1 prog w h0 C k σ (.Assign [.Name x np] (.List [] lp) p) R := fun A m s O I => by
  refine wpAny_Assign_Name (List_ (Calls.spliced_nil (wpAny_newList ?_))) rfl
  obtain ⟨σ', u, r⟩ := h s.heap.objs.size
  have g := (Grow.refl I.amb.le).push { cls := .type "list", data := .seq ([] : List Value).toArray }
  have hno : s.heap.objs.size ∉ C.wr ++ owns σ := fun q => by
    obtain ⟨o, e⟩ := I.std _ q
    rw [get_size_none] at e; cases e
  refine stored O (I.grow g) (g.toW _) u ⟨rfl, ⟨[], ⟨_, 0, Heap.get?_push_size _ rfl, rfl, rfl, rfl⟩, rfl⟩, hno, fresh_none I.amb.le (get_size_none _), ?_⟩ (fun a ha => ?_) r
  · cases q : C.ent.get? s.heap.objs.size with
    | none => rfl
    | some o =>
      obtain ⟨o', e⟩ := I.ent _ o q
      rw [get_size_none] at e; cases e
  · cases List.mem_singleton.mp ha; exact get_size_none _
theorem Run1.aug {x : Str} {np p : Pos} {op : Operator} {e : Expr} {d₀ d₁ d : D} (hx : (x, Sl.dat d₀) ∈ σ) (h : Ev prog w h0 C k σ e d₁) (b : Bin prog w h0 (inplaceOp op) d₀ d₁ d) (u : Upd σ x (.dat d) σ') (r : R (.next σ')) :
    Run1 prog w h0 C k σ (.AugAssign (.Name x np) op e p) R := fun A m s O I => by
  obtain ⟨v₀, lo, rd⟩ := I.dat x d₀ (.inl hx)
  have ld : ∀ {Q : Value → Shared → Prop} {E : Value → Shared → Prop}, Q v₀ s → wpAny (model prog w) A (loadName C.env x) Q E s := fun q => by
    rcases lo with ⟨hl, _, f, n, e⟩ | ⟨hl, c, e, i⟩
    · exact wpAny_loadName_local I.frm.fn hl n e q
    · rcases hl with hl | ⟨hl, hcd⟩
      · exact wpAny_loadName_cell I.frm.fn hl e i q
      · exact wpAny_loadName_free I.frm.fn hl e i q hcd
  refine wpAny_AugAssign_Name (ld ((h A m s O I).then fun v m₁ s₁ g₁ r₁ => (b C.frs k A m₁ s₁ v₀ v O (I.grow g₁).amb (rd.mono g₁.sub) r₁).then fun v' m₂ s₂ g₂ r₂ => ?_))
  have g := g₁.trans g₂
  exact stored O (I.grow g) (g.toW _) u r₂ (fun _ h => nomatch h) r
theorem iadd_ss {x y : List Nat} (h : x.length + y.length ≤ sizeLine) : Bin prog w h0 (inplaceOp .Add) (.str x) (.str y) (.str (x ++ y)) := fun _ _ _ _ _ _ _ _ I ⟨_, e⟩ ⟨_, e'⟩ => by
  subst e e'
  refine PySem.P.iadd_str ?_
  have := Str.app x y
  split
  · rename_i h1
    have : x = [] := List.length_eq_zero_iff.mp (by simpa [Str.len] using h1)
    subst this; exact ⟨_, Grow.refl I.le, _, rfl⟩
  · split
    · rename_i h2
      have : y = [] := List.length_eq_zero_iff.mp (by simpa [Str.len] using h2)
      subst this; exact ⟨_, Grow.refl I.le, _, by rw [List.append_nil]⟩
    · exact ⟨by rw [this, Str.len, List.length_append]; exact h, _, (Grow.refl I.le).toks _, _, by rw [this]⟩
theorem Run1.ite {t : Expr} {b o : List Stmt} {p : Pos} {c : Bool} (h : EvB prog w h0 C k σ t c) (h1 : c = true → Run prog w h0 C k σ b R) (h2 : c = false → Run prog w h0 C k σ o R) : Run1 prog w h0 C k σ (.If t b o p) R := fun A m s O I => by
  refine wpAny_If (wpAny_mono (h A m s O I) (fun v s₁ ⟨e, m₁, g₁⟩ => ?_) fun _ _ f => f.elim)
  subst e
  have I₁ := I.grow g₁
  cases v with
  | true => exact (h1 rfl).pre O I₁ (g₁.toW _) fun _ h => .inl h
  | false => exact (h2 rfl).pre O I₁ (g₁.toW _) fun _ h => .inl h
theorem Run1.ret {e : Expr} {p : Pos} {d : D} (h : Ev prog w h0 C k σ e d) (r : R (.ret d)) : Run1 prog w h0 C k σ (.Return (some e) p) R := fun A m s O I =>
  wpAny_Return_some ((h A m s O I).then fun v m₁ s₁ g₁ r₁ => ⟨d, r, m₁, g₁.toW _, r₁⟩)
theorem Run1.brk {p : Pos} (r : R (.brk σ)) : Run1 prog w h0 C k σ (.Break p) R := fun A m s O I =>
  wpAny_Break ⟨σ, r, ⟨m, (Grow.refl I.amb.le).toW _, I⟩, fun _ h => .inl h⟩
theorem Run1.assert {t : Expr} {msg : Option Expr} {p : Pos} (h : EvB prog w h0 C k σ t true) (r : R (.next σ)) : Run1 prog w h0 C k σ (.Assert t msg p) R := fun A m s O I =>
  wpAny_Assert_holds (wpAny_mono (h A m s O I) (fun v s₁ ⟨e, m₁, g₁⟩ => ⟨e, σ, r, ⟨m₁, g₁.toW _, I.grow g₁⟩, fun _ h => .inl h⟩) fun _ _ f => f.elim)

/-- the frame's own list grows -/
theorem grownOwn {m : Mem} {s : Shared} {h' : Heap} {x : Str} {a : Addr} {l : List D} {vs : List Value} {d : D} {v : Value} (I : Inv h0 C m σ s) (hx : (x, Sl.own a l) ∈ σ) (u : Upd σ x (.own a (l ++ [d])) σ')
    (hr : RdL m l vs) (rd : Rd m d v) (hq : SeqAt h'.get? "list" a (vs ++ [v])) (hs : Heap.SameBut a s.heap h') : GrowW (C.wr ++ owns σ) m s m { s with heap := h' } ∧ Inv h0 C m σ' { s with heap := h' } ∧ owns σ' = owns σ := by
  have hin := List.mem_append_right C.wr (owns_mem hx)
  have hma := (I.wr a hin).1
  have apart := List.nodup_append.mp I.apart
  have le : ∀ b o, m b = some o → h'.get? b = some o := fun b o e => (hs.2 b fun q => by subst q; rw [hma] at e; cases e).trans (I.amb.le b o e)
  obtain ⟨lx, _, ⟨oa, na, ea, ca, da, sa⟩, _⟩ := I.own x a l hx
  obtain ⟨oa', na', ea', ca', da', sa'⟩ := hq
  have fr : ∀ L o, s.heap.get? L = some o → ∃ o', h'.get? L = some o' ∧ ((∀ vs, o.data ≠ .fields vs) → ∀ vs, o'.data ≠ .fields vs) := fun L o e => by
    by_cases q : L = a
    · subst q; exact ⟨oa', ea', fun _ vs e => by rw [sa'] at e; cases e⟩
    · exact ⟨o, (hs.2 L q).trans e, id⟩
  have seqns : ∀ f, ¬ s.heap.Ns a f := fun f ⟨o, es, ep, e, d, _⟩ => by rw [ea] at e; cases e; rw [sa] at d; cases d
  have seqc : ∀ f, ¬ s.heap.IsCell a f := fun f ⟨o, e, d⟩ => by rw [ea] at e; cases e; rw [sa] at d; cases d
  have loc : ∀ y u, Loc s.heap C.env y u → Loc h' C.env y u := fun y u lo => by
    rcases lo with ⟨p, nk, f, n, e⟩ | ⟨p, c, e, i⟩
    · exact .inl ⟨p, nk, f, n.sameBut hs (fun q => seqns f (q ▸ n)), e⟩
    · exact .inr ⟨p, c, e, i.sameBut hs fun q => seqc _ (q ▸ i)⟩
  have nd := I.frm.nodup
  -- x is the only name of a
  have eo : owns σ' = owns σ := by
    obtain ⟨sl₀, oa, oc, hm, e, e'⟩ := u.split
    rw [e, e', one_key nd hm hx]; rfl
  refine ⟨⟨Sub.refl m, le, fun _ _ e => .inl e, fun b o n e => ⟨o, (hs.2 b fun q => n (q ▸ hin)).trans e, .refl o⟩, fun b o vs n e d => (hs.2 b fun q => n (q ▸ hin)).trans e, fr, rfl, rfl, Nat.le_refl _⟩,
    ⟨⟨I.amb.base, le, ?_, I.amb.out, I.amb.tk, I.amb.lim.sameBut hs (I.nst hin).symm, I.amb.stn⟩, by rw [u.keys]; exact I.frm, fun y t hm => ?_, let ⟨f, n⟩ := I.ns; ⟨f, n.sameBut hs fun q => seqns f (q ▸ n)⟩, fun y c e => let ⟨v, i⟩ := I.cells y c e; ⟨v, i.sameBut hs fun q => seqc _ (q ▸ i)⟩,
      fun y e hm => ?_, fun y b lb hm => ?_, by rw [eo]; exact I.wr, by rw [eo]; exact fun b hb => let ⟨o, e⟩ := I.std b hb; let ⟨o', e', _⟩ := fr b o e; ⟨o', e'⟩, fun b o e => let ⟨o', e'⟩ := I.ent b o e; let ⟨o'', e'', _⟩ := fr b o' e'; ⟨o'', e''⟩, by rw [eo]; exact I.apart⟩, eo⟩
  · have : ∀ {l : List Env}, s.heap.FunFrames h0 l → h'.FunFrames h0 l := fun {l} => by
      induction l with
      | nil => exact fun _ => trivial
      | cons e r ih =>
        rintro ⟨hk, ⟨L, o, hf, hn, ho, hd⟩, hr⟩
        obtain ⟨o', ho', hd'⟩ := fr L o ho
        exact ⟨hk, ⟨L, o', hf, hn, ho', hd' hd⟩, ih hr⟩
    exact this I.amb.frames
  · rcases u.mem nd hm with ⟨rfl, rfl⟩ | ⟨hm, _⟩
    · rcases I.wrt y _ hx with ⟨d, e⟩ | h
      · cases e
      · exact .inr h
    · exact I.wrt y t hm
  · have hm' : (y, Sl.dat e) ∈ σ ∨ (y, Sl.ro e) ∈ σ := by
      rcases hm with h | h
      · rcases u.mem nd h with ⟨_, e⟩ | ⟨h, _⟩
        · cases e
        · exact .inl h
      · rcases u.mem nd h with ⟨_, e⟩ | ⟨h, _⟩
        · cases e
        · exact .inr h
    obtain ⟨u', lo, r⟩ := I.dat y e hm'
    exact ⟨u', loc y u' lo, r⟩
  · rcases u.mem nd hm with ⟨rfl, e⟩ | ⟨hm, hne⟩
    · cases e
      exact ⟨loc _ _ lx, _, ⟨oa', na', ea', ca', da', sa'⟩, hr.snoc rd⟩
    · obtain ⟨lo, us, ⟨o, j, e, r⟩, q⟩ := I.own y b _ hm
      have hba : b ≠ a := fun q => by
        subst q
        have : ∀ {σ : Sto}, (owns σ).Nodup → (y, Sl.own b lb) ∈ σ → (x, Sl.own b l) ∈ σ → y = x := by
          intro σ nd h1 h2
          induction σ with
          | nil => cases h1
          | cons p r ih =>
            obtain ⟨z, t⟩ := p
            rw [owns_cons] at nd
            have nd' := List.nodup_append.mp nd
            rcases List.mem_cons.mp h1 with e | q1 <;> rcases List.mem_cons.mp h2 with e' | q2
            · cases e; cases e'; rfl
            · cases e; exact absurd rfl (nd'.2.2 _ (.head _) _ (owns_mem q2))
            · cases e'; exact absurd rfl (nd'.2.2 _ (.head _) _ (owns_mem q1))
            · exact ih nd'.2.1 q1 q2
        exact hne (this apart.2.1 hm hx)
      exact ⟨loc y _ lo, us, ⟨o, j, (hs.2 b hba).trans e, r⟩, q⟩
theorem append_wp {A : Around} {s : Shared} {a : Addr} {vs : List Value} {v : Value} {Q : Value → Shared → Prop} {E : Value → Shared → Prop} (hl : SeqAt s.heap.get? "list" a vs) (hsz : vs.length ≤ sizeLine)
    (hQ : ∀ h', SeqAt h'.get? "list" a (vs ++ [v]) → Heap.SameBut a s.heap h' → Q .none { s with heap := h' }) : wpAny (model prog w) A (PySem.call (.builtin "list.append") [.ref a, v]) Q E s := by
  obtain ⟨o, n, ho, hc, hdd, hd⟩ := id hl
  have hsz' : vs.toArray.size ≤ sizeLine := by rw [List.size_toArray]; exact hsz
  obtain ⟨n', hd'⟩ := Obj.data_mapSeq hd (·.push v)
  refine wpAny_call_entry slot_list_append (isList_of hl).typeIs entry_list_append ?_ (args_list_append _ _)
  show wpAny _ _ (updateSeq a (·.push v) >>= fun _ => PySem.ret .none) _ _ s
  refine wpAny_bind (wpAny_updateSeq ho hd (wpAny_pure ⟨.none, rfl, hQ _ ?_ (Heap.SameBut.update ..)⟩))
  refine ⟨_, n', Heap.get?_update_self _ ho (Obj.isFreed_of_seq hd'), (Obj.cls_mapSeq ..).trans hc, ?_, by rw [hd']; simp⟩
  obtain ⟨c, d, dt, sl⟩ := o
  cases dt <;> exact hdd
theorem Run1.append {x : Str} {np ap p q : Pos} {e : Expr} {a : Addr} {l : List D} {d : D} (hx : (x, Sl.own a l) ∈ σ) (h : Ev prog w h0 C k σ e d) (u : Upd σ x (.own a (l ++ [d])) σ') (hz : l.length ≤ sizeLine) (r : R (.next σ'))
    (hn : NoStar e := by intro _ _; rfl) (hl : (ap.endLine == p.line) = true := by rfl) : Run1 prog w h0 C k σ (.Expr (.Call (.Attribute (.Name x np) "append" ap) [e] [] p) q) R := fun A m s O I => by
  refine wpAny_Expr_any ?_ I.inter rfl
  obtain ⟨lo, vs, sq, rd⟩ := I.own x a l hx
  have e1 : backTo p (starEach [e] C.env) = [(false, eval e C.env)] := by rw [hn]; rfl
  refine wpAny_Call_append rfl (by rw [e1]; rfl) hl e1 (name_wp I.frm.fn (I.nodbg hx) lo ⟨a, vs.toArray, rfl, ?_, ?_⟩)
  · obtain ⟨o, n, e, c, dd, ss⟩ := sq
    exact ⟨o, n, e, c, dd, ss⟩
  refine (h A m s O I).then fun v m₁ s₁ g₁ r₁ => ?_
  have I₁ := I.grow g₁
  obtain ⟨lo₁, us, sq₁, rd₁⟩ := I₁.own x a l hx
  refine append_wp sq₁ (by rw [rd₁.length]; exact hz) fun h' hl' hs' => ?_
  obtain ⟨g₂, I₂, eo⟩ := grownOwn I₁ hx u rd₁ r₁ hl' hs'
  exact ⟨σ', r, ⟨m₁, (g₁.toW _).trans g₂ fun _ h => .inl h, I₂⟩, fun b hb => .inl (eo ▸ hb)⟩
end
section
set_option linter.unusedVariables false
variable {prog : Program} {w : World} {h0 : Heap} {C : Cx} {k : Nat} {σ σ' : Sto} {R : Out → Prop}

/-- the objects IS (iterators, a comprehension's list) are changed, nothing else that stood is -/
structure GrowI (IS : List Addr) (m : Mem) (s : Shared) (m' : Mem) (s' : Shared) : Prop where
  sub : Sub m m'
  le : ∀ a o, m' a = some o → s'.heap.get? a = some o
  new : ∀ a o, m' a = some o → m a = some o ∨ s.heap.get? a = none
  kept : ∀ a o, a ∉ IS → s.heap.get? a = some o → ∃ o', s'.heap.get? a = some o' ∧ Up o o'
  flds : ∀ a o vs, a ∉ IS → s.heap.get? a = some o → o.data = .fields vs → s'.heap.get? a = some o
  gens : s'.gens = s.gens
  os : s'.os = s.os
  tk : s.toks ≤ s'.toks
  mI : ∀ I ∈ IS, m' I = none
theorem GrowW.thenI {W IS : List Addr} {m m₁ m₂ : Mem} {s s₁ s₂ : Shared} (x : GrowW W m s m₁ s₁) (y : GrowI IS m₁ s₁ m₂ s₂) (h : ∀ I ∈ IS, s.heap.get? I = none) : GrowW W m s m₂ s₂ :=
  have no : ∀ {a : Addr} {o : Obj}, s.heap.get? a = some o → a ∉ IS := fun e q => by rw [h _ q] at e; cases e
  ⟨x.sub.trans y.sub, y.le, fun a o e => (y.new a o e).elim (fun e => x.new a o e) fun q => .inr (.inr (x.back q)),
    fun a o n e => by
      obtain ⟨sl, e₁, u₁⟩ := x.kept a o n e
      obtain ⟨sl', e₂, u₂⟩ := y.kept a _ (no e) e₁
      exact ⟨sl', e₂, u₁.trans u₂⟩,
    fun a o vs n e d => y.flds a o vs (no e) (x.flds a o vs n e d) d,
    fun L o e => by
      obtain ⟨o₁, e₁, h₁⟩ := x.frames L o e
      obtain ⟨sl', e₂, u₂⟩ := y.kept L _ (no e) e₁
      exact ⟨_, e₂, fun hd => u₂.nf (h₁ hd)⟩, y.gens.trans x.gens, y.os.trans x.os, Nat.le_trans x.tk y.tk⟩
/-- I has nothing to do with the frame -/
structure Ap (C : Cx) (I : Addr) : Prop where
  loc : C.env.locals ≠ I
  cells : ∀ x c, C.env.cells.lookup x = some c → c ≠ I
  frs : ∀ env ∈ C.frs, ∀ L, env.frame = some L → L ≠ I
  ent : C.ent.get? I = none
  wr : I ∉ C.wr
theorem Inv.ap {m : Mem} {s : Shared} {a : Addr} (J : Inv h0 C m σ s) (h : s.heap.get? a = none) : Ap C a where
  loc := fun q => by
    obtain ⟨f, o, _, _, e, _⟩ := J.ns
    rw [q, h] at e; cases e
  cells := fun x c e q => by
    obtain ⟨v, o, e', _⟩ := J.cells x c e
    rw [q, h] at e'; cases e'
  frs := fun env he L hL q => by
    obtain ⟨_, o, ho, _⟩ := J.amb.frames.mem (List.mem_filterMap.mpr ⟨env, he, hL⟩)
    rw [q, h] at ho; cases ho
  ent := by
    cases q : C.ent.get? a with
    | none => rfl
    | some o =>
      obtain ⟨o', e⟩ := J.ent _ o q
      rw [h] at e; cases e
  wr := fun q => by
    obtain ⟨o, e⟩ := J.std a (List.mem_append_left _ q)
    rw [h] at e; cases e

/-- the iterator goes on: the frame is not touched -/
theorem Inv.chg {m m' : Mem} {s s' : Shared} {IS : List Addr} (J : Inv h0 C m σ s) (g : GrowI IS m s m' s') (hI : ∀ I ∈ IS, Ap C I ∧ I ∉ owns σ) : Inv h0 C m' σ s' := by
  have ns : ∀ f, s.heap.Ns C.env.locals f → ∃ f', s'.heap.Ns C.env.locals f' ∧ ∀ x, x ≠ theRefusalsKey → f' x = f x := fun f n => ns_up (fun o ho => g.kept _ o (fun q => (hI _ q).1.loc rfl) ho) n
  have cell : ∀ x c v, C.env.cells.lookup x = some c → s.heap.IsCell c v → s'.heap.IsCell c v := fun x c v hx i => cell_up (fun o ho => g.kept c o (fun q => (hI _ q).1.cells x c hx rfl) ho) i
  have seq : ∀ a T vs, a ∉ IS → SeqAt s.heap.get? T a vs → SeqAt s'.heap.get? T a vs := fun a T vs hn q => seq_up (fun o ho => g.kept a o hn ho) q
  have loc : ∀ x v, Loc s.heap C.env x v → Loc s'.heap C.env x v := fun x v l => by
    rcases l with ⟨a, nk, f, n, e⟩ | ⟨a, c, e, i⟩
    · obtain ⟨f', n', q⟩ := ns _ n
      exact .inl ⟨a, nk, f', n', (q x nk).trans e⟩
    · exact .inr ⟨a, c, e, cell _ _ _ e i⟩
  have nn : ∀ a, m a = none → (∃ o, s.heap.get? a = some o) → m' a = none := fun a h ⟨o', e'⟩ => by
    cases e : m' a with
    | none => rfl
    | some o =>
      rcases g.new a o e with h' | h'
      · rw [h] at h'; cases h'
      · rw [h'] at e'; cases e'
  have wo : ∀ a ∈ C.wr ++ owns σ, a ∉ IS := fun a ha q => (List.mem_append.mp ha).elim (hI a q).1.wr (hI a q).2
  refine ⟨⟨fun a o e => g.sub _ _ (J.amb.base a o e), g.le, ?_, fun env he L hL => ?_, Nat.lt_of_lt_of_le J.amb.tk g.tk, ?_, trivial⟩, J.frm, J.wrt, let ⟨f, n⟩ := J.ns; let ⟨f', n', _⟩ := ns _ n; ⟨f', n'⟩, fun x c e => let ⟨v, i⟩ := J.cells x c e; ⟨v, cell _ _ _ e i⟩,
    fun x d h => let ⟨v, l, r⟩ := J.dat x d h; ⟨v, loc _ _ l, r.mono g.sub⟩, fun x a l h => let ⟨lo, vs, q, r⟩ := J.own x a l h; ⟨loc _ _ lo, vs, seq _ _ _ (wo a (List.mem_append_right _ (owns_mem h))) q, r.mono g.sub⟩,
    fun a h => ⟨nn a (J.wr a h).1 (J.std a h), (J.wr a h).2⟩, fun a h => let ⟨o, e⟩ := J.std a h; let ⟨_, e', _⟩ := g.kept a o (wo a h) e; ⟨_, e'⟩,
    fun a o e => let ⟨o', e'⟩ := J.ent a o e; let ⟨_, e'', _⟩ := g.kept a o' (fun q => by rw [(hI a q).1.ent] at e; cases e) e'; ⟨_, e''⟩, J.apart⟩
  · have : ∀ {l : List Env}, (∀ env ∈ l, ∀ L, env.frame = some L → L ∉ IS) → s.heap.FunFrames h0 l → s'.heap.FunFrames h0 l := fun {l} => by
      induction l with
      | nil => exact fun _ _ => trivial
      | cons e r ih =>
        rintro hl ⟨hk, ⟨L, o, hf, hn, ho, hd⟩, hr⟩
        obtain ⟨_, ho', u⟩ := g.kept L o (hl e (.head _) L hf) ho
        exact ⟨hk, ⟨L, _, hf, hn, ho', u.nf hd⟩, ih (fun env he => hl env (.tail _ he)) hr⟩
    exact this (fun env he L hL q => (hI L q).1.frs env he L hL rfl) J.amb.frames
  · obtain ⟨_, o, ho, _⟩ := J.amb.frames.mem (List.mem_filterMap.mpr ⟨env, he, hL⟩)
    exact nn L (J.amb.out env he L hL) ⟨o, ho⟩
  · refine lim_up (fun o e => g.kept _ o (fun q => ?_) e) J.amb.lim
    obtain ⟨o', e'⟩ := J.frm.est
    rw [(hI _ q).1.ent] at e'; cases e'

theorem wpAny_noE {t : Sem α} {A : Around} {s : Shared} {Q : α → Shared → Prop} {E : Value → Shared → Prop} (h : wpAny (model prog w) A t Q (fun _ _ => False) s) : wpAny (model prog w) A t Q E s :=
  wpAny_mono h (fun _ _ q => q) fun _ _ f => f.elim

/-- an iterator it (its objects: IS) over the data ds; St i: it has given i of them; tgt: the place that they are put to -/
structure Itr (prog : Program) (w : World) (A : Around) (tgt : Expr) (IS : List Addr) (it : Value) (ds : List D) (St : Nat → Mem → Heap → Prop) : Prop where
  flds : ∀ i m h, St i m h → ∀ I ∈ IS, ∃ o vs, h.get? I = some o ∧ o.data = .fields vs
  frame : ∀ i m h m' h', St i m h → Sub m m' → (∀ I ∈ IS, ∀ o, h.get? I = some o → h'.get? I = some o) → St i m' h'
  item : ∀ i m (s : Shared) d, ds[i]? = some d → St i m s.heap → (∀ a o, m a = some o → s.heap.get? a = some o) → (∀ I ∈ IS, m I = none) →
    wpAny (model prog w) A (pyNext it) (fun r s' => ∃ v, r = some v ∧ wpAny (model prog w) A (letOwnedTupleGo tgt it v) (fun _ s'' => ∃ m', GrowI IS m s m' s'' ∧ Rd m' d v ∧ St (i + 1) m' s''.heap) (fun _ _ => False) s') (fun _ _ => False) s
  done : ∀ m (s : Shared), St ds.length m s.heap → (∀ a o, m a = some o → s.heap.get? a = some o) → (∀ I ∈ IS, m I = none) →
    wpAny (model prog w) A (pyNext it) (fun r s' => r = none ∧ ∃ m', GrowI IS m s m' s') (fun _ _ => False) s
  self : ∀ i m (s : Shared) (Q : Value → Shared → Prop) (E : Value → Shared → Prop), St i m s.heap → (∀ a o, m a = some o → s.heap.get? a = some o) → Q it s → wpAny (model prog w) A (pyIter it) Q E s
/-- a value that can be iterated over -/
noncomputable def Iterable (prog : Program) (w : World) (h0 : Heap) (tgt : Expr) (d : D) (ds : List D) : Prop :=
  ∀ l k A m s v, 0 < k → Ok l k A → Amb h0 l m s → Rd m d v → wpAny (model prog w) A (pyIter v) (fun it s' => ∃ IS m' St, Grow m s m' s' ∧ (∀ I ∈ IS, m' I = none ∧ s.heap.get? I = none) ∧ Itr prog w A tgt IS it ds St ∧ St 0 m' s'.heap) (fun _ _ => False) s

/-- an expression that is iterated over -/
noncomputable def EvI (prog : Program) (w : World) (h0 : Heap) (C : Cx) (k : Nat) (σ : Sto) (tgt e : Expr) (ds : List D) : Prop :=
  ∀ A m s, Ok C.frs k A → Inv h0 C m σ s → wpAny (model prog w) A (eval e C.env) (fun v s₁ => wpAny (model prog w) A (pyIter v)
    (fun it s' => ∃ IS m' St, Grow m s m' s' ∧ (∀ I ∈ IS, m' I = none ∧ s.heap.get? I = none) ∧ Itr prog w A tgt IS it ds St ∧ St 0 m' s'.heap) (fun _ _ => False) s₁) (fun _ _ => False) s
theorem EvI.of {tgt e : Expr} {d : D} {ds : List D} (hi : Ev prog w h0 C k σ e d) (hit : Iterable prog w h0 tgt d ds) (hk : 0 < k := by omega) : EvI prog w h0 C k σ tgt e ds := fun A m s O I =>
  (hi A m s O I).then fun v m₁ s₁ g₁ r₁ => wpAny_mono (hit C.frs k A m₁ s₁ v hk O (I.grow g₁).amb r₁) (fun itv s₂ ⟨IS, m₂, St, g₂, hIS, T, st₂⟩ =>
    ⟨IS, m₂, St, g₁.trans g₂, fun a ha => ⟨(hIS a ha).1, none_back g₁.kept (hIS a ha).2⟩, T, st₂⟩) fun _ _ f => f

theorem growI {I : Addr} {IS : List Addr} {m : Mem} {s : Shared} {h' : Heap} {tk : Nat} (hI : I ∈ IS) (le : ∀ a o, m a = some o → s.heap.get? a = some o) (hm : ∀ I ∈ IS, m I = none) (hs : Heap.ExtBut I s.heap h') (htk : s.toks ≤ tk := by ((first | exact Nat.le_succ _ | assumption | ((try dsimp only); omega)); done)) :
    GrowI IS m s m { s with heap := h', toks := tk } where
  sub := Sub.refl m
  le := fun a o e => hs a o (fun q => by subst q; rw [hm _ hI] at e; cases e) (le a o e)
  new := fun _ _ e => .inl e
  kept := fun a o n e => ⟨o, hs a o (fun q => n (q ▸ hI)) e, .refl o⟩
  flds := fun a o vs n e _ => hs a o (fun q => n (q ▸ hI)) e
  gens := rfl
  os := rfl
  tk := htk
  mI := hm

/-- the item d is put to the place t -/
structure Tgt (prog : Program) (w : World) (h0 : Heap) (C : Cx) (k : Nat) (t : Expr) (σ : Sto) (d : D) (σ' : Sto) : Prop where
  own : ∀ a ∈ owns σ', a ∈ owns σ
  it : ∀ A m s v, Ok C.frs k A → Inv h0 C m σ s → Rd m d v → wpAny (model prog w) A (assign t C.env v) (fun _ s' => ∃ m', GrowW (C.wr ++ owns σ) m s m' s' ∧ Inv h0 C m' σ' s') (fun _ _ => False) s
theorem Upd.owns_dat {x : Str} {d : D} (u : Upd σ x (.dat d) σ') : ∀ a ∈ owns σ', a ∈ owns σ := fun a ha => by
  obtain ⟨sb, oa, oc, _, eo, eo'⟩ := u.split
  rw [eo'] at ha
  rw [eo]
  simp only [slOwn, List.append_nil, List.mem_append] at ha ⊢
  rcases ha with h | h
  · exact .inl (.inl h)
  · exact .inr h
theorem Tgt.name {x : Str} {np : Pos} {d : D} (u : Upd σ x (.dat d) σ') : Tgt prog w h0 C k (.Name x np) σ d σ' :=
  ⟨u.owns_dat, fun A m s v O I r => wpAny_assign_Name (store I u r fun s₅ g₅ I₅ => ⟨m, g₅, I₅⟩)⟩
theorem extBut_grow {m : Mem} {s : Shared} {h' : Heap} (le : ∀ a o, m a = some o → s.heap.get? a = some o) (h : Heap.ExtBut s.heap.objs.size s.heap h') : Grow m s m { s with heap := h' } :=
  (Grow.refl le).changeE h (get_size_none _) (fresh_none le (get_size_none _))
theorem Tgt.tup2 {x y : Str} {px py p : Pos} {n : Nat} {d e : D} {σ₁ : Sto} (u : Upd σ x (.dat d) σ₁) (v : Upd σ₁ y (.dat e) σ') (hk : 0 < k := by omega) : Tgt prog w h0 C k (.Tuple [.Name x px, .Name y py] n p) σ (.tup [d, e]) σ' := by
  refine ⟨fun a h => u.owns_dat a (v.owns_dat a h), fun A m s t O I ⟨a, vs, e1, q, v1, _, e2, r1, v2, _, e3, r2, e4⟩ => ?_⟩
  subst e1 e2 e3 e4
  refine wpAny_assign_Tuple (O.hd hk) (isTup_of (seq_in q I.amb.le)) rfl rfl fun h' hx => ?_
  have g := extBut_grow I.amb.le hx
  show wpAny _ A (do holding [v2] (assign (.Name x px) C.env v1); do holding [] (assign (.Name y py) C.env v2); pure ()) _ _ _
  refine wpAny_bind (wpAny_holding (wpAny_assign_Name (store (I.grow g) u r1 fun s₁ g₁ I₁ => ?_)))
  refine wpAny_bind (wpAny_holding (wpAny_assign_Name (store I₁ v r2 fun s₂ g₂ I₂ => wpAny_pure ⟨m, ((g.toW _).trans g₁ fun _ h => .inl h).trans g₂ fun b hb => .inl ?_, I₂⟩)))
  rcases List.mem_append.mp hb with h | h
  · exact List.mem_append_left _ h
  · exact List.mem_append_right _ (u.owns_dat b h)

/-- what a turn's body must do, at the item i -/
noncomputable def Turn (prog : Program) (w : World) (h0 : Heap) (C : Cx) (k : Nat) (P : Nat → Sto → Prop) (R : Out → Prop) (i : Nat) : Out → Prop
  | .next σ => P (i + 1) σ
  | .cont σ => P (i + 1) σ
  | .brk σ => R (.next σ)
  | .ret d => R (.ret d)
  | .exc _ _ => False

/-- a for loop, for any way W to run its body: cod is how its code is run -/
theorem for_gen {W : Around → List Stmt → Env → (Flow → Shared → Prop) → (Value → Shared → Prop) → Shared → Prop} {cod : Around → Code → (Result → Shared → Prop) → Shared → Prop}
    (hmono : ∀ {A b env Q Q' E E' s}, W A b env Q E s → (∀ f s, Q f s → Q' f s) → (∀ e s, E e s → E' e s) → W A b env Q' E' s)
    (hcod : ∀ {A : Around} {R : Result → Shared → Prop} {target : Expr} {it : Value} {body : List Stmt} {env : Env} {s : Shared} (I : Nat → Shared → Prop)
      (turn : ∀ n s, I n s → wpAny (model prog w) A (pyNext it) (fun r s₁ => match r with
        | none => wpAny (model prog w) A (execs [] env) (fun f s₃ => R (.ok f) s₃) (notedBy (model prog w) A env fun e s' => R (.error e) s') s₁
        | some v => wpAny (model prog w) A (letOwnedTupleGo target it v) (fun _ s₁' =>
            wpAny (model prog w) A (assign target env v) (fun _ s₂ => W A body env (fun f s₃ => match f with
              | .next | .cont => ∃ m, m < n ∧ I m s₃
              | .brk => R (.ok .next) s₃
              | .ret v => R (.ok (.ret v)) s₃) (notedBy (model prog w) A env fun e s' => R (.error e) s') s₂) (notedBy (model prog w) A env fun e s' => R (.error e) s') s₁') (notedBy (model prog w) A env fun e s' => R (.error e) s') s₁) (notedBy (model prog w) A env fun e s' => R (.error e) s') s)
      (n : Nat) (h : I n s), cod A (.forLoop target it body [] env) R s)
    {tgt : Expr} {b : List Stmt} {ds : List D} (P : Nat → Sto → Prop) (h0' : P 0 σ)
    (turn : ∀ i σ d, P i σ → ds[i]? = some d → ∃ σ', Tgt prog w h0 C k tgt σ d σ' ∧ ∀ A m s, Ok C.frs k A → Inv h0 C m σ' s → W A b C.env (After h0 C m σ' s (Turn prog w h0 C k P R i)) (AfterX h0 C m σ' s (Turn prog w h0 C k P R i)) s) (fin : ∀ σ, P ds.length σ → R (.next σ))
    {A : Around} {m m₂ : Mem} {s s₂ : Shared} {itv : Value} {IS : List Addr} {St : Nat → Mem → Heap → Prop} (O : Ok C.frs k A) (I : Inv h0 C m σ s) (g₂ : Grow m s m₂ s₂) (hIS : ∀ a ∈ IS, m₂ a = none ∧ s.heap.get? a = none) (T : Itr prog w A tgt IS itv ds St) (st₂ : St 0 m₂ s₂.heap) :
    cod A (.forLoop tgt itv b [] C.env) (fun r s' => match r with | .ok f => After h0 C m σ s R f s' | .error e => cameBackBy (model prog w) A C.env (AfterX h0 C m σ s R) e s') s₂ := by
  have I₂ := I.grow g₂
  have hfI : ∀ I ∈ IS, s.heap.get? I = none := fun a ha => (hIS a ha).2
  have apI : ∀ a ∈ IS, Ap C a := fun a ha => I.ap (hfI a ha)
  have hIA : ∀ {m : Mem} {σ₁ : Sto} {s₁ : Shared}, Inv h0 C m σ₁ s₁ → (∀ a ∈ IS, ∃ o vs, s₁.heap.get? a = some o ∧ o.data = .fields vs) → ∀ a ∈ IS, a ∉ owns σ₁ := fun J hf a ha q => by
    obtain ⟨o, vs, e, dd⟩ := hf a ha
    obtain ⟨y, l, hy⟩ := owns_get q
    obtain ⟨_, us, ⟨o', j, e', _, _, ds'⟩, _⟩ := J.own y a l hy
    rw [e] at e'; cases e'; rw [dd] at ds'; cases ds'
  refine hcod (fun n s' => ∃ i m' σ₁, i ≤ ds.length ∧ n = ds.length - i ∧ P i σ₁ ∧ GrowW (C.wr ++ owns σ) m s m' s' ∧ Inv h0 C m' σ₁ s' ∧ (∀ a ∈ owns σ₁, a ∈ owns σ ∨ s.heap.get? a = none) ∧ (∀ a ∈ IS, m' a = none) ∧ St i m' s'.heap) ?_ ds.length
    ⟨0, m₂, σ, Nat.zero_le _, rfl, h0', g₂.toW _, I₂, fun _ h => .inl h, fun a ha => (hIS a ha).1, st₂⟩
  rintro n s₃ ⟨i, m₃, σ₃, hile, rfl, hP, g₃, I₃, o₃, hm₃, st₃⟩
  have hfl := T.flds i m₃ _ st₃
  have hn₃ := hIA I₃ hfl
  cases hd : ds[i]? with
  | none =>
    have hi' : i = ds.length := by
      have := List.getElem?_eq_none_iff.mp hd; omega
    subst hi'
    refine wpAny_noE (wpAny_mono (T.done m₃ s₃ st₃ I₃.amb.le hm₃) (fun r s₄ ⟨e, m₄, g₄⟩ => ?_) fun _ _ f => f)
    subst e
    have I₄ := I₃.chg g₄ fun a ha => ⟨apI a ha, hn₃ a ha⟩
    exact wpAny_execs_nil ⟨σ₃, fin σ₃ hP, ⟨m₄, g₃.thenI g₄ hfI, I₄⟩, o₃⟩
  | some d' =>
    have hlt : i < ds.length := (List.getElem?_eq_some_iff.mp hd).1
    obtain ⟨σ₄, tg, body⟩ := turn i σ₃ d' hP hd
    refine wpAny_mono (T.item i m₃ s₃ d' hd st₃ I₃.amb.le hm₃) (fun r s₃' ⟨v, e, hgo⟩ => ?_) fun _ _ f => f.elim
    subst e
    refine wpAny_mono hgo (fun _ s₄ ⟨m₄, g₄, r₄, st₄⟩ => ?_) fun _ _ f => f.elim
    have I₄ := I₃.chg g₄ fun a ha => ⟨apI a ha, hn₃ a ha⟩
    have hfl₄ := T.flds _ _ _ st₄
    have hn₄ := hIA I₄ hfl₄
    have g34 := g₃.thenI g₄ hfI
    refine wpAny_mono (tg.it A m₄ s₄ v O I₄ r₄) (fun _ s₅ ⟨m₅, g₅, I₅⟩ => ?_) fun _ _ f => f.elim
    have g35 := g34.trans g₅ (wmono o₃)
    have o₅ : ∀ a ∈ owns σ₄, a ∈ owns σ ∨ s.heap.get? a = none := fun a ha => o₃ a (tg.own a ha)
    have nIS : ∀ {σ₁ : Sto}, (∀ a ∈ IS, a ∉ owns σ₁) → ∀ a ∈ IS, a ∉ C.wr ++ owns σ₁ := fun h a ha q => (List.mem_append.mp q).elim (apI a ha).wr (h a ha)
    have st₅ : St (i + 1) m₅ s₅.heap := T.frame _ _ _ _ _ st₄ g₅.sub fun a ha o e => let ⟨o', vs, e', d'⟩ := hfl₄ a ha; g₅.flds a o vs (nIS hn₄ a ha) e (by rw [e'] at e; cases e; exact d')
    have hm₄ := g₄.mI
    have keepM : ∀ {W : List Addr} {m m' : Mem} {s s' : Shared}, GrowW W m s m' s' → (∀ a ∈ IS, m a = none) → (∀ a ∈ IS, a ∉ W) → (∀ a ∈ IS, ∃ o vs, s.heap.get? a = some o ∧ o.data = .fields vs) → ∀ a ∈ IS, m' a = none := fun {_ _ mx _ _} g hm hw hf a ha => by
      cases e : mx a with
      | none => rfl
      | some o =>
        rcases g.new a o e with h | h | h
        · rw [hm a ha] at h; cases h
        · exact absurd h (hw a ha)
        · obtain ⟨o', vs, e', _⟩ := hf a ha
          rw [h] at e'; cases e'
    have hm₅ := keepM g₅ hm₄ (nIS hn₄) hfl₄
    refine hmono (body A m₅ s₅ O I₅) (fun f s₆ y => ?_) fun e s₆ ⟨_, _, f, _⟩ => f.elim
    have hfl₅ := T.flds _ _ _ st₅
    have hn₅ := hIA I₅ hfl₅
    have go : ∀ σ₆, P (i + 1) σ₆ → At h0 C m₅ σ₄ s₅ σ₆ s₆ → ∃ n', n' < ds.length - i ∧ ∃ i' m' σ₁, i' ≤ ds.length ∧ n' = ds.length - i' ∧ P i' σ₁ ∧ GrowW (C.wr ++ owns σ) m s m' s₆ ∧ Inv h0 C m' σ₁ s₆ ∧ (∀ a ∈ owns σ₁, a ∈ owns σ ∨ s.heap.get? a = none) ∧ (∀ a ∈ IS, m' a = none) ∧ St i' m' s₆.heap :=
      fun σ₆ hP₆ y => by
        obtain ⟨⟨⟨m₆, g₆, I₆⟩, _⟩, y₆⟩ := (⟨y, At.trans g35 o₅ y⟩ : At h0 C m₅ σ₄ s₅ σ₆ s₆ ∧ At h0 C m σ s σ₆ s₆)
        have hm₆ := keepM g₆ hm₅ (nIS hn₅) hfl₅
        exact ⟨ds.length - (i + 1), by omega, i + 1, m₆, σ₆, hlt, rfl, hP₆, g35.trans g₆ (wmono o₅), I₆, y₆.ow, hm₆, T.frame _ _ _ _ _ st₅ g₆.sub fun a ha o e => let ⟨o', vs, e', d'⟩ := hfl₅ a ha; g₆.flds a o vs (nIS hn₅ a ha) e (by rw [e'] at e; cases e; exact d')⟩
    cases f with
    | next => obtain ⟨σ₆, r, t⟩ := y; exact go σ₆ r t
    | cont => obtain ⟨σ₆, r, t⟩ := y; exact go σ₆ r t
    | brk => obtain ⟨σ₆, r, t⟩ := y; exact ⟨σ₆, r, At.trans g35 o₅ t⟩
    | ret v => obtain ⟨d, r, m₆, g₆, q⟩ := y; exact ⟨d, r, m₆, g35.trans g₆ (wmono o₅), q⟩
theorem Run1.for {tgt : Expr} {p : Pos} {it : Expr} {b : List Stmt} {ds : List D} (P : Nat → Sto → Prop) (hi : EvI prog w h0 C k σ tgt it ds) (h0' : P 0 σ)
    (turn : ∀ i σ d, P i σ → ds[i]? = some d → ∃ σ', Tgt prog w h0 C k tgt σ d σ' ∧ Run prog w h0 C k σ' b (Turn prog w h0 C k P R i)) (fin : ∀ σ, P ds.length σ → R (.next σ))
    (hs : ∀ v, foldedSetIterable it C.env v = pure v := by intro _; rfl) : Run1 prog w h0 C k σ (.For tgt it b [] p) R := fun A m s O I => by
  refine wpAny_For (wpAny_mono (hi A m s O I) (fun v s₁ h => wpAny_mono h (fun itv s₂ ⟨IS, m₂, St, g₂, hIS, T, st₂⟩ => ?_) fun _ _ f => f.elim) fun _ _ f => f.elim) hs
  exact for_gen (W := fun A b env Q E s => wpAny (model prog w) A (execs b env) Q E s) wpAny_mono codeAny_forLoop_any P h0' turn fin O I g₂ hIS T st₂


/-- a while loop, with a measure n -/
theorem Run1.while {t : Expr} {b : List Stmt} {p : Pos} (P : Nat → Sto → Prop) (n : Nat) (h0' : P n σ)
    (turn : ∀ n σ, P n σ → ∃ c, EvB prog w h0 C k σ t c ∧ (c = false → R (.next σ)) ∧ (c = true → Run prog w h0 C k σ b (fun o => match o with
      | .next σ' => ∃ n' < n, P n' σ' | .cont σ' => ∃ n' < n, P n' σ' | .brk σ' => R (.next σ') | .ret d => R (.ret d) | .exc _ _ => False))) :
    Run1 prog w h0 C k σ (.While t b [] p) R := fun A m s O I => by
  refine wpAny_While (codeAny_whileLoop (fun n s' => ∃ m' σ₁, P n σ₁ ∧ GrowW (C.wr ++ owns σ) m s m' s' ∧ Inv h0 C m' σ₁ s' ∧ ∀ a ∈ owns σ₁, a ∈ owns σ ∨ s.heap.get? a = none) ?_ n
    ⟨m, σ, h0', (Grow.refl I.amb.le).toW _, I, fun _ h => .inl h⟩)
  rintro n s₁ ⟨m₁, σ₁, hP, g₁, I₁, o₁⟩
  obtain ⟨c, ht, hf, hb⟩ := turn n σ₁ hP
  refine wpAny_mono (ht A m₁ s₁ O I₁) (fun c' s₂ ⟨e, m₂, g₂⟩ => ?_) fun _ _ f => f.elim
  subst e
  have I₂ := I₁.grow g₂
  have g12 := g₁.trans (g₂.toW (C.wr ++ owns σ)) fun _ h => .inl h
  cases c' with
  | false => exact wpAny_execs_nil ⟨σ₁, hf rfl, ⟨m₂, g12, I₂⟩, o₁⟩
  | true =>
    refine wpAny_mono (hb rfl A m₂ s₂ O I₂) (fun f s₃ y => ?_) fun e s₃ ⟨_, _, f, _⟩ => f.elim
    cases f with
    | next => obtain ⟨σ₃, ⟨n', hn, hP'⟩, t⟩ := y; exact ⟨n', hn, let ⟨⟨m₃, g₃, I₃⟩, o₃⟩ := At.trans g12 o₁ t; ⟨m₃, σ₃, hP', g₃, I₃, o₃⟩⟩
    | cont => obtain ⟨σ₃, ⟨n', hn, hP'⟩, t⟩ := y; exact ⟨n', hn, let ⟨⟨m₃, g₃, I₃⟩, o₃⟩ := At.trans g12 o₁ t; ⟨m₃, σ₃, hP', g₃, I₃, o₃⟩⟩
    | brk => obtain ⟨σ₃, r, t⟩ := y; exact ⟨σ₃, r, At.trans g12 o₁ t⟩
    | ret v => obtain ⟨d, r, m₃, g₃, q⟩ := y; exact ⟨d, r, m₃, g12.trans g₃ (wmono o₁), q⟩
end
section
set_option linter.unusedVariables false
variable {prog : Program} {w : World} {h0 : Heap} {C : Cx} {k : Nat} {σ σ' : Sto} {R : Out → Prop}

theorem RdL.get_none {m : Mem} {l : List D} {vs : List Value} (r : RdL m l vs) : vs.toArray[l.length]? = none := by
  have := r.length
  simp [this]
theorem itr_list (A : Around) (hh : A.handled = none) {x : Str} {np : Pos} (I : Addr) (ds : List D) :
    Itr prog w A (.Name x np) [I] (.ref I) ds (fun i m h => ∃ a vs, h.IsListIter I a i ∧ SeqAt m "list" a vs ∧ RdL m ds vs) where
  flds := fun i m h ⟨a, vs, ⟨o, ho, _, hd⟩, _⟩ I' hI => by cases List.mem_singleton.mp hI; exact ⟨o, _, ho, hd⟩
  frame := fun i m h m' h' ⟨a, vs, ⟨o, ho, hc, hd⟩, q, r⟩ sub ex => ⟨a, vs, ⟨o, ex I (.head _) o ho, hc, hd⟩, q.mono sub, r.mono sub⟩
  item := fun i m s d hd ⟨a, vs, hit, q, r⟩ le hm => by
    obtain ⟨v, hv, rv⟩ := r.get hd
    exact wpAny_pyNext_list_item hit (isList_of (seq_in q le)) (by simpa using hv) fun h' hit' hs' => ⟨v, rfl, wpAny_pure ⟨m, growI (.head _) le hm hs'.extBut, rv, a, vs, hit', q, r⟩⟩
  done := fun m s ⟨a, vs, hit, q, r⟩ le hm => wpAny_pyNext_list_end hh hit (isList_of (seq_in q le)) r.get_none fun h' he => ⟨rfl, m, growI (.head _) le hm he⟩
  self := fun i m s Q E ⟨a, vs, hit, q, r⟩ le hq => wpAny_pyIter_listiter hit hq
theorem iter_lst {x : Str} {np : Pos} {ds : List D} : Iterable prog w h0 (.Name x np) (.lst ds) ds := fun l k A m s v hk O I ⟨a, vs, e, q, r⟩ => by
  subst e
  have hn := get_size_none s.heap
  exact wpAny_pyIter_list (isList_of (seq_in q I.le)) ⟨[s.heap.objs.size], m, _, (Grow.refl I.le).push _, fun I' hI => by (cases List.mem_singleton.mp hI; exact ⟨fresh_none I.le hn, hn⟩), itr_list A (O.hd hk) _ ds, a, vs, ⟨_, Heap.get?_push_size _ rfl, rfl, rfl⟩, q, r⟩
theorem itr_tuple (A : Around) (hh : A.handled = none) {x : Str} {np : Pos} (I : Addr) (ds : List D) :
    Itr prog w A (.Name x np) [I] (.ref I) ds (fun i m h => ∃ a vs, h.IsTupleIter I a i ∧ SeqAt m "tuple" a vs ∧ RdL m ds vs) where
  flds := fun i m h ⟨a, vs, ⟨o, ho, _, hd⟩, _⟩ I' hI => by cases List.mem_singleton.mp hI; exact ⟨o, _, ho, hd⟩
  frame := fun i m h m' h' ⟨a, vs, ⟨o, ho, hc, hd⟩, q, r⟩ sub ex => ⟨a, vs, ⟨o, ex I (.head _) o ho, hc, hd⟩, q.mono sub, r.mono sub⟩
  item := fun i m s d hd ⟨a, vs, hit, q, r⟩ le hm => by
    obtain ⟨v, hv, rv⟩ := r.get hd
    exact wpAny_pyNext_tuple_item hit (isTup_of (seq_in q le)) (by simpa using hv) fun h' hit' hs' => ⟨v, rfl, wpAny_pure ⟨m, growI (.head _) le hm hs'.extBut, rv, a, vs, hit', q, r⟩⟩
  done := fun m s ⟨a, vs, hit, q, r⟩ le hm => wpAny_pyNext_tuple_end hh hit (isTup_of (seq_in q le)) r.get_none fun h' he => ⟨rfl, m, growI (.head _) le hm he⟩
  self := fun i m s Q E ⟨a, vs, hit, q, r⟩ le hq => wpAny_pyIter_tupleiter hit hq
theorem iter_tup {x : Str} {np : Pos} {ds : List D} : Iterable prog w h0 (.Name x np) (.tup ds) ds := fun l k A m s v hk O I ⟨a, vs, e, q, r⟩ => by
  subst e
  have hn := get_size_none s.heap
  exact wpAny_pyIter_tuple (isTup_of (seq_in q I.le)) ⟨[s.heap.objs.size], m, _, (Grow.refl I.le).push _, fun I' hI => by (cases List.mem_singleton.mp hI; exact ⟨fresh_none I.le hn, hn⟩), itr_tuple A (O.hd hk) _ ds, a, vs, ⟨_, Heap.get?_push_size _ rfl, rfl, rfl⟩, q, r⟩

noncomputable def rangeD (a : Int) (n : Nat) : List D := (List.range n).map fun (i : Nat) => .int (a + (i : Int))
theorem itr_range (A : Around) (hh : A.handled = none) {x : Str} {np : Pos} (I : Addr) (a : Int) (n : Nat) :
    Itr prog w A (.Name x np) [I] (.ref I) (rangeD a n) (fun i m h => IsRangeIter h I (a + i) ((n : Int) - i) 1) where
  flds := fun i m h st I' hI => by cases List.mem_singleton.mp hI; exact ⟨_, _, st, rfl⟩
  frame := fun i m h m' h' st sub ex => ex I (.head _) _ st
  item := fun i m s d hd st le hm => by
    have hi : i < n := by
      have := (List.getElem?_eq_some_iff.mp hd).1
      simpa [rangeD] using this
    have e : d = .int (a + i) := by
      simp only [rangeD, List.getElem?_map, List.getElem?_range hi, Option.map_some, Option.some.injEq] at hd
      exact hd.symm
    subst e
    refine wpAny_pyNext_range_item st (by omega) fun h' hit' hs' => ⟨_, rfl, wpAny_pure ⟨m, growI (.head _) le hm hs'.extBut, ⟨_, rfl⟩, ?_⟩⟩
    have e1 : a + ((i + 1 : Nat) : Int) = a + (i : Int) + 1 := by omega
    have e2 : (n : Int) - ((i + 1 : Nat) : Int) = (n : Int) - (i : Int) - 1 := by omega
    show IsRangeIter h' I (a + ((i + 1 : Nat) : Int)) ((n : Int) - ((i + 1 : Nat) : Int)) 1
    rw [e1, e2]; exact hit'
  done := fun m s st le hm => by
    have : (rangeD a n).length = n := by simp [rangeD]
    rw [this] at st
    exact wpAny_pyNext_range_end hh st (by omega) fun h' he => ⟨rfl, m, growI (.head _) le hm he⟩
  self := fun i m s Q E st le hq => wpAny_pyIter_rangeiter st hq
theorem iter_rng {x : Str} {np : Pos} {a b : Int} (h1 : -(2 ^ 62) ≤ a) (h2 : a < 2 ^ 62) (h3 : -(2 ^ 62) ≤ b) (h4 : b < 2 ^ 62) : Iterable prog w h0 (.Name x np) (.rng a b) (rangeD a (b - a).toNat) := fun l k A m s v hk O I ⟨r, t, u, q, e, x⟩ => by
  subst e
  have hn := get_size_none s.heap
  refine wpAny_pyIter_range (I.le _ _ x) (small_one h1 h2 h3 h4) ⟨[s.heap.objs.size], m, _, (Grow.refl I.le).push _, fun I' hI => by (cases List.mem_singleton.mp hI; exact ⟨fresh_none I.le hn, hn⟩), itr_range A (O.hd hk) _ a (b - a).toNat, ?_⟩
  show IsRangeIter _ _ (a + ((0 : Nat) : Int)) (((b - a).toNat : Int) - ((0 : Nat) : Int)) 1
  rw [show a + ((0 : Nat) : Int) = a by omega, show ((b - a).toNat : Int) - ((0 : Nat) : Int) = ((b - a).toNat : Int) by omega, ← PyProof.Rows.rangeSize_nat]
  exact Heap.get?_push_size _ rfl
theorem call_range1 {n : Int} : Callable prog w h0 k (.type "range") [.int n] (.val (.rng 0 n)) := fun l A m s vs O I ⟨v, r, e, ⟨t, e1⟩, e2⟩ => by
  subst e e1 e2
  exact call_range_1 ⟨_, ((Grow.refl I.le).alloc rfl).toks _, _, _, _, _, rfl, Mem.put_self ..⟩
theorem call_range2 {a b : Int} : Callable prog w h0 k (.type "range") [.int a, .int b] (.val (.rng a b)) := fun l A m s vs O I ⟨v, r, e, ⟨t, e1⟩, v', r', e2, ⟨u, e3⟩, e4⟩ => by
  subst e e1 e2 e3 e4
  exact call_range_2 ⟨_, ((Grow.refl I.le).alloc rfl).toks _, _, _, _, _, rfl, Mem.put_self ..⟩

theorem itr_bytes (A : Around) (hh : A.handled = none) {x : Str} {np : Pos} (I : Addr) (l : List UInt8) :
    Itr prog w A (.Name x np) [I] (.ref I) (l.map fun c => .int c.toNat) (fun i m h => ∃ t, KBw.IsBytesIter h I l.toArray t i) where
  flds := fun i m h ⟨t, o, ho, _, hd⟩ I' hI => by cases List.mem_singleton.mp hI; exact ⟨o, _, ho, hd⟩
  frame := fun i m h m' h' ⟨t, o, ho, r⟩ sub ex => ⟨t, o, ex I (.head _) o ho, r⟩
  item := fun i m s d hd ⟨t, hit⟩ le hm => by
    rw [List.getElem?_map] at hd
    cases hc : l[i]? with
    | none => rw [hc] at hd; cases hd
    | some c =>
      rw [hc] at hd; cases hd
      exact KBw.next_item hit (by simpa using hc) fun h' hit' hs' => ⟨_, rfl, wpAny_pure ⟨m, growI (.head _) le hm hs'.extBut, ⟨_, rfl⟩, t, hit'⟩⟩
  done := fun m s ⟨t, hit⟩ le hm => KBw.next_end hh hit (by simp) fun h' he => ⟨rfl, m, growI (.head _) le hm he⟩
  self := fun i m s Q E ⟨t, hit⟩ le hq => KBw.pyIter_self hit hq
theorem iter_bytes {x : Str} {np : Pos} {l : List UInt8} : Iterable prog w h0 (.Name x np) (.bytes l) (l.map fun c => .int c.toNat) := fun _ k A m s v hk O I ⟨t, e⟩ => by
  subst e
  have hn := get_size_none s.heap
  exact KBw.pyIter_bytes ⟨[s.heap.objs.size], m, _, (Grow.refl I.le).push _, fun I' hI => by (cases List.mem_singleton.mp hI; exact ⟨fresh_none I.le hn, hn⟩), itr_bytes A (O.hd hk) _ l, t, _, Heap.get?_push_size _ rfl, rfl, rfl⟩

theorem itr_str (A : Around) (hh : A.handled = none) {x : Str} {np : Pos} (I : Addr) (l : List Nat) :
    Itr prog w A (.Name x np) [I] (.ref I) (l.map fun c => .str [c]) (fun i m h => ∃ t, h.IsStrIter I "str_ascii_iterator" ⟨l.toArray⟩ t i ∨ h.IsStrIter I "str_iterator" ⟨l.toArray⟩ t i) where
  flds := fun i m h ⟨t, st⟩ I' hI => by
    cases List.mem_singleton.mp hI
    rcases st with ⟨o, ho, _, hd⟩ | ⟨o, ho, _, hd⟩ <;> exact ⟨o, _, ho, hd⟩
  frame := fun i m h m' h' ⟨t, st⟩ sub ex => ⟨t, st.imp (fun ⟨o, ho, r⟩ => ⟨o, ex I (.head _) o ho, r⟩) fun ⟨o, ho, r⟩ => ⟨o, ex I (.head _) o ho, r⟩⟩
  item := fun i m s d hd ⟨t, st⟩ le hm => by
    rw [List.getElem?_map] at hd
    cases hc : l[i]? with
    | none => rw [hc] at hd; cases hd
    | some c =>
      rw [hc] at hd; cases hd
      rcases st with hit | hit
      · exact wpAny_pyNext_ascii_item hit (by simpa using hc) fun h' hit' hs' => ⟨_, rfl, wpAny_pure ⟨m, growI (.head _) le hm hs'.extBut, ⟨_, rfl⟩, t, .inl hit'⟩⟩
      · exact wpAny_pyNext_wide_item hit (by simpa using hc) fun h' hit' hs' => ⟨_, rfl, wpAny_pure ⟨m, growI (.head _) le hm hs'.extBut, ⟨_, rfl⟩, t, .inr hit'⟩⟩
  done := fun m s ⟨t, st⟩ le hm => by
    rcases st with hit | hit
    · exact wpAny_pyNext_ascii_end hh hit (by simp) fun h' he => ⟨rfl, m, growI (.head _) le hm he⟩
    · exact wpAny_pyNext_wide_end hh hit (by simp) fun h' he => ⟨rfl, m, growI (.head _) le hm he⟩
  self := fun i m s Q E ⟨t, st⟩ le hq => by
    rcases st with hit | hit
    · exact wpAny_pyIter_striter_ascii hit hq
    · exact wpAny_pyIter_striter_wide hit hq
theorem iter_str {x : Str} {np : Pos} {l : List Nat} : Iterable prog w h0 (.Name x np) (.str l) (l.map fun c => .str [c]) := fun _ k A m s v hk O I ⟨t, e⟩ => by
  subst e
  have hn := get_size_none s.heap
  cases ha : (⟨l.toArray⟩ : Str).cps.all (· < 128)
  · exact wpAny_pyIter_wide ha ⟨[s.heap.objs.size], m, _, (Grow.refl I.le).push _, fun I' hI => by (cases List.mem_singleton.mp hI; exact ⟨fresh_none I.le hn, hn⟩), itr_str A (O.hd hk) _ l, t, .inr ⟨_, Heap.get?_push_size _ rfl, rfl, rfl⟩⟩
  · exact wpAny_pyIter_ascii ha ⟨[s.heap.objs.size], m, _, (Grow.refl I.le).push _, fun I' hI => by (cases List.mem_singleton.mp hI; exact ⟨fresh_none I.le hn, hn⟩), itr_str A (O.hd hk) _ l, t, .inl ⟨_, Heap.get?_push_size _ rfl, rfl, rfl⟩⟩

/-- enumerate over a list -/
noncomputable def enumD : List D → Int → List D
  | [], _ => []
  | d :: r, i => .tup [.int i, d] :: enumD r (i + 1)
theorem enumD_length : ∀ (l : List D) (i : Int), (enumD l i).length = l.length
  | [], _ => rfl
  | _ :: r, i => by rw [enumD, List.length_cons, enumD_length r, List.length_cons]
theorem enumD_get : ∀ (l : List D) (i : Int) (j : Nat), (enumD l i)[j]? = l[j]?.map fun d => .tup [.int (i + j), d]
  | [], _, _ => by simp [enumD]
  | d :: r, i, 0 => by simp [enumD]
  | d :: r, i, j + 1 => by
    rw [enumD, List.getElem?_cons_succ, enumD_get r (i + 1) j, List.getElem?_cons_succ]
    congr 1; funext d; congr 3; push_cast; omega
theorem itr_enum (A : Around) (hh : A.handled = none) {elts : List Expr} {n : Nat} {p : Pos} (e it : Addr) (hne : e ≠ it) (ds : List D) :
    Itr prog w A (.Tuple elts n p) [e, it] (.ref e) (enumD ds 0) (fun i m h => ∃ old a vs, IsEnum h e it (i : Int) old ∧ h.IsListIter it a i ∧ SeqAt m "list" a vs ∧ RdL m ds vs) where
  flds := fun i m h ⟨old, a, vs, he, ⟨o, ho, _, hd⟩, _⟩ I hI => by
    rcases List.mem_cons.mp hI with rfl | hI
    · exact ⟨_, _, he, rfl⟩
    · cases List.mem_singleton.mp hI; exact ⟨o, _, ho, hd⟩
  frame := fun i m h m' h' ⟨old, a, vs, he, ⟨o, ho, hc, hd⟩, q, r⟩ sub ex => ⟨old, a, vs, ex e (.head _) _ he, ⟨o, ex it (.tail _ (.head _)) o ho, hc, hd⟩, q.mono sub, r.mono sub⟩
  item := fun i m s d hd ⟨old, a, vs, he, hit, q, r⟩ le hm => by
    rw [enumD_get] at hd
    obtain ⟨d₀, hd₀, rfl⟩ := Option.map_eq_some_iff.mp hd
    obtain ⟨v, hv, rv⟩ := r.get hd₀
    refine wpAny_pyNext_enum_item he hit (isList_of (seq_in q le)) (by simpa using hv) hne fun h' heo hit' ht hz hk => ⟨_, rfl, ?_⟩
    refine wpAny_letOwnedTupleGo_enum heo fun h'' he'' hs'' => ?_
    replace hs'' : Heap.SameBut e h' h'' := hs''
    have hes : e ≠ s.heap.objs.size := Nat.ne_of_lt (Heap.lt_size he)
    have old : ∀ b o, b ∉ [e, it] → s.heap.get? b = some o → h''.get? b = some o := fun b o hb eb => by
      rw [List.mem_cons, List.mem_singleton, not_or] at hb
      exact (hs''.2 b hb.1).trans (hk b o hb.1 hb.2 eb)
    have ht'' : h''.get? s.heap.objs.size = some { cls := .type "tuple", data := .seq #[.int i s.toks, v] } := (hs''.2 _ hes.symm).trans ht
    have sub : Sub m (m.put s.heap.objs.size { cls := .type "tuple", data := .seq #[.int i s.toks, v] }) := Mem.put_sub (fresh_none le (get_size_none _))
    refine ⟨m.put s.heap.objs.size { cls := .type "tuple", data := .seq #[.int i s.toks, v] }, ⟨sub, fun b o eb => ?_, fun b o eb => ?_, fun b o hb eb => ⟨o, old b o hb eb, .refl o⟩, fun b o vs hb eb _ => old b o hb eb, rfl, rfl, by ((first | exact Nat.le_succ _ | assumption | ((try dsimp only); omega)); done), fun I hI => ?_⟩, ?_, ?_⟩
    · unfold Mem.put at eb
      by_cases qb : b = s.heap.objs.size
      · subst qb; rw [if_pos rfl] at eb; cases eb; exact ht''
      · rw [if_neg qb] at eb
        exact old b o (fun hb => by rw [hm b hb] at eb; cases eb) (le b o eb)
    · unfold Mem.put at eb
      by_cases qb : b = s.heap.objs.size
      · subst qb; exact .inr (get_size_none _)
      · rw [if_neg qb] at eb; exact .inl eb
    · unfold Mem.put
      have : I ≠ s.heap.objs.size := by
        rcases List.mem_cons.mp hI with rfl | hI
        · exact hes
        · cases List.mem_singleton.mp hI
          obtain ⟨o, ho, _⟩ := hit
          exact Nat.ne_of_lt (Heap.lt_size ho)
      rw [if_neg this]; exact hm I hI
    · refine ⟨s.heap.objs.size, [.int i s.toks, v], rfl, ⟨_, 0, Mem.put_self .., rfl, rfl, rfl⟩, _, _, rfl, ⟨s.toks, ?_⟩, _, _, rfl, rv.mono sub, rfl⟩
      simp
    · refine ⟨v, a, vs, ?_, ?_, q.mono sub, r.mono sub⟩
      · have : ((i + 1 : Nat) : Int) = (i : Int) + 1 := by push_cast; rfl
        rw [this]; exact he''
      · obtain ⟨o, ho, hc, hd⟩ := hit'
        exact ⟨o, (hs''.2 it hne.symm).trans ho, hc, hd⟩
  done := fun m s ⟨old, a, vs, he, hit, q, r⟩ le hm => by
    rw [enumD_length] at he hit
    exact wpAny_pyNext_enum_end hh he hit (isList_of (seq_in q le)) r.get_none fun h' hx => ⟨rfl, m, growI (.tail _ (.head _)) le hm hx⟩
  self := fun i m s Q E ⟨old, a, vs, he, hit, q, r⟩ le hq => wpAny_pyIter_enum he hq
/-- enumerate, called and iterated over -/
theorem EvI.enum {elts : List Expr} {n : Nat} {tp np p : Pos} {e : Expr} {f : Str} {ds : List D} (hf : Ev prog w h0 C k σ (.Name f np) (.val (.type "enumerate"))) (he : Ev prog w h0 C k σ e (.lst ds)) (hn : NoStar e := by intro _ _; rfl) (hk : 0 < k := by omega) :
    EvI prog w h0 C k σ (.Tuple elts n tp) (.Call (.Name f np) [e] [] p) (enumD ds 0) := fun A m s O I => by
  refine wpAny_Call_ofName ((hf A m s O I).then fun v m₁ s₁ g₁ r₁ => ?_)
  cases r₁
  have I₁ := I.grow g₁
  have ha := EvL.cons he EvL.nil hn
  refine PyProof.Rows.callWith_type (ha.1 p) (evalArgs_of ha _ p O I₁ fun vs m₂ s₂ g₂ ⟨v, r, e1, ⟨a, us, e2, q, ru⟩, e3⟩ => ?_)
  subst e1 e2 e3
  have le := (I₁.grow g₂).amb.le
  refine call_enumerate_list (isList_of (seq_in q le)) fun h' hE hI hz hk' => ?_
  refine wpAny_pyIter_enum (s := { s₂ with heap := h' }) hE ⟨[s₂.heap.objs.size + 1, s₂.heap.objs.size], m₂, _, ?_, fun I hI => ?_, itr_enum A (O.hd hk) _ _ (Nat.succ_ne_self _) ds, _, a, us, hE, hI, q, ru⟩
  · exact (g₁.trans g₂).trans ⟨Sub.refl _, fun b o e => hk' b o (le b o e), fun _ _ e => .inl e, Kept.of hk', fun b o vs e _ => hk' b o e, rfl, rfl, by ((first | exact Nat.le_succ _ | assumption | ((try dsimp only); omega)); done)⟩
  · have : s₂.heap.get? I = none := by
      rcases List.mem_cons.mp hI with rfl | hI
      · exact Heap.get?_none_of_le (Nat.le_succ _)
      · cases List.mem_singleton.mp hI; exact get_size_none _
    exact ⟨fresh_none le this, none_back (g₁.trans g₂).kept this⟩
end
section
set_option linter.unusedVariables false
variable {prog : Program} {w : World} {h0 : Heap} {C : Cx} {k : Nat} {σ σ' : Sto} {R : Out → Prop}

theorem bindL_other {kd : Str → Option NameKind} {x : Str} : ∀ {l : List (Str × Value)} {m : Str → Option Value}, x ∉ l.map (·.1) → bindL kd l m x = m x
  | [], _, _ => rfl
  | (n, v) :: r, m, h => by
    rw [List.map_cons, List.mem_cons] at h
    rw [bindL, bindL_other fun q => h (.inr q)]
    split
    · exact if_neg fun e => h (.inl e)
    · rfl
theorem bindC_other {kd : Str → Option NameKind} {x : Str} : ∀ {l : List (Str × Value)} {m : Str → Option Value}, x ∉ l.map (·.1) → bindC kd l m x = m x
  | [], _, _ => rfl
  | (n, v) :: r, m, h => by
    rw [List.map_cons, List.mem_cons] at h
    rw [bindC, bindC_other fun q => h (.inr q)]
    split
    · rfl
    · exact if_neg fun e => h (.inl e)
theorem bindL_get {kd : Str → Option NameKind} {x : Str} {v : Value} (hk : kd x = some .local) : ∀ {l : List (Str × Value)} {m : Str → Option Value}, (l.map (·.1)).Nodup → (x, v) ∈ l → bindL kd l m x = some v
  | (n, u) :: r, m, nd, h => by
    rw [List.map_cons, List.nodup_cons] at nd
    rw [bindL]
    rcases List.mem_cons.mp h with e | h
    · cases e
      rw [bindL_other nd.1, if_pos hk]; exact if_pos rfl
    · exact bindL_get hk nd.2 h
theorem bindC_get {kd : Str → Option NameKind} {x : Str} {v : Value} (hk : kd x ≠ some .local) : ∀ {l : List (Str × Value)} {m : Str → Option Value}, (l.map (·.1)).Nodup → (x, v) ∈ l → bindC kd l m x = some v
  | (n, u) :: r, m, nd, h => by
    rw [List.map_cons, List.nodup_cons] at nd
    rw [bindC]
    rcases List.mem_cons.mp h with e | h
    · cases e
      rw [bindC_other nd.1, if_neg hk]; exact if_pos rfl
    · exact bindC_get hk nd.2 h

/-- what may be asked of a text's def, and of its names, ahead -/
noncomputable def fnOk (scope : Scope) (keys : List Str) (ps : List Str) : Bool :=
  (scope.kind == .function && !scope.isGenerator && !scope.isCoroutine) && decide keys.Nodup && decide ps.Nodup && decide ((cellsFrom 0 scope.names []).map (·.1)).Nodup &&
  keys.all (fun x => (!(x == ("__debug__" : Str)) && !(x == theRefusalsKey)) && (scope.names.lookup x == some .local || scope.names.lookup x == some .cell)) &&
  ps.all fun x => scope.names.lookup x == some .local || scope.names.lookup x == some .cell
/-- the frame of a call of fd -/
structure FnCx (fd : FuncData) (C : Cx) : Prop where
  scope : C.env.scope = fd.scope
  globals : C.env.globals = fd.globals
  builtins : C.env.builtins = fd.builtins
  frame : ∃ outer L, C.frs = C.env :: outer ∧ C.env.frame = some L
/-- how the arguments are bound -/
noncomputable def BindsD (prog : Program) (w : World) (h0 : Heap) (fd : FuncData) (kw : List (Str × Value)) (ds : List D) (ps : List Str) (es : List D) : Prop :=
  ∀ l k A m s vs, Ok l k A → Amb h0 l m s → RdL m ds vs → wpAny (model prog w) A (bindArgs fd ⟨vs, kw⟩) (fun b s' => ∃ m' us, Grow m s m' s' ∧ b = ps.zip us ∧ us.length = ps.length ∧ RdL m' es us) (fun _ _ => False) s
theorem BindsD.plain {fd : FuncData} {ds : List D} {ps : List Str} (h : ∀ vs, vs.length = ds.length → bindArgs fd ⟨vs, []⟩ = pure (ps.zip vs)) (hn : ps.length = ds.length) : BindsD prog w h0 fd [] ds ps ds := fun l k A m s vs O I r => by
  rw [h vs r.length]
  exact wpAny_pure ⟨m, vs, Grow.refl I.le, rfl, by rw [r.length, hn], r⟩

theorem zip_get {m : Mem} {x : Str} {d : D} : ∀ {ps : List Str} {es : List D} {us : List Value}, RdL m es us → (ps.zip es).lookup x = some d → ∃ v, (x, v) ∈ ps.zip us ∧ Rd m d v
  | [], _, _, _, h => by simp at h
  | _ :: _, [], _, _, h => by simp at h
  | p :: ps, e :: es, us, ⟨v, r, eq, rd, rr⟩, h => by
    subst eq
    rw [List.zip_cons_cons, List.lookup_cons] at h
    cases q : x == p with
    | true =>
      rw [q] at h; cases h
      have : x = p := eq_of_beq q
      subst this
      exact ⟨v, .head _, rd⟩
    | false =>
      rw [q] at h
      obtain ⟨v', hm, hr⟩ := zip_get rr h
      exact ⟨v', .tail _ hm, hr⟩
/-- the names of a frame at its start -/
noncomputable def startSto (keys : List Str) (ps : List Str) (es : List D) : Sto := keys.map fun x => (x, match (ps.zip es).lookup x with | some d => Sl.dat d | none => Sl.un)
theorem startSto_keys (keys ps : List Str) (es : List D) : (startSto keys ps es).map (·.1) = keys := by
  simp [startSto, Function.comp_def]
theorem startSto_mem {keys ps : List Str} {es : List D} {x : Str} {sl : Sl} (h : (x, sl) ∈ startSto keys ps es) : x ∈ keys ∧ ((∃ d, (ps.zip es).lookup x = some d ∧ sl = .dat d) ∨ sl = .un) := by
  obtain ⟨y, hy, e⟩ := List.mem_map.mp h
  cases e
  refine ⟨hy, ?_⟩
  cases q : (ps.zip es).lookup x with
  | some d => exact .inl ⟨d, rfl, rfl⟩
  | none => exact .inr rfl
theorem startSto_owns (keys ps : List Str) (es : List D) : owns (startSto keys ps es) = [] := by
  cases q : owns (startSto keys ps es) with
  | nil => rfl
  | cons a r =>
    obtain ⟨x, l, hm⟩ := owns_get (q ▸ List.mem_cons_self : a ∈ owns (startSto keys ps es))
    rcases (startSto_mem hm).2 with ⟨d, _, e⟩ | e <;> cases e
theorem Grow.fresh {W : List Addr} {m m₁ m₂ : Mem} {s s₁ s₂ : Shared} (x : Grow m s m₁ s₁) (y : GrowW W m₁ s₁ m₂ s₂) (h : ∀ a ∈ W, s.heap.get? a = none) : Grow m s m₂ s₂ where
  sub := x.sub.trans y.sub
  le := y.le
  new := fun a o e => (y.new a o e).elim (fun e => x.new a o e) fun q => .inr (q.elim (fun q => h a q) fun q => none_back x.kept q)
  kept := fun a o e => by
    obtain ⟨sl, e₁, u₁⟩ := x.kept a o e
    obtain ⟨sl', e₂, u₂⟩ := y.kept a _ (fun q => by rw [h a q] at e; cases e) e₁
    exact ⟨sl', e₂, u₁.trans u₂⟩
  flds := fun a o vs e d => y.flds a o vs (fun q => by rw [h a q] at e; cases e) (x.flds a o vs e d) d
  gens := y.gens.trans x.gens
  os := y.os.trans x.os
  tk := Nat.le_trans x.tk y.tk

/-- what a call answers, as the result of its code -/
noncomputable def AnsR (h0 : Heap) (l : List Env) (m : Mem) (s : Shared) (r : Res) : Result → Shared → Prop := fun x s' => match x with
  | .ok (.ret v) => ∃ d, r = .val d ∧ ∃ m', Grow m s m' s' ∧ Rd m' d v
  | .ok _ => False
  | .error e => ∃ cls ds, r = .exc cls ds ∧ Exc h0 l m s cls ds e s'
/-- the frame of a call, for any way W to run a body: cod is how its code is run -/
theorem frame_gen {W : Around → List Stmt → Env → (Flow → Shared → Prop) → (Value → Shared → Prop) → Shared → Prop} {cod : Around → Code → (Result → Shared → Prop) → Shared → Prop}
    (hmono : ∀ {A b env Q Q' E E' s}, W A b env Q E s → (∀ f s, Q f s → Q' f s) → (∀ e s, E e s → E' e s) → W A b env Q' E' s)
    (hcod : ∀ {A : Around} {b : List Stmt} {env : Env} {R : Result → Shared → Prop} {s : Shared}, W (A.deeper env) b env (fun f s' => R (.ok (.ret (match f with | .ret v => v | _ => .none))) s')
      (fun e s' => wpAny (model prog w) (A.deeper env) (leaving env e) (fun _ s'' => R (.error e) s'') (fun e' s'' => R (.error e') s'') s') s → cod A (.func b env) R s)
    {fd : FuncData} {f : Addr} {body : List Stmt} {kw : List (Str × Value)} {ds es : List D} {ps keys : List Str} {r : Res}
    (hcl : fd.closure = []) (ok : fnOk fd.scope keys ps = true) (hps : ∀ x ∈ ps, x ∈ keys) (hbind : BindsD prog w h0 fd kw ds ps es)
    (run : ∀ C, FnCx fd C → ∀ A m s, Ok C.frs k A → Inv h0 C m (startSto keys ps es) s → W A body C.env (After h0 C m (startSto keys ps es) s (fun o => match o with | .ret d => r = .val d | .exc cls ds => r = .exc cls ds | .next _ => r = .val .none | _ => False)) (AfterX h0 C m (startSto keys ps es) s (fun o => match o with | .ret d => r = .val d | .exc cls ds => r = .exc cls ds | .next _ => r = .val .none | _ => False)) s)
    {l : List Env} {A : Around} {m : Mem} {s : Shared} {vs : List Value} (O : Ok l (k + 1) A) (I : Amb h0 l m s) (rd : RdL m ds vs) :
    wpAny (model prog w) A.in1 (bindArgs fd ⟨vs, kw⟩) (fun binds s₁ =>
      wpAny (model prog w) A.in1 (newFunctionEnv fd.scope fd.globals fd.closure binds (fd.qualname ++ ".<locals>.") (some f) fd.code none fd.builtins)
        (fun env s₂ => s₂.heap.NoLimit ∧ cod A (.func body env) (AnsR h0 l m s r) s₂) (fun e s' => AnsR h0 l m s r (.error e) s') s₁) (fun e s' => AnsR h0 l m s r (.error e) s') s := by
  simp only [fnOk, Bool.and_eq_true, List.all_eq_true, Bool.not_eq_true', decide_eq_true_eq, Bool.or_eq_true, beq_iff_eq] at ok
  obtain ⟨⟨⟨⟨⟨⟨⟨hk, hg⟩, hc⟩, nd⟩, ndp⟩, ndc⟩, hkeys⟩, hpk⟩ := ok
  refine wpAny_mono (hbind l k A.in1 m s vs O.in1 I rd) (fun b s₁ ⟨m₁, us, g₁, e, hlen, r₁⟩ => ?_) fun _ _ f => f.elim
  subst e
  have I₁ := I.grow g₁
  rw [hcl]
  refine wpAny_with_toks (Nat.le_refl _) (wpAny_newFunctionEnv_cells hk (fun x hx => ?_) fun env he s₂ x₂ htk => ?_)
  · have hx1 : x.1 ∈ ps := by
      obtain ⟨a, b⟩ := x
      exact (List.of_mem_zip hx).1
    rcases hpk x.1 hx1 with h | h
    · exact .inl h
    · exact .inr ⟨h, PySem.W.cellsFrom_some _ _ _ (.inl h)⟩
  obtain ⟨h₂, tk, rfl, keep⟩ := x₂.done
  have hL : env.locals = s₁.heap.objs.size := by rw [he]; rfl
  have hsc : env.scope = fd.scope := by rw [he]; rfl
  have hfr : env.frame = some env.locals := by rw [he]; rfl
  have hcs : env.cells = cellsFrom (s₁.heap.objs.size + 1) fd.scope.names [] := by rw [he]; rfl
  have ndc' : (env.cells.map (·.1)).Nodup := by
    rw [hcs]; exact cellsFrom_names fd.scope.names 0 (s₁.heap.objs.size + 1) [] [] rfl ▸ ndc
  have hlt : ∀ {a : Addr} {o : Obj}, s₁.heap.get? a = some o → a < env.locals := fun e => hL ▸ Heap.lt_size e
  have hcm : ∀ p ∈ env.cells, env.cells.lookup p.1 = some p.2 := fun p hp => lookup_of_mem_nodup ndc' hp
  refine ⟨I₁.lim.keeps fun b o e => keep b o e, hcod ?_⟩
  let C : Cx := { env := env, frs := env :: l, wr := env.locals :: env.cells.map (·.2), ent := s₁.heap }
  have hC : FnCx fd C := ⟨hsc, by show env.globals = _; rw [he]; rfl, by show env.builtins = _; rw [he]; rfl, l, env.locals, rfl, hfr⟩
  have fresh : ∀ a ∈ C.wr, s₁.heap.get? a = none := by
    intro a ha
    cases e : s₁.heap.get? a with
    | none => rfl
    | some o =>
      have q1 := hlt e
      rcases List.mem_cons.mp ha with rfl | ha
      · exact absurd q1 (Nat.lt_irrefl _)
      · obtain ⟨p, hp, rfl⟩ := List.mem_map.mp ha
        have q2 := x₂.above p.1 p.2 hp
        exact absurd (Nat.lt_trans q1 q2) (Nat.lt_irrefl _)
  obtain ⟨oL, esL, epL, gL, dL, _⟩ := id x₂.toInCall.ns
  have g₂ : Grow m₁ s₁ m₁ { s₁ with heap := h₂, toks := tk } :=
    ⟨Sub.refl _, fun a o e => keep a o (I₁.le a o e), fun _ _ e => .inl e, Kept.of keep, fun a o vs e _ => keep a o e, rfl, rfl, htk⟩
  have hbase : ∀ {L : Addr}, s₁.heap.get? L = none → h0.get? L = none := fun {L} e => by
    cases q : h0.get? L with
    | none => rfl
    | some o => have := I₁.stays L o q; rw [e] at this; cases this
  have fL := fresh env.locals (.head _)
  have J : Inv h0 C m₁ (startSto keys ps es) { s₁ with heap := h₂, toks := tk } :=
    { amb := ⟨I₁.base, g₂.le, ⟨by rw [hsc, hk]; decide, ⟨env.locals, oL, hfr, hbase fL, gL, fun vs e => by rw [dL] at e; cases e⟩, FunFrames.up g₂.kept I₁.frames⟩, fun en hen L hL' => by
        rcases List.mem_cons.mp hen with rfl | hen
        · rw [hfr] at hL'; cases hL'; exact fresh_none I₁.le fL
        · exact I₁.out en hen L hL', Nat.lt_of_lt_of_le I₁.tk htk, lim_up (g₂.kept _) I₁.lim, I₁.stn⟩
      frm := ⟨by show env.scope.kind = _; rw [hsc, hk], by rw [startSto_keys]; exact nd, fun x hx => by rw [startSto_keys] at hx; exact (hkeys x hx).1.1, .head _,
        List.nodup_cons.mpr ⟨fun q => by
          obtain ⟨p, hp, e⟩ := List.mem_map.mp q
          have q2 := x₂.above p.1 p.2 hp
          rw [e] at q2; exact Nat.lt_irrefl _ q2, List.pairwise_map.mpr x₂.apart⟩,
        fun x y c e e' => name_of_addr x₂.apart (mem_of_lookup e) (mem_of_lookup e'), fun x e => Nat.lt_irrefl _ (x₂.above x _ (mem_of_lookup e)), fun en hen L hL' => by
          rcases List.mem_cons.mp hen with rfl | hen
          · rw [hfr] at hL'; cases hL'; exact .inl (.head _)
          · obtain ⟨_, o, ho, _⟩ := I₁.frames.mem (List.mem_filterMap.mpr ⟨en, hen, hL'⟩)
            exact .inr ⟨o, ho⟩, fun x hx => by rw [startSto_keys] at hx; exact ne_of_beq_false (hkeys x hx).1.2, let ⟨_, ⟨o, _, _, e, _⟩, _⟩ := I₁.lim; ⟨o, e⟩⟩
      wrt := fun x sl hm => .inr (by
        rcases (hkeys x (startSto_mem hm).1).2 with h | h
        · exact .inl (by show env.scope.names.lookup x = _; rw [hsc]; exact h)
        · have := PySem.W.cellsFrom_some fd.scope.names (s₁.heap.objs.size + 1) [] (.inl h)
          obtain ⟨c, hc'⟩ := Option.isSome_iff_exists.mp this
          rw [← hcs] at hc'
          exact .inr ⟨by show env.scope.names.lookup x = _; rw [hsc]; exact h, c, hc', List.mem_cons_of_mem _ (List.mem_map.mpr ⟨_, mem_of_lookup hc', rfl⟩)⟩)
      ns := ⟨_, x₂.toInCall.ns⟩
      cells := fun x c e => ⟨_, x₂.cell x c e⟩
      dat := fun x d hm => by
        have hm' : ∃ sl, (x, sl) ∈ startSto keys ps es ∧ (sl = .dat d ∨ sl = .ro d) := hm.elim (fun h => ⟨_, h, .inl rfl⟩) fun h => ⟨_, h, .inr rfl⟩
        obtain ⟨sl, hm', hsl⟩ := hm'
        obtain ⟨hx, hh⟩ := startSto_mem hm'
        rcases hh with ⟨d', hl, e⟩ | e
        · obtain rfl : d' = d := by
            rcases hsl with rfl | rfl
            · cases e; rfl
            · cases e
          obtain ⟨v, hv, rv⟩ := zip_get r₁ hl
          refine ⟨v, ?_, rv⟩
          have ndz : ((ps.zip us).map (·.1)).Nodup := by
            rw [List.map_fst_zip (by omega)]; exact ndp
          rcases (hkeys x hx).2 with h | h
          · have hkx : env.kindOf x = some .local := by show env.scope.names.lookup x = _; rw [hsc]; exact h
            exact .inl ⟨hkx, ne_of_beq_false (hkeys x hx).1.2, _, x₂.toInCall.ns, bindL_get hkx ndz hv⟩
          · have hkx : env.kindOf x = some .cell := by show env.scope.names.lookup x = _; rw [hsc]; exact h
            have := PySem.W.cellsFrom_some fd.scope.names (s₁.heap.objs.size + 1) [] (.inl h)
            obtain ⟨c, hc'⟩ := Option.isSome_iff_exists.mp this
            rw [← hcs] at hc'
            have hic := x₂.cell x c hc'
            rw [bindC_get (by rw [hkx]; decide) ndz hv] at hic
            exact .inr ⟨.inl hkx, c, hc', hic⟩
        · rcases hsl with rfl | rfl <;> cases e
      own := fun x a l hm => by rcases (startSto_mem hm).2 with ⟨d, _, e⟩ | e <;> cases e
      wr := fun a ha => by
        rw [startSto_owns, List.append_nil] at ha
        exact ⟨fresh_none I₁.le (fresh a ha), fresh a ha⟩
      std := fun a ha => by
        rw [startSto_owns, List.append_nil] at ha
        rcases List.mem_cons.mp ha with rfl | ha
        · exact ⟨_, gL⟩
        · obtain ⟨p, hp, rfl⟩ := List.mem_map.mp ha
          obtain ⟨o, e, _⟩ := x₂.cell p.1 p.2 (hcm p hp)
          exact ⟨o, e⟩
      ent := fun a o e => ⟨o, keep a o e⟩
      apart := by
        rw [startSto_owns, List.append_nil]
        exact List.nodup_cons.mpr ⟨fun q => by
          obtain ⟨p, hp, e⟩ := List.mem_map.mp q
          have q2 := x₂.above p.1 p.2 hp
          rw [e] at q2; exact Nat.lt_irrefl _ q2, List.pairwise_map.mpr x₂.apart⟩ }
  have fr : ∀ a ∈ C.wr ++ owns (startSto keys ps es), s.heap.get? a = none := fun a ha => by
    rw [startSto_owns, List.append_nil] at ha
    exact none_back g₁.kept (fresh a ha)
  have g12 := g₁.trans g₂
  refine hmono (run C hC (A.deeper env) m₁ _ (O.deeper env) J) (fun f s₃ y => ?_) fun e s₃ ⟨cls, xs, hr, X⟩ => ?_
  · cases f with
    | next => obtain ⟨σ', hr, ⟨m₃, g₃, I₃⟩, _⟩ := y; exact ⟨.none, hr, m₃, g12.fresh g₃ fr, rfl⟩
    | brk => obtain ⟨σ', hr, _⟩ := y; exact hr.elim
    | cont => obtain ⟨σ', hr, _⟩ := y; exact hr.elim
    | ret v => obtain ⟨d, hr, m₃, g₃, q⟩ := y; exact ⟨d, hr, m₃, g12.fresh g₃ fr, q⟩
  · obtain ⟨m₃, s₄, g₃, X⟩ | ⟨m₃, s₄, ea, vs', g₃, Am, rfl, hrd, hx, eg, eo⟩ := X
    rotate_left
    · have g14 := g12.fresh g₃ fr
      have hin : ∀ en ∈ env :: l, ∀ b, en.frame = some b → b ∈ (env :: l).filterMap (·.frame) := fun en he b hb => List.mem_filterMap.mpr ⟨en, he, hb⟩
      have notf : ∀ {b : Addr}, b ∈ (env :: l).filterMap (·.frame) → h0.get? b = none ∧ (∃ o, s₄.heap.get? b = some o ∧ ∀ vs, o.data ≠ .fields vs) ∧ m₃ b = none := fun {b} hb => by
        obtain ⟨a1, o, a2, a3⟩ := Am.frames.mem hb
        obtain ⟨en, he, hf⟩ := List.mem_filterMap.mp hb
        exact ⟨a1, ⟨o, a2, a3⟩, Am.out en he b hf⟩
      have toB : ∀ a o, m₃ a = some o → (hideAll s₄.heap ((env :: l).filterMap (·.frame))).get? a = some o := fun a o e => hideAll_get _ (Am.le a o e) fun hm => by
        rw [(notf hm).2.2] at e; cases e
      have fB : ∀ a o vs, s₄.heap.get? a = some o → o.data = .fields vs → (hideAll s₄.heap ((env :: l).filterMap (·.frame))).get? a = some o := fun a o vs e d => hideAll_get _ e fun hm => by
        obtain ⟨_, ⟨o', e', hd'⟩, _⟩ := notf hm
        rw [e] at e'; cases e'
        exact hd' vs d
      obtain ⟨t, he, htn, ht⟩ := hx.there
      have stB : (hideAll s₄.heap ((env :: l).filterMap (·.frame))).StaysIn s₄.heap := fun b o q => of_hideAll _ q
      have frB : ∀ b, s₄.heap.get? b = none → (hideAll s₄.heap ((env :: l).filterMap (·.frame))).get? b = none := fun b hb => fresh_of_stays stB hb
      refine wpAny_leaving_firstW (a0 := .ref t) (Around.frames_deeper O.fr) ((funFrames_hide Am.frames hin).of_keeps fun b o hb _ => ⟨o, hx.keeps b o hb, rfl⟩) hfr he (fun b o hb => hx.keeps b o (stB b o hb)) (frB _ hx.new) rfl rfl rfl fun h' hL => ?_
      obtain ⟨k1, ⟨_, _, k2⟩, k3, up⟩ := hL
      have F' : Heap.FlyingW (hideAll s₄.heap ((env :: l).filterMap (·.frame))) l ea cls (.ref t) h' := ⟨k1, frB _ hx.new, k2, k3⟩
      have tup : Heap.TupAt h' t vs' := Heap.TupAt.of_slots ⟨_, _, ht, rfl, rfl⟩ up
      refine ⟨cls, xs, hr, Exc.pre g14 ?_⟩
      have keepf : ∀ a o vs, s₄.heap.get? a = some o → o.data = .fields vs → h'.get? a = some o := fun a o vs e d => F'.1 a o (fB a o vs e d)
      refine ⟨⟨ea, t, _, m₃, vs', rfl, F', toB, Sub.refl _, fun a o e => .inl e, tup, hrd, ⟨hx.new, htn⟩, fB⟩, fun a o e => F'.1 a o (toB a o (Am.base a o e)), fun a o e => ?_, keepf, eg, eo⟩
      by_cases q : ∃ vs, o.data = .fields vs
      · obtain ⟨vs, q⟩ := q; exact ⟨o, keepf a o vs e q, .refl o⟩
      · obtain ⟨sl, e'⟩ := up a _ (hx.keeps a o e) fun vs d => q ⟨vs, d⟩
        exact ⟨_, e', .inl ⟨sl, rfl⟩⟩
    have g14 := g12.fresh g₃ fr
    obtain ⟨ea, t, B, m', vs', rfl, F, hB, hs, hn, ht, hrd, hne, hfl⟩ := X.it
    refine wpAny_leaves_onW (Around.frames_deeper O.fr) hfr F fun h' F' up => ⟨cls, xs, hr, Exc.pre g14 ?_⟩
    have hf : ∀ a o vs, s₄.heap.get? a = some o → o.data = .fields vs → h'.get? a = some o := fun a o vs e d => F'.1 a o (hfl a o vs e d)
    refine ⟨⟨ea, t, B, m', vs', rfl, F', hB, hs, hn, ht.of_slots up, hrd, hne, hfl⟩, fun a o e => F'.1 a o (hB a o (hs a o (g14.sub a o (I.base a o e)))), fun a o e => ?_, hf, X.gens, X.os⟩
    by_cases q : ∃ vs, o.data = .fields vs
    · obtain ⟨vs, q⟩ := q; exact ⟨o, hf a o vs e q, .refl o⟩
    · obtain ⟨o₁, e₁, u₁⟩ := X.kept a o e
      obtain ⟨sl', e₂⟩ := up a _ e₁ (u₁.nf fun vs d => q ⟨vs, d⟩)
      exact ⟨_, e₂, u₁.trans (.inl ⟨sl', rfl⟩)⟩
theorem fnOk_parts {scope : Scope} {keys ps : List Str} (ok : fnOk scope keys ps = true) : scope.isCoroutine = false ∧ scope.isGenerator = false := by
  simp only [fnOk, Bool.and_eq_true, Bool.not_eq_true'] at ok
  exact ⟨ok.1.1.1.1.1.2, ok.1.1.1.1.1.1.2⟩
theorem Amb.rec' {l : List Env} {m : Mem} {s : Shared} {c : Value} {q : Str} (I : Amb h0 l m s) (hcd : h0.CodeRec c q) : s.heap.CodeRec c q :=
  let ⟨c, o, us, t, a, b, c1, d⟩ := hcd; ⟨c, o, us, t, a, I.stays _ _ b, c1, d⟩
theorem callable_of {fd : FuncData} {f : Addr} {o : Obj} {body : List Stmt} {kw : List (Str × Value)} {ds es : List D} {ps keys : List Str} {r : Res} (ho : h0.get? f = some o) (hd : o.data = .func fd) (hcd : h0.CodeRec fd.code fd.qualname)
    (hb : fd.body = .stmts body) (hcl : fd.closure = []) (ok : fnOk fd.scope keys ps = true) (hps : ∀ x ∈ ps, x ∈ keys) (hbind : BindsD prog w h0 fd kw ds ps es)
    (run : ∀ C, FnCx fd C → Run prog w h0 C k (startSto keys ps es) body (fun o => match o with | .ret d => r = .val d | .exc cls ds => r = .exc cls ds | .next _ => r = .val .none | _ => False)) :
    ∀ l A m s vs, Ok l (k + 1) A → Amb h0 l m s → RdL m ds vs → Gv prog w h0 l A m s (PySem.call (.ref f) vs kw) r := fun l A m s vs O I rd => by
  refine Gv.mk (wpAny_call (codeAny_mono (codeAny_call_function O.dep (I.stays _ _ ho) hd (fnOk_parts ok).1 (fnOk_parts ok).2 hb (I.rec' hcd) (frame_gen (W := fun A b env Q E s => wpAny (model prog w) A (execs b env) Q E s) wpAny_mono codeAny_func hcl ok hps hbind run O I rd)) fun x s' y => ?_))
  match x, y with
  | .ok (.ret _), y => exact y
  | .error _, y => exact y
end
section
set_option linter.unusedVariables false
variable {prog : Program} {w : World} {h0 : Heap} {C : Cx} {k : Nat} {σ σ' : Sto} {R : Out → Prop}

theorem Ev.glob {x : Str} {p : Pos} {mg : Str → Option Value} {v : Value} (hk : C.env.kindOf x = some .globalImplicit) (G : h0.Ns C.env.globals mg) (hv : mg x = some v) (hd : (x == ("__debug__" : Str)) = false := by decide) :
    Ev prog w h0 C k σ (.Name x p) (.val v) := fun _ m s _ I =>
  Calls.Name_function_global I.frm.fn hk (Calls.loadGlobal_global (G.keeps I.amb.stays) hv ⟨m, Grow.refl I.amb.le, rfl⟩) hd
/-- a global that is data -/
theorem Ev.globD {x : Str} {p : Pos} {mg : Str → Option Value} {v : Value} {d : D} (hk : C.env.kindOf x = some .globalImplicit) (G : h0.Ns C.env.globals mg) (hv : mg x = some v) (hr : ∀ m, Rd m d v) (hd : (x == ("__debug__" : Str)) = false := by decide) :
    Ev prog w h0 C k σ (.Name x p) d := fun _ m s _ I =>
  Calls.Name_function_global I.frm.fn hk (Calls.loadGlobal_global (G.keeps I.amb.stays) hv ⟨m, Grow.refl I.amb.le, hr m⟩) hd

/-- the frame's own list, from now on frozen -/
theorem Run.freeze {x : Str} {a : Addr} {l : List D} {b : List Stmt} (hx : (x, Sl.own a l) ∈ σ) (u : Upd σ x (.dat (.lst l)) σ') (h : Run prog w h0 C k σ' b R) : Run prog w h0 C k σ b R := fun A m s O I => by
  obtain ⟨lo, vs, ⟨o, n, ho, hc, hdd, hs⟩, rl⟩ := I.own x a l hx
  have hin := List.mem_append_right C.wr (owns_mem hx)
  have hma := (I.wr a hin).1
  have nd := I.frm.nodup
  have apart := List.nodup_append.mp I.apart
  have sub : Sub m (m.put a o) := Mem.put_sub hma
  have le : ∀ b o', m.put a o b = some o' → s.heap.get? b = some o' := fun b o' e => by
    unfold Mem.put at e
    by_cases q : b = a
    · subst q; rw [if_pos rfl] at e; cases e; exact ho
    · rw [if_neg q] at e; exact I.amb.le b o' e
  have g : GrowW (C.wr ++ owns σ) m s (m.put a o) s := ⟨sub, le, fun b o' e => by
      unfold Mem.put at e
      by_cases q : b = a
      · subst q; exact .inr (.inl hin)
      · rw [if_neg q] at e; exact .inl e, fun b o' _ e => ⟨o', e, .refl o'⟩, fun b o' vs _ e _ => e, fun L o' e => ⟨o', e, id⟩, rfl, rfl, Nat.le_refl _⟩
  obtain ⟨sb, oa, oc, hmb, eo, eo'⟩ := u.split
  obtain rfl : sb = .own a l := one_key nd hmb hx
  have osub : ∀ b, b ∈ owns σ' → b ∈ owns σ ∧ b ≠ a := fun b hb => by
    rw [eo'] at hb
    rw [eo]
    have nd' := apart.2.1
    rw [eo] at nd'
    simp only [slOwn, List.append_assoc, List.nil_append, List.mem_append, List.cons_append, List.nodup_append, List.nodup_cons, List.mem_cons] at hb nd' ⊢
    obtain ⟨n1, ⟨n2, n3⟩, n4⟩ := nd'
    rcases hb with h | h
    · exact ⟨.inl h, n4 b h a (.inl rfl)⟩
    · exact ⟨.inr (.inr h), fun q => n2 (q ▸ h)⟩
  have J : Inv h0 C (m.put a o) σ' s := by
    refine ⟨⟨fun b o' e => sub b o' (I.amb.base b o' e), le, I.amb.frames, fun env he L hL => ?_, I.amb.tk, I.amb.lim, trivial⟩, by rw [u.keys]; exact I.frm, fun y t hm => ?_, I.ns, I.cells, fun y e hm => ?_, fun y b lb hm => ?_, fun b hb => ?_, fun b hb => ?_, I.ent, ?_⟩
    · unfold Mem.put
      by_cases q : L = a
      · exfalso
        subst q
        rcases I.frm.frs env he L hL with h | ⟨o', h⟩
        · exact apart.2.2 L h L (owns_mem hx) rfl
        · rw [(I.wr L hin).2] at h; cases h
      · rw [if_neg q]; exact I.amb.out env he L hL
    · rcases u.mem nd hm with ⟨rfl, rfl⟩ | ⟨hm, _⟩
      · rcases I.wrt y _ hx with ⟨d, e⟩ | h
        · cases e
        · exact .inr h
      · exact I.wrt y t hm
    · have hm' : ∃ t, (y, t) ∈ σ' ∧ (t = .dat e ∨ t = .ro e) := hm.elim (fun h => ⟨_, h, .inl rfl⟩) fun h => ⟨_, h, .inr rfl⟩
      obtain ⟨t, hm', ht⟩ := hm'
      rcases u.mem nd hm' with ⟨rfl, rfl⟩ | ⟨hm', hne⟩
      · rcases ht with ht | ht <;> cases ht
        exact ⟨_, lo, a, vs, rfl, ⟨o, n, Mem.put_self .., hc, hdd, hs⟩, rl.mono sub⟩
      · obtain ⟨v, lv, r⟩ := I.dat y e (ht.elim (fun q => .inl (q ▸ hm')) fun q => .inr (q ▸ hm'))
        exact ⟨v, lv, r.mono sub⟩
    · rcases u.mem nd hm with ⟨_, e⟩ | ⟨hm, hne⟩
      · cases e
      · obtain ⟨lv, us, q, r⟩ := I.own y b lb hm
        exact ⟨lv, us, q, r.mono sub⟩
    · have hb' : b ∈ C.wr ++ owns σ ∧ b ≠ a := by
        rcases List.mem_append.mp hb with h | h
        · exact ⟨List.mem_append_left _ h, fun q => apart.2.2 b h a (owns_mem hx) q⟩
        · exact ⟨List.mem_append_right _ (osub b h).1, (osub b h).2⟩
      refine ⟨?_, (I.wr b hb'.1).2⟩
      unfold Mem.put; rw [if_neg hb'.2]; exact (I.wr b hb'.1).1
    · rcases List.mem_append.mp hb with h | h
      · exact I.std b (List.mem_append_left _ h)
      · exact I.std b (List.mem_append_right _ (osub b h).1)
    · refine List.nodup_append.mpr ⟨apart.1, ?_, fun b hb c hc => apart.2.2 b hb c (osub c hc).1⟩
      have nd' := apart.2.1
      rw [eo] at nd'
      rw [eo']
      simp only [slOwn, List.append_assoc, List.nil_append, List.cons_append, List.nodup_append, List.nodup_cons, List.mem_cons] at nd' ⊢
      obtain ⟨n1, ⟨n2, n3⟩, n4⟩ := nd'
      exact ⟨n1, n3, fun b hb c hc => n4 b hb c (.inr hc)⟩
  exact h.pre O J g fun b hb => .inl (osub b hb).1

/-- a tuple is taken apart -/
theorem Run1.assignTup {elts : List Expr} {n : Nat} {tp p : Pos} {e : Expr} {d : D} (h : Ev prog w h0 C k σ e d) (t : Tgt prog w h0 C k (.Tuple elts n tp) σ d σ') (r : R (.next σ'))
    (hs : swapsWithSole [.Tuple elts n tp] e p.line C.env = pure false := by rfl) (hw : swappedStores [.Tuple elts n tp] e C.env = pure none := by rfl) : Run1 prog w h0 C k σ (.Assign [.Tuple elts n tp] e p) R := fun A m s O I => by
  refine Assign_Tuple ((h A m s O I).then fun v m₁ s₁ g₁ r₁ => wpAny_noE (wpAny_mono (t.it A m₁ s₁ v O (I.grow g₁) r₁) (fun _ s₂ ⟨m₂, g₂, I₂⟩ => ?_) fun _ _ f => f)) hs hw
  exact ⟨σ', r, ⟨m₂, (g₁.toW _).trans g₂ fun _ h => .inl h, I₂⟩, fun a ha => .inl (t.own a ha)⟩
theorem swapped2 {x y : Str} {px py tp vp : Pos} {n m : Nat} {e1 e2 : Expr} {env : Env} (hb : env.blockKind = .function) (hx : env.kindOf x = some .local) (hy : env.kindOf y = some .local)
    (hl : (py.line == px.line) = true) (hxy : [x, y].eraseDups.length = 2) (hs : ([e1, e2].any fun | .Starred .. => true | _ => false) = false) (hf : [e1, e2].all (foldedForSure 8) = false) (hc : [e1, e2].all (constantsAlone 8) = false) :
    swappedStores [.Tuple [.Name x px, .Name y py] n tp] (.Tuple [e1, e2] m vp) env = pure (some [x, y]) := by
  have hl' : py.line = px.line := eq_of_beq hl
  have ep : ∀ (z : Str) (q : Pos), (Expr.Name z q).pos = q := fun _ _ => rfl
  unfold swappedStores
  simp only [hb, hx, hy, hf, hc, ep, hl', List.head?_cons, Option.map_some, Option.getD_some, List.filterMap_cons, List.filterMap_nil, beq_self_eq_true, Bool.and_self, if_true, List.length_cons, List.length_nil, hxy,
    Nat.zero_add, Nat.reduceAdd, Bool.true_or, Bool.not_true, bne_self_eq_false, Bool.false_eq_true, if_false, Bool.or_self]
  exact if_neg (ne_true_of_eq_false hs)
theorem Run1.swap2 {x y : Str} {px py tp p : Pos} {n : Nat} {e : Expr} {d₁ d₂ : D} {σ₁ : Sto} (h : Ev prog w h0 C k σ e (.tup [d₁, d₂])) (u : Upd σ y (.dat d₂) σ₁) (v : Upd σ₁ x (.dat d₁) σ') (r : R (.next σ'))
    (hw : swappedStores [.Tuple [.Name x px, .Name y py] n tp] e C.env = pure (some [x, y])) (hs : swapsWithSole [.Tuple [.Name x px, .Name y py] n tp] e p.line C.env = pure false := by rfl) (hk : 0 < k := by omega) :
    Run1 prog w h0 C k σ (.Assign [.Tuple [.Name x px, .Name y py] n tp] e p) R := fun A m s O I => by
  have go : ∀ t s₁ m₁, Grow m s m₁ s₁ → Rd m₁ (.tup [d₁, d₂]) t → wpAny (model prog w) A (unpackItems t [x, y].length Option.none) (fun items s₂ =>
      wpAny (model prog w) A (assignInOrder ([x, y].reverse.map fun n => bindName C.env n) items.reverse) (fun _ => After h0 C m σ s R .next) (AfterX h0 C m σ s R) s₂) (AfterX h0 C m σ s R) s₁ := fun t s₁ m₁ g₁ r₀ => by
    obtain ⟨a, vs, e1, q, rl⟩ := r₀
    obtain ⟨v1, vs1, e2, r1, rl⟩ := rl
    obtain ⟨v2, vs2, e3, r2, e4⟩ := rl
    subst e1 e2 e3
    cases e4
    have I₁ := I.grow g₁
    have hu : ∀ {Q : List Value → Shared → Prop} {E : Value → Shared → Prop}, (∀ h', Heap.ExtBut s₁.heap.objs.size s₁.heap h' → Q [v1, v2] { s₁ with heap := h' }) → wpAny (model prog w) A (unpackItems (.ref a) 2 Option.none) Q E s₁ := fun h => unpackItems_tuple (items := [v1, v2].toArray) (O.hd hk) (isTup_of (seq_in q I₁.amb.le)) h
    refine hu fun h' hx => ?_
    have g := extBut_grow I₁.amb.le hx
    have ea : assignInOrder ([x, y].reverse.map fun n => bindName C.env n) [v1, v2].reverse = (do holding [v1] (bindName C.env y v2); do holding [] (bindName C.env x v1); pure ()) := rfl
    rw [ea]
    refine wpAny_bind (wpAny_holding (wpAny_bindName (store (I₁.grow g) u r2 fun s₂ g₂ I₂ => ?_)))
    refine wpAny_bind (wpAny_holding (wpAny_bindName (store I₂ v r1 fun s₃ g₃ I₃ => wpAny_pure ⟨σ', r, ⟨m₁, (((g₁.trans g).toW _).trans g₂ fun _ h => .inl h).trans g₃ fun b hb => .inl ?_, I₃⟩, fun b hb => .inl ?_⟩)))
    · rcases List.mem_append.mp hb with h | h
      · exact List.mem_append_left _ h
      · exact List.mem_append_right _ (u.owns_dat b h)
    · exact u.owns_dat b (v.owns_dat b hb)
  have h' := h A m s O I
  have h2 := Gv.then h' (Q := fun v s₁ => wpAny (model prog w) A (unpackItems v [x, y].length Option.none) (fun items s₂ =>
      wpAny (model prog w) A (assignInOrder ([x, y].reverse.map fun n => bindName C.env n) items.reverse) (fun _ => After h0 C m σ s R .next) (AfterX h0 C m σ s R) s₂) (AfterX h0 C m σ s R) s₁) (E := AfterX h0 C m σ s R) fun v m' s' g r => go v s' m' g r
  exact Assign_Tuple_swapped h2 hs hw
/-- two new empty lists, the frame's own -/
theorem Run1.newOwn2 {x y : Str} {px py tp p lp lq vp : Pos} {n m : Nat} (h : ∀ a b, ∃ σ₁ σ', Upd σ y (.own b []) σ₁ ∧ Upd σ₁ x (.own a []) σ' ∧ R (.next σ'))
    (hw : swappedStores [.Tuple [.Name x px, .Name y py] n tp] (.Tuple [.List [] lp, .List [] lq] m vp) C.env = pure (some [x, y])) (hk : 0 < k := by omega) :
    Run1 prog w h0 C k σ (.Assign [.Tuple [.Name x px, .Name y py] n tp] (.Tuple [.List [] lp, .List [] lq] m vp) p) R := fun A mm s O I => by
  have hnl : ∀ {s : Shared} {Q : Value → Shared → Prop} {E : Value → Shared → Prop} {lp : Pos}, Q (.ref s.heap.objs.size) { s with heap := s.heap.push { cls := .type "list", data := .seq ([] : List Value).toArray } } → wpAny (model prog w) A (eval (.List [] lp) C.env) Q E s :=
    fun h => List_ (Calls.spliced_nil (wpAny_newList h))
  have ev : ∀ {Q : Value → Shared → Prop} {E : Value → Shared → Prop}, (∀ a b v s₁, v = .ref (s.heap.objs.size + 2) → a = s.heap.objs.size → b = s.heap.objs.size + 1 → s₁ = { s with heap := ((s.heap.push { cls := .type "list", data := .seq ([] : List Value).toArray }).push { cls := .type "list", data := .seq ([] : List Value).toArray }).push { cls := .type "tuple", data := .seq ([.ref a, .ref b] : List Value).toArray } } → Q v s₁) →
      wpAny (model prog w) A (eval (.Tuple [.List [] lp, .List [] lq] m vp) C.env) Q E s := fun {Q E} q => by
    refine Tuple_ ?_
    show wpAny _ A (spliced [(false, eval (.List [] lp) C.env), (false, eval (.List [] lq) C.env)]) _ E s
    refine Calls.spliced_cons (hnl (Calls.spliced_cons (hnl (Calls.spliced_nil (wpAny_newTuple ?_)))))
    exact q s.heap.objs.size (s.heap.objs.size + 1) _ _ (by simp [Heap.size_push]) rfl rfl (by simp [Heap.size_push])
  refine Assign_Tuple_swapped (ev fun a b v s₁ hv ha hb hs => ?_) rfl hw
  have za : s.heap.get? a = Option.none := by rw [ha]; exact get_size_none _
  have zb : s.heap.get? b = Option.none := by rw [hb]; exact Heap.get?_none_of_le (Nat.le_succ _)
  have hab : a ≠ b := by omega
  have g₁ : Grow mm s mm s₁ := by
    subst hs
    exact (((Grow.refl I.amb.le).push _).push _).push _
  have ga : SeqAt s₁.heap.get? "list" a [] := by
    subst hs ha
    exact ⟨_, 0, Heap.get?_push_of_some _ (Heap.get?_push_of_some _ (Heap.get?_push_size _ rfl)), rfl, rfl, rfl⟩
  have gb : SeqAt s₁.heap.get? "list" b [] := by
    subst hs ha
    have := Heap.get?_push_size (s.heap.push { cls := .type "list", data := .seq ([] : List Value).toArray }) (o := { cls := .type "list", data := .seq ([] : List Value).toArray }) rfl
    rw [Heap.size_push, ← hb] at this
    exact ⟨_, 0, Heap.get?_push_of_some _ this, rfl, rfl, rfl⟩
  have gt : IsTup s₁.heap (s.heap.objs.size + 2) ([.ref a, .ref b] : List Value).toArray := by
    subst hs
    have := Heap.get?_push_size ((s.heap.push { cls := .type "list", data := .seq ([] : List Value).toArray }).push { cls := .type "list", data := .seq ([] : List Value).toArray }) (o := { cls := .type "tuple", data := .seq ([.ref a, .ref b] : List Value).toArray }) rfl
    rw [Heap.size_push, Heap.size_push] at this
    exact ⟨_, this, rfl, 0, rfl⟩
  clear hs
  subst hv
  have I₁ := I.grow g₁
  obtain ⟨σ₁, σ', u, v, r⟩ := h a b
  have hu : ∀ {Q : List Value → Shared → Prop} {E : Value → Shared → Prop}, (∀ h', Heap.ExtBut s₁.heap.objs.size s₁.heap h' → Q [.ref a, .ref b] { s₁ with heap := h' }) → wpAny (model prog w) A (unpackItems (.ref (s.heap.objs.size + 2)) 2 Option.none) Q E s₁ :=
    fun h => unpackItems_tuple (items := ([.ref a, .ref b] : List Value).toArray) (O.hd hk) gt h
  refine hu fun h' hx => ?_
  have g := extBut_grow I₁.amb.le hx
  have g₂ := g₁.trans g
  have I₂ := I.grow g₂
  have up : ∀ c, SeqAt s₁.heap.get? "list" c [] → SeqAt h'.get? "list" c [] := fun c q => seq_up (g.kept c) q
  have sl : ∀ c, s.heap.get? c = Option.none → SeqAt h'.get? "list" c [] → SlOk C mm σ { s₁ with heap := h' } (.ref c) (.own c []) := fun c z q => by
    refine ⟨rfl, ⟨[], q, rfl⟩, fun q => ?_, fresh_none I.amb.le z, (I.ap z).ent⟩
    obtain ⟨o, e⟩ := I.std c q
    rw [z] at e; cases e
  have ea : assignInOrder ([x, y].reverse.map fun n => bindName C.env n) ([.ref a, .ref b] : List Value).reverse = (do holding [.ref a] (bindName C.env y (.ref b)); do holding [] (bindName C.env x (.ref a)); pure ()) := rfl
  show wpAny _ A (assignInOrder ([x, y].reverse.map fun n => bindName C.env n) ([.ref a, .ref b] : List Value).reverse) _ _ _
  rw [ea]
  refine wpAny_bind (wpAny_holding (wpAny_bindName (store I₂ u (sl b zb (up b gb)) fun s₃ g₃ I₃ => ?_)))
  have oy : ∀ c ∈ owns σ₁, c ∈ owns σ ∨ c = b := fun c hc => by
    obtain ⟨sb, oa, oc, _, eo, eo'⟩ := u.split
    rw [eo'] at hc
    rw [eo]
    simp only [slOwn, List.mem_append, List.mem_singleton] at hc ⊢
    rcases hc with (h | h) | h
    · exact .inl (.inl (.inl h))
    · exact .inr h
    · exact .inl (.inr h)
  have ox : ∀ c ∈ owns σ', c ∈ owns σ₁ ∨ c = a := fun c hc => by
    obtain ⟨sb, oa, oc, _, eo, eo'⟩ := v.split
    rw [eo'] at hc
    rw [eo]
    simp only [slOwn, List.mem_append, List.mem_singleton] at hc ⊢
    rcases hc with (h | h) | h
    · exact .inl (.inl (.inl h))
    · exact .inr h
    · exact .inl (.inr h)
  have naw : a ∉ C.wr ++ owns σ := fun q => by
    obtain ⟨o, e⟩ := I.std a q
    rw [za] at e; cases e
  have na : a ∉ C.wr ++ owns σ₁ := fun q => by
    rcases List.mem_append.mp q with q | q
    · exact naw (List.mem_append_left _ q)
    · rcases oy a q with q | q
      · exact naw (List.mem_append_right _ q)
      · exact hab q
  have ga₃ : SeqAt s₃.heap.get? "list" a [] := seq_up (fun o e => g₃.kept a o naw e) (up a ga)
  refine wpAny_bind (wpAny_holding (wpAny_bindName (store I₃ v ⟨rfl, ⟨[], ga₃, rfl⟩, na, fresh_none I.amb.le za, (I.ap za).ent⟩ fun s₄ g₄ I₄ => wpAny_pure ⟨σ', r, ⟨mm, ((g₂.toW _).trans g₃ fun _ h => .inl h).trans g₄ fun c hc => ?_, I₄⟩, fun c hc => ?_⟩)))
  · rcases List.mem_append.mp hc with h | h
    · exact .inl (List.mem_append_left _ h)
    · rcases oy c h with h | rfl
      · exact .inl (List.mem_append_right _ h)
      · exact .inr zb
  · rcases ox c hc with h | rfl
    · rcases oy c h with h | rfl
      · exact .inl h
      · exact .inr zb
    · exact .inr za
end
section
set_option linter.unusedVariables false
variable {prog : Program} {w : World} {h0 : Heap} {C : Cx} {k : Nat} {σ σ' : Sto} {R : Out → Prop}

/-- one turn of a comprehension's loop -/
noncomputable def turnOf (e : Expr) (depth : Nat) (it acc : Value) (env : Env) (g : Comprehension) (emit : Sem Unit) : Sem Fin := do
  standAt g.iter.pos
  match ← pyNext it with
  | none => pure (.done .next)
  | some v =>
    letOwnedTupleGo g.target it v
    assign g.target env v
    let mut ok := true
    for c in g.ifs do
      if ok then ok ← isTrue c env (eval c env)
    if ok then emit
    again (.compLoop e depth it acc env)
noncomputable def emitLast (elt : Expr) (acc : Value) (env : Env) : Sem Unit := do let _ ← call (.builtin "list.append") [acc, ← eval elt env]
noncomputable def emitOn (e : Expr) (depth : Nat) (g : Comprehension) (acc : Value) (env : Env) : Sem Unit := do
  let x ← eval g.iter env
  standAt g.iter.pos
  let x ← foldedSetIterable g.iter env x
  let _ ← runOwn (.compStart e depth (← holding [x] (pyIter x)) acc env) env
theorem turn_last {elt t i : Expr} {ifs : List Expr} {scope : Scope} {pos : Pos} {it acc : Value} {env : Env} :
    compTurn (.ListComp elt [⟨t, i, ifs, 0⟩] scope pos) 0 it acc env = turnOf (.ListComp elt [⟨t, i, ifs, 0⟩] scope pos) 0 it acc env ⟨t, i, ifs, 0⟩ (emitLast elt acc env) := rfl
theorem turn_two0 {elt t i t' i' : Expr} {ifs ifs' : List Expr} {scope : Scope} {pos : Pos} {it acc : Value} {env : Env} :
    compTurn (.ListComp elt [⟨t, i, ifs, 0⟩, ⟨t', i', ifs', 0⟩] scope pos) 0 it acc env = turnOf (.ListComp elt [⟨t, i, ifs, 0⟩, ⟨t', i', ifs', 0⟩] scope pos) 0 it acc env ⟨t, i, ifs, 0⟩ (emitOn (.ListComp elt [⟨t, i, ifs, 0⟩, ⟨t', i', ifs', 0⟩] scope pos) 1 ⟨t', i', ifs', 0⟩ acc env) := by
  unfold compTurn turnOf emitOn
  simp only [List.getElem?_cons_zero, List.getElem?_cons_succ, Nat.zero_add, bne_self_eq_false, Bool.false_eq_true, if_false, bind_assoc, pure_bind]
  rfl
theorem turn_two1 {elt t i t' i' : Expr} {ifs ifs' : List Expr} {scope : Scope} {pos : Pos} {it acc : Value} {env : Env} :
    compTurn (.ListComp elt [⟨t, i, ifs, 0⟩, ⟨t', i', ifs', 0⟩] scope pos) 1 it acc env = turnOf (.ListComp elt [⟨t, i, ifs, 0⟩, ⟨t', i', ifs', 0⟩] scope pos) 1 it acc env ⟨t', i', ifs', 0⟩ (emitLast elt acc env) := rfl

/-- the list that a comprehension makes -/
structure Acc (C : Cx) (dl : Addr) (L : List D) (m : Mem) (s : Shared) : Prop where
  ap : Ap C dl
  mem : m dl = none
  it : ∃ vs, SeqAt s.heap.get? "list" dl vs ∧ RdL m L vs
theorem Acc.there {dl : Addr} {L : List D} {m : Mem} {s : Shared} (a : Acc C dl L m s) : ∃ o, s.heap.get? dl = some o := let ⟨_, ⟨o, _, e, _⟩, _⟩ := a.it; ⟨o, e⟩
theorem Acc.kept {dl : Addr} {L : List D} {m m' : Mem} {s s' : Shared} (a : Acc C dl L m s) (sub : Sub m m') (new : ∀ o, m' dl = some o → m dl = some o ∨ s.heap.get? dl = none) (k : KeptUp s.heap s'.heap dl) : Acc C dl L m' s' :=
  ⟨a.ap, (by
    cases e : m' dl with
    | none => rfl
    | some o =>
      rcases new o e with h | h
      · rw [a.mem] at h; cases h
      · obtain ⟨o', e'⟩ := a.there
        rw [h] at e'; cases e'), let ⟨vs, q, r⟩ := a.it; ⟨vs, seq_up k q, r.mono sub⟩⟩
theorem Acc.grow {dl : Addr} {L : List D} {m m' : Mem} {s s' : Shared} (a : Acc C dl L m s) (g : Grow m s m' s') : Acc C dl L m' s' := a.kept g.sub (g.new dl) (g.kept dl)
theorem Acc.growW {dl : Addr} {L : List D} {m m' : Mem} {s s' : Shared} {W : List Addr} (a : Acc C dl L m s) (g : GrowW W m s m' s') (h : dl ∉ W) : Acc C dl L m' s' :=
  a.kept g.sub (fun o e => (g.new dl o e).imp id fun q => q.elim (fun q => absurd q h) id) fun o e => g.kept dl o h e
theorem Acc.chg {dl : Addr} {L : List D} {m m' : Mem} {s s' : Shared} {IS : List Addr} (a : Acc C dl L m s) (g : GrowI IS m s m' s') (h : dl ∉ IS) : Acc C dl L m' s' :=
  a.kept g.sub (g.new dl) fun o e => g.kept dl o h e

/-- t puts out behind what is in dl -/
noncomputable def Em (prog : Program) (w : World) (h0 : Heap) (C : Cx) (k : Nat) (dl : Addr) (S : Sto → Prop) (σ : Sto) (t : Sem Unit) (out : List D) : Prop :=
  ∀ A m s L, Ok C.frs k A → Inv h0 C m σ s → Acc C dl L m s → L.length + out.length ≤ sizeLine →
    wpAny (model prog w) A t (fun _ s' => ∃ m' σ', S σ' ∧ GrowW (dl :: C.wr) m s m' s' ∧ Inv h0 C m' σ' s' ∧ Acc C dl (L ++ out) m' s') (fun _ _ => False) s
theorem Em.last {dl : Addr} {S : Sto → Prop} {elt : Expr} {d : D} (h : Ev prog w h0 C k σ elt d) (hS : S σ) (ho : owns σ = []) : Em prog w h0 C k dl S σ (emitLast elt (.ref dl) C.env) [d] := fun A m s L O I a hz => by
  unfold emitLast
  refine wpAny_bind ((h A m s O I).then fun v m₁ s₁ g₁ r₁ => ?_)
  have I₁ := I.grow g₁
  have a₁ := a.grow g₁
  obtain ⟨vs, q, rl⟩ := a₁.it
  refine wpAny_bind (append_wp q (by rw [rl.length]; simp at hz; omega) fun h' hl hs => wpAny_pure ⟨m₁, σ, hS, ?_, ?_, ?_⟩)
  · have gi : GrowI [dl] m₁ s₁ m₁ { s₁ with heap := h' } := growI (.head _) I₁.amb.le (fun I hI => by cases List.mem_singleton.mp hI; exact a₁.mem) hs.extBut
    exact ⟨g₁.sub, gi.le, fun b o e => (g₁.new b o e).imp id .inr, fun b o n e => by
      obtain ⟨sl, e₁, u₁⟩ := g₁.kept b o e
      obtain ⟨sl', e₂, u₂⟩ := gi.kept b _ (fun q => n (by cases List.mem_singleton.mp q; exact .head _)) e₁
      exact ⟨sl', e₂, u₁.trans u₂⟩, fun b o vs n e d => gi.flds b o vs (fun q => n (by cases List.mem_singleton.mp q; exact .head _)) (g₁.flds b o vs e d) d, fun L o e => by
      obtain ⟨sl, e₁, u₁⟩ := g₁.kept L o e
      by_cases qd : L = dl
      · subst qd
        obtain ⟨o', n, e', _, _, d'⟩ := hl
        exact ⟨o', e', fun _ vs q => by rw [d'] at q; cases q⟩
      · exact ⟨_, hs.extBut L _ qd e₁, u₁.nf⟩, g₁.gens, g₁.os, g₁.tk⟩
  · have gi : GrowI [dl] m₁ s₁ m₁ { s₁ with heap := h' } := growI (.head _) I₁.amb.le (fun I hI => by cases List.mem_singleton.mp hI; exact a₁.mem) hs.extBut
    exact I₁.chg gi fun I hI => by cases List.mem_singleton.mp hI; exact ⟨a₁.ap, by rw [ho]; exact List.not_mem_nil⟩
  · exact ⟨a₁.ap, a₁.mem, _, hl, rl.snoc r₁⟩

/-- a comprehension's tests -/
noncomputable def EvT (prog : Program) (w : World) (h0 : Heap) (C : Cx) (k : Nat) (σ : Sto) (ifs : List Expr) (b : Bool) : Prop :=
  ∀ A m s, Ok C.frs k A → Inv h0 C m σ s →
    wpAny (model prog w) A (forIn ifs true fun c r => if r = true then do let ok ← isTrue c C.env (eval c C.env); pure (ForInStep.yield ok) else pure (ForInStep.yield r)) (fun ok s' => ok = b ∧ ∃ m', Grow m s m' s') (fun _ _ => False) s
theorem EvT.nil : EvT prog w h0 C k σ [] true := fun A m s O I => by rw [List.forIn_nil]; exact wpAny_pure ⟨rfl, m, Grow.refl I.amb.le⟩
theorem EvT.one {c : Expr} {b : Bool} (h : EvB prog w h0 C k σ c b) : EvT prog w h0 C k σ [c] b := fun A m s O I => by
  rw [List.forIn_cons]
  show wpAny _ A (do let r ← (do let ok ← isTrue c C.env (eval c C.env); pure (ForInStep.yield ok)); _) _ _ s
  refine wpAny_bind (wpAny_bind (wpAny_mono (h A m s O I) (fun ok s' hh => wpAny_pure ?_) fun _ _ f => f))
  dsimp only
  rw [List.forIn_nil]
  exact wpAny_pure hh

theorem em_loop {elt : Expr} {gens : List Comprehension} {scope : Scope} {pos : Pos} {depth : Nat} {it : Value} {g : Comprehension} {emit : Sem Unit} {dl : Addr} {S : Sto → Prop} {IS : List Addr} {ds : List D} {St : Nat → Mem → Heap → Prop} {A : Around} {RR : Result → Shared → Prop} {L : List D}
    {m₀ m : Mem} {s₀ s : Shared} (ht : compTurn (.ListComp elt gens scope pos) depth it (.ref dl) C.env = turnOf (.ListComp elt gens scope pos) depth it (.ref dl) C.env g emit) (hS : ∀ σ, S σ → owns σ = []) (f : D → List D)
    (turn : ∀ d ∈ ds, ∀ σ, S σ → ∃ σ', Tgt prog w h0 C k g.target σ d σ' ∧ S σ' ∧ ∃ b, EvT prog w h0 C k σ' g.ifs b ∧ (b = true → Em prog w h0 C k dl S σ' emit (f d)) ∧ (b = false → f d = []))
    (O : Ok C.frs k A) (T : Itr prog w A g.target IS it ds St) (hsz : L.length + (ds.flatMap f).length ≤ sizeLine) (hI : ∀ I ∈ IS, s₀.heap.get? I = none ∧ Ap C I) (hσ : S σ)
    (g₀ : GrowW (dl :: C.wr) m₀ s₀ m s) (J : Inv h0 C m σ s) (acc : Acc C dl L m s) (hm : ∀ I ∈ IS, m I = none) (st : St 0 m s.heap)
    (fin : ∀ m' σ' s', S σ' → GrowW (dl :: C.wr) m₀ s₀ m' s' → Inv h0 C m' σ' s' → Acc C dl (L ++ ds.flatMap f) m' s' → RR (.ok .next) s') :
    codeAny (model prog w) A (.compLoop (.ListComp elt gens scope pos) depth it (.ref dl) C.env) RR s := by
  have hnoe : ∀ {α : Type} {t : Sem α} {s : Shared} {Q : α → Shared → Prop} {E : Value → Shared → Prop}, wpAny (model prog w) A t Q (fun _ _ => False) s → wpAny (model prog w) A t Q E s := fun h => wpAny_noE h
  refine codeAny_loop rfl (fun n s' => ∃ i m' σ₁, i ≤ ds.length ∧ n = ds.length - i ∧ S σ₁ ∧ GrowW (dl :: C.wr) m₀ s₀ m' s' ∧ Inv h0 C m' σ₁ s' ∧ Acc C dl (L ++ (ds.take i).flatMap f) m' s' ∧ (∀ a ∈ IS, m' a = none) ∧ St i m' s'.heap) ?_ ds.length
    ⟨0, m, σ, Nat.zero_le _, rfl, hσ, g₀, J, by simpa using acc, hm, st⟩
  rintro n s₃ ⟨i, m₃, σ₃, hile, rfl, hP, g₃, I₃, a₃, hm₃, st₃⟩
  show wpAny _ A ((compTurn (.ListComp elt gens scope pos) depth it (.ref dl) C.env).onRaise (fun x => do noteFrame x C.env; theTreesLotGoes x)) _ _ s₃
  refine wpAny_noted (hnoe ?_)
  rw [ht]
  unfold turnOf
  have nIS : ∀ a ∈ IS, a ∉ dl :: C.wr := fun a ha q => by
    rcases List.mem_cons.mp q with rfl | q
    · obtain ⟨o, vs, e, dd⟩ := T.flds i m₃ _ st₃ a ha
      obtain ⟨us, ⟨o', j, e', _, _, ds'⟩, _⟩ := a₃.it
      rw [e] at e'; cases e'; rw [dd] at ds'; cases ds'
    · exact (hI a ha).2.wr q
  have dlIS : dl ∉ IS := fun q => nIS dl q (.head _)
  have sI : ∀ I ∈ IS, s₀.heap.get? I = none := fun a ha => (hI a ha).1
  refine wpAny_bind (wpAny_standAt (wpAny_bind ?_))
  cases hd : ds[i]? with
  | none =>
    have hi' : i = ds.length := by
      have := List.getElem?_eq_none_iff.mp hd; omega
    subst hi'
    refine wpAny_mono (T.done m₃ s₃ st₃ I₃.amb.le hm₃) (fun r s₄ ⟨e, m₄, g₄⟩ => ?_) fun _ _ f => f
    subst e
    rw [List.take_length] at a₃
    exact wpAny_pure (fin m₄ σ₃ s₄ hP (g₃.thenI g₄ sI) (I₃.chg g₄ fun a ha => ⟨(hI a ha).2, by rw [hS _ hP]; exact List.not_mem_nil⟩) (a₃.chg g₄ dlIS))
  | some d' =>
    have hlt : i < ds.length := (List.getElem?_eq_some_iff.mp hd).1
    have hmem : d' ∈ ds := List.mem_of_getElem? hd
    obtain ⟨σ₄, tg, hS₄, b, hb, h1, h2⟩ := turn d' hmem σ₃ hP
    refine wpAny_mono (T.item i m₃ s₃ d' hd st₃ I₃.amb.le hm₃) (fun r s₃' ⟨v, e, hgo⟩ => ?_) fun _ _ f => f.elim
    subst e
    refine wpAny_bind (wpAny_mono hgo (fun _ s₄ ⟨m₄, g₄, r₄, st₄⟩ => ?_) fun _ _ f => f.elim)
    have I₄ := I₃.chg g₄ fun a ha => ⟨(hI a ha).2, by rw [hS _ hP]; exact List.not_mem_nil⟩
    have a₄ := a₃.chg g₄ dlIS
    have g34 := g₃.thenI g₄ sI
    refine wpAny_bind (wpAny_mono (tg.it A m₄ s₄ v O I₄ r₄) (fun _ s₅ ⟨m₅, g₅, I₅⟩ => ?_) fun _ _ f => f.elim)
    rw [hS _ hP, List.append_nil] at g₅
    have g35 : GrowW (dl :: C.wr) m₀ s₀ m₅ s₅ := g34.trans g₅ fun a h => .inl (List.mem_cons_of_mem _ h)
    have a₅ := a₄.growW g₅ a₄.ap.wr
    have hfl₄ := T.flds _ _ _ st₄
    have keep : ∀ {W : List Addr} {m m' : Mem} {s s' : Shared} {j : Nat}, GrowW W m s m' s' → (∀ a ∈ IS, a ∉ W) → St j m s.heap → (∀ a ∈ IS, m a = none) → St j m' s'.heap ∧ ∀ a ∈ IS, m' a = none := fun {W mm mx ss sx j} g hw st hm => by
      have hfl := T.flds _ _ _ st
      refine ⟨T.frame _ _ _ _ _ st g.sub fun a ha o e => ?_, fun a ha => ?_⟩
      · obtain ⟨o', vs, e', d'⟩ := hfl a ha
        exact g.flds a o vs (hw a ha) e (by rw [e'] at e; cases e; exact d')
      · cases e : mx a with
        | none => rfl
        | some o =>
          rcases g.new a o e with h | h | h
          · rw [hm a ha] at h; cases h
          · exact absurd h (hw a ha)
          · obtain ⟨o', vs, e', _⟩ := hfl a ha
            rw [h] at e'; cases e'
    obtain ⟨st₅, hm₅⟩ := keep g₅ (fun a ha => (hI a ha).2.wr) st₄ g₄.mI
    refine wpAny_bind (wpAny_mono (hb A m₅ s₅ O I₅) (fun ok s₆ ⟨e, m₆, g₆⟩ => ?_) fun _ _ f => f.elim)
    subst e
    have I₆ := I₅.grow g₆
    have a₆ := a₅.grow g₆
    have g36 : GrowW (dl :: C.wr) m₀ s₀ m₆ s₆ := g35.trans (g₆.toW (dl :: C.wr)) fun a h => .inl h
    obtain ⟨st₆, hm₆⟩ := keep (g₆.toW []) (fun _ _ => List.not_mem_nil) st₅ hm₅
    have tk : (ds.take (i + 1)).flatMap f = (ds.take i).flatMap f ++ f d' := by
      rw [List.take_add_one, hd]; simp
    cases ok with
    | false =>
      refine wpAny_pure ⟨rfl, ds.length - (i + 1), by omega, i + 1, m₆, σ₄, hlt, rfl, hS₄, g36, I₆, ?_, hm₆, st₆⟩
      rw [tk, h2 rfl, List.append_nil]; exact a₆
    | true =>
      have hz : (L ++ (ds.take i).flatMap f).length + (f d').length ≤ sizeLine := by
        have e1 : (ds.take (i + 1)).flatMap f ++ (ds.drop (i + 1)).flatMap f = ds.flatMap f := by rw [← List.flatMap_append, List.take_append_drop]
        have e2 := congrArg List.length e1
        rw [tk] at e2
        simp only [List.length_append] at e2 ⊢
        omega
      refine wpAny_bind (wpAny_mono (h1 rfl A m₆ s₆ _ O I₆ a₆ hz) (fun _ s₇ ⟨m₇, σ₇, hS₇, g₇, I₇, a₇⟩ => ?_) fun _ _ f => f.elim)
      obtain ⟨st₇, hm₇⟩ := keep g₇ nIS st₆ hm₆
      refine wpAny_pure ⟨rfl, ds.length - (i + 1), by omega, i + 1, m₇, σ₇, hlt, rfl, hS₇, g36.trans g₇ fun _ h => .inl h, I₇, ?_, hm₇, st₇⟩
      rw [tk, ← List.append_assoc]; exact a₇
end
section
set_option linter.unusedVariables false
variable {prog : Program} {w : World} {h0 : Heap} {C : Cx} {k : Nat} {σ σ' : Sto} {R : Out → Prop}

section
variable {A : Around} {RR : Result → Shared → Prop} {s : Shared}
theorem compStart_two1 {elt t i t' i' : Expr} {ifs ifs' : List Expr} {scope : Scope} {pos : Pos} {it acc : Value} {env : Env}
    (h0 : codeAny (model prog w) A (.compLoop (.ListComp elt [⟨t, i, ifs, 0⟩, ⟨t', i', ifs', 0⟩] scope pos) 1 it acc env) RR s)
    (h : wpAny (model prog w) A (pyIter it) (fun it' s' => codeAny (model prog w) A (.compLoop (.ListComp elt [⟨t, i, ifs, 0⟩, ⟨t', i', ifs', 0⟩] scope pos) 1 it' acc env) RR s')
      (notedBy (model prog w) A env fun x s' => RR (.error x) s') s) :
    codeAny (model prog w) A (.compStart (.ListComp elt [⟨t, i, ifs, 0⟩, ⟨t', i', ifs', 0⟩] scope pos) 1 it acc env) RR s := by
  refine codeAny_of_tree ?_
  show wpAny _ _ ((compStart (.ListComp elt [⟨t, i, ifs, 0⟩, ⟨t', i', ifs', 0⟩] scope pos) 1 it acc env).onRaise (fun x => do noteFrame x env; standAt theWindowsPlace)) _ _ s
  refine wpAny_notedAt ?_
  unfold compStart
  show wpAny _ _ (ask >>= _) _ _ s
  refine wpAny_bind (wpAny_askSetting (wpAny_ite ?_))
  split
  · first
      | exact wpAny_bind (wpAny_pure (wpAny_pure (And.intro rfl h0)))
      | exact wpAny_pure (And.intro rfl h0)
  · first
      | exact wpAny_bind (wpAny_rule (wpAny_bind (wpAny_standAt (wpAny_bind (wpAny_mono h (fun it' s' h' => wpAny_pure (And.intro rfl h')) fun _ _ x => x)))))
      | (refine wpAny_bind (wpAny_rule ?_); show wpAny _ _ (standAt i'.pos >>= _) _ _ s; exact wpAny_bind (wpAny_standAt (wpAny_bind (wpAny_mono h (fun it' s' h' => wpAny_pure (And.intro rfl h')) fun _ _ x => x))))
end

/-- the second `for` of a comprehension -/
theorem Em.on {elt t i t' i' : Expr} {ifs ifs' : List Expr} {scope : Scope} {pos : Pos} {dl : Addr} {S : Sto → Prop} {ds : List D} (hS : ∀ σ, S σ → owns σ = []) (hσ : S σ) (hi : EvI prog w h0 C k σ t' i' ds) (f : D → List D)
    (turn : ∀ d ∈ ds, ∀ σ, S σ → ∃ σ', Tgt prog w h0 C k t' σ d σ' ∧ S σ' ∧ ∃ b, EvT prog w h0 C k σ' ifs' b ∧ (b = true → Em prog w h0 C k dl S σ' (emitLast elt (.ref dl) C.env) (f d)) ∧ (b = false → f d = []))
    (hs : ∀ v, foldedSetIterable i' C.env v = pure v := by intro _; rfl) :
    Em prog w h0 C k dl S σ (emitOn (.ListComp elt [⟨t, i, ifs, 0⟩, ⟨t', i', ifs', 0⟩] scope pos) 1 ⟨t', i', ifs', 0⟩ (.ref dl) C.env) (ds.flatMap f) := fun A m s L O I a hz => by
  unfold emitOn
  refine wpAny_bind (wpAny_mono (hi A m s O I) (fun x s₁ h => ?_) fun _ _ f => f.elim)
  refine wpAny_bind (wpAny_standAt (wpAny_bind (wpAny_of_eq (hs x) ?_)))
  refine wpAny_bind (wpAny_holding (wpAny_mono h (fun it s₂ ⟨IS, m₂, St, g₂, hIS, T, st₂⟩ => ?_) fun _ _ f => f.elim))
  refine wpAny_bind (wpAny_runOwn ?_)
  have I₂ := I.grow g₂
  have loop : codeAny (model prog w) A (.compLoop (.ListComp elt [⟨t, i, ifs, 0⟩, ⟨t', i', ifs', 0⟩] scope pos) 1 it (.ref dl) C.env)
      (fun r s' => match r with | .ok _ => wpAny (model prog w) A (pure ()) (fun _ s' => ∃ m' σ', S σ' ∧ GrowW (dl :: C.wr) m s m' s' ∧ Inv h0 C m' σ' s' ∧ Acc C dl (L ++ ds.flatMap f) m' s') (fun _ _ => False) s' | .error e => cameBackBy (model prog w) A C.env (fun _ _ => False) e s') s₂ :=
    em_loop turn_two1 hS f turn O T hz (fun b hb => ⟨(hIS b hb).2, I.ap (hIS b hb).2⟩) hσ (g₂.toW _) I₂ (a.grow g₂) (fun b hb => (hIS b hb).1) st₂
      fun m' σ' s' hS' g' J' a' => wpAny_pure ⟨m', σ', hS', g', J', a'⟩
  exact compStart_two1 loop (T.self 0 m₂ s₂ _ _ st₂ I₂.amb.le loop)

/-- the cells that a comprehension captures -/
noncomputable def closL (cells : List (Str × Addr)) : List (Str × NameKind) → List (Str × Addr) → List (Str × Addr)
  | [], acc => acc
  | (n, k) :: r, acc => if k == .free then closL cells r ((n, (cells.lookup n).getD 0) :: acc) else closL cells r acc
theorem closureFor_eq {scope : Scope} {env : Env} (h : ∀ p ∈ scope.names, p.2 = .free → ∃ c, env.cells.lookup p.1 = some c) : closureFor scope env = pure (closL env.cells scope.names []) := by
  unfold closureFor
  have key : ∀ (l : List (Str × NameKind)) (acc : List (Str × Addr)), (∀ p ∈ l, p.2 = .free → ∃ c, env.cells.lookup p.1 = some c) →
      (forIn l acc fun (x : Str × NameKind) (r : List (Str × Addr)) => (if (x.2 == NameKind.free) = true then do let a ← cellOf env x.1; pure (ForInStep.yield ((x.1, a) :: r)) else pure (ForInStep.yield r) : Sem (ForInStep (List (Str × Addr))))) = pure (closL env.cells l acc) := by
    intro l
    induction l with
    | nil => intro acc _; rfl
    | cons p r ih =>
      obtain ⟨n, kd⟩ := p
      intro acc h
      rw [List.forIn_cons, closL]
      by_cases q : (kd == NameKind.free) = true
      · obtain ⟨c, hc⟩ := h (n, kd) (.head _) (by simpa using q)
        rw [if_pos q, if_pos q]
        have : cellOf env n = pure c := by unfold cellOf; rw [show env.cells.lookup n = some c from hc]
        rw [this]
        simp only [pure_bind]
        rw [ih _ fun p hp => h p (.tail _ hp), show env.cells.lookup n = some c from hc]; rfl
      · rw [if_neg q, if_neg q]
        simp only [pure_bind]
        exact ih _ fun p hp => h p (.tail _ hp)
  have := key scope.names [] h
  simp only [bind_pure]
  exact this
theorem closL_mem {cells : List (Str × Addr)} : ∀ {l : List (Str × NameKind)} {acc : List (Str × Addr)} {x : Str} {c : Addr}, (x, c) ∈ closL cells l acc → (x, c) ∈ acc ∨ ((x, NameKind.free) ∈ l ∧ c = (cells.lookup x).getD 0)
  | [], _, _, _, h => .inl h
  | (n, kd) :: r, acc, x, c, h => by
    rw [closL] at h
    split at h
    · rename_i q
      rcases closL_mem h with h | ⟨h, e⟩
      · rcases List.mem_cons.mp h with e | h
        · cases e; exact .inr ⟨by rw [eq_of_beq q]; exact .head _, rfl⟩
        · exact .inl h
      · exact .inr ⟨.tail _ h, e⟩
    · exact (closL_mem h).imp id fun ⟨h, e⟩ => ⟨.tail _ h, e⟩
theorem closL_acc {cells : List (Str × Addr)} {x : Str} {c : Addr} : ∀ {l : List (Str × NameKind)} {acc : List (Str × Addr)}, (x, NameKind.free) ∉ l → (closL cells l acc).lookup x = acc.lookup x
  | [], _, _ => rfl
  | (n, kd) :: r, acc, h => by
    rw [closL]
    rw [List.mem_cons, not_or] at h
    split
    · rename_i q
      rw [closL_acc (c := c) h.2, List.lookup_cons]
      have hne : (x == n) = false := by
        cases e : x == n with
        | false => rfl
        | true => exact absurd (by rw [eq_of_beq e, eq_of_beq q]) h.1
      rw [hne]
    · exact closL_acc (c := c) h.2
theorem closL_lookup {cells : List (Str × Addr)} {x : Str} {c : Addr} (hc : cells.lookup x = some c) : ∀ {l : List (Str × NameKind)} {acc : List (Str × Addr)}, (x, NameKind.free) ∈ l → (closL cells l acc).lookup x = some c
  | (n, kd) :: r, acc, h => by
    rw [closL]
    by_cases hr : (x, NameKind.free) ∈ r
    · split <;> exact closL_lookup hc hr
    · rcases List.mem_cons.mp h with e | h
      · cases e
        rw [if_pos (by decide), closL_acc (c := c) hr, List.lookup_cons, beq_self_eq_true, hc]; rfl
      · exact absurd h hr
theorem cellsFrom_app : ∀ (names : List (Str × NameKind)) (n : Nat) (acc : List (Str × Addr)), cellsFrom n names acc = cellsFrom n names [] ++ acc
  | [], _, _ => rfl
  | (x, kd) :: r, n, acc => by
    unfold cellsFrom
    split
    · rw [cellsFrom_app r (n + 1) ((x, n) :: acc), cellsFrom_app r (n + 1) [(x, n)]]; simp
    · exact cellsFrom_app r n acc
theorem cellsFrom_kind : ∀ {names : List (Str × NameKind)} {n : Nat} {acc : List (Str × Addr)} {x : Str} {c : Addr}, (x, c) ∈ cellsFrom n names acc → (x, c) ∈ acc ∨ (x, NameKind.cell) ∈ names
  | [], _, _, _, _, h => .inl h
  | (y, kd) :: r, n, acc, x, c, h => by
    unfold cellsFrom at h
    split at h
    · rename_i q
      rcases cellsFrom_kind h with h | h
      · rcases List.mem_cons.mp h with e | h
        · cases e; exact .inr (by rw [eq_of_beq q]; exact .head _)
        · exact .inl h
      · exact .inr (.tail _ h)
    · exact (cellsFrom_kind h).imp id fun h => .tail _ h
theorem lookup_append {l l' : List (Str × Addr)} {x : Str} : (l ++ l').lookup x = (l.lookup x).or (l'.lookup x) := by
  induction l with
  | nil => rfl
  | cons p r ih =>
    obtain ⟨n, c⟩ := p
    rw [List.cons_append, List.lookup_cons, List.lookup_cons, ih]
    split <;> rfl

/-- a comprehension's own names -/
structure InCx (C C' : Cx) (scope : Scope) : Prop where
  scope : C'.env.scope = relabel scope C.env
  globals : C'.env.globals = C.env.globals
  builtins : C'.env.builtins = C.env.builtins
  frs : C'.frs = C.frs
theorem lookup_relabel {names : List (Str × NameKind)} {env : Env} {x : Str} : ∀ {kd : NameKind}, names.lookup x = some kd →
    (names.map fun (n, k) => if (k == NameKind.free && env.scope.kind == .function && env.kindOf n == some .cell) then (n, NameKind.cell) else (n, k)).lookup x = some kd ∨
    (kd = .free ∧ (names.map fun (n, k) => if (k == NameKind.free && env.scope.kind == .function && env.kindOf n == some .cell) then (n, NameKind.cell) else (n, k)).lookup x = some .cell) := by
  induction names with
  | nil => intro kd h; cases h
  | cons p r ih =>
    obtain ⟨n, kk⟩ := p
    intro kd h
    rw [List.lookup_cons] at h
    rw [List.map_cons]
    dsimp only
    cases q : x == n with
    | true =>
      rw [q] at h; cases h
      split
      · rename_i hc
        rw [Bool.and_eq_true, Bool.and_eq_true] at hc
        exact .inr ⟨eq_of_beq hc.1.1, by rw [List.lookup_cons, q]⟩
      · exact .inl (by rw [List.lookup_cons, q])
    | false =>
      rw [q] at h
      have := ih h
      split <;> (rw [List.lookup_cons, q]; exact this)
theorem InCx.kind {C C' : Cx} {scope : Scope} {x : Str} {kd : NameKind} (h : InCx C C' scope) (hk : scope.names.lookup x = some kd) (hn : (kd == .free) = false) : C'.env.kindOf x = some kd := by
  show C'.env.scope.names.lookup x = _
  rw [h.scope]
  rcases lookup_relabel (env := C.env) hk with e | ⟨e, _⟩
  · exact e
  · rw [e] at hn; cases hn
theorem InCx.free {C C' : Cx} {scope : Scope} {x : Str} (h : InCx C C' scope) (hk : scope.names.lookup x = some .free) : C'.env.kindOf x = some .cell ∨ C'.env.kindOf x = some .free := by
  show C'.env.scope.names.lookup x = _ ∨ C'.env.scope.names.lookup x = _
  rw [h.scope]
  rcases lookup_relabel (env := C.env) hk with e | ⟨_, e⟩
  · exact .inr e
  · exact .inl e
theorem InCx.notLocal {C C' : Cx} {scope : Scope} {x : Str} (h : InCx C C' scope) (hk : scope.names.lookup x = some .free ∨ scope.names.lookup x = some .cell) : C'.env.kindOf x ≠ some .local := by
  rcases hk with hk | hk
  · rcases h.free hk with e | e <;> (rw [e]; decide)
  · rw [h.kind hk rfl]; decide
end
section
set_option linter.unusedVariables false
variable {prog : Program} {w : World} {h0 : Heap} {C : Cx} {k : Nat} {σ σ' : Sto} {R : Out → Prop}

noncomputable def dbg (x : Str) : Bool := x == ("__debug__" : Str) || (x == ("__classdict__" : Str) || x == theRefusalsKey)
noncomputable def compOk (scope : Scope) (tgts caps : List Str) : Bool :=
  scope.kind == .function && decide (scope.names.map (·.1)).Nodup && decide (tgts ++ caps).Nodup && tgts.all (fun x => !dbg x && (scope.names.lookup x == some .local || scope.names.lookup x == some .cell)) &&
  caps.all (fun x => !dbg x && scope.names.lookup x == some .free) && scope.names.all fun p => !(p.2 == .free) || caps.contains p.1
/-- the names of a comprehension at its start -/
noncomputable def cst (tgts : List Str) (cd : List (Str × D)) : Sto := tgts.map (fun x => (x, Sl.un)) ++ cd.map fun p => (p.1, Sl.ro p.2)
theorem cst_keys (tgts : List Str) (cd : List (Str × D)) : (cst tgts cd).map (·.1) = tgts ++ cd.map (·.1) := by
  simp [cst, Function.comp_def]
theorem cst_mem {tgts : List Str} {cd : List (Str × D)} {x : Str} {sl : Sl} (h : (x, sl) ∈ cst tgts cd) : (x ∈ tgts ∧ sl = .un) ∨ ∃ d, (x, d) ∈ cd ∧ sl = .ro d := by
  rcases List.mem_append.mp h with h | h
  · obtain ⟨y, hy, e⟩ := List.mem_map.mp h
    cases e; exact .inl ⟨hy, rfl⟩
  · obtain ⟨⟨y, d⟩, hy, e⟩ := List.mem_map.mp h
    cases e; exact .inr ⟨d, hy, rfl⟩
theorem cst_owns (tgts : List Str) (cd : List (Str × D)) : owns (cst tgts cd) = [] := by
  cases q : owns (cst tgts cd) with
  | nil => rfl
  | cons a r =>
    obtain ⟨x, l, hm⟩ := owns_get (q ▸ List.mem_cons_self : a ∈ owns (cst tgts cd))
    rcases cst_mem hm with ⟨_, e⟩ | ⟨d, _, e⟩ <;> cases e
theorem lookup_nodup {names : List (Str × NameKind)} {x : Str} {kd : NameKind} (nd : (names.map (·.1)).Nodup) (h : (x, kd) ∈ names) : names.lookup x = some kd := by
  induction names with
  | nil => cases h
  | cons p r ih =>
    obtain ⟨n, kk⟩ := p
    rw [List.map_cons, List.nodup_cons] at nd
    rcases List.mem_cons.mp h with e | h
    · cases e; simp
    · have hne : x ≠ n := fun e => nd.1 (e ▸ List.mem_map.mpr ⟨(x, kd), h, rfl⟩)
      rw [List.lookup_cons, beq_eq_false_iff_ne.mpr hne]
      exact ih nd.2 h
theorem mem_lookup {names : List (Str × NameKind)} {x : Str} {kd : NameKind} (h : names.lookup x = some kd) : (x, kd) ∈ names := by
  induction names with
  | nil => cases h
  | cons p r ih =>
    obtain ⟨n, kk⟩ := p
    rw [List.lookup_cons] at h
    cases q : x == n with
    | true => rw [q] at h; cases h; rw [eq_of_beq q]; exact .head _
    | false => rw [q] at h; exact .tail _ (ih h)

theorem wpAny_newEnv_comp {M : Model} {A : Around} {E : Value → Shared → Prop} {s : Shared} {scope : Scope} {globals : Addr} {cl : List (Str × Addr)} {qual : Str} {env : Env} {Q : Env → Shared → Prop}
    (h : Q { scope, locals := s.heap.objs.size, globals, cells := cellsFrom (s.heap.objs.size + 1) scope.names cl, qual, func := none, code := env.code, frame := env.frame, builtins := env.builtins }
      { s with heap := pushCells (s.heap.push { cls := .type "dict", data := .dict #[] }) scope.names }) : wpAny M A (newFunctionEnv scope globals cl [] qual none .none (some env)) Q E s := by
  simp only [newFunctionEnv, Option.isSome_some, if_true]
  refine wpAny_bind (wpAny_alloc ?_)
  refine wpAny_bind (wpAny_layCells _ (fun name kind cells => by cases h : kind == NameKind.cell <;> simp [h]) _ _ _ _ ?_)
  rw [show ({ s with heap := s.heap.push { cls := .type "dict", data := .dict #[] } } : Shared).heap.objs.size = s.heap.objs.size + 1 from Heap.size_push ..]
  refine wpAny_bind ?_
  rw [List.forIn_nil]
  exact wpAny_pure (wpAny_pure h)

theorem comp_core {elt t iter : Expr} {ifs : List Expr} {rest : List Comprehension} {scope : Scope} {pos : Pos} {tgts : List Str} {cd : List (Str × D)} {ds : List D} {f : D → List D} {emit : Cx → Addr → Sem Unit} (S : Sto → Prop)
    (hS : ∀ σ, S σ → owns σ = []) (hS0 : S (cst tgts cd)) (ok : compOk scope tgts (cd.map (·.1)) = true)
    (hcap : ∀ x d, (x, d) ∈ cd → ((x, Sl.dat d) ∈ σ ∨ (x, Sl.ro d) ∈ σ) ∧ C.env.kindOf x ≠ some .local)
    (ht : ∀ (it : Value) (dl : Addr) (C' : Cx), compTurn (.ListComp elt (⟨t, iter, ifs, 0⟩ :: rest) scope pos) 0 it (.ref dl) C'.env = turnOf (.ListComp elt (⟨t, iter, ifs, 0⟩ :: rest) scope pos) 0 it (.ref dl) C'.env ⟨t, iter, ifs, 0⟩ (emit C' dl))
    (hi : EvI prog w h0 C k σ t iter ds)
    (turn : ∀ C', InCx C C' scope → ∀ dl, ∀ d ∈ ds, ∀ σ, S σ → ∃ σ', Tgt prog w h0 C' k t σ d σ' ∧ S σ' ∧ ∃ b, EvT prog w h0 C' k σ' ifs b ∧ (b = true → Em prog w h0 C' k dl S σ' (emit C' dl) (f d)) ∧ (b = false → f d = []))
    (hsz : (ds.flatMap f).length ≤ sizeLine) {A : Around} {m : Mem} {s : Shared} (O : Ok C.frs k A) (I : Inv h0 C m σ s) {E : Value → Shared → Prop} :
    (∀ x ∈ scope.names, x.2 = .local → scope.names.lookup x.1 = some .local) ∧ scope.kind = .function ∧ ∃ cl, closureFor scope C.env = pure cl ∧ ∀ RR : Value → Addr → Result → Shared → Prop,
      (∀ dl L s' m', Grow m s m' s' → Rd m' (.lst (ds.flatMap f)) (.ref dl) → s.heap.get? L = none → m' L = none → (∃ F, s'.heap.Ns L F) → RR (.ref dl) L (.ok .next) s') →
      wpAny (model prog w) A (eval iter C.env) (fun x s₁ => wpAny (model prog w) A (pyIter x) (fun it s₂ => wpAny (model prog w) A (newList []) (fun acc s₃ =>
        wpAny (model prog w) A (newFunctionEnv scope C.env.globals cl [] C.env.qual none .none (some C.env)) (fun cenv s₄ =>
          codeAny (model prog w) A (.compStart (.ListComp elt (⟨t, iter, ifs, 0⟩ :: rest) scope pos) 0 it acc { cenv with scope := relabel scope C.env }) (RR acc cenv.locals) s₄) E s₃) E s₂) E s₁) E s := by
  simp only [compOk, Bool.and_eq_true, List.all_eq_true, Bool.not_eq_true', decide_eq_true_eq, Bool.or_eq_true, beq_iff_eq, dbg, Bool.or_eq_false_iff] at ok
  obtain ⟨⟨⟨⟨⟨hk, ndn⟩, ndk⟩, htg⟩, hcp⟩, hfr⟩ := ok
  have loc : ∀ x d, (x, d) ∈ cd → ∃ v c, C.env.cells.lookup x = some c ∧ s.heap.IsCell c (some v) ∧ Rd m d v := fun x d hx => by
    obtain ⟨h1, h2⟩ := hcap x d hx
    obtain ⟨v, l, r⟩ := I.dat x d h1
    rcases l with ⟨e, _⟩ | ⟨_, c, e, ic⟩
    · exact absurd e h2
    · exact ⟨v, c, e, ic, r⟩
  have hfree : ∀ p ∈ scope.names, p.2 = .free → ∃ c, C.env.cells.lookup p.1 = some c := fun p hp e => by
    rcases hfr p hp with h | h
    · rw [e] at h; cases h
    · rw [List.contains_eq_mem, decide_eq_true_eq] at h
      obtain ⟨⟨x, d⟩, hx, e'⟩ := List.mem_map.mp h
      obtain ⟨v, c, hc, _⟩ := loc x d hx
      exact ⟨c, by rw [← e']; exact hc⟩
  refine ⟨fun x hx hl => lookup_nodup ndn (by obtain ⟨a, b⟩ := x; cases hl; exact hx), hk, _, closureFor_eq hfree, fun RR fin => ?_⟩
  generalize hcl : closL C.env.cells scope.names [] = cl
  have clm : ∀ x c, (x, c) ∈ cl → C.env.cells.lookup x = some c := fun x c h => by
    rw [← hcl] at h
    rcases closL_mem h with h | ⟨h, e⟩
    · cases h
    · obtain ⟨c', hc'⟩ := hfree (x, .free) h rfl
      have hc'' : C.env.cells.lookup x = some c' := hc'
      rw [e, hc'']; rfl
  refine wpAny_noE (wpAny_mono (hi A m s O I) (fun x s₁ h => wpAny_noE (wpAny_mono h (fun it s₂ ⟨IS, m₂, St, g₂, hIS, T, st₂⟩ => ?_) fun _ _ f => f)) fun _ _ f => f.elim)
  have I₂ := I.grow g₂
  refine wpAny_newList ?_
  let s₃ : Shared := { s₂ with heap := s₂.heap.push { cls := .type "list", data := .seq ([] : List Value).toArray } }
  refine wpAny_newEnv_comp (s := s₃) ?_
  have g₃ : Grow m s m₂ s₃ := g₂.push _
  have I₃ : Inv h0 C m₂ σ s₃ := I.grow g₃
  let L := s₃.heap.objs.size
  have hdl : s₂.heap.objs.size < L := by show _ < (s₂.heap.push _).objs.size; rw [Heap.size_push]; exact Nat.lt_succ_self _
  have nL : s₃.heap.get? L = none := get_size_none _
  let own := cellsFrom (L + 1) scope.names []
  have okc := cellsFrom_ok scope.names (s₃.heap.push { cls := .type "dict", data := .dict #[] }) (L + 1) [] ⟨fun _ _ hm => (nomatch hm), List.Pairwise.nil⟩ (by rw [Heap.size_push]; exact Nat.le_refl _)
  rw [Heap.size_push] at okc
  let h₄ : Heap := pushCells (s₃.heap.push { cls := .type "dict", data := .dict #[] }) scope.names
  let s₄ : Shared := { s₃ with heap := h₄ }
  have keep : ∀ b o, s₃.heap.get? b = some o → h₄.get? b = some o := fun b o e => pushCells_keeps _ _ b o (Heap.get?_push_of_some _ e)
  have g₄ : Grow m₂ s₃ m₂ s₄ := ⟨Sub.refl _, fun b o e => keep b o (I₃.amb.le b o e), fun _ _ e => .inl e, Kept.of keep, fun b o vs e _ => keep b o e, rfl, rfl, Nat.le_refl _⟩
  have hns : h₄.Ns L fun _ => none := (Heap.Ns.new s₃.heap (.type "dict")).keeps (pushCells_keeps _ _)
  have owncell : ∀ x c, (x, c) ∈ own → h₄.IsCell c none ∧ L + 1 ≤ c := fun x c hm => okc.empty x c hm
  let C' : Cx := { env := { scope := relabel scope C.env, locals := L, globals := C.env.globals, cells := own ++ cl, qual := C.env.qual, func := none, code := C.env.code, frame := C.env.frame, builtins := C.env.builtins }, frs := C.frs, wr := L :: own.map (·.2), ent := s.heap }
  have hC : InCx C C' scope := ⟨rfl, rfl, rfl, rfl⟩
  have fresh : ∀ a ∈ C'.wr, s₃.heap.get? a = none := fun a ha => by
    rcases List.mem_cons.mp ha with rfl | ha
    · exact nL
    · obtain ⟨p, hp, rfl⟩ := List.mem_map.mp ha
      exact Heap.get?_none_of_le (Nat.le_of_lt (owncell p.1 p.2 hp).2)
  have ownkind : ∀ x c, (x, c) ∈ own → (x, NameKind.cell) ∈ scope.names := fun x c hm => (cellsFrom_kind hm).elim (fun h => nomatch h) id
  have capfree : ∀ x d, (x, d) ∈ cd → scope.names.lookup x = some .free := fun x d hx => (hcp x (List.mem_map.mpr ⟨_, hx, rfl⟩)).2
  have nLown : L ∉ own.map (·.2) := fun q => by
    obtain ⟨p, hp, e⟩ := List.mem_map.mp q
    have := (owncell p.1 p.2 hp).2
    rw [e] at this; exact Nat.lt_irrefl _ this
  have fresh0 : ∀ a ∈ C'.wr, s.heap.get? a = none := fun a ha => none_back g₃.kept (fresh a ha)
  have look : ∀ x c, (own ++ cl).lookup x = some c → (x, c) ∈ own ∨ ((x, c) ∈ cl ∧ C.env.cells.lookup x = some c) := fun x c h => by
    rcases List.mem_append.mp (mem_of_lookup h) with h | h
    · exact .inl h
    · exact .inr ⟨h, clm x c h⟩
  have lookcap : ∀ x d c, (x, d) ∈ cd → C.env.cells.lookup x = some c → (own ++ cl).lookup x = some c := fun x d c hx hc => by
    have hf := mem_lookup (capfree x d hx)
    have hno : own.lookup x = none := by
      cases e : own.lookup x with
      | none => rfl
      | some c' =>
        have := lookup_nodup ndn (ownkind x c' (mem_of_lookup e))
        rw [capfree x d hx] at this; cases this
    rw [lookup_append, hno, Option.none_or, ← hcl]
    exact closL_lookup hc hf
  have ap₃ : ∀ c x, C.env.cells.lookup x = some c → ∃ o, s₃.heap.get? c = some o := fun c x e => by
    obtain ⟨v, o, e', _⟩ := I₃.cells x c e
    exact ⟨o, e'⟩
  have nowr : ∀ x c, (x, c) ∈ own → s₃.heap.get? c = none := fun x c h => fresh c (List.mem_cons_of_mem _ (List.mem_map.mpr ⟨_, h, rfl⟩))
  have J : Inv h0 C' m₂ (cst tgts cd) s₄ :=
    { amb := I₃.amb.grow g₄
      frm := {
        fn := hk
        nodup := (by rw [cst_keys]; exact ndk)
        nodbg := fun x hx => by
          rw [cst_keys] at hx
          rcases List.mem_append.mp hx with h | h
          · exact (htg x h).1.1
          · exact (hcp x h).1.1
        nkey := fun x hx => by
          rw [cst_keys] at hx
          rcases List.mem_append.mp hx with h | h
          · exact ne_of_beq_false (htg x h).1.2.2
          · exact ne_of_beq_false (hcp x h).1.2.2
        est := let ⟨_, ⟨o, _, _, e, _⟩, _⟩ := I.amb.lim; ⟨o, e⟩
        loc := .head _
        nd := List.nodup_cons.mpr ⟨nLown, List.pairwise_map.mpr okc.apart⟩
        capart := fun x y c e e' => by
          rcases look x c e with h | ⟨h, hx⟩ <;> rcases look y c e' with h' | ⟨h', hy⟩
          · exact name_of_addr okc.apart h h'
          · obtain ⟨o, q⟩ := ap₃ c y hy
            rw [nowr x c h] at q; cases q
          · obtain ⟨o, q⟩ := ap₃ c x hx
            rw [nowr y c h'] at q; cases q
          · exact I.frm.capart x y c hx hy
        cloc := fun x e => by
          rcases look x L e with h | ⟨h, hx⟩
          · exact absurd (owncell x L h).2 (Nat.not_succ_le_self _)
          · obtain ⟨o, q⟩ := ap₃ L x hx
            rw [nL] at q; cases q
        frs := fun env he L' hL => by
          obtain ⟨_, o, ho, _⟩ := I.amb.frames.mem (List.mem_filterMap.mpr ⟨env, he, hL⟩)
          exact .inr ⟨o, ho⟩ }
      wrt := fun x sl hm => by
        rcases cst_mem hm with ⟨hx, rfl⟩ | ⟨d, _, rfl⟩
        · right
          rcases (htg x hx).2 with h | h
          · exact .inl (hC.kind h rfl)
          · refine .inr ⟨hC.kind h rfl, ?_⟩
            have := PySem.W.cellsFrom_some scope.names (L + 1) [] (.inl h)
            obtain ⟨c, hc⟩ := Option.isSome_iff_exists.mp this
            exact ⟨c, by show (own ++ cl).lookup x = _; rw [lookup_append, show own.lookup x = _ from hc]; rfl, List.mem_cons_of_mem _ (List.mem_map.mpr ⟨_, mem_of_lookup hc, rfl⟩)⟩
        · exact .inl ⟨d, rfl⟩
      ns := ⟨_, hns⟩
      cells := fun x c e => by
        rcases look x c e with h | ⟨h, hx⟩
        · exact ⟨_, (owncell x c h).1⟩
        · obtain ⟨v, ic⟩ := I₃.cells x c hx
          exact ⟨v, cell_up (g₄.kept _) ic⟩
      dat := fun x d hm => by
        have hm' : (x, d) ∈ cd := by
          rcases hm with h | h
          · rcases cst_mem h with ⟨_, e⟩ | ⟨d', _, e⟩ <;> cases e
          · rcases cst_mem h with ⟨_, e⟩ | ⟨d', h', e⟩
            · cases e
            · cases e; exact h'
        obtain ⟨v, c, hc, ic, r⟩ := loc x d hm'
        have hcd : (x == ("__classdict__" : Str)) = false := (hcp x (List.mem_map.mpr ⟨_, hm', rfl⟩)).1.2.1
        exact ⟨v, .inr ⟨(hC.free (capfree x d hm')).imp id fun e => ⟨e, hcd⟩, c, lookcap x d c hm' hc, cell_up (g₄.kept _) (cell_up (g₃.kept _) ic)⟩, r.mono g₃.sub⟩
      own := fun x a l hm => by rcases cst_mem hm with ⟨_, e⟩ | ⟨d, _, e⟩ <;> cases e
      wr := fun a ha => by
        rw [cst_owns, List.append_nil] at ha
        exact ⟨fresh_none I₃.amb.le (fresh a ha), fresh0 a ha⟩
      std := fun a ha => by
        rw [cst_owns, List.append_nil] at ha
        rcases List.mem_cons.mp ha with rfl | ha
        · obtain ⟨o, _, _, e, _⟩ := hns; exact ⟨o, e⟩
        · obtain ⟨p, hp, rfl⟩ := List.mem_map.mp ha
          obtain ⟨o, e, _⟩ := (owncell p.1 p.2 hp).1
          exact ⟨o, e⟩
      ent := fun a o e => (let ⟨_, e', _⟩ := g₃.kept a o e; let ⟨_, e'', _⟩ := g₄.kept a _ e'; ⟨_, e''⟩)
      apart := by
        rw [cst_owns, List.append_nil]
        exact List.nodup_cons.mpr ⟨nLown, List.pairwise_map.mpr okc.apart⟩ }
  have sdl : s₂.heap.get? s₂.heap.objs.size = none := get_size_none _
  have e₃dl : s₃.heap.get? s₂.heap.objs.size = some { cls := .type "list", data := .seq ([] : List Value).toArray } := Heap.get?_push_size _ rfl
  have sdl0 : s.heap.get? s₂.heap.objs.size = none := none_back g₂.kept sdl
  have acc : Acc C' s₂.heap.objs.size [] m₂ s₄ := {
    ap := {
      loc := Nat.ne_of_gt hdl
      cells := fun x c e => by
        rcases look x c e with h | ⟨h, hx⟩
        · exact Nat.ne_of_gt (Nat.lt_trans hdl (owncell x c h).2)
        · obtain ⟨v, o, e', _⟩ := I₂.cells x c hx
          exact Nat.ne_of_lt (Heap.lt_size e')
      frs := fun env he L' hL => by
        obtain ⟨_, o, ho, _⟩ := I₂.amb.frames.mem (List.mem_filterMap.mpr ⟨env, he, hL⟩)
        exact Nat.ne_of_lt (Heap.lt_size ho)
      ent := sdl0
      wr := fun q => by rw [fresh _ q] at e₃dl; cases e₃dl }
    mem := fresh_none I₂.amb.le sdl
    it := ⟨[], ⟨_, 0, keep _ _ e₃dl, rfl, rfl, rfl⟩, rfl⟩ }
  have apI : ∀ a ∈ IS, Ap C' a := fun a ha => {
      loc := fun q => by
        have := T.flds 0 m₂ _ st₂ a ha
        obtain ⟨o, vs, e, _⟩ := this
        have := Heap.lt_size e
        have q' : L = a := q
        rw [← q'] at this
        exact absurd (Nat.lt_trans this hdl) (Nat.lt_irrefl _)
      cells := fun x c e q => by
        obtain ⟨o, vs, e', _⟩ := T.flds 0 m₂ _ st₂ a ha
        rcases look x c e with h | ⟨h, hx⟩
        · have h1 := Heap.lt_size e'
          have h2 := (owncell x c h).2
          rw [q] at h2
          exact absurd (Nat.lt_trans (Nat.lt_trans h1 hdl) h2) (Nat.lt_irrefl _)
        · obtain ⟨v, ic⟩ := I.cells x c hx
          obtain ⟨o', e'', _⟩ := ic
          rw [q, (hIS a ha).2] at e''; cases e''
      frs := fun env he L' hL q => by
        obtain ⟨_, o, ho, _⟩ := I.amb.frames.mem (List.mem_filterMap.mpr ⟨env, he, hL⟩)
        rw [q, (hIS a ha).2] at ho; cases ho
      ent := (hIS a ha).2
      wr := fun q => by
        obtain ⟨o, vs, e', _⟩ := T.flds 0 m₂ _ st₂ a ha
        have := fresh a q
        rw [Heap.get?_push_of_some _ e'] at this; cases this }
  have stn : St 0 m₂ h₄ := T.frame 0 m₂ _ m₂ h₄ st₂ (Sub.refl _) fun a ha o e => keep a o (Heap.get?_push_of_some _ e)
  have g04 : Grow m s m₂ s₄ := g₃.trans g₄
  have loop : codeAny (model prog w) A (.compLoop (.ListComp elt (⟨t, iter, ifs, 0⟩ :: rest) scope pos) 0 it (.ref s₂.heap.objs.size) C'.env) (RR (.ref s₂.heap.objs.size) L) s₄ := by
    refine em_loop (C := C') (k := k) (ht it _ C') hS f (turn C' hC s₂.heap.objs.size) O T (by simpa using hsz) (fun b hb => ⟨(hIS b hb).2, apI b hb⟩) hS0 (g04.toW _) J acc (fun b hb => (hIS b hb).1) stn fun m' σ' s' hS' g' J' a' => ?_
    obtain ⟨vs, ⟨o, n, eo, hc, hd, hs⟩, rl⟩ := a'.it
    have gf : Grow m s m' s' := (Grow.refl I.amb.le).fresh g' fun b hb => by
      rcases List.mem_cons.mp hb with rfl | hb
      · exact sdl0
      · exact fresh0 b hb
    have sub : Sub m' (m'.put s₂.heap.objs.size o) := Mem.put_sub a'.mem
    have nLdl : L ≠ s₂.heap.objs.size := Nat.ne_of_gt hdl
    refine fin s₂.heap.objs.size L s' (m'.put s₂.heap.objs.size o) ⟨gf.sub.trans sub, fun b o' e => ?_, fun b o' e => ?_, gf.kept, gf.flds, gf.gens, gf.os, gf.tk⟩ ⟨_, vs, rfl, ⟨o, n, Mem.put_self .., hc, hd, hs⟩, rl.mono sub⟩ (fresh0 L (.head _)) ?_ J'.ns
    · unfold Mem.put at e
      by_cases q : b = s₂.heap.objs.size
      · subst q; rw [if_pos rfl] at e; cases e; exact eo
      · rw [if_neg q] at e; exact gf.le b o' e
    · unfold Mem.put at e
      by_cases q : b = s₂.heap.objs.size
      · subst q; exact .inr sdl0
      · rw [if_neg q] at e; exact gf.new b o' e
    · unfold Mem.put; rw [if_neg nLdl]; exact (J'.wr L (List.mem_append_left _ (.head _))).1
  have hcells : cellsFrom (s₃.heap.objs.size + 1) scope.names cl = own ++ cl := cellsFrom_app _ _ _
  rw [hcells]
  exact codeAny_compStart_list loop (T.self 0 m₂ s₄ _ _ stn J.amb.le loop)
end
section
set_option linter.unusedVariables false
variable {prog : Program} {w : World} {h0 : Heap} {C : Cx} {k : Nat} {σ σ' : Sto} {R : Out → Prop}

theorem Ev.comp {elt t iter : Expr} {ifs : List Expr} {rest : List Comprehension} {scope : Scope} {pos : Pos} (tgts : List Str) (cd : List (Str × D)) {ds : List D} {f : D → List D} {emit : Cx → Addr → Sem Unit} (S : Sto → Prop)
    (hS : ∀ σ, S σ → owns σ = []) (hS0 : S (cst tgts cd)) (ok : compOk scope tgts (cd.map (·.1)) = true)
    (hcap : ∀ x d, (x, d) ∈ cd → ((x, Sl.dat d) ∈ σ ∨ (x, Sl.ro d) ∈ σ) ∧ C.env.kindOf x ≠ some .local)
    (ht : ∀ (it : Value) (dl : Addr) (C' : Cx), compTurn (.ListComp elt (⟨t, iter, ifs, 0⟩ :: rest) scope pos) 0 it (.ref dl) C'.env = turnOf (.ListComp elt (⟨t, iter, ifs, 0⟩ :: rest) scope pos) 0 it (.ref dl) C'.env ⟨t, iter, ifs, 0⟩ (emit C' dl))
    (hi : EvI prog w h0 C k σ t iter ds)
    (turn : ∀ C', InCx C C' scope → ∀ dl, ∀ d ∈ ds, ∀ σ, S σ → ∃ σ', Tgt prog w h0 C' k t σ d σ' ∧ S σ' ∧ ∃ b, EvT prog w h0 C' k σ' ifs b ∧ (b = true → Em prog w h0 C' k dl S σ' (emit C' dl) (f d)) ∧ (b = false → f d = []))
    (hsz : (ds.flatMap f).length ≤ sizeLine) (hs : ∀ x, foldedSetIterable iter C.env x = pure x := by intro _; rfl) :
    Ev prog w h0 C k σ (.ListComp elt (⟨t, iter, ifs, 0⟩ :: rest) scope pos) (.lst (ds.flatMap f)) := fun A m s O I => by
  obtain ⟨hn, hk, cl, hcl, key⟩ := comp_core S hS hS0 ok hcap ht hi turn hsz O I (E := fun _ _ => False)
  show wpAny _ A (eval _ _) _ _ _
  rw [eval_ListComp]
  refine wpAny_comprehension_free (use := Option.none) rfl hs hcl hk hn (key (fun acc L => compPost (model prog w) A (fun _ _ => False) Option.none _ acc L) fun dl L s' m' g r z mz ns => ?_)
  obtain ⟨F, hF⟩ := ns
  exact ⟨F, hF, fun h' hs' => ⟨m', g.changeE hs'.extBut z mz, r⟩⟩

theorem swapsWith_true {elt : Expr} {gens : List Comprehension} {scope : Scope} {pos py : Pos} {y : Str} {n : Nat} {env : Env} (hb : env.blockKind = .function) (hy : env.kindOf y = some .local) (hl : (py.line == pos.line) = true)
    (hn : (scope.names.any fun (n, k) => n == y && (k == .local || k == .cell)) = false) : swapsWith (.ListComp elt gens scope pos) (some (.Name y py)) n env = pure true := by
  show (pure (env.blockKind == .function && env.kindOf y == some .local && py.line == pos.line && !(scope.names.any fun (n, k) => n == y && (k == .local || k == .cell))) : Sem Bool) = _
  rw [hb, hy, hl, hn]; rfl

theorem Run1.assignComp {elt t iter : Expr} {ifs : List Expr} {rest : List Comprehension} {scope : Scope} {pos : Pos} {y : Str} {py p : Pos} (tgts : List Str) (cd : List (Str × D)) {ds : List D} {f : D → List D} {emit : Cx → Addr → Sem Unit} (S : Sto → Prop)
    (hS : ∀ σ, S σ → owns σ = []) (hS0 : S (cst tgts cd)) (ok : compOk scope tgts (cd.map (·.1)) = true)
    (hcap : ∀ x d, (x, d) ∈ cd → ((x, Sl.dat d) ∈ σ ∨ (x, Sl.ro d) ∈ σ) ∧ C.env.kindOf x ≠ some .local)
    (ht : ∀ (it : Value) (dl : Addr) (C' : Cx), compTurn (.ListComp elt (⟨t, iter, ifs, 0⟩ :: rest) scope pos) 0 it (.ref dl) C'.env = turnOf (.ListComp elt (⟨t, iter, ifs, 0⟩ :: rest) scope pos) 0 it (.ref dl) C'.env ⟨t, iter, ifs, 0⟩ (emit C' dl))
    (hi : EvI prog w h0 C k σ t iter ds)
    (turn : ∀ C', InCx C C' scope → ∀ dl, ∀ d ∈ ds, ∀ σ, S σ → ∃ σ', Tgt prog w h0 C' k t σ d σ' ∧ S σ' ∧ ∃ b, EvT prog w h0 C' k σ' ifs b ∧ (b = true → Em prog w h0 C' k dl S σ' (emit C' dl) (f d)) ∧ (b = false → f d = []))
    (hsz : (ds.flatMap f).length ≤ sizeLine)
    (u : Upd σ y (.dat (.lst (ds.flatMap f))) σ') (r : R (.next σ')) (hsw : swapsWith (.ListComp elt (⟨t, iter, ifs, 0⟩ :: rest) scope pos) (some (.Name y py)) p.line C.env = pure true) (hs : ∀ x, foldedSetIterable iter C.env x = pure x := by intro _; rfl) :
    Run1 prog w h0 C k σ (.Assign [.Name y py] (.ListComp elt (⟨t, iter, ifs, 0⟩ :: rest) scope pos) p) R := fun A m s O I => by
  obtain ⟨hn, hk, cl, hcl, key⟩ := comp_core S hS hS0 ok hcap ht hi turn hsz O I (E := AfterX h0 C m σ s R)
  rw [exec_Assign_Name_used _ _ _ _ hsw]
  refine wpAny_bind (wpAny_standAt (wpAny_bind ?_))
  show wpAny _ A (do let _ ← comprehension (.ListComp elt (⟨t, iter, ifs, 0⟩ :: rest) scope pos) scope C.env _ (newList []) false (eval iter C.env) (some (PySem.assign (.Name y py) C.env))) _ _ s
  refine wpAny_bind (wpAny_mono (wpAny_comprehension_free (use := some (PySem.assign (.Name y py) C.env)) (Q := fun _ s' => After h0 C m σ s R .next s') rfl hs hcl hk hn
    (key (fun acc L => compPost (model prog w) A (AfterX h0 C m σ s R) (some (PySem.assign (.Name y py) C.env)) (fun _ s' => After h0 C m σ s R .next s') acc L) fun dl L s' m' g rd z mz ns => ?_)) (fun _ s' hq => wpAny_pure (wpAny_pure hq)) fun _ _ e => e)
  have nL : L ∉ C.wr ++ owns σ := fun q => by
    obtain ⟨o, e⟩ := I.std L q
    rw [z] at e; cases e
  show wpAny _ A (PySem.assign (.Name y py) C.env (.ref dl)) _ _ _
  refine wpAny_assign_Name (store (I.grow g) u rd fun s₂ g₂ I₂ => ?_)
  obtain ⟨F, hF⟩ := ns
  obtain ⟨F', hF', _⟩ := ns_up (fun o e => g₂.kept L o nL e) hF
  refine ⟨F', hF', fun h' hs' => ?_⟩
  have gi : GrowI [L] m' s₂ m' { s₂ with heap := h' } := growI (.head _) I₂.amb.le (fun b hb => by cases List.mem_singleton.mp hb; exact mz) hs'.extBut
  refine ⟨σ', r, ⟨m', ((g.toW _).trans g₂ fun _ h => .inl h).thenI gi fun b hb => (by cases List.mem_singleton.mp hb; exact z), I₂.chg gi fun b hb => ?_⟩, fun b hb => .inl (u.owns_dat b hb)⟩
  cases List.mem_singleton.mp hb
  exact ⟨I.ap z, fun q => nL (List.mem_append_right _ (u.owns_dat L q))⟩
end
section
set_option linter.unusedVariables false
variable {prog : Program} {w : World} {h0 : Heap} {C : Cx} {k : Nat} {σ σ' : Sto} {R : Out → Prop}

/-- all that is to be shown of a comprehension -/
noncomputable def CompH (prog : Program) (w : World) (h0 : Heap) (C : Cx) (k : Nat) (σ : Sto) (elt t iter : Expr) (ifs : List Expr) (rest : List Comprehension) (scope : Scope) (pos : Pos) (out : List D) : Prop :=
  ∃ (tgts : List Str) (cd : List (Str × D)) (ds : List D) (f : D → List D) (emit : Cx → Addr → Sem Unit) (S : Sto → Prop), out = ds.flatMap f ∧
    (∀ σ, S σ → owns σ = []) ∧ S (cst tgts cd) ∧ compOk scope tgts (cd.map (·.1)) = true ∧
    (∀ x d, (x, d) ∈ cd → ((x, Sl.dat d) ∈ σ ∨ (x, Sl.ro d) ∈ σ) ∧ C.env.kindOf x ≠ some .local) ∧
    (∀ (it : Value) (dl : Addr) (C' : Cx), compTurn (.ListComp elt (⟨t, iter, ifs, 0⟩ :: rest) scope pos) 0 it (.ref dl) C'.env = turnOf (.ListComp elt (⟨t, iter, ifs, 0⟩ :: rest) scope pos) 0 it (.ref dl) C'.env ⟨t, iter, ifs, 0⟩ (emit C' dl)) ∧
    EvI prog w h0 C k σ t iter ds ∧
    (∀ C', InCx C C' scope → ∀ dl, ∀ d ∈ ds, ∀ σ, S σ → ∃ σ', Tgt prog w h0 C' k t σ d σ' ∧ S σ' ∧ ∃ b, EvT prog w h0 C' k σ' ifs b ∧ (b = true → Em prog w h0 C' k dl S σ' (emit C' dl) (f d)) ∧ (b = false → f d = []))
theorem CompH.ev {elt t iter : Expr} {ifs : List Expr} {rest : List Comprehension} {scope : Scope} {pos : Pos} {out : List D} (h : CompH prog w h0 C k σ elt t iter ifs rest scope pos out) (hsz : out.length ≤ sizeLine)
    (hs : ∀ x, foldedSetIterable iter C.env x = pure x := by intro _; rfl) : Ev prog w h0 C k σ (.ListComp elt (⟨t, iter, ifs, 0⟩ :: rest) scope pos) (.lst out) := by
  obtain ⟨tgts, cd, ds, f, emit, S, e, h1, h2, h3, h4, h5, h6, h7⟩ := h
  subst e
  exact Ev.comp tgts cd S h1 h2 h3 h4 h5 h6 h7 hsz hs
theorem CompH.assign {elt t iter : Expr} {ifs : List Expr} {rest : List Comprehension} {scope : Scope} {pos p py : Pos} {y : Str} {out : List D} (h : CompH prog w h0 C k σ elt t iter ifs rest scope pos out) (hsz : out.length ≤ sizeLine)
    (u : Upd σ y (.dat (.lst out)) σ') (r : R (.next σ')) (hb : C.env.blockKind = .function) (hy : C.env.kindOf y = some .local) (hl : (py.line == pos.line) = true := by rfl)
    (hn : (scope.names.any fun (n, k) => n == y && (k == .local || k == .cell)) = false := by decide) (hs : ∀ x, foldedSetIterable iter C.env x = pure x := by intro _; rfl) :
    Run1 prog w h0 C k σ (.Assign [.Name y py] (.ListComp elt (⟨t, iter, ifs, 0⟩ :: rest) scope pos) p) R := by
  obtain ⟨tgts, cd, ds, f, emit, S, e, h1, h2, h3, h4, h5, h6, h7⟩ := h
  subst e
  exact Run1.assignComp tgts cd S h1 h2 h3 h4 h5 h6 h7 hsz u r (swapsWith_true hb hy hl hn) hs

theorem flatMap_toList {α β : Type} (g : α → Option β) : ∀ l : List α, l.flatMap (fun d => (g d).toList) = l.filterMap g
  | [] => rfl
  | a :: r => by
    rw [List.flatMap_cons, List.filterMap_cons, flatMap_toList g r]
    cases g a <;> rfl
noncomputable def ros (cd : List (Str × D)) : Sto := cd.map fun p => (p.1, Sl.ro p.2)
theorem ros_owns (cd : List (Str × D)) : owns (ros cd) = [] := by
  induction cd with
  | nil => rfl
  | cons p r ih => exact ih
/-- what a turn's tests and element give -/
structure TurnOk (prog : Program) (w : World) (h0 : Heap) (C : Cx) (k : Nat) (σ : Sto) (ifs : List Expr) (elt : Expr) (o : Option D) : Prop where
  it : ∃ b, EvT prog w h0 C k σ ifs b ∧ (b = true → ∃ e, o = some e ∧ Ev prog w h0 C k σ elt e) ∧ (b = false → o = none)
theorem TurnOk.all {elt : Expr} {e : D} (h : Ev prog w h0 C k σ elt e) : TurnOk prog w h0 C k σ [] elt (some e) := ⟨true, EvT.nil, fun _ => ⟨e, rfl, h⟩, fun e => nomatch e⟩
theorem TurnOk.iff {elt c : Expr} {b : Bool} {e : D} (hb : EvB prog w h0 C k σ c b) (h : b = true → Ev prog w h0 C k σ elt e) : TurnOk prog w h0 C k σ [c] elt (if b then some e else none) :=
  ⟨b, EvT.one hb, fun q => ⟨e, by rw [q]; rfl, h q⟩, fun q => by rw [q]; rfl⟩
theorem comp1 {elt iter : Expr} {x : Str} {np : Pos} {ifs : List Expr} {scope : Scope} {pos : Pos} (cd : List (Str × D)) {ds : List D} {g : D → Option D}
    (ok : compOk scope [x] (cd.map (·.1)) = true) (hcap : ∀ x d, (x, d) ∈ cd → ((x, Sl.dat d) ∈ σ ∨ (x, Sl.ro d) ∈ σ) ∧ C.env.kindOf x ≠ some .local) (hi : EvI prog w h0 C k σ (.Name x np) iter ds)
    (body : ∀ C', InCx C C' scope → ∀ d ∈ ds, TurnOk prog w h0 C' k ((x, .dat d) :: ros cd) ifs elt (g d)) :
    CompH prog w h0 C k σ elt (.Name x np) iter ifs [] scope pos (ds.filterMap g) := by
  refine ⟨[x], cd, ds, fun d => (g d).toList, fun C' dl => emitLast elt (.ref dl) C'.env, fun σ => ∃ sl, σ = (x, sl) :: ros cd ∧ (sl = .un ∨ ∃ d, sl = .dat d), (flatMap_toList g ds).symm, ?_, ⟨.un, rfl, .inl rfl⟩, ok, hcap, fun _ _ _ => turn_last, hi, ?_⟩
  · rintro σ ⟨sl, rfl, h⟩
    rcases h with rfl | ⟨d, rfl⟩ <;> exact ros_owns cd
  · rintro C' hC dl d hd σ ⟨sl, rfl, h⟩
    have u : Upd ((x, sl) :: ros cd) x (.dat d) ((x, .dat d) :: ros cd) := by
      rcases h with rfl | ⟨d', rfl⟩
      · exact .un
      · exact .dat
    obtain ⟨b, h1, h2, h3⟩ := (body C' hC d hd).it
    refine ⟨_, Tgt.name u, ⟨_, rfl, .inr ⟨d, rfl⟩⟩, b, h1, fun q => ?_, fun q => by show (g d).toList = []; rw [h3 q]; rfl⟩
    obtain ⟨e, he, hv⟩ := h2 q
    show Em prog w h0 C' k dl _ _ (emitLast elt (.ref dl) C'.env) (g d).toList
    rw [he]
    exact Em.last hv ⟨_, rfl, .inr ⟨d, rfl⟩⟩ (ros_owns cd)
theorem comp2 {elt iter iter' : Expr} {x y : Str} {np np' : Pos} {ifs ifs' : List Expr} {scope : Scope} {pos : Pos} (cd : List (Str × D)) {ds : List D} {g : D → List D}
    (ok : compOk scope [x, y] (cd.map (·.1)) = true) (hcap : ∀ x d, (x, d) ∈ cd → ((x, Sl.dat d) ∈ σ ∨ (x, Sl.ro d) ∈ σ) ∧ C.env.kindOf x ≠ some .local) (hi : EvI prog w h0 C k σ (.Name x np) iter ds)
    (body : ∀ C', InCx C C' scope → ∀ d ∈ ds, ∀ sl, ∃ b, EvT prog w h0 C' k ((x, .dat d) :: (y, sl) :: ros cd) ifs b ∧ (b = false → g d = []) ∧ (b = true → ∃ es h, g d = es.filterMap h ∧ EvI prog w h0 C' k ((x, .dat d) :: (y, sl) :: ros cd) (.Name y np') iter' es ∧
      ∀ e ∈ es, TurnOk prog w h0 C' k ((x, .dat d) :: (y, .dat e) :: ros cd) ifs' elt (h e)))
    (hs : ∀ env v, foldedSetIterable iter' env v = pure v := by intro _ _; rfl) :
    CompH prog w h0 C k σ elt (.Name x np) iter ifs [⟨.Name y np', iter', ifs', 0⟩] scope pos (ds.flatMap g) := by
  have hO : ∀ σ, (∃ sl sl', σ = (x, sl) :: (y, sl') :: ros cd ∧ (sl = .un ∨ ∃ d, sl = .dat d) ∧ (sl' = .un ∨ ∃ d, sl' = .dat d)) → owns σ = [] := by
    rintro σ ⟨sl, sl', rfl, h, h'⟩
    rcases h with rfl | ⟨d, rfl⟩ <;> rcases h' with rfl | ⟨d', rfl⟩ <;> exact ros_owns cd
  refine ⟨[x, y], cd, ds, g, fun C' dl => emitOn (.ListComp elt [⟨.Name x np, iter, ifs, 0⟩, ⟨.Name y np', iter', ifs', 0⟩] scope pos) 1 ⟨.Name y np', iter', ifs', 0⟩ (.ref dl) C'.env,
    fun σ => ∃ sl sl', σ = (x, sl) :: (y, sl') :: ros cd ∧ (sl = .un ∨ ∃ d, sl = .dat d) ∧ (sl' = .un ∨ ∃ d, sl' = .dat d), rfl, hO, ⟨.un, .un, rfl, .inl rfl, .inl rfl⟩, ok, hcap, fun _ _ _ => turn_two0, hi, ?_⟩
  rintro C' hC dl d hd σ ⟨sl, sl', rfl, h, h'⟩
  have u : Upd ((x, sl) :: (y, sl') :: ros cd) x (.dat d) ((x, .dat d) :: (y, sl') :: ros cd) := by
    rcases h with rfl | ⟨d', rfl⟩
    · exact .un
    · exact .dat
  obtain ⟨b, h1, h2, h3⟩ := body C' hC d hd sl'
  refine ⟨_, Tgt.name u, ⟨_, _, rfl, .inr ⟨d, rfl⟩, h'⟩, b, h1, fun q => ?_, h2⟩
  obtain ⟨es, hh, eg, hi', ht'⟩ := h3 q
  rw [eg, ← flatMap_toList]
  have key : Em prog w h0 C' k dl (fun σ => ∃ sl', σ = (x, .dat d) :: (y, sl') :: ros cd ∧ (sl' = .un ∨ ∃ d, sl' = .dat d)) ((x, .dat d) :: (y, sl') :: ros cd)
      (emitOn (.ListComp elt [⟨.Name x np, iter, ifs, 0⟩, ⟨.Name y np', iter', ifs', 0⟩] scope pos) 1 ⟨.Name y np', iter', ifs', 0⟩ (.ref dl) C'.env) (es.flatMap fun d => (hh d).toList) := by
    refine Em.on (fun σ ⟨sl', e, hh⟩ => hO σ ⟨_, sl', e, .inr ⟨d, rfl⟩, hh⟩) ⟨sl', rfl, h'⟩ hi' (fun d => (hh d).toList) (fun e he σ hσ => ?_) (hs C'.env)
    obtain ⟨sl₂, rfl, h''⟩ := hσ
    have u' : Upd ((x, Sl.dat d) :: (y, sl₂) :: ros cd) y (.dat e) ((x, .dat d) :: (y, .dat e) :: ros cd) := by
      rcases h'' with rfl | ⟨d', rfl⟩
      · exact .tail .un
      · exact .tail .dat
    obtain ⟨b', k1, k2, k3⟩ := (ht' e he).it
    refine ⟨_, Tgt.name u', ⟨_, rfl, .inr ⟨e, rfl⟩⟩, b', k1, fun q => ?_, fun q => by show (hh e).toList = []; rw [k3 q]; rfl⟩
    obtain ⟨z, hz, hv⟩ := k2 q
    show Em prog w h0 C' k dl _ _ (emitLast elt (.ref dl) C'.env) (hh e).toList
    rw [hz]
    exact Em.last hv ⟨_, rfl, .inr ⟨e, rfl⟩⟩ (ros_owns cd)
  exact fun A m s L O I a hz => wpAny_mono (key A m s L O I a hz) (fun _ s' ⟨m', σ', ⟨sl', e, hh⟩, r⟩ => ⟨m', σ', ⟨_, sl', e, .inr ⟨d, rfl⟩, hh⟩, r⟩) fun _ _ f => f
end
section
set_option linter.unusedVariables false
set_option maxRecDepth 100000
variable {prog : Program} {w : World} {h0 : Heap} {C : Cx} {k : Nat} {σ σ' : Sto} {R : Out → Prop}

-- type
section
variable {A : Around} {E : Value → Shared → Prop} {s : Shared} {Q : Value → Shared → Prop}
theorem type_wp {v : Value} {T : String} (hv : shownTypeOf v = pure (.type T)) (hm : (v == Value.builtin "__main__.__loader__#opaque") = false) (hq : Q (.type T) s) : wpAny (model prog w) A (PySem.call (.type "type") [v]) Q E s := by
  refine wpAny_call (codeAny_of_tree ?_)
  show wpAny _ _ (callAny (.type "type") ⟨[v], []⟩) _ _ _
  simp only [callAny]
  refine wpAny_pure ⟨Code.quiet_builtin _ (by decide +kernel), codeAny_builtin entry_type_call ?_⟩
  unfold Builtin.«type.__call__»
  dsimp only
  refine wpAny_ite_true rfl (wpAny_ite_true rfl ?_)
  refine wpAny_ite_false rfl ?_
  rw [List.headD_cons, hm]
  refine wpAny_ite_false rfl ?_
  rw [hv]
  exact wpAny_bind (wpAny_pure (wpAny_pure hq))
end
theorem call_type_str {l : List Nat} : Callable prog w h0 k (.type "type") [.str l] (.val (.val (.type "str"))) := fun _ A m s vs O I ⟨v, r, e, ⟨t, e1⟩, e2⟩ => by
  subst e e1 e2
  exact type_wp rfl rfl ⟨m, Grow.refl I.le, rfl⟩
theorem call_type_bytes {l : List UInt8} : Callable prog w h0 k (.type "type") [.bytes l] (.val (.val (.type "bytes"))) := fun _ A m s vs O I ⟨v, r, e, ⟨t, e1⟩, e2⟩ => by
  subst e e1 e2
  exact type_wp rfl rfl ⟨m, Grow.refl I.le, rfl⟩
theorem call_type_bool {b : Bool} : Callable prog w h0 k (.type "type") [.bool b] (.val (.val (.type "bool"))) := fun _ A m s vs O I ⟨v, r, e, e1, e2⟩ => by
  cases e1; subst e e2
  exact type_wp rfl rfl ⟨m, Grow.refl I.le, rfl⟩
-- isinstance
theorem call_isinst_str {l : List Nat} : Callable prog w h0 k (.builtin "isinstance") [.str l, .val (.type "bytes")] (.val (.bool false)) := fun _ A m s vs O I ⟨v, r, e, ⟨t, e1⟩, v', r', e2, e3, e4⟩ => by
  cases e3; subst e e1 e2 e4
  exact IsiPair.str_bytes ⟨m, (Grow.refl I.le).toks _, rfl⟩
-- ord
theorem call_ord {c : Nat} : Callable prog w h0 k (.builtin "ord") [.str [c]] (.val (.int c)) := fun _ A m s vs O I ⟨v, r, e, ⟨t, e1⟩, e2⟩ => by
  subst e e1 e2
  exact P.ord_of_char ⟨m, (Grow.refl I.le).toks _, _, rfl⟩
-- len
theorem call_len_lst {l : List D} (h : l.length < 2 ^ 63) : Callable prog w h0 k (.builtin "len") [.lst l] (.val (.int l.length)) := fun _ A m s vs O I ⟨v, r, e, ⟨a, us, e1, q, rl⟩, e2⟩ => by
  subst e e1 e2
  have hn := rl.length
  refine PySem.Calls.call_len_list (isList_of (seq_in q I.le)) (by simp only [List.size_toArray, hn]; omega) ⟨m, ((Grow.refl I.le).toks _).toks _, s.toks + 1, ?_⟩
  simp only [List.size_toArray, hn]
theorem call_len_str {l : List Nat} (h : l.length < 2 ^ 63) : Callable prog w h0 k (.builtin "len") [.str l] (.val (.int l.length)) := fun _ A m s vs O I ⟨v, r, e, ⟨t, e1⟩, e2⟩ => by
  subst e e1 e2
  refine P.len_str (by rw [Str.len]; omega) ⟨m, ((Grow.refl I.le).toks _).toks _, s.toks + 1, ?_⟩
  rw [Str.len]
theorem lenB {A : Around} {E : Value → Shared → Prop} {s : Shared} {b : Array UInt8} {t : Tok} {Q : Value → Shared → Prop} (hfit : b.size ≤ 1099511627776) (h : Q (.int b.size (s.toks + 1)) { s with toks := s.toks + 1 + 1 }) :
    wpAny (model prog w) A (PySem.call (.builtin "len") [.bytes b t]) Q E s := PySem.W.len_bytes hfit h
theorem call_len_bytes {l : List UInt8} (h : l.length ≤ 1099511627776) : Callable prog w h0 k (.builtin "len") [.bytes l] (.val (.int l.length)) := fun _ A m s vs O I ⟨v, r, e, ⟨t, e1⟩, e2⟩ => by
  subst e e1 e2
  refine Mine.lenB (by simpa using h) ⟨m, ((Grow.refl I.le).toks _).toks _, s.toks + 1, ?_⟩
  simp
-- int, str
theorem call_int_i {n : Int} : Callable prog w h0 k (.type "int") [.int n] (.val (.int n)) := fun _ A m s vs O I ⟨v, r, e, ⟨t, e1⟩, e2⟩ => by
  subst e e1 e2
  exact call_int_int ⟨m, Grow.refl I.le, _, rfl⟩
noncomputable def numL (n : Int) : List Nat := (PySem.Str.ofString (toString n)).cps.toList
theorem call_int_s {x : List Nat} {n : Int} (h : PySem.intText? ⟨x.toArray⟩ = some n) (hl : x.length ≤ 640) : Callable prog w h0 k (.type "int") [.str x] (.val (.int n)) := fun _ A m s vs O I ⟨v, r, e, ⟨t, e1⟩, e2⟩ => by
  subst e e1 e2
  exact KIN.call_text h (by rw [Str.len]; exact hl) ⟨m, (Grow.refl I.le).toks _, _, rfl⟩
theorem call_str_i {n : Int} (h : n.natAbs.log2 < 1920) : Callable prog w h0 k (.type "str") [.int n] (.val (.str (numL n))) := fun _ A m s vs O I ⟨v, r, e, ⟨t, e1⟩, e2⟩ => by
  subst e e1 e2
  exact P.str_of_int h ⟨m, (Grow.refl I.le).toks _, s.toks, by simp [numL]⟩
-- bytes of ints
theorem ints_are {m : Mem} : ∀ {ns : List Int} {vs : List Value}, RdL m (ns.map .int) vs → IntsAre vs ns
  | [], _, x => by cases x; exact .nil
  | n :: r, _, ⟨v, rs, e, ⟨t, e1⟩, x⟩ => by subst e e1; exact .cons n t (ints_are x)
theorem call_bytes {ns : List Int} (h : ∀ n ∈ ns, 0 ≤ n ∧ n < 256) (hz : ns.length ≤ sizeLine) : Callable prog w h0 (k + 1) (.type "bytes") [.lst (ns.map .int)] (.val (.bytes (ns.map fun n => n.toNat.toUInt8))) := fun _ A m s vs O I ⟨v, r, e, ⟨a, us, e1, q, rl⟩, e2⟩ => by
  subst e e1 e2
  have hn := rl.length
  rw [List.length_map] at hn
  refine wpAny_with_toks (Nat.le_refl _) (call_bytes_ints (isList_of (seq_in q I.le)) (ints_are rl) h (by omega) (O.hd (by omega)) fun h' t tk hk ht => ⟨m, ?_, t, rfl⟩)
  exact ⟨Sub.refl _, fun a o e => hk a o (I.le a o e), fun _ _ e => .inl e, Kept.of hk, fun a o vs e _ => hk a o e, rfl, rfl, ht⟩
end
section
set_option linter.unusedVariables false
set_option maxRecDepth 100000
noncomputable abbrev mk (l : List Nat) : PySem.Str := ⟨l.toArray⟩
theorem mk_toList (x : PySem.Str) : mk x.cps.toList = x := by cases x; simp
theorem mk_len (l : List Nat) : (mk l).length = l.length := by simp [PySem.Str.length]

-- join
noncomputable def jn (sep : List Nat) : List (List Nat) → List Nat
  | [] => []
  | [x] => x
  | x :: y :: r => x ++ sep ++ jn sep (y :: r)
theorem jn_join (sep : List Nat) : ∀ ps : List (List Nat), (PySem.Str.join (mk sep) (ps.map mk)).cps.toList = jn sep ps
  | [] => rfl
  | [x] => rfl
  | x :: y :: r => by
    have ih := jn_join sep (y :: r)
    show (mk x ++ mk sep ++ PySem.Str.join (mk sep) ((y :: r).map mk)).cps.toList = _
    rw [PySem.Str.cps_append, PySem.Str.cps_append, Array.toList_append, Array.toList_append, ih]; rfl

-- split
noncomputable def spl (c : Nat) : List Nat → List (List Nat)
  | [] => [[]]
  | x :: r => if x = c then [] :: spl c r else match spl c r with | p :: ps => (x :: p) :: ps | [] => [[x]]
theorem spl_ne (c : Nat) : ∀ l, spl c l ≠ []
  | [] => by simp [spl]
  | x :: r => by
    rw [spl]
    split
    · simp
    · split <;> simp
theorem spl_free {c : Nat} : ∀ {p : List Nat}, c ∉ p → spl c p = [p]
  | [], _ => rfl
  | x :: r, h => by
    rw [List.mem_cons, not_or] at h
    rw [spl, if_neg (Ne.symm h.1), spl_free h.2]
theorem spl_cut {c : Nat} {r : List Nat} : ∀ {p : List Nat}, c ∉ p → spl c (p ++ c :: r) = p :: spl c r
  | [], _ => by rw [List.nil_append, spl, if_pos rfl]
  | x :: q, h => by
    rw [List.mem_cons, not_or] at h
    rw [List.cons_append, spl, if_neg (Ne.symm h.1), spl_cut h.2]
theorem spl_jn {c : Nat} : ∀ {ps : List (List Nat)}, ps ≠ [] → (∀ p ∈ ps, c ∉ p) → spl c (jn [c] ps) = ps
  | [], h, _ => absurd rfl h
  | [x], _, h => spl_free (h x (.head _))
  | x :: y :: r, _, h => by
    rw [jn, List.append_assoc, List.singleton_append, spl_cut (h x (.head _)), spl_jn (by simp) fun p hp => h p (.tail _ hp)]
theorem split_spl (x : List Nat) (c : Nat) : (Txt.split (mk x) (mk [c])).map (·.cps.toList) = spl c x := by
  have h1 := StrLaws.join_split (mk x) (mk [c])
  have h2 := StrLaws.split_free (mk x) c
  have hm : ((Txt.split (mk x) (mk [c])).map (·.cps.toList)).map mk = Txt.split (mk x) (mk [c]) := by
    rw [List.map_map]
    exact (List.map_congr_left fun y _ => mk_toList y).trans (List.map_id _)
  have h3 := jn_join [c] ((Txt.split (mk x) (mk [c])).map (·.cps.toList))
  rw [hm, h1] at h3
  have hne : (Txt.split (mk x) (mk [c])).map (·.cps.toList) ≠ [] := fun e => by
    rw [e] at h3
    have : x = [] := by simpa [jn] using h3
    subst this
    simp [Txt.split, PySem.Str.length] at e
  have h4 : x = jn [c] ((Txt.split (mk x) (mk [c])).map (·.cps.toList)) := by simpa using h3
  conv => rhs; rw [h4]
  refine (spl_jn hne fun p hp => ?_).symm
  obtain ⟨y, hy, rfl⟩ := List.mem_map.mp hp
  exact h2 y hy

-- find
noncomputable def fnd (c : Nat) (l : List Nat) (i : Nat) : Int := match (l.drop i).findIdx? (· == c) with | some k => ((i + k : Nat) : Int) | none => -1
theorem find3_fnd (c : Nat) (l : List Nat) (i : Nat) (hi : i ≤ l.length) : Txt.find3 (mk l) ⟨#[c]⟩ (i : Int) = fnd c l i := by
  have hf : PySem.fromIndex (mk l).length (i : Int) = i := by unfold PySem.fromIndex; split <;> omega
  have hg : ∀ v, v < l.length → (mk l).cps.getD v 0 = l[v]! := fun v hv => by simp [Array.getD, hv]
  unfold fnd
  rcases StrLaws.find3_spec (mk l) c (i : Int) with ⟨e, h⟩ | ⟨k, e, h1, h2, h3, h4⟩
  · rw [e]
    rw [hf, mk_len] at h
    have : (l.drop i).findIdx? (· == c) = none := by
      rw [List.findIdx?_eq_none_iff]
      intro y hy
      obtain ⟨j, hj⟩ := List.getElem?_of_mem hy
      rw [List.getElem?_drop] at hj
      obtain ⟨hlt, hj'⟩ := List.getElem?_eq_some_iff.mp hj
      have := h (i + j) (by omega) hlt
      rw [hg _ hlt, getElem!_pos l _ hlt, hj'] at this
      simpa using this
    rw [this]
  · rw [e]
    rw [hf] at h1 h4
    rw [mk_len] at h2
    have : (l.drop i).findIdx? (· == c) = some (k - i) := by
      rw [List.findIdx?_eq_some_iff_getElem]
      have hlt : k - i < (l.drop i).length := by rw [List.length_drop]; omega
      refine ⟨hlt, ?_, fun j hj => ?_⟩
      · rw [hg _ h2, getElem!_pos l _ h2] at h3
        rw [List.getElem_drop]
        have : i + (k - i) = k := by omega
        simp only [this, h3, beq_self_eq_true]
      · have hlt' : i + j < l.length := by omega
        have := h4 (i + j) (by omega) (by omega)
        rw [hg _ hlt', getElem!_pos l _ hlt'] at this
        rw [List.getElem_drop]
        simpa using this
    rw [this]
    show (k : Int) = ((i + (k - i) : Nat) : Int)
    congr 1; omega
theorem find_fnd (c : Nat) (l : List Nat) : Txt.find (mk l) ⟨#[c]⟩ = fnd c l 0 := (find3_fnd c l 0 (Nat.zero_le _))
-- rfind
noncomputable def rfnd (c : Nat) (l : List Nat) : Int := match l.reverse.findIdx? (· == c) with | some k => ((l.length - 1 - k : Nat) : Int) | none => -1
theorem rfind_rfnd (c : Nat) (l : List Nat) : Txt.rfind (mk l) ⟨#[c]⟩ = rfnd c l := by
  have at_iff : ∀ i, StrLaws.At (mk l) ⟨#[c]⟩ (mk l).length i ↔ l[i]? = some c := fun i => by
    have := StrLaws.subAt_one (mk l) c i
    simpa [StrLaws.At] using this
  unfold Txt.rfind rfnd
  rcases StrLaws.last_spec (mk l) ⟨#[c]⟩ with ⟨e, h⟩ | ⟨i, e, h1, h2⟩
  · rw [e]
    have : l.reverse.findIdx? (· == c) = none := by
      rw [List.findIdx?_eq_none_iff]
      intro y hy
      rw [List.mem_reverse] at hy
      obtain ⟨j, hj⟩ := List.getElem?_of_mem hy
      have hn : ¬ y = c := fun q => h j ((at_iff j).mpr (q ▸ hj))
      simpa using hn
    rw [this]
  · rw [e]
    have h1' := (at_iff i).mp h1
    obtain ⟨hlt, hi⟩ := List.getElem?_eq_some_iff.mp h1'
    have : l.reverse.findIdx? (· == c) = some (l.length - 1 - i) := by
      rw [List.findIdx?_eq_some_iff_getElem]
      refine ⟨by rw [List.length_reverse]; omega, ?_, fun j hj => ?_⟩
      · rw [List.getElem_reverse]
        have : l.length - 1 - (l.length - 1 - i) = i := by omega
        simp only [this, hi, beq_self_eq_true]
      · rw [List.getElem_reverse]
        intro q
        refine h2 (l.length - 1 - j) (by omega) ((at_iff _).mpr ?_)
        rw [List.getElem?_eq_getElem (by omega)]
        simpa using q
    rw [this]
    show (i : Int) = ((l.length - 1 - (l.length - 1 - i) : Nat) : Int)
    congr 1; omega
-- startswith, endswith
noncomputable def stw (c : Nat) (l : List Nat) : Bool := l.head? == some c
noncomputable def edw (c : Nat) (l : List Nat) : Bool := l.getLast? == some c
theorem startswith_stw (c : Nat) (l : List Nat) : Txt.startswith (mk l) ⟨#[c]⟩ = stw c l := by
  have := StrLaws.subAt_one (mk l) c 0
  unfold Txt.startswith stw
  rw [Bool.eq_iff_iff, Bool.and_eq_true, decide_eq_true_eq, this]
  simp [List.head?_eq_getElem?]
theorem endswith_edw (c : Nat) (l : List Nat) : Txt.endswith (mk l) ⟨#[c]⟩ = edw c l := by
  unfold Txt.endswith edw
  rw [Bool.eq_iff_iff, Bool.and_eq_true, decide_eq_true_eq]
  cases l with
  | nil => simp [PySem.Str.length]
  | cons x r =>
    have := StrLaws.subAt_one (mk (x :: r)) c ((x :: r).length - 1)
    have e : (⟨#[c]⟩ : PySem.Str).length = 1 := rfl
    have e2 : (mk (x :: r)).length = (x :: r).length := mk_len _
    rw [e, e2] at this ⊢
    have h1 : (x :: r).length - 1 + 1 ≤ (x :: r).length := by simp
    have h2 : 0 + 1 ≤ (x :: r).length := by simp
    simp only [h1, true_and] at this
    simp only [h2, true_and]
    rw [this, List.getLast?_eq_getElem?]; simp
-- rstrip
noncomputable def rstp (c : Nat) (l : List Nat) : List Nat := (l.reverse.dropWhile (· == c)).reverse
theorem rstrip_rstp (c : Nat) (l : List Nat) : Txt.rstripChars (mk l) ⟨#[c]⟩ = mk (rstp c l) := by
  have hgo : (⟨#[c]⟩ : PySem.Str).cps.contains = fun x => x == c := by
    funext x
    show (#[c] : Array Nat).contains x = _
    rw [Bool.eq_iff_iff]; simp
  have key : ∀ n, n = (l.reverse.takeWhile (· == c)).length → (l.take (l.length - n)) = rstp c l := fun n hn => by
    unfold rstp
    have h := List.takeWhile_append_dropWhile (p := (· == c)) (l := l.reverse)
    have h2 : l = (l.reverse.dropWhile (· == c)).reverse ++ (l.reverse.takeWhile (· == c)).reverse := by
      rw [← List.reverse_append, h, List.reverse_reverse]
    have h3 : l.length - n = (l.reverse.dropWhile (· == c)).reverse.length := by
      have := congrArg List.length h2
      rw [List.length_append, List.length_reverse, List.length_reverse] at this
      rw [List.length_reverse]; omega
    rw [h3]
    conv => lhs; arg 2; rw [h2]
    exact List.take_left
  unfold Txt.rstripChars Txt.stripBy PySem.stripSame PySem.stripped PySem.stripLo PySem.stripHi
  rw [hgo]
  simp only [Bool.false_eq_true, if_false, if_true, List.drop_zero, beq_self_eq_true, Bool.true_and, mk_len]
  show (if (l.length - (l.reverse.takeWhile (· == c)).length == l.length) = true then mk l else Builtin.Str.strSub (mk l) 0 (l.length - (l.reverse.takeWhile (· == c)).length)) = _
  split
  · rename_i h
    rw [← key _ rfl, eq_of_beq h, List.take_length]
  · apply PySem.Str.ext'
    apply Array.toList_inj.mp
    rw [StrLaws.strSub_toList, List.drop_zero, Nat.sub_zero]
    exact key _ rfl
-- doubling
theorem replace_dbl (c : Nat) (l : List Nat) : Txt.replace (mk l) ⟨#[c]⟩ ⟨#[c, c]⟩ = mk (StrLaws.dbl c l) := by
  have := StrLaws.replace_double (mk l) c
  rw [← mk_toList (Txt.replace (mk l) ⟨#[c]⟩ ⟨#[c, c]⟩), this]
end
section
set_option linter.unusedVariables false
set_option maxRecDepth 100000
variable {prog : Program} {w : World} {h0 : Heap} {C : Cx} {k : Nat} {σ σ' : Sto} {R : Out → Prop}

theorem strIsT {l : List Nat} : ∀ (m : Mem) (s : Shared) (v : Value), (∀ a o, m a = some o → s.heap.get? a = some o) → Rd m (.str l) v → s.TypeIs v "str" ∧ ∀ a, v = .ref a → ∃ ob, s.heap.get? a = some ob ∧ ob.dict = none :=
  fun m s v _ ⟨t, e⟩ => by subst e; exact ⟨typeIs_str _ _ _, fun _ e => nomatch e⟩
/-- a method of str with one argument -/
theorem meth1 {name : Str} {id : String} {l : List Nat} {d r : D} (slot : PySem.Slot "str" name id) (ty : typeOf (.builtin id) = pure (.type "method_descriptor"))
    (it : ∀ fl A m s t v, Ok fl k A → Amb h0 fl m s → Rd m d v → Gv prog w h0 fl A m s (PySem.call (.builtin id) [.str (mk l) t, v] []) (.val r)) : MethR prog w h0 k "str" name id (.str l) [d] (.val r) where
  pa := F.plainAttrs_str
  slot := slot
  ty := ty
  isT := strIsT
  it := fun fl A m s v vs O I ⟨t, e⟩ ⟨v', r, e1, rd, e2⟩ => by subst e e1 e2; exact it fl A m s t v' O I rd
theorem m_startswith {l : List Nat} {c : Nat} : MethR prog w h0 k "str" "startswith" "str.startswith" (.str l) [.str [c]] (.val (.bool (stw c l))) :=
  meth1 F.slot_str_startswith F.type_str_startswith fun fl A m s t v O I ⟨u, e⟩ => by
    subst e
    exact SC.startswith ⟨m, Grow.refl I.le, congrArg Value.bool (startswith_stw c l)⟩
theorem m_endswith {l : List Nat} {c : Nat} : MethR prog w h0 k "str" "endswith" "str.endswith" (.str l) [.str [c]] (.val (.bool (edw c l))) :=
  meth1 F.slot_str_endswith F.type_str_endswith fun fl A m s t v O I ⟨u, e⟩ => by
    subst e
    exact SC.endswith ⟨m, Grow.refl I.le, congrArg Value.bool (endswith_edw c l)⟩
theorem m_find {l : List Nat} {c : Nat} : MethR prog w h0 k "str" "find" "str.find" (.str l) [.str [c]] (.val (.int (fnd c l 0))) :=
  meth1 F.slot_str_find F.type_str_find fun fl A m s t v O I ⟨u, e⟩ => by
    subst e
    exact SC.find ⟨m, (Grow.refl I.le).toks _, s.toks, congrArg (Value.int · s.toks) (find_fnd c l)⟩
theorem m_rfind {l : List Nat} {c : Nat} : MethR prog w h0 k "str" "rfind" "str.rfind" (.str l) [.str [c]] (.val (.int (rfnd c l))) :=
  meth1 F.slot_str_rfind F.type_str_rfind fun fl A m s t v O I ⟨u, e⟩ => by
    subst e
    exact SC.rfind ⟨m, (Grow.refl I.le).toks _, s.toks, congrArg (Value.int · s.toks) (rfind_rfnd c l)⟩
theorem m_find3 {l : List Nat} {c i : Nat} (hi : i ≤ l.length) : MethR prog w h0 k "str" "find" "str.find" (.str l) [.str [c], .int i] (.val (.int (fnd c l i))) where
  pa := F.plainAttrs_str
  slot := F.slot_str_find
  ty := F.type_str_find
  isT := strIsT
  it := fun fl A m s v vs O I ⟨t, e⟩ ⟨v', r, e1, ⟨u, e3⟩, v'', r', e2, ⟨q, e5⟩, e4⟩ => by
    subst e e1 e2 e3 e4 e5
    exact SC.find3 ⟨m, (Grow.refl I.le).toks _, s.toks, congrArg (Value.int · s.toks) (find3_fnd c l i hi)⟩
theorem m_rstrip {l : List Nat} {c : Nat} (hz : l.length ≤ sizeLine) : MethR prog w h0 k "str" "rstrip" "str.rstrip" (.str l) [.str [c]] (.val (.str (rstp c l))) :=
  meth1 F.slot_str_rstrip F.type_str_rstrip fun fl A m s t v O I ⟨u, e⟩ => by
    subst e
    refine wpAny_with_toks (Nat.le_refl _) (SC.rstripChars (fun t' k' ht => ⟨m, (Grow.refl I.le).toks _ ht, t', congrArg (Value.str · t') (rstrip_rstp c l)⟩) (by rw [mk_len]; exact hz))
-- split
theorem rd_strs {m : Mem} : ∀ (l : List (PySem.Str × Tok)), RdL m (l.map fun p => .str p.1.cps.toList) (strValues l)
  | [] => rfl
  | p :: r => ⟨_, _, rfl, ⟨p.2, congrArg (Value.str · p.2) (mk_toList p.1).symm⟩, rd_strs r⟩
theorem m_split {l : List Nat} {c : Nat} (hz : l.length + 2 ≤ sizeLine) : MethR prog w h0 k "str" "split" "str.split" (.str l) [.str [c]] (.val (.lst ((spl c l).map .str))) :=
  meth1 F.slot_str_split F.type_str_split fun fl A m s t v O I ⟨u, e⟩ => by
    subst e
    have key : ∀ (q : List (PySem.Str × Tok)) (tk : Nat), s.toks ≤ tk → q.map (·.1) = Txt.split (mk l) (mk [c]) →
        ∃ m', Grow m s m' { s with toks := tk, heap := s.heap.push { cls := .type "list", data := .seq (strValues q).toArray } } ∧ Rd m' (.lst ((spl c l).map .str)) (.ref s.heap.objs.size) := fun q tk htk hq => by
      have e : q.map (fun p => D.str p.1.cps.toList) = (spl c l).map .str := by
        rw [← split_spl, ← hq, List.map_map, List.map_map]; rfl
      obtain ⟨m', g, sq, rl⟩ := grow_seq (T := "list") (Grow.refl I.le) (e ▸ rd_strs q)
      exact ⟨m', g.toks tk htk, _, _, rfl, sq, rl⟩
    have hy : ((mk [c]).length == 0) = false := rfl
    have hle : (mk l).length ≤ sizeLine := by rw [mk_len]; omega
    cases h1 : (decide ((mk l).length < (mk [c]).length) || decide (Builtin.Str.strKind (mk l) < Builtin.Str.strKind (mk [c])))
    · cases hf : (Builtin.Str.occurrences (mk l) (mk [c]) 0 (mk l).length ((mk l).length + 1)).isEmpty
      · have hn : (Builtin.Str.partsBetween (mk l) (Builtin.Str.occurrences (mk l) (mk [c]) 0 (mk l).length ((mk l).length + 1)) (mk [c]).length).length ≤ sizeLine := by
          have := StrLaws.occ_length_le (mk l) (mk [c]) 0 (mk l).length ((mk l).length + 1)
          unfold Builtin.Str.partsBetween
          rw [List.length_map, List.length_zip]
          simp only [List.length_cons, List.length_map, List.length_append, List.length_nil]
          rw [mk_len] at this ⊢
          omega
        refine call_meets F.slot_str_split (typeIs_str _ _ _) F.entry_str_split (F.args_str_split_2 _ _) (meets_str_split_sep (mk l) (mk [c]) t u h1 hy hf hle hn) ?_
        show wants _ _ _ { s with toks := _, heap := s.heap.push { cls := .type "list", data := .seq (strsFrom s.toks (Builtin.Str.partsBetween (mk l) (Builtin.Str.occurrences (mk l) (mk [c]) 0 (mk l).length ((mk l).length + 1)) (mk [c]).length)).toArray } }
        rw [strsFrom_eq]
        exact key (numbered s.toks _) _ (Nat.le_add_right _ _) ((numbered_texts _ _).trans ((if_neg (ne_true_of_eq_false h1)).trans (if_neg (ne_true_of_eq_false hf))).symm)
      · exact call_meets F.slot_str_split (typeIs_str _ _ _) F.entry_str_split (F.args_str_split_2 _ _) (meets_str_split_not_found (mk l) (mk [c]) t u h1 hy hf)
          (key [(mk l, t)] s.toks (Nat.le_refl _) ((if_neg (ne_true_of_eq_false h1)).trans (if_pos hf)).symm)
    · exact call_meets F.slot_str_split (typeIs_str _ _ _) F.entry_str_split (F.args_str_split_2 _ _) (meets_str_split_cannot_occur (mk l) (mk [c]) t u h1)
        (key [(mk l, t)] s.toks (Nat.le_refl _) (if_pos h1).symm)
-- join
theorem strs_of {m : Mem} : ∀ {ls : List (List Nat)} {vs : List Value}, RdL m (ls.map .str) vs → ∃ q : List (PySem.Str × Tok), vs = strValues q ∧ q.map (·.1) = ls.map mk
  | [], _, x => by cases x; exact ⟨[], rfl, rfl⟩
  | a :: r, _, ⟨v, rs, e, ⟨t, e1⟩, x⟩ => by
    subst e e1
    obtain ⟨q, e2, e3⟩ := strs_of x
    exact ⟨(mk a, t) :: q, by rw [e2]; rfl, by rw [List.map_cons, e3]; rfl⟩
noncomputable def tot (l : List Nat) (ls : List (List Nat)) : Nat := (ls.map List.length).sum + ls.length * l.length
theorem m_join {l : List Nat} {ls : List (List Nat)} (hz : tot l ls ≤ sizeLine) : MethR prog w h0 k "str" "join" "str.join" (.str l) [.lst (ls.map .str)] (.val (.str (jn l ls))) :=
  meth1 F.slot_str_join F.type_str_join fun fl A m s t v O I ⟨a, vs, e, q, rl⟩ => by
    subst e
    obtain ⟨q', e1, e2⟩ := strs_of rl
    subst e1
    refine wpAny_with_toks (Nat.le_refl _) (SC.join (isList_of (seq_in q I.le)) e2 ?_ fun t' k' ht => ⟨m, (Grow.refl I.le).toks _ ht, t', ?_⟩)
    · unfold JoinOk
      rw [StrLaws.joinTotal]
      unfold Builtin.Str.tooLong
      rw [Bool.not_eq_true', decide_eq_false_iff_not]
      rw [List.map_map, List.length_map, mk_len]
      have : (ls.map ((fun x : PySem.Str => x.length) ∘ mk)).sum = (ls.map List.length).sum := by
        exact congrArg List.sum (List.map_congr_left fun y _ => mk_len y)
      rw [this]; unfold tot at hz; omega
    · refine congrArg (Value.str · t') ?_
      show Builtin.Str.glued (mk l) (ls.map mk) = mk (jn l ls)
      rw [StrLaws.glued_eq_join, ← jn_join]
end
section
set_option linter.unusedVariables false
set_option maxRecDepth 100000
variable {prog : Program} {w : World} {h0 : Heap} {C : Cx} {k : Nat} {σ σ' : Sto} {R : Out → Prop}

theorem evalArgs_post {l : List (Bool × Sem Value)} (h1 : l.any (·.1) = false) (f : Value) {A : Around} {s : Shared} {E : Value → Shared → Prop} {P : List Value → Shared → Prop} (h2 : wpAny (model prog w) A (spliced l) P E s)
    {Q : Args → Shared → Prop} (q : ∀ vs s', P vs s' → Q ⟨vs, []⟩ s') : wpAny (model prog w) A (evalArgs f true l []) Q E s := by
  cases l with
  | nil =>
    unfold evalArgs
    show wpAny (model prog w) A (spliced [] >>= _) Q E s
    refine wpAny_bind (wpAny_mono h2 (fun vs s' hh => ?_) fun _ _ f => f)
    refine wpAny_bind (wpAny_pure (wpAny_holding ?_))
    exact wpAny_bind (wpAny_pure (wpAny_bind (wpAny_pure (wpAny_pure (q vs s' hh)))))
  | cons x rest =>
    obtain ⟨b, x⟩ := x
    have hb : b = false := by
      rw [List.any_cons, Bool.or_eq_false_iff] at h1; exact h1.1
    subst hb
    exact Calls.evalArgs_plain (wpAny_mono h2 (fun vs s' hh => q vs s' hh) fun _ _ f => f)
theorem dbl_len (c : Nat) : ∀ l : List Nat, (StrLaws.dbl c l).length ≤ 2 * l.length
  | [] => Nat.le_refl _
  | x :: r => by
    have := dbl_len c r
    unfold StrLaws.dbl
    split <;> simp only [List.length_cons] <;> omega
/-- a text's sign doubled -/
theorem Ev.dbl {o : Expr} {apos pos p1 p2 : Pos} {n1 n2 c : Nat} {l : List Nat} (ho : Ev prog w h0 C k σ o (.str l)) (hz : 4 * l.length + 4 ≤ sizeLine)
    (hbase : ∀ env, attributeBase o "replace" env (eval o env) = eval o env := by intro _; rfl) (hline : (apos.endLine == pos.line) = true := by rfl) :
    Ev prog w h0 C k σ (.Call (.Attribute o "replace" apos) [.Constant (.str ⟨#[c]⟩) n1 p1, .Constant (.str ⟨#[c, c]⟩) n2 p2] [] pos) (.str (StrLaws.dbl c l)) := fun A m s O I => by
  refine wpAny_Call_method (hbase _) ?_ hline F.plainAttrs_str F.slot_str_replace F.type_str_replace ((ho A m s O I).then fun v m₁ s₁ g₁ r₁ => ?_)
  · rw [Bool.and_eq_true, Bool.and_eq_true]
    exact ⟨⟨rfl, rfl⟩, rfl⟩
  have I₁ := I.grow g₁
  have tk := I₁.amb.tk
  obtain ⟨hT, hd⟩ := strIsT m₁ s₁ v I₁.amb.le r₁
  refine ⟨hT, hd, Calls.callWith_builtin rfl (evalArgs_post rfl _ (P := fun vs s' => vs = [.str ⟨#[c]⟩ s₁.toks, .str ⟨#[c, c]⟩ (s₁.toks + 1)] ∧ s' = { s₁ with toks := s₁.toks + 1 + 1 }) ?_ fun vs s' ⟨e1, e2⟩ => ?_)⟩
  · exact Calls.spliced_cons (wpAny_mkText (Calls.spliced_cons (wpAny_mkText (Calls.spliced_nil ⟨rfl, rfl⟩))))
  subst e1 e2
  obtain ⟨t, rfl⟩ := r₁
  have hocc := StrLaws.occ_length_le (mk l) ⟨#[c]⟩ 0 (mk l).length ((mk l).length + 1)
  have hlen : (mk l).length = l.length := mk_len l
  have hl2 : (⟨#[c, c]⟩ : PySem.Str).length = 2 := rfl
  have g : Grow m s m₁ { s₁ with toks := s₁.toks + 1 + 1 } := (g₁.toks (s₁.toks + 1)).toks _
  refine call_gives F.slot_str_replace (typeIs_str _ _ _) F.entry_str_replace (F.args_str_replace_3 _ _ _) (gives_str_replace (mk l) ⟨#[c]⟩ ⟨#[c, c]⟩ t s₁.toks (s₁.toks + 1) fun _ => ⟨?_, ?_, ?_, ?_⟩) ?_
  · rw [Bool.or_eq_false_iff]; exact ⟨beq_eq_false_iff_ne.mpr (Nat.ne_of_gt tk), beq_eq_false_iff_ne.mpr (Nat.succ_ne_zero _)⟩
  · exact beq_eq_false_iff_ne.mpr (Nat.ne_of_lt (Nat.lt_succ_self _))
  · rw [beq_eq_false_iff_ne]; intro e
    have := congrArg PySem.Str.length e
    rw [hl2] at this; cases this
  · unfold Builtin.Str.tooLong
    rw [decide_eq_false_iff_not, hl2]; omega
  · have e := replace_dbl c l
    unfold Txt.replace at e
    split
    · rename_i h
      rw [if_pos h] at e
      exact ⟨m₁, g, t, congrArg (Value.str · t) e⟩
    · rename_i h
      rw [if_neg h] at e
      refine ⟨?_, m₁, g.toks _, s₁.toks + 1 + 1, congrArg (Value.str · (s₁.toks + 1 + 1)) e⟩
      rw [e, mk_len]
      have := dbl_len c l
      omega
-- sep * n
theorem mul_si {c : Nat} {n : Nat} (h : n ≤ sizeLine) : Bin prog w h0 (binaryOp .Mult) (.str [c]) (.int n) (.str (List.replicate n c)) := fun _ _ A m s _ _ _ I ⟨t, e⟩ ⟨u, e'⟩ => by
  subst e e'
  have hz : sizeLine = 16777216 := rfl
  have hl : (mk [c]).length = 1 := rfl
  refine P.mul_str ?_ (fun h1 h2 => ?_) (fun h1 h2 => ?_) ?_
  · rw [Bool.or_eq_false_iff]; exact ⟨decide_eq_false (by omega), decide_eq_false (by omega)⟩
  · rw [hl]
    have h3 : (0 : Int) < n := by omega
    have : (1 : Int) ≤ (2 ^ 63 - 1) / (n : Int) := by
      rw [Int.le_ediv_iff_mul_le h3]; omega
    show ¬ ((1 : Nat) : Int) > _
    omega
  · rw [hl]; unfold Builtin.Str.tooLong; rw [decide_eq_false_iff_not]
    show ¬ 1 * (n : Int).toNat > sizeLine
    omega
  · split
    · rename_i h1
      have : n = 0 := by omega
      subst this
      exact ⟨by decide, m, (Grow.refl I.le).toks _, s.toks, rfl⟩
    · split
      · rename_i h1 h2
        rw [hl, Bool.or_eq_true] at h2
        have : n = 1 := by
          rcases h2 with h2 | h2
          · have := eq_of_beq h2; omega
          · cases h2
        subst this
        exact ⟨m, Grow.refl I.le, t, rfl⟩
      · have e : ∀ (n : Nat) (acc : Array Nat), (List.replicate n (#[c] : Array Nat)).foldl (· ++ ·) acc = acc ++ (List.replicate n c).toArray := by
          intro n
          induction n with
          | zero => intro acc; simp
          | succ n ih =>
            intro acc
            rw [List.replicate_succ, List.foldl_cons, ih, List.replicate_succ]
            apply Array.toList_inj.mp
            simp
        have e2 : (⟨(List.replicate (n : Int).toNat (mk [c]).cps).foldl (· ++ ·) #[]⟩ : PySem.Str) = mk (List.replicate n c) := by
          show (⟨(List.replicate n (#[c] : Array Nat)).foldl (· ++ ·) #[]⟩ : PySem.Str) = _
          rw [e]; simp
        rw [e2]
        exact ⟨by rw [mk_len, List.length_replicate]; exact h, m, (Grow.refl I.le).toks _, s.toks, rfl⟩
-- lists added
theorem add_ll {x y : List D} (hz : x.length + y.length ≤ sizeLine) : Bin prog w h0 (binaryOp .Add) (.lst x) (.lst y) (.lst (x ++ y)) := fun _ _ A m s _ _ _ I ⟨a, vs, e, q, r⟩ ⟨b, us, e', q', r'⟩ => by
  subst e e'
  have h1 := r.length
  have h2 := r'.length
  obtain ⟨⟨cls, dd, data, sl⟩, ho, hc, n, hd⟩ := isList_of (seq_in q I.le)
  obtain ⟨⟨cls2, dd2, data2, sl2⟩, ho2, hc2, n2, hd2⟩ := isList_of (seq_in q' I.le)
  simp only at hc hd hc2 hd2
  subst hc hd hc2 hd2
  have e : vs.toArray ++ us.toArray = (vs ++ us).toArray := by simp
  refine concat_meets ⟨_, ho, rfl⟩ ⟨_, ho2, rfl⟩ noFill_list_add seq_list_add PySem.F.slot_list_add PySem.F.entry_list_add (PySem.F.args_list_add_2 _ _) (list_addW a b vs.toArray us.toArray n n2 dd dd2 sl sl2 (by simp; omega)) ⟨ho, ho2, ?_⟩
  rw [e]
  obtain ⟨m'', g', sq, rl⟩ := grow_seq (T := "list") (Grow.refl I.le) (r.append r')
  exact ⟨m'', g', _, _, rfl, sq, rl⟩
-- in
theorem in_dt {d : D} {l : List D} (hd : d.fit = true) (hl : (D.tup l).plain = true) (h1 : PyData.canLayAll0 (D.pyL l) = true) (h2 : d.py.canLay0 = true) (h3 : d.py.depth ≤ 90) : Bin prog w h0 (compareOp .In) d (.tup l) (.bool ((D.pyL l).any fun y => PyData.eqv y d.py)) :=
  fun _ _ A m s _ _ O I r r' => by
    obtain ⟨as, x⟩ := reads_of I.le d (Bool.and_eq_true_iff.mp hd).1 r
    obtain ⟨bs, y⟩ := reads_of I.le (.tup l) hl r'
    exact PySem.SeqAt.in_tuple_reads y x h1 h2 (by have := O.units; omega) ⟨m, Grow.refl I.le, rfl⟩
end
section
set_option linter.unusedVariables false
set_option maxRecDepth 100000
variable {prog : Program} {w : World} {h0 : Heap} {C : Cx} {k : Nat} {σ σ' : Sto} {R : Out → Prop}

theorem kind_isub : builtinKind "issubclass.nested" = none := by decide +kernel
theorem plain_isub : plainId "issubclass.nested" = true := by decide +kernel
theorem args_isub (a b c : Value) : argsOk "issubclass.nested" ⟨[a, b, c], []⟩ := by unfold argsOk; kernel_rfl
theorem ty_str : typeOf (.type "str") = pure (.type "type") := by rfl
theorem isub_self (dep : Int) (tk : Tok) : Meets (Builtin.«issubclass.nested» ⟨[.type "str", .type "str", .int dep tk], []⟩) (fun _ R s => R (.ok (.ret (.bool true))) s) := by
  intro prog w A R s hs
  have hm := ty_str
  have hself := isSubtype_str_str
  repeat (any_goals (first | assumption | (rw [hself]) | wp_step))
theorem isub_tuple {tp : Addr} {dd : Option Addr} {r : List Value} {items : Array Value} (hi : items.toList = Value.type "str" :: r) {n : Nat} {sl : Array (Option Value)} (tk : Tok) :
    Meets (Builtin.«issubclass.nested» ⟨[.type "str", .ref tp, .int 0 tk], []⟩)
      (fun _ R s => s.heap.get? tp = some ⟨.type "tuple", dd, .seq items n, sl⟩ ∧ R (.ok (.ret (.bool true))) s) := by
  intro prog w A R s hs
  obtain ⟨h, g, d, tt, os⟩ := s
  obtain ⟨htp, hq⟩ := hs
  have hT2 : (⟨h, g, d, tt, os⟩ : Shared).TypeIs (.ref tp) "tuple" := ⟨_, htp, rfl⟩
  have f1 := F.isi_sub_tuple
  unfold Builtin.«issubclass.nested»
  repeat (any_goals (first | assumption | wp_step))
  refine wpAny_arrayLoop ?_
  simp only [Option.getD_some]
  rw [hi, List.forIn_cons]
  refine wpAny_bind (wpAny_bind (call_function_meets kind_isub plain_isub F.entry_issubclass_nested (args_isub _ _ _) (isub_self _ _) ?_))
  show wpAny _ _ (truthy (.bool true) >>= _) _ _ _
  refine wpAny_bind (m := truthy (.bool true)) (wpAny_pure ?_)
  repeat (any_goals (first | assumption | wp_step))
theorem call_issub {f : List D} : Callable prog w h0 k (.builtin "issubclass") [.val (.type "str"), .tup (.val (.type "str") :: f)] (.val (.bool true)) := fun _ A m s vs O I ⟨v, r, e, e1, v', r', e2, ⟨a, us, e3, q, rl⟩, e4⟩ => by
  obtain ⟨u, ur, e5, e6, rl'⟩ := rl
  cases e1; cases e6; subst e e2 e3 e4 e5
  obtain ⟨⟨cls, dd, data, sl⟩, n, ho, hc, hd, hs⟩ := seq_in q I.le
  simp only at hc hd hs
  subst hc hd hs
  exact PyProof.Rows.call_issubclass (S := fun _ R s => s.heap.get? a = some ⟨.type "tuple", Option.none, .seq (Value.type "str" :: ur).toArray n, sl⟩ ∧ R (.ok (.ret (.bool true))) s)
    (fun prog w A R s hs => issubclass_outer (isub_tuple rfl 0 prog w A R s hs)) ⟨ho, m, Grow.refl I.le, rfl⟩
end
section
set_option linter.unusedVariables false
set_option maxRecDepth 100000
variable {prog : Program} {w : World} {h0 : Heap} {C : Cx} {k : Nat} {σ σ' : Sto} {R : Out → Prop}

theorem slot_translate : PySem.Slot "bytes" "translate" "bytes.translate" :=
  .of (owner := "bytes") (n := "translate") (by rw [typeLookup_type, builtinLookup_eq_fast]; kernel_rfl) (by decide +kernel) (by decide +kernel) (by decide +kernel)
    (by first | exact .inl (by decide +kernel) | exact .inr (by decide +kernel)) (by rw [isSubtype_type]; kernel_rfl)
theorem type_translate : typeOf (.builtin "bytes.translate") = pure (.type "method_descriptor") := by show builtinType _ = _; rw [builtinType_eq_fast]; kernel_rfl
theorem entry_translate : entryFor table "bytes.translate" = some Builtin.«bytes.translate» := entryFor_of_tree (by kernel_rfl)
theorem args_translate (a b : Value) : argsOk "bytes.translate" ⟨[a, b], []⟩ := by unfold argsOk; kernel_rfl
theorem entry_maketrans : entryFor table "bytes.maketrans" = some Builtin.«bytes.maketrans» := entryFor_of_tree (by kernel_rfl)
theorem plain_maketrans : plainId "bytes.maketrans" = true := by decide +kernel
theorem kind_maketrans : builtinKind "bytes.maketrans" = some .staticMethod := by decide +kernel
theorem split_maketrans : splitId "bytes.maketrans" = some ("bytes", "maketrans") := by decide +kernel
theorem check_maketrans (a b : Value) : checkBuiltinCall "bytes.maketrans" ⟨[a, b], []⟩ = pure () := by
  simp only [checkBuiltinCall, kind_maketrans, split_maketrans]
  kernel_rfl
noncomputable def ident : Array UInt8 := (Array.range 256).map (·.toUInt8)
noncomputable def tabOf (frm to : List UInt8) : Array UInt8 := (frm.zip to).foldl (fun t (p : UInt8 × UInt8) => t.setIfInBounds p.1.toNat p.2) ident
theorem tab_size (frm to : List UInt8) : (tabOf frm to).size = 256 := by
  have : ∀ (l : List (UInt8 × UInt8)) (t : Array UInt8), (l.foldl (fun t (p : UInt8 × UInt8) => t.setIfInBounds p.1.toNat p.2) t).size = t.size := fun l => by
    induction l with
    | nil => intro t; rfl
    | cons p r ih => intro t; rw [List.foldl_cons, ih, Array.size_setIfInBounds]
  rw [tabOf, this]; simp [ident]
theorem find_maketrans : findCls [] (.type "bytes") (.type "type") "maketrans" = some (.val (.builtin "bytes.maketrans")) := by kernel_rfl
theorem bytes_ty : typeOf (.type "bytes") = pure (.type "type") := by rfl
theorem bytes_stub : Manifest.isStub "bytes" = false := by decide +kernel
section
variable {A : Around} {E : Value → Shared → Prop} {s : Shared}
theorem getm_maketrans {pl : Sem Bool} {Q : Value × List Value → Shared → Prop} (h : Q (.builtin "bytes.maketrans", []) { s with toks := s.toks + 1 }) : wpAny (model prog w) A (getMethod (.type "bytes") "maketrans" pl) Q E s := by
  have X : Frag.In ([] : Frag) s.heap := fun a o e => nomatch e
  have hstub : opaqueClassAbove (.type "bytes") = pure Option.none := by unfold opaqueClassAbove; dsimp only; rw [bytes_stub]; rfl
  have L0 : Looks (model prog w) s.heap (typeOf (.type "bytes")) (.type "type") := Looks.of_pure bytes_ty
  have hg : findIn ([] : Frag) (.type "type") "__getattribute__" = some (some (.builtin "type.__getattribute__")) := type_tga
  unfold getMethod specialOf
  refine wpAny_bind (wpAny_bind (L0.here ((looks_findIn X hg).here ?_)))
  dsimp only
  rw [if_pos canon_tga]
  refine wpAny_bind (wpAny_mono (Q := fun v => Q (v, [])) (E := E) ?_ (fun _ _ z => wpAny_pure z) fun _ _ z => z)
  have LO : Looks (model prog w) s.heap (opaqueClassAbove (.type "bytes")) Option.none := Looks.of_pure hstub
  refine cls_open X LO L0 hg (looks_hook X (r := Option.none) (by rfl)) (by show subIn _ _ _ = _; rfl) find_maketrans
    (wpAny_pure (by show wpAny _ _ (handedOut _) _ _ _; rw [handedOut_of (by rfl)]; exact wpAny_pure h))
theorem maketrans_wp {x y : List UInt8} {t u : Tok} {Q : Value → Shared → Prop} (hl : x.length = y.length) (h : Q (.bytes (tabOf x y) s.toks) { s with toks := s.toks + 1 }) :
    wpAny (model prog w) A (PySem.call (.builtin "bytes.maketrans") [.bytes x.toArray t, .bytes y.toArray u]) Q E s := by
  refine wpAny_call (codeAny_call_builtin plain_maketrans entry_maketrans (wpAny_of_eq (check_maketrans _ _) ?_))
  have bl : ∀ (id : String) (b : List UInt8) (t : Tok), Builtin.Bytes.bytesLike id (.bytes b.toArray t) = pure b.toArray := fun id b t => by
    unfold Builtin.Bytes.bytesLike
    rw [PySem.W.KBy.buffer_eq]; rfl
  have hz : ¬ ((x.toArray.size != y.toArray.size) = true) := by simp [hl]
  show wpAny _ _ (Builtin.Bytes.bytesLike _ (.bytes x.toArray t) >>= fun frm => Builtin.Bytes.bytesLike _ (.bytes y.toArray u) >>= fun to => _) _ _ _
  refine wpAny_bind (wpAny_of_eq (bl _ _ _) (wpAny_bind (wpAny_of_eq (bl _ _ _) ?_)))
  rw [if_neg hz]
  show wpAny _ _ (mkBytes (tabOf x y) >>= _) _ _ _
  refine wpAny_bind (wpAny_mkBytes (wpAny_pure h) (by rw [tab_size]; decide))
noncomputable def trn (tab b : List UInt8) : List UInt8 := b.map fun c => tab.toArray.getD c.toNat c
theorem translate_wp {b tab : List UInt8} {t u : Tok} {Q : Value → Shared → Prop} (ht : tab.length = 256) (hb : b.length ≤ sizeLine) (h1 : Q (.bytes (trn tab b).toArray t) s) (h2 : Q (.bytes (trn tab b).toArray s.toks) { s with toks := s.toks + 1 }) :
    wpAny (model prog w) A (PySem.call (.builtin "bytes.translate") [.bytes b.toArray t, .bytes tab.toArray u]) Q E s := by
  refine wpAny_call_entry slot_translate (PySem.W.typeIs_bytes _ _ _) entry_translate ?_ (args_translate _ _)
  have bl : ∀ (id : String) (b : List UInt8) (t : Tok), Builtin.Bytes.bytesLike id (.bytes b.toArray t) = pure b.toArray := fun id b t => by
    unfold Builtin.Bytes.bytesLike
    rw [PySem.W.KBy.buffer_eq]; rfl
  have hz : ¬ ((tab.toArray.size != 256) = true) := by simp [ht]
  have hout : (b.toArray.filter fun c => !(#[] : Array UInt8).contains c) = b.toArray := by
    apply Array.toList_inj.mp
    rw [Array.toList_filter]
    simp
  have hout2 : ((b.toArray.filter fun c => !(#[] : Array UInt8).contains c).map fun c => tab.toArray.getD c.toNat c) = (trn tab b).toArray := by
    rw [hout]; simp [trn]
  show wpAny _ _ (Builtin.Bytes.bytesLike _ (.bytes tab.toArray u) >>= _) _ _ _
  refine wpAny_bind (wpAny_of_eq (bl _ _ _) ?_)
  rw [if_neg hz]
  show wpAny _ _ (if (((b.toArray.filter fun c => !(#[] : Array UInt8).contains c).map fun c => tab.toArray.getD c.toNat c) == b.toArray) = true then _ else _) _ _ _
  rw [hout2]
  split
  · rename_i hq
    refine wpAny_bind (wpAny_rule ?_)
    have e := eq_of_beq hq
    rw [e] at h1
    exact wpAny_bind (wpAny_pure (wpAny_pure ⟨_, rfl, h1⟩))
  · exact wpAny_bind (wpAny_mkBytes (wpAny_pure ⟨_, rfl, h2⟩) (by simp [trn]; exact hb))
end
theorem m_translate {b tab : List UInt8} (ht : tab.length = 256) (hb : b.length ≤ sizeLine) : MethR prog w h0 k "bytes" "translate" "bytes.translate" (.bytes b) [.bytes tab] (.val (.bytes (trn tab b))) where
  pa := PySem.W.FB.plainAttrs_bytes
  slot := slot_translate
  ty := type_translate
  isT := fun m s v _ ⟨t, e⟩ => by subst e; exact ⟨PySem.W.typeIs_bytes _ _ _, fun _ e => nomatch e⟩
  it := fun fl A m s v vs O I ⟨t, e⟩ ⟨v', r, e1, ⟨u, e3⟩, e2⟩ => by
    subst e e1 e2 e3
    exact translate_wp ht hb ⟨m, Grow.refl I.le, t, rfl⟩ ⟨m, (Grow.refl I.le).toks _, _, rfl⟩
end
section
set_option linter.unusedVariables false
set_option maxRecDepth 100000
variable {prog : Program} {w : World} {h0 : Heap} {C : Cx} {k : Nat} {σ σ' : Sto} {R : Out → Prop}

theorem slot_map_init : PySem.Slot "map" "__init__" "object.__init__" :=
  .of (owner := "object") (n := "__init__") (by rw [typeLookup_type, builtinLookup_eq_fast]; kernel_rfl) (by decide +kernel) (by decide +kernel) (by decide +kernel)
    (by first | exact .inl (by decide +kernel) | exact .inr (by decide +kernel)) (by rw [isSubtype_type]; kernel_rfl)
theorem slot_map_next : PySem.Slot "map" "__next__" "map.__next__" :=
  .of (owner := "map") (n := "__next__") (by rw [typeLookup_type, builtinLookup_eq_fast]; kernel_rfl) (by decide +kernel) (by decide +kernel) (by decide +kernel)
    (by first | exact .inl (by decide +kernel) | exact .inr (by decide +kernel)) (by rw [isSubtype_type]; kernel_rfl)
theorem slot_map_iter : PySem.Slot "map" "__iter__" "map.__iter__" :=
  .of (owner := "map") (n := "__iter__") (by rw [typeLookup_type, builtinLookup_eq_fast]; kernel_rfl) (by decide +kernel) (by decide +kernel) (by decide +kernel)
    (by first | exact .inl (by decide +kernel) | exact .inr (by decide +kernel)) (by rw [isSubtype_type]; kernel_rfl)
theorem entry_map_new : entryFor table "map.__new__" = some Builtin.«map.__new__» := entryFor_of_tree (by kernel_rfl)
theorem entry_map_next : entryFor table "map.__next__" = some Builtin.«map.__next__» := entryFor_of_tree (by kernel_rfl)
theorem entry_map_iter : entryFor table "map.__iter__" = some Builtin.«dict_keyiterator.__iter__» :=
  entryFor_alias (id' := "dict_keyiterator.__iter__") (by kernel_rfl) (by first | rfl | decide +kernel | (unfold String.splitOn; simp +decide [String.splitOnAux])) (by decide +kernel) (by kernel_rfl)
theorem args_map_next (a : Value) : argsOk "map.__next__" ⟨[a], []⟩ := by unfold argsOk; kernel_rfl
theorem args_map_iter (a : Value) : argsOk "map.__iter__" ⟨[a], []⟩ := by unfold argsOk; kernel_rfl
theorem mro_map : mroOf (.type "map") = pure [.type "map", .type "object"] := by rw [mroOf_type]; kernel_rfl
theorem lookup_map_new : typeLookup (.type "map") "__new__" = pure (some (.builtin "map.__new__")) := by rw [typeLookup_type, builtinLookup_eq_fast]; kernel_rfl
theorem called_map : TypeCalled "map" "map.__new__" "object.__init__" :=
  ⟨by decide +kernel, by decide +kernel, ⟨_, _, mro_map⟩, madeBy_type mro_map lookup_map_new (by decide +kernel), by decide +kernel, by rw [isSubtype_type]; kernel_rfl, slot_map_init⟩
theorem typeCall_map (a b : Value) : checkTypeCall "map" ⟨[a, b], []⟩ = pure () := by kernel_rfl
theorem newCall_map (a b : Value) : checkBuiltinCall "map.__new__" ⟨[.type "map", a, b], []⟩ = pure () := by kernel_rfl
theorem args_init3 (o a b : Value) : argsOk "object.__init__" ⟨[o, a, b], []⟩ := by unfold argsOk; kernel_rfl
theorem sub_map : isSubtype (.type "map") (.type "map") = pure true := by rw [isSubtype_type]; kernel_rfl
theorem map_no_len : typeLookup (.type "map") "__len__" = pure none := by rw [typeLookup_type, builtinLookup_eq_fast]; kernel_rfl
theorem map_no_hint : typeLookup (.type "map") "__length_hint__" = pure none := by rw [typeLookup_type, builtinLookup_eq_fast]; kernel_rfl

structure IsMap (h : Heap) (M T I : Addr) (f : Value) : Prop where
  obj : h.get? M = some { cls := .type "map", dict := none, data := .fields #[.ref T, f], slots := #[] }
  tup : ∃ o n, h.get? T = some o ∧ o.data = .seq #[.ref I] n

theorem meets_map_new (f : Value) (l : Addr) (o : Obj) (items : Array Value) (n : Nat) (hc : o.cls = .type "list") (hd : o.data = .seq items n) :
    Meets (Builtin.«map.__new__» ⟨[.type "map", f, .ref l], []⟩) (fun _ R s => s.heap.get? l = some o ∧
      R (.ok (.ret (.ref (s.heap.objs.size + 2))))
        { s with heap := ((s.heap.push { cls := .type "list_iterator", data := .fields #[.ref l, .int 0 0] }).push { cls := .type "tuple", data := .seq #[.ref s.heap.objs.size] }).push { cls := .type "map", data := .fields #[.ref (s.heap.objs.size + 1), f] } }) :=
  .of_wp fun prog w A R s h => by
    obtain ⟨hp, g, d, tk, os⟩ := s; obtain ⟨hl, h⟩ := h
    have hsub := sub_map
    have hL : Heap.IsList (Shared.heap ⟨hp, g, d, tk, os⟩) l items := ⟨_, hl, hc, n, hd⟩
    have e1 : ∀ o : Obj, (hp.push o).objs.size = hp.objs.size + 1 := fun o => Heap.size_push ..
    wp_walk using wpAny_pyIter_list hL
    refine ⟨_, rfl, ?_⟩
    simpa [Heap.size_push] using h
section
variable {A : Around} {E : Value → Shared → Prop} {s : Shared}
theorem call_map_list {f : Value} {l : Addr} {items : Array Value} {Q : Value → Shared → Prop} (hL : s.heap.IsList l items)
    (h : ∀ h', IsMap h' (s.heap.objs.size + 2) (s.heap.objs.size + 1) s.heap.objs.size f → h'.IsListIter s.heap.objs.size l 0 → (∀ b o, s.heap.get? b = some o → h'.get? b = some o) → Q (.ref (s.heap.objs.size + 2)) { s with heap := h' }) :
    wpAny (model prog w) A (PySem.call (.type "map") [f, .ref l]) Q E s := by
  obtain ⟨o, hl, hc, n, hd⟩ := hL
  refine callType_new called_map (by decide) (typeCall_map _ _) (newCall_map _ _) (fun obj => args_init3 obj _ _) entry_map_new (meets_map_new f l o items n hc hd) ⟨hl, ?_⟩
  have z1 : (s.heap.push { cls := .type "list_iterator", data := .fields #[.ref l, .int 0 0] }).objs.size = s.heap.objs.size + 1 := Heap.size_push ..
  have z2 : ((s.heap.push { cls := .type "list_iterator", data := .fields #[.ref l, .int 0 0] }).push { cls := .type "tuple", data := .seq #[.ref s.heap.objs.size] }).objs.size = s.heap.objs.size + 2 := by rw [Heap.size_push, z1]
  have g1 := Heap.get?_push_size ((s.heap.push { cls := .type "list_iterator", data := .fields #[.ref l, .int 0 0] }).push { cls := .type "tuple", data := .seq #[.ref s.heap.objs.size] }) (o := { cls := .type "map", data := .fields #[.ref (s.heap.objs.size + 1), f] }) rfl
  rw [z2] at g1
  have g2 := Heap.get?_push_size (s.heap.push { cls := .type "list_iterator", data := .fields #[.ref l, .int 0 0] }) (o := { cls := .type "tuple", data := .seq #[.ref s.heap.objs.size] }) rfl
  rw [z1] at g2
  refine ⟨⟨_, g1, rfl⟩, h _ ⟨g1, _, _, Heap.get?_push_of_some _ g2, rfl⟩ ⟨_, Heap.get?_push_of_some _ (Heap.get?_push_of_some _ (Heap.get?_push_size _ rfl)), rfl, rfl⟩ fun b o' e => Heap.get?_push_of_some _ (Heap.get?_push_of_some _ (Heap.get?_push_of_some _ e))⟩
theorem pyIter_map {M T I : Addr} {f : Value} {Q : Value → Shared → Prop} (he : IsMap s.heap M T I f) (h : Q (.ref M) s) : wpAny (model prog w) A (pyIter (.ref M)) Q E s := by
  have hT : s.TypeIs (.ref M) "map" := ⟨_, he.obj, rfl⟩
  refine wpAny_pyIter_slot hT slot_map_iter (wpAny_call_entry slot_map_iter hT entry_map_iter ?_ (args_map_iter _))
  show wpAny _ _ (ret (.ref M)) _ _ s
  exact wpAny_pure ⟨_, rfl, "map", _, hT, slot_map_next.lookup, h⟩
theorem pyNext_map_end {M T I l : Addr} {f : Value} {i : Nat} {items : Array Value} {Q : Option Value → Shared → Prop} (hh : A.handled = none) (he : IsMap s.heap M T I f) (hit : s.heap.IsListIter I l i) (hl : s.heap.IsList l items) (hx : items[i]? = none)
    (hQ : ∀ h', Heap.ExtBut I s.heap h' → Q none { s with heap := h' }) : wpAny (model prog w) A (pyNext (.ref M)) Q E s := by
  have hT : s.TypeIs (.ref M) "map" := ⟨_, he.obj, rfl⟩
  obtain ⟨ot, nt, hot, hdt⟩ := he.tup
  unfold pyNext
  refine wpAny_bind (wpAny_attempt (wpAny_callSpecial?_slot (name := Str.ofString "__next__") hT slot_map_next (wpAny_call_entry slot_map_next hT entry_map_next ?_ (args_map_next _))))
  show wpAny _ _ (field (.ref M) 0 >>= _) _ _ _
  refine wpAny_bind (wpAny_field he.obj rfl (x := .ref T) rfl ?_)
  refine wpAny_bind (wpAny_seqItems hot hdt ?_)
  dsimp only
  refine wpAny_bind (wpAny_arrayLoop ?_)
  rw [List.forIn_cons]
  refine wpAny_bind (wpAny_bind (wpAny_holding (wpAny_nextOf_list_end hh hit hl hx fun h' x he' hx' => ?_)))
  obtain ⟨o, ho, hc⟩ := hx'
  refine wpAny_bind (wpAny_isInstance (T := "StopIteration") (b := true) ⟨o, ho, hc⟩ isSubtype_stop ?_)
  exact wpAny_pure (hQ _ he')
theorem pyNext_map_item {M T I l : Addr} {f x : Value} {i : Nat} {items : Array Value} {Q : Option Value → Shared → Prop} (he : IsMap s.heap M T I f) (hit : s.heap.IsListIter I l i) (hl : s.heap.IsList l items) (hx : items[i]? = some x) (hMI : M ≠ I) (hTI : T ≠ I)
    (hQ : ∀ h', h'.IsListIter I l (i + 1) → Heap.SameBut I s.heap h' → wpAny (model prog w) A.in1 (PySem.call f [x]) (fun v s' => Q (some v) s') (fun _ _ => False) { s with heap := h' }) :
    wpAny (model prog w) A (pyNext (.ref M)) Q E s := by
  have hT : s.TypeIs (.ref M) "map" := ⟨_, he.obj, rfl⟩
  obtain ⟨ot, nt, hot, hdt⟩ := he.tup
  unfold pyNext
  refine wpAny_bind (wpAny_attempt (wpAny_callSpecial?_slot (name := Str.ofString "__next__") hT slot_map_next (wpAny_call_entry slot_map_next hT entry_map_next ?_ (args_map_next _))))
  show wpAny _ _ (field (.ref M) 0 >>= _) _ _ _
  refine wpAny_bind (wpAny_field he.obj rfl (x := .ref T) rfl ?_)
  refine wpAny_bind (wpAny_seqItems hot hdt ?_)
  dsimp only
  refine wpAny_bind (wpAny_arrayLoop ?_)
  rw [List.forIn_cons]
  refine wpAny_bind (wpAny_bind (wpAny_holding (wpAny_nextOf_list_item hit hl hx fun h' hit' hs => ?_)))
  refine wpAny_pure ?_
  dsimp only
  rw [List.forIn_nil]
  refine wpAny_pure ?_
  have e : h'.get? M = _ := (hs.2 M hMI).trans he.obj
  refine wpAny_bind (wpAny_field e rfl (x := f) rfl ?_)
  refine wpAny_bind (wpAny_holding (wpAny_mono (hQ h' hit' hs) (fun v s' q => ?_) fun _ _ f => f.elim))
  exact wpAny_bind (wpAny_letGo (wpAny_pure ⟨_, rfl, wpAny_pure q⟩))
end
end
section
set_option linter.unusedVariables false
set_option maxRecDepth 100000
variable {prog : Program} {w : World} {h0 : Heap} {C : Cx} {k : Nat} {σ σ' : Sto} {R : Out → Prop}

/-- amid the walk of a map over a list -/
structure MI (m : Mem) (s : Shared) (f : Value) (a : Addr) (vs : List Value) (M T I S : Addr) (es : List D) (i : Nat) (mi : Mem) (si : Shared) : Prop where
  g : Grow m s mi si
  map : IsMap si.heap M T I f
  it : si.heap.IsListIter I a i
  lst : ∃ acc, SeqAt si.heap.get? "list" S acc ∧ RdL mi (es.take i) acc
  mI : mi I = none
  mS : mi S = none
section
variable {A : Around} {l : List Env} {m : Mem} {s : Shared} {f : Value} {a : Addr} {vs : List Value} {M T I S : Addr} {ds es : List D}
/-- f on each of ds gives es -/
noncomputable def Each (prog : Program) (w : World) (h0 : Heap) (k : Nat) (f : Value) (ds es : List D) : Prop := es.length = ds.length ∧ ∀ (i : Nat) (d e : D), ds[i]? = some d → es[i]? = some e → Callable prog w h0 k f [d] (.val e)
theorem map_loop (hf : Each prog w h0 k f ds es) (hn : ds.length < sizeLine) (O : Ok l (k + 2) A) (Im : Amb h0 l m s) (sq : SeqAt m "list" a vs) (rl : RdL m ds vs) (nI : s.heap.get? I = none) (nS : s.heap.get? S = none)
    (hMI : M ≠ I) (hTI : T ≠ I) (hMS : M ≠ S) (hTS : T ≠ S) (hIS : I ≠ S) (res : Value) {R : Result → Shared → Prop} :
    ∀ (j i : Nat) (mi : Mem) (si : Shared), ds.length - i = j → i ≤ ds.length → MI m s f a vs M T I S es i mi si →
    (∀ m' s' acc, Grow m s m' s' → SeqAt s'.heap.get? "list" S acc → RdL m' es acc → m' S = none → R (.ok (.ret res)) s') →
    codeAny (model prog w) A (.builtin "list.extend.loop" ⟨[.ref S, .ref M, res], []⟩) R si := by
  intro j
  induction j with
  | zero =>
    intro i mi si hj hi x hR
    have hin : i = ds.length := by omega
    subst hin
    refine codeAny_builtin F.entry_extend_loop ?_
    rw [Around.under_plainId F.plain_extend_loop _]
    show wpAny _ A.in1 (pyNext (.ref M) >>= _) _ _ si
    have sq' := seq_in (sq.mono x.g.sub) x.g.le
    refine wpAny_bind (pyNext_map_end (O.hd (by omega)) x.map x.it (isList_of sq') rl.get_none fun h' hx => ?_)
    obtain ⟨acc, q, r⟩ := x.lst
    have g := x.g.changeE hx nI x.mI
    rw [← hf.1, List.take_length] at r
    obtain ⟨o, n, e, c, dd, d⟩ := q
    exact wpAny_pure (hR _ { si with heap := h' } acc g ⟨o, n, hx S o (Ne.symm hIS) e, c, dd, d⟩ r x.mS)
  | succ j ih =>
    intro i mi si hj hi x hR
    have hlt : i < ds.length := by omega
    have hlt' : i < es.length := by rw [hf.1]; exact hlt
    have hd : ds[i]? = some ds[i] := List.getElem?_eq_getElem hlt
    have he : es[i]? = some es[i] := List.getElem?_eq_getElem hlt'
    have cal := hf.2 i _ _ hd he
    obtain ⟨v, hv, rv⟩ := rl.get hd
    refine codeAny_builtin F.entry_extend_loop ?_
    rw [Around.under_plainId F.plain_extend_loop _]
    show wpAny _ A.in1 (pyNext (.ref M) >>= _) _ _ si
    have sq' := seq_in (sq.mono x.g.sub) x.g.le
    refine wpAny_bind (pyNext_map_item x.map x.it (isList_of sq') (by simpa using hv) hMI hTI fun h' hit' hs' => ?_)
    have g₁ := x.g.changeE hs'.extBut nI x.mI
    have O₂ : Ok l k A.in1.in1 := O.in1.in1
    refine Gv.then (cal l A.in1.in1 mi { si with heap := h' } [v] O₂ (Im.grow g₁) ⟨v, [], rfl, rv.mono x.g.sub, rfl⟩) fun r m₂ s₂ g₂ r₂ => ?_
    obtain ⟨acc, q, ra⟩ := x.lst
    have q₁ : SeqAt h'.get? "list" S acc := let ⟨o, n, e, r⟩ := q; ⟨o, n, hs'.extBut S o (Ne.symm hIS) e, r⟩
    obtain ⟨oS, nS', eS, cS, dS, sS⟩ := seq_up (g₂.kept S) q₁
    have hlen := ra.length
    rw [List.length_take, Nat.min_eq_left (Nat.le_of_lt hlt')] at hlen
    show wpAny _ A.in1 (updateSeq S (·.push r) >>= _) _ _ _
    obtain ⟨n', hd'⟩ := Obj.data_mapSeq sS (·.push r)
    have hE := Heap.get?_update_self (Obj.mapSeq (·.push r)) eS (Obj.isFreed_of_seq hd')
    have hU := Heap.SameBut.update (h := s₂.heap) (a := S) (f := Obj.mapSeq (·.push r))
    have g₃ : Grow m s m₂ s₂ := g₁.trans g₂
    have mS₂ : m₂ S = none := by
      cases qq : m₂ S with
      | none => rfl
      | some o' =>
        rcases g₂.new S o' qq with h | h
        · rw [x.mS] at h; cases h
        · obtain ⟨o, n, e, _⟩ := q₁
          rw [show ({ si with heap := h' } : Shared).heap.get? S = h'.get? S from rfl, e] at h; cases h
    have mI₂ : m₂ I = none := by
      cases qq : m₂ I with
      | none => rfl
      | some o' =>
        rcases g₂.new I o' qq with h | h
        · rw [x.mI] at h; cases h
        · obtain ⟨o, e, _⟩ := hit'
          rw [show ({ si with heap := h' } : Shared).heap.get? I = h'.get? I from rfl, e] at h; cases h
    refine wpAny_bind (wpAny_updateSeq eS sS (wpAny_pure ⟨plainId_quiet F.plain_extend_loop _, ih (i + 1) m₂ _ (by omega) hlt ⟨g₃.changeE hU.extBut nS mS₂, ⟨?_, ?_⟩, ?_, ⟨acc ++ [r], ?_, ?_⟩, mI₂, mS₂⟩ hR⟩) ?_ ?_)
    · exact (hU.2 M hMS).trans (g₂.flds _ _ _ ((hs'.2 M hMI).trans x.map.obj) rfl)
    · obtain ⟨o, n, e, d⟩ := x.map.tup
      obtain ⟨o', e', u⟩ := g₂.kept T o ((hs'.2 T hTI).trans e)
      obtain ⟨sl, rfl⟩ := u.same (fun es n q => by rw [d] at q; cases q)
      exact ⟨_, n, (hU.2 T hTS).trans e', d⟩
    · obtain ⟨o, e, c, d⟩ := hit'
      exact ⟨o, (hU.2 I hIS).trans (g₂.flds _ o _ e d), c, d⟩
    · refine ⟨_, n', hE, (Obj.cls_mapSeq ..).trans cS, ?_, by rw [hd']; simp⟩
      obtain ⟨c, d, dt, sl⟩ := oS
      cases dt <;> exact dS
    · rw [List.take_add_one, he]
      exact (ra.mono g₂.sub).snoc r₂
    · simp only [List.size_toArray]; omega
    · simp only [Array.size_push, List.size_toArray]; omega
end
end
section
set_option linter.unusedVariables false
set_option maxRecDepth 100000
variable {prog : Program} {w : World} {h0 : Heap} {C : Cx} {k : Nat} {σ σ' : Sto} {R : Out → Prop}
section
variable {A : Around} {E : Value → Shared → Prop} {l : List Env} {m : Mem} {s : Shared} {f : Value} {a : Addr} {vs : List Value} {M T I : Addr} {ds es : List D}
/-- what holds right behind the making of a map -/
structure MJ (m : Mem) (s : Shared) (f : Value) (a : Addr) (M T I : Addr) (mi : Mem) (si : Shared) : Prop where
  g : Grow m s mi si
  map : IsMap si.heap M T I f
  it : si.heap.IsListIter I a 0
  nI : s.heap.get? I = none
  mI : mi I = none
  MI : M ≠ I
  TI : T ≠ I
theorem map_collect (hf : Each prog w h0 k f ds es) (hn : ds.length < sizeLine) (O : Ok l (k + 3) A) (Im : Amb h0 l m s) (sq : SeqAt m "list" a vs) (rl : RdL m ds vs) {mi : Mem} {si : Shared} (x : MJ m s f a M T I mi si)
    {Q : List Value → Shared → Prop} (hQ : ∀ m' s' acc, Grow m s m' s' → RdL m' es acc → Q acc s') : wpAny (model prog w) A (collect (.ref M)) Q E si := by
  have hM : M < si.heap.objs.size := Heap.lt_size x.map.obj
  have hT : T < si.heap.objs.size := let ⟨_, _, e, _⟩ := x.map.tup; Heap.lt_size e
  have hI : I < si.heap.objs.size := let ⟨_, e, _⟩ := x.it; Heap.lt_size e
  have hSI : si.heap.objs.size ≠ M := Nat.ne_of_gt hM
  unfold collect
  refine wpAny_bind (wpAny_runValue (codeAny_builtin F.entry_proto_collect ?_))
  rw [Around.under_plainId F.plain_proto_collect _]
  show wpAny _ A.in1 (newList [] >>= fun l => again (.builtin "list.__iadd__" ⟨[l, .ref M], []⟩)) _ _ si
  refine wpAny_bind (wpAny_newObj_type ?_)
  refine wpAny_pure ⟨plainId_quiet F.plain_list_iadd _, codeAny_builtin F.entry_list_iadd ?_⟩
  rw [Around.under_plainId F.plain_list_iadd _]
  show wpAny _ A.in1 (Builtin.List.listExtendWith (.ref si.heap.objs.size) (.ref M) (.ref si.heap.objs.size)) _ _ _
  unfold Builtin.List.listExtendWith
  have map₁ : IsMap (si.heap.push { cls := .type "list", data := .seq ([] : List Value).toArray }) M T I f := ⟨Heap.get?_push_of_some _ x.map.obj, let ⟨o, n, e, d⟩ := x.map.tup; ⟨o, n, Heap.get?_push_of_some _ e, d⟩⟩
  have hTy : Shared.TypeIs { si with heap := si.heap.push { cls := .type "list", data := .seq ([] : List Value).toArray } } (.ref M) "map" := ⟨_, map₁.obj, rfl⟩
  refine wpAny_bind (wpAny_typeOf hTy ?_)
  have h1 : Builtin.List.listSameRef (.ref si.heap.objs.size) (.ref M) = false := by simp [Builtin.List.listSameRef, hSI]
  have h2 : (Value.type "map" == Value.type "list") = false := by decide
  have h3 : (Value.type "map" == Value.type "tuple") = false := by decide
  simp only [h1, h2, h3, Bool.or_false, Bool.false_eq_true, if_false]
  refine wpAny_bind (pyIter_map map₁ ?_)
  refine wpAny_bind (wpAny_holding ?_)
  unfold Builtin.List.listLengthHint
  refine wpAny_bind (wpAny_specialOf hTy map_no_len ?_)
  show wpAny _ A.in1 (specialOf (Value.ref M) (Str.ofString "__length_hint__") >>= _) _ _ _
  refine wpAny_bind (wpAny_specialOf hTy map_no_hint ?_)
  refine wpAny_pure ?_
  show wpAny _ A.in1 (rule "list.extend.makes-room" >>= fun _ => Builtin.List.listTouch (.ref si.heap.objs.size) >>= fun _ =>
    again (.builtin "list.extend.loop" ⟨[.ref si.heap.objs.size, .ref M, .ref si.heap.objs.size], []⟩)) _ _ _
  refine wpAny_bind (wpAny_rule ?_)
  have hS₁ : (si.heap.push { cls := .type "list", data := .seq ([] : List Value).toArray }).get? si.heap.objs.size = some { cls := .type "list", data := .seq ([] : List Value).toArray } := Heap.get?_push_size _ rfl
  refine wpAny_bind ?_
  show wpAny _ A.in1 (updateSeq si.heap.objs.size (·.push .none) >>= fun _ => updateSeq si.heap.objs.size (·.pop)) _ _ _
  refine wpAny_bind (wpAny_updateSeq hS₁ rfl ?_)
  have hS₂ := Heap.get?_update_self (Obj.mapSeq (·.push Value.none)) hS₁ rfl
  refine wpAny_updateSeq hS₂ rfl ?_
  have hS₃ := Heap.get?_update_self (Obj.mapSeq (·.pop)) hS₂ rfl
  have oth : ∀ b o, b ≠ si.heap.objs.size → (si.heap.push { cls := .type "list", data := .seq ([] : List Value).toArray }).get? b = some o →
      (((si.heap.push { cls := .type "list", data := .seq ([] : List Value).toArray }).update si.heap.objs.size (Obj.mapSeq (·.push Value.none))).update si.heap.objs.size (Obj.mapSeq (·.pop))).get? b = some o :=
    fun b o hb e => (Heap.get?_update_other _ _ (Ne.symm hb)).trans ((Heap.get?_update_other _ _ (Ne.symm hb)).trans e)
  have nS : s.heap.get? si.heap.objs.size = none := none_back x.g.kept (get_size_none _)
  have mS : mi si.heap.objs.size = none := fresh_none x.g.le (get_size_none _)
  have g₁ := (x.g.push { cls := .type "list", data := .seq ([] : List Value).toArray }).changeE (h' := ((si.heap.push { cls := .type "list", data := .seq ([] : List Value).toArray }).update si.heap.objs.size (Obj.mapSeq (·.push Value.none))).update si.heap.objs.size (Obj.mapSeq (·.pop)))
    (fun b o hb e => oth b o hb e) nS mS
  refine wpAny_pure ⟨plainId_quiet F.plain_extend_loop _, map_loop hf hn (O.le (by omega)) Im sq rl x.nI nS x.MI x.TI (Nat.ne_of_lt hM) (Nat.ne_of_lt hT) (Nat.ne_of_lt hI) _ ds.length 0 mi _ rfl (Nat.zero_le _) ⟨g₁, ⟨?_, ?_⟩, ?_, ⟨[], ⟨_, _, hS₃, rfl, rfl, rfl⟩, by simp [RdL]⟩, x.mI, mS⟩ fun m' s' acc g' q r hm => ?_⟩
  · exact oth M _ (Nat.ne_of_lt hM) map₁.obj
  · obtain ⟨o, n, e, d⟩ := map₁.tup
    exact ⟨o, n, oth T o (Nat.ne_of_lt hT) e, d⟩
  · obtain ⟨o, e, c, d⟩ := x.it
    exact ⟨o, oth I o (Nat.ne_of_lt hI) (Heap.get?_push_of_some _ e), c, d⟩
  · obtain ⟨o, n, e, c, dd, d⟩ := q
    show wpAny _ A (load si.heap.objs.size >>= _) _ _ s'
    refine wpAny_bind (wpAny_load e ?_)
    rw [d]
    exact wpAny_pure (hQ m' s' acc g' r)
theorem tuple_of_map (hf : Each prog w h0 k f ds es) (hn : ds.length < sizeLine) (O : Ok l (k + 6) A) (Im : Amb h0 l m s) (sq : SeqAt m "list" a vs) (rl : RdL m ds vs) {mi : Mem} {si : Shared} (x : MJ m s f a M T I mi si)
    {Q : Value → Shared → Prop} (hQ : ∀ m' s' v, Grow m s m' s' → Rd m' (.tup es) v → Q v s') : wpAny (model prog w) A (PySem.call (.type "tuple") [.ref M]) Q E si := by
  refine callType_codes (Q₁ := fun obj s₁ => s₁.TypeIs obj "tuple" ∧ Q obj s₁) F.called_tuple (F.typeCall_tuple_1 _) F.entry_object_init ?_ fun obj s₁ h₁ => ?_
  · refine codeAny_of_tree ?_
    show wpAny _ A.in1.in1 (do checkBuiltinCall "tuple.__new__" ⟨[.type "tuple", .ref M], []⟩; again (.builtin "tuple.__new__" ⟨[.type "tuple", .ref M], []⟩)) _ _ si
    refine wpAny_bind (wpAny_of_eq (F.newCall_tuple_1 _) (wpAny_pure ⟨plainId_quiet F.plain_tuple_new _, codeAny_builtin F.entry_tuple_new ?_⟩))
    rw [Around.under_plainId F.plain_tuple_new _]
    have hsub := sub_tuple_self
    have hinit := init_tuple_lookup
    have hmh := madeHere_tuple
    have hTI : si.TypeIs (.ref M) "map" := ⟨_, x.map.obj, rfl⟩
    wp_walk using wpAny_typeOf hTI, map_collect hf hn (O.in1.in1.le (by omega)) Im sq rl x
    intro m' s' acc g' r
    show wpAny _ _ (Builtin.Tuple.tupleExact acc.toArray >>= fun v => ret v) _ _ _
    unfold Builtin.Tuple.tupleExact
    have hlen := r.length
    refine wpAny_bind (wpAny_newObj_type ?_ (by show acc.toArray.size ≤ sizeLine; simp only [List.size_toArray, hlen, hf.1]; omega))
    refine wpAny_pure ?_
    obtain ⟨m'', g'', sq'', r''⟩ := grow_seq (T := "tuple") g' r
    exact ⟨⟨_, Heap.get?_push_size _ rfl, rfl⟩, hQ m'' _ _ g'' ⟨_, _, rfl, sq'', r''⟩⟩
  · exact ⟨h₁.1, F.args_object_init_2 obj _, object_init_meets F.called_tuple.init.lookup F.called_tuple.made (by decide) prog w A.in1 _ s₁ ⟨h₁.1, rfl, h₁.2⟩⟩
end
/-- tuple(map(f, l)) -/
theorem Ev.tupleMap {x y : Str} {np np2 p p2 : Pos} {e1 e2 : Expr} {f : Value} {ds es : List D} (hx : Ev prog w h0 C (k + 6) σ (.Name x np) (.val (.type "tuple"))) (hy : Ev prog w h0 C (k + 6) σ (.Name y np2) (.val (.type "map"))) (h1 : Ev prog w h0 C (k + 6) σ e1 (.val f)) (h2 : Ev prog w h0 C (k + 6) σ e2 (.lst ds))
    (hf : Each prog w h0 k f ds es) (hn : ds.length < sizeLine) (n1 : NoStar e1 := by intro _ _; rfl) (n2 : NoStar e2 := by intro _ _; rfl) :
    Ev prog w h0 C (k + 6) σ (.Call (.Name x np) [.Call (.Name y np2) [e1, e2] [] p2] [] p) (.tup es) := fun A m s O I => by
  refine wpAny_Call_ofName ((hx A m s O I).then fun v m₁ s₁ g₁ r₁ => ?_)
  cases r₁
  have I₁ := I.grow g₁
  have ha : EvL prog w h0 C (k + 6) σ [e1, e2] [.val f, .lst ds] := EvL.cons h1 (EvL.cons h2 EvL.nil n2) n1
  refine PyProof.Rows.callWith_type rfl (evalArgs_post rfl _ (P := fun vs s' => ∃ M T I m₂ s₂ m₃ a us, vs = [.ref M] ∧ Grow m s m₂ s₂ ∧ SeqAt m₂ "list" a us ∧ RdL m₂ ds us ∧ MJ m₂ s₂ f a M T I m₃ s') ?_ fun vs s' hh => ?_)
  · refine Calls.spliced_cons ?_
    show wpAny _ A (eval (.Call (.Name y np2) [e1, e2] [] p2) C.env) _ _ _
    refine wpAny_Call_ofName ((hy A m₁ s₁ O I₁).then fun v m₂ s₂ g₂ r₂ => ?_)
    cases r₂
    refine PyProof.Rows.callWith_type (ha.1 p2) (evalArgs_of ha _ p2 O (I₁.grow g₂) fun vs m₃ s₃ g₃ hr => ?_)
    obtain ⟨v1, r1, q1, q2, v2, r2, q3, ⟨a, us, q4, sq, rl⟩, q5⟩ := hr
    cases q2; subst q1 q3 q4 q5
    have g13 := (g₁.trans g₂).trans g₃
    have le := g13.le
    refine call_map_list (isList_of (seq_in sq le)) fun h' hm hit hk => Calls.spliced_nil ⟨s₃.heap.objs.size + 2, s₃.heap.objs.size + 1, s₃.heap.objs.size, m₃, s₃, m₃, a, us, rfl, g13, sq, rl, ⟨⟨Sub.refl _, fun b o e => hk b o (le b o e), fun _ _ e => .inl e, Kept.of hk, fun b o vs e _ => hk b o e, rfl, rfl, Nat.le_refl _⟩, hm, hit, get_size_none _, fresh_none le (get_size_none _), Nat.ne_of_gt (Nat.lt_add_of_pos_right (by decide)), Nat.ne_of_gt (Nat.lt_add_of_pos_right (by decide))⟩⟩
  · obtain ⟨M, T, J, m₂, s₂, m₃, a, us, e, g, sq, rl, x⟩ := hh
    subst e
    exact tuple_of_map hf hn O (I.grow g).amb sq rl x fun m' s' v g' r' => ⟨m', g.trans g', r'⟩
end
section
open AutoSeq1 (wpAny_loadPart')
open MeetsSeq3 (plain_eq_loop entry_eq_loop)
set_option linter.unusedVariables false
set_option maxRecDepth 100000
variable {prog : Program} {w : World} {h0 : Heap} {C : Cx} {k : Nat} {σ σ' : Sto} {R : Out → Prop}

/-- lists of texts in order -/
noncomputable def ltL : List (List Nat) → List (List Nat) → Bool
  | [], ys => decide (0 < ys.length)
  | _ :: _, [] => false
  | x :: xs, y :: ys => if x = y then ltL xs ys else decide (x < y)
noncomputable def gtL : List (List Nat) → List (List Nat) → Bool
  | [], _ => false
  | _ :: _, [] => true
  | x :: xs, y :: ys => if x = y then gtL xs ys else decide (y < x)
theorem strs_at {m : Mem} {ls : List (List Nat)} {vs : List Value} (r : RdL m (ls.map .str) vs) (i : Nat) : (∃ (h : i < ls.length) (t : Tok), vs[i]? = some (.str (mk ls[i]) t)) ∨ (ls.length ≤ i ∧ vs[i]? = none) := by
  by_cases h : i < ls.length
  · obtain ⟨v, hv, t, e⟩ := r.get (i := i) (d := .str ls[i]) (by simp [h])
    exact .inl ⟨h, t, by rw [hv, e]⟩
  · have := r.length
    rw [List.length_map] at this
    exact .inr ⟨by omega, List.getElem?_eq_none (by omega)⟩

theorem lt_loop (l b : Addr) (vs us : List Value) (n n2 : Nat) (dd dd2 : Option Addr) (sl sl2 : Array (Option Value)) {m : Mem} {xs ys : List (List Nat)} (rx : RdL m (xs.map .str) vs) (ry : RdL m (ys.map .str) us) (k : Nat) :
    ∀ i : Nat, xs.length - i = k → i ≤ xs.length → i ≤ ys.length → Meets (Builtin.«list.__eq__.loop» ⟨[.ref l, .ref b, rawInt i, rawInt 0], []⟩)
      (fun A R s => s.heap.get? l = some { cls := .type "list", dict := dd, data := .seq vs.toArray n, slots := sl } ∧ s.heap.get? b = some { cls := .type "list", dict := dd2, data := .seq us.toArray n2, slots := sl2 } ∧
        R (.ok (.ret (.bool (ltL (xs.drop i) (ys.drop i))))) s) := by
  have lx := rx.length
  have ly := ry.length
  rw [List.length_map] at lx ly
  induction k with
  | zero =>
    intro i hk hxi hyi prog w A R s h
    obtain ⟨hp, g, d, tk, os⟩ := s; obtain ⟨hl, hb, h⟩ := h
    generalize hva : vs.toArray = va at hl ⊢
    generalize hua : us.toArray = ua at hb ⊢
    wp_walk using wpAny_loadPart' hl, wpAny_loadPart' hb
    have hi1 : va[((i : Nat) : Int).toNat]? = none := by subst hva; simp; omega
    have hd : xs.drop i = [] := by simp; omega
    rw [hd] at h
    rw [hi1]
    wp_walk using wpAny_loadPart' hl, wpAny_loadPart' hb
    have e : ∀ o : Option Value, (match (none : Option Value), o with | some _, some _ => True | _, _ => False) = False := fun o => by cases o <;> rfl
    have hfin : R (.ok (.ret (.bool (decide (va.size < ua.size))))) ⟨hp, g, d, tk, os⟩ := by
      have : decide (va.size < ua.size) = ltL [] (ys.drop i) := by
        subst hva hua
        simp only [ltL, List.size_toArray, List.length_drop, lx, ly]
        rw [Bool.eq_iff_iff, decide_eq_true_eq, decide_eq_true_eq]; omega
      rw [this]; exact h
    exact hfin
  | succ k ih =>
    intro i hk hxi hyi prog w A R s h
    obtain ⟨hp, g, d, tk, os⟩ := s; obtain ⟨hl, hb, h⟩ := h
    rcases strs_at rx i with ⟨hi, t, e1⟩ | ⟨hi, e1⟩
    rotate_left
    · omega
    have hdx : xs.drop i = xs[i] :: xs.drop (i + 1) := List.drop_eq_getElem_cons hi
    have hc : ((i : Int) + 1) = ((i + 1 : Nat) : Int) := by push_cast; rfl
    generalize hva : vs.toArray = va at hl ⊢
    generalize hua : us.toArray = ua at hb ⊢
    have hi1 : va[((i : Nat) : Int).toNat]? = some (.str (mk xs[i]) t) := by subst hva; simpa using e1
    rcases strs_at ry i with ⟨hi', u, e2⟩ | ⟨hi', e2⟩
    · have hdy : ys.drop i = ys[i] :: ys.drop (i + 1) := List.drop_eq_getElem_cons hi'
      have hi2 : ua[((i : Nat) : Int).toNat]? = some (.str (mk ys[i]) u) := by subst hua; simpa using e2
      rw [hdx, hdy] at h
      wp_walk using wpAny_loadPart' hl, wpAny_loadPart' hb
      rw [hi1, hi2]
      refine wpAny_bind (eqBool_str ?_)
      have hq : ((mk xs[i]) == (mk ys[i])) = decide (xs[i] = ys[i]) := by rw [Bool.eq_iff_iff]; simp
      rw [hq]
      by_cases q : xs[i] = ys[i]
      · rw [ltL, if_pos q] at h
        rw [decide_eq_true q]
        wp_walk
        rw [hc]
        subst hva hua
        exact ⟨plainId_quiet plain_eq_loop _, codeAny_builtin entry_eq_loop (by
          rw [Around.under_plainId plain_eq_loop _]
          exact ih (i + 1) (by omega) hi hi' prog w A R _ ⟨hl, hb, h⟩)⟩
      · rw [ltL, if_neg q] at h
        rw [decide_eq_false q]
        wp_walk using wpAny_loadPart' hl, wpAny_loadPart' hb
        rw [hi1, hi2]
        dsimp only
        refine wpAny_bind (richCompare_gives (op := .Lt) (typeIs_str _ _ _) (typeIs_str _ _ _) F.slot_str_lt F.entry_str_lt (F.args_str_lt_2 _ _) (gives_str_lt _ _ _ _) (fun e => nomatch e) ?_)
        exact wpAny_pure h
    · have hdy : ys.drop i = [] := by simp; omega
      have hi2 : ua[((i : Nat) : Int).toNat]? = none := by subst hua; simpa using e2
      rw [hdx, hdy] at h
      wp_walk using wpAny_loadPart' hl, wpAny_loadPart' hb
      rw [hi1, hi2]
      wp_walk using wpAny_loadPart' hl, wpAny_loadPart' hb
      have hfin : R (.ok (.ret (.bool (decide (va.size < ua.size))))) ⟨hp, g, d, tk, os⟩ := by
        have : decide (va.size < ua.size) = false := by
          subst hva hua
          simp only [List.size_toArray, lx, ly]
          exact decide_eq_false (by omega)
        rw [this]; exact h
      exact hfin
theorem gt_loop (l b : Addr) (vs us : List Value) (n n2 : Nat) (dd dd2 : Option Addr) (sl sl2 : Array (Option Value)) {m : Mem} {xs ys : List (List Nat)} (rx : RdL m (xs.map .str) vs) (ry : RdL m (ys.map .str) us) (k : Nat) :
    ∀ i : Nat, xs.length - i = k → i ≤ xs.length → i ≤ ys.length → Meets (Builtin.«list.__eq__.loop» ⟨[.ref l, .ref b, rawInt i, rawInt 4], []⟩)
      (fun A R s => s.heap.get? l = some { cls := .type "list", dict := dd, data := .seq vs.toArray n, slots := sl } ∧ s.heap.get? b = some { cls := .type "list", dict := dd2, data := .seq us.toArray n2, slots := sl2 } ∧
        R (.ok (.ret (.bool (gtL (xs.drop i) (ys.drop i))))) s) := by
  have lx := rx.length
  have ly := ry.length
  rw [List.length_map] at lx ly
  induction k with
  | zero =>
    intro i hk hxi hyi prog w A R s h
    obtain ⟨hp, g, d, tk, os⟩ := s; obtain ⟨hl, hb, h⟩ := h
    generalize hva : vs.toArray = va at hl ⊢
    generalize hua : us.toArray = ua at hb ⊢
    wp_walk using wpAny_loadPart' hl, wpAny_loadPart' hb
    have hi1 : va[((i : Nat) : Int).toNat]? = none := by subst hva; simp; omega
    have hd : xs.drop i = [] := by simp; omega
    rw [hd] at h
    rw [hi1]
    wp_walk using wpAny_loadPart' hl, wpAny_loadPart' hb
    have e : ∀ o : Option Value, (match (none : Option Value), o with | some _, some _ => True | _, _ => False) = False := fun o => by cases o <;> rfl
    have hfin : R (.ok (.ret (.bool (decide (va.size > ua.size))))) ⟨hp, g, d, tk, os⟩ := by
      have : decide (va.size > ua.size) = gtL [] (ys.drop i) := by
        subst hva hua
        simp only [gtL, List.size_toArray, lx, ly]
        exact decide_eq_false (by omega)
      rw [this]; exact h
    exact hfin
  | succ k ih =>
    intro i hk hxi hyi prog w A R s h
    obtain ⟨hp, g, d, tk, os⟩ := s; obtain ⟨hl, hb, h⟩ := h
    rcases strs_at rx i with ⟨hi, t, e1⟩ | ⟨hi, e1⟩
    rotate_left
    · omega
    have hdx : xs.drop i = xs[i] :: xs.drop (i + 1) := List.drop_eq_getElem_cons hi
    have hc : ((i : Int) + 1) = ((i + 1 : Nat) : Int) := by push_cast; rfl
    generalize hva : vs.toArray = va at hl ⊢
    generalize hua : us.toArray = ua at hb ⊢
    have hi1 : va[((i : Nat) : Int).toNat]? = some (.str (mk xs[i]) t) := by subst hva; simpa using e1
    rcases strs_at ry i with ⟨hi', u, e2⟩ | ⟨hi', e2⟩
    · have hdy : ys.drop i = ys[i] :: ys.drop (i + 1) := List.drop_eq_getElem_cons hi'
      have hi2 : ua[((i : Nat) : Int).toNat]? = some (.str (mk ys[i]) u) := by subst hua; simpa using e2
      rw [hdx, hdy] at h
      wp_walk using wpAny_loadPart' hl, wpAny_loadPart' hb
      rw [hi1, hi2]
      refine wpAny_bind (eqBool_str ?_)
      have hq : ((mk xs[i]) == (mk ys[i])) = decide (xs[i] = ys[i]) := by rw [Bool.eq_iff_iff]; simp
      rw [hq]
      by_cases q : xs[i] = ys[i]
      · rw [gtL, if_pos q] at h
        rw [decide_eq_true q]
        wp_walk
        rw [hc]
        subst hva hua
        exact ⟨plainId_quiet plain_eq_loop _, codeAny_builtin entry_eq_loop (by
          rw [Around.under_plainId plain_eq_loop _]
          exact ih (i + 1) (by omega) hi hi' prog w A R _ ⟨hl, hb, h⟩)⟩
      · rw [gtL, if_neg q] at h
        rw [decide_eq_false q]
        wp_walk using wpAny_loadPart' hl, wpAny_loadPart' hb
        rw [hi1, hi2]
        dsimp only
        refine wpAny_bind (richCompare_gives (op := .Gt) (typeIs_str _ _ _) (typeIs_str _ _ _) F.slot_str_gt F.entry_str_gt (F.args_str_gt_2 _ _) (gives_str_gt _ _ _ _) (fun e => nomatch e) ?_)
        exact wpAny_pure h
    · have hdy : ys.drop i = [] := by simp; omega
      have hi2 : ua[((i : Nat) : Int).toNat]? = none := by subst hua; simpa using e2
      rw [hdx, hdy] at h
      wp_walk using wpAny_loadPart' hl, wpAny_loadPart' hb
      rw [hi1, hi2]
      wp_walk using wpAny_loadPart' hl, wpAny_loadPart' hb
      have hfin : R (.ok (.ret (.bool (decide (va.size > ua.size))))) ⟨hp, g, d, tk, os⟩ := by
        have : decide (va.size > ua.size) = true := by
          subst hva hua
          simp only [List.size_toArray, lx, ly]
          exact decide_eq_true (by omega)
        rw [this]; exact h
      exact hfin

theorem list_ltM (l b : Addr) (vs us : List Value) (n n2 : Nat) (dd dd2 : Option Addr) (sl sl2 : Array (Option Value)) {m : Mem} {xs ys : List (List Nat)} (rx : RdL m (xs.map .str) vs) (ry : RdL m (ys.map .str) us) :
    Meets (Builtin.«list.__lt__» ⟨[.ref l, .ref b], []⟩)
      (fun A R s => s.heap.get? l = some { cls := .type "list", dict := dd, data := .seq vs.toArray n, slots := sl } ∧ s.heap.get? b = some { cls := .type "list", dict := dd2, data := .seq us.toArray n2, slots := sl2 } ∧
        R (.ok (.ret (.bool (ltL xs ys)))) s) := by
  intro prog w A R s h
  obtain ⟨hp, g, d, tk, os⟩ := s; obtain ⟨hl, hb, h⟩ := h
  have f3 := AutoSeq1.sub_list_list
  wp_walk using wpAny_loadPart' hl, wpAny_loadPart' hb
  exact ⟨plainId_quiet plain_eq_loop _, codeAny_builtin entry_eq_loop (by
    rw [Around.under_plainId plain_eq_loop _]
    exact lt_loop l b vs us n n2 dd dd2 sl sl2 rx ry _ 0 rfl (Nat.zero_le _) (Nat.zero_le _) prog w A R _ ⟨hl, hb, by simpa using h⟩)⟩
theorem list_gtM (l b : Addr) (vs us : List Value) (n n2 : Nat) (dd dd2 : Option Addr) (sl sl2 : Array (Option Value)) {m : Mem} {xs ys : List (List Nat)} (rx : RdL m (xs.map .str) vs) (ry : RdL m (ys.map .str) us) :
    Meets (Builtin.«list.__gt__» ⟨[.ref l, .ref b], []⟩)
      (fun A R s => s.heap.get? l = some { cls := .type "list", dict := dd, data := .seq vs.toArray n, slots := sl } ∧ s.heap.get? b = some { cls := .type "list", dict := dd2, data := .seq us.toArray n2, slots := sl2 } ∧
        R (.ok (.ret (.bool (gtL xs ys)))) s) := by
  intro prog w A R s h
  obtain ⟨hp, g, d, tk, os⟩ := s; obtain ⟨hl, hb, h⟩ := h
  have f3 := AutoSeq1.sub_list_list
  wp_walk using wpAny_loadPart' hl, wpAny_loadPart' hb
  exact ⟨plainId_quiet plain_eq_loop _, codeAny_builtin entry_eq_loop (by
    rw [Around.under_plainId plain_eq_loop _]
    exact gt_loop l b vs us n n2 dd dd2 sl sl2 rx ry _ 0 rfl (Nat.zero_le _) (Nat.zero_le _) prog w A R _ ⟨hl, hb, by simpa using h⟩)⟩
/-- how two lists of texts compare -/
noncomputable def CmpD (prog : Program) (w : World) (op : CmpOp) (bt : List (List Nat) → List (List Nat) → Bool) : Prop :=
  ∀ (A : Around) (m : Mem) (s : Shared) (x y : Value) (dx dy : List (List Nat)) (Q : Value → Shared → Prop) (E : Value → Shared → Prop), A.units < cLine → (∀ a o, m a = some o → s.heap.get? a = some o) → Rd m (.lst (dx.map .str)) x → Rd m (.lst (dy.map .str)) y → Q (.bool (bt dx dy)) s → wpAny (model prog w) A (richCompare op x y) Q E s
theorem cmp_lt : CmpD prog w .Lt ltL := fun A m s x y dx dy Q E hu le ⟨a, vs, e, q, r⟩ ⟨b, us, e', q', r'⟩ h => by
  subst e e'
  obtain ⟨⟨c1, d1, t1, sl1⟩, n1, ho1, hc1, hd1, hs1⟩ := seq_in q le
  obtain ⟨⟨c2, d2, t2, sl2⟩, n2, ho2, hc2, hd2, hs2⟩ := seq_in q' le
  simp only at hc1 hd1 hs1 hc2 hd2 hs2
  subst hc1 hd1 hs1 hc2 hd2 hs2
  exact wpAny_richCompare_same_room (op := .Lt) ⟨_, ho1, rfl⟩ ⟨_, ho2, rfl⟩ F.slot_list_lt (call_meets F.slot_list_lt ⟨_, ho1, rfl⟩ F.entry_list_lt (F.args_list_lt_2 _ _) (list_ltM a b vs us _ _ _ _ _ _ r r') ⟨ho1, ho2, (fun e => nomatch e), h⟩) hu
theorem cmp_gt : CmpD prog w .Gt gtL := fun A m s x y dx dy Q E hu le ⟨a, vs, e, q, r⟩ ⟨b, us, e', q', r'⟩ h => by
  subst e e'
  obtain ⟨⟨c1, d1, t1, sl1⟩, n1, ho1, hc1, hd1, hs1⟩ := seq_in q le
  obtain ⟨⟨c2, d2, t2, sl2⟩, n2, ho2, hc2, hd2, hs2⟩ := seq_in q' le
  simp only at hc1 hd1 hs1 hc2 hd2 hs2
  subst hc1 hd1 hs1 hc2 hd2 hs2
  exact wpAny_richCompare_same_room (op := .Gt) ⟨_, ho1, rfl⟩ ⟨_, ho2, rfl⟩ F.slot_list_gt (call_meets F.slot_list_gt ⟨_, ho1, rfl⟩ F.entry_list_gt (F.args_list_gt_2 _ _) (list_gtM a b vs us _ _ _ _ _ _ r r') ⟨ho1, ho2, (fun e => nomatch e), h⟩) hu
end
section
set_option linter.unusedVariables false
set_option maxRecDepth 100000
variable {prog : Program} {w : World} {h0 : Heap} {C : Cx} {k : Nat} {σ σ' : Sto} {R : Out → Prop}

noncomputable abbrev T2 := List (List Nat)
noncomputable def bestL (bt : T2 → T2 → Bool) : T2 → List T2 → T2
  | b, [] => b
  | b, d :: r => bestL bt (if bt d b then d else b) r
noncomputable abbrev lstS (x : T2) : D := .lst (x.map .str)
section
variable {A : Around} {E : Value → Shared → Prop} {m : Mem} {s : Shared} {a I S : Addr} {vs : List Value} {ds : List T2}
theorem min_loop (hh : A.handled = none) (hu : A.units + 10 < cLine) (rl : RdL m (ds.map lstS) vs) (sq : SeqAt m "list" a vs) (nI : s.heap.get? I = none) (nS : s.heap.get? S = none) (mI : m I = none) (mS : m S = none) (hIS : I ≠ S) {R : Result → Shared → Prop} :
    ∀ (k j : Nat) (si : Shared) (vb : Value) (b : T2) (c : Nat), ds.length - j = k → j ≤ ds.length → Grow m s m si → si.heap.IsListIter I a j → Rd m (lstS b) vb → si.heap.get? S = some { cls := .type "list", dict := none, data := .seq #[vb, vb] c, slots := #[] } →
    (∀ v s', Grow m s m s' → Rd m (lstS (bestL ltL b (ds.drop j))) v → R (.ok (.ret v)) s') →
    codeAny (model prog w) A (.builtin "min.loop" ⟨[.ref I, .none, .ref S], []⟩) R si := by
  have hname : (toString "min" ++ toString ".loop" : String) = "min.loop" := by decide
  intro k
  induction k with
  | zero =>
    intro j si vb b c hk hj g hit rb hS hR
    have hin : j = ds.length := by omega
    subst hin
    have hnone := rl.get_none
    rw [List.length_map] at hnone
    refine codeAny_builtin F.entry_min_loop ?_
    rw [Around.under_plainId F.plain_min_loop _]
    show wpAny _ A.in1 (seqItems? (.ref S) >>= _) _ _ si
    refine wpAny_bind (wpAny_seqItems hS rfl ?_)
    show wpAny _ A.in1 (tryCatch (pyNext (.ref I)) _ >>= _) _ _ si
    refine wpAny_bind (wpAny_tryCatch (wpAny_pyNext_list_end hh hit (isList_of (seq_in sq g.le)) hnone fun h' he => ?_))
    have g₁ := g.changeE he nI mI
    have hS' := he S _ (Ne.symm hIS) hS
    dsimp only
    refine wpAny_bind (wpAny_updateSeq (s := { si with heap := h' }) hS' rfl (wpAny_bind (wpAny_letGo (wpAny_pure ?_))))
    rw [List.drop_length] at hR
    exact hR vb _ (g₁.changeE (Heap.SameBut.update ..).extBut nS mS) rb
  | succ k ih =>
    intro j si vb b c hk hj g hit rb hS hR
    have hlt : j < ds.length := by omega
    obtain ⟨v, hv, rv⟩ := rl.get (i := j) (d := lstS ds[j]) (by simp [hlt])
    have hd : ds.drop j = ds[j] :: ds.drop (j + 1) := List.drop_eq_getElem_cons hlt
    rw [hd] at hR
    refine codeAny_builtin F.entry_min_loop ?_
    rw [Around.under_plainId F.plain_min_loop _]
    show wpAny _ A.in1 (seqItems? (.ref S) >>= _) _ _ si
    refine wpAny_bind (wpAny_seqItems hS rfl ?_)
    show wpAny _ A.in1 (tryCatch (pyNext (.ref I)) _ >>= _) _ _ si
    refine wpAny_bind (wpAny_tryCatch (wpAny_pyNext_list_item hit (isList_of (seq_in sq g.le)) (by simpa using hv) fun h' hit' hs' => ?_))
    have g₁ := g.changeE hs'.extBut nI mI
    have hS' : h'.get? S = _ := (hs'.2 S (Ne.symm hIS)).trans hS
    show wpAny _ A.in1 (tryCatch (holding [v, v] (richCompare .Lt v vb >>= _)) _ >>= _) _ _ _
    refine wpAny_bind (wpAny_tryCatch (wpAny_holding (wpAny_bind (cmp_lt A.in1 m { si with heap := h' } v vb ds[j] b _ _ (by show A.units + 1 < _; omega) g₁.le rv rb ?_))))
    refine wpAny_bind (wpAny_holding (wpAny_truthy_bool ?_))
    refine wpAny_bind (wpAny_letGo (wpAny_pure ?_))
    have hU := fun f => Heap.SameBut.update (h := h') (a := S) (f := f)
    cases hb : ltL ds[j] b with
    | true =>
      simp only [if_true]
      refine wpAny_bind ?_
      refine wpAny_updateSeq (s := { si with heap := h' }) hS' rfl (wpAny_bind (wpAny_letGo ?_))
      rw [hname]
      refine wpAny_pure ⟨plainId_quiet F.plain_min_loop _, ih (j + 1) _ v ds[j] _ (by omega) hlt (g₁.changeE (hU _).extBut nS mS) ?_ rv (Heap.get?_update_self _ hS' rfl) fun v' s' g' r' => hR v' s' g' (by rw [bestL, hb]; exact r')⟩
      obtain ⟨o, e, cc, dd⟩ := hit'
      exact ⟨o, ((hU _).2 I hIS).trans e, cc, dd⟩
    | false =>
      simp only [Bool.false_eq_true, if_false]
      refine wpAny_bind (wpAny_letGo ?_)
      rw [hname]
      exact wpAny_pure ⟨plainId_quiet F.plain_min_loop _, ih (j + 1) _ vb b c (by omega) hlt g₁ hit' rb hS' fun v' s' g' r' => hR v' s' g' (by rw [bestL, hb]; exact r')⟩
theorem call_min {d : T2} (hu : A.units + 20 < cLine) (hh : A.handled = none) {v : Value} (le : ∀ a o, m a = some o → s.heap.get? a = some o) (r : Rd m (.lst ((d :: ds).map lstS)) v) {Q : Value → Shared → Prop}
    (hQ : ∀ v s', Grow m s m s' → Rd m (lstS (bestL ltL d ds)) v → Q v s') : wpAny (model prog w) A (PySem.call (.builtin "min") [v]) Q E s := by
  have hname : (toString "min" ++ toString ".loop" : String) = "min.loop" := by decide
  obtain ⟨a, vs, e, sq, rl⟩ := r
  subst e
  refine call_function_tree F.kind_min F.plain_min F.entry_min (F.args_min1 _) ?_
  show wpAny _ A.in1 (Builtin.Builtins.bindParams "min" ["key", "default"] 0 ⟨[], []⟩ >>= _) _ _ s
  refine wpAny_bind (wpAny_of_eq (show Builtin.Builtins.bindParams "min" ["key", "default"] 0 ⟨[], []⟩ = pure [none, none] from rfl) ?_)
  refine wpAny_bind (wpAny_pure ?_)
  refine wpAny_bind (wpAny_pyIter_list (isList_of (seq_in sq le)) ?_)
  refine wpAny_bind (wpAny_newObj_type ?_)
  rw [hname]
  have g0 : Grow m s m { s with heap := (s.heap.push { cls := .type "list_iterator", data := .fields #[.ref a, .int 0 0] }).push { cls := .type "list", data := .seq ([] : List Value).toArray } } := ((Grow.refl le).push _).push _
  have hz : (s.heap.push { cls := .type "list_iterator", data := .fields #[.ref a, .int 0 0] }).objs.size = s.heap.objs.size + 1 := Heap.size_push ..
  have hIS : s.heap.objs.size ≠ s.heap.objs.size + 1 := Nat.ne_of_lt (Nat.lt_succ_self _)
  have nI := get_size_none s.heap
  have nS : s.heap.get? (s.heap.objs.size + 1) = none := Heap.get?_none_of_le (Nat.le_succ _)
  have mI := fresh_none le nI
  have mS := fresh_none le nS
  have hS := Heap.get?_push_size (s.heap.push { cls := .type "list_iterator", data := .fields #[.ref a, .int 0 0] }) (o := { cls := .type "list", data := .seq ([] : List Value).toArray }) rfl
  show wpAny _ _ (again (.builtin "min.loop" ⟨[.ref s.heap.objs.size, .none, .ref (s.heap.push { cls := .type "list_iterator", data := .fields #[.ref a, .int 0 0] }).objs.size], []⟩)) _ _ { s with heap := (s.heap.push { cls := .type "list_iterator", data := .fields #[.ref a, .int 0 0] }).push { cls := .type "list", data := .seq ([] : List Value).toArray } }
  rw [hz] at hS ⊢
  have hit : Heap.IsListIter ((s.heap.push { cls := .type "list_iterator", data := .fields #[.ref a, .int 0 0] }).push { cls := .type "list", data := .seq ([] : List Value).toArray }) s.heap.objs.size a 0 := ⟨_, Heap.get?_push_of_some _ (Heap.get?_push_size _ rfl), rfl, rfl⟩
  generalize (s.heap.push { cls := .type "list_iterator", data := .fields #[.ref a, .int 0 0] }).push { cls := .type "list", data := .seq ([] : List Value).toArray } = h1 at *
  refine wpAny_pure ⟨plainId_quiet F.plain_min_loop _, ?_⟩
  refine codeAny_builtin F.entry_min_loop ?_
  rw [Around.under_plainId F.plain_min_loop _]
  show wpAny _ A.in1 (seqItems? (.ref _) >>= _) _ _ _
  refine wpAny_bind (wpAny_seqItems (s := { s with heap := h1 }) hS rfl ?_)
  show wpAny _ A.in1 (tryCatch (pyNext (.ref _)) _ >>= _) _ _ _
  obtain ⟨v, hv, rv⟩ := rl.get (i := 0) (d := lstS d) (by simp)
  refine wpAny_bind (wpAny_tryCatch (wpAny_pyNext_list_item (s := { s with heap := h1 }) hit (isList_of (seq_in sq g0.le)) (by simpa using hv) fun h' hit' hs' => ?_))
  have hS' : h'.get? (s.heap.objs.size + 1) = _ := (hs'.2 _ (Ne.symm hIS)).trans hS
  have g1 := g0.changeE hs'.extBut nI mI
  have hU := fun f => Heap.SameBut.update (h := h') (a := s.heap.objs.size + 1) (f := f)
  show wpAny _ A.in1 (updateSeq (s.heap.objs.size + 1) (fun _ => #[v, v]) >>= _) _ _ _
  refine wpAny_bind ?_
  refine wpAny_updateSeq (s := { s with heap := h' }) hS' rfl ?_
  rw [hname]
  refine wpAny_pure ⟨plainId_quiet F.plain_min_loop _, min_loop hh (by omega) rl sq nI nS mI mS hIS _ 1 _ v d _ rfl (by simp) (g1.changeE (hU _).extBut nS mS) ?_ rv (Heap.get?_update_self _ hS' rfl) fun v' s' g' r' => hQ v' s' g' r'⟩
  obtain ⟨o, e, cc, dd⟩ := hit'
  exact ⟨o, ((hU _).2 _ hIS).trans e, cc, dd⟩
theorem max_loop (hh : A.handled = none) (hu : A.units + 10 < cLine) (rl : RdL m (ds.map lstS) vs) (sq : SeqAt m "list" a vs) (nI : s.heap.get? I = none) (nS : s.heap.get? S = none) (mI : m I = none) (mS : m S = none) (hIS : I ≠ S) {R : Result → Shared → Prop} :
    ∀ (k j : Nat) (si : Shared) (vb : Value) (b : T2) (c : Nat), ds.length - j = k → j ≤ ds.length → Grow m s m si → si.heap.IsListIter I a j → Rd m (lstS b) vb → si.heap.get? S = some { cls := .type "list", dict := none, data := .seq #[vb, vb] c, slots := #[] } →
    (∀ v s', Grow m s m s' → Rd m (lstS (bestL gtL b (ds.drop j))) v → R (.ok (.ret v)) s') →
    codeAny (model prog w) A (.builtin "max.loop" ⟨[.ref I, .none, .ref S], []⟩) R si := by
  have hname : (toString "max" ++ toString ".loop" : String) = "max.loop" := by decide
  intro k
  induction k with
  | zero =>
    intro j si vb b c hk hj g hit rb hS hR
    have hin : j = ds.length := by omega
    subst hin
    have hnone := rl.get_none
    rw [List.length_map] at hnone
    refine codeAny_builtin F.entry_max_loop ?_
    rw [Around.under_plainId F.plain_max_loop _]
    show wpAny _ A.in1 (seqItems? (.ref S) >>= _) _ _ si
    refine wpAny_bind (wpAny_seqItems hS rfl ?_)
    show wpAny _ A.in1 (tryCatch (pyNext (.ref I)) _ >>= _) _ _ si
    refine wpAny_bind (wpAny_tryCatch (wpAny_pyNext_list_end hh hit (isList_of (seq_in sq g.le)) hnone fun h' he => ?_))
    have g₁ := g.changeE he nI mI
    have hS' := he S _ (Ne.symm hIS) hS
    dsimp only
    refine wpAny_bind (wpAny_updateSeq (s := { si with heap := h' }) hS' rfl (wpAny_bind (wpAny_letGo (wpAny_pure ?_))))
    rw [List.drop_length] at hR
    exact hR vb _ (g₁.changeE (Heap.SameBut.update ..).extBut nS mS) rb
  | succ k ih =>
    intro j si vb b c hk hj g hit rb hS hR
    have hlt : j < ds.length := by omega
    obtain ⟨v, hv, rv⟩ := rl.get (i := j) (d := lstS ds[j]) (by simp [hlt])
    have hd : ds.drop j = ds[j] :: ds.drop (j + 1) := List.drop_eq_getElem_cons hlt
    rw [hd] at hR
    refine codeAny_builtin F.entry_max_loop ?_
    rw [Around.under_plainId F.plain_max_loop _]
    show wpAny _ A.in1 (seqItems? (.ref S) >>= _) _ _ si
    refine wpAny_bind (wpAny_seqItems hS rfl ?_)
    show wpAny _ A.in1 (tryCatch (pyNext (.ref I)) _ >>= _) _ _ si
    refine wpAny_bind (wpAny_tryCatch (wpAny_pyNext_list_item hit (isList_of (seq_in sq g.le)) (by simpa using hv) fun h' hit' hs' => ?_))
    have g₁ := g.changeE hs'.extBut nI mI
    have hS' : h'.get? S = _ := (hs'.2 S (Ne.symm hIS)).trans hS
    show wpAny _ A.in1 (tryCatch (holding [v, v] (richCompare .Gt v vb >>= _)) _ >>= _) _ _ _
    refine wpAny_bind (wpAny_tryCatch (wpAny_holding (wpAny_bind (cmp_gt A.in1 m { si with heap := h' } v vb ds[j] b _ _ (by show A.units + 1 < _; omega) g₁.le rv rb ?_))))
    refine wpAny_bind (wpAny_holding (wpAny_truthy_bool ?_))
    refine wpAny_bind (wpAny_letGo (wpAny_pure ?_))
    have hU := fun f => Heap.SameBut.update (h := h') (a := S) (f := f)
    cases hb : gtL ds[j] b with
    | true =>
      simp only [if_true]
      refine wpAny_bind ?_
      refine wpAny_updateSeq (s := { si with heap := h' }) hS' rfl (wpAny_bind (wpAny_letGo ?_))
      rw [hname]
      refine wpAny_pure ⟨plainId_quiet F.plain_max_loop _, ih (j + 1) _ v ds[j] _ (by omega) hlt (g₁.changeE (hU _).extBut nS mS) ?_ rv (Heap.get?_update_self _ hS' rfl) fun v' s' g' r' => hR v' s' g' (by rw [bestL, hb]; exact r')⟩
      obtain ⟨o, e, cc, dd⟩ := hit'
      exact ⟨o, ((hU _).2 I hIS).trans e, cc, dd⟩
    | false =>
      simp only [Bool.false_eq_true, if_false]
      refine wpAny_bind (wpAny_letGo ?_)
      rw [hname]
      exact wpAny_pure ⟨plainId_quiet F.plain_max_loop _, ih (j + 1) _ vb b c (by omega) hlt g₁ hit' rb hS' fun v' s' g' r' => hR v' s' g' (by rw [bestL, hb]; exact r')⟩
theorem call_max {d : T2} (hu : A.units + 20 < cLine) (hh : A.handled = none) {v : Value} (le : ∀ a o, m a = some o → s.heap.get? a = some o) (r : Rd m (.lst ((d :: ds).map lstS)) v) {Q : Value → Shared → Prop}
    (hQ : ∀ v s', Grow m s m s' → Rd m (lstS (bestL gtL d ds)) v → Q v s') : wpAny (model prog w) A (PySem.call (.builtin "max") [v]) Q E s := by
  have hname : (toString "max" ++ toString ".loop" : String) = "max.loop" := by decide
  obtain ⟨a, vs, e, sq, rl⟩ := r
  subst e
  refine call_function_tree F.kind_max F.plain_max F.entry_max (F.args_max1 _) ?_
  show wpAny _ A.in1 (Builtin.Builtins.bindParams "max" ["key", "default"] 0 ⟨[], []⟩ >>= _) _ _ s
  refine wpAny_bind (wpAny_of_eq (show Builtin.Builtins.bindParams "max" ["key", "default"] 0 ⟨[], []⟩ = pure [none, none] from rfl) ?_)
  refine wpAny_bind (wpAny_pure ?_)
  refine wpAny_bind (wpAny_pyIter_list (isList_of (seq_in sq le)) ?_)
  refine wpAny_bind (wpAny_newObj_type ?_)
  rw [hname]
  have g0 : Grow m s m { s with heap := (s.heap.push { cls := .type "list_iterator", data := .fields #[.ref a, .int 0 0] }).push { cls := .type "list", data := .seq ([] : List Value).toArray } } := ((Grow.refl le).push _).push _
  have hz : (s.heap.push { cls := .type "list_iterator", data := .fields #[.ref a, .int 0 0] }).objs.size = s.heap.objs.size + 1 := Heap.size_push ..
  have hIS : s.heap.objs.size ≠ s.heap.objs.size + 1 := Nat.ne_of_lt (Nat.lt_succ_self _)
  have nI := get_size_none s.heap
  have nS : s.heap.get? (s.heap.objs.size + 1) = none := Heap.get?_none_of_le (Nat.le_succ _)
  have mI := fresh_none le nI
  have mS := fresh_none le nS
  have hS := Heap.get?_push_size (s.heap.push { cls := .type "list_iterator", data := .fields #[.ref a, .int 0 0] }) (o := { cls := .type "list", data := .seq ([] : List Value).toArray }) rfl
  show wpAny _ _ (again (.builtin "max.loop" ⟨[.ref s.heap.objs.size, .none, .ref (s.heap.push { cls := .type "list_iterator", data := .fields #[.ref a, .int 0 0] }).objs.size], []⟩)) _ _ { s with heap := (s.heap.push { cls := .type "list_iterator", data := .fields #[.ref a, .int 0 0] }).push { cls := .type "list", data := .seq ([] : List Value).toArray } }
  rw [hz] at hS ⊢
  have hit : Heap.IsListIter ((s.heap.push { cls := .type "list_iterator", data := .fields #[.ref a, .int 0 0] }).push { cls := .type "list", data := .seq ([] : List Value).toArray }) s.heap.objs.size a 0 := ⟨_, Heap.get?_push_of_some _ (Heap.get?_push_size _ rfl), rfl, rfl⟩
  generalize (s.heap.push { cls := .type "list_iterator", data := .fields #[.ref a, .int 0 0] }).push { cls := .type "list", data := .seq ([] : List Value).toArray } = h1 at *
  refine wpAny_pure ⟨plainId_quiet F.plain_max_loop _, ?_⟩
  refine codeAny_builtin F.entry_max_loop ?_
  rw [Around.under_plainId F.plain_max_loop _]
  show wpAny _ A.in1 (seqItems? (.ref _) >>= _) _ _ _
  refine wpAny_bind (wpAny_seqItems (s := { s with heap := h1 }) hS rfl ?_)
  show wpAny _ A.in1 (tryCatch (pyNext (.ref _)) _ >>= _) _ _ _
  obtain ⟨v, hv, rv⟩ := rl.get (i := 0) (d := lstS d) (by simp)
  refine wpAny_bind (wpAny_tryCatch (wpAny_pyNext_list_item (s := { s with heap := h1 }) hit (isList_of (seq_in sq g0.le)) (by simpa using hv) fun h' hit' hs' => ?_))
  have hS' : h'.get? (s.heap.objs.size + 1) = _ := (hs'.2 _ (Ne.symm hIS)).trans hS
  have g1 := g0.changeE hs'.extBut nI mI
  have hU := fun f => Heap.SameBut.update (h := h') (a := s.heap.objs.size + 1) (f := f)
  show wpAny _ A.in1 (updateSeq (s.heap.objs.size + 1) (fun _ => #[v, v]) >>= _) _ _ _
  refine wpAny_bind ?_
  refine wpAny_updateSeq (s := { s with heap := h' }) hS' rfl ?_
  rw [hname]
  refine wpAny_pure ⟨plainId_quiet F.plain_max_loop _, max_loop hh (by omega) rl sq nI nS mI mS hIS _ 1 _ v d _ rfl (by simp) (g1.changeE (hU _).extBut nS mS) ?_ rv (Heap.get?_update_self _ hS' rfl) fun v' s' g' r' => hQ v' s' g' r'⟩
  obtain ⟨o, e, cc, dd⟩ := hit'
  exact ⟨o, ((hU _).2 _ hIS).trans e, cc, dd⟩
end

theorem callable_min {d : T2} {ds : List T2} : Callable prog w h0 (k + 1) (.builtin "min") [.lst ((d :: ds).map lstS)] (.val (lstS (bestL ltL d ds))) := fun l A m s vs O I ⟨v, r, e, rd, e2⟩ => by
  subst e e2
  exact call_min (by have := O.units; omega) (O.hd (by omega)) I.le rd fun v' s' g r' => ⟨m, g, r'⟩
theorem callable_max {d : T2} {ds : List T2} : Callable prog w h0 (k + 1) (.builtin "max") [.lst ((d :: ds).map lstS)] (.val (lstS (bestL gtL d ds))) := fun l A m s vs O I ⟨v, r, e, rd, e2⟩ => by
  subst e e2
  exact call_max (by have := O.units; omega) (O.hd (by omega)) I.le rd fun v' s' g r' => ⟨m, g, r'⟩
end
section
set_option linter.unusedVariables false
set_option maxRecDepth 100000
variable {prog : Program} {w : World} {h0 : Heap} {C : Cx} {k : Nat} {σ σ' : Sto} {R : Out → Prop}

/-- an expression that is a value at once, the state untouched -/
noncomputable def EvN (prog : Program) (w : World) (h0 : Heap) (C : Cx) (e : Expr) (v : Value) : Prop :=
  ∀ A m σ s (Q : Value → Shared → Prop) (E : Value → Shared → Prop), Inv h0 C m σ s → Q v s → wpAny (model prog w) A (eval e C.env) Q E s
theorem EvN.glob {x : Str} {p : Pos} {mg : Str → Option Value} {v : Value} (hk : C.env.kindOf x = some .globalImplicit) (G : h0.Ns C.env.globals mg) (hv : mg x = some v) (hd : (x == ("__debug__" : Str)) = false := by decide) :
    EvN prog w h0 C (.Name x p) v := fun _ m σ s _ _ I q =>
  Calls.Name_function_global I.frm.fn hk (Calls.loadGlobal_global (G.keeps I.amb.stays) hv q) hd
theorem EvN.bltn {x : Str} {p : Pos} {mg mb : Str → Option Value} {v : Value} (hk : C.env.kindOf x = some .globalImplicit) (G : h0.Ns C.env.globals mg) (hmiss : mg x = Option.none) (B : h0.Ns C.env.builtins mb) (hv : mb x = some v)
    (hd : (x == ("__debug__" : Str)) = false := by decide) : EvN prog w h0 C (.Name x p) v := fun _ m σ s _ _ I q =>
  Calls.Name_function_global I.frm.fn hk (Calls.loadGlobal_builtin (G.keeps I.amb.stays) hmiss (B.keeps I.amb.stays) hv q) hd
theorem EvN.ev {e : Expr} {v : Value} (h : EvN prog w h0 C e v) : Ev prog w h0 C k σ e (.val v) := fun A m s O I => h A m σ s _ _ I ⟨m, Grow.refl I.amb.le, rfl⟩

/-- the exception is data from now on -/
theorem Exc.grow {l : List Env} {m : Mem} {s s' : Shared} {cls : Value} {ds : List D} {e : Value} (am : Amb h0 l m s) (x : Exc h0 l m s cls ds e s') (tk : s.toks ≤ s'.toks) : ∃ m₂, Grow m s m₂ s' ∧ Rd m₂ (.exc cls ds) e := by
  obtain ⟨ea, t, B, m', vs, rfl, F, hB, hs, hn, ⟨ot, nt, ht, htc, htd⟩, hr, ⟨ne, nt'⟩, hf⟩ := x.it
  obtain ⟨oe, ws, he, hec, hed, h0'⟩ := F.first
  have hme : m' ea = none := by
    cases q : m' ea with
    | none => rfl
    | some o => have := hB _ _ q; rw [F.2.1] at this; cases this
  have le' : ∀ a o, m' a = some o → s'.heap.get? a = some o := fun a o q => F.1 a o (hB a o q)
  have hmt : m' t = none ∨ m' t = some ot := by
    cases q : m' t with
    | none => exact .inl rfl
    | some o => rw [le' t o q] at ht; exact .inr ht
  let m₁ := m'.put ea oe
  have h1 : Sub m' m₁ := Mem.put_sub hme
  let m₂ : Mem := fun b => if b = t then some ot else m₁ b
  have h2 : Sub m₁ m₂ := fun b o q => by
    show (if b = t then some ot else m₁ b) = some o
    by_cases hb : b = t
    · subst hb
      rw [if_pos rfl]
      have hm1 : m₁ b = some o := q
      have : m₁ b = if b = ea then some oe else m' b := rfl
      rw [this] at hm1
      by_cases hbe : b = ea
      · subst hbe
        rw [if_pos rfl] at hm1; cases hm1
        rw [he] at ht; exact ht.symm
      · rw [if_neg hbe] at hm1
        rw [le' _ _ hm1] at ht; exact ht.symm
    · rw [if_neg hb]; exact q
  have h12 := h1.trans h2
  refine ⟨m₂, ⟨hs.trans h12, fun b o q => ?_, fun b o q => ?_, x.kept, x.flds, x.gens, x.os, tk⟩, ⟨ea, oe, ws, t, vs, rfl, h2 _ _ (Mem.put_self ..), hec, hed, h0', ⟨ot, nt, if_pos rfl, htc, htd⟩, hr.mono h12⟩⟩
  · have q' : (if b = t then some ot else m₁ b) = some o := q
    by_cases hb : b = t
    · subst hb; rw [if_pos rfl] at q'; cases q'; exact ht
    · rw [if_neg hb] at q'
      have q2 : (if b = ea then some oe else m' b) = some o := q'
      by_cases hbe : b = ea
      · subst hbe; rw [if_pos rfl] at q2; cases q2; exact he
      · rw [if_neg hbe] at q2; exact le' _ _ q2
  · have q' : (if b = t then some ot else m₁ b) = some o := q
    by_cases hb : b = t
    · subst hb; exact .inr nt'
    · rw [if_neg hb] at q'
      have q2 : (if b = ea then some oe else m' b) = some o := q'
      by_cases hbe : b = ea
      · subst hbe; exact .inr ne
      · rw [if_neg hbe] at q2; exact hn _ _ q2
/-- the flight goes on, nothing but the traceback is touched -/
theorem Exc.fly {l : List Env} {m : Mem} {s s' : Shared} {h' : Heap} {cls : Value} {ds : List D} {ea t : Addr} {B : Heap} {m' : Mem} {vs : List Value} (x : Exc h0 l m s cls ds (.ref ea) s') (F : Heap.FlyingW B l ea cls (.ref t) h')
    (hB : ∀ a o, m' a = some o → B.get? a = some o) (hs : Sub m m') (hn : ∀ a o, m' a = some o → m a = some o ∨ s.heap.get? a = none) (ht : Heap.TupAt s'.heap t vs) (hr : RdL m' ds vs) (ne : s.heap.get? ea = none) (nt : s.heap.get? t = none)
    (hf : ∀ a o vs, s.heap.get? a = some o → o.data = .fields vs → B.get? a = some o) (hb : ∀ a o, h0.get? a = some o → B.get? a = some o) (up : s'.heap.UpToSlots h') : Exc h0 l m s cls ds (.ref ea) { s' with heap := h' } := by
  have keepf : ∀ a o vs, s.heap.get? a = some o → o.data = .fields vs → h'.get? a = some o := fun a o vs e d => F.1 a o (hf a o vs e d)
  refine ⟨⟨ea, t, B, m', vs, rfl, F, hB, hs, hn, ht.of_slots up, hr, ⟨ne, nt⟩, hf⟩, fun a o e => F.1 a o (hb a o e), fun a o e => ?_, keepf, x.gens, x.os⟩
  by_cases q : ∃ vs, o.data = .fields vs
  · obtain ⟨vs, q⟩ := q; exact ⟨o, keepf a o vs e q, .refl o⟩
  · obtain ⟨sl, e₁, u₁⟩ := x.kept a o e
    obtain ⟨sl', e₂⟩ := up a _ e₁ (u₁.nf fun vs d => q ⟨vs, d⟩)
    exact ⟨_, e₂, u₁.trans (.inl ⟨sl', rfl⟩)⟩

/-- the handlers of a try, at an exception -/
noncomputable def Hnd (prog : Program) (w : World) (h0 : Heap) (C : Cx) (k : Nat) (σ : Sto) (cls : Value) (ds : List D) (hs : List ExceptHandler) (R : Out → Prop) : Prop :=
  ∀ A m s e s', Ok C.frs k A → Inv h0 C m σ s → Exc h0 C.frs m s cls ds e s' → s.toks ≤ s'.toks → wpAny (model prog w) A (handleBy e C.env hs) (After h0 C m σ s R) (AfterX h0 C m σ s R) s'
/-- a body that raises -/
noncomputable def Fails (prog : Program) (w : World) (h0 : Heap) (C : Cx) (k : Nat) (σ : Sto) (b : List Stmt) (cls : Value) (ds : List D) : Prop :=
  ∀ A m s, Ok C.frs k A → Inv h0 C m σ s → wpAny (model prog w) A (execs b C.env) (fun _ _ => False) (fun e s' => Exc h0 C.frs m s cls ds e s') s
/-- the frame of the names is the first of the frames -/
noncomputable def Own (C : Cx) : Prop := ∃ outer, C.frs = C.env :: outer ∧ C.env.frame = some C.env.locals

theorem Run1.tryX {b : List Stmt} {h₀ : ExceptHandler} {hs : List ExceptHandler} {o : List Stmt} {p : Pos} {cls : Value} {ds : List D} (own : ∃ outer L, C.frs = C.env :: outer ∧ C.env.frame = some L) (hb : Fails prog w h0 C k σ b cls ds) (hh : Hnd prog w h0 C k σ cls ds (h₀ :: hs) R) :
    Run1 prog w h0 C k σ (.Try b (h₀ :: hs) o [] p) R := fun A m s O I => by
  obtain ⟨outer, L, hfr, hf⟩ := own
  refine wpAny_Try_except (wpAny_mono (wpAny_toks (hb A m s O I)) (fun _ _ f => f.2.elim) fun e s₁ ⟨tk, x⟩ => ?_)
  obtain ⟨ea, t, B, m', vs, rfl, F, hB, hs', hn, ht, hr, ⟨ne, nt⟩, hflds⟩ := x.it
  have hb0 : ∀ a o, h0.get? a = some o → B.get? a = some o := fun a o q => hB _ _ (hs' _ _ (I.amb.base a o q))
  have Ofr : A.frames = some (C.env :: outer) := by rw [← hfr]; exact O.fr
  rw [hfr] at F
  refine wpAny_looks_onW Ofr hf F fun h₂ held up₂ => wpAny_landsW held fun h₃ F₃ up₃ => ?_
  rw [← hfr] at F₃
  exact hh A m s _ _ O I (x.fly F₃ hB hs' hn ht hr ne nt hflds hb0 (up₂.trans up₃)) tk
theorem Run1.try {b : List Stmt} {h₀ : ExceptHandler} {hs : List ExceptHandler} {o : List Stmt} {p : Pos} (hb : Run prog w h0 C k σ b (fun r => match r with | .next σ' => Run prog w h0 C k σ' o R | .exc _ _ => False | r => R r)) :
    Run1 prog w h0 C k σ (.Try b (h₀ :: hs) o [] p) R := fun A m s O I => by
  refine wpAny_Try_except (wpAny_mono (hb A m s O I) (fun f s₁ y => ?_) fun e s₁ ⟨_, _, f, _⟩ => f.elim)
  cases f with
  | next =>
    obtain ⟨σ₁, r, ⟨m₁, g₁, I₁⟩, o₁⟩ := y
    exact r.pre O I₁ g₁ o₁
  | _ => exact y

/-- which exceptions a class takes -/
noncomputable def Mtc (prog : Program) (w : World) (h0 : Heap) (cls c : Value) (b : Bool) : Prop :=
  ∀ (A : Around) (s : Shared) (e : Addr) (Q : Bool → Shared → Prop) (E : Value → Shared → Prop), (∀ a o, h0.get? a = some o → s.heap.get? a = some o) → (∃ o, s.heap.get? e = some o ∧ o.cls = cls) → Q b s → wpAny (model prog w) A (excMatches (.ref e) c) Q E s
theorem mtc_K {K : Frag} (X : K.In h0) {cls c : Value} {b : Bool} (hx : exmOne K cls c = some b) (hnb : ∀ o : Obj, o.cls = cls → ∀ (M : Model) (h : Heap) (e : Addr), h.get? e = some o → Looks M h (typeOf (.ref e)) cls) : Mtc prog w h0 cls c b := fun A s e Q E st ⟨o, he, hc⟩ q =>
  (exm_one (X.keeps st) (hnb o hc _ _ e he) hx).here q
theorem looks_ty {o : Obj} {cls : Value} (hc : o.cls = cls) (M : Model) (h : Heap) (e : Addr) (he : h.get? e = some o) : Looks M h (typeOf (.ref e)) cls := fun A Q E s k q => by
  obtain ⟨hp, g, d, tk, os⟩ := s
  subst hc
  unfold typeOf
  exact wpAny_bind (wpAny_loadPart (k _ _ he) (wpAny_pure q))
theorem mtcK {K : Frag} (X : K.In h0) {cls c : Value} {b : Bool} (hx : exmOne K cls c = some b) : Mtc prog w h0 cls c b := mtc_K X hx fun o hc M h e he => looks_ty hc M h e he

theorem Hnd.skip {t : Expr} {n : Option Str} {b : List Stmt} {p : Pos} {rest : List ExceptHandler} {c cls : Value} {ds : List D} (ht : EvN prog w h0 C t c) (hm : Mtc prog w h0 cls c false) (hr : Hnd prog w h0 C k σ cls ds rest R) :
    Hnd prog w h0 C k σ cls ds (.ExceptHandler (some t) n b p :: rest) R := fun A m s e s' O I x tk => by
  obtain ⟨m₂, g, rx⟩ := x.grow I.amb tk
  obtain ⟨ea, oe, ws, t', vs, rfl, he, hc, _⟩ := id rx
  have I₂ := I.grow g
  refine wpAny_handleBy_cons (codeAny_handlers_test (ht _ m₂ σ s' _ _ I₂ (hm _ s' ea _ _ I₂.amb.stays ⟨oe, g.le _ _ he, hc⟩ ?_))) (by intro q; cases q)
  exact hr A m s _ s' O I x tk
end
section
set_option linter.unusedVariables false
set_option maxRecDepth 100000
variable {prog : Program} {w : World} {h0 : Heap} {C : Cx} {k : Nat} {σ σ' : Sto} {R : Out → Prop}

theorem Inv.unname {m : Mem} {s : Shared} {n : Str} {h' : Heap} {tk : Nat} {f : Str → Option Value} {v : Option Value} (I : Inv h0 C m σ s) (u : Upd σ n .un σ') (hl : C.env.kindOf n = some .local) (hn : s.heap.Ns C.env.locals f)
    (hn' : h'.Ns C.env.locals fun x => if x = n then v else f x) (hs : Heap.SameBut C.env.locals s.heap h') (htk : s.toks ≤ tk) :
    GrowW (C.wr ++ owns σ) m s m { s with heap := h', toks := tk } ∧ Inv h0 C m σ' { s with heap := h', toks := tk } ∧ ∀ a ∈ owns σ', a ∈ owns σ := by
  obtain ⟨sl₀, hin, hro⟩ := u.there
  obtain ⟨sb, oa, oc, hsb, eo, eo'⟩ := u.split
  have hW : C.env.locals ∈ C.wr := I.frm.loc
  have hmW : m C.env.locals = none := (I.wr _ (List.mem_append_left _ hW)).1
  have le : ∀ a o, m a = some o → h'.get? a = some o := fun a o e => (hs.2 a fun q => by subst q; rw [hmW] at e; cases e).trans (I.amb.le a o e)
  have nd := I.frm.nodup
  have apart := List.nodup_append.mp I.apart
  have hfr : ∀ L o, s.heap.get? L = some o → ∃ o', h'.get? L = some o' ∧ ((∀ vs, o.data ≠ .fields vs) → ∀ vs, o'.data ≠ .fields vs) := fun L o e => by
    by_cases q : L = C.env.locals
    · subst q
      obtain ⟨o', es, ep, g, d, _⟩ := hn'
      exact ⟨o', g, fun _ vs e => by rw [d] at e; cases e⟩
    · exact ⟨o, (hs.2 L q).trans e, id⟩
  have hloc : ∀ y u', y ≠ n → Loc s.heap C.env y u' → Loc h' C.env y u' := fun y u' hne lo => by
    rcases lo with ⟨a, nk, f', n', e⟩ | ⟨a, c, e, i⟩
    · refine .inl ⟨a, nk, _, hn', ?_⟩
      obtain ⟨o1, es1, ep1, g1, d1, _, v1⟩ := hn
      obtain ⟨o2, es2, ep2, g2, d2, _, v2⟩ := n'
      rw [g1] at g2; cases g2
      rw [d1] at d2; cases d2
      show (if y = n then v else f y) = some u'
      rw [if_neg hne, ← v1 y, v2 y, e]
    · exact .inr ⟨a, c, e, i.sameBut hs fun q => I.frm.cloc y (q ▸ e)⟩
  have osub : ∀ a ∈ owns σ', a ∈ owns σ := fun a ha => by
    rw [eo'] at ha
    rw [eo]
    simp only [slOwn, List.append_nil, List.mem_append] at ha ⊢
    rcases ha with h | h
    · exact .inl (.inl h)
    · exact .inr h
  refine ⟨⟨Sub.refl m, le, fun a o e => .inl e, fun a o n e => ⟨o, (hs.2 a fun q => n (q ▸ List.mem_append_left _ hW)).trans e, .refl o⟩, fun a o vs n e d => (hs.2 a fun q => n (q ▸ List.mem_append_left _ hW)).trans e, hfr, rfl, rfl, htk⟩,
    ⟨⟨I.amb.base, le, ?_, I.amb.out, Nat.lt_of_lt_of_le I.amb.tk htk, I.amb.lim.sameBut hs (I.nst (List.mem_append_left _ hW)).symm, I.amb.stn⟩, by rw [u.keys]; exact I.frm, fun y t hm => ?_, ⟨_, hn'⟩, fun y c e => ?_, fun y d hm => ?_, fun y a l hm => ?_, fun a ha => ?_, fun a ha => ?_, fun a o e => ?_, ?_⟩, osub⟩
  · have : ∀ {l : List Env}, s.heap.FunFrames h0 l → h'.FunFrames h0 l := fun {l} => by
      induction l with
      | nil => exact fun _ => trivial
      | cons e r ih =>
        rintro ⟨hk, ⟨L, o, hf, hn, ho, hd⟩, hr⟩
        obtain ⟨o', ho', hd'⟩ := hfr L o ho
        exact ⟨hk, ⟨L, o', hf, hn, ho', hd' hd⟩, ih hr⟩
    exact this I.amb.frames
  · rcases u.mem nd hm with ⟨rfl, rfl⟩ | ⟨hm, _⟩
    · rcases I.wrt y sl₀ hin with ⟨d, e⟩ | h
      · exact absurd e (hro d)
      · exact .inr h
    · exact I.wrt y t hm
  · obtain ⟨v', i⟩ := I.cells y c e
    exact ⟨v', i.sameBut hs fun q => I.frm.cloc y (q ▸ e)⟩
  · have hm' : ∃ t, (y, t) ∈ σ' ∧ (t = .dat d ∨ t = .ro d) := by
      rcases hm with h | h
      · exact ⟨_, h, .inl rfl⟩
      · exact ⟨_, h, .inr rfl⟩
    obtain ⟨t, hm', ht⟩ := hm'
    rcases u.mem nd hm' with ⟨rfl, rfl⟩ | ⟨hm', hne⟩
    · rcases ht with ht | ht <;> cases ht
    · obtain ⟨u', lo, r⟩ := I.dat y d (ht.elim (fun e => .inl (e ▸ hm')) fun e => .inr (e ▸ hm'))
      exact ⟨u', hloc y u' hne lo, r⟩
  · rcases u.mem nd hm with ⟨rfl, e⟩ | ⟨hm, hne⟩
    · cases e
    · obtain ⟨lo, vs, ⟨o, j, e, r'⟩, r⟩ := I.own y a l hm
      exact ⟨hloc y _ hne lo, vs, ⟨o, j, (hs.2 a fun q => apart.2.2 _ hW _ (owns_mem hm) q.symm).trans e, r'⟩, r⟩
  · rcases List.mem_append.mp ha with h | h
    · exact I.wr a (List.mem_append_left _ h)
    · exact I.wr a (List.mem_append_right _ (osub a h))
  · have ha' : a ∈ C.wr ++ owns σ := (List.mem_append.mp ha).elim (List.mem_append_left _) fun h => List.mem_append_right _ (osub a h)
    obtain ⟨o, e⟩ := I.std a ha'
    obtain ⟨o', e', _⟩ := hfr a o e
    exact ⟨o', e'⟩
  · obtain ⟨o', e'⟩ := I.ent a o e
    obtain ⟨o'', e'', _⟩ := hfr a o' e'
    exact ⟨o'', e''⟩
  · have ap := I.apart
    rw [eo] at ap
    rw [eo']
    exact ap.sublist (List.Sublist.append (List.Sublist.refl _) (List.Sublist.append (List.Sublist.append (List.Sublist.refl _) (List.nil_sublist _)) (List.Sublist.refl _)))

theorem Ok.mark {l : List Env} {A : Around} (x : Ok l k A) (v : Option Value) : Ok l 0 (A.mark v) :=
  ⟨fun h => absurd h (Nat.lt_irrefl 0), x.fr, by have := x.depth; show A.depth + 0 < _; omega, by have := x.units; show A.units + 4 * 0 + 100 < _; omega⟩
/-- an exception taken, without a name -/
theorem Hnd.take {t : Expr} {b₀ : Stmt} {b : List Stmt} {p : Pos} {rest : List ExceptHandler} {c cls : Value} {ds : List D} (ht : EvN prog w h0 C t c) (hm : Mtc prog w h0 cls c true)
    (hb : Run prog w h0 C 0 σ (b₀ :: b) (fun r => match r with | .exc _ _ => False | r => R r)) :
    Hnd prog w h0 C k σ cls ds (.ExceptHandler (some t) none (b₀ :: b) p :: rest) R := fun A m s e s' O I x tk => by
  obtain ⟨m₂, g, rx⟩ := x.grow I.amb tk
  obtain ⟨ea, oe, ws, t', vs, rfl, he, hc, _⟩ := id rx
  have I₂ := I.grow g
  refine wpAny_handleBy_cons (codeAny_handlers_test (ht _ m₂ σ s' _ _ I₂ (hm _ s' ea _ _ I₂.amb.stays ⟨oe, g.le _ _ he, hc⟩ ?_))) (by intro q; cases q)
  show codeAny _ _ _ _ _
  obtain ⟨ea', t, B, m', vs, e1, F, hB, hs', hn, hti, hr, ⟨ne, nt⟩, hflds⟩ := x.it
  cases e1
  have hb0 : ∀ a o, h0.get? a = some o → B.get? a = some o := fun a o q => hB _ _ (hs' _ _ (I.amb.base a o q))
  refine codeAny_handlers_suite (lands_againW F fun h₆ F₆ up₆ => ?_)
  have x₆ := x.fly F₆ hB hs' hn hti hr ne nt hflds hb0 up₆
  obtain ⟨m₆, g₆, rx₆⟩ := x₆.grow I.amb tk
  have I₆ := I.grow g₆
  refine wpAny_mono (hb (A.mark _) m₆ _ (O.mark _) I₆) (fun f s₇ y => ?_) fun e s₇ ⟨_, _, ff, _⟩ => ff.elim
  have y' := y.pre (g₆.toW (C.wr ++ owns σ)) fun _ h => .inl h
  cases f with
  | ret v => exact y'
  | next => exact y'
  | brk => exact y'
  | cont => exact y'
/-- the name of a handler goes -/
theorem nameGoes {A : Around} {m : Mem} {s : Shared} {n : Str} {pos : Pos} {Q : Unit → Shared → Prop} {E : Value → Shared → Prop} (I : Inv h0 C m σ s) (u : Upd σ n .un σ') (hl : C.env.kindOf n = some .local)
    (q : ∀ s', GrowW (C.wr ++ owns σ) m s m s' → Inv h0 C m σ' s' → (∀ a ∈ owns σ', a ∈ owns σ) → Q () s') : wpAny (model prog w) A (do bindName C.env n .none; unbindBehindTheSuite C.env n pos) Q E s := by
  obtain ⟨f, hn⟩ := I.ns
  refine wpAny_nameGoes_keeps hl hn (by rw [I.frm.fn]; rfl) fun h' v hn' hs => ?_
  obtain ⟨g, I', o⟩ := I.unname u hl hn hn' hs (Nat.le_succ _)
  exact q _ g I' o
section
variable {A : Around} {m : Mem} {s s' : Shared} {t : Expr} {n : Str} {b₀ : Stmt} {b : List Stmt} {p : Pos} {rest : List ExceptHandler} {c cls : Value} {ds : List D} {σ₁ : Sto} {e : Value}
theorem take_wp (ht : EvN prog w h0 C t c) (hm : Mtc prog w h0 cls c true) (O : Ok C.frs k A) (I : Inv h0 C m σ s) (x : Exc h0 C.frs m s cls ds e s') (tk : s.toks ≤ s'.toks) (u : Upd σ n (.dat (.exc cls ds)) σ₁) {Q : Flow → Shared → Prop} {E : Value → Shared → Prop}
    (h : ∀ m₃ s₃ A', Ok C.frs 0 A' → GrowW (C.wr ++ owns σ) m s m₃ s₃ → Inv h0 C m₃ σ₁ s₃ → wpAny (model prog w) A' (execs (b₀ :: b) C.env) (fun f s₄ => wpAny (model prog w) A (do bindName C.env n .none; unbindBehindTheSuite C.env n p) (fun _ s₅ => Q f s₅) E s₄) (fun _ _ => False) s₃) :
    wpAny (model prog w) A (handleBy e C.env (.ExceptHandler (some t) (some n) (b₀ :: b) p :: rest)) Q E s' := by
  obtain ⟨m₂, g, rx⟩ := x.grow I.amb tk
  obtain ⟨ea, oe, ws, t', vs, rfl, he, hc, _⟩ := id rx
  have I₂ := I.grow g
  refine wpAny_handleBy_cons (codeAny_handlers_test (ht _ m₂ σ s' _ _ I₂ (hm _ s' ea _ _ I₂.amb.stays ⟨oe, g.le _ _ he, hc⟩ ?_))) (by intro q; cases q)
  show codeAny _ _ _ _ _
  obtain ⟨ea', t, B, m', vs, e1, F, hB, hs', hn, hti, hr, ⟨ne, nt⟩, hflds⟩ := x.it
  cases e1
  have hb0 : ∀ a o, h0.get? a = some o → B.get? a = some o := fun a o q => hB _ _ (hs' _ _ (I.amb.base a o q))
  refine codeAny_handlers_suite_as (lands_againW F fun h₆ F₆ up₆ => ?_)
  have x₆ := x.fly F₆ hB hs' hn hti hr ne nt hflds hb0 up₆
  obtain ⟨m₆, g₆, rx₆⟩ := x₆.grow I.amb tk
  have I₆ := I.grow g₆
  refine store I₆ u rx₆ fun s₇ g₇ I₇ => ?_
  exact wpAny_mono (h m₆ s₇ (A.mark _) (O.mark _) ((g₆.toW _).trans g₇ fun _ h => .inl h) I₇) (fun f s₈ y => y) fun e s₈ ff => ff.elim
end
/-- an exception taken, with a name -/
theorem Hnd.takeAs {t : Expr} {n : Str} {b₀ : Stmt} {b : List Stmt} {p : Pos} {rest : List ExceptHandler} {c cls : Value} {ds : List D} {σ₁ : Sto} (ht : EvN prog w h0 C t c) (hm : Mtc prog w h0 cls c true) (hl : C.env.kindOf n = some .local)
    (u : Upd σ n (.dat (.exc cls ds)) σ₁) (hb : Run prog w h0 C 0 σ₁ (b₀ :: b) (fun r => match r with | .next σ₂ => ∃ σ₃, Upd σ₂ n .un σ₃ ∧ R (.next σ₃) | _ => False)) :
    Hnd prog w h0 C k σ cls ds (.ExceptHandler (some t) (some n) (b₀ :: b) p :: rest) R := fun A m s e s' O I x tk => by
  refine take_wp ht hm O I x tk u fun m₃ s₃ A' O' g₃ I₃ => ?_
  have o₁ : ∀ a ∈ owns σ₁, a ∈ owns σ ∨ s.heap.get? a = none := fun a h => .inl (u.owns_dat a h)
  refine wpAny_mono (hb A' m₃ s₃ O' I₃) (fun f s₄ y => ?_) fun e s₄ ⟨_, _, ff, _⟩ => ff.elim
  cases f with
  | next =>
    obtain ⟨σ₂, ⟨σ₃, u₃, r⟩, at'⟩ := y
    obtain ⟨⟨m₄, g₄, I₄⟩, o₄⟩ := At.trans g₃ o₁ at'
    refine nameGoes I₄ u₃ hl fun s₅ g₅ I₅ o₅ => ⟨σ₃, r, ⟨m₄, g₄.trans g₅ (wmono o₄), I₅⟩, fun a ha => o₄ a (o₅ a ha)⟩
  | brk => obtain ⟨_, f, _⟩ := y; exact f.elim
  | cont => obtain ⟨_, f, _⟩ := y; exact f.elim
  | ret v => obtain ⟨_, f, _⟩ := y; exact f.elim
/-- an exception taken, with a name, and a return -/
theorem Hnd.takeRet {t ex : Expr} {n : Str} {p rp : Pos} {rest : List ExceptHandler} {c cls : Value} {ds : List D} {σ₁ σ₃ : Sto} {d : D} (ht : EvN prog w h0 C t c) (hm : Mtc prog w h0 cls c true) (hl : C.env.kindOf n = some .local)
    (u : Upd σ n (.dat (.exc cls ds)) σ₁) (u₃ : Upd σ₁ n .un σ₃) (hb : Ev prog w h0 C 0 σ₁ ex d) (r : R (.ret d)) :
    Hnd prog w h0 C k σ cls ds (.ExceptHandler (some t) (some n) [.Return (some ex) rp] p :: rest) R := fun A m s e s' O I x tk => by
  refine take_wp ht hm O I x tk u fun m₃ s₃ A' O' g₃ I₃ => ?_
  have o₁ : ∀ a ∈ owns σ₁, a ∈ owns σ ∨ s.heap.get? a = none := fun a h => .inl (u.owns_dat a h)
  refine wpAny_execs_cons (wpAny_Return_some ((hb A' m₃ s₃ O' I₃).then fun v m₄ s₄ g₄ r₄ => ?_))
  show wpAny _ A _ _ _ _
  have I₄ := I₃.grow g₄
  refine nameGoes I₄ u₃ hl fun s₅ g₅ I₅ o₅ => ⟨d, r, m₄, (g₃.trans (g₄.toW (C.wr ++ owns σ)) fun _ h => .inl h).trans g₅ (wmono o₁), r₄⟩
end
section
open PySem.NumText
set_option linter.unusedVariables false
set_option maxRecDepth 100000
variable {prog : Program} {w : World} {h0 : Heap} {C : Cx} {k : Nat} {σ σ' : Sto} {R : Out → Prop}
theorem bytesOf_str (x : PySem.Str) (u : Tok) : (int_private% "bytesOf?") (.str x u) = pure none := rfl
noncomputable def msgOf (x : PySem.Str) : PySem.Str := Str.ofString (toString "invalid literal for int() with base " ++ toString 10 ++ toString ": ") ++ ⟨(reprText x).cps.extract 0 200⟩
end
section
set_option linter.unusedVariables false
set_option maxRecDepth 100000
variable {prog : Program} {w : World} {h0 : Heap} {C : Cx} {k : Nat} {σ σ' : Sto} {R : Out → Prop}

theorem Fails.append {x : Str} {np ap p q : Pos} {e : Expr} {a : Addr} {l : List D} {cls : Value} {ds : List D} {rest : List Stmt} (hx : (x, Sl.own a l) ∈ σ) (h : EvR prog w h0 C k σ e (.exc cls ds))
    (hn : NoStar e := by intro _ _; rfl) (hl : (ap.endLine == p.line) = true := by rfl) : Fails prog w h0 C k σ (.Expr (.Call (.Attribute (.Name x np) "append" ap) [e] [] p) q :: rest) cls ds := fun A m s O I => by
  refine wpAny_execs_cons (wpAny_Expr_any ?_ I.inter rfl)
  obtain ⟨lo, vs, sq, rd⟩ := I.own x a l hx
  have e1 : backTo p (starEach [e] C.env) = [(false, eval e C.env)] := by rw [hn]; rfl
  refine wpAny_Call_append rfl (by rw [e1]; rfl) hl e1 (name_wp I.frm.fn (I.nodbg hx) lo ⟨a, vs.toArray, rfl, ?_, ?_⟩)
  · obtain ⟨o, n, e, c, dd, ss⟩ := sq
    exact ⟨o, n, e, c, dd, ss⟩
  exact (h A m s O I).thenX fun e s' x => x
theorem Fails.ret {e : Expr} {p : Pos} {cls : Value} {ds : List D} {rest : List Stmt} (h : EvR prog w h0 C k σ e (.exc cls ds)) : Fails prog w h0 C k σ (.Return (some e) p :: rest) cls ds := fun A m s O I =>
  wpAny_execs_cons (wpAny_Return_some ((h A m s O I).thenX fun e s' x => x))
/-- raise of the text's own class -/
theorem Run1.raiseOwn {x : Str} {np cpos pos : Pos} {es : List Expr} {ds : List D} {Cl : Addr} {mg : Str → Option Value} {bm bmN : List Value} {newId inN nid initId B Bn : String} (Ow : OwnCls x Cl bm newId mg h0) (Fn : ExcBaseFacts Bn newId inN bmN) (hBn : bm.contains (.type Bn) = true) (FB : ExcBaseFacts B nid initId bm)
    (hx : EvN prog w h0 C (.Name x np) (.ref Cl)) (he : EvL prog w h0 C k σ es ds) (hz : ds.length ≤ sizeLine) (r : R (.exc (.ref Cl) ds)) (hk : 0 < k := by omega) : Run1 prog w h0 C k σ (.Raise (some (.Call (.Name x np) es [] cpos)) none pos) R := fun A m s O I => by
  obtain ⟨tl, N, nm, q, bs, hdct, sn, sub, ab, col, dd, k0, k1, k2, k3, k5, mN, hC, hN, hni, T⟩ := Ow.obj
  refine wpAny_Raise_call_subU (C := Cl) (nm := nm) (q := q) (N := N) (bs := bs) (bm := tl) (hdct := hdct) (sn := sn) (sub := sub) (ab := ab) (col := col) (dd := dd) (k0 := k0) (k1 := k1) (k2 := k2) (k3 := k3) (k5 := k5)
    Fn hBn FB (mN := mN) (T.hasType FB.hasBase) (O.hd hk) (he.1 cpos) hni (hx A m σ s _ _ I ⟨rfl, evalArgs_of he _ cpos O I fun vs m₂ s₂ g₂ rd => ?_⟩)
  have I₂ := I.grow g₂
  refine ⟨rfl, by rw [rd.length]; exact hz, I₂.amb.stays _ _ hC, hN.keeps I₂.amb.stays, T.keeps I₂.amb.stays, fun h' e hm => ⟨_, ds, r, .inr ⟨m₂, s₂, e, vs, g₂.toW _, I₂.amb, rfl, rd, hm, rfl, rfl⟩⟩⟩
/-- raise of a built-in class -/
theorem Run1.raiseB {x : Str} {np cpos pos : Pos} {es : List Expr} {ds : List D} {cls newId initId : String} (F : ExcCallFacts cls newId initId) (G : ExcRaiseFacts cls)
    (hx : EvN prog w h0 C (.Name x np) (.type cls)) (he : EvL prog w h0 C k σ es ds) (hz : ds.length ≤ sizeLine) (r : R (.exc (.type cls) ds)) (hk : 0 < k := by omega) : Run1 prog w h0 C k σ (.Raise (some (.Call (.Name x np) es [] cpos)) none pos) R := fun A m s O I => by
  refine wpAny_Raise_call F G (O.hd hk) (he.1 cpos) (hx A m σ s _ _ I ⟨rfl, evalArgs_of he _ cpos O I fun vs m₂ s₂ g₂ rd => ⟨rfl, by show vs.length ≤ _; rw [rd.length]; exact hz, fun h' e hm => ?_⟩⟩)
  exact ⟨_, ds, r, .inr ⟨m₂, s₂, e, vs, g₂.toW _, (I.grow g₂).amb, rfl, rd, hm.of, rfl, rfl⟩⟩
-- str(error)
theorem call_str_exc {cls : String} {n : String} (FX : ExcStrFacts cls n) {x : List Nat} : Callable prog w h0 k (.type "str") [.exc (.type cls) [.str x]] (.val (.str x)) := fun l A m s vs O I H => by
  obtain ⟨v, r, e, ⟨a, o, ws, t, us, e1, ho, hc, hd, h0', ⟨ot, nt, hot, hct, hdt⟩, ⟨u, ur, e2, ⟨tk, e3⟩, e4⟩⟩, e5⟩ := H
  subst e e1 e2 e3 e4 e5
  exact P.str_of_exc_one FX (by have := O.units; omega) ⟨o, ws, I.le _ _ ho, hc, hd, h0'⟩ ⟨ot, nt, I.le _ _ hot, hct, hdt⟩ ⟨m, Grow.refl I.le, _, rfl⟩
section
variable {A : Around} {E : Value → Shared → Prop} {s : Shared}
theorem bexcStr_own {e t : Addr} {o : Obj} {ws : Array Value} {x : PySem.Str} {tk : Tok} {Q : Fin → Shared → Prop} (he : s.heap.get? e = some o) (hd : o.data = .fields ws) (h0' : ws[0]? = some (.ref t)) (ht : s.heap.TupAt t [.str x tk]) (hq : Q (.done (.ret (.str x tk))) s) :
    wpAny (model prog w) A (Builtin.«BaseException.__str__» ⟨[.ref e], []⟩) Q E s := by
  have hb : ∀ {M : Model} {A : Around} {E : Value → Shared → Prop} {Q : Value × List Value → Shared → Prop}, Q (.ref t, [.str x tk]) s → wpAny M A (Builtin.BaseException.bexcArgs (.ref e)) Q E s := fun hq => by
    obtain ⟨ot, k, hto, _, htd⟩ := ht
    unfold Builtin.BaseException.bexcArgs
    exact wpAny_bind (wpAny_field he hd h0' (wpAny_bind (wpAny_seqItems hto htd (wpAny_pure hq))))
  unfold Builtin.«BaseException.__str__»
  repeat (first | with_reducible refine hb ?_ | wp_step)
  exact hq
theorem bind_bexcStr (self : Value) : bindSpecial (.builtin "BaseException.__str__") self = pure (.builtin "BaseException.__str__", [self]) := by
  have ht : typeOf (.builtin "BaseException.__str__") = pure (.type "wrapper_descriptor") := by show builtinType _ = _; rw [builtinType_eq_fast]; kernel_rfl
  unfold bindSpecial
  rw [ht]; rfl
theorem kind_bexcStr : builtinKind "BaseException.__str__" = some .slot := by decide +kernel
theorem split_bexcStr : splitId "BaseException.__str__" = some ("BaseException", "__str__") := by decide +kernel
theorem plain_bexcStr : plainId "BaseException.__str__" = true := by decide +kernel
theorem strOf_own {K : Frag} (X : K.In h0) {Cl : Addr} (hf : findIn K (.ref Cl) "__str__" = some (some (.builtin "BaseException.__str__"))) (hs : subIn K (.ref Cl) (.type "BaseException") = some true) {e t : Addr} {o : Obj} {ws : Array Value} {x : PySem.Str} {tk : Tok}
    {Q : Value → Shared → Prop} (st : ∀ a o, h0.get? a = some o → s.heap.get? a = some o) (he : s.heap.get? e = some o) (hc : o.cls = .ref Cl) (hd : o.data = .fields ws) (h0' : ws[0]? = some (.ref t)) (ht : s.heap.TupAt t [.str x tk]) (hu : A.units < cLine) (hq : Q (.str x tk) s) :
    wpAny (model prog w) A (Builtin.Str.strOf (.ref e)) Q E s := by
  have X' : K.In s.heap := X.keeps st
  have LT : ∀ M, Looks M s.heap (typeOf (.ref e)) (.ref Cl) := fun M => looks_ty hc M s.heap e he
  have LL : ∀ M, Looks M s.heap (typeLookup (.ref Cl) "__str__") (some (.builtin "BaseException.__str__")) := fun M => looks_findIn X' hf
  have LS : ∀ M, Looks M s.heap (isSubtype (.ref Cl) (.type "BaseException")) true := fun M => looks_subIn X' hs
  have hcall : ∀ {Q : Value → Shared → Prop}, Q (.str x tk) s → wpAny (model prog w) A (PySem.call (.builtin "BaseException.__str__") [.ref e]) Q E s := fun hq => by
    refine wpAny_call (codeAny_call_builtin plain_bexcStr F.entry_bexc_str ?_)
    have ha := F.args_bexc_str (.ref e)
    unfold argsOk at ha
    simp only [checkBuiltinCall, kind_bexcStr, split_bexcStr]
    obtain ⟨hh, g, d, tt, os⟩ := s
    refine wpAny_bind ?_
    · unfold isInstance
      refine wpAny_bind ((LT _).here ?_)
      refine (LS _).here ?_
      rw [if_neg (by decide)]
      exact wpAny_of_eq ha (bexcStr_own he hd h0' ht hq)
  have f1 := isSubtype_str_str
  unfold Builtin.Str.strOf
  repeat (first | with_reducible refine wpAny_cRoomFor hu ?_ | wp_step)
  rw [hc]
  refine (LL _).here ?_
  dsimp only
  refine wpAny_holding (wpAny_bind (wpAny_of_eq (bind_bexcStr _) ?_))
  dsimp only
  refine wpAny_bind (hcall ?_)
  repeat (first | wp_step)
  exact hq
end
theorem call_str_own {K : Frag} (X : K.In h0) {Cl : Addr} (hf : findIn K (.ref Cl) "__str__" = some (some (.builtin "BaseException.__str__"))) (hs : subIn K (.ref Cl) (.type "BaseException") = some true) {x : List Nat} :
    Callable prog w h0 k (.type "str") [.exc (.ref Cl) [.str x]] (.val (.str x)) := fun l A m s vs O I H => by
  obtain ⟨v, r, e, ⟨a, o, ws, t, us, e1, ho, hc, hd, h0', ⟨ot, nt, hot, hct, hdt⟩, ⟨u, ur, e2, ⟨tk, e3⟩, e4⟩⟩, e5⟩ := H
  subst e e1 e2 e3 e4 e5
  exact callType_new F.called_str (by decide) (F.typeCall_str_1 _) (F.newCall_str_1 _) (fun obj => F.args_object_init_2 obj _) F.entry_str_new
    (meets_str_new (S := fun A' R s' => A'.units + 1 < cLine ∧ (∀ b q, h0.get? b = some q → s'.heap.get? b = some q) ∧ s'.heap.get? a = some o ∧ s'.heap.TupAt t [.str (mk x) tk] ∧ R (.ok (.ret (.str (mk x) tk))) s')
      fun _ _ A' _ _ hq => strOf_own (A := A'.in1) X hf hs hq.2.1 hq.2.2.1 hc hd h0' hq.2.2.2.1 hq.1 hq.2.2.2.2)
    ⟨(by have := O.units; show A.units + 1 + 1 < cLine; omega), I.stays, I.le _ _ ho, ⟨ot, nt, I.le _ _ hot, hct, hdt⟩, typeIs_str _ _ _, m, Grow.refl I.le, _, rfl⟩
end
section
set_option maxRecDepth 100000
theorem len1 {vs : List Value} (h : vs.length = 1) : ∃ a, vs = [a] := List.length_eq_one_iff.mp h
theorem lenS {vs : List Value} {n : Nat} (h : vs.length = n + 1) : ∃ a r, vs = a :: r ∧ r.length = n := by
  cases vs with
  | nil => cases h
  | cons a r => exact ⟨a, r, rfl, Nat.succ.inj h⟩
theorem len2 {vs : List Value} (h : vs.length = 2) : ∃ a b, vs = [a, b] := by
  obtain ⟨a, r, rfl, h'⟩ := lenS h
  obtain ⟨b, rfl⟩ := len1 h'
  exact ⟨a, b, rfl⟩
theorem len3 {vs : List Value} (h : vs.length = 3) : ∃ a b c, vs = [a, b, c] := by
  obtain ⟨a, r, rfl, h'⟩ := lenS h
  obtain ⟨b, c, rfl⟩ := len2 h'
  exact ⟨a, b, c, rfl⟩
theorem len4 {vs : List Value} (h : vs.length = 4) : ∃ a b c d, vs = [a, b, c, d] := by
  obtain ⟨a, r, rfl, h'⟩ := lenS h
  obtain ⟨b, c, d, rfl⟩ := len3 h'
  exact ⟨a, b, c, d, rfl⟩
noncomputable def stA (i : Nat) : Stmt := P0.main.body.getD i (.Pass ⟨0, 0, 0, 0⟩)
noncomputable def p_fspath : Arguments := by
  refine (?f : ∀ a b c d e f g h i j, P0.main.body[9]? = some (Stmt.FunctionDef a b c d e f g h i j) → Arguments) _ _ _ _ _ _ _ _ _ _ rfl
  exact fun a b c d e f g h i j _ => b
noncomputable def b_fspath : List Stmt := by
  refine (?f : ∀ a b c d e f g h i j, P0.main.body[9]? = some (Stmt.FunctionDef a b c d e f g h i j) → List Stmt) _ _ _ _ _ _ _ _ _ _ rfl
  exact fun a b c d e f g h i j _ => c
noncomputable def sc_fspath : Scope := by
  refine (?f : ∀ a b c d e f g h i j, P0.main.body[9]? = some (Stmt.FunctionDef a b c d e f g h i j) → Scope) _ _ _ _ _ _ _ _ _ _ rfl
  exact fun a b c d e f g h i j _ => g
noncomputable def pos_fspath : Pos := by
  refine (?f : ∀ a b c d e f g h i j, P0.main.body[9]? = some (Stmt.FunctionDef a b c d e f g h i j) → Pos) _ _ _ _ _ _ _ _ _ _ rfl
  exact fun a b c d e f g h i j _ => j
noncomputable def p__get_sep : Arguments := by
  refine (?f : ∀ a b c d e f g h i j, P0.main.body[13]? = some (Stmt.FunctionDef a b c d e f g h i j) → Arguments) _ _ _ _ _ _ _ _ _ _ rfl
  exact fun a b c d e f g h i j _ => b
noncomputable def b__get_sep : List Stmt := by
  refine (?f : ∀ a b c d e f g h i j, P0.main.body[13]? = some (Stmt.FunctionDef a b c d e f g h i j) → List Stmt) _ _ _ _ _ _ _ _ _ _ rfl
  exact fun a b c d e f g h i j _ => c
noncomputable def sc__get_sep : Scope := by
  refine (?f : ∀ a b c d e f g h i j, P0.main.body[13]? = some (Stmt.FunctionDef a b c d e f g h i j) → Scope) _ _ _ _ _ _ _ _ _ _ rfl
  exact fun a b c d e f g h i j _ => g
noncomputable def pos__get_sep : Pos := by
  refine (?f : ∀ a b c d e f g h i j, P0.main.body[13]? = some (Stmt.FunctionDef a b c d e f g h i j) → Pos) _ _ _ _ _ _ _ _ _ _ rfl
  exact fun a b c d e f g h i j _ => j
noncomputable def p_join : Arguments := by
  refine (?f : ∀ a b c d e f g h i j, P0.main.body[14]? = some (Stmt.FunctionDef a b c d e f g h i j) → Arguments) _ _ _ _ _ _ _ _ _ _ rfl
  exact fun a b c d e f g h i j _ => b
noncomputable def b_join : List Stmt := by
  refine (?f : ∀ a b c d e f g h i j, P0.main.body[14]? = some (Stmt.FunctionDef a b c d e f g h i j) → List Stmt) _ _ _ _ _ _ _ _ _ _ rfl
  exact fun a b c d e f g h i j _ => c
noncomputable def sc_join : Scope := by
  refine (?f : ∀ a b c d e f g h i j, P0.main.body[14]? = some (Stmt.FunctionDef a b c d e f g h i j) → Scope) _ _ _ _ _ _ _ _ _ _ rfl
  exact fun a b c d e f g h i j _ => g
noncomputable def pos_join : Pos := by
  refine (?f : ∀ a b c d e f g h i j, P0.main.body[14]? = some (Stmt.FunctionDef a b c d e f g h i j) → Pos) _ _ _ _ _ _ _ _ _ _ rfl
  exact fun a b c d e f g h i j _ => j
noncomputable def p_split : Arguments := by
  refine (?f : ∀ a b c d e f g h i j, P0.main.body[15]? = some (Stmt.FunctionDef a b c d e f g h i j) → Arguments) _ _ _ _ _ _ _ _ _ _ rfl
  exact fun a b c d e f g h i j _ => b
noncomputable def b_split : List Stmt := by
  refine (?f : ∀ a b c d e f g h i j, P0.main.body[15]? = some (Stmt.FunctionDef a b c d e f g h i j) → List Stmt) _ _ _ _ _ _ _ _ _ _ rfl
  exact fun a b c d e f g h i j _ => c
noncomputable def sc_split : Scope := by
  refine (?f : ∀ a b c d e f g h i j, P0.main.body[15]? = some (Stmt.FunctionDef a b c d e f g h i j) → Scope) _ _ _ _ _ _ _ _ _ _ rfl
  exact fun a b c d e f g h i j _ => g
noncomputable def pos_split : Pos := by
  refine (?f : ∀ a b c d e f g h i j, P0.main.body[15]? = some (Stmt.FunctionDef a b c d e f g h i j) → Pos) _ _ _ _ _ _ _ _ _ _ rfl
  exact fun a b c d e f g h i j _ => j
noncomputable def p_commonpath : Arguments := by
  refine (?f : ∀ a b c d e f g h i j, P0.main.body[16]? = some (Stmt.FunctionDef a b c d e f g h i j) → Arguments) _ _ _ _ _ _ _ _ _ _ rfl
  exact fun a b c d e f g h i j _ => b
noncomputable def b_commonpath : List Stmt := by
  refine (?f : ∀ a b c d e f g h i j, P0.main.body[16]? = some (Stmt.FunctionDef a b c d e f g h i j) → List Stmt) _ _ _ _ _ _ _ _ _ _ rfl
  exact fun a b c d e f g h i j _ => c
noncomputable def sc_commonpath : Scope := by
  refine (?f : ∀ a b c d e f g h i j, P0.main.body[16]? = some (Stmt.FunctionDef a b c d e f g h i j) → Scope) _ _ _ _ _ _ _ _ _ _ rfl
  exact fun a b c d e f g h i j _ => g
noncomputable def pos_commonpath : Pos := by
  refine (?f : ∀ a b c d e f g h i j, P0.main.body[16]? = some (Stmt.FunctionDef a b c d e f g h i j) → Pos) _ _ _ _ _ _ _ _ _ _ rfl
  exact fun a b c d e f g h i j _ => j
noncomputable def p__buffer : Arguments := by
  refine (?f : ∀ a b c d e f g h i j, P0.main.body[18]? = some (Stmt.FunctionDef a b c d e f g h i j) → Arguments) _ _ _ _ _ _ _ _ _ _ rfl
  exact fun a b c d e f g h i j _ => b
noncomputable def b__buffer : List Stmt := by
  refine (?f : ∀ a b c d e f g h i j, P0.main.body[18]? = some (Stmt.FunctionDef a b c d e f g h i j) → List Stmt) _ _ _ _ _ _ _ _ _ _ rfl
  exact fun a b c d e f g h i j _ => c
noncomputable def sc__buffer : Scope := by
  refine (?f : ∀ a b c d e f g h i j, P0.main.body[18]? = some (Stmt.FunctionDef a b c d e f g h i j) → Scope) _ _ _ _ _ _ _ _ _ _ rfl
  exact fun a b c d e f g h i j _ => g
noncomputable def pos__buffer : Pos := by
  refine (?f : ∀ a b c d e f g h i j, P0.main.body[18]? = some (Stmt.FunctionDef a b c d e f g h i j) → Pos) _ _ _ _ _ _ _ _ _ _ rfl
  exact fun a b c d e f g h i j _ => j
noncomputable def p__truth : Arguments := by
  refine (?f : ∀ a b c d e f g h i j, P0.main.body[19]? = some (Stmt.FunctionDef a b c d e f g h i j) → Arguments) _ _ _ _ _ _ _ _ _ _ rfl
  exact fun a b c d e f g h i j _ => b
noncomputable def b__truth : List Stmt := by
  refine (?f : ∀ a b c d e f g h i j, P0.main.body[19]? = some (Stmt.FunctionDef a b c d e f g h i j) → List Stmt) _ _ _ _ _ _ _ _ _ _ rfl
  exact fun a b c d e f g h i j _ => c
noncomputable def sc__truth : Scope := by
  refine (?f : ∀ a b c d e f g h i j, P0.main.body[19]? = some (Stmt.FunctionDef a b c d e f g h i j) → Scope) _ _ _ _ _ _ _ _ _ _ rfl
  exact fun a b c d e f g h i j _ => g
noncomputable def pos__truth : Pos := by
  refine (?f : ∀ a b c d e f g h i j, P0.main.body[19]? = some (Stmt.FunctionDef a b c d e f g h i j) → Pos) _ _ _ _ _ _ _ _ _ _ rfl
  exact fun a b c d e f g h i j _ => j
noncomputable def p_b2a_base64 : Arguments := by
  refine (?f : ∀ a b c d e f g h i j, P0.main.body[21]? = some (Stmt.FunctionDef a b c d e f g h i j) → Arguments) _ _ _ _ _ _ _ _ _ _ rfl
  exact fun a b c d e f g h i j _ => b
noncomputable def b_b2a_base64 : List Stmt := by
  refine (?f : ∀ a b c d e f g h i j, P0.main.body[21]? = some (Stmt.FunctionDef a b c d e f g h i j) → List Stmt) _ _ _ _ _ _ _ _ _ _ rfl
  exact fun a b c d e f g h i j _ => c
noncomputable def sc_b2a_base64 : Scope := by
  refine (?f : ∀ a b c d e f g h i j, P0.main.body[21]? = some (Stmt.FunctionDef a b c d e f g h i j) → Scope) _ _ _ _ _ _ _ _ _ _ rfl
  exact fun a b c d e f g h i j _ => g
noncomputable def pos_b2a_base64 : Pos := by
  refine (?f : ∀ a b c d e f g h i j, P0.main.body[21]? = some (Stmt.FunctionDef a b c d e f g h i j) → Pos) _ _ _ _ _ _ _ _ _ _ rfl
  exact fun a b c d e f g h i j _ => j
noncomputable def p_b64encode : Arguments := by
  refine (?f : ∀ a b c d e f g h i j, P0.main.body[23]? = some (Stmt.FunctionDef a b c d e f g h i j) → Arguments) _ _ _ _ _ _ _ _ _ _ rfl
  exact fun a b c d e f g h i j _ => b
noncomputable def b_b64encode : List Stmt := by
  refine (?f : ∀ a b c d e f g h i j, P0.main.body[23]? = some (Stmt.FunctionDef a b c d e f g h i j) → List Stmt) _ _ _ _ _ _ _ _ _ _ rfl
  exact fun a b c d e f g h i j _ => c
noncomputable def sc_b64encode : Scope := by
  refine (?f : ∀ a b c d e f g h i j, P0.main.body[23]? = some (Stmt.FunctionDef a b c d e f g h i j) → Scope) _ _ _ _ _ _ _ _ _ _ rfl
  exact fun a b c d e f g h i j _ => g
noncomputable def pos_b64encode : Pos := by
  refine (?f : ∀ a b c d e f g h i j, P0.main.body[23]? = some (Stmt.FunctionDef a b c d e f g h i j) → Pos) _ _ _ _ _ _ _ _ _ _ rfl
  exact fun a b c d e f g h i j _ => j
noncomputable def p_parse229 : Arguments := by
  refine (?f : ∀ a b c d e f g h i j, P0.main.body[28]? = some (Stmt.FunctionDef a b c d e f g h i j) → Arguments) _ _ _ _ _ _ _ _ _ _ rfl
  exact fun a b c d e f g h i j _ => b
noncomputable def b_parse229 : List Stmt := by
  refine (?f : ∀ a b c d e f g h i j, P0.main.body[28]? = some (Stmt.FunctionDef a b c d e f g h i j) → List Stmt) _ _ _ _ _ _ _ _ _ _ rfl
  exact fun a b c d e f g h i j _ => c
noncomputable def sc_parse229 : Scope := by
  refine (?f : ∀ a b c d e f g h i j, P0.main.body[28]? = some (Stmt.FunctionDef a b c d e f g h i j) → Scope) _ _ _ _ _ _ _ _ _ _ rfl
  exact fun a b c d e f g h i j _ => g
noncomputable def pos_parse229 : Pos := by
  refine (?f : ∀ a b c d e f g h i j, P0.main.body[28]? = some (Stmt.FunctionDef a b c d e f g h i j) → Pos) _ _ _ _ _ _ _ _ _ _ rfl
  exact fun a b c d e f g h i j _ => j
noncomputable def p_parse257 : Arguments := by
  refine (?f : ∀ a b c d e f g h i j, P0.main.body[29]? = some (Stmt.FunctionDef a b c d e f g h i j) → Arguments) _ _ _ _ _ _ _ _ _ _ rfl
  exact fun a b c d e f g h i j _ => b
noncomputable def b_parse257 : List Stmt := by
  refine (?f : ∀ a b c d e f g h i j, P0.main.body[29]? = some (Stmt.FunctionDef a b c d e f g h i j) → List Stmt) _ _ _ _ _ _ _ _ _ _ rfl
  exact fun a b c d e f g h i j _ => c
noncomputable def sc_parse257 : Scope := by
  refine (?f : ∀ a b c d e f g h i j, P0.main.body[29]? = some (Stmt.FunctionDef a b c d e f g h i j) → Scope) _ _ _ _ _ _ _ _ _ _ rfl
  exact fun a b c d e f g h i j _ => g
noncomputable def pos_parse257 : Pos := by
  refine (?f : ∀ a b c d e f g h i j, P0.main.body[29]? = some (Stmt.FunctionDef a b c d e f g h i j) → Pos) _ _ _ _ _ _ _ _ _ _ rfl
  exact fun a b c d e f g h i j _ => j
noncomputable def p__law_sixes : Arguments := by
  refine (?f : ∀ a b c d e f g h i j, P0.main.body[31]? = some (Stmt.FunctionDef a b c d e f g h i j) → Arguments) _ _ _ _ _ _ _ _ _ _ rfl
  exact fun a b c d e f g h i j _ => b
noncomputable def b__law_sixes : List Stmt := by
  refine (?f : ∀ a b c d e f g h i j, P0.main.body[31]? = some (Stmt.FunctionDef a b c d e f g h i j) → List Stmt) _ _ _ _ _ _ _ _ _ _ rfl
  exact fun a b c d e f g h i j _ => c
noncomputable def sc__law_sixes : Scope := by
  refine (?f : ∀ a b c d e f g h i j, P0.main.body[31]? = some (Stmt.FunctionDef a b c d e f g h i j) → Scope) _ _ _ _ _ _ _ _ _ _ rfl
  exact fun a b c d e f g h i j _ => g
noncomputable def pos__law_sixes : Pos := by
  refine (?f : ∀ a b c d e f g h i j, P0.main.body[31]? = some (Stmt.FunctionDef a b c d e f g h i j) → Pos) _ _ _ _ _ _ _ _ _ _ rfl
  exact fun a b c d e f g h i j _ => j
noncomputable def p__law_octets : Arguments := by
  refine (?f : ∀ a b c d e f g h i j, P0.main.body[32]? = some (Stmt.FunctionDef a b c d e f g h i j) → Arguments) _ _ _ _ _ _ _ _ _ _ rfl
  exact fun a b c d e f g h i j _ => b
noncomputable def b__law_octets : List Stmt := by
  refine (?f : ∀ a b c d e f g h i j, P0.main.body[32]? = some (Stmt.FunctionDef a b c d e f g h i j) → List Stmt) _ _ _ _ _ _ _ _ _ _ rfl
  exact fun a b c d e f g h i j _ => c
noncomputable def sc__law_octets : Scope := by
  refine (?f : ∀ a b c d e f g h i j, P0.main.body[32]? = some (Stmt.FunctionDef a b c d e f g h i j) → Scope) _ _ _ _ _ _ _ _ _ _ rfl
  exact fun a b c d e f g h i j _ => g
noncomputable def pos__law_octets : Pos := by
  refine (?f : ∀ a b c d e f g h i j, P0.main.body[32]? = some (Stmt.FunctionDef a b c d e f g h i j) → Pos) _ _ _ _ _ _ _ _ _ _ rfl
  exact fun a b c d e f g h i j _ => j
noncomputable def p__law_cut : Arguments := by
  refine (?f : ∀ a b c d e f g h i j, P0.main.body[33]? = some (Stmt.FunctionDef a b c d e f g h i j) → Arguments) _ _ _ _ _ _ _ _ _ _ rfl
  exact fun a b c d e f g h i j _ => b
noncomputable def b__law_cut : List Stmt := by
  refine (?f : ∀ a b c d e f g h i j, P0.main.body[33]? = some (Stmt.FunctionDef a b c d e f g h i j) → List Stmt) _ _ _ _ _ _ _ _ _ _ rfl
  exact fun a b c d e f g h i j _ => c
noncomputable def sc__law_cut : Scope := by
  refine (?f : ∀ a b c d e f g h i j, P0.main.body[33]? = some (Stmt.FunctionDef a b c d e f g h i j) → Scope) _ _ _ _ _ _ _ _ _ _ rfl
  exact fun a b c d e f g h i j _ => g
noncomputable def pos__law_cut : Pos := by
  refine (?f : ∀ a b c d e f g h i j, P0.main.body[33]? = some (Stmt.FunctionDef a b c d e f g h i j) → Pos) _ _ _ _ _ _ _ _ _ _ rfl
  exact fun a b c d e f g h i j _ => j
noncomputable def p__law_line : Arguments := by
  refine (?f : ∀ a b c d e f g h i j, P0.main.body[34]? = some (Stmt.FunctionDef a b c d e f g h i j) → Arguments) _ _ _ _ _ _ _ _ _ _ rfl
  exact fun a b c d e f g h i j _ => b
noncomputable def b__law_line : List Stmt := by
  refine (?f : ∀ a b c d e f g h i j, P0.main.body[34]? = some (Stmt.FunctionDef a b c d e f g h i j) → List Stmt) _ _ _ _ _ _ _ _ _ _ rfl
  exact fun a b c d e f g h i j _ => c
noncomputable def sc__law_line : Scope := by
  refine (?f : ∀ a b c d e f g h i j, P0.main.body[34]? = some (Stmt.FunctionDef a b c d e f g h i j) → Scope) _ _ _ _ _ _ _ _ _ _ rfl
  exact fun a b c d e f g h i j _ => g
noncomputable def pos__law_line : Pos := by
  refine (?f : ∀ a b c d e f g h i j, P0.main.body[34]? = some (Stmt.FunctionDef a b c d e f g h i j) → Pos) _ _ _ _ _ _ _ _ _ _ rfl
  exact fun a b c d e f g h i j _ => j
noncomputable def p__law_heard : Arguments := by
  refine (?f : ∀ a b c d e f g h i j, P0.main.body[35]? = some (Stmt.FunctionDef a b c d e f g h i j) → Arguments) _ _ _ _ _ _ _ _ _ _ rfl
  exact fun a b c d e f g h i j _ => b
noncomputable def b__law_heard : List Stmt := by
  refine (?f : ∀ a b c d e f g h i j, P0.main.body[35]? = some (Stmt.FunctionDef a b c d e f g h i j) → List Stmt) _ _ _ _ _ _ _ _ _ _ rfl
  exact fun a b c d e f g h i j _ => c
noncomputable def sc__law_heard : Scope := by
  refine (?f : ∀ a b c d e f g h i j, P0.main.body[35]? = some (Stmt.FunctionDef a b c d e f g h i j) → Scope) _ _ _ _ _ _ _ _ _ _ rfl
  exact fun a b c d e f g h i j _ => g
noncomputable def pos__law_heard : Pos := by
  refine (?f : ∀ a b c d e f g h i j, P0.main.body[35]? = some (Stmt.FunctionDef a b c d e f g h i j) → Pos) _ _ _ _ _ _ _ _ _ _ rfl
  exact fun a b c d e f g h i j _ => j
noncomputable def p__law_due : Arguments := by
  refine (?f : ∀ a b c d e f g h i j, P0.main.body[36]? = some (Stmt.FunctionDef a b c d e f g h i j) → Arguments) _ _ _ _ _ _ _ _ _ _ rfl
  exact fun a b c d e f g h i j _ => b
noncomputable def b__law_due : List Stmt := by
  refine (?f : ∀ a b c d e f g h i j, P0.main.body[36]? = some (Stmt.FunctionDef a b c d e f g h i j) → List Stmt) _ _ _ _ _ _ _ _ _ _ rfl
  exact fun a b c d e f g h i j _ => c
noncomputable def sc__law_due : Scope := by
  refine (?f : ∀ a b c d e f g h i j, P0.main.body[36]? = some (Stmt.FunctionDef a b c d e f g h i j) → Scope) _ _ _ _ _ _ _ _ _ _ rfl
  exact fun a b c d e f g h i j _ => g
noncomputable def pos__law_due : Pos := by
  refine (?f : ∀ a b c d e f g h i j, P0.main.body[36]? = some (Stmt.FunctionDef a b c d e f g h i j) → Pos) _ _ _ _ _ _ _ _ _ _ rfl
  exact fun a b c d e f g h i j _ => j
noncomputable def p__law_shared : Arguments := by
  refine (?f : ∀ a b c d e f g h i j, P0.main.body[37]? = some (Stmt.FunctionDef a b c d e f g h i j) → Arguments) _ _ _ _ _ _ _ _ _ _ rfl
  exact fun a b c d e f g h i j _ => b
noncomputable def b__law_shared : List Stmt := by
  refine (?f : ∀ a b c d e f g h i j, P0.main.body[37]? = some (Stmt.FunctionDef a b c d e f g h i j) → List Stmt) _ _ _ _ _ _ _ _ _ _ rfl
  exact fun a b c d e f g h i j _ => c
noncomputable def sc__law_shared : Scope := by
  refine (?f : ∀ a b c d e f g h i j, P0.main.body[37]? = some (Stmt.FunctionDef a b c d e f g h i j) → Scope) _ _ _ _ _ _ _ _ _ _ rfl
  exact fun a b c d e f g h i j _ => g
noncomputable def pos__law_shared : Pos := by
  refine (?f : ∀ a b c d e f g h i j, P0.main.body[37]? = some (Stmt.FunctionDef a b c d e f g h i j) → Pos) _ _ _ _ _ _ _ _ _ _ rfl
  exact fun a b c d e f g h i j _ => j
noncomputable def p__law_from : Arguments := by
  refine (?f : ∀ a b c d e f g h i j, P0.main.body[38]? = some (Stmt.FunctionDef a b c d e f g h i j) → Arguments) _ _ _ _ _ _ _ _ _ _ rfl
  exact fun a b c d e f g h i j _ => b
noncomputable def b__law_from : List Stmt := by
  refine (?f : ∀ a b c d e f g h i j, P0.main.body[38]? = some (Stmt.FunctionDef a b c d e f g h i j) → List Stmt) _ _ _ _ _ _ _ _ _ _ rfl
  exact fun a b c d e f g h i j _ => c
noncomputable def sc__law_from : Scope := by
  refine (?f : ∀ a b c d e f g h i j, P0.main.body[38]? = some (Stmt.FunctionDef a b c d e f g h i j) → Scope) _ _ _ _ _ _ _ _ _ _ rfl
  exact fun a b c d e f g h i j _ => g
noncomputable def pos__law_from : Pos := by
  refine (?f : ∀ a b c d e f g h i j, P0.main.body[38]? = some (Stmt.FunctionDef a b c d e f g h i j) → Pos) _ _ _ _ _ _ _ _ _ _ rfl
  exact fun a b c d e f g h i j _ => j
noncomputable def p_law : Arguments := by
  refine (?f : ∀ a b c d e f g h i j, P0.main.body[39]? = some (Stmt.FunctionDef a b c d e f g h i j) → Arguments) _ _ _ _ _ _ _ _ _ _ rfl
  exact fun a b c d e f g h i j _ => b
noncomputable def b_law : List Stmt := by
  refine (?f : ∀ a b c d e f g h i j, P0.main.body[39]? = some (Stmt.FunctionDef a b c d e f g h i j) → List Stmt) _ _ _ _ _ _ _ _ _ _ rfl
  exact fun a b c d e f g h i j _ => c
noncomputable def sc_law : Scope := by
  refine (?f : ∀ a b c d e f g h i j, P0.main.body[39]? = some (Stmt.FunctionDef a b c d e f g h i j) → Scope) _ _ _ _ _ _ _ _ _ _ rfl
  exact fun a b c d e f g h i j _ => g
noncomputable def pos_law : Pos := by
  refine (?f : ∀ a b c d e f g h i j, P0.main.body[39]? = some (Stmt.FunctionDef a b c d e f g h i j) → Pos) _ _ _ _ _ _ _ _ _ _ rfl
  exact fun a b c d e f g h i j _ => j
end
section
set_option maxRecDepth 100000
/-- the heap at the claim's start, where this proof reads it: names, defaults, own classes; the two functions' trees are those of the row -/
noncomputable def K0 : Params → Frag :=
fun P =>
  [(3,
      Obj.mk (Value.type "dict") none
        (Data.dict
          #[DictEntry.mk (PyData.keyHash P (Str.ofString "__name__")) (Value.str (Str.ofString "__name__") 165)
              (Value.str (Str.ofString "law_rt0045_01") 466),
            DictEntry.mk (PyData.keyHash P (Str.ofString "__doc__")) (Value.str (Str.ofString "__doc__") 166)
              Value.none,
            DictEntry.mk (PyData.keyHash P (Str.ofString "__package__")) (Value.str (Str.ofString "__package__") 167)
              Value.none,
            DictEntry.mk (PyData.keyHash P (Str.ofString "__loader__")) (Value.str (Str.ofString "__loader__") 168)
              (Value.builtin "__main__.__loader__#opaque"),
            DictEntry.mk (PyData.keyHash P (Str.ofString "__spec__")) (Value.str (Str.ofString "__spec__") 169)
              Value.none,
            DictEntry.mk (PyData.keyHash P (Str.ofString "__annotations__"))
              (Value.str (Str.ofString "__annotations__") 170) (Value.ref 6),
            DictEntry.mk (PyData.keyHash P (Str.ofString "__builtins__")) (Value.str (Str.ofString "__builtins__") 171)
              (Value.ref 4),
            DictEntry.mk (PyData.keyHash P (Str.ofString "__file__")) (Value.str (Str.ofString "__file__") 173)
              (Value.str (Str.ofString "/claim/cut.py") 172),
            DictEntry.mk (PyData.keyHash P (Str.ofString "__cached__")) (Value.str (Str.ofString "__cached__") 174)
              Value.none,
            DictEntry.mk (PyData.keyHash P (Str.ofString "_wall")) (Value.str (Str.ofString "_wall") 193)
              (Value.ref 21),
            DictEntry.mk (PyData.keyHash P (Str.ofString "_plain_name")) (Value.str (Str.ofString "_plain_name") 204)
              (Value.ref 28),
            DictEntry.mk (PyData.keyHash P (Str.ofString "ABCMeta")) (Value.str (Str.ofString "ABCMeta") 230)
              (Value.ref 45),
            DictEntry.mk (PyData.keyHash P (Str.ofString "_ABCLike")) (Value.str (Str.ofString "_ABCLike") 273)
              (Value.ref 78),
            DictEntry.mk (PyData.keyHash P (Str.ofString "_abc_plain_meta"))
              (Value.str (Str.ofString "_abc_plain_meta") 280) (Value.ref 87),
            DictEntry.mk (PyData.keyHash P (Str.ofString "fspath")) (Value.str (Str.ofString "fspath") 292)
              (Value.ref 94),
            DictEntry.mk (PyData.keyHash P (Str.ofString "_check_arg_types"))
              (Value.str (Str.ofString "_check_arg_types") 305) (Value.ref 101),
            DictEntry.mk (PyData.keyHash P (Str.ofString "_get_sep")) (Value.str (Str.ofString "_get_sep") 314)
              (Value.ref 108),
            DictEntry.mk (PyData.keyHash P (Str.ofString "join")) (Value.str (Str.ofString "join") 325) (Value.ref 115),
            DictEntry.mk (PyData.keyHash P (Str.ofString "split")) (Value.str (Str.ofString "split") 336)
              (Value.ref 122),
            DictEntry.mk (PyData.keyHash P (Str.ofString "commonpath")) (Value.str (Str.ofString "commonpath") 342)
              (Value.ref 127),
            DictEntry.mk (PyData.keyHash P (Str.ofString "_buffer")) (Value.str (Str.ofString "_buffer") 352)
              (Value.ref 134),
            DictEntry.mk (PyData.keyHash P (Str.ofString "_truth")) (Value.str (Str.ofString "_truth") 360)
              (Value.ref 141),
            DictEntry.mk (PyData.keyHash P (Str.ofString "_B64")) (Value.str (Str.ofString "_B64") 362)
              (Value.bytes
                #[65, 66, 67, 68, 69, 70, 71, 72, 73, 74, 75, 76, 77, 78, 79, 80, 81, 82, 83, 84, 85, 86, 87, 88, 89,
                  90, 97, 98, 99, 100, 101, 102, 103, 104, 105, 106, 107, 108, 109, 110, 111, 112, 113, 114, 115, 116,
                  117, 118, 119, 120, 121, 122, 48, 49, 50, 51, 52, 53, 54, 55, 56, 57, 43, 47]
                361),
            DictEntry.mk (PyData.keyHash P (Str.ofString "b2a_base64")) (Value.str (Str.ofString "b2a_base64") 376)
              (Value.ref 149),
            DictEntry.mk (PyData.keyHash P (Str.ofString "b64encode")) (Value.str (Str.ofString "b64encode") 387)
              (Value.ref 157),
            DictEntry.mk (PyData.keyHash P (Str.ofString "Error")) (Value.str (Str.ofString "Error") 409)
              (Value.ref 167),
            DictEntry.mk (PyData.keyHash P (Str.ofString "error_reply")) (Value.str (Str.ofString "error_reply") 425)
              (Value.ref 180),
            DictEntry.mk (PyData.keyHash P (Str.ofString "error_proto")) (Value.str (Str.ofString "error_proto") 441)
              (Value.ref 192),
            DictEntry.mk (PyData.keyHash P (Str.ofString "parse229")) (Value.str (Str.ofString "parse229") 454)
              (Value.ref 201),
            DictEntry.mk (PyData.keyHash P (Str.ofString "parse257")) (Value.str (Str.ofString "parse257") 465)
              (Value.ref 208),
            DictEntry.mk (PyData.keyHash P (Str.ofString "_law_sixes")) (Value.str (Str.ofString "_law_sixes") 476)
              (Value.ref 215),
            DictEntry.mk (PyData.keyHash P (Str.ofString "_law_octets")) (Value.str (Str.ofString "_law_octets") 485)
              (Value.ref 222),
            DictEntry.mk (PyData.keyHash P (Str.ofString "_law_cut")) (Value.str (Str.ofString "_law_cut") 491)
              (Value.ref 227),
            DictEntry.mk (PyData.keyHash P (Str.ofString "_law_line")) (Value.str (Str.ofString "_law_line") 502)
              (Value.ref 234),
            DictEntry.mk (PyData.keyHash P (Str.ofString "_law_heard")) (Value.str (Str.ofString "_law_heard") 512)
              (Value.ref 241),
            DictEntry.mk (PyData.keyHash P (Str.ofString "_law_due")) (Value.str (Str.ofString "_law_due") 522)
              (Value.ref 248),
            DictEntry.mk (PyData.keyHash P (Str.ofString "_law_shared")) (Value.str (Str.ofString "_law_shared") 528)
              (Value.ref 253),
            DictEntry.mk (PyData.keyHash P (Str.ofString "_law_from")) (Value.str (Str.ofString "_law_from") 536)
              (Value.ref 260),
            DictEntry.mk (PyData.keyHash P (Str.ofString "law")) (Value.str (Str.ofString "law") 542) (Value.ref 265)]
          39)
        #[]),
    (142,
      Obj.mk (Value.type "dict") none
        (Data.dict
          #[DictEntry.mk (PyData.keyHash P (Str.ofString "newline")) (Value.str (Str.ofString "newline") 363)
              (Value.bool true)]
          1)
        #[]),
    (148,
      Obj.mk (Value.type "code") none
        (Data.fields
          #[Value.str (Str.ofString "b2a_base64") 364, Value.str (Str.ofString "b2a_base64") 365,
            Value.str (Str.ofString "/claim/cut.py") 366, Value.int 137 0, Value.int 1 0, Value.int 1 0, Value.int 1 0,
            Value.int 3 0, Value.ref 143, Value.bool true, Value.int 181 0, Value.ref 144, Value.none, Value.ref 145,
            Value.ref 146, Value.ref 147, Value.int 374 0, Value.int 137 0,
            Value.str (Str.ofString "/claim/cut.py") 375])
        #[]),
    (149,
      Obj.mk (Value.type "function") none
        (Data.func
          (FuncData.mk (Str.ofString "b2a_base64") (Str.ofString "b2a_base64")
            p_b2a_base64 (FuncBody.stmts b_b2a_base64) sc_b2a_base64
            3 [] Value.none (Value.ref 142) Value.none (Value.str (Str.ofString "binascii") 343) none (Value.ref 148)
            Value.none 0))
        #[]),
    (150, Obj.mk (Value.type "tuple") none (Data.seq #[Value.none]) #[]),
    (156,
      Obj.mk (Value.type "code") none
        (Data.fields
          #[Value.str (Str.ofString "b64encode") 379, Value.str (Str.ofString "b64encode") 380,
            Value.str (Str.ofString "/claim/cut.py") 381, Value.int 160 0, Value.int 2 0, Value.int 0 0, Value.int 0 0,
            Value.int 3 0, Value.ref 151, Value.bool true, Value.int 181 0, Value.ref 152, Value.none, Value.ref 153,
            Value.ref 154, Value.ref 155, Value.int 385 0, Value.int 160 0,
            Value.str (Str.ofString "/claim/cut.py") 386])
        #[]),
    (157,
      Obj.mk (Value.type "function") none
        (Data.func
          (FuncData.mk (Str.ofString "b64encode") (Str.ofString "b64encode")
            p_b64encode (FuncBody.stmts b_b64encode) sc_b64encode
            3 [] (Value.ref 150) Value.none Value.none (Value.str (Str.ofString "cpy313.base64") 377) none
            (Value.ref 156) Value.none 0))
        #[]),
    (166,
      Obj.mk (Value.type "dict") none
        (Data.dict
          #[DictEntry.mk (PyData.keyHash P (Str.ofString "__module__")) (Value.str (Str.ofString "__module__") 397)
              (Value.str (Str.ofString "cpy313.ftplib") 388),
            DictEntry.mk (PyData.keyHash P (Str.ofString "__firstlineno__"))
              (Value.str (Str.ofString "__firstlineno__") 401) (Value.int 167 400),
            DictEntry.mk (PyData.keyHash P (Str.ofString "__static_attributes__"))
              (Value.str (Str.ofString "__static_attributes__") 402) (Value.ref 165),
            DictEntry.mk (PyData.keyHash P (Str.ofString "__weakref__")) (Value.str (Str.ofString "__weakref__") 404)
              (Value.ref 168),
            DictEntry.mk (PyData.keyHash P (Str.ofString "__doc__")) (Value.str (Str.ofString "__doc__") 405)
              Value.none]
          3)
        #[]),
    (167,
      Obj.mk (Value.type "type") none
        (Data.cls
          (ClassData.mk (Str.ofString "Error") [Value.type "Exception"]
            [Value.ref 167, Value.type "Exception", Value.type "BaseException", Value.type "object"] 166
            (Str.ofString "Error") true [] [Value.ref 180, Value.ref 192] false none false))
        #[some (Value.ref 158), none, some (Value.str (Str.ofString "Error") 390),
          some (Value.str (Str.ofString "Error") 398), some (Value.builtin "Exception.__new__"),
          some (Value.bool true)]),
    (179,
      Obj.mk (Value.type "dict") none
        (Data.dict
          #[DictEntry.mk (PyData.keyHash P (Str.ofString "__module__")) (Value.str (Str.ofString "__module__") 417)
              (Value.str (Str.ofString "cpy313.ftplib") 388),
            DictEntry.mk (PyData.keyHash P (Str.ofString "__firstlineno__"))
              (Value.str (Str.ofString "__firstlineno__") 421) (Value.int 169 420),
            DictEntry.mk (PyData.keyHash P (Str.ofString "__static_attributes__"))
              (Value.str (Str.ofString "__static_attributes__") 422) (Value.ref 178),
            DictEntry.mk (PyData.keyHash P (Str.ofString "__doc__")) (Value.str (Str.ofString "__doc__") 423)
              Value.none]
          2)
        #[]),
    (180,
      Obj.mk (Value.type "type") none
        (Data.cls
          (ClassData.mk (Str.ofString "error_reply") [Value.ref 167]
            [Value.ref 180, Value.ref 167, Value.type "Exception", Value.type "BaseException", Value.type "object"] 179
            (Str.ofString "error_reply") true [] [] false none false))
        #[some (Value.ref 171), none, some (Value.str (Str.ofString "error_reply") 410),
          some (Value.str (Str.ofString "error_reply") 418), some (Value.builtin "Exception.__new__"),
          some (Value.bool true)]),
    (191,
      Obj.mk (Value.type "dict") none
        (Data.dict
          #[DictEntry.mk (PyData.keyHash P (Str.ofString "__module__")) (Value.str (Str.ofString "__module__") 433)
              (Value.str (Str.ofString "cpy313.ftplib") 388),
            DictEntry.mk (PyData.keyHash P (Str.ofString "__firstlineno__"))
              (Value.str (Str.ofString "__firstlineno__") 437) (Value.int 171 436),
            DictEntry.mk (PyData.keyHash P (Str.ofString "__static_attributes__"))
              (Value.str (Str.ofString "__static_attributes__") 438) (Value.ref 190),
            DictEntry.mk (PyData.keyHash P (Str.ofString "__doc__")) (Value.str (Str.ofString "__doc__") 439)
              Value.none]
          2)
        #[]),
    (192,
      Obj.mk (Value.type "type") none
        (Data.cls
          (ClassData.mk (Str.ofString "error_proto") [Value.ref 167]
            [Value.ref 192, Value.ref 167, Value.type "Exception", Value.type "BaseException", Value.type "object"] 191
            (Str.ofString "error_proto") true [] [] false none false))
        #[some (Value.ref 183), none, some (Value.str (Str.ofString "error_proto") 426),
          some (Value.str (Str.ofString "error_proto") 434), some (Value.builtin "Exception.__new__"),
          some (Value.bool true)])]
noncomputable def as0 : List Addr := [3, 142, 148, 149, 150, 156, 157, 166, 167, 179, 180, 191, 192]
theorem as0_eq : ∀ P, as0 = (K0 P).map (·.1) := fun P => by kernel_rfl
noncomputable abbrev H0 : Hook := kHook K0 as0 as0_eq
end
section
set_option maxRecDepth 1000000
set_option maxHeartbeats 0
theorem boot0 : ∀ w : World, (fencedOpening treeTable P0 w 4100).map (fun s => (s.heap, s.gens, s.drawn, s.toks)) = some (boot_heap w.params, Array.mk [], boot_drawn, boot_toks) :=
  boot_open (by kernel_rfl) rfl (fun s => by kernel_rfl)
/-- the objects, each brought to its head, and then what is made of them -/
noncomputable def forceL {α : Type} : List Obj → (List Obj → α) → α
  | [], k => k []
  | ⟨c, d, dt, sl⟩ :: l, k => forceL l fun l' => k (⟨c, d, dt, sl⟩ :: l')
theorem forceL_eq {α : Type} : ∀ (l : List Obj) (k : List Obj → α), forceL l k = k l
  | [], _ => rfl
  | ⟨c, d, dt, sl⟩ :: l, k => by rw [forceL, forceL_eq l]
noncomputable def forceS {α : Type} (s : Shared) (k : Shared → α) : α := match s with
  | ⟨⟨⟨l⟩, life⟩, g, d, t, os⟩ => forceL l fun l' => k ⟨⟨⟨l'⟩, life⟩, g, d, t, os⟩
theorem forceS_eq {α : Type} (s : Shared) (k : Shared → α) : forceS s k = k s := by
  obtain ⟨⟨⟨l⟩, life⟩, g, d, t, os⟩ := s
  exact forceL_eq l _
theorem bind_force {α : Type} (o : Option Shared) (k : Shared → Option α) : o.bind k = o.bind fun s => forceS s k := by
  rw [show (fun s => forceS s k) = k from funext fun s => forceS_eq s k]
theorem run0 : ∀ (w : World) (os : OsState), (topFrom treeTable P0 w 4100 ⟨boot_heap w.params, Array.mk [], boot_drawn, boot_toks, os⟩).map (fun s => (openSeen P0 loose0 (importedModules P0.main.body) (fun s => xlAt P0 [] s && recOk (RowW.records rw0.row.toRowW) s) true s, (Hook.obs H0 s, decide (0 < s.toks)))) = some (openGood P0 loose0, (Hook.val H0 w, true)) := by
  intro w os
  unfold topFrom
  rw [bind_force]
  rw [PySem.W.Fast.te14082659384304107361, PySem.W.Fast.te14364793385576792824, PySem.W.Fast.te4187177175401517315]
  kernel_rfl
theorem hl : LeftO P0 P0 loose0 (fun s => xlAt P0 [] s && recOk (RowW.records rw0.row.toRowW) s) (fun s => (Hook.obs H0 s, decide (0 < s.toks))) (fun w => (Hook.val H0 w, true)) 4100 := fun w => by
  obtain ⟨⟨h, gs, d, k, os⟩, e, e2⟩ := Option.map_eq_some_iff.mp (boot0 w)
  obtain ⟨rfl, rfl, rfl, rfl⟩ : h = boot_heap w.params ∧ gs = Array.mk [] ∧ d = boot_drawn ∧ k = boot_toks := by
    have := e2; simp only [Prod.mk.injEq] at this; exact this
  unfold openEnds
  rw [e, Option.bind_some]
  exact run0 w os
end
section
set_option maxRecDepth 100000
set_option maxHeartbeats 8000000
theorem said_p1 : sreFenced P0.main = true := by kernel_rfl
theorem said_p2 : ((moduleNames P0.main.body).isEmpty || lookedIntoSs (moduleNames P0.main.body) P0.main.body) = true := by kernel_rfl
theorem said_p3 : namesResolve P0 = true := by kernel_rfl
theorem said_p4 : (P0.boundNames.all (fun n => !worldNames.contains n)) = true := by kernel_rfl
theorem said_p5a : (["vars", "dir", "locals"] : List Str).filter (readsOut P0 P0.main.body) = [] := by kernel_rfl
theorem said_p5b : (!(importedModules P0.main.body).all cThrough.contains) = false := by kernel_rfl
theorem said_p5c : noRoadLSs { strict := false, foot := none, bare := [] } P0.main.body = true := by kernel_rfl
theorem said_p5 : noRoadLSs { strict := !(importedModules P0.main.body).all cThrough.contains, foot := none, bare := (["vars", "dir", "locals"] : List Str).filter (readsOut P0 P0.main.body) } P0.main.body = true := by
  rw [said_p5a, said_p5b]; exact said_p5c
theorem said_p6 : (namesMeet P0 P0.main.body fun _ n => attrL n) = true := by kernel_rfl
theorem said_p7 : looksOpen rw0.row.prog = true := by
  unfold looksOpen
  show (sreFenced P0.main && ((moduleNames P0.main.body).isEmpty || lookedIntoSs (moduleNames P0.main.body) P0.main.body) && namesResolve P0 && P0.boundNames.all (fun n => !worldNames.contains n) && noRoadLSs { strict := !(importedModules P0.main.body).all cThrough.contains, foot := none, bare := (["vars", "dir", "locals"] : List Str).filter (readsOut P0 P0.main.body) } P0.main.body && namesMeet P0 P0.main.body fun _ n => attrL n) = true
  rw [said_p1, said_p2, said_p3, said_p4, said_p5, said_p6]; rfl
theorem said_p8 : rw0.row.partSaid = true := by
  unfold OpenRow.partSaid
  rw [said_p7]; kernel_rfl
theorem said_p9 : rw0.row.wellSaid = true := by
  unfold OpenRow.wellSaid
  rw [said_p8]; kernel_rfl
theorem said_q2 : decide (rw0.foot ≤ (behindTheImports rw0.prog).length) = true := by kernel_rfl
theorem said_q3 : rw0.footing.all footLine = true := by kernel_rfl
theorem said_q4 : noClassBlock rw0.prog rw0.footing = true := by kernel_rfl
theorem said_q6 : (rw0.most.all (fun n => decide (63 ≤ n)) && rw0.bound.all (fun n => decide (2 ^ 63 ≤ n))) = true := by kernel_rfl
theorem said_q7 : noRoadLSs { strict := true, foot := some rw0.bound', writes := rw0.writes, may := rw0.may } rw0.footing = true := by kernel_rfl
theorem said_q8 : defStands rw0.about rw0.above = true := by kernel_rfl
theorem said_q9 : rw0.namesIt = true := by kernel_rfl
theorem said_q10 : (["type", "isinstance", "issubclass", "getattr", "hasattr"] : List Str).all (fun n => rw0.about != [n]) = true := by kernel_rfl
theorem said_q11 : rw0.bound'.all (fun n => !builtinNamed n || rw0.about == [n] || !rw0.reads n) = true := by kernel_rfl
theorem said_q12 : ((!rw0.writes || (rw0.prog.main.body.flatMap importedNames).all fun n => !rw0.reads n) && (rw0.prog.main.body.flatMap importedNames).all (fun n => !rw0.reads n || (drawsOf n rw0.prog.main.body).all fun mn => mn.2 != ("attrgetter" : Str) && mn.2 != ("methodcaller" : Str))) = true := by kernel_rfl
theorem said_q13 : namesMeet rw0.prog rw0.footing (fun sc n => (!(["type", "isinstance", "issubclass", "getattr", "hasattr"] : List Str).contains n || sc.names.lookup n == some .globalImplicit) &&
    (rw0.may != some n || sc.kind == .module || sc.names.lookup n == some .globalImplicit)) = true := by kernel_rfl
theorem said_q14 : (rw0.own.contains rw0.name && rw0.own.eraseDups.length == rw0.own.length && rw0.own.all (fun n => !builtinNamed n)) = true := by kernel_rfl
theorem said_q15 : namesMeet rw0.prog rw0.above (fun _ n => !rw0.own.contains n) = true := by kernel_rfl
theorem said_q16 : (namesMeet rw0.prog rw0.footing fun sc n => sc.kind == .module || sc.names.lookup n != some .globalExplicit) = true := by kernel_rfl
theorem said : rw0.wellSaid = true := by
  unfold OpenLaw.wellSaid
  have m := (Bool.and_eq_true_iff.mp said_q6)
  have n := (Bool.and_eq_true_iff.mp said_q12)
  have o := (Bool.and_eq_true_iff.mp said_q14)
  have o' := (Bool.and_eq_true_iff.mp o.1)
  rw [said_p9, said_q2, said_q3, said_q4, m.1, m.2, said_q7, said_q8, said_q9, said_q10, said_q11, n.1, n.2, said_q13, o'.1, o'.2, o.2, said_q15, said_q16]; rfl
theorem bare0 : rw0.row.prog.bare := ⟨rfl, rfl, rfl, rfl, rfl, by kernel_rfl⟩
end
section
set_option linter.unusedVariables false
set_option maxRecDepth 100000
variable {prog : Program} {w : World} {h0 : Heap} {C : Cx} {k : Nat} {σ σ' : Sto} {R : Out → Prop}
section
variable {a b : Expr} {p : Pos} {x y : Int}
theorem Ev.bin {op : Operator} {da db d : D} (ha : Ev prog w h0 C k σ a da) (hb : Ev prog w h0 C k σ b db) (h : Bin prog w h0 (binaryOp op) da db d) : Ev prog w h0 C k σ (.BinOp a op b p) d :=
  Ev.binop ha hb fun l A m s va vb O I r r' => h l k A m s va vb O I r r'
theorem Ev.add (ha : Ev prog w h0 C k σ a (.int x)) (hb : Ev prog w h0 C k σ b (.int y)) : Ev prog w h0 C k σ (.BinOp a .Add b p) (.int (x + y)) := Ev.bin ha hb add_ii
theorem Ev.subI (ha : Ev prog w h0 C k σ a (.int x)) (hb : Ev prog w h0 C k σ b (.int y)) : Ev prog w h0 C k σ (.BinOp a .Sub b p) (.int (x - y)) := Ev.bin ha hb sub_ii
theorem Ev.mulI (ha : Ev prog w h0 C k σ a (.int x)) (hb : Ev prog w h0 C k σ b (.int y)) (h : IntMulOk x y) : Ev prog w h0 C k σ (.BinOp a .Mult b p) (.int (x * y)) := Ev.bin ha hb (mul_ii h)
theorem Ev.addS {x y : List Nat} (ha : Ev prog w h0 C k σ a (.str x)) (hb : Ev prog w h0 C k σ b (.str y)) (h : x.length + y.length ≤ sizeLine) : Ev prog w h0 C k σ (.BinOp a .Add b p) (.str (x ++ y)) := Ev.bin ha hb (add_ss h)
end
theorem Ev.ls {es : List Expr} {ds : List D} {p : Pos} (h : EvL prog w h0 C k σ es ds) (hz : ds.length ≤ sizeLine := by (simp only [List.length_cons, List.length_nil]; decide)) : Ev prog w h0 C k σ (.List es p) (.lst ds) := Ev.list h hz
theorem Ev.tp {es : List Expr} {ds : List D} {p : Pos} {n : Nat} (h : EvL prog w h0 C k σ es ds) (hz : ds.length ≤ sizeLine := by (simp only [List.length_cons, List.length_nil]; decide)) : Ev prog w h0 C k σ (.Tuple es n p) (.tup ds) := Ev.tuple h hz
theorem kind_of {fd : FuncData} {x : Str} {kd : NameKind} (F : FnCx fd C) (h : fd.scope.names.lookup x = some kd) : C.env.kindOf x = some kd := by
  show C.env.scope.names.lookup x = _; rw [F.scope]; exact h
end
section
set_option linter.unusedVariables false
set_option maxRecDepth 100000
/-- what is known of the world -/
structure Gd (P : Params) (mg mb : Str → Option Value) (h0 : Heap) : Prop where
  g : h0.Ns mainGlobals mg
  b : h0.Ns builtinsNs mb
  fn : ∀ d ∈ recsOf P0, ∃ a o pm code doc, mg d.name = some (.ref a) ∧ h0.get? a = some o ∧ o.data = .func (Calls.docDef d.name d.params d.body d.scope pm code doc) ∧ h0.CodeRec code d.name
  free : ∀ x, x ∉ startupNames → x ∉ looseW P0 loose0 → x ∉ (recsOf P0).map (·.name) → x ∉ (litsOf P0).map (·.1) → x ∉ (clssOf P0 (looseW P0 loose0)).map (·.name) → mg x = none
  builtins : ∀ x : Str, x ≠ "__name__" → mb x = bootBuiltins x
  K : (K0 P).In h0
noncomputable def recOf (n : Str) (a : Arguments) (b : List Stmt) (sc : Scope) (p : Pos) : DefRec := ⟨n, a, b, sc, p⟩
/-- f, a def of the text: it is there -/
structure FnAt (mg : Str → Option Value) (h0 : Heap) (n : Str) (p : Arguments) (b : List Stmt) (sc : Scope) (a : Addr) : Prop where
  glob : mg n = some (.ref a)
  it : ∃ o pm code doc, h0.get? a = some o ∧ o.data = .func (Calls.docDef n p b sc pm code doc) ∧ h0.CodeRec code n
theorem FnAt.keep {mg : Str → Option Value} {h0 : Heap} {n : Str} {p : Arguments} {b : List Stmt} {sc : Scope} {a : Addr} (F : FnAt mg h0 n p b sc a) : Keep h0 (.ref a) :=
  let ⟨o, _, _, _, ho, hd, _⟩ := F.it; .inr (.inr ⟨a, o, _, rfl, ho, hd⟩)
/-- the frame of a call of a text's def -/
structure Fc (mg mb : Str → Option Value) (h0 : Heap) (sc : Scope) (C : Cx) : Prop where
  scope : C.env.scope = sc
  globals : h0.Ns C.env.globals mg
  builtins : h0.Ns C.env.builtins mb
  frame : ∃ outer L, C.frs = C.env :: outer ∧ C.env.frame = some L
variable {w : World} {h0 : Heap} {C : Cx} {k : Nat} {σ σ' : Sto} {R : Out → Prop} {P : Params} {mg mb : Str → Option Value}
theorem Fc.kind {sc : Scope} {x : Str} {kd : NameKind} (F : Fc mg mb h0 sc C) (h : sc.names.lookup x = some kd) : C.env.kindOf x = some kd := by
  show C.env.scope.names.lookup x = _; rw [F.scope]; exact h
theorem Gd.at {n : Str} {p : Arguments} {b : List Stmt} {sc : Scope} {pos : Pos} (G : Gd P mg mb h0) (h : recOf n p b sc pos ∈ recsOf P0) : ∃ a, FnAt mg h0 n p b sc a :=
  let ⟨a, o, pm, code, doc, e, ho, hd, hc⟩ := G.fn _ h; ⟨a, e, o, pm, code, doc, ho, hd, hc⟩
theorem FnAt.callable {n : Str} {p : Arguments} {b : List Stmt} {sc : Scope} {a : Addr} {kw : List (Str × Value)} {ds es : List D} {ps keys : List Str} {r : Res} (G : Gd P mg mb h0) (F : FnAt mg h0 n p b sc a) (ok : fnOk sc keys ps = true) (hps : ∀ x ∈ ps, x ∈ keys)
    (hbind : ∀ pm code doc, BindsD P0 w h0 (Calls.docDef n p b sc pm code doc) kw ds ps es)
    (run : ∀ C, Fc mg mb h0 sc C → Run P0 w h0 C k (startSto keys ps es) b (fun o => match o with | .ret d => r = .val d | .exc cls ds => r = .exc cls ds | .next _ => r = .val .none | _ => False)) :
    ∀ l A m s vs, Ok l (k + 1) A → Amb h0 l m s → RdL m ds vs → Gv P0 w h0 l A m s (PySem.call (.ref a) vs kw) r := by
  obtain ⟨o, pm, code, doc, ho, hd, hc⟩ := F.it
  refine callable_of ho hd hc rfl rfl ok hps (hbind pm code doc) fun C FC => ?_
  exact run C ⟨FC.scope, by rw [FC.globals]; exact G.g, by rw [FC.builtins]; exact G.b, FC.frame⟩
theorem in_octets : recOf "_law_octets" p__law_octets b__law_octets sc__law_octets pos__law_octets ∈ recsOf P0 :=
  List.mem_filterMap.mpr ⟨(stA 32), List.mem_of_getElem? (i := 32) (by kernel_rfl), by kernel_rfl⟩
end
section
set_option linter.unusedVariables false
set_option maxRecDepth 100000
variable {w : World} {h0 : Heap} {C C' : Cx} {k : Nat} {σ σ' : Sto} {R : Out → Prop} {P : Params} {mg mb : Str → Option Value}
noncomputable abbrev dI (n : Nat) : D := .int (n : Int)
theorem fdiv_nat (a b : Nat) : (a : Int).fdiv (b : Int) = ((a / b : Nat) : Int) := by rw [Int.fdiv_eq_ediv_of_nonneg _ (by omega)]; rfl
theorem fmod_nat (a b : Nat) : (a : Int).fmod (b : Int) = ((a % b : Nat) : Int) := by rw [Int.fmod_eq_emod_of_nonneg _ (by omega)]; rfl
section
variable {prog : Program} {a b : Expr} {p : Pos} {x y : Nat}
theorem Ev.divN (ha : Ev prog w h0 C k σ a (dI x)) (hb : Ev prog w h0 C k σ b (dI y)) (h : y ≠ 0) (hs : y < 1073741824) : Ev prog w h0 C k σ (.BinOp a .FloorDiv b p) (dI (x / y)) := by
  have := Ev.bin (p := p) ha hb (div_ii (by omega) (PyProof.noPylong_small (by omega)))
  rw [fdiv_nat] at this; exact this
theorem Ev.modN (ha : Ev prog w h0 C k σ a (dI x)) (hb : Ev prog w h0 C k σ b (dI y)) (h : y ≠ 0) : Ev prog w h0 C k σ (.BinOp a .Mod b p) (dI (x % y)) := by
  have := Ev.bin (p := p) ha hb (mod_ii (by omega))
  rw [fmod_nat] at this; exact this
theorem Ev.addN (ha : Ev prog w h0 C k σ a (dI x)) (hb : Ev prog w h0 C k σ b (dI y)) : Ev prog w h0 C k σ (.BinOp a .Add b p) (dI (x + y)) := Ev.add ha hb
theorem Ev.mulN (ha : Ev prog w h0 C k σ a (dI x)) (hb : Ev prog w h0 C k σ b (dI y)) (h : IntMulOk x y) : Ev prog w h0 C k σ (.BinOp a .Mult b p) (dI (x * y)) := Ev.mulI ha hb h
theorem Ev.nat {i n : Nat} : Ev prog w h0 C k σ (.Constant (.int (i : Int)) n p) (dI i) := Ev.int
theorem Ev.divZ {x : Int} (ha : Ev prog w h0 C k σ a (.int x)) (hb : Ev prog w h0 C k σ b (dI y)) (h : y ≠ 0) (hs : y < 1073741824) : Ev prog w h0 C k σ (.BinOp a .FloorDiv b p) (.int (x / (y : Int))) := by
  have := Ev.bin (p := p) ha hb (div_ii (by omega) (PyProof.noPylong_small (by omega)))
  rw [Int.fdiv_eq_ediv_of_nonneg _ (by omega)] at this; exact this
theorem Ev.modZ {x : Int} (ha : Ev prog w h0 C k σ a (.int x)) (hb : Ev prog w h0 C k σ b (dI y)) (h : y ≠ 0) : Ev prog w h0 C k σ (.BinOp a .Mod b p) (dI (x % (y : Int)).toNat) := by
  have := Ev.bin (p := p) ha hb (mod_ii (by omega))
  rw [Int.fmod_eq_emod_of_nonneg _ (by omega)] at this
  have e : ((x % (y : Int)).toNat : Int) = x % (y : Int) := Int.toNat_of_nonneg (Int.emod_nonneg _ (by omega))
  show Ev prog w h0 C k σ _ (.int ((x % (y : Int)).toNat : Int))
  rw [e]; exact this
end
/-- the builtin names of the text -/
noncomputable abbrev blt : List (Str × Value) := [("len", .builtin "len"), ("type", .type "type"), ("int", .type "int"), ("str", .type "str"), ("bytes", .type "bytes"), ("bool", .type "bool"), ("isinstance", .builtin "isinstance"), ("issubclass", .builtin "issubclass"), ("tuple", .type "tuple"), ("map", .type "map"),
  ("range", .type "range"), ("enumerate", .type "enumerate"), ("ord", .builtin "ord"), ("min", .builtin "min"), ("max", .builtin "max"), ("ValueError", .type "ValueError"), ("TypeError", .type "TypeError"), ("AttributeError", .type "AttributeError"), ("BytesWarning", .type "BytesWarning")]
theorem blt_vals : blt.map (fun p => bootBuiltins p.1) = blt.map (fun p => some p.2) := by kernel_rfl
theorem blt_names : (blt.map (·.1)).all (fun x => decide (x ∉ startupNames) && decide (x ∉ looseW P0 loose0) && decide (x ∉ (recsOf P0).map (·.name)) && decide (x ∉ (litsOf P0).map (·.1)) && decide (x ∉ (clssOf P0 (looseW P0 loose0)).map (·.name)) && decide (x ≠ "__name__") && !(x == ("__debug__" : Str))) = true := by kernel_rfl
noncomputable def isLoose : Value → Bool
  | .builtin _ => true
  | .type _ => true
  | _ => false
theorem blt_keep : blt.all (fun p => isLoose p.2) = true := by kernel_rfl
theorem keep_of {v : Value} (h : isLoose v = true) : Keep h0 v := by
  cases v <;> first | exact .inl ⟨_, rfl⟩ | exact .inr (.inl ⟨_, rfl⟩) | cases h
/-- the namespaces that a frame sees -/
structure Wl (mg mb : Str → Option Value) (h0 : Heap) (C : Cx) : Prop where
  globals : h0.Ns C.env.globals mg
  builtins : h0.Ns C.env.builtins mb
theorem Fc.wl {sc : Scope} (F : Fc mg mb h0 sc C) : Wl mg mb h0 C := ⟨F.globals, F.builtins⟩
theorem Fc.blk {sc : Scope} (F : Fc mg mb h0 sc C) (h : sc.kind = .function := by kernel_rfl) : C.env.blockKind = .function := by
  unfold Env.blockKind; rw [F.scope, h]; rfl
theorem InCx.wl {sc : Scope} (x : InCx C C' sc) (W : Wl mg mb h0 C) : Wl mg mb h0 C' := ⟨by rw [x.globals]; exact W.globals, by rw [x.builtins]; exact W.builtins⟩
theorem InCx.gl {sc : Scope} (x : InCx C C' sc) {n : Str} (h : sc.names.lookup n = some .globalImplicit) : C'.env.kindOf n = some .globalImplicit := by
  show C'.env.scope.names.lookup n = _
  rw [x.scope]
  rcases lookup_relabel (env := C.env) h with e | ⟨e, _⟩
  · exact e
  · cases e
theorem Gd.bn (G : Gd P mg mb h0) (W : Wl mg mb h0 C) {x : Str} {v : Value} {p : Pos} (hm : (x, v) ∈ blt) (hk : C.env.kindOf x = some .globalImplicit) : EvN P0 w h0 C (.Name x p) v := by
  have hv : bootBuiltins x = some v := by
    obtain ⟨i, hi⟩ := List.getElem?_of_mem hm
    have := congrArg (·[i]?) blt_vals
    simpa only [List.getElem?_map, hi, Option.map_some, Option.some.injEq] using this
  have hn := List.all_eq_true.mp blt_names x (List.mem_map.mpr ⟨_, hm, rfl⟩)
  simp only [Bool.and_eq_true, decide_eq_true_eq] at hn
  obtain ⟨⟨⟨⟨⟨⟨h1, h2⟩, h3⟩, h4⟩, h5⟩, h6⟩, h7⟩ := hn
  exact EvN.bltn hk W.globals (G.free x h1 h2 h3 h4 h5) W.builtins ((G.builtins x h6).trans hv) (by simpa using h7)
theorem Ev.bc (G : Gd P mg mb h0) (W : Wl mg mb h0 C) {x : Str} {v : Value} {np pos : Pos} {es : List Expr} {ds : List D} {r : Res} (hm : (x, v) ∈ blt) (hk : C.env.kindOf x = some .globalImplicit)
    (ha : EvL P0 w h0 C k σ es ds) (hc : Callable P0 w h0 k v ds r) : EvR P0 w h0 C k σ (.Call (.Name x np) es [] pos) r :=
  Ev.call (G.bn W hm hk).ev (keep_of (List.all_eq_true.mp blt_keep _ hm)) ha hc
theorem Ev.fc (W : Wl mg mb h0 C) {x : Str} {a : Addr} {pa : Arguments} {b : List Stmt} {sc : Scope} {np pos : Pos} {es : List Expr} {ds : List D} {r : Res} (F : FnAt mg h0 x pa b sc a) (hk : C.env.kindOf x = some .globalImplicit)
    (ha : EvL P0 w h0 C k σ es ds) (hc : Callable P0 w h0 k (.ref a) ds r) (hd : (x == ("__debug__" : Str)) = false := by decide) : EvR P0 w h0 C k σ (.Call (.Name x np) es [] pos) r :=
  Ev.call (Ev.glob hk W.globals F.glob hd) F.keep ha hc
end
section
set_option maxRecDepth 100000
theorem in_fspath : recOf "fspath" p_fspath b_fspath sc_fspath pos_fspath ∈ recsOf P0 := List.mem_filterMap.mpr ⟨(stA 9), List.mem_of_getElem? (i := 9) (by kernel_rfl), by kernel_rfl⟩
theorem in__get_sep : recOf "_get_sep" p__get_sep b__get_sep sc__get_sep pos__get_sep ∈ recsOf P0 := List.mem_filterMap.mpr ⟨(stA 13), List.mem_of_getElem? (i := 13) (by kernel_rfl), by kernel_rfl⟩
theorem in_join : recOf "join" p_join b_join sc_join pos_join ∈ recsOf P0 := List.mem_filterMap.mpr ⟨(stA 14), List.mem_of_getElem? (i := 14) (by kernel_rfl), by kernel_rfl⟩
theorem in_split : recOf "split" p_split b_split sc_split pos_split ∈ recsOf P0 := List.mem_filterMap.mpr ⟨(stA 15), List.mem_of_getElem? (i := 15) (by kernel_rfl), by kernel_rfl⟩
theorem in_commonpath : recOf "commonpath" p_commonpath b_commonpath sc_commonpath pos_commonpath ∈ recsOf P0 := List.mem_filterMap.mpr ⟨(stA 16), List.mem_of_getElem? (i := 16) (by kernel_rfl), by kernel_rfl⟩
theorem in__buffer : recOf "_buffer" p__buffer b__buffer sc__buffer pos__buffer ∈ recsOf P0 := List.mem_filterMap.mpr ⟨(stA 18), List.mem_of_getElem? (i := 18) (by kernel_rfl), by kernel_rfl⟩
theorem in__truth : recOf "_truth" p__truth b__truth sc__truth pos__truth ∈ recsOf P0 := List.mem_filterMap.mpr ⟨(stA 19), List.mem_of_getElem? (i := 19) (by kernel_rfl), by kernel_rfl⟩
theorem in_parse229 : recOf "parse229" p_parse229 b_parse229 sc_parse229 pos_parse229 ∈ recsOf P0 := List.mem_filterMap.mpr ⟨(stA 28), List.mem_of_getElem? (i := 28) (by kernel_rfl), by kernel_rfl⟩
theorem in_parse257 : recOf "parse257" p_parse257 b_parse257 sc_parse257 pos_parse257 ∈ recsOf P0 := List.mem_filterMap.mpr ⟨(stA 29), List.mem_of_getElem? (i := 29) (by kernel_rfl), by kernel_rfl⟩
theorem in__law_sixes : recOf "_law_sixes" p__law_sixes b__law_sixes sc__law_sixes pos__law_sixes ∈ recsOf P0 := List.mem_filterMap.mpr ⟨(stA 31), List.mem_of_getElem? (i := 31) (by kernel_rfl), by kernel_rfl⟩
theorem in__law_cut : recOf "_law_cut" p__law_cut b__law_cut sc__law_cut pos__law_cut ∈ recsOf P0 := List.mem_filterMap.mpr ⟨(stA 33), List.mem_of_getElem? (i := 33) (by kernel_rfl), by kernel_rfl⟩
theorem in__law_line : recOf "_law_line" p__law_line b__law_line sc__law_line pos__law_line ∈ recsOf P0 := List.mem_filterMap.mpr ⟨(stA 34), List.mem_of_getElem? (i := 34) (by kernel_rfl), by kernel_rfl⟩
theorem in__law_heard : recOf "_law_heard" p__law_heard b__law_heard sc__law_heard pos__law_heard ∈ recsOf P0 := List.mem_filterMap.mpr ⟨(stA 35), List.mem_of_getElem? (i := 35) (by kernel_rfl), by kernel_rfl⟩
theorem in__law_due : recOf "_law_due" p__law_due b__law_due sc__law_due pos__law_due ∈ recsOf P0 := List.mem_filterMap.mpr ⟨(stA 36), List.mem_of_getElem? (i := 36) (by kernel_rfl), by kernel_rfl⟩
theorem in__law_shared : recOf "_law_shared" p__law_shared b__law_shared sc__law_shared pos__law_shared ∈ recsOf P0 := List.mem_filterMap.mpr ⟨(stA 37), List.mem_of_getElem? (i := 37) (by kernel_rfl), by kernel_rfl⟩
theorem in__law_from : recOf "_law_from" p__law_from b__law_from sc__law_from pos__law_from ∈ recsOf P0 := List.mem_filterMap.mpr ⟨(stA 38), List.mem_of_getElem? (i := 38) (by kernel_rfl), by kernel_rfl⟩
theorem in_law : recOf "law" p_law b_law sc_law pos_law ∈ recsOf P0 := List.mem_filterMap.mpr ⟨(stA 39), List.mem_of_getElem? (i := 39) (by kernel_rfl), by kernel_rfl⟩
end
section
set_option linter.unusedVariables false
set_option maxRecDepth 100000
variable {w : World} {h0 : Heap} {C : Cx} {k : Nat} {σ σ' : Sto} {R : Out → Prop} {P : Params} {mg mb : Str → Option Value}
theorem fn_fspath (G : Gd P mg mb h0) {a : Addr} (F : FnAt mg h0 "fspath" p_fspath b_fspath sc_fspath a) {l : List Nat} : Callable P0 w h0 (k + 1) (.ref a) [.str l] (.val (.str l)) :=
  F.callable G (kw := []) (k := k) (ps := ["path"]) (keys := ["path", "kind"]) (es := [.str l]) (by kernel_rfl) (by simp) (fun pm code doc => BindsD.plain (fun vs hv => by obtain ⟨v, rfl⟩ := len1 hv; rfl) rfl) fun C Fc => by
    refine (show Run P0 w h0 C k [("path", .dat (.str l)), ("kind", .un)] b_fspath _ from ?_)
    refine Run.cons (Run1.assign (Ev.bc G Fc.wl (v := .type "type") (by with_reducible repeat (first | exact List.mem_cons_self | apply List.mem_cons_of_mem)) (Fc.kind (by kernel_rfl)) (EvL.cons (Ev.name (by with_reducible repeat (first | exact List.mem_cons_self | apply List.mem_cons_of_mem))) EvL.nil) call_type_str) (by with_reducible repeat (first | exact Upd.dat | exact Upd.un | exact Upd.own | apply Upd.tail)) ?_)
    refine Run.cons (Run1.ite (c := true) (EvB.val (Ev.bc G Fc.wl (v := .builtin "issubclass") (by with_reducible repeat (first | exact List.mem_cons_self | apply List.mem_cons_of_mem)) (Fc.kind (by kernel_rfl)) (EvL.cons (Ev.name (by with_reducible repeat (first | exact List.mem_cons_self | apply List.mem_cons_of_mem))) (EvL.cons (Ev.tp (EvL.cons (G.bn Fc.wl (v := .type "str") (by with_reducible repeat (first | exact List.mem_cons_self | apply List.mem_cons_of_mem)) (Fc.kind (by kernel_rfl))).ev (EvL.cons (G.bn Fc.wl (v := .type "bytes") (by with_reducible repeat (first | exact List.mem_cons_self | apply List.mem_cons_of_mem)) (Fc.kind (by kernel_rfl))).ev EvL.nil))) EvL.nil)) call_issub) tru_bool) (fun _ => ?_) (fun h => by cases h))
    exact Run.cons (Run1.ret (Ev.name (by with_reducible repeat (first | exact List.mem_cons_self | apply List.mem_cons_of_mem))) rfl)
theorem fn_get_sep (G : Gd P mg mb h0) {a : Addr} (F : FnAt mg h0 "_get_sep" p__get_sep b__get_sep sc__get_sep a) {l : List Nat} : Callable P0 w h0 (k + 1) (.ref a) [.str l] (.val (.str [47])) :=
  F.callable G (kw := []) (k := k) (ps := ["path"]) (keys := ["path"]) (es := [.str l]) (by kernel_rfl) (by simp) (fun pm code doc => BindsD.plain (fun vs hv => by obtain ⟨v, rfl⟩ := len1 hv; rfl) rfl) fun C Fc => by
    refine (show Run P0 w h0 C k [("path", .dat (.str l))] b__get_sep _ from ?_)
    refine Run.cons (Run1.ite (c := false) (EvB.val (Ev.bc G Fc.wl (v := .builtin "isinstance") (by with_reducible repeat (first | exact List.mem_cons_self | apply List.mem_cons_of_mem)) (Fc.kind (by kernel_rfl)) (EvL.cons (Ev.name (by with_reducible repeat (first | exact List.mem_cons_self | apply List.mem_cons_of_mem))) (EvL.cons (G.bn Fc.wl (v := .type "bytes") (by with_reducible repeat (first | exact List.mem_cons_self | apply List.mem_cons_of_mem)) (Fc.kind (by kernel_rfl))).ev EvL.nil)) call_isinst_str) tru_bool) (fun h => by cases h) (fun _ => ?_))
    exact Run.cons (Run1.ret (Ev.str rfl) rfl)
theorem fn_buffer (G : Gd P mg mb h0) {a : Addr} (F : FnAt mg h0 "_buffer" p__buffer b__buffer sc__buffer a) {l : List UInt8} : Callable P0 w h0 (k + 1) (.ref a) [.bytes l] (.val (.bytes l)) :=
  F.callable G (kw := []) (k := k) (ps := ["data"]) (keys := ["data", "t"]) (es := [.bytes l]) (by kernel_rfl) (by simp) (fun pm code doc => BindsD.plain (fun vs hv => by obtain ⟨v, rfl⟩ := len1 hv; rfl) rfl) fun C Fc => by
    refine (show Run P0 w h0 C k [("data", .dat (.bytes l)), ("t", .un)] b__buffer _ from ?_)
    refine Run.cons (Run1.assign (Ev.bc G Fc.wl (v := .type "type") (by with_reducible repeat (first | exact List.mem_cons_self | apply List.mem_cons_of_mem)) (Fc.kind (by kernel_rfl)) (EvL.cons (Ev.name (by with_reducible repeat (first | exact List.mem_cons_self | apply List.mem_cons_of_mem))) EvL.nil) call_type_bytes) (by with_reducible repeat (first | exact Upd.dat | exact Upd.un | exact Upd.own | apply Upd.tail)) ?_)
    refine Run.cons (Run1.ite (c := true) (EvB.cmp (Ev.name (by with_reducible repeat (first | exact List.mem_cons_self | apply List.mem_cons_of_mem))) (G.bn Fc.wl (v := .type "bytes") (by with_reducible repeat (first | exact List.mem_cons_self | apply List.mem_cons_of_mem)) (Fc.kind (by kernel_rfl))).ev is_tt) (fun _ => ?_) (fun h => by cases h))
    exact Run.cons (Run1.ret (Ev.name (by with_reducible repeat (first | exact List.mem_cons_self | apply List.mem_cons_of_mem))) rfl)
theorem fn_truth (G : Gd P mg mb h0) {a : Addr} (F : FnAt mg h0 "_truth" p__truth b__truth sc__truth a) {b : Bool} : Callable P0 w h0 (k + 1) (.ref a) [.bool b] (.val (.bool b)) :=
  F.callable G (kw := []) (k := k) (ps := ["x"]) (keys := ["x", "t"]) (es := [.bool b]) (by kernel_rfl) (by simp) (fun pm code doc => BindsD.plain (fun vs hv => by obtain ⟨v, rfl⟩ := len1 hv; rfl) rfl) fun C Fc => by
    refine (show Run P0 w h0 C k [("x", .dat (.bool b)), ("t", .un)] b__truth _ from ?_)
    refine Run.cons (Run1.assign (Ev.bc G Fc.wl (v := .type "type") (by with_reducible repeat (first | exact List.mem_cons_self | apply List.mem_cons_of_mem)) (Fc.kind (by kernel_rfl)) (EvL.cons (Ev.name (by with_reducible repeat (first | exact List.mem_cons_self | apply List.mem_cons_of_mem))) EvL.nil) call_type_bool) (by with_reducible repeat (first | exact Upd.dat | exact Upd.un | exact Upd.own | apply Upd.tail)) ?_)
    refine Run.cons (Run1.ite (c := true) (EvB.bool (EvA.or (b := false) (EvB.cmp (Ev.name (by with_reducible repeat (first | exact List.mem_cons_self | apply List.mem_cons_of_mem))) Ev.none (is_nil_no (by rintro m v ⟨⟩; simp))) fun _ => EvA.or (b := true) (c := true) (EvB.cmp (Ev.name (by with_reducible repeat (first | exact List.mem_cons_self | apply List.mem_cons_of_mem))) (G.bn Fc.wl (v := .type "bool") (by with_reducible repeat (first | exact List.mem_cons_self | apply List.mem_cons_of_mem)) (Fc.kind (by kernel_rfl))).ev is_tt) (fun h => by cases h))) (fun _ => ?_) (fun h => by cases h))
    refine Run.cons (Run1.ret (d := .bool b) (Ev.ifexp (b := b) (EvB.val (Ev.name (by with_reducible repeat (first | exact List.mem_cons_self | apply List.mem_cons_of_mem))) tru_bool) (fun h => ?_) (fun h => ?_)) rfl)
    · subst h; exact Ev.bool
    · subst h; exact Ev.bool
end
section
set_option linter.unusedVariables false
set_option maxRecDepth 100000
variable {w : World} {h0 : Heap} {C : Cx} {k : Nat} {σ σ' : Sto} {R : Out → Prop} {P : Params} {mg mb : Str → Option Value}
theorem clipAt_nat (n i : Nat) : clipAt n (i : Int) = min i n := by
  unfold clipAt; rw [if_neg (by omega)]; omega
theorem slc_take {α : Type} (l : List α) (i : Nat) : slc l none (some (i : Int)) = l.take i := by
  unfold slc clips
  simp only [Option.elim, clipAt_nat, List.drop_zero, Nat.sub_zero]
  rcases Nat.le_total i l.length with h | h
  · rw [Nat.min_eq_left h]
  · rw [Nat.min_eq_right h, List.take_length, List.take_of_length_le h]
theorem slc_drop {α : Type} (l : List α) (i : Nat) : slc l (some (i : Int)) none = l.drop i := by
  unfold slc clips
  simp only [Option.elim, clipAt_nat]
  rcases Nat.le_total i l.length with h | h
  · rw [Nat.min_eq_left h, List.take_of_length_le (by simp)]
  · rw [Nat.min_eq_right h, List.drop_length, List.drop_of_length_le h]; simp
theorem slc_both {α : Type} (l : List α) (i j : Nat) (hj : j ≤ l.length) : slc l (some (i : Int)) (some (j : Int)) = (l.drop i).take (j - i) := by
  unfold slc clips
  simp only [Option.elim, clipAt_nat]
  rcases Nat.le_total i l.length with h | h
  · rw [Nat.min_eq_left h, Nat.min_eq_left hj]
  · rw [Nat.min_eq_right h, List.drop_length, List.drop_of_length_le h]; simp
section
variable {prog : Program} {e i j : Expr} {p p' : Pos} {n m : Nat} {l : List Nat} {ds : List D}
theorem Ev.takeS (h : Ev prog w h0 C k σ e (.str l)) (hi : Ev prog w h0 C k σ i (dI n)) (hz : l.length ≤ sizeLine) : Ev prog w h0 C k σ (.Subscript e (.Slice .none (.some i) .none p') p) (.str (l.take n)) := by
  rw [← slc_take]; exact Ev.slice h EvP.none (EvP.some hi) (slc_str hz)
theorem Ev.dropS (h : Ev prog w h0 C k σ e (.str l)) (hi : Ev prog w h0 C k σ i (dI n)) (hz : l.length ≤ sizeLine) : Ev prog w h0 C k σ (.Subscript e (.Slice (.some i) .none .none p') p) (.str (l.drop n)) := by
  rw [← slc_drop]; exact Ev.slice h (EvP.some hi) EvP.none (slc_str hz)
theorem Ev.bothS (h : Ev prog w h0 C k σ e (.str l)) (hi : Ev prog w h0 C k σ i (dI n)) (hj : Ev prog w h0 C k σ j (dI m)) (hm : m ≤ l.length) (hz : l.length ≤ sizeLine) : Ev prog w h0 C k σ (.Subscript e (.Slice (.some i) (.some j) .none p') p) (.str ((l.drop n).take (m - n))) := by
  rw [← slc_both l n m hm]; exact Ev.slice h (EvP.some hi) (EvP.some hj) (slc_str hz)
theorem Ev.takeL (h : Ev prog w h0 C k σ e (.lst ds)) (hi : Ev prog w h0 C k σ i (dI n)) (hz : ds.length ≤ sizeLine) : Ev prog w h0 C k σ (.Subscript e (.Slice .none (.some i) .none p') p) (.lst (ds.take n)) := by
  rw [← slc_take]; exact Ev.slice h EvP.none (EvP.some hi) (slc_lst hz)
end
noncomputable def splI (l : List Nat) : Nat := (rfnd 47 l + 1).toNat
theorem splI_eq (l : List Nat) : rfnd 47 l + 1 = (splI l : Int) := by
  unfold splI
  rw [Int.toNat_of_nonneg]
  unfold rfnd; split <;> omega
noncomputable def splH (h : List Nat) : List Nat := if !h.isEmpty && (h != List.replicate h.length 47) then rstp 47 h else h
noncomputable def spt (l : List Nat) : List Nat × List Nat := (splH (l.take (splI l)), l.drop (splI l))
theorem fn_split (G : Gd P mg mb h0) {a : Addr} (F : FnAt mg h0 "split" p_split b_split sc_split a) {l : List Nat} (hz : l.length ≤ sizeLine) : Callable P0 w h0 (k + 3) (.ref a) [.str l] (.val (.tup [.str (spt l).1, .str (spt l).2])) :=
  F.callable G (kw := []) (k := k + 2) (ps := ["p"]) (keys := ["p", "sep", "i", "head", "tail"]) (es := [.str l]) (by kernel_rfl) (by simp) (fun pm code doc => BindsD.plain (fun vs hv => by obtain ⟨v, rfl⟩ := len1 hv; rfl) rfl) fun C Fc => by
    obtain ⟨af, Ff⟩ := G.at in_fspath
    obtain ⟨as, Fs⟩ := G.at in__get_sep
    have h63 : l.length < 2 ^ 63 := Nat.lt_of_le_of_lt hz (by decide)
    have ht : (l.take (splI l)).length ≤ l.length := by rw [List.length_take]; omega
    refine (show Run P0 w h0 C (k + 2) [("p", .dat (.str l)), ("sep", .un), ("i", .un), ("head", .un), ("tail", .un)] b_split _ from ?_)
    refine Run.cons (Run1.assign (Ev.fc Fc.wl Ff (Fc.kind (by kernel_rfl)) (EvL.cons (Ev.name (by with_reducible repeat (first | exact List.mem_cons_self | apply List.mem_cons_of_mem))) EvL.nil) (fn_fspath G Ff)) (by with_reducible repeat (first | exact Upd.dat | exact Upd.un | exact Upd.own | apply Upd.tail)) ?_)
    refine Run.cons (Run1.assign (Ev.fc Fc.wl Fs (Fc.kind (by kernel_rfl)) (EvL.cons (Ev.name (by with_reducible repeat (first | exact List.mem_cons_self | apply List.mem_cons_of_mem))) EvL.nil) (fn_get_sep G Fs)) (by with_reducible repeat (first | exact Upd.dat | exact Upd.un | exact Upd.own | apply Upd.tail)) ?_)
    refine Run.cons (Run1.assign (Ev.add (Ev.meth (Ev.name (by with_reducible repeat (first | exact List.mem_cons_self | apply List.mem_cons_of_mem))) (EvL.cons (Ev.name (by with_reducible repeat (first | exact List.mem_cons_self | apply List.mem_cons_of_mem))) EvL.nil) m_rfind) Ev.int) (by with_reducible repeat (first | exact Upd.dat | exact Upd.un | exact Upd.own | apply Upd.tail)) ?_)
    rw [splI_eq]
    refine Run.cons (Run1.swap2 (Ev.tp (EvL.cons (Ev.takeS (Ev.name (by with_reducible repeat (first | exact List.mem_cons_self | apply List.mem_cons_of_mem))) (Ev.name (by with_reducible repeat (first | exact List.mem_cons_self | apply List.mem_cons_of_mem))) hz) (EvL.cons (Ev.dropS (Ev.name (by with_reducible repeat (first | exact List.mem_cons_self | apply List.mem_cons_of_mem))) (Ev.name (by with_reducible repeat (first | exact List.mem_cons_self | apply List.mem_cons_of_mem))) hz) EvL.nil))) (by with_reducible repeat (first | exact Upd.dat | exact Upd.un | exact Upd.own | apply Upd.tail)) (by with_reducible repeat (first | exact Upd.dat | exact Upd.un | exact Upd.own | apply Upd.tail)) ?_ (swapped2 Fc.blk (Fc.kind (by kernel_rfl)) (Fc.kind (by kernel_rfl)) (by rfl) (by kernel_rfl) (by rfl) (by rfl) (by rfl)))
    · refine Run.cons (Run1.ite (c := !(l.take (splI l)).isEmpty && (((l.take (splI l)) != List.replicate (l.take (splI l)).length 47) && true)) (EvB.bool (EvA.and (EvB.val (Ev.name (by with_reducible repeat (first | exact List.mem_cons_self | apply List.mem_cons_of_mem))) (tru_str (by omega))) fun _ => EvA.and (EvB.cmp (Ev.name (by with_reducible repeat (first | exact List.mem_cons_self | apply List.mem_cons_of_mem))) (Ev.bin (Ev.name (by with_reducible repeat (first | exact List.mem_cons_self | apply List.mem_cons_of_mem))) (Ev.bc G Fc.wl (v := .builtin "len") (by with_reducible repeat (first | exact List.mem_cons_self | apply List.mem_cons_of_mem)) (Fc.kind (by kernel_rfl)) (EvL.cons (Ev.name (by with_reducible repeat (first | exact List.mem_cons_self | apply List.mem_cons_of_mem))) EvL.nil) (call_len_str (by omega))) (mul_si (by omega))) ne_ss) fun _ => EvA.nil_and)) (fun h => ?_) (fun h => ?_))
      · refine Run.cons (Run1.assign (Ev.meth (Ev.name (by with_reducible repeat (first | exact List.mem_cons_self | apply List.mem_cons_of_mem))) (EvL.cons (Ev.name (by with_reducible repeat (first | exact List.mem_cons_self | apply List.mem_cons_of_mem))) EvL.nil) (m_rstrip (by omega))) (by with_reducible repeat (first | exact Upd.dat | exact Upd.un | exact Upd.own | apply Upd.tail)) (Run.nil ?_))
        refine Run.cons (Run1.ret (d := .tup [.str (spt l).1, .str (spt l).2]) ?_ rfl)
        have e : (spt l).1 = rstp 47 (l.take (splI l)) := if_pos (by simpa using h)
        rw [e, show (spt l).2 = l.drop (splI l) from rfl]
        exact Ev.tp (EvL.cons (Ev.name (by with_reducible repeat (first | exact List.mem_cons_self | apply List.mem_cons_of_mem))) (EvL.cons (Ev.name (by with_reducible repeat (first | exact List.mem_cons_self | apply List.mem_cons_of_mem))) EvL.nil))
      · refine Run.nil ?_
        refine Run.cons (Run1.ret (d := .tup [.str (spt l).1, .str (spt l).2]) ?_ rfl)
        have e : (spt l).1 = l.take (splI l) := if_neg (by rw [Bool.and_true] at h; rw [h]; simp)
        rw [e, show (spt l).2 = l.drop (splI l) from rfl]
        exact Ev.tp (EvL.cons (Ev.name (by with_reducible repeat (first | exact List.mem_cons_self | apply List.mem_cons_of_mem))) (EvL.cons (Ev.name (by with_reducible repeat (first | exact List.mem_cons_self | apply List.mem_cons_of_mem))) EvL.nil))
noncomputable def sixOf (n : Int) : Nat := [24, 24, 62, 63, 24, 62, 63, (n / 8 % 64).toNat].getD (n % 8).toNat 0
noncomputable def sixs (n : Int) : List Nat := (List.range 4).map fun (j : Nat) => sixOf (n / 8 ^ j)
theorem fn_sixes (G : Gd P mg mb h0) {a : Addr} (F : FnAt mg h0 "_law_sixes" p__law_sixes b__law_sixes sc__law_sixes a) {n : Int} : Callable P0 w h0 (k + 3) (.ref a) [.int n] (.val (.lst ((sixs n).map dI))) :=
  F.callable G (kw := []) (k := k + 2) (ps := ["number"]) (keys := ["number", "sixes", "k"]) (es := [.int n]) (by kernel_rfl) (by simp) (fun pm code doc => BindsD.plain (fun vs hv => by obtain ⟨v, rfl⟩ := len1 hv; rfl) rfl) fun C Fc => by
    refine (show Run P0 w h0 C (k + 2) [("number", .dat (.int n)), ("sixes", .un), ("k", .un)] b__law_sixes _ from ?_)
    refine Run.cons (Run1.newOwn fun o => ⟨_, by ((with_reducible repeat (first | exact Upd.dat | exact Upd.un | exact Upd.own | apply Upd.tail)); done), ?_⟩)
    refine Run.cons (Run1.for (fun i σ => ∃ sl, (sl = .un ∨ ∃ d, sl = .dat d) ∧ σ = ([("number", .dat (.int (n / 8 ^ i))), ("sixes", .own o ((List.range i).map fun (j : Nat) => dI (sixOf (n / 8 ^ j)))), ("k", sl)] : Sto))
      (EvI.of (Ev.bc G Fc.wl (v := .type "range") (by with_reducible repeat (first | exact List.mem_cons_self | apply List.mem_cons_of_mem)) (Fc.kind (by kernel_rfl)) (EvL.cons Ev.int EvL.nil) call_range1) (iter_rng (by decide) (by decide) (by decide) (by decide))) ⟨.un, .inl rfl, by simp⟩ ?_ ?_)
    · rintro i σ d ⟨sl, hsl, rfl⟩ hd
      have u : Upd [("number", .dat (.int (n / 8 ^ i))), ("sixes", .own o ((List.range i).map fun (j : Nat) => dI (sixOf (n / 8 ^ j)))), ("k", sl)] "k" (.dat d) [("number", .dat (.int (n / 8 ^ i))), ("sixes", .own o ((List.range i).map fun (j : Nat) => dI (sixOf (n / 8 ^ j)))), ("k", .dat d)] := by
        rcases hsl with rfl | ⟨d', rfl⟩ <;> ((with_reducible repeat (first | exact Upd.dat | exact Upd.un | exact Upd.own | apply Upd.tail)); done)
      refine ⟨_, Tgt.name u, ?_⟩
      have hi : i < 4 := by
        have := (List.getElem?_eq_some_iff.mp hd).1
        simpa [rangeD] using this
      have e1 : ((n / 8 ^ i) / ((8 : Nat) : Int) % ((64 : Nat) : Int)).toNat = (n / 8 ^ i / 8 % 64).toNat := rfl
      refine Run.cons (Run1.append (d := dI (sixOf (n / 8 ^ i))) (by with_reducible repeat (first | exact List.mem_cons_self | apply List.mem_cons_of_mem)) ?_ (by with_reducible repeat (first | exact Upd.dat | exact Upd.un | exact Upd.own | apply Upd.tail)) (by simp; exact Nat.le_trans (Nat.le_of_lt hi) (by decide)) ?_)
      · generalize n / 8 ^ i = m
        refine Ev.sub (d := .lst [dI 24, dI 24, dI 62, dI 63, dI 24, dI 62, dI 63, dI (m / ((8 : Nat) : Int) % ((64 : Nat) : Int)).toNat]) (di := dI (m % ((8 : Nat) : Int)).toNat) ?_ ?_ ?_
        · refine Ev.ls ?_
          refine EvL.cons Ev.nat ?_
          refine EvL.cons Ev.nat ?_
          refine EvL.cons Ev.nat ?_
          refine EvL.cons Ev.nat ?_
          refine EvL.cons Ev.nat ?_
          refine EvL.cons Ev.nat ?_
          refine EvL.cons Ev.nat ?_
          refine EvL.cons ?_ EvL.nil
          exact Ev.modZ (Ev.divZ (Ev.name (by with_reducible repeat (first | exact List.mem_cons_self | apply List.mem_cons_of_mem))) Ev.nat (by decide) (by decide)) Ev.nat (by decide)
        · exact Ev.modZ (Ev.name (by with_reducible repeat (first | exact List.mem_cons_self | apply List.mem_cons_of_mem))) Ev.nat (by decide)
        refine (itm_lst (by omega) (by omega) ?_)
        rw [Int.toNat_natCast]
        unfold sixOf
        have : (m % ((8 : Nat) : Int)).toNat < 8 := by omega
        have e : (m % ((8 : Nat) : Int)).toNat = (m % 8).toNat := rfl
        rw [← e]
        revert this
        generalize (m % ((8 : Nat) : Int)).toNat = q
        intro hq
        match q, hq with
        | 0, _ => rfl
        | 1, _ => rfl
        | 2, _ => rfl
        | 3, _ => rfl
        | 4, _ => rfl
        | 5, _ => rfl
        | 6, _ => rfl
        | 7, _ => rfl
      · refine Run.cons (Run1.assign (Ev.divZ (y := 8) (Ev.name (by with_reducible repeat (first | exact List.mem_cons_self | apply List.mem_cons_of_mem))) Ev.nat (by decide) (by decide)) (by with_reducible repeat (first | exact Upd.dat | exact Upd.un | exact Upd.own | apply Upd.tail)) (Run.nil ⟨.dat d, .inr ⟨_, rfl⟩, ?_⟩))
        have e : n / 8 ^ i / ((8 : Nat) : Int) = n / 8 ^ (i + 1) := by
          rw [Int.ediv_ediv_of_nonneg (Int.pow_nonneg (by decide)), Int.pow_succ]; rfl
        rw [e, List.range_succ, List.map_append]; rfl
    · rintro σ ⟨sl, hsl, rfl⟩
      refine Run.freeze (x := "sixes") (by with_reducible repeat (first | exact List.mem_cons_self | apply List.mem_cons_of_mem)) (by with_reducible repeat (first | exact Upd.dat | exact Upd.un | exact Upd.own | apply Upd.tail)) ?_
      exact Run.cons (Run1.ret (Ev.name (by with_reducible repeat (first | exact List.mem_cons_self | apply List.mem_cons_of_mem))) (by simp [sixs, rangeD]))
end
section
set_option linter.unusedVariables false
set_option maxRecDepth 100000
variable {w : World} {h0 : Heap} {C C' : Cx} {k : Nat} {σ σ' : Sto} {R : Out → Prop} {P : Params} {mg mb : Str → Option Value}
theorem FnAt.go {n : Str} {p : Arguments} {b : List Stmt} {sc : Scope} {a : Addr} {kw : List (Str × Value)} {ds es : List D} {ps keys : List Str} {σ₀ : Sto} {r : Res} (G : Gd P mg mb h0) (F : FnAt mg h0 n p b sc a) (ok : fnOk sc keys ps = true) (hps : (ps.all fun x => keys.contains x) = true)
    (hbind : ∀ pm code doc, BindsD P0 w h0 (Calls.docDef n p b sc pm code doc) kw ds ps es) (hσ : startSto keys ps es = σ₀)
    (run : ∀ C, Fc mg mb h0 sc C → Run P0 w h0 C k σ₀ b (fun o => match o with | .ret d => r = .val d | .exc cls ds => r = .exc cls ds | .next _ => r = .val .none | _ => False)) :
    ∀ l A m s vs, Ok l (k + 1) A → Amb h0 l m s → RdL m ds vs → Gv P0 w h0 l A m s (PySem.call (.ref a) vs kw) r :=
  F.callable G ok (fun x hx => by simpa using List.all_eq_true.mp hps x hx) hbind (by rw [hσ]; exact run)
section
variable {a b : Expr} {p : Pos} {x y : Nat}
theorem Ev.subN {prog : Program} (ha : Ev prog w h0 C k σ a (dI x)) (hb : Ev prog w h0 C k σ b (dI y)) (h : y ≤ x) : Ev prog w h0 C k σ (.BinOp a .Sub b p) (dI (x - y)) := by
  have := Ev.subI (p := p) ha hb
  rwa [show ((x : Int) - (y : Int)) = ((x - y : Nat) : Int) by omega] at this
theorem ltN {prog : Program} : Bin prog w h0 (compareOp .Lt) (dI x) (dI y) (.bool (decide (x < y))) := by
  have := lt_ii (prog := prog) (w := w) (h0 := h0) (a := (x : Int)) (b := (y : Int))
  rwa [show (decide ((x : Int) < y)) = decide (x < y) by simp] at this
theorem geN {prog : Program} : Bin prog w h0 (compareOp .GtE) (dI x) (dI y) (.bool (decide (y ≤ x))) := by
  have := ge_ii (prog := prog) (w := w) (h0 := h0) (a := (x : Int)) (b := (y : Int))
  rwa [show (decide ((y : Int) ≤ x)) = decide (y ≤ x) by simp] at this
theorem eqN {prog : Program} : Bin prog w h0 (compareOp .Eq) (dI x) (dI y) (.bool (decide (x = y))) := by
  have := eq_ii (prog := prog) (w := w) (h0 := h0) (a := (x : Int)) (b := (y : Int))
  rwa [show ((x : Int) == y) = decide (x = y) by by_cases h : x = y <;> simp [h]; omega] at this
theorem neN {prog : Program} : Bin prog w h0 (compareOp .NotEq) (dI x) (dI y) (.bool (decide (x ≠ y))) := by
  have := ne_ii (prog := prog) (w := w) (h0 := h0) (a := (x : Int)) (b := (y : Int))
  rwa [show ((x : Int) != y) = decide (x ≠ y) by by_cases h : x = y <;> simp [h]; omega] at this
end
theorem ros_cons {x : Str} {d : D} {r : List (Str × D)} : ros ((x, d) :: r) = (x, Sl.ro d) :: ros r := rfl
theorem ros_nil : ros [] = [] := rfl
theorem EvL.c {prog : Program} {e : Expr} {es : List Expr} {d : D} {ds : List D} (h : Ev prog w h0 C k σ e d) (hs : EvL prog w h0 C k σ es ds) (hn : NoStar e := by intro _ _; with_unfolding_all rfl) : EvL prog w h0 C k σ (e :: es) (d :: ds) := EvL.cons h hs hn
theorem Ev.dblE {prog : Program} {o : Expr} {apos pos p1 p2 : Pos} {n1 n2 : Nat} (c : Nat) {x y : Str} {l : List Nat} (ho : Ev prog w h0 C k σ o (.str l)) (hz : 4 * l.length + 4 ≤ sizeLine) (hx : x = ⟨#[c]⟩ := by with_unfolding_all rfl) (hy : y = ⟨#[c, c]⟩ := by with_unfolding_all rfl)
    (hbase : ∀ env, attributeBase o "replace" env (eval o env) = eval o env := by intro _; with_unfolding_all rfl) (hline : (apos.endLine == pos.line) = true := by with_unfolding_all rfl) :
    Ev prog w h0 C k σ (.Call (.Attribute o "replace" apos) [.Constant (.str x) n1 p1, .Constant (.str y) n2 p2] [] pos) (.str (StrLaws.dbl c l)) := by subst hx hy; exact Ev.dbl ho hz hbase hline
theorem Ev.mth {prog : Program} {o : Expr} {name : Str} {apos pos : Pos} {es : List Expr} {d : D} {ds : List D} {T id : String} {r : Res} (ho : Ev prog w h0 C k σ o d) (ha : EvL prog w h0 C k σ es ds) (M : MethR prog w h0 k T name id d ds r)
    (hbase : ∀ env, attributeBase o name env (eval o env) = eval o env := by intro _; with_unfolding_all rfl) (hline : (apos.endLine == pos.line) = true := by with_unfolding_all rfl) (hlen : decide (es.length < 30) = true := by with_unfolding_all rfl) : EvR prog w h0 C k σ (.Call (.Attribute o name apos) es [] pos) r := Ev.meth ho ha M hbase hline hlen
theorem EvB.vl {prog : Program} {e : Expr} {d : D} {b : Bool} (h : Ev prog w h0 C k σ e d) (t : Tru prog w h0 d b)
    (hp : PySem.isTrue e C.env (eval e C.env) = do { let v ← eval e C.env; standAt e.pos; holding [v] (truthy v) } := by with_unfolding_all rfl) : EvB prog w h0 C k σ e b := EvB.val h t hp
theorem Run.split {prog : Program} {st : Stmt} {rest : List Stmt} (S : Sto → Prop) (h1 : Run1 prog w h0 C k σ st (fun o => ∃ σ', S σ' ∧ o = .next σ')) (h2 : ∀ σ', S σ' → Run prog w h0 C k σ' rest R) : Run prog w h0 C k σ (st :: rest) R :=
  Run.cons (Runs.mono h1 fun o ⟨σ', hs, e⟩ => by subst e; exact h2 σ' hs)
theorem sz {n : Nat} (h : n ≤ 100000) : n ≤ sizeLine := Nat.le_trans h (by decide)
theorem get_of {α : Type} {l : List α} {i : Nat} (h : i < l.length) : l[i]? = some l[i] := List.getElem?_eq_getElem h
section
variable {prog : Program} {rest : List Stmt} {e : Expr} {p np : Pos} {x : Str}
/-- what is assigned comes first -/
theorem Run.asg (d : D) (h : Ev prog w h0 C k σ e d) (u : Upd σ x (.dat d) σ') (r : Run prog w h0 C k σ' rest R) (hs : swapsWith e (some (.Name x np)) p.line C.env = pure false := by with_unfolding_all rfl) : Run prog w h0 C k σ (.Assign [.Name x np] e p :: rest) R := Run.cons (Run1.assign h u r hs)
theorem Run.rtn (d : D) (h : Ev prog w h0 C k σ e d) (r : R (.ret d)) : Run prog w h0 C k σ (.Return (some e) p :: rest) R := Run.cons (Run1.ret h r)
theorem Run.ite {b o : List Stmt} {c : Bool} (h : EvB prog w h0 C k σ e c) (h1 : c = true → Run prog w h0 C k σ b (fun o => match o with | .next σ' => Run prog w h0 C k σ' rest R | o => R o))
    (h2 : c = false → Run prog w h0 C k σ o (fun o => match o with | .next σ' => Run prog w h0 C k σ' rest R | o => R o)) : Run prog w h0 C k σ (.If e b o p :: rest) R := Run.cons (Run1.ite h h1 h2)
theorem Run.tail (h : Run prog w h0 C k σ rest R) : Run prog w h0 C k σ [] (fun o => match o with | .next σ' => Run prog w h0 C k σ' rest R | o => R o) := Run.nil h
end
end
section
variable {prog : Program} {w : World} {h0 : Heap} {C C' : Cx} {k : Nat} {σ σ' : Sto}
theorem Ev.natE {i : Int} {n m : Nat} {p : Pos} (h : i = (n : Int)) : Ev prog w h0 C k σ (.Constant (.int i) m p) (dI n) := h ▸ Ev.int
end
section
set_option linter.unusedVariables false
set_option maxRecDepth 100000
variable {w : World} {h0 : Heap} {C : Cx} {k : Nat} {σ σ' : Sto} {R : Out → Prop} {P : Params} {mg mb : Str → Option Value}
noncomputable def endsOf (c : Nat) : List Nat := [[0, 1, 2, 3, 4], [0, 1, 2, 4], [0, 2, 4], [0, 1, 4]].getD c []
noncomputable def pairsOf (c : Nat) : List (Nat × Nat) := [[(0, 1), (1, 2), (2, 3), (3, 4)], [(0, 1), (1, 2), (2, 4)], [(0, 2), (2, 4)], [(0, 1), (1, 4)]].getD c []
theorem pairs_ok : ∀ c < 4, ∀ p ∈ pairsOf c, p.1 ≤ p.2 ∧ p.2 ≤ 4 := by decide
theorem ends_ok : ∀ c < 4, 1 < (endsOf c).length ∧ (endsOf c).length ≤ 5 ∧ (List.range ((endsOf c).length - 1)).map (fun i => ((endsOf c).getD i 0, (endsOf c).getD (i + 1) 0)) = pairsOf c := by decide
theorem fn_cut (G : Gd P mg mb h0) {a : Addr} (F : FnAt mg h0 "_law_cut" p__law_cut b__law_cut sc__law_cut a) {d : D} {c : Nat} {sl : Nat → Nat → D} (hc : c < 4)
    (hS : ∀ (i j : Nat), i ≤ j → j ≤ 4 → Slc P0 w h0 d (some (i : Int)) (some (j : Int)) (sl i j)) : Callable P0 w h0 (k + 3) (.ref a) [d, dI c] (.val (.lst ((pairsOf c).map fun p => sl p.1 p.2))) :=
  F.go G (kw := []) (k := k + 2) (ps := ["row", "cut"]) (keys := ["row", "cut", "ends"]) (es := [d, dI c]) (by kernel_rfl) (by kernel_rfl) (fun pm code doc => BindsD.plain (fun vs hv => by obtain ⟨v, u, rfl⟩ := len2 hv; kernel_rfl) rfl) (σ₀ := [("row", .dat d), ("cut", .dat (dI c)), ("ends", .un)]) (by kernel_rfl) fun C Fc => by
    obtain ⟨h1, h2, h3⟩ := ends_ok c hc
    delta b__law_cut
    with_reducible refine Run.asg (.lst ((endsOf c).map dI)) ?_ (by with_reducible repeat (first | exact Upd.dat | exact Upd.un | exact Upd.own | apply Upd.tail)) ?_
    · with_reducible refine Ev.sub (d := .lst [.lst [dI 0, dI 1, dI 2, dI 3, dI 4], .lst [dI 0, dI 1, dI 2, dI 4], .lst [dI 0, dI 2, dI 4], .lst [dI 0, dI 1, dI 4]]) (di := dI c) ?_ ?_ ?_
      · ((with_reducible repeat' (first | exact Ev.name (by with_reducible repeat (first | exact List.mem_cons_self | apply List.mem_cons_of_mem)) | exact Ev.int | exact EvL.nil | (refine Ev.natE ?_; with_unfolding_all rfl) | (refine Ev.str ?_; with_unfolding_all rfl) | exact Ev.none | exact Ev.bool | exact Ev.nameR (by with_reducible repeat (first | exact List.mem_cons_self | apply List.mem_cons_of_mem)) | refine EvL.c ?_ ?_ | refine Ev.ls ?_ ?_ | refine Ev.tp ?_ ?_ | decide | (simp only [List.length_cons, List.length_nil]; decide))); done)
      · ((with_reducible repeat' (first | exact Ev.name (by with_reducible repeat (first | exact List.mem_cons_self | apply List.mem_cons_of_mem)) | exact Ev.int | exact EvL.nil | (refine Ev.natE ?_; with_unfolding_all rfl) | (refine Ev.str ?_; with_unfolding_all rfl) | exact Ev.none | exact Ev.bool | exact Ev.nameR (by with_reducible repeat (first | exact List.mem_cons_self | apply List.mem_cons_of_mem)) | refine EvL.c ?_ ?_ | refine Ev.ls ?_ ?_ | refine Ev.tp ?_ ?_ | decide | (simp only [List.length_cons, List.length_nil]; decide))); done)
      · refine (itm_lst (by omega) (by omega) ?_)
        rw [Int.toNat_natCast]
        match c, hc with
        | 0, _ => rfl
        | 1, _ => rfl
        | 2, _ => rfl
        | 3, _ => rfl
    with_reducible refine Run.rtn (.lst ((pairsOf c).map fun p => sl p.1 p.2)) ?_ ?_
    · have hl : ((endsOf c).map dI).length = (endsOf c).length := List.length_map ..
      have hrd : rangeD 1 ((((endsOf c).length : Nat) : Int) - 1).toNat = (List.range ((endsOf c).length - 1)).map fun (i : Nat) => .int (1 + (i : Int)) := by
        rw [show ((((endsOf c).length : Nat) : Int) - 1).toNat = (endsOf c).length - 1 by omega]; rfl
      have out : (pairsOf c).map (fun p => sl p.1 p.2) = (rangeD 1 ((((endsOf c).length : Nat) : Int) - 1).toNat).filterMap (fun e => match e with | .int i => some (sl ((endsOf c).getD (i.toNat - 1) 0) ((endsOf c).getD i.toNat 0)) | _ => none) := by
        rw [hrd, ← h3, List.filterMap_map, List.map_map, ← List.filterMap_eq_map]
        refine congrArg (fun f => List.filterMap f _) (funext fun (i : Nat) => ?_)
        simp only [Function.comp]
        rw [show (1 + (i : Int)).toNat = i + 1 by omega, Nat.add_sub_cancel]
      rw [out]
      with_reducible refine CompH.ev (comp1 (ds := rangeD 1 ((((endsOf c).length : Nat) : Int) - 1).toNat) [("ends", .lst ((endsOf c).map dI)), ("row", d)]
        (g := fun e => match e with | .int i => some (sl ((endsOf c).getD (i.toNat - 1) 0) ((endsOf c).getD i.toNat 0)) | _ => none) ?_ ?_ ?_ ?_) ?_ ?_
      · kernel_rfl
      · intro x e hx
        simp only [List.mem_cons, List.not_mem_nil, or_false, Prod.mk.injEq] at hx
        rcases hx with ⟨rfl, rfl⟩ | ⟨rfl, rfl⟩
        · exact ⟨.inl (by with_reducible repeat (first | exact List.mem_cons_self | apply List.mem_cons_of_mem)), fun q => by rw [Fc.kind (kd := .cell) (by kernel_rfl)] at q; cases q⟩
        · exact ⟨.inl (by with_reducible repeat (first | exact List.mem_cons_self | apply List.mem_cons_of_mem)), fun q => by rw [Fc.kind (kd := .cell) (by kernel_rfl)] at q; cases q⟩
      · refine EvI.of ?_ (iter_rng (by decide) (by decide) (by omega) (by omega))
        with_reducible refine Ev.bc G Fc.wl (v := .type "range") (by with_reducible repeat (first | exact List.mem_cons_self | apply List.mem_cons_of_mem)) (Fc.kind (by kernel_rfl)) (EvL.c (d := .int 1) ?_ (EvL.c (d := .int (((endsOf c).length : Nat) : Int)) ?_ EvL.nil)) call_range2
        · ((with_reducible repeat' (first | exact Ev.name (by with_reducible repeat (first | exact List.mem_cons_self | apply List.mem_cons_of_mem)) | exact Ev.int | exact EvL.nil | (refine Ev.natE ?_; with_unfolding_all rfl) | (refine Ev.str ?_; with_unfolding_all rfl) | exact Ev.none | exact Ev.bool | exact Ev.nameR (by with_reducible repeat (first | exact List.mem_cons_self | apply List.mem_cons_of_mem)) | refine EvL.c ?_ ?_ | refine Ev.ls ?_ ?_ | refine Ev.tp ?_ ?_ | decide | (simp only [List.length_cons, List.length_nil]; decide))); done)
        · rw [← hl]
          with_reducible refine Ev.bc G Fc.wl (v := .builtin "len") (by with_reducible repeat (first | exact List.mem_cons_self | apply List.mem_cons_of_mem)) (Fc.kind (by kernel_rfl)) (EvL.c (Ev.name (by with_reducible repeat (first | exact List.mem_cons_self | apply List.mem_cons_of_mem))) EvL.nil) (call_len_lst (by omega))
      · intro C' hC e he
        rw [hrd] at he
        obtain ⟨i, hi, rfl⟩ := List.mem_map.mp he
        have hi' : i < (endsOf c).length - 1 := by simpa using hi
        have e1 : (1 + (i : Int)).toNat = i + 1 := by omega
        have g1 : i < (endsOf c).length := by omega
        have g2 : i + 1 < (endsOf c).length := by omega
        have hp : ((endsOf c).getD i 0, (endsOf c).getD (i + 1) 0) ∈ pairsOf c := h3 ▸ List.mem_map.mpr ⟨i, hi, rfl⟩
        have hp' := pairs_ok c hc _ hp
        show TurnOk _ _ _ _ _ _ _ _ (some (sl ((endsOf c).getD ((1 + (i : Int)).toNat - 1) 0) ((endsOf c).getD (1 + (i : Int)).toNat 0)))
        rw [e1, Nat.add_sub_cancel]
        refine TurnOk.all ?_
        rw [ros_cons, ros_cons, ros_nil]
        with_reducible refine Ev.slice (d := d) (i := some (((endsOf c).getD i 0 : Nat) : Int)) (j := some (((endsOf c).getD (i + 1) 0 : Nat) : Int)) ?_ (EvP.some ?_) (EvP.some ?_) (hS _ _ hp'.1 hp'.2)
        · with_reducible exact Ev.nameR (by with_reducible repeat (first | exact List.mem_cons_self | apply List.mem_cons_of_mem))
        · with_reducible refine Ev.sub (d := .lst ((endsOf c).map dI)) (di := .int (1 + (i : Int) - 1)) (Ev.nameR (by with_reducible repeat (first | exact List.mem_cons_self | apply List.mem_cons_of_mem))) (Ev.subI (Ev.name (by with_reducible repeat (first | exact List.mem_cons_self | apply List.mem_cons_of_mem))) Ev.int) ?_
          refine itm_lst (by omega) (by omega) ?_
          rw [show (1 + (i : Int) - 1).toNat = i by omega, List.getElem?_map, get_of g1]; simp [g1]
        · with_reducible refine Ev.sub (d := .lst ((endsOf c).map dI)) (di := .int (1 + (i : Int))) (Ev.nameR (by with_reducible repeat (first | exact List.mem_cons_self | apply List.mem_cons_of_mem))) (Ev.name (by with_reducible repeat (first | exact List.mem_cons_self | apply List.mem_cons_of_mem))) ?_
          refine itm_lst (by omega) (by omega) ?_
          rw [e1, List.getElem?_map, get_of g2]; simp [g2]
      · rw [← out, List.length_map]; exact sz (by have := congrArg List.length h3; simp at this; omega)
      · intro _; rfl
    · rfl
end
section
set_option linter.unusedVariables false
set_option maxRecDepth 100000
variable {w : World} {h0 : Heap} {C : Cx} {k : Nat} {σ σ' : Sto} {R : Out → Prop} {P : Params} {mg mb : Str → Option Value}
noncomputable def dueOf (kind : Nat) (way : List Nat) (g : Nat) (line : List Nat) : D :=
  if kind < 3 then .lst [.tup [.str way, .str [48 + g]], .str line] else if kind = 8 then .lst [.tup [.str [], .str []], .str line] else if kind < 6 then .lst [.str line, .tup [.str way, dI g]] else
  .lst [.str line, if kind = 6 then .lst [.str line] else if kind = 7 then .str line else .none]
theorem num_goal : ∀ g : Nat, g < 10 → numL (g : Int) = [48 + g] := by
  intro g hg
  match g, hg with
  | 0, _ => kernel_rfl
  | 1, _ => kernel_rfl
  | 2, _ => kernel_rfl
  | 3, _ => kernel_rfl
  | 4, _ => kernel_rfl
  | 5, _ => kernel_rfl
  | 6, _ => kernel_rfl
  | 7, _ => kernel_rfl
  | 8, _ => kernel_rfl
  | 9, _ => kernel_rfl
theorem log_goal : ∀ g : Nat, g < 10 → (g : Int).natAbs.log2 < 1920 := by decide
theorem due_in : ∀ kind : Nat, kind < 10 → ((D.pyL [dI 0, dI 1, dI 2, dI 8]).any fun y => PyData.eqv y (dI kind).py) = decide (kind < 3 ∨ kind = 8) := by
  intro g hg
  match g, hg with
  | 0, _ => kernel_rfl
  | 1, _ => kernel_rfl
  | 2, _ => kernel_rfl
  | 3, _ => kernel_rfl
  | 4, _ => kernel_rfl
  | 5, _ => kernel_rfl
  | 6, _ => kernel_rfl
  | 7, _ => kernel_rfl
  | 8, _ => kernel_rfl
  | 9, _ => kernel_rfl
theorem fn_due (G : Gd P mg mb h0) {a : Addr} (F : FnAt mg h0 "_law_due" p__law_due b__law_due sc__law_due a) {kind g : Nat} {way line : List Nat} (hk : kind < 10) (hg : g < 10) : Callable P0 w h0 (k + 1) (.ref a) [dI kind, .str way, dI g, .str line] (.val (dueOf kind way g line)) :=
  F.go G (kw := []) (k := k) (ps := ["kind", "way", "goal", "line"]) (keys := ["kind", "way", "goal", "line"]) (es := [dI kind, .str way, dI g, .str line]) (by kernel_rfl) (by kernel_rfl) (fun pm code doc => BindsD.plain (fun vs hv => by obtain ⟨v, u, x, y, rfl⟩ := len4 hv; kernel_rfl) rfl) (σ₀ := [("kind", .dat (dI kind)), ("way", .dat (.str way)), ("goal", .dat (dI g)), ("line", .dat (.str line))]) (by kernel_rfl) fun C Fc => by
    delta b__law_due
    with_reducible refine Run.ite (c := decide (kind < 3 ∨ kind = 8)) ?_ ?_ ?_
    · rw [← due_in kind hk]
      with_reducible refine EvB.cmp (Ev.name (by with_reducible repeat (first | exact List.mem_cons_self | apply List.mem_cons_of_mem))) (dr := .tup [dI 0, dI 1, dI 2, dI 8]) ?_ (in_dt (by with_unfolding_all rfl) (by with_unfolding_all rfl) (by with_unfolding_all rfl) (by with_unfolding_all rfl) (by simp [D.py, PyData.depth]))
      ((with_reducible repeat' (first | exact Ev.name (by with_reducible repeat (first | exact List.mem_cons_self | apply List.mem_cons_of_mem)) | exact Ev.int | exact EvL.nil | (refine Ev.natE ?_; with_unfolding_all rfl) | (refine Ev.str ?_; with_unfolding_all rfl) | exact Ev.none | exact Ev.bool | exact Ev.nameR (by with_reducible repeat (first | exact List.mem_cons_self | apply List.mem_cons_of_mem)) | refine EvL.c ?_ ?_ | refine Ev.ls ?_ ?_ | refine Ev.tp ?_ ?_ | decide | (simp only [List.length_cons, List.length_nil]; decide))); done)
    · intro hc
      simp only [decide_eq_true_eq] at hc
      with_reducible refine Run.rtn (dueOf kind way g line) ?_ rfl
      have e : dueOf kind way g line = .lst [if kind = 8 then .tup [.str [], .str []] else .tup [.str way, .str [48 + g]], .str line] := by
        unfold dueOf; rcases hc with hc | hc
        · rw [if_pos hc, if_neg (by omega)]
        · rw [if_neg (by omega), if_pos hc, if_pos hc]
      rw [e]
      with_reducible refine Ev.ls (EvL.c (Ev.ifexp (b := decide (kind = 8)) (EvB.cmp (Ev.name (by with_reducible repeat (first | exact List.mem_cons_self | apply List.mem_cons_of_mem))) (Ev.natE (by with_unfolding_all rfl)) eqN) ?_ ?_) (EvL.c (Ev.name (by with_reducible repeat (first | exact List.mem_cons_self | apply List.mem_cons_of_mem))) EvL.nil))
      · intro h; simp only [decide_eq_true_eq] at h; rw [if_pos h]; ((with_reducible repeat' (first | exact Ev.name (by with_reducible repeat (first | exact List.mem_cons_self | apply List.mem_cons_of_mem)) | exact Ev.int | exact EvL.nil | (refine Ev.natE ?_; with_unfolding_all rfl) | (refine Ev.str ?_; with_unfolding_all rfl) | exact Ev.none | exact Ev.bool | exact Ev.nameR (by with_reducible repeat (first | exact List.mem_cons_self | apply List.mem_cons_of_mem)) | refine EvL.c ?_ ?_ | refine Ev.ls ?_ ?_ | refine Ev.tp ?_ ?_ | decide | (simp only [List.length_cons, List.length_nil]; decide))); done)
      · intro h; simp only [decide_eq_false_iff_not] at h; rw [if_neg h, ← num_goal g hg]
        with_reducible refine Ev.tp (EvL.c (Ev.name (by with_reducible repeat (first | exact List.mem_cons_self | apply List.mem_cons_of_mem))) (EvL.c (Ev.bc G Fc.wl (v := .type "str") (by with_reducible repeat (first | exact List.mem_cons_self | apply List.mem_cons_of_mem)) (Fc.kind (by kernel_rfl)) (EvL.c (Ev.name (by with_reducible repeat (first | exact List.mem_cons_self | apply List.mem_cons_of_mem))) EvL.nil) (call_str_i ?_)) EvL.nil))
        exact log_goal g hg
    · intro hc
      simp only [decide_eq_false_iff_not, not_or] at hc
      apply Run.tail
      with_reducible refine Run.ite (c := decide (kind < 6)) ?_ ?_ ?_
      · with_reducible refine EvB.cmp (Ev.name (by with_reducible repeat (first | exact List.mem_cons_self | apply List.mem_cons_of_mem))) (Ev.natE (by with_unfolding_all rfl)) ltN
      · intro h; simp only [decide_eq_true_eq] at h
        with_reducible refine Run.rtn (dueOf kind way g line) ?_ rfl
        rw [show dueOf kind way g line = .lst [.str line, .tup [.str way, dI g]] by unfold dueOf; rw [if_neg hc.1, if_neg hc.2, if_pos h]]
        ((with_reducible repeat' (first | exact Ev.name (by with_reducible repeat (first | exact List.mem_cons_self | apply List.mem_cons_of_mem)) | exact Ev.int | exact EvL.nil | (refine Ev.natE ?_; with_unfolding_all rfl) | (refine Ev.str ?_; with_unfolding_all rfl) | exact Ev.none | exact Ev.bool | exact Ev.nameR (by with_reducible repeat (first | exact List.mem_cons_self | apply List.mem_cons_of_mem)) | refine EvL.c ?_ ?_ | refine Ev.ls ?_ ?_ | refine Ev.tp ?_ ?_ | decide | (simp only [List.length_cons, List.length_nil]; decide))); done)
      · intro h; simp only [decide_eq_false_iff_not] at h
        apply Run.tail
        with_reducible refine Run.rtn (dueOf kind way g line) ?_ rfl
        rw [show dueOf kind way g line = .lst [.str line, if kind = 6 then .lst [.str line] else if kind = 7 then .str line else .none] by unfold dueOf; rw [if_neg hc.1, if_neg hc.2, if_neg h]]
        with_reducible refine Ev.ls (EvL.c (Ev.name (by with_reducible repeat (first | exact List.mem_cons_self | apply List.mem_cons_of_mem))) (EvL.c (Ev.sub (d := .lst [.lst [.str line], .str line, .none, .none]) ?_ (Ev.subN (Ev.name (by with_reducible repeat (first | exact List.mem_cons_self | apply List.mem_cons_of_mem))) (Ev.natE (n := 6) (by with_unfolding_all rfl)) (by omega)) ?_) EvL.nil))
        · ((with_reducible repeat' (first | exact Ev.name (by with_reducible repeat (first | exact List.mem_cons_self | apply List.mem_cons_of_mem)) | exact Ev.int | exact EvL.nil | (refine Ev.natE ?_; with_unfolding_all rfl) | (refine Ev.str ?_; with_unfolding_all rfl) | exact Ev.none | exact Ev.bool | exact Ev.nameR (by with_reducible repeat (first | exact List.mem_cons_self | apply List.mem_cons_of_mem)) | refine EvL.c ?_ ?_ | refine Ev.ls ?_ ?_ | refine Ev.tp ?_ ?_ | decide | (simp only [List.length_cons, List.length_nil]; decide))); done)
        · refine itm_lst (by omega) (by omega) ?_
          rw [Int.toNat_natCast]
          have hq : kind = 6 ∨ kind = 7 ∨ kind = 9 := by omega
          rcases hq with rfl | rfl | rfl <;> rfl
end
section
set_option linter.unusedVariables false
set_option maxRecDepth 100000
variable {w : World} {h0 : Heap} {C : Cx} {k : Nat} {σ σ' : Sto} {R : Out → Prop} {P : Params} {mg mb : Str → Option Value}
noncomputable def seps : List (List Nat) := [[47], [47, 47], [47]]
noncomputable def tails : List (List Nat) := [[], [34], [34, 32, 105, 115, 32, 116, 104, 101, 114, 101]]
noncomputable def spoilt : List (List Nat) := [[40, 124, 124, 124, 49, 124, 120, 41], [50, 55, 32, 50, 41], [40, 124, 124, 124, 51, 124, 120], [40, 124, 124, 124, 124, 52, 124, 41]]
noncomputable def marks : List Nat := [124, 33, 47]
noncomputable def lineOf (kind : Nat) (way : List Nat) (g : Nat) : List Nat :=
  if kind < 3 then [50, 53, 55, 32, 34] ++ StrLaws.dbl 34 (way ++ seps.getD kind [] ++ [48 + g]) ++ tails.getD kind [] else
  if kind < 6 then [50, 50, 57, 32, 111, 107, 32, 40] ++ [marks.getD (kind - 3) 0] ++ [marks.getD (kind - 3) 0] ++ [marks.getD (kind - 3) 0] ++ [48 + g] ++ [marks.getD (kind - 3) 0] ++ [41, 32, 105, 116, 32, 105, 115] else
  if kind = 6 then [50, 50, 57, 32, 111, 107, 32] ++ spoilt.getD (g - 1) [] else
  [[50, 53, 48, 32, 34] ++ way ++ [34, 32, 40, 124, 124, 124] ++ [48 + g] ++ [124, 41], [50, 53, 55, 32, 111, 102, 32, 34] ++ way ++ [34], [50, 50, 57, 32, 111, 107, 32, 40, 124, 124, 124, 120] ++ [48 + g] ++ [124, 41]].getD (kind - 7) []
theorem int_goal : ∀ g : Nat, g < 10 → PySem.intText? ⟨#[48 + g]⟩ = some (g : Int) := by
  intro g hg
  match g, hg with
  | 0, _ => kernel_rfl
  | 1, _ => kernel_rfl
  | 2, _ => kernel_rfl
  | 3, _ => kernel_rfl
  | 4, _ => kernel_rfl
  | 5, _ => kernel_rfl
  | 6, _ => kernel_rfl
  | 7, _ => kernel_rfl
  | 8, _ => kernel_rfl
  | 9, _ => kernel_rfl
theorem getD_get {α : Type} {l : List α} {i : Nat} {d : α} (h : i < l.length) : l[i]? = some (l.getD i d) := by rw [get_of h]; simp [h]
theorem fn_line (G : Gd P mg mb h0) {a : Addr} (F : FnAt mg h0 "_law_line" p__law_line b__law_line sc__law_line a) {kind g : Nat} {way : List Nat} (hk : kind < 10) (hg : 1 ≤ g ∧ g ≤ 4) (hw : way.length ≤ 100) :
    Callable P0 w h0 (k + 1) (.ref a) [dI kind, .str way, .str [48 + g]] (.val (.str (lineOf kind way g))) :=
  F.go G (kw := []) (k := k) (ps := ["kind", "way", "goal"]) (keys := ["kind", "way", "goal", "path", "mark"]) (es := [dI kind, .str way, .str [48 + g]]) (by kernel_rfl) (by kernel_rfl) (fun pm code doc => BindsD.plain (fun vs hv => by obtain ⟨v, u, x, rfl⟩ := len3 hv; kernel_rfl) rfl) (σ₀ := [("kind", .dat (dI kind)), ("way", .dat (.str way)), ("goal", .dat (.str [48 + g])), ("path", .un), ("mark", .un)]) (by kernel_rfl) fun C Fc => by
    delta b__law_line
    with_reducible refine Run.ite (c := decide (kind < 3)) (EvB.cmp (Ev.name (by with_reducible repeat (first | exact List.mem_cons_self | apply List.mem_cons_of_mem))) (Ev.natE (by with_unfolding_all rfl)) ltN) ?_ ?_
    · intro hc
      simp only [decide_eq_true_eq] at hc
      have hs : ∀ i : Nat, i < 3 → (seps.getD i []).length ≤ 2 ∧ (tails.getD i []).length ≤ 10 := by decide
      have hs' := hs kind hc
      have hd := dbl_len 34 (way ++ seps.getD kind [] ++ [48 + g])
      with_reducible refine Run.asg (.str (way ++ seps.getD kind [] ++ [48 + g])) (Ev.addS (Ev.addS (Ev.name (by with_reducible repeat (first | exact List.mem_cons_self | apply List.mem_cons_of_mem))) (Ev.sub (d := .lst [.str [47], .str [47, 47], .str [47]]) (di := dI kind) ?_ (Ev.name (by with_reducible repeat (first | exact List.mem_cons_self | apply List.mem_cons_of_mem))) ?_) ?_) (Ev.name (by with_reducible repeat (first | exact List.mem_cons_self | apply List.mem_cons_of_mem))) ?_) (by with_reducible repeat (first | exact Upd.dat | exact Upd.un | exact Upd.own | apply Upd.tail)) ?_
      · ((with_reducible repeat' (first | exact Ev.name (by with_reducible repeat (first | exact List.mem_cons_self | apply List.mem_cons_of_mem)) | exact Ev.int | exact EvL.nil | (refine Ev.natE ?_; with_unfolding_all rfl) | (refine Ev.str ?_; with_unfolding_all rfl) | exact Ev.none | exact Ev.bool | exact Ev.nameR (by with_reducible repeat (first | exact List.mem_cons_self | apply List.mem_cons_of_mem)) | refine EvL.c ?_ ?_ | refine Ev.ls ?_ ?_ | refine Ev.tp ?_ ?_ | decide | (simp only [List.length_cons, List.length_nil]; decide))); done)
      · refine itm_lst (by omega) (by omega) ?_
        rw [Int.toNat_natCast]
        match kind, hc with
        | 0, _ => rfl
        | 1, _ => rfl
        | 2, _ => rfl
      · exact sz (by omega)
      · rw [List.length_append]; simp only [List.length_cons, List.length_nil]; exact sz (by omega)
      with_reducible refine Run.rtn (.str (lineOf kind way g)) ?_ rfl
      rw [show lineOf kind way g = [50, 53, 55, 32, 34] ++ StrLaws.dbl 34 (way ++ seps.getD kind [] ++ [48 + g]) ++ tails.getD kind [] by unfold lineOf; rw [if_pos hc]]
      rw [List.length_append, List.length_append] at hd
      simp only [List.length_cons, List.length_nil] at hd
      with_reducible refine Ev.addS (Ev.addS ?_ (Ev.dblE 34 (Ev.name (by with_reducible repeat (first | exact List.mem_cons_self | apply List.mem_cons_of_mem))) ?_) ?_) (Ev.sub (d := .lst [.str [], .str [34], .str [34, 32, 105, 115, 32, 116, 104, 101, 114, 101]]) (di := dI kind) ?_ (Ev.name (by with_reducible repeat (first | exact List.mem_cons_self | apply List.mem_cons_of_mem))) ?_) ?_
      · ((with_reducible repeat' (first | exact Ev.name (by with_reducible repeat (first | exact List.mem_cons_self | apply List.mem_cons_of_mem)) | exact Ev.int | exact EvL.nil | (refine Ev.natE ?_; with_unfolding_all rfl) | (refine Ev.str ?_; with_unfolding_all rfl) | exact Ev.none | exact Ev.bool | exact Ev.nameR (by with_reducible repeat (first | exact List.mem_cons_self | apply List.mem_cons_of_mem)) | refine EvL.c ?_ ?_ | refine Ev.ls ?_ ?_ | refine Ev.tp ?_ ?_ | decide | (simp only [List.length_cons, List.length_nil]; decide))); done)
      · rw [List.length_append, List.length_append]; simp only [List.length_cons, List.length_nil]; exact sz (by omega)
      · simp only [List.length_cons, List.length_nil]; exact sz (by omega)
      · ((with_reducible repeat' (first | exact Ev.name (by with_reducible repeat (first | exact List.mem_cons_self | apply List.mem_cons_of_mem)) | exact Ev.int | exact EvL.nil | (refine Ev.natE ?_; with_unfolding_all rfl) | (refine Ev.str ?_; with_unfolding_all rfl) | exact Ev.none | exact Ev.bool | exact Ev.nameR (by with_reducible repeat (first | exact List.mem_cons_self | apply List.mem_cons_of_mem)) | refine EvL.c ?_ ?_ | refine Ev.ls ?_ ?_ | refine Ev.tp ?_ ?_ | decide | (simp only [List.length_cons, List.length_nil]; decide))); done)
      · refine itm_lst (by omega) (by omega) ?_
        rw [Int.toNat_natCast]
        match kind, hc with
        | 0, _ => rfl
        | 1, _ => rfl
        | 2, _ => rfl
      · rw [List.length_append]; simp only [List.length_cons, List.length_nil]; exact sz (by omega)
    · intro hc
      simp only [decide_eq_false_iff_not] at hc
      apply Run.tail
      with_reducible refine Run.ite (c := decide (kind < 6)) (EvB.cmp (Ev.name (by with_reducible repeat (first | exact List.mem_cons_self | apply List.mem_cons_of_mem))) (Ev.natE (by with_unfolding_all rfl)) ltN) ?_ ?_
      · intro h6
        simp only [decide_eq_true_eq] at h6
        with_reducible refine Run.asg (.str [marks.getD (kind - 3) 0]) (Ev.sub (d := .str [124, 33, 47]) ?_ (Ev.subN (Ev.name (by with_reducible repeat (first | exact List.mem_cons_self | apply List.mem_cons_of_mem))) (Ev.natE (n := 3) (by with_unfolding_all rfl)) (by omega)) ?_) (by with_reducible repeat (first | exact Upd.dat | exact Upd.un | exact Upd.own | apply Upd.tail)) ?_
        · ((with_reducible repeat' (first | exact Ev.name (by with_reducible repeat (first | exact List.mem_cons_self | apply List.mem_cons_of_mem)) | exact Ev.int | exact EvL.nil | (refine Ev.natE ?_; with_unfolding_all rfl) | (refine Ev.str ?_; with_unfolding_all rfl) | exact Ev.none | exact Ev.bool | exact Ev.nameR (by with_reducible repeat (first | exact List.mem_cons_self | apply List.mem_cons_of_mem)) | refine EvL.c ?_ ?_ | refine Ev.ls ?_ ?_ | refine Ev.tp ?_ ?_ | decide | (simp only [List.length_cons, List.length_nil]; decide))); done)
        · refine itm_str (by omega) (by omega) ?_
          rw [Int.toNat_natCast]
          exact getD_get (l := marks) (by show kind - 3 < 3; omega)
        with_reducible refine Run.rtn (.str (lineOf kind way g)) ?_ rfl
        rw [show lineOf kind way g = [50, 50, 57, 32, 111, 107, 32, 40] ++ [marks.getD (kind - 3) 0] ++ [marks.getD (kind - 3) 0] ++ [marks.getD (kind - 3) 0] ++ [48 + g] ++ [marks.getD (kind - 3) 0] ++ [41, 32, 105, 116, 32, 105, 115] by unfold lineOf; rw [if_neg hc, if_pos h6]]
        with_reducible refine Ev.addS (Ev.addS (Ev.addS (Ev.addS (Ev.addS (Ev.addS ?_ (Ev.name (by with_reducible repeat (first | exact List.mem_cons_self | apply List.mem_cons_of_mem))) ?_) (Ev.name (by with_reducible repeat (first | exact List.mem_cons_self | apply List.mem_cons_of_mem))) ?_) (Ev.name (by with_reducible repeat (first | exact List.mem_cons_self | apply List.mem_cons_of_mem))) ?_) (Ev.name (by with_reducible repeat (first | exact List.mem_cons_self | apply List.mem_cons_of_mem))) ?_) (Ev.name (by with_reducible repeat (first | exact List.mem_cons_self | apply List.mem_cons_of_mem))) ?_) ?_ ?_
        · ((with_reducible repeat' (first | exact Ev.name (by with_reducible repeat (first | exact List.mem_cons_self | apply List.mem_cons_of_mem)) | exact Ev.int | exact EvL.nil | (refine Ev.natE ?_; with_unfolding_all rfl) | (refine Ev.str ?_; with_unfolding_all rfl) | exact Ev.none | exact Ev.bool | exact Ev.nameR (by with_reducible repeat (first | exact List.mem_cons_self | apply List.mem_cons_of_mem)) | refine EvL.c ?_ ?_ | refine Ev.ls ?_ ?_ | refine Ev.tp ?_ ?_ | decide | (simp only [List.length_cons, List.length_nil]; decide))); done)
        · exact sz (by simp only [List.length_append, List.length_cons, List.length_nil]; omega)
        · exact sz (by simp only [List.length_append, List.length_cons, List.length_nil]; omega)
        · exact sz (by simp only [List.length_append, List.length_cons, List.length_nil]; omega)
        · exact sz (by simp only [List.length_append, List.length_cons, List.length_nil]; omega)
        · exact sz (by simp only [List.length_append, List.length_cons, List.length_nil]; omega)
        · ((with_reducible repeat' (first | exact Ev.name (by with_reducible repeat (first | exact List.mem_cons_self | apply List.mem_cons_of_mem)) | exact Ev.int | exact EvL.nil | (refine Ev.natE ?_; with_unfolding_all rfl) | (refine Ev.str ?_; with_unfolding_all rfl) | exact Ev.none | exact Ev.bool | exact Ev.nameR (by with_reducible repeat (first | exact List.mem_cons_self | apply List.mem_cons_of_mem)) | refine EvL.c ?_ ?_ | refine Ev.ls ?_ ?_ | refine Ev.tp ?_ ?_ | decide | (simp only [List.length_cons, List.length_nil]; decide))); done)
        · exact sz (by simp only [List.length_append, List.length_cons, List.length_nil]; omega)
      · intro h6
        simp only [decide_eq_false_iff_not] at h6
        apply Run.tail
        with_reducible refine Run.ite (c := decide (kind = 6)) (EvB.cmp (Ev.name (by with_reducible repeat (first | exact List.mem_cons_self | apply List.mem_cons_of_mem))) (Ev.natE (by with_unfolding_all rfl)) eqN) ?_ ?_
        · intro h7
          simp only [decide_eq_true_eq] at h7
          with_reducible refine Run.rtn (.str (lineOf kind way g)) ?_ rfl
          rw [show lineOf kind way g = [50, 50, 57, 32, 111, 107, 32] ++ spoilt.getD (g - 1) [] by unfold lineOf; rw [if_neg hc, if_neg h6, if_pos h7]]
          with_reducible refine Ev.addS ?_ (Ev.sub (d := .lst [.str [40, 124, 124, 124, 49, 124, 120, 41], .str [50, 55, 32, 50, 41], .str [40, 124, 124, 124, 51, 124, 120], .str [40, 124, 124, 124, 124, 52, 124, 41]]) ?_
            (Ev.subN (Ev.bc G Fc.wl (v := .type "int") (by with_reducible repeat (first | exact List.mem_cons_self | apply List.mem_cons_of_mem)) (Fc.kind (by kernel_rfl)) (EvL.c (Ev.name (by with_reducible repeat (first | exact List.mem_cons_self | apply List.mem_cons_of_mem))) EvL.nil) (call_int_s (int_goal g (by omega)) ?_)) (Ev.natE (n := 1) (by with_unfolding_all rfl)) (by omega)) ?_) ?_
          · ((with_reducible repeat' (first | exact Ev.name (by with_reducible repeat (first | exact List.mem_cons_self | apply List.mem_cons_of_mem)) | exact Ev.int | exact EvL.nil | (refine Ev.natE ?_; with_unfolding_all rfl) | (refine Ev.str ?_; with_unfolding_all rfl) | exact Ev.none | exact Ev.bool | exact Ev.nameR (by with_reducible repeat (first | exact List.mem_cons_self | apply List.mem_cons_of_mem)) | refine EvL.c ?_ ?_ | refine Ev.ls ?_ ?_ | refine Ev.tp ?_ ?_ | decide | (simp only [List.length_cons, List.length_nil]; decide))); done)
          · ((with_reducible repeat' (first | exact Ev.name (by with_reducible repeat (first | exact List.mem_cons_self | apply List.mem_cons_of_mem)) | exact Ev.int | exact EvL.nil | (refine Ev.natE ?_; with_unfolding_all rfl) | (refine Ev.str ?_; with_unfolding_all rfl) | exact Ev.none | exact Ev.bool | exact Ev.nameR (by with_reducible repeat (first | exact List.mem_cons_self | apply List.mem_cons_of_mem)) | refine EvL.c ?_ ?_ | refine Ev.ls ?_ ?_ | refine Ev.tp ?_ ?_ | decide | (simp only [List.length_cons, List.length_nil]; decide))); done)
          · simp only [List.length_cons, List.length_nil]; decide
          · refine itm_lst (by omega) (by omega) ?_
            rw [Int.toNat_natCast]
            have hq : g = 1 ∨ g = 2 ∨ g = 3 ∨ g = 4 := by omega
            rcases hq with rfl | rfl | rfl | rfl <;> rfl
          · have hq : g = 1 ∨ g = 2 ∨ g = 3 ∨ g = 4 := by omega
            rcases hq with rfl | rfl | rfl | rfl <;> (exact sz (by decide))
        · intro h7
          simp only [decide_eq_false_iff_not] at h7
          apply Run.tail
          with_reducible refine Run.rtn (.str (lineOf kind way g)) ?_ rfl
          rw [show lineOf kind way g = [[50, 53, 48, 32, 34] ++ way ++ [34, 32, 40, 124, 124, 124] ++ [48 + g] ++ [124, 41], [50, 53, 55, 32, 111, 102, 32, 34] ++ way ++ [34], [50, 50, 57, 32, 111, 107, 32, 40, 124, 124, 124, 120] ++ [48 + g] ++ [124, 41]].getD (kind - 7) [] by unfold lineOf; rw [if_neg hc, if_neg h6, if_neg h7]]
          with_reducible refine Ev.sub (d := .lst [.str ([50, 53, 48, 32, 34] ++ way ++ [34, 32, 40, 124, 124, 124] ++ [48 + g] ++ [124, 41]), .str ([50, 53, 55, 32, 111, 102, 32, 34] ++ way ++ [34]), .str ([50, 50, 57, 32, 111, 107, 32, 40, 124, 124, 124, 120] ++ [48 + g] ++ [124, 41])]) ?_ (Ev.subN (Ev.name (by with_reducible repeat (first | exact List.mem_cons_self | apply List.mem_cons_of_mem))) (Ev.natE (n := 7) (by with_unfolding_all rfl)) (by omega)) ?_
          · with_reducible refine Ev.ls (EvL.c (Ev.addS (Ev.addS (Ev.addS (Ev.addS ?_ (Ev.name (by with_reducible repeat (first | exact List.mem_cons_self | apply List.mem_cons_of_mem))) ?_) ?_ ?_) (Ev.name (by with_reducible repeat (first | exact List.mem_cons_self | apply List.mem_cons_of_mem))) ?_) ?_ ?_) (EvL.c (Ev.addS (Ev.addS ?_ (Ev.name (by with_reducible repeat (first | exact List.mem_cons_self | apply List.mem_cons_of_mem))) ?_) ?_ ?_) (EvL.c (Ev.addS (Ev.addS ?_ (Ev.name (by with_reducible repeat (first | exact List.mem_cons_self | apply List.mem_cons_of_mem))) ?_) ?_ ?_) EvL.nil)))
            all_goals first | ((with_reducible repeat' (first | exact Ev.name (by with_reducible repeat (first | exact List.mem_cons_self | apply List.mem_cons_of_mem)) | exact Ev.int | exact EvL.nil | (refine Ev.natE ?_; with_unfolding_all rfl) | (refine Ev.str ?_; with_unfolding_all rfl) | exact Ev.none | exact Ev.bool | exact Ev.nameR (by with_reducible repeat (first | exact List.mem_cons_self | apply List.mem_cons_of_mem)) | refine EvL.c ?_ ?_ | refine Ev.ls ?_ ?_ | refine Ev.tp ?_ ?_ | decide | (simp only [List.length_cons, List.length_nil]; decide))); done) | exact sz (by simp only [List.length_append, List.length_cons, List.length_nil]; omega)
          · refine itm_lst (by omega) (by omega) ?_
            rw [Int.toNat_natCast]
            have hq : kind = 7 ∨ kind = 8 ∨ kind = 9 := by omega
            rcases hq with rfl | rfl | rfl <;> rfl
end
section
set_option linter.unusedVariables false
set_option maxRecDepth 100000
variable {w : World} {h0 : Heap} {C : Cx} {k : Nat} {σ σ' : Sto} {R : Out → Prop} {P : Params} {mg mb : Str → Option Value}
theorem fn_join (G : Gd P mg mb h0) {a : Addr} (F : FnAt mg h0 "join" p_join b_join sc_join a) {x y : List Nat} (hx : x ≠ []) (he : edw 47 x = false) (hy : stw 47 y = false) (h1 : x.length ≤ 1000) (h2 : y.length ≤ 1000) :
    Callable P0 w h0 (k + 4) (.ref a) [.str x, .str y] (.val (.str (x ++ ([47] ++ y)))) :=
  F.go G (kw := []) (k := k + 3) (ps := ["a", "p"]) (keys := ["a", "p", "sep", "path", "b"]) (es := [.str x, .tup [.str y]]) (by kernel_rfl) (by kernel_rfl) (fun pm code doc l k A m s vs O I r => by
      obtain ⟨v, _, rfl, r1, u, _, rfl, r2, rfl⟩ := r
      have e : bindArgs (Calls.docDef "join" p_join b_join sc_join pm code doc) ⟨[v, u], []⟩ = (newTuple [u] >>= fun t => pure ((["a", "p"] : List Str).zip [v, t])) := by kernel_rfl
      rw [e]
      obtain ⟨m'', g', q, r'⟩ := grow_seq (T := "tuple") (vs := [u]) (ds := [.str y]) (Grow.refl I.le) ⟨u, [], rfl, r2, rfl⟩
      refine wpAny_bind (wpAny_newTuple (wpAny_pure ⟨m'', [v, _], g', rfl, rfl, ?_⟩))
      exact ⟨v, _, rfl, r1.mono g'.sub, _, [], rfl, ⟨_, _, rfl, q, r'⟩, rfl⟩) (σ₀ := [("a", .dat (.str x)), ("p", .dat (.tup [.str y])), ("sep", .un), ("path", .un), ("b", .un)]) (by kernel_rfl) fun C Fc => by
    obtain ⟨af, Ff⟩ := G.at in_fspath
    obtain ⟨as, Fs⟩ := G.at in__get_sep
    delta b_join
    with_reducible refine Run.asg (.str x) (Ev.fc Fc.wl Ff (Fc.kind (by kernel_rfl)) (EvL.c (Ev.name (by with_reducible repeat (first | exact List.mem_cons_self | apply List.mem_cons_of_mem))) EvL.nil) (fn_fspath G Ff)) (by with_reducible repeat (first | exact Upd.dat | exact Upd.un | exact Upd.own | apply Upd.tail)) ?_
    with_reducible refine Run.asg (.str [47]) (Ev.fc Fc.wl Fs (Fc.kind (by kernel_rfl)) (EvL.c (Ev.name (by with_reducible repeat (first | exact List.mem_cons_self | apply List.mem_cons_of_mem))) EvL.nil) (fn_get_sep G Fs)) (by with_reducible repeat (first | exact Upd.dat | exact Upd.un | exact Upd.own | apply Upd.tail)) ?_
    with_reducible refine Run.asg (.str x) (Ev.name (by with_reducible repeat (first | exact List.mem_cons_self | apply List.mem_cons_of_mem))) (by with_reducible repeat (first | exact Upd.dat | exact Upd.un | exact Upd.own | apply Upd.tail)) ?_
    with_reducible refine Run.cons (Run1.try ?_)
    with_reducible refine Run.cons (Run1.for (fun i σ => (i = 0 ∧ σ = ([("a", .dat (.str x)), ("p", .dat (.tup [.str y])), ("sep", .dat (.str [47])), ("path", .dat (.str x)), ("b", .un)] : Sto)) ∨ (i = 1 ∧ σ = ([("a", .dat (.str x)), ("p", .dat (.tup [.str y])), ("sep", .dat (.str [47])), ("path", .dat (.str (x ++ ([47] ++ y)))), ("b", .dat (.str y))] : Sto))) (EvI.of (Ev.name (by with_reducible repeat (first | exact List.mem_cons_self | apply List.mem_cons_of_mem))) iter_tup) ?_ ?_ ?_ ?_)
    · exact .inl ⟨rfl, rfl⟩
    · rintro i σ d hσ hd
      rcases hσ with ⟨rfl, rfl⟩ | ⟨rfl, rfl⟩
      · cases hd
        refine ⟨_, Tgt.name (by with_reducible repeat (first | exact Upd.dat | exact Upd.un | exact Upd.own | apply Upd.tail)), ?_⟩
        with_reducible refine Run.asg (.str y) (Ev.fc Fc.wl Ff (Fc.kind (by kernel_rfl)) (EvL.c (Ev.name (by with_reducible repeat (first | exact List.mem_cons_self | apply List.mem_cons_of_mem))) EvL.nil) (fn_fspath G Ff)) (by with_reducible repeat (first | exact Upd.dat | exact Upd.un | exact Upd.own | apply Upd.tail)) ?_
        with_reducible refine Run.ite (c := false) (EvB.bool ?_) ?_ ?_
        · rw [show false = (false || (false || false)) from rfl]
          with_reducible refine EvA.or (EvB.vl (Ev.mth (Ev.name (by with_reducible repeat (first | exact List.mem_cons_self | apply List.mem_cons_of_mem))) (EvL.c (Ev.name (by with_reducible repeat (first | exact List.mem_cons_self | apply List.mem_cons_of_mem))) EvL.nil) m_startswith) ?_) fun _ => EvA.or (b := false) ?_ fun _ => EvA.nil_or
          · rw [hy]; exact tru_bool
          · rw [show false = !true from rfl]
            with_reducible refine EvB.not (EvB.vl (Ev.name (by with_reducible repeat (first | exact List.mem_cons_self | apply List.mem_cons_of_mem))) ?_)
            have : (!x.isEmpty) = true := by simpa using hx
            rw [← this]
            exact tru_str (by omega)
        · intro h; cases h
        · intro _
          with_reducible refine Run.ite (c := false) (EvB.vl (Ev.mth (Ev.name (by with_reducible repeat (first | exact List.mem_cons_self | apply List.mem_cons_of_mem))) (EvL.c (Ev.name (by with_reducible repeat (first | exact List.mem_cons_self | apply List.mem_cons_of_mem))) EvL.nil) m_endswith) ?_) ?_ ?_
          · rw [he]; exact tru_bool
          · intro h; cases h
          · intro _
            with_reducible refine Run.cons (Run1.aug (d := .str (x ++ ([47] ++ y))) (by with_reducible repeat (first | exact List.mem_cons_self | apply List.mem_cons_of_mem)) (Ev.addS (Ev.name (by with_reducible repeat (first | exact List.mem_cons_self | apply List.mem_cons_of_mem))) (Ev.name (by with_reducible repeat (first | exact List.mem_cons_self | apply List.mem_cons_of_mem))) ?_) ?_ (by with_reducible repeat (first | exact Upd.dat | exact Upd.un | exact Upd.own | apply Upd.tail)) ?_)
            · exact sz (by simp only [List.length_cons, List.length_nil]; omega)
            · exact iadd_ss (sz (by simp only [List.length_append, List.length_cons, List.length_nil]; omega))
            · exact Run.nil (Run.nil (Run.nil (.inr ⟨rfl, rfl⟩)))
      · cases hd
    · rintro σ hσ
      rcases hσ with ⟨h, _⟩ | ⟨_, rfl⟩
      · cases h
      · dsimp only
        with_reducible refine Run.nil ?_
        dsimp only
        with_reducible refine Run.nil ?_
        dsimp only
        with_reducible exact Run.rtn _ (Ev.name (by with_reducible repeat (first | exact List.mem_cons_self | apply List.mem_cons_of_mem))) rfl
    · intro _; rfl
end
section
set_option linter.unusedVariables false
set_option maxRecDepth 100000
variable {w : World} {h0 : Heap} {C : Cx} {k : Nat} {σ σ' : Sto} {R : Out → Prop} {P : Params} {mg mb : Str → Option Value}
noncomputable def tot64 (ns : List Nat) : Nat := ns.foldl (fun t s => 64 * t + s) 0
theorem tot64_snoc (ns : List Nat) (s : Nat) : tot64 (ns ++ [s]) = 64 * tot64 ns + s := by simp [tot64]
noncomputable def octs (t : Nat) : List Nat := [t / 65536, t / 256 % 256, t % 256]
theorem fn_octets (G : Gd P mg mb h0) {ns : List Nat} (h4 : ns.length = 4) (hn : ∀ n ∈ ns, n < 64) (ht : tot64 ns < 16777216) : ∃ a, FnAt mg h0 "_law_octets" p__law_octets b__law_octets sc__law_octets a ∧
    ∀ k, Callable P0 w h0 (k + 4) (.ref a) [.lst (ns.map dI)] (.val (.bytes ((octs (tot64 ns)).map fun (n : Nat) => (n : Int).toNat.toUInt8))) := by
  obtain ⟨a, F⟩ := G.at in_octets
  refine ⟨a, F, fun k => F.callable G (kw := []) (k := k + 3) (ps := ["sixes"]) (keys := ["sixes", "total", "six"]) (es := [.lst (ns.map dI)]) (by kernel_rfl) (by simp) (fun pm code doc => BindsD.plain (fun vs hv => ?_) rfl) fun C Fc => ?_⟩
  · match vs, hv with
    | [v], _ => rfl
  refine (show Run P0 w h0 C (k + 3) [("sixes", .dat (.lst (ns.map dI))), ("total", .un), ("six", .un)] b__law_octets _ from ?_)
  refine Run.cons (Run1.assign Ev.nat (by with_reducible repeat (first | exact Upd.dat | exact Upd.un | exact Upd.own | apply Upd.tail)) ?_)
  refine Run.cons (Run1.for (fun i σ => ∃ sl, (sl = .un ∨ ∃ d, sl = .dat d) ∧ σ = ([("sixes", .dat (.lst (ns.map dI))), ("total", .dat (dI (tot64 (ns.take i)))), ("six", sl)] : Sto)) (EvI.of (Ev.name (by with_reducible repeat (first | exact List.mem_cons_self | apply List.mem_cons_of_mem))) iter_lst) ⟨.un, .inl rfl, by simp [tot64]⟩ ?_ ?_)
  · rintro i σ d ⟨sl, hsl, rfl⟩ hd
    rw [List.getElem?_map] at hd
    obtain ⟨n, hn', rfl⟩ := Option.map_eq_some_iff.mp hd
    have u : Upd [("sixes", .dat (.lst (ns.map dI))), ("total", .dat (dI (tot64 (ns.take i)))), ("six", sl)] "six" (.dat (dI n)) [("sixes", .dat (.lst (ns.map dI))), ("total", .dat (dI (tot64 (ns.take i)))), ("six", .dat (dI n))] := by
      rcases hsl with rfl | ⟨d, rfl⟩ <;> ((with_reducible repeat (first | exact Upd.dat | exact Upd.un | exact Upd.own | apply Upd.tail)); done)
    refine ⟨_, Tgt.name u, Run.cons (Run1.assign (Ev.addN (Ev.mulN Ev.nat (Ev.name (by with_reducible repeat (first | exact List.mem_cons_self | apply List.mem_cons_of_mem))) ?_) (Ev.name (by with_reducible repeat (first | exact List.mem_cons_self | apply List.mem_cons_of_mem)))) (by with_reducible repeat (first | exact Upd.dat | exact Upd.un | exact Upd.own | apply Upd.tail)) (Run.nil ⟨.dat (dI n), .inr ⟨_, rfl⟩, ?_⟩))⟩
    · exact IntMulOk.of_left (by decide)
    · have : tot64 (ns.take (i + 1)) = 64 * tot64 (ns.take i) + n := by rw [List.take_add_one, hn']; exact tot64_snoc _ _
      rw [this]
  · rintro σ ⟨sl, hsl, rfl⟩
    rw [List.length_map, List.take_length]
    refine Run.cons (Run1.ret (d := .bytes ((octs (tot64 ns)).map fun (n : Nat) => (n : Int).toNat.toUInt8)) (Ev.bc (ds := [.lst ((octs (tot64 ns)).map dI)]) G Fc.wl (v := .type "bytes") (by with_reducible repeat (first | exact List.mem_cons_self | apply List.mem_cons_of_mem)) (Fc.kind (by kernel_rfl)) (EvL.cons (Ev.ls (EvL.cons (Ev.divN (Ev.name (by with_reducible repeat (first | exact List.mem_cons_self | apply List.mem_cons_of_mem))) Ev.nat (by decide) (by decide)) (EvL.cons (Ev.modN (Ev.divN (Ev.name (by with_reducible repeat (first | exact List.mem_cons_self | apply List.mem_cons_of_mem))) Ev.nat (by decide) (by decide)) Ev.nat (by decide))
      (EvL.cons (Ev.modN (Ev.name (by with_reducible repeat (first | exact List.mem_cons_self | apply List.mem_cons_of_mem))) Ev.nat (by decide)) EvL.nil))) (by show 3 ≤ _; decide)) EvL.nil) ?_) rfl)
    have := call_bytes (prog := P0) (w := w) (h0 := h0) (k := k + 2) (ns := (octs (tot64 ns)).map fun (n : Nat) => (n : Int)) (by
        intro n hn
        obtain ⟨m, hm, rfl⟩ := List.mem_map.mp hn
        simp only [octs, List.mem_cons, List.not_mem_nil, or_false] at hm
        omega) (by simp [octs, sizeLine])
    rw [List.map_map, List.map_map] at this; exact this
end
section
set_option linter.unusedVariables false
set_option maxRecDepth 100000
variable {w : World} {h0 : Heap} {C : Cx} {k : Nat} {σ σ' : Sto} {R : Out → Prop} {P : Params} {mg mb : Str → Option Value}
noncomputable def fdOf (K : Frag) (a : Addr) : Option FuncData := match K.lookup a with | some o => (match o.data with | .func fd => some fd | _ => none) | none => none
noncomputable def glOf (K : Frag) (x : Str) : Option Value := match K.lookup mainGlobals with | some o => (match o.data with | .dict es _ => nsFind es x | _ => none) | none => none
theorem Gd.gl (G : Gd P mg mb h0) {x : Str} {v : Value} (h : glOf (K0 P) x = some v) : mg x = some v := by
  unfold glOf at h
  obtain ⟨o, es, ep, ho, hd, _, hv⟩ := G.g
  split at h
  · rename_i o' e
    have e' := G.K _ _ e
    rw [ho] at e'; cases e'
    rw [hd] at h
    rw [← hv]; exact h
  · cases h
theorem Gd.fd (G : Gd P mg mb h0) {a : Addr} {fd : FuncData} (h : fdOf (K0 P) a = some fd) : ∃ o, h0.get? a = some o ∧ o.data = .func fd := by
  unfold fdOf at h
  split at h
  · rename_i o e
    refine ⟨o, G.K _ _ e, ?_⟩
    split at h
    · rename_i e2; cases h; exact e2
    · cases h
  · cases h
noncomputable def codeOk (K : Frag) (c : Addr) (q : Str) : Bool := match K.lookup c with | some o => (match o.data with | .fields vs => (match vs[1]? with | some (Value.str q' _) => decide (q' = q) | _ => false) | _ => false) | none => false
theorem Gd.code (G : Gd P mg mb h0) {c : Addr} {q : Str} (h : codeOk (K0 P) c q = true) : h0.CodeRec (.ref c) q := by
  unfold codeOk at h
  split at h
  · rename_i o e
    split at h
    · rename_i vs e2
      split at h
      · rename_i q' t e3
        simp only [decide_eq_true_eq] at h
        exact ⟨c, o, vs, t, rfl, G.K _ _ e, e2, by rw [e3, h]⟩
      · cases h
    · cases h
  · cases h
noncomputable def fdB : FuncData := { name := "b2a_base64", qualname := "b2a_base64", params := p_b2a_base64, body := .stmts b_b2a_base64, scope := sc_b2a_base64, globals := 3, closure := [], defaults := .none, kwdefaults := .ref 142, pyModule := .str "binascii" 343, code := .ref 148 }
noncomputable def fdE : FuncData := { name := "b64encode", qualname := "b64encode", params := p_b64encode, body := .stmts b_b64encode, scope := sc_b64encode, globals := 3, closure := [], defaults := .ref 150, kwdefaults := .none, pyModule := .str "cpy313.base64" 377, code := .ref 156 }
theorem fdB_at (P : Params) : fdOf (K0 P) 149 = some fdB := by kernel_rfl
theorem fdE_at (P : Params) : fdOf (K0 P) 157 = some fdE := by kernel_rfl
theorem glB_at (P : Params) : glOf (K0 P) "b2a_base64" = some (.ref 149) := by kernel_rfl
theorem glE_at (P : Params) : glOf (K0 P) "b64encode" = some (.ref 157) := by kernel_rfl
theorem gl64_at (P : Params) : glOf (K0 P) "_B64" = some (.bytes #[65, 66, 67, 68, 69, 70, 71, 72, 73, 74, 75, 76, 77, 78, 79, 80, 81, 82, 83, 84, 85, 86, 87, 88, 89, 90, 97, 98, 99, 100, 101, 102, 103, 104, 105, 106, 107, 108, 109, 110, 111, 112, 113, 114, 115, 116, 117, 118, 119, 120, 121, 122, 48, 49, 50, 51, 52, 53, 54, 55, 56, 57, 43, 47] 361) := by kernel_rfl
theorem codeB_at (P : Params) : codeOk (K0 P) 148 "b2a_base64" = true := by kernel_rfl
theorem codeE_at (P : Params) : codeOk (K0 P) 156 "b64encode" = true := by kernel_rfl
theorem Ev.callB {x nm : Str} {np pos : Pos} {e : Expr} {d : D} {a : Addr} {o : Obj} {fd : FuncData} {b : Bool} {kws : List Keyword} {r : Res} (hf : Ev P0 w h0 C k σ (.Name x np) (.val (.ref a))) (ho : h0.get? a = some o) (hd : o.data = .func fd) (he : Ev P0 w h0 C k σ e d)
    (hc : ∀ l A m s vs, Ok l k A → Amb h0 l m s → RdL m [d] vs → Gv P0 w h0 l A m s (PySem.call (.ref a) vs [(nm, .bool b)]) r)
    (hkw : ∀ env : Env, backToKw pos (keywordEach kws env) = [(some nm, do let v ← (pure (.bool b) : Sem Value); standAt pos; pure v)] := by intro _; with_unfolding_all rfl) (hn : NoStar e := by intro _ _; with_unfolding_all rfl) : EvR P0 w h0 C k σ (.Call (.Name x np) [e] kws pos) r := fun A m s O I => by
  refine Gv.mk (wpAny_Call_ofName ((hf A m s O I).then fun v m₁ s₁ g₁ r₁ => ?_))
  obtain rfl : v = .ref a := r₁
  have I₁ := I.grow g₁
  rw [hkw]
  have h1 := (EvL.cons he EvL.nil hn).1 pos
  have h2 := (EvL.cons he EvL.nil hn).2 pos A m₁ s₁ O I₁
  have e1 : backTo pos (starEach [e] C.env) = [(false, eval e C.env)] := by rw [hn]; rfl
  rw [e1] at h1 h2 ⊢
  refine callWith_def_kw hd (evalArgs_kw rfl (wpAny_mono h2 (fun vs s₂ ⟨m₂, g₂, r₂⟩ => ?_) fun _ _ f => f.elim))
  refine wpAny_evalAll_cons (wpAny_bind (wpAny_pure (wpAny_bind (wpAny_standAt (wpAny_pure (wpAny_evalAll_nil ⟨(I₁.grow g₂).amb.stays a o ho, ?_⟩))))))
  exact Gv.on (g₁.trans g₂) (hc C.frs A m₂ s₂ vs O (I₁.grow g₂).amb r₂) (fun d e v m' s' g r => ⟨d, e, m', g, r⟩) fun cls ds e e' s' x => ⟨cls, ds, e, x⟩
end
section
set_option linter.unusedVariables false
set_option maxRecDepth 100000
variable {w : World} {h0 : Heap} {C : Cx} {k : Nat} {σ σ' : Sto} {R : Out → Prop} {P : Params} {mg mb : Str → Option Value}
theorem natAnd (x y : Nat) : Builtin.bitAnd (x : Int) (y : Int) = ((x &&& y : Nat) : Int) := by
  unfold Builtin.bitAnd
  rw [decide_eq_true (by omega : (0 : Int) ≤ x), decide_eq_true (by omega : (0 : Int) ≤ y)]; rfl
theorem natOr (x y : Nat) : Builtin.bitOr (x : Int) (y : Int) = ((x ||| y : Nat) : Int) := by
  unfold Builtin.bitOr
  have e : ∀ n : Nat, Builtin.bitNot (n : Int) = -(n : Int) - 1 := fun n => rfl
  have e2 : ∀ n : Nat, Builtin.bitNot (-(n : Int) - 1) = (n : Int) := fun n => by show -(-(n : Int) - 1) - 1 = _; omega
  rw [e, e]
  unfold Builtin.bitAnd
  rw [decide_eq_false (by omega : ¬ (0 : Int) ≤ -(x : Int) - 1), decide_eq_false (by omega : ¬ (0 : Int) ≤ -(y : Int) - 1)]
  show Builtin.bitNot (Builtin.bitNot _) = _
  rw [e2, e2]
  simp only [Int.toNat_natCast]
  rw [e, e2]
section
variable {a b : Expr} {p : Pos} {x y : Nat}
theorem Ev.andN (m : Nat) (ha : Ev P0 w h0 C k σ a (dI x)) (hb : Ev P0 w h0 C k σ b (dI (2 ^ m - 1))) : Ev P0 w h0 C k σ (.BinOp a .BitAnd b p) (dI (x % 2 ^ m)) := by
  have := Ev.bin (p := p) ha hb and_ii
  rw [natAnd, Nat.and_two_pow_sub_one_eq_mod] at this; exact this
theorem Ev.orN {m q : Nat} (ha : Ev P0 w h0 C k σ a (dI (q * 2 ^ m))) (hb : Ev P0 w h0 C k σ b (dI y)) (h : y < 2 ^ m) : Ev P0 w h0 C k σ (.BinOp a .BitOr b p) (dI (q * 2 ^ m + y)) := by
  have := Ev.bin (p := p) ha hb or_ii
  rw [natOr, Nat.mul_comm, ← Nat.two_pow_add_eq_or_of_lt h, Nat.mul_comm] at this; exact this
theorem Ev.shlN (m : Nat) (ha : Ev P0 w h0 C k σ a (dI x)) (hb : Ev P0 w h0 C k σ b (dI m)) (h : m ≤ 1000) (hx : x < 2 ^ 64) : Ev P0 w h0 C k σ (.BinOp a .LShift b p) (dI (x * 2 ^ m)) := by
  have := Ev.bin (p := p) ha hb (shl_ii (by omega) (by omega) (by omega))
  rw [Int.toNat_natCast] at this
  rw [show dI (x * 2 ^ m) = .int ((x : Int) * 2 ^ m) by simp [dI]]; exact this
theorem Ev.shrN (m : Nat) (ha : Ev P0 w h0 C k σ a (dI x)) (hb : Ev P0 w h0 C k σ b (dI m)) : Ev P0 w h0 C k σ (.BinOp a .RShift b p) (dI (x / 2 ^ m)) := by
  have := Ev.bin (p := p) ha hb (shr_ii (by omega))
  rw [Int.toNat_natCast, show ((2 : Int) ^ m) = ((2 ^ m : Nat) : Int) by simp, fdiv_nat] at this; exact this
end
noncomputable def b64L : List UInt8 := [65, 66, 67, 68, 69, 70, 71, 72, 73, 74, 75, 76, 77, 78, 79, 80, 81, 82, 83, 84, 85, 86, 87, 88, 89, 90, 97, 98, 99, 100, 101, 102, 103, 104, 105, 106, 107, 108, 109, 110, 111, 112, 113, 114, 115, 116, 117, 118, 119, 120, 121, 122, 48, 49, 50, 51, 52, 53, 54, 55, 56, 57, 43, 47]
noncomputable def lcOf (l : List Nat) : Nat := l.foldl (fun c b => (c * 256 + b) % 65536) 0
theorem lcOf_snoc (l : List Nat) (b : Nat) : lcOf (l ++ [b]) = (lcOf l * 256 + b) % 65536 := by simp [lcOf]
theorem lcOf_lt (l : List Nat) : lcOf l < 65536 := by
  rcases List.eq_nil_or_concat l with rfl | ⟨r, b, rfl⟩
  · decide
  · rw [List.concat_eq_append, lcOf_snoc]; omega
noncomputable def em (lc lb : Nat) : List Nat := if 12 ≤ lb then [lc / 2 ^ (lb - 6) % 64, lc / 2 ^ (lb - 12) % 64] else if 6 ≤ lb then [lc / 2 ^ (lb - 6) % 64] else []
theorem em_step (lc : Nat) {lb : Nat} (h : 6 ≤ lb) (h' : lb < 18) : em lc lb = lc / 2 ^ (lb - 6) % 64 :: em lc (lb - 6) := by
  unfold em
  by_cases q : 12 ≤ lb
  · rw [if_pos q, if_neg (by omega), if_pos (by omega), show lb - 6 - 6 = lb - 12 by omega]
  · rw [if_neg q, if_pos h, if_neg (by omega), if_neg (by omega)]
theorem em_none (lc : Nat) {lb : Nat} (h : lb < 6) : em lc lb = [] := by
  unfold em; rw [if_neg (by omega), if_neg (by omega)]
noncomputable def sxs (l : List Nat) (i : Nat) : List Nat := (List.range i).flatMap fun j => em (lcOf (l.take (j + 1))) (8 * j % 6 + 8)
theorem sxs_succ (l : List Nat) (i : Nat) : sxs l (i + 1) = sxs l i ++ em (lcOf (l.take (i + 1))) (8 * i % 6 + 8) := by
  unfold sxs; rw [List.range_succ, List.flatMap_append]; simp
noncomputable def b64 (n : Nat) : UInt8 := b64L.getD n 0
end
section
set_option linter.unusedVariables false
set_option maxRecDepth 100000
variable {w : World} {h0 : Heap} {C : Cx} {k : Nat} {σ σ' : Sto} {R : Out → Prop} {P : Params} {mg mb : Str → Option Value}
noncomputable abbrev sB (l : List UInt8) (o : Addr) (out : List Nat) (lb lc : Nat) (sl : Sl) : Sto :=
  [("data", .dat (.bytes l)), ("newline", .dat (.bool false)), ("bin_data", .dat (.bytes l)), ("out", .own o (out.map dI)), ("leftbits", .dat (dI lb)), ("leftchar", .dat (dI lc)), ("b", sl)]
theorem Run1.for' {prog : Program} {tgt : Expr} {p : Pos} {it : Expr} {b : List Stmt} {ds : List D} (P : Nat → Sto → Prop) (hi : EvI prog w h0 C k σ tgt it ds) (h0' : P 0 σ)
    (turn : ∀ i σ d, P i σ → ds[i]? = some d → ∃ σ', Tgt prog w h0 C k tgt σ d σ' ∧ Run prog w h0 C k σ' b (Turn prog w h0 C k P R i)) (fin : ∀ σ, P ds.length σ → R (.next σ))
    (hs : ∀ v, foldedSetIterable it C.env v = pure v := by intro _; with_unfolding_all rfl) : Run1 prog w h0 C k σ (.For tgt it b [] p) R := Run1.for P hi h0' turn fin hs
theorem Run1.app {prog : Program} {x : Str} {np ap p q : Pos} {e : Expr} {a : Addr} {l : List D} (d : D) (hx : (x, Sl.own a l) ∈ σ) (h : Ev prog w h0 C k σ e d) (u : Upd σ x (.own a (l ++ [d])) σ') (hz : l.length ≤ sizeLine) (r : R (.next σ'))
    (hn : NoStar e := by intro _ _; with_unfolding_all rfl) (hl : (ap.endLine == p.line) = true := by with_unfolding_all rfl) : Run1 prog w h0 C k σ (.Expr (.Call (.Attribute (.Name x np) "append" ap) [e] [] p) q) R := Run1.append hx h u hz r hn hl
theorem run_b2a (G : Gd P mg mb h0) {l : List UInt8} (hl : l.length = 3) (Fc : FnCx fdB C) {r : Res} (hr : r = .val (.bytes ((sxs (l.map (·.toNat)) 3).map b64))) :
    Run P0 w h0 C (k + 3) [("data", .dat (.bytes l)), ("newline", .dat (.bool false)), ("bin_data", .un), ("out", .un), ("leftbits", .un), ("leftchar", .un), ("b", .un)] b_b2a_base64 (fun o => match o with | .ret d => r = .val d | .exc cls ds => r = .exc cls ds | .next _ => r = .val .none | _ => False) := by
  have W : Wl mg mb h0 C := ⟨by rw [Fc.globals]; exact G.g, by rw [Fc.builtins]; exact G.b⟩
  have K : ∀ {x : Str} {kd : NameKind}, sc_b2a_base64.names.lookup x = some kd → C.env.kindOf x = some kd := fun h => kind_of Fc h
  obtain ⟨ab, Fb⟩ := G.at in__buffer
  obtain ⟨at', Ft⟩ := G.at in__truth
  delta b_b2a_base64
  with_reducible refine Run.asg (.bytes l) (Ev.fc W Fb (K (by kernel_rfl)) (EvL.c (Ev.name (by with_reducible repeat (first | exact List.mem_cons_self | apply List.mem_cons_of_mem))) EvL.nil) (fn_buffer G Fb)) (by with_reducible repeat (first | exact Upd.dat | exact Upd.un | exact Upd.own | apply Upd.tail)) ?_
  with_reducible refine Run.asg (.bool false) (Ev.fc W Ft (K (by kernel_rfl)) (EvL.c (Ev.name (by with_reducible repeat (first | exact List.mem_cons_self | apply List.mem_cons_of_mem))) EvL.nil) (fn_truth G Ft)) (by with_reducible repeat (first | exact Upd.dat | exact Upd.un | exact Upd.own | apply Upd.tail)) ?_
  with_reducible refine Run.cons (Run1.newOwn fun o => ⟨_, by ((with_reducible repeat (first | exact Upd.dat | exact Upd.un | exact Upd.own | apply Upd.tail)); done), ?_⟩)
  dsimp only
  with_reducible refine Run.asg (dI 0) (Ev.natE (by with_unfolding_all rfl)) (by with_reducible repeat (first | exact Upd.dat | exact Upd.un | exact Upd.own | apply Upd.tail)) ?_
  with_reducible refine Run.asg (dI 0) (Ev.natE (by with_unfolding_all rfl)) (by with_reducible repeat (first | exact Upd.dat | exact Upd.un | exact Upd.own | apply Upd.tail)) ?_
  with_reducible refine Run.cons (Run1.for' (fun i σ => i ≤ 3 ∧ ∃ sl, (sl = .un ∨ ∃ d, sl = .dat d) ∧ σ = sB l o ((sxs (l.map (·.toNat)) i).map fun n => (b64 n).toNat) (8 * i % 6) (lcOf ((l.map (·.toNat)).take i)) sl) (EvI.of (Ev.name (by with_reducible repeat (first | exact List.mem_cons_self | apply List.mem_cons_of_mem))) iter_bytes) ?_ ?_ ?_)
  · exact ⟨by omega, .un, .inl rfl, by simp [sxs, lcOf]⟩
  · rintro i σ d ⟨hi, sl, hsl, rfl⟩ hd
    rw [List.getElem?_map] at hd
    obtain ⟨c, hc, rfl⟩ := Option.map_eq_some_iff.mp hd
    have hi3 : i < 3 := by have := (List.getElem?_eq_some_iff.mp hc).1; omega
    have u : Upd (sB l o ((sxs (l.map (·.toNat)) i).map fun n => (b64 n).toNat) (8 * i % 6) (lcOf ((l.map (·.toNat)).take i)) sl) "b" (.dat (.int c.toNat)) (sB l o ((sxs (l.map (·.toNat)) i).map fun n => (b64 n).toNat) (8 * i % 6) (lcOf ((l.map (·.toNat)).take i)) (.dat (dI c.toNat))) := by
      rcases hsl with rfl | ⟨d', rfl⟩ <;> ((with_reducible repeat (first | exact Upd.dat | exact Upd.un | exact Upd.own | apply Upd.tail)); done)
    refine ⟨_, Tgt.name u, ?_⟩
    have hlc : lcOf ((l.map (·.toNat)).take (i + 1)) = (lcOf ((l.map (·.toNat)).take i) * 2 ^ 8 + c.toNat) % 2 ^ 16 := by
      rw [List.take_add_one, List.getElem?_map, hc]; exact lcOf_snoc _ _
    have hlt := lcOf_lt ((l.map (·.toNat)).take i)
    have hcb : c.toNat < 2 ^ 8 := c.toNat_lt
    have hlen : ∀ j, (em (lcOf ((l.map (·.toNat)).take (j + 1))) (8 * j % 6 + 8)).length ≤ 2 := fun j => by unfold em; split; exact Nat.le_refl _; split <;> simp
    have hsx : ∀ j, j ≤ 3 → (sxs (l.map (·.toNat)) j).length ≤ 2 * j := fun j hj => by
      unfold sxs; rw [List.length_flatMap]
      match j, hj with
      | 0, _ => simp
      | 1, _ => have := hlen 0; simp only [List.range_succ, List.range_zero, List.nil_append, List.map_cons, List.map_nil, List.sum_cons, List.sum_nil]; omega
      | 2, _ => have := hlen 0; have := hlen 1; simp only [List.range_succ, List.range_zero, List.nil_append, List.cons_append, List.map_cons, List.map_nil, List.sum_cons, List.sum_nil]; omega
      | 3, _ => have := hlen 0; have := hlen 1; have := hlen 2; simp only [List.range_succ, List.range_zero, List.nil_append, List.cons_append, List.map_cons, List.map_nil, List.sum_cons, List.sum_nil]; omega
    with_reducible refine Run.asg (dI ((lcOf ((l.map (·.toNat)).take i) * 2 ^ 8 + c.toNat) % 2 ^ 16)) (Ev.andN 16 (Ev.orN (Ev.shlN 8 (Ev.name (by with_reducible repeat (first | exact List.mem_cons_self | apply List.mem_cons_of_mem))) (Ev.natE (by with_unfolding_all rfl)) ?_ ?_) (Ev.name (by with_reducible repeat (first | exact List.mem_cons_self | apply List.mem_cons_of_mem))) hcb) (Ev.natE (by decide))) (by with_reducible repeat (first | exact Upd.dat | exact Upd.un | exact Upd.own | apply Upd.tail)) ?_
    · omega
    · omega
    rw [← hlc]
    with_reducible refine Run.asg (dI (8 * i % 6 + 8)) (Ev.addN (Ev.name (by with_reducible repeat (first | exact List.mem_cons_self | apply List.mem_cons_of_mem))) (Ev.natE (by with_unfolding_all rfl))) (by with_reducible repeat (first | exact Upd.dat | exact Upd.un | exact Upd.own | apply Upd.tail)) ?_
    have hlt' := lcOf_lt ((l.map (·.toNat)).take (i + 1))
    generalize hL : lcOf ((l.map (·.toNat)).take (i + 1)) = L at *
    have hs0 := hsx i hi
    generalize hO : sxs (l.map (·.toNat)) i = O at *
    have hS : sxs (l.map (·.toNat)) (i + 1) = O ++ em L (8 * i % 6 + 8) := by rw [sxs_succ, hO, hL]
    with_reducible refine Run.cons (Run1.while (fun n σ => n ≤ 8 * i % 6 + 8 ∧ n % 6 = (8 * i % 6 + 8) % 6 ∧ ∃ pre, pre.length ≤ 100 ∧ σ = sB l o ((O ++ pre).map fun n => (b64 n).toNat) n L (.dat (dI c.toNat)) ∧ pre ++ em L n = em L (8 * i % 6 + 8)) (8 * i % 6 + 8) ?_ ?_)
    · exact ⟨Nat.le_refl _, rfl, [], by simp, by rw [List.append_nil], rfl⟩
    · rintro n σ ⟨hn, hm, pre, hp, rfl, he⟩
      refine ⟨decide (6 ≤ n), ?_, ?_, ?_⟩
      · with_reducible exact EvB.cmp (Ev.name (by with_reducible repeat (first | exact List.mem_cons_self | apply List.mem_cons_of_mem))) (Ev.natE (by with_unfolding_all rfl)) geN
      · intro hf
        simp only [decide_eq_false_iff_not] at hf
        refine Run.nil ⟨by omega, .dat (dI c.toNat), .inr ⟨_, rfl⟩, ?_⟩
        rw [em_none L (by omega), List.append_nil] at he
        rw [hS, ← he, hL, show 8 * (i + 1) % 6 = n by omega]
      · intro hf
        simp only [decide_eq_true_eq] at hf
        have hidx : L / 2 ^ (n - 6) % 2 ^ 6 < b64L.length := Nat.mod_lt _ (by decide)
        have hB : ∀ m, Rd m (.bytes b64L) (.bytes #[65, 66, 67, 68, 69, 70, 71, 72, 73, 74, 75, 76, 77, 78, 79, 80, 81, 82, 83, 84, 85, 86, 87, 88, 89, 90, 97, 98, 99, 100, 101, 102, 103, 104, 105, 106, 107, 108, 109, 110, 111, 112, 113, 114, 115, 116, 117, 118, 119, 120, 121, 122, 48, 49, 50, 51, 52, 53, 54, 55, 56, 57, 43, 47] 361) := fun m => ⟨361, rfl⟩
        with_reducible refine Run.cons (Run1.app (dI (b64 (L / 2 ^ (n - 6) % 64)).toNat) (by with_reducible repeat (first | exact List.mem_cons_self | apply List.mem_cons_of_mem)) (Ev.sub (Ev.globD (d := .bytes b64L) (K (by kernel_rfl)) W.globals (G.gl (gl64_at P)) hB) (Ev.andN 6 (Ev.shrN (n - 6) (Ev.name (by with_reducible repeat (first | exact List.mem_cons_self | apply List.mem_cons_of_mem))) (Ev.subN (Ev.name (by with_reducible repeat (first | exact List.mem_cons_self | apply List.mem_cons_of_mem))) (Ev.natE (n := 6) (by with_unfolding_all rfl)) hf)) (Ev.natE (by decide))) ?_) (by with_reducible repeat (first | exact Upd.dat | exact Upd.un | exact Upd.own | apply Upd.tail)) ?_ ?_)
        · refine itm_bytes (by decide) (by omega) ?_
          rw [Int.toNat_natCast]
          exact getD_get hidx
        · rw [List.length_map, List.length_map, List.length_append]; exact sz (by omega)
        dsimp only
        with_reducible refine Run.asg (dI (n - 6)) (Ev.subN (Ev.name (by with_reducible repeat (first | exact List.mem_cons_self | apply List.mem_cons_of_mem))) (Ev.natE (n := 6) (by with_unfolding_all rfl)) hf) (by with_reducible repeat (first | exact Upd.dat | exact Upd.un | exact Upd.own | apply Upd.tail)) ?_
        have q : sB l o ((O ++ pre).map fun n => (b64 n).toNat) n L (.dat (dI c.toNat)) = sB l o ((O ++ pre).map fun n => (b64 n).toNat) n L (.dat (dI c.toNat)) := rfl
        refine Run.nil ⟨n - 6, by omega, by omega, by omega, pre ++ [L / 2 ^ (n - 6) % 64], ?_, ?_, ?_⟩
        · have h1 := congrArg List.length he
          have h2 := hlen i
          rw [hL] at h2
          rw [List.length_append] at h1 ⊢
          simp only [List.length_cons, List.length_nil]; omega
        · simp only [sB, List.map_append, List.map_cons, List.map_nil, List.append_assoc]
        · rw [← he, em_step L hf (by omega), List.append_assoc]; rfl
  · rintro σ ⟨_, sl, hsl, rfl⟩
    rw [List.length_map, hl]
    have h6 : (sxs (l.map (·.toNat)) 3).length ≤ 6 := by
      have hlen : ∀ j, (em (lcOf ((l.map (·.toNat)).take (j + 1))) (8 * j % 6 + 8)).length ≤ 2 := fun j => by unfold em; split; exact Nat.le_refl _; split <;> simp
      unfold sxs; rw [List.length_flatMap]
      have := hlen 0; have := hlen 1; have := hlen 2; simp only [List.range_succ, List.range_zero, List.nil_append, List.cons_append, List.map_cons, List.map_nil, List.sum_cons, List.sum_nil]; omega
    generalize sxs (l.map (·.toNat)) 3 = O at *
    generalize lcOf ((l.map (·.toNat)).take 3) = L
    dsimp only
    show Run P0 w h0 C (k + 3) (sB l o (O.map fun n => (b64 n).toNat) 0 L sl) _ _
    with_reducible refine Run.ite (c := decide (0 = 2)) (EvB.cmp (Ev.name (by with_reducible repeat (first | exact List.mem_cons_self | apply List.mem_cons_of_mem))) (Ev.natE (n := 2) (by with_unfolding_all rfl)) eqN) (fun h => absurd h (by decide)) fun _ => ?_
    with_reducible refine Run.ite (c := decide (0 = 4)) (EvB.cmp (Ev.name (by with_reducible repeat (first | exact List.mem_cons_self | apply List.mem_cons_of_mem))) (Ev.natE (n := 4) (by with_unfolding_all rfl)) eqN) (fun h => absurd h (by decide)) fun _ => ?_
    apply Run.tail
    apply Run.tail
    with_reducible refine Run.ite (c := false) (EvB.vl (Ev.name (by with_reducible repeat (first | exact List.mem_cons_self | apply List.mem_cons_of_mem))) tru_bool) (fun h => by cases h) fun _ => ?_
    apply Run.tail
    refine Run.freeze (x := "out") (a := o) (l := (O.map fun n => (b64 n).toNat).map dI) (by with_reducible repeat (first | exact List.mem_cons_self | apply List.mem_cons_of_mem)) (by with_reducible repeat (first | exact Upd.dat | exact Upd.un | exact Upd.own | apply Upd.tail)) ?_
    with_reducible refine Run.rtn (.bytes (O.map b64)) ?_ hr
    have e := call_bytes (prog := P0) (w := w) (h0 := h0) (k := k + 2) (ns := (O.map fun n => (b64 n).toNat).map fun (n : Nat) => (n : Int)) (fun n hn => by
      obtain ⟨m, hm, rfl⟩ := List.mem_map.mp hn
      obtain ⟨j, hj, rfl⟩ := List.mem_map.mp hm
      have := (b64 j).toNat_lt; omega) (by rw [List.length_map, List.length_map]; exact sz (by omega))
    rw [List.map_map, List.map_map, List.map_map, List.map_map] at e
    rw [show O.map b64 = O.map (((fun (n : Int) => n.toNat.toUInt8) ∘ fun (n : Nat) => (n : Int)) ∘ fun n => (b64 n).toNat) from List.map_congr_left fun n _ => by simp]
    with_reducible refine Ev.bc G W (v := .type "bytes") (by with_reducible repeat (first | exact List.mem_cons_self | apply List.mem_cons_of_mem)) (K (by kernel_rfl)) (EvL.c (d := .lst ((O.map fun n => (b64 n).toNat).map dI)) (Ev.name (by with_reducible repeat (first | exact List.mem_cons_self | apply List.mem_cons_of_mem))) EvL.nil) ?_
    rw [List.map_map]; exact e
theorem fn_b2a (G : Gd P mg mb h0) {l : List UInt8} (hl : l.length = 3) : ∀ l' A m s vs, Ok l' (k + 4) A → Amb h0 l' m s → RdL m [.bytes l] vs → Gv P0 w h0 l' A m s (PySem.call (.ref 149) vs [("newline", .bool false)]) (.val (.bytes ((sxs (l.map (·.toNat)) 3).map b64))) := by
  obtain ⟨o, ho, hd⟩ := G.fd (fdB_at P)
  refine callable_of (fd := fdB) ho hd (G.code (codeB_at P)) rfl rfl (ps := ["data", "newline"]) (keys := ["data", "newline", "bin_data", "out", "leftbits", "leftchar", "b"]) (es := [.bytes l, .bool false]) (by kernel_rfl) (by simp) ?_ fun C Fc => ?_
  · intro l k A m s vs O I r
    obtain ⟨v, _, rfl, r1, rfl⟩ := r
    have e : bindArgs fdB ⟨[v], [("newline", .bool false)]⟩ = pure ((["data", "newline"] : List Str).zip [v, .bool false]) := by kernel_rfl
    rw [e]
    exact wpAny_pure ⟨m, [v, .bool false], Grow.refl I.le, rfl, rfl, v, _, rfl, r1, _, [], rfl, rfl, rfl⟩
  · have e : startSto ["data", "newline", "bin_data", "out", "leftbits", "leftchar", "b"] ["data", "newline"] [.bytes l, .bool false] = ([("data", .dat (.bytes l)), ("newline", .dat (.bool false)), ("bin_data", .un), ("out", .un), ("leftbits", .un), ("leftchar", .un), ("b", .un)] : Sto) := by kernel_rfl
    rw [e]
    exact run_b2a G hl Fc rfl
end
section
set_option linter.unusedVariables false
set_option maxRecDepth 100000
variable {w : World} {h0 : Heap} {C : Cx} {k : Nat} {σ σ' : Sto} {R : Out → Prop} {P : Params} {mg mb : Str → Option Value}
theorem Ev.mkt {prog : Program} {x : Str} {np ap pos : Pos} {es : List Expr} {a b : List UInt8} (hf : Ev prog w h0 C k σ (.Name x np) (.val (.type "bytes"))) (ha : EvL prog w h0 C k σ es [.bytes a, .bytes b]) (hl : a.length = b.length)
    (he : ∀ env, eval (.Call (.Attribute (.Name x np) "maketrans" ap) es [] pos) env = (do
      let ov ← eval (.Name x np) env
      standAt ap.atName
      let (f, first) ← holding [ov] (getMethod ov "maketrans" (do return (← importBound (.Name x np) env).getD true))
      callWith pos f first (backTo pos (starEach es env)) (backToKw pos (keywordEach [] env))) := by intro _; with_unfolding_all rfl) :
    Ev prog w h0 C k σ (.Call (.Attribute (.Name x np) "maketrans" ap) es [] pos) (.bytes (tabOf a b).toList) := fun A m s O I => by
  refine methodCall_KW (pl := (do return (← importBound (.Name x np) C.env).getD true)) ((hf A m s O I).then fun v m₁ s₁ g₁ r₁ => ?_) (he _)
  cases r₁
  have I₁ := I.grow g₁
  refine getm_maketrans ?_
  have g₂ : Grow m s m₁ { s₁ with toks := s₁.toks + 1 } := g₁.toks _
  refine Calls.callWith_builtin (ha.1 pos) (evalArgs_of ha _ pos O (I.grow g₂) fun vs m₃ s₃ g₃ ⟨v1, r1, e1, ⟨t, e2⟩, v2, r2, e3, ⟨u, e4⟩, e5⟩ => ?_)
  subst e1 e2 e3 e4 e5
  exact maketrans_wp hl ⟨m₃, (g₂.trans g₃).toks _, s₃.toks, by simp⟩
theorem fn_b64encode (G : Gd P mg mb h0) {l : List UInt8} (hl : l.length = 3) : Callable P0 w h0 (k + 6) (.ref 157) [.bytes l, .bytes [34, 46]] (.val (.bytes (trn (tabOf [43, 47] [34, 46]).toList ((sxs (l.map (·.toNat)) 3).map b64)))) := by
  obtain ⟨o, ho, hd⟩ := G.fd (fdE_at P)
  obtain ⟨oB, hoB, hdB⟩ := G.fd (fdB_at P)
  refine callable_of (fd := fdE) (k := k + 5) ho hd (G.code (codeE_at P)) rfl rfl (kw := []) (ps := ["s", "altchars"]) (keys := ["s", "altchars", "encoded"]) (es := [.bytes l, .bytes [34, 46]]) (by kernel_rfl) (by simp) ?_ fun C Fc => ?_
  · intro l k A m s vs O I r
    obtain ⟨v, _, rfl, r1, u, _, rfl, r2, rfl⟩ := r
    have X : (K0 P).In s.heap := fun a o e => I.stays a o (G.K a o e)
    refine kp_binds (K := K0 P) (binds := (["s", "altchars"] : List Str).zip [v, u]) X (fun S => ?_) _ _ _ _ ?_
    · kernel_rfl
    · exact ⟨m, [v, u], Grow.refl I.le, rfl, rfl, v, _, rfl, r1, u, [], rfl, r2, rfl⟩
  · have e : startSto ["s", "altchars", "encoded"] ["s", "altchars"] [.bytes l, .bytes [34, 46]] = ([("s", .dat (.bytes l)), ("altchars", .dat (.bytes [34, 46])), ("encoded", .un)] : Sto) := by kernel_rfl
    rw [e]
    have W : Wl mg mb h0 C := ⟨by rw [Fc.globals]; exact G.g, by rw [Fc.builtins]; exact G.b⟩
    have K : ∀ {x : Str} {kd : NameKind}, sc_b64encode.names.lookup x = some kd → C.env.kindOf x = some kd := fun h => kind_of Fc h
    have hz : ((sxs (l.map (·.toNat)) 3).map b64).length ≤ 6 := by
      have hlen : ∀ j, (em (lcOf ((l.map (·.toNat)).take (j + 1))) (8 * j % 6 + 8)).length ≤ 2 := fun j => by unfold em; split; exact Nat.le_refl _; split <;> simp
      rw [List.length_map]; unfold sxs; rw [List.length_flatMap]
      have := hlen 0; have := hlen 1; have := hlen 2; simp only [List.range_succ, List.range_zero, List.nil_append, List.cons_append, List.map_cons, List.map_nil, List.sum_cons, List.sum_nil]; omega
    delta b_b64encode
    with_reducible refine Run.asg (.bytes ((sxs (l.map (·.toNat)) 3).map b64)) (Ev.callB (Ev.glob (K (by kernel_rfl)) W.globals (G.gl (glB_at P))) hoB hdB (Ev.name (by with_reducible repeat (first | exact List.mem_cons_self | apply List.mem_cons_of_mem))) (fn_b2a (k := k + 1) G hl)) (by with_reducible repeat (first | exact Upd.dat | exact Upd.un | exact Upd.own | apply Upd.tail)) ?_
    with_reducible refine Run.ite (c := true) (EvB.cmp (Ev.name (by with_reducible repeat (first | exact List.mem_cons_self | apply List.mem_cons_of_mem))) Ev.none isnot_bytes) (fun _ => ?_) (fun h => by cases h)
    with_reducible refine Run.cons (Run1.assert (EvB.cmp (Ev.bc G W (v := .builtin "len") (by with_reducible repeat (first | exact List.mem_cons_self | apply List.mem_cons_of_mem)) (K (by kernel_rfl)) (EvL.c (Ev.name (by with_reducible repeat (first | exact List.mem_cons_self | apply List.mem_cons_of_mem))) EvL.nil) (call_len_bytes (by decide))) (Ev.natE (n := 2) (by with_unfolding_all rfl)) ?_) ?_)
    · exact eq_ii (a := 2) (b := 2)
    dsimp only
    with_reducible refine Run.rtn _ (Ev.mth (Ev.name (by with_reducible repeat (first | exact List.mem_cons_self | apply List.mem_cons_of_mem))) (EvL.c (Ev.mkt (a := [43, 47]) (b := [34, 46]) (G.bn W (v := .type "bytes") (by with_reducible repeat (first | exact List.mem_cons_self | apply List.mem_cons_of_mem)) (K (by kernel_rfl))).ev (EvL.c Ev.bytes (EvL.c (Ev.name (by with_reducible repeat (first | exact List.mem_cons_self | apply List.mem_cons_of_mem))) EvL.nil)) rfl) EvL.nil) (m_translate ?_ (sz (by omega)))) ?_
    · rw [Array.length_toList]; exact tab_size _ _
    · rfl
end
section
set_option linter.unusedVariables false
set_option maxRecDepth 100000
variable {w : World} {h0 : Heap} {C : Cx} {k : Nat} {σ σ' : Sto} {R : Out → Prop} {P : Params} {mg mb : Str → Option Value}
noncomputable abbrev bmX : List Value := [.type "Exception", .type "BaseException", .type "object"]
theorem glRep (P : Params) : glOf (K0 P) "error_reply" = some (.ref 180) := by kernel_rfl
theorem glPro (P : Params) : glOf (K0 P) "error_proto" = some (.ref 192) := by kernel_rfl
theorem ownRep (G : Gd P mg mb h0) : OwnCls "error_reply" 180 bmX "Exception.__new__" mg h0 :=
  ⟨G.gl (glRep P), .ref 167 :: bmX, 179, "error_reply", "error_reply", [.ref 167], true, [], [], false, none, none, some (.ref 171), none, some (.str "error_reply" 410), some (.str "error_reply" 418), some (.bool true), _, G.K 180 _ (by kernel_rfl), .of_isNs (isNs_of_in G.K (by kernel_rfl)), nsMap_none_of_in G.K (by kernel_rfl) (by kernel_rfl), tail_of_in G.K (by kernel_rfl)⟩
theorem ownPro (G : Gd P mg mb h0) : OwnCls "error_proto" 192 bmX "Exception.__new__" mg h0 :=
  ⟨G.gl (glPro P), .ref 167 :: bmX, 191, "error_proto", "error_proto", [.ref 167], true, [], [], false, none, none, some (.ref 183), none, some (.str "error_proto" 426), some (.str "error_proto" 434), some (.bool true), _, G.K 192 _ (by kernel_rfl), .of_isNs (isNs_of_in G.K (by kernel_rfl)), nsMap_none_of_in G.K (by kernel_rfl) (by kernel_rfl), tail_of_in G.K (by kernel_rfl)⟩
section
variable {np cpos pos : Pos} {es : List Expr} {l : List Nat}
theorem Run1.raiseRep (G : Gd P mg mb h0) (W : Wl mg mb h0 C) (hk : C.env.kindOf "error_reply" = some .globalImplicit) (he : EvL P0 w h0 C (k + 1) σ es [.str l]) (r : R (.exc (.ref 180) [.str l])) :
    Run1 P0 w h0 C (k + 1) σ (.Raise (some (.Call (.Name "error_reply" np) es [] cpos)) none pos) R :=
  Run1.raiseOwn (ownRep G) PySem.F.excBase_Exception (by kernel_rfl) PySem.F.excBase_Exception (EvN.glob hk W.globals (G.gl (glRep P))) he (by rw [List.length_singleton]; decide) r
theorem Run1.raisePro (G : Gd P mg mb h0) (W : Wl mg mb h0 C) (hk : C.env.kindOf "error_proto" = some .globalImplicit) (he : EvL P0 w h0 C (k + 1) σ es [.str l]) (r : R (.exc (.ref 192) [.str l])) :
    Run1 P0 w h0 C (k + 1) σ (.Raise (some (.Call (.Name "error_proto" np) es [] cpos)) none pos) R :=
  Run1.raiseOwn (ownPro G) PySem.F.excBase_Exception (by kernel_rfl) PySem.F.excBase_Exception (EvN.glob hk W.globals (G.gl (glPro P))) he (by rw [List.length_singleton]; decide) r
end
theorem str_rep (G : Gd P mg mb h0) {l : List Nat} : Callable P0 w h0 k (.type "str") [.exc (.ref 180) [.str l]] (.val (.str l)) := call_str_own G.K (by kernel_rfl) (by kernel_rfl)
theorem str_pro (G : Gd P mg mb h0) {l : List Nat} : Callable P0 w h0 k (.type "str") [.exc (.ref 192) [.str l]] (.val (.str l)) := call_str_own G.K (by kernel_rfl) (by kernel_rfl)
theorem mtc_rr (G : Gd P mg mb h0) : Mtc P0 w h0 (.ref 180) (.ref 180) true := mtcK G.K (by kernel_rfl)
theorem mtc_pr (G : Gd P mg mb h0) : Mtc P0 w h0 (.ref 192) (.ref 180) false := mtcK G.K (by kernel_rfl)
theorem mtc_pp (G : Gd P mg mb h0) : Mtc P0 w h0 (.ref 192) (.ref 192) true := mtcK G.K (by kernel_rfl)
theorem mtc_vr (G : Gd P mg mb h0) : Mtc P0 w h0 (.type "ValueError") (.ref 180) false := mtcK G.K (by kernel_rfl)
theorem mtc_vp (G : Gd P mg mb h0) : Mtc P0 w h0 (.type "ValueError") (.ref 192) false := mtcK G.K (by kernel_rfl)
theorem mtc_vv (G : Gd P mg mb h0) : Mtc P0 w h0 (.type "ValueError") (.type "ValueError") true := mtcK G.K (by kernel_rfl)
end
section
set_option linter.unusedVariables false
set_option maxRecDepth 100000
variable {w : World} {h0 : Heap} {C : Cx} {k : Nat} {σ σ' : Sto} {R : Out → Prop} {P : Params} {mg mb : Str → Option Value}
noncomputable def scan : List Nat → List Nat
  | [] => []
  | [c] => if c = 34 then [] else [c]
  | c :: d :: r => if c = 34 then (if d = 34 then 34 :: scan r else []) else c :: scan (d :: r)
theorem drop_at {α : Type} {l : List α} {i : Nat} (h : i < l.length) : l.drop i = l[i] :: l.drop (i + 1) := List.drop_eq_getElem_cons h
theorem scan_other {l : List Nat} {i : Nat} (h : i < l.length) (hc : l[i] ≠ 34) : scan (l.drop i) = l[i] :: scan (l.drop (i + 1)) := by
  rw [drop_at h]
  cases q : l.drop (i + 1) with
  | nil => simp [scan, hc]
  | cons d r => rw [scan, if_neg hc]
theorem scan_end {l : List Nat} {i : Nat} (h : i < l.length) (hc : l[i] = 34) (hn : ∀ h' : i + 1 < l.length, l[i + 1] ≠ 34) : scan (l.drop i) = [] := by
  rw [drop_at h]
  by_cases h' : i + 1 < l.length
  · rw [drop_at h', scan, if_pos hc, if_neg (hn h')]
  · rw [List.drop_of_length_le (by omega)]; unfold scan; rw [if_pos hc]
theorem scan_two {l : List Nat} {i : Nat} (h : i + 1 < l.length) (hc : l[i] = 34) (hd : l[i + 1] = 34) : scan (l.drop i) = 34 :: scan (l.drop (i + 2)) := by
  rw [drop_at (by omega : i < l.length), drop_at h, scan, if_pos hc, if_pos hd]
noncomputable def p257 (l : List Nat) : Res := if l.take 3 = [50, 53, 55] then .val (.str (if (l.drop 3).take 2 = [32, 34] then scan (l.drop 5) else [])) else .exc (.ref 180) [.str l]
noncomputable abbrev sP (l : List Nat) (acc : List Nat) (i : Nat) (sl : Sl) : Sto := [("resp", .dat (.str l)), ("dirname", .dat (.str acc)), ("i", .dat (dI i)), ("n", .dat (dI l.length)), ("c", sl)]
theorem fn_parse257 (G : Gd P mg mb h0) {a : Addr} (F : FnAt mg h0 "parse257" p_parse257 b_parse257 sc_parse257 a) {l : List Nat} (h5 : 5 ≤ l.length) (hz : l.length ≤ 1000) : Callable P0 w h0 (k + 2) (.ref a) [.str l] (p257 l) :=
  F.go G (kw := []) (k := k + 1) (ps := ["resp"]) (keys := ["resp", "dirname", "i", "n", "c"]) (es := [.str l]) (by kernel_rfl) (by kernel_rfl) (fun pm code doc => BindsD.plain (fun vs hv => by obtain ⟨v, rfl⟩ := len1 hv; kernel_rfl) rfl) (σ₀ := [("resp", .dat (.str l)), ("dirname", .un), ("i", .un), ("n", .un), ("c", .un)]) (by kernel_rfl) fun C Fc => by
    have hzz : l.length ≤ sizeLine := sz (by omega)
    delta b_parse257
    with_reducible refine Run.ite (c := l.take 3 != [50, 53, 55]) (EvB.cmp (Ev.takeS (Ev.name (by with_reducible repeat (first | exact List.mem_cons_self | apply List.mem_cons_of_mem))) (Ev.natE (by with_unfolding_all rfl)) hzz) (Ev.str (l := [50, 53, 55]) (by with_unfolding_all rfl)) ne_ss) ?_ ?_
    · intro hc
      with_reducible refine Run.cons (Run1.raiseRep G Fc.wl (Fc.kind (by kernel_rfl)) (EvL.c (Ev.name (by with_reducible repeat (first | exact List.mem_cons_self | apply List.mem_cons_of_mem))) EvL.nil) ?_)
      dsimp only
      show p257 l = _
      unfold p257
      rw [if_neg (by simpa using hc)]
    · intro hc
      apply Run.tail
      have e3 : l.take 3 = [50, 53, 55] := by simpa using hc
      with_reducible refine Run.ite (c := (l.drop 3).take (5 - 3) != [32, 34]) (EvB.cmp (Ev.bothS (Ev.name (by with_reducible repeat (first | exact List.mem_cons_self | apply List.mem_cons_of_mem))) (Ev.natE (by with_unfolding_all rfl)) (Ev.natE (by with_unfolding_all rfl)) h5 hzz) (Ev.str (l := [32, 34]) (by with_unfolding_all rfl)) ne_ss) ?_ ?_
      · intro h2
        with_reducible refine Run.rtn (.str []) ?_ ?_
        · ((with_reducible repeat' (first | exact Ev.name (by with_reducible repeat (first | exact List.mem_cons_self | apply List.mem_cons_of_mem)) | exact Ev.int | exact EvL.nil | (refine Ev.natE ?_; with_unfolding_all rfl) | (refine Ev.str ?_; with_unfolding_all rfl) | exact Ev.none | exact Ev.bool | exact Ev.nameR (by with_reducible repeat (first | exact List.mem_cons_self | apply List.mem_cons_of_mem)) | refine EvL.c ?_ ?_ | refine Ev.ls ?_ ?_ | refine Ev.tp ?_ ?_ | decide | (simp only [List.length_cons, List.length_nil]; decide))); done)
        · unfold p257; rw [if_pos e3, if_neg (by simpa using h2)]
      · intro h2
        have e2 : (l.drop 3).take 2 = [32, 34] := by simpa using h2
        have ep : p257 l = .val (.str (scan (l.drop 5))) := by unfold p257; rw [if_pos e3, if_pos e2]
        apply Run.tail
        with_reducible refine Run.asg (.str []) (Ev.str (by with_unfolding_all rfl)) (by with_reducible repeat (first | exact Upd.dat | exact Upd.un | exact Upd.own | apply Upd.tail)) ?_
        with_reducible refine Run.asg (dI 5) (Ev.natE (by with_unfolding_all rfl)) (by with_reducible repeat (first | exact Upd.dat | exact Upd.un | exact Upd.own | apply Upd.tail)) ?_
        with_reducible refine Run.asg (dI l.length) (Ev.bc G Fc.wl (v := .builtin "len") (by with_reducible repeat (first | exact List.mem_cons_self | apply List.mem_cons_of_mem)) (Fc.kind (by kernel_rfl)) (EvL.c (Ev.name (by with_reducible repeat (first | exact List.mem_cons_self | apply List.mem_cons_of_mem))) EvL.nil) (call_len_str (by omega))) (by with_reducible repeat (first | exact Upd.dat | exact Upd.un | exact Upd.own | apply Upd.tail)) ?_
        with_reducible refine Run.cons (Run1.while (fun m σ => ∃ i acc sl, i ≤ l.length ∧ m = l.length - i ∧ acc.length ≤ i ∧ acc ++ scan (l.drop i) = scan (l.drop 5) ∧ (sl = .un ∨ ∃ d, sl = .dat d) ∧ σ = sP l acc i sl) (l.length - 5) ⟨5, [], .un, h5, rfl, by simp, rfl, .inl rfl, rfl⟩ ?_)
        rintro m σ ⟨i, acc, sl, hi, rfl, ha, he, hsl, rfl⟩
        refine ⟨decide (i < l.length), EvB.cmp (Ev.name (by with_reducible repeat (first | exact List.mem_cons_self | apply List.mem_cons_of_mem))) (Ev.name (by with_reducible repeat (first | exact List.mem_cons_self | apply List.mem_cons_of_mem))) ltN, ?_, ?_⟩
        · intro h
          simp only [decide_eq_false_iff_not] at h
          rw [List.drop_of_length_le (by omega), scan, List.append_nil] at he
          dsimp only
          with_reducible refine Run.rtn (.str acc) (Ev.name (by with_reducible repeat (first | exact List.mem_cons_self | apply List.mem_cons_of_mem))) ?_
          rw [ep, he]
        · intro h
          simp only [decide_eq_true_eq] at h
          have u : Upd (sP l acc i sl) "c" (.dat (.str [l[i]])) (sP l acc i (.dat (.str [l[i]]))) := by rcases hsl with rfl | ⟨d', rfl⟩ <;> ((with_reducible repeat (first | exact Upd.dat | exact Upd.un | exact Upd.own | apply Upd.tail)); done)
          with_reducible refine Run.asg (.str [l[i]]) (Ev.sub (Ev.name (by with_reducible repeat (first | exact List.mem_cons_self | apply List.mem_cons_of_mem))) (Ev.name (by with_reducible repeat (first | exact List.mem_cons_self | apply List.mem_cons_of_mem))) (itm_str (by omega) (by omega) ?_)) u ?_
          · rw [Int.toNat_natCast]; exact get_of h
          with_reducible refine Run.asg (dI (i + 1)) (Ev.addN (Ev.name (by with_reducible repeat (first | exact List.mem_cons_self | apply List.mem_cons_of_mem))) (Ev.natE (by with_unfolding_all rfl))) (by with_reducible repeat (first | exact Upd.dat | exact Upd.un | exact Upd.own | apply Upd.tail)) ?_
          with_reducible refine Run.ite (c := ([l[i]] == [34])) (EvB.cmp (Ev.name (by with_reducible repeat (first | exact List.mem_cons_self | apply List.mem_cons_of_mem))) (Ev.str (by with_unfolding_all rfl)) eq_ss) ?_ ?_
          · intro hq
            have hq' : l[i] = 34 := by simpa using hq
            by_cases h1 : i + 1 < l.length
            · with_reducible refine Run.ite (c := decide (l.length ≤ i + 1) || ([l[i + 1]] != [34] || false)) (EvB.bool (EvA.or (EvB.cmp (Ev.name (by with_reducible repeat (first | exact List.mem_cons_self | apply List.mem_cons_of_mem))) (Ev.name (by with_reducible repeat (first | exact List.mem_cons_self | apply List.mem_cons_of_mem))) geN) fun _ => EvA.or (EvB.cmp (Ev.sub (Ev.name (by with_reducible repeat (first | exact List.mem_cons_self | apply List.mem_cons_of_mem))) (Ev.name (by with_reducible repeat (first | exact List.mem_cons_self | apply List.mem_cons_of_mem))) (itm_str (by omega) (by omega) ?_)) (Ev.str (by with_unfolding_all rfl)) ne_ss) fun _ => EvA.nil_or)) ?_ ?_
              · rw [Int.toNat_natCast]; exact get_of h1
              · intro hb
                refine Run.cons (Run1.brk ?_)
                dsimp only
                have hd : l[i + 1] ≠ 34 := by simpa [Nat.not_le.mpr h1] using hb
                rw [scan_end h hq' fun _ => hd, List.append_nil] at he
                with_reducible refine Run.rtn (.str acc) (Ev.name (by with_reducible repeat (first | exact List.mem_cons_self | apply List.mem_cons_of_mem))) ?_
                rw [ep, he]
              · intro hb
                have hd : l[i + 1] = 34 := by simpa [Nat.not_le.mpr h1] using hb
                apply Run.tail
                with_reducible refine Run.asg (dI (i + 1 + 1)) (Ev.addN (Ev.name (by with_reducible repeat (first | exact List.mem_cons_self | apply List.mem_cons_of_mem))) (Ev.natE (by with_unfolding_all rfl))) (by with_reducible repeat (first | exact Upd.dat | exact Upd.un | exact Upd.own | apply Upd.tail)) ?_
                apply Run.tail
                with_reducible refine Run.asg (.str (acc ++ [l[i]])) (Ev.addS (Ev.name (by with_reducible repeat (first | exact List.mem_cons_self | apply List.mem_cons_of_mem))) (Ev.name (by with_reducible repeat (first | exact List.mem_cons_self | apply List.mem_cons_of_mem))) ?_) (by with_reducible repeat (first | exact Upd.dat | exact Upd.un | exact Upd.own | apply Upd.tail)) ?_
                · exact sz (by simp only [List.length_cons, List.length_nil]; omega)
                · refine Run.nil ⟨l.length - (i + 2), by omega, i + 2, acc ++ [l[i]], _, by omega, rfl, by simp; omega, ?_, .inr ⟨_, rfl⟩, rfl⟩
                  rw [← he, scan_two h1 hq' hd, hq', List.append_assoc]; rfl
            · with_reducible refine Run.ite (c := decide (l.length ≤ i + 1) || false) (EvB.bool (EvA.or (EvB.cmp (Ev.name (by with_reducible repeat (first | exact List.mem_cons_self | apply List.mem_cons_of_mem))) (Ev.name (by with_reducible repeat (first | exact List.mem_cons_self | apply List.mem_cons_of_mem))) geN) fun hf => ?_)) ?_ ?_
              · simp only [decide_eq_false_iff_not] at hf; omega
              · intro hb
                refine Run.cons (Run1.brk ?_)
                dsimp only
                rw [scan_end h hq' fun h' => absurd h' h1, List.append_nil] at he
                with_reducible refine Run.rtn (.str acc) (Ev.name (by with_reducible repeat (first | exact List.mem_cons_self | apply List.mem_cons_of_mem))) ?_
                rw [ep, he]
              · intro hb; simp at hb; omega
          · intro hq
            have hq' : l[i] ≠ 34 := by simpa using hq
            apply Run.tail
            with_reducible refine Run.asg (.str (acc ++ [l[i]])) (Ev.addS (Ev.name (by with_reducible repeat (first | exact List.mem_cons_self | apply List.mem_cons_of_mem))) (Ev.name (by with_reducible repeat (first | exact List.mem_cons_self | apply List.mem_cons_of_mem))) ?_) (by with_reducible repeat (first | exact Upd.dat | exact Upd.un | exact Upd.own | apply Upd.tail)) ?_
            · exact sz (by simp only [List.length_cons, List.length_nil]; omega)
            · refine Run.nil ⟨l.length - (i + 1), by omega, i + 1, acc ++ [l[i]], _, by omega, rfl, by simp; omega, ?_, .inr ⟨_, rfl⟩, rfl⟩
              rw [← he, scan_other h hq', List.append_assoc]; rfl
end
section
open Sem (wp)
set_option linter.unusedVariables false
set_option maxRecDepth 100000
/-- the claim's caller stands beneath -/
noncomputable def inK (Γ : Ctx) : Prop := Γ.below.any (fun x => x.1.isCaller) = true
/-- the claim's caller stands here or beneath -/
noncomputable def onK (Γ : Ctx) : Prop := Γ.code.isCaller = true ∨ inK Γ
theorem onK.enter {Γ : Ctx} (h : onK Γ) (c : Code) (hd : Option Value) (p : Pos) : inK (Γ.enter c hd p) := by
  show List.any ((Γ.code, p) :: Γ.below) _ = true
  rw [List.any_cons]
  rcases h with h | h
  · rw [h, Bool.true_or]
  · rw [show Γ.below.any (fun x => x.1.isCaller) = true from h, Bool.or_true]
/-- wpAny, where the claim's caller stands beneath -/
noncomputable def wpC {α : Type} (M : Model) (A : Around) (t : Sem α) (Q : α → Shared → Prop) (E : Value → Shared → Prop) (s : Shared) : Prop :=
  ∀ Γ p, Γ.In A → onK Γ → wp M Γ t (fun a _ s' => Q a s') (fun e _ s' => E e s') p s
noncomputable def codeC (M : Model) (A : Around) (c : Code) (R : Result → Shared → Prop) (s : Shared) : Prop :=
  ∀ Γ p, Γ.code = c → Γ.Below A → inK Γ → wpCode M Γ R p s
section
variable {α β : Type} {M : Model} {A : Around} {E : Value → Shared → Prop} {s : Shared}
theorem wpC.of {t : Sem α} {Q : α → Shared → Prop} (h : wpAny M A t Q E s) : wpC M A t Q E s := fun Γ p hΓ _ => h Γ p hΓ
theorem codeC.of {c : Code} {R : Result → Shared → Prop} (h : codeAny M A c R s) : codeC M A c R s := fun Γ p hc hΓ _ => h Γ p hc hΓ
theorem wpC_pure {a : α} {Q : α → Shared → Prop} (h : Q a s) : wpC M A (pure a) Q E s := fun _ _ _ _ => h
theorem wpC_mono {t : Sem α} {Q Q' : α → Shared → Prop} {E' : Value → Shared → Prop} (h : wpC M A t Q E s)
    (hQ : ∀ a s, Q a s → Q' a s) (hE : ∀ e s, E e s → E' e s) : wpC M A t Q' E' s :=
  fun Γ p hΓ hK => Sem.wp_mono M Γ t (fun a _ s => hQ a s) (fun e _ s => hE e s) p s (h Γ p hΓ hK)
theorem wpC_bind {m : Sem α} {f : α → Sem β} {Q : β → Shared → Prop} (h : wpC M A m (fun a s' => wpC M A (f a) Q E s') E s) :
    wpC M A (m >>= f) Q E s := fun Γ p hΓ hK => by
  rw [Sem.wp_bind']
  exact Sem.wp_mono M Γ m (fun a p' s' h' => h' Γ p' hΓ hK) (fun _ _ _ h' => h') p s (h Γ p hΓ hK)
/-- a first part that any stack does -/
theorem wpC_bindU {m : Sem α} {f : α → Sem β} {Q : β → Shared → Prop} (h : wpAny M A m (fun a s' => wpC M A (f a) Q E s') E s) :
    wpC M A (m >>= f) Q E s := wpC_bind (.of h)
theorem wpC_ite {c : Prop} [Decidable c] {a b : Sem α} {Q : α → Shared → Prop} (h : if c then wpC M A a Q E s else wpC M A b Q E s) :
    wpC M A (if c then a else b) Q E s := by split <;> simp_all
theorem wpC_onRaise {m : Sem α} {k : Value → Sem Unit} {Q : α → Shared → Prop}
    (h : wpC M A m Q (fun e s' => wpC M A (k e) (fun _ s'' => E e s'') E s') s) : wpC M A (m.onRaise k) Q E s := fun Γ p hΓ hK => by
  rw [Sem.wp_onRaise]
  exact Sem.wp_mono M Γ m (fun _ _ _ h' => h') (fun e p' s' h' => h' Γ p' hΓ hK) p s (h Γ p hΓ hK)
theorem wpC_attempt {m : Sem α} {Q : Except Value α → Shared → Prop} (h : wpC M A m (fun a => Q (.ok a)) (fun e => Q (.error e)) s) :
    wpC M A m.attempt Q E s := fun Γ p hΓ hK => by rw [Sem.wp_attempt]; exact h Γ p hΓ hK
theorem wpC_holding {vs : List Value} {m : Sem α} {Q : α → Shared → Prop} (h : wpC M A m Q E s) : wpC M A (holding vs m) Q E s :=
  fun Γ p hΓ hK => by rw [Sem.wp_holding]; exact h Γ p hΓ hK
theorem wpC_keep {vs : List Value} {m : Sem α} {Q : α → Shared → Prop} (h : wpC M A m Q E s) : wpC M A (m.keep vs) Q E s :=
  fun Γ p hΓ hK => by rw [Sem.wp_keep]; exact h Γ p hΓ hK
theorem wpC_run {c : Code} {h : Option Value} {Q : Flow → Shared → Prop}
    (hc : codeC M (A.mark h) c (fun r s' => match r with | .ok f => Q f s' | .error e => E e s') s) (hnb : h ≠ some byPass := by intro x; cases x) :
    wpC M A (run c h) Q E s :=
  fun Γ p hΓ hK => by rw [Sem.wp_run]; exact hc _ p rfl (hΓ.enter c h p hnb) (hK.enter c h p)
theorem wpC_runValue {c : Code} {Q : Value → Shared → Prop}
    (hc : codeC M A c (fun r s' => match r with | .ok (.ret v) => Q v s' | .ok _ => False | .error e => E e s') s) :
    wpC M A (runValue c) Q E s := fun Γ p hΓ hK => by rw [Sem.wp_runValue]; exact hc _ p rfl (hΓ.enter c none p (by intro x; cases x)) (hK.enter c none p)
theorem wpC_call {f : Value} {pos : List Value} {kw : List (Str × Value)} {Q : Value → Shared → Prop}
    (hc : codeC M A (.call f ⟨pos, kw⟩) (fun r s' => match r with | .ok (.ret v) => Q v s' | .ok _ => False | .error e => E e s') s) :
    wpC M A (PySem.call f pos kw) Q E s := wpC_runValue hc
theorem codeC_of_tree {c : Code} {R : Result → Shared → Prop}
    (h : wpC M (A.under c) (M.den c) (fun fin s' => match fin with | .done f => R (.ok f) s' | .again c' => c'.quiet = true ∧ codeC M A c' R s')
      (fun e s' => R (.error e) s') s) : codeC M A c R s := fun Γ p hc hΓ hK => by
  rw [wpCode_iff_wp, hc]
  refine Sem.wp_mono M Γ _ (fun fin p' s' h' => ?_) (fun _ _ _ h' => h') p s (h Γ p (hc ▸ hΓ.in) (.inr hK))
  cases fin with
  | done f => exact h'
  | again c' => exact ⟨h'.1, h'.2 (Γ.goto c') p' rfl (hΓ.goto c') hK⟩
theorem codeC_mono {c : Code} {R R' : Result → Shared → Prop} (h : codeC M A c R s) (hR : ∀ r s, R r s → R' r s) : codeC M A c R' s :=
  fun Γ p hc hΓ hK => wpCode_mono hR (h Γ p hc hΓ hK)
theorem codeC_loop {c : Code} {R : Result → Shared → Prop} (hq : c.quiet = true) (I : Nat → Shared → Prop)
    (turn : ∀ n s, I n s → wpC M (A.under c) (M.den c)
      (fun fin s' => match fin with
        | .done f => R (.ok f) s'
        | .again c' => (c' = c ∧ ∃ m, m < n ∧ I m s') ∨ (c'.quiet = true ∧ codeC M A c' R s')) (fun e s' => R (.error e) s') s)
    (n : Nat) (h : I n s) : codeC M A c R s := by
  induction n using Nat.strongRecOn generalizing s with
  | ind n ih =>
    refine codeC_of_tree (wpC_mono (turn n s h) (fun fin s' hf => ?_) fun _ _ h' => h')
    cases fin with
    | done f => exact hf
    | again c' =>
      rcases hf with ⟨rfl, m, hm, hI⟩ | hf
      · exact ⟨hq, ih m hm hI⟩
      · exact hf
theorem mark_none {own : List String} {e : Value} {Q : Unit → Shared → Prop} (h : Q () s) : wpC M A (markTheRefusal own e) Q E s := fun Γ p hΓ hK => by
  unfold markTheRefusal
  rw [Sem.wp_bind']
  show wp M Γ (if pythonCodeMadeTheCall own (((Γ.code, p) :: Γ.below).map (·.1)) = true then _ else _) _ _ p s
  have e1 : pythonCodeMadeTheCall own (((Γ.code, p) :: Γ.below).map (·.1)) = false := by
    have e2 : (((Γ.code, p) :: Γ.below).map (·.1)).any Code.isCaller = true := by
      rw [List.map_cons, List.any_cons, List.any_map]
      show (Γ.code.isCaller || Γ.below.any (fun x => x.1.isCaller)) = true
      rcases hK with h | h
      · rw [h, Bool.true_or]
      · rw [show Γ.below.any (fun x => x.1.isCaller) = true from h, Bool.or_true]
    show ((!((((Γ.code, p) :: Γ.below).map (·.1)).any Code.isCaller) && _) && _) = false
    rw [e2]; rfl
  rw [if_neg (by rw [e1]; exact Bool.false_ne_true)]
  exact h
section
variable {env : Env}
theorem wpC_execs_cons {st rest} {Q : Flow → Shared → Prop}
    (h : wpC M A (exec st env) (fun f s' => match f with | .next => wpC M A (execs rest env) Q E s' | f => Q f s') E s) :
    wpC M A (execs (st :: rest) env) Q E s := fun Γ p hΓ hK => by
  rw [execs_cons, Sem.wp_bind']
  refine Sem.wp_mono M Γ _ (fun f p' s' h' => ?_) (fun _ _ _ h' => h') _ _ (h Γ p hΓ hK)
  cases f <;> first | exact h' Γ p' hΓ hK | exact h'
theorem wpC_Assign_Name {x pos' value pos} {Q : Flow → Shared → Prop}
    (h : wpC M A (eval value env) (fun v s₁ => wpAny M A (storeName env x v) (fun _ => Q .next) E s₁) E s)
    (hs : swapsWith value (some (.Name x pos')) pos.line env = pure false := by rfl) :
    wpC M A (exec (.Assign [.Name x pos'] value pos) env) Q E s := fun Γ p hΓ hK => by
  simp only [exec_Assign_Name env x pos' value pos hs, Sem.wp_bind', Sem.wp_cmd_standAt, Sem.wp_bindName, Sem.wp_pure']
  exact Sem.wp_mono M Γ _ (fun v _ s₁ h₁ => h₁ Γ _ hΓ) (fun _ _ _ h' => h') _ _ (h Γ _ hΓ hK)
theorem wpC_noted {m : Sem α} {Q : α → Shared → Prop} (h : wpC M A m Q (notedBy M A env E) s) : wpC M A (m.onRaise fun x => do noteFrame x env; theTreesLotGoes x) Q E s :=
  wpC_onRaise (wpC_mono h (fun _ _ q => q) fun _ _ hx => .of (wpAny_bind (wpAny_mono hx (fun _ _ e => wpAny_theTreesLotGoes e) fun _ _ e => e)))
theorem wpC_runOwn {c : Code} {h : Option Value} {Q : Flow → Shared → Prop}
    (hc : codeC M (A.mark h) c (fun r s' => match r with | .ok f => Q f s' | .error e => cameBackBy M A env E e s') s) (hnb : h ≠ some byPass := by intro x; cases x) :
    wpC M A (runOwn c env h) Q E s := by
  unfold runOwn
  exact wpC_onRaise (wpC_mono (wpC_run hc hnb) (fun _ _ q => q) fun _ _ q => .of q)
theorem wpC_For {target iter body orelse pos} {Q : Flow → Shared → Prop}
    (h : wpAny M A (eval iter env) (fun x s₁ => wpAny M A (pyIter x) (fun it s₂ =>
      codeC M A (.forLoop target it body orelse env) (fun r s' => match r with | .ok f => Q f s' | .error e => cameBackBy M A env E e s') s₂) E s₁) E s)
    (hs : ∀ x, foldedSetIterable iter env x = pure x := by intro _; rfl) :
    wpC M A (exec (.For target iter body orelse pos) env) Q E s := by
  rw [exec_For]
  exact wpC_bindU (wpAny_standAt (wpC_bindU (wpAny_mono h (fun x s₁ h₁ => wpC_bindU (wpAny_of_eq (hs x) (wpC_bindU (wpAny_standAt (wpC_bindU (wpAny_holding
    (wpAny_mono h₁ (fun it s₂ h₂ => wpC_runOwn h₂) fun _ _ h' => h'))))))) fun _ _ h' => h')))
theorem wpC_Call_ofName {x : Str} {np pos : Pos} {args : List Expr} {keywords : List Keyword} {Q : Value → Shared → Prop}
    (h : wpAny M A (eval (.Name x np) env) (fun f s₁ => wpC M A (callWith pos f [] (backTo pos (starEach args env)) (backToKw pos (keywordEach keywords env))) Q E s₁) E s) :
    wpC M A (eval (.Call (.Name x np) args keywords pos) env) Q E s := by
  show wpC M A (do callWith pos (← eval (.Name x np) env) [] (backTo pos (starEach args env)) (backToKw pos (keywordEach keywords env))) Q E s
  exact wpC_bindU h
theorem spliced_consC {x : Sem Value} {Q : List Value → Shared → Prop}
    (h : wpC M A x (fun v s₁ => Q [v] s₁) E s) : wpC M A (spliced [(false, x)]) Q E s := by
  rw [spliced]
  refine wpC_bind (wpC_mono h (fun v s₁ h₁ => ?_) fun _ _ x => x)
  simp only [Bool.false_eq_true, if_false]
  exact .of (wpAny_bind (wpAny_pure (wpAny_bind (wpAny_holding (Calls.spliced_nil (wpAny_pure h₁))))))
theorem evalArgs_plainC {f : Value} {x : Sem Value} {rest : List (Bool × Sem Value)} {Q : Args → Shared → Prop}
    (h : wpC M A (spliced ((false, x) :: rest)) (fun vs s' => Q ⟨vs, []⟩ s') E s) : wpC M A (evalArgs f true ((false, x) :: rest) []) Q E s := by
  unfold evalArgs
  show wpC M A (spliced ((false, x) :: rest) >>= _) Q E s
  refine wpC_bind (wpC_mono h (fun vs s' h' => ?_) fun _ _ x => x)
  refine .of (wpAny_holding ?_)
  exact wpAny_bind (wpAny_pure (wpAny_bind (wpAny_pure (wpAny_pure h'))))
/-- the arguments of a built-in raise -/
theorem callWith_builtinC {pos : Pos} {id : String} {first : List Value} {args : List (Bool × Sem Value)} {Q : Value → Shared → Prop} (hplain : args.any (·.1) = false)
    (h : wpC M A (evalArgs (.builtin id) true args []) (fun a s₁ => wpAny M A (call (.builtin id) (first ++ a.pos) a.kw) Q E s₁) E s) :
    wpC M A (callWith pos (.builtin id) first args []) Q E s := by
  unfold callWith
  refine wpC_bind (wpC_holding (wpC_mono h (fun a s₁ h₁ => .of (wpAny_bind (wpAny_standAt ?_))) fun _ _ x => x))
  simp only [hplain, List.any_nil, Bool.or_false]
  refine wpAny_bind (wpAny_pure ?_)
  exact wpAny_bind (wpAny_mono h₁ (fun r s₂ hr => wpAny_bind (wpAny_holding (wpAny_point (wpAny_pure hr)))) fun _ _ x => x)
theorem callWith_typeC {pos : Pos} {T : String} {first : List Value} {args : List (Bool × Sem Value)} {Q : Value → Shared → Prop} (hplain : args.any (·.1) = false)
    (h : wpAny M A (evalArgs (.type T) true args []) (fun a s₁ => wpC M A (call (.type T) (first ++ a.pos) a.kw) Q E s₁) E s) :
    wpC M A (callWith pos (.type T) first args []) Q E s := by
  unfold callWith
  refine wpC_bindU (wpAny_holding (wpAny_mono h (fun a s₁ h₁ => wpC_bindU (wpAny_standAt ?_)) fun _ _ x => x))
  simp only [hplain, List.any_nil, Bool.or_false]
  refine wpC_bindU (wpAny_pure ?_)
  exact wpC_bind (wpC_mono h₁ (fun r s₂ hr => .of (wpAny_bind (wpAny_holding (wpAny_point (wpAny_pure hr))))) fun _ _ x => x)
theorem callWith_functionC {pos : Pos} {a : Addr} {o : Obj} {fd : FuncData} {first : List Value} {args : List (Bool × Sem Value)} {Q : Value → Shared → Prop}
    (h : wpAny M A (evalArgs (.ref a) true args []) (fun x s₁ => (s₁.heap.get? a = some o ∧ o.data = .func fd) ∧ wpC M A (call (.ref a) (first ++ x.pos) x.kw) Q E s₁) E s) :
    wpC M A (callWith pos (.ref a) first args []) Q E s := by
  unfold callWith
  refine wpC_bindU (wpAny_holding (wpAny_mono h (fun x s₁ h₁ => wpC_bindU (wpAny_standAt ?_)) fun _ _ x => x))
  have tail : ∀ {t : Sem Value}, wpC M A t Q E s₁ → wpC M A (t >>= fun r => holding [r] point >>= fun _ => pure r) Q E s₁ :=
    fun ht => wpC_bind (wpC_mono ht (fun r s₂ hr => .of (wpAny_bind (wpAny_holding (wpAny_point (wpAny_pure hr))))) fun _ _ x => x)
  cases hs : args.any (·.1) <;> simp only [List.any_nil, Bool.or_false] <;>
    refine wpC_bindU (m := keeperOf (.ref a)) ?_ <;> unfold keeperOf <;>
    refine wpAny_bind (wpAny_load h₁.1.1 ?_) <;> rw [h₁.1.2] <;> refine wpAny_pure ?_
  · first
      | refine wpC_ite ?_
      | skip
    split <;> first
      | exact tail h₁.2
      | exact tail (by unfold callMarked; exact wpC_keep h₁.2)
  · first
      | exact tail (by unfold callMarked; exact wpC_keep h₁.2)
      | exact tail h₁.2
theorem tryStmtC {body orelse : Sem Flow} {h₀ : ExceptHandler} {hs : List ExceptHandler} {Q : Flow → Shared → Prop}
    (h : wpC M A body (fun f s₁ => match f with | .next => wpAny M A orelse Q E s₁ | f => Q f s₁)
      (fun e s₁ => wpAny M A (noteFrame e env) (fun _ s₂ => wpAny M A (setFlight e none) (fun _ s₃ => wpAny M A (handleBy e env (h₀ :: hs)) Q E s₃) E s₂) E s₁) s) :
    wpC M A (tryStmt false body (h₀ :: hs) orelse [] env) Q E s := by
  unfold tryStmt
  simp only [List.isEmpty_nil, if_true, List.isEmpty_cons, Bool.false_and, Bool.false_eq_true, if_false]
  refine wpC_bind (wpC_attempt (wpC_mono h (fun f s₁ h₁ => ?_) fun e s₁ h₁ => ?_))
  · cases f <;> first | exact .of h₁ | exact wpC_pure h₁
  · exact .of (wpAny_bind (wpAny_mono h₁ (fun _ _ h₂ => wpAny_bind h₂) fun _ _ x => x))
end
end
section
variable {prog : Program} {w : World} {A : Around} {E : Value → Shared → Prop} {s : Shared} {env : Env}
theorem codeC_forLoop {R : Result → Shared → Prop} {target it body orelse} (I : Nat → Shared → Prop)
    (turn : ∀ n s, I n s → wpAny (model prog w) A (pyNext it) (fun r s₁ => match r with
      | none => wpAny (model prog w) A (execs orelse env) (fun f s₃ => R (.ok f) s₃) (notedBy (model prog w) A env fun e s' => R (.error e) s') s₁
      | some v => wpAny (model prog w) A (letOwnedTupleGo target it v) (fun _ s₁' =>
          wpAny (model prog w) A (assign target env v) (fun _ s₂ => wpC (model prog w) A (execs body env) (fun f s₃ => match f with
            | .next | .cont => ∃ m, m < n ∧ I m s₃
            | .brk => R (.ok .next) s₃
            | .ret v => R (.ok (.ret v)) s₃) (notedBy (model prog w) A env fun e s' => R (.error e) s') s₂) (notedBy (model prog w) A env fun e s' => R (.error e) s') s₁') (notedBy (model prog w) A env fun e s' => R (.error e) s') s₁) (notedBy (model prog w) A env fun e s' => R (.error e) s') s)
    (n : Nat) (h : I n s) : codeC (model prog w) A (.forLoop target it body orelse env) R s := by
  refine codeC_loop rfl I (fun n s hI => ?_) n h
  show wpC _ A ((forTurn target it body orelse env).onRaise (fun x => do noteFrame x env; theTreesLotGoes x)) _ _ s
  refine wpC_noted ?_
  simp only [forTurn]
  refine wpC_bindU (wpAny_standAt (wpC_bindU (wpAny_onRaise (wpAny_mono (turn n s hI) (fun r s₁ h₁ => ?_) fun _ _ h' => wpAny_standAt h'))))
  cases r with
  | none => exact wpC_pure (.inr ⟨rfl, .of (codeAny_block h₁)⟩)
  | some v =>
    refine wpC_bindU (wpAny_mono h₁ (fun _ s₁' h₁' => ?_) fun _ _ h' => h')
    refine wpC_bindU (wpAny_mono h₁' (fun _ s₂ h₂ => wpC_bind (wpC_mono h₂ (fun f s₃ h₃ => ?_) fun _ _ h' => h')) fun _ _ h' => h')
    cases f with
    | next => exact wpC_pure (.inl ⟨rfl, h₃⟩)
    | cont => exact wpC_pure (.inl ⟨rfl, h₃⟩)
    | brk => exact wpC_pure h₃
    | ret v => exact wpC_pure h₃
theorem codeC_func {body : List Stmt} {R : Result → Shared → Prop}
    (h : wpC (model prog w) (A.deeper env) (execs body env) (fun f s' => R (.ok (.ret (match f with | .ret v => v | _ => .none))) s')
      (fun e s' => wpAny (model prog w) (A.deeper env) (leaving env e) (fun _ s'' => R (.error e) s'') (fun e' s'' => R (.error e') s'') s') s) :
    codeC (model prog w) A (.func body env) R s := by
  refine codeC_of_tree ?_
  show wpC _ (A.deeper env) (do point; match ← (execs body env).onRaise (leaving env) with | .ret v => ret v | _ => ret .none) _ _ s
  refine wpC_bindU (wpAny_point (wpC_bind (wpC_onRaise (wpC_mono h (fun f s' h' => ?_) fun _ _ h' => .of h'))))
  cases f <;> exact wpC_pure h'
theorem codeC_call_function {a : Addr} {args : Args} {o : Obj} {fd : FuncData} {body : List Stmt} {R : Result → Shared → Prop} (hroom : A.depth < recursionLimit)
    (ho : s.heap.get? a = some o)
    (hd' : o.data = .func fd) (hco : fd.scope.isCoroutine = false) (hgen : fd.scope.isGenerator = false) (hbody : fd.body = .stmts body) (hcd : s.heap.CodeRec fd.code fd.qualname)
    (h : wpAny (model prog w) A.in1 (bindArgs fd args) (fun binds s₁ =>
      wpAny (model prog w) A.in1 (newFunctionEnv fd.scope fd.globals fd.closure binds (fd.qualname ++ ".<locals>.") (some a) fd.code none fd.builtins)
        (fun env s₂ => s₂.heap.NoLimit ∧ codeC (model prog w) A (.func body env) R s₂) (fun e s' => R (.error e) s') s₁) (fun e s' => R (.error e) s') s) :
    codeC (model prog w) A (.call (.ref a) args) R s := by
  refine codeC_of_tree ?_
  show wpC _ A.in1 (callAny (.ref a) args) _ _ s
  simp only [callAny]
  refine wpC_bindU (wpAny_load ho ?_)
  obtain ⟨c, oc, vs, tq, hc, hoc, hdc, hq⟩ := hcd
  simp only [hd', callFunction, hco, hgen, hbody, hc]
  rw [hc] at h
  refine wpC_bindU (m := field (.ref c) 1) (wpAny_field hoc hdc hq (wpC_bindU (wpAny_pure ?_)))
  exact wpC_bindU (wpAny_mono h (fun binds s₁ h₁ => wpC_bindU (wpAny_mono h₁ (fun env s₂ h₂ => wpC_bindU (wpAny_enterFrame h₂.1 hroom
    (wpC_pure (And.intro rfl h₂.2)))) fun _ _ h' => h')) fun _ _ h' => h')
theorem wpC_Try {body orelse : List Stmt} {h₀ : ExceptHandler} {hs : List ExceptHandler} {pos : Pos} {Q : Flow → Shared → Prop}
    (h : wpC (model prog w) A (execs body env) (fun f s₁ => match f with | .next => wpAny (model prog w) A (execs orelse env) Q E s₁ | f => Q f s₁)
      (fun e s₁ => wpAny (model prog w) A (noteFrame e env) (fun _ s₂ => wpAny (model prog w) A (setFlight e none) (fun _ s₃ => wpAny (model prog w) A (handleBy e env (h₀ :: hs)) Q E s₃) E s₂) E s₁) s) :
    wpC (model prog w) A (exec (.Try body (h₀ :: hs) orelse [] pos) env) Q E s := by
  rw [arm_exec_Try]
  exact wpC_bindU (wpAny_standAt (tryStmtC h))
theorem wpC_Expr {e pos} {Q : Flow → Shared → Prop} (h : wpC (model prog w) A (eval e env) (fun _ => Q .next) E s)
    (hi : interactive env = false := by rfl) (hs : swapsWith e none pos.line env = pure false := by rfl) :
    wpC (model prog w) A (exec (.Expr e pos) env) Q E s := by
  rw [exec_Expr env e pos hi hs]
  exact wpC_bindU (wpAny_standAt (wpC_bind (wpC_mono h (fun v s' h' => .of (wpAny_dropValue h')) fun _ _ x => x)))
theorem wpC_Call_append {o elt : Expr} {apos pos : Pos} {Q : Value → Shared → Prop}
    (hbase : attributeBase o "append" env (eval o env) = eval o env)
    (hfew : ((backTo pos (starEach [elt] env)).all (fun x => !x.1) && (backToKw pos (keywordEach [] env)).all (fun x => x.1.isSome)
      && decide (([elt] : List Expr).length + ([] : List Keyword).length + (if ([] : List Keyword).isEmpty then 0 else 1) < 30)) = true)
    (hline : (apos.endLine == pos.line) = true)
    (htrees : backTo pos (starEach [elt] env) = [(false, eval elt env)])
    (h : wpAny (model prog w) A (eval o env) (fun ov s₁ => ∃ D its, ov = .ref D ∧ PlainL s₁.heap D its ∧
      wpC (model prog w) A (eval elt env) (fun y s₂ => wpAny (model prog w) A (call (.builtin "list.append") [.ref D, y]) Q E s₂) E s₁) E s) :
    wpC (model prog w) A (eval (.Call (.Attribute o "append" apos) [elt] [] pos) env) Q E s := by
  rw [arm_eval_Call, hbase]
  refine wpC_bindU (wpAny_mono h (fun ov s₁ h₁ => ?_) fun _ _ e => e)
  obtain ⟨D, its, rfl, ⟨ob, n, hob, hc, hd, _⟩, hcall⟩ := h₁
  refine wpC_bindU (wpAny_standAt ?_)
  have fin : wpC (model prog w) A (callWith pos (.builtin "list.append") [.ref D] (backTo pos (starEach [elt] env)) []) Q E s₁ := by
    rw [htrees]
    exact callWith_builtinC rfl (evalArgs_plainC (spliced_consC (wpC_mono hcall (fun y s₂ h₂ => h₂) fun _ _ e => e)))
  have hform : methodCallForm (([elt] : List Expr).length + ([] : List Keyword).length) (backTo pos (starEach [elt] env)) (backToKw pos (keywordEach [] env)) = true := hfew
  have hpos : methodCallPos true o env apos pos = pure pos := by unfold methodCallPos; simp [hline]
  unfold methodCall
  rw [hform]
  refine wpC_bindU (wpAny_holding (Calls.getMethod_list_append hob hc hd ?_))
  exact wpC_bindU (wpAny_of_eq hpos fin)
end
end
section
open PySem.NumText
set_option linter.unusedVariables false
set_option maxRecDepth 100000
variable {prog : Program} {w : World} {A : Around} {E : Value → Shared → Prop} {s : Shared}
theorem wpC_ite_true {α : Type} {M : Model} {c : Prop} [Decidable c] {a b : Sem α} {Q : α → Shared → Prop} (hc : decide c = true) (h : wpC M A a Q E s) :
    wpC M A (if c then a else b) Q E s := by rw [if_pos (of_decide_eq_true hc)]; exact h
theorem wpC_ite_false {α : Type} {M : Model} {c : Prop} [Decidable c] {a b : Sem α} {Q : α → Shared → Prop} (hc : decide c = false) (h : wpC M A b Q E s) :
    wpC M A (if c then a else b) Q E s := by rw [if_neg (of_decide_eq_false hc)]; exact h
theorem wp_badC {Q : Value → Shared → Prop} {x : PySem.Str} {u : Tok} {text : List Nat}
    (hs : (text.takeWhile (· != 0)).length ≤ 640) (hr : (int_private% "readNumeral") 0 10 (text.takeWhile (· != 0)) = int_private% "Numeral.invalid") (hh : A.handled = none) (hz : (reprText x).length ≤ sizeLine)
    (h : ∀ (h' : Heap) tk e u', s.toks ≤ tk → Heap.MadeExcOf s.heap h' e (.type "ValueError") [.str (msgOf x) u'] → E (.ref e) { s with heap := h', toks := tk }) :
    wpC (model prog w) A ((int_private% "intFromText") (.str x u) text 10) Q E s := by
  obtain ⟨hp, g, d, tk, os⟩ := s
  refine wpC_ite_true (decide_eq_true hs) (wpC_bindU (wpAny_pure ?_))
  dsimp only
  rw [hr]
  dsimp only
  refine wpC_bindU (wpAny_of_eq (bytesOf_str x u) ?_)
  rw [if_neg (by simp)]
  refine wpC_bindU (wpAny_rule ?_)
  refine wpC_bindU (wpAny_of_eq (bytesOf_str x u) ?_)
  dsimp only
  refine wpC_bindU (wpAny_pyRepr_str ?_ hz)
  refine wpC_bindU (wpAny_mkStr ?_ ?_)
  · refine wpC_bindU (wpAny_newExc_plain plainExc_ValueError (fun h' e hm => ?_) (by show 1 ≤ sizeLine; decide))
    refine wpC_bind (mark_none ?_)
    exact .of (wpAny_raiseNew_none hh (h h' _ e _ (by show tk ≤ tk + 1 + 1; omega) hm.of))
  · rw [PySem.Str.length_append]
    have e1 : (Str.ofString (toString "invalid literal for int() with base " ++ toString 10 ++ toString ": ")).length ≤ 100 := by decide +kernel
    have e2 : (⟨(reprText x).cps.extract 0 200⟩ : PySem.Str).length ≤ 200 := by
      show ((reprText x).cps.extract 0 200).size ≤ 200
      rw [Array.size_extract]; omega
    have e3 : 300 ≤ sizeLine := by decide
    omega

noncomputable def finC (prog : Program) (w : World) (A : Around) (R : Result → Shared → Prop) : Fin → Shared → Prop := fun fin s' => match fin with | .done f => R (.ok f) s' | .again c' => c'.quiet = true ∧ codeC (model prog w) A c' R s'
set_option maxHeartbeats 4000000 in
theorem int_badC {x : PySem.Str} {u : Tok} {Q : Fin → Shared → Prop} (hl : x.length ≤ 640) (hbad : (int_private% "readNumeral") 0 10 (numSeenOf x) = int_private% "Numeral.invalid") (hz : (reprText x).length ≤ sizeLine) (hh : A.handled = none)
    (h : ∀ (h' : Heap) tk e u', s.toks ≤ tk → Heap.MadeExcOf s.heap h' e (.type "ValueError") [.str (msgOf x) u'] → E (.ref e) { s with heap := h', toks := tk }) :
    wpC (model prog w) A (Builtin.«int.__new__» ⟨[.type "int", .str x u], []⟩) Q E s := by
  obtain ⟨hp, g, d, tk, os⟩ := s
  have f1 := F.conv_sub_int
  have f2 := F.madeHere_int
  have f3 := KIN.str_int
  have f4 := KIN.str_idx
  have f5 := KIN.str_trunc
  have f6 : typeOf (.str x u) = pure (.type "str") := rfl
  have hs : (numSeenOf x).length ≤ 640 := Nat.le_trans (seen_length x) hl
  have hk := KIN.Hid.mk (And.intro hs hbad)
  clear hs hbad hl
  repeat (any_goals (first
    | assumption
    | ((with_reducible show wpAny _ _ _ _ _ _); wp_step)
    | ((with_reducible show wpC _ _ ((int_private% "intFromText") _ _ _) _ _ _); refine wp_badC hk.out.1 hk.out.2 hh hz h)
    | (refine wpC_bind (α := Value) (?_ : wpC _ _ ((int_private% "intFromObject") _) _ _ _))
    | (refine wpC_ite_false (by rfl) ?_)
    | (refine wpC_ite_true (by rfl) ?_)
    | (refine wpC_bind (α := Value) (?_ : wpC _ _ ((int_private% "intFromText") _ _ _) _ _ _))
    | (refine wpC_bindU ?_)))
theorem codeC_call_builtin {id : String} {args : Args} {b : Builtin} {R : Result → Shared → Prop} (hq : plainId id = true) (hb : entryFor table id = some b) (hcn : checkBuiltinCall id args = pure ())
    (h : wpC (model prog w) A.in1 (b args) (fun fin s' => match fin with | .done f => R (.ok f) s' | .again c' => c'.quiet = true ∧ codeC (model prog w) A c' R s') (fun e s' => R (.error e) s') s) : codeC (model prog w) A (.call (.builtin id) args) R s := by
  refine codeC_of_tree ?_
  show wpC _ A.in1 (do checkBuiltinCall id args; again (.builtin id args)) _ _ s
  refine wpC_bindU (wpAny_of_eq hcn (wpC_pure (And.intro (plainId_quiet hq args) (codeC_of_tree ?_))))
  show wpC _ _ (match entryFor table id with | some b => b args | none => unsupported ((withoutEnding? id "#data").getD id)) _ _ s
  rw [hb, Around.under_plainId hq args]; exact h
theorem codeC_builtin {id : String} {args : Args} {b : Builtin} {R : Result → Shared → Prop} (hb : entryFor table id = some b)
    (h : wpC (model prog w) (A.under (.builtin id args)) (b args)
      (fun fin s' => match fin with | .done f => R (.ok f) s' | .again c' => c'.quiet = true ∧ codeC (model prog w) A c' R s') (fun e s' => R (.error e) s') s) :
    codeC (model prog w) A (.builtin id args) R s := by
  refine codeC_of_tree ?_
  show wpC _ _ (match entryFor table id with | some b => b args | none => unsupported ((withoutEnding? id "#data").getD id)) _ _ s
  rw [hb]; exact h
set_option maxHeartbeats 4000000 in
theorem call_int_badC {x : PySem.Str} {u : Tok} {Q : Value → Shared → Prop} (hl : x.length ≤ 640) (hbad : (int_private% "readNumeral") 0 10 (numSeenOf x) = int_private% "Numeral.invalid") (hz : (reprText x).length ≤ sizeLine) (hh : A.handled = none)
    (h : ∀ (h' : Heap) tk e u', s.toks ≤ tk → Heap.MadeExcOf s.heap h' e (.type "ValueError") [.str (msgOf x) u'] → E (.ref e) { s with heap := h', toks := tk }) :
    wpC (model prog w) A (PySem.call (.type "int") [.str x u] []) Q E s := by
  have ft := F.called_int
  obtain ⟨c, tl, hmro⟩ := ft.mro
  have hmade := ft.made
  have hsub := ft.sub
  have hct := F.typeCall_int_1 (.str x u)
  refine wpC_call (codeC_of_tree ?_)
  show wpC _ _ (callAny (.type "int") _) _ _ _
  refine wpC_pure ⟨Code.quiet_builtin _ (by decide +kernel), codeC_builtin F.entry_type_call ?_⟩
  rw [Around.under_plain (weight_type_call_type "int" [.str x u] []) (units_type_call_type "int" [.str x u] [])]
  have h1 := ft.notType
  have h2 := ft.canCreate
  repeat (any_goals (first
    | assumption
    | ((with_reducible show wpAny _ _ _ _ _ _); wp_step)
    | (refine wpC_bind (wpC_holding (wpC_call (codeC_call_builtin ft.plain F.entry_int_new (F.newCall_int_1 (.str x u)) (int_badC hl hbad hz hh h)))))
    | (refine wpC_ite_false (by rfl) ?_)
    | (refine wpC_ite_true (by rfl) ?_)
    | (refine wpC_ite_false (by simp [*]) ?_)
    | (refine wpC_bindU ?_)))
end
section
set_option linter.unusedVariables false
set_option maxRecDepth 100000
variable {prog : Program} {w : World} {h0 : Heap} {C : Cx} {k : Nat} {σ σ' : Sto} {R : Out → Prop} {P : Params} {mg mb : Str → Option Value}
theorem wpC_toks {α : Type} {M : Model} {A : Around} {s : Shared} {t : Sem α} {Q : α → Shared → Prop} {E : Value → Shared → Prop} (h : wpC M A t Q E s) :
    wpC M A t (fun a s' => s.toks ≤ s'.toks ∧ Q a s') (fun e s' => s.toks ≤ s'.toks ∧ E e s') s := fun Γ p hΓ hK => Sem.wp_toks M Γ s.toks t _ _ p s (Nat.le_refl _) (h Γ p hΓ hK)
noncomputable def GvC (prog : Program) (w : World) (h0 : Heap) (l : List Env) (A : Around) (m : Mem) (s : Shared) (t : Sem Value) : Res → Prop
  | .val d => wpC (model prog w) A t (fun v s' => ∃ m', Grow m s m' s' ∧ Rd m' d v) (fun _ _ => False) s
  | .exc cls ds => wpC (model prog w) A t (fun _ _ => False) (fun e s' => Exc h0 l m s cls ds e s') s
theorem GvC.mk {l : List Env} {A : Around} {m : Mem} {s : Shared} {t : Sem Value} {r : Res}
    (h : wpC (model prog w) A t (fun v s' => ∃ d, r = .val d ∧ ∃ m', Grow m s m' s' ∧ Rd m' d v) (fun e s' => ∃ cls ds, r = .exc cls ds ∧ Exc h0 l m s cls ds e s') s) : GvC prog w h0 l A m s t r := by
  cases r with
  | val d => exact wpC_mono h (fun v s' ⟨_, e, m', g, r⟩ => by cases e; exact ⟨m', g, r⟩) fun _ _ ⟨_, _, e, _⟩ => nomatch e
  | exc cls ds => exact wpC_mono h (fun v s' ⟨_, e, _⟩ => nomatch e) fun _ _ ⟨_, _, e, x⟩ => by cases e; exact x
theorem GvC.then {l : List Env} {A : Around} {m : Mem} {s : Shared} {t : Sem Value} {d : D} {Q : Value → Shared → Prop} {E : Value → Shared → Prop} (h : GvC prog w h0 l A m s t (.val d))
    (k : ∀ v m' s', Grow m s m' s' → Rd m' d v → Q v s') : wpC (model prog w) A t Q E s :=
  wpC_mono h (fun v s' ⟨m', g, r⟩ => k v m' s' g r) fun _ _ f => f.elim
theorem GvC.thenX {l : List Env} {A : Around} {m : Mem} {s : Shared} {t : Sem Value} {cls : Value} {ds : List D} {Q : Value → Shared → Prop} {E : Value → Shared → Prop} (h : GvC prog w h0 l A m s t (.exc cls ds))
    (k : ∀ e s', Exc h0 l m s cls ds e s' → E e s') : wpC (model prog w) A t Q E s :=
  wpC_mono h (fun _ _ f => f.elim) fun e s' x => k e s' x
theorem GvC.on {l : List Env} {A : Around} {m m₁ : Mem} {s s₁ : Shared} {t : Sem Value} {r : Res} {Q : Value → Shared → Prop} {E : Value → Shared → Prop} (g : Grow m s m₁ s₁) (h : GvC prog w h0 l A m₁ s₁ t r)
    (q : ∀ d, r = .val d → ∀ v m' s', Grow m s m' s' → Rd m' d v → Q v s') (x : ∀ cls ds, r = .exc cls ds → ∀ e s', Exc h0 l m s cls ds e s' → E e s') : wpC (model prog w) A t Q E s₁ := by
  cases r with
  | val d => exact GvC.then h fun v m' s' g' r' => q d rfl v m' s' (g.trans g') r'
  | exc cls ds => exact GvC.thenX h fun e s' x' => x cls ds rfl e s' (x'.pre g)
/-- an expression, where the claim's caller stands beneath -/
noncomputable def EvRC (prog : Program) (w : World) (h0 : Heap) (C : Cx) (k : Nat) (σ : Sto) (e : Expr) (r : Res) : Prop :=
  ∀ A m s, Ok C.frs k A → Inv h0 C m σ s → GvC prog w h0 C.frs A m s (eval e C.env) r
noncomputable def CallableC (prog : Program) (w : World) (h0 : Heap) (k : Nat) (f : Value) (ds : List D) (r : Res) : Prop :=
  ∀ l A m s vs, Ok l k A → Amb h0 l m s → RdL m ds vs → GvC prog w h0 l A m s (PySem.call f vs []) r
noncomputable def RunsC (prog : Program) (w : World) (h0 : Heap) (C : Cx) (k : Nat) (σ : Sto) (t : Sem Flow) (R : Out → Prop) : Prop :=
  ∀ A m s, Ok C.frs k A → Inv h0 C m σ s →
    wpC (model prog w) A t (After h0 C m σ s R) (AfterX h0 C m σ s R) s
noncomputable abbrev RunC (prog : Program) (w : World) (h0 : Heap) (C : Cx) (k : Nat) (σ : Sto) (b : List Stmt) (R : Out → Prop) : Prop := RunsC prog w h0 C k σ (execs b C.env) R
noncomputable abbrev Run1C (prog : Program) (w : World) (h0 : Heap) (C : Cx) (k : Nat) (σ : Sto) (b : Stmt) (R : Out → Prop) : Prop := RunsC prog w h0 C k σ (exec b C.env) R
theorem RunsC.of {t : Sem Flow} (h : Runs prog w h0 C k σ t R) : RunsC prog w h0 C k σ t R := fun A m s O I => .of (h A m s O I)
theorem RunsC.pre {t : Sem Flow} {m m₁ : Mem} {σ₁ : Sto} {s s₁ : Shared} {A : Around} {R : Out → Prop} (h : RunsC prog w h0 C k σ₁ t R) (O : Ok C.frs k A) (I : Inv h0 C m₁ σ₁ s₁)
    (g : GrowW (C.wr ++ owns σ) m s m₁ s₁) (o : ∀ a ∈ owns σ₁, a ∈ owns σ ∨ s.heap.get? a = none) : wpC (model prog w) A t (After h0 C m σ s R) (AfterX h0 C m σ s R) s₁ :=
  wpC_mono (h A m₁ s₁ O I) (fun _ _ y => y.pre g o) fun _ _ y => y.pre g o
theorem RunsC.mono {t : Sem Flow} {R R' : Out → Prop} (h : RunsC prog w h0 C k σ t R) (q : ∀ o, R o → R' o) : RunsC prog w h0 C k σ t R' := fun A m s O I =>
  wpC_mono (h A m s O I) (fun _ _ y => y.mono q) fun _ _ ⟨c, d, r, y⟩ => ⟨c, d, q _ r, y⟩
theorem RunC.cons {st : Stmt} {rest : List Stmt} (h : Run1C prog w h0 C k σ st (fun o => match o with | .next σ' => RunC prog w h0 C k σ' rest R | o => R o)) : RunC prog w h0 C k σ (st :: rest) R := fun A m s O I => by
  refine wpC_execs_cons (wpC_mono (h A m s O I) (fun f s₁ y => ?_) fun _ _ y => y)
  cases f with
  | next =>
    obtain ⟨σ₁, r, ⟨m₁, g₁, I₁⟩, o₁⟩ := y
    exact r.pre O I₁ g₁ o₁
  | _ => exact y
theorem RunC.consU {st : Stmt} {rest : List Stmt} (h : Run1 prog w h0 C k σ st (fun o => match o with | .next σ' => RunC prog w h0 C k σ' rest R | o => R o)) : RunC prog w h0 C k σ (st :: rest) R := RunC.cons (.of h)
theorem RunC.split {st : Stmt} {rest : List Stmt} (S : Sto → Prop) (h1 : Run1C prog w h0 C k σ st (fun o => ∃ σ', S σ' ∧ o = .next σ')) (h2 : ∀ σ', S σ' → RunC prog w h0 C k σ' rest R) : RunC prog w h0 C k σ (st :: rest) R :=
  RunC.cons (RunsC.mono h1 fun o ⟨σ', hs, e⟩ => by subst e; exact h2 σ' hs)
theorem RunC.splitU {st : Stmt} {rest : List Stmt} (S : Sto → Prop) (h1 : Run1 prog w h0 C k σ st (fun o => ∃ σ', S σ' ∧ o = .next σ')) (h2 : ∀ σ', S σ' → RunC prog w h0 C k σ' rest R) : RunC prog w h0 C k σ (st :: rest) R := RunC.split S (.of h1) h2
section
variable {rest : List Stmt} {e : Expr} {p np : Pos} {x : Str}
theorem RunC.asg (d : D) (h : Ev prog w h0 C k σ e d) (u : Upd σ x (.dat d) σ') (r : RunC prog w h0 C k σ' rest R) (hs : swapsWith e (some (.Name x np)) p.line C.env = pure false := by with_unfolding_all rfl) : RunC prog w h0 C k σ (.Assign [.Name x np] e p :: rest) R := RunC.consU (Run1.assign h u r hs)
theorem RunC.ite {b o : List Stmt} {c : Bool} (h : EvB prog w h0 C k σ e c) (h1 : c = true → Run prog w h0 C k σ b (fun o => match o with | .next σ' => RunC prog w h0 C k σ' rest R | o => R o))
    (h2 : c = false → Run prog w h0 C k σ o (fun o => match o with | .next σ' => RunC prog w h0 C k σ' rest R | o => R o)) : RunC prog w h0 C k σ (.If e b o p :: rest) R := RunC.consU (Run1.ite h h1 h2)
theorem RunC.tail (h : RunC prog w h0 C k σ rest R) : Run prog w h0 C k σ [] (fun o => match o with | .next σ' => RunC prog w h0 C k σ' rest R | o => R o) := Run.nil h
/-- the assigned comes from a call that only the claim's caller may know -/
theorem RunC.asgC (d : D) (h : EvRC prog w h0 C k σ e (.val d)) (u : Upd σ x (.dat d) σ') (r : RunC prog w h0 C k σ' rest R) (hs : swapsWith e (some (.Name x np)) p.line C.env = pure false := by with_unfolding_all rfl) : RunC prog w h0 C k σ (.Assign [.Name x np] e p :: rest) R :=
  RunC.cons fun A m s O I => wpC_Assign_Name (GvC.then (h A m s O I) fun v m₁ s₁ g₁ r₁ => stored O (I.grow g₁) (g₁.toW _) u r₁ (fun _ h => nomatch h) r) hs
end
theorem RunC.freeze {x : Str} {a : Addr} {l : List D} {b : List Stmt} (hx : (x, Sl.own a l) ∈ σ) (u : Upd σ x (.dat (.lst l)) σ') (h : Run prog w h0 C k σ' b R) : RunC prog w h0 C k σ b R := .of (Run.freeze hx u h)
/-- an exception made by an expression -/
noncomputable def MadeG (h0 : Heap) (l : List Env) (m : Mem) (s : Shared) (cls : Value) (ds : List D) (e : Value) (s' : Shared) : Prop :=
  ∃ m₁ s₁ ea vs, Grow m s m₁ s₁ ∧ e = .ref ea ∧ RdL m₁ ds vs ∧ Heap.MadeExcOf s₁.heap s'.heap ea cls vs ∧ s'.gens = s₁.gens ∧ s'.os = s₁.os
noncomputable def EvMC (prog : Program) (w : World) (h0 : Heap) (C : Cx) (k : Nat) (σ : Sto) (e : Expr) (cls : Value) (ds : List D) : Prop :=
  ∀ A m s, Ok C.frs k A → Inv h0 C m σ s → wpC (model prog w) A (eval e C.env) (fun _ _ => False) (fun ex s' => MadeG h0 C.frs m s cls ds ex s') s
theorem Run1C.assignM {x : Str} {np p : Pos} {e : Expr} {cls : Value} {ds : List D} (h : EvMC prog w h0 C k σ e cls ds) (r : R (.exc cls ds)) (hs : swapsWith e (some (.Name x np)) p.line C.env = pure false := by with_unfolding_all rfl) :
    Run1C prog w h0 C k σ (.Assign [.Name x np] e p) R := fun A m s O I =>
  wpC_Assign_Name (wpC_mono (h A m s O I) (fun _ _ f => f.elim) fun ex s' ⟨m₁, s₁, ea, vs, g, e1, rd, hm, eg, eo⟩ => ⟨cls, ds, r, .inr ⟨m₁, s₁, ea, vs, g.toW _, I.amb.grow g, e1, rd, hm, eg, eo⟩⟩) hs
theorem EvMC.int {x : Str} {np p : Pos} {e : Expr} {l : List Nat} (hf : EvN prog w h0 C (.Name x np) (.type "int")) (he : Ev prog w h0 C k σ e (.str l)) (hl : l.length ≤ 640) (hbad : (int_private% "readNumeral") 0 10 (numSeenOf (mk l)) = int_private% "Numeral.invalid")
    (hz : (reprText (mk l)).length ≤ sizeLine) (hn : NoStar e := by intro _ _; with_unfolding_all rfl) (hk : 0 < k := by omega) : EvMC prog w h0 C k σ (.Call (.Name x np) [e] [] p) (.type "ValueError") [.str (msgOf (mk l)).cps.toList] := fun A m s O I => by
  refine wpC_Call_ofName (hf A m σ s _ _ I ?_)
  have ha := EvL.cons he EvL.nil hn
  refine callWith_typeC (ha.1 p) (evalArgs_of ha _ p O I fun vs m₂ s₂ g₂ ⟨v, r, e1, ⟨t, e2⟩, e3⟩ => ?_)
  subst e1 e2 e3
  refine call_int_badC (by rw [mk_len]; exact hl) hbad hz (O.hd hk) fun h' tk e u' htk M => ?_
  have g₃ : Grow m₂ s₂ m₂ { s₂ with toks := tk } := ⟨Sub.refl _, (I.grow g₂).amb.le, fun _ _ q => .inl q, Kept.of fun _ _ q => q, fun a o vs q d => q, rfl, rfl, htk⟩
  exact ⟨m₂, _, e, _, g₂.trans g₃, rfl, ⟨_, [], rfl, ⟨u', by simp⟩, rfl⟩, M, rfl, rfl⟩
theorem Ev.fcC (W : Wl mg mb h0 C) {x : Str} {a : Addr} {pa : Arguments} {b : List Stmt} {sc : Scope} {np pos : Pos} {es : List Expr} {ds : List D} {r : Res} (F : FnAt mg h0 x pa b sc a) (hk : C.env.kindOf x = some .globalImplicit)
    (ha : EvL P0 w h0 C k σ es ds) (hc : CallableC P0 w h0 k (.ref a) ds r) (hd : (x == ("__debug__" : Str)) = false := by decide) : EvRC P0 w h0 C k σ (.Call (.Name x np) es [] pos) r := fun A m s O I => by
  obtain ⟨o, pm, code, doc, ho, hdt, _⟩ := F.it
  refine GvC.mk (wpC_Call_ofName ((Ev.glob (k := k) (σ := σ) hk W.globals F.glob hd A m s O I).then fun v m₁ s₁ g₁ r₁ => ?_))
  obtain rfl : v = .ref a := r₁
  have I₁ := I.grow g₁
  refine callWith_functionC (o := o) (fd := Calls.docDef x pa b sc pm code doc) (evalArgs_of ha _ pos O I₁ fun vs m' s' g r' => ⟨⟨(I₁.grow g).amb.stays a o ho, hdt⟩, ?_⟩)
  exact GvC.on (g₁.trans g) (hc C.frs A m' s' vs O (I₁.grow g).amb r') (fun d e v m' s' g r => ⟨d, e, m', g, r⟩) fun cls ds e e' s' x => ⟨cls, ds, e, x⟩
noncomputable def FailsC (prog : Program) (w : World) (h0 : Heap) (C : Cx) (k : Nat) (σ : Sto) (b : List Stmt) (cls : Value) (ds : List D) : Prop :=
  ∀ A m s, Ok C.frs k A → Inv h0 C m σ s → wpC (model prog w) A (execs b C.env) (fun _ _ => False) (fun e s' => Exc h0 C.frs m s cls ds e s') s
theorem FailsC.append {x : Str} {np ap p q : Pos} {e : Expr} {a : Addr} {l : List D} {cls : Value} {ds : List D} {rest : List Stmt} (hx : (x, Sl.own a l) ∈ σ) (h : EvRC prog w h0 C k σ e (.exc cls ds))
    (hn : NoStar e := by intro _ _; rfl) (hl : (ap.endLine == p.line) = true := by rfl) : FailsC prog w h0 C k σ (.Expr (.Call (.Attribute (.Name x np) "append" ap) [e] [] p) q :: rest) cls ds := fun A m s O I => by
  refine wpC_execs_cons (wpC_Expr ?_ I.inter rfl)
  obtain ⟨lo, vs, sq, rd⟩ := I.own x a l hx
  have e1 : backTo p (starEach [e] C.env) = [(false, eval e C.env)] := by rw [hn]; rfl
  refine wpC_Call_append rfl (by rw [e1]; rfl) hl e1 (name_wp I.frm.fn (I.nodbg hx) lo ⟨a, vs.toArray, rfl, ?_, ?_⟩)
  · obtain ⟨o, n, e, c, dd, ss⟩ := sq
    exact ⟨o, n, e, c, dd, ss⟩
  exact GvC.thenX (h A m s O I) fun e s' x => x
theorem Run1C.tryX {b : List Stmt} {h₀ : ExceptHandler} {hs : List ExceptHandler} {o : List Stmt} {p : Pos} {cls : Value} {ds : List D} (own : ∃ outer L, C.frs = C.env :: outer ∧ C.env.frame = some L) (hb : FailsC prog w h0 C k σ b cls ds) (hh : Hnd prog w h0 C k σ cls ds (h₀ :: hs) R) :
    Run1C prog w h0 C k σ (.Try b (h₀ :: hs) o [] p) R := fun A m s O I => by
  obtain ⟨outer, L, hfr, hf⟩ := own
  refine wpC_Try (wpC_mono (wpC_toks (hb A m s O I)) (fun _ _ f => f.2.elim) fun e s₁ ⟨tk, x⟩ => ?_)
  obtain ⟨ea, t, B, m', vs, rfl, F, hB, hs', hn, ht, hr, ⟨ne, nt⟩, hflds⟩ := x.it
  have hb0 : ∀ a o, h0.get? a = some o → B.get? a = some o := fun a o q => hB _ _ (hs' _ _ (I.amb.base a o q))
  have Ofr : A.frames = some (C.env :: outer) := by rw [← hfr]; exact O.fr
  rw [hfr] at F
  refine wpAny_looks_onW Ofr hf F fun h₂ held up₂ => wpAny_landsW held fun h₃ F₃ up₃ => ?_
  rw [← hfr] at F₃
  exact hh A m s _ _ O I (x.fly F₃ hB hs' hn ht hr ne nt hflds hb0 (up₂.trans up₃)) tk
theorem Run1C.for {tgt : Expr} {p : Pos} {it : Expr} {b : List Stmt} {ds : List D} (P : Nat → Sto → Prop) (hi : EvI prog w h0 C k σ tgt it ds) (h0' : P 0 σ)
    (turn : ∀ i σ d, P i σ → ds[i]? = some d → ∃ σ', Tgt prog w h0 C k tgt σ d σ' ∧ RunC prog w h0 C k σ' b (Turn prog w h0 C k P R i)) (fin : ∀ σ, P ds.length σ → R (.next σ))
    (hs : ∀ v, foldedSetIterable it C.env v = pure v := by intro _; with_unfolding_all rfl) : Run1C prog w h0 C k σ (.For tgt it b [] p) R := fun A m s O I => by
  refine wpC_For (wpAny_mono (hi A m s O I) (fun v s₁ h => wpAny_mono h (fun itv s₂ ⟨IS, m₂, St, g₂, hIS, T, st₂⟩ => ?_) fun _ _ f => f.elim) fun _ _ f => f.elim) hs
  exact for_gen (W := fun A b env Q E s => wpC (model prog w) A (execs b env) Q E s) wpC_mono codeC_forLoop P h0' turn fin O I g₂ hIS T st₂
/-- a call of a text's def, where the claim's caller stands beneath -/
theorem callable_ofC {fd : FuncData} {f : Addr} {o : Obj} {body : List Stmt} {kw : List (Str × Value)} {ds es : List D} {ps keys : List Str} {r : Res} (ho : h0.get? f = some o) (hd : o.data = .func fd) (hcd : h0.CodeRec fd.code fd.qualname)
    (hb : fd.body = .stmts body) (hcl : fd.closure = []) (ok : fnOk fd.scope keys ps = true) (hps : ∀ x ∈ ps, x ∈ keys) (hbind : BindsD prog w h0 fd kw ds ps es)
    (run : ∀ C, FnCx fd C → RunC prog w h0 C k (startSto keys ps es) body (fun o => match o with | .ret d => r = .val d | .exc cls ds => r = .exc cls ds | .next _ => r = .val .none | _ => False)) :
    ∀ l A m s vs, Ok l (k + 1) A → Amb h0 l m s → RdL m ds vs → GvC prog w h0 l A m s (PySem.call (.ref f) vs kw) r := fun l A m s vs O I rd => by
  refine GvC.mk (wpC_call (codeC_mono (codeC_call_function O.dep (I.stays _ _ ho) hd (fnOk_parts ok).1 (fnOk_parts ok).2 hb (I.rec' hcd) (frame_gen (W := fun A b env Q E s => wpC (model prog w) A (execs b env) Q E s) wpC_mono codeC_func hcl ok hps hbind run O I rd)) fun x s' y => ?_))
  match x, y with
  | .ok (.ret _), y => exact y
  | .error _, y => exact y
theorem FnAt.goC {n : Str} {p : Arguments} {b : List Stmt} {sc : Scope} {a : Addr} {kw : List (Str × Value)} {ds es : List D} {ps keys : List Str} {σ₀ : Sto} {r : Res} (G : Gd P mg mb h0) (F : FnAt mg h0 n p b sc a) (ok : fnOk sc keys ps = true) (hps : (ps.all fun x => keys.contains x) = true)
    (hbind : ∀ pm code doc, BindsD P0 w h0 (Calls.docDef n p b sc pm code doc) kw ds ps es) (hσ : startSto keys ps es = σ₀)
    (run : ∀ C, Fc mg mb h0 sc C → RunC P0 w h0 C k σ₀ b (fun o => match o with | .ret d => r = .val d | .exc cls ds => r = .exc cls ds | .next _ => r = .val .none | _ => False)) :
    ∀ l A m s vs, Ok l (k + 1) A → Amb h0 l m s → RdL m ds vs → GvC P0 w h0 l A m s (PySem.call (.ref a) vs kw) r := by
  obtain ⟨o, pm, code, doc, ho, hd, hc⟩ := F.it
  refine callable_ofC ho hd hc rfl rfl ok (fun x hx => by simpa using List.all_eq_true.mp hps x hx) (hbind pm code doc) fun C FC => ?_
  rw [hσ]
  exact run C ⟨FC.scope, by rw [FC.globals]; exact G.g, by rw [FC.builtins]; exact G.b, FC.frame⟩
end
section
set_option linter.unusedVariables false
set_option maxRecDepth 100000
variable {prog : Program} {w : World} {h0 : Heap} {C : Cx} {k : Nat} {σ σ' : Sto} {R : Out → Prop}
theorem Run1C.app {x : Str} {np ap p q : Pos} {e : Expr} {a : Addr} {l : List D} (d : D) (hx : (x, Sl.own a l) ∈ σ) (h : EvRC prog w h0 C k σ e (.val d)) (u : Upd σ x (.own a (l ++ [d])) σ') (hz : l.length ≤ sizeLine) (r : R (.next σ'))
    (hn : NoStar e := by intro _ _; with_unfolding_all rfl) (hl : (ap.endLine == p.line) = true := by with_unfolding_all rfl) : Run1C prog w h0 C k σ (.Expr (.Call (.Attribute (.Name x np) "append" ap) [e] [] p) q) R := fun A m s O I => by
  refine wpC_Expr ?_ I.inter rfl
  obtain ⟨lo, vs, sq, rd⟩ := I.own x a l hx
  have e1 : backTo p (starEach [e] C.env) = [(false, eval e C.env)] := by rw [hn]; rfl
  refine wpC_Call_append rfl (by rw [e1]; rfl) hl e1 (name_wp I.frm.fn (I.nodbg hx) lo ⟨a, vs.toArray, rfl, ?_, ?_⟩)
  · obtain ⟨o, n, e, c, dd, ss⟩ := sq
    exact ⟨o, n, e, c, dd, ss⟩
  refine GvC.then (h A m s O I) fun v m₁ s₁ g₁ r₁ => ?_
  have I₁ := I.grow g₁
  obtain ⟨lo₁, us, sq₁, rd₁⟩ := I₁.own x a l hx
  refine append_wp sq₁ (by rw [rd₁.length]; exact hz) fun h' hl' hs' => ?_
  obtain ⟨g₂, I₂, eo⟩ := grownOwn I₁ hx u rd₁ r₁ hl' hs'
  exact ⟨σ', r, ⟨m₁, (g₁.toW _).trans g₂ fun _ h => .inl h, I₂⟩, fun b hb => .inl (eo ▸ hb)⟩
theorem Run1C.try {b : List Stmt} {h₀ : ExceptHandler} {hs : List ExceptHandler} {o : List Stmt} {p : Pos} (hb : RunC prog w h0 C k σ b (fun r => match r with | .next σ' => Run prog w h0 C k σ' o R | .exc _ _ => False | r => R r)) :
    Run1C prog w h0 C k σ (.Try b (h₀ :: hs) o [] p) R := fun A m s O I => by
  refine wpC_Try (wpC_mono (hb A m s O I) (fun f s₁ y => ?_) fun e s₁ ⟨_, _, f, _⟩ => f.elim)
  cases f with
  | next =>
    obtain ⟨σ₁, r, ⟨m₁, g₁, I₁⟩, o₁⟩ := y
    exact r.pre O I₁ g₁ o₁
  | _ => exact y
end
section
set_option linter.unusedVariables false
set_option maxRecDepth 100000
variable {w : World} {h0 : Heap} {C : Cx} {k : Nat} {σ σ' : Sto} {R : Out → Prop} {P : Params} {mg mb : Str → Option Value}
noncomputable abbrev badNum (q : List Nat) : Prop := (int_private% "readNumeral") 0 10 (numSeenOf (mk q)) = int_private% "Numeral.invalid"
theorem fnd_lt {c : Nat} {l : List Nat} {i : Nat} (h : ¬ fnd c l i < 0) : fnd c l i = ((fnd c l i).toNat : Int) ∧ i ≤ (fnd c l i).toNat ∧ (fnd c l i).toNat < l.length := by
  unfold fnd at h ⊢
  cases q : (l.drop i).findIdx? (· == c) with
  | none => rw [q] at h; exact absurd (by show (-1 : Int) < 0; decide) h
  | some j =>
    have := (List.findIdx?_eq_some_iff_findIdx_eq.mp q).1
    rw [List.length_drop] at this
    dsimp only
    omega
noncomputable def mid (l : List Nat) (a b : Nat) : List (List Nat) := spl (l.getD (a + 1) 0) ((l.drop (a + 1)).take (b - (a + 1)))
noncomputable def portOf (q way : List Nat) : Res := match PySem.intText? (mk q) with
  | some n => .val (.tup [.str way, .int n])
  | none => .exc (.type "ValueError") [.str (msgOf (mk q)).cps.toList]
noncomputable def p229c (l way : List Nat) (a b : Nat) : Res :=
  if l.getD (a + 1) 0 ≠ l.getD (b - 1) 0 then .exc (.ref 192) [.str l] else
  if (mid l a b).length ≠ 5 then .exc (.ref 192) [.str l] else portOf ((mid l a b).getD 3 []) way
noncomputable def p229b (l way : List Nat) (a : Nat) : Res := if fnd 41 l (a + 1) < 0 then .exc (.ref 192) [.str l] else p229c l way a (fnd 41 l (a + 1)).toNat
noncomputable def p229 (l way : List Nat) : Res :=
  if l.take 3 ≠ [50, 50, 57] then .exc (.ref 180) [.str l] else
  if fnd 40 l 0 < 0 then .exc (.ref 192) [.str l] else p229b l way (fnd 40 l 0).toNat
noncomputable def okNum (q : List Nat) : Prop := q.length ≤ 640 ∧ ((∃ n, PySem.intText? (mk q) = some n) ∨ (PySem.intText? (mk q) = none ∧ badNum q ∧ (reprText (mk q)).length ≤ sizeLine))
theorem fn_parse229 (G : Gd P mg mb h0) {a : Addr} (F : FnAt mg h0 "parse229" p_parse229 b_parse229 sc_parse229 a) {l way : List Nat} (hz : l.length ≤ 1000) (hq : l.take 3 = [50, 50, 57] → ¬ fnd 40 l 0 < 0 → (mid l (fnd 40 l 0).toNat (fnd 41 l ((fnd 40 l 0).toNat + 1)).toNat).length = 5 → okNum ((mid l (fnd 40 l 0).toNat (fnd 41 l ((fnd 40 l 0).toNat + 1)).toNat).getD 3 [])) :
    CallableC P0 w h0 (k + 2) (.ref a) [.str l, .tup [.str way, dI 21]] (p229 l way) :=
  F.goC G (kw := []) (k := k + 1) (ps := ["resp", "peer"]) (keys := ["resp", "peer", "left", "right", "parts", "host", "port"]) (es := [.str l, .tup [.str way, dI 21]]) (by kernel_rfl) (by kernel_rfl) (fun pm code doc => BindsD.plain (fun vs hv => by obtain ⟨v, u, rfl⟩ := len2 hv; kernel_rfl) rfl)
    (σ₀ := [("resp", .dat (.str l)), ("peer", .dat (.tup [.str way, dI 21])), ("left", .un), ("right", .un), ("parts", .un), ("host", .un), ("port", .un)]) (by kernel_rfl) fun C Fc => by
    have hzz : l.length ≤ sizeLine := sz (by omega)
    delta b_parse229
    unfold p229
    with_reducible refine RunC.ite (c := l.take 3 != [50, 50, 57]) (EvB.cmp (Ev.takeS (Ev.name (by with_reducible repeat (first | exact List.mem_cons_self | apply List.mem_cons_of_mem))) (Ev.natE (by with_unfolding_all rfl)) hzz) (Ev.str (l := [50, 50, 57]) (by with_unfolding_all rfl)) ne_ss) ?_ ?_
    · intro hc
      rw [if_pos (by simpa using hc)]
      with_reducible exact Run.cons (Run1.raiseRep G Fc.wl (Fc.kind (by kernel_rfl)) (EvL.c (Ev.name (by with_reducible repeat (first | exact List.mem_cons_self | apply List.mem_cons_of_mem))) EvL.nil) rfl)
    intro hc
    rw [if_neg (by simpa using hc)]
    apply RunC.tail
    with_reducible refine RunC.asg (.int (fnd 40 l 0)) (Ev.mth (Ev.name (by with_reducible repeat (first | exact List.mem_cons_self | apply List.mem_cons_of_mem))) (EvL.c (Ev.str (l := [40]) (by with_unfolding_all rfl)) EvL.nil) m_find) (by with_reducible repeat (first | exact Upd.dat | exact Upd.un | exact Upd.own | apply Upd.tail)) ?_
    with_reducible refine RunC.ite (c := decide (fnd 40 l 0 < 0)) (EvB.cmp (Ev.name (by with_reducible repeat (first | exact List.mem_cons_self | apply List.mem_cons_of_mem))) Ev.int lt_ii) ?_ ?_
    · intro ha
      rw [if_pos (by simpa using ha)]
      with_reducible exact Run.cons (Run1.raisePro G Fc.wl (Fc.kind (by kernel_rfl)) (EvL.c (Ev.name (by with_reducible repeat (first | exact List.mem_cons_self | apply List.mem_cons_of_mem))) EvL.nil) rfl)
    intro ha
    have ha : ¬ fnd 40 l 0 < 0 := by simpa using ha
    rw [if_neg ha]
    apply RunC.tail
    obtain ⟨ea, _, hal⟩ := fnd_lt ha
    generalize (fnd 40 l 0).toNat = x at *
    rw [ea]
    unfold p229b
    with_reducible refine RunC.asg (.int (fnd 41 l (x + 1))) (Ev.mth (Ev.name (by with_reducible repeat (first | exact List.mem_cons_self | apply List.mem_cons_of_mem))) (EvL.c (Ev.str (l := [41]) (by with_unfolding_all rfl)) (EvL.c (Ev.addN (Ev.name (by with_reducible repeat (first | exact List.mem_cons_self | apply List.mem_cons_of_mem))) (Ev.natE (n := 1) (by with_unfolding_all rfl))) EvL.nil)) (m_find3 (by omega))) (by with_reducible repeat (first | exact Upd.dat | exact Upd.un | exact Upd.own | apply Upd.tail)) ?_
    with_reducible refine RunC.ite (c := decide (fnd 41 l (x + 1) < 0)) (EvB.cmp (Ev.name (by with_reducible repeat (first | exact List.mem_cons_self | apply List.mem_cons_of_mem))) Ev.int lt_ii) ?_ ?_
    · intro hb
      rw [if_pos (by simpa using hb)]
      with_reducible exact Run.cons (Run1.raisePro G Fc.wl (Fc.kind (by kernel_rfl)) (EvL.c (Ev.name (by with_reducible repeat (first | exact List.mem_cons_self | apply List.mem_cons_of_mem))) EvL.nil) rfl)
    intro hb
    have hb : ¬ fnd 41 l (x + 1) < 0 := by simpa using hb
    rw [if_neg hb]
    apply RunC.tail
    obtain ⟨eb, hxy, hbl⟩ := fnd_lt hb
    generalize (fnd 41 l (x + 1)).toNat = y at *
    rw [eb]
    unfold p229c
    with_reducible refine RunC.ite (c := [l.getD (x + 1) 0] != [l.getD (y - 1) 0]) (EvB.cmp (Ev.sub (Ev.name (by with_reducible repeat (first | exact List.mem_cons_self | apply List.mem_cons_of_mem))) (Ev.addN (Ev.name (by with_reducible repeat (first | exact List.mem_cons_self | apply List.mem_cons_of_mem))) (Ev.natE (n := 1) (by with_unfolding_all rfl))) (itm_str (by omega) (by omega) ?_)) (Ev.sub (Ev.name (by with_reducible repeat (first | exact List.mem_cons_self | apply List.mem_cons_of_mem))) (Ev.subN (Ev.name (by with_reducible repeat (first | exact List.mem_cons_self | apply List.mem_cons_of_mem))) (Ev.natE (n := 1) (by with_unfolding_all rfl)) (by omega)) (itm_str (by omega) (by omega) ?_)) ne_ss) ?_ ?_
    · rw [Int.toNat_natCast]; exact getD_get (by omega)
    · rw [Int.toNat_natCast]; exact getD_get (by omega)
    · intro hd
      rw [if_pos (by simpa using hd)]
      with_reducible exact Run.cons (Run1.raisePro G Fc.wl (Fc.kind (by kernel_rfl)) (EvL.c (Ev.name (by with_reducible repeat (first | exact List.mem_cons_self | apply List.mem_cons_of_mem))) EvL.nil) rfl)
    intro hd
    rw [if_neg (by simpa using hd)]
    apply RunC.tail
    have hm : ((l.drop (x + 1)).take (y - (x + 1))).length ≤ 1000 := by rw [List.length_take, List.length_drop]; omega
    with_reducible refine RunC.asg (.lst ((mid l x y).map .str)) (Ev.mth (Ev.bothS (Ev.name (by with_reducible repeat (first | exact List.mem_cons_self | apply List.mem_cons_of_mem))) (Ev.addN (Ev.name (by with_reducible repeat (first | exact List.mem_cons_self | apply List.mem_cons_of_mem))) (Ev.natE (n := 1) (by with_unfolding_all rfl))) (Ev.name (by with_reducible repeat (first | exact List.mem_cons_self | apply List.mem_cons_of_mem))) (by omega) hzz) (EvL.c (Ev.sub (Ev.name (by with_reducible repeat (first | exact List.mem_cons_self | apply List.mem_cons_of_mem))) (Ev.addN (Ev.name (by with_reducible repeat (first | exact List.mem_cons_self | apply List.mem_cons_of_mem))) (Ev.natE (n := 1) (by with_unfolding_all rfl))) (itm_str (by omega) (by omega) ?_)) EvL.nil) (m_split (sz (by omega)))) (by with_reducible repeat (first | exact Upd.dat | exact Upd.un | exact Upd.own | apply Upd.tail)) ?_
    · rw [Int.toNat_natCast]; exact getD_get (by omega)
    have hl : ((mid l x y).map D.str).length = (mid l x y).length := List.length_map ..
    have hml : (mid l x y).length ≤ 1002 := by
      unfold mid
      have : ∀ (c : Nat) (z : List Nat), (spl c z).length ≤ z.length + 1 := fun c z => by
        induction z with
        | nil => simp [spl]
        | cons d r ih =>
          unfold spl
          split
          · simp only [List.length_cons]; omega
          · split
            · rename_i e; rw [e] at ih; simp only [List.length_cons] at ih ⊢; omega
            · simp
      have := this (l.getD (x + 1) 0) ((l.drop (x + 1)).take (y - (x + 1))); omega
    with_reducible refine RunC.ite (c := decide ((mid l x y).length ≠ 5)) (EvB.cmp (Ev.bc G Fc.wl (v := .builtin "len") (by with_reducible repeat (first | exact List.mem_cons_self | apply List.mem_cons_of_mem)) (Fc.kind (by kernel_rfl)) (EvL.c (Ev.name (by with_reducible repeat (first | exact List.mem_cons_self | apply List.mem_cons_of_mem))) EvL.nil) (call_len_lst (by omega))) (Ev.natE (n := 5) (by with_unfolding_all rfl)) ?_) ?_ ?_
    · rw [hl]; exact neN
    · intro h5
      rw [if_pos (by simpa using h5)]
      with_reducible exact Run.cons (Run1.raisePro G Fc.wl (Fc.kind (by kernel_rfl)) (EvL.c (Ev.name (by with_reducible repeat (first | exact List.mem_cons_self | apply List.mem_cons_of_mem))) EvL.nil) rfl)
    intro h5
    have h5 : (mid l x y).length = 5 := by simpa using h5
    rw [if_neg (by simpa using h5)]
    apply RunC.tail
    with_reducible refine RunC.asg (.str way) (Ev.sub (d := .tup [.str way, dI 21]) (di := .int 0) (Ev.name (by with_reducible repeat (first | exact List.mem_cons_self | apply List.mem_cons_of_mem))) Ev.int (itm_tup (by omega) (by omega) (by with_unfolding_all rfl))) (by with_reducible repeat (first | exact Upd.dat | exact Upd.un | exact Upd.own | apply Upd.tail)) ?_
    obtain ⟨hq1, hq2⟩ := hq (by simpa using hc) ha h5
    have h3 : ((mid l x y).map D.str)[3]? = some (.str ((mid l x y).getD 3 [])) := by rw [List.getElem?_map, getD_get (d := []) (by omega)]; rfl
    have hi : ∀ {τ : Sto} {p p1 p2 : Pos} {n : Nat}, (("parts", Sl.dat (.lst ((mid l x y).map .str))) : Str × Sl) ∈ (τ : List (Str × Sl)) → Ev P0 w h0 C (k + 1) τ (.Subscript (.Name "parts" p1) (.Constant (.int 3) n p2) p) (.str ((mid l x y).getD 3 [])) := fun hm =>
      Ev.sub (Ev.name hm) Ev.int (itm_lst (by omega) (by omega) h3)
    generalize (mid l x y).getD 3 [] = q at *
    unfold portOf
    rcases hq2 with ⟨n, hn⟩ | ⟨hn, hbad, hrep⟩
    · rw [hn]
      refine RunsC.of ?_
      with_reducible refine Run.asg (.int n) (Ev.bc G Fc.wl (v := .type "int") (by with_reducible repeat (first | exact List.mem_cons_self | apply List.mem_cons_of_mem)) (Fc.kind (by kernel_rfl)) (EvL.c (hi (by with_reducible repeat (first | exact List.mem_cons_self | apply List.mem_cons_of_mem))) EvL.nil) (call_int_s hn hq1)) (by with_reducible repeat (first | exact Upd.dat | exact Upd.un | exact Upd.own | apply Upd.tail)) ?_
      with_reducible refine Run.rtn (.tup [.str way, .int n]) ?_ rfl
      ((with_reducible repeat' (first | exact Ev.name (by with_reducible repeat (first | exact List.mem_cons_self | apply List.mem_cons_of_mem)) | exact Ev.int | exact EvL.nil | (refine Ev.natE ?_; with_unfolding_all rfl) | (refine Ev.str ?_; with_unfolding_all rfl) | exact Ev.none | exact Ev.bool | exact Ev.nameR (by with_reducible repeat (first | exact List.mem_cons_self | apply List.mem_cons_of_mem)) | refine EvL.c ?_ ?_ | refine Ev.ls ?_ ?_ | refine Ev.tp ?_ ?_ | decide | (simp only [List.length_cons, List.length_nil]; decide))); done)
    · rw [hn]
      with_reducible exact RunC.cons (Run1C.assignM (EvMC.int (G.bn Fc.wl (v := .type "int") (by with_reducible repeat (first | exact List.mem_cons_self | apply List.mem_cons_of_mem)) (Fc.kind (by kernel_rfl))) (hi (by with_reducible repeat (first | exact List.mem_cons_self | apply List.mem_cons_of_mem))) hq1 hbad hrep) rfl)
end
section
set_option linter.unusedVariables false
set_option maxRecDepth 100000
variable {w : World} {h0 : Heap} {C : Cx} {k : Nat} {σ σ' : Sto} {R : Out → Prop} {P : Params} {mg mb : Str → Option Value}
theorem Ev.fcX (W : Wl mg mb h0 C) {x : Str} {a : Addr} {pa : Arguments} {b : List Stmt} {sc : Scope} {np pos : Pos} {e : Expr} {cls : Value} {ds : List D} (F : FnAt mg h0 x pa b sc a) (hk : C.env.kindOf x = some .globalImplicit)
    (he : EvR P0 w h0 C k σ e (.exc cls ds)) (hd : (x == ("__debug__" : Str)) = false := by decide) (hn : NoStar e := by intro _ _; with_unfolding_all rfl) : EvR P0 w h0 C k σ (.Call (.Name x np) [e] [] pos) (.exc cls ds) := fun A m s O I => by
  obtain ⟨o, pm, code, doc, ho, hdt, _⟩ := F.it
  refine Gv.mk (wpAny_Call_ofName ((Ev.glob (k := k) (σ := σ) hk W.globals F.glob hd A m s O I).then fun v m₁ s₁ g₁ r₁ => ?_))
  obtain rfl : v = .ref a := r₁
  have e1 : backTo pos (starEach [e] C.env) = [(false, eval e C.env)] := by rw [hn]; rfl
  rw [e1]
  refine Calls.callWith_function (o := o) (fd := Calls.docDef x pa b sc pm code doc) (Calls.evalArgs_plain (Calls.spliced_cons ?_))
  exact (he A m₁ s₁ O (I.grow g₁)).thenX fun e s' q => ⟨cls, ds, rfl, q.pre g₁⟩
noncomputable def h257 (l : List Nat) : D := match p257 l with | .val (.str s) => .tup [.str (spt s).1, .str (spt s).2] | _ => .str l
noncomputable def h229 (l way : List Nat) : D := match p229 l way with | .val d => d | .exc (.ref 180) _ => .str l | .exc (.ref _) _ => .lst [.str l] | _ => .none
noncomputable abbrev sT (l way : List Nat) (o : Addr) (L : List D) (sl : Sl) : Sto := [("line", .dat (.str l)), ("peer", .dat (.tup [.str way, dI 21])), ("heard", .own o L), ("error", sl)]
theorem p257_is (l : List Nat) : (∃ s, s.length ≤ l.length ∧ p257 l = .val (.str s) ∧ h257 l = .tup [.str (spt s).1, .str (spt s).2]) ∨ (p257 l = .exc (.ref 180) [.str l] ∧ h257 l = .str l) := by
  have hs : ∀ n (z : List Nat), z.length ≤ n → (scan z).length ≤ z.length := by
    intro n
    induction n with
    | zero => intro z hz; rw [List.length_eq_zero_iff.mp (by omega : z.length = 0)]; simp [scan]
    | succ n ih =>
      intro z hz
      match z, hz with
      | [], _ => simp [scan]
      | [c], _ => unfold scan; split <;> simp
      | c :: d :: r, hz =>
        simp only [List.length_cons] at hz
        have h1 := ih r (by omega)
        have h2 := ih (d :: r) (by simp only [List.length_cons]; omega)
        rw [scan]
        split
        · split
          · simp only [List.length_cons]; omega
          · simp
        · simp only [List.length_cons] at h2 ⊢; omega
  unfold h257 p257
  by_cases h : l.take 3 = [50, 53, 55]
  · rw [if_pos h]
    refine .inl ⟨_, ?_, rfl, rfl⟩
    split
    · have := hs _ (l.drop 5) (Nat.le_refl _); rw [List.length_drop] at this; omega
    · simp
  · rw [if_neg h]; exact .inr ⟨rfl, rfl⟩
theorem p229_is (l way : List Nat) : (∃ d, p229 l way = .val d ∧ h229 l way = d) ∨ (p229 l way = .exc (.ref 180) [.str l] ∧ h229 l way = .str l) ∨ (p229 l way = .exc (.ref 192) [.str l] ∧ h229 l way = .lst [.str l]) ∨ ∃ m, p229 l way = .exc (.type "ValueError") m ∧ h229 l way = .none := by
  have key : ∀ r : Res, ((∃ d, r = .val d) ∨ r = .exc (.ref 180) [.str l] ∨ r = .exc (.ref 192) [.str l] ∨ ∃ m, r = .exc (.type "ValueError") m) → p229 l way = r → (∃ d, p229 l way = .val d ∧ h229 l way = d) ∨ (p229 l way = .exc (.ref 180) [.str l] ∧ h229 l way = .str l) ∨ (p229 l way = .exc (.ref 192) [.str l] ∧ h229 l way = .lst [.str l]) ∨ ∃ m, p229 l way = .exc (.type "ValueError") m ∧ h229 l way = .none := by
    intro r hr e
    unfold h229
    rw [e]
    rcases hr with ⟨d, rfl⟩ | rfl | rfl | ⟨m, rfl⟩
    · exact .inl ⟨d, rfl, rfl⟩
    · exact .inr (.inl ⟨rfl, rfl⟩)
    · exact .inr (.inr (.inl ⟨rfl, rfl⟩))
    · exact .inr (.inr (.inr ⟨m, rfl, rfl⟩))
  refine key _ ?_ rfl
  unfold p229
  split
  · exact .inr (.inl rfl)
  · split
    · exact .inr (.inr (.inl rfl))
    · unfold p229b; split
      · exact .inr (.inr (.inl rfl))
      · unfold p229c; split
        · exact .inr (.inr (.inl rfl))
        · split
          · exact .inr (.inr (.inl rfl))
          · unfold portOf; split
            · exact .inl ⟨_, rfl⟩
            · exact .inr (.inr (.inr ⟨_, rfl⟩))
noncomputable def sErr (l way : List Nat) (o : Addr) (L : List D) (σ : Sto) : Prop := ∃ sl, (sl = .un ∨ ∃ d, sl = .dat d) ∧ σ = sT l way o L sl
theorem fn_heard (G : Gd P mg mb h0) {a : Addr} (F : FnAt mg h0 "_law_heard" p__law_heard b__law_heard sc__law_heard a) {l way : List Nat} (h5 : 5 ≤ l.length) (hz : l.length ≤ 1000)
    (hq : l.take 3 = [50, 50, 57] → ¬ fnd 40 l 0 < 0 → (mid l (fnd 40 l 0).toNat (fnd 41 l ((fnd 40 l 0).toNat + 1)).toNat).length = 5 → okNum ((mid l (fnd 40 l 0).toNat (fnd 41 l ((fnd 40 l 0).toNat + 1)).toNat).getD 3 [])) :
    CallableC P0 w h0 (k + 5) (.ref a) [.str l, .tup [.str way, dI 21]] (.val (.lst [h257 l, h229 l way])) :=
  F.goC G (kw := []) (k := k + 4) (ps := ["line", "peer"]) (keys := ["line", "peer", "heard", "error"]) (es := [.str l, .tup [.str way, dI 21]]) (by kernel_rfl) (by kernel_rfl) (fun pm code doc => BindsD.plain (fun vs hv => by obtain ⟨v, u, rfl⟩ := len2 hv; kernel_rfl) rfl)
    (σ₀ := [("line", .dat (.str l)), ("peer", .dat (.tup [.str way, dI 21])), ("heard", .un), ("error", .un)]) (by kernel_rfl) fun C Fc => by
    obtain ⟨a7, F7⟩ := G.at in_parse257
    obtain ⟨a9, F9⟩ := G.at in_parse229
    obtain ⟨as, Fs⟩ := G.at in_split
    have hrep : ∀ {p : Pos}, EvN P0 w h0 C (.Name "error_reply" p) (.ref 180) := EvN.glob (Fc.kind (by kernel_rfl)) Fc.wl.globals (G.gl (glRep P))
    have hpro : ∀ {p : Pos}, EvN P0 w h0 C (.Name "error_proto" p) (.ref 192) := EvN.glob (Fc.kind (by kernel_rfl)) Fc.wl.globals (G.gl (glPro P))
    have hval : ∀ {p : Pos}, EvN P0 w h0 C (.Name "ValueError" p) (.type "ValueError") := G.bn Fc.wl (v := .type "ValueError") (by with_reducible repeat (first | exact List.mem_cons_self | apply List.mem_cons_of_mem)) (Fc.kind (by kernel_rfl))
    delta b__law_heard
    with_reducible refine RunC.consU (Run1.newOwn fun o => ⟨_, by ((with_reducible repeat (first | exact Upd.dat | exact Upd.un | exact Upd.own | apply Upd.tail)); done), ?_⟩)
    dsimp only
    with_reducible refine RunC.splitU (sErr l way o [h257 l]) ?_ ?_
    · rcases p257_is l with ⟨s, hs, e1, e2⟩ | ⟨e1, e2⟩
      · with_reducible refine Run1.try ?_
        with_reducible refine Run.cons (Run1.app (h257 l) (by with_reducible repeat (first | exact List.mem_cons_self | apply List.mem_cons_of_mem)) ?_ (by with_reducible repeat (first | exact Upd.dat | exact Upd.un | exact Upd.own | apply Upd.tail)) (by decide) ?_)
        · rw [e2]
          with_reducible refine Ev.fc Fc.wl Fs (Fc.kind (by kernel_rfl)) (EvL.c (Ev.fc Fc.wl F7 (Fc.kind (by kernel_rfl)) (EvL.c (Ev.name (by with_reducible repeat (first | exact List.mem_cons_self | apply List.mem_cons_of_mem))) EvL.nil) ?_) EvL.nil) (fn_split G Fs (sz (by omega)))
          rw [← e1]; exact fn_parse257 G F7 h5 hz
        · exact Run.nil (Run.nil ⟨_, ⟨_, .inl rfl, rfl⟩, rfl⟩)
      · with_reducible refine Run1.tryX (cls := .ref 180) (ds := [.str l]) Fc.frame ?_ ?_
        · with_reducible refine Fails.append (by with_reducible repeat (first | exact List.mem_cons_self | apply List.mem_cons_of_mem)) ?_ (by intro _ _; with_unfolding_all rfl) (by with_unfolding_all rfl)
          with_reducible refine Ev.fcX Fc.wl Fs (Fc.kind (by kernel_rfl)) (Ev.fc Fc.wl F7 (Fc.kind (by kernel_rfl)) (EvL.c (Ev.name (by with_reducible repeat (first | exact List.mem_cons_self | apply List.mem_cons_of_mem))) EvL.nil) ?_)
          rw [← e1]; exact fn_parse257 G F7 h5 hz
        · with_reducible refine Hnd.takeAs hrep (mtc_rr G) (Fc.kind (by kernel_rfl)) (by with_reducible repeat (first | exact Upd.dat | exact Upd.un | exact Upd.own | apply Upd.tail)) ?_
          with_reducible refine Run.cons (Run1.app (h257 l) (by with_reducible repeat (first | exact List.mem_cons_self | apply List.mem_cons_of_mem)) ?_ (by with_reducible repeat (first | exact Upd.dat | exact Upd.un | exact Upd.own | apply Upd.tail)) (by decide) ?_)
          · rw [e2]
            with_reducible exact Ev.bc G Fc.wl (v := .type "str") (by with_reducible repeat (first | exact List.mem_cons_self | apply List.mem_cons_of_mem)) (Fc.kind (by kernel_rfl)) (EvL.c (Ev.name (by with_reducible repeat (first | exact List.mem_cons_self | apply List.mem_cons_of_mem))) EvL.nil) (str_rep G)
          · exact Run.nil ⟨_, .tail (.tail (.tail .dat)), _, ⟨_, .inl rfl, rfl⟩, rfl⟩
    rintro σ ⟨sl, hsl, rfl⟩
    have hu : ∀ {L : List D} {d : D}, Upd (sT l way o L sl) "error" (.dat d) (sT l way o L (.dat d)) := by
      intro L d; rcases hsl with rfl | ⟨d', rfl⟩ <;> ((with_reducible repeat (first | exact Upd.dat | exact Upd.un | exact Upd.own | apply Upd.tail)); done)
    with_reducible refine RunC.split (sErr l way o [h257 l, h229 l way]) ?_ ?_
    · have call9 := fn_parse229 (w := w) (k := k + 2) G F9 hz hq (way := way)
      rcases p229_is l way with ⟨d, e1, e2⟩ | ⟨e1, e2⟩ | ⟨e1, e2⟩ | ⟨m, e1, e2⟩
      · with_reducible refine Run1C.try ?_
        with_reducible refine RunC.cons (Run1C.app (h229 l way) (by with_reducible repeat (first | exact List.mem_cons_self | apply List.mem_cons_of_mem)) ?_ (by with_reducible repeat (first | exact Upd.dat | exact Upd.un | exact Upd.own | apply Upd.tail)) ?_ ?_)
        · rw [e2]
          rw [e1] at call9
          with_reducible exact Ev.fcC Fc.wl F9 (Fc.kind (by kernel_rfl)) (EvL.c (Ev.name (by with_reducible repeat (first | exact List.mem_cons_self | apply List.mem_cons_of_mem))) (EvL.c (Ev.name (by with_reducible repeat (first | exact List.mem_cons_self | apply List.mem_cons_of_mem))) EvL.nil)) call9
        · rw [List.length_singleton]; decide
        · exact RunsC.of (Run.nil (Run.nil ⟨_, ⟨_, hsl, rfl⟩, rfl⟩))
      · rw [e1] at call9
        with_reducible refine Run1C.tryX (cls := .ref 180) (ds := [.str l]) Fc.frame ?_ ?_
        · with_reducible refine FailsC.append (by with_reducible repeat (first | exact List.mem_cons_self | apply List.mem_cons_of_mem)) ?_ (by intro _ _; with_unfolding_all rfl) (by with_unfolding_all rfl)
          with_reducible exact Ev.fcC Fc.wl F9 (Fc.kind (by kernel_rfl)) (EvL.c (Ev.name (by with_reducible repeat (first | exact List.mem_cons_self | apply List.mem_cons_of_mem))) (EvL.c (Ev.name (by with_reducible repeat (first | exact List.mem_cons_self | apply List.mem_cons_of_mem))) EvL.nil)) call9
        · with_reducible refine Hnd.takeAs hrep (mtc_rr G) (Fc.kind (by kernel_rfl)) hu ?_
          with_reducible refine Run.cons (Run1.app (h229 l way) (by with_reducible repeat (first | exact List.mem_cons_self | apply List.mem_cons_of_mem)) ?_ (by with_reducible repeat (first | exact Upd.dat | exact Upd.un | exact Upd.own | apply Upd.tail)) ?_ ?_)
          · rw [e2]
            with_reducible exact Ev.bc G Fc.wl (v := .type "str") (by with_reducible repeat (first | exact List.mem_cons_self | apply List.mem_cons_of_mem)) (Fc.kind (by kernel_rfl)) (EvL.c (Ev.name (by with_reducible repeat (first | exact List.mem_cons_self | apply List.mem_cons_of_mem))) EvL.nil) (str_rep G)
          · rw [List.length_singleton]; decide
          · exact Run.nil ⟨_, .tail (.tail (.tail .dat)), _, ⟨_, .inl rfl, rfl⟩, rfl⟩
      · rw [e1] at call9
        with_reducible refine Run1C.tryX (cls := .ref 192) (ds := [.str l]) Fc.frame ?_ ?_
        · with_reducible refine FailsC.append (by with_reducible repeat (first | exact List.mem_cons_self | apply List.mem_cons_of_mem)) ?_ (by intro _ _; with_unfolding_all rfl) (by with_unfolding_all rfl)
          with_reducible exact Ev.fcC Fc.wl F9 (Fc.kind (by kernel_rfl)) (EvL.c (Ev.name (by with_reducible repeat (first | exact List.mem_cons_self | apply List.mem_cons_of_mem))) (EvL.c (Ev.name (by with_reducible repeat (first | exact List.mem_cons_self | apply List.mem_cons_of_mem))) EvL.nil)) call9
        · with_reducible refine Hnd.skip hrep (mtc_pr G) (Hnd.takeAs hpro (mtc_pp G) (Fc.kind (by kernel_rfl)) hu ?_)
          with_reducible refine Run.cons (Run1.app (h229 l way) (by with_reducible repeat (first | exact List.mem_cons_self | apply List.mem_cons_of_mem)) ?_ (by with_reducible repeat (first | exact Upd.dat | exact Upd.un | exact Upd.own | apply Upd.tail)) ?_ ?_)
          · rw [e2]
            with_reducible exact Ev.ls (EvL.c (Ev.bc G Fc.wl (v := .type "str") (by with_reducible repeat (first | exact List.mem_cons_self | apply List.mem_cons_of_mem)) (Fc.kind (by kernel_rfl)) (EvL.c (Ev.name (by with_reducible repeat (first | exact List.mem_cons_self | apply List.mem_cons_of_mem))) EvL.nil) (str_pro G)) EvL.nil)
          · rw [List.length_singleton]; decide
          · exact Run.nil ⟨_, .tail (.tail (.tail .dat)), _, ⟨_, .inl rfl, rfl⟩, rfl⟩
      · rw [e1] at call9
        with_reducible refine Run1C.tryX (cls := .type "ValueError") (ds := m) Fc.frame ?_ ?_
        · with_reducible refine FailsC.append (by with_reducible repeat (first | exact List.mem_cons_self | apply List.mem_cons_of_mem)) ?_ (by intro _ _; with_unfolding_all rfl) (by with_unfolding_all rfl)
          with_reducible exact Ev.fcC Fc.wl F9 (Fc.kind (by kernel_rfl)) (EvL.c (Ev.name (by with_reducible repeat (first | exact List.mem_cons_self | apply List.mem_cons_of_mem))) (EvL.c (Ev.name (by with_reducible repeat (first | exact List.mem_cons_self | apply List.mem_cons_of_mem))) EvL.nil)) call9
        · with_reducible refine Hnd.skip hrep (mtc_vr G) (Hnd.skip hpro (mtc_vp G) (Hnd.take hval (mtc_vv G) ?_))
          with_reducible refine Run.cons (Run1.app (h229 l way) (by with_reducible repeat (first | exact List.mem_cons_self | apply List.mem_cons_of_mem)) ?_ (by with_reducible repeat (first | exact Upd.dat | exact Upd.un | exact Upd.own | apply Upd.tail)) ?_ ?_)
          · rw [e2]
            with_reducible exact Ev.none
          · rw [List.length_singleton]; decide
          · exact Run.nil ⟨_, ⟨_, hsl, rfl⟩, rfl⟩
    rintro σ ⟨sl, hsl, rfl⟩
    refine RunC.freeze (x := "heard") (a := o) (l := [h257 l, h229 l way]) (by with_reducible repeat (first | exact List.mem_cons_self | apply List.mem_cons_of_mem)) (by with_reducible repeat (first | exact Upd.dat | exact Upd.un | exact Upd.own | apply Upd.tail)) ?_
    with_reducible exact Run.rtn _ (Ev.name (by with_reducible repeat (first | exact List.mem_cons_self | apply List.mem_cons_of_mem))) rfl
end
section
set_option linter.unusedVariables false
set_option maxRecDepth 100000
variable {w : World} {h0 : Heap} {C : Cx} {k : Nat} {σ σ' : Sto} {R : Out → Prop} {P : Params} {mg mb : Str → Option Value}
/-- data of a shape that == follows -/
structure Shp (n : Nat) (d : D) : Prop where
  plain : d.plain = true
  lay : d.py.canLay0 = true
  depth : d.py.depth ≤ n
theorem Shp.fit {n : Nat} {d : D} (h : Shp n d) (hn : n ≤ 64 := by decide) : d.fit = true := by
  unfold D.fit SeqAt.shaped
  rw [h.plain, h.lay, decide_eq_true (Nat.le_trans h.depth hn)]; rfl
theorem Shp.mono {n m : Nat} {d : D} (h : Shp n d) (hn : n ≤ m) : Shp m d := ⟨h.plain, h.lay, Nat.le_trans h.depth hn⟩
theorem shp_int {i : Int} : Shp 0 (.int i) := ⟨rfl, rfl, by simp [D.py, PyData.depth]⟩
theorem shp_none : Shp 0 .none := ⟨rfl, rfl, by simp [D.py, PyData.depth]⟩
theorem shps {n : Nat} : ∀ {l : List D}, (∀ d ∈ l, Shp n d) → D.plainL l = true ∧ PyData.canLayAll0 (D.pyL l) = true ∧ PyData.depthAll (D.pyL l) ≤ n
  | [], _ => ⟨rfl, rfl, by simp [D.pyL, PyData.depthAll]⟩
  | d :: r, h => by
    obtain ⟨a, b, c⟩ := shps fun e he => h e (.tail _ he)
    have hd := h d (.head _)
    refine ⟨?_, ?_, ?_⟩
    · rw [D.plainL, hd.plain, a]; rfl
    · rw [D.pyL, PyData.canLayAll0, hd.lay, b]; rfl
    · rw [D.pyL, PyData.depthAll]; exact Nat.max_le.mpr ⟨hd.depth, c⟩
theorem shp_lst {n : Nat} {l : List D} (h : ∀ d ∈ l, Shp n d) : Shp (n + 1) (.lst l) := by
  obtain ⟨a, b, c⟩ := shps h
  exact ⟨a, by rw [D.py, PyData.canLay0]; exact b, by rw [D.py, PyData.depth]; omega⟩
theorem shp_tup {n : Nat} {l : List D} (h : ∀ d ∈ l, Shp n d) : Shp (n + 1) (.tup l) := by
  obtain ⟨a, b, c⟩ := shps h
  exact ⟨a, by rw [D.py, PyData.canLay0]; exact b, by rw [D.py, PyData.depth]; omega⟩
theorem eqq_int (i j : Int) : (D.int i).eqq (.int j) = (i == j) := rfl
theorem eqv_all {α : Type} [BEq α] {f : α → D} (hf : ∀ a b, (f a).eqq (f b) = (a == b)) : ∀ (l m : List α), PyData.eqvAll (D.pyL (l.map f)) (D.pyL (m.map f)) = (l == m)
  | [], [] => rfl
  | [], _ :: _ => rfl
  | _ :: _, [] => rfl
  | a :: l, b :: m => by
    rw [List.map_cons, List.map_cons, D.pyL, D.pyL, PyData.eqvAll, eqv_all hf l m, List.cons_beq_cons]
    have := hf a b
    unfold D.eqq at this; rw [this]
theorem eqq_lst {α : Type} [BEq α] {f : α → D} (hf : ∀ a b, (f a).eqq (f b) = (a == b)) (l m : List α) : (D.lst (l.map f)).eqq (.lst (m.map f)) = (l == m) := by
  unfold D.eqq; rw [D.py, D.py, PyData.eqv]; exact eqv_all hf l m
theorem eqq_nil (l : List D) : (D.lst l).eqq (.lst []) = l.isEmpty := by
  unfold D.eqq
  cases l with
  | nil => rfl
  | cons d r => rw [D.py, D.py, D.pyL, D.pyL, PyData.eqv, PyData.eqvAll]; rfl
end
section
set_option linter.unusedVariables false
set_option maxRecDepth 100000
variable {w : World} {h0 : Heap} {C : Cx} {k : Nat} {σ σ' : Sto} {R : Out → Prop} {P : Params} {mg mb : Str → Option Value}
noncomputable abbrev Row := List (List Nat)
noncomputable def nameD (n : List Nat) : D := .lst (n.map dI)
noncomputable def rowD (r : Row) : D := .lst (r.map nameD)
noncomputable def rowsD (rs : List Row) : D := .lst (rs.map rowD)
theorem dI_eqq (a b : Nat) : (dI a).eqq (dI b) = (a == b) := by
  rw [eqq_int]
  exact Bool.eq_iff_iff.mpr (by rw [beq_iff_eq, beq_iff_eq]; omega)
theorem nameD_eqq (a b : List Nat) : (nameD a).eqq (nameD b) = (a == b) := eqq_lst dI_eqq a b
theorem rowD_eqq (a b : Row) : (rowD a).eqq (rowD b) = (a == b) := eqq_lst nameD_eqq a b
theorem nameD_shp (n : List Nat) : Shp 1 (nameD n) := shp_lst (n := 0) fun d hd => by obtain ⟨i, _, rfl⟩ := List.mem_map.mp hd; exact shp_int
theorem rowD_shp (n : Row) : Shp 2 (rowD n) := shp_lst (n := 1) fun d hd => by obtain ⟨i, _, rfl⟩ := List.mem_map.mp hd; exact nameD_shp _
theorem rowsD_shp (n : List Row) : Shp 3 (rowsD n) := shp_lst (n := 2) fun d hd => by obtain ⟨i, _, rfl⟩ := List.mem_map.mp hd; exact rowD_shp _
noncomputable def alikeOf (r0 : Row) (rs : List Row) : List Nat := (List.range (r0.length + 1)).filter fun j => rs.all fun r => r.take j == r0.take j
noncomputable def sharedOf (r0 : Row) (rs : List Row) : Row := r0.take ((alikeOf r0 rs).getLastD 0)
theorem Ev.takeRow {e i : Expr} {p p' : Pos} {n : Nat} {r : Row} (h : Ev P0 w h0 C k σ e (rowD r)) (hi : Ev P0 w h0 C k σ i (dI n)) (hz : r.length ≤ sizeLine) : Ev P0 w h0 C k σ (.Subscript e (.Slice .none (.some i) .none p') p) (rowD (r.take n)) := by
  have := Ev.takeL (p := p) (p' := p') h hi (by rw [List.length_map]; exact hz)
  rwa [← List.map_take] at this
theorem Ev.neg {e : Expr} {p : Pos} {i : Int} (h : Ev P0 w h0 C k σ e (.int i)) : Ev P0 w h0 C k σ (.UnaryOp .USub e p) (.int (-i)) := fun A m s O I => by
  show wpAny _ _ (eval e C.env >>= fun v => standAt p >>= fun _ => holding [v] (unaryOp .USub v)) _ _ _
  refine wpAny_bind ((h A m s O I).then fun v m₁ s₁ g₁ ⟨t, r⟩ => ?_)
  subst r
  exact wpAny_bind (wpAny_standAt (wpAny_holding (PyProof.Rows.neg_int ⟨m₁, g₁.toks _, _, rfl⟩)))
theorem iter_rows {x : Str} {np : Pos} {rs : List Row} : Iterable P0 w h0 (.Name x np) (rowsD rs) (rs.map rowD) := iter_lst
noncomputable def gRow (r0 : Row) (j : Nat) : D → Option D
  | .lst l => if (D.lst (l.take j)).eqq (rowD (r0.take j)) then none else some (.lst l)
  | _ => none
theorem gRow_row (r0 r : Row) (j : Nat) : gRow r0 j (rowD r) = if !(r.take j == r0.take j) then some (rowD r) else none := by
  have e : (D.lst ((r.map nameD).take j)).eqq (rowD (r0.take j)) = (r.take j == r0.take j) := by rw [← List.map_take]; exact rowD_eqq _ _
  show (if (D.lst ((r.map nameD).take j)).eqq (rowD (r0.take j)) then none else some (rowD r)) = _
  rw [e]
  cases (r.take j == r0.take j) <;> rfl
theorem fn_shared (G : Gd P mg mb h0) {a : Addr} (F : FnAt mg h0 "_law_shared" p__law_shared b__law_shared sc__law_shared a) {r0 : Row} {rs : List Row} (hr : ∀ r ∈ r0 :: rs, r.length ≤ 1000) (hn : rs.length ≤ 5000) :
    Callable P0 w h0 (k + 5) (.ref a) [rowsD (r0 :: rs)] (.val (rowD (sharedOf r0 (r0 :: rs)))) :=
  F.go G (kw := []) (k := k + 4) (ps := ["rows"]) (keys := ["rows", "alike"]) (es := [rowsD (r0 :: rs)]) (by kernel_rfl) (by kernel_rfl) (fun pm code doc => BindsD.plain (fun vs hv => by obtain ⟨v, rfl⟩ := len1 hv; kernel_rfl) rfl)
    (σ₀ := [("rows", .dat (rowsD (r0 :: rs))), ("alike", .un)]) (by kernel_rfl) fun C Fc => by
    have h0l : r0.length ≤ 1000 := hr r0 (.head _)
    have row0 : Itm P0 w h0 (rowsD (r0 :: rs)) (.int 0) (rowD r0) := itm_lst (by omega) (by omega) rfl
    delta b__law_shared
    have hrd : rangeD 0 (((r0.length + 1 : Nat) : Int) - 0).toNat = (List.range (r0.length + 1)).map dI := by
      unfold rangeD
      rw [show (((r0.length + 1 : Nat) : Int) - 0).toNat = r0.length + 1 by omega]
      exact List.map_congr_left fun i _ => by simp [dI]
    have hout : ((alikeOf r0 (r0 :: rs)).map dI) = (rangeD 0 (((r0.length + 1 : Nat) : Int) - 0).toNat).filterMap fun d => match d with | .int i => if (r0 :: rs).all (fun r => r.take i.toNat == r0.take i.toNat) then some (.int i) else none | _ => none := by
      rw [hrd, List.filterMap_map]
      unfold alikeOf
      generalize List.range (r0.length + 1) = L
      induction L with
      | nil => rfl
      | cons j L ih =>
        rw [List.filter_cons, List.filterMap_cons]
        simp only [Function.comp, Int.toNat_natCast]
        split <;> rename_i hj
        · rw [List.map_cons, ih]
        · rw [ih]
    have hal : (alikeOf r0 (r0 :: rs)).length ≤ 1001 := by
      have := List.length_filter_le (fun j => (r0 :: rs).all fun r => r.take j == r0.take j) (List.range (r0.length + 1))
      rw [List.length_range] at this; unfold alikeOf; omega
    refine Run.cons ?_
    with_reducible refine CompH.assign (out := (alikeOf r0 (r0 :: rs)).map dI) ?_ ?_ (by with_reducible repeat (first | exact Upd.dat | exact Upd.un | exact Upd.own | apply Upd.tail)) ?_ Fc.blk (Fc.kind (by kernel_rfl)) (by with_unfolding_all rfl) (by decide) (by intro _; with_unfolding_all rfl)
    · rw [hout]
      with_reducible refine comp1 [("rows", rowsD (r0 :: rs))] ?_ ?_ ?_ ?_
      · kernel_rfl
      · intro x e hx
        simp only [List.mem_cons, List.not_mem_nil, or_false, Prod.mk.injEq] at hx
        obtain ⟨rfl, rfl⟩ := hx
        exact ⟨.inl (by with_reducible repeat (first | exact List.mem_cons_self | apply List.mem_cons_of_mem)), fun q => by rw [Fc.kind (kd := .cell) (by kernel_rfl)] at q; cases q⟩
      · refine EvI.of ?_ (iter_rng (by decide) (by decide) (by omega) (by omega))
        with_reducible refine Ev.bc G Fc.wl (v := .type "range") (by with_reducible repeat (first | exact List.mem_cons_self | apply List.mem_cons_of_mem)) (Fc.kind (by kernel_rfl)) (EvL.c (d := dI (r0.length + 1)) (Ev.addN (Ev.bc G Fc.wl (v := .builtin "len") (by with_reducible repeat (first | exact List.mem_cons_self | apply List.mem_cons_of_mem)) (Fc.kind (by kernel_rfl)) (EvL.c (Ev.sub (Ev.name (by with_reducible repeat (first | exact List.mem_cons_self | apply List.mem_cons_of_mem))) Ev.int row0) EvL.nil) ?_) (Ev.natE (n := 1) (by with_unfolding_all rfl))) EvL.nil) call_range1
        rw [← List.length_map (f := nameD) (as := r0)]
        exact call_len_lst (by rw [List.length_map]; omega)
      · intro C' hC e he
        rw [hrd] at he
        obtain ⟨j, hj, rfl⟩ := List.mem_map.mp he
        dsimp only
        rw [Int.toNat_natCast]
        have hrows : ((r0 :: rs).map rowD).filterMap (gRow r0 j) = ((r0 :: rs).filter fun r => !(r.take j == r0.take j)).map rowD := by
          generalize r0 :: rs = L
          induction L with
          | nil => rfl
          | cons r L ih =>
            rw [List.map_cons, List.filterMap_cons, List.filter_cons, ih, gRow_row]
            cases (r.take j == r0.take j) <;> rfl
        have hlen : ((r0 :: rs).filter fun r => !(r.take j == r0.take j)).length ≤ 5001 := by
          have := List.length_filter_le (fun r => !(r.take j == r0.take j)) (r0 :: rs)
          simp only [List.length_cons] at this; omega
        refine TurnOk.iff (b := (r0 :: rs).all fun r => r.take j == r0.take j) ?_ fun _ => ?_
        · have hb : ((D.lst (((r0 :: rs).filter fun r => !(r.take j == r0.take j)).map rowD)).eqq (.lst [])) = (r0 :: rs).all fun r => r.take j == r0.take j := by
            rw [eqq_nil]
            generalize r0 :: rs = L
            induction L with
            | nil => rfl
            | cons r L ih =>
              rw [List.filter_cons, List.all_cons]
              cases (r.take j == r0.take j)
              · rfl
              · simpa using ih
          rw [← hb]
          rw [ros_cons, ros_nil]
          with_reducible refine EvB.cmp (CompH.ev (out := ((r0 :: rs).filter fun r => !(r.take j == r0.take j)).map rowD) ?_ ?_ (by intro _; with_unfolding_all rfl)) (Ev.ls EvL.nil) (eq_dd (Shp.fit (n := 3) ?_) (Shp.fit (n := 3) ?_))
          · rw [← hrows]
            with_reducible refine comp1 [("k", dI j), ("rows", rowsD (r0 :: rs))] ?_ ?_ (EvI.of (Ev.nameR (by with_reducible repeat (first | exact List.mem_cons_self | apply List.mem_cons_of_mem))) iter_rows) ?_
            · kernel_rfl
            · intro x e hx
              simp only [List.mem_cons, List.not_mem_nil, or_false, Prod.mk.injEq] at hx
              rcases hx with ⟨rfl, rfl⟩ | ⟨rfl, rfl⟩
              · exact ⟨.inl (by with_reducible repeat (first | exact List.mem_cons_self | apply List.mem_cons_of_mem)), hC.notLocal (.inr (by kernel_rfl))⟩
              · exact ⟨.inr (by with_reducible repeat (first | exact List.mem_cons_self | apply List.mem_cons_of_mem)), hC.notLocal (.inl (by kernel_rfl))⟩
            · intro C2 hC2 d hd
              obtain ⟨r, hr', rfl⟩ := List.mem_map.mp hd
              rw [gRow_row, ros_cons, ros_cons, ros_nil]
              refine TurnOk.iff ?_ fun _ => Ev.name (by with_reducible repeat (first | exact List.mem_cons_self | apply List.mem_cons_of_mem))
              rw [← rowD_eqq]
              with_reducible refine EvB.cmp (Ev.takeRow (Ev.name (by with_reducible repeat (first | exact List.mem_cons_self | apply List.mem_cons_of_mem))) (Ev.nameR (by with_reducible repeat (first | exact List.mem_cons_self | apply List.mem_cons_of_mem))) (sz ?_)) (Ev.takeRow (Ev.sub (Ev.nameR (by with_reducible repeat (first | exact List.mem_cons_self | apply List.mem_cons_of_mem))) Ev.int row0) (Ev.nameR (by with_reducible repeat (first | exact List.mem_cons_self | apply List.mem_cons_of_mem))) (sz (by omega))) (ne_dd (Shp.fit (rowD_shp _)) (Shp.fit (rowD_shp _)))
              exact Nat.le_trans (hr r hr') (by decide)
          · rw [List.length_map]; exact sz (by omega)
          · exact shp_lst (n := 2) fun d hd => by obtain ⟨i, _, rfl⟩ := List.mem_map.mp hd; exact rowD_shp _
          · exact shp_lst (n := 2) fun d hd => nomatch hd
        · with_reducible exact Ev.name (by with_reducible repeat (first | exact List.mem_cons_self | apply List.mem_cons_of_mem))
    · rw [List.length_map]; exact sz (by omega)
    · dsimp only
      have hne : (alikeOf r0 (r0 :: rs)) ≠ [] := by
        intro q
        have : 0 ∈ alikeOf r0 (r0 :: rs) := by unfold alikeOf; rw [List.mem_filter]; exact ⟨by simp, by simp⟩
        rw [q] at this; cases this
      with_reducible refine Run.rtn (rowD (sharedOf r0 (r0 :: rs))) ?_ rfl
      unfold sharedOf
      with_reducible refine Ev.takeRow (Ev.sub (Ev.name (by with_reducible repeat (first | exact List.mem_cons_self | apply List.mem_cons_of_mem))) Ev.int row0) (Ev.sub (Ev.name (by with_reducible repeat (first | exact List.mem_cons_self | apply List.mem_cons_of_mem))) (Ev.neg Ev.int) ?_) (sz (by omega))
      have hp : 0 < (alikeOf r0 (r0 :: rs)).length := List.length_pos_iff.mpr hne
      refine itm_lst_neg (by omega) (by rw [List.length_map]; omega) (by omega) ?_
      rw [List.length_map, show (-1 + ((alikeOf r0 (r0 :: rs)).length : Int)).toNat = (alikeOf r0 (r0 :: rs)).length - 1 by omega, List.getElem?_map, ← List.getLast?_eq_getElem?, List.getLast?_eq_some_getLast hne]
      rw [List.getLastD_eq_getLast?, List.getLast?_eq_some_getLast hne]; rfl
end
section
set_option linter.unusedVariables false
section
variable {prog : Program} {w : World} {A : Around} {E : Value → Shared → Prop} {s : Shared} {a : Addr}
theorem pyHash_false {Q : Int → Shared → Prop} (h : Q 0 { s with toks := s.toks + 1 }) : wpAny (model prog w) A (pyHash (.bool false)) Q E s := by
  unfold pyHash
  show wpAny _ _ (pyHashByItsType (.bool false)) Q E s
  unfold pyHashByItsType
  have hv : [Value.bool false].any Value.onHeap = false := rfl
  have T : s.TypeIs (.bool false) "bool" := rfl
  refine wpAny_bind ?_
  rw [cRoomFor, if_neg (by rw [hv]; exact Bool.false_ne_true)]
  refine wpAny_pure ?_
  refine wpAny_bind (wpAny_specialOf T F.slot_bool_hash.lookup ?_)
  show wpAny _ _ (if (some (Value.builtin "int.__hash__") == some Value.none) = true then _ else _) Q E s
  rw [if_neg (by rw [beq_builtin_none]; exact Bool.false_ne_true)]
  refine wpAny_bind (wpAny_specialOf T F.slot_bool_hash.lookup ?_)
  show wpAny _ _ (callSpecialIfBoundUnlessNone? (.bool false) "__hash__" _ >>= _) Q E s
  refine wpAny_bind (wpAny_callSpecialIfBoundUnlessNone?_slot T F.slot_bool_hash
    (wpAny_call_entry F.slot_bool_hash T entry_int_hash
      (show wpAny _ _ (do ret (← mkInt 0)) _ _ s from wpAny_ret_mkInt ?_) (args_int_hash _)))
  show wpAny _ _ (pure (0 : Int)) Q E _
  exact wpAny_pure h
noncomputable def stb (w : World) (b : Bool) : SetTable := { mask := 7, place := if b then #[0] else #[], dummies := #[], finger := 0, led := !w.params.followText "set-order", moves := 0, plain := true }
noncomputable def ses (b : Bool) : Array (Int × Value) := if b then #[(0, .bool false)] else #[]
structure SetF (w : World) (h : Heap) (a : Addr) (b : Bool) : Prop where
  it : ∃ o ep, h.get? a = some o ∧ o.cls = .type "set" ∧ o.dict = none ∧ o.data = .set (ses b) ep (stb w b)
theorem stb_fits (b : Bool) : (stb w b).fits (ses b).size = true := by cases b <;> rfl
theorem lay_new : layNew (stb w false) #[] 0 (.bool false) = (ses true, stb w true, false, false) := by
  unfold stb
  cases w.params.followText "set-order" <;> rfl
theorem SetF.ty {b : Bool} (S : SetF w s.heap a b) : s.TypeIs (.ref a) "set" := let ⟨o, ep, h, c, _⟩ := S.it; ⟨o, h, c⟩
theorem setadd_wp {b : Bool} {Q : Value → Shared → Prop} (S : SetF w s.heap a b) (h : ∀ h', Heap.SameBut a s.heap h' → SetF w h' a true → Q .none { s with heap := h', toks := s.toks + 1 }) :
    wpAny (model prog w) A (call (.builtin "set.add") [.ref a, .bool false]) Q E s := by
  have T := S.ty
  obtain ⟨o, ep, ho, hc, hdt, hd⟩ := S.it
  refine wpAny_call_entry F.slot_set_add T F.entry_set_add ?_ (F.args_set_add_2 _ _)
  unfold Builtin.«set.add» Builtin.Frozenset.oneOther
  simp only [List.isEmpty_nil, bind_assoc]
  unfold Builtin.Frozenset.addrOf setAdd
  refine wpAny_bind (wpAny_pure ?_)
  try dsimp only
  refine wpAny_bind (wpAny_pure ?_)
  try dsimp only
  refine wpAny_bind ?_
  refine wpAny_holding ?_
  refine wpAny_bind (pyHash_false ?_)
  unfold setAddHashed setAddHashedIn
  refine wpAny_holding (wpAny_bind (wpAny_setState_of (s := { s with toks := s.toks + 1 }) ho hd (stb_fits b) ?_))
  dsimp only
  have hb : byScan (.bool false) (ses b) = true := by cases b <;> kernel_rfl
  rw [hb]
  simp only [↓reduceIte]
  unfold setAddByScan
  refine wpAny_bind ?_
  refine wpAny_bind (wpAny_rule ?_)
  cases b with
  | true =>
    show wpAny _ _ (setScanFrom a (.bool false) 0 true [(0, .bool false)] 0 >>= _) _ _ _
    unfold setScanFrom
    refine wpAny_bind ?_
    rw [if_pos (by rfl)]
    refine wpAny_bind (wpAny_setEpoch_of (s := { s with toks := s.toks + 1 }) ho hd (stb_fits true) ?_)
    have e : eqBool (.bool false) (.bool false) = holding [.bool false, .bool false] (do rule "eq-bool.same-object"; return true) := by rfl
    rw [e]
    refine wpAny_bind (wpAny_holding (wpAny_bind (wpAny_rule (wpAny_pure ?_))))
    refine wpAny_pure ?_
    dsimp only
    refine wpAny_pure (wpAny_pure ?_)
    show wpAny _ _ (ret Value.none) _ _ _
    exact wpAny_pure ⟨_, rfl, h s.heap (Heap.SameBut.refl a s.heap) S⟩
  | false =>
    show wpAny _ _ (setScanFrom a (.bool false) 0 true [] 0 >>= _) _ _ _
    unfold setScanFrom
    refine wpAny_bind (wpAny_pure ?_)
    dsimp only
    rw [show (ses false) = #[] from rfl, lay_new]
    have hp : (stb w true).plain = true := rfl
    dsimp only
    refine wpAny_bind (wpAny_pure ?_)
    rw [hp]
    simp only [↓reduceIte]
    refine wpAny_bind ?_
    rw [hashByValue_scannable 8 rfl]
    refine wpAny_pure ?_
    have e1 : (if plainKind (.bool false) = true then stb w true else { stb w true with plain := false }) = stb w true := rfl
    rw [e1]
    refine wpAny_bind (wpAny_storeSet_of (s := { s with toks := s.toks + 1 }) ho hd ?_ (by decide +kernel))
    have e2 : (!false && (stb w true).tooFull) = false := rfl
    rw [e2]
    simp only [Bool.false_eq_true, ↓reduceIte]
    refine wpAny_pure ?_
    dsimp only
    refine wpAny_pure (wpAny_pure ?_)
    refine ⟨_, rfl, h (s.heap.update a (Obj.putSet (ses true) (stb w true))) (Heap.SameBut.update s.heap a _) ?_⟩
    have hg := Heap.get?_update_self (Obj.putSet (ses true) (stb w true)) ho (by rw [putSet_of _ _ hd]; rfl)
    rw [putSet_of _ _ hd] at hg
    exact ⟨_, ep + 1, hg, hc, hdt, rfl⟩
end
end
section
set_option linter.unusedVariables false
set_option maxRecDepth 100000
theorem slot_seti_next : PySem.Slot "set_iterator" "__next__" "set_iterator.__next__" :=
  .of (owner := "set_iterator") (n := "__next__") (by rw [typeLookup_type, builtinLookup_eq_fast]; kernel_rfl) (by decide +kernel) (by decide +kernel) (by decide +kernel)
    (by first | exact .inl (by decide +kernel) | exact .inr (by decide +kernel)) (by rw [isSubtype_type]; kernel_rfl)
theorem entry_seti_next : entryFor table "set_iterator.__next__" = some Builtin.«set_iterator.__next__» := entryFor_of_tree (by kernel_rfl)
theorem args_seti_next (a : Value) : argsOk "set_iterator.__next__" ⟨[a], []⟩ := by unfold argsOk; kernel_rfl
theorem entry_set_iter : entryFor table "set.__iter__" = some Builtin.«frozenset.__iter__» :=
  entryFor_alias (id' := "frozenset.__iter__") (by kernel_rfl) (by first | rfl | decide +kernel | (unfold String.splitOn; simp +decide [String.splitOnAux])) (by decide +kernel) (by kernel_rfl)
section
variable {prog : Program} {w : World} {A : Around} {E : Value → Shared → Prop} {s : Shared} {a it : Addr}
structure SIt (h : Heap) (it a : Addr) (f i ep : Nat) : Prop where
  it : ∃ o, h.get? it = some o ∧ o.cls = .type "set_iterator" ∧ o.data = .fields #[.int f 0, .int i 0, .ref a, .int 1 0, .int ep 0]
theorem SIt.ty {f i ep : Nat} (S : SIt s.heap it a f i ep) : s.TypeIs (.ref it) "set_iterator" := let ⟨o, h, c, _⟩ := S.it; ⟨o, h, c⟩
structure SetT (w : World) (h : Heap) (a : Addr) (ep : Nat) : Prop where
  it : ∃ o, h.get? a = some o ∧ o.cls = .type "set" ∧ o.dict = none ∧ o.data = .set (ses true) ep (stb w true)
theorem bytext {Q : Bool → Shared → Prop} (h : Q (w.params.followText "set-order") s) : wpAny (model prog w) A setsByText Q E s := by
  unfold setsByText
  exact wpAny_bind (wpAny_askSetting (wpAny_pure h))
theorem pyIter_set {ep : Nat} {Q : Value → Shared → Prop} (S : SetT w s.heap a ep) (h : Q (.ref s.heap.objs.size) { s with heap := s.heap.push { cls := .type "set_iterator", data := .fields #[.int 0 0, .int 0 0, .ref a, .int 1 0, .int ep 0] } }) :
    wpAny (model prog w) A (pyIter (.ref a)) Q E s := by
  obtain ⟨o, ho, hc, hdt, hd⟩ := S.it
  have T : s.TypeIs (.ref a) "set" := ⟨o, ho, hc⟩
  refine wpAny_pyIter_slot T F.slot_set_iter (wpAny_call_entry F.slot_set_iter T entry_set_iter ?_ (F.args_set_iter_1 _))
  unfold Builtin.«frozenset.__iter__» Builtin.Frozenset.slot0 slotArgs
  simp only [List.isEmpty_nil, Bool.not_true, Bool.false_eq_true, ↓reduceIte, bind_assoc, List.length_nil, bne_self_eq_false]
  unfold Builtin.Frozenset.addrOf Builtin.Frozenset.sizeOf
  refine wpAny_bind (wpAny_pure ?_)
  try dsimp only
  refine wpAny_bind (wpAny_pure ?_)
  refine wpAny_bind (wpAny_bind (wpAny_setEntries_of ho hd (stb_fits true) (wpAny_pure ?_)))
  unfold setDrawn
  refine wpAny_bind (wpAny_bind (wpAny_setState_of ho hd (stb_fits true) ?_))
  dsimp only
  refine wpAny_bind (bytext (wpAny_pure ?_))
  have e : (!w.params.followText "set-order" && (!(stb w true).plain && decide ((ses true).size > 1))) = false := by cases w.params.followText "set-order" <;> rfl
  show wpAny _ _ (if (!w.params.followText "set-order" && (!(stb w true).plain && decide ((ses true).size > 1))) = true then _ else _) _ _ _
  rw [e]
  simp only [Bool.false_eq_true, ↓reduceIte]
  refine wpAny_bind (wpAny_pure ?_)
  refine wpAny_bind (wpAny_setEpoch_of ho hd (stb_fits true) ?_)
  exact wpAny_bind (wpAny_newObj_type (wpAny_pure ⟨_, rfl, "set_iterator", _, ⟨_, Heap.get?_push_size _ rfl, rfl⟩, slot_seti_next.lookup, h⟩))
theorem setNext_wp {ep f i : Nat} {Q : Option (Value × Nat) → Shared → Prop} (S : SetT w s.heap a ep) (hi : (f = 0 ∧ i = 0) ∨ (f = (if w.params.followText "set-order" then 0 else 1) ∧ i = 1)) (h : Q (if i = 0 then some (.bool false, if w.params.followText "set-order" then 0 else 1) else none) s) :
    wpAny (model prog w) A (setNext a f i ep) Q E s := by
  obtain ⟨o, ho, hc, hdt, hd⟩ := S.it
  unfold setNext
  refine wpAny_bind (wpAny_setState_of ho hd (stb_fits true) ?_)
  dsimp only
  refine wpAny_bind (bytext ?_)
  cases hb : w.params.followText "set-order" with
  | true =>
    rw [hb] at hi h
    simp only [↓reduceIte] at hi h ⊢
    rw [if_neg (by simp)]
    unfold setWalk
    refine wpAny_bind (wpAny_bind (wpAny_setState_of ho hd (stb_fits true) ?_))
    dsimp only
    refine wpAny_bind (bytext ?_)
    rw [hb]
    simp only [↓reduceIte]
    refine wpAny_bind (wpAny_askSetting (wpAny_pure ?_))
    have e : ∀ n : Nat → Nat, pickOrder n (ses true) = ses true := fun n => by
      unfold pickOrder ses
      show pickOrder.go n 1 0 [(0, Value.bool false)] #[] = _
      unfold pickOrder.go
      rw [List.length_singleton, Nat.mod_one]
      rfl
    rw [e]
    rcases hi with ⟨rfl, rfl⟩ | ⟨rfl, rfl⟩
    · exact wpAny_pure h
    · exact wpAny_pure h
  | false =>
    have hb2 : (stb w true).led = true := by unfold stb; rw [hb]; rfl
    rw [hb] at hi h
    simp only [Bool.false_eq_true, ↓reduceIte] at hi h ⊢
    show wpAny _ _ (if (!(stb w true).plain && decide ((ses true).size > 1)) = true then _ else _) _ _ _
    rw [if_neg (show ¬ ((!(stb w true).plain && decide ((ses true).size > 1)) = true) from Bool.false_ne_true)]
    show wpAny _ _ ((if (!(stb w true).led && !(ses true).isEmpty) = true then _ else pure ()) >>= _) _ _ _
    rw [hb2]
    simp only [Bool.not_true, Bool.false_and, Bool.false_eq_true, ↓reduceIte]
    refine wpAny_bind (wpAny_pure ?_)
    rcases hi with ⟨rfl, rfl⟩ | ⟨rfl, rfl⟩
    · exact wpAny_pure (Eq.mp (congrArg (fun z => Q z s) (by kernel_rfl)) h)
    · exact wpAny_pure (Eq.mp (congrArg (fun z => Q z s) (by kernel_rfl)) h)
theorem pyNext_set_item {ep : Nat} {Q : Option Value → Shared → Prop} (S : SetT w s.heap a ep) (J : SIt s.heap it a 0 0 ep)
    (h : ∀ h', Heap.SameBut it s.heap h' → SIt h' it a (if w.params.followText "set-order" then 0 else 1) 1 ep → Q (some (.bool false)) { s with heap := h' }) :
    wpAny (model prog w) A (pyNext (.ref it)) Q E s := by
  obtain ⟨o, ho, hc, hd⟩ := J.it
  unfold pyNext
  refine wpAny_bind (wpAny_attempt (wpAny_callSpecial?_slot (name := Str.ofString "__next__") J.ty slot_seti_next (wpAny_call_entry slot_seti_next J.ty entry_seti_next ?_ (args_seti_next _))))
  unfold Builtin.«set_iterator.__next__»
  refine wpAny_bind (wpAny_pure ?_)
  refine wpAny_bind (wpAny_fieldsOf ho hd ?_)
  dsimp only
  obtain ⟨os, hos, r⟩ := S.it
  refine wpAny_bind (wpAny_setEntries_of hos r.2.2 (stb_fits true) ?_)
  rw [if_neg (by decide)]
  refine wpAny_bind (setNext_wp S (.inl ⟨rfl, rfl⟩) ?_)
  simp only [Int.toNat_natCast, ↓reduceIte]
  refine wpAny_bind (wpAny_setField ho hd (by simp) ?_)
  have g1 := Heap.get?_update_self (Obj.mapFields (·.setIfInBounds 0 (rawInt ((if w.params.followText "set-order" = true then 0 else 1 : Nat) : Int)))) ho (Obj.isFreed_of_fields (Obj.data_mapFields hd _))
  have d1 := Obj.data_mapFields hd (·.setIfInBounds 0 (rawInt ((if w.params.followText "set-order" = true then 0 else 1 : Nat) : Int)))
  refine wpAny_bind (wpAny_setField g1 d1 (by simp) ?_)
  refine wpAny_pure ⟨_, rfl, wpAny_pure (h _ ?_ ?_)⟩
  · exact ⟨by rw [Heap.size_update, Heap.size_update], fun b hb => by rw [Heap.get?_update_ne _ _ _ _ hb, Heap.get?_update_ne _ _ _ _ hb]⟩
  · refine ⟨_, Heap.get?_update_self _ g1 (Obj.isFreed_of_fields (Obj.data_mapFields d1 _)), ((Obj.cls_mapFields ..).trans (Obj.cls_mapFields ..)).trans hc, ?_⟩
    rw [Obj.data_mapFields d1]; simp [rawInt]
theorem pyNext_set_end {ep f : Nat} {Q : Option Value → Shared → Prop} (hh : A.handled = none) (S : SetT w s.heap a ep) (J : SIt s.heap it a f 1 ep) (hf : f = if w.params.followText "set-order" then 0 else 1)
    (h : ∀ h', Heap.ExtBut it s.heap h' → Q none { s with heap := h' }) :
    wpAny (model prog w) A (pyNext (.ref it)) Q E s := by
  obtain ⟨o, ho, hc, hd⟩ := J.it
  unfold pyNext
  refine wpAny_bind (wpAny_attempt (wpAny_callSpecial?_slot (name := Str.ofString "__next__") J.ty slot_seti_next (wpAny_call_entry slot_seti_next J.ty entry_seti_next ?_ (args_seti_next _))))
  unfold Builtin.«set_iterator.__next__»
  refine wpAny_bind (wpAny_pure ?_)
  refine wpAny_bind (wpAny_fieldsOf ho hd ?_)
  dsimp only
  obtain ⟨os, hos, r⟩ := S.it
  refine wpAny_bind (wpAny_setEntries_of hos r.2.2 (stb_fits true) ?_)
  rw [if_neg (by decide)]
  refine wpAny_bind (setNext_wp S (.inr ⟨hf, rfl⟩) ?_)
  simp only [Int.toNat_natCast, Nat.one_ne_zero, ↓reduceIte]
  refine wpAny_bind (wpAny_setField ho hd (by simp) ?_)
  show wpAny _ _ (newExc (.type "StopIteration") [] >>= _) _ _ _
  refine wpAny_bind ?_
  simp only [newExc, newTuple]
  refine wpAny_bind (wpAny_newObj_type ?_ (by size_fits))
  refine wpAny_bind (m := firstArgMember _ _) (wpAny_of_eq (a := Value.none) (by first | rfl | (simp only [firstArgMember]; rfl)) ?_)
  refine wpAny_newObj_type ?_ (by size_fits)
  simp only [raiseNew]
  refine wpAny_bind (wpAny_handled ?_)
  rw [show A.in1.handled = none from hh]
  refine wpAny_bind (wpAny_pure (wpAny_throw ?_))
  refine wpAny_bind (wpAny_isInstance (T := "StopIteration") (b := true) ⟨_, Heap.get?_push_size _ rfl, rfl⟩ isSubtype_stop ?_)
  exact wpAny_pure (h _ (((Heap.SameBut.update ..).extBut.push _).push _))
end
end
section
set_option linter.unusedVariables false
variable {prog : Program} {w : World} {h0 : Heap} {C : Cx} {k : Nat} {σ σ' : Sto} {R : Out → Prop}
noncomputable def emitSet (elt : Expr) (acc : Value) (env : Env) : Sem Unit := do let v ← eval elt env; standAt elt.pos; let _ ← call (.builtin "set.add") [acc, v]
theorem turn_set {elt t i : Expr} {ifs : List Expr} {scope : Scope} {pos : Pos} {it acc : Value} {env : Env} :
    compTurn (.SetComp elt [⟨t, i, ifs, 0⟩] scope pos) 0 it acc env = turnOf (.SetComp elt [⟨t, i, ifs, 0⟩] scope pos) 0 it acc env ⟨t, i, ifs, 0⟩ (emitSet elt acc env) := rfl
theorem setf_up {h h' : Heap} {a : Addr} {b : Bool} (k : KeptUp h h' a) (x : SetF w h a b) : SetF w h' a b := by
  obtain ⟨o, ep, e, hc, hd, hs⟩ := x.it
  obtain ⟨o', e', u⟩ := k o e
  rcases u with ⟨sl, rfl⟩ | ⟨es, n, es', n', e1, _⟩
  · exact ⟨_, ep, e', hc, hd, hs⟩
  · rw [hs] at e1; cases e1
/-- the set that a comprehension makes -/
structure SAcc (w : World) (C : Cx) (dl : Addr) (b : Bool) (m : Mem) (s : Shared) : Prop where
  ap : Ap C dl
  mem : m dl = none
  it : SetF w s.heap dl b
theorem SAcc.there {dl : Addr} {b : Bool} {m : Mem} {s : Shared} (a : SAcc w C dl b m s) : ∃ o, s.heap.get? dl = some o := let ⟨o, _, e, _⟩ := a.it.it; ⟨o, e⟩
theorem SAcc.kept {dl : Addr} {b : Bool} {m m' : Mem} {s s' : Shared} (a : SAcc w C dl b m s) (new : ∀ o, m' dl = some o → m dl = some o ∨ s.heap.get? dl = none) (k : KeptUp s.heap s'.heap dl) : SAcc w C dl b m' s' :=
  ⟨a.ap, (by
    cases e : m' dl with
    | none => rfl
    | some o =>
      rcases new o e with h | h
      · rw [a.mem] at h; cases h
      · obtain ⟨o', e'⟩ := a.there
        rw [h] at e'; cases e'), setf_up k a.it⟩
theorem SAcc.grow {dl : Addr} {b : Bool} {m m' : Mem} {s s' : Shared} (a : SAcc w C dl b m s) (g : Grow m s m' s') : SAcc w C dl b m' s' := a.kept (g.new dl) (g.kept dl)
theorem SAcc.growW {dl : Addr} {b : Bool} {m m' : Mem} {s s' : Shared} {W : List Addr} (a : SAcc w C dl b m s) (g : GrowW W m s m' s') (h : dl ∉ W) : SAcc w C dl b m' s' :=
  a.kept (fun o e => (g.new dl o e).imp id fun q => q.elim (fun q => absurd q h) id) fun o e => g.kept dl o h e
theorem SAcc.chg {dl : Addr} {b : Bool} {m m' : Mem} {s s' : Shared} {IS : List Addr} (a : SAcc w C dl b m s) (g : GrowI IS m s m' s') (h : dl ∉ IS) : SAcc w C dl b m' s' :=
  a.kept (g.new dl) fun o e => g.kept dl o h e
theorem emitSet_wp {dl : Addr} {elt : Expr} {b : Bool} {A : Around} {m : Mem} {s : Shared} (h : Ev prog w h0 C k σ elt (.bool false)) (ho : owns σ = []) (O : Ok C.frs k A) (I : Inv h0 C m σ s) (a : SAcc w C dl b m s) :
    wpAny (model prog w) A (emitSet elt (.ref dl) C.env) (fun _ s' => ∃ m', GrowW (dl :: C.wr) m s m' s' ∧ Inv h0 C m' σ s' ∧ SAcc w C dl true m' s') (fun _ _ => False) s := by
  unfold emitSet
  refine wpAny_bind ((h A m s O I).then fun v m₁ s₁ g₁ r₁ => ?_)
  obtain rfl : v = .bool false := r₁
  have I₁ := I.grow g₁
  have a₁ := a.grow g₁
  refine wpAny_bind (wpAny_standAt (wpAny_bind (setadd_wp a₁.it fun h' hs hS => wpAny_pure ⟨m₁, ?_, ?_, ?_⟩)))
  · have gi : GrowI [dl] m₁ s₁ m₁ { s₁ with heap := h', toks := s₁.toks + 1 } := growI (.head _) I₁.amb.le (fun I hI => by cases List.mem_singleton.mp hI; exact a₁.mem) hs.extBut
    exact ⟨g₁.sub, gi.le, fun b o e => (g₁.new b o e).imp id .inr, fun b o n e => by
      obtain ⟨sl, e₁, u₁⟩ := g₁.kept b o e
      obtain ⟨sl', e₂, u₂⟩ := gi.kept b _ (fun q => n (by cases List.mem_singleton.mp q; exact .head _)) e₁
      exact ⟨sl', e₂, u₁.trans u₂⟩, fun b o vs n e d => gi.flds b o vs (fun q => n (by cases List.mem_singleton.mp q; exact .head _)) (g₁.flds b o vs e d) d, fun L o e => by
      obtain ⟨sl, e₁, u₁⟩ := g₁.kept L o e
      by_cases qd : L = dl
      · subst qd
        obtain ⟨o', n, e', _, _, d'⟩ := hS.it
        exact ⟨o', e', fun _ vs q => by rw [d'] at q; cases q⟩
      · exact ⟨_, hs.extBut L _ qd e₁, u₁.nf⟩, g₁.gens, g₁.os, Nat.le_succ_of_le g₁.tk⟩
  · have gi : GrowI [dl] m₁ s₁ m₁ { s₁ with heap := h', toks := s₁.toks + 1 } := growI (.head _) I₁.amb.le (fun I hI => by cases List.mem_singleton.mp hI; exact a₁.mem) hs.extBut
    exact I₁.chg gi fun I hI => by cases List.mem_singleton.mp hI; exact ⟨a₁.ap, by rw [ho]; exact List.not_mem_nil⟩
  · exact ⟨a₁.ap, a₁.mem, hS⟩
theorem sem_loop {elt : Expr} {gens : List Comprehension} {scope : Scope} {pos : Pos} {depth : Nat} {it : Value} {g : Comprehension} {dl : Addr} {S : Sto → Prop} {IS : List Addr} {ds : List D} {St : Nat → Mem → Heap → Prop} {A : Around} {RR : Result → Shared → Prop}
    {m₀ m : Mem} {s₀ s : Shared} (ht : compTurn (.SetComp elt gens scope pos) depth it (.ref dl) C.env = turnOf (.SetComp elt gens scope pos) depth it (.ref dl) C.env g (emitSet elt (.ref dl) C.env)) (hS : ∀ σ, S σ → owns σ = [])
    (turn : ∀ d ∈ ds, ∀ σ, S σ → ∃ σ', Tgt prog w h0 C k g.target σ d σ' ∧ S σ' ∧ EvT prog w h0 C k σ' g.ifs true ∧ Ev prog w h0 C k σ' elt (.bool false))
    (O : Ok C.frs k A) (T : Itr prog w A g.target IS it ds St) (hI : ∀ I ∈ IS, s₀.heap.get? I = none ∧ Ap C I) (hσ : S σ)
    (g₀ : GrowW (dl :: C.wr) m₀ s₀ m s) (J : Inv h0 C m σ s) (acc : SAcc w C dl false m s) (hm : ∀ I ∈ IS, m I = none) (st : St 0 m s.heap)
    (fin : ∀ m' σ' s', S σ' → GrowW (dl :: C.wr) m₀ s₀ m' s' → Inv h0 C m' σ' s' → SAcc w C dl (decide (0 < ds.length)) m' s' → RR (.ok .next) s') :
    codeAny (model prog w) A (.compLoop (.SetComp elt gens scope pos) depth it (.ref dl) C.env) RR s := by
  have hnoe : ∀ {α : Type} {t : Sem α} {s : Shared} {Q : α → Shared → Prop} {E : Value → Shared → Prop}, wpAny (model prog w) A t Q (fun _ _ => False) s → wpAny (model prog w) A t Q E s := fun h => wpAny_noE h
  refine codeAny_loop rfl (fun n s' => ∃ i m' σ₁, i ≤ ds.length ∧ n = ds.length - i ∧ S σ₁ ∧ GrowW (dl :: C.wr) m₀ s₀ m' s' ∧ Inv h0 C m' σ₁ s' ∧ SAcc w C dl (decide (0 < i)) m' s' ∧ (∀ a ∈ IS, m' a = none) ∧ St i m' s'.heap) ?_ ds.length
    ⟨0, m, σ, Nat.zero_le _, rfl, hσ, g₀, J, acc, hm, st⟩
  rintro n s₃ ⟨i, m₃, σ₃, hile, rfl, hP, g₃, I₃, a₃, hm₃, st₃⟩
  show wpAny _ A ((compTurn (.SetComp elt gens scope pos) depth it (.ref dl) C.env).onRaise (fun x => do noteFrame x C.env; theTreesLotGoes x)) _ _ s₃
  refine wpAny_noted (hnoe ?_)
  rw [ht]
  unfold turnOf
  have nIS : ∀ a ∈ IS, a ∉ dl :: C.wr := fun a ha q => by
    rcases List.mem_cons.mp q with rfl | q
    · obtain ⟨o, vs, e, dd⟩ := T.flds i m₃ _ st₃ a ha
      obtain ⟨⟨o', ep, e', _, _, ds'⟩⟩ := a₃.it
      rw [e] at e'; cases e'; rw [dd] at ds'; cases ds'
    · exact (hI a ha).2.wr q
  have dlIS : dl ∉ IS := fun q => nIS dl q (.head _)
  have sI : ∀ I ∈ IS, s₀.heap.get? I = none := fun a ha => (hI a ha).1
  refine wpAny_bind (wpAny_standAt (wpAny_bind ?_))
  cases hd : ds[i]? with
  | none =>
    have hi' : i = ds.length := by
      have := List.getElem?_eq_none_iff.mp hd; omega
    subst hi'
    refine wpAny_mono (T.done m₃ s₃ st₃ I₃.amb.le hm₃) (fun r s₄ ⟨e, m₄, g₄⟩ => ?_) fun _ _ f => f
    subst e
    exact wpAny_pure (fin m₄ σ₃ s₄ hP (g₃.thenI g₄ sI) (I₃.chg g₄ fun a ha => ⟨(hI a ha).2, by rw [hS _ hP]; exact List.not_mem_nil⟩) (a₃.chg g₄ dlIS))
  | some d' =>
    have hlt : i < ds.length := (List.getElem?_eq_some_iff.mp hd).1
    have hmem : d' ∈ ds := List.mem_of_getElem? hd
    obtain ⟨σ₄, tg, hS₄, hb, h1⟩ := turn d' hmem σ₃ hP
    refine wpAny_mono (T.item i m₃ s₃ d' hd st₃ I₃.amb.le hm₃) (fun r s₃' ⟨v, e, hgo⟩ => ?_) fun _ _ f => f.elim
    subst e
    refine wpAny_bind (wpAny_mono hgo (fun _ s₄ ⟨m₄, g₄, r₄, st₄⟩ => ?_) fun _ _ f => f.elim)
    have I₄ := I₃.chg g₄ fun a ha => ⟨(hI a ha).2, by rw [hS _ hP]; exact List.not_mem_nil⟩
    have a₄ := a₃.chg g₄ dlIS
    have g34 := g₃.thenI g₄ sI
    refine wpAny_bind (wpAny_mono (tg.it A m₄ s₄ v O I₄ r₄) (fun _ s₅ ⟨m₅, g₅, I₅⟩ => ?_) fun _ _ f => f.elim)
    rw [hS _ hP, List.append_nil] at g₅
    have g35 : GrowW (dl :: C.wr) m₀ s₀ m₅ s₅ := g34.trans g₅ fun a h => .inl (List.mem_cons_of_mem _ h)
    have a₅ := a₄.growW g₅ a₄.ap.wr
    have hfl₄ := T.flds _ _ _ st₄
    have keep : ∀ {W : List Addr} {m m' : Mem} {s s' : Shared} {j : Nat}, GrowW W m s m' s' → (∀ a ∈ IS, a ∉ W) → St j m s.heap → (∀ a ∈ IS, m a = none) → St j m' s'.heap ∧ ∀ a ∈ IS, m' a = none := fun {W mm mx ss sx j} g hw st hm => by
      have hfl := T.flds _ _ _ st
      refine ⟨T.frame _ _ _ _ _ st g.sub fun a ha o e => ?_, fun a ha => ?_⟩
      · obtain ⟨o', vs, e', d'⟩ := hfl a ha
        exact g.flds a o vs (hw a ha) e (by rw [e'] at e; cases e; exact d')
      · cases e : mx a with
        | none => rfl
        | some o =>
          rcases g.new a o e with h | h | h
          · rw [hm a ha] at h; cases h
          · exact absurd h (hw a ha)
          · obtain ⟨o', vs, e', _⟩ := hfl a ha
            rw [h] at e'; cases e'
    obtain ⟨st₅, hm₅⟩ := keep g₅ (fun a ha => (hI a ha).2.wr) st₄ g₄.mI
    refine wpAny_bind (wpAny_mono (hb A m₅ s₅ O I₅) (fun ok s₆ ⟨e, m₆, g₆⟩ => ?_) fun _ _ f => f.elim)
    subst e
    have I₆ := I₅.grow g₆
    have a₆ := a₅.grow g₆
    have g36 : GrowW (dl :: C.wr) m₀ s₀ m₆ s₆ := g35.trans (g₆.toW (dl :: C.wr)) fun a h => .inl h
    obtain ⟨st₆, hm₆⟩ := keep (g₆.toW []) (fun _ _ => List.not_mem_nil) st₅ hm₅
    refine wpAny_bind (wpAny_mono (emitSet_wp h1 (hS _ hS₄) O I₆ a₆) (fun _ s₇ ⟨m₇, g₇, I₇, a₇⟩ => ?_) fun _ _ f => f.elim)
    obtain ⟨st₇, hm₇⟩ := keep g₇ nIS st₆ hm₆
    exact wpAny_pure ⟨rfl, ds.length - (i + 1), by omega, i + 1, m₇, σ₄, hlt, rfl, hS₄, g36.trans g₇ fun _ h => .inl h, I₇, by rw [decide_eq_true (Nat.succ_pos i)]; exact a₇, hm₇, st₇⟩
end
section
set_option linter.unusedVariables false
variable {prog : Program} {w : World} {h0 : Heap} {C : Cx} {k : Nat} {σ σ' : Sto} {R : Out → Prop}
theorem newSet_wp {A : Around} {E : Value → Shared → Prop} {s : Shared} {Q : Value → Shared → Prop} (h : Q (.ref s.heap.objs.size) { s with heap := s.heap.push { cls := .type "set", dict := none, data := .set #[] 0 (stb w false) } }) :
    wpAny (model prog w) A (newSet (.type "set")) Q E s := by
  unfold newSet
  refine wpAny_bind (bytext ?_)
  dsimp only
  simp only [newObj]
  exact wpAny_bind (wpAny_alloc (wpAny_pure h))
theorem codeAny_compStart_set {A : Around} {s : Shared} {RR : Result → Shared → Prop} {elt target iter : Expr} {scope : Scope} {pos : Pos} {it acc : Value} {env : Env}
    (h0 : codeAny (model prog w) A (.compLoop (.SetComp elt [⟨target, iter, [], 0⟩] scope pos) 0 it acc env) RR s)
    (h : wpAny (model prog w) A (pyIter it) (fun it' s' => codeAny (model prog w) A (.compLoop (.SetComp elt [⟨target, iter, [], 0⟩] scope pos) 0 it' acc env) RR s')
      (notedBy (model prog w) A env fun x s' => RR (.error x) s') s) :
    codeAny (model prog w) A (.compStart (.SetComp elt [⟨target, iter, [], 0⟩] scope pos) 0 it acc env) RR s := by
  refine codeAny_of_tree ?_
  show wpAny _ _ ((compStart (.SetComp elt [⟨target, iter, [], 0⟩] scope pos) 0 it acc env).onRaise (fun x => do noteFrame x env; standAt theWindowsPlace)) _ _ s
  refine wpAny_notedAt ?_
  unfold compStart
  show wpAny _ _ (ask >>= _) _ _ s
  refine wpAny_bind (wpAny_askSetting (wpAny_ite ?_))
  split
  · first
      | exact wpAny_bind (wpAny_pure (wpAny_pure (And.intro rfl h0)))
      | exact wpAny_pure (And.intro rfl h0)
  · refine wpAny_bind (wpAny_rule ?_)
    show wpAny _ _ (standAt iter.pos >>= _) _ _ s
    exact wpAny_bind (wpAny_standAt (wpAny_bind (wpAny_mono h (fun it' s' h' => wpAny_pure (And.intro rfl h')) fun _ _ x => x)))
theorem scomp_core {elt t iter : Expr} {scope : Scope} {pos : Pos} {tgts : List Str} {cd : List (Str × D)} {ds : List D} (S : Sto → Prop)
    (hS : ∀ σ, S σ → owns σ = []) (hS0 : S (cst tgts cd)) (ok : compOk scope tgts (cd.map (·.1)) = true)
    (hcap : ∀ x d, (x, d) ∈ cd → ((x, Sl.dat d) ∈ σ ∨ (x, Sl.ro d) ∈ σ) ∧ C.env.kindOf x ≠ some .local)
    (hi : EvI prog w h0 C k σ t iter ds)
    (turn : ∀ C', InCx C C' scope → ∀ d ∈ ds, ∀ σ, S σ → ∃ σ', Tgt prog w h0 C' k t σ d σ' ∧ S σ' ∧ Ev prog w h0 C' k σ' elt (.bool false))
    {A : Around} {m : Mem} {s : Shared} (O : Ok C.frs k A) (I : Inv h0 C m σ s) {E : Value → Shared → Prop} :
    (∀ x ∈ scope.names, x.2 = .local → scope.names.lookup x.1 = some .local) ∧ scope.kind = .function ∧ ∃ cl, closureFor scope C.env = pure cl ∧ ∀ RR : Value → Addr → Result → Shared → Prop,
      (∀ dl L s' m', Grow m s m' s' → SetF w s'.heap dl (decide (0 < ds.length)) → s.heap.get? dl = none → m' dl = none → dl ≠ L → s.heap.get? L = none → m' L = none → (∃ F, s'.heap.Ns L F) → RR (.ref dl) L (.ok .next) s') →
      wpAny (model prog w) A (eval iter C.env) (fun x s₁ => wpAny (model prog w) A (pyIter x) (fun it s₂ => wpAny (model prog w) A (newSet (.type "set")) (fun acc s₃ =>
        wpAny (model prog w) A (newFunctionEnv scope C.env.globals cl [] C.env.qual none .none (some C.env)) (fun cenv s₄ =>
          codeAny (model prog w) A (.compStart (.SetComp elt [⟨t, iter, [], 0⟩] scope pos) 0 it acc { cenv with scope := relabel scope C.env }) (RR acc cenv.locals) s₄) E s₃) E s₂) E s₁) E s := by
  simp only [compOk, Bool.and_eq_true, List.all_eq_true, Bool.not_eq_true', decide_eq_true_eq, Bool.or_eq_true, beq_iff_eq, dbg, Bool.or_eq_false_iff] at ok
  obtain ⟨⟨⟨⟨⟨hk, ndn⟩, ndk⟩, htg⟩, hcp⟩, hfr⟩ := ok
  have loc : ∀ x d, (x, d) ∈ cd → ∃ v c, C.env.cells.lookup x = some c ∧ s.heap.IsCell c (some v) ∧ Rd m d v := fun x d hx => by
    obtain ⟨h1, h2⟩ := hcap x d hx
    obtain ⟨v, l, r⟩ := I.dat x d h1
    rcases l with ⟨e, _⟩ | ⟨_, c, e, ic⟩
    · exact absurd e h2
    · exact ⟨v, c, e, ic, r⟩
  have hfree : ∀ p ∈ scope.names, p.2 = .free → ∃ c, C.env.cells.lookup p.1 = some c := fun p hp e => by
    rcases hfr p hp with h | h
    · rw [e] at h; cases h
    · rw [List.contains_eq_mem, decide_eq_true_eq] at h
      obtain ⟨⟨x, d⟩, hx, e'⟩ := List.mem_map.mp h
      obtain ⟨v, c, hc, _⟩ := loc x d hx
      exact ⟨c, by rw [← e']; exact hc⟩
  refine ⟨fun x hx hl => lookup_nodup ndn (by obtain ⟨a, b⟩ := x; cases hl; exact hx), hk, _, closureFor_eq hfree, fun RR fin => ?_⟩
  generalize hcl : closL C.env.cells scope.names [] = cl
  have clm : ∀ x c, (x, c) ∈ cl → C.env.cells.lookup x = some c := fun x c h => by
    rw [← hcl] at h
    rcases closL_mem h with h | ⟨h, e⟩
    · cases h
    · obtain ⟨c', hc'⟩ := hfree (x, .free) h rfl
      have hc'' : C.env.cells.lookup x = some c' := hc'
      rw [e, hc'']; rfl
  refine wpAny_noE (wpAny_mono (hi A m s O I) (fun x s₁ h => wpAny_noE (wpAny_mono h (fun it s₂ ⟨IS, m₂, St, g₂, hIS, T, st₂⟩ => ?_) fun _ _ f => f)) fun _ _ f => f.elim)
  have I₂ := I.grow g₂
  refine newSet_wp ?_
  let s₃ : Shared := { s₂ with heap := s₂.heap.push { cls := .type "set", dict := none, data := .set #[] 0 (stb w false) } }
  refine wpAny_newEnv_comp (s := s₃) ?_
  have g₃ : Grow m s m₂ s₃ := g₂.push _
  have I₃ : Inv h0 C m₂ σ s₃ := I.grow g₃
  let L := s₃.heap.objs.size
  have hdl : s₂.heap.objs.size < L := by show _ < (s₂.heap.push _).objs.size; rw [Heap.size_push]; exact Nat.lt_succ_self _
  have nL : s₃.heap.get? L = none := get_size_none _
  let own := cellsFrom (L + 1) scope.names []
  have okc := cellsFrom_ok scope.names (s₃.heap.push { cls := .type "dict", data := .dict #[] }) (L + 1) [] ⟨fun _ _ hm => (nomatch hm), List.Pairwise.nil⟩ (by rw [Heap.size_push]; exact Nat.le_refl _)
  rw [Heap.size_push] at okc
  let h₄ : Heap := pushCells (s₃.heap.push { cls := .type "dict", data := .dict #[] }) scope.names
  let s₄ : Shared := { s₃ with heap := h₄ }
  have keep : ∀ b o, s₃.heap.get? b = some o → h₄.get? b = some o := fun b o e => pushCells_keeps _ _ b o (Heap.get?_push_of_some _ e)
  have g₄ : Grow m₂ s₃ m₂ s₄ := ⟨Sub.refl _, fun b o e => keep b o (I₃.amb.le b o e), fun _ _ e => .inl e, Kept.of keep, fun b o vs e _ => keep b o e, rfl, rfl, Nat.le_refl _⟩
  have hns : h₄.Ns L fun _ => none := (Heap.Ns.new s₃.heap (.type "dict")).keeps (pushCells_keeps _ _)
  have owncell : ∀ x c, (x, c) ∈ own → h₄.IsCell c none ∧ L + 1 ≤ c := fun x c hm => okc.empty x c hm
  let C' : Cx := { env := { scope := relabel scope C.env, locals := L, globals := C.env.globals, cells := own ++ cl, qual := C.env.qual, func := none, code := C.env.code, frame := C.env.frame, builtins := C.env.builtins }, frs := C.frs, wr := L :: own.map (·.2), ent := s.heap }
  have hC : InCx C C' scope := ⟨rfl, rfl, rfl, rfl⟩
  have fresh : ∀ a ∈ C'.wr, s₃.heap.get? a = none := fun a ha => by
    rcases List.mem_cons.mp ha with rfl | ha
    · exact nL
    · obtain ⟨p, hp, rfl⟩ := List.mem_map.mp ha
      exact Heap.get?_none_of_le (Nat.le_of_lt (owncell p.1 p.2 hp).2)
  have ownkind : ∀ x c, (x, c) ∈ own → (x, NameKind.cell) ∈ scope.names := fun x c hm => (cellsFrom_kind hm).elim (fun h => nomatch h) id
  have capfree : ∀ x d, (x, d) ∈ cd → scope.names.lookup x = some .free := fun x d hx => (hcp x (List.mem_map.mpr ⟨_, hx, rfl⟩)).2
  have nLown : L ∉ own.map (·.2) := fun q => by
    obtain ⟨p, hp, e⟩ := List.mem_map.mp q
    have := (owncell p.1 p.2 hp).2
    rw [e] at this; exact Nat.lt_irrefl _ this
  have fresh0 : ∀ a ∈ C'.wr, s.heap.get? a = none := fun a ha => none_back g₃.kept (fresh a ha)
  have look : ∀ x c, (own ++ cl).lookup x = some c → (x, c) ∈ own ∨ ((x, c) ∈ cl ∧ C.env.cells.lookup x = some c) := fun x c h => by
    rcases List.mem_append.mp (mem_of_lookup h) with h | h
    · exact .inl h
    · exact .inr ⟨h, clm x c h⟩
  have lookcap : ∀ x d c, (x, d) ∈ cd → C.env.cells.lookup x = some c → (own ++ cl).lookup x = some c := fun x d c hx hc => by
    have hf := mem_lookup (capfree x d hx)
    have hno : own.lookup x = none := by
      cases e : own.lookup x with
      | none => rfl
      | some c' =>
        have := lookup_nodup ndn (ownkind x c' (mem_of_lookup e))
        rw [capfree x d hx] at this; cases this
    rw [lookup_append, hno, Option.none_or, ← hcl]
    exact closL_lookup hc hf
  have ap₃ : ∀ c x, C.env.cells.lookup x = some c → ∃ o, s₃.heap.get? c = some o := fun c x e => by
    obtain ⟨v, o, e', _⟩ := I₃.cells x c e
    exact ⟨o, e'⟩
  have nowr : ∀ x c, (x, c) ∈ own → s₃.heap.get? c = none := fun x c h => fresh c (List.mem_cons_of_mem _ (List.mem_map.mpr ⟨_, h, rfl⟩))
  have J : Inv h0 C' m₂ (cst tgts cd) s₄ :=
    { amb := I₃.amb.grow g₄
      frm := {
        fn := hk
        nodup := (by rw [cst_keys]; exact ndk)
        nodbg := fun x hx => by
          rw [cst_keys] at hx
          rcases List.mem_append.mp hx with h | h
          · exact (htg x h).1.1
          · exact (hcp x h).1.1
        nkey := fun x hx => by
          rw [cst_keys] at hx
          rcases List.mem_append.mp hx with h | h
          · exact ne_of_beq_false (htg x h).1.2.2
          · exact ne_of_beq_false (hcp x h).1.2.2
        est := let ⟨_, ⟨o, _, _, e, _⟩, _⟩ := I.amb.lim; ⟨o, e⟩
        loc := .head _
        nd := List.nodup_cons.mpr ⟨nLown, List.pairwise_map.mpr okc.apart⟩
        capart := fun x y c e e' => by
          rcases look x c e with h | ⟨h, hx⟩ <;> rcases look y c e' with h' | ⟨h', hy⟩
          · exact name_of_addr okc.apart h h'
          · obtain ⟨o, q⟩ := ap₃ c y hy
            rw [nowr x c h] at q; cases q
          · obtain ⟨o, q⟩ := ap₃ c x hx
            rw [nowr y c h'] at q; cases q
          · exact I.frm.capart x y c hx hy
        cloc := fun x e => by
          rcases look x L e with h | ⟨h, hx⟩
          · exact absurd (owncell x L h).2 (Nat.not_succ_le_self _)
          · obtain ⟨o, q⟩ := ap₃ L x hx
            rw [nL] at q; cases q
        frs := fun env he L' hL => by
          obtain ⟨_, o, ho, _⟩ := I.amb.frames.mem (List.mem_filterMap.mpr ⟨env, he, hL⟩)
          exact .inr ⟨o, ho⟩ }
      wrt := fun x sl hm => by
        rcases cst_mem hm with ⟨hx, rfl⟩ | ⟨d, _, rfl⟩
        · right
          rcases (htg x hx).2 with h | h
          · exact .inl (hC.kind h rfl)
          · refine .inr ⟨hC.kind h rfl, ?_⟩
            have := PySem.W.cellsFrom_some scope.names (L + 1) [] (.inl h)
            obtain ⟨c, hc⟩ := Option.isSome_iff_exists.mp this
            exact ⟨c, by show (own ++ cl).lookup x = _; rw [lookup_append, show own.lookup x = _ from hc]; rfl, List.mem_cons_of_mem _ (List.mem_map.mpr ⟨_, mem_of_lookup hc, rfl⟩)⟩
        · exact .inl ⟨d, rfl⟩
      ns := ⟨_, hns⟩
      cells := fun x c e => by
        rcases look x c e with h | ⟨h, hx⟩
        · exact ⟨_, (owncell x c h).1⟩
        · obtain ⟨v, ic⟩ := I₃.cells x c hx
          exact ⟨v, cell_up (g₄.kept _) ic⟩
      dat := fun x d hm => by
        have hm' : (x, d) ∈ cd := by
          rcases hm with h | h
          · rcases cst_mem h with ⟨_, e⟩ | ⟨d', _, e⟩ <;> cases e
          · rcases cst_mem h with ⟨_, e⟩ | ⟨d', h', e⟩
            · cases e
            · cases e; exact h'
        obtain ⟨v, c, hc, ic, r⟩ := loc x d hm'
        have hcd : (x == ("__classdict__" : Str)) = false := (hcp x (List.mem_map.mpr ⟨_, hm', rfl⟩)).1.2.1
        exact ⟨v, .inr ⟨(hC.free (capfree x d hm')).imp id fun e => ⟨e, hcd⟩, c, lookcap x d c hm' hc, cell_up (g₄.kept _) (cell_up (g₃.kept _) ic)⟩, r.mono g₃.sub⟩
      own := fun x a l hm => by rcases cst_mem hm with ⟨_, e⟩ | ⟨d, _, e⟩ <;> cases e
      wr := fun a ha => by
        rw [cst_owns, List.append_nil] at ha
        exact ⟨fresh_none I₃.amb.le (fresh a ha), fresh0 a ha⟩
      std := fun a ha => by
        rw [cst_owns, List.append_nil] at ha
        rcases List.mem_cons.mp ha with rfl | ha
        · obtain ⟨o, _, _, e, _⟩ := hns; exact ⟨o, e⟩
        · obtain ⟨p, hp, rfl⟩ := List.mem_map.mp ha
          obtain ⟨o, e, _⟩ := (owncell p.1 p.2 hp).1
          exact ⟨o, e⟩
      ent := fun a o e => (let ⟨_, e', _⟩ := g₃.kept a o e; let ⟨_, e'', _⟩ := g₄.kept a _ e'; ⟨_, e''⟩)
      apart := by
        rw [cst_owns, List.append_nil]
        exact List.nodup_cons.mpr ⟨nLown, List.pairwise_map.mpr okc.apart⟩ }
  have sdl : s₂.heap.get? s₂.heap.objs.size = none := get_size_none _
  have e₃dl : s₃.heap.get? s₂.heap.objs.size = some { cls := .type "set", dict := none, data := .set #[] 0 (stb w false) } := Heap.get?_push_size _ rfl
  have sdl0 : s.heap.get? s₂.heap.objs.size = none := none_back g₂.kept sdl
  have acc : SAcc w C' s₂.heap.objs.size false m₂ s₄ := {
    ap := {
      loc := Nat.ne_of_gt hdl
      cells := fun x c e => by
        rcases look x c e with h | ⟨h, hx⟩
        · exact Nat.ne_of_gt (Nat.lt_trans hdl (owncell x c h).2)
        · obtain ⟨v, o, e', _⟩ := I₂.cells x c hx
          exact Nat.ne_of_lt (Heap.lt_size e')
      frs := fun env he L' hL => by
        obtain ⟨_, o, ho, _⟩ := I₂.amb.frames.mem (List.mem_filterMap.mpr ⟨env, he, hL⟩)
        exact Nat.ne_of_lt (Heap.lt_size ho)
      ent := sdl0
      wr := fun q => by rw [fresh _ q] at e₃dl; cases e₃dl }
    mem := fresh_none I₂.amb.le sdl
    it := ⟨_, 0, keep _ _ e₃dl, rfl, rfl, rfl⟩ }
  have apI : ∀ a ∈ IS, Ap C' a := fun a ha => {
      loc := fun q => by
        have := T.flds 0 m₂ _ st₂ a ha
        obtain ⟨o, vs, e, _⟩ := this
        have := Heap.lt_size e
        have q' : L = a := q
        rw [← q'] at this
        exact absurd (Nat.lt_trans this hdl) (Nat.lt_irrefl _)
      cells := fun x c e q => by
        obtain ⟨o, vs, e', _⟩ := T.flds 0 m₂ _ st₂ a ha
        rcases look x c e with h | ⟨h, hx⟩
        · have h1 := Heap.lt_size e'
          have h2 := (owncell x c h).2
          rw [q] at h2
          exact absurd (Nat.lt_trans (Nat.lt_trans h1 hdl) h2) (Nat.lt_irrefl _)
        · obtain ⟨v, ic⟩ := I.cells x c hx
          obtain ⟨o', e'', _⟩ := ic
          rw [q, (hIS a ha).2] at e''; cases e''
      frs := fun env he L' hL q => by
        obtain ⟨_, o, ho, _⟩ := I.amb.frames.mem (List.mem_filterMap.mpr ⟨env, he, hL⟩)
        rw [q, (hIS a ha).2] at ho; cases ho
      ent := (hIS a ha).2
      wr := fun q => by
        obtain ⟨o, vs, e', _⟩ := T.flds 0 m₂ _ st₂ a ha
        have := fresh a q
        rw [Heap.get?_push_of_some _ e'] at this; cases this }
  have stn : St 0 m₂ h₄ := T.frame 0 m₂ _ m₂ h₄ st₂ (Sub.refl _) fun a ha o e => keep a o (Heap.get?_push_of_some _ e)
  have g04 : Grow m s m₂ s₄ := g₃.trans g₄
  have loop : codeAny (model prog w) A (.compLoop (.SetComp elt [⟨t, iter, [], 0⟩] scope pos) 0 it (.ref s₂.heap.objs.size) C'.env) (RR (.ref s₂.heap.objs.size) L) s₄ := by
    refine sem_loop (C := C') (k := k) turn_set hS (fun d hd σ hσ => let ⟨σ', a, b, c⟩ := turn C' hC d hd σ hσ; ⟨σ', a, b, EvT.nil, c⟩) O T (fun b hb => ⟨(hIS b hb).2, apI b hb⟩) hS0 (g04.toW _) J acc (fun b hb => (hIS b hb).1) stn fun m' σ' s' hS' g' J' a' => ?_
    have gf : Grow m s m' s' := (Grow.refl I.amb.le).fresh g' fun b hb => by
      rcases List.mem_cons.mp hb with rfl | hb
      · exact sdl0
      · exact fresh0 b hb
    have nLdl : L ≠ s₂.heap.objs.size := Nat.ne_of_gt hdl
    exact fin s₂.heap.objs.size L s' m' gf a'.it sdl0 a'.mem nLdl.symm (fresh0 L (.head _)) (J'.wr L (List.mem_append_left _ (.head _))).1 J'.ns
  have hcells : cellsFrom (s₃.heap.objs.size + 1) scope.names cl = own ++ cl := cellsFrom_app _ _ _
  rw [hcells]
  exact codeAny_compStart_set loop (T.self 0 m₂ s₄ _ _ stn J.amb.le loop)
end
section
set_option linter.unusedVariables false
section
variable {prog : Program} {w : World} {A : Around} {E : Value → Shared → Prop} {s : Shared} {a : Addr}
theorem unpack_set {ep : Nat} {Q : List Value → Shared → Prop} (hh : A.handled = none) (S : SetT w s.heap a ep) (hQ : ∀ h', Heap.ExtBut s.heap.objs.size s.heap h' → Q [.bool false] { s with heap := h' }) :
    wpAny (model prog w) A (unpackItems (.ref a) 1 none) Q E s := by
  obtain ⟨o, ho, hc, hdt, hd⟩ := S.it
  have T : s.TypeIs (.ref a) "set" := ⟨o, ho, hc⟩
  have hlt : a ≠ s.heap.objs.size := Nat.ne_of_lt (Heap.lt_size ho)
  unfold unpackItems
  refine wpAny_bind ?_
  unfold notIterableAtAll
  refine wpAny_bind (wpAny_specialOf T F.slot_set_iter.lookup ?_)
  refine wpAny_pure ?_
  simp only [Bool.false_eq_true, if_false]
  refine wpAny_bind (wpAny_holding (pyIter_set S ?_))
  have S1 : SetT w (s.heap.push { cls := .type "set_iterator", data := .fields #[.int 0 0, .int 0 0, .ref a, .int 1 0, .int ep 0] }) a ep := ⟨⟨o, Heap.get?_push_of_some _ ho, hc, hdt, hd⟩⟩
  refine wpAny_bind (wpAny_holding ?_)
  unfold draw
  refine wpAny_bind (pyNext_set_item (s := { s with heap := s.heap.push { cls := .type "set_iterator", data := .fields #[.int 0 0, .int 0 0, .ref a, .int 1 0, .int ep 0] } }) S1 ⟨_, Heap.get?_push_size _ rfl, rfl, rfl⟩ fun h₁ hs₁ J₁ => ?_)
  dsimp only
  refine wpAny_bind (wpAny_holding (wpAny_pure (wpAny_pure ?_)))
  rw [if_neg (by decide)]
  have S2 : SetT w h₁ a ep := ⟨⟨o, (hs₁.2 a hlt).trans (Heap.get?_push_of_some _ ho), hc, hdt, hd⟩⟩
  refine wpAny_bind (wpAny_holding (pyNext_set_end (s := { s with heap := h₁ }) hh S2 J₁ rfl fun h₂ he₂ => ?_))
  simp only [Option.isSome_none, Bool.false_eq_true, if_false]
  exact wpAny_pure (hQ h₂ fun b o hb e => he₂ b o hb (hs₁.extBut b o hb (Heap.get?_push_of_some _ e)))
end
variable {prog : Program} {w : World} {h0 : Heap} {C : Cx} {k : Nat} {σ σ' : Sto} {R : Out → Prop}
theorem Run1.assignSet {elt iter : Expr} {x y : Str} {np py tp p : Pos} {n : Nat} {scope : Scope} {pos : Pos} (cd : List (Str × D)) {ds : List D}
    (ok : compOk scope [x] (cd.map (·.1)) = true) (hcap : ∀ x d, (x, d) ∈ cd → ((x, Sl.dat d) ∈ σ ∨ (x, Sl.ro d) ∈ σ) ∧ C.env.kindOf x ≠ some .local) (hi : EvI prog w h0 C k σ (.Name x np) iter ds)
    (body : ∀ C', InCx C C' scope → ∀ d ∈ ds, Ev prog w h0 C' k ((x, .dat d) :: ros cd) elt (.bool false)) (hne : 0 < ds.length) (u : Upd σ y (.dat (.bool false)) σ') (r : R (.next σ'))
    (hs : swapsWithSole [.Tuple [.Name y py] n tp] (.SetComp elt [⟨.Name x np, iter, [], 0⟩] scope pos) p.line C.env = pure false := by with_unfolding_all rfl)
    (hw : swappedStores [.Tuple [.Name y py] n tp] (.SetComp elt [⟨.Name x np, iter, [], 0⟩] scope pos) C.env = pure none := by with_unfolding_all rfl)
    (hf : ∀ v, foldedSetIterable iter C.env v = pure v := by intro _; with_unfolding_all rfl) (hk : 0 < k := by omega) :
    Run1 prog w h0 C k σ (.Assign [.Tuple [.Name y py] n tp] (.SetComp elt [⟨.Name x np, iter, [], 0⟩] scope pos) p) R := fun A m s O I => by
  have hO : ∀ σ, (∃ sl, σ = (x, sl) :: ros cd ∧ (sl = .un ∨ ∃ d, sl = .dat d)) → owns σ = [] := by
    rintro σ ⟨sl, rfl, h⟩
    rcases h with rfl | ⟨d, rfl⟩ <;> exact ros_owns cd
  obtain ⟨hn, hk', cl, hcl, key⟩ := scomp_core (elt := elt) (pos := pos) (fun σ => ∃ sl, σ = (x, sl) :: ros cd ∧ (sl = .un ∨ ∃ d, sl = .dat d)) hO ⟨.un, rfl, .inl rfl⟩ ok hcap hi (fun C' hC d hd σ ⟨sl, e, h⟩ => by
    subst e
    have u : Upd ((x, sl) :: ros cd) x (.dat d) ((x, .dat d) :: ros cd) := by
      rcases h with rfl | ⟨d', rfl⟩
      · exact .un
      · exact .dat
    exact ⟨_, Tgt.name u, ⟨_, rfl, .inr ⟨d, rfl⟩⟩, body C' hC d hd⟩) O I (E := AfterX h0 C m σ s R)
  refine Assign_Tuple ?_ hs hw
  show wpAny _ A (comprehension (.SetComp elt [⟨.Name x np, iter, [], 0⟩] scope pos) scope C.env _ (newSet (.type "set")) false (eval iter C.env)) _ _ s
  refine wpAny_comprehension_free (use := none) rfl hf hcl hk' hn (key (fun acc L => compPost (model prog w) A (AfterX h0 C m σ s R) none _ acc L) fun dl L s' m' g S ndl mdl hdL z mz ns => ?_)
  obtain ⟨F, hF⟩ := ns
  refine ⟨F, hF, fun h' hs' => ?_⟩
  rw [decide_eq_true hne] at S
  obtain ⟨o, ep, ho, hc, hdt, hd⟩ := S.it
  have S' : SetT w h' dl ep := ⟨⟨o, (hs'.2 dl hdL).trans ho, hc, hdt, hd⟩⟩
  have g' : Grow m s m' { s' with heap := h' } := g.changeE hs'.extBut z mz
  show wpAny _ A (standAt tp >>= fun _ => unpack (.ref dl) (assignEach [.Name y py] C.env)) _ _ _
  refine wpAny_bind (wpAny_standAt ?_)
  unfold unpack
  refine wpAny_bind (wpAny_holding (unpack_set (s := { s' with heap := h' }) (O.hd hk) S' fun h₂ hx => ?_))
  have g₂ : Grow m' { s' with heap := h' } m' { s' with heap := h₂ } := extBut_grow g'.le hx
  have g₃ := g'.trans g₂
  show wpAny _ A (do holding [] (PySem.assign (.Name y py) C.env (.bool false)); pure ()) _ _ _
  refine wpAny_bind (wpAny_holding (wpAny_assign_Name (store (I.grow g₃) u rfl fun s₁ g₁ I₁ => wpAny_pure ?_)))
  exact ⟨σ', r, ⟨m', (g₃.toW _).trans g₁ fun _ h => .inl h, I₁⟩, fun b hb => .inl (u.owns_dat b hb)⟩
end
section
set_option linter.unusedVariables false
theorem nlt_tri {x y : List Nat} (h : ¬ x < y) (h' : ¬ y < x) : x = y := List.le_antisymm (List.not_lt.mp h') (List.not_lt.mp h)
theorem ltL_iff : ∀ (x y : T2), ltL x y = true ↔ x < y
  | [], [] => by simp [ltL]
  | [], b :: t => by simp [ltL]
  | a :: r, [] => by simp [ltL]
  | a :: r, b :: t => by
    rw [ltL, List.cons_lt_cons_iff]
    by_cases h : a = b
    · rw [if_pos h, ltL_iff r t]
      constructor
      · exact fun q => .inr ⟨h, q⟩
      · rintro (q | ⟨_, q⟩)
        · rw [h] at q; exact absurd q (List.lt_irrefl _)
        · exact q
    · rw [if_neg h, decide_eq_true_eq]
      exact ⟨.inl, fun q => q.elim id fun q => absurd q.1 h⟩
theorem gtL_iff : ∀ (x y : T2), gtL x y = true ↔ y < x
  | [], [] => by simp [gtL]
  | [], b :: t => by simp [gtL]
  | a :: r, [] => by simp [gtL]
  | a :: r, b :: t => by
    rw [gtL, List.cons_lt_cons_iff]
    by_cases h : a = b
    · rw [if_pos h, gtL_iff r t]
      constructor
      · exact fun q => .inr ⟨h.symm, q⟩
      · rintro (q | ⟨_, q⟩)
        · rw [h] at q; exact absurd q (List.lt_irrefl _)
        · exact q
    · rw [if_neg h, decide_eq_true_eq]
      exact ⟨.inl, fun q => q.elim id fun q => absurd q.1.symm h⟩
theorem bestL_le {bt : T2 → T2 → Bool} (irr : ∀ x, bt x x = false) (asy : ∀ x y, bt x y = true → bt y x = false) (tr : ∀ x y z, bt y x = false → bt z y = false → bt z x = false) :
    ∀ (l : List T2) (b : T2), bt b (bestL bt b l) = false ∧ ∀ x ∈ l, bt x (bestL bt b l) = false
  | [], b => ⟨irr b, fun _ h => nomatch h⟩
  | d :: r, b => by
    rw [bestL]
    by_cases h : bt d b = true
    · rw [if_pos h]
      obtain ⟨h1, h2⟩ := bestL_le irr asy tr r d
      refine ⟨tr _ _ _ h1 (asy d b h), fun x hx => ?_⟩
      rcases List.mem_cons.mp hx with rfl | hx
      · exact h1
      · exact h2 x hx
    · rw [if_neg h]
      obtain ⟨h1, h2⟩ := bestL_le irr asy tr r b
      refine ⟨h1, fun x hx => ?_⟩
      rcases List.mem_cons.mp hx with rfl | hx
      · exact tr _ _ _ h1 (by simpa using h)
      · exact h2 x hx
theorem min_le (d : T2) (l : List T2) : ∀ x ∈ d :: l, ¬ x < bestL ltL d l := by
  have key := bestL_le (bt := ltL) (fun x => by rw [Bool.eq_false_iff, ne_eq, ltL_iff]; exact List.lt_irrefl x) (fun x y h => by rw [Bool.eq_false_iff, ne_eq, ltL_iff]; exact List.lt_asymm ((ltL_iff x y).mp h))
    (fun x y z h1 h2 => by
      rw [Bool.eq_false_iff, ne_eq, ltL_iff] at h1 h2 ⊢
      exact List.not_lt.mpr (List.le_trans (List.not_lt.mp h1) (List.not_lt.mp h2))) l d
  intro x hx
  rw [← ltL_iff, ← ne_eq, ← Bool.eq_false_iff]
  rcases List.mem_cons.mp hx with rfl | hx
  · exact key.1
  · exact key.2 x hx
theorem le_max (d : T2) (l : List T2) : ∀ x ∈ d :: l, ¬ bestL gtL d l < x := by
  have key := bestL_le (bt := gtL) (fun x => by rw [Bool.eq_false_iff, ne_eq, gtL_iff]; exact List.lt_irrefl x) (fun x y h => by rw [Bool.eq_false_iff, ne_eq, gtL_iff]; exact List.lt_asymm ((gtL_iff x y).mp h))
    (fun x y z h1 h2 => by
      rw [Bool.eq_false_iff, ne_eq, gtL_iff] at h1 h2 ⊢
      exact List.not_lt.mpr (List.le_trans (List.not_lt.mp h2) (List.not_lt.mp h1))) l d
  intro x hx
  rw [← gtL_iff, ← ne_eq, ← Bool.eq_false_iff]
  rcases List.mem_cons.mp hx with rfl | hx
  · exact key.1
  · exact key.2 x hx
theorem bestL_mem (bt : T2 → T2 → Bool) : ∀ (l : List T2) (d : T2), bestL bt d l ∈ d :: l
  | [], d => List.mem_singleton.mpr rfl
  | e :: l, d => by
    rw [bestL]
    have := bestL_mem bt l (if bt e d then e else d)
    rcases List.mem_cons.mp this with h | h
    · rw [h]
      split
      · exact .tail _ (.head _)
      · exact .head _
    · exact .tail _ (.tail _ h)
noncomputable def cpre : List (List Nat) → List (List Nat) → List (List Nat)
  | a :: r, b :: t => if a = b then a :: cpre r t else []
  | _, _ => []
theorem cpre_nil_right (s : T2) : cpre s [] = [] := by cases s <;> rfl
theorem cpre_nil_left (s : T2) : cpre [] s = [] := by cases s <;> rfl
theorem cpre_all : ∀ {s t : List (List Nat)}, (∀ i, i < s.length → s[i]? = t[i]?) → cpre s t = s
  | [], t, _ => cpre_nil_left t
  | a :: r, [], h => by have := h 0 (by simp); simp at this
  | a :: r, b :: t, h => by
    have h0 := h 0 (by simp)
    simp only [List.getElem?_cons_zero, Option.some.injEq] at h0
    rw [cpre, if_pos h0, cpre_all fun i hi => by simpa using h (i + 1) (by simpa using hi)]
theorem cpre_at : ∀ {s t : List (List Nat)} {i : Nat}, (∀ j, j < i → s[j]? = t[j]?) → i < s.length → s[i]? ≠ t[i]? → cpre s t = s.take i
  | [], _, _, _, h, _ => by simp at h
  | a :: r, [], 0, _, _, _ => by simp [cpre]
  | a :: r, [], i + 1, h, _, _ => by have := h 0 (Nat.succ_pos _); simp at this
  | a :: r, b :: t, 0, _, _, hn => by
    simp only [List.getElem?_cons_zero, ne_eq, Option.some.injEq] at hn
    rw [cpre, if_neg hn]; rfl
  | a :: r, b :: t, i + 1, h, hi, hn => by
    have h0 := h 0 (Nat.succ_pos _)
    simp only [List.getElem?_cons_zero, Option.some.injEq] at h0
    rw [cpre, if_pos h0, cpre_at (fun j hj => by simpa using h (j + 1) (Nat.succ_lt_succ hj)) (by simpa using hi) (by simpa using hn), List.take_succ_cons]
/-- what lies between begins as both -/
theorem between : ∀ {m M x : T2}, ¬ x < m → ¬ M < x → cpre m M <+: x
  | [], M, x, _, _ => by rw [cpre_nil_left]; exact List.nil_prefix
  | a :: r, [], x, _, _ => by rw [cpre]; exact List.nil_prefix; exact fun _ _ _ _ _ h => nomatch h
  | a :: r, b :: t, x, h1, h2 => by
    rw [cpre]
    split
    · rename_i e
      subst e
      match x, h1, h2 with
      | [], h1, _ => exact absurd (by simp) h1
      | c :: u, h1, h2 =>
        rw [List.cons_lt_cons_iff, not_or] at h1 h2
        have e : c = a := nlt_tri h1.1 h2.1
        subst e
        have i1 : ¬ u < r := fun q => h1.2 ⟨rfl, q⟩
        have i2 : ¬ t < u := fun q => h2.2 ⟨rfl, q⟩
        exact List.cons_prefix_cons.mpr ⟨rfl, between i1 i2⟩
    · exact List.nil_prefix
/-- the least one does not go on behind the greatest -/
theorem runs_on : ∀ {m M : T2} {i : Nat}, ¬ M < m → (∀ j, j < i → m[j]? = M[j]?) → i < m.length → i < M.length
  | [], _, _, _, _, h => by simp at h
  | a :: r, [], i, h, _, _ => absurd (by simp) h
  | a :: r, b :: t, 0, _, _, _ => by simp
  | a :: r, b :: t, i + 1, h, hj, hi => by
    have h0 := hj 0 (Nat.succ_pos _)
    simp only [List.getElem?_cons_zero, Option.some.injEq] at h0
    subst h0
    have := runs_on (m := r) (M := t) (i := i) (fun q => h (List.cons_lt_cons_iff.mpr (.inr ⟨rfl, q⟩))) (fun j hj' => by simpa using hj (j + 1) (Nat.succ_lt_succ hj')) (by simpa using hi)
    simpa using this
theorem cpre_prefix_left : ∀ (m M : T2), cpre m M <+: m
  | [], M => by rw [cpre_nil_left]; exact List.nil_prefix
  | a :: r, [] => by rw [cpre_nil_right]; exact List.nil_prefix
  | a :: r, b :: t => by
    rw [cpre]; split
    · exact List.cons_prefix_cons.mpr ⟨rfl, cpre_prefix_left r t⟩
    · exact List.nil_prefix
theorem prefix_cpre : ∀ {q m M : T2}, q <+: m → q <+: M → q <+: cpre m M
  | [], _, _, _, _ => List.nil_prefix
  | c :: q, [], _, h, _ => by simp at h
  | c :: q, a :: r, [], _, h => by simp at h
  | c :: q, a :: r, b :: t, h1, h2 => by
    obtain ⟨e1, h1⟩ := List.cons_prefix_cons.mp h1
    obtain ⟨e2, h2⟩ := List.cons_prefix_cons.mp h2
    rw [cpre, if_pos (e1 ▸ e2)]
    exact List.cons_prefix_cons.mpr ⟨e1, prefix_cpre h1 h2⟩
/-- what min and max have in common is what all have in common -/
theorem common_of (d : T2) (l : List T2) : (∀ x ∈ d :: l, cpre (bestL ltL d l) (bestL gtL d l) <+: x) ∧ ∀ q : T2, (∀ x ∈ d :: l, q <+: x) → q <+: cpre (bestL ltL d l) (bestL gtL d l) :=
  ⟨fun x hx => between (min_le d l x hx) (le_max d l x hx), fun q h => prefix_cpre (h _ (bestL_mem ltL l d)) (h _ (bestL_mem gtL l d))⟩
theorem min_max (d : T2) (l : List T2) : ¬ bestL gtL d l < bestL ltL d l := min_le d l _ (bestL_mem gtL l d)
end
section
set_option linter.unusedVariables false
set_option maxRecDepth 100000
variable {w : World} {h0 : Heap} {C : Cx} {k : Nat} {σ σ' : Sto} {R : Out → Prop} {P : Params} {mg mb : Str → Option Value}
noncomputable def emptyMsg : List Nat := ("commonpath() arg is an empty sequence" : Str).cps.toList
noncomputable def namesOf (f : List Nat) : List (List Nat) := (spl 47 f).filter fun c => !c.isEmpty && (c != [46])
theorem spl_len (c : Nat) (z : List Nat) : (spl c z).length ≤ z.length + 1 := by
  induction z with
  | nil => simp [spl]
  | cons d r ih =>
    unfold spl
    split
    · simp only [List.length_cons]; omega
    · split
      · rename_i e; rw [e] at ih; simp only [List.length_cons] at ih ⊢; omega
      · simp
theorem spl_sum (c : Nat) (z : List Nat) : ((spl c z).map List.length).sum ≤ z.length := by
  induction z with
  | nil => simp [spl]
  | cons d r ih =>
    unfold spl
    split
    · simp only [List.map_cons, List.sum_cons, List.length_cons, List.length_nil]; omega
    · split
      · rename_i e; rw [e] at ih; simp only [List.map_cons, List.sum_cons, List.length_cons] at ih ⊢; omega
      · simp
theorem mem_le_sum {a : Nat} : ∀ {l : List Nat}, a ∈ l → a ≤ l.sum
  | b :: r, h => by
    rw [List.sum_cons]
    rcases List.mem_cons.mp h with rfl | h
    · omega
    · have := mem_le_sum h; omega
theorem filter_sum (p : List Nat → Bool) : ∀ l : List (List Nat), ((l.filter p).map List.length).sum ≤ (l.map List.length).sum
  | [] => Nat.le_refl _
  | a :: r => by
    have := filter_sum p r
    rw [List.filter_cons]
    split <;> simp only [List.map_cons, List.sum_cons] <;> omega
theorem prefix_sum {q m : List (List Nat)} (h : q <+: m) : (q.map List.length).sum ≤ (m.map List.length).sum ∧ q.length ≤ m.length := by
  obtain ⟨t, rfl⟩ := h
  rw [List.map_append, List.sum_append, List.length_append]; omega
theorem jn_len : ∀ ps : List (List Nat), (jn [47] ps).length ≤ (ps.map List.length).sum + ps.length
  | [] => by simp [jn]
  | [x] => by simp [jn]
  | x :: y :: r => by
    have := jn_len (y :: r)
    rw [jn]
    simp only [List.length_append, List.map_cons, List.sum_cons, List.length_cons, List.length_nil] at this ⊢
    omega
noncomputable abbrev sC (P0 S N : D) (c s1 s2 com i : Sl) : Sto := [("paths", .dat P0), ("sep", .dat (.str [47])), ("curdir", .dat (.str [46])), ("split_paths", .dat S), ("isabs", .dat (.bool false)), ("c", c), ("s1", s1), ("s2", s2), ("common", com), ("i", i), ("prefix", .un)]
theorem Run1.try' {prog : Program} {b : List Stmt} {h₀ : ExceptHandler} {hs : List ExceptHandler} {o : List Stmt} {p : Pos} (hb : Run prog w h0 C k σ b (fun r => match r with | .next σ' => Run prog w h0 C k σ' o R | .exc _ _ => False | r => R r)) :
    Run1 prog w h0 C k σ (.Try b (h₀ :: hs) o [] p) R := Run1.try hb
noncomputable def gNames : D → Option D
  | .str l => some (.lst ((spl 47 l).map .str))
  | _ => none
noncomputable def gKeep : D → Option D
  | .str l => if !l.isEmpty && (l != [46]) then some (.str l) else none
  | _ => none
noncomputable def gKeeps : D → Option D
  | .lst l => some (.lst (l.filterMap gKeep))
  | _ => none
theorem gKeep_names (l : List (List Nat)) : (l.map D.str).filterMap gKeep = (l.filter fun c => !c.isEmpty && (c != [46])).map .str := by
  induction l with
  | nil => rfl
  | cons c r ih =>
    rw [List.map_cons, List.filterMap_cons, List.filter_cons, ih, gKeep]
    cases (!c.isEmpty && (c != [46])) <;> rfl
theorem fn_common (G : Gd P mg mb h0) {a : Addr} (F : FnAt mg h0 "commonpath" p_commonpath b_commonpath sc_commonpath a) {f0 : List Nat} {fs : List (List Nat)} (hd : ∀ f ∈ f0 :: fs, stw 47 f = false ∧ f.length ≤ 1000) (hn : fs.length ≤ 100) :
    Callable P0 w h0 (k + 8) (.ref a) [.lst ((f0 :: fs).map .str)] (.val (.str (jn [47] (cpre (bestL ltL (namesOf f0) (fs.map namesOf)) (bestL gtL (namesOf f0) (fs.map namesOf)))))) :=
  F.go G (kw := []) (k := k + 7) (ps := ["paths"]) (keys := ["paths", "sep", "curdir", "split_paths", "isabs", "c", "s1", "s2", "common", "i", "prefix"]) (es := [.lst ((f0 :: fs).map .str)]) (by kernel_rfl) (by kernel_rfl) (fun pm code doc => BindsD.plain (fun vs hv => by obtain ⟨v, rfl⟩ := len1 hv; kernel_rfl) rfl)
    (σ₀ := [("paths", .dat (.lst ((f0 :: fs).map .str))), ("sep", .un), ("curdir", .un), ("split_paths", .un), ("isabs", .un), ("c", .un), ("s1", .un), ("s2", .un), ("common", .un), ("i", .un), ("prefix", .un)]) (by kernel_rfl) fun C Fc => by
    obtain ⟨af, Ff⟩ := G.at in_fspath
    have hln : (f0 :: fs).length ≤ 101 := by simp only [List.length_cons]; omega
    have hlm : ((f0 :: fs).map D.str).length ≤ 101 := by rw [List.length_map]; exact hln
    delta b_commonpath
    with_reducible refine Run.asg (.tup ((f0 :: fs).map .str)) (Ev.tupleMap (k := k + 1) (G.bn Fc.wl (v := .type "tuple") (by with_reducible repeat (first | exact List.mem_cons_self | apply List.mem_cons_of_mem)) (Fc.kind (by kernel_rfl))).ev (G.bn Fc.wl (v := .type "map") (by with_reducible repeat (first | exact List.mem_cons_self | apply List.mem_cons_of_mem)) (Fc.kind (by kernel_rfl))).ev (Ev.glob (Fc.kind (by kernel_rfl)) Fc.wl.globals Ff.glob) (Ev.name (by with_reducible repeat (first | exact List.mem_cons_self | apply List.mem_cons_of_mem))) ?_ ?_ (by intro _ _; with_unfolding_all rfl) (by intro _ _; with_unfolding_all rfl)) (by with_reducible repeat (first | exact Upd.dat | exact Upd.un | exact Upd.own | apply Upd.tail)) ?_
    · refine ⟨rfl, fun i d e h1 h2 => ?_⟩
      rw [h1] at h2; cases h2
      rw [List.getElem?_map] at h1
      obtain ⟨l, _, rfl⟩ := Option.map_eq_some_iff.mp h1
      exact fn_fspath G Ff
    · exact Nat.lt_of_le_of_lt hlm (by decide)
    with_reducible refine Run.ite (c := !(!((f0 :: fs).map D.str).isEmpty)) (EvB.not (EvB.vl (Ev.name (by with_reducible repeat (first | exact List.mem_cons_self | apply List.mem_cons_of_mem))) (tru_tup (by omega)))) (fun h => by simp at h) fun _ => ?_
    apply Run.tail
    with_reducible refine Run.ite (c := false) (EvB.vl (Ev.bc G Fc.wl (v := .builtin "isinstance") (by with_reducible repeat (first | exact List.mem_cons_self | apply List.mem_cons_of_mem)) (Fc.kind (by kernel_rfl)) (EvL.c (d := .str f0) (Ev.sub (Ev.name (by with_reducible repeat (first | exact List.mem_cons_self | apply List.mem_cons_of_mem))) Ev.int ?_) (EvL.c (G.bn Fc.wl (v := .type "bytes") (by with_reducible repeat (first | exact List.mem_cons_self | apply List.mem_cons_of_mem)) (Fc.kind (by kernel_rfl))).ev EvL.nil)) call_isinst_str) tru_bool) (fun h => by cases h) fun _ => ?_
    · exact itm_tup (by omega) (by omega) rfl
    with_reducible refine Run.asg (.str [47]) (Ev.str (by with_unfolding_all rfl)) (by with_reducible repeat (first | exact Upd.dat | exact Upd.un | exact Upd.own | apply Upd.tail)) ?_
    with_reducible refine Run.asg (.str [46]) (Ev.str (by with_unfolding_all rfl)) (by with_reducible repeat (first | exact Upd.dat | exact Upd.un | exact Upd.own | apply Upd.tail)) ?_
    apply Run.tail
    with_reducible refine Run.cons (Run1.try' ?_)
    with_reducible refine Run.cons (CompH.assign (out := ((f0 :: fs).map fun f => .lst ((spl 47 f).map .str))) ?_ ?_ (by with_reducible repeat (first | exact Upd.dat | exact Upd.un | exact Upd.own | apply Upd.tail)) ?_ Fc.blk (Fc.kind (by kernel_rfl)) (by with_unfolding_all rfl) (by decide) (by intro _; with_unfolding_all rfl))
    · have e : ((f0 :: fs).map fun f => D.lst ((spl 47 f).map .str)) = ((f0 :: fs).map D.str).filterMap gNames := by
        rw [List.filterMap_map]; exact (List.filterMap_eq_map (f := fun f => D.lst ((spl 47 f).map .str)) ▸ rfl)
      rw [e]
      with_reducible refine comp1 [("sep", .str [47])] ?_ ?_ (EvI.of (Ev.name (by with_reducible repeat (first | exact List.mem_cons_self | apply List.mem_cons_of_mem))) iter_tup) ?_
      · kernel_rfl
      · intro x e hx
        simp only [List.mem_cons, List.not_mem_nil, or_false, Prod.mk.injEq] at hx
        obtain ⟨rfl, rfl⟩ := hx
        exact ⟨.inl (by with_reducible repeat (first | exact List.mem_cons_self | apply List.mem_cons_of_mem)), fun q => by rw [Fc.kind (kd := .cell) (by kernel_rfl)] at q; cases q⟩
      · intro C' hC d hdm
        obtain ⟨f, hf, rfl⟩ := List.mem_map.mp hdm
        rw [ros_cons, ros_nil]
        refine TurnOk.all ?_
        with_reducible exact Ev.mth (Ev.name (by with_reducible repeat (first | exact List.mem_cons_self | apply List.mem_cons_of_mem))) (EvL.c (Ev.nameR (by with_reducible repeat (first | exact List.mem_cons_self | apply List.mem_cons_of_mem))) EvL.nil) (m_split (sz (by have := (hd f hf).2; omega)))
    · rw [List.length_map]; exact sz (by omega)
    dsimp only
    with_reducible refine Run.cons (Run1.try' (Run.cons (Run1.assignSet (ds := (f0 :: fs).map .str) [("sep", .str [47])] ?_ ?_ (EvI.of (Ev.name (by with_reducible repeat (first | exact List.mem_cons_self | apply List.mem_cons_of_mem))) iter_tup) ?_ ?_ (by with_reducible repeat (first | exact Upd.dat | exact Upd.un | exact Upd.own | apply Upd.tail)) ?_)))
    · kernel_rfl
    · intro x e hx
      simp only [List.mem_cons, List.not_mem_nil, or_false, Prod.mk.injEq] at hx
      obtain ⟨rfl, rfl⟩ := hx
      exact ⟨.inl (by with_reducible repeat (first | exact List.mem_cons_self | apply List.mem_cons_of_mem)), fun q => by rw [Fc.kind (kd := .cell) (by kernel_rfl)] at q; cases q⟩
    · intro C' hC d hdm
      obtain ⟨f, hf, rfl⟩ := List.mem_map.mp hdm
      rw [ros_cons, ros_nil, ← (hd f hf).1]
      with_reducible exact Ev.mth (Ev.name (by with_reducible repeat (first | exact List.mem_cons_self | apply List.mem_cons_of_mem))) (EvL.c (Ev.nameR (by with_reducible repeat (first | exact List.mem_cons_self | apply List.mem_cons_of_mem))) EvL.nil) m_startswith
    · rw [List.length_map]; exact Nat.succ_pos _
    dsimp only
    apply Run.tail
    with_reducible refine Run.nil ?_
    dsimp only
    have hnm : ∀ f ∈ f0 :: fs, (namesOf f).length ≤ 1001 := fun f hf => by
      have h1 := List.length_filter_le (fun c : List Nat => !c.isEmpty && (c != [46])) (spl 47 f)
      have h2 := spl_len 47 f
      have h3 := (hd f hf).2
      unfold namesOf; omega
    have hnl : ∀ x ∈ namesOf f0 :: fs.map namesOf, x.length ≤ 1001 := fun x hx => by
      rcases List.mem_cons.mp hx with rfl | hx
      · exact hnm f0 (.head _)
      · obtain ⟨f, hf, rfl⟩ := List.mem_map.mp hx
        exact hnm f (.tail _ hf)
    have hns : ∀ x ∈ namesOf f0 :: fs.map namesOf, (x.map List.length).sum ≤ 1000 := fun x hx => by
      have h : ∀ f ∈ f0 :: fs, ((namesOf f).map List.length).sum ≤ 1000 := fun f hf => by
        have h1 := filter_sum (fun c : List Nat => !c.isEmpty && (c != [46])) (spl 47 f)
        have h2 := spl_sum 47 f
        have h3 := (hd f hf).2
        unfold namesOf; omega
      rcases List.mem_cons.mp hx with rfl | hx
      · exact h f0 (.head _)
      · obtain ⟨f, hf, rfl⟩ := List.mem_map.mp hx
        exact h f (.tail _ hf)
    with_reducible refine Run.cons (CompH.assign (out := (namesOf f0 :: fs.map namesOf).map lstS) ?_ ?_ (by with_reducible repeat (first | exact Upd.dat | exact Upd.un | exact Upd.own | apply Upd.tail)) ?_ Fc.blk (Fc.kind (by kernel_rfl)) (by with_unfolding_all rfl) (by decide) (by intro _; with_unfolding_all rfl))
    · have e : (namesOf f0 :: fs.map namesOf).map lstS = ((f0 :: fs).map fun f => D.lst ((spl 47 f).map .str)).filterMap gKeeps := by
        rw [List.filterMap_map]
        have e2 : (gKeeps ∘ fun f => D.lst ((spl 47 f).map .str)) = fun f => some (lstS (namesOf f)) := funext fun f => by
          show some (D.lst (((spl 47 f).map D.str).filterMap gKeep)) = _
          rw [gKeep_names]; rfl
        rw [e2, show (fun f => some (lstS (namesOf f))) = (some ∘ fun f => lstS (namesOf f)) from rfl, List.filterMap_eq_map, ← List.map_cons, List.map_map]; rfl
      rw [e]
      with_reducible refine comp1 [("curdir", .str [46])] ?_ ?_ (EvI.of (Ev.name (by with_reducible repeat (first | exact List.mem_cons_self | apply List.mem_cons_of_mem))) iter_lst) ?_
      · kernel_rfl
      · intro x e hx
        simp only [List.mem_cons, List.not_mem_nil, or_false, Prod.mk.injEq] at hx
        obtain ⟨rfl, rfl⟩ := hx
        exact ⟨.inl (by with_reducible repeat (first | exact List.mem_cons_self | apply List.mem_cons_of_mem)), fun q => by rw [Fc.kind (kd := .cell) (by kernel_rfl)] at q; cases q⟩
      · intro C' hC d hdm
        obtain ⟨f, hf, rfl⟩ := List.mem_map.mp hdm
        show TurnOk _ _ _ _ _ _ _ _ (some (D.lst (((spl 47 f).map D.str).filterMap gKeep)))
        rw [ros_cons, ros_nil]
        refine TurnOk.all ?_
        with_reducible refine CompH.ev (comp1 [("curdir", .str [46])] ?_ ?_ (EvI.of (Ev.name (by with_reducible repeat (first | exact List.mem_cons_self | apply List.mem_cons_of_mem))) iter_lst) ?_) ?_ (by intro _; with_unfolding_all rfl)
        · kernel_rfl
        · intro x e hx
          simp only [List.mem_cons, List.not_mem_nil, or_false, Prod.mk.injEq] at hx
          obtain ⟨rfl, rfl⟩ := hx
          exact ⟨.inr (by with_reducible repeat (first | exact List.mem_cons_self | apply List.mem_cons_of_mem)), hC.notLocal (.inl (by kernel_rfl))⟩
        · intro C2 hC2 d hd2
          obtain ⟨c, hc, rfl⟩ := List.mem_map.mp hd2
          have hcl : c.length ≤ 1000 := by
            have h1 := spl_sum 47 f
            have h2 := (hd f hf).2
            have h3 := mem_le_sum (List.mem_map.mpr ⟨c, hc, rfl⟩ : c.length ∈ (spl 47 f).map List.length)
            omega
          rw [ros_cons, ros_nil, gKeep]
          refine TurnOk.iff ?_ fun _ => Ev.name (by with_reducible repeat (first | exact List.mem_cons_self | apply List.mem_cons_of_mem))
          rw [show (!c.isEmpty && (c != [46])) = (!c.isEmpty && ((c != [46]) && true)) by rw [Bool.and_true]]
          with_reducible exact EvB.bool (EvA.and (EvB.vl (Ev.name (by with_reducible repeat (first | exact List.mem_cons_self | apply List.mem_cons_of_mem))) (tru_str (by omega))) fun _ => EvA.and (EvB.cmp (Ev.name (by with_reducible repeat (first | exact List.mem_cons_self | apply List.mem_cons_of_mem))) (Ev.nameR (by with_reducible repeat (first | exact List.mem_cons_self | apply List.mem_cons_of_mem))) ne_ss) fun _ => EvA.nil_and)
        · rw [gKeep_names, List.length_map]; exact sz (Nat.le_trans (hnm f hf) (by decide))
    · rw [List.length_map, List.length_cons, List.length_map]; exact sz (by omega)
    dsimp only
    with_reducible refine Run.asg (lstS (bestL ltL (namesOf f0) (fs.map namesOf))) (Ev.bc G Fc.wl (v := .builtin "min") (by with_reducible repeat (first | exact List.mem_cons_self | apply List.mem_cons_of_mem)) (Fc.kind (by kernel_rfl)) (EvL.c (Ev.name (by with_reducible repeat (first | exact List.mem_cons_self | apply List.mem_cons_of_mem))) EvL.nil) callable_min) (by with_reducible repeat (first | exact Upd.dat | exact Upd.un | exact Upd.own | apply Upd.tail)) ?_
    with_reducible refine Run.asg (lstS (bestL gtL (namesOf f0) (fs.map namesOf))) (Ev.bc G Fc.wl (v := .builtin "max") (by with_reducible repeat (first | exact List.mem_cons_self | apply List.mem_cons_of_mem)) (Fc.kind (by kernel_rfl)) (EvL.c (Ev.name (by with_reducible repeat (first | exact List.mem_cons_self | apply List.mem_cons_of_mem))) EvL.nil) callable_max) (by with_reducible repeat (first | exact Upd.dat | exact Upd.un | exact Upd.own | apply Upd.tail)) ?_
    have hm1 := hnl _ (bestL_mem ltL (fs.map namesOf) (namesOf f0))
    have hm2 := hns _ (bestL_mem ltL (fs.map namesOf) (namesOf f0))
    have hmm := min_max (namesOf f0) (fs.map namesOf)
    generalize bestL ltL (namesOf f0) (fs.map namesOf) = s1 at *
    generalize bestL gtL (namesOf f0) (fs.map namesOf) = s2 at *
    generalize (namesOf f0 :: fs.map namesOf).map lstS = NN at *
    with_reducible refine Run.asg (lstS s1) (Ev.name (by with_reducible repeat (first | exact List.mem_cons_self | apply List.mem_cons_of_mem))) (by with_reducible repeat (first | exact Upd.dat | exact Upd.un | exact Upd.own | apply Upd.tail)) ?_
    with_reducible refine Run.split (fun σ => ∃ c i : Sl, (c = .un ∨ ∃ d, c = .dat d) ∧ (i = .un ∨ ∃ d, i = .dat d) ∧ σ = sC (.tup ((f0 :: fs).map .str)) (.lst NN) .none c (.dat (lstS s1)) (.dat (lstS s2)) (.dat (lstS (cpre s1 s2))) i) ?_ ?_
    · with_reducible refine Run1.for (fun n σ => (∀ j, j < n → s1[j]? = s2[j]?) ∧ ∃ c i : Sl, (c = .un ∨ ∃ d, c = .dat d) ∧ (i = .un ∨ ∃ d, i = .dat d) ∧ σ = sC (.tup ((f0 :: fs).map .str)) (.lst NN) .none c (.dat (lstS s1)) (.dat (lstS s2)) (.dat (lstS s1)) i) (EvI.enum (G.bn Fc.wl (v := .type "enumerate") (by with_reducible repeat (first | exact List.mem_cons_self | apply List.mem_cons_of_mem)) (Fc.kind (by kernel_rfl))).ev (Ev.name (by with_reducible repeat (first | exact List.mem_cons_self | apply List.mem_cons_of_mem))) (by intro _ _; with_unfolding_all rfl)) ?_ ?_ ?_ (by intro _; with_unfolding_all rfl)
      · exact ⟨fun j hj => absurd hj (Nat.not_lt_zero j), .un, .un, .inl rfl, .inl rfl, rfl⟩
      · rintro n σ d ⟨hn', c, i, hc, hi, rfl⟩ hdm
        rw [enumD_get, List.getElem?_map] at hdm
        have hlt : n < s1.length := by
          by_cases q : n < s1.length
          · exact q
          · rw [List.getElem?_eq_none (by omega)] at hdm; cases hdm
        have hlt2 := runs_on hmm hn' hlt
        rw [get_of hlt] at hdm
        simp only [Option.map_some, Option.some.injEq, Int.zero_add] at hdm
        subst hdm
        have u : Upd (sC (.tup ((f0 :: fs).map .str)) (.lst NN) .none c (.dat (lstS s1)) (.dat (lstS s2)) (.dat (lstS s1)) i) "i" (.dat (dI n)) (sC (.tup ((f0 :: fs).map .str)) (.lst NN) .none c (.dat (lstS s1)) (.dat (lstS s2)) (.dat (lstS s1)) (.dat (dI n))) := by rcases hi with rfl | ⟨d', rfl⟩ <;> ((with_reducible repeat (first | exact Upd.dat | exact Upd.un | exact Upd.own | apply Upd.tail)); done)
        have v : Upd (sC (.tup ((f0 :: fs).map .str)) (.lst NN) .none c (.dat (lstS s1)) (.dat (lstS s2)) (.dat (lstS s1)) (.dat (dI n))) "c" (.dat (.str s1[n])) (sC (.tup ((f0 :: fs).map .str)) (.lst NN) .none (.dat (.str s1[n])) (.dat (lstS s1)) (.dat (lstS s2)) (.dat (lstS s1)) (.dat (dI n))) := by rcases hc with rfl | ⟨d', rfl⟩ <;> ((with_reducible repeat (first | exact Upd.dat | exact Upd.un | exact Upd.own | apply Upd.tail)); done)
        refine ⟨_, Tgt.tup2 u v, ?_⟩
        with_reducible refine Run.ite (c := s1[n] != s2[n]) (EvB.cmp (Ev.name (by with_reducible repeat (first | exact List.mem_cons_self | apply List.mem_cons_of_mem))) (Ev.sub (Ev.name (by with_reducible repeat (first | exact List.mem_cons_self | apply List.mem_cons_of_mem))) (Ev.name (by with_reducible repeat (first | exact List.mem_cons_self | apply List.mem_cons_of_mem))) (itm_lst (by omega) (by omega) ?_)) ne_ss) ?_ ?_
        · rw [Int.toNat_natCast, List.getElem?_map, get_of hlt2]; rfl
        · intro hq
          have hne : s1[n]? ≠ s2[n]? := by rw [get_of hlt, get_of hlt2]; simpa using hq
          with_reducible refine Run.asg (lstS (s1.take n)) ?_ (by with_reducible repeat (first | exact Upd.dat | exact Upd.un | exact Upd.own | apply Upd.tail)) ?_
          · rw [show lstS (s1.take n) = .lst ((s1.map .str).take n) by rw [← List.map_take]]
            with_reducible exact Ev.takeL (Ev.name (by with_reducible repeat (first | exact List.mem_cons_self | apply List.mem_cons_of_mem))) (Ev.name (by with_reducible repeat (first | exact List.mem_cons_self | apply List.mem_cons_of_mem))) (by rw [List.length_map]; exact sz (by omega))
          · refine Run.cons (Run1.brk ?_)
            rw [← cpre_at hn' hlt hne]
            exact ⟨_, ⟨_, _, .inr ⟨_, rfl⟩, .inr ⟨_, rfl⟩, rfl⟩, rfl⟩
        · intro hq
          refine Run.nil (Run.nil ⟨fun j hj => ?_, _, _, .inr ⟨_, rfl⟩, .inr ⟨_, rfl⟩, rfl⟩)
          rcases Nat.lt_succ_iff_lt_or_eq.mp hj with h | rfl
          · exact hn' j h
          · rw [get_of hlt, get_of hlt2]; simpa using hq
      · rintro σ ⟨hn', c, i, hc, hi, rfl⟩
        rw [enumD_length, List.length_map] at hn'
        refine ⟨_, ⟨c, i, hc, hi, ?_⟩, rfl⟩
        rw [cpre_all hn']
    rintro σ ⟨c, i, hc, hi, rfl⟩
    with_reducible refine Run.asg (.str []) (Ev.ifexp (b := false) (EvB.vl (Ev.name (by with_reducible repeat (first | exact List.mem_cons_self | apply List.mem_cons_of_mem))) tru_bool) (fun h => by cases h) fun _ => ?_) (by with_reducible repeat (first | exact Upd.dat | exact Upd.un | exact Upd.own | apply Upd.tail)) ?_
    · exact Ev.takeS (l := [47]) (n := 0) (Ev.name (by with_reducible repeat (first | exact List.mem_cons_self | apply List.mem_cons_of_mem))) (Ev.natE rfl) (by decide)
    have hpx := prefix_sum (cpre_prefix_left s1 s2)
    with_reducible refine Run.rtn (.str ([] ++ jn [47] (cpre s1 s2))) (Ev.addS (Ev.name (by with_reducible repeat (first | exact List.mem_cons_self | apply List.mem_cons_of_mem))) (Ev.mth (Ev.name (by with_reducible repeat (first | exact List.mem_cons_self | apply List.mem_cons_of_mem))) (EvL.c (Ev.name (by with_reducible repeat (first | exact List.mem_cons_self | apply List.mem_cons_of_mem))) EvL.nil) (m_join ?_)) ?_) rfl
    · unfold tot; exact sz (by simp only [List.length_cons, List.length_nil]; omega)
    · have := jn_len (cpre s1 s2); exact sz (by simp only [List.length_nil]; omega)
theorem fn_common0 (G : Gd P mg mb h0) {a : Addr} (F : FnAt mg h0 "commonpath" p_commonpath b_commonpath sc_commonpath a) :
    Callable P0 w h0 (k + 8) (.ref a) [.lst []] (.exc (.type "ValueError") [.str emptyMsg]) :=
  F.go G (kw := []) (k := k + 7) (ps := ["paths"]) (keys := ["paths", "sep", "curdir", "split_paths", "isabs", "c", "s1", "s2", "common", "i", "prefix"]) (es := [.lst []]) (by kernel_rfl) (by kernel_rfl) (fun pm code doc => BindsD.plain (fun vs hv => by obtain ⟨v, rfl⟩ := len1 hv; kernel_rfl) rfl)
    (σ₀ := [("paths", .dat (.lst [])), ("sep", .un), ("curdir", .un), ("split_paths", .un), ("isabs", .un), ("c", .un), ("s1", .un), ("s2", .un), ("common", .un), ("i", .un), ("prefix", .un)]) (by kernel_rfl) fun C Fc => by
    obtain ⟨af, Ff⟩ := G.at in_fspath
    delta b_commonpath
    with_reducible refine Run.asg (.tup []) (Ev.tupleMap (k := k + 1) (G.bn Fc.wl (v := .type "tuple") (by with_reducible repeat (first | exact List.mem_cons_self | apply List.mem_cons_of_mem)) (Fc.kind (by kernel_rfl))).ev (G.bn Fc.wl (v := .type "map") (by with_reducible repeat (first | exact List.mem_cons_self | apply List.mem_cons_of_mem)) (Fc.kind (by kernel_rfl))).ev (Ev.glob (Fc.kind (by kernel_rfl)) Fc.wl.globals Ff.glob) (Ev.name (by with_reducible repeat (first | exact List.mem_cons_self | apply List.mem_cons_of_mem))) ?_ ?_ (by intro _ _; with_unfolding_all rfl) (by intro _ _; with_unfolding_all rfl)) (by with_reducible repeat (first | exact Upd.dat | exact Upd.un | exact Upd.own | apply Upd.tail)) ?_
    · exact ⟨rfl, fun i d e h1 h2 => by cases h1⟩
    · decide
    with_reducible refine Run.ite (c := !(!([] : List D).isEmpty)) (EvB.not (EvB.vl (Ev.name (by with_reducible repeat (first | exact List.mem_cons_self | apply List.mem_cons_of_mem))) (tru_tup (by decide)))) (fun h => ?_) fun h => by simp at h
    with_reducible exact Run.cons (Run1.raiseB PySem.F.excCall_ValueError PySem.F.excRaise_ValueError (G.bn Fc.wl (v := .type "ValueError") (by with_reducible repeat (first | exact List.mem_cons_self | apply List.mem_cons_of_mem)) (Fc.kind (by kernel_rfl))) (EvL.c (Ev.str rfl) EvL.nil) (by rw [List.length_singleton]; decide) rfl)
theorem fn_from (G : Gd P mg mb h0) {a : Addr} (F : FnAt mg h0 "_law_from" p__law_from b__law_from sc__law_from a) {f0 : List Nat} {fs : List (List Nat)} (hd : ∀ f ∈ f0 :: fs, stw 47 f = false ∧ f.length ≤ 1000) (hn : fs.length ≤ 100) :
    Callable P0 w h0 (k + 9) (.ref a) [.lst ((f0 :: fs).map .str)] (.val (.str (jn [47] (cpre (bestL ltL (namesOf f0) (fs.map namesOf)) (bestL gtL (namesOf f0) (fs.map namesOf)))))) :=
  F.go G (kw := []) (k := k + 8) (ps := ["fronts"]) (keys := ["fronts", "error"]) (es := [.lst ((f0 :: fs).map .str)]) (by kernel_rfl) (by kernel_rfl) (fun pm code doc => BindsD.plain (fun vs hv => by obtain ⟨v, rfl⟩ := len1 hv; kernel_rfl) rfl)
    (σ₀ := [("fronts", .dat (.lst ((f0 :: fs).map .str))), ("error", .un)]) (by kernel_rfl) fun C Fc => by
    obtain ⟨ac, Fcp⟩ := G.at in_commonpath
    delta b__law_from
    with_reducible exact Run.cons (Run1.try' (Run.rtn _ (Ev.fc Fc.wl Fcp (Fc.kind (by kernel_rfl)) (EvL.c (Ev.name (by with_reducible repeat (first | exact List.mem_cons_self | apply List.mem_cons_of_mem))) EvL.nil) (fn_common G Fcp hd hn)) rfl))
theorem fn_from0 (G : Gd P mg mb h0) {a : Addr} (F : FnAt mg h0 "_law_from" p__law_from b__law_from sc__law_from a) :
    Callable P0 w h0 (k + 9) (.ref a) [.lst []] (.val (.lst [.str emptyMsg])) :=
  F.go G (kw := []) (k := k + 8) (ps := ["fronts"]) (keys := ["fronts", "error"]) (es := [.lst []]) (by kernel_rfl) (by kernel_rfl) (fun pm code doc => BindsD.plain (fun vs hv => by obtain ⟨v, rfl⟩ := len1 hv; kernel_rfl) rfl)
    (σ₀ := [("fronts", .dat (.lst [])), ("error", .un)]) (by kernel_rfl) fun C Fc => by
    obtain ⟨ac, Fcp⟩ := G.at in_commonpath
    delta b__law_from
    with_reducible refine Run.cons (Run1.tryX (cls := .type "ValueError") (ds := [.str emptyMsg]) Fc.frame (Fails.ret (Ev.fc Fc.wl Fcp (Fc.kind (by kernel_rfl)) (EvL.c (Ev.name (by with_reducible repeat (first | exact List.mem_cons_self | apply List.mem_cons_of_mem))) EvL.nil) (fn_common0 G Fcp))) ?_)
    with_reducible refine Hnd.takeRet (d := .lst [.str emptyMsg]) (G.bn Fc.wl (v := .type "ValueError") (by with_reducible repeat (first | exact List.mem_cons_self | apply List.mem_cons_of_mem)) (Fc.kind (by kernel_rfl))) (mtc_vv G) (Fc.kind (by kernel_rfl)) (by with_reducible repeat (first | exact Upd.dat | exact Upd.un | exact Upd.own | apply Upd.tail)) (by with_reducible repeat (first | exact Upd.dat | exact Upd.un | exact Upd.own | apply Upd.tail)) ?_ rfl
    with_reducible exact Ev.ls (EvL.c (Ev.bc G Fc.wl (v := .type "str") (by with_reducible repeat (first | exact List.mem_cons_self | apply List.mem_cons_of_mem)) (Fc.kind (by kernel_rfl)) (EvL.c (Ev.name (by with_reducible repeat (first | exact List.mem_cons_self | apply List.mem_cons_of_mem))) EvL.nil) (call_str_exc PySem.F.excStr_ValueError)) EvL.nil)
end
section
set_option linter.unusedVariables false
set_option maxRecDepth 100000
noncomputable def srvOf (p : Nat) : Nat := [0, 0, 0, 1, 1, 2, 2, 3].getD p 0
noncomputable def goalAt (p : Nat) (n : Int) : Nat := srvOf p + 1 + (n % 12).toNat % (4 - srvOf p)
noncomputable def kindAt (n : Int) : Nat := (n / 12 % 10).toNat
noncomputable def cutAt (n : Int) : Nat := (n / 120 % 4).toNat
noncomputable def sxAt (n : Int) : List Nat := sixs (n / 480)
noncomputable def signL : List Nat := [65, 66, 67, 68, 69, 70, 71, 72, 73, 74, 75, 76, 77, 78, 79, 80, 81, 82, 83, 84, 85, 86, 87, 88, 89, 90, 97, 98, 99, 100, 101, 102, 103, 104, 105, 106, 107, 108, 109, 110, 111, 112, 113, 114, 115, 116, 117, 118, 119, 120, 121, 122, 48, 49, 50, 51, 52, 53, 54, 55, 56, 57, 34, 46]
noncomputable def sgn (x : Nat) : Nat := signL.getD x 0
noncomputable def wrAt (n : Int) : List Nat := (sxAt n).map sgn
noncomputable def cuts {α : Type} (l : List α) (c : Nat) : List (List α) := (pairsOf c).map fun p => (l.drop p.1).take (p.2 - p.1)
noncomputable def wayAt (n : Int) : List Nat := jn [47] (cuts (wrAt n) (cutAt n))
theorem sixOf_lt (n : Int) : sixOf n < 64 := by
  unfold sixOf
  have h : (n / 8 % 64).toNat < 64 := by omega
  have h8 : (n % 8).toNat < 8 := by omega
  generalize (n % 8).toNat = q at *
  match q, h8 with
  | 0, _ => simp
  | 1, _ => simp
  | 2, _ => simp
  | 3, _ => simp
  | 4, _ => simp
  | 5, _ => simp
  | 6, _ => simp
  | 7, _ => simpa using h
theorem sx_four (n : Int) : ∃ a b c d, sxAt n = [a, b, c, d] ∧ a < 64 ∧ b < 64 ∧ c < 64 ∧ d < 64 := ⟨_, _, _, _, rfl, sixOf_lt _, sixOf_lt _, sixOf_lt _, sixOf_lt _⟩
theorem srv_le (p : Nat) : srvOf p ≤ 3 := by
  unfold srvOf
  by_cases h : p < 8
  · match p, h with
    | 0, _ => decide
    | 1, _ => decide
    | 2, _ => decide
    | 3, _ => decide
    | 4, _ => decide
    | 5, _ => decide
    | 6, _ => decide
    | 7, _ => decide
  · rw [List.getD_eq_getElem?_getD, List.getElem?_eq_none (by simpa using h)]; decide
theorem goal_le (p : Nat) (n : Int) : srvOf p < goalAt p n ∧ goalAt p n ≤ 4 := by
  have h := srv_le p
  have : (n % 12).toNat % (4 - srvOf p) < 4 - srvOf p := Nat.mod_lt _ (by omega)
  unfold goalAt; omega
theorem kind_lt (n : Int) : kindAt n < 10 := by unfold kindAt; omega
theorem cut_lt (n : Int) : cutAt n < 4 := by unfold cutAt; omega
/-- the facts of a sign -/
theorem sgn_ok : ∀ x < 64, sgn x < 128 ∧ sgn x ≠ 47 ∧ (sgn x = 46 ↔ x = 63) ∧ (∀ y < 64, sgn x = sgn y → x = y) ∧ (tabOf [43, 47] [34, 46]).toList.toArray.getD (b64 x).toNat (b64 x) = (sgn x).toUInt8 := by
  have h1 : ∀ x < 64, sgn x < 128 ∧ sgn x ≠ 47 ∧ (sgn x = 46 ↔ x = 63) := by decide +kernel
  have h2 : ∀ x < 64, ∀ y < 64, sgn x = sgn y → x = y := by decide +kernel
  have h3 : ∀ x < 64, (tabOf [43, 47] [34, 46]).toList.toArray.getD (b64 x).toNat (b64 x) = (sgn x).toUInt8 := by decide +kernel
  exact fun x hx => ⟨(h1 x hx).1, (h1 x hx).2.1, (h1 x hx).2.2, h2 x hx, h3 x hx⟩
theorem sxs_back {a b c d : Nat} (ha : a < 64) (hb : b < 64) (hc : c < 64) (hd : d < 64) : sxs (octs (tot64 [a, b, c, d])) 3 = [a, b, c, d] := by
  have e : sxs (octs (tot64 [a, b, c, d])) 3 = em (lcOf [tot64 [a, b, c, d] / 65536]) 8 ++ (em (lcOf [tot64 [a, b, c, d] / 65536, tot64 [a, b, c, d] / 256 % 256]) 10 ++ (em (lcOf [tot64 [a, b, c, d] / 65536, tot64 [a, b, c, d] / 256 % 256, tot64 [a, b, c, d] % 256]) 12 ++ [])) := rfl
  have t : tot64 [a, b, c, d] = 64 * (64 * (64 * (64 * 0 + a) + b) + c) + d := rfl
  rw [e, t]
  have e8 : ∀ x, em x 8 = [x / 4 % 64] := fun x => rfl
  have e10 : ∀ x, em x 10 = [x / 16 % 64] := fun x => rfl
  have e12 : ∀ x, em x 12 = [x / 64 % 64, x / 1 % 64] := fun x => rfl
  rw [e8, e10, e12]
  simp only [lcOf, List.foldl_cons, List.foldl_nil, List.cons_append, List.nil_append, List.cons.injEq, and_true]
  omega
theorem tot_lt {a b c d : Nat} (ha : a < 64) (hb : b < 64) (hc : c < 64) (hd : d < 64) : tot64 [a, b, c, d] < 16777216 := by
  have t : tot64 [a, b, c, d] = 64 * (64 * (64 * (64 * 0 + a) + b) + c) + d := rfl
  rw [t]; omega
/-- what b64encode gives of the octets -/
theorem encoded (n : Int) : trn (tabOf [43, 47] [34, 46]).toList ((sxs (((octs (tot64 (sxAt n))).map fun (n : Nat) => (n : Int).toNat.toUInt8).map (·.toNat)) 3).map b64) = (wrAt n).map (·.toUInt8) := by
  obtain ⟨a, b, c, d, e, ha, hb, hc, hd⟩ := sx_four n
  unfold wrAt
  rw [e]
  have ho : ((octs (tot64 [a, b, c, d])).map fun (n : Nat) => (n : Int).toNat.toUInt8).map (·.toNat) = octs (tot64 [a, b, c, d]) := by
    have ht := tot_lt ha hb hc hd
    rw [List.map_map]
    have : ∀ x ∈ octs (tot64 [a, b, c, d]), ((fun x : UInt8 => x.toNat) ∘ fun (n : Nat) => (n : Int).toNat.toUInt8) x = x := fun x hx => by
      have hl : x < 256 := by
        simp only [octs, List.mem_cons, List.not_mem_nil, or_false] at hx; omega
      simp only [Function.comp, Int.toNat_natCast]
      exact UInt8.toNat_ofNat_of_lt' hl
    exact (List.map_congr_left this).trans (List.map_id'' (fun _ => rfl) _)
  rw [ho, sxs_back ha hb hc hd]
  unfold trn
  simp only [List.map_cons, List.map_nil, (sgn_ok a ha).2.2.2.2, (sgn_ok b hb).2.2.2.2, (sgn_ok c hc).2.2.2.2, (sgn_ok d hd).2.2.2.2]
end
section
set_option linter.unusedVariables false
set_option maxRecDepth 100000
/-- a way's text -/
structure WayOk (l : List Nat) : Prop where
  ne : l ≠ []
  len : l.length ≤ 7
  fst : stw 47 l = false
  lst : edw 47 l = false
  low : ∀ c ∈ l, c < 128
theorem way_cases {a b c d cut : Nat} (h : cut < 4) : jn [47] (cuts [a, b, c, d] cut) = [[a, 47, b, 47, c, 47, d], [a, 47, b, 47, c, d], [a, b, 47, c, d], [a, 47, b, c, d]].getD cut [] := by
  match cut, h with
  | 0, _ => rfl
  | 1, _ => rfl
  | 2, _ => rfl
  | 3, _ => rfl
theorem wayOk_of {a b c d cut : Nat} (h : cut < 4) (ha : a < 128 ∧ a ≠ 47) (hb : b < 128 ∧ b ≠ 47) (hc : c < 128 ∧ c ≠ 47) (hd : d < 128 ∧ d ≠ 47) : WayOk (jn [47] (cuts [a, b, c, d] cut)) := by
  rw [way_cases h]
  match cut, h with
  | 0, _ | 1, _ | 2, _ | 3, _ =>
    refine ⟨by simp, by simp, ?_, ?_, ?_⟩
    · simp [stw, ha.2]
    · simp [edw, hd.2]
    · intro x hx
      simp only [List.getD_cons_zero, List.getD_cons_succ, List.mem_cons, List.not_mem_nil, or_false] at hx
      omega
theorem wayOk (n : Int) : WayOk (wayAt n) := by
  obtain ⟨a, b, c, d, e, ha, hb, hc, hd⟩ := sx_four n
  unfold wayAt wrAt
  rw [e]
  exact wayOk_of (cut_lt n) ⟨(sgn_ok a ha).1, (sgn_ok a ha).2.1⟩ ⟨(sgn_ok b hb).1, (sgn_ok b hb).2.1⟩ ⟨(sgn_ok c hc).1, (sgn_ok c hc).2.1⟩ ⟨(sgn_ok d hd).1, (sgn_ok d hd).2.1⟩
theorem rstp_keep {l : List Nat} (h : edw 47 l = false) (hn : l ≠ []) (m : Nat) : rstp 47 (l ++ List.replicate m 47) = l := by
  obtain ⟨r, x, rfl⟩ := List.eq_nil_or_concat l |>.resolve_left hn
  rw [List.concat_eq_append] at h ⊢
  have hx : x ≠ 47 := by simpa [edw] using h
  unfold rstp
  rw [List.reverse_append, List.reverse_append, List.reverse_replicate]
  have : ∀ m, (List.replicate m 47 ++ (List.reverse [x] ++ r.reverse)).dropWhile (· == 47) = x :: r.reverse := fun m => by
    induction m with
    | zero => simp [hx]
    | succ m ih => rw [List.replicate_succ, List.cons_append, List.dropWhile_cons]; simpa using ih
  rw [this]; simp
theorem spt_way {l : List Nat} (W : WayOk l) (m : Nat) {d : Nat} (hd : d ≠ 47) : spt (l ++ List.replicate (m + 1) 47 ++ [d]) = (l, [d]) := by
  have hr : rfnd 47 (l ++ List.replicate (m + 1) 47 ++ [d]) = ((l.length + m : Nat) : Int) := by
    unfold rfnd
    have e : (l ++ List.replicate (m + 1) 47 ++ [d]).reverse = d :: 47 :: (List.replicate m 47 ++ l.reverse) := by
      rw [List.reverse_append, List.reverse_append, List.reverse_replicate, List.replicate_succ]; rfl
    rw [e, List.findIdx?_cons, List.findIdx?_cons]
    have h1 : (d == 47) = false := by simpa using hd
    rw [h1]
    simp only [Bool.false_eq_true, if_false, beq_self_eq_true, if_true, Option.map_some]
    simp only [List.length_append, List.length_replicate, List.length_cons, List.length_nil]
    omega
  have hi : splI (l ++ List.replicate (m + 1) 47 ++ [d]) = l.length + (m + 1) := by unfold splI; rw [hr]; omega
  have hl : (l ++ List.replicate (m + 1) 47).length = l.length + (m + 1) := by simp
  unfold spt
  rw [hi, ← hl, List.take_left, List.drop_left]
  have hh : splH (l ++ List.replicate (m + 1) 47) = l := by
    unfold splH
    rw [if_pos, rstp_keep W.lst W.ne]
    obtain ⟨x, r, rfl⟩ := List.exists_cons_of_ne_nil W.ne
    have hx : x ≠ 47 := by have := W.fst; simpa [stw] using this
    rw [Bool.and_eq_true]
    refine ⟨by simp, ?_⟩
    rw [bne_iff_ne]
    intro q
    have := congrArg List.head? q
    rw [List.length_append, List.length_cons, Nat.succ_add] at this
    simp [List.replicate_succ] at this
    exact hx this
  rw [hh]
theorem scan_cons {c : Nat} (h : c ≠ 34) (r : List Nat) : scan (c :: r) = c :: scan r := by
  cases r with
  | nil => simp [scan, h]
  | cons d r => rw [scan, if_neg h]
theorem dbl_cons (c : Nat) (r : List Nat) : StrLaws.dbl 34 (c :: r) = if c = 34 then 34 :: 34 :: StrLaws.dbl 34 r else c :: StrLaws.dbl 34 r := by
  by_cases h : c = 34
  · subst h; simp [StrLaws.dbl]
  · rw [if_neg h]; simp [StrLaws.dbl, h]
theorem scan_dbl (t : List Nat) : ∀ p : List Nat, scan (StrLaws.dbl 34 p ++ t) = p ++ scan t
  | [] => by simp [StrLaws.dbl]
  | c :: r => by
    rw [dbl_cons]
    split
    · rename_i h; subst h
      rw [List.cons_append, List.cons_append, scan, if_pos rfl, if_pos rfl, scan_dbl t r, List.cons_append]
    · rename_i h
      rw [List.cons_append, scan_cons h, scan_dbl t r, List.cons_append]
end
section
set_option linter.unusedVariables false
set_option maxRecDepth 100000
theorem p257_off {l : List Nat} (h : l.take 3 ≠ [50, 53, 55]) : h257 l = .str l := by unfold h257 p257; rw [if_neg h]
theorem p229_off {l way : List Nat} (h : l.take 3 ≠ [50, 50, 57]) : h229 l way = .str l := by
  unfold h229 p229; rw [if_pos h]
  rfl
theorem p257_none {l : List Nat} (h : l.take 3 = [50, 53, 55]) (h2 : (l.drop 3).take 2 ≠ [32, 34]) : h257 l = .tup [.str [], .str []] := by unfold h257 p257; rw [if_pos h, if_neg h2]; rfl
theorem p257_path {p t : List Nat} (ht : scan t = []) : h257 ([50, 53, 55, 32, 34] ++ StrLaws.dbl 34 p ++ t) = .tup [.str (spt p).1, .str (spt p).2] := by
  have e : scan (([50, 53, 55, 32, 34] ++ StrLaws.dbl 34 p ++ t).drop 5) = p := by
    show scan (StrLaws.dbl 34 p ++ t) = p
    rw [scan_dbl, ht, List.append_nil]
  unfold h257 p257
  have e3 : List.take 3 ([50, 53, 55, 32, 34] ++ StrLaws.dbl 34 p ++ t) = [50, 53, 55] := rfl
  have e2 : List.take 2 (List.drop 3 ([50, 53, 55, 32, 34] ++ StrLaws.dbl 34 p ++ t)) = [32, 34] := rfl
  rw [if_pos e3, if_pos e2, e]
theorem line_lt3 {kind g : Nat} {way : List Nat} (h : kind < 3) : ∃ m t, t.length ≤ 10 ∧ scan t = [] ∧ (∀ c ∈ t, c < 128) ∧ m ≤ 1 ∧ lineOf kind way g = [50, 53, 55, 32, 34] ++ StrLaws.dbl 34 (way ++ List.replicate (m + 1) 47 ++ [48 + g]) ++ t := by
  match kind, h with
  | 0, _ => exact ⟨0, [], by decide, by simp [scan], by simp, by omega, rfl⟩
  | 1, _ => exact ⟨1, [34], by decide, by simp [scan], by simp, by omega, rfl⟩
  | 2, _ => exact ⟨0, [34, 32, 105, 115, 32, 116, 104, 101, 114, 101], by decide, by simp [scan], by decide, by omega, rfl⟩
theorem heard_due {kind g : Nat} {way : List Nat} (hk : kind < 10) (hg : 1 ≤ g ∧ g ≤ 4) (W : WayOk way) : D.lst [h257 (lineOf kind way g), h229 (lineOf kind way g) way] = dueOf kind way g (lineOf kind way g) := by
  by_cases h3 : kind < 3
  · obtain ⟨m, t, _, ht, _, _, e⟩ := line_lt3 (g := g) (way := way) h3
    have hd : dueOf kind way g (lineOf kind way g) = .lst [.tup [.str way, .str [48 + g]], .str (lineOf kind way g)] := by unfold dueOf; rw [if_pos h3]
    rw [hd, p229_off (by rw [e]; intro q; cases q), e, p257_path ht, spt_way W m (by omega)]
  · have hq : kind = 3 ∨ kind = 4 ∨ kind = 5 ∨ kind = 6 ∨ kind = 7 ∨ kind = 8 ∨ kind = 9 := by omega
    have hgq : g = 1 ∨ g = 2 ∨ g = 3 ∨ g = 4 := by omega
    rcases hq with rfl | rfl | rfl | rfl | rfl | rfl | rfl
    · rcases hgq with rfl | rfl | rfl | rfl <;> kernel_rfl
    · rcases hgq with rfl | rfl | rfl | rfl <;> kernel_rfl
    · rcases hgq with rfl | rfl | rfl | rfl <;> kernel_rfl
    · rcases hgq with rfl | rfl | rfl | rfl <;> kernel_rfl
    · have e : lineOf 7 way g = [50, 53, 48, 32, 34] ++ way ++ [34, 32, 40, 124, 124, 124] ++ [48 + g] ++ [124, 41] := rfl
      rw [p257_off (by rw [e]; intro q; cases q), p229_off (by rw [e]; intro q; cases q)]; rfl
    · have e : lineOf 8 way g = [50, 53, 55, 32, 111, 102, 32, 34] ++ way ++ [34] := rfl
      rw [p257_none (by rw [e]; rfl) (by rw [e]; intro q; cases q), p229_off (by rw [e]; intro q; cases q)]; rfl
    · rcases hgq with rfl | rfl | rfl | rfl <;> kernel_rfl
theorem dbl_mem {c : Nat} : ∀ p : List Nat, c ∈ StrLaws.dbl 34 p → c ∈ p
  | [], h => by simp [StrLaws.dbl] at h
  | d :: r, h => by
    rw [dbl_cons] at h
    split at h
    · rename_i e; subst e
      rcases List.mem_cons.mp h with rfl | h
      · exact .head _
      · rcases List.mem_cons.mp h with rfl | h
        · exact .head _
        · exact .tail _ (dbl_mem r h)
    · rcases List.mem_cons.mp h with rfl | h
      · exact .head _
      · exact .tail _ (dbl_mem r h)
theorem line_len {kind g : Nat} {way : List Nat} (hk : kind < 10) (hg : 1 ≤ g ∧ g ≤ 4) (W : WayOk way) : 5 ≤ (lineOf kind way g).length ∧ (lineOf kind way g).length ≤ 100 ∧ ∀ c ∈ lineOf kind way g, c < 128 := by
  have hl := W.len
  by_cases h3 : kind < 3
  · obtain ⟨m, t, htl, ht, htc, hm, e⟩ := line_lt3 (g := g) (way := way) h3
    have hd := dbl_len 34 (way ++ List.replicate (m + 1) 47 ++ [48 + g])
    rw [e]
    simp only [List.length_append, List.length_replicate, List.length_cons, List.length_nil] at hd ⊢
    refine ⟨by omega, by omega, fun c hc => ?_⟩
    rcases List.mem_append.mp hc with hc | hc
    · rcases List.mem_append.mp hc with hc | hc
      · simp only [List.mem_cons, List.not_mem_nil, or_false] at hc; omega
      · have := dbl_mem _ hc
        simp only [List.mem_append, List.mem_replicate, List.mem_cons, List.not_mem_nil, or_false] at this
        rcases this with (h | h) | h
        · exact W.low c h
        · omega
        · omega
    · exact htc c hc
  · have hq : kind = 3 ∨ kind = 4 ∨ kind = 5 ∨ kind = 6 ∨ kind = 7 ∨ kind = 8 ∨ kind = 9 := by omega
    have hgq : g = 1 ∨ g = 2 ∨ g = 3 ∨ g = 4 := by omega
    rcases hq with rfl | rfl | rfl | rfl | rfl | rfl | rfl
    · have e : lineOf 3 way g = lineOf 3 [] g := rfl
      rw [e]
      rcases hgq with rfl | rfl | rfl | rfl <;> exact ⟨by decide, by decide, by decide⟩
    · have e : lineOf 4 way g = lineOf 4 [] g := rfl
      rw [e]
      rcases hgq with rfl | rfl | rfl | rfl <;> exact ⟨by decide, by decide, by decide⟩
    · have e : lineOf 5 way g = lineOf 5 [] g := rfl
      rw [e]
      rcases hgq with rfl | rfl | rfl | rfl <;> exact ⟨by decide, by decide, by decide⟩
    · have e : lineOf 6 way g = lineOf 6 [] g := rfl
      rw [e]
      rcases hgq with rfl | rfl | rfl | rfl <;> exact ⟨by decide, by decide, by decide⟩
    · have e : lineOf 7 way g = [50, 53, 48, 32, 34] ++ way ++ [34, 32, 40, 124, 124, 124] ++ [48 + g] ++ [124, 41] := rfl
      rw [e]
      simp only [List.length_append, List.length_cons, List.length_nil]
      refine ⟨by omega, by omega, fun c hc => ?_⟩
      simp only [List.mem_append, List.mem_cons, List.not_mem_nil, or_false] at hc
      rcases hc with (((h | h) | h) | h) | h
      · omega
      · exact W.low c h
      · omega
      · omega
      · omega
    · have e : lineOf 8 way g = [50, 53, 55, 32, 111, 102, 32, 34] ++ way ++ [34] := rfl
      rw [e]
      simp only [List.length_append, List.length_cons, List.length_nil]
      refine ⟨by omega, by omega, fun c hc => ?_⟩
      simp only [List.mem_append, List.mem_cons, List.not_mem_nil, or_false] at hc
      rcases hc with (h | h) | h
      · omega
      · exact W.low c h
      · omega
    · have e : lineOf 9 way g = lineOf 9 [] g := rfl
      rw [e]
      rcases hgq with rfl | rfl | rfl | rfl <;> exact ⟨by decide, by decide, by decide⟩
theorem line_num {kind g : Nat} {way : List Nat} (hk : kind < 10) (hg : 1 ≤ g ∧ g ≤ 4) (h2 : (lineOf kind way g).take 3 = [50, 50, 57])
    (h5 : (mid (lineOf kind way g) (fnd 40 (lineOf kind way g) 0).toNat (fnd 41 (lineOf kind way g) ((fnd 40 (lineOf kind way g) 0).toNat + 1)).toNat).length = 5) :
    okNum ((mid (lineOf kind way g) (fnd 40 (lineOf kind way g) 0).toNat (fnd 41 (lineOf kind way g) ((fnd 40 (lineOf kind way g) 0).toNat + 1)).toNat).getD 3 []) := by
  by_cases h3 : kind < 3
  · obtain ⟨m, t, htl, ht, htc, hm, e⟩ := line_lt3 (g := g) (way := way) h3
    rw [e] at h2; cases h2
  · have hq : kind = 3 ∨ kind = 4 ∨ kind = 5 ∨ kind = 6 ∨ kind = 7 ∨ kind = 8 ∨ kind = 9 := by omega
    have hgq : g = 1 ∨ g = 2 ∨ g = 3 ∨ g = 4 := by omega
    have good : ∀ q : List Nat, ∀ n : Int, q.length ≤ 640 → PySem.intText? (mk q) = some n → okNum q := fun q n h1 h2 => ⟨h1, .inl ⟨n, h2⟩⟩
    rcases hq with rfl | rfl | rfl | rfl | rfl | rfl | rfl
    · rcases hgq with rfl | rfl | rfl | rfl
      · exact good [49] 1 (by decide) (by kernel_rfl)
      · exact good [50] 2 (by decide) (by kernel_rfl)
      · exact good [51] 3 (by decide) (by kernel_rfl)
      · exact good [52] 4 (by decide) (by kernel_rfl)
    · rcases hgq with rfl | rfl | rfl | rfl
      · exact good [49] 1 (by decide) (by kernel_rfl)
      · exact good [50] 2 (by decide) (by kernel_rfl)
      · exact good [51] 3 (by decide) (by kernel_rfl)
      · exact good [52] 4 (by decide) (by kernel_rfl)
    · rcases hgq with rfl | rfl | rfl | rfl
      · exact good [49] 1 (by decide) (by kernel_rfl)
      · exact good [50] 2 (by decide) (by kernel_rfl)
      · exact good [51] 3 (by decide) (by kernel_rfl)
      · exact good [52] 4 (by decide) (by kernel_rfl)
    · rcases hgq with rfl | rfl | rfl | rfl
      · exact good [49] 1 (by decide) (by kernel_rfl)
      · cases (show (4 : Nat) = 5 from h5)
      · cases (show (1 : Nat) = 5 from h5)
      · cases (show (6 : Nat) = 5 from h5)
    · cases h2
    · cases h2
    · have bad : ∀ q : List Nat, q.length ≤ 640 → PySem.intText? (mk q) = none → badNum q → (reprText (mk q)).length = 4 → okNum q := fun q h1 h2 h3 h4 => ⟨h1, .inr ⟨h2, h3, by rw [h4]; decide⟩⟩
      rcases hgq with rfl | rfl | rfl | rfl
      · exact bad [120, 49] (by decide) (by kernel_rfl) (by kernel_rfl) (by kernel_rfl)
      · exact bad [120, 50] (by decide) (by kernel_rfl) (by kernel_rfl) (by kernel_rfl)
      · exact bad [120, 51] (by decide) (by kernel_rfl) (by kernel_rfl) (by kernel_rfl)
      · exact bad [120, 52] (by decide) (by kernel_rfl) (by kernel_rfl) (by kernel_rfl)
end
section
set_option linter.unusedVariables false
set_option maxRecDepth 100000
structure IsLcp {α : Type} (X : List (List α)) (q : List α) : Prop where
  is : ∀ x ∈ X, q <+: x
  top : ∀ p, (∀ x ∈ X, p <+: x) → p <+: q
theorem prefix_anti {α : Type} {p q : List α} (h : p <+: q) (h' : q <+: p) : p = q := h.eq_of_length (Nat.le_antisymm h.length_le h'.length_le)
theorem IsLcp.uniq {α : Type} {X : List (List α)} {q q' : List α} (h : IsLcp X q) (h' : IsLcp X q') : q = q' := prefix_anti (h'.top q h.is) (h.top q' h'.is)
theorem last_of (p : Nat → Bool) : ∀ n, ∀ x ∈ (List.range n).filter p, x ≤ ((List.range n).filter p).getLastD 0 ∧ ((List.range n).filter p).getLastD 0 ∈ (List.range n).filter p
  | 0, x, h => by simp at h
  | n + 1, x, h => by
    rw [List.range_succ, List.filter_append] at h ⊢
    by_cases q : p n = true
    · rw [show List.filter p [n] = [n] by simp [q]] at h ⊢
      rw [List.getLastD_concat]
      refine ⟨?_, List.mem_append_right _ (.head _)⟩
      rcases List.mem_append.mp h with h | h
      · have := List.mem_range.mp (List.mem_filter.mp h).1; omega
      · exact Nat.le_of_eq (List.mem_singleton.mp h)
    · rw [show List.filter p [n] = [] by simp [q], List.append_nil] at h ⊢
      exact last_of p n x h
theorem prefix_take {α : Type} {q r : List α} (h : q <+: r) : r.take q.length = q := by
  obtain ⟨t, rfl⟩ := h; exact List.take_left
theorem shared_lcp (r0 : Row) (rs : List Row) : IsLcp (r0 :: rs) (sharedOf r0 (r0 :: rs)) := by
  have mem : ∀ j, j ∈ alikeOf r0 (r0 :: rs) ↔ j ≤ r0.length ∧ ∀ r ∈ r0 :: rs, r.take j = r0.take j := fun j => by
    unfold alikeOf
    rw [List.mem_filter, List.mem_range, List.all_eq_true]
    simp only [beq_iff_eq]
    constructor
    · exact fun h => ⟨by omega, h.2⟩
    · exact fun h => ⟨by omega, h.2⟩
  have h0 : 0 ∈ alikeOf r0 (r0 :: rs) := (mem 0).mpr ⟨by omega, fun r _ => by simp⟩
  have hl : ∀ x ∈ alikeOf r0 (r0 :: rs), x ≤ (alikeOf r0 (r0 :: rs)).getLastD 0 ∧ (alikeOf r0 (r0 :: rs)).getLastD 0 ∈ alikeOf r0 (r0 :: rs) := last_of _ _
  obtain ⟨hk, hall⟩ := (mem _).mp (hl 0 h0).2
  refine ⟨fun x hx => ?_, fun p hp => ?_⟩
  · unfold sharedOf; rw [← hall x hx]; exact List.take_prefix _ _
  · have hp0 := hp r0 (.head _)
    have hm : p.length ∈ alikeOf r0 (r0 :: rs) := (mem _).mpr ⟨hp0.length_le, fun r hr => by rw [prefix_take (hp r hr), prefix_take hp0]⟩
    have := (hl _ hm).1
    unfold sharedOf
    rw [← prefix_take hp0]
    exact List.take_prefix_take_left this
noncomputable def sg (r : Row) : T2 := r.map (·.map sgn)
noncomputable def VR (r : Row) : Prop := ∀ n ∈ r, ∀ c ∈ n, c < 64
theorem sgn_inj : ∀ {a b : List Nat}, (∀ c ∈ a, c < 64) → (∀ c ∈ b, c < 64) → a.map sgn = b.map sgn → a = b
  | [], [], _, _, _ => rfl
  | [], _ :: _, _, _, h => by cases h
  | _ :: _, [], _, _, h => by cases h
  | x :: a, y :: b, ha, hb, h => by
    rw [List.map_cons, List.map_cons, List.cons.injEq] at h
    have hx := ha x (.head _)
    have hy := hb y (.head _)
    rw [(sgn_ok x hx).2.2.2.1 y hy h.1, sgn_inj (fun c hc => ha c (.tail _ hc)) (fun c hc => hb c (.tail _ hc)) h.2]
theorem sg_inj : ∀ {a b : Row}, VR a → VR b → sg a = sg b → a = b
  | [], [], _, _, _ => rfl
  | [], _ :: _, _, _, h => by cases h
  | _ :: _, [], _, _, h => by cases h
  | x :: a, y :: b, ha, hb, h => by
    have h' : x.map sgn :: sg a = y.map sgn :: sg b := h
    rw [List.cons.injEq] at h'
    rw [sgn_inj (ha x (.head _)) (hb y (.head _)) h'.1, sg_inj (fun n hn => ha n (.tail _ hn)) (fun n hn => hb n (.tail _ hn)) h'.2]
theorem VR.take {r : Row} (h : VR r) (k : Nat) : VR (r.take k) := fun n hn => h n (List.mem_of_mem_take hn)
theorem sg_take (r : Row) (k : Nat) : sg (r.take k) = (sg r).take k := List.map_take ..
theorem IsLcp.sg {X : List Row} {q : Row} (hX : X ≠ []) (hv : ∀ x ∈ X, VR x) (h : IsLcp X q) : IsLcp (X.map Mine.sg) (Mine.sg q) := by
  refine ⟨fun x hx => ?_, fun p hp => ?_⟩
  · obtain ⟨r, hr, rfl⟩ := List.mem_map.mp hx
    exact (h.is r hr).map _
  · obtain ⟨x0, hx0⟩ := List.exists_mem_of_ne_nil X hX
    have e0 : p = Mine.sg (x0.take p.length) := by rw [sg_take, prefix_take (hp _ (List.mem_map.mpr ⟨x0, hx0, rfl⟩))]
    have : x0.take p.length <+: q := h.top _ fun x hx => by
      have e : Mine.sg (x.take p.length) = p := by rw [sg_take, prefix_take (hp _ (List.mem_map.mpr ⟨x, hx, rfl⟩))]
      rw [sg_inj ((hv x0 hx0).take _) ((hv x hx).take _) (e0.symm.trans e.symm)]
      exact List.take_prefix _ _
    rw [e0]; exact this.map _
/-- what is common is found end by end -/
theorem lcp_dist {β α : Type} {L : List β} {N : β → List α} {W : β → List (List α)} {c : β → List α} (hW : ∀ l ∈ L, W l ≠ []) (hc : ∀ l ∈ L, IsLcp (W l) (c l)) {q : List α}
    (h : IsLcp (L.map fun l => N l ++ c l) q) : IsLcp (L.flatMap fun l => (W l).map (N l ++ ·)) q := by
  refine ⟨fun x hx => ?_, fun p hp => h.top p fun y hy => ?_⟩
  · obtain ⟨l, hl, hx⟩ := List.mem_flatMap.mp hx
    obtain ⟨r, hr, rfl⟩ := List.mem_map.mp hx
    exact (h.is _ (List.mem_map.mpr ⟨l, hl, rfl⟩)).trans ((List.prefix_append_right_inj _).mpr ((hc l hl).is r hr))
  · obtain ⟨l, hl, rfl⟩ := List.mem_map.mp hy
    have hp' : ∀ r ∈ W l, p <+: N l ++ r := fun r hr => hp _ (List.mem_flatMap.mpr ⟨l, hl, List.mem_map.mpr ⟨r, hr, rfl⟩⟩)
    obtain ⟨r0, hr0⟩ := List.exists_mem_of_ne_nil _ (hW l hl)
    by_cases hlen : p.length ≤ (N l).length
    · have : p <+: N l := List.prefix_of_prefix_length_le (hp' r0 hr0) (List.prefix_append _ _) hlen
      exact this.trans (List.prefix_append _ _)
    · have hN : N l <+: p := List.prefix_of_prefix_length_le (List.prefix_append _ _) (hp' r0 hr0) (by omega)
      obtain ⟨t, rfl⟩ := hN
      exact (List.prefix_append_right_inj _).mpr ((hc l hl).top t fun r hr => (List.prefix_append_right_inj _).mp (hp' r hr))
end
section
set_option linter.unusedVariables false
set_option maxRecDepth 100000
/-- a good name -/
structure NmOk (n : List Nat) : Prop where
  ne : n ≠ []
  len : n.length ≤ 4
  six : ∀ c ∈ n, c < 64
noncomputable def nmsAt (n : Int) : Row := (cuts (sxAt n) (cutAt n)).filter (· != [63])
noncomputable def J (r : Row) : List Nat := jn [47] (sg r)
noncomputable def lcp : List Row → Row
  | [] => []
  | r0 :: rs => sharedOf r0 (r0 :: rs)
noncomputable def knD (w : List Row) : D := if w = [] then .lst [.str emptyMsg] else .str (J (lcp w))
/-- a good row of names -/
structure RowOk (m : Nat) (r : Row) : Prop where
  len : r.length ≤ m
  nm : ∀ n ∈ r, NmOk n ∧ n ≠ [63]
theorem RowOk.vr {m : Nat} {r : Row} (h : RowOk m r) : VR r := fun n hn => (h.nm n hn).1.six
theorem cuts_ok (n : Int) : (cuts (sxAt n) (cutAt n)).length ≤ 4 ∧ cuts (sxAt n) (cutAt n) ≠ [] ∧ ∀ x ∈ cuts (sxAt n) (cutAt n), NmOk x := by
  obtain ⟨a, b, c, d, e, ha, hb, hc, hd⟩ := sx_four n
  rw [e]
  have hcut := cut_lt n
  have h1 : ∀ x, x < 64 → NmOk [x] := fun x hx => ⟨by simp, by simp, fun y hy => by cases List.mem_singleton.mp hy; exact hx⟩
  have h2 : ∀ x y, x < 64 → y < 64 → NmOk [x, y] := fun x y hx hy => ⟨by simp, by simp, fun z hz => by
    simp only [List.mem_cons, List.not_mem_nil, or_false] at hz; omega⟩
  have h3 : ∀ x y z, x < 64 → y < 64 → z < 64 → NmOk [x, y, z] := fun x y z hx hy hz => ⟨by simp, by simp, fun u hu => by
    simp only [List.mem_cons, List.not_mem_nil, or_false] at hu; omega⟩
  generalize cutAt n = k at *
  match k, hcut with
  | 0, _ =>
    refine ⟨by simp [cuts, pairsOf], by simp [cuts, pairsOf], fun x hx => ?_⟩
    have : x ∈ [[a], [b], [c], [d]] := hx
    simp only [List.mem_cons, List.not_mem_nil, or_false] at this
    rcases this with rfl | rfl | rfl | rfl <;> exact h1 _ (by assumption)
  | 1, _ =>
    refine ⟨by simp [cuts, pairsOf], by simp [cuts, pairsOf], fun x hx => ?_⟩
    have : x ∈ [[a], [b], [c, d]] := hx
    simp only [List.mem_cons, List.not_mem_nil, or_false] at this
    rcases this with rfl | rfl | rfl
    · exact h1 _ ha
    · exact h1 _ hb
    · exact h2 _ _ hc hd
  | 2, _ =>
    refine ⟨by simp [cuts, pairsOf], by simp [cuts, pairsOf], fun x hx => ?_⟩
    have : x ∈ [[a, b], [c, d]] := hx
    simp only [List.mem_cons, List.not_mem_nil, or_false] at this
    rcases this with rfl | rfl
    · exact h2 _ _ ha hb
    · exact h2 _ _ hc hd
  | 3, _ =>
    refine ⟨by simp [cuts, pairsOf], by simp [cuts, pairsOf], fun x hx => ?_⟩
    have : x ∈ [[a], [b, c, d]] := hx
    simp only [List.mem_cons, List.not_mem_nil, or_false] at this
    rcases this with rfl | rfl
    · exact h1 _ ha
    · exact h3 _ _ _ hb hc hd
theorem nms_ok (n : Int) : RowOk 4 (nmsAt n) := by
  obtain ⟨h1, _, h3⟩ := cuts_ok n
  refine ⟨Nat.le_trans (List.length_filter_le _ _) h1, fun x hx => ?_⟩
  obtain ⟨hx1, hx2⟩ := List.mem_filter.mp hx
  exact ⟨h3 x hx1, by simpa using hx2⟩
theorem RowOk.app {a b : Nat} {r t : Row} (h : RowOk a r) (h' : RowOk b t) : RowOk (a + b) (r ++ t) :=
  ⟨by rw [List.length_append]; have := h.len; have := h'.len; omega, fun n hn => (List.mem_append.mp hn).elim (h.nm n) (h'.nm n)⟩
theorem RowOk.front {m : Nat} {r q : Row} (h : RowOk m r) (hq : q <+: r) : RowOk m q := ⟨Nat.le_trans hq.length_le h.len, fun n hn => h.nm n (hq.subset hn)⟩
theorem RowOk.mono {m m' : Nat} {r : Row} (h : RowOk m r) (hm : m ≤ m') : RowOk m' r := ⟨Nat.le_trans h.len hm, h.nm⟩
theorem lcp_is {w : List Row} (h : w ≠ []) : IsLcp w (lcp w) := by
  cases w with
  | nil => exact absurd rfl h
  | cons r0 rs => exact shared_lcp r0 rs
theorem lcp_ok {m : Nat} {w : List Row} (h : w ≠ []) (hw : ∀ r ∈ w, RowOk m r) : RowOk m (lcp w) := by
  obtain ⟨r, hr⟩ := List.exists_mem_of_ne_nil _ h
  exact (hw r hr).front ((lcp_is h).is r hr)
-- the texts of names
theorem sgN_ok {n : List Nat} (h : NmOk n) : n.map sgn ≠ [] ∧ 47 ∉ n.map sgn ∧ (n.map sgn = [46] ↔ n = [63]) ∧ (n.map sgn).length ≤ 4 := by
  refine ⟨by simpa using h.ne, fun q => ?_, ?_, by rw [List.length_map]; exact h.len⟩
  · obtain ⟨c, hc, e⟩ := List.mem_map.mp q
    exact (sgn_ok c (h.six c hc)).2.1 e
  · constructor
    · intro q
      cases n with
      | nil => cases q
      | cons c t =>
        rw [List.map_cons, List.cons.injEq, List.map_eq_nil_iff] at q
        obtain ⟨q1, rfl⟩ := q
        rw [(sgn_ok c (h.six c (.head _))).2.2.1.mp q1]
    · rintro rfl; rfl
theorem spl_app (c : Nat) (b : List Nat) : ∀ a : List Nat, spl c (a ++ c :: b) = spl c a ++ spl c b
  | [] => by simp [spl]
  | x :: a => by
    rw [List.cons_append, spl, spl, spl_app c b a]
    split
    · rfl
    · cases h : spl c a with
      | nil => exact absurd h (spl_ne c a)
      | cons p ps => rfl
theorem spl_J {m : Nat} {r : Row} (h : RowOk m r) : spl 47 (J r) = if r = [] then [[]] else sg r := by
  split
  · rename_i e; subst e; rfl
  · rename_i e
    refine spl_jn (by unfold sg; simpa using e) fun p hp => ?_
    obtain ⟨n, hn, rfl⟩ := List.mem_map.mp hp
    exact (sgN_ok (h.nm n hn).1).2.1
theorem spl_way (n : Int) : spl 47 (wayAt n) = (cuts (sxAt n) (cutAt n)).map (·.map sgn) := by
  have e : cuts (wrAt n) (cutAt n) = (cuts (sxAt n) (cutAt n)).map (·.map sgn) := by
    unfold cuts wrAt
    rw [List.map_map]
    exact List.map_congr_left fun p _ => by simp [List.map_drop, List.map_take]
  obtain ⟨_, h2, h3⟩ := cuts_ok n
  unfold wayAt
  rw [e]
  refine spl_jn (by simpa using h2) fun p hp => ?_
  obtain ⟨x, hx, rfl⟩ := List.mem_map.mp hp
  exact (sgN_ok (h3 x hx)).2.1
theorem keep_cuts : ∀ {l : List (List Nat)}, (∀ x ∈ l, NmOk x) → (l.map (·.map sgn)).filter (fun c => !c.isEmpty && (c != [46])) = sg (l.filter (· != [63]))
  | [], _ => rfl
  | x :: l, h => by
    have hx := sgN_ok (h x (.head _))
    rw [List.map_cons, List.filter_cons, List.filter_cons, keep_cuts fun y hy => h y (.tail _ hy)]
    have e1 : (!(x.map sgn).isEmpty) = true := by simpa using hx.1
    have e2 : (x.map sgn != [46]) = (x != [63]) := by
      by_cases q : x = [63]
      · have := hx.2.2.1.mpr q
        rw [this, q]; rfl
      · have : x.map sgn ≠ [46] := fun z => q (hx.2.2.1.mp z)
        rw [bne_iff_ne.mpr this, bne_iff_ne.mpr q]
    rw [e1, e2, Bool.true_and]
    cases (x != [63]) <;> rfl
theorem keep_row {m : Nat} {r : Row} (h : RowOk m r) : (sg r).filter (fun c => !c.isEmpty && (c != [46])) = sg r := by
  refine List.filter_eq_self.mpr fun c hc => ?_
  obtain ⟨n, hn, rfl⟩ := List.mem_map.mp hc
  have := sgN_ok (h.nm n hn).1
  rw [Bool.and_eq_true, bne_iff_ne]
  exact ⟨by simpa using this.1, fun q => (h.nm n hn).2 (this.2.2.1.mp q)⟩
/-- the names of a front -/
theorem names_front {m : Nat} (n : Int) {r : Row} (h : RowOk m r) : namesOf (wayAt n ++ ([47] ++ J r)) = sg (nmsAt n) ++ sg r := by
  unfold namesOf
  rw [List.cons_append, List.nil_append, spl_app, List.filter_append, spl_way, spl_J h, keep_cuts (cuts_ok n).2.2]
  unfold nmsAt
  congr 1
  split
  · rename_i e; subst e; rfl
  · exact keep_row h
theorem J_len {m : Nat} {r : Row} (h : RowOk m r) : (J r).length ≤ 5 * m := by
  have h1 := jn_len (sg r)
  have h2 : ((sg r).map List.length).sum ≤ 4 * r.length := by
    have : ∀ {l : Row}, (∀ n ∈ l, NmOk n ∧ n ≠ [63]) → ((sg l).map List.length).sum ≤ 4 * l.length := fun {l} => by
      induction l with
      | nil => intro _; simp [sg]
      | cons x l ih =>
        intro hh
        have := ih fun n hn => hh n (.tail _ hn)
        have hx := (sgN_ok (hh x (.head _)).1).2.2.2
        show ((x.map sgn :: sg l).map List.length).sum ≤ _
        rw [List.map_cons, List.sum_cons, List.length_cons]; omega
    exact this h.nm
  have h3 : (sg r).length = r.length := List.length_map ..
  have := h.len
  unfold J; omega
theorem J_fst {m : Nat} {r : Row} (h : RowOk m r) : stw 47 (J r) = false := by
  unfold J
  match r, h with
  | [], _ => rfl
  | [x], h =>
    have := sgN_ok (h.nm x (.head _)).1
    show stw 47 (x.map sgn) = false
    cases q : x.map sgn with
    | nil => rfl
    | cons c t => rw [q] at this; simp only [List.mem_cons, not_or] at this; simp [stw, Ne.symm this.2.1.1]
  | x :: y :: r, h =>
    have := sgN_ok (h.nm x (.head _)).1
    show stw 47 (x.map sgn ++ [47] ++ _) = false
    cases q : x.map sgn with
    | nil => exact absurd q this.1
    | cons c t => rw [q] at this; simp only [List.mem_cons, not_or] at this; simp [stw, Ne.symm this.2.1.1]
end
section
set_option linter.unusedVariables false
set_option maxRecDepth 100000
noncomputable abbrev Lk := Nat × Int
noncomputable def onAt (s : Nat) (wl : List (List Row)) (l : Lk) : List Row := wl.getD (goalAt l.1 l.2 - s - 1) []
noncomputable def whole (s : Nat) (wl : List (List Row)) (L : List Lk) : List Row := L.flatMap fun l => if srvOf l.1 = s then (onAt s wl l).map (nmsAt l.2 ++ ·) else []
noncomputable def goes (s : Nat) (wl : List (List Row)) (l : Lk) : Bool := decide (srvOf l.1 = s) && !(onAt s wl l).isEmpty
noncomputable def frontOf (s : Nat) (wl : List (List Row)) (l : Lk) : List Nat := wayAt l.2 ++ ([47] ++ J (lcp (onAt s wl l)))
noncomputable def frontsOf (s : Nat) (wl : List (List Row)) (L : List Lk) : List (List Nat) := (L.filter (goes s wl)).map (frontOf s wl)
structure WlOk (m B : Nat) (wl : List (List Row)) : Prop where
  len : ∀ w ∈ wl, w.length ≤ B
  row : ∀ w ∈ wl, ∀ r ∈ w, RowOk m r
theorem getD_mem_or {α : Type} (l : List (List α)) (i : Nat) : l.getD i [] ∈ l ∨ l.getD i [] = [] := by
  by_cases h : i < l.length
  · left; rw [List.getD_eq_getElem?_getD, get_of h]; exact List.getElem_mem h
  · right; rw [List.getD_eq_getElem?_getD, List.getElem?_eq_none (by omega)]; rfl
section
variable {m B s : Nat} {wl : List (List Row)} {L : List Lk}
theorem WlOk.on (h : WlOk m B wl) (l : Lk) : (onAt s wl l).length ≤ B ∧ ∀ r ∈ onAt s wl l, RowOk m r := by
  unfold onAt
  rcases getD_mem_or wl (goalAt l.1 l.2 - s - 1) with h1 | h1
  · exact ⟨h.len _ h1, h.row _ h1⟩
  · rw [h1]; exact ⟨Nat.zero_le _, fun _ h => nomatch h⟩
theorem whole_filter : whole s wl L = (L.filter (goes s wl)).flatMap fun l => (onAt s wl l).map (nmsAt l.2 ++ ·) := by
  unfold whole
  induction L with
  | nil => rfl
  | cons l L ih =>
    rw [List.flatMap_cons, List.filter_cons, ih]
    unfold goes
    by_cases h : srvOf l.1 = s
    · rw [if_pos h, decide_eq_true h, Bool.true_and]
      cases e : onAt s wl l with
      | nil => simp
      | cons r w => simp [e]
    · rw [if_neg h, decide_eq_false h]; rfl
theorem whole_row (h : WlOk m B wl) : ∀ r ∈ whole s wl L, RowOk (m + 4) r := by
  intro r hr
  rw [whole_filter] at hr
  obtain ⟨l, _, hr⟩ := List.mem_flatMap.mp hr
  obtain ⟨t, ht, rfl⟩ := List.mem_map.mp hr
  exact ((nms_ok l.2).app ((h.on l).2 t ht)).mono (by omega)
theorem whole_len (h : WlOk m B wl) : (whole s wl L).length ≤ L.length * B := by
  unfold whole
  induction L with
  | nil => simp
  | cons l L ih =>
    rw [List.flatMap_cons, List.length_append, List.length_cons, Nat.succ_mul]
    have : (if srvOf l.1 = s then (onAt s wl l).map (nmsAt l.2 ++ ·) else []).length ≤ B := by
      split
      · rw [List.length_map]; exact (h.on l).1
      · exact Nat.zero_le _
    omega
theorem goes_on {l : Lk} (h : goes s wl l = true) : srvOf l.1 = s ∧ onAt s wl l ≠ [] := by
  unfold goes at h
  rw [Bool.and_eq_true, decide_eq_true_eq] at h
  exact ⟨h.1, by simpa using h.2⟩
theorem front_ok (h : WlOk m B wl) {l : Lk} (hg : goes s wl l = true) : stw 47 (frontOf s wl l) = false ∧ (frontOf s wl l).length ≤ 8 + 5 * m := by
  have W := wayOk l.2
  have hj := J_len (lcp_ok (goes_on hg).2 (h.on l).2)
  unfold frontOf
  refine ⟨?_, ?_⟩
  · obtain ⟨x, r, e⟩ := List.exists_cons_of_ne_nil W.ne
    have := W.fst
    rw [e] at this ⊢
    simpa [stw] using this
  · have := W.len
    rw [List.length_append, List.length_append, List.length_singleton]; omega
theorem fronts_ok (h : WlOk m B wl) : ∀ f ∈ frontsOf s wl L, stw 47 f = false ∧ f.length ≤ 8 + 5 * m := by
  intro f hf
  obtain ⟨l, hl, rfl⟩ := List.mem_map.mp hf
  exact front_ok h (List.mem_filter.mp hl).2
theorem fronts_len : (frontsOf s wl L).length ≤ L.length := by
  unfold frontsOf; rw [List.length_map]; exact List.length_filter_le _ _
theorem fronts_nil (h : whole s wl L = []) : frontsOf s wl L = [] := by
  unfold frontsOf
  rw [whole_filter] at h
  cases e : L.filter (goes s wl) with
  | nil => rfl
  | cons l r =>
    rw [e, List.flatMap_cons, List.append_eq_nil_iff] at h
    have hl : l ∈ L.filter (goes s wl) := e ▸ .head _
    exact absurd (List.map_eq_nil_iff.mp h.1) (goes_on (List.mem_filter.mp hl).2).2
theorem fronts_cons (h : WlOk m B wl) (hw : whole s wl L ≠ []) : ∃ f0 fs, frontsOf s wl L = f0 :: fs ∧ jn [47] (cpre (bestL ltL (namesOf f0) (fs.map namesOf)) (bestL gtL (namesOf f0) (fs.map namesOf))) = J (lcp (whole s wl L)) := by
  have hL : ∀ l ∈ L.filter (goes s wl), onAt s wl l ≠ [] ∧ ∀ r ∈ onAt s wl l, RowOk m r := fun l hl => ⟨(goes_on (List.mem_filter.mp hl).2).2, (h.on l).2⟩
  have hrow := whole_row (s := s) (L := L) h
  have hlcp := lcp_is hw
  rw [whole_filter] at hw hrow hlcp ⊢
  unfold frontsOf
  generalize L.filter (goes s wl) = K at *
  cases K with
  | nil => exact absurd rfl hw
  | cons l0 K =>
    refine ⟨frontOf s wl l0, K.map (frontOf s wl), List.map_cons .., ?_⟩
    have hn : ∀ l ∈ l0 :: K, namesOf (frontOf s wl l) = sg (nmsAt l.2) ++ sg (lcp (onAt s wl l)) := fun l hl => names_front l.2 (lcp_ok (hL l hl).1 (hL l hl).2)
    have hA : namesOf (frontOf s wl l0) :: (K.map (frontOf s wl)).map namesOf = (l0 :: K).map fun l => sg (nmsAt l.2) ++ sg (lcp (onAt s wl l)) := by
      rw [List.map_map]
      exact (List.map_cons (f := namesOf ∘ frontOf s wl)).symm.trans (List.map_congr_left hn)
    have hc := common_of (namesOf (frontOf s wl l0)) ((K.map (frontOf s wl)).map namesOf)
    rw [hA] at hc
    have h1 := lcp_dist (L := l0 :: K) (N := fun l => sg (nmsAt l.2)) (W := fun l => (onAt s wl l).map sg) (c := fun l => sg (lcp (onAt s wl l))) (fun l hl => by simpa using (hL l hl).1)
      (fun l hl => (lcp_is (hL l hl).1).sg (hL l hl).1 fun x hx => ((hL l hl).2 x hx).vr) ⟨hc.1, hc.2⟩
    have h2 : IsLcp (((l0 :: K).flatMap fun l => (onAt s wl l).map (nmsAt l.2 ++ ·)).map sg) (sg (lcp ((l0 :: K).flatMap fun l => (onAt s wl l).map (nmsAt l.2 ++ ·)))) := hlcp.sg hw fun x hx => (hrow x hx).vr
    have e : (((l0 :: K).flatMap fun l => (onAt s wl l).map (nmsAt l.2 ++ ·)).map sg) = (l0 :: K).flatMap fun l => ((onAt s wl l).map sg).map (sg (nmsAt l.2) ++ ·) := by
      rw [List.map_flatMap]
      refine congrArg (fun f => List.flatMap f (l0 :: K)) (funext fun l => ?_)
      rw [List.map_map, List.map_map]
      exact List.map_congr_left fun r _ => by simp [sg]
    rw [e] at h2
    unfold J
    rw [h1.uniq h2]
end
end
section
set_option linter.unusedVariables false
set_option maxRecDepth 100000
noncomputable abbrev lb1 : List Stmt := by
  refine (?f : ∀ s0 s1 s2 t i b o p r, b_law = s0 :: s1 :: s2 :: .For t i b o p :: r → List Stmt) _ _ _ _ _ _ _ _ _ rfl
  exact fun _ _ _ _ _ b _ _ _ _ => b
noncomputable abbrev lb2 : List Stmt := by
  refine (?f : ∀ s0 s1 s2 s3 s4 t i b o p r, b_law = s0 :: s1 :: s2 :: s3 :: s4 :: .For t i b o p :: r → List Stmt) _ _ _ _ _ _ _ _ _ _ _ rfl
  exact fun _ _ _ _ _ _ _ b _ _ _ _ => b
noncomputable def Free (s : Sl) : Prop := s = .un ∨ ∃ d, s = .dat d
theorem free_un : Free .un := .inl rfl
theorem free_dat {d : D} : Free (.dat d) := .inr ⟨d, rfl⟩
theorem Upd.fr {x : Str} {s t : Sl} {r : Sto} (h : Free s) : Upd ((x, s) :: r) x t ((x, t) :: r) := by
  rcases h with rfl | ⟨d, rfl⟩
  · exact .un
  · exact .dat
noncomputable abbrev sgD : D := .str signL
noncomputable abbrev sL (S N : D) (to li : Addr) (T L : List D) (a b c d e f g h i j k l m : Sl) : Sto :=
  [("script", .dat S), ("numbers", .dat N), ("signs", .dat sgD), ("told", .own to T), ("links", .own li L), ("place", a), ("number", b), ("server", c), ("goal", d), ("kind", e), ("cut", f), ("sixes", g), ("written", h), ("way", i), ("line", j), ("heard", k), ("names", l), ("port", m),
    ("known", .un), ("ways", .un), ("fronts", .un), ("whole", .un), ("due", .un), ("shared", .un)]
structure F13 (a b c d e f g h i j k l m : Sl) : Prop where
  a : Free a
  b : Free b
  c : Free c
  d : Free d
  e : Free e
  f : Free f
  g : Free g
  h : Free h
  i : Free i
  j : Free j
  k : Free k
  l : Free l
  m : Free m
noncomputable def St1 (S N : D) (to li : Addr) (T L : List D) (σ : Sto) : Prop := ∃ a b c d e f g h i j k l m : Sl, F13 a b c d e f g h i j k l m ∧ σ = sL S N to li T L a b c d e f g h i j k l m
noncomputable def toldD (l : Lk) : D := .tup [dI (srvOf l.1), .str (wayAt l.2), dI (goalAt l.1 l.2)]
noncomputable def linkD (l : Lk) : D := .tup [dI (srvOf l.1), rowD (nmsAt l.2), dI (goalAt l.1 l.2)]
noncomputable def lks (ns : List Int) (i : Nat) : List Lk := (List.range i).flatMap fun p => if kindAt (ns.getD p 0) < 6 then [(p, ns.getD p 0)] else []
theorem lks_succ (ns : List Int) (i : Nat) : lks ns (i + 1) = lks ns i ++ if kindAt (ns.getD i 0) < 6 then [(i, ns.getD i 0)] else [] := by
  unfold lks; rw [List.range_succ, List.flatMap_append]; simp
theorem lks_len (ns : List Int) : ∀ i, (lks ns i).length ≤ i
  | 0 => by simp [lks]
  | i + 1 => by
    have := lks_len ns i
    rw [lks_succ, List.length_append]
    have : (if kindAt (ns.getD i 0) < 6 then [(i, ns.getD i 0)] else []).length ≤ 1 := by split <;> simp
    omega
theorem jn_nil : ∀ ls : List (List Nat), jn [] ls = ls.flatten
  | [] => rfl
  | [x] => by simp [jn]
  | x :: y :: r => by rw [jn, jn_nil (y :: r)]; simp
theorem written_is (n : Int) : jn [] ((sxAt n).map fun s => [sgn s]) = wrAt n := by
  rw [jn_nil]; unfold wrAt
  generalize sxAt n = l
  induction l with
  | nil => rfl
  | cons a r ih => simpa using ih
end
section
set_option linter.unusedVariables false
set_option maxRecDepth 100000
variable {w : World} {h0 : Heap} {C : Cx} {k : Nat} {σ σ' : Sto} {R : Out → Prop} {P : Params} {mg mb : Str → Option Value}
theorem shp_str {l : List Nat} (h : ∀ c ∈ l, c < 128) : Shp 0 (.str l) := by
  refine ⟨rfl, ?_, by simp [D.py, PyData.depth]⟩
  rw [D.py, PyData.canLay0]
  unfold PyData.strOk
  rw [Array.all_eq_true]
  intro i hi
  have : l[i] ∈ l := List.getElem_mem _
  have := h _ this
  simp only [decide_eq_true_eq]
  exact Nat.lt_trans this (by decide)
theorem eqq_self {d : D} {n : Nat} (h : Shp n d) : d.eqq d = true := PySem.SeqAt.eqv_refl _ h.lay
theorem due_shp {kind g : Nat} {way line : List Nat} (hg : g ≤ 4) (hw : ∀ c ∈ way, c < 128) (hl : ∀ c ∈ line, c < 128) : Shp 3 (dueOf kind way g line) := by
  have two : ∀ a b : D, Shp 2 a → Shp 2 b → Shp 3 (.lst [a, b]) := fun a b ha hb => shp_lst fun d hd => by
    simp only [List.mem_cons, List.not_mem_nil, or_false] at hd; rcases hd with rfl | rfl <;> assumption
  have pair : ∀ a b : D, Shp 0 a → Shp 0 b → Shp 2 (.tup [a, b]) := fun a b ha hb => (shp_tup (n := 0) fun d hd => by
    simp only [List.mem_cons, List.not_mem_nil, or_false] at hd; rcases hd with rfl | rfl <;> assumption).mono (by omega)
  have L : Shp 2 (.str line) := (shp_str hl).mono (by omega)
  unfold dueOf
  split
  · exact two _ _ (pair _ _ (shp_str hw) (shp_str fun c hc => by cases List.mem_singleton.mp hc; omega)) L
  · split
    · exact two _ _ (pair _ _ (shp_str fun c hc => nomatch hc) (shp_str fun c hc => nomatch hc)) L
    · split
      · exact two _ _ L (pair _ _ (shp_str hw) shp_int)
      · refine two _ _ L ?_
        split
        · exact (shp_lst (n := 0) fun d hd => by cases List.mem_singleton.mp hd; exact shp_str hl).mono (by omega)
        · split
          · exact L
          · exact shp_none.mono (by omega)
noncomputable def gSix : D → Option D
  | .int v => some (.str [sgn v.toNat])
  | _ => none
noncomputable def gOrd : D → Option D
  | .str [c] => some (dI c)
  | _ => none
noncomputable def gNot63 : D → Option D
  | .lst l => if !((D.lst l).eqq (nameD [63])) then some (.lst l) else none
  | _ => none
theorem gNot_row : ∀ l : Row, (l.map nameD).filterMap gNot63 = (l.filter (· != [63])).map nameD
  | [] => rfl
  | a :: l => by
    rw [List.map_cons, List.filterMap_cons, List.filter_cons, gNot_row l]
    have e : gNot63 (nameD a) = if !(nameD a).eqq (nameD [63]) then some (nameD a) else none := rfl
    rw [e, nameD_eqq]
    by_cases h : a = [63]
    · subst h; rfl
    · have h1 : (a == [63]) = false := by simpa using h
      have h2 : (a != [63]) = true := by simpa using h
      rw [h1, h2]; rfl
theorem Ev.b64 (G : Gd P mg mb h0) (W : Wl mg mb h0 C) {np pos : Pos} {es : List Expr} {ds : List D} {r : Res} (hk : C.env.kindOf "b64encode" = some .globalImplicit) (ha : EvL P0 w h0 C k σ es ds) (hc : Callable P0 w h0 k (.ref 157) ds r) :
    EvR P0 w h0 C k σ (.Call (.Name "b64encode" np) es [] pos) r := by
  obtain ⟨o, ho, hd⟩ := G.fd (fdE_at P)
  exact Ev.call (Ev.glob hk W.globals (G.gl (glE_at P))) (.inr (.inr ⟨157, o, fdE, rfl, ho, hd⟩)) ha hc
theorem srv_get : ∀ i < 8, ([dI 0, dI 0, dI 0, dI 1, dI 1, dI 2, dI 2, dI 3] : List D)[i]? = some (dI (srvOf i)) := by
  intro i hi
  match i, hi with
  | 0, _ => rfl
  | 1, _ => rfl
  | 2, _ => rfl
  | 3, _ => rfl
  | 4, _ => rfl
  | 5, _ => rfl
  | 6, _ => rfl
  | 7, _ => rfl
theorem slc_cut {l : List Nat} {i j : Nat} (h : j ≤ l.length) (hl : l.length ≤ 100) : Slc P0 w h0 (.str l) (some (i : Int)) (some (j : Int)) (.str ((l.drop i).take (j - i))) := by
  rw [← slc_both l i j h]; exact slc_str (sz (by omega))
theorem slc_cutL {l : List Nat} {i j : Nat} (h : j ≤ l.length) (hl : l.length ≤ 100) : Slc P0 w h0 (.lst (l.map dI)) (some (i : Int)) (some (j : Int)) (nameD ((l.drop i).take (j - i))) := by
  unfold nameD
  rw [List.map_take, List.map_drop, ← slc_both (l.map dI) i j (by rw [List.length_map]; exact h)]; exact slc_lst (sz (by rw [List.length_map]; omega))
theorem cuts_tot {l : List Nat} {k : Nat} (h : l.length = 4) (hk : k < 4) : tot [47] (cuts l k) ≤ 100000 := by
  match l, h, k, hk with
  | [a, b, c, d], _, 0, _ => simp [tot, cuts, pairsOf]
  | [a, b, c, d], _, 1, _ => simp [tot, cuts, pairsOf]
  | [a, b, c, d], _, 2, _ => simp [tot, cuts, pairsOf]
  | [a, b, c, d], _, 3, _ => simp [tot, cuts, pairsOf]
theorem due_get {kind g : Nat} {way line : List Nat} (h : kind < 6) : ∃ p : D, (dueOf kind way g line = .lst [.tup [.str way, p], .str line] ∧ kind < 3 ∧ p = .str [48 + g]) ∨ (dueOf kind way g line = .lst [.str line, .tup [.str way, p]] ∧ ¬ kind < 3 ∧ p = dI g) := by
  unfold dueOf
  by_cases h3 : kind < 3
  · rw [if_pos h3]; exact ⟨_, .inl ⟨rfl, h3, rfl⟩⟩
  · rw [if_neg h3, if_neg (by omega), if_pos h]; exact ⟨_, .inr ⟨rfl, h3, rfl⟩⟩
set_option maxHeartbeats 2000000 in
theorem turn1 (G : Gd P mg mb h0) (Fc : Fc mg mb h0 sc_law C) {ns : List Int} {i : Nat} {n : Int} (hi : i < 8) (hn : ns[i]? = some n) {S N : D} {to li : Addr} {c d e f g h i' j k' l m : Sl} (fr : F13 .un .un c d e f g h i' j k' l m)
    (hR : ∀ σ', St1 S N to li ((lks ns (i + 1)).map toldD) ((lks ns (i + 1)).map linkD) σ' → R (.next σ')) :
    RunC P0 w h0 C (k + 9) (sL S N to li ((lks ns i).map toldD) ((lks ns i).map linkD) (.dat (dI i)) (.dat (.int n)) c d e f g h i' j k' l m) lb1 R := by
  obtain ⟨_, _, fc, fd, fe, ff, fg, fh, fi, fj, fk, fl, fm⟩ := fr
  obtain ⟨a6, F6⟩ := G.at in__law_sixes
  obtain ⟨ac, Fcut⟩ := G.at in__law_cut
  obtain ⟨al, Fl⟩ := G.at in__law_line
  obtain ⟨ah, Fh⟩ := G.at in__law_heard
  obtain ⟨ad, Fd⟩ := G.at in__law_due
  have hsrv := srv_le i
  obtain ⟨hg1, hg2⟩ := goal_le i n
  have hkd := kind_lt n
  have hct := cut_lt n
  have hsx : (sxAt n).length = 4 := rfl
  have hwr : (wrAt n).length = 4 := by unfold wrAt; rw [List.length_map]; exact hsx
  have W := wayOk n
  delta lb1
  with_reducible refine RunC.asg (dI (srvOf i)) (Ev.sub (d := .lst [dI 0, dI 0, dI 0, dI 1, dI 1, dI 2, dI 2, dI 3]) (di := dI i) ?_ (Ev.name (by with_reducible repeat (first | exact List.mem_cons_self | apply List.mem_cons_of_mem))) (itm_lst (by omega) (by omega) ?_)) (by with_reducible repeat (first | exact Upd.dat | exact Upd.un | exact Upd.own | exact Upd.fr (by assumption) | apply Upd.tail)) ?_
  · ((with_reducible repeat' (first | exact Ev.name (by with_reducible repeat (first | exact List.mem_cons_self | apply List.mem_cons_of_mem)) | exact Ev.int | exact EvL.nil | (refine Ev.natE ?_; with_unfolding_all rfl) | (refine Ev.str ?_; with_unfolding_all rfl) | exact Ev.none | exact Ev.bool | exact Ev.nameR (by with_reducible repeat (first | exact List.mem_cons_self | apply List.mem_cons_of_mem)) | refine EvL.c ?_ ?_ | refine Ev.ls ?_ ?_ | refine Ev.tp ?_ ?_ | decide | (simp only [List.length_cons, List.length_nil]; decide))); done)
  · rw [Int.toNat_natCast]; exact srv_get i hi
  with_reducible refine RunC.asg (dI (goalAt i n)) ?_ (by with_reducible repeat (first | exact Upd.dat | exact Upd.un | exact Upd.own | exact Upd.fr (by assumption) | apply Upd.tail)) ?_
  · unfold goalAt
    rw [show n % 12 = n % ((12 : Nat) : Int) from rfl]
    with_reducible exact Ev.addN (Ev.addN (Ev.name (by with_reducible repeat (first | exact List.mem_cons_self | apply List.mem_cons_of_mem))) (Ev.natE (n := 1) (by with_unfolding_all rfl))) (Ev.modN (Ev.modZ (Ev.name (by with_reducible repeat (first | exact List.mem_cons_self | apply List.mem_cons_of_mem))) (Ev.natE (n := 12) (by with_unfolding_all rfl)) (by decide)) (Ev.subN (Ev.natE (n := 4) (by with_unfolding_all rfl)) (Ev.name (by with_reducible repeat (first | exact List.mem_cons_self | apply List.mem_cons_of_mem))) (by omega)) (by omega))
  with_reducible refine RunC.consU (Run1.swap2 (d₁ := dI (kindAt n)) (d₂ := dI (cutAt n)) ?_ (by with_reducible repeat (first | exact Upd.dat | exact Upd.un | exact Upd.own | exact Upd.fr (by assumption) | apply Upd.tail)) (by with_reducible repeat (first | exact Upd.dat | exact Upd.un | exact Upd.own | exact Upd.fr (by assumption) | apply Upd.tail)) ?_ (swapped2 Fc.blk (Fc.kind (by kernel_rfl)) (Fc.kind (by kernel_rfl)) (by with_unfolding_all rfl) (by kernel_rfl) (by with_unfolding_all rfl) (by with_unfolding_all rfl) (by with_unfolding_all rfl)) (by with_unfolding_all rfl))
  · unfold kindAt cutAt
    rw [show n / 12 % 10 = n / ((12 : Nat) : Int) % ((10 : Nat) : Int) from rfl, show n / 120 % 4 = n / ((120 : Nat) : Int) % ((4 : Nat) : Int) from rfl]
    with_reducible exact Ev.tp (EvL.c (Ev.modZ (Ev.divZ (Ev.name (by with_reducible repeat (first | exact List.mem_cons_self | apply List.mem_cons_of_mem))) (Ev.natE (n := 12) (by with_unfolding_all rfl)) (by decide) (by decide)) (Ev.natE (n := 10) (by with_unfolding_all rfl)) (by decide)) (EvL.c (Ev.modZ (Ev.divZ (Ev.name (by with_reducible repeat (first | exact List.mem_cons_self | apply List.mem_cons_of_mem))) (Ev.natE (n := 120) (by with_unfolding_all rfl)) (by decide) (by decide)) (Ev.natE (n := 4) (by with_unfolding_all rfl)) (by decide)) EvL.nil))
  dsimp only
  with_reducible refine RunC.asg (.lst ((sxAt n).map dI)) ?_ (by with_reducible repeat (first | exact Upd.dat | exact Upd.un | exact Upd.own | exact Upd.fr (by assumption) | apply Upd.tail)) ?_
  · unfold sxAt
    rw [show n / 480 = n / ((480 : Nat) : Int) from rfl]
    with_reducible exact Ev.fc Fc.wl F6 (Fc.kind (by kernel_rfl)) (EvL.c (Ev.divZ (Ev.name (by with_reducible repeat (first | exact List.mem_cons_self | apply List.mem_cons_of_mem))) (Ev.natE (n := 480) (by with_unfolding_all rfl)) (by decide) (by decide)) EvL.nil) (fn_sixes (k := k + 6) G F6)
  have hsix : ∀ x ∈ sxAt n, x < 64 := by
    obtain ⟨a, b, c, d, e, ha, hb, hc, hd⟩ := sx_four n
    rw [e]; intro x hx; simp only [List.mem_cons, List.not_mem_nil, or_false] at hx; omega
  with_reducible refine RunC.asg (.str (wrAt n)) ?_ (by with_reducible repeat (first | exact Upd.dat | exact Upd.un | exact Upd.own | exact Upd.fr (by assumption) | apply Upd.tail)) ?_
  · rw [← written_is]
    with_reducible refine Ev.mth (Ev.str (l := []) (by with_unfolding_all rfl)) (EvL.c (CompH.ev (out := ((sxAt n).map fun s => [sgn s]).map .str) ?_ ?_ (by intro _; with_unfolding_all rfl)) EvL.nil) (m_join ?_)
    · have eo : ((sxAt n).map fun s => [sgn s]).map D.str = ((sxAt n).map dI).filterMap gSix := by
        generalize sxAt n = q
        induction q with
        | nil => rfl
        | cons a r ih =>
          rw [List.map_cons, List.map_cons, List.map_cons, List.filterMap_cons, ih]; rfl
      rw [eo]
      with_reducible refine comp1 [("signs", sgD)] ?_ ?_ (EvI.of (Ev.name (by with_reducible repeat (first | exact List.mem_cons_self | apply List.mem_cons_of_mem))) iter_lst) ?_
      · kernel_rfl
      · intro x e hx
        simp only [List.mem_cons, List.not_mem_nil, or_false, Prod.mk.injEq] at hx
        obtain ⟨rfl, rfl⟩ := hx
        exact ⟨.inl (by with_reducible repeat (first | exact List.mem_cons_self | apply List.mem_cons_of_mem)), fun q => by rw [Fc.kind (kd := .cell) (by kernel_rfl)] at q; cases q⟩
      · intro C' hC x hx
        obtain ⟨s, hs, rfl⟩ := List.mem_map.mp hx
        have hs64 := hsix s hs
        show TurnOk _ _ _ _ _ _ _ _ (some (.str [sgn ((s : Int)).toNat]))
        rw [ros_cons, ros_nil, Int.toNat_natCast]
        refine TurnOk.all ?_
        with_reducible refine Ev.sub (d := sgD) (di := dI s) (Ev.nameR (by with_reducible repeat (first | exact List.mem_cons_self | apply List.mem_cons_of_mem))) (Ev.name (by with_reducible repeat (first | exact List.mem_cons_self | apply List.mem_cons_of_mem))) (itm_str (by omega) (by omega) ?_)
        rw [Int.toNat_natCast]
        exact getD_get hs64
    · rw [List.length_map, List.length_map, hsx]; exact sz (by decide)
    · obtain ⟨q0, q1, q2, q3, e, _⟩ := sx_four n
      rw [e]; exact sz (by simp [tot])
  have hlow : ∀ x ∈ wrAt n, x < 128 := fun x hx => by
    obtain ⟨s, hs, rfl⟩ := List.mem_map.mp hx
    exact (sgn_ok s (hsix s hs)).1
  obtain ⟨q0, q1, q2, q3, eq6, b0, b1, b2, b3⟩ := sx_four n
  obtain ⟨ao, Fo, hoct⟩ := fn_octets (w := w) G (ns := sxAt n) hsx hsix (by rw [eq6]; exact tot_lt b0 b1 b2 b3)
  with_reducible refine RunC.ite (c := (wrAt n).map (·.toUInt8) != (wrAt n).map (·.toUInt8)) (EvB.cmp (dl := .bytes ((wrAt n).map (·.toUInt8))) (dr := .bytes ((wrAt n).map (·.toUInt8))) ?_ ?_ ne_bb) ?_ ?_
  · rw [← encoded]
    with_reducible refine Ev.b64 G Fc.wl (Fc.kind (by kernel_rfl)) (EvL.c (Ev.fc Fc.wl Fo (Fc.kind (by kernel_rfl)) (EvL.c (Ev.name (by with_reducible repeat (first | exact List.mem_cons_self | apply List.mem_cons_of_mem))) EvL.nil) (hoct (k + 5))) (EvL.c Ev.bytes EvL.nil)) (fn_b64encode (k := k + 3) G ?_)
    rw [List.length_map]; rfl
  · with_reducible refine Ev.bc (ds := [.lst ((wrAt n).map dI)]) G Fc.wl (v := .type "bytes") (by with_reducible repeat (first | exact List.mem_cons_self | apply List.mem_cons_of_mem)) (Fc.kind (by kernel_rfl)) (EvL.c (CompH.ev (out := (wrAt n).map dI) ?_ ?_ (by intro _; with_unfolding_all rfl)) EvL.nil) ?_
    · have eo : (wrAt n).map dI = ((wrAt n).map fun c => D.str [c]).filterMap gOrd := by
        generalize wrAt n = q
        induction q with
        | nil => rfl
        | cons a r ih => rw [List.map_cons, List.map_cons, List.filterMap_cons, ih]; rfl
      rw [eo]
      with_reducible refine comp1 [] ?_ ?_ (EvI.of (Ev.name (by with_reducible repeat (first | exact List.mem_cons_self | apply List.mem_cons_of_mem))) iter_str) ?_
      · kernel_rfl
      · intro x e hx; cases hx
      · intro C' hC x hx
        obtain ⟨s, hs, rfl⟩ := List.mem_map.mp hx
        show TurnOk _ _ _ _ _ _ _ _ (some (dI s))
        rw [ros_nil]
        refine TurnOk.all ?_
        with_reducible exact Ev.bc G (hC.wl Fc.wl) (v := .builtin "ord") (by with_reducible repeat (first | exact List.mem_cons_self | apply List.mem_cons_of_mem)) (hC.gl (by kernel_rfl)) (EvL.c (Ev.name (by with_reducible repeat (first | exact List.mem_cons_self | apply List.mem_cons_of_mem))) EvL.nil) call_ord
    · rw [List.length_map, hwr]; exact sz (by decide)
    · have e := call_bytes (prog := P0) (w := w) (h0 := h0) (k := k + 8) (ns := (wrAt n).map fun (x : Nat) => (x : Int)) (fun x hx => by
        obtain ⟨y, hy, rfl⟩ := List.mem_map.mp hx
        have := hlow y hy; omega) (by rw [List.length_map, hwr]; exact sz (by decide))
      rw [List.map_map, List.map_map] at e
      rw [show (wrAt n).map (·.toUInt8) = (wrAt n).map ((fun (n : Int) => n.toNat.toUInt8) ∘ fun (x : Nat) => (x : Int)) from List.map_congr_left fun x _ => by simp]
      exact e
  · intro hq; simp at hq
  intro _
  apply RunC.tail
  with_reducible refine RunC.asg (.str (wayAt n)) ?_ (by with_reducible repeat (first | exact Upd.dat | exact Upd.un | exact Upd.own | exact Upd.fr (by assumption) | apply Upd.tail)) ?_
  · unfold wayAt
    with_reducible refine Ev.mth (Ev.str (l := [47]) (by with_unfolding_all rfl)) (EvL.c (d := .lst ((cuts (wrAt n) (cutAt n)).map .str)) ?_ EvL.nil) (m_join ?_)
    · have e := fn_cut (w := w) (k := k + 6) G Fcut hct (d := .str (wrAt n)) (sl := fun i j => .str (((wrAt n).drop i).take (j - i))) fun i j _ h => slc_cut (by omega) (by omega)
      unfold cuts
      rw [List.map_map]
      with_reducible exact Ev.fc Fc.wl Fcut (Fc.kind (by kernel_rfl)) (EvL.c (Ev.name (by with_reducible repeat (first | exact List.mem_cons_self | apply List.mem_cons_of_mem))) (EvL.c (Ev.name (by with_reducible repeat (first | exact List.mem_cons_self | apply List.mem_cons_of_mem))) EvL.nil)) e
    · exact sz (cuts_tot hwr hct)
  with_reducible refine RunC.asg (.str (lineOf (kindAt n) (wayAt n) (goalAt i n))) ?_ (by with_reducible repeat (first | exact Upd.dat | exact Upd.un | exact Upd.own | exact Upd.fr (by assumption) | apply Upd.tail)) ?_
  · with_reducible refine Ev.fc Fc.wl Fl (Fc.kind (by kernel_rfl)) (EvL.c (Ev.name (by with_reducible repeat (first | exact List.mem_cons_self | apply List.mem_cons_of_mem))) (EvL.c (Ev.name (by with_reducible repeat (first | exact List.mem_cons_self | apply List.mem_cons_of_mem))) (EvL.c (d := .str [48 + goalAt i n]) ?_ EvL.nil))) (fn_line (k := k + 8) G Fl hkd (by omega) (by have := W.len; omega))
    rw [← num_goal _ (by omega)]
    with_reducible exact Ev.bc G Fc.wl (v := .type "str") (by with_reducible repeat (first | exact List.mem_cons_self | apply List.mem_cons_of_mem)) (Fc.kind (by kernel_rfl)) (EvL.c (Ev.name (by with_reducible repeat (first | exact List.mem_cons_self | apply List.mem_cons_of_mem))) EvL.nil) (call_str_i (log_goal _ (by omega)))
  obtain ⟨hl5, hl100, hlc⟩ := line_len hkd (g := goalAt i n) (by omega) W
  with_reducible refine RunC.asgC (dueOf (kindAt n) (wayAt n) (goalAt i n) (lineOf (kindAt n) (wayAt n) (goalAt i n))) ?_ (by with_reducible repeat (first | exact Upd.dat | exact Upd.un | exact Upd.own | exact Upd.fr (by assumption) | apply Upd.tail)) ?_
  · rw [← heard_due hkd (by omega) W]
    with_reducible refine Ev.fcC Fc.wl Fh (Fc.kind (by kernel_rfl)) (EvL.c (Ev.name (by with_reducible repeat (first | exact List.mem_cons_self | apply List.mem_cons_of_mem))) (EvL.c (Ev.tp (EvL.c (Ev.name (by with_reducible repeat (first | exact List.mem_cons_self | apply List.mem_cons_of_mem))) (EvL.c (Ev.natE (n := 21) (by with_unfolding_all rfl)) EvL.nil))) EvL.nil)) (fn_heard (k := k + 4) G Fh hl5 (by omega) ?_)
    exact fun h2 _ h5 => line_num hkd (by omega) h2 h5
  refine RunsC.of ?_
  have hshp := due_shp (kind := kindAt n) (g := goalAt i n) hg2 W.low hlc
  have hself := eqq_self hshp
  have hdue : dueOf (kindAt n) (wayAt n) (goalAt i n) (lineOf (kindAt n) (wayAt n) (goalAt i n)) = dueOf (kindAt n) (wayAt n) (goalAt i n) (lineOf (kindAt n) (wayAt n) (goalAt i n)) := rfl
  generalize hL : lineOf (kindAt n) (wayAt n) (goalAt i n) = ln at *
  with_reducible refine Run.ite (c := !(dueOf (kindAt n) (wayAt n) (goalAt i n) ln).eqq (dueOf (kindAt n) (wayAt n) (goalAt i n) ln)) (EvB.cmp (Ev.name (by with_reducible repeat (first | exact List.mem_cons_self | apply List.mem_cons_of_mem))) (Ev.fc Fc.wl Fd (Fc.kind (by kernel_rfl)) (EvL.c (Ev.name (by with_reducible repeat (first | exact List.mem_cons_self | apply List.mem_cons_of_mem))) (EvL.c (Ev.name (by with_reducible repeat (first | exact List.mem_cons_self | apply List.mem_cons_of_mem))) (EvL.c (Ev.name (by with_reducible repeat (first | exact List.mem_cons_self | apply List.mem_cons_of_mem))) (EvL.c (Ev.name (by with_reducible repeat (first | exact List.mem_cons_self | apply List.mem_cons_of_mem))) EvL.nil)))) (fn_due (k := k + 8) G Fd hkd (by omega))) (ne_dd hshp.fit hshp.fit)) ?_ ?_
  · intro hq; rw [hself] at hq; cases hq
  intro _
  apply Run.tail
  with_reducible refine Run.ite (c := decide (kindAt n < 6)) (EvB.cmp (Ev.name (by with_reducible repeat (first | exact List.mem_cons_self | apply List.mem_cons_of_mem))) (Ev.natE (n := 6) (by with_unfolding_all rfl)) ltN) ?_ ?_
  · intro h6
    simp only [decide_eq_true_eq] at h6
    have hls : lks ns (i + 1) = lks ns i ++ [(i, n)] := by
      rw [lks_succ, List.getD_eq_getElem?_getD, hn]
      exact congrArg (lks ns i ++ ·) (if_pos h6)
    obtain ⟨p, hp⟩ := due_get (way := wayAt n) (g := goalAt i n) (line := ln) h6
    have hpi : Callable P0 w h0 (k + 9) (.type "int") [p] (.val (dI (goalAt i n))) := by
      rcases hp with ⟨_, _, rfl⟩ | ⟨_, _, rfl⟩
      · exact call_int_s (int_goal _ (by omega)) (by simp)
      · exact call_int_i
    have hitm : Itm P0 w h0 (dueOf (kindAt n) (wayAt n) (goalAt i n) ln) (dI (kindAt n / 3)) (.tup [.str (wayAt n), p]) := by
      rcases hp with ⟨e, h3, _⟩ | ⟨e, h3, _⟩
      · rw [e, show kindAt n / 3 = 0 by omega]; exact itm_lst (by omega) (by omega) rfl
      · rw [e, show kindAt n / 3 = 1 by omega]; exact itm_lst (by omega) (by omega) rfl
    with_reducible refine Run.cons (Run1.assignTup (Ev.sub (Ev.name (by with_reducible repeat (first | exact List.mem_cons_self | apply List.mem_cons_of_mem))) (Ev.divN (Ev.name (by with_reducible repeat (first | exact List.mem_cons_self | apply List.mem_cons_of_mem))) (Ev.natE (n := 3) (by with_unfolding_all rfl)) (by decide) (by decide)) hitm) (Tgt.tup2 (by with_reducible repeat (first | exact Upd.dat | exact Upd.un | exact Upd.own | exact Upd.fr (by assumption) | apply Upd.tail)) (by with_reducible repeat (first | exact Upd.dat | exact Upd.un | exact Upd.own | exact Upd.fr (by assumption) | apply Upd.tail))) ?_ (by with_unfolding_all rfl) (by with_unfolding_all rfl))
    dsimp only
    have hlen := lks_len ns i
    with_reducible refine Run.cons (Run1.app (toldD (i, n)) (by with_reducible repeat (first | exact List.mem_cons_self | apply List.mem_cons_of_mem)) ?_ (by with_reducible repeat (first | exact Upd.dat | exact Upd.un | exact Upd.own | exact Upd.fr (by assumption) | apply Upd.tail)) ?_ ?_)
    · unfold toldD
      with_reducible exact Ev.tp (EvL.c (Ev.name (by with_reducible repeat (first | exact List.mem_cons_self | apply List.mem_cons_of_mem))) (EvL.c (Ev.name (by with_reducible repeat (first | exact List.mem_cons_self | apply List.mem_cons_of_mem))) (EvL.c (Ev.bc G Fc.wl (v := .type "int") (by with_reducible repeat (first | exact List.mem_cons_self | apply List.mem_cons_of_mem)) (Fc.kind (by kernel_rfl)) (EvL.c (Ev.name (by with_reducible repeat (first | exact List.mem_cons_self | apply List.mem_cons_of_mem))) EvL.nil) hpi) EvL.nil)))
    · rw [List.length_map]; exact sz (by omega)
    dsimp only
    with_reducible refine Run.cons (Run1.app (linkD (i, n)) (by with_reducible repeat (first | exact List.mem_cons_self | apply List.mem_cons_of_mem)) ?_ (by with_reducible repeat (first | exact Upd.dat | exact Upd.un | exact Upd.own | exact Upd.fr (by assumption) | apply Upd.tail)) ?_ ?_)
    · unfold linkD rowD
      with_reducible refine Ev.tp (EvL.c (Ev.name (by with_reducible repeat (first | exact List.mem_cons_self | apply List.mem_cons_of_mem))) (EvL.c (CompH.ev (out := (nmsAt n).map nameD) ?_ ?_ (by intro _; with_unfolding_all rfl)) (EvL.c (Ev.name (by with_reducible repeat (first | exact List.mem_cons_self | apply List.mem_cons_of_mem))) EvL.nil)))
      · unfold nmsAt
        rw [← gNot_row]
        have e := fn_cut (w := w) (k := k + 6) G Fcut hct (d := .lst ((sxAt n).map dI)) (sl := fun i j => nameD (((sxAt n).drop i).take (j - i))) fun i j _ h => slc_cutL (by omega) (by omega)
        rw [show (pairsOf (cutAt n)).map (fun p => nameD (((sxAt n).drop p.1).take (p.2 - p.1))) = (cuts (sxAt n) (cutAt n)).map nameD by unfold cuts; rw [List.map_map]; rfl] at e
        with_reducible refine comp1 [] ?_ ?_ (EvI.of (Ev.fc Fc.wl Fcut (Fc.kind (by kernel_rfl)) (EvL.c (Ev.name (by with_reducible repeat (first | exact List.mem_cons_self | apply List.mem_cons_of_mem))) (EvL.c (Ev.name (by with_reducible repeat (first | exact List.mem_cons_self | apply List.mem_cons_of_mem))) EvL.nil)) e) iter_lst) ?_
        · kernel_rfl
        · intro x e hx; cases hx
        · intro C' hC x hx
          obtain ⟨r, hr, rfl⟩ := List.mem_map.mp hx
          show TurnOk _ _ _ _ _ _ _ _ (if !(nameD r).eqq (nameD [63]) then some (nameD r) else none)
          rw [ros_nil]
          refine TurnOk.iff ?_ fun _ => Ev.name (by with_reducible repeat (first | exact List.mem_cons_self | apply List.mem_cons_of_mem))
          with_reducible refine EvB.cmp (Ev.name (by with_reducible repeat (first | exact List.mem_cons_self | apply List.mem_cons_of_mem))) ?_ (ne_dd (nameD_shp _).fit (nameD_shp _).fit)
          show Ev _ _ _ _ _ _ _ (.lst [dI 63])
          ((with_reducible repeat' (first | exact Ev.name (by with_reducible repeat (first | exact List.mem_cons_self | apply List.mem_cons_of_mem)) | exact Ev.int | exact EvL.nil | (refine Ev.natE ?_; with_unfolding_all rfl) | (refine Ev.str ?_; with_unfolding_all rfl) | exact Ev.none | exact Ev.bool | exact Ev.nameR (by with_reducible repeat (first | exact List.mem_cons_self | apply List.mem_cons_of_mem)) | refine EvL.c ?_ ?_ | refine Ev.ls ?_ ?_ | refine Ev.tp ?_ ?_ | decide | (simp only [List.length_cons, List.length_nil]; decide))); done)
      · have := (nms_ok n).len; rw [List.length_map]; exact sz (by omega)
    · rw [List.length_map]; exact sz (by omega)
    dsimp only
    refine Run.nil (Run.nil (hR _ ?_))
    rw [hls, List.map_append, List.map_append]
    exact ⟨_, _, _, _, _, _, _, _, _, _, _, _, _, ⟨free_dat, free_dat, free_dat, free_dat, free_dat, free_dat, free_dat, free_dat, free_dat, free_dat, free_dat, free_dat, free_dat⟩, rfl⟩
  · intro h6
    simp only [decide_eq_false_iff_not] at h6
    have hls : lks ns (i + 1) = lks ns i := by
      rw [lks_succ, List.getD_eq_getElem?_getD, hn]
      exact (congrArg (lks ns i ++ ·) (if_neg h6)).trans (List.append_nil _)
    refine Run.nil (Run.nil (hR _ ?_))
    rw [hls]
    exact ⟨_, _, _, _, _, _, _, _, _, _, _, _, _, ⟨free_dat, free_dat, free_dat, free_dat, free_dat, free_dat, free_dat, free_dat, free_dat, free_dat, free_dat, fl, fm⟩, rfl⟩
end
section
set_option linter.unusedVariables false
set_option maxRecDepth 100000
variable {w : World} {h0 : Heap} {C : Cx} {k : Nat} {σ σ' : Sto} {R : Out → Prop} {P : Params} {mg mb : Str → Option Value}
noncomputable def gFront (s : Nat) (wl : List (List Row)) : D → Option D
  | .tup [.int a, .str x, .int b] => if decide (a.toNat = s) && !(wl.getD (b.toNat - s - 1) []).isEmpty then some (.str (x ++ ([47] ++ J (lcp (wl.getD (b.toNat - s - 1) []))))) else none
  | _ => none
theorem gFront_is (s : Nat) (wl : List (List Row)) (l : Lk) : gFront s wl (toldD l) = if goes s wl l then some (.str (frontOf s wl l)) else none := rfl
theorem gFront_all (s : Nat) (wl : List (List Row)) : ∀ L : List Lk, (L.map toldD).filterMap (gFront s wl) = (frontsOf s wl L).map .str
  | [] => rfl
  | l :: L => by
    rw [List.map_cons, List.filterMap_cons, gFront_all s wl L, gFront_is]
    unfold frontsOf
    rw [List.filter_cons]
    cases goes s wl l <;> rfl
noncomputable def gWhole (s : Nat) (wl : List (List Row)) : D → List D
  | .tup [.int a, .lst nm, .int b] => if a.toNat = s then (wl.getD (b.toNat - s - 1) []).map fun r => .lst (nm ++ r.map nameD) else []
  | _ => []
theorem gWhole_is (s : Nat) (wl : List (List Row)) (l : Lk) : gWhole s wl (linkD l) = if srvOf l.1 = s then (onAt s wl l).map fun r => .lst ((nmsAt l.2).map nameD ++ r.map nameD) else [] := rfl
theorem gWhole_all (s : Nat) (wl : List (List Row)) : ∀ L : List Lk, (L.map linkD).flatMap (gWhole s wl) = (whole s wl L).map rowD
  | [] => rfl
  | l :: L => by
    rw [List.map_cons, List.flatMap_cons, gWhole_all s wl L, gWhole_is]
    unfold whole
    rw [List.flatMap_cons, List.map_append]
    congr 1
    split
    · rw [List.map_map]; exact List.map_congr_left fun r _ => by simp [rowD]
    · rfl
noncomputable def gApp (nm : List D) : D → Option D
  | .lst r => some (.lst (nm ++ r))
  | _ => none
noncomputable def gNm : D → Option D
  | .lst l => some (.str (l.flatMap fun d => match d with | .int v => [sgn v.toNat] | _ => []))
  | _ => none
theorem gNm_is (n : List Nat) : gNm (nameD n) = some (.str (n.map sgn)) := by
  show some (D.str ((n.map dI).flatMap _)) = _
  congr 2
  induction n with
  | nil => rfl
  | cons a r ih => rw [List.map_cons, List.flatMap_cons, ih]; rfl
theorem gNm_all : ∀ r : Row, (r.map nameD).filterMap gNm = (sg r).map .str
  | [] => rfl
  | n :: r => by rw [List.map_cons, List.filterMap_cons, gNm_all r, gNm_is]; rfl
theorem shp_nil : Shp 1 (.lst []) := shp_lst (n := 0) (l := []) fun d hd => by cases hd
theorem emptyMsg_low : ∀ c ∈ emptyMsg, c < 128 := by decide +kernel
theorem knD_shp {m : Nat} {W : List Row} (h : ∀ r ∈ W, RowOk m r) : Shp 1 (knD W) := by
  unfold knD
  split
  · exact shp_lst (n := 0) fun d hd => by cases List.mem_singleton.mp hd; exact shp_str emptyMsg_low
  · rename_i hW
    refine (shp_str fun c hc => ?_).mono (by omega)
    have hl := lcp_ok hW h
    unfold J at hc
    have key : ∀ ls : List (List Nat), (∀ x ∈ ls, ∀ c ∈ x, c < 128) → ∀ c ∈ jn [47] ls, c < 128 := fun ls => by
      induction ls with
      | nil => intro _ c hc; simp [jn] at hc
      | cons x r ih =>
        intro hx c hc
        cases r with
        | nil => exact hx x (.head _) c hc
        | cons y r =>
          rw [jn] at hc
          rcases List.mem_append.mp hc with hc | hc
          · rcases List.mem_append.mp hc with hc | hc
            · exact hx x (.head _) c hc
            · cases List.mem_singleton.mp hc; decide
          · exact ih (fun z hz => hx z (.tail _ hz)) c hc
    refine key _ (fun x hx c hc => ?_) c hc
    obtain ⟨n, hn, rfl⟩ := List.mem_map.mp hx
    obtain ⟨s, hs, rfl⟩ := List.mem_map.mp hc
    exact (sgn_ok s ((hl.nm n hn).1.six s hs)).1
noncomputable abbrev sM (S N T L : D) (a b : Sl) (sv : D) (d e f g h i j k l m : Sl) (kn wy : D) (fr wh du sh : Sl) : Sto :=
  [("script", .dat S), ("numbers", .dat N), ("signs", .dat sgD), ("told", .dat T), ("links", .dat L), ("place", a), ("number", b), ("server", .dat sv), ("goal", d), ("kind", e), ("cut", f), ("sixes", g), ("written", h), ("way", i), ("line", j), ("heard", k), ("names", l), ("port", m),
    ("known", .dat kn), ("ways", .dat wy), ("fronts", fr), ("whole", wh), ("due", du), ("shared", sh)]
theorem add_rows {x y : List D} (hz : x.length + y.length ≤ 10000) : Bin P0 w h0 (binaryOp .Add) (.lst x) (.lst y) (.lst (x ++ y)) := add_ll (sz (by omega))
set_option maxHeartbeats 2000000 in
theorem turn2 (G : Gd P mg mb h0) (Fc : Fc mg mb h0 sc_law C) {L : List Lk} {wl : List (List Row)} {s m0 B : Nat} (hW : WlOk m0 B wl) (hwl : wl.length = 4 - s) (hs : s ≤ 3) (hL : L.length ≤ 8) (hm : m0 ≤ 12) (hB : B ≤ 512)
    {S N : D} {a b d e f g h i j k' l m fr wh du sh : Sl} (ff : Free fr) (fw : Free wh) (fd : Free du) (fs : Free sh)
    (hR : ∀ fr' wh' du' sh', Free fr' → Free wh' → Free du' → Free sh' → R (.next (sM S N (.lst (L.map toldD)) (.lst (L.map linkD)) a b (dI s) d e f g h i j k' l m (.lst ((whole s wl L :: wl).map knD)) (.lst ((whole s wl L :: wl).map rowsD)) fr' wh' du' sh'))) :
    Run P0 w h0 C (k + 9) (sM S N (.lst (L.map toldD)) (.lst (L.map linkD)) a b (dI s) d e f g h i j k' l m (.lst (wl.map knD)) (.lst (wl.map rowsD)) fr wh du sh) lb2 R := by
  obtain ⟨aj, Fj⟩ := G.at in_join
  obtain ⟨as, Fs⟩ := G.at in__law_shared
  obtain ⟨af, Ff⟩ := G.at in__law_from
  have idx : ∀ q : Lk, srvOf q.1 = s → goalAt q.1 q.2 - s - 1 < wl.length ∧ s < goalAt q.1 q.2 := fun q hq => by
    have := goal_le q.1 q.2; omega
  have hon : ∀ q : Lk, srvOf q.1 = s → wl[goalAt q.1 q.2 - s - 1]? = some (onAt s wl q) := fun q hq => getD_get (idx q hq).1
  have hfl := fronts_len (s := s) (wl := wl) (L := L)
  delta lb2
  with_reducible refine Run.cons (CompH.assign (out := (frontsOf s wl L).map .str) ?_ ?_ (by with_reducible repeat (first | exact Upd.dat | exact Upd.un | exact Upd.own | exact Upd.fr (by assumption) | apply Upd.tail)) ?_ Fc.blk (Fc.kind (by kernel_rfl)) (by with_unfolding_all rfl) (by decide) (by intro _; with_unfolding_all rfl))
  · rw [← gFront_all]
    with_reducible refine comp1 [("known", .lst (wl.map knD)), ("server", dI s), ("ways", .lst (wl.map rowsD))] ?_ ?_ (EvI.of (Ev.name (by with_reducible repeat (first | exact List.mem_cons_self | apply List.mem_cons_of_mem))) iter_lst) ?_
    · kernel_rfl
    · intro x e hx
      simp only [List.mem_cons, List.not_mem_nil, or_false, Prod.mk.injEq] at hx
      rcases hx with ⟨rfl, rfl⟩ | ⟨rfl, rfl⟩ | ⟨rfl, rfl⟩
      · exact ⟨.inl (by with_reducible repeat (first | exact List.mem_cons_self | apply List.mem_cons_of_mem)), fun q => by rw [Fc.kind (kd := .cell) (by kernel_rfl)] at q; cases q⟩
      · exact ⟨.inl (by with_reducible repeat (first | exact List.mem_cons_self | apply List.mem_cons_of_mem)), fun q => by rw [Fc.kind (kd := .cell) (by kernel_rfl)] at q; cases q⟩
      · exact ⟨.inl (by with_reducible repeat (first | exact List.mem_cons_self | apply List.mem_cons_of_mem)), fun q => by rw [Fc.kind (kd := .cell) (by kernel_rfl)] at q; cases q⟩
    · intro C' hC x hx
      obtain ⟨q, hq, rfl⟩ := List.mem_map.mp hx
      rw [gFront_is, ros_cons, ros_cons, ros_cons, ros_nil]
      have i0 : Itm P0 w h0 (toldD q) (.int 0) (dI (srvOf q.1)) := itm_tup (by omega) (by omega) rfl
      have i1 : Itm P0 w h0 (toldD q) (.int 1) (.str (wayAt q.2)) := itm_tup (by omega) (by omega) rfl
      have i2 : Itm P0 w h0 (toldD q) (.int 2) (dI (goalAt q.1 q.2)) := itm_tup (by omega) (by omega) rfl
      refine TurnOk.iff ?_ fun hgo => ?_
      · unfold goes
        rw [show (decide (srvOf q.1 = s) && !(onAt s wl q).isEmpty) = (decide (srvOf q.1 = s) && ((!(rowsD (onAt s wl q)).eqq (.lst [])) && true)) by
          rw [Bool.and_true]; unfold rowsD; rw [eqq_nil, List.isEmpty_map]]
        with_reducible refine EvB.bool (EvA.and (EvB.cmp (Ev.sub (Ev.name (by with_reducible repeat (first | exact List.mem_cons_self | apply List.mem_cons_of_mem))) Ev.int i0) (Ev.nameR (by with_reducible repeat (first | exact List.mem_cons_self | apply List.mem_cons_of_mem))) eqN) fun hsv => EvA.and (EvB.cmp (Ev.sub (Ev.nameR (by with_reducible repeat (first | exact List.mem_cons_self | apply List.mem_cons_of_mem))) (Ev.subN (Ev.subN (Ev.sub (Ev.name (by with_reducible repeat (first | exact List.mem_cons_self | apply List.mem_cons_of_mem))) Ev.int i2) (Ev.nameR (by with_reducible repeat (first | exact List.mem_cons_self | apply List.mem_cons_of_mem))) ?_) (Ev.natE (n := 1) (by with_unfolding_all rfl)) ?_) ?_) ?_ (ne_dd (Shp.fit (n := 3) (rowsD_shp _)) (Shp.fit (n := 1) shp_nil))) fun _ => EvA.nil_and)
        · simp only [decide_eq_true_eq] at hsv; have := idx q hsv; omega
        · simp only [decide_eq_true_eq] at hsv; have := idx q hsv; omega
        · simp only [decide_eq_true_eq] at hsv
          have hgl := goal_le q.1 q.2
          refine itm_lst (by omega) (by omega) ?_
          rw [Int.toNat_natCast, List.getElem?_map, hon q hsv]; rfl
        · ((with_reducible repeat' (first | exact Ev.name (by with_reducible repeat (first | exact List.mem_cons_self | apply List.mem_cons_of_mem)) | exact Ev.int | exact EvL.nil | (refine Ev.natE ?_; with_unfolding_all rfl) | (refine Ev.str ?_; with_unfolding_all rfl) | exact Ev.none | exact Ev.bool | exact Ev.nameR (by with_reducible repeat (first | exact List.mem_cons_self | apply List.mem_cons_of_mem)) | refine EvL.c ?_ ?_ | refine Ev.ls ?_ ?_ | refine Ev.tp ?_ ?_ | decide | (simp only [List.length_cons, List.length_nil]; decide))); done)
      · obtain ⟨hsv, hne⟩ := goes_on hgo
        obtain ⟨ix, ig⟩ := idx q hsv
        have Wq := wayOk q.2
        have hlcp := lcp_ok hne (hW.on q).2
        have hJl := J_len hlcp
        have hJ := J_fst hlcp
        have hkn : knD (onAt s wl q) = .str (J (lcp (onAt s wl q))) := by unfold knD; rw [if_neg hne]
        unfold frontOf
        with_reducible refine Ev.fc (hC.wl Fc.wl) Fj (hC.gl (by kernel_rfl)) (EvL.c (Ev.sub (Ev.name (by with_reducible repeat (first | exact List.mem_cons_self | apply List.mem_cons_of_mem))) Ev.int i1) (EvL.c (Ev.sub (Ev.nameR (by with_reducible repeat (first | exact List.mem_cons_self | apply List.mem_cons_of_mem))) (Ev.subN (Ev.subN (Ev.sub (Ev.name (by with_reducible repeat (first | exact List.mem_cons_self | apply List.mem_cons_of_mem))) Ev.int i2) (Ev.nameR (by with_reducible repeat (first | exact List.mem_cons_self | apply List.mem_cons_of_mem))) (by omega)) (Ev.natE (n := 1) (by with_unfolding_all rfl)) (by omega)) ?_) EvL.nil)) (fn_join (k := k + 5) G Fj Wq.ne Wq.lst hJ (by have := Wq.len; omega) (by omega))
        have hgl := goal_le q.1 q.2
        refine itm_lst (by omega) (by omega) ?_
        rw [Int.toNat_natCast, List.getElem?_map, hon q hsv, ← hkn]; rfl
  · rw [List.length_map]; exact sz (by omega)
  dsimp only
  have hWl : (whole s wl L).length ≤ 4096 := Nat.le_trans (whole_len hW) (Nat.le_trans (Nat.mul_le_mul hL hB) (by decide))
  have hWr := whole_row (s := s) (L := L) hW
  with_reducible refine Run.cons (CompH.assign (out := (whole s wl L).map rowD) ?_ ?_ (by with_reducible repeat (first | exact Upd.dat | exact Upd.un | exact Upd.own | exact Upd.fr (by assumption) | apply Upd.tail)) ?_ Fc.blk (Fc.kind (by kernel_rfl)) (by with_unfolding_all rfl) (by decide) (by intro _; with_unfolding_all rfl))
  · rw [← gWhole_all]
    with_reducible refine comp2 [("server", dI s), ("ways", .lst (wl.map rowsD))] ?_ ?_ (EvI.of (Ev.name (by with_reducible repeat (first | exact List.mem_cons_self | apply List.mem_cons_of_mem))) iter_lst) ?_ (by intro _ _; with_unfolding_all rfl)
    · kernel_rfl
    · intro x e hx
      simp only [List.mem_cons, List.not_mem_nil, or_false, Prod.mk.injEq] at hx
      rcases hx with ⟨rfl, rfl⟩ | ⟨rfl, rfl⟩
      · exact ⟨.inl (by with_reducible repeat (first | exact List.mem_cons_self | apply List.mem_cons_of_mem)), fun q => by rw [Fc.kind (kd := .cell) (by kernel_rfl)] at q; cases q⟩
      · exact ⟨.inl (by with_reducible repeat (first | exact List.mem_cons_self | apply List.mem_cons_of_mem)), fun q => by rw [Fc.kind (kd := .cell) (by kernel_rfl)] at q; cases q⟩
    · intro C' hC x hx sl
      obtain ⟨q, hq, rfl⟩ := List.mem_map.mp hx
      rw [gWhole_is, ros_cons, ros_cons, ros_nil]
      have i0 : Itm P0 w h0 (linkD q) (.int 0) (dI (srvOf q.1)) := itm_tup (by omega) (by omega) rfl
      have i1 : Itm P0 w h0 (linkD q) (.int 1) (.lst ((nmsAt q.2).map nameD)) := itm_tup (by omega) (by omega) rfl
      have i2 : Itm P0 w h0 (linkD q) (.int 2) (dI (goalAt q.1 q.2)) := itm_tup (by omega) (by omega) rfl
      refine ⟨decide (srvOf q.1 = s), EvT.one ?_, fun hf => ?_, fun hsv => ?_⟩
      · with_reducible exact EvB.cmp (Ev.sub (Ev.name (by with_reducible repeat (first | exact List.mem_cons_self | apply List.mem_cons_of_mem))) Ev.int i0) (Ev.nameR (by with_reducible repeat (first | exact List.mem_cons_self | apply List.mem_cons_of_mem))) eqN
      · simp only [decide_eq_false_iff_not] at hf; rw [if_neg hf]
      · simp only [decide_eq_true_eq] at hsv
        obtain ⟨ix, ig⟩ := idx q hsv
        have hgl := goal_le q.1 q.2
        rw [if_pos hsv]
        refine ⟨(onAt s wl q).map rowD, gApp ((nmsAt q.2).map nameD), ?_, ?_, fun e he => ?_⟩
        · rw [List.filterMap_map]
          exact (List.filterMap_eq_map (f := fun r => D.lst ((nmsAt q.2).map nameD ++ List.map nameD r)) ▸ rfl)
        · with_reducible refine EvI.of (Ev.sub (Ev.nameR (by with_reducible repeat (first | exact List.mem_cons_self | apply List.mem_cons_of_mem))) (Ev.subN (Ev.subN (Ev.sub (Ev.name (by with_reducible repeat (first | exact List.mem_cons_self | apply List.mem_cons_of_mem))) Ev.int i2) (Ev.nameR (by with_reducible repeat (first | exact List.mem_cons_self | apply List.mem_cons_of_mem))) (by omega)) (Ev.natE (n := 1) (by with_unfolding_all rfl)) (by omega)) ?_) iter_rows
          refine itm_lst (by omega) (by omega) ?_
          rw [Int.toNat_natCast, List.getElem?_map, hon q hsv]; rfl
        · obtain ⟨r, hr, rfl⟩ := List.mem_map.mp he
          show TurnOk _ _ _ _ _ _ _ _ (some (D.lst ((nmsAt q.2).map nameD ++ r.map nameD)))
          refine TurnOk.all ?_
          have hn := (nms_ok q.2).len
          have hrl := ((hW.on q).2 r hr).len
          with_reducible refine Ev.bin (Ev.sub (Ev.name (by with_reducible repeat (first | exact List.mem_cons_self | apply List.mem_cons_of_mem))) Ev.int i1) (Ev.name (by with_reducible repeat (first | exact List.mem_cons_self | apply List.mem_cons_of_mem))) ?_
          exact add_rows (by rw [List.length_map, List.length_map]; omega)
  · rw [List.length_map]; exact sz (by omega)
  dsimp only
  rw [show D.lst ((whole s wl L).map rowD) = rowsD (whole s wl L) from rfl]
  have hfn := fronts_ok (s := s) (L := L) hW
  have hfn0 := fronts_nil (s := s) (wl := wl) (L := L)
  have hfnc := fronts_cons (s := s) (L := L) hW
  have hWs : (rowsD (whole s wl L)).fit = true := Shp.fit (n := 3) (rowsD_shp _)
  have hKs := knD_shp hWr
  generalize hWW : whole s wl L = W at *
  generalize frontsOf s wl L = F at *
  with_reducible refine Run.asg (.lst [.str emptyMsg]) ?_ (by with_reducible repeat (first | exact Upd.dat | exact Upd.un | exact Upd.own | exact Upd.fr (by assumption) | apply Upd.tail)) ?_
  · exact Ev.ls (EvL.c (Ev.str rfl) EvL.nil)
  with_reducible refine Run.split (fun σ => σ = sM S N (.lst (L.map toldD)) (.lst (L.map linkD)) a b (dI s) d e f g h i j k' l m (.lst (wl.map knD)) (.lst (wl.map rowsD)) (.dat (.lst (F.map .str))) (.dat (rowsD W)) (.dat (knD W)) sh) ?_ ?_
  · with_reducible refine Run1.ite (c := !(rowsD W).eqq (.lst [])) (EvB.cmp (Ev.name (by with_reducible repeat (first | exact List.mem_cons_self | apply List.mem_cons_of_mem))) ?_ (ne_dd hWs (Shp.fit (n := 1) shp_nil))) ?_ ?_
    · ((with_reducible repeat' (first | exact Ev.name (by with_reducible repeat (first | exact List.mem_cons_self | apply List.mem_cons_of_mem)) | exact Ev.int | exact EvL.nil | (refine Ev.natE ?_; with_unfolding_all rfl) | (refine Ev.str ?_; with_unfolding_all rfl) | exact Ev.none | exact Ev.bool | exact Ev.nameR (by with_reducible repeat (first | exact List.mem_cons_self | apply List.mem_cons_of_mem)) | refine EvL.c ?_ ?_ | refine Ev.ls ?_ ?_ | refine Ev.tp ?_ ?_ | decide | (simp only [List.length_cons, List.length_nil]; decide))); done)
    · intro hq
      have hne : W ≠ [] := by
        intro e; rw [e] at hq; cases hq
      have hlok := lcp_ok hne hWr
      have hkn : knD W = .str (jn [47] (sg (lcp W))) := by unfold knD; rw [if_neg hne]; rfl
      with_reducible refine Run.asg (.str (jn [47] (sg (lcp W)))) ?_ (by with_reducible repeat (first | exact Upd.dat | exact Upd.un | exact Upd.own | exact Upd.fr (by assumption) | apply Upd.tail)) ?_
      · with_reducible refine Ev.mth (Ev.str (l := [47]) (by with_unfolding_all rfl)) (EvL.c (CompH.ev (out := (sg (lcp W)).map .str) ?_ ?_ (by intro _; with_unfolding_all rfl)) EvL.nil) (m_join ?_)
        · rw [← gNm_all]
          obtain ⟨r0, rs, eW⟩ := List.exists_cons_of_ne_nil hne
          have hsh : Callable P0 w h0 (k + 9) (.ref as) [rowsD W] (.val (rowD (lcp W))) := by
            rw [eW] at hWl hWr ⊢
            simp only [List.length_cons] at hWl
            exact fn_shared (k := k + 4) G Fs (fun r hr => by have := (hWr r hr).len; omega) (by omega)
          with_reducible refine comp1 [("signs", sgD)] ?_ ?_ (EvI.of (d := rowD (lcp W)) (Ev.fc Fc.wl Fs (Fc.kind (by kernel_rfl)) (EvL.c (Ev.name (by with_reducible repeat (first | exact List.mem_cons_self | apply List.mem_cons_of_mem))) EvL.nil) hsh) ?_) ?_
          · kernel_rfl
          · intro x e hx
            simp only [List.mem_cons, List.not_mem_nil, or_false, Prod.mk.injEq] at hx
            obtain ⟨rfl, rfl⟩ := hx
            exact ⟨.inl (by with_reducible repeat (first | exact List.mem_cons_self | apply List.mem_cons_of_mem)), fun q => by rw [Fc.kind (kd := .cell) (by kernel_rfl)] at q; cases q⟩
          · exact iter_lst
          · intro C' hC x hx
            obtain ⟨n, hn, rfl⟩ := List.mem_map.mp hx
            have hnm := (hlok.nm n hn).1
            rw [gNm_is, ros_cons, ros_nil]
            refine TurnOk.all ?_
            have ejn : jn [] (n.map fun s => [sgn s]) = n.map sgn := by
              rw [jn_nil]
              clear hn hx hnm
              induction n with
              | nil => rfl
              | cons a r ih => simpa using ih
            rw [← ejn]
            with_reducible refine Ev.mth (Ev.str (l := []) (by with_unfolding_all rfl)) (EvL.c (CompH.ev (out := (n.map fun s => [sgn s]).map .str) ?_ ?_ (by intro _; with_unfolding_all rfl)) EvL.nil) (m_join ?_)
            · have eo : (n.map fun s => [sgn s]).map D.str = (n.map dI).filterMap gSix := by
                clear ejn hn hx hnm
                induction n with
                | nil => rfl
                | cons a r ih => rw [List.map_cons, List.map_cons, List.map_cons, List.filterMap_cons, ih]; rfl
              rw [eo]
              with_reducible refine comp1 [("signs", sgD)] ?_ ?_ (EvI.of (d := nameD n) (Ev.name (by with_reducible repeat (first | exact List.mem_cons_self | apply List.mem_cons_of_mem))) ?_) ?_
              · kernel_rfl
              · intro x e hx
                simp only [List.mem_cons, List.not_mem_nil, or_false, Prod.mk.injEq] at hx
                obtain ⟨rfl, rfl⟩ := hx
                exact ⟨.inr (by with_reducible repeat (first | exact List.mem_cons_self | apply List.mem_cons_of_mem)), hC.notLocal (.inl (by kernel_rfl))⟩
              · exact iter_lst
              · intro C2 hC2 x hx
                obtain ⟨v, hv, rfl⟩ := List.mem_map.mp hx
                have hv64 := hnm.six v hv
                show TurnOk _ _ _ _ _ _ _ _ (some (.str [sgn ((v : Int)).toNat]))
                rw [ros_cons, ros_nil, Int.toNat_natCast]
                refine TurnOk.all ?_
                with_reducible refine Ev.sub (d := sgD) (di := dI v) (Ev.nameR (by with_reducible repeat (first | exact List.mem_cons_self | apply List.mem_cons_of_mem))) (Ev.name (by with_reducible repeat (first | exact List.mem_cons_self | apply List.mem_cons_of_mem))) (itm_str (by omega) (by omega) ?_)
                rw [Int.toNat_natCast]
                exact getD_get hv64
            · have := hnm.len; rw [List.length_map, List.length_map]; exact sz (by omega)
            · have := hnm.len
              refine sz ?_
              have e : ∀ z : List Nat, tot [] (z.map fun s => [sgn s]) = z.length := fun z => by
                unfold tot
                induction z with
                | nil => rfl
                | cons a r ih => simp only [List.map_cons, List.sum_cons, List.length_cons, List.length_nil] at ih ⊢; omega
              rw [e]; omega
        · have := hlok.len; rw [List.length_map]; unfold sg; rw [List.length_map]; exact sz (by omega)
        · refine sz ?_
          have h2 : ((sg (lcp W)).map List.length).sum ≤ 4 * (lcp W).length := by
            have : ∀ {l : Row}, (∀ n ∈ l, NmOk n ∧ n ≠ [63]) → ((sg l).map List.length).sum ≤ 4 * l.length := fun {l} => by
              induction l with
              | nil => intro _; simp [sg]
              | cons x l ih =>
                intro hh
                have := ih fun n hn => hh n (.tail _ hn)
                have hx := (sgN_ok (hh x (.head _)).1).2.2.2
                show ((x.map sgn :: sg l).map List.length).sum ≤ _
                rw [List.map_cons, List.sum_cons, List.length_cons]; omega
            exact this hlok.nm
          have h3 : (sg (lcp W)).length = (lcp W).length := List.length_map ..
          have := hlok.len
          unfold tot
          rw [h3, List.length_singleton]; omega
      · refine Run.nil ⟨_, ?_, rfl⟩
        rw [← hkn]
    · intro hq
      have hne : W = [] := by
        cases W with
        | nil => rfl
        | cons r t => cases hq
      refine Run.nil ⟨_, ?_, rfl⟩
      have hkn : knD W = .lst [.str emptyMsg] := by unfold knD; rw [if_pos hne]
      rw [hkn]
  rintro σ rfl
  have hfrom : Callable P0 w h0 (k + 9) (.ref af) [.lst (F.map .str)] (.val (knD W)) := by
    by_cases hne : W = []
    · have hkn : knD W = .lst [.str emptyMsg] := by unfold knD; rw [if_pos hne]
      rw [hkn, hfn0 hne]
      exact fn_from0 G Ff
    · obtain ⟨f0, fs, eF, ej⟩ := hfnc hne
      have hkn : knD W = .str (J (lcp W)) := by unfold knD; rw [if_neg hne]
      rw [hkn, ← ej, eF]
      rw [eF] at hfn hfl
      simp only [List.length_cons] at hfl
      exact fn_from G Ff (fun f hf => ⟨(hfn f hf).1, by have := (hfn f hf).2; omega⟩) (by omega)
  with_reducible refine Run.asg (knD W) (Ev.fc Fc.wl Ff (Fc.kind (by kernel_rfl)) (EvL.c (Ev.name (by with_reducible repeat (first | exact List.mem_cons_self | apply List.mem_cons_of_mem))) EvL.nil) hfrom) (by with_reducible repeat (first | exact Upd.dat | exact Upd.un | exact Upd.own | exact Upd.fr (by assumption) | apply Upd.tail)) ?_
  with_reducible refine Run.ite (c := !(knD W).eqq (knD W)) (EvB.cmp (Ev.name (by with_reducible repeat (first | exact List.mem_cons_self | apply List.mem_cons_of_mem))) (Ev.name (by with_reducible repeat (first | exact List.mem_cons_self | apply List.mem_cons_of_mem))) (ne_dd hKs.fit hKs.fit)) ?_ ?_
  · intro hq; rw [eqq_self hKs] at hq; cases hq
  intro _
  apply Run.tail
  with_reducible refine Run.asg (.lst ([knD W] ++ wl.map knD)) (Ev.bin (Ev.ls (EvL.c (Ev.name (by with_reducible repeat (first | exact List.mem_cons_self | apply List.mem_cons_of_mem))) EvL.nil)) (Ev.name (by with_reducible repeat (first | exact List.mem_cons_self | apply List.mem_cons_of_mem))) ?_) (by with_reducible repeat (first | exact Upd.dat | exact Upd.un | exact Upd.own | exact Upd.fr (by assumption) | apply Upd.tail)) ?_
  · exact add_rows (by rw [List.length_map, List.length_singleton]; omega)
  with_reducible refine Run.asg (.lst ([rowsD W] ++ wl.map rowsD)) (Ev.bin (Ev.ls (EvL.c (Ev.name (by with_reducible repeat (first | exact List.mem_cons_self | apply List.mem_cons_of_mem))) EvL.nil)) (Ev.name (by with_reducible repeat (first | exact List.mem_cons_self | apply List.mem_cons_of_mem))) ?_) (by with_reducible repeat (first | exact Upd.dat | exact Upd.un | exact Upd.own | exact Upd.fr (by assumption) | apply Upd.tail)) ?_
  · exact add_rows (by rw [List.length_map, List.length_singleton]; omega)
  exact Run.nil (hR _ _ _ _ free_dat free_dat free_dat free_dat)
end
section
set_option linter.unusedVariables false
set_option maxRecDepth 100000
variable {w : World} {h0 : Heap} {C : Cx} {k : Nat} {σ σ' : Sto} {R : Out → Prop} {P : Params} {mg mb : Str → Option Value}
theorem Ev.dropL {e i : Expr} {p p' : Pos} {n : Nat} {ds : List D} (h : Ev P0 w h0 C k σ e (.lst ds)) (hi : Ev P0 w h0 C k σ i (dI n)) (hz : ds.length ≤ sizeLine) : Ev P0 w h0 C k σ (.Subscript e (.Slice (.some i) .none .none p') p) (.lst (ds.drop n)) := by
  rw [← slc_drop]; exact Ev.slice h (EvP.some hi) EvP.none (slc_lst hz)
noncomputable def wls (L : List Lk) : Nat → List (List Row)
  | 0 => [[[]]]
  | j + 1 => whole (3 - j) (wls L j) L :: wls L j
theorem wls_ok {L : List Lk} (hL : L.length ≤ 8) : ∀ j, WlOk (4 * j) (8 ^ j) (wls L j) ∧ (wls L j).length = j + 1
  | 0 => ⟨⟨fun w hw => by cases List.mem_singleton.mp hw; decide, fun w hw r hr => by
      cases List.mem_singleton.mp hw; cases List.mem_singleton.mp hr; exact ⟨Nat.le_refl _, fun _ h => nomatch h⟩⟩, rfl⟩
  | j + 1 => by
    obtain ⟨h, hl⟩ := wls_ok hL j
    have h8 : 8 ^ j ≤ 8 ^ (j + 1) := Nat.pow_le_pow_right (by decide) (by omega)
    refine ⟨⟨fun w hw => ?_, fun w hw r hr => ?_⟩, by rw [wls, List.length_cons, hl]⟩
    · rw [wls] at hw
      rcases List.mem_cons.mp hw with rfl | hw
      · refine Nat.le_trans (whole_len h) ?_
        rw [Nat.pow_succ, Nat.mul_comm]; exact Nat.mul_le_mul_left _ hL
      · exact Nat.le_trans (h.len w hw) h8
    · rw [wls] at hw
      rcases List.mem_cons.mp hw with rfl | hw
      · exact whole_row h r hr
      · exact (h.row w hw r hr).mono (by omega)
noncomputable def dflt : List Int := [7692, 99877, 75, 493080, 62, 3624, 495169, 84]
noncomputable def numsOf (script : List Int) : List Int := script.take 8 ++ dflt.drop script.length
theorem nums_len (script : List Int) : (numsOf script).length = 8 := by
  unfold numsOf
  rw [List.length_append, List.length_take, List.length_drop, show dflt.length = 8 from rfl]; omega
noncomputable abbrev sM2 (S N T L : D) (a b c d e f g h i j k l m : Sl) (kn wy : D) (fr wh du sh : Sl) : Sto :=
  [("script", .dat S), ("numbers", .dat N), ("signs", .dat sgD), ("told", .dat T), ("links", .dat L), ("place", a), ("number", b), ("server", c), ("goal", d), ("kind", e), ("cut", f), ("sixes", g), ("written", h), ("way", i), ("line", j), ("heard", k), ("names", l), ("port", m),
    ("known", .dat kn), ("ways", .dat wy), ("fronts", fr), ("whole", wh), ("due", du), ("shared", sh)]
theorem swappedN {x y : Str} {px py tp vp : Pos} {n m : Nat} {e1 e2 : Expr} {env : Env} (hb : env.blockKind = .function) (hx : env.kindOf x = some .cell) (hy : env.kindOf y = some .cell)
    (hs : ([e1, e2].any fun | .Starred .. => true | _ => false) = false) : swappedStores [.Tuple [.Name x px, .Name y py] n tp] (.Tuple [e1, e2] m vp) env = pure none := by
  unfold swappedStores
  simp only [hb, hx, hy, List.length_cons, List.length_nil, bne_self_eq_false, Nat.zero_add, Nat.reduceAdd, beq_self_eq_true, Bool.true_or, Bool.not_true, Bool.or_self, Bool.false_eq_true, if_false, List.filterMap_cons, List.filterMap_nil]
  split
  · rfl
  · rfl
set_option maxHeartbeats 2000000 in
theorem fn_law (G : Gd P mg mb h0) {a : Addr} (F : FnAt mg h0 "law" p_law b_law sc_law a) {script : List Int} (hlen : script.length ≤ 63) : CallableC P0 w h0 (k + 10) (.ref a) [.lst (script.map .int)] (.val (.bool true)) :=
  F.goC G (kw := []) (k := k + 9) (ps := ["script"]) (keys := ["script", "numbers", "signs", "told", "links", "place", "number", "server", "goal", "kind", "cut", "sixes", "written", "way", "line", "heard", "names", "port", "known", "ways", "fronts", "whole", "due", "shared"]) (es := [.lst (script.map .int)]) (by kernel_rfl) (by kernel_rfl) (fun pm code doc => BindsD.plain (fun vs hv => by obtain ⟨v, rfl⟩ := len1 hv; kernel_rfl) rfl)
    (σ₀ := [("script", .dat (.lst (script.map .int))), ("numbers", .un), ("signs", .un), ("told", .un), ("links", .un), ("place", .un), ("number", .un), ("server", .un), ("goal", .un), ("kind", .un), ("cut", .un), ("sixes", .un), ("written", .un), ("way", .un), ("line", .un), ("heard", .un), ("names", .un), ("port", .un), ("known", .un), ("ways", .un), ("fronts", .un), ("whole", .un), ("due", .un), ("shared", .un)]) (by kernel_rfl) fun C Fc => by
    have hnl := nums_len script
    have hsl : (script.map D.int).length = script.length := List.length_map ..
    delta b_law
    with_reducible refine RunC.asg (.lst ((numsOf script).map .int)) ?_ (by with_reducible repeat (first | exact Upd.dat | exact Upd.un | exact Upd.own | exact Upd.fr (by assumption) | apply Upd.tail)) ?_
    · unfold numsOf
      rw [List.map_append, List.map_take, List.map_drop]
      with_reducible refine Ev.bin (Ev.takeL (Ev.name (by with_reducible repeat (first | exact List.mem_cons_self | apply List.mem_cons_of_mem))) (Ev.natE (n := 8) (by with_unfolding_all rfl)) (sz (by omega))) (Ev.dropL (n := script.length) (ds := dflt.map .int) ?_ (Ev.bc G Fc.wl (v := .builtin "len") (by with_reducible repeat (first | exact List.mem_cons_self | apply List.mem_cons_of_mem)) (Fc.kind (by kernel_rfl)) (EvL.c (Ev.name (by with_reducible repeat (first | exact List.mem_cons_self | apply List.mem_cons_of_mem))) EvL.nil) ?_) (by decide)) ?_
      · show Ev _ _ _ _ _ _ _ (.lst [.int 7692, .int 99877, .int 75, .int 493080, .int 62, .int 3624, .int 495169, .int 84])
        ((with_reducible repeat' (first | exact Ev.name (by with_reducible repeat (first | exact List.mem_cons_self | apply List.mem_cons_of_mem)) | exact Ev.int | exact EvL.nil | (refine Ev.natE ?_; with_unfolding_all rfl) | (refine Ev.str ?_; with_unfolding_all rfl) | exact Ev.none | exact Ev.bool | exact Ev.nameR (by with_reducible repeat (first | exact List.mem_cons_self | apply List.mem_cons_of_mem)) | refine EvL.c ?_ ?_ | refine Ev.ls ?_ ?_ | refine Ev.tp ?_ ?_ | decide | (simp only [List.length_cons, List.length_nil]; decide))); done)
      · rw [← hsl]; exact call_len_lst (by omega)
      · exact add_rows (by rw [List.length_take, List.length_drop, List.length_map, List.length_map, show dflt.length = 8 from rfl]; omega)
    with_reducible refine RunC.asg sgD (Ev.str (by with_unfolding_all rfl)) (by with_reducible repeat (first | exact Upd.dat | exact Upd.un | exact Upd.own | exact Upd.fr (by assumption) | apply Upd.tail)) ?_
    with_reducible refine RunC.consU (Run1.newOwn2 (fun to li => ⟨_, _, by ((with_reducible repeat (first | exact Upd.dat | exact Upd.un | exact Upd.own | exact Upd.fr (by assumption) | apply Upd.tail)); done), by ((with_reducible repeat (first | exact Upd.dat | exact Upd.un | exact Upd.own | exact Upd.fr (by assumption) | apply Upd.tail)); done), ?_⟩) (swapped2 Fc.blk (Fc.kind (by kernel_rfl)) (Fc.kind (by kernel_rfl)) (by with_unfolding_all rfl) (by kernel_rfl) (by with_unfolding_all rfl) (by with_unfolding_all rfl) (by with_unfolding_all rfl)))
    dsimp only
    with_reducible refine RunC.split (St1 (.lst (script.map .int)) (.lst ((numsOf script).map .int)) to li ((lks (numsOf script) 8).map toldD) ((lks (numsOf script) 8).map linkD)) ?_ ?_
    · with_reducible refine Run1C.for (fun i σ => St1 (.lst (script.map .int)) (.lst ((numsOf script).map .int)) to li ((lks (numsOf script) i).map toldD) ((lks (numsOf script) i).map linkD) σ) (EvI.enum (G.bn Fc.wl (v := .type "enumerate") (by with_reducible repeat (first | exact List.mem_cons_self | apply List.mem_cons_of_mem)) (Fc.kind (by kernel_rfl))).ev (Ev.name (by with_reducible repeat (first | exact List.mem_cons_self | apply List.mem_cons_of_mem))) (by intro _ _; with_unfolding_all rfl)) ?_ ?_ ?_ (by intro _; with_unfolding_all rfl)
      · exact ⟨_, _, _, _, _, _, _, _, _, _, _, _, _, ⟨free_un, free_un, free_un, free_un, free_un, free_un, free_un, free_un, free_un, free_un, free_un, free_un, free_un⟩, rfl⟩
      · rintro i σ d ⟨a, b, c, d', e, f, g, h, i', j, k', l, m, fr, rfl⟩ hd
        have fra := fr.a
        have frb := fr.b
        rw [enumD_get, List.getElem?_map] at hd
        obtain ⟨x, hx, rfl⟩ := Option.map_eq_some_iff.mp hd
        obtain ⟨n, hn, rfl⟩ := Option.map_eq_some_iff.mp hx
        have hi : i < 8 := by have := (List.getElem?_eq_some_iff.mp hn).1; omega
        rw [Int.zero_add]
        refine ⟨_, Tgt.tup2 (by with_reducible repeat (first | exact Upd.dat | exact Upd.un | exact Upd.own | exact Upd.fr (by assumption) | apply Upd.tail)) (by with_reducible repeat (first | exact Upd.dat | exact Upd.un | exact Upd.own | exact Upd.fr (by assumption) | apply Upd.tail)), ?_⟩
        exact turn1 G Fc hi hn ⟨free_un, free_un, fr.c, fr.d, fr.e, fr.f, fr.g, fr.h, fr.i, fr.j, fr.k, fr.l, fr.m⟩ fun σ' h => h
      · intro σ hσ
        rw [enumD_length, List.length_map, hnl] at hσ
        exact ⟨σ, hσ, rfl⟩
    rintro σ ⟨a, b, c, d, e, f, g, h, i, j, k', l, m, fr, rfl⟩
    refine RunsC.of ?_
    have hL := lks_len (numsOf script) 8
    generalize lks (numsOf script) 8 = L at *
    refine Run.freeze (x := "told") (a := to) (l := L.map toldD) (by with_reducible repeat (first | exact List.mem_cons_self | apply List.mem_cons_of_mem)) (by with_reducible repeat (first | exact Upd.dat | exact Upd.un | exact Upd.own | exact Upd.fr (by assumption) | apply Upd.tail)) ?_
    refine Run.freeze (x := "links") (a := li) (l := L.map linkD) (by with_reducible repeat (first | exact List.mem_cons_self | apply List.mem_cons_of_mem)) (by with_reducible repeat (first | exact Upd.dat | exact Upd.un | exact Upd.own | exact Upd.fr (by assumption) | apply Upd.tail)) ?_
    with_reducible refine Run.cons (Run1.assignTup (d := .tup [.lst [.str []], .lst [.lst [.lst []]]]) ?_ (Tgt.tup2 (by with_reducible repeat (first | exact Upd.dat | exact Upd.un | exact Upd.own | exact Upd.fr (by assumption) | apply Upd.tail)) (by with_reducible repeat (first | exact Upd.dat | exact Upd.un | exact Upd.own | exact Upd.fr (by assumption) | apply Upd.tail))) ?_ (by with_unfolding_all rfl) (swappedN Fc.blk (Fc.kind (by kernel_rfl)) (Fc.kind (by kernel_rfl)) (by with_unfolding_all rfl)))
    · ((with_reducible repeat' (first | exact Ev.name (by with_reducible repeat (first | exact List.mem_cons_self | apply List.mem_cons_of_mem)) | exact Ev.int | exact EvL.nil | (refine Ev.natE ?_; with_unfolding_all rfl) | (refine Ev.str ?_; with_unfolding_all rfl) | exact Ev.none | exact Ev.bool | exact Ev.nameR (by with_reducible repeat (first | exact List.mem_cons_self | apply List.mem_cons_of_mem)) | refine EvL.c ?_ ?_ | refine Ev.ls ?_ ?_ | refine Ev.tp ?_ ?_ | decide | (simp only [List.length_cons, List.length_nil]; decide))); done)
    dsimp only
    have frc := fr.c
    with_reducible refine Run.cons (Run1.for (fun j' σ => j' ≤ 4 ∧ ∃ c fr' wh du sh, Free c ∧ Free fr' ∧ Free wh ∧ Free du ∧ Free sh ∧ σ = sM2 (.lst (script.map .int)) (.lst ((numsOf script).map .int)) (.lst (L.map toldD)) (.lst (L.map linkD)) a b c d e f g h i j k' l m (.lst ((wls L j').map knD)) (.lst ((wls L j').map rowsD)) fr' wh du sh)
      (EvI.of (d := .tup [dI 3, dI 2, dI 1, dI 0]) ?_ iter_tup) ?_ ?_ ?_ (by intro _; with_unfolding_all rfl))
    · ((with_reducible repeat' (first | exact Ev.name (by with_reducible repeat (first | exact List.mem_cons_self | apply List.mem_cons_of_mem)) | exact Ev.int | exact EvL.nil | (refine Ev.natE ?_; with_unfolding_all rfl) | (refine Ev.str ?_; with_unfolding_all rfl) | exact Ev.none | exact Ev.bool | exact Ev.nameR (by with_reducible repeat (first | exact List.mem_cons_self | apply List.mem_cons_of_mem)) | refine EvL.c ?_ ?_ | refine Ev.ls ?_ ?_ | refine Ev.tp ?_ ?_ | decide | (simp only [List.length_cons, List.length_nil]; decide))); done)
    · exact ⟨by omega, _, _, _, _, _, frc, free_un, free_un, free_un, free_un, rfl⟩
    · rintro j' σ x ⟨hj, c, fr', wh, du, sh, fc, ff, fw, fd, fs, rfl⟩ hx
      have hj' : j' < 4 := by have := (List.getElem?_eq_some_iff.mp hx).1; simpa using this
      have hxe : x = dI (3 - j') := by
        match j', hj' with
        | 0, _ => cases hx; rfl
        | 1, _ => cases hx; rfl
        | 2, _ => cases hx; rfl
        | 3, _ => cases hx; rfl
      subst hxe
      obtain ⟨hw, hwl⟩ := wls_ok hL j'
      have hB : 8 ^ j' ≤ 512 := Nat.le_trans (Nat.pow_le_pow_right (by decide) (by omega : j' ≤ 3)) (by decide)
      refine ⟨_, Tgt.name (by with_reducible repeat (first | exact Upd.dat | exact Upd.un | exact Upd.own | exact Upd.fr (by assumption) | apply Upd.tail)), ?_⟩
      refine turn2 G Fc hw (s := 3 - j') (by omega) (by omega) hL (by omega) hB ff fw fd fs fun fr2 wh2 du2 sh2 f1 f2 f3 f4 => ?_
      exact ⟨by omega, _, _, _, _, _, free_dat, f1, f2, f3, f4, rfl⟩
    · intro σ _
      dsimp only
      with_reducible exact Run.rtn (.bool true) Ev.bool rfl
end
section
set_option linter.unusedVariables false
set_option maxRecDepth 100000
variable {w : World} {P : Params} {mg mb : Str → Option Value}
theorem rdL_ints {m : Mem} : ∀ {vs : List Value} {ns : List Int}, IntsAre vs ns → RdL m (ns.map D.int) vs
  | _, _, .nil => rfl
  | _, _, .cons n t h => ⟨_, _, rfl, ⟨t, rfl⟩, rdL_ints h⟩
theorem ok_caller : Ok [] 10 callerA :=
  ⟨fun _ => rfl, rfl, by decide, by decide⟩
/-- what law answers, for the one stack of a claim -/
theorem law_says {s₁ : Shared} (G : Gd P mg mb s₁.heap) (hl : s₁.heap.NoLimit) (tk : 0 < s₁.toks) {fa a : Addr} (F : FnAt mg s₁.heap "law" p_law b_law sc_law fa) {vs : List Value} {ns : List Int}
    (hq : SeqAt s₁.heap.get? "list" a vs) (hi : IntsAre vs ns) (hn : ns.length ≤ 63) :
    wpC (model P0 w) callerA (PySem.call (.ref fa) [.ref a]) (fun v s' => v = .bool true ∧ (∀ b o, s₁.heap.get? b = some o → s'.heap.get? b = some o) ∧ s'.gens = s₁.gens ∧ s'.os = s₁.os) (fun _ _ => False) s₁ := by
  have am : Amb s₁.heap [] s₁.heap.get? s₁ := ⟨fun _ _ e => e, fun _ _ e => e, trivial, (fun _ h => by cases h), tk, hl, trivial⟩
  have h := fn_law (w := w) (k := 0) G F hn [] callerA s₁.heap.get? s₁ [.ref a] ok_caller am ⟨_, [], rfl, ⟨a, vs, rfl, hq, rdL_ints hi⟩, rfl⟩
  exact GvC.then h fun v m' s' g r => ⟨r, fun b o e => g.le b o (g.sub b o e), g.gens, g.os⟩
end
section
open PySem.Calls
set_option linter.unusedVariables false
set_option maxRecDepth 100000
/-- the stack of a claim: its caller alone -/
noncomputable abbrev alone : Ctx := ⟨.builtin "claim.caller" {}, none, none, [], none⟩
theorem alone_on : onK alone := .inl rfl
/-- a claim's thread halts with what the call gives, in the very state that the call leaves, if no generator is there -/
theorem stub_ends {prog : Program} {w : World} {s : Shared} {name : Str} {mg : Str → Option Value} {f : Value} {vs : List Value} {K : Value → Shared → Prop} (hz : s.asleep)
    (hg : s.heap.Ns mainGlobals mg) (hf : mg name = some f)
    (h : wpC (model prog w) callerA (PySem.call f vs) (fun v s' => K v s' ∧ s'.gens = #[]) (fun _ _ => False) s) :
    ∃ n v s', schedN (denote table) prog w n (.single s (callStub name vs)) = .halted (.done (.ret v)) s' ∧ K v s' ∧ s'.gens = #[] ∧ s'.heap.life = s.heap.life := by
  let tree : Sem Fin := do
    match ← nsGet mainNs name with
    | some f => ret (← PySem.call f vs)
    | none => unsupported "claim.caller:no-such-global"
  let R : Result → Shared → Prop := fun r s' => ∃ v, r = .ok (.ret v) ∧ K v s' ∧ s'.gens = #[]
  have ht : wpC (model prog w) callerA tree (fun fin s' => ∃ v, fin = .done (.ret v) ∧ K v s' ∧ s'.gens = #[]) (fun _ _ => False) s := by
    refine wpC_bindU (wpAny_nsGet hg ?_)
    rw [hf]
    exact wpC_bind (wpC_mono h (fun v s' k => wpC_pure ⟨v, rfl, k⟩) fun _ _ k => k)
  have hw : Sem.wp (model prog w) alone tree (Sem.finPost (model prog w) alone fun r s' => R r s' ∧ leftWithCleanup s'.gens = false) (fun e _ s' => R (.error e) s' ∧ leftWithCleanup s'.gens = false) default s := by
    refine Sem.wp_mono _ alone tree (fun fin p s' k => ?_) (fun _ _ _ k => k.elim) default s (ht alone default caller_in alone_on)
    obtain ⟨v, rfl, k, hn⟩ := k
    exact ⟨⟨v, rfl, k, hn⟩, leftWithCleanup_false_of_bare (AllBare.of_eq hn)⟩
  obtain ⟨n, r, s₁, s₂, hs, hr, e, v, rfl, k, hn⟩ := wp_halts_full (M := model prog w) (R := R) hz hw
  obtain rfl := Shared.eq_of_forget_eq e hn
  exact ⟨n, v, _, hs, k, hn, runN_life _ _ _ hr⟩
end
end Mine
namespace Mine
section
set_option maxRecDepth 100000
set_option maxHeartbeats 8000000
theorem toks_ints {R : WRecords} {cl : Str → Option Addr} {P : Params} {ord : List DictEntry → List DictEntry} : ∀ (ns : List Int) (s : Shared) (r : List Value × Shared), layAllW R cl P ord (ofPys (ns.map PyData.int)) s = some r → s.toks ≤ r.2.toks
  | [], s, r, h => by
    simp only [List.map_nil, ofPys, layAllW, Option.some.injEq] at h
    subst h; exact Nat.le_refl _
  | n :: ns, s, r, h => by
    simp only [List.map_cons, ofPys, ofPy, layAllW, layW] at h
    split at h
    · rename_i q hq
      cases h
      exact Nat.le_trans (Nat.le_succ _) (toks_ints ns _ _ hq)
    · cases h
theorem toks_row {R : WRecords} {cl : Str → Option Addr} {P : Params} {ord : List DictEntry → List DictEntry} {ns : List Int} {s s₁ : Shared} {vs : List Value} (h : layAllW R cl P ord [ofPy (.list (ns.map PyData.int))] s = some (vs, s₁)) : s.toks ≤ s₁.toks := by
  simp only [ofPy, layAllW, layW] at h
  split at h
  · rename_i a ha
    split at ha
    · rename_i q hq
      cases ha
      cases h
      exact toks_ints ns s q hq
    · cases ha
  · cases h
theorem post_true {args : List WData} {R : WRecords} : (WShape.has R (WData.bool true) .bool && WTm.holds R (.eq .res (.lit (.bool true))) { args := args, res := some (.bool true), after := args }) = true := by
  simp [WShape.has, WShape.arms, WTm.holds, WTm.value]
  try rfl
  try simp [same]
theorem j_def : defOf P0 "law" = some (⟨"law", p_law, b_law, sc_law, pos_law⟩, []) := by kernel_rfl
theorem j_the : P0.theDef "law" = some (p_law, b_law, sc_law) := by kernel_rfl
theorem j_kw : kwWritten? p_law.kwonlyargs p_law.kw_defaults = some [] := by kernel_rfl
theorem j_chains : chainsOk P0 = true := by kernel_rfl
theorem j_opens : opensWell P0 = true := by kernel_rfl
theorem j_wit : rw0.row.toRowW.promised := by w_witness2
/-- a call of law on a laid list of ints, the world being the one that the text's top leaves -/
theorem law_ends {w : World} {s s₁ : Shared} {args : List WData} {vs : List Value} {as : List Addr} (hz : s₁.asleep) (tk : 0 < s.toks) (low : sysModules < s.heap.objs.size)
    (G : Ground P0 loose0 [] (XL P0 []) w s (s.heap.nsMap mainGlobals) (s.heap.nsMap builtinsNs) s₁.heap) (Y : Hook.says H0 w s₁.heap)
    (hpre : rw0.row.toRowW.claim.pre args = true) (hlay : WData.layableAll args = true) (L : Laid [] w s s₁ args vs as) :
    ∃ n v s', schedN (denote table) P0 w n (.single s₁ (callStub "law" vs)) = .halted (.done (.ret v)) s' ∧
      (v = .bool true ∧ (∀ b o, s₁.heap.get? b = some o → s'.heap.get? b = some o) ∧ s'.os = s₁.os) ∧ s'.gens = #[] ∧ s'.heap.life = s₁.heap.life := by
  have hrd := L.reads
  have hwl := L.well
  have hlo := L.low low
  refine Ground.open G ?_
  intro T B D TE TW
  wrow_args hpre hlay hrd hwl hlo
  clear B D TE TW
  rename_i ns r1 r2 r3 r4 r5 r6 r7 a vs r8 hL r9 hW r10 hI r11 hc r12
  have htk : 0 < s₁.toks := by
    obtain ⟨ord, _, h⟩ := L.laid
    exact Nat.lt_of_lt_of_le tk (toks_row h)
  have W : Gd w.params _ _ s₁.heap := ⟨T.g, T.b, T.fn, T.free, T.builtins, kIn_of Y⟩
  obtain ⟨fa, F⟩ := W.at in_law
  have hq : SeqAt s₁.heap.get? "list" a vs := by
    obtain ⟨o1, e1, c1, n1, d1⟩ := hL
    cases hW with
    | list e2 _ => rw [e2] at e1; cases e1; exact ⟨_, _, e2, rfl, rfl, d1⟩
  exact stub_ends hz T.g F.glob (wpC_mono (law_says (w := w) W T.nolimit htk F hq hI (by omega)) (fun v s' ⟨e, hk, hgn, hos⟩ => ⟨⟨e, hk, hos⟩, hgn.trans L.gens⟩) fun _ _ f => f)
theorem tst : PySem.Challenge.rw_rt0045_01.Holds := by
  w_on
  refine holds_law said fun row => ⟨row, j_wit, ⟨bare0, j_opens, rfl⟩, RowW.promised.witness j_wit, fun w => ?_⟩
  have B := hl.behind (XP := XL P0 []) (fun s e => xl_of s (Bool.and_eq_true_iff.mp e).1) j_chains w
  refine ⟨B.1, fun s hs => ?_⟩
  obtain ⟨s₀, hf, hg0, s₁, hT, hz, hgens, hg, G, y⟩ := B.2 s hs
  have hgens : s₁.gens = #[] := Array.eq_empty_of_size_eq_zero (beq_iff_eq.mp hgens)
  refine ⟨s₀, hf, hg0, s₁, hT, fun n hn => ?_, fun x hx => (nomatch hx), fun x hx => (nomatch hx), fun args hpre hlay ord hord => ?_⟩
  · obtain rfl : n = "law" := List.mem_singleton.mp hn
    exact pinned_of_view hg G j_def j_the j_kw
  obtain ⟨⟨vs, s₂⟩, hlaid⟩ := Option.isSome_iff_exists.mp (layAllW_isSome (P := w.params) (ord := ord) G.has args rw0.row.toRowW.args s₁ (pre_splitW hpre).1)
  have keeps := layAllW_keeps _ _ _ hlaid
  have like := layAllW_rest _ _ _ hlaid
  obtain ⟨as, hrd, hin, hold⟩ := reads_layAllW hord _ _ _ hlaid hlay s₂.heap (fun _ _ e => e)
  have L : Laid [] w s₁ s₂ args vs as := ⟨⟨ord, hord, hlaid⟩, hrd, hin, hold, keeps, like.1.trans hgens, like.2.2.1⟩
  obtain ⟨n, v, s', hn, ⟨rfl, hk, hos⟩, hgn, hlf⟩ := law_ends (Shared.asleep_of_life like.2.2.2 hz) (of_decide_eq_true (congrArg Prod.snd y)) G.low (G.keeps XL.keeps keeps)
    (Hook.keeps H0 _ _ _ (Hook.of H0 w s₁ (congrArg Prod.fst y)) keeps) hpre hlay L
  refine ⟨vs, s₂, hlaid, n, _, s', hn, .inl ⟨.bool true, rfl, fun _ => rfl, ⟨.bool true, args, [], as, .bool true, hrd.keepsK (fun b o e _ => hk b o e), post_true, fun _ => ⟨List.nodup_nil, fun _ h => (nomatch h), fun _ h => (nomatch h)⟩, fun _ _ => ident_freeW rfl rfl rfl _ _⟩,
    fun _ h => (nomatch h), fun b o e _ _ _ => .inl (hk b o e), fun _ h => (nomatch h)⟩, fun _ i x e => ?_, fun h => (nomatch h), ?_, ?_⟩
  · rw [hgens] at e; simp at e
  · rw [hlf, like.2.2.2]
  · exact Shared.rest_eq (hos.trans like.2.2.1)
end
end Mine
theorem PySem.Challenge.cw_rt0045_01_holds : PySem.Challenge.rw_rt0045_01.Holds := by
  exact Mine.tst
