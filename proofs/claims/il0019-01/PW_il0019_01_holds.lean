import PyProof.Rows.All
import Wide.All
import OpenK.AllK
import Wide.FinOn
import Lean
import PySem.Challenge.RW_il0019_01
set_option Elab.async false
set_option linter.all false
section
open PySem PySem.W PyProof.Rows
namespace Mine

/-- values as the proof sees them: no tokens; a list or tuple that nobody changes is its items -/
inductive MV where
  | none
  | bool (b : Bool)
  | int (i : Int)
  | str (x : Str)
  | ref (a : Addr)
  | bi (id : String)
  | ty (n : String)
  | lst (xs : List MV)
  | tup (xs : List MV)

/-- an object that is changed -/
inductive MObj where
  | list (xs : List MV)
  | dict (es : List (Str × MV)) (ep : Nat)
  | ns (es : List (Str × MV))
  | inst (C d : Addr) (vs : List (Option MV))
  | set (S : List Str)
  | iter (a : Addr) (i : Option Nat)
  | raw (o : Obj)

noncomputable abbrev Sg := Addr → Option MObj

noncomputable abbrev listO (its : Array Value) (n : Nat) : Obj := ⟨.type "list", none, .seq its n, #[]⟩
noncomputable abbrev tupO (its : Array Value) (n : Nat) : Obj := ⟨.type "tuple", none, .seq its n, #[]⟩

mutual
noncomputable def VR (h : Heap) (σ : Sg) : MV → Value → Prop
  | .none, v => v = .none
  | .bool b, v => v = .bool b
  | .int i, v => ∃ t, v = .int i t
  | .str x, v => ∃ t, v = .str x t
  | .ref a, v => v = .ref a
  | .bi id, v => v = .builtin id
  | .ty n, v => v = .type n
  | .lst xs, v => ∃ a its n, v = .ref a ∧ σ a = none ∧ h.get? a = some (listO its n) ∧ VRs h σ xs its.toList
  | .tup xs, v => ∃ a its n, v = .ref a ∧ σ a = none ∧ h.get? a = some (tupO its n) ∧ VRs h σ xs its.toList
noncomputable def VRs (h : Heap) (σ : Sg) : List MV → List Value → Prop
  | [], l => l = []
  | x :: xs, l => ∃ v vs, l = v :: vs ∧ VR h σ x v ∧ VRs h σ xs vs
end

/-- an instance's slots -/
noncomputable def VRo (h : Heap) (σ : Sg) : List (Option MV) → List (Option Value) → Prop
  | [], l => l = []
  | none :: xs, l => ∃ r, l = none :: r ∧ VRo h σ xs r
  | some y :: xs, l => ∃ v r, l = some v :: r ∧ VR h σ y v ∧ VRo h σ xs r
/-- an instance's names -/
noncomputable def NR (h : Heap) (σ : Sg) : List (Str × MV) → List DictEntry → Prop
  | [], l => l = []
  | (x, y) :: xs, l => ∃ hsh t v r, l = ⟨hsh, .str x t, v⟩ :: r ∧ VR h σ y v ∧ NR h σ xs r

section vr
variable {h h' : Heap} {σ σ' : Sg}
mutual
theorem VR.mono (k : ∀ a c its n, h.get? a = some ⟨c, none, .seq its n, #[]⟩ → σ a = none → h'.get? a = some ⟨c, none, .seq its n, #[]⟩ ∧ σ' a = none) :
    ∀ {x : MV} {v : Value}, VR h σ x v → VR h' σ' x v
  | .none, _, e => e
  | .bool _, _, e => e
  | .int _, _, e => e
  | .str _, _, e => e
  | .ref _, _, e => e
  | .bi _, _, e => e
  | .ty _, _, e => e
  | .lst _, _, ⟨a, its, n, e, f, g, r⟩ => ⟨a, its, n, e, (k a _ its n g f).2, (k a _ its n g f).1, VRs.mono k r⟩
  | .tup _, _, ⟨a, its, n, e, f, g, r⟩ => ⟨a, its, n, e, (k a _ its n g f).2, (k a _ its n g f).1, VRs.mono k r⟩
theorem VRs.mono (k : ∀ a c its n, h.get? a = some ⟨c, none, .seq its n, #[]⟩ → σ a = none → h'.get? a = some ⟨c, none, .seq its n, #[]⟩ ∧ σ' a = none) :
    ∀ {xs : List MV} {l : List Value}, VRs h σ xs l → VRs h' σ' xs l
  | [], _, e => e
  | _ :: _, _, ⟨v, vs, e, r, q⟩ => ⟨v, vs, e, VR.mono k r, VRs.mono k q⟩
end

theorem VRo.mono (k : ∀ a c its n, h.get? a = some ⟨c, none, .seq its n, #[]⟩ → σ a = none → h'.get? a = some ⟨c, none, .seq its n, #[]⟩ ∧ σ' a = none) :
    ∀ {xs : List (Option MV)} {l : List (Option Value)}, VRo h σ xs l → VRo h' σ' xs l
  | [], _, e => e
  | none :: _, _, ⟨r, e, q⟩ => ⟨r, e, VRo.mono k q⟩
  | some _ :: _, _, ⟨v, r, e, p, q⟩ => ⟨v, r, e, VR.mono k p, VRo.mono k q⟩
theorem NR.mono (k : ∀ a c its n, h.get? a = some ⟨c, none, .seq its n, #[]⟩ → σ a = none → h'.get? a = some ⟨c, none, .seq its n, #[]⟩ ∧ σ' a = none) :
    ∀ {xs : List (Str × MV)} {l : List DictEntry}, NR h σ xs l → NR h' σ' xs l
  | [], _, e => e
  | _ :: _, _, ⟨a, t, v, r, e, p, q⟩ => ⟨a, t, v, r, e, VR.mono k p, NR.mono k q⟩

theorem VRs.length : ∀ {xs : List MV} {l : List Value}, VRs h σ xs l → l.length = xs.length
  | [], _, e => by rw [show _ = [] from e]; rfl
  | _ :: xs, _, ⟨_, _, e, _, q⟩ => by rw [e, List.length_cons, List.length_cons, VRs.length q]
theorem VRs.get : ∀ {xs : List MV} {l : List Value} {i : Nat} {x : MV}, VRs h σ xs l → xs[i]? = some x → ∃ v, l[i]? = some v ∧ VR h σ x v
  | _ :: _, _, 0, _, ⟨v, _, e, r, _⟩, g => by cases g; exact ⟨v, by rw [e]; rfl, r⟩
  | _ :: xs, _, i + 1, _, ⟨_, vs, e, _, q⟩, g => by
    obtain ⟨v, hv, r⟩ := VRs.get (i := i) q (by simpa using g)
    exact ⟨v, by rw [e]; simpa using hv, r⟩
theorem VRs.get' : ∀ {xs : List MV} {l : List Value} {i : Nat} {v : Value}, VRs h σ xs l → l[i]? = some v → ∃ x, xs[i]? = some x ∧ VR h σ x v
  | [], _, i, _, e, g => by rw [show _ = [] from e] at g; cases g
  | x :: _, _, 0, _, ⟨v, _, e, r, _⟩, g => by rw [e] at g; cases g; exact ⟨x, rfl, r⟩
  | _ :: xs, _, i + 1, _, ⟨_, vs, e, _, q⟩, g => by
    rw [e] at g
    obtain ⟨x, hv, r⟩ := VRs.get' (i := i) q (by simpa using g)
    exact ⟨x, by simpa using hv, r⟩
theorem VRs.append : ∀ {xs ys : List MV} {l m : List Value}, VRs h σ xs l → VRs h σ ys m → VRs h σ (xs ++ ys) (l ++ m)
  | [], _, _, _, e, q => by rw [show _ = [] from e]; exact q
  | _ :: _, _, _, _, ⟨v, vs, e, r, q⟩, p => ⟨v, vs ++ _, by rw [e]; rfl, r, VRs.append q p⟩
theorem VRs.single {x : MV} {v : Value} (r : VR h σ x v) : VRs h σ [x] [v] := ⟨v, [], rfl, r, rfl⟩
theorem VRs.push {xs : List MV} {its : Array Value} {x : MV} {v : Value} (q : VRs h σ xs its.toList) (r : VR h σ x v) : VRs h σ (xs ++ [x]) (its.push v).toList := by
  rw [Array.toList_push]; exact q.append (.single r)
theorem VRs.nil : VRs h σ [] [] := rfl
theorem VRs.cons {x : MV} {v : Value} {xs : List MV} {l : List Value} (r : VR h σ x v) (q : VRs h σ xs l) : VRs h σ (x :: xs) (v :: l) := ⟨v, l, rfl, r, q⟩
theorem VRs.set : ∀ {xs : List MV} {l : List Value} {i : Nat} {x : MV} {v : Value}, VRs h σ xs l → VR h σ x v → VRs h σ (xs.set i x) (l.set i v)
  | [], _, _, _, _, e, _ => by rw [show _ = [] from e]; rfl
  | _ :: _, _, 0, _, _, ⟨v, vs, e, _, q⟩, r => by rw [e]; exact ⟨_, vs, rfl, r, q⟩
  | _ :: _, _, i + 1, _, _, ⟨v, vs, e, r', q⟩, r => by rw [e]; exact ⟨v, vs.set i _, rfl, r', VRs.set q r⟩
theorem VRs.take : ∀ {xs : List MV} {l : List Value} (i : Nat), VRs h σ xs l → VRs h σ (xs.take i) (l.take i)
  | _, _, 0, _ => by simp [VRs]
  | [], _, _ + 1, e => by rw [show _ = [] from e]; rfl
  | _ :: _, _, i + 1, ⟨v, vs, e, r, q⟩ => by rw [e]; exact ⟨v, vs.take i, rfl, r, VRs.take i q⟩
theorem VRs.drop : ∀ {xs : List MV} {l : List Value} (i : Nat), VRs h σ xs l → VRs h σ (xs.drop i) (l.drop i)
  | _, _, 0, e => e
  | [], _, _ + 1, e => by rw [show _ = [] from e]; rfl
  | _ :: _, _, i + 1, ⟨v, vs, e, r, q⟩ => by rw [e]; exact VRs.drop i q
theorem VRs.reverse : ∀ {xs : List MV} {l : List Value}, VRs h σ xs l → VRs h σ xs.reverse l.reverse
  | [], _, e => by rw [show _ = [] from e]; rfl
  | _ :: _, _, ⟨v, vs, e, r, q⟩ => by rw [e, List.reverse_cons, List.reverse_cons]; exact (VRs.reverse q).append (.single r)
end vr

/-- how a tracked object lies in the heap -/
noncomputable def OR (prog : Program) (w : World) (h : Heap) (σ : Sg) (a : Addr) : MObj → Prop
  | .list xs => ∃ its n, h.get? a = some (listO its n) ∧ VRs h σ xs its.toList
  | .dict es ep => ∃ kvs, h.DictOf (strKind prog w) a kvs ∧ kvs.map (·.1) = es.map (·.1) ∧ VRs h σ (es.map (·.2)) (kvs.map (·.2)) ∧ ∃ es', h.get? a = some ⟨.type "dict", none, .dict es' ep, #[]⟩
  | .ns es => ∃ ents n, h.get? a = some (dictOf ents n) ∧ NR h σ es ents
  | .inst C d vs => ∃ svs : Array (Option Value), h.get? a = some ⟨.ref C, some d, .plain, svs⟩ ∧ VRo h σ vs svs.toList
  | .set S => h.SetOf (strKind prog w) a (fun k => decide (k ∈ S)) S.length
  | .iter l (some i) => ∃ o, h.get? a = some o ∧ o.cls = .type "list_iterator" ∧ o.data = .fields #[.ref l, .int i 0]
  | .iter _ none => ∃ o, h.get? a = some o ∧ o.cls = .type "list_iterator" ∧ ∃ x, o.data = .fields #[.none, x]
  | .raw o => h.get? a = some o

theorem OR.there {prog : Program} {w : World} {h : Heap} {σ : Sg} {a : Addr} {m : MObj} (x : OR prog w h σ a m) : ∃ o, h.get? a = some o := by
  cases m with
  | list xs => obtain ⟨_, _, e, _⟩ := x; exact ⟨_, e⟩
  | dict es ep => obtain ⟨_, _, _, _, _, e⟩ := x; exact ⟨_, e⟩
  | ns es => obtain ⟨_, _, e, _⟩ := x; exact ⟨_, e⟩
  | inst C d vs => obtain ⟨_, e, _⟩ := x; exact ⟨_, e⟩
  | set S => obtain ⟨o, _, _, _, e, _⟩ := x; exact ⟨o, e⟩
  | iter l i => cases i <;> (obtain ⟨o, e, _⟩ := x; exact ⟨o, e⟩)
  | raw o => exact ⟨_, (x : h.get? a = _)⟩

theorem OR.mono {prog : Program} {w : World} {h h' : Heap} {σ σ' : Sg} {a : Addr} {m : MObj} (x : OR prog w h σ a m) (ka : ∀ o, h.get? a = some o → h'.get? a = some o)
    (k : ∀ a c its n, h.get? a = some ⟨c, none, .seq its n, #[]⟩ → σ a = none → h'.get? a = some ⟨c, none, .seq its n, #[]⟩ ∧ σ' a = none) : OR prog w h' σ' a m := by
  cases m with
  | list xs => obtain ⟨its, n, e, q⟩ := x; exact ⟨its, n, ka _ e, q.mono k⟩
  | dict es ep => obtain ⟨kvs, ⟨o, es', ep', e, r⟩, q, p, es2, e2⟩ := x; exact ⟨kvs, ⟨o, es', ep', ka _ e, r⟩, q, p.mono k, es2, ka _ e2⟩
  | ns es => obtain ⟨ents, n, e, q⟩ := x; exact ⟨ents, n, ka _ e, q.mono k⟩
  | inst C d vs => obtain ⟨svs, e, q⟩ := x; exact ⟨svs, ka _ e, q.mono k⟩
  | set S => obtain ⟨o, es, ep, t, e, r⟩ := x; exact ⟨o, es, ep, t, ka _ e, r⟩
  | iter l i => cases i <;> (obtain ⟨o, e, r⟩ := x; exact ⟨o, ka _ e, r⟩)
  | raw o => exact ka _ x

/-- a frame's names lie in a dict -/
noncomputable def FrO (o : Obj) : Prop := ∃ es ep, o.data = .dict es ep
theorem FrO.seq {c : Value} {d : Option Addr} {its : Array Value} {n : Nat} {sl : Array (Option Value)} : ¬ FrO ⟨c, d, .seq its n, sl⟩ := fun ⟨_, _, e⟩ => by cases e
theorem FrO.fields {o : Obj} {fs : Array Value} (h : o.data = .fields fs) : ¬ FrO o := fun ⟨_, _, e⟩ => by rw [h] at e; cases e
theorem FrO.cell {o : Obj} {v : Option Value} (h : o.data = .cell v) : ¬ FrO o := fun ⟨_, _, e⟩ => by rw [h] at e; cases e
theorem FrO.ns {h : Heap} {L : Addr} {m : Str → Option Value} (hn : h.Ns L m) : ∃ o, h.get? L = some o ∧ FrO o := let ⟨o, es, ep, g, d, _⟩ := hn; ⟨o, g, es, ep, d⟩

/-- the frames that lie below -/
noncomputable def flOf (A : Around) : List Addr := (A.frames.getD []).filterMap (·.frame)

structure Rep (prog : Program) (w : World) (K : Frag) (fl : List Addr) (σ : Sg) (s : Shared) : Prop where
  objs : ∀ a m, σ a = some m → OR prog w s.heap σ a m
  top : K.In s.heap
  low : ∀ a o, K.lookup a = some o → σ a = none
  ff : ∀ L ∈ fl, σ L = none ∧ (∀ o, K.lookup L ≠ some o) ∧ ∃ o, s.heap.get? L = some o ∧ FrO o

/-- what a run leaves alone: all that is neither tracked nor the frame's own -/
structure Step (own : Addr → Prop) (σ : Sg) (s : Shared) (σ' : Sg) (s' : Shared) : Prop where
  keep : ∀ a o, s.heap.get? a = some o → σ a = none → ¬ own a → ¬ FrO o → s'.heap.get? a = some o ∧ σ' a = none
  fr : ∀ a o, s.heap.get? a = some o → σ a = none → ¬ own a → FrO o → σ' a = none ∧ ∃ sl, s'.heap.get? a = some { o with slots := sl }
  os : s'.os = s.os
  gens : s'.gens = s.gens

/-- where frames stay as they are, too -/
theorem Step.of {own : Addr → Prop} {σ σ' : Sg} {s s' : Shared} (k : ∀ a o, s.heap.get? a = some o → σ a = none → ¬ own a → s'.heap.get? a = some o ∧ σ' a = none) (os : s'.os = s.os) (gens : s'.gens = s.gens) : Step own σ s σ' s' :=
  ⟨fun a o e n p _ => k a o e n p, fun a o e n p _ => ⟨(k a o e n p).2, o.slots, (k a o e n p).1⟩, os, gens⟩
theorem Step.refl {own : Addr → Prop} {σ : Sg} {s : Shared} : Step own σ s σ s := .of (fun _ _ e n _ => ⟨e, n⟩) rfl rfl
theorem Step.trans {own : Addr → Prop} {σ σ₁ σ₂ : Sg} {s s₁ s₂ : Shared} (x : Step own σ s σ₁ s₁) (y : Step own σ₁ s₁ σ₂ s₂) : Step own σ s σ₂ s₂ :=
  ⟨fun a o e n p q => y.keep a o (x.keep a o e n p q).1 (x.keep a o e n p q).2 p q, fun a o e n p q => by
    obtain ⟨h1, sl, h2⟩ := x.fr a o e n p q
    obtain ⟨h3, sl', h4⟩ := y.fr a _ h2 h1 p q
    exact ⟨h3, sl', h4⟩, y.os.trans x.os, y.gens.trans x.gens⟩
/-- up to slots, all that is untracked stays -/
theorem Step.some {own : Addr → Prop} {σ σ' : Sg} {s s' : Shared} (x : Step own σ s σ' s') {a : Addr} {o : Obj} (g : s.heap.get? a = .some o) (n : σ a = none) (p : ¬ own a) : σ' a = none ∧ ∃ sl, s'.heap.get? a = .some { o with slots := sl } := by
  by_cases q : FrO o
  · exact x.fr a o g n p q
  · exact ⟨(x.keep a o g n p q).2, o.slots, (x.keep a o g n p q).1⟩

noncomputable def own (e : Env) (a : Addr) : Prop := a = e.locals ∨ ∃ p ∈ e.cells, p.2 = a
noncomputable def no0 (_ : Addr) : Prop := False

structure FrE (e : Env) : Prop where
  kind : e.scope.kind = .function
  globals : e.globals = mainGlobals
  builtins : e.builtins = builtinsNs
  apart : e.cells.Pairwise fun x y => x.2 ≠ y.2

noncomputable abbrev Vars := List (Str × MV)

structure RepF (prog : Program) (w : World) (K : Frag) (fl : List Addr) (e : Env) (fr : Vars) (σ : Sg) (s : Shared) : Prop extends Rep prog w K fl σ s where
  loc : ∃ m, s.heap.Ns e.locals m ∧ ∀ x y, fr.lookup x = some y → e.kindOf x = some .local → ∃ v, m x = some v ∧ VR s.heap σ y v
  cel : ∀ p ∈ e.cells, ∃ ov, s.heap.IsCell p.2 ov
  celv : ∀ x y, fr.lookup x = some y → (e.kindOf x = some .cell ∨ e.kindOf x = some .free) → ∃ c v, e.cells.lookup x = some c ∧ s.heap.IsCell c (some v) ∧ VR s.heap σ y v
  off : ∀ a, own e a → σ a = none
  offK : ∀ a o, own e a → K.lookup a = some o → False

section rep
variable {prog : Program} {w : World} {K : Frag} {fl : List Addr} {e : Env} {fr : Vars} {σ σ' : Sg} {s s' : Shared}

theorem RepF.notOwn (x : RepF prog w K fl e fr σ s) {a : Addr} {c : Value} {d : Option Addr} {its : Array Value} {n : Nat} {sl : Array (Option Value)} (g : s.heap.get? a = some ⟨c, d, .seq its n, sl⟩) : ¬ own e a := by
  rintro (rfl | ⟨p, hp, rfl⟩)
  · obtain ⟨m, ⟨o, es, ep, ho, hd, _⟩, _⟩ := x.loc
    rw [g] at ho; cases ho; cases hd
  · obtain ⟨ov, o, ho, hd⟩ := x.cel p hp
    rw [g] at ho; cases ho; cases hd

theorem RepF.keepSeq (x : RepF prog w K fl e fr σ s) (t : Step (own e) σ s σ' s') : ∀ a c its n, s.heap.get? a = some ⟨c, none, .seq its n, #[]⟩ → σ a = none → s'.heap.get? a = some ⟨c, none, .seq its n, #[]⟩ ∧ σ' a = none :=
  fun a _ _ _ g h => t.keep a _ g h (x.notOwn g) FrO.seq
theorem RepF.vr (x : RepF prog w K fl e fr σ s) (t : Step (own e) σ s σ' s') {y : MV} {v : Value} (r : VR s.heap σ y v) : VR s'.heap σ' y v := r.mono (x.keepSeq t)
theorem RepF.vrs (x : RepF prog w K fl e fr σ s) (t : Step (own e) σ s σ' s') {y : List MV} {v : List Value} (r : VRs s.heap σ y v) : VRs s'.heap σ' y v := r.mono (x.keepSeq t)

/-- nothing known is lost: new objects, tokens -/
structure Ext (s s' : Shared) : Prop where
  keep : ∀ a o, s.heap.get? a = some o → s'.heap.get? a = some o
  os : s'.os = s.os
  gens : s'.gens = s.gens
theorem Ext.refl : Ext s s := ⟨fun _ _ e => e, rfl, rfl⟩
theorem Ext.tok {n : Nat} : Ext s { s with toks := n } := ⟨fun _ _ e => e, rfl, rfl⟩
theorem Ext.trans {s₁ s₂ s₃ : Shared} (x : Ext s₁ s₂) (y : Ext s₂ s₃) : Ext s₁ s₃ := ⟨fun a o e => y.keep a o (x.keep a o e), y.os.trans x.os, y.gens.trans x.gens⟩
theorem Ext.push {o : Obj} {n : Nat} : Ext s { s with heap := s.heap.push o, toks := n } := ⟨fun _ _ e => Heap.get?_push_of_some _ e, rfl, rfl⟩
theorem Ext.step {own : Addr → Prop} (x : Ext s s') : Step own σ s σ s' := .of (fun a o g n _ => ⟨x.keep a o g, n⟩) x.os x.gens
theorem Rep.ext (x : Rep prog w K fl σ s) (t : Ext s s') : Rep prog w K fl σ s' :=
  ⟨fun a m q => (x.objs a m q).mono (t.keep a) fun _ _ _ _ g n => ⟨t.keep _ _ g, n⟩, x.top.keeps t.keep, x.low, fun L hL => let ⟨h1, h2, o, h3, h4⟩ := x.ff L hL; ⟨h1, h2, o, t.keep _ _ h3, h4⟩⟩
theorem RepF.ext (x : RepF prog w K fl e fr σ s) (t : Ext s s') : RepF prog w K fl e fr σ s' := by
  refine ⟨x.toRep.ext t, ?_, ?_, ?_, x.off, x.offK⟩
  · obtain ⟨m, hn, hm⟩ := x.loc
    exact ⟨m, hn.keeps t.keep, fun y z q k => let ⟨v, p, r⟩ := hm y z q k; ⟨v, p, r.mono fun _ _ _ _ g n => ⟨t.keep _ _ g, n⟩⟩⟩
  · exact fun p hp => let ⟨ov, c⟩ := x.cel p hp; ⟨ov, c.keeps t.keep⟩
  · exact fun y z q k => let ⟨c, v, p, i, r⟩ := x.celv y z q k; ⟨c, v, p, i.keeps t.keep, r.mono fun _ _ _ _ g n => ⟨t.keep _ _ g, n⟩⟩

noncomputable def Sg.set (σ : Sg) (a : Addr) (m : MObj) : Sg := fun b => if b = a then some m else σ b
@[simp] theorem Sg.set_same (σ : Sg) (a : Addr) (m : MObj) : σ.set a m a = some m := if_pos rfl
theorem Sg.set_ne (σ : Sg) {a b : Addr} (m : MObj) (h : b ≠ a) : σ.set a m b = σ b := if_neg h
theorem Sg.set_set (σ : Sg) (a : Addr) (m m' : MObj) : (σ.set a m).set a m' = σ.set a m' := by
  funext b; unfold Sg.set; split <;> rfl
theorem Sg.set_none (σ : Sg) {a b : Addr} {m m₀ : MObj} (h : σ a = some m₀) : σ.set a m b = none ↔ σ b = none := by
  unfold Sg.set
  by_cases q : b = a
  · subst q; simp [h]
  · rw [if_neg q]
theorem Sg.set_none' (σ : Sg) {a b : Addr} {m : MObj} (h : b ≠ a) (n : σ b = none) : σ.set a m b = none := (Sg.set_ne σ m h).trans n

/-- one tracked object is changed, all else stays; the frame's names stay as they read -/
theorem RepF.updL (x : RepF prog w K fl e fr σ s) {a : Addr} {m m' : MObj} (ha : σ a = some m) (k : ∀ b o, b ≠ a → b ≠ e.locals → s.heap.get? b = some o → s'.heap.get? b = some o) (kL : ∀ f, s.heap.Ns e.locals f → s'.heap.Ns e.locals f)
    (os : s'.os = s.os) (gens : s'.gens = s.gens) (n : OR prog w s'.heap (σ.set a m') a m') : RepF prog w K fl e fr (σ.set a m') s' ∧ Step (own e) σ s (σ.set a m') s' := by
  have kk : ∀ b o, s.heap.get? b = some o → σ b = none → b ≠ e.locals → s'.heap.get? b = some o ∧ σ.set a m' b = none := fun b o g q hL =>
    have : b ≠ a := fun e => by rw [e, ha] at q; cases q
    ⟨k b o this hL g, Sg.set_none' σ this q⟩
  have ks : ∀ b c its n, s.heap.get? b = some ⟨c, none, .seq its n, #[]⟩ → σ b = none → s'.heap.get? b = some ⟨c, none, .seq its n, #[]⟩ ∧ σ.set a m' b = none := fun b c its n g q => kk b _ g q fun e' => x.notOwn g (.inl e')
  have kc : ∀ (p : Str × Addr) ov, p ∈ e.cells → s.heap.IsCell p.2 ov → s'.heap.IsCell p.2 ov := fun p ov hp ⟨o, g, d⟩ => ⟨o, (kk _ _ g (x.off _ (.inr ⟨p, hp, rfl⟩)) fun e' => by
    obtain ⟨f, ⟨o', _, _, g', d', _⟩, _⟩ := x.loc
    rw [e', g'] at g; cases g; rw [d] at d'; cases d').1, d⟩
  refine ⟨⟨⟨fun b mb hb => ?_, fun b o g => (kk b o (x.top b o g) (x.low b o g) fun e' => x.offK b o (.inl e') g).1, fun b o g => Sg.set_none' σ (fun e' => by have := x.low b o g; rw [e', ha] at this; cases this) (x.low b o g), fun L hL => ?_⟩, ?_, ?_, ?_, fun b hb => ?_, x.offK⟩,
    .of (fun b o g q p => kk b o g q fun e' => p (.inl e')) os gens⟩
  · by_cases q : b = a
    · subst q; rw [Sg.set_same] at hb; cases hb; exact n
    · rw [Sg.set_ne σ m' q] at hb
      exact (x.objs b mb hb).mono (fun o g => k b o q (fun e' => by have := x.off b (.inl e'); rw [hb] at this; cases this) g) ks
  · obtain ⟨h1, h2, o, h3, h4⟩ := x.ff L hL
    by_cases eL : L = e.locals
    · subst eL
      obtain ⟨f, hn, _⟩ := x.loc
      exact ⟨Sg.set_none' σ (fun e' => by rw [e', ha] at h1; cases h1) h1, h2, FrO.ns (kL f hn)⟩
    · exact ⟨(kk L o h3 h1 eL).2, h2, o, (kk L o h3 h1 eL).1, h4⟩
  · obtain ⟨f, hn, hm⟩ := x.loc
    exact ⟨f, kL f hn, fun y z q k => let ⟨v, p, r⟩ := hm y z q k; ⟨v, p, r.mono ks⟩⟩
  · exact fun p hp => let ⟨ov, c⟩ := x.cel p hp; ⟨ov, kc p ov hp c⟩
  · exact fun y z q k => let ⟨c, v, p, i, r⟩ := x.celv y z q k; ⟨c, v, p, kc (y, c) _ (mem_of_lookup p) i, r.mono ks⟩
  · have hb' := x.off b hb
    exact Sg.set_none' σ (fun e => by rw [e, ha] at hb'; cases hb') hb'
theorem RepF.upd (x : RepF prog w K fl e fr σ s) {a : Addr} {m m' : MObj} (ha : σ a = some m) (k : ∀ b o, b ≠ a → s.heap.get? b = some o → s'.heap.get? b = some o) (os : s'.os = s.os) (gens : s'.gens = s.gens)
    (n : OR prog w s'.heap (σ.set a m') a m') : RepF prog w K fl e fr (σ.set a m') s' ∧ Step (own e) σ s (σ.set a m') s' :=
  x.updL ha (fun b o p _ g => k b o p g) (fun f ⟨o, es, ep, g, r⟩ => ⟨o, es, ep, k _ _ (fun e' => by have := x.off e.locals (.inl rfl); rw [e', ha] at this; cases this) g, r⟩) os gens n

/-- a new tracked object at a place where none was -/
theorem RepF.new (x : RepF prog w K fl e fr σ s) {a : Addr} {m' : MObj} (ha : ∀ o, s.heap.get? a ≠ some o) (k : ∀ b o, s.heap.get? b = some o → s'.heap.get? b = some o) (os : s'.os = s.os) (gens : s'.gens = s.gens)
    (n : OR prog w s'.heap (σ.set a m') a m') : RepF prog w K fl e fr (σ.set a m') s' ∧ Step (own e) σ s (σ.set a m') s' := by
  have kk : ∀ b o, s.heap.get? b = some o → σ b = none → s'.heap.get? b = some o ∧ σ.set a m' b = none := fun b o g q =>
    have : b ≠ a := fun e => by rw [e] at g; exact ha _ g
    ⟨k b o g, Sg.set_none' σ this q⟩
  refine ⟨⟨⟨fun b mb hb => ?_, fun b o g => (kk b o (x.top b o g) (x.low b o g)).1, fun b o g => (kk b o (x.top b o g) (x.low b o g)).2, fun L hL => ?_⟩, ?_, ?_, ?_, fun b hb => ?_, x.offK⟩, .of (fun b o g q _ => kk b o g q) os gens⟩
  · by_cases q : b = a
    · subst q; rw [Sg.set_same] at hb; cases hb; exact n
    · rw [Sg.set_ne σ m' q] at hb
      exact (x.objs b mb hb).mono (fun o g => k b o g) fun _ _ _ _ g z => kk _ _ g z
  · obtain ⟨h1, h2, o, h3, h4⟩ := x.ff L hL
    exact ⟨(kk L o h3 h1).2, h2, o, (kk L o h3 h1).1, h4⟩
  · obtain ⟨f, hn, hm⟩ := x.loc
    refine ⟨f, ?_, fun y z q k => let ⟨v, p, r⟩ := hm y z q k; ⟨v, p, r.mono fun _ _ _ _ g n => kk _ _ g n⟩⟩
    obtain ⟨o, es, ep, g, r⟩ := hn
    exact ⟨o, es, ep, k _ _ g, r⟩
  · exact fun p hp => let ⟨ov, o, g, r⟩ := x.cel p hp; ⟨ov, o, k _ _ g, r⟩
  · exact fun y z q k' => let ⟨c, v, p, ⟨o, g, i⟩, r⟩ := x.celv y z q k'; ⟨c, v, p, ⟨o, k _ _ g, i⟩, r.mono fun _ _ _ _ g n => kk _ _ g n⟩
  · have hb' := x.off b hb
    refine Sg.set_none' σ (fun e' => ?_) hb'
    subst e'
    rcases hb with rfl | ⟨p, hp, rfl⟩
    · obtain ⟨_, ⟨o, _, _, g, _⟩, _⟩ := x.loc; exact ha o g
    · obtain ⟨_, o, g, _⟩ := x.cel p hp; exact ha o g
end rep

/-- room below: no exception at hand, frames and C room to spare -/
structure AOK (n : Nat) (A : Around) : Prop where
  depth : A.depth + n < recursionLimit
  units : A.units + 20 * n + 100 < cLine
  frs : ∃ l, A.frames = some l ∧ ∀ e ∈ l, e.scope.kind ≠ .module ∧ ∃ L, e.frame = some L

theorem AOK.le {n m : Nat} {A : Around} (x : AOK n A) (h : m ≤ n) : AOK m A := ⟨by have := x.depth; omega, by have := x.units; omega, x.frs⟩
theorem AOK.deeper {n : Nat} {A : Around} {e : Env} (x : AOK (n + 1) A) (hk : e.scope.kind = .function) (hf : ∃ L, e.frame = some L) : AOK n (A.deeper e) :=
  ⟨by show A.depth + 1 + n < _; have := x.depth; omega, by show A.units + 3 + 20 * n + 100 < _; have := x.units; omega, by
    obtain ⟨l, h1, h2⟩ := x.frs
    refine ⟨e :: l, by show A.frames.map (e :: ·) = _; rw [h1]; rfl, fun e' he' => ?_⟩
    rcases List.mem_cons.mp he' with rfl | he'
    · exact ⟨by rw [hk]; decide, hf⟩
    · exact h2 e' he'⟩
theorem AOK.fl {n : Nat} {A : Around} {e : Env} {L : Addr} (x : AOK n A) (hf : e.frame = some L) : flOf (A.deeper e) = L :: flOf A := by
  obtain ⟨l, h1, _⟩ := x.frs
  unfold flOf Around.deeper
  rw [h1]
  show ((some (e :: l)).getD []).filterMap _ = L :: ((some l).getD []).filterMap _
  rw [Option.getD_some, Option.getD_some, List.filterMap_cons, hf]
theorem AOK.room {n : Nat} {A : Around} (x : AOK n A) : A.depth < recursionLimit := by have := x.depth; omega
theorem AOK.c {n : Nat} {A : Around} (x : AOK n A) : A.units < cLine := by have := x.units; omega
theorem AOK.caller : AOK 200 callerA := ⟨by decide, by decide, [], rfl, fun _ h => absurd h List.not_mem_nil⟩

section judge
variable (prog : Program) (w : World) (K : Frag)

/-- an expression's tree from the state fr, σ: it ends, and its value and the store behind it meet R -/
noncomputable def Ev (A : Around) (e : Env) (fr : Vars) (σ : Sg) (t : Sem Value) (R : MV → Sg → Prop) : Prop :=
  ∀ s, RepF prog w K (flOf A) e fr σ s → wpAny (model prog w) A t (fun v s' => ∃ y σ', RepF prog w K (flOf A) e fr σ' s' ∧ Step (own e) σ s σ' s' ∧ VR s'.heap σ' y v ∧ R y σ') (fun _ _ => False) s

/-- it yields y and changes nothing -/
noncomputable def Ep (A : Around) (e : Env) (fr : Vars) (σ : Sg) (t : Sem Value) (y : MV) : Prop :=
  ∀ s, RepF prog w K (flOf A) e fr σ s → wpAny (model prog w) A t (fun v s' => Ext s s' ∧ VR s'.heap σ y v) (fun _ _ => False) s

/-- the same of a test -/
noncomputable def Tv (A : Around) (e : Env) (fr : Vars) (σ : Sg) (t : Sem Bool) (R : Bool → Sg → Prop) : Prop :=
  ∀ s, RepF prog w K (flOf A) e fr σ s → wpAny (model prog w) A t (fun b s' => ∃ σ', RepF prog w K (flOf A) e fr σ' s' ∧ Step (own e) σ s σ' s' ∧ R b σ') (fun _ _ => False) s
noncomputable def Tp (A : Around) (e : Env) (fr : Vars) (σ : Sg) (t : Sem Bool) (b : Bool) : Prop :=
  ∀ s, RepF prog w K (flOf A) e fr σ s → wpAny (model prog w) A t (fun b' s' => Ext s s' ∧ b' = b) (fun _ _ => False) s

inductive MF where
  | next | brk | cont
  | ret (y : MV)
noncomputable def FlR (h : Heap) (σ : Sg) : MF → Flow → Prop
  | .next, f => f = .next
  | .brk, f => f = .brk
  | .cont, f => f = .cont
  | .ret y, f => ∃ v, f = .ret v ∧ VR h σ y v

/-- statements -/
noncomputable def Ex (A : Around) (e : Env) (fr : Vars) (σ : Sg) (t : Sem Flow) (R : MF → Vars → Sg → Prop) : Prop :=
  ∀ s, RepF prog w K (flOf A) e fr σ s → wpAny (model prog w) A t (fun f s' => ∃ f' fr' σ', RepF prog w K (flOf A) e fr' σ' s' ∧ Step (own e) σ s σ' s' ∧ FlR s'.heap σ' f' f ∧ R f' fr' σ') (fun _ _ => False) s

/-- a call of a def: from the store σ with the values ys -/
noncomputable def Fn (n : Nat) (f : Value) (ys : List MV) (σ : Sg) (R : MV → Sg → Prop) : Prop :=
  ∀ A s vs, AOK n A → A.handled = none → Rep prog w K (flOf A) σ s → VRs s.heap σ ys vs →
    codeAny (model prog w) A (.call f ⟨vs, []⟩) (fun r s' => ∃ v y σ', r = .ok (.ret v) ∧ Rep prog w K (flOf A) σ' s' ∧ Step no0 σ s σ' s' ∧ VR s'.heap σ' y v ∧ R y σ') s
end judge
end Mine

end
section
open PySem PySem.W PyProof.Rows
namespace Mine

theorem hideI {α β : Type} (P : α → β → Prop) : ∃ I : α → β → Prop, (∀ a b, P a b → I a b) ∧ ∀ a b, I a b → P a b := ⟨P, fun _ _ h => h, fun _ _ h => h⟩
noncomputable def gl (K : Frag) (x : Str) : Option Value := match nsIn K mainGlobals x with
  | some (some v) => some v
  | some none => (nsIn K builtinsNs x).join
  | none => none

/-- a value that is one thing at every heap -/
noncomputable def VC (y : MV) (v : Value) : Prop := ∀ h σ, VR h σ y v

section
variable {prog : Program} {w : World} {K : Frag} {A : Around} {e : Env} {fr : Vars} {σ : Sg}

noncomputable def O1 (prog : Program) (w : World) (K : Frag) (A : Around) (σ : Sg) (t : Value → Sem Value) (a c : MV) : Prop :=
  ∀ s va, Rep prog w K (flOf A) σ s → VR s.heap σ a va → wpAny (model prog w) A (t va) (fun v s' => Ext s s' ∧ VR s'.heap σ c v) (fun _ _ => False) s
noncomputable def O2 (prog : Program) (w : World) (K : Frag) (A : Around) (σ : Sg) (t : Value → Value → Sem Value) (a b c : MV) : Prop :=
  ∀ s va vb, Rep prog w K (flOf A) σ s → VR s.heap σ a va → VR s.heap σ b vb → wpAny (model prog w) A (t va vb) (fun v s' => Ext s s' ∧ VR s'.heap σ c v) (fun _ _ => False) s
noncomputable def OT (prog : Program) (w : World) (K : Frag) (A : Around) (σ : Sg) (a : MV) (b : Bool) : Prop :=
  ∀ s va, Rep prog w K (flOf A) σ s → VR s.heap σ a va → wpAny (model prog w) A (truthy va) (fun b' s' => Ext s s' ∧ b' = b) (fun _ _ => False) s

noncomputable abbrev EP (prog : Program) (w : World) (K : Frag) (A : Around) (e : Env) (fr : Vars) (σ : Sg) (x : Expr) (y : MV) : Prop := Ep prog w K A e fr σ (eval x e) y
noncomputable abbrev TP (prog : Program) (w : World) (K : Frag) (A : Around) (e : Env) (fr : Vars) (σ : Sg) (x : Expr) (b : Bool) : Prop := Tp prog w K A e fr σ (isTrue x e (eval x e)) b

theorem VR.ext {h h' : Heap} {y : MV} {v : Value} (r : VR h σ y v) (k : ∀ a o, h.get? a = some o → h'.get? a = some o) : VR h' σ y v := r.mono fun _ _ _ _ g n => ⟨k _ _ g, n⟩
theorem VRs.ext {h h' : Heap} {y : List MV} {v : List Value} (r : VRs h σ y v) (k : ∀ a o, h.get? a = some o → h'.get? a = some o) : VRs h' σ y v := r.mono fun _ _ _ _ g n => ⟨k _ _ g, n⟩

theorem Ep.ev {t : Sem Value} {y : MV} {R : MV → Sg → Prop} (h : Ep prog w K A e fr σ t y) (hR : R y σ) : Ev prog w K A e fr σ t R :=
  fun s x => wpAny_mono (h s x) (fun _ _ ⟨p, r⟩ => ⟨y, σ, x.ext p, p.step, r, hR⟩) fun _ _ f => f
theorem Tp.tv {t : Sem Bool} {b : Bool} {R : Bool → Sg → Prop} (h : Tp prog w K A e fr σ t b) (hR : R b σ) : Tv prog w K A e fr σ t R :=
  fun s x => wpAny_mono (h s x) (fun _ _ ⟨p, r⟩ => ⟨σ, x.ext p, p.step, r ▸ hR⟩) fun _ _ f => f
theorem Ev.mono {t : Sem Value} {R R' : MV → Sg → Prop} (h : Ev prog w K A e fr σ t R) (hR : ∀ y σ', R y σ' → R' y σ') : Ev prog w K A e fr σ t R' :=
  fun s x => wpAny_mono (h s x) (fun _ _ ⟨y, σ', p, q, r, z⟩ => ⟨y, σ', p, q, r, hR _ _ z⟩) fun _ _ f => f
theorem Ex.mono {t : Sem Flow} {R R' : MF → Vars → Sg → Prop} (h : Ex prog w K A e fr σ t R) (hR : ∀ f fr' σ', R f fr' σ' → R' f fr' σ') : Ex prog w K A e fr σ t R' :=
  fun s x => wpAny_mono (h s x) (fun _ _ ⟨f, fr', σ', p, q, r, z⟩ => ⟨f, fr', σ', p, q, r, hR _ _ _ z⟩) fun _ _ f => f

theorem Ep_int {i : Int} {k : Nat} {pos : Pos} : EP prog w K A e fr σ (.Constant (.int i) k pos) (.int i) :=
  fun _ _ => wpAny_Constant_int ⟨.tok, _, rfl⟩
theorem Ep_str {x : Str} {k : Nat} {pos : Pos} : EP prog w K A e fr σ (.Constant (.str x) k pos) (.str x) :=
  fun _ _ => wpAny_Constant_str ⟨.tok, _, rfl⟩
theorem Ep_none {k : Nat} {pos : Pos} : EP prog w K A e fr σ (.Constant .none k pos) .none :=
  fun _ _ => wpAny_Constant_none ⟨.refl, rfl⟩
theorem Ep_bool {b : Bool} {k : Nat} {pos : Pos} : EP prog w K A e fr σ (.Constant (.bool b) k pos) (.bool b) :=
  fun _ _ => wpAny_Constant_bool ⟨.refl, rfl⟩

theorem Ep_load {x : Str} {y : MV} (he : FrE e) (hl : e.kindOf x = some .local) (hv : fr.lookup x = some y) : Ep prog w K A e fr σ (loadName e x) y :=
  fun _ r => let ⟨_, hn, hm⟩ := r.loc; let ⟨_, p, q⟩ := hm x y hv hl; wpAny_loadName_local he.kind hl hn p ⟨.refl, q⟩
theorem Ep_local {x : Str} {pos : Pos} {y : MV} (he : FrE e) (hl : e.kindOf x = some .local) (hv : fr.lookup x = some y) (hd : (x == ("__debug__" : Str)) = false) : EP prog w K A e fr σ (.Name x pos) y :=
  fun s r => wpAny_Name (Ep_load he hl hv s r) hd
theorem Ep_cell {x : Str} {pos : Pos} {y : MV} (he : FrE e) (hl : e.kindOf x = some .cell) (hv : fr.lookup x = some y) (hd : (x == ("__debug__" : Str)) = false) : EP prog w K A e fr σ (.Name x pos) y :=
  fun _ r => let ⟨_, _, p, i, q⟩ := r.celv x y hv (.inl hl); wpAny_Name (wpAny_loadName_cell he.kind hl p i ⟨.refl, q⟩) hd
theorem Ep_free {x : Str} {pos : Pos} {y : MV} (he : FrE e) (hl : e.kindOf x = some .free) (hv : fr.lookup x = some y) (hd : (x == ("__debug__" : Str)) = false) (hc : (x == ("__classdict__" : Str)) = false) : EP prog w K A e fr σ (.Name x pos) y :=
  fun _ r => let ⟨_, _, p, i, q⟩ := r.celv x y hv (.inr hl); wpAny_Name (wpAny_loadName_free he.kind hl p i ⟨.refl, q⟩ hc) hd
theorem Ep_global {x : Str} {pos : Pos} {y : MV} {v : Value} (he : FrE e) (hl : e.kindOf x = some .globalImplicit) (hv : gl K x = some v) (hc : VC y v) (hd : (x == ("__debug__" : Str)) = false) : EP prog w K A e fr σ (.Name x pos) y :=
  fun s r => by
    refine Calls.Name_function_global he.kind hl ?_ hd
    unfold loadGlobal
    rw [he.globals, he.builtins]
    unfold gl at hv
    split at hv
    · rename_i v' hv'
      cases hv
      refine wpAny_bind ((looks_nsIn r.top hv').here ?_)
      exact wpAny_pure ⟨.refl, hc _ _⟩
    · rename_i hv'
      cases q : nsIn K builtinsNs x with
      | none => rw [q] at hv; cases hv
      | some o =>
        rw [q] at hv
        cases o with
        | none => cases hv
        | some v' =>
          cases hv
          refine wpAny_bind ((looks_nsIn r.top hv').here ?_)
          refine wpAny_bind ((looks_nsIn r.top q).here ?_)
          exact wpAny_pure ⟨.refl, hc _ _⟩
    · cases hv

/-- two values one behind the other, then a step that only makes things -/
theorem Ep_two {l r : Sem Value} {a b c : MV} {f : Value → Value → Sem Value} {s : Shared} (hl : Ep prog w K A e fr σ l a) (hr : Ep prog w K A e fr σ r b) (ho : O2 prog w K A σ f a b c) (x : RepF prog w K (flOf A) e fr σ s) :
    wpAny (model prog w) A l (fun va s₁ => wpAny (model prog w) A r (fun vb s₂ => wpAny (model prog w) A (f va vb) (fun v s' => Ext s s' ∧ VR s'.heap σ c v) (fun _ _ => False) s₂) (fun _ _ => False) s₁) (fun _ _ => False) s :=
  wpAny_mono (hl s x) (fun va s₁ ⟨p, ra⟩ => wpAny_mono (hr s₁ (x.ext p)) (fun vb s₂ ⟨q, rb⟩ =>
    wpAny_mono (ho s₂ va vb ((x.ext p).ext q).toRep (ra.ext q.keep) rb) (fun _ _ ⟨t, rc⟩ => ⟨(p.trans q).trans t, rc⟩) fun _ _ f => f) fun _ _ f => f) fun _ _ f => f

theorem Ep_bin {l r : Expr} {op : Operator} {pos : Pos} {a b c : MV} (hl : EP prog w K A e fr σ l a) (hr : EP prog w K A e fr σ r b) (ho : O2 prog w K A σ (binaryOp op) a b c) :
    EP prog w K A e fr σ (.BinOp l op r pos) c := fun _ x => wpAny_BinOp (Ep_two hl hr ho x)
theorem Ep_cmp {l r : Expr} {op : CmpOp} {pos : Pos} {a b c : MV} (hl : EP prog w K A e fr σ l a) (hr : EP prog w K A e fr σ r b) (ho : O2 prog w K A σ (compareOp op) a b c) (hm : behindInMarks op r = false := by rfl) :
    EP prog w K A e fr σ (.Compare l [op] [r] pos) c := fun _ x => wpAny_Compare1 (Ep_two hl hr ho x) hm
theorem Ep_un {o : Expr} {op : UnaryOp} {pos : Pos} {a c : MV} (hl : EP prog w K A e fr σ o a) (ho : O1 prog w K A σ (unaryOp op) a c) : EP prog w K A e fr σ (.UnaryOp op o pos) c :=
  fun s x => wpAny_UnaryOp (wpAny_mono (hl s x) (fun va s₁ ⟨p, ra⟩ => wpAny_mono (ho s₁ va (x.ext p).toRep ra) (fun _ _ ⟨t, rc⟩ => ⟨p.trans t, rc⟩) fun _ _ f => f) fun _ _ f => f)

/-- tests -/
theorem Tp_cmp {l r : Expr} {op : CmpOp} {pos : Pos} {a b : MV} {c : Bool} (hl : EP prog w K A e fr σ l a) (hr : EP prog w K A e fr σ r b) (ho : O2 prog w K A σ (compareOp op) a b (.bool c)) (hm : behindInMarks op r = false := by rfl) :
    TP prog w K A e fr σ (.Compare l [op] [r] pos) c := fun _ x =>
  wpAny_isTrue_Compare1 (wpAny_mono (Ep_two hl hr ho x) (fun _ _ h₁ => wpAny_mono h₁ (fun _ _ h₂ => wpAny_mono h₂ (fun v s' ⟨p, r⟩ => by
    cases (show v = .bool c from r); exact wpAny_truthy_bool ⟨p, rfl⟩) fun _ _ f => f) fun _ _ f => f) fun _ _ f => f) hm
theorem Tp_not {x : Expr} {pos : Pos} {b : Bool} (h : TP prog w K A e fr σ x b) : TP prog w K A e fr σ (.UnaryOp .Not x pos) (!b) :=
  fun s r => wpAny_isTrue_Not (wpAny_mono (h s r) (fun _ _ ⟨p, e1⟩ => ⟨p, by rw [e1]⟩) fun _ _ f => f)
/-- the test is the value's truth: for all but not, and, or, if else, a comparison -/
theorem Tp_val {x : Expr} {y : MV} {b : Bool} (h : EP prog w K A e fr σ x y) (ho : OT prog w K A σ y b) (hx : isTrue x e (eval x e) = (do let v ← eval x e; standAt x.pos; holding [v] (truthy v)) := by rfl) : TP prog w K A e fr σ x b := fun s r => by
  show wpAny _ _ (isTrue x e (eval x e)) _ _ _
  rw [hx]
  refine wpAny_bind (wpAny_mono (h s r) (fun v s₁ ⟨p, rv⟩ => wpAny_bind (wpAny_standAt (wpAny_holding ?_))) fun _ _ f => f)
  exact wpAny_mono (ho s₁ v (r.ext p).toRep rv) (fun b' s' ⟨t, hb⟩ => ⟨p.trans t, hb⟩) fun _ _ f => f
theorem Tp_or {x : Expr} {rest : List Expr} {b c : Bool} (h : TP prog w K A e fr σ x b) (k : b = false → Tp prog w K A e fr σ (allTrue .Or rest e) c) (hb : b = true → c = true) : Tp prog w K A e fr σ (allTrue .Or (x :: rest) e) c := fun s r => by
  refine wpAny_allTrue_Or_cons ?_
  refine wpAny_mono (h s r) (fun b' s₁ hzz => ?_) fun _ _ f => f
  obtain ⟨p, e1⟩ := hzz
  subst e1
  cases b' with
  | true => exact ⟨p, (hb rfl).symm⟩
  | false => exact wpAny_mono (k rfl s₁ (r.ext p)) (fun c' s₂ ⟨p2, e1⟩ => ⟨p.trans p2, e1⟩) fun _ _ f => f
theorem Tp_or_nil : Tp prog w K A e fr σ (allTrue .Or [] e) false := fun _ _ => wpAny_allTrue_Or_nil ⟨.refl, rfl⟩
theorem Tp_and {x : Expr} {rest : List Expr} {b c : Bool} (h : TP prog w K A e fr σ x b) (k : b = true → Tp prog w K A e fr σ (allTrue .And rest e) c) (hb : b = false → c = false) : Tp prog w K A e fr σ (allTrue .And (x :: rest) e) c := fun s r => by
  refine wpAny_allTrue_And_cons ?_
  refine wpAny_mono (h s r) (fun b' s₁ hzz => ?_) fun _ _ f => f
  obtain ⟨p, e1⟩ := hzz
  subst e1
  cases b' with
  | false => exact ⟨p, (hb rfl).symm⟩
  | true => exact wpAny_mono (k rfl s₁ (r.ext p)) (fun c' s₂ ⟨p2, e1⟩ => ⟨p.trans p2, e1⟩) fun _ _ f => f
theorem Tp_and_nil : Tp prog w K A e fr σ (allTrue .And [] e) true := fun _ _ => wpAny_allTrue_And_nil ⟨.refl, rfl⟩
theorem Tp_bool {op : BoolOp} {values : List Expr} {pos : Pos} {b : Bool} (h : Tp prog w K A e fr σ (allTrue op values e) b) : TP prog w K A e fr σ (.BoolOp op values pos) b :=
  fun s r => wpAny_isTrue_BoolOp (h s r)

theorem Ep_ifexp {test body orelse : Expr} {pos : Pos} {b : Bool} {y : MV} (ht : TP prog w K A e fr σ test b) (h1 : b = true → EP prog w K A e fr σ body y) (h2 : b = false → EP prog w K A e fr σ orelse y) : EP prog w K A e fr σ (.IfExp test body orelse pos) y := fun s r => by
  refine wpAny_IfExp (wpAny_mono (ht s r) (fun b' s₁ hzz => ?_) fun _ _ f => f)
  obtain ⟨p, e1⟩ := hzz
  subst e1
  cases b' with
  | true => exact wpAny_mono (h1 rfl s₁ (r.ext p)) (fun _ _ ⟨a, b⟩ => ⟨p.trans a, b⟩) fun _ _ f => f
  | false => exact wpAny_mono (h2 rfl s₁ (r.ext p)) (fun _ _ ⟨a, b⟩ => ⟨p.trans a, b⟩) fun _ _ f => f
end
end Mine

end
section
open PySem PySem.W PyProof.Rows
namespace Mine

noncomputable def SubL {α : Type} : List (Str × α) → List (Str × α) → Prop
  | [], _ => True
  | (x, y) :: r, l => l.lookup x = some y ∧ SubL r l
theorem SubL.n {α : Type} {l : List (Str × α)} : SubL [] l := True.intro
theorem SubL.c {α : Type} {x : Str} {y : α} {r l : List (Str × α)} (h : l.lookup x = some y) (q : SubL r l) : SubL ((x, y) :: r) l := ⟨h, q⟩
theorem SubL.mem {α : Type} : ∀ {l m : List (Str × α)}, SubL l m → ∀ {x y}, (x, y) ∈ l → m.lookup x = some y
  | _ :: _, _, h, x, y, hm => by
    rcases List.mem_cons.mp hm with e | hm
    · cases e; exact h.1
    · exact h.2.mem hm
theorem SubL.lookup {α : Type} {l m : List (Str × α)} (h : SubL l m) {x : Str} {y : α} (q : l.lookup x = some y) : m.lookup x = some y := h.mem (mem_of_lookup q)

noncomputable def setv : Vars → Str → MV → Vars
  | [], x, y => [(x, y)]
  | (x', y') :: r, x, y => if x == x' then (x', y) :: r else (x', y') :: setv r x y
theorem lookup_setv (x z : Str) (y : MV) : ∀ fr : Vars, (setv fr x y).lookup z = if z == x then some y else fr.lookup z
  | [] => by
    simp only [setv, List.lookup_cons, List.lookup_nil]
    split <;> simp_all
  | (x', y') :: r => by
    unfold setv
    by_cases h : (x == x') = true
    · rw [if_pos h]
      have := eq_of_beq h; subst this
      simp only [List.lookup_cons]
      by_cases q : (z == x) = true <;> simp [q]
    · rw [if_neg h]
      simp only [List.lookup_cons, lookup_setv x z y r]
      by_cases q : (z == x') = true
      · have := eq_of_beq q; subst this
        have : ¬ (z == x) = true := fun e => h (by rw [eq_of_beq e]; exact BEq.rfl)
        simp [q, this]
      · simp [q]

section
variable {prog : Program} {w : World} {K : Frag} {A : Around} {e : Env} {fr : Vars} {σ σ' : Sg} {s s' : Shared}

theorem RepF.sub (x : RepF prog w K (flOf A) e fr σ s) {fr' : Vars} (h : ∀ z y, fr'.lookup z = some y → fr.lookup z = some y) : RepF prog w K (flOf A) e fr' σ s :=
  ⟨x.toRep, let ⟨m, hn, hm⟩ := x.loc; ⟨m, hn, fun z y q k => hm z y (h z y q) k⟩, x.cel, fun z y q k => x.celv z y (h z y q) k, x.off, x.offK⟩

theorem RepF.ofRep (x : RepF prog w K (flOf A) e fr σ s) (y : Rep prog w K (flOf A) σ' s') (t : Step no0 σ s σ' s') : RepF prog w K (flOf A) e fr σ' s' ∧ Step (own e) σ s σ' s' := by
  have ks : ∀ a c its n, s.heap.get? a = some ⟨c, none, .seq its n, #[]⟩ → σ a = none → s'.heap.get? a = some ⟨c, none, .seq its n, #[]⟩ ∧ σ' a = none := fun a _ _ _ g q => t.keep a _ g q id FrO.seq
  refine ⟨⟨y, ?_, ?_, ?_, ?_, x.offK⟩, ⟨fun a o g q _ => t.keep a o g q id, fun a o g q _ => t.fr a o g q id, t.os, t.gens⟩⟩
  · obtain ⟨f, ⟨o, es, ep, g, d, r⟩, hm⟩ := x.loc
    obtain ⟨_, sl, h⟩ := t.some g (x.off _ (.inl rfl)) id
    exact ⟨f, ⟨_, es, ep, h, d, r⟩, fun y z q k => let ⟨v, p, r⟩ := hm y z q k; ⟨v, p, r.mono ks⟩⟩
  · exact fun p hp => let ⟨ov, o, g, r⟩ := x.cel p hp; ⟨ov, o, (t.keep _ _ g (x.off _ (.inr ⟨p, hp, rfl⟩)) id (FrO.cell r)).1, r⟩
  · exact fun y z q k => let ⟨c, v, p, ⟨o, g, i⟩, r⟩ := x.celv y z q k; ⟨c, v, p, ⟨o, (t.keep _ _ g (x.off _ (.inr ⟨(y, c), mem_of_lookup p, rfl⟩)) id (FrO.cell i)).1, i⟩, r.mono ks⟩
  · rintro a (rfl | ⟨p, hp, rfl⟩)
    · obtain ⟨f, ⟨o, es, ep, g, r⟩, hm⟩ := x.loc
      exact (t.some g (x.off _ (.inl rfl)) id).1
    · obtain ⟨ov, o, g, r⟩ := x.cel p hp
      exact (t.some g (x.off _ (.inr ⟨p, hp, rfl⟩)) id).1

/-- a store into a name of the frame's: a local, or a cell -/
theorem RepF.storeX (x : RepF prog w K (flOf A) e fr σ s) (he : FrE e) {n : Str} {y : MV} {v : Value} (r : VR s.heap σ y v) (hk : e.kindOf n = some .local ∨ (e.kindOf n = some .cell ∧ (e.cells.lookup n).isSome = true)) {Q : Unit → Shared → Prop}
    (q : ∀ s', RepF prog w K (flOf A) e (setv fr n y) σ s' → Step (own e) σ s σ s' → VR s'.heap σ y v → (∃ a, ((a = e.locals ∧ e.kindOf n = some .local) ∨ (e.kindOf n = some .cell ∧ e.cells.lookup n = some a)) ∧ ∀ b o, b ≠ a → s.heap.get? b = some o → s'.heap.get? b = some o) → Q () s') : wpAny (model prog w) A (storeName e n v) Q (fun _ _ => False) s := by
  have main : ∀ a s', ((a = e.locals ∧ e.kindOf n = some .local) ∨ (e.kindOf n = some .cell ∧ e.cells.lookup n = some a)) → (own e a) → (∀ b o, b ≠ a → s.heap.get? b = some o → s'.heap.get? b = some o) → s'.os = s.os → s'.gens = s.gens → (∀ L o, s.heap.get? L = some o → FrO o → ∃ o', s'.heap.get? L = some o' ∧ FrO o') →
      (∃ m, s'.heap.Ns e.locals m ∧ ∀ x z, (setv fr n y).lookup x = some z → e.kindOf x = some .local → ∃ v, m x = some v ∧ VR s'.heap σ z v) → (∀ p ∈ e.cells, ∃ ov, s'.heap.IsCell p.2 ov) →
      (∀ x z, (setv fr n y).lookup x = some z → (e.kindOf x = some .cell ∨ e.kindOf x = some .free) → ∃ c v, e.cells.lookup x = some c ∧ s'.heap.IsCell c (some v) ∧ VR s'.heap σ z v) → Q () s' := by
    intro a s' hw ha k os gens hF h1 h2 h3
    have st : Step (own e) σ s σ s' := .of (fun b o g n p => ⟨k b o (fun z => p (z ▸ ha)) g, n⟩) os gens
    refine q s' ⟨⟨fun b m hb => (x.objs b m hb).mono (fun o g => k b o (fun z => ?_) g) (x.keepSeq st), fun b o g => k b o (fun z => ?_) (x.top b o g), x.low, fun L hL => let ⟨q1, q2, o, q3, q4⟩ := x.ff L hL; ⟨q1, q2, hF L o q3 q4⟩⟩, h1, h2, h3, x.off, x.offK⟩ st (x.vr st r) ⟨a, hw, k⟩
    · have := x.off b (z ▸ ha); rw [hb] at this; cases this
    · exact x.offK b o (z ▸ ha) g
  rcases hk with hl | ⟨hl, hc⟩
  · obtain ⟨f, hn, hm⟩ := x.loc
    refine wpAny_storeName_local hl hn (fun h' hn' hs' => ?_) (by rw [he.kind]; rfl)
    have k : ∀ b o, b ≠ e.locals → s.heap.get? b = some o → h'.get? b = some o := fun b o p g => hs'.extBut b o p g
    have kq : ∀ a c its n, s.heap.get? a = some ⟨c, none, .seq its n, #[]⟩ → σ a = none → h'.get? a = some ⟨c, none, .seq its n, #[]⟩ ∧ σ a = none := fun a c its n g z =>
      ⟨k a _ (fun w => x.notOwn g (.inl w)) g, z⟩
    have ne : ∀ {c : Addr} {ov : Option Value}, s.heap.IsCell c ov → c ≠ e.locals := by
      rintro c ov ⟨o, g, d⟩ rfl
      obtain ⟨o', es, ep, g', d', _⟩ := hn
      rw [g] at g'; cases g'; rw [d] at d'; cases d'
    refine main e.locals _ (.inl ⟨rfl, hl⟩) (.inl rfl) k rfl rfl (fun L o g hF => if q : L = e.locals then q ▸ FrO.ns hn' else ⟨o, k L o q g, hF⟩) ⟨_, hn', fun z yz hz kz => ?_⟩ (fun p hp => ?_) fun z yz hz kz => ?_
    · rw [lookup_setv] at hz
      by_cases qz : (z == n) = true
      · rw [if_pos qz] at hz
        cases hz
        have := eq_of_beq qz; subst this
        exact ⟨v, if_pos rfl, r.mono kq⟩
      · rw [if_neg qz] at hz
        obtain ⟨v', p, r'⟩ := hm z yz hz kz
        exact ⟨v', (if_neg fun e => qz (by rw [e]; exact BEq.rfl)).trans p, r'.mono kq⟩
    · obtain ⟨ov, c⟩ := x.cel p hp
      exact ⟨ov, c.sameBut hs' (ne c)⟩
    · rw [lookup_setv] at hz
      by_cases qz : (z == n) = true
      · have := eq_of_beq qz; subst this
        rw [hl] at kz; rcases kz with kz | kz <;> cases kz
      · rw [if_neg qz] at hz
        obtain ⟨c, v', p, i, r'⟩ := x.celv z yz hz kz
        exact ⟨c, v', p, i.sameBut hs' (ne i), r'.mono kq⟩
  · obtain ⟨c, hc⟩ := Option.isSome_iff_exists.mp hc
    have hmem := mem_of_lookup hc
    obtain ⟨ov, ic⟩ := x.cel _ hmem
    refine wpAny_storeName_cell he.kind hl hc ic fun h' ic' hs' => ?_
    have k : ∀ b o, b ≠ c → s.heap.get? b = some o → h'.get? b = some o := fun b o p g => hs'.extBut b o p g
    have kq : ∀ a c its n, s.heap.get? a = some ⟨c, none, .seq its n, #[]⟩ → σ a = none → h'.get? a = some ⟨c, none, .seq its n, #[]⟩ ∧ σ a = none := fun a c' its n g z =>
      ⟨k a _ (fun w => x.notOwn g (.inr ⟨_, hmem, w.symm⟩)) g, z⟩
    obtain ⟨f, hn, hm⟩ := x.loc
    have ne : e.locals ≠ c := by
      intro w
      obtain ⟨o, g, d⟩ := ic
      obtain ⟨o', es, ep, g', d', _⟩ := hn
      dsimp only at g
      rw [w, g] at g'; cases g'; rw [d] at d'; cases d'
    refine main c _ (.inr ⟨hl, hc⟩) (.inr ⟨_, hmem, rfl⟩) k rfl rfl (fun L o g hF => ⟨o, k L o (fun q => by obtain ⟨o', g', d'⟩ := ic; dsimp only at g'; rw [q, g'] at g; cases g; exact FrO.cell d' hF) g, hF⟩) ⟨f, hn.sameBut hs' ne, fun z yz hz kz => ?_⟩ (fun p hp => ?_) fun z yz hz kz => ?_
    · rw [lookup_setv] at hz
      by_cases qz : (z == n) = true
      · have := eq_of_beq qz; subst this
        rw [hl] at kz; cases kz
      · rw [if_neg qz] at hz
        obtain ⟨v', p, r'⟩ := hm z yz hz kz
        exact ⟨v', p, r'.mono kq⟩
    · by_cases qp : p.2 = c
      · exact ⟨_, qp ▸ ic'⟩
      · obtain ⟨ov, i⟩ := x.cel p hp
        exact ⟨ov, i.sameBut hs' qp⟩
    · rw [lookup_setv] at hz
      by_cases qz : (z == n) = true
      · rw [if_pos qz] at hz
        cases hz
        have := eq_of_beq qz; subst this
        exact ⟨c, v, hc, ic', r.mono kq⟩
      · rw [if_neg qz] at hz
        obtain ⟨c', v', p, i, r'⟩ := x.celv z yz hz kz
        refine ⟨c', v', p, i.sameBut hs' fun w => qz ?_, r'.mono kq⟩
        subst w
        have := name_of_addr he.apart (mem_of_lookup p) hmem
        rw [this]; exact BEq.rfl

theorem RepF.store (x : RepF prog w K (flOf A) e fr σ s) (he : FrE e) {n : Str} {y : MV} {v : Value} (r : VR s.heap σ y v) (hk : e.kindOf n = some .local ∨ (e.kindOf n = some .cell ∧ (e.cells.lookup n).isSome = true)) {Q : Unit → Shared → Prop}
    (q : ∀ s', RepF prog w K (flOf A) e (setv fr n y) σ s' → Step (own e) σ s σ s' → VR s'.heap σ y v → Q () s') : wpAny (model prog w) A (storeName e n v) Q (fun _ _ => False) s := x.storeX he r hk fun s' a b c _ => q s' a b c

/-- several expressions -/
noncomputable def EPs (prog : Program) (w : World) (K : Frag) (A : Around) (e : Env) (fr : Vars) (σ : Sg) (xs : List Expr) (ys : List MV) : Prop :=
  ∀ pos s, RepF prog w K (flOf A) e fr σ s → wpAny (model prog w) A (spliced (backTo pos (starEach xs e))) (fun vs s' => Ext s s' ∧ VRs s'.heap σ ys vs) (fun _ _ => False) s
theorem EPs_nil : EPs prog w K A e fr σ [] [] := fun _ _ _ => wpAny_items_nil ⟨.refl, rfl⟩
theorem EPs_cons {x : Expr} {xs : List Expr} {y : MV} {ys : List MV} (h : EP prog w K A e fr σ x y) (hs : EPs prog w K A e fr σ xs ys) (he : starEach (x :: xs) e = (false, eval x e) :: starEach xs e := by rfl) : EPs prog w K A e fr σ (x :: xs) (y :: ys) :=
  fun pos s r => wpAny_items_cons (wpAny_mono (h s r) (fun v s₁ ⟨p, rv⟩ => wpAny_mono (hs pos s₁ (r.ext p)) (fun _ _ ⟨q, rs⟩ => ⟨p.trans q, .cons (rv.ext q.keep) rs⟩) fun _ _ f => f) fun _ _ f => f) he

noncomputable def Evs (prog : Program) (w : World) (K : Frag) (A : Around) (e : Env) (fr : Vars) (σ : Sg) (xs : List Expr) (R : List MV → Sg → Prop) : Prop :=
  ∀ pos s, RepF prog w K (flOf A) e fr σ s → wpAny (model prog w) A (spliced (backTo pos (starEach xs e))) (fun vs s' => ∃ ys σ', RepF prog w K (flOf A) e fr σ' s' ∧ Step (own e) σ s σ' s' ∧ VRs s'.heap σ' ys vs ∧ R ys σ') (fun _ _ => False) s
theorem Evs_nil {R : List MV → Sg → Prop} (h : R [] σ) : Evs prog w K A e fr σ [] R := fun _ _ r => wpAny_items_nil ⟨[], σ, r, .refl, rfl, h⟩
theorem Evs_cons {x : Expr} {xs : List Expr} {R : List MV → Sg → Prop} (h : Ev prog w K A e fr σ (eval x e) fun y σ₁ => Evs prog w K A e fr σ₁ xs fun ys σ₂ => R (y :: ys) σ₂)
    (he : starEach (x :: xs) e = (false, eval x e) :: starEach xs e := by rfl) : Evs prog w K A e fr σ (x :: xs) R :=
  fun pos s r => wpAny_items_cons (wpAny_mono (h s r) (fun v s₁ ⟨y, σ₁, p, q, rv, hs⟩ => wpAny_mono (hs pos s₁ p) (fun vs s₂ ⟨ys, σ₂, p2, q2, rs, hR⟩ => ⟨y :: ys, σ₂, p2, q.trans q2, .cons (p.vr q2 rv) rs, hR⟩) fun _ _ f => f) fun _ _ f => f) he
theorem EPs.evs {xs : List Expr} {ys : List MV} {R : List MV → Sg → Prop} (h : EPs prog w K A e fr σ xs ys) (hR : R ys σ) : Evs prog w K A e fr σ xs R :=
  fun pos s r => wpAny_mono (h pos s r) (fun _ _ ⟨p, rs⟩ => ⟨ys, σ, r.ext p, p.step, rs, hR⟩) fun _ _ f => f

theorem Ep_list {xs : List Expr} {pos : Pos} {ys : List MV} (h : EPs prog w K A e fr σ xs ys) (hn : ys.length ≤ 1000) : EP prog w K A e fr σ (.List xs pos) (.lst ys) := fun s r =>
  wpAny_List (wpAny_mono (h pos s r) (fun vs s₁ ⟨p, rs⟩ => ⟨by rw [rs.length, show sizeLine = 16777216 from rfl]; omega, p.trans .push, s₁.heap.objs.size, vs.toArray, 0, rfl, by
    cases q : σ s₁.heap.objs.size with
    | none => rfl
    | some m => obtain ⟨o, g⟩ := ((r.ext p).objs _ _ q).there; exact absurd (Heap.lt_size g) (Nat.lt_irrefl _), Heap.get?_push_size _ rfl, by simpa using rs.ext fun _ _ g => Heap.get?_push_of_some _ g⟩) fun _ _ f => f)
theorem Ep_tuple {xs : List Expr} {k : Nat} {pos : Pos} {ys : List MV} (h : EPs prog w K A e fr σ xs ys) (hn : ys.length ≤ 1000) : EP prog w K A e fr σ (.Tuple xs k pos) (.tup ys) := fun s r =>
  wpAny_Tuple (wpAny_mono (h pos s r) (fun vs s₁ ⟨p, rs⟩ => ⟨by rw [rs.length, show sizeLine = 16777216 from rfl]; omega, p.trans .push, s₁.heap.objs.size, vs.toArray, 0, rfl, by
    cases q : σ s₁.heap.objs.size with
    | none => rfl
    | some m => obtain ⟨o, g⟩ := ((r.ext p).objs _ _ q).there; exact absurd (Heap.lt_size g) (Nat.lt_irrefl _), Heap.get?_push_size _ rfl, by simpa using rs.ext fun _ _ g => Heap.get?_push_of_some _ g⟩) fun _ _ f => f)

/-- a list display whose list is going to be changed -/
theorem Ev_list {xs : List Expr} {pos : Pos} {R : MV → Sg → Prop} (h : Evs prog w K A e fr σ xs fun ys σ₁ => ys.length ≤ 1000 ∧ ∀ a, σ₁ a = none → R (.ref a) (σ₁.set a (.list ys))) : Ev prog w K A e fr σ (eval (.List xs pos) e) R := fun s r =>
  wpAny_List (wpAny_mono (h pos s r) (fun vs s₁ ⟨ys, σ₁, p, q, rs, hn, hR⟩ => ⟨by rw [rs.length, show sizeLine = 16777216 from rfl]; omega, by
    have h0 : σ₁ s₁.heap.objs.size = none := by
      cases q : σ₁ s₁.heap.objs.size with
      | none => rfl
      | some m => obtain ⟨o, g⟩ := (p.objs _ _ q).there; exact absurd (Heap.lt_size g) (Nat.lt_irrefl _)
    have fresh : ∀ o, s₁.heap.get? s₁.heap.objs.size ≠ some o := fun o g => Nat.lt_irrefl _ (Heap.lt_size g)
    have kk : ∀ b o, s₁.heap.get? b = some o → (s₁.heap.push (listO vs.toArray 0)).get? b = some o := fun b o g => Heap.get?_push_of_some _ g
    obtain ⟨p', q'⟩ := p.new (s' := { s₁ with heap := s₁.heap.push (listO vs.toArray 0) }) (m' := .list ys) fresh kk rfl rfl
      ⟨vs.toArray, 0, Heap.get?_push_size _ rfl, by
        have : VRs (s₁.heap.push (listO vs.toArray 0)) (σ₁.set s₁.heap.objs.size (.list ys)) ys vs := rs.mono fun a c its n g z => ⟨kk _ _ g, Sg.set_none' _ (fun w => fresh _ (w ▸ g)) z⟩
        simpa using this⟩
    exact ⟨.ref s₁.heap.objs.size, _, p', q.trans q', rfl, hR _ h0⟩⟩) fun _ _ f => f)

/-! statements -/
noncomputable abbrev EX (prog : Program) (w : World) (K : Frag) (A : Around) (e : Env) (fr : Vars) (σ : Sg) (ss : List Stmt) (R : MF → Vars → Sg → Prop) : Prop := Ex prog w K A e fr σ (execs ss e) R
noncomputable abbrev E1 (prog : Program) (w : World) (K : Frag) (A : Around) (e : Env) (fr : Vars) (σ : Sg) (st : Stmt) (R : MF → Vars → Sg → Prop) : Prop := Ex prog w K A e fr σ (exec st e) R

/-- what comes behind a statement -/
noncomputable def Then (prog : Program) (w : World) (K : Frag) (A : Around) (e : Env) (rest : List Stmt) (R : MF → Vars → Sg → Prop) : MF → Vars → Sg → Prop
  | .next, fr, σ => EX prog w K A e fr σ rest R
  | f, fr, σ => R f fr σ

theorem Ex_nil {R : MF → Vars → Sg → Prop} (h : R .next fr σ) : EX prog w K A e fr σ [] R := fun _ r => wpAny_execs_nil ⟨.next, fr, σ, r, .refl, rfl, h⟩
theorem Ex_cons {st : Stmt} {rest : List Stmt} {R : MF → Vars → Sg → Prop} (h : E1 prog w K A e fr σ st (Then prog w K A e rest R)) : EX prog w K A e fr σ (st :: rest) R := fun s r =>
  wpAny_execs_cons (wpAny_mono (h s r) (fun f s₁ ⟨f', fr', σ', p, q, rf, hR⟩ => by
    cases f' with
    | next =>
      cases (show f = .next from rf)
      exact wpAny_mono (hR s₁ p) (fun _ _ ⟨f'', fr'', σ'', p2, q2, rf2, hR2⟩ => ⟨f'', fr'', σ'', p2, q.trans q2, rf2, hR2⟩) fun _ _ f => f
    | brk => cases (show f = .brk from rf); exact ⟨.brk, fr', σ', p, q, rfl, hR⟩
    | cont => cases (show f = .cont from rf); exact ⟨.cont, fr', σ', p, q, rfl, hR⟩
    | ret y => obtain ⟨v, e1, rv⟩ := rf; cases e1; exact ⟨.ret y, fr', σ', p, q, ⟨v, rfl, rv⟩, hR⟩) fun _ _ f => f)

noncomputable def nameOk (e : Env) (x : Str) : Bool := match e.kindOf x with
  | some .local => true
  | some .cell => (e.cells.lookup x).isSome
  | _ => false
theorem nameOk_or {x : Str} (h : nameOk e x = true) : e.kindOf x = some .local ∨ (e.kindOf x = some .cell ∧ (e.cells.lookup x).isSome = true) := by
  unfold nameOk at h
  split at h
  · rename_i q; exact .inl q
  · rename_i q; exact .inr ⟨q, h⟩
  · cases h

theorem Ex_assign {x : Str} {p pos : Pos} {value : Expr} {R : MF → Vars → Sg → Prop} (he : FrE e) (hx : nameOk e x = true) (h : Ev prog w K A e fr σ (eval value e) fun y σ' => R .next (setv fr x y) σ')
    (hs : swapsWith value (some (.Name x p)) pos.line e = pure false := by rfl) : E1 prog w K A e fr σ (.Assign [.Name x p] value pos) R := fun s r =>
  wpAny_Assign_Name (wpAny_mono (h s r) (fun v s₁ ⟨y, σ', p, q, rv, hR⟩ => p.store he rv (nameOk_or hx) fun s₂ p2 q2 _ => ⟨.next, _, σ', p2, q.trans q2, rfl, hR⟩) fun _ _ f => f) hs
theorem Ex_return {x : Expr} {pos : Pos} {R : MF → Vars → Sg → Prop} (h : Ev prog w K A e fr σ (eval x e) fun y σ' => R (.ret y) fr σ') : E1 prog w K A e fr σ (.Return (some x) pos) R := fun s r =>
  wpAny_Return_some (wpAny_mono (h s r) (fun v s₁ ⟨y, σ', p, q, rv, hR⟩ => ⟨.ret y, fr, σ', p, q, ⟨v, rfl, rv⟩, hR⟩) fun _ _ f => f)
theorem Ex_expr {x : Expr} {pos : Pos} {R : MF → Vars → Sg → Prop} (h : Ev prog w K A e fr σ (eval x e) fun _ σ' => R .next fr σ') (hi : interactive e = false := by rfl) (hs : swapsWith x none pos.line e = pure false := by rfl) :
    E1 prog w K A e fr σ (.Expr x pos) R := fun s r =>
  wpAny_Expr_any (wpAny_mono (h s r) (fun _ _ ⟨_, σ', p, q, _, hR⟩ => ⟨.next, fr, σ', p, q, rfl, hR⟩) fun _ _ f => f) hi hs
theorem Ex_if {test : Expr} {body orelse : List Stmt} {pos : Pos} {R : MF → Vars → Sg → Prop}
    (h : Tv prog w K A e fr σ (isTrue test e (eval test e)) fun b σ' => if b = true then EX prog w K A e fr σ' body R else EX prog w K A e fr σ' orelse R) : E1 prog w K A e fr σ (.If test body orelse pos) R := fun s r =>
  wpAny_If (wpAny_mono (h s r) (fun b s₁ ⟨σ', p, q, hR⟩ => by
    cases b with
    | true => exact wpAny_mono (hR s₁ p) (fun _ _ ⟨f, fr', σ'', p2, q2, rf, hR2⟩ => ⟨f, fr', σ'', p2, q.trans q2, rf, hR2⟩) fun _ _ f => f
    | false => exact wpAny_mono (hR s₁ p) (fun _ _ ⟨f, fr', σ'', p2, q2, rf, hR2⟩ => ⟨f, fr', σ'', p2, q.trans q2, rf, hR2⟩) fun _ _ f => f) fun _ _ f => f)
theorem Ex_ifp {test : Expr} {body orelse : List Stmt} {pos : Pos} {b : Bool} {R : MF → Vars → Sg → Prop} (h : TP prog w K A e fr σ test b) (h1 : b = true → EX prog w K A e fr σ body R) (h2 : b = false → EX prog w K A e fr σ orelse R) :
    E1 prog w K A e fr σ (.If test body orelse pos) R := Ex_if (h.tv (by cases b with
      | true => exact h1 rfl
      | false => exact h2 rfl))
theorem Ex_break {pos : Pos} {R : MF → Vars → Sg → Prop} (h : R .brk fr σ) : E1 prog w K A e fr σ (.Break pos) R := fun _ r => wpAny_Break ⟨.brk, fr, σ, r, .refl, rfl, h⟩
theorem Ex_continue {pos : Pos} {R : MF → Vars → Sg → Prop} (h : R .cont fr σ) : E1 prog w K A e fr σ (.Continue pos) R := fun _ r => wpAny_Continue ⟨.cont, fr, σ, r, .refl, rfl, h⟩

/-- a loop's turn: on, out, away -/
noncomputable def Turn (I : Vars → Sg → Prop) (R : MF → Vars → Sg → Prop) : MF → Vars → Sg → Prop
  | .next, fr, σ => ∃ fr', I fr' σ ∧ SubL fr' fr
  | .cont, fr, σ => ∃ fr', I fr' σ ∧ SubL fr' fr
  | .brk, fr, σ => R .next fr σ
  | .ret y, fr, σ => R (.ret y) fr σ

theorem Ex_while {test : Expr} {body orelse : List Stmt} {pos : Pos} {R : MF → Vars → Sg → Prop} (I : Nat → Vars → Sg → Prop) (n : Nat) (h0 : ∃ fr', I n fr' σ ∧ SubL fr' fr)
    (turn : ∀ n fr σ (Q : MF → Vars → Sg → Prop), (∀ fr' σ', (∃ fr'', (∃ m, m < n ∧ I m fr'' σ') ∧ SubL fr'' fr') → Q .next fr' σ' ∧ Q .cont fr' σ') → (∀ fr' σ', R .next fr' σ' → Q .brk fr' σ') → (∀ y fr' σ', R (.ret y) fr' σ' → Q (.ret y) fr' σ') → I n fr σ →
      Tv prog w K A e fr σ (isTrue test e (eval test e)) fun b σ' => if b = true then EX prog w K A e fr σ' body Q else EX prog w K A e fr σ' orelse R) :
    E1 prog w K A e fr σ (.While test body orelse pos) R := fun s r => by
  refine wpAny_While (codeAny_whileLoop (fun n s' => ∃ fr' σ', I n fr' σ' ∧ RepF prog w K (flOf A) e fr' σ' s' ∧ Step (own e) σ s σ' s') (fun n s₁ hzz => ?_) n (let ⟨fr', hI, hs⟩ := h0; ⟨fr', σ, hI, r.sub fun _ _ q => hs.lookup q, .refl⟩))
  obtain ⟨fr₁, σ₁, hI, p, q⟩ := hzz
  refine wpAny_mono (turn n fr₁ σ₁ (Turn (fun fr σ => ∃ m, m < n ∧ I m fr σ) R) (fun _ _ h => ⟨h, h⟩) (fun _ _ h => h) (fun _ _ _ h => h) hI s₁ p) (fun b s₂ hzz => ?_) fun _ _ f => f.elim
  obtain ⟨σ₂, p2, q2, h⟩ := hzz
  have q2 := q.trans q2
  cases b with
  | true =>
    refine wpAny_mono (h s₂ p2) (fun f s₃ hzz => ?_) fun _ _ f => f.elim
    obtain ⟨f', fr₃, σ₃, p3, q3, rf, hR⟩ := hzz
    have q3 := q2.trans q3
    cases f' with
    | next => cases (show f = .next from rf); obtain ⟨fr4, ⟨m, hm, hI'⟩, hs⟩ := hR; exact ⟨m, hm, fr4, σ₃, hI', p3.sub fun _ _ q => hs.lookup q, q3⟩
    | cont => cases (show f = .cont from rf); obtain ⟨fr4, ⟨m, hm, hI'⟩, hs⟩ := hR; exact ⟨m, hm, fr4, σ₃, hI', p3.sub fun _ _ q => hs.lookup q, q3⟩
    | brk => cases (show f = .brk from rf); exact ⟨.next, fr₃, σ₃, p3, q3, rfl, hR⟩
    | ret y => obtain ⟨v, e1, rv⟩ := rf; cases e1; exact ⟨.ret y, fr₃, σ₃, p3, q3, ⟨v, rfl, rv⟩, hR⟩
  | false => exact wpAny_mono (h s₂ p2) (fun f s₃ ⟨f', fr₃, σ₃, p3, q3, rf, hR⟩ => ⟨f', fr₃, σ₃, p3, q2.trans q3, rf, hR⟩) fun _ _ f => f.elim
end
end Mine

end
section
open PySem PySem.W PyProof.Rows
namespace Mine

/-- the frame of a call of a text's def -/
noncomputable def fe (scope : Scope) (L : Addr) (q : Str) (f : Addr) (cdv : Value) : Env :=
  { scope, locals := L, globals := mainGlobals, cells := cellsFrom (L + 1) scope.names [], qual := q, func := some f, code := cdv, frame := some L, builtins := builtinsNs }

theorem cells_apart : ∀ (names : List (Str × NameKind)) (n : Nat) (acc : List (Str × Addr)), (acc.Pairwise fun x y => x.2 ≠ y.2) → (∀ p ∈ acc, p.2 < n) → (cellsFrom n names acc).Pairwise fun x y => x.2 ≠ y.2
  | [], _, _, h, _ => h
  | (x, k) :: r, n, acc, h, l => by
    unfold cellsFrom
    split
    · exact cells_apart r _ _ (List.pairwise_cons.mpr ⟨fun y hy e => Nat.lt_irrefl _ (e ▸ l y hy), h⟩) fun p hp => by
        rcases List.mem_cons.mp hp with rfl | hp
        · exact Nat.lt_succ_self _
        · exact Nat.lt_succ_of_lt (l p hp)
    · exact cells_apart r _ _ h l
theorem frE_fe {scope : Scope} {L : Addr} {q : Str} {f : Addr} {cdv : Value} (hk : scope.kind = .function) : FrE (fe scope L q f cdv) :=
  ⟨hk, rfl, rfl, cells_apart _ _ _ .nil fun _ h => nomatch h⟩

/-- a def of the text's -/
noncomputable def DefAt (K : Frag) (f : Addr) (params : Arguments) (body : List Stmt) (scope : Scope) (dV : Value) : Prop :=
  ∃ (name qual : Str) (kV doc pm : Value) (an : Option Addr) (cdv ct oc : Value) (od : Option Addr) (osl : Array (Option Value)),
    K.lookup f = some ⟨oc, od, .func (fnOf name qual params body scope dV kV doc pm an cdv ct), osl⟩ ∧ codeIn K cdv qual = true

structure KOk (K : Frag) : Prop where
  nolim : ∀ h : Heap, K.In h → h.NoLimit

theorem lookup_fst_none {x : Str} {v : Value} {r : List (Str × Value)} (hn : x ∉ r.map (·.1)) : r.lookup x = none := by
  induction r with
  | nil => rfl
  | cons p r ih =>
    rw [List.map_cons, List.mem_cons, not_or] at hn
    rw [List.lookup_cons, beq_eq_false_iff_ne.mpr hn.1]
    exact ih hn.2
theorem lookup_ne {x n : Str} {v : Value} {r : List (Str × Value)} (q : x ≠ n) : ((n, v) :: r).lookup x = r.lookup x := by
  rw [List.lookup_cons, beq_eq_false_iff_ne.mpr q]
theorem bindL_lookup {kindOf : Str → Option NameKind} {x : Str} : ∀ {binds : List (Str × Value)} {m : Str → Option Value}, (binds.map (·.1)).Nodup → kindOf x = some .local → bindL kindOf binds m x = match binds.lookup x with | some v => some v | none => m x
  | [], _, _, _ => rfl
  | (n, v) :: r, m, hn, hk => by
    rw [List.map_cons, List.nodup_cons] at hn
    unfold bindL
    rw [bindL_lookup hn.2 hk]
    by_cases q : x = n
    · subst q
      rw [lookup_fst_none (v := v) hn.1]; simp [hk]
    · rw [lookup_ne q]
      split
      · rfl
      · split
        · exact if_neg q
        · rfl
theorem bindC_lookup {kindOf : Str → Option NameKind} {x : Str} : ∀ {binds : List (Str × Value)} {m : Str → Option Value}, (binds.map (·.1)).Nodup → kindOf x ≠ some .local → bindC kindOf binds m x = match binds.lookup x with | some v => some v | none => m x
  | [], _, _, _ => rfl
  | (n, v) :: r, m, hn, hk => by
    rw [List.map_cons, List.nodup_cons] at hn
    unfold bindC
    rw [bindC_lookup hn.2 hk]
    by_cases q : x = n
    · subst q
      rw [lookup_fst_none (v := v) hn.1]; simp [hk]
    · rw [lookup_ne q]
      split
      · rfl
      · split
        · rfl
        · exact if_neg q

/-- the arguments lie down under the parameters' names -/
noncomputable def BindsX (prog : Program) (w : World) (K : Frag) (σ : Sg) (fd : FuncData) (ys : List MV) (fr : Vars) : Prop :=
  ∀ (s : Shared) (vs : List Value) (A : Around) (E : Value → Shared → Prop) (Q : List (Str × Value) → Shared → Prop), Rep prog w K (flOf A) σ s → VRs s.heap σ ys vs →
    (∀ s' binds, Ext s s' → binds.map (·.1) = fr.map (·.1) → VRs s'.heap σ (fr.map (·.2)) (binds.map (·.2)) → Q binds s') → wpAny (model prog w) A (bindArgs fd ⟨vs, []⟩) Q E s

theorem lookup_VRs {h : Heap} {σ : Sg} : ∀ {fr : Vars} {binds : List (Str × Value)} {x : Str} {y : MV}, binds.map (·.1) = fr.map (·.1) → VRs h σ (fr.map (·.2)) (binds.map (·.2)) → fr.lookup x = some y → ∃ v, binds.lookup x = some v ∧ VR h σ y v
  | [], _, _, _, _, _, e => by cases e
  | (n, z) :: r, [], _, _, e, _, _ => by cases e
  | (n, z) :: r, (n', v) :: b, x, y, e, ⟨v', vs, e2, rv, rs⟩, l => by
    simp only [List.map_cons, List.cons.injEq] at e e2
    obtain ⟨rfl, e⟩ := e
    obtain ⟨rfl, e2⟩ := e2
    rw [List.lookup_cons] at l ⊢
    cases q : x == n' with
    | true => rw [q] at l; cases l; exact ⟨v, rfl, rv⟩
    | false => rw [q] at l; exact lookup_VRs e (e2 ▸ rs) l

section
variable {prog : Program} {w : World} {K : Frag} {σ : Sg}

/-- what a body hands back -/
noncomputable def Back (R : MV → Sg → Prop) : MF → Vars → Sg → Prop
  | .ret y, _, σ => R y σ
  | _, _, σ => R .none σ

/-- a body that may raise: what holds once the frame is left -/
noncomputable def Exx (prog : Program) (w : World) (K : Frag) (A : Around) (e : Env) (fr : Vars) (σ : Sg) (body : List Stmt) (R : MF → Vars → Sg → Prop) (X : Value → Sg → Heap → Prop) : Prop :=
  ∀ s, RepF prog w K (flOf A) e fr σ s → wpAny (model prog w) A (execs body e) (fun f s' => ∃ f' fr' σ', RepF prog w K (flOf A) e fr' σ' s' ∧ Step (own e) σ s σ' s' ∧ FlR s'.heap σ' f' f ∧ R f' fr' σ')
    (fun ev s' => wpAny (model prog w) A (leaving e ev) (fun _ s₂ => ∃ fr' σ', RepF prog w K (flOf A) e fr' σ' s₂ ∧ Step (own e) σ s σ' s₂ ∧ X ev σ' s₂.heap) (fun _ _ => False) s') s
/-- a call that may raise -/
noncomputable def Fnx (prog : Program) (w : World) (K : Frag) (n : Nat) (f : Value) (ys : List MV) (σ : Sg) (R : MV → Sg → Prop) (X : Value → Sg → Heap → Prop) : Prop :=
  ∀ A s vs, AOK n A → A.handled = none → Rep prog w K (flOf A) σ s → VRs s.heap σ ys vs →
    codeAny (model prog w) A (.call f ⟨vs, []⟩) (fun r s' => (∃ v y σ', r = .ok (.ret v) ∧ Rep prog w K (flOf A) σ' s' ∧ Step no0 σ s σ' s' ∧ VR s'.heap σ' y v ∧ R y σ') ∨ ∃ ev σ', r = .error ev ∧ Rep prog w K (flOf A) σ' s' ∧ Step no0 σ s σ' s' ∧ X ev σ' s'.heap) s

theorem Fn_defX {n : Nat} {f : Addr} {params : Arguments} {body : List Stmt} {scope : Scope} {dV : Value} {ys : List MV} {fr : Vars} {R : MV → Sg → Prop} {X : Value → Sg → Heap → Prop} (KO : KOk K) (D : DefAt K f params body scope dV)
    (hb : ∀ name qual kV doc pm an cdv ct, BindsX prog w K σ (fnOf name qual params body scope dV kV doc pm an cdv ct) ys fr)
    (hnd : (fr.map (·.1)).Nodup) (hkind : (fr.all fun x => match scope.names.lookup x.1 with | some .local => true | some .cell => ((cellsFrom 0 scope.names []).lookup x.1).isSome | _ => false) = true)
    (hcn : ((cellsFrom 0 scope.names []).map (·.1)).Nodup)
    (h : ∀ L q cdv A, AOK n A → A.handled = none → (∃ l, A.frames = some (fe scope L q f cdv :: l)) → (fe scope L q f cdv).frame = some L → Exx prog w K A (fe scope L q f cdv) fr σ body (Back R) X)
    (hco : scope.isCoroutine = false := by rfl) (hgen : scope.isGenerator = false := by rfl) (hk : scope.kind = .function := by rfl) : Fnx prog w K (n + 1) (.ref f) ys σ R X := by
  intro A s vs ha hh r rs
  obtain ⟨name, qual, kV, doc, pm, an, cdv, ct, oc, od, osl, hl, hcd⟩ := D
  refine codeAny_call_function (fd := fnOf name qual params body scope dV kV doc pm an cdv ct) (body := body) ha.room (r.top _ _ hl) rfl hco hgen rfl (codeRec_of r.top hcd) ?_
  refine hb _ _ _ _ _ _ _ _ s vs _ _ _ r rs fun s₀ binds x0 hn hv => ?_
  have r0 := r.ext x0
  have hnd' : (binds.map (·.1)).Nodup := hn ▸ hnd
  have mem_fr : ∀ p ∈ binds, ∃ z, (p.1, z) ∈ fr := fun p hp => by
    have : p.1 ∈ fr.map (·.1) := hn ▸ List.mem_map.mpr ⟨p, hp, rfl⟩
    obtain ⟨q, hq, e⟩ := List.mem_map.mp this
    exact ⟨q.2, e ▸ hq⟩
  have cn : ∀ m, ((cellsFrom m scope.names []).map (·.1)).Nodup := fun m => (cellsFrom_names scope.names 0 m [] [] rfl) ▸ hcn
  refine wpAny_newFunctionEnv_cells hk (fun p hp => ?_) fun env he s₁ Y => ?_
  · obtain ⟨z, hz⟩ := mem_fr p hp
    have := List.all_eq_true.mp hkind _ hz
    show scope.names.lookup p.1 = some .local ∨ _
    split at this
    · rename_i q; exact .inl q
    · rename_i q
      refine .inr ⟨q, ?_⟩
      obtain ⟨c, hc⟩ := Option.isSome_iff_exists.mp this
      have : p.1 ∈ (cellsFrom (s₀.heap.objs.size + 1) scope.names []).map (·.1) := (cellsFrom_names scope.names 0 _ [] [] rfl) ▸ List.mem_map.mpr ⟨_, mem_of_lookup hc, rfl⟩
      obtain ⟨q2, hq2, e⟩ := List.mem_map.mp this
      exact Option.isSome_iff_exists.mpr ⟨q2.2, lookup_of_mem_nodup (cn _) (e ▸ hq2)⟩
    · cases this
  · have hee : env = fe scope s₀.heap.objs.size (qual ++ ".<locals>.") f cdv := he
    subst hee
    obtain ⟨h₁, tk, rfl⟩ := Y.toInCall.same
    have x1 : Ext s₀ { s₀ with heap := h₁, toks := tk } := ⟨Y.toInCall.keep, rfl, rfl⟩
    have far : ∀ a, own (fe scope s₀.heap.objs.size (qual ++ ".<locals>.") f cdv) a → s₀.heap.objs.size ≤ a := by
      rintro a (rfl | ⟨p, hp, rfl⟩)
      · exact Nat.le_refl _
      · exact Nat.le_of_lt (Y.above p.1 p.2 hp)
    have off : ∀ a o, own (fe scope s₀.heap.objs.size (qual ++ ".<locals>.") f cdv) a → s₀.heap.get? a = some o → False := fun a o ho g => Nat.lt_irrefl _ (Nat.lt_of_lt_of_le (Heap.lt_size g) (far a ho))
    have rf : RepF prog w K (flOf A) (fe scope s₀.heap.objs.size (qual ++ ".<locals>.") f cdv) fr σ { s₀ with heap := h₁, toks := tk } := by
      refine ⟨r0.ext x1, ⟨_, Y.toInCall.ns, fun x y hy kx => ?_⟩, fun p hp => ?_, fun x y hy kx => ?_, fun a ha => ?_, fun a o ha hk => off a o ha (r0.top _ _ hk)⟩
      · obtain ⟨v, hl, rv⟩ := lookup_VRs hn hv hy
        exact ⟨v, by rw [bindL_lookup hnd' kx, hl], rv.ext x1.keep⟩
      · exact ⟨_, Y.cell p.1 p.2 (lookup_of_mem_nodup (cn _) hp)⟩
      · obtain ⟨v, hl, rv⟩ := lookup_VRs hn hv hy
        have hc := List.all_eq_true.mp hkind _ (mem_of_lookup hy)
        have knl : (fe scope s₀.heap.objs.size (qual ++ ".<locals>.") f cdv).kindOf x ≠ some .local := fun e => by rw [e] at kx; rcases kx with q | q <;> cases q
        have kc : scope.names.lookup x = some .cell := by
          rcases kx with q | q
          · exact q
          · rw [show scope.names.lookup x = some .free from q] at hc; cases hc
        rw [kc] at hc
        obtain ⟨c, hc⟩ := Option.isSome_iff_exists.mp hc
        have : x ∈ (cellsFrom (s₀.heap.objs.size + 1) scope.names []).map (·.1) := (cellsFrom_names scope.names 0 _ [] [] rfl) ▸ List.mem_map.mpr ⟨_, mem_of_lookup hc, rfl⟩
        obtain ⟨q2, hq2, e⟩ := List.mem_map.mp this
        have hlc : (fe scope s₀.heap.objs.size (qual ++ ".<locals>.") f cdv).cells.lookup x = some q2.2 := lookup_of_mem_nodup (cn _) (e ▸ hq2)
        refine ⟨q2.2, v, hlc, ?_, rv.ext x1.keep⟩
        have := Y.cell x q2.2 hlc
        rwa [bindC_lookup hnd' knl, hl] at this
      · cases q : σ a with
        | none => rfl
        | some m => obtain ⟨o, g⟩ := (r0.objs _ _ q).there; exact (off a o ha g).elim
    refine ⟨KO.nolim _ rf.top, codeAny_func ?_⟩
    have hfl := ha.fl (e := fe scope s₀.heap.objs.size (qual ++ ".<locals>.") f cdv) (L := s₀.heap.objs.size) rfl
    have rf' : RepF prog w K (flOf (A.deeper (fe scope s₀.heap.objs.size (qual ++ ".<locals>.") f cdv))) (fe scope s₀.heap.objs.size (qual ++ ".<locals>.") f cdv) fr σ { s₀ with heap := h₁, toks := tk } := by
      rw [hfl]
      refine ⟨⟨rf.objs, rf.top, rf.low, fun L hL => ?_⟩, rf.loc, rf.cel, rf.celv, rf.off, rf.offK⟩
      rcases List.mem_cons.mp hL with rfl | hL
      · exact ⟨rf.off _ (.inl rfl), fun o hk => rf.offK _ o (.inl rfl) hk, FrO.ns Y.toInCall.ns⟩
      · exact rf.ff L hL
    have pr : ∀ {fr' σ' s'}, RepF prog w K (flOf (A.deeper (fe scope s₀.heap.objs.size (qual ++ ".<locals>.") f cdv))) (fe scope s₀.heap.objs.size (qual ++ ".<locals>.") f cdv) fr' σ' s' → Rep prog w K (flOf A) σ' s' := fun p => ⟨p.objs, p.top, p.low, fun L hL => p.ff L (by rw [hfl]; exact .tail _ hL)⟩
    have st : ∀ {σ' s'}, Step (own (fe scope s₀.heap.objs.size (qual ++ ".<locals>.") f cdv)) σ { s₀ with heap := h₁, toks := tk } σ' s' → Step no0 σ s σ' s' := fun q => ⟨fun a o g z _ => (q.keep a o (x1.keep _ _ (x0.keep _ _ g)) z fun ho => off a o ho (x0.keep _ _ g)), fun a o g z _ => (q.fr a o (x1.keep _ _ (x0.keep _ _ g)) z fun ho => off a o ho (x0.keep _ _ g)), q.os.trans (x1.os.trans x0.os), q.gens.trans (x1.gens.trans x0.gens)⟩
    refine wpAny_mono (h _ _ _ (A.deeper _) (ha.deeper hk ⟨_, rfl⟩) hh (let ⟨l, hl, _⟩ := ha.frs; ⟨l, by show A.frames.map _ = _; rw [hl]; rfl⟩) rfl _ rf') (fun fl s' hzz => ?_) fun ev s' hE => wpAny_mono hE (fun _ s'' ⟨fr', σ', p, q, hX⟩ => .inr ⟨ev, σ', rfl, pr p, st q, hX⟩) fun _ _ z => z.elim
    obtain ⟨f', fr', σ', p, q, rfl', hR⟩ := hzz
    cases f' with
    | next => cases (show fl = .next from rfl'); exact .inl ⟨.none, .none, σ', rfl, pr p, st q, rfl, hR⟩
    | brk => cases (show fl = .brk from rfl'); exact .inl ⟨.none, .none, σ', rfl, pr p, st q, rfl, hR⟩
    | cont => cases (show fl = .cont from rfl'); exact .inl ⟨.none, .none, σ', rfl, pr p, st q, rfl, hR⟩
    | ret y => obtain ⟨v, e1, rv⟩ := rfl'; cases e1; exact .inl ⟨v, y, σ', rfl, pr p, st q, rv, hR⟩

theorem Fn_defF {n : Nat} {f : Addr} {params : Arguments} {body : List Stmt} {scope : Scope} {dV : Value} {ys : List MV} {fr : Vars} {R : MV → Sg → Prop} (KO : KOk K) (D : DefAt K f params body scope dV)
    (hb : ∀ name qual kV doc pm an cdv ct, BindsX prog w K σ (fnOf name qual params body scope dV kV doc pm an cdv ct) ys fr)
    (hnd : (fr.map (·.1)).Nodup) (hkind : (fr.all fun x => match scope.names.lookup x.1 with | some .local => true | some .cell => ((cellsFrom 0 scope.names []).lookup x.1).isSome | _ => false) = true)
    (hcn : ((cellsFrom 0 scope.names []).map (·.1)).Nodup)
    (h : ∀ L q cdv A, AOK n A → A.handled = none → (∃ l, A.frames = some (fe scope L q f cdv :: l)) → EX prog w K A (fe scope L q f cdv) fr σ body (Back R))
    (hco : scope.isCoroutine = false := by rfl) (hgen : scope.isGenerator = false := by rfl) (hk : scope.kind = .function := by rfl) : Fn prog w K (n + 1) (.ref f) ys σ R := fun A s vs ha hh r rs =>
  codeAny_mono (Fn_defX (X := fun _ _ _ => False) KO D hb hnd hkind hcn (fun L q cdv A ha hh hf _ s r => wpAny_mono (h L q cdv A ha hh hf s r) (fun _ _ z => z) fun _ _ z => z.elim) hco hgen hk A s vs ha hh r rs) fun _ _ h => h.elim id fun ⟨_, _, _, _, _, z⟩ => z.elim

theorem Fn_def {n : Nat} {f : Addr} {params : Arguments} {body : List Stmt} {scope : Scope} {dV : Value} {ys : List MV} {fr : Vars} {R : MV → Sg → Prop} (KO : KOk K) (D : DefAt K f params body scope dV)
    (hb : ∀ name qual kV doc pm an cdv ct, BindsX prog w K σ (fnOf name qual params body scope dV kV doc pm an cdv ct) ys fr)
    (hnd : (fr.map (·.1)).Nodup) (hkind : (fr.all fun x => match scope.names.lookup x.1 with | some .local => true | some .cell => ((cellsFrom 0 scope.names []).lookup x.1).isSome | _ => false) = true)
    (hcn : ((cellsFrom 0 scope.names []).map (·.1)).Nodup)
    (h : ∀ L q cdv A, AOK n A → A.handled = none → EX prog w K A (fe scope L q f cdv) fr σ body (Back R))
    (hco : scope.isCoroutine = false := by rfl) (hgen : scope.isGenerator = false := by rfl) (hk : scope.kind = .function := by rfl) : Fn prog w K (n + 1) (.ref f) ys σ R :=
  Fn_defF KO D hb hnd hkind hcn (fun L q cdv A ha hh _ => h L q cdv A ha hh) hco hgen hk

/-- positional arguments alone -/
theorem bindsX_pos {fd : FuncData} {ys : List MV} {xs : List Str} (hl : ys.length = xs.length) (hb : ∀ vs : List Value, vs.length = xs.length → bindArgs fd ⟨vs, []⟩ = pure (xs.zip vs)) : BindsX prog w K σ fd ys (xs.zip ys) := by
  intro s vs A E Q _ rs q
  have hv : vs.length = xs.length := rs.length.trans hl
  rw [hb vs hv]
  refine wpAny_pure (q s _ .refl ?_ ?_)
  · rw [List.map_fst_zip (by omega), List.map_fst_zip (by omega)]
  · rw [List.map_snd_zip (by omega), List.map_snd_zip (by omega)]; exact rs

/-- a call of the text's own def or class, by name -/
theorem Fn.ev {n : Nat} {A : Around} {e : Env} {fr : Vars} {s : Shared} {f : Value} {ys : List MV} {vs : List Value} {R : MV → Sg → Prop} (F : Fn prog w K n f ys σ R) (ha : AOK n A) (hh : A.handled = none) (r : RepF prog w K (flOf A) e fr σ s) (rs : VRs s.heap σ ys vs) :
    wpAny (model prog w) A (call f vs) (fun v s' => ∃ y σ', RepF prog w K (flOf A) e fr σ' s' ∧ Step (own e) σ s σ' s' ∧ VR s'.heap σ' y v ∧ R y σ') (fun _ _ => False) s :=
  wpAny_call (codeAny_mono (F A s vs ha hh r.toRep rs) fun _ s' ⟨v, y, σ', e1, p, q, rv, hR⟩ => by
    subst e1
    obtain ⟨p', q'⟩ := r.ofRep p q
    exact ⟨y, σ', p', q', rv, hR⟩)

noncomputable def keepsOk (K : Frag) (f : Value) : Prop := ∀ (M : Model) (h : Heap), K.In h → ∃ k, (k = Keeper.frame ∨ k = Keeper.machine ∨ k = Keeper.boundFrame) ∧ Looks M h (keeperOf f) k
theorem keepsOk_K {f : Value} (h : keepIn K f = true) : keepsOk K f := fun _ h' X => keeps_K h h' X
theorem keepsOk_builtin {id : String} : keepsOk K (.builtin id) := fun _ _ _ => ⟨.machine, .inr (.inl rfl), .of_pure rfl⟩
theorem keepsOk_type {n : String} : keepsOk K (.type n) := fun _ _ _ => ⟨.machine, .inr (.inl rfl), .of_pure rfl⟩

theorem backTo_any {pos : Pos} {l : List (Bool × Sem Value)} : (backTo pos l).any (·.1) = l.any (·.1) := by
  unfold backTo; rw [List.any_map]; rfl

theorem evalArgs_any {M : Model} {A : Around} {f : Value} {trees : List (Bool × Sem Value)} {Q : Args → Shared → Prop} {E : Value → Shared → Prop} {s : Shared} (hp : trees.any (·.1) = false)
    (h : wpAny M A (spliced trees) (fun vs s' => Q ⟨vs, []⟩ s') E s) : wpAny M A (evalArgs f true trees []) Q E s := by
  cases trees with
  | nil =>
    unfold evalArgs
    show wpAny M A (spliced [] >>= _) Q E s
    exact wpAny_bind (wpAny_mono h (fun vs s' h' => wpAny_bind (wpAny_pure (wpAny_holding (wpAny_bind (wpAny_pure (wpAny_bind (wpAny_pure (wpAny_pure h')))))))) fun _ _ x => x)
  | cons t r =>
    obtain ⟨b, x⟩ := t
    have : b = false := by simp at hp; exact hp.1
    subst this
    exact Calls.evalArgs_plain h

/-- f(args): the callee, the arguments, the call -/
theorem Ev_call {n : Nat} {A : Around} {e : Env} {fr : Vars} {func : Expr} {args : List Expr} {pos : Pos} {yf : MV} {f : Value} {R : MV → Sg → Prop} (hf : EP prog w K A e fr σ func yf) (hv : ∀ h σ v, VR h σ yf v → v = f) (hk : keepsOk K f)
    (h : Evs prog w K A e fr σ args fun ys σ₁ => ∀ s vs, RepF prog w K (flOf A) e fr σ₁ s → VRs s.heap σ₁ ys vs → wpAny (model prog w) A (call f vs) (fun v s' => ∃ y σ', RepF prog w K (flOf A) e fr σ' s' ∧ Step (own e) σ₁ s σ' s' ∧ VR s'.heap σ' y v ∧ R y σ') (fun _ _ => False) s)
    (hp : (starEach args e).any (·.1) = false := by rfl)
    (hc : eval (.Call func args [] pos) e = (do callWith pos (← eval func e) [] (backTo pos (starEach args e)) (backToKw pos (keywordEach [] e))) := by rfl) : Ev prog w K A e fr σ (eval (.Call func args [] pos) e) R := fun s r => by
  rw [hc]
  refine wpAny_bind (wpAny_mono (hf s r) (fun v s₁ hzz => ?_) fun _ _ f => f)
  obtain ⟨p, rv⟩ := hzz
  cases hv _ _ _ rv
  have r1 := r.ext p
  have hp' : (backTo pos (starEach args e)).any (·.1) = false := by unfold backTo; rw [List.any_map]; exact hp
  refine callWith_of (P := K.In) (by rw [hp']; rfl) (fun h' X => hk _ h' X) (evalArgs_any hp' ?_)
  refine wpAny_mono (h pos s₁ r1) (fun vs s₂ ⟨ys, σ₁, p2, q2, rs, hR⟩ => ⟨p2.top, ?_⟩) fun _ _ f => f
  exact wpAny_mono (hR s₂ vs p2 rs) (fun v s' ⟨y, σ', p3, q3, rv, hR⟩ => ⟨y, σ', p3, (p.step.trans q2).trans q3, rv, hR⟩) fun _ _ f => f

/-- the same where nothing is changed -/
noncomputable def OC (prog : Program) (w : World) (K : Frag) (A : Around) (σ : Sg) (f : Value) (ys : List MV) (c : MV) : Prop :=
  ∀ s vs, Rep prog w K (flOf A) σ s → VRs s.heap σ ys vs → wpAny (model prog w) A (call f vs) (fun v s' => Ext s s' ∧ VR s'.heap σ c v) (fun _ _ => False) s
theorem Ep_call {A : Around} {e : Env} {fr : Vars} {func : Expr} {args : List Expr} {pos : Pos} {yf : MV} {f : Value} {ys : List MV} {c : MV} (hf : EP prog w K A e fr σ func yf) (hv : ∀ h σ v, VR h σ yf v → v = f) (hk : keepsOk K f)
    (h : EPs prog w K A e fr σ args ys) (ho : OC prog w K A σ f ys c) (hp : (starEach args e).any (·.1) = false := by rfl)
    (hc : eval (.Call func args [] pos) e = (do callWith pos (← eval func e) [] (backTo pos (starEach args e)) (backToKw pos (keywordEach [] e))) := by rfl) : EP prog w K A e fr σ (.Call func args [] pos) c := fun s r => by
  rw [hc]
  refine wpAny_bind (wpAny_mono (hf s r) (fun v s₁ hzz => ?_) fun _ _ f => f)
  obtain ⟨p, rv⟩ := hzz
  cases hv _ _ _ rv
  have r1 := r.ext p
  have hp' : (backTo pos (starEach args e)).any (·.1) = false := by unfold backTo; rw [List.any_map]; exact hp
  refine callWith_of (P := K.In) (by rw [hp']; rfl) (fun h' X => hk _ h' X) (evalArgs_any hp' ?_)
  refine wpAny_mono (h pos s₁ r1) (fun vs s₂ ⟨p2, rs⟩ => ⟨(r1.ext p2).top, ?_⟩) fun _ _ f => f
  exact wpAny_mono (ho s₂ vs (r1.ext p2).toRep rs) (fun v s' ⟨p3, rv⟩ => ⟨(p.trans p2).trans p3, rv⟩) fun _ _ f => f
end
end Mine

end
section
open PySem PySem.W PyProof.Rows
namespace Mine

/-! instances -/
section pure
variable {h : Heap} {σ : Sg}
theorem NR.get {name : Str} : ∀ {es : List (Str × MV)} {l : List DictEntry} {y : MV}, NR h σ es l → es.lookup name = some y → ∃ v, getL name l = some (some v) ∧ VR h σ y v
  | (x, z) :: r, _, y, ⟨a, t, v, q, e, rv, rr⟩, g => by
    subst e
    rw [List.lookup_cons] at g
    by_cases w : (name == x) = true
    · have := eq_of_beq w; subst this
      rw [w] at g; cases g
      exact ⟨v, by unfold getL; rw [List.find?_cons]; simp [Value.isStr], rv⟩
    · have w' : (name == x) = false := by simpa using w
      rw [w'] at g
      obtain ⟨v', g', r'⟩ := NR.get rr g
      refine ⟨v', ?_, r'⟩
      unfold getL at g' ⊢
      have : (Value.str x t).isStr name = false := by
        simp only [Value.isStr]
        cases q' : x == name with
        | false => rfl
        | true => rw [eq_of_beq q'] at w'; simp at w'
      rw [List.find?_cons, this]
      split at g'
      · rename_i e' he'; rw [he']; exact g'
      · rename_i he'
        rw [he']
        split at g' <;> cases g'
theorem NR.noRef : ∀ {es : List (Str × MV)} {l : List DictEntry}, NR h σ es l → l.any (·.refKey) = false
  | [], _, e => by rw [show _ = [] from e]; rfl
  | _ :: _, _, ⟨a, t, v, q, e, _, rr⟩ => by rw [e, List.any_cons, NR.noRef rr]; rfl
theorem NR.miss {name : Str} : ∀ {es : List (Str × MV)} {l : List DictEntry}, NR h σ es l → es.lookup name = none → getL name l = some none
  | [], _, e, _ => by rw [show _ = [] from e]; rfl
  | (x, z) :: r, _, ⟨a, t, v, q, e, rv, rr⟩, g => by
    subst e
    rw [List.lookup_cons] at g
    by_cases w : (name == x) = true
    · rw [w] at g; cases g
    · have w' : (name == x) = false := by simpa using w
      rw [w'] at g
      have g' := NR.miss rr g
      unfold getL at g' ⊢
      have : (Value.str x t).isStr name = false := by
        simp only [Value.isStr]
        cases q' : x == name with
        | false => rfl
        | true => rw [eq_of_beq q'] at w'; simp at w'
      rw [List.find?_cons, this]
      split at g'
      · cases g'
      · rename_i he'
        rw [he']
        have := rr.noRef
        simp only [List.any_cons, this]
        simp [DictEntry.refKey]
theorem NR.put {name : Str} {hsh : Int} {tk : Tok} {y : MV} {v : Value} (rv : VR h σ y v) : ∀ {es : List (Str × MV)} {l : List DictEntry}, NR h σ es l → NR h σ (setv es name y) (putL name hsh (.str name tk) v l)
  | [], _, e => by rw [show _ = [] from e]; exact ⟨hsh, tk, v, [], rfl, rv, rfl⟩
  | (x, z) :: r, _, ⟨a, t, v', q, e, rv', rr⟩ => by
    subst e
    unfold setv putL
    have : (Value.str x t).isStr name = (name == x) := by
      simp only [Value.isStr]
      by_cases q' : x = name
      · subst q'; simp
      · rw [beq_eq_false_iff_ne.mpr q', beq_eq_false_iff_ne.mpr (Ne.symm q')]
    dsimp only
    rw [this]
    by_cases w : (name == x) = true
    · rw [w]; exact ⟨a, t, v, q, rfl, rv, rr⟩
    · have w' : (name == x) = false := by simpa using w
      rw [w']; exact ⟨a, t, v', _, rfl, rv', NR.put rv rr⟩
theorem NR.length : ∀ {es : List (Str × MV)} {l : List DictEntry}, NR h σ es l → l.length = es.length
  | [], _, e => by rw [show _ = [] from e]; rfl
  | _ :: _, _, ⟨a, t, v, q, e, _, rr⟩ => by rw [e, List.length_cons, List.length_cons, NR.length rr]
theorem VRo.get : ∀ {vs : List (Option MV)} {l : List (Option Value)} {i : Nat} {y : MV}, VRo h σ vs l → vs[i]? = some (some y) → ∃ v, l[i]? = some (some v) ∧ VR h σ y v
  | none :: _, _, 0, _, _, g => by cases g
  | some _ :: _, _, 0, _, ⟨v, r, e, p, _⟩, g => by cases g; exact ⟨v, by rw [e]; rfl, p⟩
  | none :: xs, _, i + 1, _, ⟨r, e, q⟩, g => by
    obtain ⟨v, hv, p⟩ := VRo.get (i := i) q (by simpa using g)
    exact ⟨v, by rw [e]; simpa using hv, p⟩
  | some _ :: xs, _, i + 1, _, ⟨_, r, e, _, q⟩, g => by
    obtain ⟨v, hv, p⟩ := VRo.get (i := i) q (by simpa using g)
    exact ⟨v, by rw [e]; simpa using hv, p⟩
theorem VRo.length : ∀ {vs : List (Option MV)} {l : List (Option Value)}, VRo h σ vs l → l.length = vs.length
  | [], _, e => by rw [show _ = [] from e]; rfl
  | none :: _, _, ⟨r, e, q⟩ => by rw [e, List.length_cons, List.length_cons, VRo.length q]
  | some _ :: _, _, ⟨_, r, e, _, q⟩ => by rw [e, List.length_cons, List.length_cons, VRo.length q]
theorem VRo.append : ∀ {vs us : List (Option MV)} {l m : List (Option Value)}, VRo h σ vs l → VRo h σ us m → VRo h σ (vs ++ us) (l ++ m)
  | [], _, _, _, e, q => by rw [show _ = [] from e]; exact q
  | none :: _, _, _, _, ⟨r, e, q⟩, p => ⟨r ++ _, by rw [e]; rfl, VRo.append q p⟩
  | some _ :: _, _, _, _, ⟨v, r, e, w, q⟩, p => ⟨v, r ++ _, by rw [e]; rfl, w, VRo.append q p⟩
theorem VRo.replicate : ∀ n, VRo h σ (List.replicate n none) (List.replicate n none)
  | 0 => rfl
  | n + 1 => ⟨_, rfl, VRo.replicate n⟩
theorem VRo.set {y : MV} {v : Value} (rv : VR h σ y v) : ∀ {vs : List (Option MV)} {l : List (Option Value)} {i : Nat}, VRo h σ vs l → VRo h σ (vs.set i (some y)) (l.set i (some v))
  | [], _, _, e => by rw [show _ = [] from e]; rfl
  | none :: _, _, 0, ⟨r, e, q⟩ => by rw [e]; exact ⟨v, r, rfl, rv, q⟩
  | some _ :: _, _, 0, ⟨_, r, e, _, q⟩ => by rw [e]; exact ⟨v, r, rfl, rv, q⟩
  | none :: _, _, i + 1, ⟨r, e, q⟩ => by rw [e]; exact ⟨_, rfl, VRo.set rv q⟩
  | some _ :: _, _, i + 1, ⟨u, r, e, w, q⟩ => by rw [e]; exact ⟨u, _, rfl, w, VRo.set rv q⟩
end pure

noncomputable def sets (vs : List (Option MV)) (i : Nat) (y : MV) : List (Option MV) := (vs ++ List.replicate (i + 1 - vs.length) none).set i (some y)

/-- a plain value: a name read hands it on as it is -/
noncomputable def Handed (y : MV) : Prop := ∀ h σ v, VR h σ y v → handedIn v = true
theorem handed_none : Handed .none := fun _ _ _ r => by cases (show _ = Value.none from r); rfl
theorem handed_int {i : Int} : Handed (.int i) := fun _ _ _ r => by obtain ⟨_, rfl⟩ := r; rfl
theorem handed_str {i : Str} : Handed (.str i) := fun _ _ _ r => by obtain ⟨_, rfl⟩ := r; rfl
theorem handed_ref {a : Addr} : Handed (.ref a) := fun _ _ _ r => by cases (show _ = Value.ref a from r); rfl
theorem handed_lst {xs : List MV} : Handed (.lst xs) := fun _ _ _ r => by obtain ⟨a, _, _, rfl, _⟩ := r; rfl
theorem handed_tup {xs : List MV} : Handed (.tup xs) := fun _ _ _ r => by obtain ⟨a, _, _, rfl, _⟩ := r; rfl

section
variable {prog : Program} {w : World} {K : Frag} {A : Around} {e : Env} {fr : Vars} {σ : Sg}

theorem Rep.inst {s : Shared} {a C d : Addr} {vs : List (Option MV)} {es : List (Str × MV)} (r : Rep prog w K (flOf A) σ s) (ha : σ a = some (.inst C d vs)) (hd : σ d = some (.ns es)) :
    ∃ svs ents n, InstAt s.heap a ⟨.ref C, some d, .plain, svs⟩ C (some (dictOf ents n)) ∧ VRo s.heap σ vs svs.toList ∧ NR s.heap σ es ents ∧ s.heap.get? d = some (dictOf ents n) := by
  obtain ⟨svs, g, q⟩ := r.objs _ _ ha
  obtain ⟨ents, n, g', q'⟩ := r.objs _ _ hd
  exact ⟨svs, ents, n, ⟨g, rfl, rfl, g'⟩, q, q', g'⟩

/-- an attribute read -/
theorem Ep_attr {o : Expr} {name : Str} {pos : Pos} {a c : MV} (h : EP prog w K A e fr σ o a) (ho : O1 prog w K A σ (fun v => getAttr v name true) a c)
    (he : eval (.Attribute o name pos) e = (do
      let o' ← eval o e
      standAt pos.atName
      let r ← holding [o'] (getAttr o' name true)
      letTemporaryGo o o' r
      pure r) := by rfl) : EP prog w K A e fr σ (.Attribute o name pos) c := fun s r =>
  Attribute_any_ (wpAny_mono (h s r) (fun v s₁ ⟨p, rv⟩ => wpAny_mono (ho s₁ v (r.ext p).toRep rv) (fun _ _ ⟨q, rc⟩ => ⟨p.trans q, rc⟩) fun _ _ f => f) fun _ _ f => f) he

theorem O1_own {a C d : Addr} {vs : List (Option MV)} {es : List (Str × MV)} {name : Str} {x : Bool} {y : MV} {attr : Option Value} (ha : σ a = some (.inst C d vs)) (hd : σ d = some (.ns es)) (hl : es.lookup name = some y) (hy : Handed y)
    (hg : plainGet K C name = true) (hh : hasDictIn K C = true) (hf : findIn K (.ref C) name = some attr) (hn : noGet K attr = true) : O1 prog w K A σ (fun v => getAttr v name x) (.ref a) y := fun s va r rv => by
  cases (show va = .ref a from rv)
  obtain ⟨svs, ents, n, I, _, q, _⟩ := r.inst ha hd
  obtain ⟨v, g, rv⟩ := q.get hl
  exact get_value r.top I (plainGet_of hg).1 (findObj_own hh hf hn g) (hy _ _ _ rv) ⟨.tok, rv⟩

theorem O1_slot {a C d p : Addr} {vs : List (Option MV)} {es : List (Str × MV)} {name : Str} {x : Bool} {y : MV} {i : Nat} (ha : σ a = some (.inst C d vs)) (hd : σ d = some (.ns es)) (hl : vs[i]? = some (some y)) (hy : Handed y)
    (hg : plainGet K C name = true) (hc : isClsIn K C = true) (hf : findIn K (.ref C) name = some (some (.ref p))) (hn : specialIn K (.ref p) "__get__" = some (some (.builtin "member_descriptor.__get__"))) (ht : takesIn K (.ref p) = some true)
    (hp : slotIn K p C = some i) : O1 prog w K A σ (fun v => getAttr v name x) (.ref a) y := fun s va r rv => by
  cases (show va = .ref a from rv)
  obtain ⟨svs, ents, n, I, q, _, _⟩ := r.inst ha hd
  obtain ⟨v, g, rv⟩ := q.get hl
  have g' : ((⟨.ref C, some d, .plain, svs⟩ : Obj).slots[i]?).join = some v := by show (svs[i]?).join = _; rw [← Array.getElem?_toList, g]; rfl
  exact get_bind r.top I (plainGet_of hg).1 (findObj_data hc hf hn ht) (plainGet_of hg).2 (wpAny_call (slot_get (s := { s with toks := s.toks + 1 }) r.top I hp g' (handed_on (hy _ _ _ rv) ⟨.tok, rv⟩)))

/-- all objects but two -/
noncomputable def others (h : Heap) (L x : Addr) : List (Addr × Obj) := (List.range h.objs.size).filterMap fun b => if b = x ∨ b = L then none else (h.get? b).map (b, ·)
theorem mem_others {h : Heap} {L x b : Addr} {o : Obj} : (b, o) ∈ others h L x ↔ h.get? b = some o ∧ b ≠ x ∧ b ≠ L := by
  unfold others
  simp only [List.mem_filterMap, List.mem_range]
  constructor
  · rintro ⟨c, hc, q⟩
    split at q
    · cases q
    · rename_i hn
      obtain ⟨o', g, e⟩ := Option.map_eq_some_iff.mp q
      cases e
      exact ⟨g, fun e => hn (.inl e), fun e => hn (.inr e)⟩
  · rintro ⟨g, h1, h2⟩
    exact ⟨b, Heap.lt_size g, by rw [if_neg (by rintro (e | e); exact h1 e; exact h2 e), g]; rfl⟩

noncomputable def emptyHeap : Heap := {}
theorem empty_get {a : Addr} : emptyHeap.get? a = none := rfl
theorem RepF.fr0 {s : Shared} (r : RepF prog w K (flOf A) e fr σ s) : ∃ m, Fr emptyHeap e.locals s.heap m := let ⟨m, hn, _⟩ := r.loc; ⟨m, ⟨hn, fun b o g => (nomatch (empty_get.symm.trans g)), Nat.zero_le _⟩⟩
theorem news0 {s : Shared} {L x : Addr} {ox : Obj} (g : s.heap.get? x = some ox) (hne : x ≠ L) : News emptyHeap L s.heap ([] ++ (x, ox) :: others s.heap L x) := fun p hp => by
  rcases List.mem_cons.mp hp with rfl | hp
  · exact ⟨g, hne, empty_get⟩
  · have := (mem_others (b := p.1) (o := p.2)).mp hp
    exact ⟨this.1, this.2.2, empty_get⟩

theorem setv_length (es : Vars) (x : Str) (y : MV) : (setv es x y).length ≤ es.length + 1 := by
  induction es with
  | nil => simp [setv]
  | cons b r ih => obtain ⟨x', z⟩ := b; unfold setv; split <;> simp only [List.length_cons] <;> omega

theorem same_ns {h h' : Heap} {L : Addr} {m f : Str → Option Value} (hn : h.Ns L m) (hn' : h'.Ns L m) (hf : h.Ns L f) : h'.Ns L f := by
  obtain ⟨o1, e1, p1, g1, d1, k1, l1⟩ := hf
  obtain ⟨o2, e2, p2, g2, d2, k2, l2⟩ := hn
  rw [g1] at g2; cases g2
  rw [d1] at d2; cases d2
  have : f = m := by funext z; rw [← l1, ← l2]
  rw [this]; exact hn'

/-- a store into an attribute -/
noncomputable def SetA (prog : Program) (w : World) (K : Frag) (A : Around) (e : Env) (fr : Vars) (σ : Sg) (ov : MV) (name : Str) (y : MV) (R : Sg → Prop) : Prop :=
  ∀ s va v, RepF prog w K (flOf A) e fr σ s → VR s.heap σ ov va → VR s.heap σ y v → wpAny (model prog w) A (setAttr va name v) (fun _ s' => ∃ σ', RepF prog w K (flOf A) e fr σ' s' ∧ Step (own e) σ s σ' s' ∧ R σ') (fun _ _ => False) s

theorem SetA_dict {name : Str} {a C d : Addr} {vs : List (Option MV)} {es : List (Str × MV)} {y : MV} {R : Sg → Prop} (ha : σ a = some (.inst C d vs)) (hd : σ d = some (.ns es)) (hz : es.length < 900) (hR : R (σ.set d (.ns (setv es name y))))
    (hs : findIn K (.ref C) "__setattr__" = some (some (.builtin "object.__setattr__"))) (hp : plainOver K C = true) (ht : takerIn K C name = some none) (hh : hasDictIn K C = true) : SetA prog w K A e fr σ (.ref a) name y R := fun s va v r rva rv => by
  cases (show va = .ref a from rva)
  obtain ⟨svs, ents, n, I, _, q, g⟩ := r.inst ha hd
  obtain ⟨m, F⟩ := r.fr0
  have hdL : d ≠ e.locals := fun e' => by have := r.off d (.inl e'); rw [hd] at this; cases this
  have q' := q.put (name := name) (hsh := PyData.keyHash w.params name) (tk := s.toks + 1) rv
  have hl := setv_length es name y
  refine set_plain r.top I hs (osa_dict (s := { s with toks := s.toks + 1 }) (pre := []) F (news0 g hdL) r.top I rfl hp ht hh (es := putL name (PyData.keyHash w.params name) (.str name (s.toks + 1)) v ents) (n := putN name ents n) ?_ (fun _ h => nomatch h) (fun b hb => (mem_others.mp hb).2.1)
    (putName_dict _ _ _ _ _ _) rfl (by rw [q'.length]; omega) fun h' F' N' => ?_)
  · show (getL name ents).isSome = true
    cases z : es.lookup name with
    | none => rw [q.miss z]; rfl
    | some y' => obtain ⟨_, g', _⟩ := q.get z; rw [g']; rfl
  · have kept : ∀ b o, b ≠ d → b ≠ e.locals → s.heap.get? b = some o → h'.get? b = some o := fun b o h1 h2 g' => (N' (b, o) (List.mem_append_right _ (.tail _ (mem_others.mpr ⟨g', h1, h2⟩)))).1
    obtain ⟨r3, t3⟩ := r.updL (s' := { s with heap := h', toks := s.toks + 1 + 1 }) (m' := .ns (setv es name y)) hd kept (fun f hf => same_ns F.ns F'.ns hf) rfl rfl
      ⟨_, _, (N' (d, _) (List.mem_append_right _ (.head _))).1, q'.mono fun b c its n' g' z => ⟨kept b _ (fun e' => by rw [e', hd] at z; cases z) (fun e' => r.notOwn g' (.inl e')) g', Sg.set_none' _ (fun e' => by rw [e', hd] at z; cases z) z⟩⟩
    exact ⟨_, r3, t3, hR⟩

theorem SetA_slot {name : Str} {a C d p : Addr} {i : Nat} {vs : List (Option MV)} {es : List (Str × MV)} {y : MV} {R : Sg → Prop} (ha : σ a = some (.inst C d vs)) (hd : σ d = some (.ns es)) (hR : R (σ.set a (.inst C d (sets vs i y))))
    (hs : findIn K (.ref C) "__setattr__" = some (some (.builtin "object.__setattr__"))) (hp : plainOver K C = true) (ht : takerIn K C name = some (some (.ref p))) (hT : typeIn K (.ref p) = some (.type "member_descriptor")) (hi : slotIn K p C = some i) (hz : i < 1000) :
    SetA prog w K A e fr σ (.ref a) name y R := fun s va v r rva rv => by
  cases (show va = .ref a from rva)
  obtain ⟨svs, ents, n, I, q, _, g⟩ := r.inst ha hd
  obtain ⟨m, F⟩ := r.fr0
  have haL : a ≠ e.locals := fun e' => by have := r.off a (.inl e'); rw [ha] at this; cases this
  refine set_plain r.top I hs (osa_descr (s := { s with toks := s.toks + 1 }) KF.slot_mset r.top I hp ht hT (slot_set (s := { s with toks := s.toks + 1 }) (pre := []) F (news0 I.at_ haL) r.top I hi hz (fun _ h => nomatch h) (fun b hb => (mem_others.mp hb).2.1) rfl rfl fun h' F' N' => ?_))
  have kept : ∀ b o, b ≠ a → b ≠ e.locals → s.heap.get? b = some o → h'.get? b = some o := fun b o h1 h2 g' => (N' (b, o) (List.mem_append_right _ (.tail _ (mem_others.mpr ⟨g', h1, h2⟩)))).1
  have ks : ∀ b c its n', s.heap.get? b = some ⟨c, none, .seq its n', #[]⟩ → σ b = none → h'.get? b = some ⟨c, none, .seq its n', #[]⟩ ∧ σ.set a (.inst C d (sets vs i y)) b = none := fun b c its n' g' z =>
    ⟨kept b _ (fun e' => by rw [e', ha] at z; cases z) (fun e' => r.notOwn g' (.inl e')) g', Sg.set_none' _ (fun e' => by rw [e', ha] at z; cases z) z⟩
  have hq : VRo s.heap σ (sets vs i y) ((svs ++ Array.replicate (i + 1 - svs.size) none).setIfInBounds i (some v)).toList := by
    unfold sets
    rw [Array.toList_setIfInBounds, Array.toList_append, Array.toList_replicate]
    have := q.length
    rw [Array.length_toList] at this
    rw [this]
    exact (q.append (.replicate _)).set rv
  obtain ⟨r3, t3⟩ := r.updL (s' := { s with heap := h', toks := s.toks + 1 }) (m' := .inst C d (sets vs i y)) ha kept (fun f hf => same_ns F.ns F'.ns hf) rfl rfl
    ⟨_, (N' (a, _) (List.mem_append_right _ (.head _))).1, hq.mono ks⟩
  exact ⟨_, r3, t3, hR⟩

theorem Ex_setAttr {o value : Expr} {name : Str} {pos p : Pos} {R : MF → Vars → Sg → Prop}
    (hv : Ev prog w K A e fr σ (eval value e) fun y σ₁ => ∃ ov, EP prog w K A e fr σ₁ o ov ∧ SetA prog w K A e fr σ₁ ov name y (R .next fr))
    (hsw : swapsWith value (some (.Attribute o name p)) pos.line e = pure false := by rfl) : E1 prog w K A e fr σ (.Assign [.Attribute o name p] value pos) R := fun s r =>
  plainObj_wpAny_Assign_Attribute (wpAny_mono (hv s r) (fun v s₁ ⟨y, σ₁, r1, q1, rv, ov, ho, hS⟩ => wpAny_mono (ho s₁ r1) (fun va s₂ ⟨p2, rov⟩ =>
    wpAny_mono (hS s₂ va v (r1.ext p2) rov (rv.ext p2.keep)) (fun _ s₃ ⟨σ', r3, t3, hR⟩ => ⟨.next, fr, σ', r3, (q1.trans p2.step).trans t3, rfl, hR⟩) fun _ _ f => f) fun _ _ f => f) fun _ _ f => f) hsw

theorem Ex_augAttr {o value : Expr} {name : Str} {op : Operator} {pos p : Pos} {ov a b c : MV} {R : MF → Vars → Sg → Prop} (ho : EP prog w K A e fr σ o ov) (hg : O1 prog w K A σ (fun v => getAttr v name true) ov a) (hv : EP prog w K A e fr σ value b)
    (hop : O2 prog w K A σ (inplaceOp op) a b c) (hS : SetA prog w K A e fr σ ov name c (R .next fr)) : E1 prog w K A e fr σ (.AugAssign (.Attribute o name p) op value pos) R := fun s r =>
  wpAny_AugAssign_AttributeAny (wpAny_mono (ho s r) (fun va s₁ ⟨p1, rov⟩ => wpAny_mono (hg s₁ va (r.ext p1).toRep rov) (fun vo s₂ ⟨p2, ra⟩ => wpAny_mono (hv s₂ ((r.ext p1).ext p2)) (fun vb s₃ ⟨p3, rb⟩ =>
    wpAny_mono (hop s₃ vo vb (((r.ext p1).ext p2).ext p3).toRep (ra.ext p3.keep) rb) (fun vc s₄ ⟨p4, rc⟩ =>
      wpAny_mono (hS s₄ va vc ((((r.ext p1).ext p2).ext p3).ext p4) (((rov.ext p2.keep).ext p3.keep).ext p4.keep) rc) (fun _ s₅ ⟨σ', r5, t5, hR⟩ => ⟨.next, fr, σ', r5, (((p1.trans p2).trans p3).trans p4).step.trans t5, rfl, hR⟩) fun _ _ f => f) fun _ _ f => f) fun _ _ f => f) fun _ _ f => f) fun _ _ f => f)

/-- o.name(args) where the method is a def of the class of the object -/
theorem Ev_meth {o : Expr} {name : Str} {args : List Expr} {pos apos : Pos} {a C d f : Addr} {R : MV → Sg → Prop} (ho : EP prog w K A e fr σ o (.ref a)) {vs : List (Option MV)} {es : List (Str × MV)} (ha : σ a = some (.inst C d vs)) (hd : σ d = some (.ns es)) (hl : es.lookup name = none)
    (hg : plainGet K C name = true) (hf : findIn K (.ref C) name = some (some (.ref f))) (ht : isFn K (.ref f) = true) (hk : keepIn K (.ref f) = true)
    (h : Evs prog w K A e fr σ args fun ys σ₁ => ∀ s vs, RepF prog w K (flOf A) e fr σ₁ s → VRs s.heap σ₁ ys vs → wpAny (model prog w) A (call (.ref f) (.ref a :: vs)) (fun v s' => ∃ y σ', RepF prog w K (flOf A) e fr σ' s' ∧ Step (own e) σ₁ s σ' s' ∧ VR s'.heap σ' y v ∧ R y σ') (fun _ _ => False) s)
    (hp : (starEach args e).any (·.1) = false := by rfl) (hbase : attributeBase o name e (eval o e) = eval o e := by rfl)
    (hfew : methodCallForm (args.length + ([] : List Keyword).length) (backTo pos (starEach args e)) (backToKw pos (keywordEach [] e)) = true := by rfl) (hline : (apos.endLine == pos.line) = true := by rfl) :
    Ev prog w K A e fr σ (eval (.Call (.Attribute o name apos) args [] pos) e) R := fun s r => by
  rw [arm_eval_Call, hbase]
  refine wpAny_bind (wpAny_mono (ho s r) (fun v s₁ hzz => ?_) fun _ _ f => f)
  obtain ⟨p, rv⟩ := hzz
  cases (show v = .ref a from rv)
  have r1 := r.ext p
  obtain ⟨svs, ents, n, I, _, q, g⟩ := r1.inst ha hd
  have hpos : methodCallPos true o e apos pos = pure pos := by unfold methodCallPos; simp [hline]
  refine wpAny_bind (wpAny_standAt ?_)
  unfold methodCall
  rw [hfew]
  refine wpAny_bind (wpAny_holding ?_)
  unfold calleeOf
  rw [if_pos rfl]
  refine method_fn r1.top I (plainGet_of hg).1 (plainGet_of hg).2 hf (beq_iff_eq.mp ht) (by show (lookIn name (dictOf ents n)).map _ = _; rw [lookIn_dict, q.miss hl]; rfl) ?_
  dsimp only
  rw [hpos]
  refine wpAny_bind (wpAny_pure ?_)
  have hp' : (backTo pos (starEach args e)).any (·.1) = false := by unfold backTo; rw [List.any_map]; exact hp
  refine callWith_of (P := K.In) (by rw [hp']; rfl) (fun h' X => keepsOk_K hk _ h' X) (evalArgs_any hp' ?_)
  refine wpAny_mono (h pos s₁ r1) (fun vs s₂ ⟨ys, σ₁, p2, q2, rs, hR⟩ => ⟨p2.top, ?_⟩) fun _ _ f => f
  exact wpAny_mono (hR s₂ vs p2 rs) (fun v s' ⟨y, σ', p3, q3, rv, hR⟩ => ⟨y, σ', p3, (p.step.trans q2).trans q3, rv, hR⟩) fun _ _ f => f

/-- o.name(args) where o's type is built in and name is a method of it -/
theorem Ev_bmeth {o : Expr} {name : Str} {args : List Expr} {pos apos : Pos} {a : MV} {T id : String} {R : MV → Sg → Prop} (ho : EP prog w K A e fr σ o a)
    (hT : ∀ s v, Rep prog w K (flOf A) σ s → VR s.heap σ a v → s.TypeIs v T ∧ ∀ b, v = .ref b → ∃ ob, s.heap.get? b = some ob ∧ ob.dict = none) (pa : PlainAttrs T) (slot : Slot T name id) (hty : typeOf (.builtin id) = pure (.type "method_descriptor"))
    (h : Evs prog w K A e fr σ args fun ys σ₁ => ∀ s va vs, RepF prog w K (flOf A) e fr σ₁ s → VR s.heap σ₁ a va → VRs s.heap σ₁ ys vs → wpAny (model prog w) A (call (.builtin id) (va :: vs)) (fun v s' => ∃ y σ', RepF prog w K (flOf A) e fr σ' s' ∧ Step (own e) σ₁ s σ' s' ∧ VR s'.heap σ' y v ∧ R y σ') (fun _ _ => False) s)
    (hp : (starEach args e).any (·.1) = false := by rfl) (hbase : attributeBase o name e (eval o e) = eval o e := by rfl)
    (hfew : methodCallForm (args.length + ([] : List Keyword).length) (backTo pos (starEach args e)) (backToKw pos (keywordEach [] e)) = true := by rfl) (hline : (apos.endLine == pos.line) = true := by rfl) :
    Ev prog w K A e fr σ (eval (.Call (.Attribute o name apos) args [] pos) e) R := fun s r => by
  rw [arm_eval_Call, hbase]
  refine wpAny_bind (wpAny_mono (ho s r) (fun v s₁ hzz => ?_) fun _ _ f => f)
  obtain ⟨p, rv⟩ := hzz
  have r1 := r.ext p
  have hpos : methodCallPos true o e apos pos = pure pos := by unfold methodCallPos; simp [hline]
  refine wpAny_bind (wpAny_standAt ?_)
  unfold methodCall
  rw [hfew]
  refine wpAny_bind (wpAny_holding (getMethod_builtin (hT _ _ r1.toRep rv).1 pa slot hty (hT _ _ r1.toRep rv).2 ?_))
  dsimp only
  rw [hpos]
  refine wpAny_bind (wpAny_pure ?_)
  have hp' : (backTo pos (starEach args e)).any (·.1) = false := by unfold backTo; rw [List.any_map]; exact hp
  refine callWith_of (P := K.In) (by rw [hp']; rfl) (fun h' X => keepsOk_builtin _ h' X) (evalArgs_any hp' ?_)
  refine wpAny_mono (h pos s₁ r1) (fun vs s₂ ⟨ys, σ₁, p2, q2, rs, hR⟩ => ⟨p2.top, ?_⟩) fun _ _ f => f
  exact wpAny_mono (hR s₂ v vs p2 (r1.vr q2 rv) rs) (fun v s' ⟨y, σ', p3, q3, rv, hR⟩ => ⟨y, σ', p3, (p.step.trans q2).trans q3, rv, hR⟩) fun _ _ f => f
end
end Mine

end
section
open PySem PySem.W PyProof.Rows
namespace Mine

section
variable {prog : Program} {w : World} {K : Frag} {A : Around} {e : Env} {fr : Vars} {σ : Sg}

/-- a list, changed or not -/
noncomputable def LV (σ : Sg) (y : MV) (xs : List MV) : Prop := y = .lst xs ∨ ∃ a, y = .ref a ∧ σ a = some (.list xs)
theorem LV.lst {xs : List MV} : LV σ (.lst xs) xs := .inl rfl
theorem LV.ref {a : Addr} {xs : List MV} (h : σ a = some (.list xs)) : LV σ (.ref a) xs := .inr ⟨a, rfl, h⟩
theorem LV.at {s : Shared} {y : MV} {xs : List MV} {v : Value} (l : LV σ y xs) (r : Rep prog w K (flOf A) σ s) (rv : VR s.heap σ y v) : ∃ a its n, v = .ref a ∧ s.heap.get? a = some (listO its n) ∧ VRs s.heap σ xs its.toList := by
  rcases l with rfl | ⟨a, rfl, h⟩
  · obtain ⟨a, its, n, e, _, g, q⟩ := rv; exact ⟨a, its, n, e, g, q⟩
  · obtain ⟨its, n, g, q⟩ := r.objs _ _ h
    exact ⟨a, its, n, rv, g, q⟩
theorem isList {h : Heap} {a : Addr} {its : Array Value} {n : Nat} (g : h.get? a = some (listO its n)) : h.IsList a its := ⟨_, g, rfl, n, rfl⟩
theorem isTup {h : Heap} {a : Addr} {its : Array Value} {n : Nat} (g : h.get? a = some (tupO its n)) : IsTup h a its := ⟨_, g, rfl, n, rfl⟩
theorem VRs.size {h : Heap} {xs : List MV} {its : Array Value} (q : VRs h σ xs its.toList) : its.size = xs.length := by rw [← q.length]; simp
theorem VRs.at {h : Heap} {xs : List MV} {its : Array Value} {i : Nat} {x : MV} (q : VRs h σ xs its.toList) (g : xs[i]? = some x) : ∃ v, its[i]? = some v ∧ VR h σ x v := by
  obtain ⟨v, hv, r⟩ := q.get g
  exact ⟨v, by simpa using hv, r⟩

theorem big_line : sizeLine = 16777216 := rfl

/-- len -/
theorem OC_len {y : MV} {xs : List MV} (l : LV σ y xs) (hn : xs.length ≤ 10000) : OC prog w K A σ (.builtin "len") [y] (.int xs.length) := fun s vs r rs => by
  obtain ⟨v, vs', e1, rv, e2⟩ := rs
  cases (show vs' = [] from e2); subst e1
  obtain ⟨a, its, n, rfl, g, q⟩ := l.at r rv
  have := q.size
  exact Calls.call_len_list (isList g) (by omega) ⟨.tok, _, by rw [this]⟩
theorem OC_lenT {xs : List MV} (hn : xs.length ≤ 10000) : OC prog w K A σ (.builtin "len") [.tup xs] (.int xs.length) := fun s vs r rs => by
  obtain ⟨v, vs', e1, ⟨a, its, n, rfl, _, g, q⟩, e2⟩ := rs
  cases (show vs' = [] from e2); subst e1
  have := q.size
  exact len_tuple (isTup g) (by omega) ⟨.tok, _, by rw [this]⟩

/-- o[i] -/
noncomputable def OS (prog : Program) (w : World) (K : Frag) (A : Around) (σ : Sg) (a i c : MV) : Prop :=
  ∀ s va vi, Rep prog w K (flOf A) σ s → VR s.heap σ a va → VR s.heap σ i vi → ∃ T id, s.TypeIs va T ∧ typeLookup (.type T) "__getitem__" = pure (some (.builtin id)) ∧ wpAny (model prog w) A (getItem va vi) (fun v s' => Ext s s' ∧ VR s'.heap σ c v) (fun _ _ => False) s
theorem Ep_sub {value slice : Expr} {pos : Pos} {a i c : MV} (ha : EP prog w K A e fr σ value a) (hi : EP prog w K A e fr σ slice i) (ho : OS prog w K A σ a i c)
    (hs : ∀ o i, subscripted slice false o i = operate [o, i] (getItem o i) := by intros; rfl) : EP prog w K A e fr σ (.Subscript value slice pos) c := fun s r =>
  Subscript_ (wpAny_mono (ha s r) (fun va s₁ ⟨p, ra⟩ => wpAny_mono (hi s₁ (r.ext p)) (fun vi s₂ ⟨q, ri⟩ => by
    obtain ⟨T, id, hT, hl, hg⟩ := ho s₂ va vi ((r.ext p).ext q).toRep (ra.ext q.keep) ri
    exact tail_any hT hl (wpAny_mono hg (fun v s' ⟨t, rc⟩ => ⟨(p.trans q).trans t, rc⟩) fun _ _ f => f) (hs va vi)) fun _ _ f => f) fun _ _ f => f)

theorem OS_list {y : MV} {xs : List MV} {k : Int} {c : MV} (l : LV σ y xs) (h0 : 0 ≤ k) (hx : xs[k.toNat]? = some c) (hn : xs.length ≤ 10000) : OS prog w K A σ y (.int k) c := fun s va vi r ra ri => by
  obtain ⟨a, its, n, rfl, g, q⟩ := l.at r ra
  obtain ⟨t, rfl⟩ := ri
  obtain ⟨v, hv, rv⟩ := q.at hx
  have : k.toNat < xs.length := (List.getElem?_eq_some_iff.mp hx).1
  exact ⟨"list", _, ⟨_, g, rfl⟩, slot_list_getitem.lookup, wpAny_getItem_list (isList g) h0 (by omega) hv ⟨.refl, rv⟩⟩
theorem OS_list_neg {y : MV} {xs : List MV} {k : Int} {c : MV} (l : LV σ y xs) (h0 : k < 0) (h1 : -(xs.length : Int) ≤ k) (hx : xs[(k + xs.length).toNat]? = some c) (hn : xs.length ≤ 10000) : OS prog w K A σ y (.int k) c := fun s va vi r ra ri => by
  obtain ⟨a, its, n, rfl, g, q⟩ := l.at r ra
  obtain ⟨t, rfl⟩ := ri
  obtain ⟨v, hv, rv⟩ := q.at hx
  have := q.size
  exact ⟨"list", _, ⟨_, g, rfl⟩, slot_list_getitem.lookup, wpAny_getItem_list_neg (isList g) h0 (by omega) (by omega) (by rw [this]; exact hv) ⟨.refl, rv⟩⟩
theorem OS_tup {xs : List MV} {k : Int} {j : Nat} {c : MV} (hj : seqIndex? k xs.length = some j) (hx : xs[j]? = some c) (hk : -(2 ^ 63) ≤ k ∧ k < 2 ^ 63) : OS prog w K A σ (.tup xs) (.int k) c := fun s va vi r ra ri => by
  obtain ⟨a, its, n, rfl, _, g, q⟩ := ra
  obtain ⟨t, rfl⟩ := ri
  obtain ⟨v, hv, rv⟩ := q.at hx
  exact ⟨"tuple", _, ⟨_, g, rfl⟩, slot_tuple_getitem.lookup, getItem_tuple (isTup g) hk.1 hk.2 (by rw [q.size]; exact hj) hv ⟨.refl, rv⟩⟩

/-- xs[lo:hi], of any base -/
theorem list_slice {env : Env} {value : Expr} {lower upper : Option Expr} {p pos : Pos} {s : Shared} {E Q : Value → Shared → Prop}
    (h : wpAny (model prog w) A (eval value env) (fun o s₁ => wpAny (model prog w) A (evalPart lower env) (fun vl s₂ => wpAny (model prog w) A (evalPart upper env) (fun vu s₃ =>
      ∃ l items lo hi, o = .ref l ∧ s₃.heap.IsList l items ∧ items.size ≤ sizeLine ∧ IsPart vl lo ∧ IsPart vu hi ∧
        Q (.ref (s₃.heap.objs.size + 1)) { s₃ with heap := (s₃.heap.push { cls := .type "slice", data := .fields #[vl, vu, .none] }).push { cls := .type "list", data := .seq (slicePick items lo hi none) } }) E s₂) E s₁) E s) :
    wpAny (model prog w) A (eval (.Subscript value (.Slice lower upper none p) pos) env) Q E s := by
  refine Subscript_ (wpAny_mono h (fun o s₁ h₁ => wpAny_Slice (wpAny_mono h₁ (fun vl s₂ h₂ => wpAny_mono h₂ (fun vu s₃ h₃ => ?_) fun _ _ e => e) fun _ _ e => e)) fun _ _ e => e)
  obtain ⟨l, items, lo, hi, rfl, hl, hsz, pl, pu, hQ⟩ := h₃
  rw [evalPart_none]
  refine wpAny_pure (tail_any (ops := [_, _]) (hl.push _).typeIs slot_list_getitem.lookup (wpAny_getItem_list_slice (hl.push _) (Heap.IsSliceOf.new ..) pl pu .none (by simp) ?_ hsz) rfl)
  rw [Heap.size_push]
  exact hQ
/-- xs[lo:hi] -/
noncomputable def PartP (prog : Program) (w : World) (K : Frag) (A : Around) (e : Env) (fr : Vars) (σ : Sg) : Option Expr → Option Int → Prop
  | none, none => True
  | some x, some i => EP prog w K A e fr σ x (.int i)
  | _, _ => False
noncomputable def cutL (xs : List MV) : Option Int → Option Int → List MV
  | none, some i => xs.take i.toNat
  | some i, none => xs.drop i.toNat
  | _, _ => xs
theorem Ep_slice {value : Expr} {lower upper : Option Expr} {p pos : Pos} {y : MV} {xs ys : List MV} {lo hi : Option Int} (l : LV σ y xs) (hn : xs.length ≤ 10000) (ha : EP prog w K A e fr σ value y)
    (h1 : PartP prog w K A e fr σ lower lo) (h2 : PartP prog w K A e fr σ upper hi) (hc : ys = cutL xs lo hi) (hb : (∃ i : Nat, lo = some (i : Int) ∧ hi = none) ∨ (∃ i : Nat, hi = some (i : Int) ∧ lo = none))
    : EP prog w K A e fr σ (.Subscript value (.Slice lower upper none p) pos) (.lst ys) := fun s r => by
  refine list_slice (wpAny_mono (ha s r) (fun va s₁ hzz => ?_) fun _ _ f => f)
  obtain ⟨p1, ra⟩ := hzz
  have part : ∀ (x : Option Expr) (i : Option Int) (s₁ : Shared), RepF prog w K (flOf A) e fr σ s₁ → PartP prog w K A e fr σ x i →
      wpAny (model prog w) A (evalPart x e) (fun v s₂ => Ext s₁ s₂ ∧ IsPart v i) (fun _ _ => False) s₁ := by
    intro x i s₁ r₁ h
    match x, i, h with
    | none, none, _ => rw [evalPart_none]; exact wpAny_pure ⟨.refl, .none⟩
    | some x, some i, h => exact wpAny_mono (h s₁ r₁) (fun v s₂ ⟨q, t, e⟩ => ⟨q, e ▸ .int i t⟩) fun _ _ f => f
  refine wpAny_mono (part lower lo s₁ (r.ext p1) h1) (fun vl s₂ hzz => ?_) fun _ _ f => f
  obtain ⟨p2, pl⟩ := hzz
  refine wpAny_mono (part upper hi s₂ ((r.ext p1).ext p2) h2) (fun vu s₃ hzz => ?_) fun _ _ f => f
  obtain ⟨p3, pu⟩ := hzz
  have r3 := ((r.ext p1).ext p2).ext p3
  obtain ⟨a, its, n, rfl, g, q⟩ := l.at r3.toRep ((ra.ext p2.keep).ext p3.keep)
  have hsz := q.size
  refine ⟨a, its, lo, hi, rfl, isList g, by rw [big_line]; omega, pl, pu, ((p1.trans p2).trans p3).trans ⟨fun b o g => Heap.get?_push_of_some _ (Heap.get?_push_of_some _ g), rfl, rfl⟩, s₃.heap.objs.size + 1, slicePick its lo hi none, 0, rfl, ?_, ?_, ?_⟩
  · cases z : σ (s₃.heap.objs.size + 1) with
    | none => rfl
    | some m => obtain ⟨o, g⟩ := (r3.objs _ _ z).there; exact absurd (Heap.lt_size g) (Nat.not_lt.mpr (Nat.le_succ _))
  · have := Heap.get?_push_size (s₃.heap.push { cls := .type "slice", data := .fields #[vl, vu, .none] }) (o := listO (slicePick its lo hi none) 0) rfl
    rwa [Heap.size_push] at this
  · have q' : VRs s₃.heap σ ys (slicePick its lo hi none).toList := by
      rcases hb with ⟨i, rfl, rfl⟩ | ⟨i, rfl, rfl⟩
      · rw [hc, slicePick_from']; simpa [cutL] using q.drop i
      · rw [hc, slicePick_upto']; simpa [cutL] using q.take i
    exact q'.ext fun b o g => Heap.get?_push_of_some _ (Heap.get?_push_of_some _ g)

/-- list + list -/
theorem O2_addL {a b : MV} {xs ys : List MV} (la : LV σ a xs) (lb : LV σ b ys) (hn : xs.length ≤ 10000) (hm : ys.length ≤ 10000) : O2 prog w K A σ (binaryOp .Add) a b (.lst (xs ++ ys)) := fun s va vb r ra rb => by
  obtain ⟨a, its, n, rfl, g, q⟩ := la.at r ra
  obtain ⟨b, its2, n2, rfl, g2, q2⟩ := lb.at r rb
  have h1 := q.size
  have h2 := q2.size
  refine P.add_list g g2 ⟨.push, s.heap.objs.size, _, 0, rfl, ?_, Heap.get?_push_size _ rfl, ?_⟩ (by rw [big_line]; omega)
  · cases z : σ s.heap.objs.size with
    | none => rfl
    | some m => obtain ⟨o, g⟩ := (r.objs _ _ z).there; exact absurd (Heap.lt_size g) (Nat.lt_irrefl _)
  · rw [Array.toList_append]; exact (q.append q2).ext fun b o g => Heap.get?_push_of_some _ g

/-! changes of lists: by the exact turn of the object -/
theorem RepF.updList {s : Shared} {a : Addr} {xs ys : List MV} {its : Array Value} {n : Nat} {f : Array Value → Array Value} {tk : Nat} (r : RepF prog w K (flOf A) e fr σ s) (ha : σ a = some (.list xs)) (g : s.heap.get? a = some (listO its n)) (q : VRs s.heap σ ys (f its).toList) :
    RepF prog w K (flOf A) e fr (σ.set a (.list ys)) { s with heap := s.heap.update a (Obj.mapSeq f), toks := tk } ∧ Step (own e) σ s (σ.set a (.list ys)) { s with heap := s.heap.update a (Obj.mapSeq f), toks := tk } := by
  have kept : ∀ b o, b ≠ a → s.heap.get? b = some o → (s.heap.update a (Obj.mapSeq f)).get? b = some o := fun b o h g => (Heap.get?_update_other _ _ (Ne.symm h)).trans g
  exact r.upd (s' := { s with heap := s.heap.update a (Obj.mapSeq f), toks := tk }) ha kept rfl rfl ⟨f its, _, Heap.get?_update_self _ g rfl, q.mono fun b c its' n' g' z => ⟨kept b _ (fun e' => by rw [e', ha] at z; cases z) g', Sg.set_none' _ (fun e' => by rw [e', ha] at z; cases z) z⟩⟩

/-- xs[k] = y -/
noncomputable def SetI (prog : Program) (w : World) (K : Frag) (A : Around) (e : Env) (fr : Vars) (σ : Sg) (ov iv y : MV) (R : Sg → Prop) : Prop :=
  ∀ s va vi v, RepF prog w K (flOf A) e fr σ s → VR s.heap σ ov va → VR s.heap σ iv vi → VR s.heap σ y v → wpAny (model prog w) A (setItem va vi v) (fun _ s' => ∃ σ', RepF prog w K (flOf A) e fr σ' s' ∧ Step (own e) σ s σ' s' ∧ R σ') (fun _ _ => False) s
theorem SetI_list {a : Addr} {xs : List MV} {k : Int} {y : MV} {R : Sg → Prop} (ha : σ a = some (.list xs)) (h0 : 0 ≤ k) (h1 : k < xs.length) (hn : xs.length ≤ 10000) (hR : R (σ.set a (.list (xs.set k.toNat y)))) : SetI prog w K A e fr σ (.ref a) (.int k) y R := fun s va vi v r ra ri rv => by
  cases (show va = .ref a from ra)
  obtain ⟨t, rfl⟩ := ri
  obtain ⟨its, n, g, q⟩ := r.objs _ _ ha
  have := q.size
  obtain ⟨r', t'⟩ := r.updList (f := (·.setIfInBounds k.toNat v)) (tk := s.toks) ha g (ys := xs.set k.toNat y) (by rw [Array.toList_setIfInBounds]; exact q.set rv)
  exact ki_setAt g h0 (by omega) (by omega) ⟨_, r', t', hR⟩
theorem Ex_setItem {o i value : Expr} {pos p : Pos} {R : MF → Vars → Sg → Prop}
    (hv : Ev prog w K A e fr σ (eval value e) fun y σ₁ => ∃ ov iv, EP prog w K A e fr σ₁ o ov ∧ EP prog w K A e fr σ₁ i iv ∧ SetI prog w K A e fr σ₁ ov iv y (R .next fr))
    (hsw : swapsWith value (some (.Subscript o i p)) pos.line e = pure false := by rfl) : E1 prog w K A e fr σ (.Assign [.Subscript o i p] value pos) R := fun s r =>
  wpAny_Assign_Subscript (wpAny_mono (hv s r) (fun v s₁ ⟨y, σ₁, r1, q1, rv, ov, iv, ho, hi, hS⟩ => wpAny_mono (ho s₁ r1) (fun va s₂ ⟨p2, rov⟩ => wpAny_mono (hi s₂ (r1.ext p2)) (fun vi s₃ ⟨p3, riv⟩ =>
    wpAny_mono (hS s₃ va vi v ((r1.ext p2).ext p3) (rov.ext p3.keep) riv ((rv.ext p2.keep).ext p3.keep)) (fun _ s₄ ⟨σ', r4, t4, hR⟩ => ⟨.next, fr, σ', r4, ((q1.trans p2.step).trans p3.step).trans t4, rfl, hR⟩) fun _ _ f => f) fun _ _ f => f) fun _ _ f => f) fun _ _ f => f) hsw

/-- a call of a built-in's method that is met -/
theorem call_met {T : String} {name : Str} {id : String} {B : Builtin} {self : Value} {rest : List Value} {S : PySem.Spec} {s : Shared} {Q E : Value → Shared → Prop} (slot : Slot T name id) (entry : entryFor table id = some B) (hT : s.TypeIs self T) (ha : argsOk id ⟨self :: rest, []⟩)
    (g : Meets (B ⟨self :: rest, []⟩) S) (h : S A (wants Q E) s) : wpAny (model prog w) A (call (.builtin id) (self :: rest)) Q E s :=
  wpAny_call (codeAny_call_builtin slot.plain entry (slot.check _ _ _ _ _ _ _ _ hT ha (g prog w A _ s h)))

/-- what a method of a tracked list does -/
noncomputable def MC (prog : Program) (w : World) (K : Frag) (A : Around) (e : Env) (fr : Vars) (σ : Sg) (id : String) (ys : List MV) (R : MV → Sg → Prop) : Prop :=
  ∀ s vs, RepF prog w K (flOf A) e fr σ s → VRs s.heap σ ys vs → wpAny (model prog w) A (call (.builtin id) vs) (fun v s' => ∃ y σ', RepF prog w K (flOf A) e fr σ' s' ∧ Step (own e) σ s σ' s' ∧ VR s'.heap σ' y v ∧ R y σ') (fun _ _ => False) s

theorem VRs.two {h : Heap} {x y : MV} {vs : List Value} (r : VRs h σ [x, y] vs) : ∃ v u, vs = [v, u] ∧ VR h σ x v ∧ VR h σ y u := by
  obtain ⟨v, _, e1, rv, u, _, e2, ru, e3⟩ := r
  cases (show _ = [] from e3); subst e2 e1; exact ⟨v, u, rfl, rv, ru⟩
theorem VRs.one {h : Heap} {x : MV} {vs : List Value} (r : VRs h σ [x] vs) : ∃ v, vs = [v] ∧ VR h σ x v := by
  obtain ⟨v, _, e1, rv, e3⟩ := r
  cases (show _ = [] from e3); subst e1; exact ⟨v, rfl, rv⟩

theorem MC_append {a : Addr} {xs : List MV} {y : MV} {R : MV → Sg → Prop} (ha : σ a = some (.list xs)) (hn : xs.length ≤ 10000) (hR : R .none (σ.set a (.list (xs ++ [y])))) : MC prog w K A e fr σ "list.append" [.ref a, y] R := fun s vs r rs => by
  obtain ⟨va, v, rfl, ra, rv⟩ := rs.two
  cases (show va = .ref a from ra)
  obtain ⟨its, n, g, q⟩ := r.objs _ _ ha
  have := q.size
  obtain ⟨r', t'⟩ := r.updList (f := (·.push v)) (tk := s.toks) ha g (ys := xs ++ [y]) (q.push rv)
  exact call_met F.slot_list_append F.entry_list_append ⟨_, g, rfl⟩ (F.args_list_append_2 _ _) (list_append a its n v (by rw [big_line]; omega)) ⟨g, .none, _, r', t', rfl, hR⟩
theorem MC_pop {a : Addr} {xs : List MV} {y : MV} {R : MV → Sg → Prop} (ha : σ a = some (.list (xs ++ [y]))) (hn : xs.length ≤ 10000) (hR : R y (σ.set a (.list xs))) : MC prog w K A e fr σ "list.pop" [.ref a] R := fun s vs r rs => by
  obtain ⟨va, rfl, ra⟩ := rs.one
  cases (show va = .ref a from ra)
  obtain ⟨its, n, g, q⟩ := r.objs _ _ ha
  have hs := q.size
  rw [List.length_append, List.length_singleton] at hs
  obtain ⟨v, hv, rv⟩ := q.at (i := xs.length) (x := y) (by simp)
  have he : (its.eraseIdxIfInBounds (its.size - 1)).toList = its.toList.take xs.length := by
    have h1 : its.size - 1 = xs.length := by omega
    unfold Array.eraseIdxIfInBounds
    rw [dif_pos (by omega), Array.toList_eraseIdx, h1, List.eraseIdx_eq_take_drop_succ, List.drop_eq_nil_of_le (by simp; omega), List.append_nil]
  obtain ⟨r', t'⟩ := r.updList (f := (·.eraseIdxIfInBounds (its.size - 1))) (tk := s.toks) ha g (ys := xs) (by rw [he]; simpa using q.take xs.length)
  have rv' : VR ({ s with heap := s.heap.update a (Obj.mapSeq (·.eraseIdxIfInBounds (its.size - 1))), toks := s.toks } : Shared).heap (σ.set a (.list xs)) y v := r.vr t' rv
  exact call_met F.slot_list_pop F.entry_list_pop ⟨_, g, rfl⟩ (F.args_list_pop_1 _) (MeetsSeq.list_pop_last a its n v (by rw [show its.size - 1 = xs.length by omega]; exact hv) (by rw [big_line]; omega)) ⟨g, y, _, r', t', rv', hR⟩
theorem MC_clear {a : Addr} {xs : List MV} {R : MV → Sg → Prop} (ha : σ a = some (.list xs)) (hn : xs.length ≤ 10000) (hR : R .none (σ.set a (.list []))) : MC prog w K A e fr σ "list.clear" [.ref a] R := fun s vs r rs => by
  obtain ⟨va, rfl, ra⟩ := rs.one
  cases (show va = .ref a from ra)
  obtain ⟨its, n, g, q⟩ := r.objs _ _ ha
  have := q.size
  obtain ⟨r', t'⟩ := r.updList (f := fun _ => #[]) (tk := s.toks) ha g (ys := []) rfl
  exact call_met F.slot_list_clear F.entry_list_clear ⟨_, g, rfl⟩ (F.args_list_clear_1 _) (AutoSeq1.list_clear_list_0 a its n (by rw [big_line]; omega)) ⟨g, .none, _, r', t', rfl, hR⟩
theorem MC_extend {a : Addr} {xs ys : List MV} {b : MV} {R : MV → Sg → Prop} (ha : σ a = some (.list xs)) (lb : LV σ b ys) (hn : xs.length ≤ 10000) (hm : ys.length ≤ 10000) (hR : R .none (σ.set a (.list (xs ++ ys)))) : MC prog w K A e fr σ "list.extend" [.ref a, b] R := fun s vs r rs => by
  obtain ⟨va, v, rfl, ra, rv⟩ := rs.two
  cases (show va = .ref a from ra)
  obtain ⟨its, n, g, q⟩ := r.objs _ _ ha
  obtain ⟨b, its2, n2, rfl, g2, q2⟩ := lb.at r.toRep rv
  have h1 := q.size
  have h2 := q2.size
  obtain ⟨r', t'⟩ := r.updList (f := fun x => x ++ its2) (tk := s.toks) ha g (ys := xs ++ ys) (by rw [Array.toList_append]; exact q.append q2)
  refine call_met F.slot_list_extend F.entry_list_extend ⟨_, g, rfl⟩ (F.args_list_extend_2 _ _) (AutoSeq1.list_extend_list_list_0 a its n b its2 n2 ?_ (by rw [big_line]; omega) (by rw [big_line]; omega)) ⟨g, g2, .none, _, r', t', rfl, hR⟩
  have : Builtin.List.listTooLong (its.size + its2.size) = false := by
    unfold Builtin.List.listTooLong; rw [big_line]; exact decide_eq_false (by omega)
  rw [this]; simp
end
end Mine

end
section
open PySem PySem.W PyProof.Rows
namespace Mine

noncomputable def ltV : List Value → List Value → Option Bool
  | [], [] => some false
  | [], _ :: _ => some true
  | _ :: _, [] => some false
  | v :: r, u :: q => match v, u with
    | .int a _, .int b _ => if a = b then ltV r q else some (decide (a < b))
    | _, _ => none
noncomputable def ltM : List MV → List MV → Option Bool
  | [], [] => some false
  | [], _ :: _ => some true
  | _ :: _, [] => some false
  | v :: r, u :: q => match v, u with
    | .int a, .int b => if a = b then ltM r q else some (decide (a < b))
    | _, _ => none
theorem ltV_of {h : Heap} {σ : Sg} {b : Bool} : ∀ {xs ys : List MV} {l m : List Value}, VRs h σ xs l → VRs h σ ys m → ltM xs ys = some b → ltV l m = some b
  | [], [], _, _, e1, e2, h => by rw [show _ = [] from e1, show _ = [] from e2]; simpa only [ltV, ltM] using h
  | [], _ :: _, _, _, e1, ⟨_, _, e2, _, _⟩, h => by rw [show _ = [] from e1, e2]; simpa only [ltV, ltM] using h
  | x :: _, [], _, _, ⟨_, _, e1, _, _⟩, e2, h => by rw [e1, show _ = [] from e2]; simpa only [ltV, ltM] using h
  | x :: r, y :: q, _, _, ⟨v, l', e1, rv, rr⟩, ⟨u, m', e2, ru, rq⟩, h => by
    rw [e1, e2]
    simp only [ltM] at h
    simp only [ltV]
    split at h
    · obtain ⟨t, rfl⟩ := rv
      obtain ⟨t', rfl⟩ := ru
      dsimp only
      split at h
      · rename_i e; rw [if_pos e]; exact ltV_of rr rq h
      · rename_i e; rw [if_neg e]; exact h
    · cases h

theorem sub_step {n i k : Nat} (h : n - i = k + 1) : n - (i + 1) = k := congrArg Nat.pred h
theorem lt_loop (l b : Addr) (items items2 : Array Value) (n n2 : Nat) (k : Nat) : ∀ (i : Nat) (c : Bool), items.size - i = k → i ≤ items.size → i ≤ items2.size → ltV (items.toList.drop i) (items2.toList.drop i) = some c →
    Meets (Builtin.«list.__eq__.loop» ⟨[.ref l, .ref b, rawInt i, rawInt 0], []⟩)
      (fun A R s => s.heap.get? l = some (listO items n) ∧ s.heap.get? b = some (listO items2 n2) ∧ R (.ok (.ret (.bool c))) s) := by
  induction k with
  | zero =>
    intro i c hk hi1 hi2 hc prog w A R s h
    obtain ⟨hp, g, d, tk, os⟩ := s; obtain ⟨hl, hb, h⟩ := h
    wp_walk using AutoSeq1.wpAny_loadPart' hl, AutoSeq1.wpAny_loadPart' hb
    have e1 : items[((i : Nat) : Int).toNat]? = none := by simp; omega
    rw [e1]
    wp_walk using AutoSeq1.wpAny_loadPart' hl, AutoSeq1.wpAny_loadPart' hb
    have e2 : items.toList.drop i = [] := by simp; omega
    rw [e2] at hc
    have : c = decide (items.size < items2.size) := by
      cases z : items2.toList.drop i with
      | nil => rw [z] at hc; simp only [ltV] at hc; cases hc; have := congrArg List.length z; simp at this; symm; exact decide_eq_false (by omega)
      | cons y q => rw [z] at hc; simp only [ltV] at hc; cases hc; have := congrArg List.length z; simp at this; symm; exact decide_eq_true (Nat.lt_of_le_of_lt (Nat.le_of_sub_eq_zero hk) (Nat.lt_of_sub_eq_succ this))
    rw [this] at h
    exact h
  | succ k ih =>
    intro i c hk hi1 hi2 hc prog w A R s h
    obtain ⟨hp, g, d, tk, os⟩ := s; obtain ⟨hl, hb, h⟩ := h
    wp_walk using AutoSeq1.wpAny_loadPart' hl, AutoSeq1.wpAny_loadPart' hb
    have hlt : i < items.size := Nat.lt_of_sub_eq_succ hk
    have e1 : items[((i : Nat) : Int).toNat]? = some items[i] := by simp [hlt]
    have d1 : items.toList.drop i = items[i] :: items.toList.drop (i + 1) := by simp [List.drop_eq_getElem_cons, hlt]
    rw [e1]
    rw [d1] at hc
    by_cases hlt2 : i < items2.size
    · have e2 : items2[((i : Nat) : Int).toNat]? = some items2[i] := by simp [hlt2]
      have d2 : items2.toList.drop i = items2[i] :: items2.toList.drop (i + 1) := by simp [List.drop_eq_getElem_cons, hlt2]
      rw [e2]
      rw [d2] at hc
      have hcc : ((i : Int) + 1) = ((i + 1 : Nat) : Int) := by push_cast; rfl
      generalize hx : items[i] = x at hc e1 ⊢
      generalize hy : items2[i] = y at hc e2 ⊢
      simp only [ltV] at hc
      split at hc
      · rename_i a t b' t'
        refine wpAny_bind ((MeetsSeq.EqGives.int a b' t t') prog w _ _ _ _ ?_)
        split at hc
        · rename_i e
          have : (a == b') = true := by simp [e]
          rw [this]
          wp_walk
          rw [hcc]
          exact ⟨plainId_quiet MeetsSeq3.plain_eq_loop _, codeAny_builtin MeetsSeq3.entry_eq_loop (by
            rw [Around.under_plainId MeetsSeq3.plain_eq_loop _]
            exact ih (i + 1) c (sub_step hk) hlt hlt2 hc prog w A R _ ⟨hl, hb, h⟩)⟩
        · rename_i e
          have : (a == b') = false := by simp [e]
          rw [this]
          wp_walk using AutoSeq1.wpAny_loadPart' hl, AutoSeq1.wpAny_loadPart' hb
          rw [e1, e2]
          cases hc
          refine wpAny_bind (show wpAny _ _ (compareOp .Lt (.int a t) (.int b' t')) _ _ _ from lt_int ?_)
          exact wpAny_pure h
      · cases hc
    · have e2 : items2[((i : Nat) : Int).toNat]? = none := by simp; omega
      rw [e2]
      wp_walk using AutoSeq1.wpAny_loadPart' hl, AutoSeq1.wpAny_loadPart' hb
      have d2 : items2.toList.drop i = [] := by simp; omega
      rw [d2] at hc
      have : c = decide (items.size < items2.size) := by
        simp only [ltV] at hc
        cases hc; symm; exact decide_eq_false (Nat.not_lt.mpr (Nat.le_trans (Nat.not_lt.mp hlt2) (Nat.le_of_lt hlt)))
      rw [this] at h
      exact h

theorem list_lt (l b : Addr) (items items2 : Array Value) (n n2 : Nat) (c : Bool) (hc : ltV items.toList items2.toList = some c) :
    Meets (Builtin.«list.__lt__» ⟨[.ref l, .ref b], []⟩) (fun A R s => s.heap.get? l = some (listO items n) ∧ s.heap.get? b = some (listO items2 n2) ∧ R (.ok (.ret (.bool c))) s) := by
  intro prog w A R s h
  obtain ⟨hp, g, d, tk, os⟩ := s; obtain ⟨hl, hb, h⟩ := h
  have f3 := AutoSeq1.sub_list_list
  wp_walk using AutoSeq1.wpAny_loadPart' hl, AutoSeq1.wpAny_loadPart' hb
  exact ⟨plainId_quiet MeetsSeq3.plain_eq_loop _, codeAny_builtin MeetsSeq3.entry_eq_loop (by
    rw [Around.under_plainId MeetsSeq3.plain_eq_loop _]
    exact lt_loop l b items items2 n n2 _ 0 c rfl (Nat.zero_le _) (Nat.zero_le _) (by simpa using hc) prog w A R _ ⟨hl, hb, h⟩)⟩
end Mine

end
section
open PySem PySem.W PyProof.Rows
namespace Mine

section
variable {prog : Program} {w : World} {K : Frag} {A : Around} {e : Env} {fr : Vars} {σ : Sg}

/-! numbers -/
theorem O2_int {t : Value → Value → Sem Value} {a b : Int} {c : MV} (h : ∀ s u v, wpAny (model prog w) A (t (.int a u) (.int b v)) (fun v s' => Ext s s' ∧ VR s'.heap σ c v) (fun _ _ => False) s) : O2 prog w K A σ t (.int a) (.int b) c := fun s va vb _ ra rb => by
  obtain ⟨t, rfl⟩ := ra
  obtain ⟨u, rfl⟩ := rb
  exact h s t u
theorem O2_eqI {a b : Int} : O2 prog w K A σ (compareOp .Eq) (.int a) (.int b) (.bool (a == b)) := O2_int fun _ _ _ => eq_int ⟨.refl, rfl⟩
theorem O2_neI {a b : Int} : O2 prog w K A σ (compareOp .NotEq) (.int a) (.int b) (.bool (a != b)) := O2_int fun _ _ _ => ne_int ⟨.refl, rfl⟩
theorem O2_ltI {a b : Int} : O2 prog w K A σ (compareOp .Lt) (.int a) (.int b) (.bool (decide (a < b))) := O2_int fun _ _ _ => lt_int ⟨.refl, rfl⟩
theorem O2_gtI {a b : Int} : O2 prog w K A σ (compareOp .Gt) (.int a) (.int b) (.bool (decide (b < a))) := O2_int fun _ _ _ => gt_int ⟨.refl, rfl⟩
theorem O2_geI {a b : Int} : O2 prog w K A σ (compareOp .GtE) (.int a) (.int b) (.bool (decide (b ≤ a))) := O2_int fun _ _ _ => ge_int ⟨.refl, rfl⟩
theorem O2_subI {a b : Int} : O2 prog w K A σ (binaryOp .Sub) (.int a) (.int b) (.int (a - b)) := O2_int fun _ _ _ => sub_int ⟨.tok, _, rfl⟩
theorem O2_addI {a b : Int} : O2 prog w K A σ (binaryOp .Add) (.int a) (.int b) (.int (a + b)) := O2_int fun _ _ _ => add_int ⟨.tok, _, rfl⟩
theorem O2_mulI {a b : Int} (h : IntMulOk a b) : O2 prog w K A σ (binaryOp .Mult) (.int a) (.int b) (.int (a * b)) := O2_int fun _ _ _ => mul_int ⟨.tok, _, rfl⟩ h
theorem O2_shrI {a b : Int} (h : 0 ≤ b) : O2 prog w K A σ (binaryOp .RShift) (.int a) (.int b) (.int (Int.fdiv a (2 ^ b.toNat))) := O2_int fun _ _ _ => rshift_int h ⟨.tok, _, rfl⟩
theorem O2_modI {a b : Int} (h : b ≠ 0) : O2 prog w K A σ (binaryOp .Mod) (.int a) (.int b) (.int (Int.fmod a b)) := O2_int fun _ _ _ => mod_int' h ⟨.tok, _, rfl⟩
theorem O2_divI {a b : Int} (h : b ≠ 0) (hp : Builtin.divisionGoesByPylong a b = false) : O2 prog w K A σ (binaryOp .FloorDiv) (.int a) (.int b) (.int (Int.fdiv a b)) := O2_int fun _ _ _ => floordiv_int h ⟨.tok, _, rfl⟩ (.inl hp)
theorem O2_powI {a b : Int} (h : 0 ≤ b) (h1 : b ≤ 1000000) (h2 : a.natAbs < 2 ^ 64) : O2 prog w K A σ (binaryOp .Pow) (.int a) (.int b) (.int (a ^ b.toNat)) := O2_int fun _ _ _ => pow_int_small h h1 h2 ⟨.tok, _, rfl⟩
theorem O1_neg {a : Int} : O1 prog w K A σ (unaryOp .USub) (.int a) (.int (-a)) := fun s va _ ra => by obtain ⟨t, rfl⟩ := ra; exact neg_int ⟨.tok, _, rfl⟩
theorem O2_iaddI {a b : Int} : O2 prog w K A σ (inplaceOp .Add) (.int a) (.int b) (.int (a + b)) := O2_int fun _ _ _ => iadd_int ⟨.tok, _, rfl⟩
theorem O2_isubI {a b : Int} : O2 prog w K A σ (inplaceOp .Sub) (.int a) (.int b) (.int (a - b)) := O2_int fun _ _ _ => isub_int ⟨.tok, _, rfl⟩

/-! is -/
noncomputable def isNone : MV → Bool
  | .none => true
  | _ => false
theorem VR.isNone {h : Heap} {y : MV} {v : Value} (r : VR h σ y v) : (v == Value.none) = isNone y := by
  cases y with
  | none => cases (show v = .none from r); rfl
  | bool b => cases (show v = _ from r); rfl
  | int i => obtain ⟨t, rfl⟩ := r; rfl
  | str i => obtain ⟨t, rfl⟩ := r; rfl
  | ref a => cases (show v = _ from r); rfl
  | bi a => cases (show v = _ from r); rfl
  | ty a => cases (show v = _ from r); rfl
  | lst xs => obtain ⟨a, its, n, rfl, _⟩ := r; rfl
  | tup xs => obtain ⟨a, its, n, rfl, _⟩ := r; rfl
theorem O2_isNone {a : MV} : O2 prog w K A σ (compareOp .Is) a .none (.bool (isNone a)) := fun s va vb _ ra rb => by
  cases (show vb = .none from rb)
  exact is_none_gen ⟨.refl, by rw [ra.isNone]; rfl⟩
theorem O2_isnotNone {a : MV} : O2 prog w K A σ (compareOp .IsNot) a .none (.bool (!isNone a)) := fun s va vb _ ra rb => by
  cases (show vb = .none from rb)
  exact isnot_none_gen ⟨.refl, by rw [ra.isNone]; rfl⟩
theorem O2_isnotTy {T : String} : O2 prog w K A σ (compareOp .IsNot) (.ty T) (.ty T) (.bool false) := fun s va vb _ ra rb => by
  cases (show va = _ from ra); cases (show vb = _ from rb)
  exact wpAny_isNot_self (by simp [PySem.plainIs]) ⟨.refl, rfl⟩
theorem OT_bool {b : Bool} : OT prog w K A σ (.bool b) b := fun s va _ ra => by cases (show va = _ from ra); exact wpAny_truthy_bool ⟨.refl, rfl⟩
theorem OT_none : OT prog w K A σ .none false := fun s va _ ra => by cases (show va = _ from ra); exact truthy_none ⟨.refl, rfl⟩
theorem OT_list {y : MV} {xs : List MV} (l : LV σ y xs) (hn : xs.length ≤ 10000) : OT prog w K A σ y (!xs.isEmpty) := fun s va r ra => by
  obtain ⟨a, its, n, rfl, g, q⟩ := l.at r ra
  have := q.size
  refine wpAny_truthy_list (isList g) (by omega) ⟨⟨fun _ _ e => e, rfl, rfl⟩, ?_⟩
  cases xs with
  | nil => simp at this; simp [this]
  | cons x r => simp at this; simp [Array.isEmpty, this]

/-! list < list -/
theorem O2_ltL {a b : MV} {xs ys : List MV} {c : Bool} (la : LV σ a xs) (lb : LV σ b ys) (h : ltM xs ys = some c) (hu : A.units < cLine) : O2 prog w K A σ (compareOp .Lt) a b (.bool c) := fun s va vb r ra rb => by
  obtain ⟨a, its, n, rfl, g, q⟩ := la.at r ra
  obtain ⟨b, its2, n2, rfl, g2, q2⟩ := lb.at r rb
  refine richCompare_meets_room (op := .Lt) ⟨_, g, rfl⟩ ⟨_, g2, rfl⟩ F.slot_list_lt F.entry_list_lt (F.args_list_lt_2 _ _) (list_lt a b its its2 n n2 c (ltV_of q q2 h)) ⟨g, g2, nofun, .refl, rfl⟩ hu

/-! equality of plain values -/
mutual
noncomputable def eqV : MV → MV → Option Bool
  | .none, .none => some true
  | .bool a, .bool b => some (a == b)
  | .int a, .int b => some (a == b)
  | .str a, .str b => some (a == b)
  | .none, .str _ => some false
  | .str _, .none => some false
  | .lst xs, .lst ys => if xs.length = ys.length then eqVs xs ys else some false
  | .tup xs, .tup ys => if xs.length = ys.length then eqVs xs ys else none
  | _, _ => none
noncomputable def eqVs : List MV → List MV → Option Bool
  | [], [] => some true
  | x :: xs, y :: ys => match eqV x y, eqVs xs ys with
    | some a, some b => some (a && b)
    | _, _ => none
  | _, _ => none
end
mutual
noncomputable def dep : MV → Nat
  | .lst xs => deps xs + 1
  | .tup xs => deps xs + 1
  | _ => 0
noncomputable def deps : List MV → Nat
  | [] => 0
  | x :: xs => max (dep x) (deps xs)
end

/-- pairs of plain values -/
inductive PP : MV → MV → Bool → Prop
  | nn : PP .none .none true
  | bb (a b : Bool) : PP (.bool a) (.bool b) (a == b)
  | ii (a b : Int) : PP (.int a) (.int b) (a == b)
  | ss (a b : Str) : PP (.str a) (.str b) (a == b)
  | ns (b : Str) : PP .none (.str b) false
  | sn (b : Str) : PP (.str b) .none false
theorem eqV_or {x y : MV} {c : Bool} (e : eqV x y = some c) : PP x y c ∨ (∃ xs ys, x = .lst xs ∧ y = .lst ys) ∨ ∃ xs ys, x = .tup xs ∧ y = .tup ys := by
  unfold eqV at e
  split at e
  · cases e; exact .inl .nn
  · cases e; exact .inl (.bb _ _)
  · cases e; exact .inl (.ii _ _)
  · cases e; exact .inl (.ss _ _)
  · cases e; exact .inl (.ns _)
  · cases e; exact .inl (.sn _)
  · exact .inr (.inl ⟨_, _, rfl, rfl⟩)
  · exact .inr (.inr ⟨_, _, rfl, rfl⟩)
  · cases e
theorem eqVs_all : ∀ {xs ys : List MV} {c : Bool}, eqVs xs ys = some c → ∃ f : Nat → Bool, (∀ j x y, xs[j]? = some x → ys[j]? = some y → eqV x y = some (f j)) ∧ (List.range xs.length).all f = c
  | [], [], c, e => by simp only [eqVs] at e; cases e; exact ⟨fun _ => true, fun j x y h => by simp at h, rfl⟩
  | [], _ :: _, _, e => by simp only [eqVs] at e; cases e
  | _ :: _, [], _, e => by simp only [eqVs] at e; cases e
  | x :: xs, y :: ys, c, e => by
    simp only [eqVs] at e
    split at e
    · rename_i a b ea eb
      cases e
      obtain ⟨f, hf, hall⟩ := eqVs_all eb
      refine ⟨fun j => match j with | 0 => a | j + 1 => f j, fun j x' y' hx hy => ?_, ?_⟩
      · cases j with
        | zero => simp at hx hy; subst hx; subst hy; exact ea
        | succ j => simp at hx hy; exact hf j x' y' hx hy
      · rw [List.length_cons, List.range_succ_eq_map, List.all_cons, List.all_map]
        show (a && (List.range xs.length).all f) = _
        rw [hall]
    · cases e

theorem isTupH {h : Heap} {a : Addr} {its : Array Value} {n : Nat} (g : h.get? a = some (tupO its n)) : h.IsTuple a its := ⟨_, g, rfl, n, rfl⟩

theorem VRs.getE {h : Heap} {xs : List MV} {its : Array Value} {j : Nat} (q : VRs h σ xs its.toList) (h1 : j < its.size) : ∃ x, xs[j]? = some x ∧ VR h σ x its[j] := by
  obtain ⟨x, hx, r⟩ := q.get' (i := j) (v := its[j]) (by simp [h1])
  exact ⟨x, hx, r⟩
theorem deps_mem : ∀ {xs : List MV} {j : Nat} {x : MV}, xs[j]? = some x → dep x ≤ deps xs
  | x :: xs, 0, _, h => by cases h; simp only [deps]; omega
  | x :: xs, j + 1, _, h => by have := deps_mem (xs := xs) (j := j) (by simpa using h); simp only [deps]; omega

theorem eqV_same {h : Heap} (n : Nat) : ∀ {x y : MV} {v : Value} {c : Bool}, dep x ≤ n → eqV x y = some c → VR h σ x v → VR h σ y v → c = true := by
  induction n with
  | zero =>
    intro x y v c hd e rx ry
    rcases eqV_or e with h1 | ⟨xs, ys, rfl, rfl⟩ | ⟨xs, ys, rfl, rfl⟩
    · cases h1 with
      | nn => rfl
      | bb a b => cases (show v = _ from rx); cases (show _ = _ from ry); simp
      | ii a b => obtain ⟨t, rfl⟩ := rx; obtain ⟨u, e2⟩ := ry; cases e2; simp
      | ss a b => obtain ⟨t, rfl⟩ := rx; obtain ⟨u, e2⟩ := ry; cases e2; simp
      | ns b => cases (show v = _ from rx); obtain ⟨u, e2⟩ := ry; cases e2
      | sn b => cases (show v = _ from ry); obtain ⟨u, e2⟩ := rx; cases e2
    · simp only [dep] at hd; omega
    · simp only [dep] at hd; omega
  | succ n ih =>
    intro x y v c hd e rx ry
    have items : ∀ {xs ys : List MV} {its : Array Value}, deps xs ≤ n → eqVs xs ys = some c → VRs h σ xs its.toList → VRs h σ ys its.toList → c = true := fun {xs ys its} hd e q q2 => by
      obtain ⟨f, hf, hall⟩ := eqVs_all e
      rw [← hall, List.all_eq_true]
      intro j hj
      have hj : j < its.size := by rw [q.size]; exact List.mem_range.mp hj
      obtain ⟨x, hx, r⟩ := q.getE hj
      obtain ⟨y, hy, r'⟩ := q2.getE hj
      exact ih (by have := deps_mem hx; omega) (hf j x y hx hy) r r'
    rcases eqV_or e with h1 | ⟨xs, ys, rfl, rfl⟩ | ⟨xs, ys, rfl, rfl⟩
    · cases h1 with
      | nn => rfl
      | bb a b => cases (show v = _ from rx); cases (show _ = _ from ry); simp
      | ii a b => obtain ⟨t, rfl⟩ := rx; obtain ⟨u, e2⟩ := ry; cases e2; simp
      | ss a b => obtain ⟨t, rfl⟩ := rx; obtain ⟨u, e2⟩ := ry; cases e2; simp
      | ns b => cases (show v = _ from rx); obtain ⟨u, e2⟩ := ry; cases e2
      | sn b => cases (show v = _ from ry); obtain ⟨u, e2⟩ := rx; cases e2
    · obtain ⟨a, its, k, rfl, _, g, q⟩ := rx
      obtain ⟨b, its2, k2, e2, _, g2, q2⟩ := ry
      cases e2
      rw [g] at g2; cases g2
      simp only [eqV] at e
      simp only [dep] at hd
      rw [if_pos (q.length.symm.trans q2.length)] at e
      exact items (by omega) e q q2
    · obtain ⟨a, its, k, rfl, _, g, q⟩ := rx
      obtain ⟨b, its2, k2, e2, _, g2, q2⟩ := ry
      cases e2
      rw [g] at g2; cases g2
      simp only [eqV] at e
      simp only [dep] at hd
      rw [if_pos (q.length.symm.trans q2.length)] at e
      exact items (by omega) e q q2
theorem EQ_plain {x y : MV} {vx vy : Value} {c : Bool} {A : Around} {s : Shared} (h : PP x y c) (rx : VR s.heap σ x vx) (ry : VR s.heap σ y vy) : SeqAt.EqAt A s vx vy c := by
  cases h with
  | nn => cases (show vx = _ from rx); cases (show vy = _ from ry); exact .same _
  | bb a b => cases (show vx = _ from rx); cases (show vy = _ from ry); exact .bool_bool a b
  | ii a b => obtain ⟨t, rfl⟩ := rx; obtain ⟨u, rfl⟩ := ry; exact .int_int a t b u
  | ss a b => obtain ⟨t, rfl⟩ := rx; obtain ⟨u, rfl⟩ := ry; exact .str_str a t b u
  | ns b => cases (show vx = _ from rx); obtain ⟨u, rfl⟩ := ry; exact .none_str b u
  | sn b => cases (show vy = _ from ry); obtain ⟨u, rfl⟩ := rx; exact .str_none b u

theorem EQ (n : Nat) : ∀ {x y : MV} {vx vy : Value} {c : Bool} {A : Around} {s : Shared}, dep x ≤ n → eqV x y = some c → VR s.heap σ x vx → VR s.heap σ y vy → A.units + n < cLine → SeqAt.EqAt A s vx vy c := by
  induction n with
  | zero =>
    intro x y vx vy c A s hd e rx ry hu
    rcases eqV_or e with h1 | ⟨xs, ys, rfl, rfl⟩ | ⟨xs, ys, rfl, rfl⟩
    · exact EQ_plain h1 rx ry
    · simp only [dep] at hd; omega
    · simp only [dep] at hd; omega
  | succ n ih =>
    intro x y vx vy c A s hd e rx ry hu
    by_cases hv : vx = vy
    · subst hv; rw [eqV_same _ hd e rx ry]; exact .same _
    rcases eqV_or e with h1 | ⟨xs, ys, rfl, rfl⟩ | ⟨xs, ys, rfl, rfl⟩
    · exact EQ_plain h1 rx ry
    · obtain ⟨a, its, k, rfl, _, g, q⟩ := rx
      obtain ⟨b, its2, k2, rfl, _, g2, q2⟩ := ry
      simp only [eqV] at e
      simp only [dep] at hd
      have h1 := q.size
      have h2 := q2.size
      refine .of_refs (fun e => hv (by rw [e])) ?_
      by_cases hl : xs.length = ys.length
      · rw [if_pos hl] at e
        obtain ⟨f, hf, hall⟩ := eqVs_all e
        have := SeqAt.RcAt.lists (A := A) (e := f) (isList g) (isList g2) (by omega) (by omega) fun j j1 j2 => by
          obtain ⟨x, hx, r⟩ := q.getE j1
          obtain ⟨y, hy, r'⟩ := q2.getE j2
          exact ih (by have := deps_mem hx; omega) (hf j x y hx hy) r r' (by show A.units + 1 + n < _; omega)
        rw [h1, hall] at this
        exact this
      · rw [if_neg hl] at e
        cases e
        exact SeqAt.RcAt.lists_lengths (isList g) (isList g2) (by simp; omega) (by omega)
    · obtain ⟨a, its, k, rfl, _, g, q⟩ := rx
      obtain ⟨b, its2, k2, rfl, _, g2, q2⟩ := ry
      simp only [eqV] at e
      simp only [dep] at hd
      have h1 := q.size
      have h2 := q2.size
      refine .of_refs (fun e => hv (by rw [e])) ?_
      by_cases hl : xs.length = ys.length
      · rw [if_pos hl] at e
        obtain ⟨f, hf, hall⟩ := eqVs_all e
        have := SeqAt.RcAt.tuples (A := A) (e := f) (isTupH g) (isTupH g2) (by omega) fun j j1 j2 => by
          obtain ⟨x, hx, r⟩ := q.getE j1
          obtain ⟨y, hy, r'⟩ := q2.getE j2
          exact ih (by have := deps_mem hx; omega) (hf j x y hx hy) r r' (by show A.units + 1 + n < _; omega)
        rw [h1, h2, ← hl, Nat.min_self, hall, beq_self_eq_true, Bool.and_true] at this
        exact this
      · rw [if_neg hl] at e
        cases e

/-- the same of a tracked list at the head -/
theorem O2_eqL {a b : MV} {xs ys : List MV} {c : Bool} (la : LV σ a xs) (lb : LV σ b ys) (h : eqV (.lst xs) (.lst ys) = some c) (hu : A.units + deps xs + 1 < cLine) : O2 prog w K A σ (compareOp .Eq) a b (.bool c) := fun s va vb r ra rb => by
  obtain ⟨a, its, n, rfl, g, q⟩ := la.at r ra
  obtain ⟨b, its2, n2, rfl, g2, q2⟩ := lb.at r rb
  have h1 := q.size
  have h2 := q2.size
  simp only [eqV] at h
  by_cases hl : xs.length = ys.length
  · rw [if_pos hl] at h
    obtain ⟨f, hf, hall⟩ := eqVs_all h
    refine SeqAt.eq_listAt (e := f) (isList g) (isList g2) (by omega) (by omega) (fun j j1 j2 => ?_) ⟨.refl, by rw [h1, hall]; rfl⟩
    obtain ⟨x, hx, r⟩ := q.getE j1
    obtain ⟨y, hy, r'⟩ := q2.getE j2
    exact EQ _ (deps_mem hx) (hf j x y hx hy) r r' (by show A.units + 1 + _ < _; omega)
  · rw [if_neg hl] at h
    cases h
    exact SeqAt.eq_list_lengthsAt (isList g) (isList g2) (by simp; omega) (by omega) ⟨.refl, rfl⟩
theorem O2_neL {a b : MV} {xs ys : List MV} {c : Bool} (la : LV σ a xs) (lb : LV σ b ys) (h : eqV (.lst xs) (.lst ys) = some c) (hu : A.units + deps xs + 1 < cLine) : O2 prog w K A σ (compareOp .NotEq) a b (.bool (!c)) := fun s va vb r ra rb => by
  obtain ⟨a, its, n, rfl, g, q⟩ := la.at r ra
  obtain ⟨b, its2, n2, rfl, g2, q2⟩ := lb.at r rb
  have h1 := q.size
  have h2 := q2.size
  simp only [eqV] at h
  by_cases hl : xs.length = ys.length
  · rw [if_pos hl] at h
    obtain ⟨f, hf, hall⟩ := eqVs_all h
    have := SeqAt.RcNeAt.lists (A := A) (s := s) (e := f) (isList g) (isList g2) (by omega) (by omega) fun j j1 j2 => by
      obtain ⟨x, hx, r⟩ := q.getE j1
      obtain ⟨y, hy, r'⟩ := q2.getE j2
      exact EQ _ (deps_mem hx) (hf j x y hx hy) r r' (by show A.units + 1 + _ < _; omega)
    rw [h1, hall] at this
    exact this prog w _ _ ⟨.refl, rfl⟩
  · rw [if_neg hl] at h
    cases h
    exact (SeqAt.RcNeAt.lists_lengths (A := A) (s := s) (isList g) (isList g2) (by simp; omega) (by omega)) prog w _ _ ⟨.refl, rfl⟩
/-! in, index -/
/-- strings and numbers by themselves -/
noncomputable def plainEq : MV → Value → Bool
  | .str x, .str y _ => y == x
  | .int x, .int y _ => y == x
  | _, _ => false
noncomputable def kin : MV → MV → Bool
  | .str _, .str _ => true
  | .int _, .int _ => true
  | _, _ => false
noncomputable def eqB : MV → MV → Bool
  | .str a, .str b => a == b
  | .int a, .int b => a == b
  | _, _ => false
theorem kin_or {x y : MV} (h : kin y x = true) : (∃ a b, y = .str a ∧ x = .str b) ∨ ∃ a b, y = .int a ∧ x = .int b := by
  unfold kin at h
  split at h
  · exact .inl ⟨_, _, rfl, rfl⟩
  · exact .inr ⟨_, _, rfl, rfl⟩
  · cases h
theorem plain_eq {h : Heap} {x y : MV} {vy : Value} (hk : kin y x = true) (ry : VR h σ y vy) : plainEq x vy = eqB y x := by
  rcases kin_or hk with ⟨a, b, rfl, rfl⟩ | ⟨a, b, rfl, rfl⟩
  · obtain ⟨t, rfl⟩ := ry; rfl
  · obtain ⟨t, rfl⟩ := ry; rfl
theorem plain_at {A : Around} {s : Shared} {x y : MV} {vx vy : Value} (hk : kin y x = true) (ry : VR s.heap σ y vy) (rx : VR s.heap σ x vx) : SeqAt.EqAt A s vy vx (plainEq x vy) ∧ plainEq x vy = eqB y x := by
  rcases kin_or hk with ⟨a, b, rfl, rfl⟩ | ⟨a, b, rfl, rfl⟩
  · obtain ⟨t, rfl⟩ := ry; obtain ⟨u, rfl⟩ := rx; exact ⟨.str_str a t b u, rfl⟩
  · obtain ⟨t, rfl⟩ := ry; obtain ⟨u, rfl⟩ := rx; exact ⟨.int_int a t b u, rfl⟩
theorem any_plain {h : Heap} {x : MV} : ∀ {xs : List MV} {vs : List Value}, (∀ y ∈ xs, kin y x = true) → VRs h σ xs vs → (∀ v ∈ vs, ∃ y ∈ xs, VR h σ y v) ∧ vs.any (plainEq x) = xs.any (eqB · x)
  | [], _, _, e => by rw [show _ = [] from e]; exact ⟨fun _ h => (nomatch h), rfl⟩
  | y :: xs, _, hk, ⟨v, r, e, rv, rr⟩ => by
    subst e
    obtain ⟨h1, h2⟩ := any_plain (fun y hy => hk y (.tail _ hy)) rr
    refine ⟨fun u hu => ?_, ?_⟩
    · rcases List.mem_cons.mp hu with rfl | hu
      · exact ⟨y, .head _, rv⟩
      · obtain ⟨y, hy, r⟩ := h1 u hu; exact ⟨y, .tail _ hy, r⟩
    · rw [List.any_cons, List.any_cons, h2]
      rw [plain_eq (hk y (.head _)) rv]
theorem O2_inL {x a : MV} {xs : List MV} (l : LV σ a xs) (hk : ∀ y ∈ xs, kin y x = true) : O2 prog w K A σ (compareOp .In) x a (.bool (xs.any (eqB · x))) := fun s vx va r rx ra => by
  obtain ⟨a, its, n, rfl, g, q⟩ := l.at r ra
  obtain ⟨h1, h2⟩ := any_plain hk q
  refine SeqAt.in_listAt (plainEq x) (isList g) (fun v hv => ?_) ⟨.refl, by rw [← Array.any_toList, h2]; rfl⟩
  obtain ⟨y, hy, ry⟩ := h1 v (by simpa using hv)
  exact (plain_at (hk y hy) ry rx).1
theorem O2_notInL {x a : MV} {xs : List MV} (l : LV σ a xs) (hk : ∀ y ∈ xs, kin y x = true) : O2 prog w K A σ (compareOp .NotIn) x a (.bool (!xs.any (eqB · x))) := fun s vx va r rx ra => by
  obtain ⟨a, its, n, rfl, g, q⟩ := l.at r ra
  obtain ⟨h1, h2⟩ := any_plain hk q
  refine SeqAt.notIn_listAt (plainEq x) (isList g) (fun v hv => ?_) ⟨.refl, by rw [← Array.any_toList, h2]; rfl⟩
  obtain ⟨y, hy, ry⟩ := h1 v (by simpa using hv)
  exact (plain_at (hk y hy) ry rx).1

/-- where a string stands in a list -/
theorem OC_index {a : MV} {xs : List MV} {x : MV} {j : Nat} (l : LV σ a xs) (hk : ∀ y ∈ xs, kin y x = true) (hn : xs.length ≤ 10000) (hj : (xs[j]?.map (eqB · x)) = some true) (hb : ∀ i, i < j → (xs[i]?.map (eqB · x)) = some false) : OC prog w K A σ (.builtin "list.index") [a, x] (.int j) := fun s vs r rs => by
  obtain ⟨va, vx, rfl, ra, rx⟩ := rs.two
  obtain ⟨a, its, n, rfl, g, q⟩ := l.at r ra
  have hs := q.size
  obtain ⟨h1, _⟩ := any_plain hk q
  have at' : ∀ i (hi : i < its.size), (xs[i]?.map (eqB · x)) = some (plainEq x its[i]) := fun i hi => by
    obtain ⟨y, hy, ry⟩ := q.getE hi
    rw [hy, (plain_at (A := A) (hk y (List.mem_of_getElem? hy)) ry rx).2]; rfl
  have hj' : j < its.size := by
    rcases Nat.lt_or_ge j xs.length with h | h
    · omega
    · rw [List.getElem?_eq_none h] at hj; cases hj
  refine call_met F.slot_list_index F.entry_list_index ⟨_, g, rfl⟩ (F.args_list_index_2 _ _) (SeqAt.list_indexAt a its n none #[] vx (plainEq x) j hj' (by omega) (by have := at' j hj'; rw [hj] at this; simpa using this.symm) fun m hm hmj => by have := at' m hm; rw [hb m hmj] at this; simpa using this.symm)
    ⟨g, fun y hy => ?_, .tok, _, rfl⟩
  obtain ⟨z, hz, rz⟩ := h1 y (by simpa using hy)
  exact (plain_at (hk z hz) rz rx).1
end
end Mine

end
section
open PySem PySem.W PyProof.Rows
namespace Mine

/-- all stays but the one place -/
structure Moved (it : Addr) (s s' : Shared) : Prop where
  keep : ∀ b o, b ≠ it → s.heap.get? b = some o → s'.heap.get? b = some o
  os : s'.os = s.os
  gens : s'.gens = s.gens

/-- how an iterator at `it` hands out `xs`, as long as C holds of the store -/
structure Proto (prog : Program) (w : World) (K : Frag) (A : Around) (it : Addr) (xs : List MV) (C : Sg → Prop) (At : Nat → Sg → Heap → Prop) : Prop where
  keep : ∀ i σ h σ' h', At i σ h → (∀ a o, h.get? a = some o → σ a = none → (a = it ∨ ∃ c its n, o = ⟨c, none, .seq its n, #[]⟩) → h'.get? a = some o ∧ σ' a = none) → At i σ' h'
  here : ∀ i σ h, At i σ h → σ it = none ∧ ∃ o fs, h.get? it = some o ∧ o.data = .fields fs
  item : ∀ i σ s x, Rep prog w K (flOf A) σ s → C σ → At i σ s.heap → xs[i]? = some x → wpAny (model prog w) A (pyNext (.ref it)) (fun r s' => ∃ u, r = some u ∧ Moved it s s' ∧ At (i + 1) σ s'.heap ∧ VR s'.heap σ x u) (fun _ _ => False) s
  done : ∀ σ s, Rep prog w K (flOf A) σ s → C σ → At xs.length σ s.heap → wpAny (model prog w) A (pyNext (.ref it)) (fun r s' => r = none ∧ Moved it s s') (fun _ _ => False) s
  self : ∀ i σ s, At i σ s.heap → wpAny (model prog w) A (pyIter (.ref it)) (fun v s' => v = .ref it ∧ s' = s) (fun _ _ => False) s

section
variable {prog : Program} {w : World} {K : Frag} {A : Around} {e : Env} {fr : Vars} {σ σ' : Sg} {s s' : Shared}

theorem notFl_fields (r : Rep prog w K (flOf A) σ s) {a : Addr} {o : Obj} {fs : Array Value} (g : s.heap.get? a = some o) (d : o.data = .fields fs) : a ∉ flOf A := fun h => by
  obtain ⟨_, _, o', g', hF⟩ := r.ff a h
  rw [g] at g'; cases g'; exact FrO.fields d hF
theorem notFl_fresh (r : Rep prog w K (flOf A) σ s) {a : Addr} (h : ∀ o, s.heap.get? a ≠ some o) : a ∉ flOf A := fun hm => by
  obtain ⟨_, _, o', g', _⟩ := r.ff a hm
  exact h o' g'
/-- an iterator's turn leaves all that is known -/
theorem RepF.moved (x : RepF prog w K (flOf A) e fr σ s) {it : Addr} (hn : σ it = none) (ho : ¬ own e it) (hK : ∀ o, K.lookup it ≠ some o) (hF : it ∉ flOf A) {o : Obj} (hg : s.heap.get? it = some o) (hd : ∀ its n, o.data ≠ .seq its n) (t : Moved it s s') : RepF prog w K (flOf A) e fr σ s' ∧ (∀ y v, VR s.heap σ y v → VR s'.heap σ y v) := by
  have ks : ∀ a c its n, s.heap.get? a = some ⟨c, none, .seq its n, #[]⟩ → σ a = none → s'.heap.get? a = some ⟨c, none, .seq its n, #[]⟩ ∧ σ a = none := fun a c its n g z => ⟨t.keep a _ (fun e' => by rw [e', hg] at g; cases g; exact hd _ _ rfl) g, z⟩
  have nl : e.locals ≠ it := fun e' => ho (.inl e'.symm)
  have nc : ∀ p ∈ e.cells, p.2 ≠ it := fun p hp e' => ho (.inr ⟨p, hp, e'⟩)
  refine ⟨⟨⟨fun a m hm => (x.objs a m hm).mono (fun o g => t.keep a o (fun e' => by rw [e', hn] at hm; cases hm) g) ks, fun a o g => t.keep a o (fun e' => hK o (e' ▸ g)) (x.top a o g), x.low, fun L hL => let ⟨h1, h2, o, h3, h4⟩ := x.ff L hL; ⟨h1, h2, o, t.keep _ _ (fun e' => hF (e' ▸ hL)) h3, h4⟩⟩, ?_, ?_, ?_, x.off, x.offK⟩, fun y v r => r.mono ks⟩
  · obtain ⟨f, ⟨o, es, ep, g, r⟩, hm⟩ := x.loc
    exact ⟨f, ⟨o, es, ep, t.keep _ _ nl g, r⟩, fun y z q k => let ⟨v, p, r⟩ := hm y z q k; ⟨v, p, r.mono ks⟩⟩
  · exact fun p hp => let ⟨ov, o, g, r⟩ := x.cel p hp; ⟨ov, o, t.keep _ _ (nc p hp) g, r⟩
  · exact fun y z q k => let ⟨c, v, p, ⟨o, g, i⟩, r⟩ := x.celv y z q k; ⟨c, v, p, ⟨o, t.keep _ _ (nc (y, c) (mem_of_lookup p)) g, i⟩, r.mono ks⟩

theorem fresh_none (r : Rep prog w K (flOf A) σ s) {a : Addr} (h : ∀ o, s.heap.get? a ≠ some o) : σ a = none := by
  cases q : σ a with
  | none => rfl
  | some m => obtain ⟨o, g⟩ := (r.objs _ _ q).there; exact absurd g (h o)
theorem fresh_own (r : RepF prog w K (flOf A) e fr σ s) {a : Addr} (h : ∀ o, s.heap.get? a ≠ some o) : ¬ own e a := by
  rintro (rfl | ⟨p, hp, rfl⟩)
  · obtain ⟨f, ⟨o, _, _, g, _⟩, _⟩ := r.loc; exact h o g
  · obtain ⟨_, o, g, _⟩ := r.cel p hp; exact h o g
theorem fresh_K (r : Rep prog w K (flOf A) σ s) {a : Addr} (h : ∀ o, s.heap.get? a ≠ some o) : ∀ o, K.lookup a ≠ some o := fun o q => h o (r.top _ _ q)

/-- an iterable, evaluated: where its iterator lies, and what it hands out -/
noncomputable def Src (prog : Program) (w : World) (K : Frag) (A : Around) (e : Env) (fr : Vars) (σ : Sg) (iter : Expr) (R : List MV → (Sg → Prop) → Sg → Prop) : Prop :=
  ∀ s, RepF prog w K (flOf A) e fr σ s → wpAny (model prog w) A (eval iter e) (fun x s₁ => wpAny (model prog w) A (pyIter x) (fun r s₂ => ∃ it At xs C σ', r = .ref it ∧ (∀ o, s.heap.get? it = some o → σ it = none → own e it) ∧ RepF prog w K (flOf A) e fr σ' s₂ ∧ Step (own e) σ s σ' s₂ ∧
    (¬ own e it) ∧ (∀ o, K.lookup it ≠ some o) ∧ Proto prog w K A it xs C At ∧ At 0 σ' s₂.heap ∧ C σ' ∧ R xs C σ') (fun _ _ => False) s₁) (fun _ _ => False) s

/-- the same, changing nothing -/
noncomputable def SrcP (prog : Program) (w : World) (K : Frag) (A : Around) (e : Env) (fr : Vars) (σ : Sg) (iter : Expr) (xs : List MV) (C : Sg → Prop) : Prop :=
  ∀ s, RepF prog w K (flOf A) e fr σ s → wpAny (model prog w) A (eval iter e) (fun x s₁ => wpAny (model prog w) A (pyIter x) (fun r s₂ => ∃ it At, r = .ref it ∧ (∀ o, s.heap.get? it ≠ some o) ∧ Ext s s₂ ∧
    Proto prog w K A it xs C At ∧ At 0 σ s₂.heap ∧ C σ) (fun _ _ => False) s₁) (fun _ _ => False) s
theorem SrcP.src {iter : Expr} {xs : List MV} {C : Sg → Prop} {R : List MV → (Sg → Prop) → Sg → Prop} (h : SrcP prog w K A e fr σ iter xs C) (hR : R xs C σ) : Src prog w K A e fr σ iter R := fun s r =>
  wpAny_mono (h s r) (fun _ _ h₁ => wpAny_mono h₁ (fun _ _ ⟨it, At, e1, hf, x, P, a, c⟩ => ⟨it, At, xs, C, σ, e1, fun o g => absurd g (hf o), r.ext x, x.step, fresh_own r hf, fresh_K r.toRep hf, P, a, c, hR⟩) fun _ _ f => f) fun _ _ f => f

/-- from the value -/
noncomputable def It (prog : Program) (w : World) (K : Frag) (A : Around) (σ : Sg) (y : MV) (xs : List MV) (C : Sg → Prop) : Prop :=
  ∀ s v, Rep prog w K (flOf A) σ s → VR s.heap σ y v → wpAny (model prog w) A (pyIter v) (fun r s₂ => ∃ it At, r = .ref it ∧ (∀ o, s.heap.get? it ≠ some o) ∧ Ext s s₂ ∧ Proto prog w K A it xs C At ∧ At 0 σ s₂.heap ∧ C σ) (fun _ _ => False) s
theorem SrcP_of {iter : Expr} {y : MV} {xs : List MV} {C : Sg → Prop} (h : EP prog w K A e fr σ iter y) (hi : It prog w K A σ y xs C) : SrcP prog w K A e fr σ iter xs C := fun s r =>
  wpAny_mono (h s r) (fun v s₁ ⟨x, rv⟩ => wpAny_mono (hi s₁ v (r.ext x).toRep rv) (fun _ _ ⟨it, At, e1, hf, x2, q⟩ => ⟨it, At, e1, fun o g => hf o (x.keep _ _ g), x.trans x2, q⟩) fun _ _ f => f) fun _ _ f => f
theorem Src_of {iter : Expr} {R : List MV → (Sg → Prop) → Sg → Prop} (h : Ev prog w K A e fr σ (eval iter e) fun y σ₁ => ∃ xs C, It prog w K A σ₁ y xs C ∧ R xs C σ₁) : Src prog w K A e fr σ iter R := fun s r =>
  wpAny_mono (h s r) (fun v s₁ ⟨y, σ₁, r1, t1, rv, xs, C, hi, hR⟩ => wpAny_mono (hi s₁ v r1.toRep rv) (fun rr s₂ ⟨it, At, e1, hf, x2, P, a, c⟩ =>
    ⟨it, At, xs, C, σ₁, e1, fun o g z => Classical.byContradiction fun q => let ⟨_, h⟩ := (t1.some g z q).2; hf _ h, r1.ext x2, t1.trans x2.step, fresh_own r1 hf, fresh_K r1.toRep hf, P, a, c, hR⟩) fun _ _ f => f) fun _ _ f => f

/-- for x in iter -/
theorem Ex_for {x : Str} {px pos : Pos} {iter : Expr} {body orelse : List Stmt} {R : MF → Vars → Sg → Prop} (he : FrE e) (hx : nameOk e x = true) (I : List MV → (Sg → Prop) → Nat → Vars → Sg → Prop)
    (hs : Src prog w K A e fr σ iter fun xs C σ₁ => (∃ fr', I xs C 0 fr' σ₁ ∧ SubL fr' fr) ∧ (∀ i fr₂ σ₂, I xs C i fr₂ σ₂ → C σ₂) ∧
      (∀ i y fr₂ σ₂ (Q : MF → Vars → Sg → Prop), (∀ fr' σ', (∃ fr'', I xs C (i + 1) fr'' σ' ∧ SubL fr'' fr') → Q .next fr' σ' ∧ Q .cont fr' σ') → (∀ fr' σ', R .next fr' σ' → Q .brk fr' σ') → (∀ y fr' σ', R (.ret y) fr' σ' → Q (.ret y) fr' σ') →
        xs[i]? = some y → I xs C i fr₂ σ₂ → EX prog w K A e (setv fr₂ x y) σ₂ body Q) ∧
      (∀ fr₂ σ₂, I xs C xs.length fr₂ σ₂ → EX prog w K A e fr₂ σ₂ orelse R))
    (hf : ∀ v, foldedSetIterable iter e v = pure v := by intro _; rfl) : E1 prog w K A e fr σ (.For (.Name x px) iter body orelse pos) R := fun s r => by
  refine wpAny_For (wpAny_mono (hs s r) (fun v s₁ h₁ => wpAny_mono h₁ (fun r s₂ hh => ?_) fun _ _ f => f.elim) fun _ _ f => f.elim) hf
  obtain ⟨it, At, xs, C, σ₁, e1, hit, r2, t2, io, iK, P, a0, c0, ⟨fr0, hI, hsub0⟩, hC, turn, hend⟩ := hh
  subst e1
  obtain ⟨J, hJ1, hJ2⟩ := hideI (fun (n : Nat) (s' : Shared) => ∃ i fr' σ', n = xs.length - i ∧ i ≤ xs.length ∧ I xs C i fr' σ' ∧ RepF prog w K (flOf A) e fr' σ' s' ∧ Step (own e) σ s σ' s' ∧ At i σ' s'.heap)
  refine codeAny_forLoop_any J (fun n s₃ h₃ => ?_) xs.length (hJ1 _ _ ⟨0, fr0, σ₁, rfl, Nat.zero_le _, hI, r2.sub fun _ _ q => hsub0.lookup q, t2, a0⟩)
  obtain ⟨i, fr₃, σ₃, rfl, hi, hI₃, r3, t3, a3⟩ := hJ2 _ _ h₃
  obtain ⟨zn, o, fs, g, hd⟩ := P.here _ _ _ a3
  have move : ∀ s₄, Moved it s₃ s₄ → RepF prog w K (flOf A) e fr₃ σ₃ s₄ ∧ Step (own e) σ s σ₃ s₄ ∧ (∀ y v, VR s₃.heap σ₃ y v → VR s₄.heap σ₃ y v) := fun s₄ m =>
    let ⟨r4, v4⟩ := r3.moved zn io iK (notFl_fields r3.toRep g hd) g (fun its n e => by rw [hd] at e; cases e) m
    ⟨r4, ⟨fun a o' g' z q nf => ⟨m.keep a o' (fun e' => q (e' ▸ hit o' (e' ▸ g') (e' ▸ z))) (t3.keep a o' g' z q nf).1, (t3.keep a o' g' z q nf).2⟩, fun a o' g' z q hF => let ⟨h1, sl, h2⟩ := t3.fr a o' g' z q hF; ⟨h1, sl, m.keep a _ (fun e' => q (e' ▸ hit o' (e' ▸ g') (e' ▸ z))) h2⟩, m.os.trans t3.os, m.gens.trans t3.gens⟩, v4⟩
  rcases Nat.lt_or_ge i xs.length with hlt | hge
  · have hxi : xs[i]? = some xs[i] := by simp [hlt]
    refine wpAny_mono (P.item i σ₃ s₃ _ r3.toRep (hC _ _ _ hI₃) a3 hxi) (fun r s₄ hzz => ?_) fun _ _ f => f.elim
    obtain ⟨u, e1, m, a4, rv⟩ := hzz
    subst e1
    obtain ⟨r4, t4, v4⟩ := move s₄ m
    refine wpAny_of_eq (a := ()) (by rfl) ?_
    refine wpAny_assign_Name (wpAny_mono (r4.store he rv (nameOk_or hx) (Q := fun _ s' => RepF prog w K (flOf A) e (setv fr₃ x xs[i]) σ₃ s' ∧ Step (own e) σ₃ s₄ σ₃ s') fun s' p q _ => ⟨p, q⟩) (fun _ s₅ hzz => ?_) fun _ _ f => f.elim)
    obtain ⟨r5, t5⟩ := hzz
    have seqk : ∀ {s₆ : Shared} {σ₆ : Sg}, Step (own e) σ₃ s₄ σ₆ s₆ → At (i + 1) σ₃ s₄.heap → At (i + 1) σ₆ s₆.heap := fun t a => P.keep _ _ _ _ _ a fun b o' g' z hb => by
      rcases hb with rfl | ⟨c, its, k, rfl⟩
      · obtain ⟨_, o5, fs5, g5, d5⟩ := P.here _ _ _ a
        rw [g5] at g'; cases g'
        exact t.keep _ _ g5 z io (FrO.fields d5)
      · exact t.keep _ _ g' z (r4.notOwn g') FrO.seq
    refine wpAny_mono (turn i xs[i] fr₃ σ₃ (Turn (I xs C (i + 1)) R) (fun _ _ h => ⟨h, h⟩) (fun _ _ h => h) (fun _ _ _ h => h) hxi hI₃ s₅ r5) (fun f s₆ hzz => ?_) fun _ _ f => f.elim
    obtain ⟨f', fr₆, σ₆, r6, t6, rf, hR⟩ := hzz
    have t56 := t5.trans t6
    have t46 := t4.trans t56
    cases f' with
    | next => cases (show f = .next from rf); obtain ⟨fr7, hR, hs7⟩ := hR; exact ⟨xs.length - (i + 1), Nat.sub_lt_sub_left hlt (Nat.lt_succ_self _), hJ1 _ _ ⟨i + 1, fr7, σ₆, rfl, hlt, hR, r6.sub fun _ _ q => hs7.lookup q, t46, seqk t56 a4⟩⟩
    | cont => cases (show f = .cont from rf); obtain ⟨fr7, hR, hs7⟩ := hR; exact ⟨xs.length - (i + 1), Nat.sub_lt_sub_left hlt (Nat.lt_succ_self _), hJ1 _ _ ⟨i + 1, fr7, σ₆, rfl, hlt, hR, r6.sub fun _ _ q => hs7.lookup q, t46, seqk t56 a4⟩⟩
    | brk => cases (show f = .brk from rf); exact ⟨.next, fr₆, σ₆, r6, t46, rfl, hR⟩
    | ret y => obtain ⟨v, e1, rv⟩ := rf; cases e1; exact ⟨.ret y, fr₆, σ₆, r6, t46, ⟨v, rfl, rv⟩, hR⟩
  · have hi' : i = xs.length := by omega
    subst hi'
    refine wpAny_mono (P.done σ₃ s₃ r3.toRep (hC _ _ _ hI₃) a3) (fun r s₄ hzz => ?_) fun _ _ f => f.elim
    obtain ⟨e1, m⟩ := hzz
    subst e1
    obtain ⟨r4, t4, _⟩ := move s₄ m
    exact wpAny_mono (hend fr₃ σ₃ hI₃ s₄ r4) (fun f s₅ ⟨f', fr₅, σ₅, r5, t5, rf, hR⟩ => ⟨f', fr₅, σ₅, r5, t4.trans t5, rf, hR⟩) fun _ _ f => f.elim
end

/-! the kinds of iterables -/
section
variable {prog : Program} {w : World} {K : Frag} {A : Around} {σ : Sg}

theorem It_list {y : MV} {xs : List MV} {C : Sg → Prop} (hh : A.handled = none) (l : LV σ y xs) (hC : ∀ σ', C σ' → LV σ' y xs) (c0 : C σ) : It prog w K A σ y xs C := fun s v r rv => by
  obtain ⟨a, its, n, rfl, g, q⟩ := l.at r rv
  have fr : ∀ o, s.heap.get? s.heap.objs.size ≠ some o := fun o g => Nat.lt_irrefl _ (Heap.lt_size g)
  refine wpAny_pyIter_list (isList g) ⟨s.heap.objs.size, fun i σ' h => h.IsListIter s.heap.objs.size a i ∧ σ' s.heap.objs.size = none ∧ VR h σ' y (.ref a), rfl, fr, .push, ⟨fun i σ₁ h σ₂ h' ⟨hi, hz, hv⟩ k => ?_, fun i σ₁ h ⟨⟨o, g, _, hd⟩, hz, _⟩ => ⟨hz, o, _, g, hd⟩, ?_, ?_, fun i σ₁ s₁ ⟨hi, _⟩ => wpAny_pyIter_listiter hi ⟨rfl, rfl⟩⟩, ⟨⟨_, Heap.get?_push_size _ rfl, rfl, rfl⟩, fresh_none r fr, rv.ext Ext.push.keep⟩, c0⟩
  · obtain ⟨o, g, r⟩ := hi
    exact ⟨⟨o, (k _ _ g hz (.inl rfl)).1, r⟩, (k _ _ g hz (.inl rfl)).2, hv.mono fun a c its n g z => k _ _ g z (.inr ⟨c, its, n, rfl⟩)⟩
  · intro i σ₁ s₁ x r₁ hc ⟨hi, hz, hv⟩ hx
    obtain ⟨a', its', n', e1, g', q'⟩ := (hC _ hc).at r₁ hv
    cases e1
    obtain ⟨u, hu, ru⟩ := q'.at hx
    refine wpAny_pyNext_list_item hi (isList g') hu fun h' hi' hs' => ?_
    have mv : Moved s.heap.objs.size s₁ { s₁ with heap := h' } := ⟨fun b o hb g => hs'.extBut b o hb g, rfl, rfl⟩
    have ks : ∀ b c its n, s₁.heap.get? b = some ⟨c, none, .seq its n, #[]⟩ → σ₁ b = none → h'.get? b = some ⟨c, none, .seq its n, #[]⟩ ∧ σ₁ b = none := fun b c its n g z => ⟨mv.keep b _ (fun e' => by
      obtain ⟨o, go, _, hd⟩ := hi
      rw [e', go] at g; cases g; cases hd) g, z⟩
    exact ⟨u, rfl, mv, ⟨hi', hz, hv.mono ks⟩, ru.mono ks⟩
  · intro σ₁ s₁ r₁ hc ⟨hi, hz, hv⟩
    obtain ⟨a', its', n', e1, g', q'⟩ := (hC _ hc).at r₁ hv
    cases e1
    exact wpAny_pyNext_list_end hh hi (isList g') (by rw [← q'.size]; simp) fun h' he' => ⟨rfl, ⟨fun b o hb g => he' b o hb g, rfl, rfl⟩⟩

theorem It_tup {xs : List MV} (hh : A.handled = none) : It prog w K A σ (.tup xs) xs (fun _ => True) := fun s v r rv => by
  obtain ⟨a, its, n, rfl, _, g, q⟩ := id rv
  have fr : ∀ o, s.heap.get? s.heap.objs.size ≠ some o := fun o g => Nat.lt_irrefl _ (Heap.lt_size g)
  refine wpAny_pyIter_tuple (isTupH g) ⟨s.heap.objs.size, fun i σ' h => h.IsTupleIter s.heap.objs.size a i ∧ σ' s.heap.objs.size = none ∧ VR h σ' (.tup xs) (.ref a), rfl, fr, .push, ⟨fun i σ₁ h σ₂ h' ⟨hi, hz, hv⟩ k => ?_, fun i σ₁ h ⟨⟨o, g, _, hd⟩, hz, _⟩ => ⟨hz, o, _, g, hd⟩, ?_, ?_, fun i σ₁ s₁ ⟨hi, _⟩ => ?_⟩, ⟨⟨_, Heap.get?_push_size _ rfl, rfl, rfl⟩, fresh_none r fr, rv.ext Ext.push.keep⟩, trivial⟩
  · obtain ⟨o, g, r⟩ := hi
    exact ⟨⟨o, (k _ _ g hz (.inl rfl)).1, r⟩, (k _ _ g hz (.inl rfl)).2, hv.mono fun a c its n g z => k _ _ g z (.inr ⟨c, its, n, rfl⟩)⟩
  · intro i σ₁ s₁ x r₁ hc ⟨hi, hz, hv⟩ hx
    obtain ⟨a', its', n', e1, _, g', q'⟩ := id hv
    cases e1
    obtain ⟨u, hu, ru⟩ := q'.at hx
    refine wpAny_pyNext_tuple_item hi (isTupH g') hu fun h' hi' hs' => ?_
    have mv : Moved s.heap.objs.size s₁ { s₁ with heap := h' } := ⟨fun b o hb g => hs'.extBut b o hb g, rfl, rfl⟩
    have ks : ∀ b c its n, s₁.heap.get? b = some ⟨c, none, .seq its n, #[]⟩ → σ₁ b = none → h'.get? b = some ⟨c, none, .seq its n, #[]⟩ ∧ σ₁ b = none := fun b c its n g z => ⟨mv.keep b _ (fun e' => by
      obtain ⟨o, go, _, hd⟩ := hi
      rw [e', go] at g; cases g; cases hd) g, z⟩
    exact ⟨u, rfl, mv, ⟨hi', hz, hv.mono ks⟩, ru.mono ks⟩
  · intro σ₁ s₁ r₁ hc ⟨hi, hz, hv⟩
    obtain ⟨a', its', n', e1, _, g', q'⟩ := id hv
    cases e1
    exact wpAny_pyNext_tuple_end hh hi (isTupH g') (by rw [← q'.size]; simp) fun h' he' => ⟨rfl, ⟨fun b o hb g => he' b o hb g, rfl, rfl⟩⟩
  · refine wpAny_pyIter_slot hi.typeIs F.slot_tuple_iterator_iter (wpAny_call_entry F.slot_tuple_iterator_iter hi.typeIs F.entry_tuple_iterator_iter ?_ (F.args_tuple_iterator_iter_1 _))
    show wpAny _ _ (ret (.ref s.heap.objs.size)) _ _ s₁
    exact wpAny_pure ⟨_, rfl, "tuple_iterator", _, hi.typeIs, F.slot_tuple_iterator_next.lookup, rfl, rfl⟩

theorem isStrOf_iff {k : Str} {v : Value} (h : Value.isStrOf k v = true) : ∃ t, v = .str k t := by
  unfold Value.isStrOf at h
  split at h
  · rename_i y t
    exact ⟨t, by rw [eq_of_beq h]⟩
  · cases h
theorem isStrOf_str {k : Str} {t : Tok} : Value.isStrOf k (.str k t) = true := by simp [Value.isStrOf]

/-- the dict as it lies -/
theorem Rep.dictAt {s : Shared} {d : Addr} {es : List (Str × MV)} {ep : Nat} (r : Rep prog w K (flOf A) σ s) (hd : σ d = some (.dict es ep)) : ∃ kvs, s.heap.DictAt (PySem.strKind prog w) d kvs ep ∧ kvs.map (·.1) = es.map (·.1) ∧ VRs s.heap σ (es.map (·.2)) (kvs.map (·.2)) ∧ ∃ es', s.heap.get? d = some ⟨.type "dict", none, .dict es' ep, #[]⟩ := by
  obtain ⟨kvs, ⟨o, es1, ep1, g, hx, hdd, q⟩, hk, hv, es', g'⟩ := r.objs _ _ hd
  rw [g] at g'; cases g'
  cases hdd
  exact ⟨kvs, ⟨_, _, g, hx, rfl, q⟩, hk, hv, _, g⟩

theorem It_keys {d : Addr} {es : List (Str × MV)} {ep : Nat} (hh : A.handled = none) (hds : (d == sysModules) = false) (hd : σ d = some (.dict es ep)) : It prog w K A σ (.ref d) (es.map fun p => .str p.1) (fun σ' => σ' d = some (.dict es ep)) := fun s v r rv => by
  cases (show v = .ref d from rv)
  obtain ⟨kvs, D, hk, hv, es', g⟩ := r.dictAt hd
  have hlen : kvs.length = es.length := by have := congrArg List.length hk; simpa using this
  have fr : ∀ o, s.heap.get? s.heap.objs.size ≠ some o := fun o g => Nat.lt_irrefl _ (Heap.lt_size g)
  refine wpAny_pyIter_dict hds D ⟨s.heap.objs.size, fun i σ' h => h.IsKeyIter s.heap.objs.size d i es.length ep ∧ σ' s.heap.objs.size = none, rfl, fr, .push, ⟨fun i σ₁ h σ₂ h' ⟨hi, hz⟩ k => ?_, fun i σ₁ h ⟨⟨o, g, _, hd⟩, hz⟩ => ⟨hz, o, _, g, hd⟩, ?_, ?_, fun i σ₁ s₁ ⟨hi, _⟩ => wpAny_pyIter_keyiter hi ⟨rfl, rfl⟩⟩, ⟨⟨_, Heap.get?_push_size _ rfl, rfl, by rw [hlen]; rfl⟩, fresh_none r fr⟩, hd⟩
  · obtain ⟨o, g, r⟩ := hi
    exact ⟨⟨o, (k _ _ g hz (.inl rfl)).1, r⟩, (k _ _ g hz (.inl rfl)).2⟩
  · intro i σ₁ s₁ x r₁ hc ⟨hi, hz⟩ hx
    obtain ⟨kvs₁, D₁, hk₁, hv₁, es₁, g₁⟩ := r₁.dictAt hc
    have hlen₁ : kvs₁.length = es.length := by have := congrArg List.length hk₁; simpa using this
    obtain ⟨k, u, hku, hxk⟩ : ∃ k u, kvs₁[i]? = some (k, u) ∧ x = .str k := by
      have h1 : (es.map (·.1))[i]?.map MV.str = some x := by simpa using hx
      rw [← hk₁, List.getElem?_map] at h1
      cases z : kvs₁[i]? with
      | none => rw [z] at h1; cases h1
      | some p => rw [z] at h1; cases h1; exact ⟨p.1, p.2, rfl, rfl⟩
    subst hxk
    refine wpAny_pyNext_dict_item (hlen₁ ▸ hi) D₁ hku fun key h' hkey hi' hs' => ?_
    obtain ⟨t, rfl⟩ := isStrOf_iff hkey
    exact ⟨_, rfl, ⟨fun b o hb g => hs'.extBut b o hb g, rfl, rfl⟩, ⟨hlen₁ ▸ hi', hz⟩, t, rfl⟩
  · intro σ₁ s₁ r₁ hc ⟨hi, hz⟩
    obtain ⟨kvs₁, D₁, hk₁, hv₁, es₁, g₁⟩ := r₁.dictAt hc
    have hlen₁ : kvs₁.length = es.length := by have := congrArg List.length hk₁; simpa using this
    rw [List.length_map] at hi
    exact wpAny_pyNext_dict_end hh (i := es.length) (hlen₁ ▸ hi) D₁ (by rw [← hlen₁]; simp) fun h' he' => ⟨rfl, ⟨fun b o hb g => he' b o hb g, rfl, rfl⟩⟩

/-- d.values(), the view made and asked at once -/
theorem It_vals {s : Shared} {d v : Addr} {es : List (Str × MV)} {ep : Nat} (hh : A.handled = none) (r : Rep prog w K (flOf A) σ s) (hd : σ d = some (.dict es ep)) (hv : s.heap.IsValuesView v d) :
    wpAny (model prog w) A (pyIter (.ref v)) (fun r s₂ => ∃ it At, r = .ref it ∧ (∀ o, s.heap.get? it ≠ some o) ∧ Ext s s₂ ∧ Proto prog w K A it (es.map (·.2)) (fun σ' => σ' d = some (.dict es ep)) At ∧ At 0 σ s₂.heap ∧ σ d = some (.dict es ep)) (fun _ _ => False) s := by
  obtain ⟨kvs, D, hk, _, es', g⟩ := r.dictAt hd
  have hlen : kvs.length = es.length := by have := congrArg List.length hk; simpa using this
  have fr : ∀ o, s.heap.get? s.heap.objs.size ≠ some o := fun o g => Nat.lt_irrefl _ (Heap.lt_size g)
  refine wpAny_pyIter_values hv D ⟨s.heap.objs.size, fun i σ' h => h.IsValIter s.heap.objs.size d i es.length ep ∧ σ' s.heap.objs.size = none, rfl, fr, .push, ⟨fun i σ₁ h σ₂ h' ⟨hi, hz⟩ k => ?_, fun i σ₁ h ⟨⟨o, g, _, hd⟩, hz⟩ => ⟨hz, o, _, g, hd⟩, ?_, ?_, fun i σ₁ s₁ ⟨hi, _⟩ => wpAny_pyIter_valiter hi ⟨rfl, rfl⟩⟩, ⟨⟨_, Heap.get?_push_size _ rfl, rfl, by rw [hlen]; rfl⟩, fresh_none r fr⟩, hd⟩
  · obtain ⟨o, g, r⟩ := hi
    exact ⟨⟨o, (k _ _ g hz (.inl rfl)).1, r⟩, (k _ _ g hz (.inl rfl)).2⟩
  · intro i σ₁ s₁ x r₁ hc ⟨hi, hz⟩ hx
    obtain ⟨kvs₁, D₁, hk₁, hv₁, es₁, g₁⟩ := r₁.dictAt hc
    have hlen₁ : kvs₁.length = es.length := by have := congrArg List.length hk₁; simpa using this
    obtain ⟨u, hu, ru⟩ := hv₁.get hx
    obtain ⟨k, hku⟩ : ∃ k, kvs₁[i]? = some (k, u) := by
      rw [List.getElem?_map] at hu
      obtain ⟨p, hp, e⟩ := Option.map_eq_some_iff.mp hu
      exact ⟨p.1, by rw [hp, ← e]⟩
    refine wpAny_pyNext_values_item (hlen₁ ▸ hi) D₁ hku fun h' hi' hs' => ?_
    have mv : Moved s.heap.objs.size s₁ { s₁ with heap := h' } := ⟨fun b o hb g => hs'.extBut b o hb g, rfl, rfl⟩
    have ks : ∀ b c its n, s₁.heap.get? b = some ⟨c, none, .seq its n, #[]⟩ → σ₁ b = none → h'.get? b = some ⟨c, none, .seq its n, #[]⟩ ∧ σ₁ b = none := fun b c its n g z => ⟨mv.keep b _ (fun e' => by
      obtain ⟨o, go, _, hd⟩ := hi
      rw [e', go] at g; cases g; cases hd) g, z⟩
    exact ⟨u, rfl, mv, ⟨hlen₁ ▸ hi', hz⟩, ru.mono ks⟩
  · intro σ₁ s₁ r₁ hc ⟨hi, hz⟩
    obtain ⟨kvs₁, D₁, hk₁, hv₁, es₁, g₁⟩ := r₁.dictAt hc
    have hlen₁ : kvs₁.length = es.length := by have := congrArg List.length hk₁; simpa using this
    rw [List.length_map] at hi
    exact wpAny_pyNext_values_end hh (i := es.length) (hlen₁ ▸ hi) D₁ (by rw [← hlen₁]; simp) fun h' he' => ⟨rfl, ⟨fun b o hb g => he' b o hb g, rfl, rfl⟩⟩

/-- the signs of an ascii string -/
theorem It_str {x : Str} (hh : A.handled = none) (ha : x.cps.all (· < 128) = true) : It prog w K A σ (.str x) (x.cps.toList.map fun c => .str ⟨#[c]⟩) (fun _ => True) := fun s v r rv => by
  obtain ⟨t, rfl⟩ := rv
  have fr : ∀ o, s.heap.get? s.heap.objs.size ≠ some o := fun o g => Nat.lt_irrefl _ (Heap.lt_size g)
  refine wpAny_pyIter_ascii ha ⟨s.heap.objs.size, fun i σ' h => h.IsStrIter s.heap.objs.size "str_ascii_iterator" x t i ∧ σ' s.heap.objs.size = none, rfl, fr, .push, ⟨fun i σ₁ h σ₂ h' ⟨hi, hz⟩ k => ?_, fun i σ₁ h ⟨⟨o, g, _, hd⟩, hz⟩ => ⟨hz, o, _, g, hd⟩, ?_, ?_, fun i σ₁ s₁ ⟨hi, _⟩ => wpAny_pyIter_striter_ascii hi ⟨rfl, rfl⟩⟩, ⟨⟨_, Heap.get?_push_size _ rfl, rfl, rfl⟩, fresh_none r fr⟩, trivial⟩
  · obtain ⟨o, g, r⟩ := hi
    exact ⟨⟨o, (k _ _ g hz (.inl rfl)).1, r⟩, (k _ _ g hz (.inl rfl)).2⟩
  · intro i σ₁ s₁ y r₁ hc ⟨hi, hz⟩ hx
    obtain ⟨c, hc', rfl⟩ : ∃ c, x.cps[i]? = some c ∧ y = .str ⟨#[c]⟩ := by
      rw [List.getElem?_map] at hx
      obtain ⟨c, hc, e⟩ := Option.map_eq_some_iff.mp hx
      exact ⟨c, by simpa using hc, e.symm⟩
    exact wpAny_pyNext_ascii_item hi hc' fun h' hi' hs' => ⟨_, rfl, ⟨fun b o hb g => hs'.extBut b o hb g, rfl, rfl⟩, ⟨hi', hz⟩, _, rfl⟩
  · intro σ₁ s₁ r₁ hc ⟨hi, hz⟩
    rw [List.length_map] at hi
    exact wpAny_pyNext_ascii_end hh hi (by simp) fun h' he' => ⟨rfl, ⟨fun b o hb g => he' b o hb g, rfl, rfl⟩⟩

/-- the numbers from a by c, n of them -/
noncomputable def nums (a c : Int) (n : Nat) : List MV := (List.range n).map fun i : Nat => .int (a + (i : Int) * c)
theorem Proto_range {it : Addr} {a c : Int} {n : Nat} (hh : A.handled = none) : Proto prog w K A it (nums a c n) (fun _ => True) (fun i σ' h => IsRangeIter h it (a + i * c) ((n : Int) - i) c ∧ σ' it = none) := by
  refine ⟨fun i σ₁ h σ₂ h' ⟨hi, hz⟩ k => ⟨(k _ _ hi hz (.inl rfl)).1, (k _ _ hi hz (.inl rfl)).2⟩, fun i σ₁ h ⟨hi, hz⟩ => ⟨hz, _, _, hi, rfl⟩, ?_, ?_, fun i σ₁ s₁ ⟨hi, _⟩ => ?_⟩
  · intro i σ₁ s₁ x r₁ hc ⟨hi, hz⟩ hx
    have hlt : i < n := by
      rcases Nat.lt_or_ge i n with h | h
      · exact h
      · rw [List.getElem?_eq_none (by simp [nums]; omega)] at hx; cases hx
    have hx' : x = .int (a + i * c) := by simp [nums, hlt] at hx; exact hx.symm
    subst hx'
    refine wpAny_pyNext_range_item hi (by omega) fun h' hi' hs' => ⟨_, rfl, ⟨fun b o hb g => hs'.extBut b o hb g, rfl, rfl⟩, ⟨?_, hz⟩, _, rfl⟩
    have e1 : a + (i : Int) * c + c = a + ((i + 1 : Nat) : Int) * c := by push_cast; rw [Int.add_mul]; omega
    have e2 : (n : Int) - i - 1 = n - ((i + 1 : Nat) : Int) := by push_cast; omega
    rw [← e1, ← e2]; exact hi'
  · intro σ₁ s₁ r₁ hc ⟨hi, hz⟩
    exact wpAny_pyNext_range_end hh hi (by simp [nums]) fun h' he' => ⟨rfl, ⟨fun b o hb g => he' b o hb g, rfl, rfl⟩⟩
  · have hT : s₁.TypeIs (.ref it) "range_iterator" := ⟨_, hi, rfl⟩
    refine wpAny_pyIter_slot hT F.slot_range_iterator_iter (wpAny_call_entry F.slot_range_iterator_iter hT F.entry_range_iterator_iter ?_ (F.args_range_iterator_iter_1 _))
    show wpAny _ _ (ret (.ref it)) _ _ s₁
    exact wpAny_pure ⟨_, rfl, "range_iterator", _, hT, F.slot_range_iterator_next.lookup, rfl, rfl⟩
end
end Mine

end
section
open PySem PySem.W PyProof.Rows
namespace Mine

/-- a comprehension's own frame -/
noncomputable def ce (e : Env) (scope : Scope) (cl : List (Str × Addr)) (C : Addr) : Env :=
  { scope := relabel scope e, locals := C, globals := e.globals, cells := cellsFrom (C + 1) scope.names cl, qual := e.qual, func := none, code := e.code, frame := e.frame, builtins := e.builtins }

theorem newCompEnv {M : Model} {A : Around} {E : Value → Shared → Prop} {s : Shared} {scope : Scope} {env : Env} {cl : List (Str × Addr)} {Q : Env → Shared → Prop}
    (hQ : Q { scope, locals := s.heap.objs.size, globals := env.globals, cells := cellsFrom (s.heap.objs.size + 1) scope.names cl, qual := env.qual, func := none, code := env.code, frame := env.frame, builtins := env.builtins } { s with heap := pushCells (s.heap.push { cls := .type "dict", data := .dict #[] }) scope.names }) :
    wpAny M A (newFunctionEnv scope env.globals cl [] env.qual none .none (some env)) Q E s := by
  simp only [newFunctionEnv, Option.isSome_some, if_true]
  refine wpAny_bind (wpAny_alloc ?_)
  refine wpAny_bind (wpAny_layCells _ (fun name kind cells => by cases hkc : kind == NameKind.cell <;> simp [hkc]) _ _ _ _ ?_)
  rw [show ({ s with heap := s.heap.push { cls := .type "dict", data := .dict #[] } } : Shared).heap.objs.size = s.heap.objs.size + 1 from Heap.size_push ..]
  exact wpAny_bind (wpAny_pure (wpAny_pure hQ))

theorem cellsFrom_append : ∀ (names : List (Str × NameKind)) (n : Nat) (acc : List (Str × Addr)), cellsFrom n names acc = cellsFrom n names [] ++ acc
  | [], _, _ => rfl
  | (x, k) :: r, n, acc => by
    unfold cellsFrom
    split
    · rw [cellsFrom_append r (n + 1) ((x, n) :: acc), cellsFrom_append r (n + 1) [(x, n)], List.append_assoc]; rfl
    · exact cellsFrom_append r n acc

section
variable {prog : Program} {w : World} {K : Frag} {A : Around} {e : Env} {fr fr' : Vars} {σ σ' : Sg} {s s' : Shared}

noncomputable def TestsP (prog : Program) (w : World) (K : Frag) (A : Around) (e : Env) (fr : Vars) (σ : Sg) (ifs : List Expr) (b : Bool) : Prop :=
  ∀ s, RepF prog w K (flOf A) e fr σ s → wpAny (model prog w) A (forIn ifs true fun c r => if r = true then do let ok ← isTrue c e (eval c e); pure (ForInStep.yield ok) else pure (ForInStep.yield r)) (fun ok s' => Ext s s' ∧ ok = b) (fun _ _ => False) s
theorem TestsP_nil : TestsP prog w K A e fr σ [] true := fun _ _ => wpAny_tests_nil ⟨.refl, rfl⟩
theorem TestsP_one {c : Expr} {b : Bool} (h : TP prog w K A e fr σ c b) : TestsP prog w K A e fr σ [c] b := fun s r => wpAny_tests_one (h s r)

/-- what a comprehension needs of its scope -/
structure CompOk (e : Env) (scope : Scope) (cl : List (Str × Addr)) (x : Str) (fr fc : Vars) : Prop where
  clos : closureFor scope e = pure cl
  kind : scope.kind = .function
  names : ∀ y ∈ scope.names, y.2 = .local → scope.names.lookup y.1 = some .local
  clsub : SubL cl e.cells
  clnd : (cl.map (·.1)).Nodup
  tgt : ∀ C, nameOk (ce e scope cl C) x = true
  tgtc : ∀ C c, (ce e scope cl C).kindOf x = some .cell → (ce e scope cl C).cells.lookup x = some c → C < c
  cap : SubL fc fr
  capk : ∀ C, fc.all (fun p => (e.kindOf p.1 == some .cell || e.kindOf p.1 == some .free) && ((ce e scope cl C).kindOf p.1 == some .cell || (ce e scope cl C).kindOf p.1 == some .free)) = true
  capc : ∀ C p, p ∈ fc → (ce e scope cl C).cells.lookup p.1 = e.cells.lookup p.1
  capx : fc.lookup x = none

theorem CompOk.frE {scope : Scope} {cl : List (Str × Addr)} {x : Str} {fc : Vars} (k : CompOk e scope cl x fr fc) (he : FrE e) {C : Addr} (hC : ∀ p ∈ e.cells, p.2 < C) : FrE (ce e scope cl C) := by
  refine ⟨by show (relabel scope e).kind = _; exact k.kind, he.globals, he.builtins, ?_⟩
  refine cells_apart _ _ _ ?_ fun p hp => Nat.lt_succ_of_lt (hC p (mem_of_lookup (k.clsub.mem hp)))
  have nd := k.clnd
  have sub := k.clsub
  have ap := he.apart
  generalize e.cells = ec at sub ap
  clear k hC
  induction cl with
  | nil => exact .nil
  | cons p r ih =>
    obtain ⟨n, c⟩ := p
    rw [List.map_cons, List.nodup_cons] at nd
    refine List.pairwise_cons.mpr ⟨fun q hq e1 => nd.1 ?_, ih nd.2 sub.2⟩
    have h1 := mem_of_lookup sub.1
    have h2 := mem_of_lookup (sub.2.mem (x := q.1) (y := q.2) hq)
    have := name_of_addr ap h1 (show (q.1, c) ∈ ec from by dsimp only at e1; rw [e1]; exact h2)
    exact List.mem_map.mpr ⟨q, hq, this.symm⟩

theorem set_more {D : Addr} {m : MObj} (h : σ D = none) : ∀ a m', σ a = some m' → (σ.set D m) a = some m' := fun a m' q => by
  rw [Sg.set_ne σ m (fun e => by rw [e, h] at q; cases q)]; exact q

theorem comp_core {elt iter : Expr} {x : Str} {px : Pos} {ifs : List Expr} {scope : Scope} {cl : List (Str × Addr)} {pos : Pos} {it : Addr} {xs : List MV} {C : Sg → Prop} {At : Nat → Sg → Heap → Prop} {fc : Vars} {p : MV → Bool} {f : MV → MV}
    {RR : Value → Addr → Result → Shared → Prop} {E : Value → Shared → Prop} (he : FrE e) (k : CompOk e scope cl x fr fc) (hn : xs.length ≤ 1000) (r : RepF prog w K (flOf A) e fr σ s) (P : Proto prog w K A it xs C At) (a0 : At 0 σ s.heap) (c0 : ∀ σ', (∀ a m, σ a = some m → σ' a = some m) → C σ')
    (io : ¬ own e it) (iK : ∀ o, K.lookup it ≠ some o)
    (ht : ∀ σ' L, FrE (ce e scope cl L) → (∀ a m, σ a = some m → σ' a = some m) → ∀ (i : Nat) (y : MV), xs[i]? = some y → TestsP prog w K A (ce e scope cl L) (setv fc x y) σ' ifs (p y))
    (hx : ∀ σ' L, FrE (ce e scope cl L) → (∀ a m, σ a = some m → σ' a = some m) → ∀ (i : Nat) (y : MV), xs[i]? = some y → p y = true → EP prog w K A (ce e scope cl L) (setv fc x y) σ' elt (f y))
    (hRR : ∀ D L s', (∀ o, s.heap.get? D ≠ some o) → (∀ o, s.heap.get? L ≠ some o) → D ≠ L → (∃ m, s'.heap.Ns L m) → Moved it s s' → VR s'.heap σ (.lst ((xs.filter p).map f)) (.ref D) → RR (.ref D) L (.ok .next) s') :
    wpAny (model prog w) A (newList []) (fun acc s₃ => wpAny (model prog w) A (newFunctionEnv scope e.globals cl [] e.qual none .none (some e)) (fun cenv s₄ =>
      codeAny (model prog w) A (.compStart (.ListComp elt [⟨.Name x px, iter, ifs, 0⟩] scope pos) 0 (.ref it) acc { cenv with scope := relabel scope e }) (RR acc cenv.locals) s₄) E s₃) E s := by
  refine wpAny_newObj_type (newCompEnv ?_)
  dsimp only
  generalize hD : s.heap.objs.size = D
  have hsz1 : (s.heap.push (listO #[] 0)).objs.size = D + 1 := by rw [Heap.size_push, hD]
  rw [show (s.heap.push { cls := .type "list", data := .seq ([] : List Value).toArray } : Heap).objs.size = D + 1 from hsz1]
  generalize hh1 : pushCells ((s.heap.push { cls := .type "list", data := .seq ([] : List Value).toArray }).push { cls := .type "dict", data := .dict #[] }) scope.names = h1
  have k1 : ∀ b o, s.heap.get? b = some o → h1.get? b = some o := fun b o g => hh1 ▸ pushCells_keeps _ _ b o (Heap.get?_push_of_some _ (Heap.get?_push_of_some _ g))
  have nD : ∀ o, s.heap.get? D ≠ some o := fun o g => Nat.lt_irrefl _ (hD ▸ Heap.lt_size g)
  have nL : ∀ o, s.heap.get? (D + 1) ≠ some o := fun o g => by have := Heap.lt_size g; rw [hD] at this; exact absurd this (Nat.not_lt.mpr (Nat.le_succ _))
  have gD : h1.get? D = some (listO #[] 0) := hh1 ▸ pushCells_keeps _ _ _ _ (Heap.get?_push_of_some _ (hD ▸ Heap.get?_push_size _ rfl))
  have gL : h1.Ns (D + 1) fun _ => none := hh1 ▸ (hsz1 ▸ (Heap.Ns.new _ (.type "dict")).keeps (pushCells_keeps _ _))
  have zD : σ D = none := fresh_none r.toRep nD
  have okC : ∀ q ∈ (ce e scope cl (D + 1)).cells, q ∈ e.cells ∨ (D + 1 < q.2 ∧ h1.IsCell q.2 none) := by
    intro q hq
    have hq' : q ∈ cellsFrom (D + 1 + 1) scope.names [] ++ cl := by rw [← cellsFrom_append]; exact hq
    rcases List.mem_append.mp hq' with hq | hq
    · have ok := cellsFrom_ok scope.names ((s.heap.push { cls := .type "list", data := .seq ([] : List Value).toArray }).push { cls := .type "dict", data := .dict #[] }) (D + 1 + 1) [] ⟨fun _ _ hm => (nomatch hm), List.Pairwise.nil⟩ (by rw [Heap.size_push, hsz1]; exact Nat.le_refl _)
      rw [Heap.size_push, hsz1, hh1] at ok
      exact .inr ⟨(ok.empty q.1 q.2 hq).2, (ok.empty q.1 q.2 hq).1⟩
    · exact .inl (mem_of_lookup (k.clsub.mem (x := q.1) (y := q.2) hq))
  have cellold : ∀ q ∈ e.cells, q.2 < D := fun q hq => by obtain ⟨ov, o, g, _⟩ := r.cel q hq; have := Heap.lt_size g; rwa [hD] at this
  have hfe : FrE (ce e scope cl (D + 1)) := k.frE he fun q hq => Nat.lt_succ_of_lt (cellold q hq)
  have ownOld : ∀ b, own (ce e scope cl (D + 1)) b → own e b ∨ D < b := by
    rintro b (rfl | ⟨q, hq, rfl⟩)
    · exact .inr (Nat.lt_succ_self D)
    · rcases okC q hq with h | ⟨h, _⟩
      · exact .inl (.inr ⟨q, h, rfl⟩)
      · exact .inr (Nat.lt_trans (Nat.lt_succ_self D) h)
  -- the store with the new list
  have x1 : Ext s { s with heap := h1 } := ⟨k1, rfl, rfl⟩
  have big : ∀ b o, D ≤ b → s.heap.get? b ≠ some o := fun b o hb g => by have := Heap.lt_size g; rw [hD] at this; exact absurd this (Nat.not_lt.mpr hb)
  obtain ⟨rD, _⟩ := r.new (s' := { s with heap := h1 }) (a := D) (m' := .list []) nD k1 rfl rfl ⟨#[], 0, gD, rfl⟩
  have rC : RepF prog w K (flOf A) (ce e scope cl (D + 1)) fc (σ.set D (.list [])) { s with heap := h1 } := by
    refine ⟨rD.toRep, ⟨_, gL, fun z y hz kz => ?_⟩, fun q hq => ?_, fun z y hz kz => ?_, fun b hb => ?_, fun b o hb hk => ?_⟩
    · have := List.all_eq_true.mp (k.capk (D + 1)) _ (mem_of_lookup hz)
      rw [Bool.and_eq_true] at this
      have h2 := this.2
      rw [kz] at h2; cases h2
    · rcases okC q hq with h | ⟨_, h⟩
      · exact rD.cel q h
      · exact ⟨_, h⟩
    · have h0 := List.all_eq_true.mp (k.capk (D + 1)) _ (mem_of_lookup hz)
      rw [Bool.and_eq_true, Bool.or_eq_true] at h0
      obtain ⟨c, v, hc, hi, hr⟩ := rD.celv z y (k.cap.lookup hz) (h0.1.imp (fun h => eq_of_beq h) fun h => eq_of_beq h)
      exact ⟨c, v, by rw [k.capc (D + 1) _ (mem_of_lookup hz)]; exact hc, hi, hr⟩
    · rcases ownOld b hb with h | h
      · exact rD.off b h
      · have : σ b = none := fresh_none r.toRep fun o => big b o (Nat.le_of_lt h)
        rw [Sg.set_ne _ _ (Nat.ne_of_gt h)]; exact this
    · rcases ownOld b hb with h | h
      · exact rD.offK b o h hk
      · exact big b o (Nat.le_of_lt h) (r.top _ _ hk)
  obtain ⟨zi, oi, fsi, gi, hdi⟩ := P.here _ _ _ a0
  have iD : it ≠ D := fun e1 => nD _ (e1 ▸ gi)
  have ilt : it < D := by have := Heap.lt_size gi; rwa [hD] at this
  have ioC : ¬ own (ce e scope cl (D + 1)) it := fun h => by
    rcases ownOld it h with h | h
    · exact io h
    · exact absurd h (Nat.not_lt.mpr (Nat.le_of_lt ilt))
  have a1 : At 0 (σ.set D (.list [])) h1 := P.keep _ _ _ _ _ a0 fun b o g z _ => ⟨k1 b o g, by rw [Sg.set_ne _ _ (fun (e1 : b = D) => nD o (e1 ▸ g))]; exact z⟩
  have more : ∀ m, ∀ a m', σ a = some m' → (σ.set D m) a = some m' := fun m => set_more zD
  have loop : codeAny (model prog w) A (.compLoop (.ListComp elt [⟨.Name x px, iter, ifs, 0⟩] scope pos) 0 (.ref it) (.ref D) (ce e scope cl (D + 1))) (RR (.ref D) (D + 1)) { s with heap := h1 } := by
    obtain ⟨I, hI1, hI2⟩ := hideI (fun (n : Nat) (s' : Shared) => ∃ i, n = xs.length - i ∧ i ≤ xs.length ∧ RepF prog w K (flOf A) (ce e scope cl (D + 1)) fc (σ.set D (.list (((xs.take i).filter p).map f))) s' ∧ Moved it s s' ∧ At i (σ.set D (.list (((xs.take i).filter p).map f))) s'.heap)
    refine codeAny_compLoop_tests I (fun n s₁ h₁ => ?_) xs.length (hI1 _ _ ⟨0, rfl, Nat.zero_le _, by simpa using rC, ⟨fun b o _ g => k1 b o g, rfl, rfl⟩, by simpa using a1⟩)
    obtain ⟨i, rfl, hi, r1, m1, a1⟩ := hI2 _ _ h₁
    generalize hσ : σ.set D (.list (((xs.take i).filter p).map f)) = σ₁ at r1 a1
    have mo : ∀ a m, σ a = some m → σ₁ a = some m := hσ ▸ more _
    have hσD : σ₁ D = some (.list (((xs.take i).filter p).map f)) := by rw [← hσ, Sg.set_same]
    obtain ⟨zi1, o1, fs1, g1, hd1⟩ := P.here _ _ _ a1
    have nseq : ∀ its n, o1.data ≠ .seq its n := fun its n e1 => by rw [hd1] at e1; cases e1
    rcases Nat.lt_or_ge i xs.length with hlt | hge
    · have hxi : xs[i]? = some xs[i] := by simp [hlt]
      refine wpAny_mono (P.item i σ₁ s₁ _ r1.toRep (c0 _ mo) a1 hxi) (fun rr s₂ hzz => ?_) fun _ _ z => z.elim
      obtain ⟨u, e1, m2, a2, ru⟩ := hzz
      subst e1
      obtain ⟨r2, v2⟩ := r1.moved zi1 ioC iK (notFl_fields r1.toRep g1 hd1) g1 nseq m2
      refine wpAny_assign_Name (wpAny_mono (r2.storeX hfe ru (nameOk_or (k.tgt _)) (Q := fun _ s' => RepF prog w K (flOf A) (ce e scope cl (D + 1)) (setv fc x xs[i]) σ₁ s' ∧ Step (own (ce e scope cl (D + 1))) σ₁ s₂ σ₁ s' ∧ ∃ a, D < a ∧ ∀ b o, b ≠ a → s₂.heap.get? b = some o → s'.heap.get? b = some o) fun s' p' q' _ ⟨a, ha, ka⟩ => ⟨p', q', a, ?_, ka⟩) (fun _ s₃ ⟨r3, t3, a', ha', k3⟩ => ?_) fun _ _ z => z.elim)
      · rcases ha with ⟨rfl, _⟩ | ⟨h1, h2⟩
        · exact Nat.lt_succ_self D
        · exact Nat.lt_trans (Nat.lt_succ_self D) (k.tgtc _ _ h1 h2)
      · have m3 : Moved it s s₃ := ⟨fun b o hb g => k3 b o (fun e1 => big b o (e1 ▸ Nat.le_of_lt ha') g) (m2.keep b o hb (m1.keep b o hb g)), t3.os.trans (m2.os.trans m1.os), t3.gens.trans (m2.gens.trans m1.gens)⟩
        have a3 : At (i + 1) σ₁ s₃.heap := P.keep _ _ _ _ _ a2 fun b o g z hb => by
          rcases hb with rfl | ⟨c, its, n, rfl⟩
          · obtain ⟨_, o5, fs5, g5, d5⟩ := P.here _ _ _ a2
            rw [g5] at g; cases g
            exact t3.keep _ _ g5 z ioC (FrO.fields d5)
          · exact t3.keep _ _ g z (r2.notOwn g) FrO.seq
        have back : ∀ {s₅ : Shared} {σ₅ : Sg}, RepF prog w K (flOf A) (ce e scope cl (D + 1)) (setv fc x xs[i]) σ₅ s₅ → RepF prog w K (flOf A) (ce e scope cl (D + 1)) fc σ₅ s₅ := fun r5 => r5.sub fun z y hz => by
          rw [lookup_setv]
          by_cases q : (z == x) = true
          · rw [eq_of_beq q, k.capx] at hz; cases hz
          · rw [if_neg q]; exact hz
        have tk : xs.take (i + 1) = xs.take i ++ [xs[i]] := by rw [List.take_add_one, hxi]; rfl
        refine wpAny_mono (ht σ₁ _ hfe mo i _ hxi s₃ r3) (fun ok s₄ hzz => ?_) fun _ _ z => z.elim
        obtain ⟨x4, e1⟩ := hzz
        subst e1
        have m4 : Moved it s s₄ := ⟨fun b o hb g => x4.keep b o (m3.keep b o hb g), x4.os.trans m3.os, x4.gens.trans m3.gens⟩
        have a4 : At (i + 1) σ₁ s₄.heap := P.keep _ _ _ _ _ a3 fun b o g z _ => ⟨x4.keep b o g, z⟩
        cases hp : p xs[i] with
        | false =>
          simp only [Bool.false_eq_true, if_false]
          refine ⟨xs.length - (i + 1), Nat.sub_lt_sub_left hlt (Nat.lt_succ_self _), hI1 _ _ ⟨i + 1, rfl, hlt, ?_, m4, ?_⟩⟩
          · rw [tk, List.filter_append, List.filter_cons_of_neg (by simp [hp]), List.filter_nil, List.append_nil, hσ]; exact back (r3.ext x4)
          · rw [tk, List.filter_append, List.filter_cons_of_neg (by simp [hp]), List.filter_nil, List.append_nil, hσ]; exact a4
        | true =>
          simp only [if_true]
          refine wpAny_mono (hx σ₁ _ hfe mo i _ hxi hp s₄ (r3.ext x4)) (fun v s₅ hzz => ?_) fun _ _ z => z.elim
          obtain ⟨x5, rv⟩ := hzz
          have r5 := back ((r3.ext x4).ext x5)
          have a5 : At (i + 1) σ₁ s₅.heap := P.keep _ _ _ _ _ a4 fun b o g z _ => ⟨x5.keep b o g, z⟩
          have hl : (((xs.take i).filter p).map f).length ≤ 1000 := by
            rw [List.length_map]
            have h1 := List.length_filter_le p (xs.take i)
            exact Nat.le_trans h1 (Nat.le_trans (List.length_take_le i xs) (Nat.le_trans (Nat.le_of_lt hlt) hn))
          obtain ⟨its, n, gl, ql⟩ := r5.objs _ _ hσD
          have hs := ql.size
          obtain ⟨r6, t6⟩ := r5.updList (f := (·.push v)) (tk := s₅.toks) hσD gl (ys := ((xs.take i).filter p).map f ++ [f xs[i]]) (ql.push rv)
          refine call_met F.slot_list_append F.entry_list_append ⟨_, gl, rfl⟩ (F.args_list_append_2 _ _) (list_append D its n v (by rw [big_line]; omega)) ⟨gl, xs.length - (i + 1), Nat.sub_lt_sub_left hlt (Nat.lt_succ_self _), hI1 _ _ ⟨i + 1, rfl, hlt, ?_, ⟨fun b o hb g => ?_, x5.os.trans m4.os, x5.gens.trans m4.gens⟩, ?_⟩⟩
          · rw [tk, List.filter_append, List.filter_cons_of_pos hp, List.filter_nil, List.map_append, List.map_cons, List.map_nil, ← Sg.set_set σ D (.list (((xs.take i).filter p).map f)), hσ]; exact r6
          · exact (Heap.get?_update_other _ _ (fun (e1 : D = b) => nD o (e1.symm ▸ g))).trans (x5.keep b o (m4.keep b o hb g))
          · rw [tk, List.filter_append, List.filter_cons_of_pos hp, List.filter_nil, List.map_append, List.map_cons, List.map_nil, ← Sg.set_set σ D (.list (((xs.take i).filter p).map f)), hσ]
            exact P.keep _ _ _ _ _ a5 fun b o g z _ => by
              have : b ≠ D := fun e1 => by rw [e1, hσD] at z; cases z
              exact ⟨(Heap.get?_update_other _ _ (Ne.symm this)).trans g, Sg.set_none' _ this z⟩
    · have hi' : i = xs.length := by omega
      subst hi'
      refine wpAny_mono (P.done σ₁ s₁ r1.toRep (c0 _ mo) a1) (fun rr s₂ hzz => ?_) fun _ _ z => z.elim
      obtain ⟨e1, m2⟩ := hzz
      subst e1
      obtain ⟨r2, v2⟩ := r1.moved zi1 ioC iK (notFl_fields r1.toRep g1 hd1) g1 nseq m2
      obtain ⟨its, n, gl, ql⟩ := r2.objs _ _ hσD
      rw [List.take_length] at ql
      refine hRR D (D + 1) s₂ nD nL (Nat.ne_of_lt (Nat.lt_succ_self _)) (let ⟨m, hm, _⟩ := r2.loc; ⟨m, hm⟩) ⟨fun b o hb g => m2.keep b o hb (m1.keep b o hb g), m2.os.trans m1.os, m2.gens.trans m1.gens⟩ ⟨D, its, n, rfl, zD, gl, ?_⟩
      refine ql.mono fun b c its n g z => ⟨g, ?_⟩
      by_cases e1 : b = D
      · rw [e1, hσD] at z; cases z
      · rw [← hσ, Sg.set_ne _ _ e1] at z; exact z
  exact codeAny_compStart_list loop (wpAny_mono (P.self 0 _ { s with heap := h1 } a1) (fun v s' ⟨e1, e2⟩ => by subst e1 e2; exact loop) fun _ _ z => z.elim)
end
end Mine

end
section
open PySem PySem.W PyProof.Rows
namespace Mine

section
variable {prog : Program} {w : World} {K : Frag} {A : Around} {e : Env} {fr : Vars} {σ σ' : Sg} {s s' : Shared}

theorem ns_notSeq {h : Heap} {L : Addr} {m : Str → Option Value} (hn : h.Ns L m) : ∃ o, h.get? L = some o ∧ ∀ its n, o.data ≠ .seq its n := by
  obtain ⟨o, es, ep, g, d, _⟩ := hn
  exact ⟨o, g, fun its n e => by rw [d] at e; cases e⟩
theorem VR.same {h h' : Heap} {L : Addr} {y : MV} {v : Value} (r : VR h σ y v) {o : Obj} (g : h.get? L = some o) (ho : ∀ its n, o.data ≠ .seq its n) (hs : Heap.SameBut L h h') : VR h' σ y v :=
  r.mono fun a c its n ga z => ⟨hs.extBut a _ (fun e => by rw [e, g] at ga; cases ga; exact ho _ _ rfl) ga, z⟩

theorem compPos {elt target iter : Expr} {ifs : List Expr} {a : Nat} {scope : Scope} {pos : Pos} : clausesOf (.ListComp elt [⟨target, iter, ifs, a⟩] scope pos) = [⟨target, iter, ifs, a⟩] := rfl

/-- one that changes nothing -/
theorem Ep_comp {elt iter : Expr} {x : Str} {px : Pos} {ifs : List Expr} {scope : Scope} {cl : List (Str × Addr)} {pos : Pos} {fc : Vars} {xs : List MV} {C : Sg → Prop} (p : MV → Bool) (f : MV → MV) (he : FrE e) (k : CompOk e scope cl x fr fc)
    (hs : SrcP prog w K A e fr σ iter xs C) (hn : xs.length ≤ 1000) (hC : ∀ σ', (∀ a m, σ a = some m → σ' a = some m) → C σ')
    (ht : ∀ σ' L, FrE (ce e scope cl L) → (∀ a m, σ a = some m → σ' a = some m) → ∀ (i : Nat) (y : MV), xs[i]? = some y → TestsP prog w K A (ce e scope cl L) (setv fc x y) σ' ifs (p y))
    (hx : ∀ σ' L, FrE (ce e scope cl L) → (∀ a m, σ a = some m → σ' a = some m) → ∀ (i : Nat) (y : MV), xs[i]? = some y → p y = true → EP prog w K A (ce e scope cl L) (setv fc x y) σ' elt (f y))
    (hf : ∀ v, foldedSetIterable iter e v = pure v := by intro _; rfl) : EP prog w K A e fr σ (.ListComp elt [⟨.Name x px, iter, ifs, 0⟩] scope pos) (.lst ((xs.filter p).map f)) := fun s r => by
  show wpAny _ _ (eval _ e) _ _ _
  rw [eval_ListComp]
  refine wpAny_comprehension_free (use := none) compPos hf k.clos k.kind k.names (wpAny_mono (hs s r) (fun v s₁ h₁ => wpAny_mono h₁ (fun rr s₂ hzz => ?_) fun _ _ z => z.elim) fun _ _ z => z.elim)
  obtain ⟨it, At, e1, hit, x2, P, a0, c0⟩ := hzz
  subst e1
  have r2 := r.ext x2
  refine comp_core (RR := fun acc L => compPost (model prog w) A _ none _ acc L) he k hn r2 P a0 hC (fresh_own r hit) (fresh_K r.toRep hit) ht hx fun D L s' hD hL hDL ⟨m, hm⟩ mv rv => ⟨m, hm, fun h' hs' => ?_⟩
  obtain ⟨oL, gL, nL⟩ := ns_notSeq hm
  exact ⟨⟨fun b o g => hs'.extBut b o (fun e1 => hL o (e1 ▸ x2.keep _ _ g)) (mv.keep b o (fun e1 => hit o (e1 ▸ g)) (x2.keep _ _ g)), mv.os.trans x2.os, mv.gens.trans x2.gens⟩, rv.same gL nL hs'⟩

/-- y = [...] where y is a local name: the store comes before the comprehension's own names are let go -/
theorem Ex_assignC {elt iter : Expr} {x y : Str} {px py : Pos} {ifs : List Expr} {scope : Scope} {cl : List (Str × Addr)} {pos spos : Pos} {fc : Vars} {R : MF → Vars → Sg → Prop} (he : FrE e) (k : CompOk e scope cl x fr fc) (hy : e.kindOf y = some .local)
    (hs : Src prog w K A e fr σ iter fun xs C σ₁ => ∃ (p : MV → Bool) (f : MV → MV), xs.length ≤ 1000 ∧ (∀ σ', (∀ a m, σ₁ a = some m → σ' a = some m) → C σ') ∧
      (∀ σ' L, FrE (ce e scope cl L) → (∀ a m, σ₁ a = some m → σ' a = some m) → ∀ (i : Nat) (y : MV), xs[i]? = some y → TestsP prog w K A (ce e scope cl L) (setv fc x y) σ' ifs (p y)) ∧
      (∀ σ' L, FrE (ce e scope cl L) → (∀ a m, σ₁ a = some m → σ' a = some m) → ∀ (i : Nat) (y : MV), xs[i]? = some y → p y = true → EP prog w K A (ce e scope cl L) (setv fc x y) σ' elt (f y)) ∧ R .next (setv fr y (.lst ((xs.filter p).map f))) σ₁)
    (hsw : swapsWith (.ListComp elt [⟨.Name x px, iter, ifs, 0⟩] scope pos) (some (.Name y py)) spos.line e = pure true := by rfl)
    (hf : ∀ v, foldedSetIterable iter e v = pure v := by intro _; rfl) : E1 prog w K A e fr σ (.Assign [.Name y py] (.ListComp elt [⟨.Name x px, iter, ifs, 0⟩] scope pos) spos) R := fun s r => by
  show wpAny _ _ (exec _ e) _ _ _
  rw [exec_Assign_Name_used _ _ _ _ hsw]
  refine wpAny_bind (wpAny_standAt (wpAny_bind ?_))
  show wpAny _ A (do let _ ← comprehension (.ListComp elt [⟨.Name x px, iter, ifs, 0⟩] scope pos) scope e _ (newList []) false (eval iter e) (some (assign (.Name y py) e))) _ _ s
  refine wpAny_bind (wpAny_mono (wpAny_comprehension_free (use := some (assign (.Name y py) e)) (Q := fun _ s' => ∃ f' fr' σ', RepF prog w K (flOf A) e fr' σ' s' ∧ Step (own e) σ s σ' s' ∧ FlR s'.heap σ' f' .next ∧ R f' fr' σ') compPos hf k.clos k.kind k.names
    (wpAny_mono (hs s r) (fun v s₁ h₁ => wpAny_mono h₁ (fun rr s₂ hh => ?_) fun _ _ z => z.elim) fun _ _ z => z.elim)) (fun _ s' hq => wpAny_pure (wpAny_pure hq)) fun _ _ z => z)
  obtain ⟨it, At, xs, C, σ₁, e1, hit, r2, t2, io, iK, P, a0, c0, p, f, hn, hC, ht, hx, hR⟩ := hh
  subst e1
  obtain ⟨zi, oi, fsi, gi, hdi⟩ := P.here _ _ _ a0
  refine comp_core (RR := fun acc L => compPost (model prog w) A _ (some (assign (.Name y py) e)) _ acc L) he k hn r2 P a0 hC io iK ht hx fun D L s' hD hL hDL ⟨m, hm⟩ mv rv => ?_
  obtain ⟨r3, _⟩ := r2.moved zi io iK (notFl_fields r2.toRep gi hdi) gi (fun its n e1 => by rw [hdi] at e1; cases e1) mv
  show wpAny _ A (assign (.Name y py) e (.ref D)) _ _ s'
  refine wpAny_assign_Name (wpAny_mono (r3.storeX he rv (.inl hy) (Q := fun _ s₄ => RepF prog w K (flOf A) e (setv fr y (.lst ((xs.filter p).map f))) σ₁ s₄ ∧ Step (own e) σ₁ s' σ₁ s₄ ∧ ∀ b o, b ≠ e.locals → s'.heap.get? b = some o → s₄.heap.get? b = some o) fun s₄ r4 t4 _ ⟨a, ha, ka⟩ => ⟨r4, t4, ?_⟩) (fun _ s₄ ⟨r4, t4, k4⟩ => ?_) fun _ _ z => z.elim)
  · rcases ha with ⟨rfl, _⟩ | ⟨h1, _⟩
    · exact ka
    · rw [hy] at h1; cases h1
  · have loc2 : ∃ o, s₂.heap.get? e.locals = some o := by obtain ⟨f, ⟨o, _, _, g, _⟩, _⟩ := r2.loc; exact ⟨o, g⟩
    obtain ⟨oL2, gL2⟩ := loc2
    have hLL : L ≠ e.locals := fun e1 => hL _ (e1 ▸ gL2)
    have hm4 : s₄.heap.Ns L m := by
      obtain ⟨o, es, ep, g, q⟩ := hm
      exact ⟨o, es, ep, k4 L o hLL g, q⟩
    obtain ⟨oL, gL, nL⟩ := ns_notSeq hm4
    refine ⟨m, hm4, fun h' hs' => ?_⟩
    have zL : σ₁ L = none := fresh_none r2.toRep hL
    have oLn : ¬ own e L := fresh_own r2 hL
    obtain ⟨r5, _⟩ := r4.moved (s' := { s₄ with heap := h' }) zL oLn (fresh_K r2.toRep hL) (notFl_fresh r2.toRep hL) gL nL ⟨fun b o hb g => hs'.extBut b o hb g, rfl, rfl⟩
    have k5 : ∀ a o o2, s.heap.get? a = some o → σ a = none → ¬ own e a → s₂.heap.get? a = some o2 → σ₁ a = none → h'.get? a = some o2 ∨ (FrO o2 ∧ ∃ sl, h'.get? a = some { o2 with slots := sl }) := fun a o o2 g z q h2 z2 => by
      have h3 := mv.keep a o2 (fun e1 => q (e1 ▸ hit o (e1 ▸ g) (e1 ▸ z))) h2
      by_cases hF : FrO o2
      · obtain ⟨_, sl, h4⟩ := t4.fr a o2 h3 z2 q hF
        exact .inr ⟨hF, sl, hs'.extBut a _ (fun e1 => hL _ (e1 ▸ h2)) h4⟩
      · exact .inl (hs'.extBut a o2 (fun e1 => hL _ (e1 ▸ h2)) (t4.keep a o2 h3 z2 q hF).1)
    refine ⟨.next, _, σ₁, r5, ⟨fun a o g z q nf => ?_, fun a o g z q hF => ?_, t4.os.trans (mv.os.trans t2.os), t4.gens.trans (mv.gens.trans t2.gens)⟩, rfl, hR⟩
    · obtain ⟨h1, h2⟩ := t2.keep a o g z q nf
      rcases k5 a o o g z q h1 h2 with h | ⟨h, _⟩
      · exact ⟨h, h2⟩
      · exact absurd h nf
    · obtain ⟨h1, sl, h2⟩ := t2.fr a o g z q hF
      rcases k5 a o _ g z q h2 h1 with h | ⟨_, sl', h⟩
      · exact ⟨h1, sl, h⟩
      · exact ⟨h1, sl', h⟩
end
end Mine

end
section
open PySem PySem.W PyProof.Rows
namespace Mine

noncomputable def topS (i : Nat) : Stmt := PySem.Challenge.pw_il0019_01.main.body[i]?.getD (.Pass ⟨0, 0, 0, 0⟩)
noncomputable def inCls (s : Stmt) (j : Nat) : Stmt := match s with
  | .ClassDef _ _ _ b .. => b[j]?.getD (.Pass ⟨0, 0, 0, 0⟩)
  | s => s
noncomputable def fB : Stmt → List Stmt
  | .FunctionDef _ _ b .. => b
  | _ => []
noncomputable def fA : Stmt → Arguments
  | .FunctionDef _ a .. => a
  | _ => ⟨[], [], none, [], [], none, []⟩
noncomputable def fS : Stmt → Scope
  | .FunctionDef _ _ _ _ _ _ s .. => s
  | _ => ⟨.function, [], false, false, []⟩

noncomputable def parsOk (scope : Scope) (xs : List Str) : Bool :=
  decide xs.Nodup && (xs.all fun x => match scope.names.lookup x with | some .local => true | some .cell => ((cellsFrom 0 scope.names []).lookup x).isSome | _ => false) && decide ((cellsFrom 0 scope.names []).map (·.1)).Nodup

section
variable {prog : Program} {w : World} {K : Frag} {A : Around} {σ : Sg}

theorem zip_all {β : Type} {q : Str → Bool} : ∀ {xs : List Str} {ys : List β}, xs.all q = true → ((xs.zip ys).all fun x => q x.1) = true
  | [], _, _ => rfl
  | x :: xs, [], _ => rfl
  | x :: xs, y :: ys, h => by
    rw [List.all_cons, Bool.and_eq_true] at h
    rw [List.zip_cons_cons, List.all_cons, Bool.and_eq_true]
    exact ⟨h.1, zip_all h.2⟩

/-- a call of a def that takes each argument by its place -/
theorem Fn_posF {n : Nat} {f : Addr} {params : Arguments} {body : List Stmt} {scope : Scope} {ys : List MV} {R : MV → Sg → Prop} (KO : KOk K) (D : DefAt K f params body scope .none) (xs : List Str) (hxs : parsOk scope xs = true) (hl : ys.length = xs.length)
    (hb : ∀ (name qual : Str) kV doc pm an cdv ct, ∀ vs : List Value, vs.length = xs.length → bindArgs (fnOf name qual params body scope .none kV doc pm an cdv ct) ⟨vs, []⟩ = pure (xs.zip vs))
    (h : ∀ L q cdv A, AOK n A → A.handled = none → (∃ l, A.frames = some (fe scope L q f cdv :: l)) → EX prog w K A (fe scope L q f cdv) (xs.zip ys) σ body (Back R))
    (hco : scope.isCoroutine = false := by rfl) (hgen : scope.isGenerator = false := by rfl) (hk : scope.kind = .function := by rfl) : Fn prog w K (n + 1) (.ref f) ys σ R := by
  unfold parsOk at hxs
  rw [Bool.and_eq_true, Bool.and_eq_true, decide_eq_true_iff, decide_eq_true_iff] at hxs
  refine Fn_defF KO D (fun name qual kV doc pm an cdv ct => bindsX_pos hl (hb name qual kV doc pm an cdv ct)) ?_ (zip_all hxs.1.2) hxs.2 h hco hgen hk
  rw [List.map_fst_zip (by omega)]
  exact hxs.1.1

/-- a call of a def that takes each argument by its place -/
theorem Fn_pos {n : Nat} {f : Addr} {params : Arguments} {body : List Stmt} {scope : Scope} {ys : List MV} {R : MV → Sg → Prop} (KO : KOk K) (D : DefAt K f params body scope .none) (xs : List Str) (hxs : parsOk scope xs = true) (hl : ys.length = xs.length)
    (hb : ∀ (name qual : Str) kV doc pm an cdv ct, ∀ vs : List Value, vs.length = xs.length → bindArgs (fnOf name qual params body scope .none kV doc pm an cdv ct) ⟨vs, []⟩ = pure (xs.zip vs))
    (h : ∀ L q cdv A, AOK n A → A.handled = none → EX prog w K A (fe scope L q f cdv) (xs.zip ys) σ body (Back R))
    (hco : scope.isCoroutine = false := by rfl) (hgen : scope.isGenerator = false := by rfl) (hk : scope.kind = .function := by rfl) : Fn prog w K (n + 1) (.ref f) ys σ R := by
  unfold parsOk at hxs
  rw [Bool.and_eq_true, Bool.and_eq_true, decide_eq_true_iff, decide_eq_true_iff] at hxs
  refine Fn_def KO D (fun name qual kV doc pm an cdv ct => bindsX_pos hl (hb name qual kV doc pm an cdv ct)) ?_ (zip_all hxs.1.2) hxs.2 h hco hgen hk
  rw [List.map_fst_zip (by omega)]
  exact hxs.1.1

theorem Ex.sub {e : Env} {fr fr' : Vars} {t : Sem Flow} {R : MF → Vars → Sg → Prop} (h : SubL fr' fr) (H : Ex prog w K A e fr' σ t R) : Ex prog w K A e fr σ t R :=
  fun s r => H s (r.sub fun _ _ q => h.lookup q)

noncomputable def fnOk (K : Frag) (a : Addr) (s : Stmt) : Prop := DefAt K a (fA s) (fB s) (fS s) .none ∧ keepIn K (.ref a) = true
noncomputable def glb (K : Frag) (x : Str) (y : MV) : Prop := ∃ v, gl K x = some v ∧ VC y v
theorem Ep_glb {e : Env} {fr : Vars} {x : Str} {pos : Pos} {y : MV} (hg : glb K x y) (he : FrE e) (hl : e.kindOf x = some .globalImplicit) (hd : (x == ("__debug__" : Str)) = false) : EP prog w K A e fr σ (.Name x pos) y :=
  let ⟨_, h1, h2⟩ := hg; Ep_global he hl h1 h2 hd

/-- f(args) where f is a def of the text's -/
theorem Ev_fn {e : Env} {fr : Vars} {func : Expr} {args : List Expr} {pos : Pos} {a : Addr} {n : Nat} {R : MV → Sg → Prop} (hf : EP prog w K A e fr σ func (.ref a)) (hk : keepIn K (.ref a) = true) (ha : AOK n A) (hh : A.handled = none)
    (h : Evs prog w K A e fr σ args fun ys σ₁ => Fn prog w K n (.ref a) ys σ₁ R)
    (hp : (starEach args e).any (·.1) = false := by rfl)
    (hc : eval (.Call func args [] pos) e = (do callWith pos (← eval func e) [] (backTo pos (starEach args e)) (backToKw pos (keywordEach [] e))) := by rfl) : Ev prog w K A e fr σ (eval (.Call func args [] pos) e) R :=
  Ev_call (n := n) hf (fun _ _ _ r => r) (keepsOk_K hk) (fun pos s r => wpAny_mono (h pos s r) (fun _ _ ⟨ys, σ', p, q, rs, F⟩ => ⟨ys, σ', p, q, rs, fun _ _ r' rs' => F.ev ha hh r' rs'⟩) fun _ _ z => z) hp hc

theorem Fn.mono {n : Nat} {f : Value} {ys : List MV} {R R' : MV → Sg → Prop} (h : Fn prog w K n f ys σ R) (hR : ∀ y σ', R y σ' → R' y σ') : Fn prog w K n f ys σ R' := fun A s vs ha hh r rs =>
  codeAny_mono (h A s vs ha hh r rs) fun _ _ ⟨v, y, σ', e1, p, q, rv, hr⟩ => ⟨v, y, σ', e1, p, q, rv, hR _ _ hr⟩
theorem Fn.le {n m : Nat} {f : Value} {ys : List MV} {R : MV → Sg → Prop} (h : Fn prog w K n f ys σ R) (hm : n ≤ m) : Fn prog w K m f ys σ R := fun A s vs ha hh r rs => h A s vs (ha.le hm) hh r rs

theorem Ep.to {e : Env} {fr : Vars} {t : Sem Value} {y y' : MV} (h : Ep prog w K A e fr σ t y) (q : y = y') : Ep prog w K A e fr σ t y' := q ▸ h
theorem Tp.to {e : Env} {fr : Vars} {t : Sem Bool} {b c : Bool} (h : Tp prog w K A e fr σ t b) (q : b = c) : Tp prog w K A e fr σ t c := q ▸ h
/-- a statement that goes on, to frames and stores that P knows -/
theorem Ex_to {e : Env} {fr : Vars} {t : Sem Flow} {R : MF → Vars → Sg → Prop} (P : Vars → Sg → Prop) (h : Ex prog w K A e fr σ t fun f fr' σ' => f = .next ∧ ∃ mid, P mid σ' ∧ SubL mid fr') (h3 : ∀ mid σ', P mid σ' → R .next mid σ') : Ex prog w K A e fr σ t R := fun s r =>
  wpAny_mono (h s r) (fun f s' ⟨f', fr', σ', p, q, rf, e1, mid, hP, hs⟩ => by
    subst e1
    exact ⟨.next, mid, σ', p.sub fun _ _ z => hs.lookup z, q, rf, h3 _ _ hP⟩) fun _ _ z => z

/-- a method of a built-in type's object that changes nothing -/
theorem Ep_bmeth {e : Env} {fr : Vars} {o : Expr} {name : Str} {args : List Expr} {pos apos : Pos} {a : MV} {ys : List MV} {c : MV} {T id : String} (ho : EP prog w K A e fr σ o a)
    (hT : ∀ s v, Rep prog w K (flOf A) σ s → VR s.heap σ a v → s.TypeIs v T ∧ ∀ b, v = .ref b → ∃ ob, s.heap.get? b = some ob ∧ ob.dict = none) (pa : PlainAttrs T) (slot : Slot T name id) (hty : typeOf (.builtin id) = pure (.type "method_descriptor"))
    (h : EPs prog w K A e fr σ args ys) (oc : OC prog w K A σ (.builtin id) (a :: ys) c)
    (hp : (starEach args e).any (·.1) = false := by rfl) (hbase : attributeBase o name e (eval o e) = eval o e := by rfl)
    (hfew : methodCallForm (args.length + ([] : List Keyword).length) (backTo pos (starEach args e)) (backToKw pos (keywordEach [] e)) = true := by rfl) (hline : (apos.endLine == pos.line) = true := by rfl) :
    EP prog w K A e fr σ (.Call (.Attribute o name apos) args [] pos) c := fun s r => by
  show wpAny _ _ (eval _ e) _ _ _
  rw [arm_eval_Call, hbase]
  refine wpAny_bind (wpAny_mono (ho s r) (fun v s₁ hzz => ?_) fun _ _ f => f)
  obtain ⟨p, rv⟩ := hzz
  have r1 := r.ext p
  have hpos : methodCallPos true o e apos pos = pure pos := by unfold methodCallPos; simp [hline]
  refine wpAny_bind (wpAny_standAt ?_)
  unfold methodCall
  rw [hfew]
  refine wpAny_bind (wpAny_holding (getMethod_builtin (hT _ _ r1.toRep rv).1 pa slot hty (hT _ _ r1.toRep rv).2 ?_))
  dsimp only
  rw [hpos]
  refine wpAny_bind (wpAny_pure ?_)
  have hp' : (backTo pos (starEach args e)).any (·.1) = false := by unfold backTo; rw [List.any_map]; exact hp
  refine callWith_of (P := K.In) (by rw [hp']; rfl) (fun h' X => keepsOk_builtin _ h' X) (evalArgs_any hp' ?_)
  refine wpAny_mono (h pos s₁ r1) (fun vs s₂ ⟨p2, rs⟩ => ⟨(r1.ext p2).top, ?_⟩) fun _ _ f => f
  exact wpAny_mono (oc s₂ (v :: vs) (r1.ext p2).toRep (.cons (rv.ext p2.keep) rs)) (fun _ _ ⟨p3, rc⟩ => ⟨(p.trans p2).trans p3, rc⟩) fun _ _ f => f

theorem LV.isT {a : MV} {xs : List MV} (l : LV σ a xs) (s : Shared) (v : Value) (r : Rep prog w K (flOf A) σ s) (rv : VR s.heap σ a v) : s.TypeIs v "list" ∧ ∀ b, v = .ref b → ∃ ob, s.heap.get? b = some ob ∧ ob.dict = none := by
  obtain ⟨b, its, n, rfl, g, _⟩ := l.at r rv
  exact ⟨⟨_, g, rfl⟩, fun b' e => by cases e; exact ⟨_, g, rfl⟩⟩
/-- a method of a list -/
theorem Ev_lm {e : Env} {fr : Vars} {o : Expr} {name : Str} {args : List Expr} {pos apos : Pos} {a : MV} {xs : List MV} {id : String} {R : MV → Sg → Prop} (ho : EP prog w K A e fr σ o a) (l : LV σ a xs) (slot : Slot "list" name id) (hty : typeOf (.builtin id) = pure (.type "method_descriptor"))
    (h : Evs prog w K A e fr σ args fun ys σ₁ => MC prog w K A e fr σ₁ id (a :: ys) R)
    (hp : (starEach args e).any (·.1) = false := by rfl) (hbase : attributeBase o name e (eval o e) = eval o e := by rfl)
    (hfew : methodCallForm (args.length + ([] : List Keyword).length) (backTo pos (starEach args e)) (backToKw pos (keywordEach [] e)) = true := by rfl) (hline : (apos.endLine == pos.line) = true := by rfl) :
    Ev prog w K A e fr σ (eval (.Call (.Attribute o name apos) args [] pos) e) R :=
  Ev_bmeth ho l.isT F.plainAttrs_list slot hty (fun pos s r => wpAny_mono (h pos s r) (fun _ _ ⟨ys, σ', p, q, rs, M⟩ => ⟨ys, σ', p, q, rs, fun s va vs r' rv rs' => M s (va :: vs) r' (.cons rv rs')⟩) fun _ _ z => z) hp hbase hfew hline
theorem Ev_append {e : Env} {fr : Vars} {o x : Expr} {pos apos : Pos} {R : MV → Sg → Prop} {a : Addr} (ho : EP prog w K A e fr σ o (.ref a)) {ys : List MV} (ha : σ a = some (.list ys))
    (h : Ev prog w K A e fr σ (eval x e) fun y σ₁ => ∃ xs, σ₁ a = some (.list xs) ∧ xs.length ≤ 10000 ∧ R .none (σ₁.set a (.list (xs ++ [y]))))
    (hst : starEach [x] e = (false, eval x e) :: starEach [] e := by rfl)
    (hp : (starEach [x] e).any (·.1) = false := by rfl) (hbase : attributeBase o "append" e (eval o e) = eval o e := by rfl)
    (hfew : methodCallForm ([x].length + ([] : List Keyword).length) (backTo pos (starEach [x] e)) (backToKw pos (keywordEach [] e)) = true := by rfl) (hline : (apos.endLine == pos.line) = true := by rfl) :
    Ev prog w K A e fr σ (eval (.Call (.Attribute o "append" apos) [x] [] pos) e) R :=
  Ev_lm ho (.ref ha) F.slot_list_append F.type_list_append (Evs_cons (h.mono fun _ _ ⟨_, h1, h2, h3⟩ => Evs_nil (MC_append h1 h2 h3)) hst) hp hbase hfew hline
/-- a post told by a name -/
theorem hideQ {α : Type} {M : Model} {A : Around} {t : Sem α} {Q : α → Shared → Prop} {E : Value → Shared → Prop} {s : Shared} (h : ∀ Q' : α → Shared → Prop, (∀ v s', Q v s' → Q' v s') → wpAny M A t Q' E s) : wpAny M A t Q E s := h Q fun _ _ h => h
theorem hideR {M : Model} {A : Around} {c : Code} {R : Result → Shared → Prop} {s : Shared} (h : ∀ R' : Result → Shared → Prop, (∀ v s', R v s' → R' v s') → codeAny M A c R' s) : codeAny M A c R s := h R fun _ _ h => h
theorem EX_post {e : Env} {fr : Vars} {body : List Stmt} {R : MV → Sg → Prop} (h : ∀ Q : MF → Vars → Sg → Prop, (∀ y fr' σ', R y σ' → Q (.ret y) fr' σ') → (∀ fr' σ', R .none σ' → Q .next fr' σ') → EX prog w K A e fr σ body Q) : EX prog w K A e fr σ body (Back R) :=
  h (Back R) (fun _ _ _ h => h) (fun _ _ h => h)
/-- arguments by their number -/
theorem cons_of {n : Nat} {vs : List Value} (h : vs.length = n + 1) : ∃ a l, vs = a :: l ∧ l.length = n := by
  cases vs with
  | nil => cases h
  | cons a l => exact ⟨a, l, rfl, Nat.succ.inj h⟩
theorem nil_of {vs : List Value} (h : vs.length = 0) : vs = [] := List.length_eq_zero_iff.mp h
theorem len1 {P : List Value → Prop} (h : ∀ a, P [a]) : ∀ vs, vs.length = 1 → P vs := fun vs hv => by
  obtain ⟨a, vs1, rfl, hv1⟩ := cons_of hv
  cases nil_of hv1
  exact h a
theorem len2 {P : List Value → Prop} (h : ∀ a b, P [a, b]) : ∀ vs, vs.length = 2 → P vs := fun vs hv => by
  obtain ⟨a, vs1, rfl, hv1⟩ := cons_of hv
  obtain ⟨b, vs2, rfl, hv2⟩ := cons_of hv1
  cases nil_of hv2
  exact h a b
theorem len3 {P : List Value → Prop} (h : ∀ a b c, P [a, b, c]) : ∀ vs, vs.length = 3 → P vs := fun vs hv => by
  obtain ⟨a, vs1, rfl, hv1⟩ := cons_of hv
  obtain ⟨b, vs2, rfl, hv2⟩ := cons_of hv1
  obtain ⟨c, vs3, rfl, hv3⟩ := cons_of hv2
  cases nil_of hv3
  exact h a b c
theorem len4 {P : List Value → Prop} (h : ∀ a b c d, P [a, b, c, d]) : ∀ vs, vs.length = 4 → P vs := fun vs hv => by
  obtain ⟨a, vs1, rfl, hv1⟩ := cons_of hv
  obtain ⟨b, vs2, rfl, hv2⟩ := cons_of hv1
  obtain ⟨c, vs3, rfl, hv3⟩ := cons_of hv2
  obtain ⟨d, vs4, rfl, hv4⟩ := cons_of hv3
  cases nil_of hv4
  exact h a b c d
theorem len11 {P : List Value → List Value → Prop} (h : ∀ a e, P [a] [e]) : ∀ vs us, vs.length = 1 → us.length = 1 → P vs us := fun vs us hv hu => by
  obtain ⟨a, vs1, rfl, hv1⟩ := cons_of hv
  cases nil_of hv1
  obtain ⟨e, us2, rfl, hu2⟩ := cons_of hu
  cases nil_of hu2
  exact h a e
theorem len12 {P : List Value → List Value → Prop} (h : ∀ a e f, P [a] [e, f]) : ∀ vs us, vs.length = 1 → us.length = 2 → P vs us := fun vs us hv hu => by
  obtain ⟨a, vs1, rfl, hv1⟩ := cons_of hv
  cases nil_of hv1
  obtain ⟨e, us2, rfl, hu2⟩ := cons_of hu
  obtain ⟨f, us3, rfl, hu3⟩ := cons_of hu2
  cases nil_of hu3
  exact h a e f
theorem len20 {P : List Value → List Value → Prop} (h : ∀ a b, P [a, b] []) : ∀ vs us, vs.length = 2 → us.length = 0 → P vs us := fun vs us hv hu => by
  obtain ⟨a, vs1, rfl, hv1⟩ := cons_of hv
  obtain ⟨b, vs2, rfl, hv2⟩ := cons_of hv1
  cases nil_of hv2
  cases nil_of hu
  exact h a b
theorem len21 {P : List Value → List Value → Prop} (h : ∀ a b e, P [a, b] [e]) : ∀ vs us, vs.length = 2 → us.length = 1 → P vs us := fun vs us hv hu => by
  obtain ⟨a, vs1, rfl, hv1⟩ := cons_of hv
  obtain ⟨b, vs2, rfl, hv2⟩ := cons_of hv1
  cases nil_of hv2
  obtain ⟨e, us3, rfl, hu3⟩ := cons_of hu
  cases nil_of hu3
  exact h a b e
theorem len22 {P : List Value → List Value → Prop} (h : ∀ a b e f, P [a, b] [e, f]) : ∀ vs us, vs.length = 2 → us.length = 2 → P vs us := fun vs us hv hu => by
  obtain ⟨a, vs1, rfl, hv1⟩ := cons_of hv
  obtain ⟨b, vs2, rfl, hv2⟩ := cons_of hv1
  cases nil_of hv2
  obtain ⟨e, us3, rfl, hu3⟩ := cons_of hu
  obtain ⟨f, us4, rfl, hu4⟩ := cons_of hu3
  cases nil_of hu4
  exact h a b e f
end
end Mine

end
section
open PySem PySem.W PyProof.Rows
namespace Mine
/-! heaps: the plain part -/
noncomputable abbrev HI := Int × Int × Str
noncomputable def iv (t : HI) : MV := .lst [.int t.1, .int t.2.1, .str t.2.2]
noncomputable def ltI (a b : HI) : Bool := decide (a.1 < b.1) || (a.1 == b.1 && decide (a.2.1 < b.2.1))
theorem ltM_iv {a b : HI} (h : a.2.1 ≠ b.2.1) : ltM [.int a.1, .int a.2.1, .str a.2.2] [.int b.1, .int b.2.1, .str b.2.2] = some (ltI a b) := by
  simp only [ltM, ltI]
  by_cases h1 : a.1 = b.1
  · simp [h1, h]
  · simp [h1]

noncomputable def z0 : HI := (0, 0, ⟨#[]⟩)
noncomputable def at' (X : List HI) (i : Nat) : HI := X[i]?.getD z0
noncomputable def swap (X : List HI) (i j : Nat) : List HI := (X.set i (at' X j)).set j (at' X i)
theorem par_lt {p : Nat} (h : 0 < p) : (p - 1) / 2 < p := Nat.lt_of_le_of_lt (Nat.div_le_self _ _) (Nat.sub_lt h Nat.one_pos)
theorem par_cases {i p : Nat} (h : 0 < i) (e : (i - 1) / 2 = p) : i = 2 * p + 1 ∨ i = 2 * p + 2 := by omega
theorem kid_par {k p : Nat} (h : k = 2 * p + 1 ∨ k = 2 * p + 2) : (k - 1) / 2 = p := by omega
theorem no_kid {p i n : Nat} (h : ¬ 2 * p + 1 < n) (hi : 0 < i) (hil : i < n) : (i - 1) / 2 ≠ p := fun e => (par_cases hi e).elim (fun q => h (q ▸ hil)) fun q => h (Nat.lt_trans (Nat.lt_succ_self _) (q ▸ hil : 2 * p + 2 < n))
noncomputable def sd (X : List HI) (p : Nat) : List HI :=
  if h : 0 < p then
    if ltI (at' X p) (at' X ((p - 1) / 2)) then sd (swap X p ((p - 1) / 2)) ((p - 1) / 2) else X
  else X
termination_by p
decreasing_by exact par_lt h

theorem at_get {X : List HI} {i : Nat} (h : i < X.length) : X[i]? = some (at' X i) := by simp [at', h]
theorem at_map {X : List HI} {i : Nat} (h : i < X.length) : (X.map iv)[i]? = some (iv (at' X i)) := by simp [at', h]
theorem at_set_same {X : List HI} {i : Nat} {v : HI} (h : i < X.length) : at' (X.set i v) i = v := by simp [at', h]
theorem at_set_ne {X : List HI} {i j : Nat} {v : HI} (h : i ≠ j) : at' (X.set i v) j = at' X j := by simp [at', h]
theorem swap_length (X : List HI) (i j : Nat) : (swap X i j).length = X.length := by simp [swap]

theorem set_at {X : List HI} {i : Nat} (h : i < X.length) : X.set i (at' X i) = X := by
  unfold at'; rw [List.getElem?_eq_getElem h]; exact List.set_getElem_self h
theorem Sg.set_id {σ : Sg} {a : Addr} {m : MObj} (h : σ a = some m) : σ.set a m = σ := by
  funext b; unfold Sg.set; split
  · rename_i e; rw [e, h]
  · rfl

/-- the smaller child -/
noncomputable def kid (X : List HI) (p : Nat) : Nat := if decide (2 * p + 2 < X.length) && !ltI (at' X (2 * p + 1)) (at' X (2 * p + 2)) then 2 * p + 2 else 2 * p + 1
theorem kid_gt (X : List HI) (p : Nat) : p < kid X p := by unfold kid; split <;> omega
theorem kid_lt {X : List HI} {p : Nat} (h : 2 * p + 1 < X.length) : kid X p < X.length := by
  unfold kid; split
  · rename_i h1; simp at h1; omega
  · exact h
noncomputable def su (X : List HI) (p : Nat) : List HI × Nat :=
  if h : 2 * p + 1 < X.length then su (swap X p (kid X p)) (kid X p) else (X, p)
termination_by X.length - p
decreasing_by simp only [swap_length]; exact Nat.sub_lt_sub_left (Nat.lt_trans (kid_gt X p) (kid_lt h)) (kid_gt X p)


theorem ltI_iff {a b : HI} : ltI a b = true ↔ a.1 < b.1 ∨ (a.1 = b.1 ∧ a.2.1 < b.2.1) := by
  unfold ltI; simp
theorem ltI_false {a b : HI} : ltI a b = false ↔ b.1 < a.1 ∨ (a.1 = b.1 ∧ b.2.1 ≤ a.2.1) := by
  rw [← Bool.not_eq_true, ltI_iff, not_or, not_and, Int.not_lt, Int.not_lt]; exact ⟨fun h => (Int.lt_or_eq_of_le h.1).imp id fun e => ⟨e.symm, h.2 e.symm⟩, fun h => h.elim (fun h => ⟨Int.le_of_lt h, fun e => absurd e (Int.ne_of_gt h)⟩) fun h => ⟨Int.le_of_eq h.1.symm, fun _ => h.2⟩⟩
/-- a ≤ b -/
noncomputable def leI (a b : HI) : Prop := ltI b a = false
theorem leI_refl (a : HI) : leI a a := ltI_false.mpr (.inr ⟨rfl, Int.le_refl _⟩)
theorem leI_trans {a b c : HI} (h : leI a b) (q : leI b c) : leI a c := ltI_false.mpr ((ltI_false.mp h).elim (fun h => (ltI_false.mp q).elim (fun q => .inl (Int.lt_trans h q)) fun q => .inl (q.1 ▸ h)) fun h => (ltI_false.mp q).elim (fun q => .inl (h.1 ▸ q)) fun q => .inr ⟨q.1.trans h.1, Int.le_trans h.2 q.2⟩)
theorem leI_of_lt {a b : HI} (h : ltI a b = true) : leI a b := ltI_false.mpr ((ltI_iff.mp h).imp id fun h => ⟨h.1.symm, Int.le_of_lt h.2⟩)

theorem at_mem {X : List HI} {i : Nat} (h : i < X.length) : at' X i ∈ X := by
  unfold at'; rw [List.getElem?_eq_getElem h]; exact List.getElem_mem h
theorem at_swap_l {X : List HI} {i j : Nat} (hi : i < X.length) (hj : j < X.length) (hne : i ≠ j) : at' (swap X i j) i = at' X j := by
  unfold swap; rw [at_set_ne (Ne.symm hne)]; exact at_set_same hi
theorem at_swap_r {X : List HI} {i j : Nat} (_ : i < X.length) (hj : j < X.length) : at' (swap X i j) j = at' X i := by
  unfold swap; exact at_set_same (by simpa using hj)
theorem at_swap_o {X : List HI} {i j k : Nat} (h1 : k ≠ i) (h2 : k ≠ j) : at' (swap X i j) k = at' X k := by
  unfold swap; rw [at_set_ne (Ne.symm h2), at_set_ne (Ne.symm h1)]

theorem set_perm {X : List HI} {i : Nat} (h : i < X.length) (v : HI) : (at' X i :: X.set i v).Perm (v :: X) := by
  induction X generalizing i with
  | nil => simp at h
  | cons x X ih =>
    cases i with
    | zero => simp [at']; exact List.Perm.swap _ _ _
    | succ i =>
      have h' : i < X.length := by simpa using h
      have e1 : at' (x :: X) (i + 1) = at' X i := by simp [at']
      rw [e1, List.set_cons_succ]
      exact (List.Perm.swap _ _ _).trans (((ih h').cons x).trans (List.Perm.swap _ _ _))
theorem swap_perm {X : List HI} {i j : Nat} (hi : i < X.length) (hj : j < X.length) : (swap X i j).Perm X := by
  by_cases hne : i = j
  · subst hne; unfold swap; rw [List.set_set, set_at hi]
  · have h1 := set_perm (X := X.set i (at' X j)) (i := j) (by simpa using hj) (at' X i)
    rw [at_set_ne hne] at h1
    have h2 := set_perm hi (at' X j)
    exact (List.perm_cons _).mp (h1.trans h2)

theorem nodup_ne {X : List HI} {i j : Nat} (h : (X.map (·.2.1)).Nodup) (hi : i < X.length) (hj : j < X.length) (hne : i ≠ j) : (at' X i).2.1 ≠ (at' X j).2.1 := by
  intro e
  refine hne ((List.getElem_inj (xs := X.map fun t : HI => t.2.1) (i := i) (j := j) (h₀ := by simpa using hi) (h₁ := by simpa using hj) h).mp ?_)
  simpa [at', hi, hj] using e
theorem swap_nodup {X : List HI} {i j : Nat} (h : (X.map (·.2.1)).Nodup) (hi : i < X.length) (hj : j < X.length) : ((swap X i j).map (·.2.1)).Nodup :=
  ((swap_perm hi hj).map _).nodup_iff.mpr h
theorem sd_perm {X : List HI} : ∀ (p : Nat), p < X.length → (sd X p).Perm X := by
  intro p
  induction p using Nat.strongRecOn generalizing X with
  | _ p ih =>
    intro hp
    unfold sd
    split
    · rename_i h0
      split
      · have := ih ((p - 1) / 2) (par_lt h0) (X := swap X p ((p - 1) / 2)) (by rw [swap_length]; exact Nat.lt_trans (par_lt h0) hp)
        exact this.trans (swap_perm hp (Nat.lt_trans (par_lt h0) hp))
      · exact .refl _
    · exact .refl _
theorem su_perm {X : List HI} : ∀ (k p : Nat), X.length - p = k → p < X.length → (su X p).1.Perm X ∧ (su X p).2 < X.length := by
  intro k
  induction k using Nat.strongRecOn generalizing X with
  | _ k ih =>
    intro p hk hp
    unfold su
    split
    · rename_i h
      have h1 := kid_gt X p
      have h2 := kid_lt h
      obtain ⟨a, b⟩ := ih (X.length - kid X p) (hk ▸ Nat.sub_lt_sub_left hp h1) (X := swap X p (kid X p)) (kid X p) (by rw [swap_length]) (by rw [swap_length]; exact h2)
      exact ⟨a.trans (swap_perm hp h2), by rwa [swap_length] at b⟩
    · exact ⟨.refl _, hp⟩

/-- the order of a heap -/
noncomputable def Heaped (X : List HI) : Prop := ∀ i, 0 < i → i < X.length → leI (at' X ((i - 1) / 2)) (at' X i)

theorem sd_heap {X : List HI} : ∀ (p : Nat), p < X.length → (∀ i, 0 < i → i < X.length → i ≠ p → leI (at' X ((i - 1) / 2)) (at' X i)) →
    (0 < p → ∀ i, 0 < i → i < X.length → (i - 1) / 2 = p → leI (at' X ((p - 1) / 2)) (at' X i)) → Heaped (sd X p) := by
  intro p
  induction p using Nat.strongRecOn generalizing X with
  | _ p ih =>
    intro hp h1 h2
    unfold sd
    split
    · rename_i h0
      split
      · rename_i hl
        have hq : (p - 1) / 2 < p := par_lt h0
        have hq' : (p - 1) / 2 < X.length := Nat.lt_trans hq hp
        refine ih ((p - 1) / 2) hq (by rw [swap_length]; exact hq') (fun i hi hil hne => ?_) (fun hq0 i hi hil hpar => ?_)
        · rw [swap_length] at hil
          by_cases e1 : i = p
          · subst e1
            rw [at_swap_r hp hq', at_swap_l hp hq' (Nat.ne_of_gt hq)]
            exact leI_of_lt hl
          · rw [at_swap_o e1 hne]
            by_cases e2 : (i - 1) / 2 = p
            · rw [e2, at_swap_l hp hq' (Nat.ne_of_gt hq)]
              exact h2 h0 i hi hil e2
            · by_cases e3 : (i - 1) / 2 = (p - 1) / 2
              · rw [e3, at_swap_r hp hq']
                exact leI_trans (leI_of_lt hl) (e3 ▸ h1 i hi hil e1)
              · rw [at_swap_o e2 e3]; exact h1 i hi hil e1
        · rw [swap_length] at hil
          have hg : at' (swap X p ((p - 1) / 2)) (((p - 1) / 2 - 1) / 2) = at' X (((p - 1) / 2 - 1) / 2) := at_swap_o (Nat.ne_of_lt (Nat.lt_trans (par_lt hq0) hq)) (Nat.ne_of_lt (par_lt hq0))
          rw [hg]
          have hle := h1 ((p - 1) / 2) hq0 hq' (Nat.ne_of_lt hq)
          by_cases e1 : i = p
          · subst e1
            rw [at_swap_l hp hq' (Nat.ne_of_gt hq)]; exact hle
          · rw [at_swap_o e1 fun e => Nat.ne_of_lt (par_lt hi) (hpar.trans e.symm)]
            exact leI_trans hle (hpar ▸ h1 i hi hil e1)
      · rename_i hl
        intro i hi hil
        by_cases e1 : i = p
        · subst e1; unfold leI; simpa using hl
        · exact h1 i hi hil e1
    · rename_i h0
      intro i hi hil
      exact h1 i hi hil fun e => h0 (e ▸ hi)

theorem kid_cases {X : List HI} {p : Nat} (h : 2 * p + 1 < X.length) : (kid X p = 2 * p + 1 ∨ kid X p = 2 * p + 2) ∧ ∀ i, 0 < i → i < X.length → (i - 1) / 2 = p → leI (at' X (kid X p)) (at' X i) := by
  unfold kid
  split
  · rename_i hk
    rw [Bool.and_eq_true, decide_eq_true_iff, Bool.not_eq_true'] at hk
    refine ⟨.inr rfl, fun i hi hil hpar => ?_⟩
    have := par_cases hi hpar
    rcases this with rfl | rfl
    · exact hk.2
    · exact leI_refl _
  · rename_i hk
    refine ⟨.inl rfl, fun i hi hil hpar => ?_⟩
    have := par_cases hi hpar
    rcases this with rfl | rfl
    · exact leI_refl _
    · have hlt : ltI (at' X (2 * p + 1)) (at' X (2 * p + 2)) = true := by
        cases z : ltI (at' X (2 * p + 1)) (at' X (2 * p + 2)) with
        | true => rfl
        | false => exact absurd (by rw [z, Bool.not_false, Bool.and_true]; exact decide_eq_true hil) hk
      exact leI_of_lt hlt

theorem su_heap {X : List HI} : ∀ (k p : Nat), X.length - p = k → p < X.length → (∀ i, 0 < i → i < X.length → i ≠ p → (i - 1) / 2 ≠ p → leI (at' X ((i - 1) / 2)) (at' X i)) →
    (0 < p → ∀ i, 0 < i → i < X.length → (i - 1) / 2 = p → leI (at' X ((p - 1) / 2)) (at' X i)) → Heaped (sd (su X p).1 (su X p).2) := by
  intro k
  induction k using Nat.strongRecOn generalizing X with
  | _ k ih =>
    intro p hk hp h1 h2
    unfold su
    split
    · rename_i h
      have hg := kid_gt X p
      have hl := kid_lt h
      obtain ⟨hc, hmin⟩ := kid_cases h
      have hpar : (kid X p - 1) / 2 = p := kid_par hc
      refine ih (X.length - kid X p) (hk ▸ Nat.sub_lt_sub_left hp hg) (X := swap X p (kid X p)) (kid X p) (by rw [swap_length]) (by rw [swap_length]; exact hl) (fun i hi hil hne hne2 => ?_) (fun _ i hi hil hpi => ?_)
      · rw [swap_length] at hil
        by_cases e1 : i = p
        · subst e1
          rw [at_swap_l hp hl (Nat.ne_of_lt hg), at_swap_o (Nat.ne_of_lt (par_lt hi)) (Nat.ne_of_lt (Nat.lt_trans (par_lt hi) hg))]
          exact h2 hi (kid X i) (Nat.lt_of_le_of_lt (Nat.zero_le _) hg) hl hpar
        · rw [at_swap_o e1 hne]
          by_cases e2 : (i - 1) / 2 = p
          · rw [e2, at_swap_l hp hl (Nat.ne_of_lt hg)]
            exact hmin i hi hil e2
          · rw [at_swap_o e2 hne2]; exact h1 i hi hil e1 e2
      · rw [swap_length] at hil
        have hki : kid X p < i := hpi ▸ par_lt hi
        rw [hpar, at_swap_l hp hl (Nat.ne_of_lt hg), at_swap_o (Nat.ne_of_gt (Nat.lt_trans hg hki)) (Nat.ne_of_gt hki)]
        have := h1 i hi hil (Nat.ne_of_gt (Nat.lt_trans hg hki)) fun e => Nat.ne_of_gt hg (hpi.symm.trans e)
        rwa [hpi] at this
    · rename_i h
      show Heaped (sd X p)
      refine sd_heap p hp (fun i hi hil hne => h1 i hi hil hne (no_kid h hi hil)) (fun _ i hi hil hpi => absurd hpi (no_kid h hi hil))

theorem heap_min {X : List HI} (h : Heaped X) : ∀ i, i < X.length → leI (at' X 0) (at' X i) := by
  intro i
  induction i using Nat.strongRecOn with
  | _ i ih =>
    intro hi
    by_cases h0 : i = 0
    · subst h0; exact leI_refl _
    · exact leI_trans (ih ((i - 1) / 2) (par_lt (Nat.pos_of_ne_zero h0)) (Nat.lt_trans (par_lt (Nat.pos_of_ne_zero h0)) hi)) (h i (Nat.pos_of_ne_zero h0) hi)
theorem heap_min' {X : List HI} (h : Heaped X) {x : HI} (hx : x ∈ X) : leI (at' X 0) x := by
  obtain ⟨i, hi, rfl⟩ := List.getElem_of_mem hx
  have := heap_min h i hi
  rwa [show at' X i = X[i] by simp [at', hi]] at this

theorem push_heap {X : List HI} (h : Heaped X) (x : HI) : Heaped (sd (X ++ [x]) X.length) := by
  refine sd_heap _ (by simp) (fun i hi hil hne => ?_) (fun _ i hi hil hp => absurd hil (by rw [List.length_append]; exact Nat.not_lt.mpr (hp ▸ par_lt hi)))
  have hil' : i < X.length := Nat.lt_of_le_of_ne (Nat.le_of_lt_succ (by simpa using hil)) hne
  have e : ∀ j, j < X.length → at' (X ++ [x]) j = at' X j := fun j hj => by unfold at'; rw [List.getElem?_append_left hj]
  rw [e _ (Nat.lt_trans (par_lt hi) hil'), e _ hil']; exact h i hi hil'
theorem push_perm {X : List HI} (x : HI) : (sd (X ++ [x]) X.length).Perm (x :: X) := (sd_perm _ (by simp)).trans (List.perm_append_singleton x X)
theorem repl_heap {X : List HI} (h : Heaped X) (x : HI) (hX : 0 < X.length) : Heaped (sd (su (X.set 0 x) 0).1 (su (X.set 0 x) 0).2) := by
  refine su_heap _ 0 rfl (by simpa using hX) (fun i hi hil _ hne => ?_) (fun h0 => absurd h0 (Nat.lt_irrefl _))
  rw [at_set_ne (Ne.symm hne), at_set_ne (Nat.ne_of_lt hi)]
  exact h i hi (by simpa using hil)
theorem repl_perm {X : List HI} (x : HI) (hX : 0 < X.length) : (at' X 0 :: sd (su (X.set 0 x) 0).1 (su (X.set 0 x) 0).2).Perm (x :: X) := by
  obtain ⟨h1, h2⟩ := su_perm (X := X.set 0 x) _ 0 rfl (by simpa using hX)
  have h3 := sd_perm (X := (su (X.set 0 x) 0).1) (su (X.set 0 x) 0).2 (by rw [h1.length_eq]; exact h2)
  exact (List.Perm.cons _ (h3.trans h1)).trans (set_perm hX x)
theorem pop_heap {X : List HI} {x : HI} (h : Heaped (X ++ [x])) : Heaped (if 0 < X.length then sd (su (X.set 0 x) 0).1 (su (X.set 0 x) 0).2 else []) := by
  split
  · rename_i hX
    refine repl_heap (fun i hi hil => ?_) x hX
    have e : ∀ j, j < X.length → at' (X ++ [x]) j = at' X j := fun j hj => by unfold at'; rw [List.getElem?_append_left hj]
    have := h i hi (by rw [List.length_append]; exact Nat.lt_add_right _ hil)
    rwa [e _ (Nat.lt_trans (par_lt hi) hil), e _ hil] at this
  · intro i _ hil; simp at hil
theorem pop_perm {X : List HI} {x : HI} : (at' (X ++ [x]) 0 :: (if 0 < X.length then sd (su (X.set 0 x) 0).1 (su (X.set 0 x) 0).2 else [])).Perm (X ++ [x]) := by
  split
  · rename_i hX
    rw [show at' (X ++ [x]) 0 = at' X 0 by unfold at'; rw [List.getElem?_append_left hX]]
    exact (repl_perm x hX).trans (List.perm_append_singleton x X).symm
  · rename_i hX
    have : X = [] := by cases X with | nil => rfl | cons _ _ => simp at hX
    subst this; exact .refl _
end Mine

end
section
open PySem PySem.W PyProof.Rows
namespace Mine

section
variable {prog : Program} {w : World} {K : Frag} {A : Around} {σ : Sg}
local macro_rules | `(tactic| trivial) => `(tactic| first | exact SubL.n | (refine SubL.c rfl ?_; trivial) | exact Ep_local (by assumption) rfl rfl rfl | exact Ep_int | exact Ep_none)

theorem half (m : Nat) (h : 0 < m) : ((m : Int) - 1) / 2 = (((m - 1) / 2 : Nat) : Int) := by omega
theorem two_lt {m n : Nat} (h : 2 * (m : Int) + 1 < (n : Int)) : 2 * m + 1 < n := by omega
theorem lt_two {m n : Nat} (h : 2 * m + 1 < n) : 2 * (m : Int) + 1 < (n : Int) := by omega
theorem two_lt2 {m n : Nat} (h : 2 * (m : Int) + 1 + 1 < (n : Int)) : 2 * m + 2 < n := by omega
theorem lt_two2 {m n : Nat} (h : 2 * m + 2 < n) : 2 * (m : Int) + 1 + 1 < (n : Int) := by omega
theorem nn1 (m : Nat) : 0 ≤ 2 * (m : Int) + 1 := by omega
theorem nn2 (m : Nat) : 0 ≤ 2 * (m : Int) + 1 + 1 := by omega
theorem ne1 (m : Nat) : 2 * m + 1 ≠ m := by omega
theorem ne2 (m : Nat) : 2 * m + 2 ≠ m := by omega
theorem tn1 (m : Nat) : (2 * (m : Int) + 1).toNat = 2 * m + 1 := by omega
theorem tn2 (m : Nat) : (2 * (m : Int) + 1 + 1).toNat = 2 * m + 2 := by omega
theorem map_le {X Z : List HI} (hn : X.length ≤ 100) (h : Z.length = X.length) : (Z.map iv).length ≤ 10000 := by rw [List.length_map, h]; exact Nat.le_trans hn (by decide)
theorem map_lt {X Z : List HI} {m : Nat} (h : Z.length = X.length) (q : m < X.length) : (m : Int) < ((Z.map iv).length : Int) := by rw [List.length_map, h]; exact Int.ofNat_lt.mpr q
theorem fn_siftdown {n : Nat} (KO : KOk K) (D : fnOk K 213 (topS 15)) {h : Addr} {X : List HI} {p : Nat} (hσ : σ h = some (.list (X.map iv))) (hp : p < X.length) (hn : X.length ≤ 100) (hd : (X.map (·.2.1)).Nodup) :
    Fn prog w K (n + 1) (.ref 213) [.ref h, .int 0, .int p] σ (fun y σ' => y = .none ∧ σ' = σ.set h (.list ((sd X p).map iv))) := by
  refine Fn_pos KO D.1 ["heap", "startpos", "pos"] (by decide +kernel) rfl (fun _ _ _ _ _ _ _ _ => len3 fun _ _ _ => rfl) ?_
  intro L q cdv A ha hh
  have he : FrE (fe (fS (topS 15)) L q 213 cdv) := frE_fe rfl
  refine Ex_cons (Ex_assign he rfl ?_)
  refine Ep.ev (Ep_sub (Ep_local he rfl rfl rfl) (Ep_local he rfl rfl rfl) (OS_list (.ref hσ) (Int.natCast_nonneg _) (c := iv (at' X p)) (by simpa using at_map hp) (map_le hn rfl))) ?_
  refine Ex_cons (Ex_while (fun m fr σ' => ∃ Y Z : List HI, m < X.length ∧ Y.length = X.length ∧ Z.length = X.length ∧ (Y.map (·.2.1)).Nodup ∧ Z.set m (at' Y m) = Y ∧ sd Y m = sd X p ∧ at' Y m = at' X p ∧ σ' = σ.set h (.list (Z.map iv)) ∧
    fr = ([("heap", .ref h), ("startpos", .int 0), ("pos", .int m), ("newitem", iv (at' X p))] : Vars)) p ?_ ?_)
  · exact ⟨_, ⟨X, X, hp, rfl, rfl, hd, set_at hp, rfl, rfl, (Sg.set_id hσ).symm, rfl⟩, (by trivial)⟩
  · rintro m fr σ' Q hQ hQB - ⟨Y, Z, hm, hY, hZ, hdY, hset, hsd, hat, rfl, rfl⟩
    have tail : Y = sd Y m → ∀ fr, SubL ([("heap", .ref h), ("startpos", .int 0), ("pos", .int m), ("newitem", iv (at' X p))] : Vars) fr → EX prog w K A (fe (fS (topS 15)) L q 213 cdv) fr (σ.set h (.list (Z.map iv))) ((fB (topS 15)).drop 2) (Back fun y σ' => y = .none ∧ σ' = σ.set h (.list ((sd X p).map iv))) := fun hY' fr hsub => by
      refine Ex.sub hsub ?_
      refine Ex_cons (Ex_setItem (Ep.ev (by trivial) ⟨_, _, (by trivial), (by trivial), SetI_list (Sg.set_same _ _ _) (Int.natCast_nonneg _) (map_lt hZ hm) (map_le hn hZ) ?_⟩))
      refine Ex_nil ⟨rfl, ?_⟩
      rw [Sg.set_set, Int.toNat_natCast, ← List.map_set, ← hat, hset, ← hsd, ← hY']
    refine (Tp_cmp (by trivial) (by trivial) O2_gtI).tv ?_
    split
    · rename_i hpos
      have hpos : 0 < m := by simpa using hpos
      refine Ex_cons (Ex_assign he rfl ?_)
      refine Ep.ev (Ep_bin (Ep_bin (by trivial) Ep_int O2_subI) Ep_int (O2_shrI (by decide))) ?_
      have hdiv : Int.fdiv ((m : Int) - 1) (2 ^ (1 : Int).toNat) = (((m - 1) / 2 : Nat) : Int) := by
        rw [show ((2 : Int) ^ (1 : Int).toNat) = 2 from rfl, Int.fdiv_eq_ediv_of_nonneg _ (by decide)]; exact half m hpos
      rw [hdiv]
      have hpp : (m - 1) / 2 < m := par_lt hpos
      have hpl : (m - 1) / 2 < X.length := Nat.lt_trans hpp hm
      refine Ex_cons (Ex_assign he rfl ?_)
      have hZp : at' Z ((m - 1) / 2) = at' Y ((m - 1) / 2) := by rw [← hset, at_set_ne (Nat.ne_of_gt hpp)]
      refine Ep.ev (Ep_sub (by trivial) (by trivial) (OS_list (.ref (Sg.set_same _ _ _)) (Int.natCast_nonneg _) (c := iv (at' Y ((m - 1) / 2))) (by rw [← hZp, Int.toNat_natCast]; exact at_map (hZ ▸ hpl)) (map_le hn hZ))) ?_
      refine Ex_cons (Ex_ifp (b := ltI (at' Y m) (at' Y ((m - 1) / 2))) (Tp_cmp (by trivial) (by trivial) (O2_ltL .lst .lst (by rw [← hat]; exact ltM_iv (nodup_ne hdY (hY ▸ hm) (hY ▸ hpl) (Nat.ne_of_gt hpp))) ha.c)) (fun hl => ?_) (fun hl => ?_))
      · refine Ex_cons (Ex_setItem (Ep.ev (by trivial) ⟨_, _, (by trivial), (by trivial), SetI_list (Sg.set_same _ _ _) (Int.natCast_nonneg _) (map_lt hZ hm) (map_le hn hZ) ?_⟩))
        refine Ex_cons (Ex_assign he rfl (Ep.ev (by trivial) ?_))
        refine Ex_cons (Ex_continue ?_)
        refine (hQ _ _ ⟨_, ⟨(m - 1) / 2, hpp, swap Y m ((m - 1) / 2), Z.set m (at' Y ((m - 1) / 2)), hpl, by rw [swap_length, hY], by simp [hZ], swap_nodup hdY (hY ▸ hm) (hY ▸ hpl), ?_, ?_, ?_, ?_, rfl⟩, (by trivial)⟩).2
        · rw [show at' (swap Y m ((m - 1) / 2)) ((m - 1) / 2) = at' Y m from by unfold swap; exact at_set_same (by rw [List.length_set, hY]; exact hpl)]
          have e1 : ∀ v, Y.set m v = Z.set m v := fun v => by
            conv => lhs; rw [← hset]
            rw [List.set_set]
          show _ = (Y.set m _).set _ _
          rw [e1]
        · rw [← hsd]
          conv => rhs; unfold sd
          rw [dif_pos hpos, if_pos hl]
        · rw [← hat]; unfold swap; exact at_set_same (by rw [List.length_set, hY]; exact hpl)
        · rw [Sg.set_set]; simp [List.map_set]
      · refine Ex_nil ?_
        refine Ex_cons (Ex_break (hQB _ _ ?_))
        refine tail ?_ _ (by trivial)
        conv => rhs; unfold sd
        rw [dif_pos hpos, if_neg (by simpa using hl)]
    · rename_i hpos
      have hpos : ¬ 0 < m := by simpa using hpos
      refine Ex_nil ?_
      refine tail ?_ _ (by trivial)
      conv => rhs; unfold sd
      rw [dif_neg hpos]

theorem fn_siftup {n : Nat} (KO : KOk K) (D0 : fnOk K 213 (topS 15)) (G0 : glb K "_siftdown" (.ref 213)) (GL : glb K "len" (.bi "len")) (D : fnOk K 220 (topS 16)) {h : Addr} {X : List HI} (hσ : σ h = some (.list (X.map iv))) (hp : 0 < X.length) (hn : X.length ≤ 100) (hd : (X.map (·.2.1)).Nodup) :
    Fn prog w K (n + 2) (.ref 220) [.ref h, .int 0] σ (fun y σ' => y = .none ∧ σ' = σ.set h (.list ((sd (su X 0).1 (su X 0).2).map iv))) := by
  refine Fn_pos KO D.1 ["heap", "pos"] (by decide +kernel) rfl (fun _ _ _ _ _ _ _ _ => len2 fun _ _ => rfl) ?_
  intro L q cdv A ha hh
  have he : FrE (fe (fS (topS 16)) L q 220 cdv) := frE_fe rfl
  refine Ex_cons (Ex_assign he rfl (Ep.ev (Ep_call (Ep_glb GL he rfl rfl) (fun _ _ _ r => r) keepsOk_builtin (EPs_cons (by trivial) EPs_nil) (OC_len (.ref hσ) (map_le hn rfl))) ?_))
  refine Ex_cons (Ex_assign he rfl (Ep.ev (by trivial) ?_))
  refine Ex_cons (Ex_assign he rfl (Ep.ev (Ep_sub (by trivial) (by trivial) (OS_list (k := 0) (.ref hσ) (Int.le_refl _) (c := iv (at' X 0)) (at_map hp) (map_le hn rfl))) ?_))
  refine Ex_cons (Ex_assign he rfl (Ep.ev (Ep_bin (Ep_bin Ep_int (by trivial) (O2_mulI (.of_left (by decide)))) Ep_int O2_addI) ?_))
  refine Ex_cons (Ex_while (fun k fr σ' => ∃ m, ∃ Y Z : List HI, k = X.length - m ∧ m < X.length ∧ Y.length = X.length ∧ Z.length = X.length ∧ (Y.map (·.2.1)).Nodup ∧ Z.set m (at' Y m) = Y ∧ su Y m = su X 0 ∧ at' Y m = at' X 0 ∧ σ' = σ.set h (.list (Z.map iv)) ∧
    fr = ([("heap", .ref h), ("pos", .int m), ("endpos", .int (X.map iv).length), ("startpos", .int 0), ("newitem", iv (at' X 0)), ("childpos", .int (2 * (m : Int) + 1))] : Vars)) X.length ?_ ?_)
  · exact ⟨_, ⟨0, X, X, rfl, hp, rfl, rfl, hd, set_at hp, rfl, rfl, (Sg.set_id hσ).symm, rfl⟩, (by trivial)⟩
  · rintro k fr σ' Q hQ - - ⟨m, Y, Z, rfl, hm, hY, hZ, hdY, hset, hsu, hat, rfl, rfl⟩
    refine (Tp_cmp (by trivial) (by trivial) O2_ltI).tv ?_
    have hZe : ∀ i, i ≠ m → at' Z i = at' Y i := fun i hi => by rw [← hset, at_set_ne (Ne.symm hi)]
    have hX : (X.map iv).length = X.length := by simp
    split
    · rename_i hc
      have hc : 2 * m + 1 < X.length := two_lt (hX ▸ of_decide_eq_true hc)
      have h12 : decide (2 * (m : Int) + 1 + 1 < (X.map iv).length) = true → 2 * m + 2 < X.length := fun h => two_lt2 (hX ▸ of_decide_eq_true h)
      refine Ex_cons (Ex_assign he rfl (Ep.ev (Ep_bin (by trivial) Ep_int O2_addI) ?_))
      have hkl := kid_lt (X := Y) (p := m) (hY ▸ hc)
      have hkg := kid_gt Y m
      have hkX : kid Y m < X.length := hY ▸ hkl
      refine Ex_cons (Ex_to (fun fr σ' => fr = ([("heap", .ref h), ("pos", .int m), ("endpos", .int (X.map iv).length), ("startpos", .int 0), ("newitem", iv (at' X 0)), ("childpos", .int ((kid Y m : Nat) : Int))] : Vars) ∧ σ' = σ.set h (.list (Z.map iv)))
        (Ex_ifp (b := decide (2 * (m : Int) + 1 + 1 < (X.map iv).length) && !ltI (at' Y (2 * m + 1)) (at' Y (2 * m + 2))) (Tp_bool (Tp_and (Tp_cmp (by trivial) (by trivial) O2_ltI) (fun h1 => Tp_and (Tp_not (Tp_cmp
          (Ep_sub (by trivial) (by trivial) (OS_list (.ref (Sg.set_same _ _ _)) (nn1 m) (c := iv (at' Y (2 * m + 1))) (by rw [← hZe _ (ne1 m), tn1 m]; exact at_map (hZ ▸ hc)) (map_le hn hZ)))
          (Ep_sub (by trivial) (by trivial) (OS_list (.ref (Sg.set_same _ _ _)) (nn2 m) (c := iv (at' Y (2 * m + 2))) (by rw [← hZe _ (ne2 m), tn2 m]; exact at_map (hZ ▸ h12 h1)) (map_le hn hZ)))
          (O2_ltL .lst .lst (ltM_iv (nodup_ne hdY (hY ▸ hc) (hY ▸ h12 h1) (Nat.ne_of_lt (Nat.lt_succ_self _)))) ha.c))) (fun h2 => Tp_and_nil.to (by rw [h1, h2]; rfl)) (fun h2 => by rw [h1, h2]; rfl)) (fun h1 => by rw [h1]; rfl))) (fun hb => ?_) (fun hb => ?_)) ?_)
      · refine Ex_cons (Ex_assign he rfl (Ep.ev (by trivial) ?_))
        refine Ex_nil ⟨rfl, _, ⟨rfl, rfl⟩, SubL.c rfl (SubL.c rfl (SubL.c rfl (SubL.c rfl (SubL.c rfl (SubL.c ?_ SubL.n)))))⟩
        rw [Bool.and_eq_true, decide_eq_true_iff] at hb
        rw [show kid Y m = 2 * m + 2 by unfold kid; rw [if_pos]; rw [hb.2, Bool.and_true]; exact decide_eq_true (hY ▸ two_lt2 (hX ▸ hb.1))]
        show some (MV.int (2 * (m : Int) + 1 + 1)) = _
        rfl
      · refine Ex_nil ⟨rfl, _, ⟨rfl, rfl⟩, SubL.c rfl (SubL.c rfl (SubL.c rfl (SubL.c rfl (SubL.c rfl (SubL.c ?_ SubL.n)))))⟩
        rw [show kid Y m = 2 * m + 1 by
          unfold kid; rw [if_neg]; intro h2; rw [Bool.and_eq_true, decide_eq_true_iff] at h2
          rw [h2.2, Bool.and_true, decide_eq_false_iff_not] at hb; exact hb (by rw [hX]; exact lt_two2 (hY ▸ h2.1))]
        show some (MV.int (2 * (m : Int) + 1)) = _
        rfl
      rintro _ _ ⟨rfl, rfl⟩
      refine Ex_cons (Ex_setItem (Ep.ev (Ep_sub (by trivial) (by trivial) (OS_list (.ref (Sg.set_same _ _ _)) (Int.natCast_nonneg _) (c := iv (at' Y (kid Y m))) (by rw [← hZe _ (Nat.ne_of_gt hkg), Int.toNat_natCast]; exact at_map (hZ ▸ hkX)) (map_le hn hZ))) ⟨_, _, (by trivial), (by trivial), SetI_list (Sg.set_same _ _ _) (Int.natCast_nonneg _) (map_lt hZ hm) (map_le hn hZ) ?_⟩))
      refine Ex_cons (Ex_assign he rfl (Ep.ev (by trivial) ?_))
      refine Ex_cons (Ex_assign he rfl (Ep.ev (Ep_bin (Ep_bin Ep_int (by trivial) (O2_mulI (.of_left (by decide)))) Ep_int O2_addI) ?_))
      refine Ex_nil (hQ _ _ ⟨_, ⟨X.length - kid Y m, Nat.sub_lt_sub_left hm hkg, kid Y m, swap Y m (kid Y m), Z.set m (at' Y (kid Y m)), rfl, hkX, by rw [swap_length, hY], by simp [hZ], swap_nodup hdY (hY ▸ hm) hkl, ?_, ?_, ?_, ?_, rfl⟩, (by trivial)⟩).1
      · rw [show at' (swap Y m (kid Y m)) (kid Y m) = at' Y m from by unfold swap; exact at_set_same (by rw [List.length_set]; exact hkl)]
        have e1 : ∀ v, Y.set m v = Z.set m v := fun v => by
          conv => lhs; rw [← hset]
          rw [List.set_set]
        show _ = (Y.set m _).set _ _
        rw [e1]
      · rw [← hsu]
        conv => rhs; unfold su
        rw [dif_pos (hY ▸ hc)]
      · rw [← hat]; unfold swap; exact at_set_same (by rw [List.length_set]; exact hkl)
      · rw [Sg.set_set]; simp [List.map_set]
    · rename_i hc
      have hc : ¬ 2 * m + 1 < X.length := fun h2 => hc (decide_eq_true (by rw [hX]; exact lt_two h2))
      refine Ex_nil ?_
      have hsx : su X 0 = (Y, m) := by
        rw [← hsu]; unfold su; rw [dif_neg (hY ▸ hc)]
      refine Ex_cons (Ex_setItem (Ep.ev (by trivial) ⟨_, _, (by trivial), (by trivial), SetI_list (Sg.set_same _ _ _) (Int.natCast_nonneg _) (map_lt hZ hm) (map_le hn hZ) ?_⟩))
      rw [Sg.set_set, Int.toNat_natCast, ← List.map_set, ← hat, hset]
      refine Ex_cons (Ex_expr (Ev_fn (Ep_glb G0 he rfl rfl) D0.2 ha hh ((EPs_cons (by trivial) (EPs_cons (by trivial) (EPs_cons (by trivial) EPs_nil))).evs ((fn_siftdown (p := m) KO D0 (Sg.set_same _ _ _) (hY ▸ hm) (hY ▸ hn) hdY).mono ?_))))
      rintro y σ' ⟨rfl, rfl⟩
      refine Ex_nil ⟨rfl, ?_⟩
      rw [Sg.set_set, hsx]
end
end Mine

end
section
open PySem PySem.W PyProof.Rows
namespace Mine
section
variable {prog : Program} {w : World} {K : Frag} {A : Around} {σ : Sg}
local macro_rules | `(tactic| trivial) => `(tactic| first | exact SubL.n | (refine SubL.c rfl ?_; trivial) | exact Ep_local (by assumption) rfl rfl rfl | exact Ep_int | exact Ep_none)

theorem fn_heappush {n : Nat} (KO : KOk K) (D0 : fnOk K 213 (topS 15)) (G0 : glb K "_siftdown" (.ref 213)) (GL : glb K "len" (.bi "len")) (D : fnOk K 192 (topS 12)) {h : Addr} {X : List HI} {x : HI} (hσ : σ h = some (.list (X.map iv))) (hn : X.length < 100) (hd : ((X ++ [x]).map (·.2.1)).Nodup) :
    Fn prog w K (n + 2) (.ref 192) [.ref h, iv x] σ (fun y σ' => y = .none ∧ σ' = σ.set h (.list ((sd (X ++ [x]) X.length).map iv))) := by
  refine Fn_pos KO D.1 ["heap", "item"] (by decide +kernel) rfl (fun _ _ _ _ _ _ _ _ => len2 fun _ _ => rfl) ?_
  intro L q cdv A ha hh
  have he : FrE (fe (fS (topS 12)) L q 192 cdv) := frE_fe rfl
  refine Ex_cons (Ex_expr (Ev_append (by trivial) hσ (Ep.ev (by trivial) ⟨_, hσ, by simp; omega, ?_⟩)))
  rw [show X.map iv ++ [iv x] = (X ++ [x]).map iv by simp]
  refine Ex_cons (Ex_expr (Ev_fn (Ep_glb G0 he rfl rfl) D0.2 ha hh ((EPs_cons (by trivial) (EPs_cons (by trivial) (EPs_cons (Ep.to (Ep_bin (Ep_call (Ep_glb GL he rfl rfl) (fun _ _ _ r => r) keepsOk_builtin (EPs_cons (by trivial) EPs_nil) (OC_len (.ref (Sg.set_same _ _ _)) (by simp; omega))) Ep_int O2_subI) (y' := .int (X.length : Int)) (by simp)) EPs_nil))).evs ((fn_siftdown (p := X.length) KO D0 (Sg.set_same _ _ _) (by simp) (by simp; omega) hd).mono ?_))))
  rintro y σ' ⟨rfl, rfl⟩
  exact Ex_nil ⟨rfl, by rw [Sg.set_set]⟩

theorem fn_heappop {n : Nat} (KO : KOk K) (D0 : fnOk K 213 (topS 15)) (G0 : glb K "_siftdown" (.ref 213)) (GL : glb K "len" (.bi "len")) (D1 : fnOk K 220 (topS 16)) (G1 : glb K "_siftup" (.ref 220)) (D : fnOk K 199 (topS 13)) {h : Addr} {X : List HI} {x : HI} (hσ : σ h = some (.list ((X ++ [x]).map iv))) (hn : X.length < 100) (hd : ((X ++ [x]).map (·.2.1)).Nodup) :
    Fn prog w K (n + 3) (.ref 199) [.ref h] σ (fun y σ' => y = iv (at' (X ++ [x]) 0) ∧ σ' = σ.set h (.list ((if 0 < X.length then sd (su (X.set 0 x) 0).1 (su (X.set 0 x) 0).2 else []).map iv))) := by
  refine Fn_pos KO D.1 ["heap"] (by decide +kernel) rfl (fun _ _ _ _ _ _ _ _ => len1 fun _ => rfl) ?_
  intro L q cdv A ha hh
  have he : FrE (fe (fS (topS 13)) L q 199 cdv) := frE_fe rfl
  rw [List.map_append, List.map_cons, List.map_nil] at hσ
  refine Ex_cons (Ex_assign he rfl (Ev_lm (by trivial) (.ref hσ) F.slot_list_pop F.type_list_pop (Evs_nil (MC_pop hσ (by simp; omega) ?_))))
  refine Ex_cons (Ex_ifp (Tp_val (by trivial) (OT_list (.ref (Sg.set_same _ _ _)) (by simp; omega))) (fun hb => ?_) (fun hb => ?_))
  · have hX : 0 < X.length := by cases X with | nil => simp at hb | cons _ _ => simp
    have hnd : ((X.set 0 x).map (·.2.1)).Nodup := ((((set_perm hX x).trans (List.perm_append_singleton x X).symm).map (·.2.1)).nodup_iff.mpr hd).sublist (by simp)
    refine Ex_cons (Ex_assign he rfl (Ep.ev (Ep_sub (by trivial) (by trivial) (OS_list (k := 0) (.ref (Sg.set_same _ _ _)) (by omega) (c := iv (at' X 0)) (at_map hX) (by simp; omega))) ?_))
    refine Ex_cons (Ex_setItem (Ep.ev (by trivial) ⟨_, _, (by trivial), (by trivial), SetI_list (k := 0) (Sg.set_same _ _ _) (by omega) (by simp; omega) (by simp; omega) ?_⟩))
    rw [Sg.set_set, show (0 : Int).toNat = 0 from rfl, ← List.map_set]
    refine Ex_cons (Ex_expr (Ev_fn (Ep_glb G1 he rfl rfl) D1.2 ha hh ((EPs_cons (by trivial) (EPs_cons (by trivial) EPs_nil)).evs ((fn_siftup KO D0 G0 GL D1 (Sg.set_same _ _ _) (by simpa using hX) (by simp; omega) hnd).mono ?_))))
    rintro y σ' ⟨rfl, rfl⟩
    refine Ex_cons (Ex_return (Ep.ev (by trivial) ⟨?_, ?_⟩))
    · rw [show at' (X ++ [x]) 0 = at' X 0 by unfold at'; rw [List.getElem?_append_left hX]]
    · rw [Sg.set_set, if_pos hX]
  · have hX : X = [] := by simpa using hb
    subst hX
    exact Ex_nil (Ex_cons (Ex_return (Ep.ev (by trivial) ⟨rfl, rfl⟩)))

theorem fn_heapreplace {n : Nat} (KO : KOk K) (D0 : fnOk K 213 (topS 15)) (G0 : glb K "_siftdown" (.ref 213)) (GL : glb K "len" (.bi "len")) (D1 : fnOk K 220 (topS 16)) (G1 : glb K "_siftup" (.ref 220)) (D : fnOk K 206 (topS 14)) {h : Addr} {X : List HI} {x : HI} (hσ : σ h = some (.list (X.map iv))) (hX : 0 < X.length) (hn : X.length ≤ 100) (hd : ((X.set 0 x).map (·.2.1)).Nodup) :
    Fn prog w K (n + 3) (.ref 206) [.ref h, iv x] σ (fun y σ' => y = iv (at' X 0) ∧ σ' = σ.set h (.list ((sd (su (X.set 0 x) 0).1 (su (X.set 0 x) 0).2).map iv))) := by
  refine Fn_pos KO D.1 ["heap", "item"] (by decide +kernel) rfl (fun _ _ _ _ _ _ _ _ => len2 fun _ _ => rfl) ?_
  intro L q cdv A ha hh
  have he : FrE (fe (fS (topS 14)) L q 206 cdv) := frE_fe rfl
  refine Ex_cons (Ex_assign he rfl (Ep.ev (Ep_sub (by trivial) (by trivial) (OS_list (k := 0) (.ref hσ) (by omega) (c := iv (at' X 0)) (at_map hX) (by simp; omega))) ?_))
  refine Ex_cons (Ex_setItem (Ep.ev (by trivial) ⟨_, _, (by trivial), (by trivial), SetI_list (k := 0) hσ (by omega) (by simp; omega) (by simp; omega) ?_⟩))
  rw [show (0 : Int).toNat = 0 from rfl, ← List.map_set]
  refine Ex_cons (Ex_expr (Ev_fn (Ep_glb G1 he rfl rfl) D1.2 ha hh ((EPs_cons (by trivial) (EPs_cons (by trivial) EPs_nil)).evs ((fn_siftup KO D0 G0 GL D1 (Sg.set_same _ _ _) (by simpa using hX) (by simp; omega) hd).mono ?_))))
  rintro y σ' ⟨rfl, rfl⟩
  exact Ex_cons (Ex_return (Ep.ev (by trivial) ⟨rfl, by rw [Sg.set_set]⟩))
end
end Mine

end
section
open PySem PySem.W PyProof.Rows
namespace Mine

section pairs
variable {h : Heap} {σ : Sg}
/-- entries of a dict: the same keys, the values as told -/
noncomputable def KV (h : Heap) (σ : Sg) (es : List (Str × MV)) (kvs : List (Str × Value)) : Prop := kvs.map (·.1) = es.map (·.1) ∧ VRs h σ (es.map (·.2)) (kvs.map (·.2))
theorem KV.cons_inv {p : Str × MV} {es : List (Str × MV)} {kvs : List (Str × Value)} (x : KV h σ (p :: es) kvs) : ∃ v r, kvs = (p.1, v) :: r ∧ VR h σ p.2 v ∧ KV h σ es r := by
  obtain ⟨e1, v, vs, e2, rv, rr⟩ := x
  cases kvs with
  | nil => cases e1
  | cons q r =>
    simp only [List.map_cons, List.cons.injEq] at e1 e2
    obtain ⟨h1, h2⟩ := e1
    obtain ⟨h3, h4⟩ := e2
    exact ⟨q.2, r, by rw [← h1], h3 ▸ rv, h2, h4 ▸ rr⟩
theorem KV.nil_inv {kvs : List (Str × Value)} (x : KV h σ [] kvs) : kvs = [] := by
  have := x.1
  simpa using this
theorem KV.cons {k : Str} {y : MV} {v : Value} {es : List (Str × MV)} {kvs : List (Str × Value)} (r : VR h σ y v) (x : KV h σ es kvs) : KV h σ ((k, y) :: es) ((k, v) :: kvs) := ⟨by simp [x.1], v, kvs.map (·.2), rfl, r, x.2⟩
theorem KV.nil : KV h σ [] [] := ⟨rfl, rfl⟩
theorem KV.hit {k : Str} {y : MV} : ∀ {es : List (Str × MV)} {kvs : List (Str × Value)}, KV h σ es kvs → es.lookup k = some y → ∃ v, valueAt kvs k = some v ∧ VR h σ y v
  | (k', z) :: es, _, x, g => by
    obtain ⟨v, r, rfl, rv, x'⟩ := x.cons_inv
    rw [List.lookup_cons] at g
    unfold valueAt
    by_cases e : k = k'
    · subst e
      rw [beq_self_eq_true] at g; cases g
      exact ⟨v, by simp, rv⟩
    · rw [beq_eq_false_iff_ne.mpr e] at g
      obtain ⟨u, hu, ru⟩ := x'.hit g
      refine ⟨u, ?_, ru⟩
      rw [List.find?_cons, decide_eq_false (Ne.symm e)]
      exact hu
theorem KV.miss {k : Str} : ∀ {es : List (Str × MV)} {kvs : List (Str × Value)}, KV h σ es kvs → es.lookup k = none → valueAt kvs k = none
  | [], _, x, _ => by rw [x.nil_inv]; rfl
  | (k', z) :: es, _, x, g => by
    obtain ⟨v, r, rfl, rv, x'⟩ := x.cons_inv
    rw [List.lookup_cons] at g
    unfold valueAt
    by_cases e : k = k'
    · subst e; rw [beq_self_eq_true] at g; cases g
    · rw [beq_eq_false_iff_ne.mpr e] at g
      rw [List.find?_cons, decide_eq_false (Ne.symm e)]
      exact x'.miss g
theorem lookup_of_notmem {β : Type} {k : Str} : ∀ {es : List (Str × β)}, k ∉ es.map (·.1) → es.lookup k = Option.none
  | [], _ => rfl
  | (k', _) :: es, hn => by
    rw [List.map_cons, List.mem_cons, not_or] at hn
    rw [List.lookup_cons, beq_eq_false_iff_ne.mpr hn.1]
    exact lookup_of_notmem hn.2
theorem setv_notmem {k : Str} {y : MV} : ∀ {es : List (Str × MV)}, k ∉ es.map (·.1) → setv es k y = es ++ [(k, y)]
  | [], _ => rfl
  | (k', z) :: es, hn => by
    rw [List.map_cons, List.mem_cons, not_or] at hn
    unfold setv
    rw [beq_eq_false_iff_ne.mpr hn.1, if_neg Bool.false_ne_true, setv_notmem hn.2]; rfl
theorem KV.append : ∀ {es fs : List (Str × MV)} {kvs lvs : List (Str × Value)}, KV h σ es kvs → KV h σ fs lvs → KV h σ (es ++ fs) (kvs ++ lvs)
  | [], _, _, _, x, z => by rw [x.nil_inv]; exact z
  | _ :: _, _, _, _, x, z => by obtain ⟨v, r, rfl, rv, x'⟩ := x.cons_inv; exact .cons rv (x'.append z)
theorem map_noop {k : Str} {v : Value} : ∀ {kvs : List (Str × Value)}, k ∉ kvs.map (·.1) → kvs.map (fun kv => if kv.1 = k then (kv.1, v) else kv) = kvs
  | [], _ => rfl
  | p :: kvs, hn => by
    rw [List.map_cons, List.mem_cons, not_or] at hn
    rw [List.map_cons, map_noop hn.2, if_neg (Ne.symm hn.1)]
theorem KV.map {k : Str} {y : MV} {v : Value} (rv : VR h σ y v) : ∀ {es : List (Str × MV)} {kvs : List (Str × Value)}, KV h σ es kvs → (es.map (·.1)).Nodup → k ∈ es.map (·.1) → KV h σ (setv es k y) (kvs.map fun kv => if kv.1 = k then (kv.1, v) else kv)
  | (k', z) :: es, _, x, nd, hm => by
    obtain ⟨u, r, rfl, ru, x'⟩ := x.cons_inv
    rw [List.map_cons, List.nodup_cons] at nd
    unfold setv
    by_cases e : k = k'
    · subst e
      rw [beq_self_eq_true, if_pos rfl, List.map_cons, if_pos rfl, map_noop (x'.1 ▸ nd.1)]
      exact .cons rv x'
    · rw [beq_eq_false_iff_ne.mpr e, if_neg Bool.false_ne_true, List.map_cons, if_neg (Ne.symm e)]
      exact .cons ru (x'.map rv nd.2 (by rcases List.mem_cons.mp hm with h | h; exact absurd h e; exact h))
theorem KV.stored {k : Str} {y : MV} {v : Value} {es : List (Str × MV)} {kvs : List (Str × Value)} (x : KV h σ es kvs) (rv : VR h σ y v) (nd : (kvs.map (·.1)).Nodup) : KV h σ (setv es k y) (PySem.stored kvs k v) := by
  unfold PySem.stored
  by_cases hm : k ∈ es.map (·.1)
  · rw [if_pos]
    · exact x.map rv (x.1 ▸ nd) hm
    · rw [← x.1] at hm
      obtain ⟨p, hp, e⟩ := List.mem_map.mp hm
      exact List.any_eq_true.mpr ⟨p, hp, decide_eq_true e⟩
  · rw [setv_notmem hm, if_neg]
    · exact x.append (.cons rv .nil)
    · intro h'
      obtain ⟨p, hp, e⟩ := List.any_eq_true.mp h'
      exact hm (x.1 ▸ List.mem_map.mpr ⟨p, hp, of_decide_eq_true e⟩)
theorem KV.without {k : Str} : ∀ {es : List (Str × MV)} {kvs : List (Str × Value)}, KV h σ es kvs → KV h σ (es.filter fun p => decide (p.1 ≠ k)) (PySem.without kvs k)
  | [], _, x => by rw [x.nil_inv]; exact .nil
  | (k', z) :: es, _, x => by
    obtain ⟨u, r, rfl, ru, x'⟩ := x.cons_inv
    have ih := x'.without (k := k)
    unfold PySem.without at ih ⊢
    rw [List.filter_cons, List.filter_cons]
    split
    · exact .cons ru ih
    · exact ih
theorem KV.mono {h' : Heap} {σ' : Sg} {es : List (Str × MV)} {kvs : List (Str × Value)} (x : KV h σ es kvs) (k : ∀ a c its n, h.get? a = some ⟨c, Option.none, .seq its n, #[]⟩ → σ a = Option.none → h'.get? a = some ⟨c, Option.none, .seq its n, #[]⟩ ∧ σ' a = Option.none) : KV h' σ' es kvs := ⟨x.1, x.2.mono k⟩
theorem KV.length {es : List (Str × MV)} {kvs : List (Str × Value)} (x : KV h σ es kvs) : kvs.length = es.length := by have := congrArg List.length x.1; simpa using this
end pairs

section
variable {prog : Program} {w : World} {K : Frag} {A : Around} {e : Env} {fr : Vars} {σ : Sg} {s : Shared}
theorem skey (prog : Program) (w : World) (k : Str) (t : Tok) : (PySem.strKind prog w).is k (.str k t) = true := isStrOf_str (t := t)

theorem Rep.dict (r : Rep prog w K (flOf A) σ s) {d : Addr} {es : List (Str × MV)} {ep : Nat} (hd : σ d = some (.dict es ep)) : ∃ kvs, s.heap.DictOf (PySem.strKind prog w) d kvs ∧ KV s.heap σ es kvs ∧ (kvs.map (·.1)).Nodup := by
  obtain ⟨kvs, D, h1, h2, _⟩ := r.dictAt hd
  exact ⟨kvs, D.dictOf, ⟨h1, h2⟩, D.nodup⟩
theorem Rep.dictT (r : Rep prog w K (flOf A) σ s) {d : Addr} {es : List (Str × MV)} {ep : Nat} (hd : σ d = some (.dict es ep)) : ∃ o, s.heap.get? d = some o ∧ o.cls = .type "dict" ∧ o.dict = none := by
  obtain ⟨kvs, D, h1, h2, es', g⟩ := r.dictAt hd
  exact ⟨_, g, rfl, rfl⟩
theorem Rep.isDict {d : Addr} {es : List (Str × MV)} {ep : Nat} (hd : σ d = some (.dict es ep)) (s : Shared) (v : Value) (r : Rep prog w K (flOf A) σ s) (rv : VR s.heap σ (.ref d) v) : s.TypeIs v "dict" ∧ ∀ b, v = .ref b → ∃ ob, s.heap.get? b = some ob ∧ ob.dict = none := by
  cases (show v = _ from rv)
  obtain ⟨o, g, hc, hn⟩ := r.dictT hd
  exact ⟨⟨o, g, hc⟩, fun b e => by cases e; exact ⟨o, g, hn⟩⟩

/-- the modules' own table is no dict of the run's -/
noncomputable def sysOk (K : Frag) : Prop := ∃ o, K.lookup sysModules = some o
theorem Rep.notSys (r : Rep prog w K (flOf A) σ s) (hs : sysOk K) {d : Addr} {m : MObj} (hd : σ d = some m) : (d == sysModules) = false := by
  refine beq_eq_false_iff_ne.mpr fun e => ?_
  obtain ⟨o, g⟩ := hs
  rw [e, r.low _ _ g] at hd; cases hd

/-- a dict changed -/
theorem RepF.updDict (r : RepF prog w K (flOf A) e fr σ s) {d : Addr} {es es' : List (Str × MV)} {ep : Nat} {h' : Heap} {tk : Nat} {kvs' : List (Str × Value)} (hd : σ d = some (.dict es ep)) (D : h'.DictOf (PySem.strKind prog w) d kvs') (x : KV s.heap σ es' kvs') (hs : Heap.SameBut d s.heap h') :
    ∃ ep', RepF prog w K (flOf A) e fr (σ.set d (.dict es' ep')) { s with heap := h', toks := tk } ∧ Step (own e) σ s (σ.set d (.dict es' ep')) { s with heap := h', toks := tk } := by
  have D0 := D
  obtain ⟨⟨c, dd, dt, sl⟩, es1, ep1, g, ⟨e1, e2, e3⟩, e4, q⟩ := D
  dsimp only at e1 e2 e3 e4
  subst e1 e2 e3 e4
  refine ⟨ep1, r.upd (s' := { s with heap := h', toks := tk }) (m' := .dict es' ep1) hd (fun b o hb g => hs.extBut b o hb g) rfl rfl ⟨kvs', D0, ?_, ?_, es1, g⟩⟩
  · exact x.1
  · exact x.2.mono fun a c its n ga z => ⟨hs.extBut a _ (fun e1 => by rw [e1, hd] at z; cases z) ga, Sg.set_none' _ (fun e1 => by rw [e1, hd] at z; cases z) z⟩

theorem OC_dget {d : Addr} {es : List (Str × MV)} {ep : Nat} {k : Str} (hs : sysOk K) (hd : σ d = some (.dict es ep)) : OC prog w K A σ (.builtin "dict.get") [.ref d, .str k] ((es.lookup k).getD .none) := fun s vs r rs => by
  obtain ⟨va, vk, rfl, ra, t, rfl⟩ := rs.two
  cases (show va = _ from ra)
  obtain ⟨kvs, D, x, nd⟩ := r.dict hd
  refine call_meetsIn F.slot_dict_get D.typeIs F.entry_dict_get (F.args_dict_get_2 _ _) (meets_dict_get (PySem.strKind prog w) d (k := k) (skey prog w k t) (r.notSys hs hd)) ⟨_, D.mapOf, .tok, ?_⟩
  cases z : es.lookup k with
  | none => rw [x.miss z]; rfl
  | some y => obtain ⟨v, hv, rv⟩ := x.hit z; rw [hv]; exact rv

theorem OS_dict {d : Addr} {es : List (Str × MV)} {ep : Nat} {k : Str} {c : MV} (hd : σ d = some (.dict es ep)) (hk : es.lookup k = some c) : OS prog w K A σ (.ref d) (.str k) c := fun s va vi r ra ri => by
  cases (show va = _ from ra)
  obtain ⟨t, rfl⟩ := ri
  obtain ⟨kvs, D, x, nd⟩ := r.dict hd
  obtain ⟨v, hv, rv⟩ := x.hit hk
  exact ⟨"dict", _, D.typeIs, slot_dict_getitem.lookup, wpAny_getItem_of (k := k) (skey prog w k t) D.mapOf hv ⟨.tok, rv⟩⟩

theorem O2_inD {d : Addr} {es : List (Str × MV)} {ep : Nat} {k : Str} (hs : sysOk K) (hd : σ d = some (.dict es ep)) : O2 prog w K A σ (compareOp .In) (.str k) (.ref d) (.bool (es.lookup k).isSome) := fun s vk va r rk ra => by
  cases (show va = _ from ra)
  obtain ⟨t, rfl⟩ := rk
  obtain ⟨kvs, D, x, nd⟩ := r.dict hd
  refine wpAny_in_of (k := k) (skey prog w k t) (r.notSys hs hd) D.mapOf ⟨.tok, ?_⟩
  cases z : es.lookup k with
  | none => rw [x.miss z]; rfl
  | some y => obtain ⟨v, hv, rv⟩ := x.hit z; rw [hv]; rfl

theorem SetI_dict {d : Addr} {es : List (Str × MV)} {ep : Nat} {k : Str} {y : MV} {R : Sg → Prop} (hd : σ d = some (.dict es ep)) (hn : es.length ≤ 1000) (hR : ∀ ep', R (σ.set d (.dict (setv es k y) ep'))) : SetI prog w K A e fr σ (.ref d) (.str k) y R := fun s va vi v r ra ri rv => by
  cases (show va = _ from ra)
  obtain ⟨t, rfl⟩ := ri
  obtain ⟨kvs, D, x, nd⟩ := r.dict hd
  refine wpAny_setItem_pairs (k := k) (skey prog w k t) D (fun h' D' hs => ?_) (by rw [x.length, big_line]; omega)
  obtain ⟨ep', r', t'⟩ := r.updDict (tk := s.toks + 1) hd D' (x.stored rv nd) hs
  exact ⟨_, r', t', hR ep'⟩

/-- del d[k] -/
theorem delD {d : Addr} {es : List (Str × MV)} {ep : Nat} {k : Str} {y : MV} {t : Tok} {R : Sg → Prop} (r : RepF prog w K (flOf A) e fr σ s) (hd : σ d = some (.dict es ep)) (hn : es.length ≤ 1000) (hk : es.lookup k = some y) (hR : ∀ ep', R (σ.set d (.dict (es.filter fun p => decide (p.1 ≠ k)) ep'))) :
    wpAny (model prog w) A (delItem (.ref d) (.str k t)) (fun _ s' => ∃ σ', RepF prog w K (flOf A) e fr σ' s' ∧ Step (own e) σ s σ' s' ∧ R σ') (fun _ _ => False) s := by
  obtain ⟨kvs, D, x, nd⟩ := r.dict hd
  unfold delItem
  try with_reducible refine wpAny_holding ?_
  refine wpAny_bind (wpAny_sequenceKey D.typeIs (by decide) ?_)
  obtain ⟨v, hv, rv⟩ := x.hit hk
  refine wpAny_bind (wpAny_callSpecial?_slot (name := Str.ofString "__delitem__") D.typeIs PySem.F.slot_dict_delitem
    (call_meetsIn PySem.F.slot_dict_delitem D.typeIs PySem.F.entry_dict_delitem (PySem.F.args_dict_delitem_2 _ _) (meets_dict_delitem_pairs (PySem.strKind prog w) d (k := k) (skey prog w k t)) ⟨kvs, D, by rw [x.length, big_line]; omega, by rw [hv]; rfl, fun h' D' hs => ?_⟩))
  obtain ⟨ep', r', t'⟩ := r.updDict (tk := s.toks + 1) hd D' (x.without (k := k)) hs
  exact wpAny_pure ⟨_, r', t', hR ep'⟩

/-- {} -/
theorem Ev_dict {pos : Pos} {R : MV → Sg → Prop} (h : ∀ a ep, σ a = none → R (.ref a) (σ.set a (.dict [] ep))) : Ev prog w K A e fr σ (eval (.Dict [] [] pos) e) R := fun s r => by
  have fresh : ∀ o, s.heap.get? s.heap.objs.size ≠ some o := fun o g => Nat.lt_irrefl _ (Heap.lt_size g)
  refine wpAny_Dict_empty ?_
  obtain ⟨r', t'⟩ := r.new (s' := { s with heap := s.heap.push { cls := .type "dict", data := .dict #[] } }) (m' := .dict [] 0) fresh (fun b o g => Heap.get?_push_of_some _ g) rfl rfl ⟨[], Heap.DictOf.new _, rfl, rfl, #[], Heap.get?_push_size _ rfl⟩
  exact ⟨.ref s.heap.objs.size, _, r', t', rfl, h _ _ (fresh_none r.toRep fresh)⟩

/-! sets -/
theorem O2_inS {a : Addr} {S : List Str} {k : Str} (ha : σ a = some (.set S)) : O2 prog w K A σ (compareOp .In) (.str k) (.ref a) (.bool (decide (k ∈ S))) := fun s vk va r rk ra => by
  cases (show va = _ from ra)
  obtain ⟨t, rfl⟩ := rk
  exact wpAny_inSet_of (k := k) (skey prog w k t) rfl (r.objs _ _ ha) ⟨.tok, rfl⟩
theorem Rep.isSet {a : Addr} {S : List Str} (ha : σ a = some (.set S)) (s : Shared) (v : Value) (r : Rep prog w K (flOf A) σ s) (rv : VR s.heap σ (.ref a) v) : s.TypeIs v "set" ∧ ∀ b, v = .ref b → ∃ ob, s.heap.get? b = some ob ∧ ob.dict = none := by
  cases (show v = _ from rv)
  exact ⟨(r.objs _ _ ha).typeIs, (r.objs _ _ ha).noDict⟩
theorem MC_sadd {a : Addr} {S : List Str} {k : Str} {R : MV → Sg → Prop} (ha : σ a = some (.set S)) (hk : k ∉ S) (hn : S.length ≤ 1000) (hR : R .none (σ.set a (.set (k :: S)))) : MC prog w K A e fr σ "set.add" [.ref a, .str k] R := fun s vs r rs => by
  obtain ⟨va, vk, rfl, ra, t, rfl⟩ := rs.two
  cases (show va = _ from ra)
  refine call_set_add (k := k) (skey prog w k t) rfl (r.objs _ _ ha) (by rw [show scanBound = 4096 from rfl]; omega) fun h' hs S' => ?_
  obtain ⟨r', t'⟩ := r.upd (s' := { s with heap := h', toks := s.toks + 1 }) (m' := .set (k :: S)) ha (fun b o hb g => hs.extBut b o hb g) rfl rfl (by
    rw [if_neg (by simpa using hk)] at S'
    have : (fun k' => decide (k' ∈ k :: S)) = fun k' => (decide (k' ∈ S) || decide (k' = k)) := by funext k'; simp [Bool.or_comm]
    show h'.SetOf _ _ _ _
    rw [this]; exact S')
  exact ⟨.none, _, r', t', rfl, hR⟩
end
end Mine

end
section
open PySem PySem.W PyProof.Rows
namespace Mine

section
variable {prog : Program} {w : World} {K : Frag} {A : Around} {e : Env} {fr : Vars} {σ σ' : Sg} {s s' : Shared}

/-- a new tracked object, seen from no frame -/
theorem Rep.new (x : Rep prog w K (flOf A) σ s) {a : Addr} {m' : MObj} (ha : ∀ o, s.heap.get? a ≠ some o) (k : ∀ b o, s.heap.get? b = some o → s'.heap.get? b = some o) (os : s'.os = s.os) (gens : s'.gens = s.gens)
    (n : OR prog w s'.heap (σ.set a m') a m') : Rep prog w K (flOf A) (σ.set a m') s' ∧ Step no0 σ s (σ.set a m') s' := by
  have kk : ∀ b o, s.heap.get? b = some o → σ b = none → s'.heap.get? b = some o ∧ σ.set a m' b = none := fun b o g q =>
    have : b ≠ a := fun e => by rw [e] at g; exact ha _ g
    ⟨k b o g, Sg.set_none' σ this q⟩
  refine ⟨⟨fun b mb hb => ?_, fun b o g => (kk b o (x.top b o g) (x.low b o g)).1, fun b o g => (kk b o (x.top b o g) (x.low b o g)).2, fun L hL => let ⟨h1, h2, o, h3, h4⟩ := x.ff L hL; ⟨(kk L o h3 h1).2, h2, o, (kk L o h3 h1).1, h4⟩⟩, .of (fun b o g q _ => kk b o g q) os gens⟩
  by_cases q : b = a
  · subst q; rw [Sg.set_same] at hb; cases hb; exact n
  · rw [Sg.set_ne σ m' q] at hb
    exact (x.objs b mb hb).mono (fun o g => k b o g) fun _ _ _ _ g z => kk _ _ g z

theorem AOK.in1 {n : Nat} (x : AOK (n + 1) A) : AOK n A.in1 := ⟨by have := x.depth; show A.depth + n < _; omega, by have := x.units; show A.units + 1 + 20 * n + 100 < _; omega, x.frs⟩

/-- a class called: a new instance, then its __init__ -/
theorem Fn_make {n : Nat} {C fI : Addr} {ys : List MV} {R : MV → Sg → Prop} (hm : makesIn K C = true) (hi : findIn K (.ref C) "__init__" = some (some (.ref fI))) (hf : typeIn K (.ref fI) = some (.type "function"))
    (F : ∀ x dx, σ x = none → σ dx = none → x ≠ dx → Fn prog w K n (.ref fI) (.ref x :: ys) ((σ.set dx (.ns [])).set x (.inst C dx [])) (fun y σ' => y = .none ∧ R (.ref x) σ')) : Fn prog w K (n + 1) (.ref C) ys σ R := fun A s vs ha hh r rs => by
  obtain ⟨h, g, d, t, os⟩ := s
  have f0 : ∀ o, h.get? h.objs.size ≠ some o := fun o g => Nat.lt_irrefl _ (Heap.lt_size g)
  have sz : (h.push emptyDict).objs.size = h.objs.size + 1 := Heap.size_push ..
  have f1 : ∀ o, (h.push emptyDict).get? (h.objs.size + 1) ≠ some o := fun o g => Nat.lt_irrefl _ (sz ▸ Heap.lt_size g)
  have f1' : ∀ o, h.get? (h.objs.size + 1) ≠ some o := fun o g => f1 o (Heap.get?_push_of_some _ g)
  obtain ⟨r1, t1⟩ := r.new (s' := ⟨h.push emptyDict, g, d, t, os⟩) (m' := .ns []) f0 (fun b o g => Heap.get?_push_of_some _ g) rfl rfl ⟨[], 0, Heap.get?_push_size _ rfl, rfl⟩
  obtain ⟨r2, t2⟩ := r1.new (s' := ⟨(h.push emptyDict).push (instObj C h.objs.size), g, d, t, os⟩) (m' := .inst C h.objs.size []) f1 (fun b o g => Heap.get?_push_of_some _ g) rfl rfl ⟨#[], sz ▸ Heap.get?_push_size _ rfl, rfl⟩
  refine make_core (makes_of r.top hm) (looks_findIn r.top hi) (fun self => bind_fn r.top self hf) (.inl rfl) ?_
  have haU : AOK n (A.under (.builtin "type.__call__" ⟨.ref C :: vs, []⟩)) := ⟨by have := ha.depth; show A.depth + 1 + n < _; omega, by have := ha.units; show A.units + (1 + 3 * 0) + 20 * n + 100 < _; omega, ha.frs⟩
  have rs2 : VRs ((h.push emptyDict).push (instObj C h.objs.size)) ((σ.set h.objs.size (.ns [])).set (h.objs.size + 1) (.inst C h.objs.size [])) ys vs := rs.mono fun a c its n g z =>
    ⟨Heap.get?_push_of_some _ (Heap.get?_push_of_some _ g), Sg.set_none' _ (fun e => f1' _ (e ▸ g)) (Sg.set_none' _ (fun e => f0 _ (e ▸ g)) z)⟩
  refine codeAny_mono (F (h.objs.size + 1) h.objs.size (fresh_none r f1') (fresh_none r f0) (Nat.succ_ne_self _) _ _ (.ref (h.objs.size + 1) :: vs) haU hh r2 (.cons rfl rs2)) fun rr s' hzz => ?_
  obtain ⟨v, y, σ', e1, p, q, rv, e2, hR⟩ := hzz
  subst e1 e2
  cases (show v = .none from rv)
  exact ⟨rfl, .ref (h.objs.size + 1), .ref (h.objs.size + 1), σ', rfl, p, (t1.trans t2).trans q, rfl, hR⟩

/-- if (x := value) is None -/
theorem Ex_ifWalrus {x : Str} {px p1 p2 pos : Pos} {value : Expr} {k : Nat} {pn : Pos} {body orelse : List Stmt} {R : MF → Vars → Sg → Prop} (he : FrE e) (hx : nameOk e x = true)
    (h : Ev prog w K A e fr σ (eval value e) fun y σ₁ => if isNone y = true then EX prog w K A e (setv fr x y) σ₁ body R else EX prog w K A e (setv fr x y) σ₁ orelse R)
    (hm : behindInMarks .Is (.Constant .none k pn) = false := by rfl) : E1 prog w K A e fr σ (.If (.Compare (.NamedExpr (.Name x px) value p1) [.Is] [.Constant .none k pn] p2) body orelse pos) R := fun s r => by
  refine wpAny_If (wpAny_isTrue_Compare1 (wpAny_NamedExpr (wpAny_mono (h s r) (fun v s₁ ⟨y, σ₁, r1, t1, rv, hR⟩ => wpAny_assign_Name (wpAny_mono (r1.store he rv (nameOk_or hx) (Q := fun _ s' => RepF prog w K (flOf A) e (setv fr x y) σ₁ s' ∧ Step (own e) σ₁ s₁ σ₁ s') fun s' p q _ => ⟨p, q⟩)
    (fun _ s₂ ⟨r2, t2⟩ => wpAny_Constant_none (is_none_gen (wpAny_truthy_bool ?_))) fun _ _ z => z.elim)) fun _ _ z => z.elim)) hm)
  rw [rv.isNone]
  dsimp only at hR
  cases hy : isNone y with
  | true => rw [hy, if_pos rfl] at hR; rw [if_pos rfl]; exact wpAny_mono (hR s₂ r2) (fun _ _ ⟨f, fr', σ', p, q, rf, hq⟩ => ⟨f, fr', σ', p, (t1.trans t2).trans q, rf, hq⟩) fun _ _ z => z
  | false => rw [hy, if_neg Bool.false_ne_true] at hR; rw [if_neg Bool.false_ne_true]; exact wpAny_mono (hR s₂ r2) (fun _ _ ⟨f, fr', σ', p, q, rf, hq⟩ => ⟨f, fr', σ', p, (t1.trans t2).trans q, rf, hq⟩) fun _ _ z => z

/-! built-ins that change nothing -/
theorem seq_fresh {s : Shared} (r : Rep prog w K (flOf A) σ s) {a : Addr} (h : s.heap.objs.size ≤ a) : σ a = none := fresh_none r fun o g => absurd (Heap.lt_size g) (Nat.not_lt.mpr h)

theorem OC_tuple {a : MV} {xs : List MV} (l : LV σ a xs) (hn : xs.length ≤ 10000) : OC prog w K A σ (.type "tuple") [a] (.tup xs) := fun s vs r rs => by
  obtain ⟨va, rfl, ra⟩ := rs.one
  obtain ⟨a, its, n, rfl, g, q⟩ := l.at r ra
  have hs := q.size
  refine call_tuple_list (isList g) (fun h' hk => ⟨⟨fun b o g => Heap.get?_push_of_some _ (hk b o g), rfl, rfl⟩, h'.objs.size, its, 0, rfl, ?_, Heap.get?_push_size _ rfl, q.ext fun b o g => Heap.get?_push_of_some _ (hk b o g)⟩) (by rw [big_line]; omega)
  cases z : σ h'.objs.size with
  | none => rfl
  | some m => obtain ⟨o, ho⟩ := (r.objs _ _ z).there; exact absurd (Heap.lt_size (hk _ _ ho)) (Nat.lt_irrefl _)
theorem OC_listT {xs : List MV} (hn : xs.length ≤ 10000) : OC prog w K A σ (.type "list") [.tup xs] (.lst xs) := fun s vs r rs => by
  obtain ⟨va, rfl, a, its, n, rfl, _, g, q⟩ := rs.one
  have hs := q.size
  exact call_list_seq a (.inr rfl) g rfl rfl (fun h' c' hk hg => ⟨⟨hk, rfl, rfl⟩, s.heap.objs.size, its, c', rfl, seq_fresh r (Nat.le_refl _), hg, q.ext hk⟩) (by rw [big_line]; omega)
theorem OC_typeT {xs : List MV} : OC prog w K A σ (.type "type") [.tup xs] (.ty "tuple") := fun s vs r rs => by
  obtain ⟨va, rfl, a, its, n, rfl, _, g, q⟩ := rs.one
  exact call_type_of ⟨_, g, rfl⟩ (by decide) ⟨.refl, rfl⟩
theorem meets_bool_list (a : Addr) (its : Array Value) (n : Nat) (hfit : (its.size : Int) < 2 ^ 63) : Meets (Builtin.«bool.__new__» ⟨[.type "bool", .ref a], []⟩) (fun _ R s => s.heap.get? a = some (listO its n) ∧ R (.ok (.ret (.bool (!its.isEmpty)))) { s with toks := s.toks + 1 + 1 }) :=
  Meets.of_wp fun prog w A R s hs => by
    obtain ⟨hp, g, d, tk, os⟩ := s
    obtain ⟨hl, hs⟩ := hs
    have f1 := F.conv_sub_bool
    repeat (any_goals (first | assumption | (with_reducible refine wpAny_truthy_list (isList hl) hfit ?_) | wp_step))
    all_goals first | exact ⟨_, rfl, hs⟩ | exact hs | skip
theorem OC_boolL {a : MV} {xs : List MV} (l : LV σ a xs) (hn : xs.length ≤ 10000) : OC prog w K A σ (.type "bool") [a] (.bool (!xs.isEmpty)) := fun s vs r rs => by
  obtain ⟨va, rfl, ra⟩ := rs.one
  obtain ⟨a, its, n, rfl, g, q⟩ := l.at r ra
  have hs := q.size
  refine call_bool_1 (meets_bool_list a its n (by omega)) ⟨g, rfl, ⟨fun _ _ e => e, rfl, rfl⟩, ?_⟩
  cases xs with
  | nil => simp at hs; simp [hs]; rfl
  | cons x r => simp at hs; simp [Array.isEmpty, hs]; rfl
end
end Mine

end
section
open PySem PySem.W PyProof.Rows
namespace Mine

section
variable {prog : Program} {w : World} {K : Frag} {A : Around} {e : Env} {fr : Vars} {σ σ' : Sg} {s s' : Shared}

theorem strsAre {h : Heap} {σ : Sg} : ∀ {ss : List Str} {vs : List Value}, VRs h σ (ss.map .str) vs → StrsAre vs ss
  | [], _, e => by rw [show _ = [] from e]; exact .nil
  | x :: ss, _, ⟨v, r, e, ⟨t, ev⟩, q⟩ => by rw [e, ev]; exact .cons x t (strsAre q)
theorem strsVR {h : Heap} {σ : Sg} {ss : List Str} {vs : List Value} (x : StrsAre vs ss) : VRs h σ (ss.map .str) vs := by
  induction x with
  | nil => rfl
  | cons y t _ ih => exact ⟨_, _, rfl, ⟨t, rfl⟩, ih⟩
theorem intsAre {h : Heap} {σ : Sg} : ∀ {ss : List Int} {vs : List Value}, VRs h σ (ss.map .int) vs → IntsAre vs ss
  | [], _, e => by rw [show _ = [] from e]; exact .nil
  | x :: ss, _, ⟨v, r, e, ⟨t, ev⟩, q⟩ => by rw [e, ev]; exact .cons x t (intsAre q)

theorem OC_sorted {a : MV} {ss ts : List Str} (l : LV σ a (ss.map .str)) (hn : ss.length < 64) (ht : ∀ ts', ts'.Perm ss → sortedS ts' = true → ts' = ts) : OC prog w K A σ (.builtin "sorted") [a] (.lst (ts.map .str)) := fun s vs r rs => by
  obtain ⟨va, rfl, ra⟩ := rs.one
  obtain ⟨a, its, n, rfl, g, q⟩ := l.at r ra
  have hs := q.size
  rw [List.length_map] at hs
  refine sorted_strs (vs := its.toList) (isList (by simpa using g)) (strsAre q) (by simp; omega) fun out ss' h1 h2 h3 => ?_
  have : ss' = ts := ht ss' h2 h3
  subst this
  obtain ⟨e1, h4⟩ := sortedAll_at s.heap its.toList out
  exact ⟨⟨fun b o g => sortedAll_old g, rfl, rfl⟩, s.heap.objs.size + 1, out, e1, rfl, seq_fresh r (Nat.le_succ _), h4, strsVR h1⟩

theorem OC_sum {a : MV} {ns : List Int} (hh : A.handled = none) (l : LV σ a (ns.map .int)) : OC prog w K A σ (.builtin "sum") [a] (.int ns.sum) := fun s vs r rs => by
  obtain ⟨va, rfl, ra⟩ := rs.one
  obtain ⟨a, its, n, rfl, g, q⟩ := l.at r ra
  have hi := intsAre q
  obtain ⟨xs, hx⟩ := hi.allInts.items
  rw [Array.toArray_toList] at hx
  subst hx
  have hnum : numsOf (intItems xs).toList = ns := hi.numsOf
  refine sum_intListG hh (isList g) fun h' tk t' hk => ⟨⟨hk, rfl, rfl⟩, t', ?_⟩
  rw [preSum_eq, List.take_of_length_le (by simp), ← hnum, nums_intItems]

theorem OC_min {a b : Int} (hh : A.handled = none) : OC prog w K A σ (.builtin "min") [.int a, .int b] (.int (if b < a then b else a)) := fun s vs r rs => by
  obtain ⟨va, vb, rfl, ⟨t, rfl⟩, u, rfl⟩ := rs.two
  refine min_two_ints hh fun h' tk hk => ⟨⟨hk, rfl, rfl⟩, ?_⟩
  split
  · exact ⟨u, rfl⟩
  · exact ⟨t, rfl⟩

theorem OC_join {x : Str} {a : MV} {ss : List Str} {y : Str} (l : LV σ a (ss.map .str)) (hx : x.length = 0) (hok : (ss.map (·.length)).sum ≤ 10000) (hy : Txt.join x ss = y) : OC prog w K A σ (.builtin "str.join") [.str x, a] (.str y) := fun s vs r rs => by
  obtain ⟨vx, va, rfl, ⟨t, rfl⟩, ra⟩ := rs.two
  obtain ⟨a, its, n, rfl, g, q⟩ := l.at r ra
  refine join_list (isList g) (strsAre q) (by rw [hx]; omega) fun t' k => ⟨⟨fun _ _ e => e, rfl, rfl⟩, t', by rw [hy]⟩
theorem isStrT {x : Str} (s : Shared) (v : Value) (_ : Rep prog w K (flOf A) σ s) (rv : VR s.heap σ (.str x) v) : s.TypeIs v "str" ∧ ∀ b, v = .ref b → ∃ ob, s.heap.get? b = some ob ∧ ob.dict = none := by
  obtain ⟨t, rfl⟩ := rv
  exact ⟨typeIs_str _ _ _, fun b e => by cases e⟩

/-- set() -/
theorem Ev_set {n : Nat} {func : Expr} {pos : Pos} {R : MV → Sg → Prop} (hf : EP prog w K A e fr σ func (.ty "set")) (h : ∀ a, σ a = none → R (.ref a) (σ.set a (.set []))) 
    (hp : (starEach [] e).any (·.1) = false := by rfl)
    (hc : eval (.Call func [] [] pos) e = (do callWith pos (← eval func e) [] (backTo pos (starEach [] e)) (backToKw pos (keywordEach [] e))) := by rfl) : Ev prog w K A e fr σ (eval (.Call func [] [] pos) e) R :=
  Ev_call (n := n) hf (fun _ _ _ r => r) keepsOk_type (Evs_nil fun s vs r rs => by
    cases (show vs = [] from rs)
    have fresh : ∀ o, s.heap.get? s.heap.objs.size ≠ some o := fun o g => Nat.lt_irrefl _ (Heap.lt_size g)
    refine call_set_0 fun led => ?_
    obtain ⟨r', t'⟩ := r.new (s' := { s with heap := s.heap.push { cls := .type "set", data := .set #[] 0 (SetTable.fresh 0 0 led) } }) (m' := .set []) fresh (fun b o g => Heap.get?_push_of_some _ g) rfl rfl
      ⟨_, #[], 0, SetTable.fresh 0 0 led, Heap.get?_push_size _ rfl, ⟨rfl, rfl, rfl⟩, rfl, (fun _ h => (nomatch h)), by simp, by decide, by first | rfl | (cases led <;> rfl), rfl⟩
    exact ⟨.ref s.heap.objs.size, _, r', t', rfl, h _ (fresh_none r.toRep fresh)⟩) hp hc

/-- a call, and what holds of what it makes -/
theorem call_Q {func : Expr} {args : List Expr} {pos : Pos} {yf : MV} {f : Value} {ys : List MV} {Q : Shared → Value → Shared → Prop} (hf : EP prog w K A e fr σ func yf) (hv : ∀ h σ v, VR h σ yf v → v = f) (hk : keepsOk K f)
    (h : EPs prog w K A e fr σ args ys) (ho : ∀ s vs, Rep prog w K (flOf A) σ s → VRs s.heap σ ys vs → wpAny (model prog w) A (call f vs) (fun v s' => ∀ s₀, Ext s₀ s → Ext s₀ s' ∧ Q s₀ v s') (fun _ _ => False) s) (hp : (starEach args e).any (·.1) = false := by rfl)
    (hc : eval (.Call func args [] pos) e = (do callWith pos (← eval func e) [] (backTo pos (starEach args e)) (backToKw pos (keywordEach [] e))) := by rfl) (s : Shared) (r : RepF prog w K (flOf A) e fr σ s) :
    wpAny (model prog w) A (eval (.Call func args [] pos) e) (fun v s' => Ext s s' ∧ Q s v s') (fun _ _ => False) s := by
  rw [hc]
  refine wpAny_bind (wpAny_mono (hf s r) (fun v s₁ hzz => ?_) fun _ _ f => f)
  obtain ⟨p, rv⟩ := hzz
  cases hv _ _ _ rv
  have r1 := r.ext p
  have hp' : (backTo pos (starEach args e)).any (·.1) = false := by unfold backTo; rw [List.any_map]; exact hp
  refine callWith_of (P := K.In) (by rw [hp']; rfl) (fun h' X => hk _ h' X) (evalArgs_any hp' ?_)
  refine wpAny_mono (h pos s₁ r1) (fun vs s₂ ⟨p2, rs⟩ => ⟨(r1.ext p2).top, ?_⟩) fun _ _ f => f
  exact wpAny_mono (ho s₂ vs (r1.ext p2).toRep rs) (fun v s' h3 => h3 s (p.trans p2)) fun _ _ f => f

/-- range(a, b, c) in a loop or a comprehension -/
theorem SrcP_range {func : Expr} {args : List Expr} {pos : Pos} {ys : List MV} {a b c : Int} {n : Nat} (hh : A.handled = none) (hf : EP prog w K A e fr σ func (.ty "range")) (h : EPs prog w K A e fr σ args ys)
    (hy : (ys = [.int b] ∧ a = 0 ∧ c = 1) ∨ (ys = [.int a, .int b, .int c] ∧ c ≠ 0 ∧ Builtin.divisionGoesByPylong (b - a) c = false)) (hsz : Builtin.Range.rangeSize a b c = n) (hsm : Builtin.Range.small a b c = true)
    (hp : (starEach args e).any (·.1) = false := by rfl)
    (hc : eval (.Call func args [] pos) e = (do callWith pos (← eval func e) [] (backTo pos (starEach args e)) (backToKw pos (keywordEach [] e))) := by rfl) : SrcP prog w K A e fr σ (.Call func args [] pos) (nums a c n) (fun _ => True) := fun s r => by
  refine wpAny_mono (call_Q (Q := fun s v s' => ∃ rr t u x, v = .ref rr ∧ IsRange s'.heap rr a b c t u x) hf (fun _ _ _ r => r) keepsOk_type h (fun s vs r rs => ?_) hp hc s r) (fun v s₁ ⟨x1, rr, t, u, z, e1, hr⟩ => ?_) fun _ _ z => z
  · rcases hy with ⟨rfl, rfl, rfl⟩ | ⟨rfl, h0, h1⟩
    · obtain ⟨va, rfl, t, rfl⟩ := rs.one
      exact call_range_1 fun s₀ x0 => ⟨x0.trans ⟨fun b o g => Heap.get?_push_of_some _ g, rfl, rfl⟩, _, _, _, _, rfl, Heap.get?_push_size _ rfl⟩
    · obtain ⟨v1, r1, rfl, ⟨t1, rfl⟩, v2, r2, rfl, ⟨t2, rfl⟩, v3, r3, rfl, ⟨t3, rfl⟩, e4⟩ := rs
      cases (show r3 = [] from e4)
      exact call_range_3 h0 (fun s₀ x0 => ⟨x0.trans ⟨fun b o g => Heap.get?_push_of_some _ g, rfl, rfl⟩, _, _, _, _, rfl, Heap.get?_push_size _ rfl⟩) (.inl h1)
  · subst e1
    have fresh : ∀ o, s₁.heap.get? s₁.heap.objs.size ≠ some o := fun o g => Nat.lt_irrefl _ (Heap.lt_size g)
    refine wpAny_pyIter_range hr hsm ⟨s₁.heap.objs.size, _, rfl, fun o g => fresh o (x1.keep _ _ g), x1.trans ⟨fun b o g => Heap.get?_push_of_some _ g, rfl, rfl⟩, Proto_range hh, ⟨?_, fresh_none (r.ext x1).toRep fresh⟩, trivial⟩
    rw [hsz]
    have := Heap.get?_push_size s₁.heap (o := { cls := .type "range_iterator", data := .fields #[rawInt a, rawInt (n : Int), rawInt c] }) rfl
    simpa using this
end
end Mine

end
section
open PySem PySem.W PyProof.Rows
namespace Mine

section
variable {prog : Program} {w : World} {K : Frag} {A : Around} {e : Env} {fr : Vars} {σ σ' : Sg} {s s' : Shared}

/-- arguments by their places, the rest in a tuple -/
theorem bindsX_var {fd : FuncData} {ys zs : List MV} {xs : List Str} {v : Str} (hl : ys.length = xs.length) (hz : zs.length ≤ 1000) (hb : ∀ vs us : List Value, vs.length = xs.length → us.length = zs.length → bindArgs fd ⟨vs ++ us, []⟩ = (newTuple us >>= fun t => pure (xs.zip vs ++ [(v, t)]))) :
    BindsX prog w K σ fd (ys ++ zs) (xs.zip ys ++ [(v, .tup zs)]) := by
  intro s vs A E Q r rs q
  have hsp : vs = vs.take xs.length ++ vs.drop xs.length := (List.take_append_drop _ _).symm
  have r1 : VRs s.heap σ ys (vs.take xs.length) := by have := rs.take xs.length; rwa [List.take_left' hl] at this
  have r2 : VRs s.heap σ zs (vs.drop xs.length) := by have := rs.drop xs.length; rwa [List.drop_left' hl] at this
  rw [hsp, hb _ _ (r1.length.trans hl) r2.length]
  have hlen := r2.length
  have r1l := r1.length
  generalize vs.take xs.length = v1 at r1 r1l
  generalize vs.drop xs.length = v2 at r2 hlen
  refine wpAny_bind ?_
  show wpAny _ _ (newTuple v2) _ _ _
  unfold newTuple
  refine wpAny_newObj_type (wpAny_pure (q _ _ .push ?_ ?_)) (by show v2.toArray.size ≤ 16777216; simp; omega)
  · rw [List.map_append, List.map_append, List.map_fst_zip (by omega), List.map_fst_zip (by omega)]; rfl
  · rw [List.map_append, List.map_append, List.map_snd_zip (by omega), List.map_snd_zip (by omega)]
    refine (r1.ext fun _ _ g => Heap.get?_push_of_some _ g).append (.single ⟨s.heap.objs.size, v2.toArray, 0, rfl, seq_fresh r (Nat.le_refl _), Heap.get?_push_size _ rfl, ?_⟩)
    simpa using r2.ext fun _ _ g => Heap.get?_push_of_some _ g

/-- a call of a def with a starred parameter -/
theorem Fn_var {n : Nat} {f : Addr} {params : Arguments} {body : List Stmt} {scope : Scope} {ys zs : List MV} {R : MV → Sg → Prop} (KO : KOk K) (D : DefAt K f params body scope .none) (xs : List Str) (v : Str) (hxs : parsOk scope (xs ++ [v]) = true) (hl : ys.length = xs.length) (hz : zs.length ≤ 1000)
    (hb : ∀ (name qual : Str) kV doc pm an cdv ct, ∀ vs us : List Value, vs.length = xs.length → us.length = zs.length → bindArgs (fnOf name qual params body scope .none kV doc pm an cdv ct) ⟨vs ++ us, []⟩ = (newTuple us >>= fun t => pure (xs.zip vs ++ [(v, t)])))
    (h : ∀ L q cdv A, AOK n A → A.handled = none → EX prog w K A (fe scope L q f cdv) (xs.zip ys ++ [(v, .tup zs)]) σ body (Back R))
    (hco : scope.isCoroutine = false := by rfl) (hgen : scope.isGenerator = false := by rfl) (hk : scope.kind = .function := by rfl) : Fn prog w K (n + 1) (.ref f) (ys ++ zs) σ R := by
  unfold parsOk at hxs
  rw [Bool.and_eq_true, Bool.and_eq_true, decide_eq_true_iff, decide_eq_true_iff] at hxs
  have e1 : xs.zip ys ++ [(v, MV.tup zs)] = (xs ++ [v]).zip (ys ++ [.tup zs]) := by rw [List.zip_append (by omega)]; rfl
  refine Fn_def KO D (fun name qual kV doc pm an cdv ct => bindsX_var hl hz (hb name qual kV doc pm an cdv ct)) ?_ ?_ hxs.2 h hco hgen hk
  · rw [e1, List.map_fst_zip (by simp; omega)]; exact hxs.1.1
  · rw [e1]; exact zip_all hxs.1.2
end
end Mine

end
section
open PySem PySem.W PyProof.Rows
namespace Mine

/-! what the classes are -/
noncomputable def clsB (K : Frag) (C : Addr) : Bool := isClsIn K C && hasDictIn K C && plainOver K C && (findIn K (.ref C) "__setattr__" == some (some (.builtin "object.__setattr__")))
noncomputable def clsS (K : Frag) (C : Addr) : Bool := isClsIn K C && plainOver K C && (findIn K (.ref C) "__setattr__" == some (some (.builtin "object.__setattr__")))
noncomputable def slotB (K : Frag) (C : Addr) (name : Str) (p : Addr) (i : Nat) : Bool :=
  plainGet K C name && (findIn K (.ref C) name == some (some (.ref p))) && (specialIn K (.ref p) "__get__" == some (some (.builtin "member_descriptor.__get__"))) && (takesIn K (.ref p) == some true) && (slotIn K p C == some i) && (takerIn K C name == some (some (.ref p))) && (typeIn K (.ref p) == some (.type "member_descriptor"))
noncomputable def ownB (K : Frag) (C : Addr) (name : Str) : Bool := plainGet K C name && (findIn K (.ref C) name == some none) && noGet K none && (takerIn K C name == some none)
noncomputable def methB (K : Frag) (C : Addr) (name : Str) (f : Addr) : Bool := plainGet K C name && (findIn K (.ref C) name == some (some (.ref f))) && isFn K (.ref f) && keepIn K (.ref f)
noncomputable def makeB (K : Frag) (C f : Addr) : Bool := makesIn K C && (findIn K (.ref C) "__init__" == some (some (.ref f))) && (typeIn K (.ref f) == some (.type "function")) && keepIn K (.ref C)

section
variable {prog : Program} {w : World} {K : Frag} {A : Around} {e : Env} {fr : Vars} {σ σ' : Sg} {s s' : Shared}

theorem Ep_own {o : Expr} {name : Str} {pos : Pos} {a C d : Addr} {vs : List (Option MV)} {es : List (Str × MV)} {y : MV} (ho : EP prog w K A e fr σ o (.ref a)) (ha : σ a = some (.inst C d vs)) (hd : σ d = some (.ns es)) (hl : es.lookup name = some y) (hy : Handed y) (hC : clsB K C = true) (hB : ownB K C name = true)
    (he : eval (.Attribute o name pos) e = (do
      let o' ← eval o e
      standAt pos.atName
      let r ← holding [o'] (getAttr o' name true)
      letTemporaryGo o o' r
      pure r) := by rfl) : EP prog w K A e fr σ (.Attribute o name pos) y := by
  simp only [clsB, ownB, Bool.and_eq_true, beq_iff_eq] at hC hB
  exact Ep_attr ho (O1_own ha hd hl hy hB.1.1.1 hC.1.1.2 hB.1.1.2 hB.1.2) he
theorem Ep_slotA {o : Expr} {name : Str} {pos : Pos} {a C d p : Addr} {i : Nat} {vs : List (Option MV)} {es : List (Str × MV)} {y : MV} (ho : EP prog w K A e fr σ o (.ref a)) (ha : σ a = some (.inst C d vs)) (hd : σ d = some (.ns es)) (hl : vs[i]? = some (some y)) (hy : Handed y) (hC : clsS K C = true) (hB : slotB K C name p i = true)
    (he : eval (.Attribute o name pos) e = (do
      let o' ← eval o e
      standAt pos.atName
      let r ← holding [o'] (getAttr o' name true)
      letTemporaryGo o o' r
      pure r) := by rfl) : EP prog w K A e fr σ (.Attribute o name pos) y := by
  simp only [clsS, slotB, Bool.and_eq_true, beq_iff_eq] at hC hB
  exact Ep_attr ho (O1_slot ha hd hl hy hB.1.1.1.1.1.1 hC.1.1 hB.1.1.1.1.1.2 hB.1.1.1.1.2 hB.1.1.1.2 hB.1.1.2) he
theorem O1_ownA {name : Str} {x : Bool} {a C d : Addr} {vs : List (Option MV)} {es : List (Str × MV)} {y : MV} (ha : σ a = some (.inst C d vs)) (hd : σ d = some (.ns es)) (hl : es.lookup name = some y) (hy : Handed y) (hC : clsB K C = true) (hB : ownB K C name = true) : O1 prog w K A σ (fun v => getAttr v name x) (.ref a) y := by
  simp only [clsB, ownB, Bool.and_eq_true, beq_iff_eq] at hC hB
  exact O1_own ha hd hl hy hB.1.1.1 hC.1.1.2 hB.1.1.2 hB.1.2
theorem O1_slotA {name : Str} {x : Bool} {a C d p : Addr} {i : Nat} {vs : List (Option MV)} {es : List (Str × MV)} {y : MV} (ha : σ a = some (.inst C d vs)) (hd : σ d = some (.ns es)) (hl : vs[i]? = some (some y)) (hy : Handed y) (hC : clsS K C = true) (hB : slotB K C name p i = true) : O1 prog w K A σ (fun v => getAttr v name x) (.ref a) y := by
  simp only [clsS, slotB, Bool.and_eq_true, beq_iff_eq] at hC hB
  exact O1_slot ha hd hl hy hB.1.1.1.1.1.1 hC.1.1 hB.1.1.1.1.1.2 hB.1.1.1.1.2 hB.1.1.1.2 hB.1.1.2
theorem SetA_own {name : Str} {a C d : Addr} {vs : List (Option MV)} {es : List (Str × MV)} {y : MV} {R : Sg → Prop} (ha : σ a = some (.inst C d vs)) (hd : σ d = some (.ns es)) (hz : es.length < 900) (hC : clsB K C = true) (hB : ownB K C name = true) (hR : R (σ.set d (.ns (setv es name y)))) : SetA prog w K A e fr σ (.ref a) name y R := by
  simp only [clsB, ownB, Bool.and_eq_true, beq_iff_eq] at hC hB
  exact SetA_dict ha hd hz hR hC.2 hC.1.2 hB.2 hC.1.1.2
theorem SetA_slotA {name : Str} {a C d p : Addr} {i : Nat} {vs : List (Option MV)} {es : List (Str × MV)} {y : MV} {R : Sg → Prop} (ha : σ a = some (.inst C d vs)) (hd : σ d = some (.ns es)) (hi : i < 1000) (hC : clsS K C = true) (hB : slotB K C name p i = true) (hR : R (σ.set a (.inst C d (sets vs i y)))) : SetA prog w K A e fr σ (.ref a) name y R := by
  simp only [clsS, slotB, Bool.and_eq_true, beq_iff_eq] at hC hB
  exact SetA_slot ha hd hR hC.2 hC.1.2 hB.1.2 hB.2 hB.1.1.2 hi
/-- o.name(args), a method of the text's -/
theorem Ev_methA {o : Expr} {name : Str} {args : List Expr} {pos apos : Pos} {a C d f : Addr} {n : Nat} {R : MV → Sg → Prop} (ho : EP prog w K A e fr σ o (.ref a)) {vs : List (Option MV)} {es : List (Str × MV)} (ha : σ a = some (.inst C d vs)) (hd : σ d = some (.ns es)) (hl : es.lookup name = none) (hB : methB K C name f = true) (hA : AOK n A) (hh : A.handled = none)
    (h : Evs prog w K A e fr σ args fun ys σ₁ => Fn prog w K n (.ref f) (.ref a :: ys) σ₁ R)
    (hp : (starEach args e).any (·.1) = false := by rfl) (hbase : attributeBase o name e (eval o e) = eval o e := by rfl)
    (hfew : methodCallForm (args.length + ([] : List Keyword).length) (backTo pos (starEach args e)) (backToKw pos (keywordEach [] e)) = true := by rfl) (hline : (apos.endLine == pos.line) = true := by rfl) :
    Ev prog w K A e fr σ (eval (.Call (.Attribute o name apos) args [] pos) e) R := by
  simp only [methB, Bool.and_eq_true, beq_iff_eq] at hB
  exact Ev_meth ho ha hd hl hB.1.1.1 hB.1.1.2 hB.1.2 hB.2 (fun pos s r => wpAny_mono (h pos s r) (fun _ _ ⟨ys, σ', p, q, rs, F⟩ => ⟨ys, σ', p, q, rs, fun s vs r' rs' => F.ev hA hh r' (.cons rfl rs')⟩) fun _ _ z => z) hp hbase hfew hline
/-- C(args), a class of the text's -/
theorem Ev_make {func : Expr} {args : List Expr} {pos : Pos} {C fI : Addr} {n : Nat} {R : MV → Sg → Prop} (hf : EP prog w K A e fr σ func (.ref C)) (hB : makeB K C fI = true) (ha : AOK (n + 1) A) (hh : A.handled = none)
    (h : Evs prog w K A e fr σ args fun ys σ₁ => ∀ x dx, σ₁ x = none → σ₁ dx = none → x ≠ dx → Fn prog w K n (.ref fI) (.ref x :: ys) ((σ₁.set dx (.ns [])).set x (.inst C dx [])) (fun y σ' => y = .none ∧ R (.ref x) σ'))
    (hp : (starEach args e).any (·.1) = false := by rfl)
    (hc : eval (.Call func args [] pos) e = (do callWith pos (← eval func e) [] (backTo pos (starEach args e)) (backToKw pos (keywordEach [] e))) := by rfl) : Ev prog w K A e fr σ (eval (.Call func args [] pos) e) R := by
  simp only [makeB, Bool.and_eq_true, beq_iff_eq] at hB
  exact Ev_fn hf hB.2 ha hh (fun pos s r => wpAny_mono (h pos s r) (fun _ _ ⟨ys, σ', p, q, rs, F⟩ => ⟨ys, σ', p, q, rs, Fn_make hB.1.1.1 hB.1.1.2 hB.1.2 F⟩) fun _ _ z => z) hp hc
end

/-! the sorter's store -/
structure Nd where
  name : Str
  ia : Addr
  da : Addr
  sa : Addr
  np : Int
  su : List Str

structure SO (σ : Sg) (ns : List Nd) : Prop where
  ndn : (ns.map (·.name)).Nodup
  san : (ns.map (·.sa)).Nodup
  ia : ∀ x ∈ ns, σ x.ia = some (.inst 84 x.da [some (.str x.name), some (.int x.np), some (.ref x.sa)])
  da : ∀ x ∈ ns, σ x.da = some (.ns [])
  su : ∀ x ∈ ns, σ x.sa = some (.list (x.su.map .str))

noncomputable def nsS (nd : Addr) (rl : MV) (npo nf : Int) : Vars := [("_node2info", .ref nd), ("_ready_nodes", rl), ("_npassedout", .int npo), ("_nfinished", .int nf)]
structure ST (σ : Sg) (ts d nd : Addr) (rl : MV) (npo nf : Int) (ns : List Nd) : Prop extends SO σ ns where
  ts : σ ts = some (.inst 181 d [])
  d : σ d = some (.ns (nsS nd rl npo nf))
  dict : ∃ ep, σ nd = some (.dict (ns.map fun x => (x.name, MV.ref x.ia)) ep)

/-- all that is tracked stays, but for F -/
noncomputable def Stay (F : Addr → Prop) (σ σ' : Sg) : Prop := ∀ a m, σ a = some m → ¬ F a → σ' a = some m
theorem Stay.refl {F : Addr → Prop} {σ : Sg} : Stay F σ σ := fun _ _ h _ => h
theorem Stay.trans {F : Addr → Prop} {σ σ₁ σ₂ : Sg} (x : Stay F σ σ₁) (y : Stay F σ₁ σ₂) : Stay F σ σ₂ := fun a m h n => y a m (x a m h n) n
theorem Stay.set {F : Addr → Prop} {σ : Sg} {a : Addr} {m : MObj} (h : F a) : Stay F σ (σ.set a m) := fun b m' hb hn => by rw [Sg.set_ne _ _ (fun (e : b = a) => hn (e ▸ h))]; exact hb
theorem Stay.new {F : Addr → Prop} {σ : Sg} {a : Addr} {m : MObj} (h : σ a = none) : Stay F σ (σ.set a m) := fun b m' hb _ => set_more h b m' hb
theorem Stay.mono {F G : Addr → Prop} {σ σ' : Sg} (x : Stay F σ σ') (h : ∀ a, F a → G a) : Stay G σ σ' := fun a m ha hn => x a m ha fun hf => hn (h a hf)

section
variable {σ : Sg} {ns : List Nd} {ts d nd : Addr} {rl : MV} {npo nf : Int}

theorem SO.inj (S : SO σ ns) {x y : Nd} (hx : x ∈ ns) (hy : y ∈ ns) (h : x.name = y.name) : x = y := by
  obtain ⟨i, hi, rfl⟩ := List.getElem_of_mem hx
  obtain ⟨j, hj, rfl⟩ := List.getElem_of_mem hy
  have : i = j := (List.getElem_inj (xs := ns.map (·.name)) (h₀ := by simpa using hi) (h₁ := by simpa using hj) S.ndn).mp (by simpa using h)
  subst this; rfl
theorem SO.ia_ne (S : SO σ ns) {x y : Nd} (hx : x ∈ ns) (hy : y ∈ ns) (h : x.name ≠ y.name) : x.ia ≠ y.ia := fun e => h (by
  have h1 := S.ia x hx
  rw [e, S.ia y hy] at h1
  injection h1 with h1; injection h1 with _ _ h1; injection h1 with h1; injection h1 with h1; injection h1 with h1; exact h1.symm)
theorem SO.sa_ne (S : SO σ ns) {x y : Nd} (hx : x ∈ ns) (hy : y ∈ ns) (h : x.name ≠ y.name) : x.sa ≠ y.sa := fun e => by
  obtain ⟨i, hi, rfl⟩ := List.getElem_of_mem hx
  obtain ⟨j, hj, rfl⟩ := List.getElem_of_mem hy
  have : i = j := (List.getElem_inj (xs := ns.map (·.sa)) (h₀ := by simpa using hi) (h₁ := by simpa using hj) S.san).mp (by simpa using e)
  subst this; exact h rfl

/-- a store that agrees on the nodes' places -/
theorem SO.stay {σ' : Sg} (S : SO σ ns) (h : ∀ x ∈ ns, σ' x.ia = σ x.ia ∧ σ' x.da = σ x.da ∧ σ' x.sa = σ x.sa) : SO σ' ns :=
  ⟨S.ndn, S.san, fun x hx => (h x hx).1.trans (S.ia x hx), fun x hx => (h x hx).2.1.trans (S.da x hx), fun x hx => (h x hx).2.2.trans (S.su x hx)⟩

noncomputable def updN (ns : List Nd) (k : Str) (f : Nd → Nd) : List Nd := ns.map fun x => if x.name = k then f x else x
theorem updN_name {k : Str} {f : Nd → Nd} (hf : ∀ x, (f x).name = x.name) : (updN ns k f).map (·.name) = ns.map (·.name) := by
  unfold updN; rw [List.map_map]; exact List.map_congr_left fun x _ => by show (if x.name = k then f x else x).name = x.name; split <;> simp [hf]
theorem mem_updN {k : Str} {f : Nd → Nd} {y : Nd} (h : y ∈ updN ns k f) : ∃ x ∈ ns, y = if x.name = k then f x else x := by
  obtain ⟨x, hx, e⟩ := List.mem_map.mp h; exact ⟨x, hx, e.symm⟩

/-- a node's count set -/
theorem SO.setNp (S : SO σ ns) {x : Nd} (hx : x ∈ ns) (v : Int) : SO (σ.set x.ia (.inst 84 x.da [some (.str x.name), some (.int v), some (.ref x.sa)])) (updN ns x.name fun y => { y with np := v }) := by
  refine ⟨by rw [updN_name (f := fun y => { y with np := v }) (fun _ => rfl)]; exact S.ndn, ?_, fun y hy => ?_, fun y hy => ?_, fun y hy => ?_⟩
  · have : (updN ns x.name fun y => { y with np := v }).map (·.sa) = ns.map (·.sa) := by
      unfold updN; rw [List.map_map]; exact List.map_congr_left fun y _ => by show (if y.name = x.name then _ else y).sa = y.sa; split <;> rfl
    rw [this]; exact S.san
  · obtain ⟨z, hz, rfl⟩ := mem_updN hy
    split
    · rename_i h
      have := S.inj hz hx h; subst this
      exact Sg.set_same ..
    · rename_i h
      rw [Sg.set_ne _ _ (S.ia_ne hz hx h)]; exact S.ia z hz
  · obtain ⟨z, hz, rfl⟩ := mem_updN hy
    have e1 : (if z.name = x.name then { z with np := v } else z).da = z.da := by split <;> rfl
    rw [e1, Sg.set_ne _ _ (fun e => by have := S.da z hz; rw [e, S.ia x hx] at this; cases this)]; exact S.da z hz
  · obtain ⟨z, hz, rfl⟩ := mem_updN hy
    have e1 : (if z.name = x.name then { z with np := v } else z).sa = z.sa := by split <;> rfl
    have e2 : (if z.name = x.name then { z with np := v } else z).su = z.su := by split <;> rfl
    rw [e1, e2, Sg.set_ne _ _ (fun e => by have := S.su z hz; rw [e, S.ia x hx] at this; cases this)]; exact S.su z hz
/-- a follower more -/
theorem SO.addSu (S : SO σ ns) {x : Nd} (hx : x ∈ ns) (k : Str) : SO (σ.set x.sa (.list ((x.su ++ [k]).map .str))) (updN ns x.name fun y => { y with su := y.su ++ [k] }) := by
  refine ⟨by rw [updN_name (f := fun y => { y with su := y.su ++ [k] }) (fun _ => rfl)]; exact S.ndn, ?_, fun y hy => ?_, fun y hy => ?_, fun y hy => ?_⟩
  · have : (updN ns x.name fun y => { y with su := y.su ++ [k] }).map (·.sa) = ns.map (·.sa) := by
      unfold updN; rw [List.map_map]; exact List.map_congr_left fun y _ => by show (if y.name = x.name then _ else y).sa = y.sa; split <;> rfl
    rw [this]; exact S.san
  · obtain ⟨z, hz, rfl⟩ := mem_updN hy
    have e1 : (if z.name = x.name then { z with su := z.su ++ [k] } else z) = { z with su := if z.name = x.name then z.su ++ [k] else z.su } := by split <;> rfl
    rw [e1]
    show (σ.set x.sa _) z.ia = _
    rw [Sg.set_ne _ _ (fun e => by have := S.ia z hz; rw [e, S.su x hx] at this; cases this)]; exact S.ia z hz
  · obtain ⟨z, hz, rfl⟩ := mem_updN hy
    have e1 : (if z.name = x.name then { z with su := z.su ++ [k] } else z).da = z.da := by split <;> rfl
    rw [e1, Sg.set_ne _ _ (fun e => by have := S.da z hz; rw [e, S.su x hx] at this; cases this)]; exact S.da z hz
  · obtain ⟨z, hz, rfl⟩ := mem_updN hy
    split
    · rename_i h
      have := S.inj hz hx h; subst this
      exact Sg.set_same ..
    · rename_i h
      rw [Sg.set_ne _ _ (S.sa_ne hz hx h)]; exact S.su z hz
/-- a new node -/
theorem SO.new (S : SO σ ns) {σ' : Sg} {x : Nd} (hst : ∀ a m, σ a = some m → (∀ es ep, m ≠ .dict es ep) → σ' a = some m) (hn : x.name ∉ ns.map (·.name)) (hs : σ x.sa = none) (h1 : σ' x.ia = some (.inst 84 x.da [some (.str x.name), some (.int x.np), some (.ref x.sa)])) (h2 : σ' x.da = some (.ns [])) (h3 : σ' x.sa = some (.list (x.su.map .str))) : SO σ' (ns ++ [x]) := by
  refine ⟨?_, ?_, fun y hy => ?_, fun y hy => ?_, fun y hy => ?_⟩
  · rw [List.map_append]; exact List.nodup_append.mpr ⟨S.ndn, by simp, fun a ha b hb e => hn (by rw [List.map_cons, List.map_nil, List.mem_singleton] at hb; rw [← hb, ← e]; exact ha)⟩
  · rw [List.map_append]; refine List.nodup_append.mpr ⟨S.san, by simp, fun a ha b hb e => ?_⟩
    rw [List.map_cons, List.map_nil, List.mem_singleton] at hb
    obtain ⟨z, hz, e2⟩ := List.mem_map.mp ha
    have := S.su z hz
    rw [e2, e, hb, hs] at this; cases this
  all_goals rcases List.mem_append.mp hy with hy | hy
  · exact hst _ _ (S.ia y hy) nofun
  · rw [List.mem_singleton.mp hy]; exact h1
  · exact hst _ _ (S.da y hy) nofun
  · rw [List.mem_singleton.mp hy]; exact h2
  · exact hst _ _ (S.su y hy) nofun
  · rw [List.mem_singleton.mp hy]; exact h3

theorem dict_lookup {k : Str} : ∀ {ns : List Nd}, ((∃ x ∈ ns, x.name = k ∧ (ns.map fun x => (x.name, MV.ref x.ia)).lookup k = some (.ref x.ia)) ∨ (k ∉ ns.map (·.name) ∧ (ns.map fun x => (x.name, MV.ref x.ia)).lookup k = none))
  | [] => .inr ⟨by simp, rfl⟩
  | x :: ns => by
    by_cases h : k = x.name
    · exact .inl ⟨x, .head _, h.symm, by rw [List.map_cons, List.lookup_cons, h, beq_self_eq_true]⟩
    · rcases dict_lookup (k := k) (ns := ns) with ⟨y, hy, e, l⟩ | ⟨hn, l⟩
      · exact .inl ⟨y, .tail _ hy, e, by rw [List.map_cons, List.lookup_cons, beq_eq_false_iff_ne.mpr h]; exact l⟩
      · exact .inr ⟨by rw [List.map_cons, List.mem_cons, not_or]; exact ⟨h, hn⟩, by rw [List.map_cons, List.lookup_cons, beq_eq_false_iff_ne.mpr h]; exact l⟩
theorem dict_hit {k : Str} {x : Nd} (hnd : (ns.map (·.name)).Nodup) (hx : x ∈ ns) (hk : x.name = k) : (ns.map fun x => (x.name, MV.ref x.ia)).lookup k = some (.ref x.ia) := by
  induction ns with
  | nil => cases hx
  | cons y ns ih =>
    rw [List.map_cons, List.nodup_cons] at hnd
    rw [List.map_cons, List.lookup_cons]
    rcases List.mem_cons.mp hx with rfl | hx
    · rw [hk, beq_self_eq_true]
    · have : k ≠ y.name := fun e => hnd.1 (e ▸ hk ▸ List.mem_map.mpr ⟨x, hx, rfl⟩)
      rw [beq_eq_false_iff_ne.mpr this]
      exact ih hnd.2 hx

theorem ST.of {σ' : Sg} {ns' : List Nd} (S : ST σ ts d nd rl npo nf ns) (S' : SO σ' ns') (h1 : σ' ts = σ ts) (h2 : σ' d = σ d) (h3 : σ' nd = σ nd) (h4 : ns'.map (fun x => (x.name, MV.ref x.ia)) = ns.map fun x => (x.name, MV.ref x.ia)) : ST σ' ts d nd rl npo nf ns' :=
  ⟨S', h1.trans S.ts, h2.trans S.d, let ⟨ep, h⟩ := S.dict; ⟨ep, by rw [h3, h, h4]⟩⟩
theorem updN_dict {k : Str} {f : Nd → Nd} (hf : ∀ x, (f x).name = x.name ∧ (f x).ia = x.ia) : (updN ns k f).map (fun x => (x.name, MV.ref x.ia)) = ns.map fun x => (x.name, MV.ref x.ia) := by
  unfold updN; rw [List.map_map]; refine List.map_congr_left fun x _ => ?_
  show ((if x.name = k then f x else x).name, MV.ref (if x.name = k then f x else x).ia) = _
  split
  · rw [(hf x).1, (hf x).2]
  · rfl
theorem ST.setNp (S : ST σ ts d nd rl npo nf ns) {x : Nd} (hx : x ∈ ns) (v : Int) : ST (σ.set x.ia (.inst 84 x.da [some (.str x.name), some (.int v), some (.ref x.sa)])) ts d nd rl npo nf (updN ns x.name fun y => { y with np := v }) := by
  obtain ⟨ep, hd⟩ := S.dict
  refine S.of (S.toSO.setNp hx v) (Sg.set_ne _ _ fun e => ?_) (Sg.set_ne _ _ fun e => ?_) (Sg.set_ne _ _ fun e => ?_) (updN_dict fun _ => ⟨rfl, rfl⟩)
  · have := S.ts; rw [e, S.ia x hx] at this; injection this with this; injection this with this; exact absurd this (by decide)
  · have := S.d; rw [e, S.ia x hx] at this; cases this
  · rw [e, S.ia x hx] at hd; cases hd
theorem ST.addSu (S : ST σ ts d nd rl npo nf ns) {x : Nd} (hx : x ∈ ns) (k : Str) : ST (σ.set x.sa (.list ((x.su ++ [k]).map .str))) ts d nd rl npo nf (updN ns x.name fun y => { y with su := y.su ++ [k] }) := by
  obtain ⟨ep, hd⟩ := S.dict
  refine S.of (S.toSO.addSu hx k) (Sg.set_ne _ _ fun e => ?_) (Sg.set_ne _ _ fun e => ?_) (Sg.set_ne _ _ fun e => ?_) (updN_dict fun _ => ⟨rfl, rfl⟩)
  · have := S.ts; rw [e, S.su x hx] at this; cases this
  · have := S.d; rw [e, S.su x hx] at this; cases this
  · rw [e, S.su x hx] at hd; cases hd
theorem updN_len {k : Str} {f : Nd → Nd} : (updN ns k f).length = ns.length := by simp [updN]
theorem mem_upd {x : Nd} {f : Nd → Nd} (hx : x ∈ ns) : f x ∈ updN ns x.name f := List.mem_map.mpr ⟨x, hx, if_pos rfl⟩
end
end Mine

end
section
open PySem PySem.W PyProof.Rows
namespace Mine

section
variable {prog : Program} {w : World} {K : Frag} {A : Around} {e : Env} {fr : Vars} {σ σ' : Sg} {s s' : Shared}

/-- o[i] = x = value -/
theorem Ex_assignSN {o i value : Expr} {x : Str} {p px pos : Pos} {R : MF → Vars → Sg → Prop} (he : FrE e) (hx : nameOk e x = true)
    (hv : Ev prog w K A e fr σ (eval value e) fun y σ₁ => ∃ ov iv, EP prog w K A e fr σ₁ o ov ∧ EP prog w K A e fr σ₁ i iv ∧ SetI prog w K A e fr σ₁ ov iv y (fun σ₂ => R .next (setv fr x y) σ₂))
    (hrel : ∀ v, assign (.Subscript o i p) e v = (do
      let ov ← holding [v] (eval o e)
      let iv ← holding [v, ov] (eval i e)
      standAt p
      holding [v, ov, iv] (setItem ov iv v)
      release [v, ov, iv] []) := by intro _; rfl)
    (he2 : (assignEach [.Subscript o i p, .Name x px] e).map (·.2) = [assign (.Subscript o i p) e, assign (.Name x px) e] := by rfl)
    (hw : swappedStores [.Subscript o i p, .Name x px] value e = pure none := by rfl) : E1 prog w K A e fr σ (.Assign [.Subscript o i p, .Name x px] value pos) R := fun s r => by
  refine wpAny_Assign_two (wpAny_mono (hv s r) (fun v s₁ hzz => ?_) fun _ _ z => z) he2 hw
  obtain ⟨y, σ₁, r1, t1, rv, ov, iv, ho, hi, hS⟩ := hzz
  rw [hrel]
  refine wpAny_bind (wpAny_holding (wpAny_mono (ho s₁ r1) (fun va s₂ ⟨x2, ra⟩ => wpAny_bind (wpAny_holding (wpAny_mono (hi s₂ (r1.ext x2)) (fun vi s₃ ⟨x3, ri⟩ => wpAny_bind (wpAny_standAt (wpAny_bind (wpAny_holding ?_)))) fun _ _ z => z))) fun _ _ z => z))
  refine wpAny_mono (hS s₃ va vi v ((r1.ext x2).ext x3) (ra.ext x3.keep) ri ((rv.ext x2.keep).ext x3.keep)) (fun _ s₄ hzz => ?_) fun _ _ z => z
  obtain ⟨σ₂, r4, t4, hR⟩ := hzz
  refine wpAny_releaseD (wpAny_assign_Name (wpAny_mono (r4.store he (((r1.ext x2).ext x3).vr t4 ((rv.ext x2.keep).ext x3.keep)) (nameOk_or hx) (Q := fun _ s' => RepF prog w K (flOf A) e (setv fr x y) σ₂ s' ∧ Step (own e) σ₂ s₄ σ₂ s') fun s' p q _ => ⟨p, q⟩) (fun _ s₅ ⟨r5, t5⟩ => ⟨.next, _, σ₂, r5, ((t1.trans (x2.trans x3).step).trans t4).trans t5, rfl, hR⟩) fun _ _ z => z))

/-- a tuple of what may be new -/
theorem Ev_tuple {xs : List Expr} {k : Nat} {pos : Pos} {R : MV → Sg → Prop} (h : Evs prog w K A e fr σ xs fun ys σ₁ => ys.length ≤ 1000 ∧ R (.tup ys) σ₁) : Ev prog w K A e fr σ (eval (.Tuple xs k pos) e) R := fun s r =>
  wpAny_Tuple (wpAny_mono (h pos s r) (fun vs s₁ ⟨ys, σ₁, p, q, rs, hn, hR⟩ => ⟨by rw [rs.length, big_line]; omega, .tup ys, σ₁, p.ext .push, q.trans Ext.push.step, ⟨s₁.heap.objs.size, vs.toArray, 0, rfl, seq_fresh p.toRep (Nat.le_refl _), Heap.get?_push_size _ rfl, by simpa using rs.ext fun _ _ g => Heap.get?_push_of_some _ g⟩, hR⟩) fun _ _ f => f)

/-- stores one behind the other -/
noncomputable def Stores (e : Env) : List (Value → Sem Unit) → List Str → Prop
  | [], [] => True
  | t :: ts, x :: xs => (∀ (M : Model) (A : Around) (v : Value) (Q : Unit → Shared → Prop) (E : Value → Shared → Prop) (s : Shared), wpAny M A (storeName e x v) Q E s → wpAny M A (t v) Q E s) ∧ nameOk e x = true ∧ Stores e ts xs
  | _, _ => False
noncomputable def setAll (fr : Vars) : List Str → List MV → Vars
  | x :: xs, y :: ys => setAll (setv fr x y) xs ys
  | _, _ => fr
theorem storeAll (he : FrE e) : ∀ {ts : List (Value → Sem Unit)} {xs : List Str} {ys : List MV} {vs : List Value} {fr : Vars} {s : Shared}, Stores e ts xs → xs.length = ys.length → VRs s.heap σ ys vs → RepF prog w K (flOf A) e fr σ s →
    wpAny (model prog w) A (assignInOrder ts vs) (fun _ s' => RepF prog w K (flOf A) e (setAll fr xs ys) σ s' ∧ Step (own e) σ s σ s') (fun _ _ => False) s := by
  intro ts
  induction ts with
  | nil =>
    intro xs ys vs fr s h hl rs r
    cases xs with
    | cons x xs => exact h.elim
    | nil =>
      cases ys with
      | cons y ys => cases hl
      | nil => rw [show vs = [] from rs]; exact wpAny_pure ⟨r, .refl⟩
  | cons t ts ih =>
    intro xs ys vs fr s h hl rs r
    cases xs with
    | nil => exact h.elim
    | cons x xs =>
    cases ys with
    | nil => cases hl
    | cons y ys =>
    obtain ⟨h1, h2, h3⟩ := h
    obtain ⟨v, vs, e1, rv, rr⟩ := rs
    subst e1
    unfold assignInOrder
    refine wpAny_bind (wpAny_holding (h1 _ _ _ _ _ _ (wpAny_mono (r.store he rv (nameOk_or h2) (Q := fun _ s' => RepF prog w K (flOf A) e (setv fr x y) σ s' ∧ Step (own e) σ s σ s') fun s' p q _ => ⟨p, q⟩) (fun _ s₁ hzz => ?_) fun _ _ z => z)))
    obtain ⟨r1, t1⟩ := hzz
    exact wpAny_mono (ih h3 (by simpa using hl) (r.vrs t1 rr) r1) (fun _ s₂ ⟨r2, t2⟩ => ⟨r2, t1.trans t2⟩) fun _ _ z => z

theorem RepF.extBut0 (r : RepF prog w K (flOf A) e fr σ s) {h' : Heap} (hs : Heap.ExtBut s.heap.objs.size s.heap h') : RepF prog w K (flOf A) e fr σ { s with heap := h' } ∧ Step (own e) σ s σ { s with heap := h' } := by
  have x : Ext s { s with heap := h' } := ⟨fun b o g => hs b o (fun e1 => by rw [e1] at g; exact Nat.lt_irrefl _ (Heap.lt_size g)) g, rfl, rfl⟩
  exact ⟨r.ext x, x.step⟩

/-- a, b, ... = value -/
theorem Ex_assignT {elts : List Expr} {k : Nat} {tpos pos : Pos} {value : Expr} {xs : List Str} {R : MF → Vars → Sg → Prop} (he : FrE e) (hh : A.handled = none) (hst : Stores e ((assignEach elts e).map (·.2)) xs)
    (hv : Ev prog w K A e fr σ (eval value e) fun y σ₁ => ∃ ys, y = .tup ys ∧ ys.length = xs.length ∧ R .next (setAll fr xs ys) σ₁)
    (hn : (assignEach elts e).length = xs.length := by rfl) (hstar : (assignEach elts e).findIdx? (·.1) = none := by rfl)
    (hs : swapsWithSole [.Tuple elts k tpos] value pos.line e = pure false := by rfl)
    (hw : swappedStores [.Tuple elts k tpos] value e = pure none := by rfl) : E1 prog w K A e fr σ (.Assign [.Tuple elts k tpos] value pos) R := fun s r => by
  refine Assign_Tuple (wpAny_mono (hv s r) (fun v s₁ hzz => ?_) fun _ _ z => z) hs hw
  obtain ⟨y, σ₁, r1, t1, rv, ys, e1, hl, hR⟩ := hzz
  subst e1
  obtain ⟨a, its, n, rfl, _, g, q⟩ := id rv
  refine wpAny_assign_Tuple hh (isTupH g) (by rw [hn, q.size, hl]) hstar fun h' hs' => ?_
  obtain ⟨r2, t2⟩ := r1.extBut0 hs'
  exact wpAny_mono (storeAll he hst hl.symm (r1.vrs t2 q) r2) (fun _ s₃ ⟨r3, t3⟩ => ⟨.next, _, σ₁, r3, (t1.trans t2).trans t3, rfl, hR⟩) fun _ _ z => z

/-- a, b = x, y with both stores turned -/
theorem Ex_assignTS {elts : List Expr} {k : Nat} {tpos pos : Pos} {value : Expr} {xs : List Str} {R : MF → Vars → Sg → Prop} (he : FrE e) (hh : A.handled = none) (hok : ∀ x ∈ xs, nameOk e x = true)
    (hv : Ev prog w K A e fr σ (eval value e) fun y σ₁ => ∃ ys, y = .tup ys ∧ ys.length = xs.length ∧ R .next (setAll fr xs.reverse ys.reverse) σ₁)
    (hs : swapsWithSole [.Tuple elts k tpos] value pos.line e = pure false := by rfl)
    (hw : swappedStores [.Tuple elts k tpos] value e = pure (some xs) := by rfl) : E1 prog w K A e fr σ (.Assign [.Tuple elts k tpos] value pos) R := fun s r => by
  refine Assign_Tuple_swapped (wpAny_mono (hv s r) (fun v s₁ hzz => ?_) fun _ _ z => z) hs hw
  obtain ⟨y, σ₁, r1, t1, rv, ys, e1, hl, hR⟩ := hzz
  subst e1
  obtain ⟨a, its, n, rfl, _, g, q⟩ := id rv
  rw [← hl, ← q.size]
  refine unpackItems_tuple hh (isTup g) fun h' hs' => ?_
  obtain ⟨r2, t2⟩ := r1.extBut0 hs'
  have hst : ∀ zs : List Str, (∀ x ∈ zs, nameOk e x = true) → Stores e (zs.map fun n => bindName e n) zs := fun zs => by
    induction zs with
    | nil => exact fun _ => trivial
    | cons z zs ih => exact fun hz => ⟨fun M A v Q E s h => wpAny_bindName h, hz z (.head _), ih fun x hx => hz x (.tail _ hx)⟩
  exact wpAny_mono (storeAll he (hst xs.reverse fun x hx => hok x (List.mem_reverse.mp hx)) (by simp [hl]) (r1.vrs t2 q).reverse r2) (fun _ s₃ ⟨r3, t3⟩ => ⟨.next, _, σ₁, r3, (t1.trans t2).trans t3, rfl, hR⟩) fun _ _ z => z
end
end Mine

end
section
open PySem PySem.W PyProof.Rows
namespace Mine

/-- what the run's top leaves, as far as it is used -/
structure KF (K : Frag) : Prop where
  ok : KOk K
  sys : sysOk K
  ni : clsS K 84 = true
  ni_node : slotB K 84 "node" 85 0 = true
  ni_np : slotB K 84 "npredecessors" 86 1 = true
  ni_su : slotB K 84 "successors" 87 2 = true
  ni_make : makeB K 84 80 = true
  f_ni : fnOk K 80 (inCls (topS 8) 1)
  ts : clsB K 181 = true
  ts_n : ownB K 181 "_node2info" = true
  ts_r : ownB K 181 "_ready_nodes" = true
  ts_p : ownB K 181 "_npassedout" = true
  ts_f : ownB K 181 "_nfinished" = true
  ts_make : makeB K 181 117 = true
  f_tsi : DefAt K 117 (fA (inCls (topS 10) 0)) (fB (inCls (topS 10) 0)) (fS (inCls (topS 10) 0)) (.ref 110)
  t110 : ∃ n, K.lookup 110 = some (tupO #[.none] n)
  m_get : methB K 181 "_get_nodeinfo" 124 = true
  f_get : fnOk K 124 (inCls (topS 10) 1)
  m_add : methB K 181 "add" 131 = true
  f_add : fnOk K 131 (inCls (topS 10) 2)
  m_prep : methB K 181 "prepare" 136 = true
  f_prep : fnOk K 136 (inCls (topS 10) 3)
  m_ready : methB K 181 "get_ready" 143 = true
  f_ready : fnOk K 143 (inCls (topS 10) 4)
  m_act : methB K 181 "is_active" 150 = true
  f_act : fnOk K 150 (inCls (topS 10) 5)
  m_done : methB K 181 "done" 164 = true
  f_done : fnOk K 164 (inCls (topS 10) 7)
  m_cyc : methB K 181 "_find_cycle" 171 = true
  f_cyc : fnOk K 171 (inCls (topS 10) 8)
  g_ni : glb K "_NodeInfo" (.ref 84)
  g_ts : glb K "TopologicalSorter" (.ref 181)
  g_out : glb K "_NODE_OUT" (.int (-1))
  g_dn : glb K "_NODE_DONE" (.int (-2))
  g_len : glb K "len" (.bi "len")
  g_tuple : glb K "tuple" (.ty "tuple")
  g_list : glb K "list" (.ty "list")
  g_bool : glb K "bool" (.ty "bool")
  g_set : glb K "set" (.ty "set")
  g_iter : glb K "iter" (.bi "iter")
  g_stop : gl K "StopIteration" = some (.type "StopIteration")

theorem setv_hit {x : Str} {y z : MV} {r : Vars} : setv ((x, y) :: r) x z = (x, z) :: r := by unfold setv; simp

section
variable {prog : Program} {w : World} {K : Frag} {A : Around} {σ : Sg}
local macro_rules | `(tactic| trivial) => `(tactic| first | exact SubL.n | (refine SubL.c rfl ?_; trivial) | exact Ep_local (by assumption) rfl rfl rfl | exact Ep_int | exact Ep_none)

theorem fn_ni {n : Nat} (KK : KF K) {x dx : Addr} {k : Str} (hx : σ x = some (.inst 84 dx [])) (hd : σ dx = some (.ns [])) :
    Fn prog w K (n + 1) (.ref 80) [.ref x, .str k] σ (fun y σ' => y = .none ∧ ∃ sa, σ sa = none ∧ σ' x = some (.inst 84 dx [some (.str k), some (.int 0), some (.ref sa)]) ∧ σ' sa = some (.list []) ∧ Stay (· = x) σ σ') := by
  refine Fn_pos KK.ok KK.f_ni.1 ["self", "node"] (by decide +kernel) rfl (fun _ _ _ _ _ _ _ _ => len2 fun _ _ => rfl) ?_
  intro L q cdv A ha hh
  have he : FrE (fe (fS (inCls (topS 8) 1)) L q 80 cdv) := frE_fe rfl
  have hne : dx ≠ x := fun e => by rw [e, hx] at hd; cases hd
  refine Ex_cons (Ex_setAttr (Ep.ev (by trivial) ⟨_, by trivial, SetA_slotA hx hd (by decide) KK.ni KK.ni_node ?_⟩))
  refine Ex_cons (Ex_setAttr (Ep.ev (by trivial) ⟨_, by trivial, SetA_slotA (Sg.set_same ..) ((Sg.set_ne _ _ hne).trans hd) (by decide) KK.ni KK.ni_np ?_⟩))
  refine Ex_cons (Ex_setAttr (Ev_list (Evs_nil ⟨by simp, fun sa hsa => ⟨_, by trivial, SetA_slotA (vs := [some (.str k), some (.int 0)]) (d := dx) (es := []) ?_ ?_ (by decide) KK.ni KK.ni_su ?_⟩⟩)))
  all_goals rw [Sg.set_set] at *
  · have : x ≠ sa := fun e => by rw [← e, Sg.set_same] at hsa; cases hsa
    rw [Sg.set_ne _ _ this, Sg.set_same]; rfl
  · have : dx ≠ sa := fun e => by rw [← e, Sg.set_ne _ _ hne, hd] at hsa; cases hsa
    rw [Sg.set_ne _ _ this, Sg.set_ne _ _ hne, hd]
  · have hxs : sa ≠ x := fun e => by rw [e, Sg.set_same] at hsa; cases hsa
    have hs0 : σ sa = none := by rwa [Sg.set_ne _ _ hxs] at hsa
    refine Ex_nil ⟨rfl, sa, hs0, by rw [Sg.set_same]; rfl, by rw [Sg.set_ne _ _ hxs, Sg.set_same], ?_⟩
    exact ((Stay.set (F := (· = x)) rfl).trans (Stay.new hsa)).trans (Stay.set (F := (· = x)) rfl)

/-- the node's entry, an old one or a new one -/
theorem fn_get {n : Nat} (KK : KF K) {ts d nd : Addr} {rl : MV} {npo nf : Int} {ns : List Nd} {k : Str} (S : ST σ ts d nd rl npo nf ns) (hn : ns.length ≤ 100) :
    Fn prog w K (n + 3) (.ref 124) [.ref ts, .str k] σ (fun y σ' => ∃ x ns', x ∈ ns' ∧ x.name = k ∧ y = .ref x.ia ∧ ST σ' ts d nd rl npo nf ns' ∧ Stay (· = nd) σ σ' ∧ ((k ∈ ns.map (·.name) ∧ ns' = ns) ∨ (k ∉ ns.map (·.name) ∧ x.np = 0 ∧ x.su = [] ∧ ns' = ns ++ [x] ∧ σ x.sa = none ∧ σ x.ia = none))) := by
  refine Fn_pos KK.ok KK.f_get.1 ["self", "node"] (by decide +kernel) rfl (fun _ _ _ _ _ _ _ _ => len2 fun _ _ => rfl) ?_
  intro L q cdv A ha hh
  have he : FrE (fe (fS (inCls (topS 10) 1)) L q 124 cdv) := frE_fe rfl
  obtain ⟨ep, hdict⟩ := S.dict
  have n2i : ∀ fr σ', σ' ts = some (.inst 181 d []) → σ' d = some (.ns (nsS nd rl npo nf)) → (fr.lookup ("self" : Str) = some (.ref ts)) → ∀ p1 p2, EP prog w K A (fe (fS (inCls (topS 10) 1)) L q 124 cdv) fr σ' (.Attribute (.Name "self" p1) "_node2info" p2) (.ref nd) := fun fr σ' h1 h2 h3 p1 p2 =>
    Ep_own (Ep_local he rfl h3 rfl) h1 h2 rfl handed_ref KK.ts KK.ts_n
  refine Ex_cons (Ex_ifWalrus he rfl (Ep.ev (Ep_bmeth (n2i _ _ S.ts S.d rfl _ _) (Rep.isDict hdict) F.plainAttrs_dict F.slot_dict_get F.type_dict_get (EPs_cons (by trivial) EPs_nil) (OC_dget KK.sys hdict)) ?_))
  rcases dict_lookup (k := k) (ns := ns) with ⟨x, hx, hxk, hl⟩ | ⟨hnk, hl⟩
  · rw [hl, if_neg (show ¬ isNone ((some (MV.ref x.ia)).getD MV.none) = true from Bool.false_ne_true)]
    refine Ex_nil (Ex_cons (Ex_return (Ep.ev (Ep_local he rfl rfl rfl) ?_)))
    exact ⟨x, ns, hx, hxk, rfl, S, .refl, .inl ⟨hxk ▸ List.mem_map.mpr ⟨x, hx, rfl⟩, rfl⟩⟩
  · rw [hl, if_pos (show isNone ((none : Option MV).getD MV.none) = true from rfl)]
    refine Ex_cons (Ex_assignSN he rfl (Ev_make (Ep_glb KK.g_ni he rfl rfl) KK.ni_make ha hh ((EPs_cons (Ep_local he rfl rfl rfl) EPs_nil).evs fun ia da hia hda hne => (fn_ni KK (Sg.set_same ..) ((Sg.set_ne _ _ hne.symm).trans (Sg.set_same ..))).mono ?_)))
    rintro y σ' ⟨rfl, sa, hsa, h1, h2, hst⟩
    refine ⟨rfl, ?_⟩
    have hst0 : Stay (fun _ => False) σ σ' := fun a m h _ => by
      refine hst a m ?_ (fun e1 => by rw [e1, hia] at h; cases h)
      exact set_more ((Sg.set_ne _ _ hne).trans hia) _ _ (set_more hda _ _ h)
    have hdict' : σ' nd = some (.dict (ns.map fun x => (x.name, MV.ref x.ia)) ep) := hst0 _ _ hdict id
    have hsaσ : σ sa = none := by
      cases z : σ sa with
      | none => rfl
      | some m => rw [set_more ((Sg.set_ne _ _ hne).trans hia) _ _ (set_more hda _ _ z)] at hsa; cases hsa
    refine ⟨_, _, n2i _ _ (hst0 _ _ S.ts id) (hst0 _ _ S.d id) rfl _ _, Ep_local he rfl rfl rfl, SetI_dict hdict' (by simp; omega) fun ep' => ?_⟩
    refine Ex_nil (Ex_cons (Ex_return (Ep.ev (Ep_local he rfl rfl rfl) ?_)))
    have hnd : ∀ a m, σ' a = some m → (∀ es ep, m ≠ .dict es ep) → (σ'.set nd (.dict (setv (ns.map fun x => (x.name, MV.ref x.ia)) k (.ref ia)) ep')) a = some m := fun a m h1 h2 => by
      rw [Sg.set_ne _ _ (fun e1 => by rw [e1, hdict'] at h1; cases h1; exact h2 _ _ rfl)]; exact h1
    have h3 : σ' da = some (.ns []) := hst _ _ ((Sg.set_ne _ _ hne.symm).trans (Sg.set_same ..)) hne.symm
    refine ⟨⟨k, ia, da, sa, 0, []⟩, ns ++ [⟨k, ia, da, sa, 0, []⟩], by simp, rfl, rfl, ⟨S.toSO.new (fun a m h1 h2 => hnd _ _ (hst0 _ _ h1 id) h2) hnk hsaσ (hnd _ _ h1 nofun) (hnd _ _ h3 nofun) (hnd _ _ h2 nofun), hnd _ _ (hst0 _ _ S.ts id) nofun, hnd _ _ (hst0 _ _ S.d id) nofun, ep', ?_⟩, ?_, .inr ⟨hnk, rfl, rfl, rfl, hsaσ, hia⟩⟩
    · rw [Sg.set_same, setv_notmem (by rw [List.map_map]; exact hnk), List.map_append]; rfl
    · exact (hst0.mono (fun _ h => h.elim)).trans (Stay.set (F := (· = nd)) rfl)
end
end Mine

end
section
open PySem PySem.W PyProof.Rows
namespace Mine

/-! the sorter's plain part -/
noncomputable abbrev PN := Str × Int × List Str
noncomputable def view (ns : List Nd) : List PN := ns.map fun x => (x.name, x.np, x.su)
noncomputable def touch (ps : List PN) (k : Str) : List PN := if k ∈ ps.map (·.1) then ps else ps ++ [(k, 0, [])]
noncomputable def updP (ps : List PN) (k : Str) (f : PN → PN) : List PN := ps.map fun p => if p.1 = k then f p else p
noncomputable def link (ps : List PN) (p k : Str) : List PN := updP (touch ps p) p fun q => (q.1, q.2.1, q.2.2 ++ [k])
noncomputable def addP (ps : List PN) (k : Str) (preds : List Str) : List PN := preds.foldl (fun ps p => link ps p k) (updP (touch ps k) k fun q => (q.1, q.2.1 + preds.length, q.2.2))

theorem view_names (ns : List Nd) : (view ns).map (·.1) = ns.map (·.name) := by unfold view; rw [List.map_map]; rfl
theorem view_len (ns : List Nd) : (view ns).length = ns.length := by simp [view]
theorem touch_len (ps : List PN) (k : Str) : (touch ps k).length ≤ ps.length + 1 := by unfold touch; split <;> simp
theorem link_len (ps : List PN) (p k : Str) : (link ps p k).length ≤ ps.length + 1 := by unfold link updP; rw [List.length_map]; exact touch_len ..
theorem view_updN {ns : List Nd} {k : Str} {f : Nd → Nd} {g : PN → PN} (h : ∀ x, ((f x).name, (f x).np, (f x).su) = g (x.name, x.np, x.su)) : view (updN ns k f) = updP (view ns) k g := by
  unfold view updN updP
  rw [List.map_map, List.map_map]
  refine List.map_congr_left fun x _ => ?_
  show ((if x.name = k then f x else x).name, (if x.name = k then f x else x).np, (if x.name = k then f x else x).su) = if x.name = k then g (x.name, x.np, x.su) else (x.name, x.np, x.su)
  split
  · exact h x
  · rfl

section
variable {prog : Program} {w : World} {K : Frag} {A : Around} {σ : Sg}
local macro_rules | `(tactic| trivial) => `(tactic| first | exact SubL.n | (refine SubL.c rfl ?_; trivial) | exact Ep_local (by assumption) rfl rfl rfl | exact Ep_int | exact Ep_none)

theorem bindsX_dflt {fd : FuncData} {y d : MV} {x1 x2 : Str} {t : Addr} {n : Nat} {k : Value → Option (Array Value) → Sem (List (Str × Value))} {dv : Value} (hK : K.lookup t = some (tupO #[dv] n)) (hd : VC d dv) (h₁ : ∀ v, bindArgs fd ⟨[v], []⟩ = seqItems? (.ref t) >>= k v) (h₂ : ∀ v, k v (some #[dv]) = pure [(x1, v), (x2, dv)]) :
    BindsX prog w K σ fd [y] [(x1, y), (x2, d)] := by
  intro s vs A E Q r rs q
  obtain ⟨v, rfl, rv⟩ := rs.one
  rw [h₁]
  refine wpAny_bind (wpAny_seqItems (r.top _ _ hK) rfl ?_)
  rw [h₂]
  exact wpAny_pure (q s _ .refl rfl ⟨v, [dv], rfl, rv, dv, [], rfl, hd _ _, rfl⟩)

theorem fn_tsi {n : Nat} (KK : KF K) {x dx : Addr} (hx : σ x = some (.inst 181 dx [])) (hd : σ dx = some (.ns [])) :
    Fn prog w K (n + 1) (.ref 117) [.ref x] σ (fun y σ' => y = .none ∧ ∃ nd, σ nd = none ∧ ST σ' x dx nd .none 0 0 [] ∧ Stay (· = dx) σ σ') := by
  obtain ⟨n110, h110⟩ := KK.t110
  refine Fn_def KK.ok KK.f_tsi (fr := [("self", .ref x), ("graph", .none)]) (fun name qual kV doc pm an cdv ct => bindsX_dflt h110 (d := .none) (fun _ _ => rfl) (fun _ => rfl) (fun _ => rfl)) (by decide +kernel : ([("self", ()), ("graph", ())] : List (Str × Unit)).map (·.1) |>.Nodup) (by exact (by decide +kernel : (([("self", ()), ("graph", ())] : List (Str × Unit)).all fun x => match (fS (inCls (topS 10) 0)).names.lookup x.1 with | some .local => true | some .cell => ((cellsFrom 0 (fS (inCls (topS 10) 0)).names []).lookup x.1).isSome | _ => false) = true)) (by decide +kernel) ?_
  intro L q cdv A ha hh
  have he : FrE (fe (fS (inCls (topS 10) 0)) L q 117 cdv) := frE_fe rfl
  refine Ex_cons (Ex_setAttr (Ev_dict fun nd ep hnd => ⟨_, by trivial, ?_⟩))
  have hxn : nd ≠ x := fun e => by rw [e, hx] at hnd; cases hnd
  have hdn : nd ≠ dx := fun e => by rw [e, hd] at hnd; cases hnd
  have hxd : x ≠ dx := fun e => by rw [e, hd] at hx; cases hx
  have hx1 : (σ.set nd (.dict [] ep)) x = some (.inst 181 dx []) := (Sg.set_ne _ _ hxn.symm).trans hx
  refine SetA_own hx1 ((Sg.set_ne _ _ hdn.symm).trans hd) (by simp) KK.ts KK.ts_n ?_
  refine Ex_cons (Ex_setAttr (Ep.ev (by trivial) ⟨_, by trivial, SetA_own ((Sg.set_ne _ _ hxd).trans hx1) (Sg.set_same ..) (by show 1 < 900; decide) KK.ts KK.ts_r ?_⟩))
  rw [Sg.set_set]
  refine Ex_cons (Ex_setAttr (Ep.ev (by trivial) ⟨_, by trivial, SetA_own ((Sg.set_ne _ _ hxd).trans hx1) (Sg.set_same ..) (by show 2 < 900; decide) KK.ts KK.ts_p ?_⟩))
  rw [Sg.set_set]
  refine Ex_cons (Ex_setAttr (Ep.ev (by trivial) ⟨_, by trivial, SetA_own ((Sg.set_ne _ _ hxd).trans hx1) (Sg.set_same ..) (by show 3 < 900; decide) KK.ts KK.ts_f ?_⟩))
  rw [Sg.set_set]
  refine Ex_cons (Ex_ifp (b := false) (Tp_cmp (by trivial) Ep_none O2_isnotNone) (fun h => nomatch h) fun _ => Ex_nil (Ex_nil ⟨rfl, nd, hnd, ?_, fun a m h hn => (Sg.set_ne _ _ hn).trans (set_more hnd _ _ h)⟩))
  exact ⟨⟨List.nodup_nil, List.nodup_nil, (nofun), (nofun), (nofun)⟩, (Sg.set_ne _ _ hxd).trans hx1, Sg.set_same .., ep, (Sg.set_ne _ _ hdn).trans (Sg.set_same ..)⟩

theorem get_view {ns ns' : List Nd} {x : Nd} {k : Str} {Z : Prop} (h : (k ∈ ns.map (·.name) ∧ ns' = ns) ∨ (k ∉ ns.map (·.name) ∧ x.np = 0 ∧ x.su = [] ∧ ns' = ns ++ [x] ∧ Z)) (hx : x.name = k) : view ns' = touch (view ns) k := by
  unfold touch
  rw [view_names]
  rcases h with ⟨h1, rfl⟩ | ⟨h1, h2, h3, rfl, -⟩
  · rw [if_pos h1]
  · rw [if_neg h1]; simp [view, h2, h3, hx]

/-- what was there before the sorter, apart from its places -/
noncomputable def Sep (σ₀ σ : Sg) (nd : Addr) (ns : List Nd) : Prop := ∀ a m, σ₀ a = some m → a ≠ nd → σ a = some m ∧ ∀ x ∈ ns, x.sa ≠ a ∧ x.ia ≠ a
theorem Sep.get {σ₀ σ σ₁ : Sg} {nd : Addr} {ns ns' : List Nd} {x : Nd} {k : Str} (h : Sep σ₀ σ nd ns) (hst : Stay (· = nd) σ σ₁) (hv : (k ∈ ns.map (·.name) ∧ ns' = ns) ∨ (k ∉ ns.map (·.name) ∧ x.np = 0 ∧ x.su = [] ∧ ns' = ns ++ [x] ∧ σ x.sa = none ∧ σ x.ia = none)) : Sep σ₀ σ₁ nd ns' := fun a m ha hn => by
  obtain ⟨h1, h2⟩ := h a m ha hn
  refine ⟨hst a m h1 hn, fun y hy => ?_⟩
  rcases hv with ⟨_, rfl⟩ | ⟨_, _, _, rfl, h3, h4⟩
  · exact h2 y hy
  · rcases List.mem_append.mp hy with hy | hy
    · exact h2 y hy
    · rw [List.mem_singleton.mp hy]
      exact ⟨fun e => (by rw [e, h1] at h3; cases h3), fun e => (by rw [e, h1] at h4; cases h4)⟩
theorem Sep.set {σ₀ σ : Sg} {nd b : Addr} {ns : List Nd} {k : Str} {f : Nd → Nd} {mm : MObj} (h : Sep σ₀ σ nd ns) (hb : ∃ x ∈ ns, b = x.sa ∨ b = x.ia) (hf : ∀ y, (f y).sa = y.sa ∧ (f y).ia = y.ia) : Sep σ₀ (σ.set b mm) nd (updN ns k f) := fun a m ha hn => by
  obtain ⟨h1, h2⟩ := h a m ha hn
  obtain ⟨x, hx, hb⟩ := hb
  have hab : a ≠ b := fun e => hb.elim (fun hb => (h2 x hx).1 (hb.symm.trans e.symm)) fun hb => (h2 x hx).2 (hb.symm.trans e.symm)
  refine ⟨(Sg.set_ne _ _ hab).trans h1, fun y hy => ?_⟩
  obtain ⟨z, hz, rfl⟩ := mem_updN hy
  split
  · rw [(hf z).1, (hf z).2]; exact h2 z hz
  · exact h2 z hz

theorem touch_su {ps : List PN} {m : Nat} {k : Str} (h : ∀ p ∈ ps, p.2.2.length ≤ m) (qs : List PN) (e : qs = touch ps k) : ∀ p ∈ qs, p.2.2.length ≤ m := by
  intro p hp
  rw [e] at hp
  unfold touch at hp
  split at hp
  · exact h p hp
  · rcases List.mem_append.mp hp with hp | hp
    · exact h p hp
    · rw [List.mem_singleton.mp hp]; exact Nat.zero_le _

theorem fn_add {n : Nat} (KK : KF K) {ts d nd : Addr} {npo nf : Int} {ns : List Nd} {k : Str} {preds : List Str} (S : ST σ ts d nd .none npo nf ns) (hn : ns.length + preds.length < 90) {m : Nat} (hm : m + preds.length ≤ 1000) (hsu : ∀ p ∈ view ns, p.2.2.length ≤ m)
    (hb : ∀ (name qual : Str) kV doc pm an cdv ct, ∀ vs us : List Value, vs.length = 2 → us.length = preds.length → bindArgs (fnOf name qual (fA (inCls (topS 10) 2)) (fB (inCls (topS 10) 2)) (fS (inCls (topS 10) 2)) .none kV doc pm an cdv ct) ⟨vs ++ us, []⟩ = (newTuple us >>= fun t => pure ((["self", "node"] : List Str).zip vs ++ [(("predecessors" : Str), t)]))) :
    Fn prog w K (n + 4) (.ref 131) ([.ref ts, .str k] ++ preds.map .str) σ (fun y σ' => ∃ ns', ST σ' ts d nd .none npo nf ns' ∧ view ns' = addP (view ns) k preds ∧ ∀ σ₀, Sep σ₀ σ nd ns → Sep σ₀ σ' nd ns') := by
  refine Fn_var KK.ok KK.f_add.1 ["self", "node"] "predecessors" (by decide +kernel) rfl (by simp; omega) (by rw [List.length_map]; exact hb) ?_
  intro L q cdv A ha hh
  have he : FrE (fe (fS (inCls (topS 10) 2)) L q 131 cdv) := frE_fe rfl
  refine EX_post fun Qp _ hQp => ?_
  refine Ex_cons (Ex_ifp (b := false) (Tp_cmp (Ep_own (by trivial) S.ts S.d rfl handed_none KK.ts KK.ts_r) Ep_none O2_isnotNone) (fun h => nomatch h) fun _ => Ex_nil ?_)
  refine Ex_cons (Ex_assign he rfl (Ev_methA (by trivial) S.ts S.d rfl KK.m_get ha hh ((EPs_cons (by trivial) EPs_nil).evs ((fn_get KK S (by omega)).mono ?_))))
  rintro y σ₁ ⟨x, ns₁, hx, hxk, rfl, S₁, hst1, hv⟩
  have sp1 : ∀ σ₀, Sep σ₀ σ nd ns → Sep σ₀ σ₁ nd ns₁ := fun _ h => h.get hst1 hv
  have hv := get_view hv hxk
  have hl1 : ns₁.length ≤ ns.length + 1 := by rw [← view_len ns₁, hv, ← view_len ns]; exact touch_len ..
  refine Ex_cons (Ex_augAttr (by trivial) (O1_slotA (S₁.ia x hx) (S₁.da x hx) rfl handed_int KK.ni KK.ni_np) (Ep_call (Ep_glb KK.g_len he rfl rfl) (fun _ _ _ r => r) keepsOk_builtin (EPs_cons (by trivial) EPs_nil) (OC_lenT (by simp; omega))) O2_iaddI (SetA_slotA (S₁.ia x hx) (S₁.da x hx) (by decide) KK.ni KK.ni_np ?_))
  have S₂ := S₁.setNp hx (x.np + ((preds.map MV.str).length : Int))
  have hv2 : view (updN ns₁ x.name fun y => { y with np := x.np + ((preds.map MV.str).length : Int) }) = updP (touch (view ns) k) k fun q => (q.1, q.2.1 + preds.length, q.2.2) := by
    rw [← hv, ← hxk, List.length_map]
    unfold view updN updP
    rw [List.map_map, List.map_map]
    refine List.map_congr_left fun y hy => ?_
    show ((if y.name = x.name then { y with np := x.np + (preds.length : Int) } else y).name, (if y.name = x.name then { y with np := x.np + (preds.length : Int) } else y).np, (if y.name = x.name then { y with np := x.np + (preds.length : Int) } else y).su) = if y.name = x.name then (y.name, y.np + (preds.length : Int), y.su) else (y.name, y.np, y.su)
    split
    · rename_i h; rw [S₁.inj hy hx h]
    · rfl
  have sp2 : ∀ σ₀, Sep σ₀ σ nd ns → Sep σ₀ _ nd _ := fun σ₀ h => (sp1 σ₀ h).set (k := x.name) (f := fun y => { y with np := x.np + ((preds.map MV.str).length : Int) }) (mm := .inst 84 x.da [some (.str x.name), some (.int (x.np + ((preds.map MV.str).length : Int))), some (.ref x.sa)]) ⟨x, hx, .inr rfl⟩ fun _ => ⟨rfl, rfl⟩
  have hl2 : (updN ns₁ x.name fun y => { y with np := x.np + ((preds.map MV.str).length : Int) }).length ≤ ns.length + 1 := by rw [updN_len]; exact hl1
  have hsu2 : ∀ p ∈ view (updN ns₁ x.name fun y => { y with np := x.np + ((preds.map MV.str).length : Int) }), p.2.2.length ≤ m + 0 := by
    intro p hp
    obtain ⟨y, hy, rfl⟩ := List.mem_map.mp hp
    obtain ⟨y', hy', rfl⟩ := mem_updN hy
    have h1 := touch_su hsu (view ns₁) hv _ (List.mem_map.mpr ⟨y', hy', rfl⟩)
    split <;> exact h1
  generalize updN ns₁ x.name (fun y => { y with np := x.np + ((preds.map MV.str).length : Int) }) = ns₂ at S₂ hv2 hl2 hsu2 sp2
  refine Ex_cons (Ex_for he rfl (fun xs C i fr σ' => ∃ ns', xs = preds.map .str ∧ C = (fun _ => True) ∧ ST σ' ts d nd .none npo nf ns' ∧ view ns' = (preds.take i).foldl (fun ps p => link ps p k) (view ns₂) ∧ ns'.length ≤ ns.length + 1 + i ∧ (∀ p ∈ view ns', p.2.2.length ≤ m + i) ∧ (∀ σ₀, Sep σ₀ σ nd ns → Sep σ₀ σ' nd ns') ∧ fr = ([("self", .ref ts), ("node", .str k)] : Vars))
    ((SrcP_of (by trivial) (It_tup hh)).src ⟨⟨_, ⟨ns₂, rfl, rfl, S₂, rfl, hl2, hsu2, sp2, rfl⟩, by trivial⟩, ?_, ?_, ?_⟩))
  · exact fun _ _ _ _ => True.intro
  · rintro i y fr σ' Q hQ - - hy ⟨ns₃, -, -, S₃, hv3, hl3, hsu3, sp3, rfl⟩
    obtain ⟨p, hp, rfl⟩ : ∃ p, preds[i]? = some p ∧ y = .str p := by
      rw [List.getElem?_map] at hy
      obtain ⟨p, hp, e⟩ := Option.map_eq_some_iff.mp hy
      exact ⟨p, hp, e.symm⟩
    have hip : i < preds.length := (List.getElem?_eq_some_iff.mp hp).1
    refine Ex_cons (Ex_assign he rfl (Ev_methA (by trivial) S₃.ts S₃.d rfl KK.m_get ha hh ((EPs_cons (by trivial) EPs_nil).evs ((fn_get KK S₃ (by omega)).mono ?_))))
    rintro y σ₄ ⟨z, ns₄, hz, hzk, rfl, S₄, hst4, hv4⟩
    have sp4 : ∀ σ₀, Sep σ₀ σ nd ns → Sep σ₀ σ₄ nd ns₄ := fun _ h => (sp3 _ h).get hst4 hv4
    have hv4 := get_view hv4 hzk
    refine Ex_cons (Ex_expr (Ev_append (Ep_slotA (by trivial) (S₄.ia z hz) (S₄.da z hz) rfl handed_ref KK.ni KK.ni_su) (S₄.su z hz) (Ep.ev (by trivial) ⟨_, S₄.su z hz, ?_, ?_⟩)))
    · have := touch_su hsu3 (view ns₄) hv4 _ (List.mem_map.mpr ⟨z, hz, rfl⟩)
      have : z.su.length ≤ m + i := this
      rw [List.length_map]; omega
    · rw [show z.su.map MV.str ++ [.str k] = (z.su ++ [k]).map .str by simp]
      refine Ex_nil (hQ _ _ ⟨_, ⟨_, rfl, rfl, S₄.addSu hz k, ?_, ?_, ?_, fun _ h => (sp4 _ h).set ⟨z, hz, .inl rfl⟩ fun _ => ⟨rfl, rfl⟩, rfl⟩, by trivial⟩).1
      · rw [view_updN (g := fun q => (q.1, q.2.1, q.2.2 ++ [k])) (fun _ => rfl), hv4, hv3, List.take_add_one, hp, hzk]
        simp only [Option.toList, List.foldl_append, List.foldl_cons, List.foldl_nil]
        rfl
      · rw [updN_len, ← view_len ns₄, hv4]
        have := touch_len (view ns₃) p
        rw [view_len] at this
        omega
      · intro p' hp'
        obtain ⟨y, hy, rfl⟩ := List.mem_map.mp hp'
        obtain ⟨y', hy', rfl⟩ := mem_updN hy
        have h1 := touch_su hsu3 (view ns₄) hv4 _ (List.mem_map.mpr ⟨y', hy', rfl⟩)
        have h1 : y'.su.length ≤ m + i := h1
        split
        · show (y'.su ++ [k]).length ≤ _
          rw [List.length_append, List.length_singleton]; omega
        · show y'.su.length ≤ _
          omega
  · rintro fr σ' ⟨ns₃, -, -, S₃, hv3, hl3, hsu3, sp3, rfl⟩
    refine Ex_nil (Ex_nil (hQp _ _ ⟨ns₃, S₃, ?_, sp3⟩))
    rw [hv3, List.length_map, List.take_length, hv2]; rfl
end
end Mine

end
section
open PySem PySem.W PyProof.Rows
namespace Mine

noncomputable def setP (ps : List PN) (k : Str) (v : Int) : List PN := updP ps k fun q => (q.1, v, q.2.2)
noncomputable def getP (ps : List PN) (k : Str) : PN := (ps.find? fun p => p.1 = k).getD (k, 0, [])
noncomputable def dec (st : List PN × List Str) (s : Str) : List PN × List Str :=
  (updP st.1 s fun q => (q.1, q.2.1 - 1, q.2.2), if (getP st.1 s).2.1 - 1 = 0 then st.2 ++ [s] else st.2)
noncomputable def done1 (st : List PN × List Str) (k : Str) : List PN × List Str := (getP st.1 k).2.2.foldl dec (setP st.1 k (-2), st.2)
noncomputable def doneP (st : List PN × List Str) (ks : List Str) : List PN × List Str := ks.foldl done1 st

/-- the nodes' places -/
noncomputable def addrs (ns : List Nd) : List (Str × Addr × Addr × Addr × List Str) := ns.map fun x => (x.name, x.ia, x.da, x.sa, x.su)
theorem addrs_updN {ns : List Nd} {k : Str} {f : Nd → Nd} (hf : ∀ x, ((f x).name, (f x).ia, (f x).da, (f x).sa, (f x).su) = (x.name, x.ia, x.da, x.sa, x.su)) : addrs (updN ns k f) = addrs ns := by
  unfold addrs updN; rw [List.map_map]; refine List.map_congr_left fun x _ => ?_
  show ((if x.name = k then f x else x).name, (if x.name = k then f x else x).ia, (if x.name = k then f x else x).da, (if x.name = k then f x else x).sa, (if x.name = k then f x else x).su) = _
  split
  · exact hf x
  · rfl
theorem addrs_mem {ns ns' : List Nd} (h : addrs ns' = addrs ns) {x : Nd} (hx : x ∈ ns') : ∃ y ∈ ns, y.name = x.name ∧ y.ia = x.ia ∧ y.da = x.da ∧ y.sa = x.sa ∧ y.su = x.su := by
  have : (x.name, x.ia, x.da, x.sa, x.su) ∈ addrs ns := h ▸ List.mem_map.mpr ⟨x, hx, rfl⟩
  obtain ⟨y, hy, e⟩ := List.mem_map.mp this
  simp only [Prod.mk.injEq] at e
  exact ⟨y, hy, e.1, e.2.1, e.2.2.1, e.2.2.2.1, e.2.2.2.2⟩
theorem addrs_names {ns ns' : List Nd} (h : addrs ns' = addrs ns) : ns'.map (·.name) = ns.map (·.name) := by
  have := congrArg (List.map (·.1)) h
  unfold addrs at this
  rw [List.map_map, List.map_map] at this
  exact this
theorem getP_view {ns : List Nd} (hnd : (ns.map (·.name)).Nodup) {x : Nd} (hx : x ∈ ns) : getP (view ns) x.name = (x.name, x.np, x.su) := by
  unfold getP
  induction ns with
  | nil => cases hx
  | cons y ns ih =>
    rw [List.map_cons, List.nodup_cons] at hnd
    show (((y.name, y.np, y.su) :: view ns).find? _).getD _ = _
    rw [List.find?_cons]
    rcases List.mem_cons.mp hx with rfl | hx
    · simp
    · have : ¬ y.name = x.name := fun e => hnd.1 (e ▸ List.mem_map.mpr ⟨x, hx, rfl⟩)
      rw [decide_eq_false this]
      exact ih hnd.2 hx

/-- the sorter's own places that its work turns -/
noncomputable def Foot (d ra : Addr) (ns : List Nd) (a : Addr) : Prop := a = d ∨ a = ra ∨ ∃ x ∈ ns, a = x.ia
theorem Foot.addrs {d ra : Addr} {ns ns' : List Nd} (h : addrs ns' = addrs ns) (a : Addr) (f : Foot d ra ns' a) : Foot d ra ns a := by
  rcases f with h1 | h1 | ⟨x, hx, h1⟩
  · exact .inl h1
  · exact .inr (.inl h1)
  · obtain ⟨y, hy, _, e, _⟩ := addrs_mem h hx; exact .inr (.inr ⟨y, hy, h1.trans e.symm⟩)

theorem find_name {ns : List Nd} {k : Str} (h : k ∈ ns.map (·.name)) : ∃ x ∈ ns, x.name = k := by
  obtain ⟨x, hx, e⟩ := List.mem_map.mp h; exact ⟨x, hx, e⟩

section
variable {prog : Program} {w : World} {K : Frag} {A : Around} {σ : Sg}
local macro_rules | `(tactic| trivial) => `(tactic| first | exact SubL.n | (refine SubL.c rfl ?_; trivial) | exact Ep_local (by assumption) rfl rfl rfl | exact Ep_int | exact Ep_none)

theorem Ep_or2 {e : Env} {fr : Vars} {a b : Expr} {pos : Pos} {x y : Bool} (ha : EP prog w K A e fr σ a (.bool x)) (hb : EP prog w K A e fr σ b (.bool y)) : EP prog w K A e fr σ (.BoolOp .Or [a, b] pos) (.bool (x || y)) := fun s r => by
  show wpAny _ _ (eval _ e) _ _ _
  rw [arm_eval_BoolOp]
  show wpAny _ _ (boolOp pos .Or [eval a e, eval b e]) _ _ _
  unfold boolOp
  refine wpAny_bind (wpAny_mono (ha s r) (fun v s₁ hzz => ?_) fun _ _ z => z)
  obtain ⟨x1, rv⟩ := hzz
  cases (show v = .bool x from rv)
  refine wpAny_bind (wpAny_standAt (wpAny_bind (wpAny_holding (wpAny_truthy_bool ?_))))
  cases x with
  | true => exact wpAny_pure ⟨x1, rfl⟩
  | false => exact wpAny_mono (hb s₁ (r.ext x1)) (fun v s₂ ⟨x2, rv⟩ => ⟨x1.trans x2, rv⟩) fun _ _ z => z

/-- the ready list's place is the sorter's own -/
structure SR (σ : Sg) (ts d nd ra : Addr) (npo nf : Int) (ns : List Nd) (ready : List Str) : Prop extends ST σ ts d nd (.ref ra) npo nf ns where
  hra : σ ra = some (.list (ready.map .str))
  ran : ∀ x ∈ ns, x.sa ≠ ra

theorem SR.setNp {ts d nd ra : Addr} {npo nf : Int} {ns : List Nd} {ready : List Str} (S : SR σ ts d nd ra npo nf ns ready) {x : Nd} (hx : x ∈ ns) (v : Int) : SR (σ.set x.ia (.inst 84 x.da [some (.str x.name), some (.int v), some (.ref x.sa)])) ts d nd ra npo nf (updN ns x.name fun y => { y with np := v }) ready :=
  ⟨S.toST.setNp hx v, (Sg.set_ne _ _ fun e => by have := S.hra; rw [e, S.ia x hx] at this; cases this).trans S.hra, fun y hy => by
    obtain ⟨z, hz, rfl⟩ := mem_updN hy
    have : (if z.name = x.name then { z with np := v } else z).sa = z.sa := by split <;> rfl
    rw [this]; exact S.ran z hz⟩
theorem SR.setRa {ts d nd ra : Addr} {npo nf : Int} {ns : List Nd} {ready : List Str} (S : SR σ ts d nd ra npo nf ns ready) (rd : List Str) : SR (σ.set ra (.list (rd.map .str))) ts d nd ra npo nf ns rd := by
  obtain ⟨ep, hd⟩ := S.dict
  have h1 : ts ≠ ra := fun e => by have := S.ts; rw [e, S.hra] at this; cases this
  have h2 : d ≠ ra := fun e => by have := S.d; rw [e, S.hra] at this; cases this
  have h3 : nd ≠ ra := fun e => by rw [e, S.hra] at hd; cases hd
  exact ⟨S.toST.of (S.toSO.stay fun x hx => ⟨Sg.set_ne _ _ fun (e : _ = _) => (by have := S.ia x hx; rw [e, S.hra] at this; cases this), Sg.set_ne _ _ fun (e : _ = _) => (by have := S.da x hx; rw [e, S.hra] at this; cases this), Sg.set_ne _ _ (S.ran x hx)⟩) (Sg.set_ne _ _ h1) (Sg.set_ne _ _ h2) (Sg.set_ne _ _ h3) rfl, Sg.set_same .., S.ran⟩
theorem SR.setD {ts d nd ra : Addr} {npo nf npo' nf' : Int} {ns : List Nd} {ready : List Str} (S : SR σ ts d nd ra npo nf ns ready) : SR (σ.set d (.ns (nsS nd (.ref ra) npo' nf'))) ts d nd ra npo' nf' ns ready := by
  obtain ⟨ep, hd⟩ := S.dict
  have hns : ∀ es, σ d = some (.ns es) → es ≠ [] := fun es h e => by have := S.d; rw [h, e] at this; cases this
  refine ⟨⟨S.toSO.stay fun x hx => ⟨Sg.set_ne _ _ fun (e : _ = _) => (by have := S.ia x hx; rw [e, S.d] at this; cases this), Sg.set_ne _ _ fun (e : x.da = d) => hns _ (e ▸ S.da x hx) rfl, Sg.set_ne _ _ fun (e : _ = _) => (by have := S.su x hx; rw [e, S.d] at this; cases this)⟩, (Sg.set_ne _ _ fun e => by have := S.ts; rw [e, S.d] at this; cases this).trans S.ts, Sg.set_same .., ep, (Sg.set_ne _ _ fun e => by rw [e, S.d] at hd; cases hd).trans hd⟩,
    (Sg.set_ne _ _ fun e => by have := S.hra; rw [e, S.d] at this; cases this).trans S.hra, S.ran⟩

theorem view_setNp {ns : List Nd} {x : Nd} {v : Int} : view (updN ns x.name fun y => { y with np := v }) = setP (view ns) x.name v := view_updN fun _ => rfl

theorem fn_act {n : Nat} (KK : KF K) {ts d nd ra : Addr} {npo nf : Int} {ns : List Nd} {ready : List Str} (S : SR σ ts d nd ra npo nf ns ready) (hr : ready.length ≤ 1000) :
    Fn prog w K (n + 1) (.ref 150) [.ref ts] σ (fun y σ' => y = .bool (decide (nf < npo) || !ready.isEmpty) ∧ σ' = σ) := by
  refine Fn_pos KK.ok KK.f_act.1 ["self"] (by decide +kernel) rfl (fun _ _ _ _ _ _ _ _ => len1 fun _ => rfl) ?_
  intro L q cdv A ha hh
  have he : FrE (fe (fS (inCls (topS 10) 5)) L q 150 cdv) := frE_fe rfl
  refine Ex_cons (Ex_ifp (b := false) (Tp_cmp (Ep_own (by trivial) S.ts S.d rfl handed_ref KK.ts KK.ts_r) Ep_none O2_isNone) (fun h => nomatch h) fun _ => Ex_nil ?_)
  exact Ex_cons (Ex_return (Ep.ev (Ep.to (Ep_or2 (Ep_cmp (Ep_own (by trivial) S.ts S.d rfl handed_int KK.ts KK.ts_f) (Ep_own (by trivial) S.ts S.d rfl handed_int KK.ts KK.ts_p) O2_ltI) (Ep_call (Ep_glb KK.g_bool he rfl rfl) (fun _ _ _ r => r) keepsOk_type (EPs_cons (Ep_own (by trivial) S.ts S.d rfl handed_ref KK.ts KK.ts_r) EPs_nil) (OC_boolL (.ref S.hra) (by simp; omega)))) (by cases ready <;> rfl)) ⟨rfl, rfl⟩))

theorem fn_ready {n : Nat} (KK : KF K) {ts d nd ra : Addr} {npo nf : Int} {ns : List Nd} {ready : List Str} (S : SR σ ts d nd ra npo nf ns ready) (hr : ready.length ≤ 1000) (hin : ∀ k ∈ ready, k ∈ ns.map (·.name)) :
    Fn prog w K (n + 1) (.ref 143) [.ref ts] σ (fun y σ' => y = .tup (ready.map .str) ∧ ∃ ns', SR σ' ts d nd ra (npo + ready.length) nf ns' [] ∧ view ns' = ready.foldl (fun ps k => setP ps k (-1)) (view ns) ∧ addrs ns' = addrs ns ∧ Stay (Foot d ra ns) σ σ') := by
  refine Fn_pos KK.ok KK.f_ready.1 ["self"] (by decide +kernel) rfl (fun _ _ _ _ _ _ _ _ => len1 fun _ => rfl) ?_
  intro L q cdv A ha hh
  have he : FrE (fe (fS (inCls (topS 10) 4)) L q 143 cdv) := frE_fe rfl
  refine EX_post fun Qp hQp _ => ?_
  refine Ex_cons (Ex_ifp (b := false) (Tp_cmp (Ep_own (by trivial) S.ts S.d rfl handed_ref KK.ts KK.ts_r) Ep_none O2_isNone) (fun h => nomatch h) fun _ => Ex_nil ?_)
  refine Ex_cons (Ex_assign he rfl (Ep.ev (Ep_call (Ep_glb KK.g_tuple he rfl rfl) (fun _ _ _ r => r) keepsOk_type (EPs_cons (Ep_own (by trivial) S.ts S.d rfl handed_ref KK.ts KK.ts_r) EPs_nil) (OC_tuple (.ref S.hra) (by simp; omega))) ?_))
  refine Ex_cons (Ex_assign he rfl (Ep.ev (Ep_own (by trivial) S.ts S.d rfl handed_ref KK.ts KK.ts_n) ?_))
  refine Ex_cons (Ex_for he rfl (fun xs C i fr σ' => ∃ ns', xs = ready.map .str ∧ C = (fun _ => True) ∧ SR σ' ts d nd ra npo nf ns' ready ∧ view ns' = (ready.take i).foldl (fun ps k => setP ps k (-1)) (view ns) ∧ addrs ns' = addrs ns ∧ Stay (Foot d ra ns) σ σ' ∧ fr = ([("self", .ref ts), ("result", .tup (ready.map .str)), ("n2i", .ref nd)] : Vars))
    ((SrcP_of (by trivial) (It_tup hh)).src ⟨⟨_, ⟨ns, rfl, rfl, S, rfl, rfl, .refl, rfl⟩, by trivial⟩, fun _ _ _ _ => ?_, ?_, ?_⟩))
  · exact True.intro
  · rintro i y fr σ' Q hQ - - hy ⟨ns₃, -, -, S₃, hv3, ha3, hst3, rfl⟩
    obtain ⟨p, hp, rfl⟩ : ∃ p, ready[i]? = some p ∧ y = .str p := by
      rw [List.getElem?_map] at hy
      obtain ⟨p, hp, e⟩ := Option.map_eq_some_iff.mp hy
      exact ⟨p, hp, e.symm⟩
    obtain ⟨x, hx, hxp⟩ := find_name (ns := ns₃) (k := p) (by rw [addrs_names ha3]; exact hin p (List.mem_of_getElem? hp))
    obtain ⟨ep, hd3⟩ := S₃.dict
    refine Ex_cons (Ex_setAttr (Ep.ev (Ep_glb KK.g_out he rfl rfl) ⟨_, Ep_sub (by trivial) (by trivial) (OS_dict hd3 (dict_hit S₃.ndn hx hxp)), SetA_slotA (S₃.ia x hx) (S₃.da x hx) (by decide) KK.ni KK.ni_np ?_⟩))
    refine Ex_nil (hQ _ _ ⟨_, ⟨_, rfl, rfl, S₃.setNp hx (-1), ?_, (addrs_updN (f := fun y => { y with np := -1 }) fun _ => rfl).trans ha3, hst3.trans ((Stay.set (F := Foot d ra ns₃) (.inr (.inr ⟨x, hx, rfl⟩))).mono fun a h => h.addrs ha3), rfl⟩, by trivial⟩).1
    rw [view_setNp, hv3, List.take_add_one, hp, hxp]
    simp only [Option.toList, List.foldl_append, List.foldl_cons, List.foldl_nil]
  · rintro fr σ' ⟨ns₃, -, -, S₃, hv3, ha3, hst3, rfl⟩
    refine Ex_nil ?_
    refine Ex_cons (Ex_expr (Ev_lm (Ep_own (by trivial) S₃.ts S₃.d rfl handed_ref KK.ts KK.ts_r) (.ref S₃.hra) F.slot_list_clear F.type_list_clear (Evs_nil (MC_clear S₃.hra (by simp; omega) ?_))))
    have S₄ := S₃.setRa []
    refine Ex_cons (Ex_augAttr (by trivial) (O1_ownA S₄.ts S₄.d rfl handed_int KK.ts KK.ts_p) (Ep_call (Ep_glb KK.g_len he rfl rfl) (fun _ _ _ r => r) keepsOk_builtin (EPs_cons (by trivial) EPs_nil) (OC_lenT (by simp; omega))) O2_iaddI (SetA_own S₄.ts S₄.d (by show 4 < 900; decide) KK.ts KK.ts_p ?_))
    refine Ex_cons (Ex_return (Ep.ev (by trivial) (hQp _ _ _ ⟨rfl, ns₃, ?_, ?_, ha3, ?_⟩)))
    · have := S₄.setD (npo' := npo + ((ready.map MV.str).length : Int)) (nf' := nf)
      rw [List.length_map] at this ⊢
      exact this
    · rw [hv3, List.length_map, List.take_length]
    · exact (hst3.trans (Stay.set (F := Foot d ra ns) (.inr (.inl rfl)))).trans (Stay.set (F := Foot d ra ns) (.inl rfl))

theorem names_updP {ps : List PN} {k : Str} {f : PN → PN} (hf : ∀ p, (f p).1 = p.1) : (updP ps k f).map (·.1) = ps.map (·.1) := by
  unfold updP; rw [List.map_map]; refine List.map_congr_left fun p _ => ?_
  show (if p.1 = k then f p else p).1 = p.1
  split <;> simp [hf]
theorem names_dec (st : List PN × List Str) (s : Str) : (dec st s).1.map (·.1) = st.1.map (·.1) := names_updP fun _ => rfl
theorem names_decs (l : List Str) : ∀ st : List PN × List Str, (l.foldl dec st).1.map (·.1) = st.1.map (·.1) := by
  induction l with
  | nil => exact fun _ => rfl
  | cons s l ih => exact fun st => (ih _).trans (names_dec ..)
theorem dec_snd (st : List PN × List Str) (s : Str) : (dec st s).2 = if (getP st.1 s).2.1 - 1 = 0 then st.2 ++ [s] else st.2 := rfl
theorem decs_len (l : List Str) : ∀ st : List PN × List Str, (l.foldl dec st).2.length ≤ st.2.length + l.length := by
  induction l with
  | nil => exact fun _ => Nat.le_refl _
  | cons s l ih =>
    intro st
    have h1 := ih (dec st s)
    have h2 : (dec st s).2.length ≤ st.2.length + 1 := by unfold dec; dsimp only; split <;> simp
    rw [List.foldl_cons, List.length_cons]; omega
theorem view_decNp {ns : List Nd} {z : Nd} (hnd : ∀ y ∈ ns, y.name = z.name → y = z) : view (updN ns z.name fun y => { y with np := z.np - 1 }) = updP (view ns) z.name fun q => (q.1, q.2.1 - 1, q.2.2) := by
  unfold view updN updP
  rw [List.map_map, List.map_map]
  refine List.map_congr_left fun y hy => ?_
  show ((if y.name = z.name then { y with np := z.np - 1 } else y).name, (if y.name = z.name then { y with np := z.np - 1 } else y).np, (if y.name = z.name then { y with np := z.np - 1 } else y).su) = if y.name = z.name then (y.name, y.np - 1, y.su) else (y.name, y.np, y.su)
  split
  · rename_i h; rw [hnd y hy h]
  · rfl
theorem take_str {l : List Str} {i : Nat} {y : MV} (hy : (l.map MV.str)[i]? = some y) : ∃ p, l[i]? = some p ∧ y = .str p ∧ l.take (i + 1) = l.take i ++ [p] := by
  rw [List.getElem?_map] at hy
  obtain ⟨p, hp, e⟩ := Option.map_eq_some_iff.mp hy
  exact ⟨p, hp, e.symm, by rw [List.take_add_one, hp]; rfl⟩

theorem fn_done {n : Nat} (KK : KF K) {ts d nd ra : Addr} {npo nf : Int} {ns : List Nd} {ready ks : List Str} (S : SR σ ts d nd ra npo nf ns ready) (hn : ks.length ≤ 10) (hrl : ready.length ≤ 100)
    (hb : ∀ (name qual : Str) kV doc pm an cdv ct, ∀ vs us : List Value, vs.length = 1 → us.length = ks.length → bindArgs (fnOf name qual (fA (inCls (topS 10) 7)) (fB (inCls (topS 10) 7)) (fS (inCls (topS 10) 7)) .none kV doc pm an cdv ct) ⟨vs ++ us, []⟩ = (newTuple us >>= fun t => pure ((["self"] : List Str).zip vs ++ [(("nodes" : Str), t)])))
    (hk : ∀ (i : Nat) k, ks[i]? = some k → k ∈ ns.map (·.name) ∧ (getP (doneP (view ns, ready) (ks.take i)).1 k).2.1 = -1)
    (hsu : ∀ x ∈ ns, ∀ s ∈ x.su, s ∈ ns.map (·.name)) (hsl : ∀ x ∈ ns, x.su.length ≤ 100) :
    Fn prog w K (n + 1) (.ref 164) ([.ref ts] ++ ks.map .str) σ (fun y σ' => y = .none ∧ ∃ ns', SR σ' ts d nd ra npo (nf + ks.length) ns' (doneP (view ns, ready) ks).2 ∧ view ns' = (doneP (view ns, ready) ks).1 ∧ addrs ns' = addrs ns ∧ Stay (Foot d ra ns) σ σ') := by
  refine Fn_var KK.ok KK.f_done.1 ["self"] "nodes" (by decide +kernel) rfl (by simp; omega) (by rw [List.length_map]; exact hb) ?_
  intro L q cdv A ha hh
  have he : FrE (fe (fS (inCls (topS 10) 7)) L q 164 cdv) := frE_fe rfl
  refine EX_post fun Qp _ hQp => ?_
  refine Ex_cons (Ex_ifp (b := false) (Tp_cmp (Ep_own (by trivial) S.ts S.d rfl handed_ref KK.ts KK.ts_r) Ep_none O2_isNone) (fun h => nomatch h) fun _ => Ex_nil ?_)
  refine Ex_cons (Ex_assign he rfl (Ep.ev (Ep_own (by trivial) S.ts S.d rfl handed_ref KK.ts KK.ts_n) ?_))
  refine Ex_cons (Ex_for he rfl (fun xs C i fr σ' => ∃ ns', xs = ks.map .str ∧ C = (fun _ => True) ∧ SR σ' ts d nd ra npo (nf + i) ns' (doneP (view ns, ready) (ks.take i)).2 ∧ view ns' = (doneP (view ns, ready) (ks.take i)).1 ∧ addrs ns' = addrs ns ∧ Stay (Foot d ra ns) σ σ' ∧ (doneP (view ns, ready) (ks.take i)).2.length ≤ 100 + 100 * i ∧ fr = ([("self", .ref ts), ("n2i", .ref nd)] : Vars))
    ((SrcP_of (by trivial) (It_tup hh)).src ⟨⟨_, ⟨ns, rfl, rfl, by simpa [doneP] using S, rfl, rfl, .refl, hrl, rfl⟩, by trivial⟩, fun _ _ _ _ => ?_, ?_, ?_⟩))
  · exact True.intro
  · rintro i y fr σ' Qo hQo - - hy ⟨ns₃, -, -, S₃, hv3, ha3, hst3, hl3, rfl⟩
    obtain ⟨k, hki, rfl, htk⟩ := take_str hy
    obtain ⟨hkn, hk1⟩ := hk i k hki
    have hi10 : i < 10 := Nat.lt_of_lt_of_le (List.getElem?_eq_some_iff.mp hki).1 hn
    obtain ⟨x, hx, hxk⟩ := find_name (ns := ns₃) (k := k) (by rw [addrs_names ha3]; exact hkn)
    obtain ⟨ep, hd3⟩ := S₃.dict
    have hgp := getP_view S₃.ndn hx
    have hxnp : x.np = -1 := by
      rw [hxk, hv3] at hgp
      rw [hgp] at hk1; exact hk1
    refine Ex_cons (Ex_ifWalrus he rfl (Ep.ev (Ep_bmeth (by trivial) (Rep.isDict hd3) F.plainAttrs_dict F.slot_dict_get F.type_dict_get (EPs_cons (by trivial) EPs_nil) (OC_dget KK.sys hd3)) ?_))
    rw [dict_hit S₃.ndn hx hxk, if_neg (show ¬ isNone ((some (MV.ref x.ia)).getD MV.none) = true from Bool.false_ne_true)]
    refine Ex_nil ?_
    refine Ex_cons (Ex_assign he rfl (Ep.ev (Ep_slotA (Ep_local he rfl rfl rfl) (S₃.ia x hx) (S₃.da x hx) rfl handed_int KK.ni KK.ni_np) ?_))
    refine Ex_cons (Ex_ifp (b := false) (Tp_cmp (by trivial) (Ep_glb KK.g_out he rfl rfl) (by rw [hxnp]; exact O2_neI)) (fun h => nomatch h) fun _ => Ex_nil ?_)
    refine Ex_cons (Ex_setAttr (Ep.ev (Ep_glb KK.g_dn he rfl rfl) ⟨_, Ep_local he rfl rfl rfl, SetA_slotA (S₃.ia x hx) (S₃.da x hx) (by decide) KK.ni KK.ni_np ?_⟩))
    have S₄ := S₃.setNp hx (-2)
    have ha4 : addrs (updN ns₃ x.name fun y => { y with np := -2 }) = addrs ns := (addrs_updN (f := fun y => { y with np := -2 }) fun _ => rfl).trans ha3
    have hv4 : view (updN ns₃ x.name fun y => { y with np := -2 }) = setP (doneP (view ns, ready) (ks.take i)).1 k (-2) := by rw [view_setNp, hv3, hxk]
    have hst4 : Stay (Foot d ra ns) σ (σ'.set x.ia (.inst 84 x.da [some (.str x.name), some (.int (-2)), some (.ref x.sa)])) := hst3.trans ((Stay.set (F := Foot d ra ns₃) (.inr (.inr ⟨x, hx, rfl⟩))).mono fun a h => h.addrs ha3)
    have hx4 : { x with np := -2 } ∈ updN ns₃ x.name fun y => { y with np := -2 } := mem_upd (f := fun y => { y with np := -2 }) hx
    obtain ⟨x0, hx0, e1, e2, e3, e4, e5⟩ := addrs_mem ha3 hx
    have hxsu : ∀ s ∈ x.su, s ∈ ns.map (·.name) := e5 ▸ hsu x0 hx0
    have hxsl : x.su.length ≤ 100 := e5 ▸ hsl x0 hx0
    have hd1 : done1 (doneP (view ns, ready) (ks.take i)) k = x.su.foldl dec (setP (doneP (view ns, ready) (ks.take i)).1 k (-2), (doneP (view ns, ready) (ks.take i)).2) := by
      unfold done1; rw [← hv3, ← hxk, hgp]
    generalize hst : (setP (doneP (view ns, ready) (ks.take i)).1 k (-2), (doneP (view ns, ready) (ks.take i)).2) = st0 at hd1
    have hs1 : st0.1 = setP (doneP (view ns, ready) (ks.take i)).1 k (-2) := by rw [← hst]
    have hs2 : st0.2 = (doneP (view ns, ready) (ks.take i)).2 := by rw [← hst]
    generalize hns4 : updN ns₃ x.name (fun y => { y with np := -2 }) = ns₄ at S₄ ha4 hv4 hx4
    have hfind : ∀ {σ'' : Sg} {ns' : List Nd} {rd : List Str}, SR σ'' ts d nd ra npo (nf + i) ns' rd → addrs ns' = addrs ns → σ'' x.sa = some (.list (x.su.map .str)) := fun {σ'' ns' rd} S' h' => by
      obtain ⟨z, hz, z1, z2, z3, z4, z5⟩ := addrs_mem (ha4.trans h'.symm : addrs ns₄ = addrs ns') hx4
      have := S'.su z hz
      rw [z4, z5] at this; exact this
    refine Ex_cons (Ex_for he rfl (fun xs C j fr σ'' => ∃ ns', xs = x.su.map .str ∧ C = (fun σ₁ => LV σ₁ (.ref x.sa) (x.su.map .str)) ∧ SR σ'' ts d nd ra npo (nf + i) ns' ((x.su.take j).foldl dec st0).2 ∧ view ns' = ((x.su.take j).foldl dec st0).1 ∧ addrs ns' = addrs ns ∧ Stay (Foot d ra ns) σ σ'' ∧ fr = ([("self", .ref ts), ("n2i", .ref nd)] : Vars))
      ((SrcP_of (Ep_slotA (Ep_local he rfl rfl rfl) (S₄.ia _ hx4) (S₄.da _ hx4) rfl handed_ref KK.ni KK.ni_su) (It_list hh (.ref (S₄.su _ hx4)) (fun _ h => h) (.ref (S₄.su _ hx4)))).src ⟨⟨_, ⟨ns₄, rfl, rfl, by rw [List.take_zero, List.foldl_nil, hs2]; exact S₄, by rw [List.take_zero, List.foldl_nil, hs1]; exact hv4, ha4, hst4, rfl⟩, by trivial⟩, ?_, ?_, ?_⟩))
    · rintro j fr σ'' ⟨ns', -, -, S', -, h', -⟩
      exact .ref (hfind S' h')
    · rintro j y fr σ'' Qi hQi - - hy ⟨ns₅, -, -, S₅, hv5, ha5, hst5, rfl⟩
      obtain ⟨s, hsj, rfl, hts⟩ := take_str hy
      have hj : j < x.su.length := (List.getElem?_eq_some_iff.mp hsj).1
      obtain ⟨z, hz, hzs⟩ := find_name (ns := ns₅) (k := s) (by rw [addrs_names ha5]; exact hxsu s (List.mem_of_getElem? hsj))
      obtain ⟨ep5, hd5⟩ := S₅.dict
      have hgz := getP_view S₅.ndn hz
      rw [hzs, hv5] at hgz
      have hlr : ((x.su.take j).foldl dec st0).2.length ≤ 9000 := by
        have h1 := decs_len (x.su.take j) st0
        have h2 := List.length_take_le j x.su
        rw [hs2] at h1; omega
      refine Ex_cons (Ex_assign he rfl (Ep.ev (Ep_sub (by trivial) (by trivial) (OS_dict hd5 (dict_hit S₅.ndn hz hzs))) ?_))
      refine Ex_cons (Ex_augAttr (Ep_local he rfl rfl rfl) (O1_slotA (S₅.ia z hz) (S₅.da z hz) rfl handed_int KK.ni KK.ni_np) Ep_int O2_isubI (SetA_slotA (S₅.ia z hz) (S₅.da z hz) (by decide) KK.ni KK.ni_np ?_))
      have S₆ := S₅.setNp hz (z.np - 1)
      have hz6 : { z with np := z.np - 1 } ∈ updN ns₅ z.name fun y => { y with np := z.np - 1 } := mem_upd (f := fun y => { y with np := z.np - 1 }) hz
      have ha6 : addrs (updN ns₅ z.name fun y => { y with np := z.np - 1 }) = addrs ns := (addrs_updN (f := fun y => { y with np := z.np - 1 }) fun _ => rfl).trans ha5
      have hv6 : view (updN ns₅ z.name fun y => { y with np := z.np - 1 }) = ((x.su.take (j + 1)).foldl dec st0).1 := by
        rw [view_decNp fun y hy h => S₅.inj hy hz h, hv5, hts, List.foldl_append, hzs]; rfl
      have hst6 : Stay (Foot d ra ns) σ (σ''.set z.ia (.inst 84 z.da [some (.str z.name), some (.int (z.np - 1)), some (.ref z.sa)])) := hst5.trans ((Stay.set (F := Foot d ra ns₅) (.inr (.inr ⟨z, hz, rfl⟩))).mono fun a h => h.addrs ha5)
      have hrd : ((x.su.take (j + 1)).foldl dec st0).2 = if z.np - 1 = 0 then ((x.su.take j).foldl dec st0).2 ++ [s] else ((x.su.take j).foldl dec st0).2 := by
        rw [hts, List.foldl_append]
        show (dec ((x.su.take j).foldl dec st0) s).2 = _
        rw [dec_snd, hgz]
      refine Ex_cons (Ex_ifp (b := z.np - 1 == 0) (Tp_cmp (Ep_slotA (Ep_local he rfl rfl rfl) (S₆.ia { z with np := z.np - 1 } hz6) (S₆.da { z with np := z.np - 1 } hz6) rfl handed_int KK.ni KK.ni_np) Ep_int O2_eqI) (fun h => ?_) (fun h => ?_))
      · refine Ex_cons (Ex_expr (Ev_append (Ep_own (by trivial) S₆.ts S₆.d rfl handed_ref KK.ts KK.ts_r) S₆.hra (Ep.ev (by trivial) ⟨_, S₆.hra, by rw [List.length_map]; omega, ?_⟩)))
        refine Ex_nil (Ex_nil (hQi _ _ ⟨_, ⟨_, rfl, rfl, ?_, hv6, ha6, hst6.trans (Stay.set (F := Foot d ra ns) (.inr (.inl rfl))), rfl⟩, by trivial⟩).1)
        rw [hrd, if_pos (by simpa using h)]
        have := S₆.setRa (((x.su.take j).foldl dec st0).2 ++ [s])
        rw [List.map_append] at this
        exact this
      · refine Ex_nil (Ex_nil (hQi _ _ ⟨_, ⟨_, rfl, rfl, ?_, hv6, ha6, hst6, rfl⟩, by trivial⟩).1)
        rw [hrd, if_neg (by simpa using h)]
        exact S₆
    · rintro fr σ'' ⟨ns₅, -, -, S₅, hv5, ha5, hst5, rfl⟩
      rw [List.length_map, List.take_length, ← hd1] at S₅ hv5
      refine Ex_nil ?_
      refine Ex_cons (Ex_augAttr (by trivial) (O1_ownA S₅.ts S₅.d rfl handed_int KK.ts KK.ts_f) Ep_int O2_iaddI (SetA_own S₅.ts S₅.d (by show 4 < 900; decide) KK.ts KK.ts_f ?_))
      have hdn : doneP (view ns, ready) (ks.take (i + 1)) = done1 (doneP (view ns, ready) (ks.take i)) k := by
        unfold doneP; rw [htk, List.foldl_append]; rfl
      refine Ex_nil (hQo _ _ ⟨_, ⟨ns₅, rfl, rfl, ?_, by rw [hdn]; exact hv5, ha5, hst5.trans (Stay.set (F := Foot d ra ns) (.inl rfl)), ?_, rfl⟩, by trivial⟩).1
      · rw [hdn]
        have := S₅.setD (npo' := npo) (nf' := nf + i + 1)
        rw [show nf + ((i + 1 : Nat) : Int) = nf + i + 1 by rw [Int.add_assoc]; rfl]
        exact this
      · rw [hdn, hd1]
        have h1 := decs_len x.su st0
        rw [hs2] at h1; omega
  · rintro fr σ' ⟨ns₃, -, -, S₃, hv3, ha3, hst3, hl3, rfl⟩
    refine Ex_nil (Ex_nil (hQp _ _ ⟨rfl, ns₃, ?_, ?_, ha3, hst3⟩))
    · rw [List.length_map, List.take_length] at S₃; exact S₃
    · rw [hv3, List.length_map, List.take_length]
end
end Mine

end
section
open PySem PySem.W PyProof.Rows
set_option maxRecDepth 100000
namespace Mine
theorem ty_lc : typeOf (.builtin "list.__contains__") = pure (.type "wrapper_descriptor") := by show builtinType _ = _; rw [builtinType_eq_fast]; kernel_rfl
theorem ty_ln : typeOf (.builtin "list_iterator.__next__") = pure (.type "wrapper_descriptor") := by show builtinType _ = _; rw [builtinType_eq_fast]; kernel_rfl
theorem slot_wget : Slot "wrapper_descriptor" "__get__" "wrapper_descriptor.__get__" :=
  .of (owner := "wrapper_descriptor") (n := "__get__") (by rw [typeLookup_type, builtinLookup_eq_fast]; kernel_rfl) (by decide +kernel) (by decide +kernel) (by decide +kernel)
    (by first | exact .inl (by decide +kernel) | exact .inr (by decide +kernel)) (by rw [isSubtype_type]; kernel_rfl)
theorem entry_wget : entryFor table "wrapper_descriptor.__get__" = some Builtin.«wrapper_descriptor.__get__» := entryFor_of_tree (by kernel_rfl)
theorem args_wget (a b c : Value) : argsOk "wrapper_descriptor.__get__" ⟨[a, b, c], []⟩ := by unfold argsOk; kernel_rfl
theorem no_wset : typeLookup (.type "wrapper_descriptor") "__set__" = pure none := by rw [typeLookup_type, builtinLookup_eq_fast]; kernel_rfl
theorem no_wdel : typeLookup (.type "wrapper_descriptor") "__delete__" = pure none := by rw [typeLookup_type, builtinLookup_eq_fast]; kernel_rfl
theorem own_lc : isSubtype (.type "list") (.type (".".intercalate ("list.__contains__".cutAt '.').dropLast)) = pure true := by
  rw [show (".".intercalate ("list.__contains__".cutAt '.').dropLast) = "list" by decide +kernel, isSubtype_type]; kernel_rfl
theorem own_ln : isSubtype (.type "list_iterator") (.type (".".intercalate ("list_iterator.__next__".cutAt '.').dropLast)) = pure true := by
  rw [show (".".intercalate ("list_iterator.__next__".cutAt '.').dropLast) = "list_iterator" by decide +kernel, isSubtype_type]; kernel_rfl
section
variable {prog : Program} {w : World} {A : Around} {E : Value → Shared → Prop} {h : Heap} {g : Array GenState} {d : Drawn} {t : Nat} {os : OsState} {a : Addr} {o : Obj}

noncomputable abbrev mwO (id : String) (a : Addr) : Obj := { cls := .type "method-wrapper", data := .fields #[.builtin id, .ref a] }

theorem wget_list {R : Result → Shared → Prop} (hx : h.get? a = some o) (hc : o.cls = .type "list") (hq : R (.ok (.ret (.ref h.objs.size))) ⟨h.push (mwO "list.__contains__" a), g, d, t, os⟩) :
    codeAny (model prog w) A (.call (.builtin "wrapper_descriptor.__get__") ⟨[.builtin "list.__contains__", .ref a, .type "list"], []⟩) R ⟨h, g, d, t, os⟩ := by
  have hT : (⟨h, g, d, t, os⟩ : Shared).TypeIs (.ref a) "list" := ⟨_, hx, hc⟩
  have hT5 : (⟨h, g, d, t, os⟩ : Shared).TypeIs (.builtin "list.__contains__") "wrapper_descriptor" := ty_lc
  have f8 := own_lc
  refine codeAny_call_builtin slot_wget.plain entry_wget (slot_wget.check _ _ _ _ _ _ _ _ hT5 (args_wget _ _ _) ?_)
  unfold Builtin.«wrapper_descriptor.__get__»
  repeat (any_goals (first | assumption | wp_step))
theorem wget_iter {R : Result → Shared → Prop} (hx : h.get? a = some o) (hc : o.cls = .type "list_iterator") (hq : R (.ok (.ret (.ref h.objs.size))) ⟨h.push (mwO "list_iterator.__next__" a), g, d, t, os⟩) :
    codeAny (model prog w) A (.call (.builtin "wrapper_descriptor.__get__") ⟨[.builtin "list_iterator.__next__", .ref a, .type "list_iterator"], []⟩) R ⟨h, g, d, t, os⟩ := by
  have hT : (⟨h, g, d, t, os⟩ : Shared).TypeIs (.ref a) "list_iterator" := ⟨_, hx, hc⟩
  have hT5 : (⟨h, g, d, t, os⟩ : Shared).TypeIs (.builtin "list_iterator.__next__") "wrapper_descriptor" := ty_ln
  have f8 := own_ln
  refine codeAny_call_builtin slot_wget.plain entry_wget (slot_wget.check _ _ _ _ _ _ _ _ hT5 (args_wget _ _ _) ?_)
  unfold Builtin.«wrapper_descriptor.__get__»
  repeat (any_goals (first | assumption | wp_step))

theorem contains_entry {its : Array Value} {n : Nat} {tk : Tok} {Q : Fin → Shared → Prop} (hx : h.get? a = some (listO its n)) (hq : Q (.done (.ret (.ref h.objs.size))) ⟨h.push (mwO "list.__contains__" a), g, d, t, os⟩) :
    wpAny (model prog w) A (Builtin.«object.__getattribute__» ⟨[.ref a, .str "__contains__" tk], []⟩) Q E ⟨h, g, d, t, os⟩ := by
  have hT : (⟨h, g, d, t, os⟩ : Shared).TypeIs (.ref a) "list" := ⟨_, hx, rfl⟩
  have hT5 : (⟨h, g, d, t, os⟩ : Shared).TypeIs (.builtin "list.__contains__") "wrapper_descriptor" := ty_lc
  have f4 := F.slot_list_contains.lookup
  have f5 := ty_lc
  have f6 := slot_wget.lookup
  have f7 := no_wset
  have f8 := no_wdel
  repeat (any_goals (first | assumption | wp_step))
  refine wget_list hx rfl ?_
  repeat (any_goals (first | assumption | wp_step))
theorem contains_call {its : Array Value} {n : Nat} {tk : Tok} {R : Result → Shared → Prop} (hx : h.get? a = some (listO its n)) (hq : R (.ok (.ret (.ref h.objs.size))) ⟨h.push (mwO "list.__contains__" a), g, d, t, os⟩) :
    codeAny (model prog w) A (.call (.builtin "list.__getattribute__") ⟨[.ref a, .str "__contains__" tk], []⟩) R ⟨h, g, d, t, os⟩ :=
  codeAny_call_builtin F.slot_list_getattribute.plain F.entry_list_ga (F.slot_list_getattribute.check _ _ _ _ _ _ _ _ (show (⟨h, g, d, t, os⟩ : Shared).TypeIs (.ref a) "list" from ⟨_, hx, rfl⟩) (F.args_list_getattribute_2 _ _) (contains_entry hx hq))
theorem contains_get {its : Array Value} {n : Nat} {Q : Value → Shared → Prop} (hx : h.get? a = some (listO its n)) (hq : Q (.ref h.objs.size) ⟨h.push (mwO "list.__contains__" a), g, d, t + 1, os⟩) : wpAny (model prog w) A (getAttr (.ref a) "__contains__" true) Q E ⟨h, g, d, t, os⟩ := by
  have hT : ∀ tk', (⟨h, g, d, tk', os⟩ : Shared).TypeIs (.ref a) "list" := fun _ => ⟨_, hx, rfl⟩
  have f2 := F.slot_list_getattribute.lookup
  have f3 := F.slot_list_getattribute.bind (.ref a)
  unfold getAttr getAttrBy
  repeat (any_goals (first | assumption | exact hT _ | wp_step))
  refine contains_call hx ?_
  repeat (any_goals (first | assumption | exact hT _ | wp_step))

theorem slot_ligs : Slot "list_iterator" "__getattribute__" "object.__getattribute__" :=
  .of (owner := "object") (n := "__getattribute__") (by rw [typeLookup_type, builtinLookup_eq_fast]; kernel_rfl) (by decide +kernel) (by decide +kernel) (by decide +kernel)
    (by first | exact .inl (by decide +kernel) | exact .inr (by decide +kernel)) (by rw [isSubtype_type]; kernel_rfl)
theorem entry_oga : entryFor table "object.__getattribute__" = some Builtin.«object.__getattribute__» := entryFor_of_tree (by kernel_rfl)
theorem args_oga (a b : Value) : argsOk "object.__getattribute__" ⟨[a, b], []⟩ := by unfold argsOk; kernel_rfl
noncomputable abbrev liO (l : Addr) (i : Nat) : Obj := { cls := .type "list_iterator", data := .fields #[.ref l, .int i 0] }
theorem next_entry {l : Addr} {i : Nat} {tk : Tok} {Q : Fin → Shared → Prop} (hx : h.get? a = some (liO l i)) (hq : Q (.done (.ret (.ref h.objs.size))) ⟨h.push (mwO "list_iterator.__next__" a), g, d, t, os⟩) :
    wpAny (model prog w) A (Builtin.«object.__getattribute__» ⟨[.ref a, .str "__next__" tk], []⟩) Q E ⟨h, g, d, t, os⟩ := by
  have hT : (⟨h, g, d, t, os⟩ : Shared).TypeIs (.ref a) "list_iterator" := ⟨_, hx, rfl⟩
  have hT5 : (⟨h, g, d, t, os⟩ : Shared).TypeIs (.builtin "list_iterator.__next__") "wrapper_descriptor" := ty_ln
  have f4 := slot_listiter_next.lookup
  have f5 := ty_ln
  have f6 := slot_wget.lookup
  have f7 := no_wset
  have f8 := no_wdel
  repeat (any_goals (first | assumption | wp_step))
  refine wget_iter hx rfl ?_
  repeat (any_goals (first | assumption | wp_step))
theorem next_get {l : Addr} {i : Nat} {Q : Value → Shared → Prop} (hx : h.get? a = some (liO l i)) (hq : Q (.ref h.objs.size) ⟨h.push (mwO "list_iterator.__next__" a), g, d, t + 1, os⟩) : wpAny (model prog w) A (getAttr (.ref a) "__next__" true) Q E ⟨h, g, d, t, os⟩ := by
  have hT : ∀ tk', (⟨h, g, d, tk', os⟩ : Shared).TypeIs (.ref a) "list_iterator" := fun _ => ⟨_, hx, rfl⟩
  have f2 := slot_ligs.lookup
  have f3 := slot_ligs.bind (.ref a)
  unfold getAttr getAttrBy
  repeat (any_goals (first | assumption | exact hT _ | wp_step))
  refine codeAny_call_builtin slot_ligs.plain entry_oga (slot_ligs.check _ _ _ _ _ _ _ _ (hT _) (args_oga _ _) (next_entry hx ?_))
  repeat (any_goals (first | assumption | exact hT _ | wp_step))

/-- a bound slot called -/
theorem mw_call {R : Result → Shared → Prop} {mw : Addr} {id : String} {vals : List Value} (hx : h.get? mw = some (mwO id a)) (hk : builtinKind id = some .slot) (ha : argsOk id ⟨.ref a :: vals, []⟩)
    (hq : (Code.builtin id ⟨.ref a :: vals, []⟩).quiet = true ∧ codeAny (model prog w) A (.builtin id ⟨.ref a :: vals, []⟩) R ⟨h, g, d, t, os⟩) : codeAny (model prog w) A (.call (.ref mw) ⟨vals, []⟩) R ⟨h, g, d, t, os⟩ := by
  refine codeAny_of_tree ?_
  show wpAny _ _ (callAny (.ref mw) _) _ _ _
  unfold callAny
  refine wpAny_bind (wpAny_load hx ?_)
  show wpAny _ _ (checkBoundCall id ⟨.ref a :: vals, []⟩ >>= fun _ => again (.builtin id ⟨.ref a :: vals, []⟩)) _ _ _
  have hc : ∀ (A : Around) (Q : Unit → Shared → Prop) E, Q () ⟨h, g, d, t, os⟩ → wpAny (model prog w) A (checkBoundCall id ⟨.ref a :: vals, []⟩) Q E ⟨h, g, d, t, os⟩ := fun A Q E q => by
    unfold checkBoundCall
    cases hsig : Manifest.signature? id with
    | none => exact wpAny_pure q
    | some sig =>
      simp only [argsOk, hsig] at ha
      have h2 : Bind.checkArgs id sig ⟨.ref a :: vals, []⟩ = pure () := ha
      rw [hk]
      show wpAny _ _ (Bind.checkArgs id sig ⟨.ref a :: vals, []⟩) _ _ _
      rw [h2]; exact wpAny_pure q
  exact wpAny_bind (hc _ _ _ (wpAny_pure hq))

theorem next_item {R : Result → Shared → Prop} {l : Addr} {i : Nat} {its : Array Value} {n : Nat} {x : Value} {oi : Obj} (hi : h.get? a = some oi) (hd : oi.data = .fields #[.ref l, .int i 0]) (hc : oi.cls = .type "list_iterator") (hl : h.get? l = some (listO its n)) (hx : its[i]? = some x)
    (hq : ∀ h', h'.IsListIter a l (i + 1) → Heap.SameBut a h h' → R (.ok (.ret x)) ⟨h', g, d, t, os⟩) : codeAny (model prog w) A (.builtin "list_iterator.__next__" ⟨[.ref a], []⟩) R ⟨h, g, d, t, os⟩ := by
  refine codeAny_builtin entry_listiter_next ?_
  show wpAny _ _ (field (.ref a) 0 >>= _) _ _ _
  refine wpAny_bind (wpAny_field hi hd (x := .ref l) rfl ?_)
  show wpAny _ _ (if (Value.ref l == Value.none) = true then _ else _) _ _ _
  rw [if_neg (show ¬ ((Value.ref l == Value.none) = true) from Bool.false_ne_true)]
  show wpAny _ _ (field (.ref a) 1 >>= _) _ _ _
  refine wpAny_bind (wpAny_field hi hd (x := .int i 0) rfl ?_)
  show wpAny _ _ (seqItems? (.ref l) >>= _) _ _ _
  refine wpAny_bind (wpAny_seqItems hl rfl ?_)
  simp only [Int.toNat_natCast, hx]
  refine wpAny_bind (wpAny_setField hi hd (by simp) (wpAny_pure (hq _ ?_ (Heap.SameBut.update ..))))
  exact ⟨_, Heap.get?_update_self _ hi (Obj.isFreed_of_fields (Obj.data_mapFields hd _)), (Obj.cls_mapFields ..).trans hc, by rw [Obj.data_mapFields hd]; simp [rawInt]⟩

/-- at the end: the list is let go, and StopIteration is raised -/
theorem next_end {R : Result → Shared → Prop} {l : Addr} {i : Nat} {its : Array Value} {n : Nat} {oi : Obj} (hh : A.handled = none) (hi : h.get? a = some oi) (hd : oi.data = .fields #[.ref l, .int i 0]) (hc : oi.cls = .type "list_iterator") (hl : h.get? l = some (listO its n)) (hx : its[i]? = none)
    (hq : ∀ h' x vs, (∀ b o, b ≠ a → h.get? b = some o → h'.get? b = some o) → (∃ o', h'.get? a = some o' ∧ o'.cls = .type "list_iterator" ∧ o'.data = .fields #[.none, .int i 0]) → h.get? x = none → h'.get? x = some { cls := .type "StopIteration", data := .fields vs } → vs[1]? = some .none → R (.error (.ref x)) ⟨h', g, d, t, os⟩) :
    codeAny (model prog w) A (.builtin "list_iterator.__next__" ⟨[.ref a], []⟩) R ⟨h, g, d, t, os⟩ := by
  refine codeAny_builtin entry_listiter_next ?_
  show wpAny _ _ (field (.ref a) 0 >>= _) _ _ _
  refine wpAny_bind (wpAny_field hi hd (x := .ref l) rfl ?_)
  show wpAny _ _ (if (Value.ref l == Value.none) = true then _ else _) _ _ _
  rw [if_neg (show ¬ ((Value.ref l == Value.none) = true) from Bool.false_ne_true)]
  show wpAny _ _ (field (.ref a) 1 >>= _) _ _ _
  refine wpAny_bind (wpAny_field hi hd (x := .int i 0) rfl ?_)
  show wpAny _ _ (seqItems? (.ref l) >>= _) _ _ _
  refine wpAny_bind (wpAny_seqItems hl rfl ?_)
  simp only [Int.toNat_natCast, hx]
  refine wpAny_bind (wpAny_rule (wpAny_bind (wpAny_setField hi hd (by simp) ?_)))
  show wpAny _ _ (newExc (.type "StopIteration") [] >>= _) _ _ _
  refine wpAny_bind ?_
  simp only [newExc, newTuple]
  refine wpAny_bind (wpAny_newObj_type ?_ (by size_fits))
  refine wpAny_bind (m := firstArgMember _ _) (wpAny_of_eq (a := Value.none) (by first | rfl | (simp only [firstArgMember]; rfl)) ?_)
  refine wpAny_newObj_type ?_ (by size_fits)
  simp only [raiseNew]
  refine wpAny_bind (wpAny_handled ?_)
  rw [show (A.under _).handled = none from hh]
  refine wpAny_bind (wpAny_pure (wpAny_throw ?_))
  have k1 : ∀ b o, b ≠ a → h.get? b = some o → (h.update a (Obj.mapFields fun x => x.setIfInBounds 0 Value.none)).get? b = some o := fun b o hb g => (Heap.get?_update_other _ _ (Ne.symm hb)).trans g
  have hsz : ∀ o, h.get? ((h.update a (Obj.mapFields fun x => x.setIfInBounds 0 Value.none)).push { cls := .type "tuple", data := .seq #[] }).objs.size ≠ some o := fun o g => by
    have := Heap.lt_size g
    rw [Heap.size_push, Heap.size_update] at this
    exact absurd this (Nat.not_lt.mpr (Nat.le_succ _))
  refine hq _ _ _ (fun b o hb g => Heap.get?_push_of_some _ (Heap.get?_push_of_some _ (k1 b o hb g))) ⟨_, Heap.get?_push_of_some _ (Heap.get?_push_of_some _ (Heap.get?_update_self _ hi (Obj.isFreed_of_fields (Obj.data_mapFields hd _)))), (Obj.cls_mapFields ..).trans hc, by rw [Obj.data_mapFields hd]; simp⟩ ?_ (Heap.get?_push_size _ rfl) rfl
  cases z : h.get? _ with
  | none => rfl
  | some o => exact absurd z (hsz o)
end
end Mine

end
section
open PySem PySem.W PyProof.Rows
set_option maxRecDepth 100000
namespace Mine

/-- all stays, but for the slots of the frames fl -/
structure Slotted (fl : List Addr) (s s' : Shared) : Prop where
  keep : ∀ b o, s.heap.get? b = some o → b ∉ fl → s'.heap.get? b = some o
  fr : ∀ b o, s.heap.get? b = some o → ∃ sl, s'.heap.get? b = some { o with slots := sl }
  os : s'.os = s.os
  gens : s'.gens = s.gens
theorem Slotted.ext {fl : List Addr} {s s' : Shared} (x : Ext s s') : Slotted fl s s' := ⟨fun b o g _ => x.keep b o g, fun b o g => ⟨o.slots, x.keep b o g⟩, x.os, x.gens⟩
theorem Slotted.trans {fl : List Addr} {s s₁ s₂ : Shared} (x : Slotted fl s s₁) (y : Slotted fl s₁ s₂) : Slotted fl s s₂ :=
  ⟨fun b o g n => y.keep b o (x.keep b o g n) n, fun b o g => let ⟨_, h⟩ := x.fr b o g; let ⟨sl, h2⟩ := y.fr b _ h; ⟨sl, h2⟩, y.os.trans x.os, y.gens.trans x.gens⟩

section
variable {prog : Program} {w : World} {K : Frag} {A : Around} {e : Env} {fr : Vars} {σ : Sg} {s s' : Shared}

theorem Rep.notFl (r : Rep prog w K (flOf A) σ s) {b : Addr} {o : Obj} (g : s.heap.get? b = some o) (h : ¬ FrO o) : b ∉ flOf A := fun hm => by
  obtain ⟨_, _, o', g', hF⟩ := r.ff b hm
  rw [g] at g'; cases g'; exact h hF
theorem RepF.slottedBut (x : RepF prog w K (flOf A) e fr σ s) {ex : Addr} {oex : Obj} (zx : σ ex = none) (ox : ¬ own e ex) (kx : ∀ o, K.lookup ex ≠ some o) (fx : ex ∉ flOf A) (gx : s.heap.get? ex = some oex) (nx : ∀ its n, oex.data ≠ .seq its n)
    (t : ∀ b o, b ≠ ex → s.heap.get? b = some o → (b ∉ flOf A → s'.heap.get? b = some o) ∧ ∃ sl, s'.heap.get? b = some { o with slots := sl }) : RepF prog w K (flOf A) e fr σ s' := by
  have ks : ∀ a c its n, s.heap.get? a = some ⟨c, none, .seq its n, #[]⟩ → σ a = none → s'.heap.get? a = some ⟨c, none, .seq its n, #[]⟩ ∧ σ a = none := fun a c its n g z => ⟨(t a _ (fun q => by rw [q, gx] at g; cases g; exact nx _ _ rfl) g).1 (x.toRep.notFl g FrO.seq), z⟩
  have nl : e.locals ≠ ex := fun q => ox (.inl q.symm)
  have nc : ∀ p ∈ e.cells, p.2 ≠ ex := fun p hp q => ox (.inr ⟨p, hp, q⟩)
  refine ⟨⟨fun a m hm => (x.objs a m hm).mono (fun o g => (t a o (fun q => by rw [q, zx] at hm; cases hm) g).1 fun hL => by rw [(x.ff a hL).1] at hm; cases hm) ks, fun a o g => (t a o (fun q => kx o (q ▸ g)) (x.top a o g)).1 fun hL => (x.ff a hL).2.1 o g, x.low, fun L hL => ?_⟩, ?_, ?_, ?_, x.off, x.offK⟩
  · obtain ⟨h1, h2, o, h3, es, ep, h4⟩ := x.ff L hL
    obtain ⟨sl, h5⟩ := (t L o (fun q => fx (q ▸ hL)) h3).2
    exact ⟨h1, h2, _, h5, es, ep, h4⟩
  · obtain ⟨f, ⟨o, es, ep, g, d, r⟩, hm⟩ := x.loc
    obtain ⟨sl, h⟩ := (t _ o nl g).2
    exact ⟨f, ⟨_, es, ep, h, d, r⟩, fun y z q k => let ⟨v, p, r⟩ := hm y z q k; ⟨v, p, r.mono ks⟩⟩
  · exact fun p hp => let ⟨ov, o, g, r⟩ := x.cel p hp; ⟨ov, o, (t _ _ (nc p hp) g).1 (x.toRep.notFl g (FrO.cell r)), r⟩
  · exact fun y z q k => let ⟨c, v, p, ⟨o, g, i⟩, r⟩ := x.celv y z q k; ⟨c, v, p, ⟨o, (t _ _ (nc (y, c) (mem_of_lookup p)) g).1 (x.toRep.notFl g (FrO.cell i)), i⟩, r.mono ks⟩

theorem emptyStays (h : Heap) : emptyHeap.StaysIn h := fun b o g => (nomatch (empty_get.symm.trans g))
theorem Rep.frames (r : Rep prog w K (flOf A) σ s) {l : List Env} (hl : A.frames = some l) (hk : ∀ e ∈ l, e.scope.kind ≠ .module ∧ ∃ L, e.frame = some L) : s.heap.FunFrames emptyHeap l := by
  have hfl : flOf A = l.filterMap (·.frame) := by unfold flOf; rw [hl]; rfl
  have ff := r.ff
  rw [hfl] at ff
  clear hl hfl
  induction l with
  | nil => trivial
  | cons e l ih =>
    obtain ⟨h1, L, h2⟩ := hk e (.head _)
    obtain ⟨_, _, o, g, es, ep, d⟩ := ff L (List.mem_filterMap.mpr ⟨e, .head _, h2⟩)
    refine ⟨h1, ⟨L, o, h2, empty_get, g, fun vs q => by rw [d] at q; cases q⟩, ih (fun e' he' => hk e' (.tail _ he')) fun L' hL' => ff L' ?_⟩
    obtain ⟨e', he', q⟩ := List.mem_filterMap.mp hL'
    exact List.mem_filterMap.mpr ⟨e', .tail _ he', q⟩

/-- the exception at hand comes by a frame for the first time -/
theorem note_first {E : Value → Shared → Prop} {Q : Unit → Shared → Prop} {env : Env} {outer : List Env} {L x : Addr} {cls : Value} {vs : Array Value} (hfr : A.frames = some (env :: outer)) (hl : s.heap.FunFrames emptyHeap (env :: outer)) (hf : env.frame = some L) (hx : s.heap.get? x = some { cls := cls, data := .fields vs }) (hnf : x ∉ flOf A) (h1 : vs[1]? = some .none)
    (h : ∀ s' T vs' ts, (∀ b o, b ≠ x → s.heap.get? b = some o → (b ∉ flOf A → s'.heap.get? b = some o) ∧ ∃ sl, s'.heap.get? b = some { o with slots := sl }) → s'.os = s.os → s'.gens = s.gens → s'.heap.get? x = some { cls := cls, data := .fields vs' } → vs'[1]? = some (.ref T) → s.heap.get? T = none →
      s'.heap.get? T = some { cls := .type "traceback", data := .fields ts } → ts[3]? = some (rawInt L) → Q () s') : wpAny (model prog w) A (noteFrame (.ref x) env) Q E s := by
  have hfl : flOf A = (env :: outer).filterMap (·.frame) := by unfold flOf; rw [hfr]; rfl
  unfold noteFrame
  simp only [hf]
  refine wpAny_bind (wpAny_field hx rfl h1 ?_)
  rw [if_neg (show ¬ (Value.none != Value.none) = true by decide)]
  refine wpAny_bind (wpAny_frameOf_fun hfr hl hf fun h₁ hs₁ => ?_)
  rw [← hfl] at hs₁
  refine wpAny_bind (wpAny_entryPlaceOf fun pl hpl => ?_)
  unfold EntryCells.newEntry newFields
  refine wpAny_bind (wpAny_newObj_type ?_ (hpl.sizeOk5 _ _ _ _ _))
  have hx₁ : h₁.get? x = some { cls := cls, data := .fields vs } := (hs₁.2.1 x hnf).trans hx
  have hx₂ := Heap.get?_push_of_some (h := h₁) { cls := .type "traceback", dict := none, data := .fields ([Value.none, .ref L, .none, rawInt L, .none] ++ (if pl.isEmpty then List.replicate 6 Value.none else pl)).toArray } hx₁
  have hsz : 1 < vs.size := (Array.getElem?_eq_some_iff.mp h1).1
  refine wpAny_setField hx₂ rfl hsz ?_
  have hT : s.heap.get? h₁.objs.size = none := by
    cases z : s.heap.get? h₁.objs.size with
    | none => rfl
    | some o => obtain ⟨sl, h5⟩ := hs₁.2.2 _ o z; exact absurd (Heap.lt_size h5) (Nat.lt_irrefl _)
  have hTx : h₁.objs.size ≠ x := Nat.ne_of_gt (Heap.lt_size hx₁)
  refine h _ h₁.objs.size (vs.setIfInBounds 1 (.ref h₁.objs.size)) _ (fun b o hb g => ?_) rfl rfl ?_ (by simp [hsz]) hT ((Heap.get?_update_other _ _ (Ne.symm hTx.symm.symm)).trans (Heap.get?_push_size _ rfl)) ?_
  · have up : ∀ o', h₁.get? b = some o' → ((h₁.push { cls := .type "traceback", dict := none, data := .fields ([Value.none, .ref L, .none, rawInt L, .none] ++ (if pl.isEmpty then List.replicate 6 Value.none else pl)).toArray }).update x (Obj.mapFields (·.setIfInBounds 1 (.ref h₁.objs.size)))).get? b = some o' := fun o' g' =>
      (Heap.get?_update_other _ _ (Ne.symm hb)).trans (Heap.get?_push_of_some _ g')
    exact ⟨fun hn => up o ((hs₁.2.1 b hn).trans g), let ⟨sl, h5⟩ := hs₁.2.2 b o g; ⟨sl, up _ h5⟩⟩
  · exact Heap.get?_update_self _ hx₂ rfl
  · rfl

theorem slot_kind_ln : builtinKind "list_iterator.__next__" = some .slot := by decide +kernel
theorem slot_kind_lc : builtinKind "list.__contains__" = some .slot := by decide +kernel
theorem quiet_ln (args : Args) : (Code.builtin "list_iterator.__next__" args).quiet = true := Code.quiet_builtin _ (by decide +kernel)

theorem keeps_mw {M : Model} {h : Heap} {mw : Addr} {id : String} {a : Addr} (g : h.get? mw = some (mwO id a)) : ∃ k, (k = Keeper.frame ∨ k = Keeper.machine ∨ k = Keeper.boundFrame) ∧ Looks M h (keeperOf (.ref mw)) k :=
  ⟨.machine, .inr (.inl rfl), (Looks.ld g).andThen (Looks.of_pure rfl)⟩

/-- f() where f is a bound slot -/
theorem mw_eval {func : Expr} {cpos : Pos} {mw it : Addr} {id : String} {Q E : Value → Shared → Prop} (hf : EP prog w K A e fr σ func (.ref mw)) (hm : σ mw = some (.raw (mwO id it))) (r : RepF prog w K (flOf A) e fr σ s)
    (h : ∀ s₁, Ext s s₁ → wpAny (model prog w) A (call (.ref mw) []) Q E s₁)
    (hc : eval (.Call func [] [] cpos) e = (do callWith cpos (← eval func e) [] (backTo cpos (starEach [] e)) (backToKw cpos (keywordEach [] e))) := by rfl) : wpAny (model prog w) A (eval (.Call func [] [] cpos) e) Q E s := by
  rw [hc]
  refine wpAny_bind (wpAny_mono (hf s r) (fun v s₁ hzz => ?_) fun _ _ f => f.elim)
  obtain ⟨p, rv⟩ := hzz
  cases (show v = .ref mw from rv)
  have r1 := r.ext p
  refine callWith_of (P := fun h => h.get? mw = some (mwO id it)) (by rfl) (fun h' X => keeps_mw X) (evalArgs_any rfl ?_)
  exact wpAny_items_nil ⟨r1.objs _ _ hm, h s₁ p⟩

theorem Rep.mark (r : Rep prog w K (flOf A) σ s) (ex : Option Value) : Rep prog w K (flOf (A.mark ex)) σ s := r
theorem RepF.mark (r : RepF prog w K (flOf A) e fr σ s) (ex : Option Value) : RepF prog w K (flOf (A.mark ex)) e fr σ s := r

theorem Ex_tryNext {n : Nat} {x : Str} {px cpos apos bpos tpos hpos pos : Pos} {func : Expr} {b0 : Stmt} {suite : List Stmt} {R : MF → Vars → Sg → Prop} {mw it l L : Addr} {xs : List MV} {i : Nat} (he : FrE e) (hx : nameOk e x = true) (ha : AOK n A) (hfr : ∃ l, A.frames = some (e :: l)) (hL : e.frame = some L) (hh : A.handled = none)
    (hg : gl K "StopIteration" = some (.type "StopIteration")) (hkd : e.kindOf "StopIteration" = some .globalImplicit) (hf : EP prog w K A e fr σ func (.ref mw)) (hm : σ mw = some (.raw (mwO "list_iterator.__next__" it))) (hi : σ it = some (.iter l (some i))) (hl : σ l = some (.list xs))
    (h1 : ∀ y, xs[i]? = some y → R .brk (setv fr x y) (σ.set it (.iter l (some (i + 1)))))
    (h2 : xs[i]? = none → ∀ ex, EX prog w K (A.mark ex) e fr (σ.set it (.iter l none)) (b0 :: suite) R)
    (hs : swapsWith (.Call func [] [] cpos) (some (.Name x px)) apos.line e = pure false := by rfl)
    (hc : eval (.Call func [] [] cpos) e = (do callWith cpos (← eval func e) [] (backTo cpos (starEach [] e)) (backToKw cpos (keywordEach [] e))) := by rfl) :
    E1 prog w K A e fr σ (.Try [.Assign [.Name x px] (.Call func [] [] cpos) apos, .Break bpos] [.ExceptHandler (some (.Name "StopIteration" tpos)) none (b0 :: suite) hpos] [] [] pos) R := fun s r => by
  refine hideQ fun Q hQ => ?_
  refine wpAny_Try_except (wpAny_execs_cons (wpAny_Assign_Name (mw_eval hf hm r (fun s₁ x1 => ?_) hc) hs))
  have r1 := r.ext x1
  obtain ⟨oi, gi, ci, di⟩ := r1.objs _ _ hi
  obtain ⟨its, nn, gl', ql⟩ := r1.objs _ _ hl
  have gm := r1.objs _ _ hm
  obtain ⟨h, g, d, t, os⟩ := s₁
  cases hxi : xs[i]? with
  | some y =>
    obtain ⟨v, hv, rv⟩ := ql.at hxi
    refine wpAny_call (mw_call gm slot_kind_ln (args_listiter_next _) ⟨quiet_ln _, next_item gi di ci gl' hv fun h' hit hsb => ?_⟩)
    obtain ⟨r2, t2⟩ := r1.upd (s' := ⟨h', g, d, t, os⟩) (m' := .iter l (some (i + 1))) hi (fun b o hb gb => hsb.extBut b o hb gb) rfl rfl (let ⟨o', a1, a2, a3⟩ := hit; ⟨o', a1, a2, a3⟩)
    refine wpAny_mono (r2.store he (r1.vr t2 rv) (nameOk_or hx) (Q := fun _ s' => RepF prog w K (flOf A) e (setv fr x y) (σ.set it (.iter l (some (i + 1)))) s' ∧ Step (own e) (σ.set it (.iter l (some (i + 1)))) ⟨h', g, d, t, os⟩ (σ.set it (.iter l (some (i + 1)))) s') fun s' p q _ => ⟨p, q⟩) (fun _ s₃ hzz => ?_) fun _ _ z => z.elim
    obtain ⟨r3, t3⟩ := hzz
    refine wpAny_execs_cons (wpAny_Break ?_)
    exact hQ _ _ ⟨.brk, _, _, r3, (x1.step.trans t2).trans t3, rfl, h1 y hxi⟩
  | none =>
    have hvn : its[i]? = none := by
      rw [Array.getElem?_eq_none_iff, ql.size]; exact List.getElem?_eq_none_iff.mp hxi
    refine wpAny_call (mw_call gm slot_kind_ln (args_listiter_next _) ⟨quiet_ln _, next_end hh gi di ci gl' hvn fun h' ex vs hk hit hexn hex hv1 => ?_⟩)
    have fresh : ∀ o, h.get? ex ≠ some o := fun o q => by rw [hexn] at q; cases q
    obtain ⟨r2, t2⟩ := r1.upd (s' := ⟨h', g, d, t, os⟩) (m' := .iter l none) hi (fun b o hb gb => hk b o hb gb) rfl rfl (let ⟨o', a1, a2, a3⟩ := hit; ⟨o', a1, a2, _, a3⟩)
    obtain ⟨outer, hfr⟩ := hfr
    obtain ⟨l', hl1, hl2⟩ := ha.frs
    rw [hfr] at hl1
    cases hl1
    refine note_first (s := ⟨h', g, d, t, os⟩) hfr (r2.toRep.frames hfr hl2) hL hex (notFl_fields r2.toRep hex rfl) hv1 fun s₃ T vs' ts k3 os3 gens3 hx3 hv3 hT hT3 ht3 => ?_
    have hTx : T ≠ ex := fun q => by rw [q, hex] at hT; cases hT
    refine wpAny_setFlight_none hx3 rfl hv3 hT3 rfl (Array.getElem?_eq_some_iff.mp ht3).1 ?_
    have k4 : ∀ b o, b ≠ ex → h'.get? b = some o → (b ∉ flOf A → (s₃.heap.update T (Obj.mapFields (·.setIfInBounds 3 .none))).get? b = some o) ∧ ∃ sl, (s₃.heap.update T (Obj.mapFields (·.setIfInBounds 3 .none))).get? b = some { o with slots := sl } := fun b o hb gb => by
      have hbT : T ≠ b := fun q => by rw [q] at hT; rw [show h'.get? b = none from hT] at gb; cases gb
      obtain ⟨a1, sl, a2⟩ := k3 b o hb gb
      exact ⟨fun hn => (Heap.get?_update_other _ _ hbT).trans (a1 hn), sl, (Heap.get?_update_other _ _ hbT).trans a2⟩
    have hxx : (s₃.heap.update T (Obj.mapFields (·.setIfInBounds 3 .none))).get? ex = some { cls := .type "StopIteration", data := .fields vs' } := (Heap.get?_update_other _ _ hTx).trans hx3
    have zx : (σ.set it (.iter l none)) ex = none := by
      rw [Sg.set_ne _ _ fun q => by obtain ⟨o, g, _⟩ := r1.objs _ _ hi; exact fresh o (q ▸ g)]
      exact fresh_none r1.toRep fresh
    have r4 := r2.slottedBut (s' := { s₃ with heap := s₃.heap.update T (Obj.mapFields (·.setIfInBounds 3 .none)) }) zx (fresh_own r1 fresh) (fresh_K r1.toRep fresh) (notFl_fresh r1.toRep fresh) hex (fun _ _ q => by cases q) k4
    have t4 : Step (own e) σ ⟨h, g, d, t, os⟩ (σ.set it (.iter l none)) { s₃ with heap := s₃.heap.update T (Obj.mapFields (·.setIfInBounds 3 .none)) } := by
      have kk : ∀ b o, h.get? b = some o → σ b = none → h'.get? b = some o ∧ b ≠ ex ∧ (σ.set it (.iter l none)) b = none := fun b o gb z =>
        have hbi : b ≠ it := fun q => by rw [q, hi] at z; cases z
        ⟨hk b o hbi gb, fun q => fresh o (q ▸ gb), Sg.set_none' _ hbi z⟩
      refine ⟨fun b o gb z _ nf => ?_, fun b o gb z _ _ => ?_, os3, gens3⟩
      · obtain ⟨a1, a2, a3⟩ := kk b o gb z
        exact ⟨(k4 b o a2 a1).1 (r1.toRep.notFl gb nf), a3⟩
      · obtain ⟨a1, a2, a3⟩ := kk b o gb z
        exact ⟨a3, (k4 b o a2 a1).2⟩
    refine wpAny_handleBy_builtin (X := "StopIteration") (T := "StopIteration") (b := true) (by rw [isSubtype_type]; kernel_rfl) (by rw [isSubtype_type]; kernel_rfl) isSubtype_stop ?_
    refine wpAny_mono ((Ep_global (K := K) (fr := fr) (σ := σ.set it (.iter l none)) he hkd hg (y := .ty "StopIteration") (fun _ _ => rfl) rfl : EP prog w K (A.mark (some (.ref ex))) e fr (σ.set it (.iter l none)) (.Name "StopIteration" tpos) (.ty "StopIteration")) _ (r4.mark _)) (fun v s₅ hzz => ?_) fun _ _ z => z.elim
    obtain ⟨x5, rv⟩ := hzz
    cases (show v = _ from rv)
    refine ⟨rfl, ⟨_, x5.keep _ _ hxx, rfl⟩, ?_⟩
    rw [if_pos rfl]
    have freshT : ∀ o, h.get? T ≠ some o := fun o q => by
      have hTi : T ≠ it := fun e1 => by
        obtain ⟨o', g', _⟩ := r2.objs it _ (Sg.set_same ..)
        rw [e1] at hT
        rw [show h'.get? it = none from hT] at g'; cases g'
      have := hk T o hTi q
      rw [show h'.get? T = none from hT] at this; cases this
    have hT4 : (s₃.heap.update T (Obj.mapFields (·.setIfInBounds 3 .none))).get? T = some { cls := .type "traceback", data := .fields (ts.setIfInBounds 3 .none) } := Heap.get?_update_self _ hT3 rfl
    refine wpAny_setFlight_none (x5.keep _ _ hxx) rfl hv3 (x5.keep _ _ hT4) rfl (by simpa using (Array.getElem?_eq_some_iff.mp ht3).1) ?_
    have r5 := r4.ext x5
    have zT : (σ.set it (.iter l none)) T = none := by
      rw [Sg.set_ne _ _ fun q => by obtain ⟨o, g, _⟩ := r1.objs _ _ hi; exact freshT o (q ▸ g)]
      exact fresh_none r1.toRep freshT
    have mv : Moved T s₅ { s₅ with heap := s₅.heap.update T (Obj.mapFields (·.setIfInBounds 3 .none)) } := ⟨fun b o hb gb => (Heap.get?_update_other _ _ (Ne.symm hb)).trans gb, rfl, rfl⟩
    obtain ⟨r6, _⟩ := r5.moved zT (fresh_own r1 freshT) (fresh_K r1.toRep freshT) (notFl_fresh r1.toRep freshT) (x5.keep _ _ hT4) (fun _ _ q => by cases q) mv
    refine wpAny_mono (h2 hxi (some (.ref ex)) _ (r6.mark _)) (fun f s₇ hzz => ?_) fun _ _ z => z.elim
    obtain ⟨f', fr', σ', r7, t7, rf, hR⟩ := hzz
    refine hQ _ _ ⟨f', fr', σ', r7, ⟨fun b o gb z q nf => ?_, fun b o gb z q hF => ?_, t7.os.trans (mv.os.trans (x5.os.trans t4.os)) |>.trans x1.os, t7.gens.trans (mv.gens.trans (x5.gens.trans t4.gens)) |>.trans x1.gens⟩, rf, hR⟩
    · have g1 := x1.keep b o gb
      obtain ⟨g4, z4⟩ := t4.keep b o g1 z q nf
      exact t7.keep b o (mv.keep b o (fun e1 => freshT o (e1 ▸ g1)) (x5.keep _ _ g4)) z4 q nf
    · have g1 := x1.keep b o gb
      obtain ⟨z4, sl, g4⟩ := t4.fr b o g1 z q hF
      obtain ⟨z7, sl', g7⟩ := t7.fr b _ (mv.keep b _ (fun e1 => freshT o (e1 ▸ g1)) (x5.keep _ _ g4)) z4 q hF
      exact ⟨z7, sl', g7⟩
end
end Mine

end
section
open PySem PySem.W PyProof.Rows
set_option maxRecDepth 100000
namespace Mine

section
variable {prog : Program} {w : World} {K : Frag} {A : Around} {e : Env} {fr : Vars} {σ : Sg} {s s' : Shared}

theorem call_iter {v : Value} {Q E : Value → Shared → Prop} (h : wpAny (model prog w) A.in1 (pyIter v) Q E s) : wpAny (model prog w) A (call (.builtin "iter") [v]) Q E s := by
  refine Calls.call_function_entry (by decide +kernel) (by decide +kernel) (entryFor_of_tree (b := Builtin.«iter») (by kernel_rfl)) (by unfold argsOk; kernel_rfl) ?_
  unfold Builtin.«iter»
  refine wpAny_bind (wpAny_of_eq (a := [v]) rfl ?_)
  refine wpAny_bind (wpAny_mono h (fun x s' hq => wpAny_pure ⟨x, rfl, hq⟩) fun _ _ z => z)

/-- iter(xs).__next__ -/
theorem Ev_iterNext {n : Nat} {func x : Expr} {cpos pos : Pos} {l : Addr} {xs : List MV} {R : MV → Sg → Prop} (hf : EP prog w K A e fr σ func (.bi "iter")) (hx : EP prog w K A e fr σ x (.ref l)) (hl : σ l = some (.list xs))
    (h : ∀ it mw, σ it = none → σ mw = none → it ≠ mw → R (.ref mw) ((σ.set it (.iter l (some 0))).set mw (.raw (mwO "list_iterator.__next__" it))))
    (he : eval (.Attribute (.Call func [x] [] cpos) "__next__" pos) e = (do
      let o' ← eval (.Call func [x] [] cpos) e
      standAt pos.atName
      let r ← holding [o'] (getAttr o' "__next__" true)
      letTemporaryGo (.Call func [x] [] cpos) o' r
      pure r) := by rfl)
    (hst : starEach [x] e = (false, eval x e) :: starEach [] e := by rfl) (hp : (starEach [x] e).any (·.1) = false := by rfl)
    (hc : eval (.Call func [x] [] cpos) e = (do callWith cpos (← eval func e) [] (backTo cpos (starEach [x] e)) (backToKw cpos (keywordEach [] e))) := by rfl) : Ev prog w K A e fr σ (eval (.Attribute (.Call func [x] [] cpos) "__next__" pos) e) R := fun s r => by
  have hcall := call_Q (Q := fun s₀ v s' => ∃ it, v = .ref it ∧ (∀ o, s₀.heap.get? it ≠ some o) ∧ s'.heap.get? it = some (liO l 0)) hf (fun _ _ _ r => r) (keepsOk_builtin (id := "iter")) (EPs_cons hx EPs_nil hst) (fun s vs r rs => by
    obtain ⟨v, rfl, rv⟩ := rs.one
    cases (show v = .ref l from rv)
    obtain ⟨its, nn, g, q⟩ := r.objs _ _ hl
    refine call_iter (wpAny_pyIter_list (isList g) fun s₀ x0 => ⟨x0.trans ⟨fun b o g => Heap.get?_push_of_some _ g, rfl, rfl⟩, s.heap.objs.size, rfl, fun o g => Nat.lt_irrefl _ (Heap.lt_size (x0.keep _ _ g)), Heap.get?_push_size _ rfl⟩)) hp hc s r
  refine Attribute_any_ (wpAny_mono hcall (fun v s₁ hzz => ?_) fun _ _ z => z) he
  obtain ⟨x1, it, e1, hf0, hg⟩ := hzz
  subst e1
  obtain ⟨h1, g, d, t, os⟩ := s₁
  refine next_get hg ?_
  obtain ⟨r1, t1⟩ := r.new (s' := ⟨h1, g, d, t, os⟩) (m' := .iter l (some 0)) hf0 x1.keep x1.os x1.gens ⟨_, hg, rfl, rfl⟩
  have fresh : ∀ o, h1.get? h1.objs.size ≠ some o := fun o g => Nat.lt_irrefl _ (Heap.lt_size g)
  obtain ⟨r2, t2⟩ := r1.new (s' := ⟨h1.push (mwO "list_iterator.__next__" it), g, d, t + 1, os⟩) (m' := .raw (mwO "list_iterator.__next__" it)) fresh (fun b o g => Heap.get?_push_of_some _ g) rfl rfl (Heap.get?_push_size _ rfl)
  have fr0 : ∀ o, s.heap.get? h1.objs.size ≠ some o := fun o g => fresh o (x1.keep _ _ g)
  exact ⟨.ref h1.objs.size, _, r2, t1.trans t2, rfl, h it h1.objs.size (fresh_none r.toRep hf0) (fresh_none r.toRep fr0) (fun q => fresh _ (q ▸ hg))⟩

/-- del d[i] -/
theorem Ex_delSub {o i : Expr} {pos p : Pos} {d : Addr} {R : MF → Vars → Sg → Prop} (ho : EP prog w K A e fr σ o (.ref d))
    (hi : Ev prog w K A e fr σ (eval i e) fun z σ₁ => ∃ k es ep y, z = .str k ∧ σ₁ d = some (.dict es ep) ∧ es.length ≤ 1000 ∧ es.lookup k = some y ∧ ∀ ep', R .next fr (σ₁.set d (.dict (es.filter fun p => decide (p.1 ≠ k)) ep'))) :
    E1 prog w K A e fr σ (.Delete [.Subscript o i p] pos) R := fun s r => by
  refine wpAny_Delete (wpAny_deleteEach_cons (delete_Subscript (wpAny_mono (ho s r) (fun va s₁ ⟨x1, ra⟩ => wpAny_mono (hi s₁ (r.ext x1)) (fun vi s₂ hzz => ?_) fun _ _ z => z) fun _ _ z => z)))
  obtain ⟨z, σ₁, r2, t2, rz, k, es, ep, y, ez, hd, hn, hk, hR⟩ := hzz
  subst ez
  cases (show va = .ref d from ra)
  obtain ⟨t, rfl⟩ := rz
  refine wpAny_mono (delD (R := fun σ₂ => R .next fr σ₂) r2 hd hn hk hR) (fun _ s₃ ⟨σ₂, r3, t3, hR⟩ => wpAny_deleteEach_nil ⟨.next, fr, σ₂, r3, (x1.step.trans t2).trans t3, rfl, hR⟩) fun _ _ z => z
end

/-! looking for a cycle -/
structure SE where
  k : Str
  it : Addr
  mw : Addr
  sa : Addr
  i : Nat
  su : List Str

structure FC (σ : Sg) (st its sn ni : Addr) (stk : List SE) (S : List Str) : Prop where
  st : σ st = some (.list (stk.map fun x => .str x.k))
  its : σ its = some (.list (stk.map fun x => .ref x.mw))
  sn : σ sn = some (.set S)
  ni : ∃ es ep, σ ni = some (.dict es ep) ∧ es.map (·.1) = stk.map (·.k)
  mw : ∀ x ∈ stk, σ x.mw = some (.raw (mwO "list_iterator.__next__" x.it))
  it : ∀ x ∈ stk, σ x.it = some (.iter x.sa (some x.i))
  itn : (stk.map (·.it)).Nodup

/-- all that was there stays -/
noncomputable def Old (σ₀ σ : Sg) : Prop := ∀ a m, σ₀ a = some m → σ a = some m
theorem Old.refl {σ : Sg} : Old σ σ := fun _ _ h => h
theorem Old.set {σ₀ σ : Sg} {a : Addr} {m : MObj} (x : Old σ₀ σ) (h : σ₀ a = none) : Old σ₀ (σ.set a m) := fun b m' hb => by
  rw [Sg.set_ne _ _ (fun e => by rw [e, h] at hb; cases hb)]; exact x b m' hb
theorem Old.trans {σ₀ σ₁ σ : Sg} (x : Old σ₀ σ₁) (y : Old σ₁ σ) : Old σ₀ σ := fun a m h => y a m (x a m h)
theorem Old.none {σ₀ σ : Sg} (x : Old σ₀ σ) {a : Addr} (h : σ a = Option.none) : σ₀ a = Option.none := by
  cases z : σ₀ a with
  | none => rfl
  | some m => rw [x a m z] at h; cases h

/-- the nodes' order: followers stand higher -/
structure Dag (ns : List Nd) (rk : Str → Nat) : Prop where
  up : ∀ x ∈ ns, ∀ s ∈ x.su, rk x.name < rk s
  in_ : ∀ x ∈ ns, ∀ s ∈ x.su, s ∈ ns.map (·.name)
  few : ns.length ≤ 100
  su : ∀ x ∈ ns, x.su.length ≤ 100

theorem nodup_len {α : Type} [DecidableEq α] : ∀ {l l' : List α}, l.Nodup → (∀ x ∈ l, x ∈ l') → l.length ≤ l'.length
  | [], _, _, _ => Nat.zero_le _
  | x :: l, l', hn, h => by
    rw [List.nodup_cons] at hn
    have hx := h x (.head _)
    have := nodup_len (l' := l'.erase x) hn.2 fun y hy => (List.mem_erase_of_ne (fun (e : y = x) => hn.1 (e ▸ hy))).mpr (h y (.tail _ hy))
    rw [List.length_erase_of_mem hx] at this
    have := List.length_pos_of_mem hx
    rw [List.length_cons]; omega
/-- what is left to do -/
noncomputable def restOf (ns : List Nd) (S : List Str) : Nat := ((ns.filter fun x => decide (x.name ∉ S)).map fun x => x.su.length + 2).sum
noncomputable def leftOf (stk : List SE) : Nat := (stk.map fun x => x.su.length - x.i + 1).sum

theorem left_step (a : Nat) {i n : Nat} (h : i < n) : a + (n - (i + 1) + 1 + 0) + 1 = a + (n - i + 1 + 0) := by omega
theorem rest_step (a b n : Nat) : a + (b + ((n - 0 + 1) + 0)) ≤ a + (n + 2) + b := by omega
theorem rest_cons {ns : List Nd} {S : List Str} {x : Nd} (hnd : (ns.map (·.name)).Nodup) (hx : x ∈ ns) (hS : x.name ∉ S) : restOf ns (x.name :: S) + (x.su.length + 2) = restOf ns S := by
  unfold restOf
  induction ns with
  | nil => cases hx
  | cons y ns ih =>
    rw [List.map_cons, List.nodup_cons] at hnd
    rcases List.mem_cons.mp hx with rfl | hx'
    · rw [List.filter_cons_of_neg (by simp), List.filter_cons_of_pos (by simpa using hS), List.map_cons, List.sum_cons]
      have : ns.filter (fun y => decide (y.name ∉ x.name :: S)) = ns.filter fun y => decide (y.name ∉ S) := List.filter_congr fun y hy => by
        have : y.name ≠ x.name := fun e => hnd.1 (e ▸ List.mem_map.mpr ⟨y, hy, rfl⟩)
        simp [this]
      rw [this]; omega
    · have hne : y.name ≠ x.name := fun e => hnd.1 (e ▸ List.mem_map.mpr ⟨x, hx', rfl⟩)
      have ih' := ih hnd.2 hx'
      by_cases hyS : y.name ∈ S
      · rw [List.filter_cons_of_neg (by simp [hyS]), List.filter_cons_of_neg (by simp [hyS])]; exact ih'
      · rw [List.filter_cons_of_pos (by simp [hyS, hne]), List.filter_cons_of_pos (by simpa using hyS), List.map_cons, List.map_cons, List.sum_cons, List.sum_cons]; omega

/-- the stack is a rising road of known nodes -/
structure Road (ns : List Nd) (rk : Str → Nat) (stk : List SE) (S : List Str) : Prop where
  nodes : ∀ x ∈ stk, ∃ y ∈ ns, y.name = x.k ∧ y.sa = x.sa ∧ y.su = x.su
  rise : stk.Pairwise fun x y => rk x.k < rk y.k
  seen : ∀ x ∈ stk, x.k ∈ S

section
variable {prog : Program} {w : World} {K : Frag} {A : Around} {σ : Sg}
local macro_rules | `(tactic| trivial) => `(tactic| first | exact SubL.n | (refine SubL.c rfl ?_; trivial) | exact Ep_local (by assumption) rfl rfl rfl | exact Ep_int | exact Ep_none)

theorem It_keysK {d : Addr} {es : List (Str × MV)} {ep : Nat} (hh : A.handled = none) (hs : sysOk K) (hd : σ d = some (.dict es ep)) : It prog w K A σ (.ref d) (es.map fun p => .str p.1) (fun σ' => σ' d = some (.dict es ep)) := fun s v r rv =>
  It_keys hh (r.notSys hs hd) hd s v r rv

theorem Road.nodupK {ns : List Nd} {rk : Str → Nat} {stk : List SE} {S : List Str} (R : Road ns rk stk S) : (stk.map (·.k)).Nodup := by
  unfold List.Nodup
  rw [List.pairwise_map]
  exact R.rise.imp fun h e => by rw [e] at h; exact Nat.lt_irrefl _ h
theorem last_key {es : List (Str × MV)} {ks : List Str} {k : Str} (h : es.map (·.1) = ks ++ [k]) (hn : (ks ++ [k]).Nodup) : ∃ v, es.lookup k = some v ∧ (es.filter fun p => decide (p.1 ≠ k)).map (·.1) = ks := by
  obtain ⟨e1, e2, rfl, h1, h2⟩ := List.map_eq_append_iff.mp h
  obtain ⟨p, rfl, hp⟩ : ∃ p, e2 = [p] ∧ p.1 = k := by
    cases e2 with
    | nil => simp at h2
    | cons p r => cases r with
      | nil => exact ⟨p, rfl, by simpa using h2⟩
      | cons _ _ => simp at h2
  have hk : k ∉ e1.map (·.1) := fun hm => by
    rw [h1] at hm
    exact (List.nodup_append.mp hn).2.2 k hm k (by simp) rfl
  refine ⟨p.2, ?_, ?_⟩
  · rw [List.lookup_append, lookup_of_notmem hk]
    obtain ⟨p1, p2⟩ := p
    have hp : p1 = k := hp
    subst hp
    show List.lookup p1 [(p1, p2)] = some p2
    rw [List.lookup_cons, beq_self_eq_true]
  · rw [List.filter_append, List.filter_cons_of_neg (by simp [hp]), List.filter_nil, List.append_nil, List.filter_eq_self.mpr, h1]
    intro q hq
    have : q.1 ≠ k := fun e => hk (e ▸ List.mem_map.mpr ⟨q, hq, rfl⟩)
    simpa using this

theorem neOf {σ : Sg} {a b : Addr} {m m' : MObj} (ha : σ a = some m) (hb : σ b = some m') (h : m ≠ m') : a ≠ b := fun e => h (by rw [e, hb] at ha; cases ha; rfl)
theorem FC.draw {σ : Sg} {st its sn ni : Addr} {rest : List SE} {top : SE} {S : List Str} (F : FC σ st its sn ni (rest ++ [top]) S) : FC (σ.set top.it (.iter top.sa (some (top.i + 1)))) st its sn ni (rest ++ [{ top with i := top.i + 1 }]) S := by
  have ht := F.it top (by simp)
  have hn := F.itn
  rw [List.map_append] at hn
  obtain ⟨es, ep, h1, h2⟩ := F.ni
  have k : ∀ a m, σ a = some m → (∀ l i, m ≠ .iter l i) → (σ.set top.it (.iter top.sa (some (top.i + 1)))) a = some m := fun a m h hm => (Sg.set_ne _ _ (neOf h ht (hm _ _))).trans h
  refine ⟨?_, ?_, k _ _ F.sn nofun, ⟨es, ep, k _ _ h1 nofun, by rw [h2]; simp⟩, fun x hx => ?_, fun x hx => ?_, ?_⟩
  · rw [k _ _ F.st nofun]; simp
  · rw [k _ _ F.its nofun]; simp
  · rcases List.mem_append.mp hx with hx | hx
    · exact k _ _ (F.mw x (by simp [hx])) nofun
    · rw [List.mem_singleton.mp hx]; exact k _ _ (F.mw top (by simp)) nofun
  · rcases List.mem_append.mp hx with hx | hx
    · rw [Sg.set_ne _ _ fun e => (List.nodup_append.mp hn).2.2 x.it (List.mem_map.mpr ⟨x, hx, rfl⟩) top.it (by simp) e]
      exact F.it x (by simp [hx])
    · rw [List.mem_singleton.mp hx]; exact Sg.set_same ..
  · have := F.itn
    rw [List.map_append] at this ⊢
    exact this
theorem FC.push {σ : Sg} {st its sn ni : Addr} {stk : List SE} {S : List Str} {x : SE} {es : List (Str × MV)} {ep : Nat} (F : FC σ st its sn ni stk S) (hne : its ≠ st) (h0 : x.i = 0) (hit : (σ.set sn (.set (x.k :: S))) x.it = none) (hmw : (σ.set sn (.set (x.k :: S))) x.mw = none) (him : x.it ≠ x.mw) (hes : es.map (·.1) = stk.map (·.k) ++ [x.k]) :
    FC ((((((σ.set sn (.set (x.k :: S))).set x.it (.iter x.sa (some 0))).set x.mw (.raw (mwO "list_iterator.__next__" x.it))).set its (.list ((stk.map fun x => .ref x.mw) ++ [.ref x.mw]))).set ni (.dict es ep)).set st (.list ((stk.map fun x => .str x.k) ++ [.str x.k]))) st its sn ni (stk ++ [x]) (x.k :: S) := by
  obtain ⟨es0, ep0, h1, h2⟩ := F.ni
  have nsn : ∀ a m, σ a = some m → (∀ T, m ≠ .set T) → a ≠ sn := fun a m h hm => neOf h F.sn (hm _)
  have new : ∀ a m, σ a = some m → a ≠ x.it ∧ a ≠ x.mw := fun a m h => by
    have h3 : ∃ m', (σ.set sn (.set (x.k :: S))) a = some m' := by
      by_cases e : a = sn
      · exact ⟨_, by rw [e, Sg.set_same]⟩
      · exact ⟨m, (Sg.set_ne _ _ e).trans h⟩
    obtain ⟨m', h3⟩ := h3
    exact ⟨fun e => (by rw [e, hit] at h3; cases h3), fun e => (by rw [e, hmw] at h3; cases h3)⟩
  have n1 : st ≠ ni := neOf F.st h1 nofun
  have n2 : its ≠ ni := neOf F.its h1 nofun
  have n3 : st ≠ sn := neOf F.st F.sn nofun
  have n4 : its ≠ sn := neOf F.its F.sn nofun
  have n5 : ni ≠ sn := neOf h1 F.sn nofun
  obtain ⟨s1, s2⟩ := new _ _ F.st
  obtain ⟨i1, i2⟩ := new _ _ F.its
  obtain ⟨u1, u2⟩ := new _ _ h1
  obtain ⟨w1, w2⟩ := new _ _ F.sn
  have k : ∀ a m, σ a = some m → a ≠ sn → a ≠ its → a ≠ ni → a ≠ st → ((((((σ.set sn (.set (x.k :: S))).set x.it (.iter x.sa (some 0))).set x.mw (.raw (mwO "list_iterator.__next__" x.it))).set its (.list ((stk.map fun x => .ref x.mw) ++ [.ref x.mw]))).set ni (.dict es ep)).set st (.list ((stk.map fun x => .str x.k) ++ [.str x.k]))) a = some m := fun a m h a1 a2 a3 a4 => by
    rw [Sg.set_ne _ _ a4, Sg.set_ne _ _ a3, Sg.set_ne _ _ a2, Sg.set_ne _ _ (new _ _ h).2, Sg.set_ne _ _ (new _ _ h).1, Sg.set_ne _ _ a1]; exact h
  refine ⟨by rw [Sg.set_same]; simp, by rw [Sg.set_ne _ _ hne, Sg.set_ne _ _ n2, Sg.set_same]; simp, by rw [Sg.set_ne _ _ n3.symm, Sg.set_ne _ _ n5.symm, Sg.set_ne _ _ n4.symm, Sg.set_ne _ _ w2, Sg.set_ne _ _ w1, Sg.set_same], ⟨es, ep, by rw [Sg.set_ne _ _ n1.symm, Sg.set_same], by rw [hes]; simp⟩, fun z hz => ?_, fun z hz => ?_, ?_⟩
  · rcases List.mem_append.mp hz with hz | hz
    · have := F.mw z hz
      exact k _ _ this (neOf this F.sn nofun) (neOf this F.its nofun) (neOf this h1 nofun) (neOf this F.st nofun)
    · rw [List.mem_singleton.mp hz, Sg.set_ne _ _ s2.symm, Sg.set_ne _ _ u2.symm, Sg.set_ne _ _ i2.symm, Sg.set_same]
  · rcases List.mem_append.mp hz with hz | hz
    · have := F.it z hz
      exact k _ _ this (neOf this F.sn nofun) (neOf this F.its nofun) (neOf this h1 nofun) (neOf this F.st nofun)
    · rw [List.mem_singleton.mp hz, Sg.set_ne _ _ s1.symm, Sg.set_ne _ _ u1.symm, Sg.set_ne _ _ i1.symm, Sg.set_ne _ _ him, Sg.set_same, h0]
  · rw [List.map_append]
    refine List.nodup_append.mpr ⟨F.itn, by simp, fun a ha b hb e => ?_⟩
    obtain ⟨z, hz, rfl⟩ := List.mem_map.mp ha
    simp only [List.map_cons, List.map_nil, List.mem_singleton] at hb
    exact (new _ _ (F.it z hz)).1 (e.trans hb)
theorem FC.pop {σ : Sg} {st its sn ni : Addr} {rest : List SE} {top : SE} {S : List Str} {es : List (Str × MV)} {ep : Nat} (F : FC σ st its sn ni (rest ++ [top]) S) (hne : its ≠ st) (hes : es.map (·.1) = rest.map (·.k)) :
    FC ((((σ.set top.it (.iter top.sa none)).set st (.list (rest.map fun x => .str x.k))).set ni (.dict es ep)).set its (.list (rest.map fun x => .ref x.mw))) st its sn ni rest S := by
  have ht := F.it top (by simp)
  have hn := F.itn
  rw [List.map_append] at hn
  obtain ⟨es0, ep0, h1, h2⟩ := F.ni
  have n1 : st ≠ ni := neOf F.st h1 nofun
  have n2 : its ≠ ni := neOf F.its h1 nofun
  have k : ∀ a m, σ a = some m → a ≠ top.it → a ≠ st → a ≠ ni → a ≠ its → ((((σ.set top.it (.iter top.sa none)).set st (.list (rest.map fun x => .str x.k))).set ni (.dict es ep)).set its (.list (rest.map fun x => .ref x.mw))) a = some m := fun a m h a1 a2 a3 a4 => by
    rw [Sg.set_ne _ _ a4, Sg.set_ne _ _ a3, Sg.set_ne _ _ a2, Sg.set_ne _ _ a1]; exact h
  refine ⟨by rw [Sg.set_ne _ _ hne.symm, Sg.set_ne _ _ n1, Sg.set_same], Sg.set_same .., k _ _ F.sn (neOf F.sn ht nofun) (neOf F.sn F.st nofun) (neOf F.sn h1 nofun) (neOf F.sn F.its nofun), ⟨es, ep, by rw [Sg.set_ne _ _ n2.symm, Sg.set_same], hes⟩, fun x hx => ?_, fun x hx => ?_, (List.nodup_append.mp hn).1⟩
  · have := F.mw x (by simp [hx])
    exact k _ _ this (neOf this ht nofun) (neOf this F.st nofun) (neOf this h1 nofun) (neOf this F.its nofun)
  · have := F.it x (by simp [hx])
    exact k _ _ this (fun e => (List.nodup_append.mp hn).2.2 x.it (List.mem_map.mpr ⟨x, hx, rfl⟩) top.it (by simp) e) (neOf this F.st nofun) (neOf this h1 nofun) (neOf this F.its nofun)

/-- a store besides the search's own places -/
theorem FC.besides {σ σ' : Sg} {st its sn ni : Addr} {stk : List SE} {S : List Str} (F : FC σ st its sn ni stk S) (h : ∀ a m, σ a = some m → σ' a = some m) : FC σ' st its sn ni stk S :=
  ⟨h _ _ F.st, h _ _ F.its, h _ _ F.sn, let ⟨es, ep, a, b⟩ := F.ni; ⟨es, ep, h _ _ a, b⟩, fun x hx => h _ _ (F.mw x hx), fun x hx => h _ _ (F.it x hx), F.itn⟩

set_option maxHeartbeats 1000000 in
theorem fn_cyc {n : Nat} (KK : KF K) {ts d nd : Addr} {rl : MV} {npo nf : Int} {ns : List Nd} {rk : Str → Nat} (S0 : ST σ ts d nd rl npo nf ns) (DG : Dag ns rk) :
    Fn prog w K (n + 1) (.ref 171) [.ref ts] σ (fun y σ' => y = .none ∧ Old σ σ') := by
  refine Fn_posF KK.ok KK.f_cyc.1 ["self"] (by decide +kernel) rfl (fun _ _ _ _ _ _ _ _ => len1 fun _ => rfl) ?_
  intro L q cdv A ha hh hfr
  have he : FrE (fe (fS (inCls (topS 10) 8)) L q 171 cdv) := frE_fe rfl
  obtain ⟨ep, hdict⟩ := S0.dict
  refine Ex_cons (Ex_assign he rfl (Ep.ev (Ep_own (by trivial) S0.ts S0.d rfl handed_ref KK.ts KK.ts_n) ?_))
  refine Ex_cons (Ex_assign he rfl (Ev_list (Evs_nil ⟨by simp, fun st hst => ?_⟩)))
  refine Ex_cons (Ex_assign he rfl (Ev_list (Evs_nil ⟨by simp, fun its hits => ?_⟩)))
  refine Ex_cons (Ex_assign he rfl (Ev_set (n := n) (Ep_glb KK.g_set he rfl rfl) fun sn hsn => ?_))
  refine Ex_cons (Ex_assign he rfl (Ev_dict fun ni epi hni => ?_))
  have h1 : its ≠ st := fun e => by rw [e, Sg.set_same] at hits; cases hits
  have h2 : sn ≠ its := fun e => by rw [e, Sg.set_same] at hsn; cases hsn
  have h3 : sn ≠ st := fun e => by rw [e, Sg.set_ne _ _ h1.symm, Sg.set_same] at hsn; cases hsn
  have h4 : ni ≠ sn := fun e => by rw [e, Sg.set_same] at hni; cases hni
  have h5 : ni ≠ its := fun e => by rw [e, Sg.set_ne _ _ h2.symm, Sg.set_same] at hni; cases hni
  have h6 : ni ≠ st := fun e => by rw [e, Sg.set_ne _ _ h3.symm, Sg.set_ne _ _ h1.symm, Sg.set_same] at hni; cases hni
  have z1 : σ its = none := by rwa [Sg.set_ne _ _ h1] at hits
  have z2 : σ sn = none := by rwa [Sg.set_ne _ _ h2, Sg.set_ne _ _ h3] at hsn
  have z3 : σ ni = none := by rwa [Sg.set_ne _ _ h4, Sg.set_ne _ _ h5, Sg.set_ne _ _ h6] at hni
  have old0 : Old σ ((((σ.set st (.list [])).set its (.list [])).set sn (.set [])).set ni (.dict [] epi)) := (((Old.refl.set hst).set z1).set z2).set z3
  have FC0 : FC ((((σ.set st (.list [])).set its (.list [])).set sn (.set [])).set ni (.dict [] epi)) st its sn ni [] [] :=
    ⟨by rw [Sg.set_ne _ _ h6.symm, Sg.set_ne _ _ h3.symm, Sg.set_ne _ _ h1.symm, Sg.set_same]; rfl, by rw [Sg.set_ne _ _ h5.symm, Sg.set_ne _ _ h2.symm, Sg.set_same]; rfl, by rw [Sg.set_ne _ _ h4.symm, Sg.set_same], ⟨[], epi, Sg.set_same .., rfl⟩, (nofun), (nofun), List.nodup_nil⟩
  generalize ((((σ.set st (.list [])).set its (.list [])).set sn (.set [])).set ni (.dict [] epi)) = σ0 at old0 FC0
  refine Ex_cons (Ex_for he rfl (fun xs C i fr σ' => ∃ S, xs = ns.map (fun x => .str x.name) ∧ C = (fun σ' => σ' nd = some (.dict (ns.map fun x => (x.name, MV.ref x.ia)) ep)) ∧ Old σ σ' ∧ FC σ' st its sn ni [] S ∧ S.Nodup ∧ (∀ k ∈ S, k ∈ ns.map (·.name)) ∧ fr = ([("n2i", .ref nd), ("stack", .ref st), ("itstack", .ref its), ("seen", .ref sn), ("node2stacki", .ref ni)] : Vars))
    ((SrcP_of (by trivial) (It_keysK hh KK.sys (old0 _ _ hdict))).src ⟨⟨_, ⟨[], by rw [List.map_map]; rfl, rfl, old0, FC0, List.nodup_nil, (nofun), rfl⟩, by trivial⟩, ?_, ?_, ?_⟩))
  · rintro i fr σ' ⟨S, -, -, hold, -, -, -, -⟩; exact hold _ _ hdict
  · rintro i y fr σ' Qa hQa - - hy ⟨S, hxs, -, hold, F, hnd, hsub, rfl⟩
    rw [hxs, List.getElem?_map] at hy
    obtain ⟨x, hx, rfl⟩ := Option.map_eq_some_iff.mp hy
    have hx := List.mem_of_getElem? hx
    refine Ex_cons (Ex_ifp (Tp_cmp (by trivial) (by trivial) (O2_inS F.sn)) (fun hb => Ex_cons (Ex_continue ?_)) (fun hb => Ex_nil ?_))
    · exact (hQa _ _ ⟨_, ⟨S, hxs, rfl, hold, F, hnd, hsub, rfl⟩, by trivial⟩).2
    · have hxS : x.name ∉ S := by simpa using hb
      refine Ex_cons (Ex_while (fun m fr σ' => ∃ (stk : List SE) (S : List Str) (nx : Nd), m = restOf ns S + leftOf stk ∧ Old σ σ' ∧ FC σ' st its sn ni stk S ∧ Road ns rk stk S ∧ S.Nodup ∧ (∀ k ∈ S, k ∈ ns.map (·.name)) ∧ nx ∈ ns ∧ (stk = [] → nx.name ∉ S) ∧ (∀ x ∈ stk, rk x.k < rk nx.name) ∧ (∀ x ∈ stk, σ x.it = none) ∧
        fr = ([("n2i", .ref nd), ("stack", .ref st), ("itstack", .ref its), ("seen", .ref sn), ("node2stacki", .ref ni), ("node", .str nx.name)] : Vars)) (restOf ns S + leftOf []) ?_ ?_)
      · exact ⟨_, ⟨[], S, x, rfl, hold, F, ⟨nofun, .nil, nofun⟩, hnd, hsub, hx, fun _ => hxS, (nofun), (nofun), rfl⟩, by trivial⟩
      · rintro m fr σ' Qb hQb hQbB - ⟨stk, S, nx, rfl, hold, F, R, hnd, hsub, hnx, hne0, hrk, hit0, rfl⟩
        refine (Tp_val Ep_bool OT_bool).tv ?_
        rw [if_pos rfl]
        have hdict' := hold _ _ hdict
        have SO' : SO σ' ns := ⟨S0.ndn, S0.san, fun x hx => hold _ _ (S0.ia x hx), fun x hx => hold _ _ (S0.da x hx), fun x hx => hold _ _ (S0.su x hx)⟩
        refine Ex_cons (Ex_to (fun fr σ₁ => ∃ (stk' : List SE) (S' : List Str) (kk : Str), restOf ns S' + leftOf stk' ≤ restOf ns S + leftOf stk ∧ Old σ σ₁ ∧ FC σ₁ st its sn ni stk' S' ∧ Road ns rk stk' S' ∧ S'.Nodup ∧ (∀ k ∈ S', k ∈ ns.map (·.name)) ∧ (∀ x ∈ stk', σ x.it = none) ∧
            fr = ([("n2i", .ref nd), ("stack", .ref st), ("itstack", .ref its), ("seen", .ref sn), ("node2stacki", .ref ni), ("node", .str kk)] : Vars)) (Ex_ifp (Tp_cmp (by trivial) (by trivial) (O2_inS F.sn)) (fun hb => ?_) (fun hb => ?_)) ?_)
        · -- seen before: not on the stack
          have hne : stk ≠ [] := fun e => hne0 e (by simpa using hb)
          obtain ⟨es, ep2, hni2, hks⟩ := F.ni
          have hno : nx.name ∉ es.map (·.1) := fun hm => by
            rw [hks] at hm
            obtain ⟨z, hz, e⟩ := List.mem_map.mp hm
            have := hrk z hz
            rw [e] at this; exact Nat.lt_irrefl _ this
          refine Ex_cons (Ex_ifp (b := false) ((Tp_cmp (by trivial) (by trivial) (O2_inD KK.sys hni2)).to (by rw [lookup_of_notmem hno]; rfl)) (fun h => nomatch h) fun _ => Ex_nil (Ex_nil ⟨rfl, _, ⟨stk, S, nx.name, Nat.le_refl _, hold, F, R, hnd, hsub, hit0, rfl⟩, by trivial⟩))
        · -- new: onto the stack
          have hnS : nx.name ∉ S := by simpa using hb
          have hSl : S.length ≤ 100 := by
            have := nodup_len hnd hsub
            rw [List.length_map] at this
            exact Nat.le_trans this DG.few
          have hkl : stk.length ≤ 100 := by
            have h7 : (stk.map (·.k)).length ≤ S.length := nodup_len R.nodupK fun k hk => by
              obtain ⟨z, hz, rfl⟩ := List.mem_map.mp hk
              exact R.seen z hz
            rw [List.length_map] at h7; omega
          obtain ⟨es, ep2, hni2, hks⟩ := F.ni
          have hknew : nx.name ∉ stk.map (·.k) := fun hm => by
            obtain ⟨z, hz, e⟩ := List.mem_map.mp hm
            exact hnS (e ▸ R.seen z hz)
          have hesl : es.length ≤ 100 := by
            have := congrArg List.length hks
            rw [List.length_map, List.length_map] at this; omega
          refine Ex_cons (Ex_expr (Ev_bmeth (by trivial) (Rep.isSet F.sn) PySem.F.plainAttrs_set PySem.F.slot_set_add PySem.F.type_set_add ((EPs_cons (by trivial) EPs_nil).evs fun s va vs r rv rs => MC_sadd F.sn hnS (by omega) ?_ s (va :: vs) r (.cons rv rs))))
          have kA : ∀ a m, σ' a = some m → (∀ T, m ≠ .set T) → (σ'.set sn (.set (nx.name :: S))) a = some m := fun a m h hm => (Sg.set_ne _ _ (neOf h F.sn (hm _))).trans h
          have eits : (σ'.set sn (.set (nx.name :: S))) its = some (.list (stk.map fun x => .ref x.mw)) := kA _ _ F.its nofun
          refine Ex_cons (Ex_expr (Ev_append (by trivial) eits (Ev_iterNext (n := n) (xs := nx.su.map .str) (Ep_glb KK.g_iter he rfl rfl) (Ep_slotA (Ep_sub (by trivial) (by trivial) (OS_dict (kA _ _ hdict' nofun) (dict_hit S0.ndn hnx rfl))) (kA _ _ (SO'.ia nx hnx) nofun) (kA _ _ (SO'.da nx hnx) nofun) rfl handed_ref KK.ni KK.ni_su) (kA _ _ (SO'.su nx hnx) nofun) fun it mw hit hmw him => ?_)))
          have kB : ∀ a m, (σ'.set sn (.set (nx.name :: S))) a = some m → (((σ'.set sn (.set (nx.name :: S))).set it (.iter nx.sa (some 0))).set mw (.raw (mwO "list_iterator.__next__" it))) a = some m := fun a m h => by
            rw [Sg.set_ne _ _ (fun e => by rw [e, hmw] at h; cases h), Sg.set_ne _ _ (fun e => by rw [e, hit] at h; cases h)]; exact h
          refine ⟨stk.map fun x => .ref x.mw, kB _ _ eits, by simp; omega, ?_⟩
          have n1 : st ≠ ni := neOf F.st hni2 nofun
          have n2 : its ≠ ni := neOf F.its hni2 nofun
          have est : ((((σ'.set sn (.set (nx.name :: S))).set it (.iter nx.sa (some 0))).set mw (.raw (mwO "list_iterator.__next__" it))).set its (.list ((stk.map fun x => .ref x.mw) ++ [.ref mw]))) st = some (.list (stk.map fun x => .str x.k)) := (Sg.set_ne _ _ h1.symm).trans (kB _ _ (kA _ _ F.st nofun))
          have eni : ((((σ'.set sn (.set (nx.name :: S))).set it (.iter nx.sa (some 0))).set mw (.raw (mwO "list_iterator.__next__" it))).set its (.list ((stk.map fun x => .ref x.mw) ++ [.ref mw]))) ni = some (.dict es ep2) := (Sg.set_ne _ _ n2.symm).trans (kB _ _ (kA _ _ hni2 nofun))
          refine Ex_cons (Ex_setItem (Ep.ev (Ep_call (Ep_glb KK.g_len he rfl rfl) (fun _ _ _ r => r) keepsOk_builtin (EPs_cons (by trivial) EPs_nil) (OC_len (.ref est) (by simp; omega))) ⟨_, _, by trivial, by trivial, SetI_dict eni (by omega) fun ep' => ?_⟩))
          have est2 := (Sg.set_ne _ (.dict (setv es nx.name (.int ((stk.map fun x => MV.str x.k).length : Int))) ep') n1).trans est
          refine Ex_cons (Ex_expr (Ev_append (by trivial) est2 (Ep.ev (by trivial) ⟨_, est2, by simp; omega, ?_⟩)))
          have zit : σ it = none := hold.none (by
            by_cases e : it = sn
            · rw [e, Sg.set_same] at hit; cases hit
            · rwa [Sg.set_ne _ _ e] at hit)
          have zmw : σ mw = none := hold.none (by
            by_cases e : mw = sn
            · rw [e, Sg.set_same] at hmw; cases hmw
            · rwa [Sg.set_ne _ _ e] at hmw)
          refine Ex_nil ⟨rfl, _, ⟨stk ++ [⟨nx.name, it, mw, nx.sa, 0, nx.su⟩], nx.name :: S, nx.name, ?_, ?_, F.push (x := ⟨nx.name, it, mw, nx.sa, 0, nx.su⟩) h1 rfl hit hmw him (by rw [setv_notmem (by rw [hks]; exact hknew), List.map_append, hks]; rfl), ⟨fun z hz => ?_, ?_, fun z hz => ?_⟩, List.nodup_cons.mpr ⟨hnS, hnd⟩, fun k hk => ?_, fun z hz => ?_, rfl⟩, by trivial⟩
          · have h8 := rest_cons S0.ndn hnx hnS
            unfold leftOf
            rw [List.map_append, List.sum_append]
            show restOf ns (nx.name :: S) + (_ + ((nx.su.length - 0 + 1) + 0)) ≤ _
            rw [← h8]; exact rest_step ..
          · exact (((((hold.set z2).set zit).set zmw).set z1).set z3).set hst
          · rcases List.mem_append.mp hz with hz | hz
            · exact R.nodes z hz
            · rw [List.mem_singleton.mp hz]; exact ⟨nx, hnx, rfl, rfl, rfl⟩
          · rw [List.pairwise_append]
            exact ⟨R.rise, by simp, fun a ha b hb => by rw [List.mem_singleton.mp hb]; exact hrk a ha⟩
          · rcases List.mem_append.mp hz with hz | hz
            · exact .tail _ (R.seen z hz)
            · rw [List.mem_singleton.mp hz]; exact .head _
          · rcases List.mem_cons.mp hk with rfl | hk
            · exact List.mem_map.mpr ⟨nx, hnx, rfl⟩
            · exact hsub k hk
          · rcases List.mem_append.mp hz with hz | hz
            · exact hit0 z hz
            · rw [List.mem_singleton.mp hz]; exact zit
        · rintro fr σ₁ ⟨stk₁, S₁, kk, hle, hold₁, F₁, R₁, hnd₁, hsub₁, hit₁, rfl⟩
          refine Ex_cons (Ex_while (fun m fr σ₂ => ∃ (stk' : List SE), m = stk'.length ∧ restOf ns S₁ + leftOf stk' ≤ restOf ns S + leftOf stk ∧ Old σ σ₂ ∧ FC σ₂ st its sn ni stk' S₁ ∧ Road ns rk stk' S₁ ∧ (∀ x ∈ stk', σ x.it = none) ∧
            fr = ([("n2i", .ref nd), ("stack", .ref st), ("itstack", .ref its), ("seen", .ref sn), ("node2stacki", .ref ni), ("node", .str kk)] : Vars)) stk₁.length ?_ ?_)
          · exact ⟨_, ⟨stk₁, rfl, hle, hold₁, F₁, R₁, hit₁, rfl⟩, by trivial⟩
          · rintro m fr σ₂ Qc hQc hQcB - ⟨stk₂, rfl, hle₂, hold₂, F₂, R₂, hit₂, rfl⟩
            have hlen : stk₂.length ≤ 100 := by
              have h7 : (stk₂.map (·.k)).length ≤ (ns.map (·.name)).length := nodup_len R₂.nodupK fun k hk => by
                obtain ⟨z, hz, rfl⟩ := List.mem_map.mp hk
                exact hsub₁ _ (R₂.seen z hz)
              simp only [List.length_map] at h7
              exact Nat.le_trans h7 DG.few
            refine (Tp_val (by trivial) (OT_list (.ref F₂.st) (by simp; omega))).tv ?_
            rcases List.eq_nil_or_concat stk₂ with rfl | ⟨rest, top, rfl⟩
            · rw [if_neg (by simp)]
              refine Ex_cons (Ex_break (hQbB _ _ ?_))
              exact Ex_nil (hQa _ _ ⟨_, ⟨S₁, hxs, rfl, hold₂, F₂, hnd₁, hsub₁, rfl⟩, by trivial⟩).1
            · rw [if_pos (by simp)]
              rw [List.concat_eq_append] at *
              have htop : top ∈ rest ++ [top] := by simp
              obtain ⟨ty, hty, hk1, hk2, hk3⟩ := R₂.nodes top htop
              have hsu : σ₂ top.sa = some (.list (top.su.map .str)) := by rw [← hk2, ← hk3]; exact hold₂ _ _ (S0.su ty hty)
              have hsul : top.su.length ≤ 100 := hk3 ▸ DG.su ty hty
              have hmw0 : ∀ x ∈ rest ++ [top], σ x.it = none := hit₂
              refine Ex_cons (Ex_tryNext he rfl ha hfr rfl hh KK.g_stop rfl (Ep_sub (by trivial) (Ep_un Ep_int O1_neg) (OS_list_neg (c := .ref top.mw) (.ref F₂.its) (by decide) (by simp; omega) (by
                have h8 : ((-1 : Int) + ((rest ++ [top]).map fun x => MV.ref x.mw).length).toNat = rest.length := by simp; omega
                rw [h8]; simp) (by simp; simp at hlen; omega))) (F₂.mw top htop) (F₂.it top htop) hsu (fun y hy => ?_) (fun hnone ex => ?_))
              · -- one more follower
                obtain ⟨s', hs', rfl, -⟩ := take_str hy
                have hs'' : s' ∈ ty.su := hk3 ▸ List.mem_of_getElem? hs'
                obtain ⟨ny, hny, hnk⟩ := find_name (DG.in_ ty hty s' hs'')
                have hlt : top.i < top.su.length := (List.getElem?_eq_some_iff.mp hs').1
                have hrt : rk top.k < rk s' := hk1 ▸ DG.up ty hty s' hs''
                have hlo : leftOf (rest ++ [{ top with i := top.i + 1 }]) + 1 = leftOf (rest ++ [top]) := by
                  unfold leftOf; simp only [List.map_append, List.sum_append, List.map_cons, List.map_nil, List.sum_cons, List.sum_nil]; exact left_step _ hlt
                refine hQcB _ _ (Ex_nil (hQb _ _ ⟨_, ⟨restOf ns S₁ + leftOf (rest ++ [{ top with i := top.i + 1 }]), by omega, rest ++ [{ top with i := top.i + 1 }], S₁, ny, rfl, hold₂.set (hit₂ top htop), F₂.draw, ⟨fun z hz => ?_, ?_, fun z hz => ?_⟩, hnd₁, hsub₁, hny, fun e => by simp at e, fun z hz => ?_, fun z hz => ?_, rfl⟩, by rw [hnk]; trivial⟩).1)
                · rcases List.mem_append.mp hz with hz | hz
                  · exact R₂.nodes z (by simp [hz])
                  · rw [List.mem_singleton.mp hz]; exact ⟨ty, hty, hk1, hk2, hk3⟩
                · have := R₂.rise
                  rw [List.pairwise_append] at this ⊢
                  exact ⟨this.1, by simp, fun a ha b hb => by rw [List.mem_singleton.mp hb]; exact this.2.2 a ha top (by simp)⟩
                · rcases List.mem_append.mp hz with hz | hz
                  · exact R₂.seen z (by simp [hz])
                  · rw [List.mem_singleton.mp hz]; exact R₂.seen top htop
                · rw [hnk]
                  rcases List.mem_append.mp hz with hz | hz
                  · have := R₂.rise
                    rw [List.pairwise_append] at this
                    exact Nat.lt_trans (this.2.2 z hz top (by simp)) hrt
                  · rw [List.mem_singleton.mp hz]; exact hrt
                · rcases List.mem_append.mp hz with hz | hz
                  · exact hit₂ z (by simp [hz])
                  · rw [List.mem_singleton.mp hz]; exact hit₂ top htop
              · -- at its end: off the stack
                obtain ⟨es, ep2, hni2, hks⟩ := F₂.ni
                have hnk : (rest.map (·.k) ++ [top.k]).Nodup := by have := R₂.nodupK; rwa [List.map_append] at this
                obtain ⟨v, hv1, hv2⟩ := last_key (es := es) (ks := rest.map (·.k)) (k := top.k) (by rw [hks]; simp) hnk
                have t1 := F₂.it top htop
                have e1 : (σ₂.set top.it (.iter top.sa none)) st = some (.list ((rest.map fun x => MV.str x.k) ++ [.str top.k])) := by
                  rw [Sg.set_ne _ _ (neOf F₂.st t1 nofun), F₂.st]; simp
                have n1 : st ≠ ni := neOf F₂.st hni2 nofun
                have n2 : its ≠ ni := neOf F₂.its hni2 nofun
                have e2 : ((σ₂.set top.it (.iter top.sa none)).set st (.list (rest.map fun x => MV.str x.k))) ni = some (.dict es ep2) := by
                  rw [Sg.set_ne _ _ n1.symm, Sg.set_ne _ _ (neOf hni2 t1 nofun), hni2]
                have hesl : es.length ≤ 100 := by
                  have := congrArg List.length hks
                  rw [List.length_map, List.length_map] at this; omega
                have hrl : rest.length < 100 := by rw [List.length_append, List.length_singleton] at hlen; omega
                refine Ex_cons (Ex_delSub (by trivial) (Ev_lm (by trivial) (.ref e1) PySem.F.slot_list_pop PySem.F.type_list_pop (Evs_nil (MC_pop e1 (by simp; omega) ⟨top.k, es, ep2, v, rfl, e2, by omega, hv1, fun ep' => ?_⟩))))
                have e3 : (((σ₂.set top.it (.iter top.sa none)).set st (.list (rest.map fun x => MV.str x.k))).set ni (.dict (es.filter fun p => decide (p.1 ≠ top.k)) ep')) its = some (.list ((rest.map fun x => MV.ref x.mw) ++ [.ref top.mw])) := by
                  rw [Sg.set_ne _ _ n2, Sg.set_ne _ _ h1, Sg.set_ne _ _ (neOf F₂.its t1 nofun), F₂.its]; simp
                refine Ex_cons (Ex_expr (Ev_lm (by trivial) (.ref e3) PySem.F.slot_list_pop PySem.F.type_list_pop (Evs_nil (MC_pop e3 (by simp; omega) ?_))))
                refine Ex_nil (Ex_nil (hQc _ _ ⟨_, ⟨rest.length, by simp, rest, rfl, ?_, ?_, F₂.pop h1 hv2, ⟨fun z hz => R₂.nodes z (by simp [hz]), ?_, fun z hz => R₂.seen z (by simp [hz])⟩, fun z hz => hit₂ z (by simp [hz]), rfl⟩, by trivial⟩).1)
                · refine Nat.le_trans ?_ hle₂
                  unfold leftOf
                  rw [List.map_append, List.sum_append]; omega
                · exact (((hold₂.set (hit₂ top htop)).set hst).set z3).set z1
                · have := R₂.rise
                  rw [List.pairwise_append] at this
                  exact this.1
  · rintro fr σ' ⟨S, -, -, hold, F, hnd, hsub, rfl⟩
    exact Ex_nil (Ex_cons (Ex_return (Ep.ev Ep_none ⟨rfl, hold⟩)))
end
end Mine

end
section
open PySem PySem.W PyProof.Rows
set_option maxRecDepth 100000
namespace Mine

section
variable {prog : Program} {w : World} {K : Frag} {A : Around} {e : Env} {fr : Vars} {σ : Sg} {s s' : Shared}

/-- an iterator's turns, and one new object -/
theorem RepF.movedNew (x : RepF prog w K (flOf A) e fr σ s) {it D : Addr} {m' : MObj} (hn : σ it = none) (ho : ¬ own e it) (hK : ∀ o, K.lookup it ≠ some o) (hF : it ∉ flOf A) {o : Obj} (hg : s.heap.get? it = some o) (hd : ∀ its n, o.data ≠ .seq its n) (t : Moved it s s')
    (hD : ∀ o, s.heap.get? D ≠ some o) (n : OR prog w s'.heap (σ.set D m') D m') : RepF prog w K (flOf A) e fr (σ.set D m') s' := by
  have kk : ∀ b o, b ≠ it → s.heap.get? b = some o → σ b = none → s'.heap.get? b = some o ∧ σ.set D m' b = none := fun b o hb g q =>
    ⟨t.keep b o hb g, Sg.set_none' σ (fun e => by rw [e] at g; exact hD _ g) q⟩
  have ks : ∀ a c its n, s.heap.get? a = some ⟨c, none, .seq its n, #[]⟩ → σ a = none → s'.heap.get? a = some ⟨c, none, .seq its n, #[]⟩ ∧ σ.set D m' a = none := fun a c its n g z => kk a _ (fun e' => by rw [e', hg] at g; cases g; exact hd _ _ rfl) g z
  have nl : e.locals ≠ it := fun e' => ho (.inl e'.symm)
  have nc : ∀ p ∈ e.cells, p.2 ≠ it := fun p hp e' => ho (.inr ⟨p, hp, e'⟩)
  refine ⟨⟨fun a m hm => ?_, fun a o g => t.keep a o (fun e' => hK o (e' ▸ g)) (x.top a o g), fun a o g => (kk a o (fun e' => hK o (e' ▸ g)) (x.top a o g) (x.low a o g)).2, fun L hL => ?_⟩, ?_, ?_, ?_, fun b hb => ?_, x.offK⟩
  · by_cases q : a = D
    · subst q; rw [Sg.set_same] at hm; cases hm; exact n
    · rw [Sg.set_ne σ m' q] at hm
      exact (x.objs a m hm).mono (fun o g => t.keep a o (fun e' => by rw [e', hn] at hm; cases hm) g) ks
  · obtain ⟨h1, h2, o, h3, h4⟩ := x.ff L hL
    have := kk L o (fun e' => hF (e' ▸ hL)) h3 h1
    exact ⟨this.2, h2, o, this.1, h4⟩
  · obtain ⟨f, ⟨o, es, ep, g, r⟩, hm⟩ := x.loc
    exact ⟨f, ⟨o, es, ep, t.keep _ _ nl g, r⟩, fun y z q k => let ⟨v, p, r⟩ := hm y z q k; ⟨v, p, r.mono ks⟩⟩
  · exact fun p hp => let ⟨ov, o, g, r⟩ := x.cel p hp; ⟨ov, o, t.keep _ _ (nc p hp) g, r⟩
  · exact fun y z q k => let ⟨c, v, p, ⟨o, g, i⟩, r⟩ := x.celv y z q k; ⟨c, v, p, ⟨o, t.keep _ _ (nc (y, c) (mem_of_lookup p)) g, i⟩, r.mono ks⟩
  · refine Sg.set_none' σ (fun e' => ?_) (x.off b hb)
    subst e'
    rcases hb with rfl | ⟨p, hp, rfl⟩
    · obtain ⟨_, ⟨o, _, _, g, _⟩, _⟩ := x.loc; exact hD o g
    · obtain ⟨_, o, g, _⟩ := x.cel p hp; exact hD o g

/-- a comprehension of strings, its list kept in sight -/
theorem Ev_compN {elt iter : Expr} {x : Str} {px : Pos} {ifs : List Expr} {scope : Scope} {cl : List (Str × Addr)} {pos : Pos} {fc : Vars} {xs : List MV} {C : Sg → Prop} {R : MV → Sg → Prop} (p : MV → Bool) (f : MV → MV) (ks : List Str) (he : FrE e) (k : CompOk e scope cl x fr fc)
    (hs : SrcP prog w K A e fr σ iter xs C) (hn : xs.length ≤ 1000) (hC : ∀ σ', (∀ a m, σ a = some m → σ' a = some m) → C σ')
    (ht : ∀ σ' L, FrE (ce e scope cl L) → (∀ a m, σ a = some m → σ' a = some m) → ∀ (i : Nat) (y : MV), xs[i]? = some y → TestsP prog w K A (ce e scope cl L) (setv fc x y) σ' ifs (p y))
    (hx : ∀ σ' L, FrE (ce e scope cl L) → (∀ a m, σ a = some m → σ' a = some m) → ∀ (i : Nat) (y : MV), xs[i]? = some y → p y = true → EP prog w K A (ce e scope cl L) (setv fc x y) σ' elt (f y)) (hks : (xs.filter p).map f = ks.map .str)
    (hR : ∀ D, σ D = none → R (.ref D) (σ.set D (.list (ks.map .str))))
    (hf : ∀ v, foldedSetIterable iter e v = pure v := by intro _; rfl) : Ev prog w K A e fr σ (eval (.ListComp elt [⟨.Name x px, iter, ifs, 0⟩] scope pos) e) R := fun s r => by
  rw [eval_ListComp]
  refine wpAny_comprehension_free (use := none) compPos hf k.clos k.kind k.names (wpAny_mono (hs s r) (fun v s₁ h₁ => wpAny_mono h₁ (fun rr s₂ hzz => ?_) fun _ _ z => z.elim) fun _ _ z => z.elim)
  obtain ⟨it, At, e1, hit, x2, P, a0, c0⟩ := hzz
  subst e1
  have r2 := r.ext x2
  obtain ⟨zi, oi, fsi, gi, hdi⟩ := P.here _ _ _ a0
  refine comp_core (RR := fun acc L => compPost (model prog w) A _ none _ acc L) he k hn r2 P a0 hC (fresh_own r hit) (fresh_K r.toRep hit) ht hx fun D L s' hD hL hDL ⟨m, hm⟩ mv rv => ⟨m, hm, fun h' hs' => ?_⟩
  rw [hks] at rv
  obtain ⟨_, its, nn, e1, zD, gD, rs⟩ := id rv
  cases e1
  have rs' := strsVR (h := h') (σ := σ.set D (.list (ks.map .str))) (strsAre rs)
  have mv' : Moved it s₂ { s' with heap := h' } := ⟨fun b o hb g => hs'.extBut b o (fun e1 => hL o (e1 ▸ g)) (mv.keep b o hb g), mv.os, mv.gens⟩
  have r3 := r2.movedNew (s' := { s' with heap := h' }) (m' := .list (ks.map .str)) zi (fresh_own r hit) (fresh_K r.toRep hit) (notFl_fields r2.toRep gi hdi) gi (fun its n e1 => by rw [hdi] at e1; cases e1) mv' hD ⟨its, nn, hs'.extBut D _ hDL gD, rs'⟩
  exact ⟨.ref D, _, r3, .of (fun b o g q _ => ⟨mv'.keep b o (fun e1 => hit o (e1 ▸ g)) (x2.keep _ _ g), Sg.set_none' σ (fun e1 => hD o (e1 ▸ x2.keep _ _ g)) q⟩) (mv'.os.trans x2.os) (mv'.gens.trans x2.gens), rfl, hR D zD⟩

/-- o.values() -/
theorem SrcP_values {o : Expr} {pos apos : Pos} {d : Addr} {es : List (Str × MV)} {ep : Nat} (hh : A.handled = none) (hs : sysOk K) (ho : EP prog w K A e fr σ o (.ref d)) (hd : σ d = some (.dict es ep))
    (hp : (starEach [] e).any (·.1) = false := by rfl) (hbase : attributeBase o "values" e (eval o e) = eval o e := by rfl)
    (hfew : methodCallForm (([] : List Expr).length + ([] : List Keyword).length) (backTo pos (starEach [] e)) (backToKw pos (keywordEach [] e)) = true := by rfl) (hline : (apos.endLine == pos.line) = true := by rfl) :
    SrcP prog w K A e fr σ (.Call (.Attribute o "values" apos) [] [] pos) (es.map (·.2)) (fun σ' => σ' d = some (.dict es ep)) := fun s r => by
  rw [arm_eval_Call, hbase]
  refine wpAny_bind (wpAny_mono (ho s r) (fun v s₁ hzz => ?_) fun _ _ f => f)
  obtain ⟨p, rv⟩ := hzz
  have r1 := r.ext p
  have hT := Rep.isDict hd s₁ v r1.toRep rv
  have hpos : methodCallPos true o e apos pos = pure pos := by unfold methodCallPos; simp [hline]
  refine wpAny_bind (wpAny_standAt ?_)
  unfold methodCall
  rw [hfew]
  refine wpAny_bind (wpAny_holding (getMethod_builtin hT.1 PySem.F.plainAttrs_dict PySem.F.slot_dict_values PySem.F.type_dict_values hT.2 ?_))
  dsimp only
  rw [hpos]
  refine wpAny_bind (wpAny_pure ?_)
  have hp' : (backTo pos (starEach [] e)).any (·.1) = false := by unfold backTo; rw [List.any_map]; exact hp
  refine callWith_of (P := K.In) (by rw [hp']; rfl) (fun h' X => keepsOk_builtin _ h' X) (evalArgs_any hp' ?_)
  refine wpAny_mono (EPs_nil pos s₁ r1) (fun vs s₂ ⟨p2, rs⟩ => ⟨(r1.ext p2).top, ?_⟩) fun _ _ f => f
  cases (show vs = [] from rs)
  cases (show v = _ from rv)
  have r2 := r1.ext p2
  obtain ⟨kvs, D, x, nd⟩ := r2.dict hd
  refine call_meetsIn PySem.F.slot_dict_values D.typeIs PySem.F.entry_dict_values (PySem.F.args_dict_values_1 _) (meets_dict_values (PySem.strKind prog w) d (r2.toRep.notSys hs hd)) ⟨⟨_, D⟩, ?_⟩
  have p3 : Ext s₂ { s₂ with heap := s₂.heap.push { cls := .type "dict_values", data := .fields #[.ref d] } } := ⟨fun b o g => Heap.get?_push_of_some _ g, rfl, rfl⟩
  have x03 := (p.trans p2).trans p3
  exact wpAny_mono (It_vals hh (r2.ext p3).toRep hd ⟨_, Heap.get?_push_size _ rfl, rfl, rfl⟩) (fun rr s₄ ⟨it, At, e1, hf, x4, q⟩ => ⟨it, At, e1, fun o g => hf o (x03.keep _ _ g), x03.trans x4, q⟩) fun _ _ f => f
end
end Mine

end
section
open PySem PySem.W PyProof.Rows
set_option maxRecDepth 100000
namespace Mine

section
variable {prog : Program} {w : World} {K : Frag} {A : Around} {σ : Sg}
local macro_rules | `(tactic| trivial) => `(tactic| first | exact SubL.n | (refine SubL.c rfl ?_; trivial) | exact Ep_local (by assumption) rfl rfl rfl | exact Ep_int | exact Ep_none)

theorem SO.iaInj {ns : List Nd} (S : SO σ ns) {x y : Nd} (hx : x ∈ ns) (hy : y ∈ ns) (h : x.ia = y.ia) : x = y := by
  have h1 := S.ia x hx
  rw [h, S.ia y hy] at h1
  simp only [Option.some.injEq, MObj.inst.injEq, List.cons.injEq, MV.str.injEq] at h1
  exact S.inj hx hy h1.2.2.1.symm

open Classical in
/-- a node's name and count, from its place -/
noncomputable def freeP (ns : List Nd) (y : MV) : Bool := decide (∃ x ∈ ns, y = .ref x.ia ∧ x.np = 0)
open Classical in
noncomputable def nameP (ns : List Nd) (y : MV) : MV := if h : ∃ x ∈ ns, y = .ref x.ia then .str h.choose.name else .none
theorem SO.freeP {ns : List Nd} (S : SO σ ns) {x : Nd} (hx : x ∈ ns) : freeP ns (.ref x.ia) = decide (x.np = 0) := by
  unfold Mine.freeP
  refine decide_eq_decide.mpr ⟨?_, fun h => ⟨x, hx, rfl, h⟩⟩
  rintro ⟨y, hy, e, h2⟩
  exact S.iaInj hx hy (MV.ref.inj e) ▸ h2
theorem SO.nameP {ns : List Nd} (S : SO σ ns) {x : Nd} (hx : x ∈ ns) : nameP ns (.ref x.ia) = .str x.name := by
  have h : ∃ y ∈ ns, MV.ref x.ia = .ref y.ia := ⟨x, hx, rfl⟩
  unfold Mine.nameP
  rw [dif_pos h]
  rw [S.iaInj h.choose_spec.1 hx (MV.ref.inj h.choose_spec.2).symm]

theorem SR.old {σ' : Sg} {ts d nd ra : Addr} {npo nf : Int} {ns : List Nd} {ready : List Str} (S : SR σ ts d nd ra npo nf ns ready) (h : Old σ σ') : SR σ' ts d nd ra npo nf ns ready :=
  let ⟨ep, hd⟩ := S.dict
  ⟨⟨⟨S.ndn, S.san, fun x hx => h _ _ (S.ia x hx), fun x hx => h _ _ (S.da x hx), fun x hx => h _ _ (S.su x hx)⟩, h _ _ S.ts, h _ _ S.d, ep, h _ _ hd⟩, h _ _ S.hra, S.ran⟩

theorem fn_prep {n : Nat} (KK : KF K) {ts d nd : Addr} {npo nf : Int} {ns : List Nd} {rk : Str → Nat} (S0 : ST σ ts d nd .none npo nf ns) (DG : Dag ns rk) :
    Fn prog w K (n + 2) (.ref 136) [.ref ts] σ (fun y σ' => y = .none ∧ ∃ ra, SR σ' ts d nd ra npo nf ns ((ns.filter fun x => decide (x.np = 0)).map (·.name)) ∧ σ ra = none ∧ Stay (· = d) σ σ') := by
  refine Fn_pos KK.ok KK.f_prep.1 ["self"] (by decide +kernel) rfl (fun _ _ _ _ _ _ _ _ => len1 fun _ => rfl) ?_
  intro L q cdv A ha hh
  have he : FrE (fe (fS (inCls (topS 10) 3)) L q 136 cdv) := frE_fe rfl
  obtain ⟨ep, hdict⟩ := S0.dict
  refine Ex_cons (Ex_ifp (b := false) (Tp_cmp (Ep_own (by trivial) S0.ts S0.d rfl handed_none KK.ts KK.ts_r) Ep_none O2_isnotNone) (fun h => nomatch h) fun _ => Ex_nil ?_)
  have hxs : (ns.map fun x => (x.name, MV.ref x.ia)).map (·.2) = ns.map fun x => MV.ref x.ia := by rw [List.map_map]; rfl
  have at_ : ∀ {i : Nat} {y : MV}, ((ns.map fun x => (x.name, MV.ref x.ia)).map (·.2))[i]? = some y → ∃ x ∈ ns, y = .ref x.ia := fun {i y} hy => by
    rw [hxs, List.getElem?_map] at hy
    obtain ⟨x, hx, e⟩ := Option.map_eq_some_iff.mp hy
    exact ⟨x, List.mem_of_getElem? hx, e.symm⟩
  refine Ex_cons (Ex_setAttr (Ev_compN (freeP ns) (nameP ns) ((ns.filter fun x => decide (x.np = 0)).map (·.name)) he (fc := []) ⟨rfl, rfl, by decide, .n, List.nodup_nil, fun _ => rfl, fun _ _ h => (nomatch h), .n, fun _ => rfl, fun _ _ h => (nomatch h), rfl⟩
    (SrcP_values hh KK.sys (Ep_own (by trivial) S0.ts S0.d rfl handed_ref KK.ts KK.ts_n) hdict) (by rw [hxs, List.length_map]; have := DG.few; omega) (fun σ' h => h _ _ hdict) (fun σ' L' he' h i y hy => ?_) (fun σ' L' he' h i y hy hp => ?_) ?_ fun ra hra => ⟨_, by trivial, SetA_own (es := nsS nd .none npo nf) (d := d) (vs := []) ?_ ?_ (by decide : 4 < 900) KK.ts KK.ts_r ?_⟩))
  · obtain ⟨x, hx, rfl⟩ := at_ hy
    rw [S0.toSO.freeP hx]
    exact TestsP_one (Tp_cmp (Ep_slotA (Ep_local he' rfl rfl rfl) (h _ _ (S0.ia x hx)) (h _ _ (S0.da x hx)) rfl handed_int KK.ni KK.ni_np) Ep_int O2_eqI)
  · obtain ⟨x, hx, rfl⟩ := at_ hy
    rw [S0.toSO.nameP hx]
    exact Ep_slotA (Ep_local he' rfl rfl rfl) (h _ _ (S0.ia x hx)) (h _ _ (S0.da x hx)) rfl handed_str KK.ni KK.ni_node
  · rw [hxs, List.filter_map, List.map_map, List.map_map]
    have hf : ns.filter (freeP ns ∘ fun x : Nd => MV.ref x.ia) = ns.filter fun x => decide (x.np = 0) := List.filter_congr fun x hx => S0.toSO.freeP hx
    rw [hf]
    exact List.map_congr_left fun x hx => S0.toSO.nameP (List.mem_filter.mp hx |>.1)
  · exact (Sg.set_ne _ _ (fun e => by have := S0.ts; rw [e, hra] at this; cases this)).trans S0.ts
  · exact (Sg.set_ne _ _ (fun e => by have := S0.d; rw [e, hra] at this; cases this)).trans S0.d
  · have k : ∀ a m, σ a = some m → m ≠ .ns (nsS nd .none npo nf) → ((σ.set ra (.list (((ns.filter fun x => decide (x.np = 0)).map (·.name)).map .str))).set d (.ns (nsS nd (.ref ra) npo nf))) a = some m := fun a m h hm => by
      rw [Sg.set_ne _ _ (neOf h S0.d hm), Sg.set_ne _ _ (fun e => by rw [e, hra] at h; cases h)]; exact h
    have S1 : SR ((σ.set ra (.list (((ns.filter fun x => decide (x.np = 0)).map (·.name)).map .str))).set d (.ns (nsS nd (.ref ra) npo nf))) ts d nd ra npo nf ns ((ns.filter fun x => decide (x.np = 0)).map (·.name)) :=
      ⟨⟨⟨S0.ndn, S0.san, fun x hx => k _ _ (S0.ia x hx) (nofun), fun x hx => k _ _ (S0.da x hx) (fun e => nomatch (MObj.ns.inj e)), fun x hx => k _ _ (S0.su x hx) (nofun)⟩, k _ _ S0.ts (nofun), Sg.set_same .., ep, k _ _ hdict (nofun)⟩,
        (Sg.set_ne _ _ (fun e => by have := S0.d; rw [← e, hra] at this; cases this)).trans (Sg.set_same ..), fun x hx e => by have := S0.su x hx; rw [e, hra] at this; cases this⟩
    refine Ex_cons (Ex_assign he rfl (Ev_methA (by trivial) S1.ts S1.d rfl KK.m_cyc ha hh (EPs_nil.evs ((fn_cyc KK S1.toST DG).mono ?_))))
    rintro y σ' ⟨rfl, hold⟩
    refine Ex_cons (Ex_ifp (b := false) (Tp_val (by trivial) OT_none) (fun h => nomatch h) fun _ => Ex_nil (Ex_nil ⟨rfl, ra, S1.old hold, hra, fun a m h hne => hold _ _ ?_⟩))
    rw [Sg.set_ne _ _ hne, Sg.set_ne _ _ (fun e => by rw [e, hra] at h; cases h)]; exact h
end
end Mine

end
section
open PySem PySem.W PyProof.Rows
set_option maxRecDepth 100000
namespace Mine

section
variable {prog : Program} {w : World} {K : Frag} {A : Around} {e : Env} {fr : Vars} {σ : Sg} {s s' : Shared}

theorem quiet_lc (args : Args) : (Code.builtin "list.__contains__" args).quiet = true := Code.quiet_builtin _ (by decide +kernel)

/-- f(x) where f is list.__contains__ bound to a list -/
theorem Ep_callMw {func x : Expr} {cpos : Pos} {mw a : Addr} {xs : List MV} {y : MV} (hf : EP prog w K A e fr σ func (.ref mw)) (hm : σ mw = some (.raw (mwO "list.__contains__" a))) (ha : σ a = some (.list xs)) (hx : EP prog w K A e fr σ x y) (hk : ∀ z ∈ xs, kin z y = true)
    (hst : starEach [x] e = (false, eval x e) :: starEach [] e := by rfl) (hp : (starEach [x] e).any (·.1) = false := by rfl)
    (hc : eval (.Call func [x] [] cpos) e = (do callWith cpos (← eval func e) [] (backTo cpos (starEach [x] e)) (backToKw cpos (keywordEach [] e))) := by rfl) : EP prog w K A e fr σ (.Call func [x] [] cpos) (.bool (xs.any (eqB · y))) := fun s r => by
  show wpAny _ _ (eval _ e) _ _ _
  rw [hc]
  refine wpAny_bind (wpAny_mono (hf s r) (fun v s₁ hzz => ?_) fun _ _ f => f.elim)
  obtain ⟨p, rv⟩ := hzz
  cases (show v = .ref mw from rv)
  have r1 := r.ext p
  have hp' : (backTo cpos (starEach [x] e)).any (·.1) = false := by unfold backTo; rw [List.any_map]; exact hp
  refine callWith_of (P := fun h => h.get? mw = some (mwO "list.__contains__" a)) (by rw [hp']; rfl) (fun h' X => keeps_mw X) (evalArgs_any hp' ?_)
  refine wpAny_mono (EPs_cons hx EPs_nil hst cpos s₁ r1) (fun vs s₂ hzz => ?_) fun _ _ f => f
  obtain ⟨p2, rs⟩ := hzz
  have r2 := r1.ext p2
  obtain ⟨vx, rfl, rx⟩ := rs.one
  refine ⟨r2.objs _ _ hm, wpAny_call ?_⟩
  obtain ⟨its, n, g, q⟩ := r2.objs _ _ ha
  have gm := r2.objs _ _ hm
  obtain ⟨h, gg, d, t, os⟩ := s₂
  refine mw_call gm slot_kind_lc (PySem.F.args_list_contains_2 _ _) ⟨quiet_lc _, codeAny_builtin PySem.F.entry_list_contains ?_⟩
  obtain ⟨h1, h2⟩ := any_plain hk q
  rw [Around.under_plainId (by decide +kernel : plainId "list.__contains__" = true) _]
  refine SeqAt.list_containsAt a its n none #[] vx (plainEq y) prog w A _ _ ⟨g, fun v hv => ?_, ?_⟩
  · obtain ⟨z, hz, rz⟩ := h1 v (by simpa using hv)
    exact (plain_at (hk z hz) rz rx).1
  · exact ⟨p.trans p2, by rw [← Array.any_toList, h2]; rfl⟩

/-- a slot of a built-in type's, called through its own code -/
theorem call_slot_code {T id : String} {name : Str} {self : Value} {rest : List Value} {R : Result → Shared → Prop} (slot : Slot T name id) (hT : s.TypeIs self T) (ha : argsOk id ⟨self :: rest, []⟩) (hq : (Code.builtin id ⟨self :: rest, []⟩).quiet = true)
    (h : codeAny (model prog w) A (.builtin id ⟨self :: rest, []⟩) R s) : codeAny (model prog w) A (.call (.builtin id) ⟨self :: rest, []⟩) R s :=
  codeAny_call_builtin_code hq (slot.check _ _ _ _ _ _ _ _ hT ha h)

/-- next(it) -/
theorem call_next {it : Addr} {Q E : Value → Shared → Prop} (hT : s.TypeIs (.ref it) "list_iterator")
    (h : codeAny (model prog w) A.in1 (.builtin "list_iterator.__next__" ⟨[.ref it], []⟩) (wants Q E) s) : wpAny (model prog w) A (call (.builtin "next") [.ref it]) Q E s := by
  refine Calls.call_function_entry (by decide +kernel) (by decide +kernel) kdk_entry_next (kdk_args_next _) ?_
  unfold Builtin.«next»
  refine wpAny_bind (m := someArgs "next" 1 2 _) (wpAny_of_eq (a := [Value.ref it]) (by first | rfl | kernel_rfl!) ?_)
  dsimp only
  refine wpAny_bind (wpAny_specialOf (name := Str.ofString "__next__") hT slot_listiter_next.lookup ?_)
  refine wpAny_ite_split (fun hab => absurd hab (by decide)) (fun _ => ?_)
  refine wpAny_bind (wpAny_callSpecial?_slot (name := Str.ofString "__next__") hT slot_listiter_next (wpAny_call (codeAny_mono (call_slot_code slot_listiter_next hT (args_listiter_next _) (quiet_ln _) h) fun r s' hr => ?_)))
  cases r with
  | error e => exact hr
  | ok f =>
    cases f with
    | ret v => exact wpAny_pure ⟨_, rfl, hr⟩
    | _ => exact hr.elim
end
end Mine

end
section
open PySem PySem.W PyProof.Rows
set_option maxRecDepth 100000
namespace Mine

/-- what the rest needs of the top -/
structure KG (K : Frag) : Prop extends KF K where
  ff : clsS K 54 = true
  ff_func : slotB K 54 "_func" 55 0 = true
  ff_it : slotB K 54 "_it" 56 1 = true
  ff_make : makeB K 54 36 = true
  ff_next : findIn K (.ref 54) "__next__" = some (some (.ref 50))
  ff_iter : findIn K (.ref 54) "__iter__" = some (some (.ref 43))
  ff_len : findIn K (.ref 54) "__len__" = some none
  ff_hint : findIn K (.ref 54) "__length_hint__" = some none
  fn50 : isFn K (.ref 50) = true
  fn43 : isFn K (.ref 43) = true
  f_ffi : fnOk K 36 (inCls (topS 2) 1)
  f_ffit : fnOk K 43 (inCls (topS 2) 2)
  f_ffn : fnOk K 50 (inCls (topS 2) 3)
  f_filter : fnOk K 65 (topS 4)
  g_next : glb K "next" (.bi "next")
  g_ff : glb K "filterfalse" (.ref 54)
  g_filter : glb K "_filter" (.ref 65)

section
variable {prog : Program} {w : World} {K : Frag} {A : Around} {e : Env} {fr : Vars} {σ : Sg} {s s' : Shared}
local macro_rules | `(tactic| trivial) => `(tactic| first | exact SubL.n | (refine SubL.c rfl ?_; trivial) | exact Ep_local (by assumption) rfl rfl rfl | exact Ep_int | exact Ep_none)

/-- iter(xs) -/
theorem Ev_iter {func x : Expr} {cpos : Pos} {l : Addr} {xs : List MV} {R : MV → Sg → Prop} (hf : EP prog w K A e fr σ func (.bi "iter")) (hx : EP prog w K A e fr σ x (.ref l)) (hl : σ l = some (.list xs))
    (h : ∀ it, σ it = none → R (.ref it) (σ.set it (.iter l (some 0))))
    (hst : starEach [x] e = (false, eval x e) :: starEach [] e := by rfl) (hp : (starEach [x] e).any (·.1) = false := by rfl)
    (hc : eval (.Call func [x] [] cpos) e = (do callWith cpos (← eval func e) [] (backTo cpos (starEach [x] e)) (backToKw cpos (keywordEach [] e))) := by rfl) : Ev prog w K A e fr σ (eval (.Call func [x] [] cpos) e) R := fun s r => by
  have hcall := call_Q (Q := fun s₀ v s' => ∃ it, v = .ref it ∧ (∀ o, s₀.heap.get? it ≠ some o) ∧ s'.heap.get? it = some (liO l 0)) hf (fun _ _ _ r => r) (keepsOk_builtin (id := "iter")) (EPs_cons hx EPs_nil hst) (fun s vs r rs => by
    obtain ⟨v, rfl, rv⟩ := rs.one
    cases (show v = .ref l from rv)
    obtain ⟨its, nn, g, q⟩ := r.objs _ _ hl
    refine call_iter (wpAny_pyIter_list (isList g) fun s₀ x0 => ⟨x0.trans ⟨fun b o g => Heap.get?_push_of_some _ g, rfl, rfl⟩, s.heap.objs.size, rfl, fun o g => Nat.lt_irrefl _ (Heap.lt_size (x0.keep _ _ g)), Heap.get?_push_size _ rfl⟩)) hp hc s r
  refine wpAny_mono hcall (fun v s₁ hzz => ?_) fun _ _ z => z
  obtain ⟨x1, it, e1, hf0, hg⟩ := hzz
  subst e1
  obtain ⟨r1, t1⟩ := r.new (s' := s₁) (m' := .iter l (some 0)) hf0 x1.keep x1.os x1.gens ⟨_, hg, rfl, rfl⟩
  exact ⟨.ref it, _, r1, t1, rfl, h it (fresh_none r.toRep hf0)⟩

theorem fn_ffi {n : Nat} (KK : KG K) {x dx mw l : Addr} {xs : List MV} (hx : σ x = some (.inst 54 dx [])) (hd : σ dx = some (.ns [])) (hl : σ l = some (.list xs)) :
    Fn prog w K (n + 1) (.ref 36) [.ref x, .ref mw, .ref l] σ (fun y σ' => y = .none ∧ ∃ it, σ it = none ∧ σ' x = some (.inst 54 dx [some (.ref mw), some (.ref it)]) ∧ σ' it = some (.iter l (some 0)) ∧ Stay (· = x) σ σ') := by
  refine Fn_pos KK.ok KK.f_ffi.1 ["self", "function", "iterable"] (by decide +kernel) rfl (fun _ _ _ _ _ _ _ _ => len3 fun _ _ _ => rfl) ?_
  intro L q cdv A ha hh
  have he : FrE (fe (fS (inCls (topS 2) 1)) L q 36 cdv) := frE_fe rfl
  have hne : dx ≠ x := fun e => by rw [e, hx] at hd; cases hd
  refine Ex_cons (Ex_setAttr (Ev_iter (Ep_glb KK.g_iter he rfl rfl) (by trivial) hl fun it hit => ⟨_, by trivial, SetA_slotA (d := dx) (vs := []) (es := []) ?_ ?_ (by decide) KK.ff KK.ff_it ?_⟩))
  · exact set_more hit _ _ hx
  · exact set_more hit _ _ hd
  have hxi : x ≠ it := fun e => by rw [e, hit] at hx; cases hx
  have hdi : dx ≠ it := fun e => by rw [e, hit] at hd; cases hd
  refine Ex_cons (Ex_setAttr (Ep.ev (by trivial) ⟨_, by trivial, SetA_slotA (Sg.set_same ..) ((Sg.set_ne _ _ hne).trans ((Sg.set_ne _ _ hdi).trans hd)) (by decide) KK.ff KK.ff_func ?_⟩))
  rw [Sg.set_set]
  refine Ex_nil ⟨rfl, it, hit, Sg.set_same .., (Sg.set_ne _ _ hxi.symm).trans (Sg.set_same ..), fun a m h hn => ?_⟩
  rw [Sg.set_ne _ _ hn, Sg.set_ne _ _ (fun e => by rw [e, hit] at h; cases h)]; exact h

theorem fn_ffit {n : Nat} (KK : KG K) {x : Addr} : Fn prog w K (n + 1) (.ref 43) [.ref x] σ (fun y σ' => y = .ref x ∧ σ' = σ) := by
  refine Fn_pos KK.ok KK.f_ffit.1 ["self"] (by decide +kernel) rfl (fun _ _ _ _ _ _ _ _ => len1 fun _ => rfl) ?_
  intro L q cdv A ha hh
  have he : FrE (fe (fS (inCls (topS 2) 2)) L q 43 cdv) := frE_fe rfl
  exact Ex_cons (Ex_return (Ep.ev (by trivial) ⟨rfl, rfl⟩))
end
end Mine

end
section
open PySem PySem.W PyProof.Rows
set_option maxRecDepth 100000
namespace Mine

section
variable {prog : Program} {w : World} {K : Frag} {A : Around} {e : Env} {fr : Vars} {σ : Sg} {s s' : Shared}
local macro_rules | `(tactic| trivial) => `(tactic| first | exact SubL.n | (refine SubL.c rfl ?_; trivial) | exact Ep_local (by assumption) rfl rfl rfl | exact Ep_int | exact Ep_none)

theorem O2_isTy {a : Addr} {T : String} {m : MObj} (_ : σ a = some m) : O2 prog w K A σ (compareOp .Is) (.ref a) (.ty T) (.bool false) := fun s va vb r ra rb => by
  cases (show va = _ from ra); cases (show vb = _ from rb)
  exact wpAny_is_other rfl (fun e => nomatch e) ⟨.refl, rfl⟩
/-- two lists in sight -/
theorem O2_isRef {a b : Addr} {xs ys : List MV} (hne : a ≠ b) (ha : σ a = some (.list xs)) (hb : σ b = some (.list ys)) : O2 prog w K A σ (compareOp .Is) (.ref a) (.ref b) (.bool false) := fun s va vb r ra rb => by
  cases (show va = _ from ra); cases (show vb = _ from rb)
  obtain ⟨_, _, g, _⟩ := r.objs _ _ ha
  obtain ⟨_, _, g', _⟩ := r.objs _ _ hb
  exact wpAny_is_ref_other hne g g' (by simp) ⟨.refl, rfl⟩

/-- next(it) where an item is left -/
theorem Ev_nextI {func x : Expr} {cpos : Pos} {it l : Addr} {i : Nat} {xs : List MV} {y : MV} {R : MV → Sg → Prop} (hf : EP prog w K A e fr σ func (.bi "next")) (hx : EP prog w K A e fr σ x (.ref it)) (hi : σ it = some (.iter l (some i))) (hl : σ l = some (.list xs)) (hy : xs[i]? = some y)
    (hR : R y (σ.set it (.iter l (some (i + 1)))))
    (hst : starEach [x] e = (false, eval x e) :: starEach [] e := by rfl) (hp : (starEach [x] e).any (·.1) = false := by rfl)
    (hc : eval (.Call func [x] [] cpos) e = (do callWith cpos (← eval func e) [] (backTo cpos (starEach [x] e)) (backToKw cpos (keywordEach [] e))) := by rfl) : Ev prog w K A e fr σ (eval (.Call func [x] [] cpos) e) R :=
  Ev_call (n := 0) hf (fun _ _ _ r => r) (keepsOk_builtin (id := "next")) ((EPs_cons hx EPs_nil hst).evs fun s vs r rs => by
    obtain ⟨v, rfl, rv⟩ := rs.one
    cases (show v = .ref it from rv)
    obtain ⟨oi, gi, ci, di⟩ := r.objs _ _ hi
    obtain ⟨its, nn, gl', ql⟩ := r.objs _ _ hl
    obtain ⟨u, hu, ru⟩ := ql.at hy
    obtain ⟨h, g, d, t, os⟩ := s
    refine call_next ⟨oi, gi, ci⟩ (next_item gi di ci gl' hu fun h' hit hsb => ?_)
    obtain ⟨r2, t2⟩ := r.upd (s' := ⟨h', g, d, t, os⟩) (m' := .iter l (some (i + 1))) hi (fun b o hb gb => hsb.extBut b o hb gb) rfl rfl (let ⟨o', a1, a2, a3⟩ := hit; ⟨o', a1, a2, a3⟩)
    exact ⟨y, _, r2, t2, r.vr t2 ru, hR⟩) hp hc

theorem Sg.set_self {σ : Sg} {a : Addr} {m : MObj} (h : σ a = some m) : σ.set a m = σ := funext fun b => by
  by_cases e : b = a
  · rw [e, Sg.set_same, h]
  · rw [Sg.set_ne _ _ e]

/-- what a filterfalse holds -/
structure FF (σ : Sg) (x dx mw it po l : Addr) (P T : List Str) (i : Nat) : Prop where
  x : σ x = some (.inst 54 dx [some (.ref mw), some (.ref it)])
  dx : σ dx = some (.ns [])
  mw : σ mw = some (.raw (mwO "list.__contains__" po))
  po : σ po = some (.list (P.map .str))
  it : σ it = some (.iter l (some i))
  l : σ l = some (.list (T.map .str))
theorem FF.step {x dx mw it po l : Addr} {P T : List Str} {i : Nat} (F : FF σ x dx mw it po l P T i) (j : Nat) : FF (σ.set it (.iter l (some j))) x dx mw it po l P T j :=
  ⟨(Sg.set_ne _ _ (neOf F.x F.it nofun)).trans F.x, (Sg.set_ne _ _ (neOf F.dx F.it nofun)).trans F.dx, (Sg.set_ne _ _ (neOf F.mw F.it nofun)).trans F.mw, (Sg.set_ne _ _ (neOf F.po F.it nofun)).trans F.po, Sg.set_same .., (Sg.set_ne _ _ (neOf F.l F.it nofun)).trans F.l⟩

theorem any_strs {P : List Str} {t : Str} : (P.map MV.str).any (eqB · (.str t)) = decide (t ∈ P) := by
  induction P with
  | nil => rfl
  | cons p P ih =>
    rw [List.map_cons, List.any_cons, ih]
    by_cases h : p = t
    · subst h; simp [eqB]
    · simp [eqB, h, Ne.symm h]

/-- __next__ where an item is left that stays -/
theorem fn_ffn {n : Nat} (KK : KG K) {x dx mw it po l : Addr} {P T : List Str} {i j : Nat} (F : FF σ x dx mw it po l P T i) (hij : i ≤ j) {t : Str} (hj : T[j]? = some t) (ht : t ∉ P) (hb : ∀ k u, i ≤ k → k < j → T[k]? = some u → u ∈ P) :
    Fn prog w K (n + 1) (.ref 50) [.ref x] σ (fun y σ' => y = .str t ∧ σ' = σ.set it (.iter l (some (j + 1)))) := by
  refine Fn_pos KK.ok KK.f_ffn.1 ["self"] (by decide +kernel) rfl (fun _ _ _ _ _ _ _ _ => len1 fun _ => rfl) ?_
  intro L q cdv A ha hh
  have he : FrE (fe (fS (inCls (topS 2) 3)) L q 50 cdv) := frE_fe rfl
  refine Ex_cons (Ex_assign he rfl (Ep.ev (Ep_slotA (by trivial) F.x F.dx rfl handed_ref KK.ff KK.ff_func) ?_))
  refine Ex_cons (Ex_while (fun m fr σ' => ∃ k, i ≤ k ∧ k ≤ j ∧ m = j - k ∧ σ' = σ.set it (.iter l (some k)) ∧ fr = ([("self", .ref x), ("func", .ref mw)] : Vars)) (j - i) ⟨_, ⟨i, Nat.le_refl _, hij, rfl, (Sg.set_self F.it).symm, rfl⟩, by trivial⟩ ?_)
  rintro m fr σ' Q hQ - hQr ⟨k, h1, h2, rfl, rfl, rfl⟩
  refine (Tp_val Ep_bool OT_bool).tv ?_
  rw [if_pos rfl]
  have Fk := F.step k
  obtain ⟨u, hu⟩ : ∃ u, T[k]? = some u := by
    have : k < T.length := Nat.lt_of_le_of_lt h2 (List.getElem?_eq_some_iff.mp hj).1
    exact ⟨_, List.getElem?_eq_getElem this⟩
  refine Ex_cons (Ex_assign he rfl (Ev_nextI (Ep_glb KK.g_next he rfl rfl) (Ep_slotA (by trivial) Fk.x Fk.dx rfl handed_ref KK.ff KK.ff_it) Fk.it Fk.l (y := .str u) (by rw [List.getElem?_map, hu]; rfl) ?_))
  rw [Sg.set_set]
  have Fk' := F.step (k + 1)
  refine Ex_cons (Ex_ifp (b := false) (Tp_bool (Tp_or (b := false) (c := false) (Tp_cmp (by trivial) Ep_none O2_isNone) (fun _ => Tp_or (b := false) (c := false) (Tp_cmp (by trivial) (Ep_glb KK.g_bool he rfl rfl) (O2_isTy Fk'.mw)) (fun _ => Tp_or_nil) (fun h => nomatch h)) (fun h => nomatch h))) (fun h => nomatch h) fun _ => ?_)
  refine Ex_cons (Ex_ifp (b := !decide (u ∈ P)) (Tp_not (Tp_val (Ep.to (Ep_callMw (by trivial) Fk'.mw Fk'.po (by trivial) fun z hz => ?_) (congrArg MV.bool any_strs)) OT_bool)) (fun h => ?_) (fun h => ?_))
  · obtain ⟨p, _, rfl⟩ := List.mem_map.mp hz; rfl
  · have hu' : u ∉ P := by simpa using h
    have hkj : k = j := by
      rcases Nat.lt_or_ge k j with h3 | h3
      · exact absurd (hb k u h1 h3 hu) hu'
      · omega
    subst hkj
    rw [hj] at hu; cases hu
    exact Ex_cons (Ex_return (Ep.ev (by trivial) (hQr _ _ _ ⟨rfl, rfl⟩)))
  · have hu' : u ∈ P := by simpa using h
    have hkj : k ≠ j := fun e => by subst e; rw [hj] at hu; cases hu; exact ht hu'
    exact Ex_nil (Ex_nil (Ex_nil (hQ _ _ ⟨_, ⟨j - (k + 1), Nat.sub_lt_sub_left (Nat.lt_of_le_of_ne ‹_› ‹_›) (Nat.lt_succ_self _), k + 1, by omega, by omega, rfl, rfl, rfl⟩, by trivial⟩).1))
end
end Mine

end
section
open PySem PySem.W PyProof.Rows
set_option maxRecDepth 100000
namespace Mine

section
variable {prog : Program} {w : World} {K : Frag} {A : Around} {e : Env} {fr : Vars} {σ : Sg} {s s' : Shared}
local macro_rules | `(tactic| trivial) => `(tactic| first | exact SubL.n | (refine SubL.c rfl ?_; trivial) | exact Ep_local (by assumption) rfl rfl rfl | exact Ep_int | exact Ep_none)

theorem Exx_cons {st : Stmt} {rest : List Stmt} {R : MF → Vars → Sg → Prop} {X : Value → Sg → Heap → Prop} (h : E1 prog w K A e fr σ st (fun f fr₁ σ₁ => f = .next ∧ Exx prog w K A e fr₁ σ₁ rest R X)) : Exx prog w K A e fr σ (st :: rest) R X := fun s r =>
  wpAny_execs_cons (wpAny_mono (h s r) (fun f s₁ ⟨f', fr', σ', p, q, rf, e1, hx⟩ => by
    subst e1
    cases (show f = .next from rf)
    exact wpAny_mono (hx s₁ p) (fun _ _ ⟨f'', fr'', σ'', p2, q2, rf2, hR2⟩ => ⟨f'', fr'', σ'', p2, q.trans q2, rf2, hR2⟩) fun _ _ hE => wpAny_mono hE (fun _ _ ⟨fr', σ', p, q', hX⟩ => ⟨fr', σ', p, q.trans q', hX⟩) fun _ _ z => z) fun _ _ z => z.elim)

noncomputable def Stopped (ev : Value) (h : Heap) : Prop := ∃ ex vs, ev = .ref ex ∧ h.get? ex = some { cls := .type "StopIteration", data := .fields vs }

/-- an exception of this frame's own, not noted yet -/
noncomputable def Raw (prog : Program) (w : World) (K : Frag) (A : Around) (e : Env) (σ : Sg) (s : Shared) (X : Sg → Prop) (ev : Value) (s' : Shared) : Prop :=
  ∃ ex vs fr' σ', ev = .ref ex ∧ s'.heap.get? ex = some { cls := .type "StopIteration", data := .fields vs } ∧ vs[1]? = some .none ∧ σ' ex = none ∧ ¬ own e ex ∧ (∀ o, K.lookup ex ≠ some o) ∧ ex ∉ flOf A ∧
    (∀ b o, s.heap.get? b = some o → σ b = none → ¬ own e b → b ≠ ex) ∧ RepF prog w K (flOf A) e fr' σ' s' ∧ Step (own e) σ s σ' s' ∧ X σ'
noncomputable def ExR (prog : Program) (w : World) (K : Frag) (A : Around) (e : Env) (fr : Vars) (σ : Sg) (body : List Stmt) (X : Sg → Prop) : Prop :=
  ∀ s, RepF prog w K (flOf A) e fr σ s → wpAny (model prog w) A (execs body e) (fun _ _ => False) (Raw prog w K A e σ s X) s

/-- past a loop and the frame -/
theorem Raw.loop {n : Nat} {L : Addr} {X : Sg → Prop} {Y : Value → Sg → Heap → Prop} {ev : Value} {E : Value → Shared → Prop} (r : RepF prog w K (flOf A) e fr σ s) (ha : AOK n A) (hfr : ∃ l, A.frames = some (e :: l)) (hL : e.frame = some L) (h : Raw prog w K A e σ s X ev s')
    (hY : ∀ ev σ' h, Stopped ev h → X σ' → Y ev σ' h)
    (hE : ∀ s₃, wpAny (model prog w) A (leaving e ev) (fun _ s₂ => ∃ fr' σ', RepF prog w K (flOf A) e fr' σ' s₂ ∧ Step (own e) σ s σ' s₂ ∧ Y ev σ' s₂.heap) (fun _ _ => False) s₃ → E ev s₃) :
    notedBy (model prog w) A e (cameBackBy (model prog w) A e E) ev s' := by
  obtain ⟨ex, vs, fr', σ', rfl, hex, hv1, zx, ox, kx, fx, nx, r2, t2, hX⟩ := h
  obtain ⟨outer, hfr⟩ := hfr
  obtain ⟨l', hl1, hl2⟩ := ha.frs
  rw [hfr] at hl1
  cases hl1
  show wpAny (model prog w) A (noteFrame (.ref ex) e) _ _ _
  refine note_first hfr (r2.toRep.frames hfr hl2) hL hex fx hv1 fun s₃ T vs' ts k3 os3 gens3 hx3 hv3 hT hT3 ht3 => ?_
  have hTx : T ≠ ex := fun q => by rw [q, hex] at hT; cases hT
  have h3 : 3 < ts.size := (Array.getElem?_eq_some_iff.mp ht3).1
  show wpAny (model prog w) A _ _ _ _
  refine wpAny_bind (wpAny_field hx3 rfl hv3 ?_)
  rw [if_neg (show ¬ (Value.ref T == Value.none) = true by simp)]
  unfold setFlight
  refine wpAny_bind (wpAny_field hx3 rfl hv3 ?_)
  rw [if_pos (show (Value.ref T != Value.none) = true from by simp)]
  refine wpAny_setField hT3 rfl h3 ?_
  rw [hL]
  refine hE _ ?_
  show wpAny (model prog w) A (leaving e (.ref ex)) _ _ { s₃ with heap := s₃.heap.update T (Obj.mapFields (·.setIfInBounds 3 (rawInt L))) }
  have hT4 : (s₃.heap.update T (Obj.mapFields (·.setIfInBounds 3 (rawInt L)))).get? T = some { cls := .type "traceback", data := .fields (ts.setIfInBounds 3 (rawInt L)) } := Heap.get?_update_self _ hT3 rfl
  have hx4 : (s₃.heap.update T (Obj.mapFields (·.setIfInBounds 3 (rawInt L)))).get? ex = some { cls := .type "StopIteration", data := .fields vs' } := (Heap.get?_update_other _ _ hTx).trans hx3
  unfold leaving
  refine wpAny_bind (wpAny_noteFrame_inFlight hL hx4 rfl hv3 hT4 rfl (by simp [h3]) ?_)
  refine wpAny_setFlight_none hx4 rfl hv3 hT4 rfl (by simpa using h3) ?_
  have k4 : ∀ b o, b ≠ ex → s'.heap.get? b = some o → (b ∉ flOf A → ((s₃.heap.update T (Obj.mapFields (·.setIfInBounds 3 (rawInt L)))).update T (Obj.mapFields (·.setIfInBounds 3 .none))).get? b = some o) ∧ ∃ sl, ((s₃.heap.update T (Obj.mapFields (·.setIfInBounds 3 (rawInt L)))).update T (Obj.mapFields (·.setIfInBounds 3 .none))).get? b = some { o with slots := sl } := fun b o hb gb => by
    have hbT : T ≠ b := fun q => by rw [q] at hT; rw [hT] at gb; cases gb
    obtain ⟨a1, sl, a2⟩ := k3 b o hb gb
    have up : ∀ o', s₃.heap.get? b = some o' → ((s₃.heap.update T (Obj.mapFields (·.setIfInBounds 3 (rawInt L)))).update T (Obj.mapFields (·.setIfInBounds 3 .none))).get? b = some o' := fun o' g' => (Heap.get?_update_other _ _ hbT).trans ((Heap.get?_update_other _ _ hbT).trans g')
    exact ⟨fun hn => up _ (a1 hn), sl, up _ a2⟩
  have hxx : ((s₃.heap.update T (Obj.mapFields (·.setIfInBounds 3 (rawInt L)))).update T (Obj.mapFields (·.setIfInBounds 3 .none))).get? ex = some { cls := .type "StopIteration", data := .fields vs' } := (Heap.get?_update_other _ _ hTx).trans hx4
  have r4 := r2.slottedBut (s' := { s₃ with heap := (s₃.heap.update T (Obj.mapFields (·.setIfInBounds 3 (rawInt L)))).update T (Obj.mapFields (·.setIfInBounds 3 .none)) }) zx ox kx fx hex (fun _ _ q => by cases q) k4
  refine ⟨fr', σ', r4, ⟨fun b o gb z q nf => ?_, fun b o gb z q hF => ?_, os3.trans t2.os, gens3.trans t2.gens⟩, hY _ _ _ ⟨ex, vs', rfl, hxx⟩ hX⟩
  · obtain ⟨g2, z2⟩ := t2.keep b o gb z q nf
    exact ⟨(k4 b o (nx b o gb z q) g2).1 (r.toRep.notFl gb nf), z2⟩
  · obtain ⟨z2, sl, g2⟩ := t2.fr b o gb z q hF
    obtain ⟨sl', g4⟩ := (k4 b _ (nx b o gb z q) g2).2
    exact ⟨z2, sl', g4⟩

/-- a loop that only an exception ends, within a frame -/
theorem Exx_while {n' : Nat} {L : Addr} {test : Expr} {body orelse rest : List Stmt} {pos : Pos} {X : Sg → Prop} {Y : Value → Sg → Heap → Prop} (ha : AOK n' A) (hfr : ∃ l, A.frames = some (e :: l)) (hL : e.frame = some L) (I : Nat → Vars → Sg → Prop) (n : Nat) (h0 : ∃ fr', I n fr' σ ∧ SubL fr' fr)
    (hY : ∀ ev σ' h, Stopped ev h → X σ' → Y ev σ' h)
    (turn : ∀ n fr σ, I n fr σ → Tv prog w K A e fr σ (isTrue test e (eval test e)) fun b σ' => b = true ∧ (EX prog w K A e fr σ' body (Turn (fun fr σ => ∃ m, m < n ∧ I m fr σ) fun _ _ _ => False) ∨ ExR prog w K A e fr σ' body X)) :
    Exx prog w K A e fr σ (.While test body orelse pos :: rest) (fun _ _ _ => False) Y := fun s r => by
  refine wpAny_execs_cons (wpAny_While (codeAny_whileLoop (fun n s' => ∃ fr' σ', I n fr' σ' ∧ RepF prog w K (flOf A) e fr' σ' s' ∧ Step (own e) σ s σ' s') (fun n s₁ hzz => ?_) n (let ⟨fr', hI, hs⟩ := h0; ⟨fr', σ, hI, r.sub fun _ _ q => hs.lookup q, .refl⟩)))
  obtain ⟨fr₁, σ₁, hI, p, q⟩ := hzz
  refine wpAny_mono (turn n fr₁ σ₁ hI s₁ p) (fun b s₂ hzz => ?_) fun _ _ f => f.elim
  obtain ⟨σ₂, p2, q2, e1, h⟩ := hzz
  subst e1
  have q2 := q.trans q2
  rcases h with h | h
  · refine wpAny_mono (h s₂ p2) (fun f s₃ hzz => ?_) fun _ _ f => f.elim
    obtain ⟨f', fr₃, σ₃, p3, q3, rf, hR⟩ := hzz
    have q3 := q2.trans q3
    cases f' with
    | next => cases (show f = .next from rf); obtain ⟨fr4, ⟨m, hm, hI'⟩, hs⟩ := hR; exact ⟨m, hm, fr4, σ₃, hI', p3.sub fun _ _ q => hs.lookup q, q3⟩
    | cont => cases (show f = .cont from rf); obtain ⟨fr4, ⟨m, hm, hI'⟩, hs⟩ := hR; exact ⟨m, hm, fr4, σ₃, hI', p3.sub fun _ _ q => hs.lookup q, q3⟩
    | brk => exact hR.elim
    | ret y => exact hR.elim
  · refine wpAny_mono (h s₂ p2) (fun f s₃ z => z.elim) fun ev s₃ hraw => ?_
    refine Raw.loop p2 ha hfr hL hraw hY fun s₄ hE => ?_
    exact wpAny_mono hE (fun _ _ ⟨fr', σ', p, q', hX⟩ => ⟨fr', σ', p, q2.trans q', hX⟩) fun _ _ z => z

/-- x = next(it) where none is left: StopIteration, past the frame -/
theorem ExR_nextE {name : Str} {px apos cpos : Pos} {func x : Expr} {rest : List Stmt} {it l : Addr} {i : Nat} {xs : List MV} {X : Sg → Prop} (hh : A.handled = none)
    (hf : EP prog w K A e fr σ func (.bi "next")) (hx : EP prog w K A e fr σ x (.ref it)) (hi : σ it = some (.iter l (some i))) (hl : σ l = some (.list xs)) (hn : xs[i]? = none)
    (hX : X (σ.set it (.iter l none)))
    (hs : swapsWith (.Call func [x] [] cpos) (some (.Name name px)) apos.line e = pure false := by rfl)
    (hst : starEach [x] e = (false, eval x e) :: starEach [] e := by rfl) (hp : (starEach [x] e).any (·.1) = false := by rfl)
    (hc : eval (.Call func [x] [] cpos) e = (do callWith cpos (← eval func e) [] (backTo cpos (starEach [x] e)) (backToKw cpos (keywordEach [] e))) := by rfl) :
    ExR prog w K A e fr σ (.Assign [.Name name px] (.Call func [x] [] cpos) apos :: rest) X := fun s r => by
  refine wpAny_execs_cons (wpAny_Assign_Name ?_ hs)
  rw [hc]
  refine wpAny_bind (wpAny_mono (hf s r) (fun v s₁ hzz => ?_) fun _ _ f => f.elim)
  obtain ⟨p, rv⟩ := hzz
  cases (show v = .builtin "next" from rv)
  have hp' : (backTo cpos (starEach [x] e)).any (·.1) = false := by unfold backTo; rw [List.any_map]; exact hp
  refine callWith_of (P := K.In) (by rw [hp']; rfl) (fun h' X => keepsOk_builtin _ h' X) (evalArgs_any hp' ?_)
  refine wpAny_mono (EPs_cons hx EPs_nil hst cpos s₁ (r.ext p)) (fun vs s₂ hzz => ?_) fun _ _ f => f.elim
  obtain ⟨p2, rs⟩ := hzz
  have x1 := p.trans p2
  have r1 := r.ext x1
  refine ⟨r1.top, ?_⟩
  obtain ⟨v, rfl, rv⟩ := rs.one
  cases (show v = .ref it from rv)
  obtain ⟨oi, gi, ci, di⟩ := r1.objs _ _ hi
  obtain ⟨its, nn, gl', ql⟩ := r1.objs _ _ hl
  obtain ⟨h, g, d, t, os⟩ := s₂
  have hvn : its[i]? = none := by
    rw [Array.getElem?_eq_none_iff, ql.size]; exact List.getElem?_eq_none_iff.mp hn
  refine call_next ⟨oi, gi, ci⟩ (next_end hh gi di ci gl' hvn fun h' ex vs hk hit hexn hex hv1 => ?_)
  have fresh : ∀ o, h.get? ex ≠ some o := fun o q => by rw [hexn] at q; cases q
  obtain ⟨r2, t2⟩ := r1.upd (s' := ⟨h', g, d, t, os⟩) (m' := .iter l none) hi (fun b o hb gb => hk b o hb gb) rfl rfl (let ⟨o', a1, a2, a3⟩ := hit; ⟨o', a1, a2, _, a3⟩)
  have zx : (σ.set it (.iter l none)) ex = none := by
    rw [Sg.set_ne _ _ fun q => by obtain ⟨o, g, _⟩ := r1.objs _ _ hi; exact fresh o (q ▸ g)]
    exact fresh_none r1.toRep fresh
  exact ⟨ex, vs, fr, _, rfl, hex, hv1, zx, fresh_own r1 fresh, fresh_K r1.toRep fresh, notFl_fresh r1.toRep fresh, fun b o gb _ _ q => fresh o (q ▸ x1.keep _ _ gb), r2, x1.step.trans t2, hX⟩
end
end Mine

end
section
open PySem PySem.W PyProof.Rows
set_option maxRecDepth 100000
namespace Mine

section
variable {prog : Program} {w : World} {K : Frag} {A : Around} {e : Env} {fr : Vars} {σ : Sg} {s s' : Shared}
local macro_rules | `(tactic| trivial) => `(tactic| first | exact SubL.n | (refine SubL.c rfl ?_; trivial) | exact Ep_local (by assumption) rfl rfl rfl | exact Ep_int | exact Ep_none)

/-- a call that ends in an exception -/
theorem Fn_posX {n : Nat} {f : Addr} {params : Arguments} {body : List Stmt} {scope : Scope} {ys : List MV} {X : Value → Sg → Heap → Prop} (KO : KOk K) (D : DefAt K f params body scope .none) (xs : List Str) (hxs : parsOk scope xs = true) (hl : ys.length = xs.length)
    (hb : ∀ (name qual : Str) kV doc pm an cdv ct, ∀ vs : List Value, vs.length = xs.length → bindArgs (fnOf name qual params body scope .none kV doc pm an cdv ct) ⟨vs, []⟩ = pure (xs.zip vs))
    (h : ∀ L q cdv A, AOK n A → A.handled = none → (∃ l, A.frames = some (fe scope L q f cdv :: l)) → (fe scope L q f cdv).frame = some L → Exx prog w K A (fe scope L q f cdv) (xs.zip ys) σ body (fun _ _ _ => False) X)
    (hco : scope.isCoroutine = false := by rfl) (hgen : scope.isGenerator = false := by rfl) (hk : scope.kind = .function := by rfl) : Fnx prog w K (n + 1) (.ref f) ys σ (fun _ _ => False) X := by
  unfold parsOk at hxs
  rw [Bool.and_eq_true, Bool.and_eq_true, decide_eq_true_iff, decide_eq_true_iff] at hxs
  refine Fn_defX KO D (fun name qual kV doc pm an cdv ct => bindsX_pos hl (hb name qual kV doc pm an cdv ct)) ?_ (zip_all hxs.1.2) hxs.2 (fun L q cdv A ha hh hf hF s r => wpAny_mono (h L q cdv A ha hh hf hF s r) (fun _ _ ⟨_, _, _, _, _, _, z⟩ => z.elim) fun _ _ z => z) hco hgen hk
  rw [List.map_fst_zip (by omega)]
  exact hxs.1.1

theorem fn_ffnE {n : Nat} (KK : KG K) {x dx mw it po l : Addr} {P T : List Str} {i : Nat} (F : FF σ x dx mw it po l P T i) (hi : i ≤ T.length) (hall : ∀ k u, i ≤ k → T[k]? = some u → u ∈ P) :
    Fnx prog w K (n + 1) (.ref 50) [.ref x] σ (fun _ _ => False) (fun ev σ' h => Stopped ev h ∧ σ' = σ.set it (.iter l none)) := by
  refine Fn_posX KK.ok KK.f_ffn.1 ["self"] (by decide +kernel) rfl (fun _ _ _ _ _ _ _ _ => len1 fun _ => rfl) ?_
  intro L q cdv A ha hh hfr hF
  have he : FrE (fe (fS (inCls (topS 2) 3)) L q 50 cdv) := frE_fe rfl
  refine Exx_cons (Ex_assign he rfl (Ep.ev (Ep_slotA (by trivial) F.x F.dx rfl handed_ref KK.ff KK.ff_func) ⟨rfl, ?_⟩))
  refine Exx_while (X := fun σ' => σ' = σ.set it (.iter l none)) ha hfr hF (fun m fr σ' => ∃ k, i ≤ k ∧ k ≤ T.length ∧ m = T.length - k ∧ σ' = σ.set it (.iter l (some k)) ∧ fr = ([("self", .ref x), ("func", .ref mw)] : Vars)) (T.length - i) ⟨_, ⟨i, Nat.le_refl _, hi, rfl, (Sg.set_self F.it).symm, rfl⟩, by trivial⟩ (fun _ _ _ h1 h2 => ⟨h1, h2⟩) ?_
  rintro m fr σ' ⟨k, h1, h2, rfl, rfl, rfl⟩
  have Fk := F.step k
  refine (Tp_val Ep_bool OT_bool).tv ⟨rfl, ?_⟩
  rcases Nat.lt_or_ge k T.length with hk | hk
  · refine .inl ?_
    have hu : T[k]? = some T[k] := List.getElem?_eq_getElem hk
    refine Ex_cons (Ex_assign he rfl (Ev_nextI (Ep_glb KK.g_next he rfl rfl) (Ep_slotA (by trivial) Fk.x Fk.dx rfl handed_ref KK.ff KK.ff_it) Fk.it Fk.l (y := .str T[k]) (by rw [List.getElem?_map, hu]; rfl) ?_))
    rw [Sg.set_set]
    have Fk' := F.step (k + 1)
    refine Ex_cons (Ex_ifp (b := false) (Tp_bool (Tp_or (b := false) (c := false) (Tp_cmp (by trivial) Ep_none O2_isNone) (fun _ => Tp_or (b := false) (c := false) (Tp_cmp (by trivial) (Ep_glb KK.g_bool he rfl rfl) (O2_isTy Fk'.mw)) (fun _ => Tp_or_nil) (fun h => nomatch h)) (fun h => nomatch h))) (fun h => nomatch h) fun _ => ?_)
    refine Ex_cons (Ex_ifp (b := !decide (T[k] ∈ P)) (Tp_not (Tp_val (Ep.to (Ep_callMw (by trivial) Fk'.mw Fk'.po (by trivial) fun z hz => ?_) (congrArg MV.bool any_strs)) OT_bool)) (fun h => ?_) (fun h => ?_))
    · obtain ⟨p, _, rfl⟩ := List.mem_map.mp hz; rfl
    · exact absurd (hall k _ h1 hu) (by simpa using h)
    · exact Ex_nil (Ex_nil (Ex_nil ⟨_, ⟨T.length - (k + 1), Nat.sub_lt_sub_left ‹_› (Nat.lt_succ_self _), k + 1, by omega, by omega, rfl, rfl, rfl⟩, by trivial⟩))
  · refine .inr (ExR_nextE hh (Ep_glb KK.g_next he rfl rfl) (Ep_slotA (by trivial) Fk.x Fk.dx rfl handed_ref KK.ff KK.ff_it) Fk.it Fk.l (by rw [List.getElem?_map, List.getElem?_eq_none hk]; rfl) (Sg.set_set ..))
end
end Mine

end
section
open PySem PySem.W PyProof.Rows
set_option maxRecDepth 100000
namespace Mine

section
variable {prog : Program} {w : World} {K : Frag} {A : Around} {e : Env} {fr : Vars} {σ : Sg} {s s' : Shared}

/-- next on an own iterator -/
theorem own_next {M : Model} {E : Value → Shared → Prop} {x C f : Addr} {ox : Obj} {od : Option Obj} {Q : Option Value → Shared → Prop} (X : K.In s.heap) (I : InstAt s.heap x ox C od) (hs : findIn K (.ref C) "__next__" = some (some (.ref f))) (hf : isFn K (.ref f) = true)
    (h : wpAny M A (call (.ref f) [.ref x]) (fun v s' => Q (some v) s') (fun ev s' => wpAny M A (isInstance ev (.type "StopIteration")) (fun b s₂ => b = true ∧ Q none s₂) E s') s) : wpAny M A (pyNext (.ref x)) Q E s := by
  unfold pyNext
  refine wpAny_bind (wpAny_attempt (special_fn (name := "__next__") (args := []) X I hs (beq_iff_eq.mp hf) (wpAny_mono h (fun v s₁ q => wpAny_pure q) fun ev s₁ q => ?_)))
  refine wpAny_bind (wpAny_mono q (fun b s₂ hzz => ?_) fun _ _ z => z)
  obtain ⟨e1, hq⟩ := hzz
  subst e1
  exact wpAny_pure hq

theorem Rep.upd (x : Rep prog w K (flOf A) σ s) {a : Addr} {m m' : MObj} (ha : σ a = some m) (k : ∀ b o, b ≠ a → s.heap.get? b = some o → s'.heap.get? b = some o) (os : s'.os = s.os) (gens : s'.gens = s.gens)
    (n : OR prog w s'.heap (σ.set a m') a m') : Rep prog w K (flOf A) (σ.set a m') s' ∧ Step no0 σ s (σ.set a m') s' := by
  have kk : ∀ b o, s.heap.get? b = some o → σ b = none → s'.heap.get? b = some o ∧ σ.set a m' b = none := fun b o g q =>
    have : b ≠ a := fun e => by rw [e, ha] at q; cases q
    ⟨k b o this g, Sg.set_none' σ this q⟩
  refine ⟨⟨fun b mb hb => ?_, fun b o g => (kk b o (x.top b o g) (x.low b o g)).1, fun b o g => (kk b o (x.top b o g) (x.low b o g)).2, fun L hL => let ⟨h1, h2, o, h3, h4⟩ := x.ff L hL; ⟨(kk L o h3 h1).2, h2, o, (kk L o h3 h1).1, h4⟩⟩, .of (fun b o g q _ => kk b o g q) os gens⟩
  by_cases q : b = a
  · subst q; rw [Sg.set_same] at hb; cases hb; exact n
  · rw [Sg.set_ne σ m' q] at hb
    exact (x.objs b mb hb).mono (fun o g => k b o q g) fun _ _ _ _ g z => kk _ _ g z

theorem first_out {P T : List Str} : ∀ (k i : Nat), T.length - i = k →
    (∃ j t, i ≤ j ∧ T[j]? = some t ∧ t ∉ P ∧ (∀ k u, i ≤ k → k < j → T[k]? = some u → u ∈ P) ∧ (T.drop i).filter (fun t => decide (t ∉ P)) = t :: (T.drop (j + 1)).filter fun t => decide (t ∉ P)) ∨
    ((∀ k u, i ≤ k → T[k]? = some u → u ∈ P) ∧ (T.drop i).filter (fun t => decide (t ∉ P)) = [])
  | 0, i, h => .inr ⟨fun k u h1 h2 => by have := (List.getElem?_eq_some_iff.mp h2).1; exact absurd this (Nat.not_lt.mpr (Nat.le_trans (Nat.le_of_sub_eq_zero h) h1)), by rw [List.drop_eq_nil_of_le (Nat.le_of_sub_eq_zero h)]; rfl⟩
  | k + 1, i, h => by
    have hi : i < T.length := Nat.lt_of_sub_eq_succ h
    have hd : T.drop i = T[i] :: T.drop (i + 1) := List.drop_eq_getElem_cons hi
    have hg : T[i]? = some T[i] := List.getElem?_eq_getElem hi
    by_cases hp : T[i] ∈ P
    · have hf : (T.drop i).filter (fun t => decide (t ∉ P)) = (T.drop (i + 1)).filter fun t => decide (t ∉ P) := by rw [hd, List.filter_cons_of_neg (by simpa using hp)]
      have here : ∀ k u, i ≤ k → T[k]? = some u → ¬ i + 1 ≤ k → u ∈ P := fun k u h1 h2 h3 => by
        have : k = i := Nat.le_antisymm (Nat.not_lt.mp h3) h1
        subst this; rw [hg] at h2; cases h2; exact hp
      rcases first_out (P := P) (T := T) k (i + 1) (sub_step h) with ⟨j, t, a, b, c, d, e⟩ | ⟨a, b⟩
      · refine .inl ⟨j, t, Nat.le_of_succ_le a, b, c, fun k u h1 h2 h3 => ?_, hf.trans e⟩
        by_cases h4 : i + 1 ≤ k
        · exact d k u h4 h2 h3
        · exact here k u h1 h3 h4
      · refine .inr ⟨fun k u h1 h2 => ?_, hf.trans b⟩
        by_cases h4 : i + 1 ≤ k
        · exact a k u h4 h2
        · exact here k u h1 h2 h4
    · exact .inl ⟨i, T[i], Nat.le_refl _, hg, hp, fun k u h1 h2 => absurd h2 (Nat.not_lt.mpr h1), by rw [hd, List.filter_cons_of_pos (by simpa using hp)]⟩

theorem isInstance_stop {M : Model} {E : Value → Shared → Prop} {ev : Value} {Q : Shared → Prop} (h : Stopped ev s.heap) (hq : Q s) : wpAny M A (isInstance ev (.type "StopIteration")) (fun b s₂ => b = true ∧ Q s₂) E s := by
  obtain ⟨ex, vs, rfl, g⟩ := h
  exact wpAny_isInstance (T := "StopIteration") ⟨_, g, rfl⟩ (by rw [isSubtype_type]; kernel_rfl) ⟨rfl, hq⟩

theorem FF.other {x dx mw it po l S : Addr} {P T : List Str} {i : Nat} {m m0 : List MV} (F : FF σ x dx mw it po l P T i) (hS : σ S = some (.list m0)) (h1 : S ≠ po) (h2 : S ≠ l) : FF (σ.set S (.list m)) x dx mw it po l P T i :=
  ⟨(Sg.set_ne _ _ (neOf F.x hS nofun)).trans F.x, (Sg.set_ne _ _ (neOf F.dx hS nofun)).trans F.dx, (Sg.set_ne _ _ (neOf F.mw hS nofun)).trans F.mw, (Sg.set_ne _ _ h1.symm).trans F.po, (Sg.set_ne _ _ (neOf F.it hS nofun)).trans F.it, (Sg.set_ne _ _ h2.symm).trans F.l⟩
theorem Sg.set4 {a b : Addr} {m1 m2 m3 m4 : MObj} : (((σ.set a m1).set b m2).set a m3).set b m4 = (σ.set a m3).set b m4 := funext fun c => by
  by_cases h : c = b
  · rw [h, Sg.set_same, Sg.set_same]
  · rw [Sg.set_ne _ _ h, Sg.set_ne _ _ h]
    by_cases h2 : c = a
    · rw [h2, Sg.set_same, Sg.set_same]
    · rw [Sg.set_ne _ _ h2, Sg.set_ne _ _ h, Sg.set_ne _ _ h2, Sg.set_ne _ _ h2]

/-- the turns of list(filterfalse(...)) -/
theorem ext_loop {n : Nat} (KK : KG K) (ha : AOK (n + 2) A) (hh : A.handled = none) {x dx mw it po l S : Addr} {P T : List Str} (res : Value) (hn : T.length ≤ 100) (hSp : S ≠ po) (hSl : S ≠ l) :
    ∀ (k i : Nat) (acc : List Str) (σ : Sg) (s : Shared), T.length - i = k → i ≤ T.length → acc.length ≤ i → FF σ x dx mw it po l P T i → σ S = some (.list (acc.map .str)) → Rep prog w K (flOf A) σ s →
      codeAny (model prog w) A (.builtin "list.extend.loop" ⟨[.ref S, .ref x, res], []⟩) (fun r s' => r = .ok (.ret res) ∧ ∃ σ', Rep prog w K (flOf A) σ' s' ∧ Step no0 σ s σ' s' ∧ σ' = (σ.set it (.iter l none)).set S (.list ((acc ++ (T.drop i).filter fun t => decide (t ∉ P)).map .str))) s := by
  intro k
  induction k using Nat.strongRecOn with
  | _ k ih =>
  intro i acc σ s hk hi hacc F hS r
  refine hideR fun R' hR' => ?_
  refine codeAny_builtin PySem.F.entry_extend_loop ?_
  rw [Around.under_plainId PySem.F.plain_extend_loop _]
  show wpAny _ A.in1 (pyNext (.ref x) >>= _) _ _ s
  obtain ⟨svs, ents, nn, I, -, -, -⟩ := r.inst F.x F.dx
  have hxS : S ≠ it := fun e => by rw [e, F.it] at hS; cases hS
  rcases first_out (P := P) (T := T) _ i rfl with ⟨j, t, hij, hj, ht, hb, hfl⟩ | ⟨hall, hfl⟩
  · refine wpAny_bind (own_next r.top I KK.ff_next KK.fn50 (wpAny_call (codeAny_mono (fn_ffn (n := n) KK F hij hj ht hb A.in1 s [.ref x] ha.in1 hh r ⟨_, _, rfl, rfl, rfl⟩) fun rr s₁ hzz => ?_)))
    obtain ⟨v, y, σ', e1, p, q, rv, ey, eσ⟩ := hzz
    subst e1 ey eσ
    have hjl := (List.getElem?_eq_some_iff.mp hj).1
    have hS1 : (σ.set it (.iter l (some (j + 1)))) S = some (.list (acc.map .str)) := (Sg.set_ne _ _ hxS).trans hS
    obtain ⟨its, n0, gS, qS⟩ := p.objs _ _ hS1
    have hsz : its.size = acc.length := by have := qS.size; simpa using this
    show wpAny _ A.in1 (updateSeq S (·.push v) >>= _) _ _ _
    refine wpAny_bind ?_
    refine wpAny_updateSeq gS rfl (wpAny_pure ⟨plainId_quiet PySem.F.plain_extend_loop _, ?_⟩) (by rw [hsz, big_line]; omega) (by show (its.push v).size ≤ _; rw [Array.size_push, hsz, big_line]; omega)
    obtain ⟨r2, q2⟩ := p.upd (s' := { s₁ with heap := s₁.heap.update S (Obj.mapSeq (·.push v)) }) (m' := .list ((acc ++ [t]).map .str)) hS1 (fun b o hb g => (Heap.get?_update_other _ _ (Ne.symm hb)).trans g) rfl rfl ⟨its.push v, _, Heap.get?_update_self _ gS rfl, by rw [List.map_append]; exact (strsVR (strsAre qS) : VRs _ _ _ its.toList).push (by obtain ⟨tk, ev⟩ := rv; exact ⟨tk, ev⟩)⟩
    · have F2 : FF ((σ.set it (.iter l (some (j + 1)))).set S (.list ((acc ++ [t]).map .str))) x dx mw it po l P T (j + 1) := (F.step (j + 1)).other hS1 hSp hSl
      refine codeAny_mono (ih (T.length - (j + 1)) (by omega) (j + 1) (acc ++ [t]) _ _ rfl (by omega) (by simp; omega) F2 (Sg.set_same ..) r2) fun r₃ s₃ ⟨e3, σ₃, r3, q3, eσ⟩ => hR' _ _ ⟨e3, σ₃, r3, (q.trans q2).trans q3, ?_⟩
      rw [eσ, hfl, Sg.set4, List.append_assoc]; rfl
  · refine wpAny_bind (own_next r.top I KK.ff_next KK.fn50 (wpAny_call (codeAny_mono (fn_ffnE (n := n) KK F hi hall A.in1 s [.ref x] ha.in1 hh r ⟨_, _, rfl, rfl, rfl⟩) fun rr s₁ hrr => ?_)))
    rcases hrr with ⟨v, y, σ', e1, p, q, rv, z⟩ | ⟨ev, σ', e1, p, q, hst, eσ⟩
    · exact z.elim
    · subst e1 eσ
      refine isInstance_stop hst ?_
      refine wpAny_pure (hR' _ _ ⟨rfl, _, p, q, ?_⟩)
      rw [hfl, List.append_nil]
      exact (Sg.set_self ((Sg.set_ne _ _ hxS).trans hS)).symm
end
end Mine

end
section
open PySem PySem.W PyProof.Rows
set_option maxRecDepth 100000
namespace Mine

section
variable {prog : Program} {w : World} {K : Frag} {A : Around} {e : Env} {fr : Vars} {σ : Sg} {s s' : Shared}

/-- iter on an own iterator that gives itself -/
theorem own_iter {M : Model} {E : Value → Shared → Prop} {x C f : Addr} {g : Value} {ox : Obj} {od : Option Obj} {Q : Value → Shared → Prop} (X : K.In s.heap) (I : InstAt s.heap x ox C od) (hi : findIn K (.ref C) "__iter__" = some (some (.ref f))) (hf : isFn K (.ref f) = true) (hs : findIn K (.ref C) "__next__" = some (some g))
    (h : wpAny M A (call (.ref f) [.ref x]) (fun v s' => v = .ref x ∧ K.In s'.heap ∧ (∃ ox od, InstAt s'.heap x ox C od) ∧ Q (.ref x) s') E s) : wpAny M A (pyIter (.ref x)) Q E s := by
  have fin : wpAny M A (call (.ref f) [.ref x] >>= fun v => pure (some v)) (fun r s' => r = some (.ref x) ∧ K.In s'.heap ∧ (∃ ox od, InstAt s'.heap x ox C od) ∧ Q (.ref x) s') E s :=
    wpAny_bind (wpAny_mono h (fun v s' ⟨e1, h'⟩ => wpAny_pure ⟨congrArg some e1, h'⟩) fun _ _ z => z)
  have one : ∀ refuse : Sem Value, wpAny M A (callSpecialIfBoundUnlessNone? (.ref x) "__iter__" refuse) (fun r s' => r = some (.ref x) ∧ K.In s'.heap ∧ (∃ ox od, InstAt s'.heap x ox C od) ∧ Q (.ref x) s') E s := by
    intro refuse
    simp only [callSpecialIfBoundUnlessNone?, bindSpecialIfBound?]
    refine wpAny_holding (wpAny_bind (wpAny_bind (wpAny_bind (I.type.here ((looks_findIn X hi).here ?_)))))
    refine wpAny_bind (wpAny_askSetting (wpAny_ite ?_))
    have fin2 : wpAny M A (if (Value.ref f == Value.none) = true then (refuse >>= fun v => pure (some v)) else (call (.ref f) [.ref x] >>= fun v => pure (some v))) (fun r s' => r = some (.ref x) ∧ K.In s'.heap ∧ (∃ ox od, InstAt s'.heap x ox C od) ∧ Q (.ref x) s') E s := by
      rw [if_neg (show ¬ ((Value.ref f == Value.none) = true) from Bool.false_ne_true)]
      exact fin
    split
    · exact wpAny_bind ((bind_fn X _ (beq_iff_eq.mp hf)).here (wpAny_pure (by exact fin2)))
    · exact wpAny_tryCatch (wpAny_bind ((bind_fn X _ (beq_iff_eq.mp hf)).here (wpAny_pure (by exact fin2))))
  unfold pyIter
  refine wpAny_bind (wpAny_bind (I.type.here ((looks_findIn X hi).here ?_)))
  show wpAny M A (callSpecialIfBoundUnlessNone? (.ref x) "__iter__" _ >>= _) Q E s
  refine wpAny_bind (wpAny_mono (one _) (fun r s' hzz => ?_) fun _ _ z => z)
  obtain ⟨e1, X', ⟨ox', od', I'⟩, hq⟩ := hzz
  subst e1
  exact wpAny_bind (wpAny_bind (I'.type.here ((looks_findIn X' hs).here (wpAny_pure hq))))

/-- no length to be had of it -/
theorem own_noHint {M : Model} {E : Value → Shared → Prop} {x C : Addr} {ox : Obj} {od : Option Obj} {Q : Bool → Shared → Prop} (X : K.In s.heap) (I : InstAt s.heap x ox C od) (hl : findIn K (.ref C) "__len__" = some none) (hh : findIn K (.ref C) "__length_hint__" = some none) (hq : Q true s) :
    wpAny M A (Builtin.List.listLengthHint (.ref x)) Q E s := by
  unfold Builtin.List.listLengthHint
  refine wpAny_bind (wpAny_bind (I.type.here ((looks_findIn X hl).here ?_)))
  show wpAny M A (specialOf (Value.ref x) (Str.ofString "__length_hint__") >>= _) _ _ _
  refine wpAny_bind (wpAny_bind (I.type.here ((looks_findIn X hh).here ?_)))
  exact wpAny_pure hq

/-- list(filterfalse(...)) -/
theorem call_listFF {n : Nat} (KK : KG K) (ha : AOK (n + 4) A) (hh : A.handled = none) {x dx mw it po l : Addr} {P T : List Str} (hn : T.length ≤ 100) (F : FF σ x dx mw it po l P T 0) (r : Rep prog w K (flOf A) σ s) :
    wpAny (model prog w) A (call (.type "list") [.ref x]) (fun v s' => ∃ D σ', v = .ref D ∧ σ D = none ∧ Rep prog w K (flOf A) σ' s' ∧ Step no0 σ s σ' s' ∧ σ' = (σ.set it (.iter l none)).set D (.list ((T.filter fun t => decide (t ∉ P)).map .str))) (fun _ _ => False) s := by
  refine hideQ fun Qq hQq => ?_
  refine callType_codes (Q₁ := fun obj s₁ => obj = .ref s.heap.objs.size ∧ s₁ = { s with heap := s.heap.push { cls := .type "list", data := .seq #[] } }) PySem.F.called_list (PySem.F.typeCall_list_1 _) PySem.F.entry_list_init
    (code_list_new _ ⟨rfl, rfl⟩) fun obj s₁ h₁ => ?_
  obtain ⟨rfl, rfl⟩ := h₁
  have hS : (s.heap.push { cls := .type "list", data := .seq #[] }).get? s.heap.objs.size = some { cls := .type "list", data := .seq #[] } := Heap.get?_push_size _ rfl
  refine ⟨⟨_, hS, rfl⟩, PySem.F.args_list_init_2 _ _, ?_⟩
  generalize hSz : s.heap.objs.size = S at hS
  have fresh : ∀ o, s.heap.get? S ≠ some o := fun o g => Nat.lt_irrefl _ (hSz ▸ Heap.lt_size g)
  have zS := fresh_none r fresh
  obtain ⟨r1, t1⟩ := r.new (s' := { s with heap := s.heap.push { cls := .type "list", data := .seq #[] } }) (m' := .list []) fresh (fun b o g => Heap.get?_push_of_some _ g) rfl rfl ⟨#[], 0, hS, rfl⟩
  show wpAny _ _ (do let old ← Builtin.List.listItems (.ref S); Builtin.List.listUpdate (.ref S) (fun _ => #[]); letGo old.toList.reverse; Builtin.List.listExtendWith (.ref S) (.ref x) .none) _ _ _
  refine wpAny_bind ?_
  unfold Builtin.List.listItems
  refine wpAny_bind (wpAny_seqItems hS rfl (wpAny_pure ?_))
  show wpAny _ _ (updateSeq S (fun _ => #[]) >>= fun _ => letGo (#[] : Array Value).toList.reverse >>= fun _ => Builtin.List.listExtendWith (.ref S) (.ref x) .none) _ _ _
  refine wpAny_bind (wpAny_updateSeq hS rfl ?_)
  have hS2 := Heap.get?_update_self (Obj.mapSeq (fun _ => (#[] : Array Value))) hS rfl
  refine wpAny_bind (wpAny_letGo ?_)
  obtain ⟨r2, t2⟩ := r1.upd (s' := { s with heap := (s.heap.push { cls := .type "list", data := .seq #[] }).update S (Obj.mapSeq (fun _ => (#[] : Array Value))) }) (m' := .list []) (Sg.set_same ..) (fun b o hb g => (Heap.get?_update_other _ _ (Ne.symm hb)).trans g) rfl rfl ⟨#[], _, hS2, rfl⟩
  rw [Sg.set_set] at r2 t2
  have F2 : FF (σ.set S (.list [])) x dx mw it po l P T 0 := ⟨set_more zS _ _ F.x, set_more zS _ _ F.dx, set_more zS _ _ F.mw, set_more zS _ _ F.po, set_more zS _ _ F.it, set_more zS _ _ F.l⟩
  obtain ⟨svs, ents, nn, I, -, -, -⟩ := r2.inst F2.x F2.dx
  unfold Builtin.List.listExtendWith
  refine wpAny_bind (I.type.here ?_)
  have hSx : S ≠ x := fun e => by rw [e, F.x] at zS; cases zS
  have h1 : Builtin.List.listSameRef (.ref S) (.ref x) = false := by simp [Builtin.List.listSameRef, hSx]
  have h2 : (Value.ref 54 == Value.type "list") = false := by decide
  have h3 : (Value.ref 54 == Value.type "tuple") = false := by decide
  simp only [h1, h2, h3, Bool.or_false, Bool.false_eq_true, if_false]
  refine wpAny_bind (own_iter r2.top I KK.ff_iter KK.fn43 KK.ff_next (wpAny_call (codeAny_mono (fn_ffit (n := n) KK (x := x) (σ := σ.set S (.list [])) A.in1.in1 _ [.ref x] ?_ hh r2 ⟨_, _, rfl, rfl, rfl⟩) fun rr s₃ ⟨v, y, σ', e1, p, q, rv, ey, eσ⟩ => ?_)))
  · exact (show AOK (n + 4) A from ha).in1.in1.le (by omega)
  · subst e1 ey eσ
    cases (show v = .ref x from rv)
    obtain ⟨svs', ents', nn', I', -, -, -⟩ := p.inst F2.x F2.dx
    refine ⟨rfl, p.top, ⟨_, _, I'⟩, ?_⟩
    refine wpAny_bind (wpAny_holding (own_noHint p.top I' KK.ff_len KK.ff_hint ?_))
    show wpAny _ _ (rule "list.extend.makes-room" >>= fun _ => Builtin.List.listTouch (.ref S) >>= fun _ => again (.builtin "list.extend.loop" ⟨[.ref S, .ref x, .none], []⟩)) _ _ _
    refine wpAny_bind (wpAny_rule ?_)
    refine wpAny_bind ?_
    show wpAny _ _ (updateSeq S (·.push .none) >>= fun _ => updateSeq S (·.pop)) _ _ _
    obtain ⟨its, n0, gS, qS⟩ := p.objs _ _ (Sg.set_same ..)
    refine wpAny_bind (wpAny_updateSeq gS rfl ?_ ?_ ?_)
    have hits : its = #[] := by
      have := qS.size
      rw [List.length_nil] at this
      exact Array.eq_empty_of_size_eq_zero this
    subst hits
    · have gS4 : (s₃.heap.update S (Obj.mapSeq (·.push .none))).get? S = some (listO #[.none] _) := Heap.get?_update_self _ gS rfl
      obtain ⟨r4, q4⟩ := p.upd (s' := { s₃ with heap := (s₃.heap.update S (Obj.mapSeq (·.push .none))).update S (Obj.mapSeq (·.pop)) }) (m' := .list []) (Sg.set_same ..)
        (fun b o hb g => (Heap.get?_update_other _ _ (Ne.symm hb)).trans ((Heap.get?_update_other _ _ (Ne.symm hb)).trans g)) rfl rfl ⟨#[], _, Heap.get?_update_self _ gS4 rfl, rfl⟩
      rw [Sg.set_set] at r4 q4
      refine wpAny_updateSeq gS4 rfl (wpAny_pure ⟨plainId_quiet PySem.F.plain_extend_loop _, ?_⟩)
      have hSp : S ≠ po := fun e => by rw [e, F.po] at zS; cases zS
      have hSl : S ≠ l := fun e => by rw [e, F.l] at zS; cases zS
      have hSi : S ≠ it := fun e => by rw [e, F.it] at zS; cases zS
      refine codeAny_mono (ext_loop (n := n) (A := A.in1) (σ := σ.set S (.list [])) KK ((show AOK (n + 4) A from ha).in1.le (by omega)) hh .none hn hSp hSl T.length 0 [] _ rfl (Nat.zero_le _) (Nat.zero_le _) F2 (Sg.set_same ..) r4) fun rr s₅ hzz => ?_
      obtain ⟨e5, σ₅, r5, q5, eσ⟩ := hzz
      subst e5
      refine ⟨rfl, hQq _ _ ⟨S, σ₅, rfl, zS, r5, ?_, ?_⟩⟩
      · exact (((t1.trans t2).trans q).trans q4).trans q5
      · rw [eσ, List.drop_zero, List.nil_append]
        funext b
        by_cases hb : b = S
        · rw [hb, Sg.set_same, Sg.set_same]
        · rw [Sg.set_ne _ _ hb, Sg.set_ne _ _ hb]
          by_cases hc : b = it
          · rw [hc, Sg.set_same, Sg.set_same]
          · rw [Sg.set_ne _ _ hc, Sg.set_ne _ _ hc, Sg.set_ne _ _ hb]
    · have := qS.size
      rw [this, big_line]; simp
    · have := qS.size
      rw [Array.size_push, this, big_line]; simp
end
end Mine

end
section
open PySem PySem.W PyProof.Rows
set_option maxRecDepth 100000
namespace Mine

section
variable {prog : Program} {w : World} {K : Frag} {A : Around} {e : Env} {fr : Vars} {σ : Sg} {s s' : Shared}
local macro_rules | `(tactic| trivial) => `(tactic| first | exact SubL.n | (refine SubL.c rfl ?_; trivial) | exact Ep_local (by assumption) rfl rfl rfl | exact Ep_int | exact Ep_none)

/-- xs.__contains__ -/
theorem Ev_contains {o : Expr} {pos : Pos} {a : Addr} {xs : List MV} {R : MV → Sg → Prop} (ho : EP prog w K A e fr σ o (.ref a)) (ha : σ a = some (.list xs)) (h : ∀ mw, σ mw = none → R (.ref mw) (σ.set mw (.raw (mwO "list.__contains__" a))))
    (he : eval (.Attribute o "__contains__" pos) e = (do
      let o' ← eval o e
      standAt pos.atName
      let r ← holding [o'] (getAttr o' "__contains__" true)
      letTemporaryGo o o' r
      pure r) := by rfl) : Ev prog w K A e fr σ (eval (.Attribute o "__contains__" pos) e) R := fun s r => by
  refine Attribute_any_ (wpAny_mono (ho s r) (fun v s₁ hzz => ?_) fun _ _ z => z.elim) he
  obtain ⟨x1, rv⟩ := hzz
  cases (show v = .ref a from rv)
  have r1 := r.ext x1
  obtain ⟨its, n, g, q⟩ := r1.objs _ _ ha
  obtain ⟨h1, g1, d, t, os⟩ := s₁
  refine contains_get g ?_
  have fresh : ∀ o, h1.get? h1.objs.size ≠ some o := fun o g => Nat.lt_irrefl _ (Heap.lt_size g)
  obtain ⟨r2, t2⟩ := r1.new (s' := ⟨h1.push (mwO "list.__contains__" a), g1, d, t + 1, os⟩) (m' := .raw (mwO "list.__contains__" a)) fresh (fun b o g => Heap.get?_push_of_some _ g) rfl rfl (Heap.get?_push_size _ rfl)
  exact ⟨.ref h1.objs.size, _, r2, x1.step.trans t2, rfl, h h1.objs.size (fresh_none r1.toRep fresh)⟩

/-- list(filterfalse(...)), written out -/
theorem Ev_listFF {n : Nat} (KK : KG K) (ha : AOK (n + 4) A) (hh : A.handled = none) {func x : Expr} {cpos : Pos} {R : MV → Sg → Prop} (hf : EP prog w K A e fr σ func (.ty "list"))
    (h : Evs prog w K A e fr σ [x] fun ys σ₁ => ∃ x dx mw it po l P T, ys = [.ref x] ∧ T.length ≤ 100 ∧ FF σ₁ x dx mw it po l P T 0 ∧ ∀ D, σ₁ D = none → R (.ref D) ((σ₁.set it (.iter l none)).set D (.list ((T.filter fun t => decide (t ∉ P)).map .str))))
    (hp : (starEach [x] e).any (·.1) = false := by rfl)
    (hc : eval (.Call func [x] [] cpos) e = (do callWith cpos (← eval func e) [] (backTo cpos (starEach [x] e)) (backToKw cpos (keywordEach [] e))) := by rfl) : Ev prog w K A e fr σ (eval (.Call func [x] [] cpos) e) R :=
  Ev_call (n := 0) hf (fun _ _ _ r => r) keepsOk_type (fun pos s r => wpAny_mono (h pos s r) (fun _ _ ⟨ys, σ₁, p, q, rs, hx⟩ => ⟨ys, σ₁, p, q, rs, fun s vs r rs => by
    obtain ⟨x, dx, mw, it, po, l, P, T, rfl, hn, F, hR⟩ := hx
    obtain ⟨v, rfl, rv⟩ := rs.one
    cases (show v = .ref x from rv)
    refine wpAny_mono (call_listFF KK ha hh hn F r.toRep) (fun v s₂ hzz => ?_) fun _ _ z => z
    obtain ⟨D, σ', e1, zD, r2, q2, e2⟩ := hzz
    subst e1 e2
    obtain ⟨r3, q3⟩ := r.ofRep r2 q2
    exact ⟨.ref D, _, r3, q3, rfl, hR D zD⟩⟩) fun _ _ z => z) hp hc

theorem fn_filter {n : Nat} (KK : KG K) {l po : Addr} {T P : List Str} (hl : σ l = some (.list (T.map .str))) (hp : σ po = some (.list (P.map .str))) (hn : T.length ≤ 100) :
    Fn prog w K (n + 5) (.ref 65) [.ref l, .ref po] σ (fun y σ' => ∃ D, y = .ref D ∧ σ D = none ∧ σ' D = some (.list ((T.filter fun t => decide (t ∉ P)).map .str)) ∧ Old σ σ') := by
  refine Fn_pos KK.ok KK.f_filter.1 ["flist", "skip"] (by decide +kernel) rfl (fun _ _ _ _ _ _ _ _ => len2 fun _ _ => rfl) ?_
  intro L q cdv A ha hh
  have he : FrE (fe (fS (topS 4)) L q 65 cdv) := frE_fe rfl
  refine Ex_cons (Ex_return (Ev_listFF (n := n) KK ha hh (Ep_glb KK.g_list he rfl rfl) (Evs_cons (Ev_make (n := n + 1) (Ep_glb KK.g_ff he rfl rfl) KK.ff_make (ha.le (by omega)) hh (Evs_cons (Ev_contains (by trivial) hp fun mw hmw => (EPs_cons (by trivial) EPs_nil).evs fun x dx hx hdx hne => ?_))))))
  have hl1 : (σ.set mw (.raw (mwO "list.__contains__" po))) l = some (.list (T.map .str)) := set_more hmw _ _ hl
  have hp1 : (σ.set mw (.raw (mwO "list.__contains__" po))) po = some (.list (P.map .str)) := set_more hmw _ _ hp
  have hx1 : ((σ.set mw (.raw (mwO "list.__contains__" po))).set dx (.ns [])) x = none := (Sg.set_ne _ _ hne).trans hx
  have up : ∀ a m, (σ.set mw (.raw (mwO "list.__contains__" po))) a = some m → (((σ.set mw (.raw (mwO "list.__contains__" po))).set dx (.ns [])).set x (.inst 54 dx [])) a = some m := fun a m h => set_more hx1 _ _ (set_more hdx _ _ h)
  have hxx := Sg.set_same ((σ.set mw (.raw (mwO "list.__contains__" po))).set dx (.ns [])) x (.inst 54 dx [])
  have hdd : (((σ.set mw (.raw (mwO "list.__contains__" po))).set dx (.ns [])).set x (.inst 54 dx [])) dx = some (.ns []) := (Sg.set_ne _ _ hne.symm).trans (Sg.set_same ..)
  refine (fn_ffi (n := n) KK hxx hdd (up _ _ hl1)).mono fun y σ' ⟨e1, it, hit, hx', hit', hst⟩ => ⟨e1, Evs_nil ?_⟩
  have old : Old σ (σ.set mw (.raw (mwO "list.__contains__" po))) := fun a m h => set_more hmw _ _ h
  have old2 : ∀ a m, (σ.set mw (.raw (mwO "list.__contains__" po))) a = some m → σ' a = some m := fun a m h => hst a m (up a m h) fun e => by rw [e] at h; rw [h] at hx; cases hx
  refine ⟨x, dx, mw, it, po, l, P, T, rfl, hn, ⟨hx', hst _ _ hdd hne.symm, old2 _ _ (Sg.set_same ..), old2 _ _ hp1, hit', old2 _ _ hl1⟩, fun D hD => ?_⟩
  have o1 : Old σ σ' := fun a m h => old2 a m (old a m h)
  have hit0 : σ it = none := by
    cases z : σ it with
    | none => rfl
    | some m => have := up _ _ (old _ _ z); rw [hit] at this; cases this
  refine ⟨D, rfl, o1.none hD, Sg.set_same .., fun a m h => ?_⟩
  have n1 : a ≠ D := fun e => by have := o1 a m h; rw [e, hD] at this; cases this
  have n2 : a ≠ it := fun e => by rw [e, hit0] at h; cases h
  exact (Sg.set_ne _ _ n1).trans ((Sg.set_ne _ _ n2).trans (o1 a m h))
end
end Mine

end
section
open PySem PySem.W PyProof.Rows
set_option maxRecDepth 100000
namespace Mine

/-- what the law's own functions need of the top -/
structure KL (K : Frag) : Prop extends KG K where
  f_lready : fnOk K 225 (topS 18)
  f_lsort : fnOk K 230 (topS 19)
  f_lpod : fnOk K 237 (topS 20)
  f_lrun : fnOk K 242 (topS 21)
  f_ldue : fnOk K 247 (topS 22)
  f_law : fnOk K 252 (topS 23)
  f_push : fnOk K 192 (topS 12)
  f_pop : fnOk K 199 (topS 13)
  f_repl : fnOk K 206 (topS 14)
  f_sd : fnOk K 213 (topS 15)
  f_su : fnOk K 220 (topS 16)
  g_lready : glb K "_law_ready" (.ref 225)
  g_lsort : glb K "_law_sorter" (.ref 230)
  g_lpod : glb K "_law_put_off_done" (.ref 237)
  g_lrun : glb K "_law_run" (.ref 242)
  g_ldue : glb K "_law_due" (.ref 247)
  g_push : glb K "heappush" (.ref 192)
  g_pop : glb K "heappop" (.ref 199)
  g_repl : glb K "heapreplace" (.ref 206)
  g_sd : glb K "_siftdown" (.ref 213)
  g_su : glb K "_siftup" (.ref 220)
  g_type : glb K "type" (.ty "type")
  g_range : glb K "range" (.ty "range")
  g_sorted : glb K "sorted" (.bi "sorted")
  g_sum : glb K "sum" (.bi "sum")
  g_min : glb K "min" (.bi "min")

noncomputable def isS (q : Str → Bool) : MV → Bool
  | .str t => q t
  | _ => false
theorem filter_isS {q : Str → Bool} (R : List Str) : ((R.map .str).filter (isS q)).map id = (R.filter q).map MV.str := by
  rw [List.map_id, List.filter_map]; rfl
theorem eqVs_strs : ∀ (X Y : List Str), X.length = Y.length → eqVs (X.map .str) (Y.map .str) = some (decide (X = Y))
  | [], [], _ => rfl
  | x :: X, y :: Y, h => by
    have := eqVs_strs X Y (by simpa using h)
    simp only [List.map_cons, eqVs, eqV, this]
    by_cases h1 : x = y <;> by_cases h2 : X = Y <;> simp [h1, h2]
theorem eqV_strs (X Y : List Str) : eqV (.lst (X.map .str)) (.lst (Y.map .str)) = some (decide (X = Y)) := by
  simp only [eqV, List.length_map]
  by_cases h : X.length = Y.length
  · rw [if_pos h, eqVs_strs _ _ h]
  · rw [if_neg h, decide_eq_false (fun e => h (by rw [e]))]
theorem deps_strs : ∀ X : List Str, deps (X.map .str) = 0
  | [] => rfl
  | _ :: X => by rw [List.map_cons, deps, deps_strs X]; rfl
theorem strs_at {R : List Str} {i : Nat} {y : MV} (h : (R.map MV.str)[i]? = some y) : ∃ t, t ∈ R ∧ y = .str t := by
  rw [List.getElem?_map] at h
  obtain ⟨t, ht, e⟩ := Option.map_eq_some_iff.mp h
  exact ⟨t, List.mem_of_getElem? ht, e.symm⟩
theorem kin_strs {P : List Str} {t : Str} : ∀ z ∈ P.map MV.str, kin z (.str t) = true := fun z hz => by
  obtain ⟨p, _, rfl⟩ := List.mem_map.mp hz; rfl

section
variable {prog : Program} {w : World} {K : Frag} {A : Around} {e : Env} {fr : Vars} {σ : Sg} {s s' : Shared}

/-- list + list, the new one kept in sight -/
theorem Ev_addN {l r : Expr} {pos : Pos} {a b : MV} {xs ys : List MV} {R : MV → Sg → Prop} (hl : EP prog w K A e fr σ l a) (hr : EP prog w K A e fr σ r b) (la : LV σ a xs) (lb : LV σ b ys) (hn : xs.length ≤ 10000) (hm : ys.length ≤ 10000)
    (hR : ∀ D, σ D = none → R (.ref D) (σ.set D (.list (xs ++ ys)))) : Ev prog w K A e fr σ (eval (.BinOp l .Add r pos) e) R := fun s x => by
  refine wpAny_BinOp (wpAny_mono (hl s x) (fun va s₁ ⟨p, ra⟩ => wpAny_mono (hr s₁ (x.ext p)) (fun vb s₂ hzz => ?_) fun _ _ f => f) fun _ _ f => f)
  obtain ⟨q, rb⟩ := hzz
  have x2 := (x.ext p).ext q
  obtain ⟨a, its, n, rfl, g, q1⟩ := la.at x2.toRep (ra.ext q.keep)
  obtain ⟨b, its2, n2, rfl, g2, q2⟩ := lb.at x2.toRep rb
  have h1 := q1.size
  have h2 := q2.size
  have fresh : ∀ o, s₂.heap.get? s₂.heap.objs.size ≠ some o := fun o g => Nat.lt_irrefl _ (Heap.lt_size g)
  refine P.add_list g g2 ?_ (by rw [big_line]; omega)
  obtain ⟨p', q'⟩ := x2.new (s' := { s₂ with heap := s₂.heap.push (listO (its ++ its2) 0) }) (m' := .list (xs ++ ys)) fresh (fun b o g => Heap.get?_push_of_some _ g) rfl rfl
    ⟨its ++ its2, 0, Heap.get?_push_size _ rfl, by
      have : VRs s₂.heap σ (xs ++ ys) (its ++ its2).toList := by rw [Array.toList_append]; exact q1.append q2
      exact this.mono fun a c its n g z => ⟨Heap.get?_push_of_some _ g, Sg.set_none' _ (fun w => fresh _ (w ▸ g)) z⟩⟩
  exact ⟨.ref s₂.heap.objs.size, _, p', (p.trans q).step.trans q', rfl, hR _ (fresh_none x2.toRep fresh)⟩
end
end Mine

end
section
open PySem PySem.W PyProof.Rows
set_option maxRecDepth 100000
namespace Mine

section
variable {prog : Program} {w : World} {K : Frag} {A : Around} {e : Env} {fr : Vars} {σ : Sg} {s s' : Shared}
local macro_rules | `(tactic| trivial) => `(tactic| first | exact SubL.n | (refine SubL.c rfl ?_; trivial) | exact Ep_local (by assumption) rfl rfl rfl | exact Ep_cell (by assumption) rfl rfl rfl | exact Ep_int | exact Ep_none)

/-- an own list's place, apart from the sorter's -/
noncomputable def Apart (ra : Addr) (ns : List Nd) (a : Addr) : Prop := a ≠ ra ∧ ∀ x ∈ ns, x.sa ≠ a
theorem Apart.addrs {ra : Addr} {ns ns' : List Nd} (h : Mine.addrs ns' = Mine.addrs ns) {a : Addr} (k : Apart ra ns a) : Apart ra ns' a :=
  ⟨k.1, fun x hx e => by obtain ⟨y, hy, _, _, _, h3, _⟩ := addrs_mem h hx; exact k.2 y hy (h3.trans e)⟩
theorem SR.notFoot {ts d nd ra : Addr} {npo nf : Int} {ns : List Nd} {ready : List Str} (S : SR σ ts d nd ra npo nf ns ready) {a : Addr} {xs : List MV} (ha : σ a = some (.list xs)) (k : Apart ra ns a) : ¬ Foot d ra ns a := by
  rintro (e | e | ⟨x, hx, e⟩)
  · have := S.d; rw [← e, ha] at this; cases this
  · exact k.1 e
  · have := S.ia x hx; rw [← e, ha] at this; cases this
/-- an own list changed: the sorter stays -/
theorem SR.setOwn {ts d nd ra : Addr} {npo nf : Int} {ns : List Nd} {ready : List Str} (S : SR σ ts d nd ra npo nf ns ready) {a : Addr} {xs : List MV} {m : MObj} (ha : σ a = some (.list xs)) (k : Apart ra ns a) : SR (σ.set a m) ts d nd ra npo nf ns ready := by
  obtain ⟨ep, hd⟩ := S.dict
  have n : ∀ b m', σ b = some m' → (∀ ys, m' ≠ .list ys) → (σ.set a m) b = some m' := fun b m' h hm => (Sg.set_ne _ _ (neOf h ha (hm xs))).trans h
  exact ⟨⟨⟨S.ndn, S.san, fun x hx => n _ _ (S.ia x hx) nofun, fun x hx => n _ _ (S.da x hx) nofun, fun x hx => (Sg.set_ne _ _ (k.2 x hx)).trans (S.su x hx)⟩, n _ _ S.ts nofun, n _ _ S.d nofun, ep, n _ _ hd nofun⟩, (Sg.set_ne _ _ k.1.symm).trans S.hra, S.ran⟩

theorem fn_law_ready {n : Nat} (KK : KL K) {ts d nd ra po wa : Addr} {wr : MV} {npo nf : Int} {ns : List Nd} {ready P W : List Str} (S : SR σ ts d nd ra npo nf ns ready) (hr : ready.length ≤ 20) (hin : ∀ k ∈ ready, k ∈ ns.map (·.name))
    (hP : σ po = some (.list (P.map .str))) (hW : σ wa = some (.list (W.map .str))) (hWn : W.length ≤ 100) (kp : Apart ra ns po) (kw : Apart ra ns wa) :
    Fn prog w K (n + 8) (.ref 225) [.ref ts, .ref po, .ref wa, wr] σ (fun y σ' => y = .lst ((ready.filter fun t => decide (t ∉ P)).map .str) ∧ ∃ ns', SR σ' ts d nd ra (npo + ready.length) nf ns' [] ∧ view ns' = ready.foldl (fun ps k => setP ps k (-1)) (view ns) ∧ addrs ns' = addrs ns ∧
      σ' wa = some (.list ((W ++ ready.filter fun t => decide (t ∈ P)).map .str)) ∧ Stay (fun a => Foot d ra ns a ∨ a = wa) σ σ') := by
  refine Fn_pos KK.ok KK.f_lready.1 ["sorter", "put_off", "waiting", "wrong"] (by decide +kernel) rfl (fun _ _ _ _ _ _ _ _ => len4 fun _ _ _ _ => rfl) ?_
  intro L q cdv A ha hh
  have he : FrE (fe (fS (topS 18)) L q 225 cdv) := frE_fe rfl
  refine Ex_cons (Ex_assign he rfl (Ev_methA (by trivial) S.ts S.d rfl KK.m_ready ha hh (EPs_nil.evs ((fn_ready KK.toKF S (by omega) hin).mono ?_))))
  rintro y σ₁ ⟨rfl, ns', S₁, hv, had, hst⟩
  have hP1 : σ₁ po = some (.list (P.map .str)) := hst _ _ hP (S.notFoot hP kp)
  have hW1 : σ₁ wa = some (.list (W.map .str)) := hst _ _ hW (S.notFoot hW kw)
  have lst : ∀ {fr : Vars}, fr.lookup ("ready" : Str) = some (.tup (ready.map .str)) → ∀ {σ : Sg} {p1 p2 p3}, EP prog w K A (fe (fS (topS 18)) L q 225 cdv) fr σ (.Call (.Name "list" p1) [.Name "ready" p2] [] p3) (.lst (ready.map .str)) := fun {_} hl {_ _ _ _} =>
    Ep_call (Ep_glb KK.g_list he rfl rfl) (fun _ _ _ r => r) keepsOk_type (EPs_cons (Ep_local he rfl hl rfl) EPs_nil) (OC_listT (by simp; omega))
  refine Ex_cons (Ex_assign he rfl (Ev_addN (lst rfl) (lst rfl) .lst .lst (by simp; omega) (by simp; omega) fun tw htw => ?_))
  rw [← List.map_append]
  have hP2 := set_more (m := .list ((ready ++ ready).map .str)) htw _ _ hP1
  refine Ex_cons (Ex_assign he rfl (Ev_fn (Ep_glb KK.g_filter he rfl rfl) KK.f_filter.2 ha hh ((EPs_cons (by trivial) (EPs_cons (by trivial) EPs_nil)).evs ((fn_filter (n := n + 2) KK.toKG (Sg.set_same ..) hP2 (by simp; omega)).mono ?_))))
  rintro y σ₃ ⟨D, rfl, hD, hD3, old⟩
  have old1 : Old σ₁ σ₃ := fun a m h => old a m (set_more htw _ _ h)
  have htw3 : σ₃ tw = some (.list ((ready ++ ready).map .str)) := old _ _ (Sg.set_same ..)
  have hDtw : D ≠ tw := fun e => by rw [e, Sg.set_same] at hD; cases hD
  have S₃ := S₁.old old1
  have hP3 := old1 _ _ hP1
  have hW3 := old1 _ _ hW1
  refine Ex_cons (Ex_assignC he (cl := [("put_off", L + 1)]) (fc := [("put_off", .ref po)]) ⟨rfl, rfl, by decide, .c rfl .n, (by decide : (["put_off"] : List Str).Nodup), fun _ => rfl, (by intro _ _ h; cases h), .c rfl .n, fun _ => rfl, fun _ p hp => by
    rcases List.mem_singleton.mp hp with rfl; rfl, rfl⟩ rfl ((SrcP_of (by trivial) (It_tup hh)).src ⟨isS fun t => decide (t ∉ P), id, ?_, ?_, ?_, ?_, ?_⟩))
  · simp; omega
  · exact fun _ _ => True.intro
  · intro σ' L' he' h i y hy
    obtain ⟨t, _, rfl⟩ := strs_at hy
    exact TestsP_one ((Tp_cmp (Ep_local he' rfl rfl rfl) (Ep_cell he' rfl rfl rfl) (O2_notInL (.ref (h _ _ hP3)) kin_strs)).to (by rw [any_strs]; exact (decide_not ..).symm))
  · intro σ' L' he' h i y hy _
    exact Ep_local he' rfl rfl rfl
  rw [filter_isS]
  refine Ex_cons (Ex_expr (Ev_lm (xs := W.map .str) (by trivial) (.ref hW3) F.slot_list_extend F.type_list_extend ((EPs_cons (Ep_comp (isS fun t => decide (t ∈ P)) id he (cl := [("put_off", L + 1)]) (fc := [("put_off", .ref po)]) ⟨rfl, rfl, by decide, .c rfl .n, (by decide : (["put_off"] : List Str).Nodup), fun _ => rfl, (by intro _ _ h; cases h), .c rfl .n, fun _ => rfl, fun _ p hp => by
    rcases List.mem_singleton.mp hp with rfl; rfl, rfl⟩ (SrcP_of (by trivial) (It_tup hh)) ?_ ?_ ?_ ?_) EPs_nil).evs (MC_extend hW3 .lst (by simp; omega) ?_ ?_))))
  · simp; omega
  · exact fun _ _ => True.intro
  · intro σ' L' he' h i y hy
    obtain ⟨t, _, rfl⟩ := strs_at hy
    exact TestsP_one ((Tp_cmp (Ep_local he' rfl rfl rfl) (Ep_cell he' rfl rfl rfl) (O2_inL (.ref (h _ _ hP3)) kin_strs)).to any_strs)
  · intro σ' L' he' h i y hy _
    exact Ep_local he' rfl rfl rfl
  · rw [filter_isS, List.length_map]
    exact Nat.le_trans (List.length_filter_le ..) (by omega)
  rw [filter_isS, ← List.map_append]
  have wD : D ≠ wa := fun e => by have := set_more (m := .list ((ready ++ ready).map .str)) htw _ _ hW1; rw [← e, hD] at this; cases this
  have wt : tw ≠ wa := fun e => by rw [← e, htw] at hW1; cases hW1
  have hD4 := (Sg.set_ne σ₃ (.list ((W ++ ready.filter fun t => decide (t ∈ P)).map .str)) wD).trans hD3
  have htw4 := (Sg.set_ne σ₃ (.list ((W ++ ready.filter fun t => decide (t ∈ P)).map .str)) wt).trans htw3
  have hu : ∀ X : List Str, A.units + deps (X.map .str) + 1 < cLine := fun X => by have := ha.units; rw [deps_strs]; omega
  refine Ex_cons (Ex_ifp (b := false) (Tp_bool (Tp_or (b := false) (c := false) (Tp_cmp (Ep_call (Ep_glb KK.g_type he rfl rfl) (fun _ _ _ r => r) keepsOk_type (EPs_cons (by trivial) EPs_nil) OC_typeT) (Ep_glb KK.g_tuple he rfl rfl) O2_isnotTy) (fun _ =>
    Tp_or (b := false) (c := false) ((Tp_cmp (by trivial) (Ep_bin (by trivial) (by trivial) (O2_addL .lst .lst (by simp; exact Nat.le_trans (List.length_filter_le ..) (by omega)) (by simp; exact Nat.le_trans (List.length_filter_le ..) (by omega)))) (O2_neL (.ref hD4) .lst (by rw [← List.map_append]; exact eqV_strs _ _) (hu _))).to (by rw [List.filter_append]; simp)) (fun _ =>
    Tp_or (b := false) (c := false) (Tp_cmp (by trivial) (by trivial) (O2_isRef hDtw hD4 htw4)) (fun _ =>
    Tp_or (b := false) (c := false) ((Tp_cmp (by trivial) (Ep_bin (lst rfl) (lst rfl) (O2_addL .lst .lst (by simp; omega) (by simp; omega))) (O2_neL (.ref htw4) .lst (by rw [← List.map_append]; exact eqV_strs _ _) (hu _))).to (by simp)) (fun _ => Tp_or_nil) (fun h => nomatch h)) (fun h => nomatch h)) (fun h => nomatch h)) (fun h => nomatch h))) (fun h => nomatch h) fun _ => Ex_nil ?_)
  refine Ex_cons (Ex_return (Ep.ev (by trivial) ⟨rfl, ns', S₃.setOwn hW3 (kw.addrs had), hv, had, Sg.set_same .., fun a m h hn => ?_⟩))
  rw [Sg.set_ne _ _ fun e => hn (.inr e)]
  exact old1 _ _ (hst _ _ h fun hf => hn (.inl hf))
end
end Mine

end
section
open PySem PySem.W PyProof.Rows
set_option maxRecDepth 100000
namespace Mine

section
variable {prog : Program} {w : World} {K : Frag} {A : Around} {e : Env} {fr : Vars} {σ : Sg} {s s' : Shared}
local macro_rules | `(tactic| trivial) => `(tactic| first | exact SubL.n | (refine SubL.c rfl ?_; trivial) | exact Ep_local (by assumption) rfl rfl rfl | exact Ep_cell (by assumption) rfl rfl rfl | exact Ep_int | exact Ep_none)

/-- what a row of done calls needs -/
structure DoneOk (ns : List Nd) (ready ks : List Str) : Prop where
  hk : ∀ (i : Nat) k, ks[i]? = some k → k ∈ ns.map (·.name) ∧ (getP (doneP (view ns, ready) (ks.take i)).1 k).2.1 = -1
  hrl : ∀ i, (doneP (view ns, ready) (ks.take i)).2.length ≤ 100
  hkl : ks.length ≤ 100
  hsu : ∀ x ∈ ns, ∀ s ∈ x.su, s ∈ ns.map (·.name)
  hsl : ∀ x ∈ ns, x.su.length ≤ 100

theorem doneP_app (st : List PN × List Str) (xs ys : List Str) : doneP st (xs ++ ys) = doneP (doneP st xs) ys := List.foldl_append ..

theorem seg_min {i j z n : Nat} (h : j < z) (e : min (i + z) n = min i n + z) : min i n = i := by omega
theorem done_seg {n : Nat} (KK : KF K) {ts d nd ra : Addr} {npo nf : Int} {ns ns₁ : List Nd} {ready ks zs : List Str} (DO : DoneOk ns ready ks) (i : Nat) (hz : ks.take (i + zs.length) = ks.take i ++ zs) (S : SR σ ts d nd ra npo (nf + i) ns₁ (doneP (view ns, ready) (ks.take i)).2)
    (hv : view ns₁ = (doneP (view ns, ready) (ks.take i)).1) (had : addrs ns₁ = addrs ns) (hz10 : zs.length ≤ 10)
    (hb : ∀ (name qual : Str) kV doc pm an cdv ct, ∀ vs us : List Value, vs.length = 1 → us.length = zs.length → bindArgs (fnOf name qual (fA (inCls (topS 10) 7)) (fB (inCls (topS 10) 7)) (fS (inCls (topS 10) 7)) .none kV doc pm an cdv ct) ⟨vs ++ us, []⟩ = (newTuple us >>= fun t => pure ((["self"] : List Str).zip vs ++ [(("nodes" : Str), t)]))) :
    Fn prog w K (n + 1) (.ref 164) ([.ref ts] ++ zs.map .str) σ (fun y σ' => y = .none ∧ ∃ ns', SR σ' ts d nd ra npo (nf + (i + zs.length : Nat)) ns' (doneP (view ns, ready) (ks.take (i + zs.length))).2 ∧ view ns' = (doneP (view ns, ready) (ks.take (i + zs.length))).1 ∧ addrs ns' = addrs ns ∧ Stay (Foot d ra ns) σ σ') := by
  have hnm := addrs_names had
  have hzk : ∀ (j : Nat) k, zs[j]? = some k → ks[i + j]? = some k ∧ ks.take (i + j) = ks.take i ++ zs.take j := fun j k h => by
    have hj := (List.getElem?_eq_some_iff.mp h).1
    have hki : (ks.take i).length = i := by
      have := congrArg List.length hz
      rw [List.length_append, List.length_take, List.length_take] at this
      rw [List.length_take]; exact seg_min hj this
    have h1 : (ks.take (i + zs.length))[i + j]? = some k := by rw [hz, List.getElem?_append_right (by omega), hki]; simpa using h
    refine ⟨by rw [List.getElem?_take_of_lt (by omega)] at h1; exact h1, ?_⟩
    have h2 := congrArg (List.take (i + j)) hz
    rw [List.take_take, List.take_append, hki, Nat.min_eq_left (by omega)] at h2
    rw [h2, List.take_of_length_le (by omega)]
    congr 2; exact Nat.add_sub_cancel_left ..
  have e0 : (view ns₁, (doneP (view ns, ready) (ks.take i)).2) = doneP (view ns, ready) (ks.take i) := by rw [hv]
  have key : ∀ ys, doneP (view ns₁, (doneP (view ns, ready) (ks.take i)).2) ys = doneP (view ns, ready) (ks.take i ++ ys) := fun ys => by rw [e0, doneP_app]
  refine (fn_done (n := n) KK S hz10 (DO.hrl i) hb (fun j k h => ?_) (fun x hx s hs => ?_) (fun x hx => ?_)).mono ?_
  · obtain ⟨h1, h2⟩ := hzk j k h
    obtain ⟨a, b⟩ := DO.hk _ _ h1
    rw [key, ← h2, hnm]
    exact ⟨a, b⟩
  · obtain ⟨y, hy, _, _, _, _, e5⟩ := addrs_mem had hx
    rw [hnm]; exact DO.hsu y hy s (e5 ▸ hs)
  · obtain ⟨y, hy, _, _, _, _, e5⟩ := addrs_mem had hx
    exact e5 ▸ DO.hsl y hy
  · rintro y σ' ⟨rfl, ns', S', hv', ha', hst⟩
    rw [key, ← hz] at S' hv'
    refine ⟨rfl, ns', ?_, hv', ha'.trans had, hst.mono fun a h => h.addrs had⟩
    have : nf + (i : Int) + (zs.length : Int) = nf + ((i + zs.length : Nat) : Int) := Int.add_assoc ..
    rw [← this]; exact S'

theorem fn_lpod {n : Nat} (KK : KL K) {ts d nd ra : Addr} {npo nf : Int} {ns : List Nd} {ready ks : List Str} (S : SR σ ts d nd ra npo nf ns ready) (DO : DoneOk ns ready ks) :
    Fn prog w K (n + 3) (.ref 237) [.ref ts, .lst (ks.map .str)] σ (fun y σ' => y = .none ∧ ∃ ns', SR σ' ts d nd ra npo (nf + ks.length) ns' (doneP (view ns, ready) ks).2 ∧ view ns' = (doneP (view ns, ready) ks).1 ∧ addrs ns' = addrs ns ∧ Stay (Foot d ra ns) σ σ') := by
  refine Fn_pos KK.ok KK.f_lpod.1 ["sorter", "waiting"] (by decide +kernel) rfl (fun _ _ _ _ _ _ _ _ => len2 fun _ _ => rfl) ?_
  intro L q cdv A ha hh
  have he : FrE (fe (fS (topS 20)) L q 237 cdv) := frE_fe rfl
  refine EX_post fun Qp _ hQp => ?_
  have hlen := DO.hkl
  have test : ∀ {σ : Sg} {p1 p2 p3 p4 p6 k5}, TP prog w K A (fe (fS (topS 20)) L q 237 cdv) [("sorter", .ref ts), ("waiting", .lst (ks.map .str))] σ (.Compare (.Call (.Name "len" p1) [.Name "waiting" p2] [] p3) [.Gt] [.Constant (.int 1) k5 p4] p6) (decide (1 < ks.length)) := by
    intro σ p1 p2 p3 p4 p6 k5
    exact (Tp_cmp (Ep_call (Ep_glb KK.g_len he rfl rfl) (fun _ _ _ r => r) keepsOk_builtin (EPs_cons (by trivial) EPs_nil) (OC_len .lst (by simp; omega))) Ep_int O2_gtI).to (by simp; omega)
  have hI : ∀ i, ks.take (i + 1) = ks.take i ++ (ks[i]?).toList := fun i => List.take_add_one ..
  obtain ⟨m, hm, hmk⟩ : ∃ m, (if 1 < ks.length then 2 else 0) = m ∧ m ≤ ks.length := by
    split
    · exact ⟨2, rfl, by omega⟩
    · exact ⟨0, rfl, by omega⟩
  refine Ex_cons (Ex_to (fun fr σ' => fr = ([("sorter", .ref ts), ("waiting", .lst (ks.map .str))] : Vars) ∧ ∃ ns', SR σ' ts d nd ra npo (nf + m) ns' (doneP (view ns, ready) (ks.take m)).2 ∧ view ns' = (doneP (view ns, ready) (ks.take m)).1 ∧ addrs ns' = addrs ns ∧ Stay (Foot d ra ns) σ σ')
    (Ex_ifp (b := decide (1 < ks.length)) test (fun h => ?_) (fun h => ?_)) ?_)
  · have h1 : 1 < ks.length := by simpa using h
    rw [if_pos h1] at hm; subst hm
    refine Ex_cons (Ex_expr (Ev_methA (by trivial) S.ts S.d rfl KK.m_done ha hh ((EPs_cons (Ep_sub (by trivial) (by trivial) (OS_list .lst (by decide) (c := .str ks[0]) (by simp) (by simp; omega))) (EPs_cons (Ep_sub (by trivial) (by trivial) (OS_list .lst (by decide) (c := .str ks[1]) (by simp) (by simp; omega))) EPs_nil)).evs
      ((done_seg (n := n + 1) KK.toKF DO (zs := [ks[0], ks[1]]) 0 ?_ (by simpa [doneP] using S) (by simp [doneP]) rfl (by simp) (fun _ _ _ _ _ _ _ _ => len12 fun _ _ _ => rfl)).mono ?_))))
    · rw [List.take_zero, List.nil_append]
      show ks.take 2 = _
      match ks, h1 with
      | a :: b :: r, _ => rfl
    · rintro y σ' ⟨rfl, ns', h⟩
      exact Ex_nil ⟨rfl, _, ⟨rfl, ns', h⟩, by trivial⟩
  · have h1 : ¬ 1 < ks.length := by simpa using h
    rw [if_neg h1] at hm; subst hm
    exact Ex_nil ⟨rfl, _, ⟨rfl, ns, by simpa [doneP] using S, by simp [doneP], rfl, .refl⟩, by trivial⟩
  rintro fr₁ σ₁ ⟨rfl, ns₁, S₁, hv₁, ha₁, hst₁⟩
  refine Ex_cons (Ex_for he rfl (fun xs C i fr σ' => ∃ ns', xs = (ks.drop m).map .str ∧ C = (fun _ => True) ∧ SR σ' ts d nd ra npo (nf + (m + i : Nat)) ns' (doneP (view ns, ready) (ks.take (m + i))).2 ∧ view ns' = (doneP (view ns, ready) (ks.take (m + i))).1 ∧ addrs ns' = addrs ns ∧ Stay (Foot d ra ns) σ σ' ∧ fr = ([("sorter", .ref ts), ("waiting", .lst (ks.map .str))] : Vars))
    ((SrcP_of (y := .lst ((ks.drop m).map .str)) (Ep_ifexp (b := decide (1 < ks.length)) test (fun h => ?_) (fun h => ?_)) (It_list hh .lst (fun _ _ => .lst) True.intro)).src ⟨⟨_, ⟨ns₁, rfl, rfl, S₁, hv₁, ha₁, hst₁, rfl⟩, by trivial⟩, fun _ _ _ _ => True.intro, ?_, ?_⟩))
  · have h1 : 1 < ks.length := by simpa using h
    rw [if_pos h1] at hm; subst hm
    exact Ep_slice (xs := ks.map .str) (lo := some 2) (hi := none) .lst (by simp; omega) (by trivial) Ep_int True.intro (by simp [cutL]) (.inl ⟨2, rfl, rfl⟩)
  · have h1 : ¬ 1 < ks.length := by simpa using h
    rw [if_neg h1] at hm; subst hm
    exact by trivial
  · rintro i y fr σ' Q hQ - - hy ⟨ns₂, -, -, S₂, hv₂, ha₂, hst₂, rfl⟩
    obtain ⟨p, hp, rfl, -⟩ := take_str hy
    rw [List.getElem?_drop] at hp
    refine Ex_cons (Ex_expr (Ev_methA (by trivial) S₂.ts S₂.d rfl KK.m_done ha hh ((EPs_cons (Ep_local he rfl rfl rfl) EPs_nil).evs
      ((done_seg (n := n + 1) KK.toKF DO (zs := [p]) (m + i) (by rw [List.length_singleton, hI, hp]; rfl) S₂ hv₂ ha₂ (by simp) (fun _ _ _ _ _ _ _ _ => len11 fun _ _ => rfl)).mono ?_))))
    rintro y σ₃ ⟨rfl, ns', S', hv', ha', hst'⟩
    exact Ex_nil (hQ _ _ ⟨_, ⟨ns', rfl, rfl, S', hv', ha', hst₂.trans hst', rfl⟩, by trivial⟩).1
  · rintro fr σ' ⟨ns₂, -, -, S₂, hv₂, ha₂, hst₂, rfl⟩
    have e1 : m + ((ks.drop m).map MV.str).length = ks.length := by simp; omega
    rw [e1, List.take_length] at S₂ hv₂
    exact Ex_nil (Ex_nil (hQp _ _ ⟨rfl, ns₂, S₂, hv₂, ha₂, hst₂⟩))
end
end Mine

end
section
open PySem PySem.W PyProof.Rows
namespace Mine

/-! the sorter's nodes after a row of add calls -/
theorem getP_touch (ps : List PN) (k s : Str) : getP (touch ps k) s = getP ps s := by
  unfold getP touch
  split
  · rfl
  · rw [List.find?_append]
    cases h : ps.find? fun p => decide (p.1 = s) with
    | some q => rfl
    | none =>
      by_cases e : k = s
      · subst e; simp
      · simp [e]
theorem getP_updP {ps : List PN} {k s : Str} {f : PN → PN} (hf : ∀ p, (f p).1 = p.1) (hk : k ∈ ps.map (·.1)) : getP (updP ps k f) s = if s = k then f (getP ps s) else getP ps s := by
  unfold getP updP
  rw [List.find?_map]
  have : ((fun p : PN => decide (p.1 = s)) ∘ fun p => if p.1 = k then f p else p) = fun p : PN => decide (p.1 = s) := by
    funext p
    show decide ((if p.1 = k then f p else p).1 = s) = _
    split
    · rw [hf]
    · rfl
  rw [this]
  cases h : ps.find? fun p => decide (p.1 = s) with
  | some q =>
    have hq : q.1 = s := by simpa using List.find?_some h
    simp only [Option.map_some, Option.getD_some, hq]
  | none =>
    have hn : s ≠ k := fun e => by
      obtain ⟨p, hp, e2⟩ := List.mem_map.mp hk
      have := List.find?_eq_none.mp h p hp
      simp [e2, e] at this
    simp [hn]
theorem names_touch (ps : List PN) (k s : Str) : s ∈ (touch ps k).map (·.1) ↔ s ∈ ps.map (·.1) ∨ s = k := by
  unfold touch
  split
  · rename_i h; exact ⟨.inl, fun q => q.elim id fun e => e ▸ h⟩
  · rw [List.map_append, List.mem_append]; simp
theorem link_names (ps : List PN) (p k s : Str) : s ∈ (link ps p k).map (·.1) ↔ s ∈ ps.map (·.1) ∨ s = p := by
  unfold link; rw [names_updP (f := fun q => (q.1, q.2.1, q.2.2 ++ [k])) fun _ => rfl]; exact names_touch ..
theorem getP_link (ps : List PN) (p k s : Str) : getP (link ps p k) s = if s = p then (s, (getP ps s).2.1, (getP ps s).2.2 ++ [k]) else getP ps s := by
  unfold link
  rw [getP_updP (f := fun q => (q.1, q.2.1, q.2.2 ++ [k])) (fun _ => rfl) ((names_touch ..).mpr (.inr rfl)), getP_touch]
  split
  · rename_i e
    have : (getP ps s).1 = s := by
      unfold getP
      cases h : ps.find? fun p => decide (p.1 = s) with
      | some q => have := List.find?_some h; simpa using this
      | none => rfl
    rw [this]
  · rfl
theorem getP_fst (ps : List PN) (s : Str) : (getP ps s).1 = s := by
  unfold getP
  cases h : ps.find? fun p => decide (p.1 = s) with
  | some q => have := List.find?_some h; simpa using this
  | none => rfl
theorem links_names (k s : Str) : ∀ (preds : List Str) (ps : List PN), s ∈ (preds.foldl (fun ps p => link ps p k) ps).map (·.1) ↔ s ∈ ps.map (·.1) ∨ s ∈ preds
  | [], ps => by simp
  | p :: preds, ps => by rw [List.foldl_cons, links_names k s preds, link_names]; simp [or_assoc]
theorem getP_links (k s : Str) : ∀ (preds : List Str) (ps : List PN), getP (preds.foldl (fun ps p => link ps p k) ps) s = (s, (getP ps s).2.1, (getP ps s).2.2 ++ (preds.filter fun p => decide (p = s)).map fun _ => k)
  | [], ps => by rw [List.foldl_nil, List.filter_nil, List.map_nil, List.append_nil]; exact Prod.ext (getP_fst ps s) rfl
  | p :: preds, ps => by
    rw [List.foldl_cons, getP_links k s preds, getP_link]
    by_cases e : s = p
    · subst e; simp
    · simp [e, Ne.symm e]
theorem addP_names (ps : List PN) (k s : Str) (preds : List Str) : s ∈ (addP ps k preds).map (·.1) ↔ s ∈ ps.map (·.1) ∨ s = k ∨ s ∈ preds := by
  unfold addP; rw [links_names, names_updP (f := fun q => (q.1, q.2.1 + preds.length, q.2.2)) fun _ => rfl, names_touch, or_assoc]
theorem getP_addP (ps : List PN) (k s : Str) (preds : List Str) : getP (addP ps k preds) s = (s, (getP ps s).2.1 + (if s = k then (preds.length : Int) else 0), (getP ps s).2.2 ++ (preds.filter fun p => decide (p = s)).map fun _ => k) := by
  unfold addP
  rw [getP_links, getP_updP (f := fun q => (q.1, q.2.1 + preds.length, q.2.2)) (fun _ => rfl) ((names_touch ..).mpr (.inr rfl)), getP_touch]
  split <;> simp

noncomputable abbrev Ops := List (Str × List Str)
noncomputable def runOps (ps : List PN) (ops : Ops) : List PN := ops.foldl (fun ps o => addP ps o.1 o.2) ps
theorem runOps_app (ps : List PN) (a b : Ops) : runOps ps (a ++ b) = runOps (runOps ps a) b := List.foldl_append ..
noncomputable def npO (ops : Ops) (s : Str) : Int := (ops.map fun o => if s = o.1 then (o.2.length : Int) else 0).sum
noncomputable def suO (ops : Ops) (s : Str) : List Str := ops.flatMap fun o => (o.2.filter fun p => decide (p = s)).map fun _ => o.1
theorem ops_names (s : Str) : ∀ (ops : Ops) (ps : List PN), s ∈ (runOps ps ops).map (·.1) ↔ s ∈ ps.map (·.1) ∨ ∃ o ∈ ops, s = o.1 ∨ s ∈ o.2
  | [], ps => by simp [runOps]
  | o :: ops, ps => by
    show s ∈ (runOps (addP ps o.1 o.2) ops).map (·.1) ↔ _
    rw [ops_names s ops, addP_names]; simp [or_assoc]
theorem getP_ops (s : Str) : ∀ (ops : Ops) (ps : List PN), getP (runOps ps ops) s = (s, (getP ps s).2.1 + npO ops s, (getP ps s).2.2 ++ suO ops s)
  | [], ps => by show getP ps s = _; simp [npO, suO]; exact Prod.ext (getP_fst ps s) rfl
  | o :: ops, ps => by
    show getP (runOps (addP ps o.1 o.2) ops) s = _
    rw [getP_ops s ops, getP_addP]
    simp [npO, suO, Int.add_assoc]
theorem getP_nil (s : Str) : getP [] s = (s, 0, []) := rfl
theorem suO_mem {ops : Ops} {s t : Str} : t ∈ suO ops s ↔ ∃ o ∈ ops, o.1 = t ∧ s ∈ o.2 := by
  unfold suO
  simp only [List.mem_flatMap, List.mem_map, List.mem_filter, decide_eq_true_eq]
  constructor
  · rintro ⟨o, ho, p, ⟨hp, rfl⟩, rfl⟩; exact ⟨o, ho, rfl, hp⟩
  · rintro ⟨o, ho, rfl, hs⟩; exact ⟨o, ho, s, ⟨hs, rfl⟩, rfl⟩
theorem suO_len (ops : Ops) (s : Str) : (suO ops s).length ≤ (ops.map fun o => o.2.length).sum := by
  unfold suO
  induction ops with
  | nil => exact Nat.le_refl _
  | cons o ops ih =>
    rw [List.flatMap_cons, List.length_append, List.map_cons, List.sum_cons, List.length_map]
    exact Nat.add_le_add (List.length_filter_le ..) ih

/-! the law's names and needs -/
noncomputable def NM : List Str := ["a", "aa", "ab", "b", "ba", "bb", "c", "ca", "cb", "cc"]
noncomputable def nm (k : Nat) : Str := (NM[k]?).getD ""
theorem nm_inj : ∀ i, i < 10 → ∀ j, j < 10 → nm i = nm j → i = j := by decide +kernel
theorem nm_mem : ∀ i, i < 10 → nm i ∈ NM := by decide +kernel
theorem NM_at (i : Nat) (h : i < 10) : NM[i]? = some (nm i) := by
  have : i < NM.length := h
  simp [nm, this]
theorem NM_map : NM = (List.range 10).map nm := by decide +kernel
theorem NM_nodup : NM.Nodup := by decide +kernel
theorem NM_idx : ∀ i, i < 10 → NM.idxOf (nm i) = i := by decide +kernel

variable (b : Nat → Nat → Bool)
/-- what a work needs -/
noncomputable def need (k : Nat) : List Nat := (List.range (min k 8)).filter (b k)
theorem need_lt {k j : Nat} (h : j ∈ need b k) : j < k ∧ j < 8 := by
  have := (List.mem_filter.mp h).1
  rw [List.mem_range] at this; omega
theorem need_len (k : Nat) : (need b k).length ≤ 8 := Nat.le_trans (List.length_filter_le ..) (by rw [List.length_range]; omega)
theorem need_nodup (k : Nat) : (need b k).Nodup := List.nodup_range.filter _
noncomputable def above (k : Nat) : List Str := (need b k).map nm
noncomputable def cut (l : List Str) : Nat := if 1 < l.length then 2 else 0
noncomputable def opsK (k : Nat) : Ops := (nm k, (above b k).take (cut (above b k))) :: ((above b k).drop (cut (above b k))).map fun o => (nm k, [o])
noncomputable def downs : List Nat := (List.range 10).reverse
noncomputable def allOps : Ops := downs.flatMap (opsK b)

theorem above_mem {k : Nat} {s : Str} : s ∈ above b k ↔ ∃ j ∈ need b k, s = nm j := by
  unfold above; rw [List.mem_map]; exact ⟨fun ⟨j, h, e⟩ => ⟨j, h, e.symm⟩, fun ⟨j, h, e⟩ => ⟨j, h, e.symm⟩⟩
theorem map_nodup {l : List Nat} (h : l.Nodup) (hl : ∀ k ∈ l, k < 10) : (l.map nm).Nodup := by
  rw [List.Nodup, List.pairwise_map]
  exact List.Pairwise.imp_of_mem (fun {x y} hx hy hne e => hne (nm_inj x (hl x hx) y (hl y hy) e)) h
theorem above_nodup (k : Nat) : (above b k).Nodup := map_nodup (need_nodup b k) fun j hj => by have := need_lt b hj; omega
theorem above_nm {k j : Nat} (hj : j < 10) : nm j ∈ above b k ↔ j ∈ need b k := by
  rw [above_mem]
  constructor
  · rintro ⟨i, hi, e⟩
    have := need_lt b hi
    rw [nm_inj j hj i (by omega) e]; exact hi
  · exact fun h => ⟨j, h, rfl⟩
theorem cut_le (l : List Str) : cut l ≤ l.length := by unfold cut; split <;> omega
theorem opsK_mem {k : Nat} {o : Str × List Str} (h : o ∈ opsK b k) : o.1 = nm k ∧ ∀ p ∈ o.2, p ∈ above b k := by
  rcases List.mem_cons.mp h with rfl | h
  · exact ⟨rfl, fun p hp => List.mem_of_mem_take hp⟩
  · obtain ⟨q, hq, rfl⟩ := List.mem_map.mp h
    exact ⟨rfl, fun p hp => by rw [List.mem_singleton.mp hp]; exact List.mem_of_mem_drop hq⟩
theorem opsK_flat (k : Nat) : (opsK b k).flatMap (·.2) = above b k := by
  unfold opsK
  rw [List.flatMap_cons, List.flatMap_map]
  have : ∀ l : List Str, (l.flatMap fun x => [x]) = l := fun l => by induction l with
    | nil => rfl
    | cons a l ih => rw [List.flatMap_cons, ih]; rfl
  rw [this, List.take_append_drop]
theorem suO_flat (s t : Str) : ∀ (ops : Ops), (∀ o ∈ ops, o.1 = t) → suO ops s = ((ops.flatMap (·.2)).filter fun p => decide (p = s)).map fun _ => t
  | [], _ => rfl
  | o :: ops, h => by
    have h1 := suO_flat s t ops fun o ho => h o (.tail _ ho)
    unfold suO at h1 ⊢
    rw [List.flatMap_cons, List.flatMap_cons, List.filter_append, List.map_append, ← h1, h o (.head _)]
theorem len_flat : ∀ (ops : Ops), (ops.map fun o => o.2.length).sum = (ops.flatMap (·.2)).length
  | [] => rfl
  | o :: ops => by rw [List.map_cons, List.sum_cons, List.flatMap_cons, List.length_append, len_flat ops]
theorem npO_flat (s t : Str) : ∀ (ops : Ops), (∀ o ∈ ops, o.1 = t) → npO ops s = if s = t then ((ops.flatMap (·.2)).length : Int) else 0
  | [], _ => by simp [npO]
  | o :: ops, h => by
    have h1 := npO_flat s t ops fun o ho => h o (.tail _ ho)
    unfold npO at h1 ⊢
    rw [List.map_cons, List.sum_cons, h1, h o (.head _), List.flatMap_cons, List.length_append]
    split <;> simp
theorem suO_app (x y : Ops) (s : Str) : suO (x ++ y) s = suO x s ++ suO y s := List.flatMap_append
theorem npO_app (x y : Ops) (s : Str) : npO (x ++ y) s = npO x s + npO y s := by
  induction x with
  | nil => simp [npO]
  | cons o x ih =>
    unfold npO at ih ⊢
    rw [List.cons_append, List.map_cons, List.map_cons, List.sum_cons, List.sum_cons, ih, Int.add_assoc]
theorem filter_one {s : Str} : ∀ {l : List Str}, l.Nodup → l.filter (fun p => decide (p = s)) = if s ∈ l then [s] else []
  | [], _ => rfl
  | a :: l, h => by
    rw [List.nodup_cons] at h
    have ih := filter_one (s := s) h.2
    by_cases e : a = s
    · subst e; rw [List.filter_cons_of_pos (by simp), ih, if_neg h.1, if_pos (.head _)]
    · rw [List.filter_cons_of_neg (by simpa using e), ih]
      by_cases q : s ∈ l
      · rw [if_pos q, if_pos (.tail _ q)]
      · rw [if_neg q, if_neg]; intro hm; rcases List.mem_cons.mp hm with e2 | e2; exact e e2.symm; exact q e2
theorem suO_K (k : Nat) (s : Str) : suO (opsK b k) s = if s ∈ above b k then [nm k] else [] := by
  rw [suO_flat s (nm k) _ fun o ho => (opsK_mem b ho).1, opsK_flat, filter_one (above_nodup b k)]
  split <;> rfl
theorem npO_K (k : Nat) (s : Str) : npO (opsK b k) s = if s = nm k then ((need b k).length : Int) else 0 := by
  rw [npO_flat s (nm k) _ fun o ho => (opsK_mem b ho).1, opsK_flat]
  unfold above; rw [List.length_map]

/-- the followers -/
noncomputable def sucs (j : Nat) : List Str := (downs.filter fun k => decide (j ∈ need b k)).map nm
theorem suO_fm (s : Str) : ∀ l : List Nat, suO (l.flatMap (opsK b)) s = (l.filter fun k => decide (s ∈ above b k)).map nm
  | [] => rfl
  | k :: l => by
    rw [List.flatMap_cons, suO_app, suO_fm s l, suO_K]
    by_cases h : s ∈ above b k
    · rw [if_pos h, List.filter_cons_of_pos (by simpa using h)]; rfl
    · rw [if_neg h, List.filter_cons_of_neg (by simpa using h)]; rfl
theorem suO_all {j : Nat} (hj : j < 10) : suO (allOps b) (nm j) = sucs b j := by
  unfold allOps sucs
  rw [suO_fm]
  congr 1
  exact List.filter_congr fun k _ => decide_eq_decide.mpr (above_nm b hj)
theorem npO_fm {i : Nat} (hi : i < 10) : ∀ l : List Nat, l.Nodup → (∀ k ∈ l, k < 10) → npO (l.flatMap (opsK b)) (nm i) = if i ∈ l then ((need b i).length : Int) else 0
  | [], _, _ => by simp [npO]
  | k :: l, hn, hl => by
    rw [List.nodup_cons] at hn
    rw [List.flatMap_cons, npO_app, npO_fm hi l hn.2 fun k hk => hl k (.tail _ hk), npO_K]
    by_cases e : i = k
    · subst e; rw [if_pos rfl, if_neg hn.1, if_pos (.head _), Int.add_zero]
    · rw [if_neg (fun h => e (nm_inj i hi k (hl k (.head _)) h)), Int.zero_add]
      simp [e]
theorem downs_mem {k : Nat} : k ∈ downs ↔ k < 10 := by unfold downs; rw [List.mem_reverse, List.mem_range]
theorem downs_nodup : downs.Nodup := by decide +kernel
theorem npO_all {i : Nat} (hi : i < 10) : npO (allOps b) (nm i) = (need b i).length := by
  unfold allOps
  rw [npO_fm b hi downs downs_nodup fun k hk => downs_mem.mp hk, if_pos (downs_mem.mpr hi)]
theorem sucs_mem {j : Nat} {s : Str} : s ∈ sucs b j ↔ ∃ k, k < 10 ∧ s = nm k ∧ j ∈ need b k := by
  unfold sucs
  simp only [List.mem_map, List.mem_filter, downs_mem, decide_eq_true_eq]
  constructor
  · rintro ⟨k, ⟨h1, h2⟩, rfl⟩; exact ⟨k, h1, rfl, h2⟩
  · rintro ⟨k, h1, rfl, h2⟩; exact ⟨k, ⟨h1, h2⟩, rfl⟩
theorem sucs_nodup (j : Nat) : (sucs b j).Nodup := map_nodup (downs_nodup.filter _) fun k hk => downs_mem.mp (List.mem_filter.mp hk).1
theorem allOps_mem {o : Str × List Str} (h : o ∈ allOps b) : ∃ k, k < 10 ∧ o.1 = nm k ∧ ∀ p ∈ o.2, ∃ j ∈ need b k, p = nm j := by
  obtain ⟨k, hk, ho⟩ := List.mem_flatMap.mp h
  obtain ⟨h1, h2⟩ := opsK_mem b ho
  exact ⟨k, downs_mem.mp hk, h1, fun p hp => (above_mem b).mp (h2 p hp)⟩
theorem NM_mem {s : Str} : s ∈ NM ↔ ∃ k, k < 10 ∧ s = nm k := by
  rw [NM_map, List.mem_map]
  exact ⟨fun ⟨k, h, e⟩ => ⟨k, List.mem_range.mp h, e.symm⟩, fun ⟨k, h, e⟩ => ⟨k, List.mem_range.mpr h, e.symm⟩⟩
theorem all_names (s : Str) : s ∈ (runOps [] (allOps b)).map (·.1) ↔ s ∈ NM := by
  rw [ops_names, NM_mem]
  constructor
  · rintro (h | ⟨o, ho, h⟩)
    · cases h
    · obtain ⟨k, hk, h1, h2⟩ := allOps_mem b ho
      rcases h with rfl | h
      · exact ⟨k, hk, h1⟩
      · obtain ⟨j, hj, e⟩ := h2 s h
        exact ⟨j, by have := need_lt b hj; omega, e⟩
  · rintro ⟨k, hk, rfl⟩
    exact .inr ⟨_, List.mem_flatMap.mpr ⟨k, downs_mem.mpr hk, List.mem_cons_self⟩, .inl rfl⟩
theorem getP_all {k : Nat} (hk : k < 10) : getP (runOps [] (allOps b)) (nm k) = (nm k, ((need b k).length : Int), sucs b k) := by
  rw [getP_ops, getP_nil, npO_all b hk, suO_all b hk]; simp
end Mine

end
section
open PySem PySem.W PyProof.Rows
set_option maxRecDepth 100000
namespace Mine

section
variable {prog : Program} {w : World} {K : Frag} {A : Around} {e : Env} {fr : Vars} {σ : Sg} {s s' : Shared} (b : Nat → Nat → Bool)
local macro_rules | `(tactic| trivial) => `(tactic| first | exact SubL.n | (refine SubL.c rfl ?_; trivial) | exact Ep_local (by assumption) rfl rfl rfl | exact Ep_cell (by assumption) rfl rfl rfl | exact Ep_int | exact Ep_none)

noncomputable abbrev namesV : MV := .lst (NM.map .str)
noncomputable def needsV : MV := .lst ((List.range 10).map fun k => .lst ((need b k).map fun j : Nat => .int j))

/-- the add calls made so far -/
structure Part (ops : Ops) : Prop where
  sub : ∀ o ∈ ops, o ∈ allOps b
  few : (ops.map fun o => o.2.length).sum ≤ 80

theorem part_at {i k : Nat} (h : downs[i]? = some k) (m : Nat) : Part b ((downs.take i).flatMap (opsK b) ++ (opsK b k).take m) := by
  have hk : k ∈ downs := List.mem_of_getElem? h
  have hi : i < 10 := (List.getElem?_eq_some_iff.mp h).1
  refine ⟨fun o ho => ?_, ?_⟩
  · rcases List.mem_append.mp ho with ho | ho
    · obtain ⟨j, hj, ho⟩ := List.mem_flatMap.mp ho
      exact List.mem_flatMap.mpr ⟨j, List.mem_of_mem_take hj, ho⟩
    · exact List.mem_flatMap.mpr ⟨k, hk, List.mem_of_mem_take ho⟩
  · have h1 : ∀ l : List Nat, ((l.flatMap (opsK b)).map fun o => o.2.length).sum ≤ 8 * l.length := fun l => by
      induction l with
      | nil => exact Nat.le_refl _
      | cons k l ih =>
        rw [List.flatMap_cons, List.map_append, List.sum_append, List.length_cons, len_flat (opsK b k), opsK_flat]
        have := need_len b k
        unfold above
        rw [List.length_map]; omega
    have h2 : (((opsK b k).take m).map fun o => o.2.length).sum ≤ ((opsK b k).map fun o => o.2.length).sum := by
      conv => rhs; rw [← List.take_append_drop m (opsK b k), List.map_append, List.sum_append]
      omega
    rw [List.map_append, List.sum_append]
    have h3 := h1 (downs.take i)
    have h4 := h1 [k]
    rw [List.flatMap_cons, List.flatMap_nil, List.append_nil] at h4
    rw [List.length_take] at h3
    exact Nat.le_trans (Nat.add_le_add (Nat.le_trans h3 (Nat.mul_le_mul_left 8 (Nat.le_trans (Nat.min_le_left _ _) (Nat.le_of_lt_succ ‹i < 10›)))) (Nat.le_trans h2 h4)) (Nat.le_refl 80)

theorem Part.names {ops : Ops} (P : Part b ops) {s : Str} (h : s ∈ (runOps [] ops).map (·.1)) : s ∈ NM := by
  rw [ops_names] at h
  rcases h with h | ⟨o, ho, h⟩
  · cases h
  · obtain ⟨k, hk, h1, h2⟩ := allOps_mem b (P.sub o ho)
    rcases h with rfl | h
    · exact NM_mem.mpr ⟨k, hk, h1⟩
    · obtain ⟨j, hj, e⟩ := h2 s h
      exact NM_mem.mpr ⟨j, by have := need_lt b hj; omega, e⟩
theorem Part.fits {ops : Ops} {ns : List Nd} {ts d nd : Addr} {rl : MV} {npo nf : Int} (P : Part b ops) (S : ST σ ts d nd rl npo nf ns) (hv : view ns = runOps [] ops) : ns.length ≤ 10 ∧ ∀ p ∈ view ns, p.2.2.length ≤ 80 := by
  constructor
  · have := nodup_len (l := ns.map (·.name)) (l' := NM) S.ndn fun x hx => P.names b (by rw [← hv, view_names]; exact hx)
    rw [List.length_map] at this; exact this
  · intro p hp
    obtain ⟨x, hx, rfl⟩ := List.mem_map.mp hp
    have := getP_view S.ndn hx
    rw [hv, getP_ops, getP_nil] at this
    have e : suO ops x.name = x.su := (Prod.ext_iff.mp (Prod.ext_iff.mp this).2).2
    show x.su.length ≤ 80
    rw [← e]
    exact Nat.le_trans (suO_len ..) P.few

theorem dag_all {ns : List Nd} (hnd : (ns.map (·.name)).Nodup) (hv : view ns = runOps [] (allOps b)) : Dag ns (NM.idxOf) := by
  have hn : ∀ s, s ∈ ns.map (·.name) ↔ s ∈ NM := fun s => by rw [← view_names, hv]; exact all_names b s
  have hsu : ∀ x ∈ ns, ∃ j, j < 10 ∧ x.name = nm j ∧ x.su = sucs b j := fun x hx => by
    obtain ⟨j, hj, e⟩ := NM_mem.mp ((hn _).mp (List.mem_map.mpr ⟨x, hx, rfl⟩))
    have := getP_view hnd hx
    rw [hv, e, getP_all b hj] at this
    exact ⟨j, hj, e, ((Prod.ext_iff.mp (Prod.ext_iff.mp this).2).2).symm⟩
  refine ⟨fun x hx s hs => ?_, fun x hx s hs => ?_, ?_, fun x hx => ?_⟩
  · obtain ⟨j, hj, e1, e2⟩ := hsu x hx
    rw [e2] at hs
    obtain ⟨k, hk, rfl, h⟩ := (sucs_mem b).mp hs
    rw [e1, NM_idx j hj, NM_idx k hk]
    exact (need_lt b h).1
  · obtain ⟨j, hj, e1, e2⟩ := hsu x hx
    rw [e2] at hs
    obtain ⟨k, hk, rfl, h⟩ := (sucs_mem b).mp hs
    exact (hn _).mpr (nm_mem k hk)
  · have := nodup_len (l := ns.map (·.name)) (l' := NM) hnd fun x hx => (hn x).mp hx
    rw [List.length_map] at this
    exact Nat.le_trans this (by decide)
  · obtain ⟨j, hj, e1, e2⟩ := hsu x hx
    rw [e2]; unfold sucs
    rw [List.length_map]
    exact Nat.le_trans (List.length_filter_le ..) (by decide)

noncomputable def numS : MV → MV
  | .int j => .str (nm j.toNat)
  | _ => .none
theorem map_numS (l : List Nat) : (((l.map fun j : Nat => MV.int j).filter fun _ => true).map numS) = (l.map nm).map .str := by
  rw [List.filter_eq_self.mpr fun _ _ => rfl, List.map_map, List.map_map]; rfl

theorem names_at {σ : Sg} {k : Nat} (h : k < 10) : OS prog w K A σ namesV (.int k) (.str (nm k)) :=
  OS_list .lst (by omega) (by rw [Int.toNat_natCast, List.getElem?_map, NM_at k h]; rfl) (by decide)
theorem needs_at {σ : Sg} {k : Nat} (h : k < 10) : OS prog w K A σ (needsV b) (.int k) (.lst ((need b k).map fun j : Nat => .int j)) :=
  OS_list .lst (by omega) (by rw [Int.toNat_natCast, List.getElem?_map, List.getElem?_range h]; rfl) (by simp)
end
end Mine

end
section
open PySem PySem.W PyProof.Rows
set_option maxRecDepth 100000
namespace Mine

section
variable {prog : Program} {w : World} {K : Frag} {A : Around} {e : Env} {fr : Vars} {σ : Sg} {s s' : Shared} (b : Nat → Nat → Bool)
local macro_rules | `(tactic| trivial) => `(tactic| first | exact SubL.n | (refine SubL.c rfl ?_; trivial) | exact Ep_local (by assumption) rfl rfl rfl | exact Ep_cell (by assumption) rfl rfl rfl | exact Ep_int | exact Ep_none)

theorem two_of {al : List Str} (h : 1 < al.length) : al.take 2 = [al[0], al[1]] := match al, h with
  | _ :: _ :: _, _ => rfl
/-- one add call -/
theorem add_one {n : Nat} (KK : KF K) {ts d nd : Addr} {npo nf : Int} {ns : List Nd} {ops : Ops} {k : Str} {preds : List Str} {σ₀ : Sg} (S : ST σ ts d nd .none npo nf ns) (hv : view ns = runOps [] ops) (P : Part b ops) (sp : Sep σ₀ σ nd ns) (hp : preds.length ≤ 10)
    (hb : ∀ (name qual : Str) kV doc pm an cdv ct, ∀ vs us : List Value, vs.length = 2 → us.length = preds.length → bindArgs (fnOf name qual (fA (inCls (topS 10) 2)) (fB (inCls (topS 10) 2)) (fS (inCls (topS 10) 2)) .none kV doc pm an cdv ct) ⟨vs ++ us, []⟩ = (newTuple us >>= fun t => pure ((["self", "node"] : List Str).zip vs ++ [(("predecessors" : Str), t)]))) :
    Fn prog w K (n + 4) (.ref 131) ([.ref ts, .str k] ++ preds.map .str) σ (fun y σ' => ∃ ns', ST σ' ts d nd .none npo nf ns' ∧ view ns' = runOps [] (ops ++ [(k, preds)]) ∧ Sep σ₀ σ' nd ns') := by
  obtain ⟨h1, h2⟩ := P.fits b S hv
  refine (fn_add (n := n) KK S (by omega) (m := 80) (by omega) h2 hb).mono fun y σ' ⟨ns', S', hv', hs'⟩ => ⟨ns', S', ?_, hs' _ sp⟩
  rw [hv', hv, runOps_app]; rfl

theorem fn_lsort {n : Nat} (KK : KL K) : Fn prog w K (n + 8) (.ref 230) [namesV, needsV b] σ (fun y σ' => ∃ ts d nd ra ns, y = .ref ts ∧ SR σ' ts d nd ra 0 0 ns ((ns.filter fun x => decide (x.np = 0)).map (·.name)) ∧ view ns = runOps [] (allOps b) ∧ Old σ σ' ∧ ∀ a m, σ a = some m → Apart ra ns a) := by
  refine Fn_pos KK.ok KK.f_lsort.1 ["names", "needs"] (by decide +kernel) rfl (fun _ _ _ _ _ _ _ _ => len2 fun _ _ => rfl) ?_
  intro L q cdv A ha hh
  have he : FrE (fe (fS (topS 19)) L q 230 cdv) := frE_fe rfl
  refine EX_post fun Qp hQp _ => ?_
  refine Ex_cons (Ex_assign he rfl (Ev_make (n := n + 1) (Ep_glb KK.g_ts he rfl rfl) KK.ts_make (ha.le (by omega)) hh (EPs_nil.evs fun ts d hts hd hne => ?_)))
  have hdd : ((σ.set d (.ns [])).set ts (.inst 181 d [])) d = some (.ns []) := (Sg.set_ne _ _ hne.symm).trans (Sg.set_same ..)
  refine (fn_tsi (n := n) KK.toKF (Sg.set_same ..) hdd).mono fun y σ₁ ⟨e1, nd, hnd, S₁, hst₁⟩ => ⟨e1, ?_⟩
  have hts1 : (σ.set d (.ns [])) ts = none := (Sg.set_ne _ _ hne).trans hts
  have old0 : ∀ a m, σ a = some m → ((σ.set d (.ns [])).set ts (.inst 181 d [])) a = some m := fun a m h => set_more hts1 _ _ (set_more hd _ _ h)
  have old1 : Old σ σ₁ := fun a m h => hst₁ a m (old0 a m h) fun e => by rw [e, hd] at h; cases h
  have hnd0 : σ nd = none := by
    cases z : σ nd with
    | none => rfl
    | some m => rw [old0 _ _ z] at hnd; cases hnd
  have sp1 : Sep σ σ₁ nd [] := fun a m h _ => ⟨old1 a m h, nofun⟩
  refine Ex_cons (Ex_for he rfl (fun xs C i fr σ' => ∃ ns, xs = nums 9 (-1) 10 ∧ C = (fun _ => True) ∧ ST σ' ts d nd .none 0 0 ns ∧ view ns = runOps [] ((downs.take i).flatMap (opsK b)) ∧ Sep σ σ' nd ns ∧ fr = ([("names", namesV), ("needs", needsV b), ("sorter", .ref ts)] : Vars))
    ((SrcP_range (ys := [.int 9, .int (-1), .int (-1)]) (b := -1) hh (Ep_glb KK.g_range he rfl rfl) (EPs_cons ?_ (EPs_cons ?_ (EPs_cons ?_ EPs_nil))) (.inr ⟨rfl, by decide, by decide⟩) (by decide +kernel) (by decide +kernel)).src ⟨⟨_, ⟨[], rfl, rfl, S₁, rfl, sp1, rfl⟩, by trivial⟩, fun _ _ _ _ => ?_, ?_, ?_⟩))
  · exact (Ep_bin (Ep_call (Ep_glb KK.g_len he rfl rfl) (fun _ _ _ r => r) keepsOk_builtin (EPs_cons (by trivial) EPs_nil) (OC_len .lst (by decide))) Ep_int O2_subI).to rfl
  · exact Ep_un Ep_int O1_neg
  · exact Ep_un Ep_int O1_neg
  · exact True.intro
  · rintro i y fr σ' Qo hQo - - hy ⟨ns, -, -, S, hv, sp, rfl⟩
    obtain ⟨k, hk, hdk, rfl⟩ : ∃ k, k < 10 ∧ downs[i]? = some k ∧ y = .int (k : Int) := by
      unfold nums at hy
      rw [List.getElem?_map] at hy
      obtain ⟨j, hj, e1⟩ := Option.map_eq_some_iff.mp hy
      have h1 := (List.getElem?_eq_some_iff.mp hj).1
      rw [List.length_range] at h1
      rw [List.getElem?_range h1] at hj
      cases hj
      refine ⟨9 - i, by omega, ?_, by rw [← e1]; congr 1; omega⟩
      unfold downs
      rw [List.getElem?_reverse (by simpa using h1), List.length_range, List.getElem?_range (by omega)]
    refine Ex_cons (Ex_assignC he (cl := [("names", L + 1)]) (fc := [("names", namesV)]) ⟨rfl, rfl, by decide, .c rfl .n, (by decide : (["names"] : List Str).Nodup), fun _ => rfl, (by intro _ _ h; cases h), .c rfl .n, fun _ => rfl, fun _ p hp => by
      rcases List.mem_singleton.mp hp with rfl; rfl, rfl⟩ rfl ((SrcP_of (Ep_sub (by trivial) (by trivial) (needs_at b hk)) (It_list hh .lst (fun _ _ => .lst) True.intro)).src ⟨fun _ => true, numS, ?_, fun _ _ => True.intro, fun _ _ _ _ _ _ _ => TestsP_nil, ?_, ?_⟩))
    · rw [List.length_map]; exact Nat.le_trans (need_len b k) (by decide)
    · intro σ' L' he' h i y hy _
      rw [List.getElem?_map] at hy
      obtain ⟨j, hj, rfl⟩ := Option.map_eq_some_iff.mp hy
      have := need_lt b (List.mem_of_getElem? hj)
      exact Ep_sub (by trivial) (by trivial) (names_at (k := j) (by omega))
    rw [map_numS]
    show EX prog w K A _ [("names", namesV), ("needs", needsV b), ("sorter", .ref ts), ("k", .int k), ("above", .lst ((above b k).map .str))] σ' _ _
    have alen : (above b k).length ≤ 8 := by unfold above; rw [List.length_map]; exact need_len b k
    have ops1 : (opsK b k).take 1 = [(nm k, (above b k).take (cut (above b k)))] := rfl
    have P0 := part_at b hdk 0
    rw [List.take_zero, List.append_nil] at P0
    obtain ⟨al, hal⟩ : ∃ al, above b k = al := ⟨_, rfl⟩
    have opsE : opsK b k = (nm k, al.take (cut al)) :: (al.drop (cut al)).map fun o => (nm k, [o]) := by rw [← hal]; rfl
    rw [hal] at alen ops1 ⊢
    have test : ∀ {σ : Sg} {p1 p2 p3 p4 p6 k5}, TP prog w K A (fe (fS (topS 19)) L q 230 cdv) [("names", namesV), ("needs", needsV b), ("sorter", .ref ts), ("k", .int k), ("above", .lst (al.map .str))] σ (.Compare (.Call (.Name "len" p1) [.Name "above" p2] [] p3) [.Gt] [.Constant (.int 1) k5 p4] p6) (decide (1 < al.length)) := by
      intro σ p1 p2 p3 p4 p6 k5
      exact (Tp_cmp (Ep_call (Ep_glb KK.g_len he rfl rfl) (fun _ _ _ r => r) keepsOk_builtin (EPs_cons (by trivial) EPs_nil) (OC_len .lst (by simp; omega))) Ep_int O2_gtI).to (by simp; omega)
    refine Ex_cons (Ex_to (fun fr σ' => fr = ([("names", namesV), ("needs", needsV b), ("sorter", .ref ts), ("k", .int k), ("above", .lst (al.map .str))] : Vars) ∧ ∃ ns', ST σ' ts d nd .none 0 0 ns' ∧ view ns' = runOps [] ((downs.take i).flatMap (opsK b) ++ (opsK b k).take 1) ∧ Sep σ σ' nd ns')
      (Ex_ifp (b := decide (1 < al.length)) test (fun h => ?_) (fun h => ?_)) ?_)
    · have h1 : 1 < al.length := by simpa using h
      refine Ex_cons (Ex_expr (Ev_methA (by trivial) S.ts S.d rfl KK.m_add ha hh ((EPs_cons (Ep_sub (by trivial) (by trivial) (names_at hk)) (EPs_cons (Ep_sub (by trivial) (by trivial) (OS_list .lst (by decide) (c := .str al[0]) (by simp) (by simp; omega))) (EPs_cons (Ep_sub (by trivial) (by trivial) (OS_list .lst (by decide) (c := .str al[1]) (by simp) (by simp; omega))) EPs_nil))).evs
        ((add_one b (n := n + 3) KK.toKF (k := nm k) (preds := [al[0], al[1]]) S hv P0 sp (by simp) (fun _ _ _ _ _ _ _ _ => len22 fun _ _ _ _ => rfl)).mono ?_))))
      rintro y σ'' ⟨ns', S', hv', sp'⟩
      refine Ex_nil ⟨rfl, _, ⟨rfl, ns', S', ?_, sp'⟩, by trivial⟩
      rw [hv', ops1]
      unfold cut
      rw [if_pos h1, two_of h1]
    · have h1 : ¬ 1 < al.length := by simpa using h
      refine Ex_cons (Ex_expr (Ev_methA (by trivial) S.ts S.d rfl KK.m_add ha hh ((EPs_cons (Ep_sub (by trivial) (by trivial) (names_at hk)) EPs_nil).evs
        ((add_one b (n := n + 3) KK.toKF (k := nm k) (preds := []) S hv P0 sp (by simp) (fun _ _ _ _ _ _ _ _ => len20 fun _ _ => rfl)).mono ?_))))
      rintro y σ'' ⟨ns', S', hv', sp'⟩
      refine Ex_nil ⟨rfl, _, ⟨rfl, ns', S', ?_, sp'⟩, by trivial⟩
      rw [hv', ops1]
      unfold cut
      rw [if_neg h1]; rfl
    clear S hv sp
    rintro fr₁ σ₂ ⟨rfl, ns₁, S₁, hv₁, sp₁⟩
    refine Ex_cons (Ex_for he rfl (fun xs C j fr σ' => ∃ ns', xs = (al.drop (cut al)).map .str ∧ C = (fun _ => True) ∧ ST σ' ts d nd .none 0 0 ns' ∧ view ns' = runOps [] ((downs.take i).flatMap (opsK b) ++ (opsK b k).take (1 + j)) ∧ Sep σ σ' nd ns' ∧ fr = ([("names", namesV), ("needs", needsV b), ("sorter", .ref ts), ("k", .int k)] : Vars))
      ((SrcP_of (y := .lst ((al.drop (cut al)).map .str)) (Ep_ifexp (b := decide (1 < al.length)) test (fun h => ?_) (fun h => ?_)) (It_list hh .lst (fun _ _ => .lst) True.intro)).src ⟨⟨_, ⟨ns₁, rfl, rfl, S₁, hv₁, sp₁, rfl⟩, by trivial⟩, fun _ _ _ _ => True.intro, ?_, ?_⟩))
    · have h1 : 1 < al.length := by simpa using h
      exact Ep_slice (xs := al.map .str) (lo := some 2) (hi := none) .lst (by simp; omega) (by trivial) Ep_int True.intro (by unfold cut; rw [if_pos h1]; simp [cutL]) (.inl ⟨2, rfl, rfl⟩)
    · have h1 : ¬ 1 < al.length := by simpa using h
      have : cut al = 0 := by unfold cut; rw [if_neg h1]
      rw [this]
      exact by trivial
    · rintro j y fr σ' Qi hQi - - hy ⟨ns₂, -, -, S₂, hv₂, sp₂, rfl⟩
      obtain ⟨p, hp, rfl, -⟩ := take_str hy
      refine Ex_cons (Ex_expr (Ev_methA (by trivial) S₂.ts S₂.d rfl KK.m_add ha hh ((EPs_cons (Ep_sub (by trivial) (by trivial) (names_at hk)) (EPs_cons (Ep_local he rfl rfl rfl) EPs_nil)).evs
        ((add_one b (n := n + 3) KK.toKF (k := nm k) (preds := [p]) S₂ hv₂ (part_at b hdk (1 + j)) sp₂ (by simp) (fun _ _ _ _ _ _ _ _ => len21 fun _ _ _ => rfl)).mono ?_))))
      rintro y σ₃ ⟨ns', S', hv', sp'⟩
      refine Ex_nil (hQi _ _ ⟨_, ⟨ns', rfl, rfl, S', ?_, sp', rfl⟩, by trivial⟩).1
      rw [hv', List.append_assoc]
      have : (opsK b k).take (1 + (j + 1)) = (opsK b k).take (1 + j) ++ [(nm k, [p])] := by
        rw [← Nat.add_assoc, List.take_add_one]
        congr 1
        rw [opsE, Nat.add_comm 1 j, List.getElem?_cons_succ, List.getElem?_map, hp]; rfl
      rw [this]
    · rintro fr σ' ⟨ns₂, -, -, S₂, hv₂, sp₂, rfl⟩
      refine Ex_nil (Ex_nil (hQo _ _ ⟨_, ⟨ns₂, rfl, rfl, S₂, ?_, sp₂, rfl⟩, by trivial⟩).1)
      rw [hv₂, List.take_add_one, hdk, List.flatMap_append]
      have : (opsK b k).take (1 + ((al.drop (cut al)).map MV.str).length) = opsK b k := List.take_of_length_le (by rw [opsE]; simp; omega)
      rw [this]
      simp
  · rintro fr σ' ⟨ns, -, -, S, hv, sp, rfl⟩
    refine Ex_nil ?_
    have hv : view ns = runOps [] (allOps b) := hv
    refine Ex_cons (Ex_expr (Ev_methA (by trivial) S.ts S.d rfl KK.m_prep ha hh (EPs_nil.evs ((fn_prep KK.toKF S (dag_all b S.ndn hv)).mono ?_))))
    rintro y σ₃ ⟨rfl, ra, S₃, hra, hst⟩
    have far : ∀ a m, σ a = some m → a ≠ nd := fun a m h e => by rw [e, hnd0] at h; cases h
    have fad : ∀ a m, σ a = some m → a ≠ d := fun a m h e => by rw [e, hd] at h; cases h
    refine Ex_cons (Ex_return (Ep.ev (by trivial) (hQp _ _ _ ⟨ts, d, nd, ra, ns, rfl, S₃, hv, fun a m h => hst a m (sp a m h (far a m h)).1 (fad a m h), fun a m h => ⟨fun e => ?_, fun x hx => ((sp a m h (far a m h)).2 x hx).1⟩⟩)))
    have := (sp a m h (far a m h)).1
    rw [e, hra] at this; cases this
end
end Mine

end
section
open PySem PySem.W PyProof.Rows
namespace Mine

/-! the sorter's state by what is passed out and what is done -/
theorem getP_setP {ps : List PN} {k s : Str} {v : Int} (hk : k ∈ ps.map (·.1)) : getP (setP ps k v) s = if s = k then (s, v, (getP ps s).2.2) else getP ps s := by
  unfold setP
  rw [getP_updP (f := fun q => (q.1, v, q.2.2)) (fun _ => rfl) hk]
  split
  · rw [getP_fst]
  · rfl
theorem setP_names (ps : List PN) (k : Str) (v : Int) : (setP ps k v).map (·.1) = ps.map (·.1) := names_updP (f := fun q => (q.1, v, q.2.2)) fun _ => rfl
theorem setPs_names (v : Int) : ∀ (l : List Str) (ps : List PN), (l.foldl (fun ps k => setP ps k v) ps).map (·.1) = ps.map (·.1)
  | [], _ => rfl
  | k :: l, ps => by rw [List.foldl_cons, setPs_names v l, setP_names]
theorem getP_setPs {v : Int} {s : Str} : ∀ (l : List Str) (ps : List PN), (∀ k ∈ l, k ∈ ps.map (·.1)) → getP (l.foldl (fun ps k => setP ps k v) ps) s = if s ∈ l then (s, v, (getP ps s).2.2) else getP ps s
  | [], ps, _ => by simp
  | k :: l, ps, h => by
    rw [List.foldl_cons, getP_setPs l _ fun x hx => by rw [setP_names]; exact h x (.tail _ hx), getP_setP (h k (.head _))]
    by_cases e : s = k
    · subst e; simp
    · simp [e]
/-- a row of different followers, each one lessened -/
theorem decs_get : ∀ (S : List Str) (st : List PN × List Str), S.Nodup → (∀ s ∈ S, s ∈ st.1.map (·.1)) →
    (∀ s, getP (S.foldl dec st).1 s = if s ∈ S then (s, (getP st.1 s).2.1 - 1, (getP st.1 s).2.2) else getP st.1 s) ∧ (S.foldl dec st).2 = st.2 ++ S.filter fun s => decide ((getP st.1 s).2.1 - 1 = 0)
  | [], st, _, _ => ⟨fun s => by simp, by simp⟩
  | a :: S, st, hn, h => by
    rw [List.nodup_cons] at hn
    have e1 : ∀ s, getP (dec st a).1 s = if s = a then (s, (getP st.1 s).2.1 - 1, (getP st.1 s).2.2) else getP st.1 s := fun s => by
      show getP (updP st.1 a fun q => (q.1, q.2.1 - 1, q.2.2)) s = _
      rw [getP_updP (f := fun q => (q.1, q.2.1 - 1, q.2.2)) (fun _ => rfl) (h a (.head _))]
      split
      · rw [getP_fst]
      · rfl
    obtain ⟨h1, h2⟩ := decs_get S (dec st a) hn.2 fun s hs => by rw [names_dec]; exact h s (.tail _ hs)
    rw [List.foldl_cons]
    refine ⟨fun s => ?_, ?_⟩
    · rw [h1, e1]
      by_cases ea : s = a
      · subst ea; simp [hn.1]
      · simp [ea]
    · rw [h2, dec_snd]
      have : S.filter (fun s => decide ((getP (dec st a).1 s).2.1 - 1 = 0)) = S.filter fun s => decide ((getP st.1 s).2.1 - 1 = 0) := List.filter_congr fun s hs => by
        have : s ≠ a := fun e => hn.1 (e ▸ hs)
        rw [e1, if_neg this]
      rw [this, List.filter_cons]
      by_cases ez : (getP st.1 a).2.1 - 1 = 0
      · simp [ez]
      · simp [ez]

variable (b : Nat → Nat → Bool)
noncomputable def cnt (D : List Nat) (k : Nat) : Int := (((need b k).filter fun j => decide (j ∉ D)).length : Int)
theorem cnt_zero {D : List Nat} {k : Nat} : cnt b D k = 0 ↔ ∀ j ∈ need b k, j ∈ D := by
  unfold cnt
  rw [show ((0 : Int) = ((0 : Nat) : Int)) from rfl, Int.ofNat_inj, List.length_eq_zero_iff, List.filter_eq_nil_iff]
  simp
theorem filter_less {l : List Nat} (hl : l.Nodup) {D : List Nat} {k : Nat} (hk : k ∈ l) (hD : k ∉ D) : (l.filter fun j => decide (j ∉ D ++ [k])).length + 1 = (l.filter fun j => decide (j ∉ D)).length := by
  induction l with
  | nil => cases hk
  | cons a l ih =>
    rw [List.nodup_cons] at hl
    rcases List.mem_cons.mp hk with rfl | hk
    · rw [List.filter_cons_of_neg (by simp), List.filter_cons_of_pos (by simpa using hD)]
      have : l.filter (fun j => decide (j ∉ D ++ [k])) = l.filter fun j => decide (j ∉ D) := List.filter_congr fun j hj => by
        have : j ≠ k := fun e => hl.1 (e ▸ hj)
        simp [this]
      rw [this, List.length_cons]
    · have ne : a ≠ k := fun e => hl.1 (e ▸ hk)
      have ih := ih hl.2 hk
      by_cases ha : a ∈ D
      · rw [List.filter_cons_of_neg (by simp [ha]), List.filter_cons_of_neg (by simp [ha])]; exact ih
      · rw [List.filter_cons_of_pos (by simp [ha, ne]), List.filter_cons_of_pos (by simpa using ha), List.length_cons, List.length_cons]; omega
theorem cnt_app {D : List Nat} {k m : Nat} (h : k ∈ need b m) (hD : k ∉ D) : cnt b (D ++ [k]) m = cnt b D m - 1 := by
  unfold cnt
  have := filter_less (need_nodup b m) h hD
  omega
theorem cnt_same {D : List Nat} {k m : Nat} (h : k ∉ need b m) : cnt b (D ++ [k]) m = cnt b D m := by
  unfold cnt
  congr 2
  exact List.filter_congr fun j hj => by
    have : j ≠ k := fun e => h (e ▸ hj)
    simp [this]
noncomputable def npOf (D P : List Nat) (k : Nat) : Int := if k ∈ D then -2 else if k ∈ P then -1 else cnt b D k

/-- D done, P passed out -/
structure SI (D P : List Nat) (ps : List PN) (rd : List Str) : Prop where
  dom : ∀ s, s ∈ ps.map (·.1) ↔ s ∈ NM
  at_ : ∀ k, k < 10 → getP ps (nm k) = (nm k, npOf b D P k, sucs b k)
  rnd : rd.Nodup
  rd : ∀ s, s ∈ rd ↔ ∃ k, k < 10 ∧ s = nm k ∧ k ∉ P ∧ ∀ j ∈ need b k, j ∈ D
  sub : ∀ k ∈ D, k ∈ P
  low : ∀ k ∈ P, k < 10 ∧ ∀ j ∈ need b k, j ∈ D

theorem SI.few {D P : List Nat} {ps : List PN} {rd : List Str} (S : SI b D P ps rd) : rd.length ≤ 10 :=
  nodup_len (l' := NM) S.rnd fun s hs => by obtain ⟨k, hk, rfl, _⟩ := (S.rd s).mp hs; exact nm_mem k hk
theorem SI.nm_rd {D P : List Nat} {ps : List PN} {rd : List Str} (S : SI b D P ps rd) {k : Nat} (hk : k < 10) : nm k ∈ rd ↔ k ∉ P ∧ ∀ j ∈ need b k, j ∈ D := by
  rw [S.rd]
  constructor
  · rintro ⟨m, hm, e, h⟩; rw [nm_inj k hk m hm e]; exact h
  · exact fun h => ⟨k, hk, rfl, h⟩

theorem nodup_fst : ∀ {ps : List PN} {p q : PN}, (ps.map (·.1)).Nodup → p ∈ ps → q ∈ ps → p.1 = q.1 → p = q
  | a :: ps, p, q, h, hp, hq, e => by
    rw [List.map_cons, List.nodup_cons] at h
    rcases List.mem_cons.mp hp with e1 | hp1 <;> rcases List.mem_cons.mp hq with e2 | hq1
    · rw [e1, e2]
    · exact absurd (List.mem_map.mpr ⟨q, hq1, by rw [← e, e1]⟩) h.1
    · exact absurd (List.mem_map.mpr ⟨p, hp1, by rw [e, e2]⟩) h.1
    · exact nodup_fst h.2 hp1 hq1 e
theorem SI.start {ps : List PN} (hnd : (ps.map (·.1)).Nodup) (h : ps = runOps [] (allOps b)) : SI b [] [] ps ((ps.filter fun p => decide (p.2.1 = 0)).map (·.1)) := by
  have hself : ∀ p ∈ ps, getP ps p.1 = p := fun p hp => by
    unfold getP
    cases hf : ps.find? fun q => decide (q.1 = p.1) with
    | none => have := List.find?_eq_none.mp hf p hp; simp at this
    | some q =>
      have h1 := List.find?_some hf
      have h2 := List.mem_of_find?_eq_some hf
      have h1 : q.1 = p.1 := by simpa using h1
      exact nodup_fst hnd h2 hp h1
  refine ⟨fun s => by rw [h]; exact all_names b s, fun k hk => ?_, ?_, fun s => ?_, nofun, nofun⟩
  · rw [h, getP_all b hk]
    simp [npOf, cnt, List.filter_eq_self.mpr]
  · exact (List.filter_sublist.map _).nodup hnd
  · rw [List.mem_map]
    constructor
    · rintro ⟨p, hp, rfl⟩
      obtain ⟨hp1, hp2⟩ := List.mem_filter.mp hp
      obtain ⟨k, hk, e⟩ := NM_mem.mp ((all_names b p.1).mp (h ▸ List.mem_map.mpr ⟨p, hp1, rfl⟩))
      refine ⟨k, hk, e, nofun, ?_⟩
      have h3 := hself p hp1
      rw [e, h, getP_all b hk] at h3
      rw [← h3] at hp2
      have : (need b k).length = 0 := by simpa using hp2
      rw [List.length_eq_zero_iff.mp this]; nofun
    · rintro ⟨k, hk, rfl, -, h3⟩
      have hin : nm k ∈ ps.map (·.1) := by rw [h]; exact (all_names b _).mpr (nm_mem k hk)
      obtain ⟨p, hp, e⟩ := List.mem_map.mp hin
      refine ⟨p, List.mem_filter.mpr ⟨hp, ?_⟩, e⟩
      have h4 := hself p hp
      rw [e, h, getP_all b hk] at h4
      rw [← h4]
      have : need b k = [] := List.eq_nil_iff_forall_not_mem.mpr fun j hj => nomatch h3 j hj
      simp [this]

theorem SI.take {D P P' : List Nat} {ps : List PN} {rd : List Str} (S : SI b D P ps rd) (hP : ∀ k, k ∈ P' ↔ k ∈ P ∨ (k < 10 ∧ nm k ∈ rd)) : SI b D P' (rd.foldl (fun ps k => setP ps k (-1)) ps) [] := by
  have hin : ∀ k ∈ rd, k ∈ ps.map (·.1) := fun s hs => by obtain ⟨k, hk, rfl, _⟩ := (S.rd s).mp hs; exact (S.dom _).mpr (nm_mem k hk)
  refine ⟨fun s => by rw [setPs_names]; exact S.dom s, fun k hk => ?_, List.nodup_nil, fun s => ⟨nofun, ?_⟩, fun k h => (hP k).mpr (.inl (S.sub k h)), fun k h => ?_⟩
  · rw [getP_setPs rd ps hin, S.at_ k hk]
    unfold npOf
    by_cases h : nm k ∈ rd
    · have h2 := (S.nm_rd b hk).mp h
      have h3 : k ∉ D := fun e => h2.1 (S.sub k e)
      simp [h, h3, (hP k).mpr (.inr ⟨hk, h⟩)]
    · rw [if_neg h]
      by_cases h4 : k ∈ P
      · rw [if_pos h4, if_pos ((hP k).mpr (.inl h4))]
      · rw [if_neg h4, if_neg (fun e => ((hP k).mp e).elim h4 fun e => h e.2)]
  · rintro ⟨k, hk, rfl, h1, h2⟩
    exact absurd ((hP k).mpr (.inr ⟨hk, (S.nm_rd b hk).mpr ⟨fun e => h1 ((hP k).mpr (.inl e)), h2⟩⟩)) h1
  · rcases (hP k).mp h with h | ⟨h1, h2⟩
    · exact S.low k h
    · exact ⟨h1, ((S.nm_rd b h1).mp h2).2⟩

theorem SI.done {D P : List Nat} {ps : List PN} {rd : List Str} (S : SI b D P ps rd) {k : Nat} (hk : k ∈ P) (hD : k ∉ D) : SI b (D ++ [k]) P (done1 (ps, rd) (nm k)).1 (done1 (ps, rd) (nm k)).2 := by
  have hk10 := (S.low k hk).1
  have kin : nm k ∈ ps.map (·.1) := (S.dom _).mpr (nm_mem k hk10)
  have hsuc : ∀ m, m < 10 → (nm m ∈ sucs b k ↔ k ∈ need b m) := fun m hm => by
    rw [sucs_mem]
    constructor
    · rintro ⟨i, hi, e, h⟩; rw [nm_inj m hm i hi e]; exact h
    · exact fun h => ⟨m, hm, rfl, h⟩
  have kself : nm k ∉ sucs b k := fun h => by have := need_lt b ((hsuc k hk10).mp h); omega
  have sP : ∀ m, m < 10 → k ∈ need b m → m ∉ P := fun m _ h e => hD ((S.low m e).2 k h)
  have e0 : done1 (ps, rd) (nm k) = (sucs b k).foldl dec (setP ps (nm k) (-2), rd) := by unfold done1; rw [S.at_ k hk10]
  obtain ⟨h1, h2⟩ := decs_get (sucs b k) (setP ps (nm k) (-2), rd) (sucs_nodup b k) fun s hs => by
    obtain ⟨m, hm, rfl, _⟩ := (sucs_mem b).mp hs
    show nm m ∈ (setP ps (nm k) (-2)).map (·.1)
    rw [setP_names]; exact (S.dom _).mpr (nm_mem m hm)
  rw [e0]
  have hat : ∀ m, m < 10 → getP (setP ps (nm k) (-2)) (nm m) = (nm m, if m = k then -2 else npOf b D P m, sucs b m) := fun m hm => by
    rw [getP_setP kin]
    by_cases e : m = k
    · subst e; rw [if_pos rfl, if_pos rfl, S.at_ m hm]
    · rw [if_neg fun h => e (nm_inj m hm k hk10 h), if_neg e, S.at_ m hm]
  have hcount : ∀ m, m < 10 → k ∈ need b m → (getP (setP ps (nm k) (-2)) (nm m)).2.1 = cnt b D m := fun m hm h => by
    have h3 := sP m hm h
    rw [hat m hm, if_neg fun (e : m = k) => h3 (e ▸ hk)]
    unfold npOf
    rw [if_neg fun e => h3 (S.sub m e), if_neg h3]
  have hrd : ∀ s, s ∈ (sucs b k).filter (fun s => decide ((getP (setP ps (nm k) (-2)) s).2.1 - 1 = 0)) ↔ ∃ m, m < 10 ∧ s = nm m ∧ k ∈ need b m ∧ ∀ j ∈ need b m, j ∈ D ++ [k] := fun s => by
    rw [List.mem_filter, sucs_mem]
    constructor
    · rintro ⟨⟨m, hm, rfl, h⟩, h3⟩
      refine ⟨m, hm, rfl, h, (cnt_zero b).mp ?_⟩
      rw [cnt_app b h hD, ← hcount m hm h]; simpa using h3
    · rintro ⟨m, hm, rfl, h, h3⟩
      refine ⟨⟨m, hm, rfl, h⟩, ?_⟩
      have := (cnt_zero b).mpr h3
      rw [cnt_app b h hD, ← hcount m hm h] at this
      simpa using this
  refine ⟨fun s => by rw [names_decs]; show s ∈ (setP ps (nm k) (-2)).map (·.1) ↔ _; rw [setP_names]; exact S.dom s, fun m hm => ?_, ?_, fun s => ?_, fun m hm => ?_, fun m hm => ⟨(S.low m hm).1, fun j hj => List.mem_append_left _ ((S.low m hm).2 j hj)⟩⟩
  · rw [h1]
    by_cases h : k ∈ need b m
    · rw [if_pos ((hsuc m hm).mpr h)]
      have h3 := sP m hm h
      have h4 : m ≠ k := fun e => h3 (e ▸ hk)
      have h5 : m ∉ D := fun e => h3 (S.sub m e)
      rw [hcount m hm h, hat m hm]
      unfold npOf
      simp [h4, h5, h3, cnt_app b h hD]
    · rw [if_neg fun e => h ((hsuc m hm).mp e), hat m hm]
      unfold npOf
      by_cases e : m = k
      · subst e; simp
      · rw [if_neg e, cnt_same b h]
        by_cases e2 : m ∈ D
        · simp [e2]
        · simp [e2, e]
  · rw [h2, List.nodup_append]
    refine ⟨S.rnd, (sucs_nodup b k).filter _, fun s hs t ht e => ?_⟩
    subst e
    obtain ⟨m, hm, rfl, h, -⟩ := (hrd _).mp ht
    exact hD (((S.nm_rd b hm).mp hs).2 k h)
  · rw [h2, List.mem_append, hrd, S.rd]
    constructor
    · rintro (⟨m, hm, rfl, h3, h4⟩ | ⟨m, hm, rfl, h3, h4⟩)
      · exact ⟨m, hm, rfl, h3, fun j hj => List.mem_append_left _ (h4 j hj)⟩
      · exact ⟨m, hm, rfl, sP m hm h3, h4⟩
    · rintro ⟨m, hm, rfl, h3, h4⟩
      by_cases h : k ∈ need b m
      · exact .inr ⟨m, hm, rfl, h, h4⟩
      · refine .inl ⟨m, hm, rfl, h3, fun j hj => ?_⟩
        rcases List.mem_append.mp (h4 j hj) with h5 | h5
        · exact h5
        · rw [List.mem_singleton.mp h5] at hj; exact absurd hj h
  · rcases List.mem_append.mp hm with h | h
    · exact S.sub m h
    · rw [List.mem_singleton.mp h]; exact hk
end Mine

end
section
open PySem PySem.W PyProof.Rows
namespace Mine

/-! what both ways of going through the works come to -/
section
variable (b : Nat → Nat → Bool) (rk : Nat → Int) (of : Nat → Bool)
noncomputable def it (k : Nat) : HI := (rk k, (k : Int), nm k)
noncomputable def lessB (j k : Nat) : Bool := ltI (it rk j) (it rk k)
noncomputable def metB (D : List Nat) (k : Nat) : Bool := (need b k).all fun j => decide (j ∈ D)
noncomputable def freeL (D : List Nat) : List Nat := (List.range 10).filter fun k => decide (k ∉ D) && (!of k && metB b D k)
noncomputable def leastL (D : List Nat) : List Nat := (freeL b of D).filter fun k => (freeL b of D).all fun j => !lessB rk j k
noncomputable def offL (D : List Nat) : List Nat := (List.range 10).filter fun k => decide (k ∉ D) && metB b D k

inductive Inn : List Nat → List Nat → Prop
  | stop {D : List Nat} : freeL b of D = [] → Inn D []
  | step {D ks : List Nat} : freeL b of D ≠ [] → Inn (D ++ leastL b rk of D) ks → Inn D (leastL b rk of D ++ ks)
inductive Rounds : List Nat → List (List Nat × List Nat) → Prop
  | stop {D : List Nat} : 10 ≤ D.length → Rounds D []
  | step {D ks : List Nat} {rs : List (List Nat × List Nat)} : D.length < 10 → Inn b rk of D ks → Rounds (D ++ ks ++ offL b (D ++ ks)) rs → Rounds D ((ks, offL b (D ++ ks)) :: rs)

theorem Inn.det {D ks : List Nat} (h : Inn b rk of D ks) : ∀ {ks'}, Inn b rk of D ks' → ks = ks' := by
  induction h with
  | stop h =>
    intro ks' h'
    cases h' with
    | stop _ => rfl
    | step h2 _ => exact absurd h h2
  | step h1 h2 ih =>
    intro ks' h'
    cases h' with
    | stop h => exact absurd h h1
    | step _ h4 => rw [ih h4]
theorem Rounds.det {D : List Nat} {rs : List (List Nat × List Nat)} (h : Rounds b rk of D rs) : ∀ {rs'}, Rounds b rk of D rs' → rs = rs' := by
  induction h with
  | stop h =>
    intro rs' h'
    cases h' with
    | stop _ => rfl
    | step h2 _ _ => exact absurd h (Nat.not_le.mpr h2)
  | step h1 h2 h3 ih =>
    intro rs' h'
    cases h' with
    | stop h => exact absurd h (Nat.not_le.mpr h1)
    | step _ h4 h5 =>
      cases h2.det b rk of h4
      rw [ih h5]

theorem metB_iff {D : List Nat} {k : Nat} : metB b D k = true ↔ ∀ j ∈ need b k, j ∈ D := by unfold metB; simp
theorem free_mem {D : List Nat} {k : Nat} : k ∈ freeL b of D ↔ k < 10 ∧ k ∉ D ∧ of k = false ∧ ∀ j ∈ need b k, j ∈ D := by
  unfold freeL
  rw [List.mem_filter, List.mem_range, ← metB_iff]; simp
theorem off_mem {D : List Nat} {k : Nat} : k ∈ offL b D ↔ k < 10 ∧ k ∉ D ∧ ∀ j ∈ need b k, j ∈ D := by
  unfold offL
  rw [List.mem_filter, List.mem_range, ← metB_iff]; simp
theorem free_nodup (D : List Nat) : (freeL b of D).Nodup := List.nodup_range.filter _
theorem off_nodup (D : List Nat) : (offL b D).Nodup := List.nodup_range.filter _
theorem less_tot {j k : Nat} (h1 : lessB rk j k = false) (h2 : lessB rk k j = false) : j = k := by
  unfold lessB it at h1 h2
  rw [ltI_false] at h1 h2
  dsimp only at h1 h2
  rcases h1 with h1 | ⟨e1, h1⟩
  · rcases h2 with h2 | ⟨e2, -⟩
    · exact absurd (Int.lt_trans h1 h2) (Int.lt_irrefl _)
    · exact absurd h1 (e2 ▸ Int.lt_irrefl _)
  · rcases h2 with h2 | ⟨-, h2⟩
    · exact absurd h2 (e1 ▸ Int.lt_irrefl _)
    · exact Nat.le_antisymm (Int.ofNat_le.mp h2) (Int.ofNat_le.mp h1)
theorem less_min : ∀ (l : List Nat), l ≠ [] → ∃ k ∈ l, ∀ j ∈ l, lessB rk j k = false
  | [], h => absurd rfl h
  | [a], _ => ⟨a, .head _, fun j hj => by rw [List.mem_singleton.mp hj]; exact leI_refl _⟩
  | a :: c :: l, _ => by
    obtain ⟨k, hk, h⟩ := less_min (c :: l) (by simp)
    by_cases e : lessB rk a k = true
    · refine ⟨a, .head _, fun j hj => ?_⟩
      rcases List.mem_cons.mp hj with rfl | hj
      · exact leI_refl _
      · exact leI_trans (leI_of_lt e) (h j hj)
    · refine ⟨k, .tail _ hk, fun j hj => ?_⟩
      rcases List.mem_cons.mp hj with rfl | hj
      · simpa using e
      · exact h j hj
theorem all_eq {k : Nat} : ∀ {l : List Nat}, l.Nodup → k ∈ l → (∀ j ∈ l, j = k) → l = [k]
  | [a], _, _, h => by rw [h a (.head _)]
  | a :: c :: l, hn, _, h => by
    have e1 := h a (.head _)
    have e2 := h c (.tail _ (.head _))
    rw [List.nodup_cons] at hn
    exact absurd (by rw [e1, e2]; exact .head _) hn.1
theorem least_eq {D : List Nat} {k : Nat} (hk : k ∈ freeL b of D) (h : ∀ j ∈ freeL b of D, lessB rk j k = false) : leastL b rk of D = [k] := by
  refine all_eq ((free_nodup b of D).filter _) (List.mem_filter.mpr ⟨hk, by simpa using h⟩) fun j hj => ?_
  obtain ⟨h1, h2⟩ := List.mem_filter.mp hj
  have h2 : ∀ i ∈ freeL b of D, lessB rk i j = false := by simpa using h2
  exact less_tot rk (h j h1) (h2 k hk)
theorem least_one {D : List Nat} (h : freeL b of D ≠ []) : ∃ k, k ∈ freeL b of D ∧ leastL b rk of D = [k] := by
  obtain ⟨k, hk, h⟩ := less_min rk _ h
  exact ⟨k, hk, least_eq b rk of hk h⟩

/-- different works, all of the ten -/
structure DI (D : List Nat) : Prop where
  nd : D.Nodup
  low : ∀ k ∈ D, k < 10
theorem DI.nil : DI [] := ⟨List.nodup_nil, nofun⟩
theorem DI.app {D E : List Nat} (h : DI D) (hn : E.Nodup) (he : ∀ k ∈ E, k < 10 ∧ k ∉ D) : DI (D ++ E) :=
  ⟨List.nodup_append.mpr ⟨h.nd, hn, fun x hx y hy e => (he y hy).2 (e ▸ hx)⟩, fun k hk => (List.mem_append.mp hk).elim (h.low k) fun h => (he k h).1⟩
theorem DI.len {D : List Nat} (h : DI D) : D.length ≤ 10 := by
  have := nodup_len (l' := List.range 10) h.nd fun k hk => List.mem_range.mpr (h.low k hk)
  rwa [List.length_range] at this
theorem DI.least {D : List Nat} (h : DI D) : DI (D ++ leastL b rk of D) := h.app ((free_nodup b of D).filter _) fun k hk => by
  have := (free_mem b of).mp (List.mem_filter.mp hk).1
  exact ⟨this.1, this.2.1⟩
theorem DI.off {D : List Nat} (h : DI D) : DI (D ++ offL b D) := h.app (off_nodup b D) fun k hk => by
  have := (off_mem b).mp hk
  exact ⟨this.1, this.2.1⟩
/-- as long as some are left, one of them has all that it needs -/
theorem DI.more {D : List Nat} (_ : DI D) (hl : ∃ k, k < 10 ∧ k ∉ D) : ∃ k, k < 10 ∧ k ∉ D ∧ ∀ j ∈ need b k, j ∈ D := by
  obtain ⟨k, h1, h2⟩ := hl
  induction k using Nat.strongRecOn with
  | _ k ih =>
    by_cases h : ∀ j ∈ need b k, j ∈ D
    · exact ⟨k, h1, h2, h⟩
    · obtain ⟨j, hj⟩ := Classical.not_forall.mp h
      obtain ⟨hj, hD⟩ := Classical.not_imp.mp hj
      have := need_lt b hj
      exact ih j this.1 (by omega) hD
theorem DI.full {D : List Nat} (_ : DI D) (h : ∀ k, k < 10 → k ∈ D) : 10 ≤ D.length := by
  have := nodup_len (l := List.range 10) (l' := D) List.nodup_range fun k hk => h k (List.mem_range.mp hk)
  rwa [List.length_range] at this
theorem DI.left {D : List Nat} (h : DI D) (hl : ∃ k, k < 10 ∧ k ∉ D) : D.length < 10 := by
  obtain ⟨k, h1, h2⟩ := hl
  have := (h.app (E := [k]) (by simp) fun j hj => by rw [List.mem_singleton.mp hj]; exact ⟨h1, h2⟩).len
  rw [List.length_append] at this
  have : [k].length = 1 := rfl
  omega
theorem DI.lacks {D : List Nat} (_ : DI D) (hl : D.length < 10) : ∃ k, k < 10 ∧ k ∉ D := by
  refine Classical.byContradiction fun h => ?_
  have := nodup_len (l := List.range 10) (l' := D) List.nodup_range fun k hk => Classical.byContradiction fun hn => h ⟨k, List.mem_range.mp hk, hn⟩
  rw [List.length_range] at this
  omega
theorem DI.off_ne {D : List Nat} (h : DI D) (hf : freeL b of D = []) (hl : D.length < 10) : offL b D ≠ [] := by
  obtain ⟨k, h1, h2, h3⟩ := h.more b (h.lacks hl)
  exact fun e => by have := (off_mem b).mpr ⟨h1, h2, h3⟩; rw [e] at this; cases this
end
end Mine

end
section
open PySem PySem.W PyProof.Rows
set_option maxRecDepth 100000
namespace Mine

/-! the rounds, as they lie in the store -/
structure RD where
  r : Addr
  i : Addr
  ks : List Str
  off : List Str
noncomputable def rdAddrs (rs : List RD) : List Addr := rs.flatMap fun x => [x.r, x.i]
theorem mem_rdAddrs {rs : List RD} {a : Addr} : a ∈ rdAddrs rs ↔ ∃ x ∈ rs, a = x.r ∨ a = x.i := by
  unfold rdAddrs
  simp [List.mem_flatMap]
theorem rdAddrs_app (rs qs : List RD) : rdAddrs (rs ++ qs) = rdAddrs rs ++ rdAddrs qs := List.flatMap_append
structure RoundsAt (σ : Sg) (rd : Addr) (rs : List RD) : Prop where
  top : σ rd = some (.list (rs.map fun x => .ref x.r))
  r : ∀ x ∈ rs, σ x.r = some (.list [.ref x.i, .lst (x.off.map .str)])
  i : ∀ x ∈ rs, σ x.i = some (.list (x.ks.map .str))
  nd : (rd :: rdAddrs rs).Nodup

section
variable {σ σ' : Sg} {rd : Addr} {rs : List RD} {x : RD}
theorem RoundsAt.keep (h : RoundsAt σ rd rs) (k : ∀ a ∈ rd :: rdAddrs rs, ∀ m, σ a = some m → σ' a = some m) : RoundsAt σ' rd rs :=
  ⟨k _ (.head _) _ h.top, fun x hx => k _ (.tail _ (mem_rdAddrs.mpr ⟨x, hx, .inl rfl⟩)) _ (h.r x hx), fun x hx => k _ (.tail _ (mem_rdAddrs.mpr ⟨x, hx, .inr rfl⟩)) _ (h.i x hx), h.nd⟩
theorem RoundsAt.isL (h : RoundsAt σ rd rs) {a : Addr} (ha : a ∈ rd :: rdAddrs rs) : ∃ xs, σ a = some (.list xs) := by
  rcases List.mem_cons.mp ha with rfl | ha
  · exact ⟨_, h.top⟩
  · obtain ⟨x, hx, rfl | rfl⟩ := mem_rdAddrs.mp ha
    · exact ⟨_, h.r x hx⟩
    · exact ⟨_, h.i x hx⟩
theorem RoundsAt.last (h : RoundsAt σ rd (rs ++ [x])) : rd ≠ x.r ∧ rd ≠ x.i ∧ x.r ≠ x.i ∧ ∀ y ∈ rs, y.r ≠ x.r ∧ y.i ≠ x.r ∧ y.r ≠ x.i ∧ y.i ≠ x.i := by
  have nd := h.nd
  rw [rdAddrs_app, List.nodup_cons, List.mem_append, List.nodup_append] at nd
  obtain ⟨n1, n2, n3, n4⟩ := nd
  have e1 : rdAddrs [x] = [x.r, x.i] := rfl
  rw [e1] at n1 n3 n4
  refine ⟨fun e => n1 (.inr (by rw [e]; exact .head _)), fun e => n1 (.inr (by rw [e]; exact .tail _ (.head _))), fun e => ?_, fun y hy => ?_⟩
  · rw [e] at n3; simp at n3
  · have h1 := n4 y.r (mem_rdAddrs.mpr ⟨y, hy, .inl rfl⟩)
    have h2 := n4 y.i (mem_rdAddrs.mpr ⟨y, hy, .inr rfl⟩)
    exact ⟨h1 _ (.head _), h2 _ (.head _), h1 _ (.tail _ (.head _)), h2 _ (.tail _ (.head _))⟩
theorem RoundsAt.addK (h : RoundsAt σ rd (rs ++ [x])) (ks : List Str) : RoundsAt (σ.set x.i (.list (ks.map .str))) rd (rs ++ [{ x with ks := ks }]) := by
  obtain ⟨l1, l2, l3, l4⟩ := h.last
  refine ⟨?_, fun y hy => ?_, fun y hy => ?_, ?_⟩
  · rw [Sg.set_ne _ _ l2, h.top, List.map_append, List.map_append]; rfl
  · rcases List.mem_append.mp hy with hy | hy
    · exact (Sg.set_ne _ _ (l4 y hy).2.2.1).trans (h.r y (List.mem_append_left _ hy))
    · rw [List.mem_singleton.mp hy]; exact (Sg.set_ne _ _ l3).trans (h.r x (by simp))
  · rcases List.mem_append.mp hy with hy | hy
    · exact (Sg.set_ne _ _ (l4 y hy).2.2.2).trans (h.i y (List.mem_append_left _ hy))
    · rw [List.mem_singleton.mp hy]; exact Sg.set_same ..
  · have := h.nd; rw [rdAddrs_app] at this ⊢; exact this
theorem RoundsAt.setOff (h : RoundsAt σ rd (rs ++ [x])) (off : List Str) : RoundsAt (σ.set x.r (.list [.ref x.i, .lst (off.map .str)])) rd (rs ++ [{ x with off := off }]) := by
  obtain ⟨l1, l2, l3, l4⟩ := h.last
  refine ⟨?_, fun y hy => ?_, fun y hy => ?_, ?_⟩
  · rw [Sg.set_ne _ _ l1, h.top, List.map_append, List.map_append]; rfl
  · rcases List.mem_append.mp hy with hy | hy
    · exact (Sg.set_ne _ _ (l4 y hy).1).trans (h.r y (List.mem_append_left _ hy))
    · rw [List.mem_singleton.mp hy]; exact Sg.set_same ..
  · rcases List.mem_append.mp hy with hy | hy
    · exact (Sg.set_ne _ _ (l4 y hy).2.1).trans (h.i y (List.mem_append_left _ hy))
    · rw [List.mem_singleton.mp hy]; exact (Sg.set_ne _ _ (Ne.symm l3)).trans (h.i x (by simp))
  · have := h.nd; rw [rdAddrs_app] at this ⊢; exact this
theorem RoundsAt.new (h : RoundsAt σ rd rs) {r i : Addr} (hi : σ i = none) (hr : (σ.set i (.list [])) r = none) :
    RoundsAt (((σ.set i (.list [])).set r (.list [.ref i, .lst []])).set rd (.list ((rs.map fun x => .ref x.r) ++ [.ref r]))) rd (rs ++ [⟨r, i, [], []⟩]) := by
  have hir : r ≠ i := fun e => by rw [e, Sg.set_same] at hr; cases hr
  have ni : ∀ {a m}, σ a = some m → a ≠ i := fun h e => by rw [e, hi] at h; cases h
  have nr : ∀ {a m}, σ a = some m → a ≠ r := fun h e => by rw [← e, Sg.set_ne _ _ (ni h), h] at hr; cases hr
  have old : ∀ {a m}, σ a = some m → a ≠ rd → (((σ.set i (.list [])).set r (.list [.ref i, .lst []])).set rd (.list ((rs.map fun x => .ref x.r) ++ [.ref r]))) a = some m := fun h e => (Sg.set_ne _ _ e).trans ((Sg.set_ne _ _ (nr h)).trans ((Sg.set_ne _ _ (ni h)).trans h))
  have nd := h.nd
  have nd1 := (List.nodup_cons.mp nd).1
  have rr : r ≠ rd := (nr h.top).symm
  have ii : i ≠ rd := (ni h.top).symm
  refine ⟨?_, fun y hy => ?_, fun y hy => ?_, ?_⟩
  · rw [Sg.set_same, List.map_append]; rfl
  · rcases List.mem_append.mp hy with hy | hy
    · exact old (h.r y hy) fun e => nd1 (e ▸ mem_rdAddrs.mpr ⟨y, hy, .inl rfl⟩)
    · rw [List.mem_singleton.mp hy]; exact (Sg.set_ne _ _ rr).trans (Sg.set_same ..)
  · rcases List.mem_append.mp hy with hy | hy
    · exact old (h.i y hy) fun e => nd1 (e ▸ mem_rdAddrs.mpr ⟨y, hy, .inr rfl⟩)
    · rw [List.mem_singleton.mp hy]; exact (Sg.set_ne _ _ ii).trans ((Sg.set_ne _ _ hir.symm).trans (Sg.set_same ..))
  · rw [rdAddrs_app, List.nodup_cons, List.mem_append, List.nodup_append]
    have mem : ∀ a ∈ rdAddrs rs, a ≠ r ∧ a ≠ i := fun a ha => by
      obtain ⟨xs, e⟩ := h.isL (List.mem_cons_of_mem rd ha)
      exact ⟨nr e, ni e⟩
    refine ⟨?_, (List.nodup_cons.mp nd).2, ?_, fun a ha c hc => ?_⟩
    · rintro (q | q)
      · exact nd1 q
      · rcases List.mem_cons.mp q with q | q
        · exact rr q.symm
        · exact ii (List.mem_singleton.mp q).symm
    · show [r, i].Nodup
      simp [hir]
    · rcases List.mem_cons.mp hc with rfl | hc
      · exact (mem a ha).1
      · rw [List.mem_singleton.mp hc]; exact (mem a ha).2
end

noncomputable def nodupB : List Str → Bool
  | [] => true
  | x :: l => !l.elem x && nodupB l
theorem nodup_of : ∀ {l : List Str}, nodupB l = true → l.Nodup
  | [], _ => .nil
  | x :: l, h => by
    unfold nodupB at h
    rw [Bool.and_eq_true] at h
    exact List.nodup_cons.mpr ⟨by simpa using h.1, nodup_of h.2⟩

section
variable {prog : Program} {w : World} {K : Frag} {A : Around} {e : Env} {fr : Vars} {σ : Sg} {s s' : Shared}

/-- rounds[-1] -/
theorem Ep_last {value slice : Expr} {pos : Pos} {rd : Addr} {rs : List RD} {x : RD} (h : RoundsAt σ rd (rs ++ [x])) (hn : rs.length < 1000) (hv : EP prog w K A e fr σ value (.ref rd)) (hi : EP prog w K A e fr σ slice (.int (-1)))
    (hs : ∀ o i, subscripted slice false o i = operate [o, i] (getItem o i) := by intros; rfl) : EP prog w K A e fr σ (.Subscript value slice pos) (.ref x.r) :=
by
  have hl : (-1 + (((rs ++ [x]).map fun x => MV.ref x.r).length : Int)).toNat = rs.length := by simp; omega
  exact Ep_sub hv hi (OS_list_neg (.ref h.top) (by decide) (by simp; omega) (by rw [hl]; simp) (by simp; omega)) hs
theorem Ep_first {value slice : Expr} {pos : Pos} {rd : Addr} {rs : List RD} {x : RD} (h : RoundsAt σ rd (rs ++ [x])) (hv : EP prog w K A e fr σ value (.ref x.r)) (hi : EP prog w K A e fr σ slice (.int 0))
    (hs : ∀ o i, subscripted slice false o i = operate [o, i] (getItem o i) := by intros; rfl) : EP prog w K A e fr σ (.Subscript value slice pos) (.ref x.i) :=
  Ep_sub hv hi (OS_list (.ref (h.r x (by simp))) (by decide) rfl (by simp)) hs
/-- [[], []], the first one and the list about them to be changed -/
theorem Ev_round {p1 p2 p3 : Pos} {R : MV → Sg → Prop} (h : ∀ i r, σ i = none → (σ.set i (.list [])) r = none → R (.ref r) ((σ.set i (.list [])).set r (.list [.ref i, .lst []]))) : Ev prog w K A e fr σ (eval (.List [.List [] p1, .List [] p2] p3) e) R :=
  Ev_list (Evs_cons (Ev_list (Evs_nil ⟨by simp, fun i hi => Evs_cons (Ep.ev (Ep_list EPs_nil (by simp)) (Evs_nil ⟨by simp, fun r hr => h i r hi hr⟩))⟩)))
end
end Mine

end
section
open PySem PySem.W PyProof.Rows
set_option maxRecDepth 100000
namespace Mine

section
variable {prog : Program} {w : World} {K : Frag} {A : Around} {e : Env} {fr : Vars} {σ : Sg} {s s' : Shared} (b : Nat → Nat → Bool) (rk : Nat → Int) (of : Nat → Bool)
local macro_rules | `(tactic| trivial) => `(tactic| first | exact SubL.n | (refine SubL.c rfl ?_; trivial) | exact Ep_local (by assumption) rfl rfl rfl | exact Ep_cell (by assumption) rfl rfl rfl | exact Ep_int | exact Ep_none)
local macro_rules | `(tactic| and_intros) => `(tactic| exact CompOk.mk rfl rfl (by decide) (by trivial) (nodup_of rfl) (fun _ => rfl) (by first | (intro _ _ h; cases h; done) | (intro C c _ h; exact (Option.some.inj h) ▸ Nat.lt_succ_self _)) (by trivial) (fun _ => rfl) (by intro C; repeat (first | exact List.forall_mem_nil _ | (refine List.forall_mem_cons.mpr ⟨rfl, ?_⟩))) rfl)

noncomputable def ranksV : MV := .lst ((List.range 10).map fun k => .int (rk k))
noncomputable def offN : List Str := ((List.range 10).filter of).map nm
noncomputable abbrev intsV (D : List Nat) : MV := .lst (D.map fun k : Nat => .int k)
theorem ranks_at {σ : Sg} {k : Nat} (h : k < 10) : OS prog w K A σ (ranksV rk) (.int k) (.int (rk k)) :=
  OS_list .lst (by omega) (by rw [Int.toNat_natCast, List.getElem?_map, List.getElem?_range h]; rfl) (by simp)
theorem offN_mem {k : Nat} (h : k < 10) : nm k ∈ offN of ↔ of k = true := by
  unfold offN
  rw [List.mem_map]
  constructor
  · rintro ⟨j, hj, e⟩
    obtain ⟨h1, h2⟩ := List.mem_filter.mp hj
    rwa [← nm_inj j (List.mem_range.mp h1) k h e]
  · exact fun h2 => ⟨k, List.mem_filter.mpr ⟨List.mem_range.mpr h, h2⟩, rfl⟩
theorem offN_dec {k : Nat} (h : k < 10) : decide (nm k ∈ offN of) = of k := by
  cases e : of k with
  | true => simpa using (offN_mem of h).mpr e
  | false => simpa using fun q => by rw [(offN_mem of h).mp q] at e; cases e
theorem any_ints {D : List Nat} {k : Nat} : (D.map fun k : Nat => MV.int k).any (eqB · (.int k)) = decide (k ∈ D) := by
  induction D with
  | nil => rfl
  | cons p P ih =>
    rw [List.map_cons, List.any_cons, ih]
    by_cases h : p = k
    · subst h; simp [eqB]
    · have : (p : Int) ≠ k := by omega
      simp [eqB, Ne.symm h, this]
theorem kin_ints {D : List Nat} {k : Nat} : ∀ z ∈ D.map (fun k : Nat => MV.int k), kin z (.int k) = true := fun z hz => by
  obtain ⟨p, _, rfl⟩ := List.mem_map.mp hz; rfl
theorem ints_at {D : List Nat} {i : Nat} {y : MV} (h : (D.map fun k : Nat => MV.int k)[i]? = some y) : ∃ k, k ∈ D ∧ y = .int (k : Nat) := by
  rw [List.getElem?_map] at h
  obtain ⟨t, ht, e⟩ := Option.map_eq_some_iff.mp h
  exact ⟨t, List.mem_of_getElem? ht, e.symm⟩
noncomputable def isI (q : Nat → Bool) : MV → Bool
  | .int t => q t.toNat
  | _ => false
theorem filter_isI {q : Nat → Bool} (R : List Nat) : ((R.map fun k : Nat => MV.int k).filter (isI q)) = (R.filter q).map fun k : Nat => MV.int k := by
  rw [List.filter_map]; rfl
theorem nums_ints : nums 0 1 10 = (List.range 10).map fun k : Nat => MV.int k := by
  unfold nums
  refine List.map_congr_left fun k _ => ?_
  rw [Int.zero_add, Int.mul_one]

theorem Tp_and3 {x y z : Expr} {pos : Pos} {p q r : Bool} (h1 : TP prog w K A e fr σ x p) (h2 : TP prog w K A e fr σ y q) (h3 : TP prog w K A e fr σ z r) : TP prog w K A e fr σ (.BoolOp .And [x, y, z] pos) (p && (q && r)) :=
  Tp_bool (Tp_and h1 (fun e1 => Tp_and h2 (fun e2 => Tp_and h3 (fun e3 => by rw [e1, e2, e3]; exact Tp_and_nil) (fun e3 => by rw [e1, e2, e3]; rfl)) (fun e2 => by rw [e1, e2]; rfl)) (fun e1 => by rw [e1]; rfl))
theorem Tp_and2 {x y : Expr} {pos : Pos} {p q : Bool} (h1 : TP prog w K A e fr σ x p) (h2 : TP prog w K A e fr σ y q) : TP prog w K A e fr σ (.BoolOp .And [x, y] pos) (p && q) :=
  Tp_bool (Tp_and h1 (fun e1 => Tp_and h2 (fun e2 => by rw [e1, e2]; exact Tp_and_nil) (fun e2 => by rw [e1, e2]; rfl)) (fun e1 => by rw [e1]; rfl))
theorem eqV_nil (xs : List MV) : eqV (.lst xs) (.lst []) = some xs.isEmpty := by
  simp only [eqV]
  cases xs with
  | nil => rfl
  | cons x xs => rfl
theorem ltM_pair {j k : Nat} : ltM [.int (rk j), .int j] [.int (rk k), .int k] = some (lessB rk j k) := by
  simp only [ltM, lessB, ltI, it]
  by_cases h1 : rk j = rk k
  · by_cases h2 : (j : Int) = k
    · simp [h1, h2]
    · simp [h1, h2]
  · simp [h1, beq_eq_false_iff_ne.mpr h1]; exact decide_eq_decide.mpr .rfl
theorem metB_emp {D : List Nat} {k : Nat} : ((need b k).filter fun j => decide (j ∉ D)).isEmpty = metB b D k := by
  unfold metB
  induction need b k with
  | nil => rfl
  | cons a l ih =>
    by_cases h : a ∈ D
    · rw [List.filter_cons_of_neg (by simpa using h), ih, List.all_cons]; simp [h]
    · rw [List.filter_cons_of_pos (by simpa using h), List.all_cons]; simp [h]
theorem least_emp {l : List Nat} {k : Nat} : (l.filter fun j => lessB rk j k).isEmpty = l.all fun j => !lessB rk j k := by
  induction l with
  | nil => rfl
  | cons a l ih =>
    cases h : lessB rk a k with
    | true => rw [List.filter_cons_of_pos (by simpa using h), List.all_cons]; simp [h]
    | false => rw [List.filter_cons_of_neg (by simp [h]), ih, List.all_cons]; simp [h]
theorem map_id_ints (D : List Nat) : ((D.map fun k : Nat => MV.int k).map id) = D.map fun k : Nat => MV.int k := List.map_id _
/-- the rounds told and the rounds meant -/
noncomputable def RQ (rs : List RD) (acc : List (List Nat × List Nat)) : Prop := rs.map (fun x => (x.ks, x.off)) = acc.map (fun p => (p.1.map nm, p.2.map nm))
theorem RQ.app {rs : List RD} {acc : List (List Nat × List Nat)} (h : RQ rs acc) {x : RD} {ks off : List Nat} (h1 : x.ks = ks.map nm) (h2 : x.off = off.map nm) : RQ (rs ++ [x]) (acc ++ [(ks, off)]) := by
  unfold RQ at h ⊢
  rw [List.map_append, List.map_append, h, List.map_cons, List.map_cons, h1, h2]; rfl

theorem fn_ldue {n : Nat} (KK : KL K) {po : Addr} (hP : σ po = some (.list ((offN of).map .str))) : Fn prog w K (n + 1) (.ref 247) [namesV, needsV b, ranksV rk, .ref po] σ (fun y σ' => ∃ rd rs ns, y = .tup [.ref rd, .bool false, .lst []] ∧ RoundsAt σ' rd rs ∧ Rounds b rk of [] ns ∧ rs.map (fun x => (x.ks, x.off)) = ns.map (fun p => (p.1.map nm, p.2.map nm)) ∧ Old σ σ') := by
  refine Fn_pos KK.ok KK.f_ldue.1 ["names", "needs", "ranks", "put_off"] (by decide +kernel) rfl (fun _ _ _ _ _ _ _ _ => len4 fun _ _ _ _ => rfl) ?_
  intro L q cdv A ha hh
  have he : FrE (fe (fS (topS 22)) L q 247 cdv) := frE_fe rfl
  refine EX_post fun Qp hQp _ => ?_
  refine Ex_cons (Ex_assignT (xs := ["done", "rounds"]) he hh ⟨fun M A v Q E s h => wpAny_assign_Name h, rfl, fun M A v Q E s h => wpAny_assign_Name h, rfl, True.intro⟩ (Ev_tuple (Evs_cons (Ep.ev (Ep_list EPs_nil (by simp)) (Evs_cons (Ev_list (Evs_nil ⟨by simp, fun rd hrd => Evs_nil ⟨by simp, ?_⟩⟩)))))))
  refine ⟨_, rfl, rfl, ?_⟩
  have hrd1 : (σ.set rd (.list [])) rd = some (.list []) := Sg.set_same ..
  have hu : ∀ X : List Nat, A.units + deps (X.map fun k : Nat => MV.int k) + 1 < cLine := fun X => by
    have h1 := ha.units
    have : deps (X.map fun k : Nat => MV.int k) = 0 := by induction X with
      | nil => rfl
      | cons a X ih => rw [List.map_cons, deps, ih]; rfl
    rw [this]; omega
  have hc : A.units < cLine := by have := ha.units; omega
  refine Ex_cons (Ex_while (fun m fr σ' => ∃ D rs acc, m = 10 - D.length ∧ DI D ∧ RoundsAt σ' rd rs ∧ RQ rs acc ∧ (∀ q, Rounds b rk of D q → Rounds b rk of [] (acc ++ q)) ∧ Old σ σ' ∧ (∀ a ∈ rd :: rdAddrs rs, σ a = none) ∧ rs.length ≤ D.length ∧
      fr = ([("names", namesV), ("needs", needsV b), ("ranks", ranksV rk), ("put_off", .ref po), ("done", intsV D), ("rounds", .ref rd)] : Vars)) 10
    ⟨_, ⟨[], [], [], rfl, .nil, ⟨hrd1, nofun, nofun, by simp [rdAddrs]⟩, rfl, fun _ h => h, Old.refl.set hrd, fun a h => by simp [rdAddrs] at h; rw [h]; exact hrd, Nat.le_refl _, rfl⟩, by trivial⟩ ?_)
  rintro m fr σ₁ Qo hQo - - ⟨D, rs, acc, rfl, hD, hR, hq, hrs, hold, hfar, hlen, rfl⟩
  have hDl := hD.len
  refine ((Tp_cmp (Ep_call (Ep_glb KK.g_len he rfl rfl) (fun _ _ _ r => r) keepsOk_builtin (EPs_cons (by trivial) EPs_nil) (OC_len .lst (by simp; omega))) (Ep_call (Ep_glb KK.g_len he rfl rfl) (fun _ _ _ r => r) keepsOk_builtin (EPs_cons (by trivial) EPs_nil) (OC_len .lst (by decide))) O2_ltI).to (c := decide (D.length < 10)) (by rw [List.length_map]; exact decide_eq_decide.mpr ⟨fun h => by have h : (D.length : Int) < 10 := h; omega, fun h => by show (D.length : Int) < 10; omega⟩)).tv ?_
  split
  rotate_left
  · rename_i hlt
    have hlt : ¬ D.length < 10 := by simpa using hlt
    refine Ex_nil (Ex_cons (Ex_return (Ev_tuple (Evs_cons (Ep.ev (by trivial) (Evs_cons (Ep.ev Ep_bool (Evs_cons (Ep.ev (Ep_list EPs_nil (by simp)) (Evs_nil ⟨by simp, ?_⟩))))))))))
    exact hQp _ _ _ ⟨rd, rs, acc, rfl, hR, by simpa using hrs [] (.stop (by omega)), hq, hold⟩
  rename_i hlt
  have hlt : D.length < 10 := by simpa using hlt
  refine Ex_cons (Ex_expr (Ev_append (by trivial) hR.top (Ev_round fun i r hi hr => ⟨_, (Sg.set_ne _ _ ?_).trans ((Sg.set_ne _ _ ?_).trans hR.top), by simp; omega, ?_⟩)))
  · exact fun e => by have h := Sg.set_ne σ₁ (.list []) (fun e2 : rd = i => by have := hR.top; rw [e2, hi] at this; cases this); rw [← e, h, hR.top] at hr; cases hr
  · exact fun e => by have := hR.top; rw [e, hi] at this; cases this
  have hR2 := hR.new hi hr
  have hi0 := hold.none hi
  have hir : r ≠ i := fun e => by rw [e, Sg.set_same] at hr; cases hr
  have hr0 : σ r = none := hold.none (by rwa [Sg.set_ne _ _ hir] at hr)
  have hold2 := ((hold.set (m := .list []) hi0).set (m := .list [.ref i, .lst []]) hr0).set (m := .list ((rs.map fun x => .ref x.r) ++ [.ref r])) hrd
  generalize ((σ₁.set i (.list [])).set r (.list [.ref i, .lst []])).set rd (.list ((rs.map fun x => .ref x.r) ++ [.ref r])) = σ₂ at hR2 hold2
  clear hR
  have hfar2 : ∀ x : RD, x.r = r → x.i = i → ∀ a ∈ rd :: rdAddrs (rs ++ [x]), σ a = none := fun x h1 h2 a ha => by
    rw [rdAddrs_app, ← List.cons_append, List.mem_append] at ha
    rcases ha with ha | ha
    · exact hfar a ha
    · rcases List.mem_cons.mp ha with e | e
      · rw [e, h1]; exact hr0
      · rw [List.mem_singleton.mp e, h2]; exact hi0
  refine Ex_cons (Ex_assign he rfl (Ep.ev (Ep_list (EPs_cons Ep_int EPs_nil) (by simp)) ?_))
  refine Ex_cons (Ex_while (fun m fr σ' => ∃ E cur fv x, m = (10 - E.length) * 2 + (if fv = [] then 0 else 1) ∧ DI E ∧ E = D ++ cur ∧ (fv = [] → freeL b of E = []) ∧ (∀ k ∈ fv, k < 10) ∧ x.r = r ∧ x.i = i ∧ x.ks = cur.map nm ∧ x.off = [] ∧ RoundsAt σ' rd (rs ++ [x]) ∧ (∀ q, Inn b rk of E q → Inn b rk of D (cur ++ q)) ∧ Old σ σ' ∧
      fr = ([("names", namesV), ("needs", needsV b), ("ranks", ranksV rk), ("put_off", .ref po), ("done", intsV E), ("rounds", .ref rd), ("free", intsV fv)] : Vars)) ((10 - D.length) * 2 + 1)
    ⟨_, ⟨D, [], [0], _, rfl, hD, (List.append_nil D).symm, (fun h => nomatch h), by simp, rfl, rfl, rfl, rfl, hR2, fun _ h => h, hold2, rfl⟩, by trivial⟩ ?_)
  · rintro m fr σ₃ Qi hQi - - ⟨E, cur, fv, x, rfl, hE, hEc, hfv, hfl, xr, xi, xk, xo, hR3, hin, hold3, rfl⟩
    have hEl := hE.len
    have hfar3 := hfar2 x xr xi
    refine ((Tp_cmp (by trivial) (Ep_list EPs_nil (by simp)) (O2_neL .lst .lst (eqV_nil _) (hu _))).to (c := decide (fv ≠ [])) (by cases fv <;> simp)).tv ?_
    split
    rotate_left
    · rename_i hne
      have hne : fv = [] := by simpa using hne
      subst hne
      refine Ex_nil ?_
      have hfE := hfv rfl
      have hol : (offL b E).length ≤ 10 := by
        have := nodup_len (l' := List.range 10) (off_nodup b E) fun k hk => List.mem_range.mpr ((off_mem b).mp hk).1
        rwa [List.length_range] at this
      refine Ex_cons (Ex_assignC he (cl := _) (fc := [("done", intsV E), ("needs", needsV b)]) (by and_intros) rfl ((SrcP_range (ys := [.int 10]) (a := 0) (b := 10) (c := 1) (n := 10) hh (Ep_glb KK.g_range he rfl rfl) (EPs_cons ((Ep_call (Ep_glb KK.g_len he rfl rfl) (fun _ _ _ r => r) keepsOk_builtin (EPs_cons (by trivial) EPs_nil) (OC_len .lst (by decide))).to rfl) EPs_nil) (.inl ⟨rfl, rfl, rfl⟩) (by decide +kernel) (by decide +kernel)).src
        ⟨isI fun k => decide (k ∉ E) && metB b E k, id, by decide, fun _ _ => True.intro, ?_, ?_, ?_⟩))
      · intro σ' L' he' h j y hy
        rw [nums_ints] at hy
        obtain ⟨k, hk, rfl⟩ := ints_at hy
        have hk := List.mem_range.mp hk
        refine TestsP_one (Tp_and2 (q := metB b E k) ((Tp_cmp (by trivial) (by trivial) (O2_notInL .lst kin_ints)).to (by rw [any_ints]; exact (decide_not ..).symm)) ?_)
        exact (Tp_cmp ((Ep_comp (isI fun j => decide (j ∉ E)) id he' (cl := _) (fc := [("done", intsV E)]) (by and_intros) (SrcP_of (Ep_sub (by trivial) (by trivial) (needs_at b hk)) (It_list hh .lst (fun _ _ => .lst) True.intro)) (by rw [List.length_map]; exact Nat.le_trans (need_len b k) (by decide)) (fun _ _ => True.intro) (fun σ'' L'' he'' h' j y hy => by
          obtain ⟨m, hm, rfl⟩ := ints_at hy
          exact TestsP_one ((Tp_cmp (by trivial) (by trivial) (O2_notInL .lst kin_ints)).to (by rw [any_ints]; exact (decide_not ..).symm))) (fun σ'' L'' he'' h' j y hy _ => by trivial)).to (by rw [filter_isI, map_id_ints])) (Ep_list EPs_nil (by simp)) (O2_eqL .lst .lst (eqV_nil _) (hu _))).to (by rw [List.isEmpty_map, metB_emp])
      · intro σ' L' he' h j y hy _
        exact by trivial
      rw [nums_ints, filter_isI, map_id_ints]
      change EX prog w K A _ [("names", namesV), ("needs", needsV b), ("ranks", ranksV rk), ("put_off", .ref po), ("done", intsV E), ("rounds", .ref rd), ("free", intsV []), ("off", intsV (offL b E))] σ₃ _ _
      have hxr := hR3.r x (by simp)
      refine Ex_cons (Ex_setItem (Ep.ev ((Ep_comp (fun _ => true) numS he (cl := _) (fc := [("names", namesV)]) (by and_intros) (SrcP_of (by trivial) (It_list hh .lst (fun _ _ => .lst) True.intro)) (by rw [List.length_map]; omega) (fun _ _ => True.intro) (fun _ _ _ _ _ _ _ => TestsP_nil) (fun σ' L' he' h j y hy _ => by
        obtain ⟨m, hm, rfl⟩ := ints_at hy
        exact Ep_sub (by trivial) (by trivial) (names_at ((off_mem b).mp hm).1))).to (congrArg MV.lst (map_numS _))) ⟨_, _, Ep_last hR3 (by omega) (by trivial) (Ep_un Ep_int O1_neg), Ep_int, SetI_list hxr (by decide) (by simp) (by simp) ?_⟩))
      have hR4 := hR3.setOff ((offL b E).map nm)
      refine Ex_cons (Ex_assign he rfl (Ep.ev ((Ep_bin (by trivial) (by trivial) (O2_addL .lst .lst (by rw [List.length_map]; omega) (by rw [List.length_map]; omega))).to (congrArg MV.lst (List.map_append ..).symm)) ?_))
      have hE2 := hE.off b
      have hEf : D ++ cur = E := hEc.symm
      have hgrow : D.length < (E ++ offL b E).length := by
        have hEn : E.length = D.length + cur.length := by rw [hEc, List.length_append]
        rw [List.length_append]
        by_cases hcu : cur.length = 0
        · have := List.length_pos_iff.mpr (hE.off_ne b of hfE (by rw [hEn, hcu]; exact hlt))
          rw [hEn, hcu]; exact Nat.lt_add_of_pos_right this
        · rw [hEn, Nat.add_assoc]; exact Nat.lt_add_of_pos_right (Nat.lt_of_lt_of_le (Nat.pos_of_ne_zero hcu) (Nat.le_add_right _ _))
      refine Ex_nil (hQo _ _ ⟨_, ⟨_, ?_, E ++ offL b E, rs ++ [_], acc ++ [(cur, offL b E)], rfl, hE2, hR4, hq.app xk rfl, fun q h => ?_, hold3.set (hfar3 _ (.tail _ (mem_rdAddrs.mpr ⟨x, by simp, .inl rfl⟩))), fun a ha => hfar2 { x with off := (offL b E).map nm } xr xi a ha, ?_, rfl⟩, by trivial⟩).1
      · exact Nat.sub_lt_sub_left hlt hgrow
      · rw [List.append_assoc]
        refine hrs _ ?_
        have h1 : Inn b rk of D cur := by simpa using hin [] (.stop hfE)
        rw [← hEf] at h ⊢
        exact .step hlt h1 h
      · rw [List.length_append]
        exact Nat.lt_of_le_of_lt hlen hgrow
    rename_i hne
    have hne : fv ≠ [] := by simpa using hne
    refine Ex_cons (Ex_assign he rfl (Ep.ev (Ep_comp (isI fun k => decide (k ∉ E) && (!of k && metB b E k)) id he (cl := _) (fc := [("done", intsV E), ("names", namesV), ("put_off", .ref po), ("needs", needsV b)]) (by and_intros) (SrcP_range (ys := [.int 10]) (a := 0) (b := 10) (c := 1) (n := 10) hh (Ep_glb KK.g_range he rfl rfl) (EPs_cons ((Ep_call (Ep_glb KK.g_len he rfl rfl) (fun _ _ _ r => r) keepsOk_builtin (EPs_cons (by trivial) EPs_nil) (OC_len .lst (by decide))).to rfl) EPs_nil) (.inl ⟨rfl, rfl, rfl⟩) (by decide +kernel) (by decide +kernel)) (by decide) (fun _ _ => True.intro) ?_ ?_) ?_))
    · intro σ' L' he' h j y hy
      rw [nums_ints] at hy
      obtain ⟨k, hk, rfl⟩ := ints_at hy
      have hk := List.mem_range.mp hk
      refine TestsP_one (Tp_and3 (q := !of k) (r := metB b E k) ((Tp_cmp (by trivial) (by trivial) (O2_notInL .lst kin_ints)).to (by rw [any_ints]; exact (decide_not ..).symm)) ((Tp_cmp (Ep_sub (by trivial) (by trivial) (names_at hk)) (by trivial) (O2_notInL (.ref (h _ _ (hold3 _ _ hP))) kin_strs)).to ?_) ?_)
      · rw [any_strs, offN_dec of hk]
      · exact (Tp_cmp ((Ep_comp (isI fun j => decide (j ∉ E)) id he' (cl := _) (fc := [("done", intsV E)]) (by and_intros) (SrcP_of (Ep_sub (by trivial) (by trivial) (needs_at b hk)) (It_list hh .lst (fun _ _ => .lst) True.intro)) (by rw [List.length_map]; exact Nat.le_trans (need_len b k) (by decide)) (fun _ _ => True.intro) (fun σ'' L'' he'' h' j y hy => by
          obtain ⟨m, hm, rfl⟩ := ints_at hy
          exact TestsP_one ((Tp_cmp (by trivial) (by trivial) (O2_notInL .lst kin_ints)).to (by rw [any_ints]; exact (decide_not ..).symm))) (fun σ'' L'' he'' h' j y hy _ => by trivial)).to (by rw [filter_isI, map_id_ints])) (Ep_list EPs_nil (by simp)) (O2_eqL .lst .lst (eqV_nil _) (hu _))).to (by rw [List.isEmpty_map, metB_emp])
    · intro σ' L' he' h j y hy _
      exact by trivial
    rw [nums_ints, filter_isI, map_id_ints]
    change EX prog w K A _ [("names", namesV), ("needs", needsV b), ("ranks", ranksV rk), ("put_off", .ref po), ("done", intsV E), ("rounds", .ref rd), ("free", intsV (freeL b of E))] σ₃ _ _
    have hfE : ∀ k ∈ freeL b of E, k < 10 := fun k hk => ((free_mem b of).mp hk).1
    have hfl2 : (freeL b of E).length ≤ 10 := by
      have := nodup_len (l' := List.range 10) (free_nodup b of E) fun k hk => List.mem_range.mpr (hfE k hk)
      rwa [List.length_range] at this
    refine Ex_cons (Ex_assignC he (cl := _) (fc := [("free", intsV (freeL b of E)), ("ranks", ranksV rk)]) (by and_intros) rfl ((SrcP_of (by trivial) (It_list hh .lst (fun _ _ => .lst) True.intro)).src ⟨isI fun k => (freeL b of E).all fun j => !lessB rk j k, id, ?_, fun _ _ => True.intro, ?_, ?_, ?_⟩))
    · rw [List.length_map]; omega
    · intro σ' L' he' h j y hy
      obtain ⟨k, hk, rfl⟩ := ints_at hy
      have hk := hfE k hk
      exact TestsP_one ((Tp_cmp ((Ep_comp (isI fun j => lessB rk j k) id he' (cl := _) (fc := [("ranks", ranksV rk), ("k", .int k)]) (by and_intros) (SrcP_of (by trivial) (It_list hh .lst (fun _ _ => .lst) True.intro)) (by rw [List.length_map]; omega) (fun _ _ => True.intro) (fun σ'' L'' he'' h' i y hy => by
        obtain ⟨m, hm, rfl⟩ := ints_at hy
        have hm := hfE m hm
        exact TestsP_one (Tp_cmp (Ep_list (EPs_cons (Ep_sub (by trivial) (by trivial) (ranks_at rk hm)) (EPs_cons (by trivial) EPs_nil)) (by simp)) (Ep_list (EPs_cons (Ep_sub (by trivial) (by trivial) (ranks_at rk hk)) (EPs_cons (by trivial) EPs_nil)) (by simp)) (O2_ltL .lst .lst (ltM_pair rk) hc))) (fun σ'' L'' he'' h' i y hy _ => by trivial)).to (by rw [filter_isI, map_id_ints])) (Ep_list EPs_nil (by simp)) (O2_eqL .lst .lst (eqV_nil _) (hu _))).to (by rw [List.isEmpty_map, least_emp]; rfl))
    · intro σ' L' he' h j y hy _
      exact by trivial
    rw [filter_isI, map_id_ints]
    change EX prog w K A _ [("names", namesV), ("needs", needsV b), ("ranks", ranksV rk), ("put_off", .ref po), ("done", intsV E), ("rounds", .ref rd), ("free", intsV (freeL b of E)), ("least", intsV (leastL b rk of E))] σ₃ _ _
    have hlE : ∀ k ∈ leastL b rk of E, k < 10 := fun k hk => hfE k (List.mem_filter.mp hk).1
    have hll : (leastL b rk of E).length ≤ 10 := Nat.le_trans (List.length_filter_le ..) hfl2
    have hE2 := hE.least b rk of
    have hcl : cur.length ≤ 10 := by rw [hEc, List.length_append] at hEl; exact Nat.le_trans (Nat.le_add_left _ _) hEl
    refine Ex_cons (Ex_assign he rfl (Ep.ev ((Ep_bin (by trivial) (by trivial) (O2_addL .lst .lst (by rw [List.length_map]; omega) (by rw [List.length_map]; omega))).to (congrArg MV.lst (List.map_append ..).symm)) ?_))
    change EX prog w K A _ [("names", namesV), ("needs", needsV b), ("ranks", ranksV rk), ("put_off", .ref po), ("done", intsV (E ++ leastL b rk of E)), ("rounds", .ref rd), ("free", intsV (freeL b of E)), ("least", intsV (leastL b rk of E))] σ₃ _ _
    have hxi := hR3.i x (by simp)
    refine Ex_cons (Ex_expr (Ev_lm (Ep_first hR3 (Ep_last hR3 (by omega) (by trivial) (Ep_un Ep_int O1_neg)) Ep_int) (.ref hxi) F.slot_list_extend F.type_list_extend ((EPs_cons ((Ep_comp (fun _ => true) numS he (cl := _) (fc := [("names", namesV)]) (by and_intros) (SrcP_of (by trivial) (It_list hh .lst (fun _ _ => .lst) True.intro)) (by rw [List.length_map]; omega) (fun _ _ => True.intro) (fun _ _ _ _ _ _ _ => TestsP_nil) (fun σ' L' he' h j y hy _ => by
      obtain ⟨m, hm, rfl⟩ := ints_at hy
      exact Ep_sub (by trivial) (by trivial) (names_at (hlE m hm)))).to (congrArg MV.lst (map_numS _))) EPs_nil).evs (MC_extend hxi .lst (by rw [List.length_map, xk, List.length_map]; omega) (by rw [List.length_map, List.length_map]; omega) ?_))))
    rw [← List.map_append, xk, ← List.map_append]
    have hR4 := hR3.addK ((cur ++ leastL b rk of E).map nm)
    refine Ex_nil (hQi _ _ ⟨_, ⟨_, ?_, E ++ leastL b rk of E, cur ++ leastL b rk of E, freeL b of E, { x with ks := (cur ++ leastL b rk of E).map nm }, rfl, hE2, by rw [hEc, List.append_assoc], fun h => ?_, hfE, xr, xi, rfl, xo, hR4, fun q hq => ?_, hold3.set (hfar3 _ (.tail _ (mem_rdAddrs.mpr ⟨x, by simp, .inr rfl⟩))), rfl⟩, by trivial⟩).1
    · have := hE2.len
      rw [if_neg hne]
      by_cases hf : freeL b of E = []
      · rw [if_pos hf]
        have : leastL b rk of E = [] := by unfold leastL; rw [hf]; rfl
        rw [this, List.append_nil]; omega
      · rw [if_neg hf]
        obtain ⟨k, -, e⟩ := least_one b rk of hf
        rw [e, List.length_append] at this ⊢
        have e1 : [k].length = 1 := rfl
        omega
    · have : leastL b rk of E = [] := by unfold leastL; rw [h]; rfl
      rw [this, List.append_nil]; exact h
    · rw [List.append_assoc]
      refine hin _ ?_
      by_cases hf : freeL b of E = []
      · have : leastL b rk of E = [] := by unfold leastL; rw [hf]; rfl
        rw [this, List.append_nil] at hq
        rw [this]; exact hq
      · exact .step hf hq
end
end Mine

end
section
open PySem PySem.W PyProof.Rows
set_option maxRecDepth 100000
namespace Mine

noncomputable abbrev AL := List (Str × Addr × Addr × Addr × List Str)
noncomputable def ApartA (ra : Addr) (AD : AL) (a : Addr) : Prop := a ≠ ra ∧ ∀ p ∈ AD, p.2.2.2.1 ≠ a
noncomputable def FootA (d ra : Addr) (AD : AL) (a : Addr) : Prop := a = d ∨ a = ra ∨ ∃ p ∈ AD, a = p.2.1
theorem ApartA.apart {ra a : Addr} {ns : List Nd} (h : ApartA ra (addrs ns) a) : Apart ra ns a := ⟨h.1, fun x hx => h.2 _ (List.mem_map.mpr ⟨x, hx, rfl⟩)⟩
theorem Apart.apartA {ra a : Addr} {ns : List Nd} (h : Apart ra ns a) : ApartA ra (Mine.addrs ns) a := ⟨h.1, fun p hp => by obtain ⟨x, hx, rfl⟩ := List.mem_map.mp hp; exact h.2 x hx⟩
theorem Foot.footA {d ra a : Addr} {ns : List Nd} (h : Foot d ra ns a) : FootA d ra (Mine.addrs ns) a := by
  rcases h with h | h | ⟨x, hx, h⟩
  · exact .inl h
  · exact .inr (.inl h)
  · exact .inr (.inr ⟨_, List.mem_map.mpr ⟨x, hx, rfl⟩, h⟩)

/-- the sorter: D done, P passed out, rd waiting to be told -/
structure Sor (b : Nat → Nat → Bool) (AD : AL) (ts d nd ra : Addr) (σ : Sg) (D P : List Nat) (rd : List Str) : Prop where
  ex : ∃ ns, SR σ ts d nd ra P.length D.length ns rd ∧ SI b D P (view ns) rd ∧ addrs ns = AD
  dD : DI D
  dP : DI P

section
variable {b : Nat → Nat → Bool} {AD : AL} {ts d nd ra : Addr} {σ : Sg} {D P : List Nat} {rd : List Str}
theorem SI.nodes {ns : List Nd} (S : SI b D P (view ns) rd) (hnd : (ns.map (·.name)).Nodup) {x : Nd} (hx : x ∈ ns) : ∃ j, j < 10 ∧ x.name = nm j ∧ x.su = sucs b j := by
  obtain ⟨j, hj, e⟩ := NM_mem.mp ((S.dom _).mp (by rw [view_names]; exact List.mem_map.mpr ⟨x, hx, rfl⟩))
  have := getP_view hnd hx
  rw [e, S.at_ j hj] at this
  exact ⟨j, hj, e, ((Prod.ext_iff.mp (Prod.ext_iff.mp this).2).2).symm⟩
theorem SI.su_in {ns : List Nd} (S : SI b D P (view ns) rd) (hnd : (ns.map (·.name)).Nodup) {x : Nd} (hx : x ∈ ns) : (∀ s ∈ x.su, s ∈ ns.map (·.name)) ∧ x.su.length ≤ 100 := by
  obtain ⟨j, hj, e1, e2⟩ := S.nodes hnd hx
  rw [e2]
  refine ⟨fun s hs => ?_, ?_⟩
  · obtain ⟨k, hk, rfl, _⟩ := (sucs_mem b).mp hs
    rw [← view_names]; exact (S.dom _).mpr (nm_mem k hk)
  · unfold sucs
    rw [List.length_map]
    exact Nat.le_trans (List.length_filter_le ..) (by decide)
theorem SI.nm_in {ns : List Nd} (S : SI b D P (view ns) rd) {k : Nat} (hk : k < 10) : nm k ∈ ns.map (·.name) := by
  rw [← view_names]; exact (S.dom _).mpr (nm_mem k hk)
theorem Sor.notFoot (S : Sor b AD ts d nd ra σ D P rd) {a : Addr} {xs : List MV} (ha : σ a = some (.list xs)) (k : ApartA ra AD a) : ¬ FootA d ra AD a := by
  obtain ⟨ns, S1, I, rfl⟩ := S.ex
  rintro (e | e | ⟨p, hp, e⟩)
  · have := S1.d; rw [← e, ha] at this; cases this
  · exact k.1 e
  · obtain ⟨x, hx, rfl⟩ := List.mem_map.mp hp
    have h1 := S1.ia x hx
    have e : a = x.ia := e
    rw [← e, ha] at h1; cases h1
theorem Sor.setOwn (S : Sor b AD ts d nd ra σ D P rd) {a : Addr} {xs : List MV} {m : MObj} (ha : σ a = some (.list xs)) (k : ApartA ra AD a) : Sor b AD ts d nd ra (σ.set a m) D P rd := by
  obtain ⟨ns, S1, I, rfl⟩ := S.ex
  exact ⟨⟨ns, S1.setOwn ha k.apart, I, rfl⟩, S.dD, S.dP⟩
theorem Sor.old {σ' : Sg} (S : Sor b AD ts d nd ra σ D P rd) (h : Old σ σ') : Sor b AD ts d nd ra σ' D P rd := by
  obtain ⟨ns, S1, I, e⟩ := S.ex
  exact ⟨⟨ns, S1.old h, I, e⟩, S.dD, S.dP⟩
/-- a new list is no place of the sorter's -/
theorem Sor.fresh (S : Sor b AD ts d nd ra σ D P rd) {a : Addr} (ha : σ a = none) : ApartA ra AD a := by
  obtain ⟨ns, S1, I, rfl⟩ := S.ex
  exact Apart.apartA ⟨fun e => (by have := S1.hra; rw [← e, ha] at this; cases this), fun x hx e => (by have := S1.su x hx; rw [e, ha] at this; cases this)⟩
end

section
variable {prog : Program} {w : World} {K : Frag} {A : Around} {e : Env} {fr : Vars} {σ : Sg} {s s' : Shared} {b : Nat → Nat → Bool} {AD : AL} {ts d nd ra : Addr} {D P : List Nat} {rd : List Str}

theorem sor_act {n : Nat} (KK : KF K) (S : Sor b AD ts d nd ra σ D P rd) : Fn prog w K (n + 1) (.ref 150) [.ref ts] σ (fun y σ' => y = .bool (decide (D.length < P.length) || !rd.isEmpty) ∧ σ' = σ) := by
  obtain ⟨ns, S1, I, e⟩ := S.ex
  refine (fn_act (n := n) KK S1 (by have := I.few; omega)).mono fun y σ' ⟨e1, e2⟩ => ⟨e1.trans (congrArg MV.bool ?_), e2⟩
  congr 1
  exact decide_eq_decide.mpr Int.ofNat_lt

theorem sor_done {n : Nat} (KK : KF K) (S : Sor b AD ts d nd ra σ D P rd) {k : Nat} (hk : k ∈ P) (hD : k ∉ D) : Fn prog w K (n + 1) (.ref 164) [.ref ts, .str (nm k)] σ (fun y σ' => ∃ rd', Sor b AD ts d nd ra σ' (D ++ [k]) P rd' ∧ Stay (FootA d ra AD) σ σ') := by
  obtain ⟨ns, S1, I, e⟩ := S.ex
  have hk10 := S.dP.low k hk
  have I2 := I.done b hk hD
  refine (fn_done (n := n) (ks := [nm k]) KK S1 (by simp) (by have := I.few; omega) (fun _ _ _ _ _ _ _ _ => len11 fun _ _ => rfl) (fun i s h => ?_) (fun x hx => (I.su_in S1.ndn hx).1) (fun x hx => (I.su_in S1.ndn hx).2)).mono ?_
  · match i, h with
    | 0, h =>
      cases h
      refine ⟨I.nm_in hk10, ?_⟩
      show (getP (view ns) (nm k)).2.1 = -1
      rw [I.at_ k hk10]
      unfold npOf
      rw [if_neg hD, if_pos hk]
  · rintro y σ' ⟨-, ns', S', hv, ha, hst⟩
    refine ⟨_, ⟨⟨ns', ?_, hv ▸ I2, ha.trans e⟩, S.dD.app (by simp) fun j hj => ?_, S.dP⟩, hst.mono fun a h => e ▸ h.footA⟩
    · have : ((D ++ [k]).length : Int) = (D.length : Int) + ([nm k].length : Int) := by rw [List.length_append]; simp
      rw [this]; exact S'
    · rw [List.mem_singleton.mp hj]; exact ⟨hk10, hD⟩

/-- a row of works done -/
theorem SI.dones {ps : List PN} (I : SI b D P ps rd) : ∀ (E : List Nat), E.Nodup → (∀ k ∈ E, k ∈ P ∧ k ∉ D) → SI b (D ++ E) P (doneP (ps, rd) (E.map nm)).1 (doneP (ps, rd) (E.map nm)).2 := by
  intro E
  induction E generalizing D ps rd with
  | nil => intro _ _; rw [List.append_nil]; exact I
  | cons k E ih =>
    intro hn h
    rw [List.nodup_cons] at hn
    have I2 := I.done b (h k (.head _)).1 (h k (.head _)).2
    have := ih I2 hn.2 fun j hj => ⟨(h j (.tail _ hj)).1, fun hm => by
      rcases List.mem_append.mp hm with hm | hm
      · exact (h j (.tail _ hj)).2 hm
      · rw [List.mem_singleton.mp hm] at hj; exact hn.1 hj⟩
    rw [List.append_assoc] at this
    exact this

theorem sor_pod {n : Nat} (KK : KL K) (S : Sor b AD ts d nd ra σ D P rd) {E : List Nat} (hn : E.Nodup) (hE : ∀ k ∈ E, k ∈ P ∧ k ∉ D) : Fn prog w K (n + 3) (.ref 237) [.ref ts, .lst ((E.map nm).map .str)] σ (fun y σ' => ∃ rd', Sor b AD ts d nd ra σ' (D ++ E) P rd' ∧ Stay (FootA d ra AD) σ σ') := by
  obtain ⟨ns, S1, I, e⟩ := S.ex
  have hDE : DI (D ++ E) := S.dD.app hn fun k hk => ⟨S.dP.low k (hE k hk).1, (hE k hk).2⟩
  have pre : ∀ i, SI b (D ++ E.take i) P (doneP (view ns, rd) ((E.map nm).take i)).1 (doneP (view ns, rd) ((E.map nm).take i)).2 := fun i => by
    rw [← List.map_take]
    exact I.dones _ ((List.take_sublist i E).nodup hn) fun k hk => hE k (List.mem_of_mem_take hk)
  refine (fn_lpod (n := n) KK S1 ⟨fun i s h => ?_, fun i => Nat.le_trans (pre i).few (by decide), ?_, fun x hx => (I.su_in S1.ndn hx).1, fun x hx => (I.su_in S1.ndn hx).2⟩).mono ?_
  · rw [List.getElem?_map] at h
    obtain ⟨k, hk, rfl⟩ := Option.map_eq_some_iff.mp h
    have hkE := List.mem_of_getElem? hk
    have hk10 := S.dP.low k (hE k hkE).1
    refine ⟨I.nm_in hk10, ?_⟩
    rw [(pre i).at_ k hk10]
    unfold npOf
    rw [if_neg, if_pos (hE k hkE).1]
    intro hm
    rcases List.mem_append.mp hm with hm | hm
    · exact (hE k hkE).2 hm
    · have hd : E = E.take i ++ E.drop i := (List.take_append_drop i E).symm
      have hdr : k ∈ E.drop i := by
        refine List.mem_of_getElem? (i := 0) ?_
        rw [List.getElem?_drop]; exact hk
      rw [hd, List.nodup_append] at hn
      exact hn.2.2 k hm k hdr rfl
  · rw [List.length_map]
    have := hDE.len
    rw [List.length_append] at this; omega
  · rintro y σ' ⟨-, ns', S', hv, ha, hst⟩
    have I2 := I.dones E hn hE
    refine ⟨_, ⟨⟨ns', ?_, hv ▸ I2, ha.trans e⟩, hDE, S.dP⟩, hst.mono fun a h => e ▸ h.footA⟩
    have : ((D ++ E).length : Int) = (D.length : Int) + ((E.map nm).length : Int) := by rw [List.length_append, List.length_map]; omega
    rw [this]; exact S'

theorem sor_ready {n : Nat} (KK : KL K) (S : Sor b AD ts d nd ra σ D P rd) {po wa : Addr} {wr : MV} {Q W : List Str} (hP : σ po = some (.list (Q.map .str))) (hW : σ wa = some (.list (W.map .str))) (hWn : W.length ≤ 100) (kp : ApartA ra AD po) (kw : ApartA ra AD wa) :
    Fn prog w K (n + 8) (.ref 225) [.ref ts, .ref po, .ref wa, wr] σ (fun y σ' => y = .lst ((rd.filter fun t => decide (t ∉ Q)).map .str) ∧ ∃ P', Sor b AD ts d nd ra σ' D P' [] ∧ (∀ k, k ∈ P' ↔ k ∈ P ∨ (k < 10 ∧ nm k ∈ rd)) ∧
      σ' wa = some (.list ((W ++ rd.filter fun t => decide (t ∈ Q)).map .str)) ∧ Stay (fun a => FootA d ra AD a ∨ a = wa) σ σ') := by
  obtain ⟨ns, S1, I, rfl⟩ := S.ex
  have hrd : ∀ s ∈ rd, ∃ k, k < 10 ∧ s = nm k ∧ k ∉ P := fun s hs => by obtain ⟨k, h1, h2, h3, _⟩ := (I.rd s).mp hs; exact ⟨k, h1, h2, h3⟩
  refine (fn_law_ready (n := n) KK S1 (by have := I.few; omega) (fun s hs => by obtain ⟨k, hk, rfl, _⟩ := hrd s hs; exact I.nm_in hk) hP hW hWn kp.apart kw.apart).mono ?_
  rintro y σ' ⟨e1, ns', S', hv, ha, hw, hst⟩
  have hP' : ∀ k, k ∈ P ++ rd.map NM.idxOf ↔ k ∈ P ∨ (k < 10 ∧ nm k ∈ rd) := fun k => by
    rw [List.mem_append, List.mem_map]
    refine or_congr_right ⟨?_, fun ⟨h1, h2⟩ => ⟨nm k, h2, NM_idx k h1⟩⟩
    rintro ⟨s, hs, rfl⟩
    obtain ⟨k, hk, rfl, _⟩ := hrd s hs
    rw [NM_idx k hk]; exact ⟨hk, hs⟩
  refine ⟨e1, P ++ rd.map NM.idxOf, ⟨⟨ns', ?_, hv ▸ I.take b hP', ha⟩, S.dD, S.dP.app ?_ fun k hk => ?_⟩, hP', hw, hst.mono fun a h => h.imp Foot.footA id⟩
  · have : ((P ++ rd.map NM.idxOf).length : Int) = (P.length : Int) + (rd.length : Int) := by rw [List.length_append, List.length_map]; omega
    rw [this]; exact S'
  · rw [List.Nodup, List.pairwise_map]
    refine List.Pairwise.imp_of_mem (fun {x y} hx hy hne e => hne ?_) I.rnd
    obtain ⟨i, hi, rfl, _⟩ := hrd x hx
    obtain ⟨j, hj, rfl, _⟩ := hrd y hy
    rw [NM_idx i hi, NM_idx j hj] at e; rw [e]
  · obtain ⟨s, hs, rfl⟩ := List.mem_map.mp hk
    obtain ⟨j, hj, rfl, hp⟩ := hrd s hs
    rw [NM_idx j hj]; exact ⟨hj, hp⟩
end
end Mine

end
section
open PySem PySem.W PyProof.Rows
namespace Mine

/-! the heap by the works that it holds -/
structure HeapIs (rk : Nat → Int) (S : Nat → Prop) (X : List HI) : Prop where
  heap : Heaped X
  nd : (X.map (·.2.1)).Nodup
  mem : ∀ x, x ∈ X ↔ ∃ k, S k ∧ x = it rk k
  low : ∀ k, S k → k < 10

section
variable {rk : Nat → Int} {S T : Nat → Prop} {X Y : List HI} {k m : Nat}
theorem it_inj {j k : Nat} (h : it rk j = it rk k) : j = k := by
  have : ((j : Int)) = k := congrArg (fun x : HI => x.2.1) h
  omega
theorem HeapIs.nil : HeapIs rk (fun _ => False) [] := ⟨fun i _ h => absurd h (Nat.not_lt_zero _), List.nodup_nil, fun x => ⟨nofun, fun ⟨_, h, _⟩ => h.elim⟩, fun _ h => h.elim⟩
theorem HeapIs.congr (h : HeapIs rk S X) (e : ∀ k, S k ↔ T k) : HeapIs rk T X :=
  ⟨h.heap, h.nd, fun x => (h.mem x).trans ⟨fun ⟨k, a, b⟩ => ⟨k, (e k).mp a, b⟩, fun ⟨k, a, b⟩ => ⟨k, (e k).mpr a, b⟩⟩, fun k hk => h.low k ((e k).mpr hk)⟩
theorem HeapIs.few (h : HeapIs rk S X) : X.length ≤ 10 := by
  have := nodup_len (l := X.map (·.2.1)) (l' := (List.range 10).map fun k : Nat => (k : Int)) h.nd fun i hi => by
    obtain ⟨x, hx, rfl⟩ := List.mem_map.mp hi
    obtain ⟨k, hk, rfl⟩ := (h.mem x).mp hx
    exact List.mem_map.mpr ⟨k, List.mem_range.mpr (h.low k hk), rfl⟩
  rw [List.length_map, List.length_map, List.length_range] at this
  exact this
theorem HeapIs.nd_new (h : HeapIs rk S X) (hk : ¬ S k) : ((it rk k :: X).map (·.2.1)).Nodup := by
  rw [List.map_cons, List.nodup_cons]
  refine ⟨fun hm => ?_, h.nd⟩
  obtain ⟨x, hx, e⟩ := List.mem_map.mp hm
  obtain ⟨j, hj, rfl⟩ := (h.mem x).mp hx
  have e : (j : Int) = k := e
  have : j = k := by omega
  exact hk (this ▸ hj)
theorem HeapIs.min (h : HeapIs rk S X) (hX : 0 < X.length) : ∃ k, S k ∧ at' X 0 = it rk k ∧ ∀ j, S j → lessB rk j k = false := by
  obtain ⟨k, hk, e⟩ := (h.mem _).mp (at_mem hX)
  refine ⟨k, hk, e, fun j hj => ?_⟩
  have := heap_min' h.heap ((h.mem _).mpr ⟨j, hj, rfl⟩)
  rw [e] at this
  exact this
theorem HeapIs.pos (h : HeapIs rk S X) (hk : S k) : 0 < X.length := List.length_pos_of_mem ((h.mem _).mpr ⟨k, hk, rfl⟩)

theorem of_perm {Z : List HI} (hp : (it rk k :: Y).Perm Z) (hn : (Z.map (·.2.1)).Nodup) (hz : ∀ x, x ∈ Z ↔ ∃ j, T j ∧ x = it rk j) : (Y.map (·.2.1)).Nodup ∧ ∀ x, x ∈ Y ↔ ∃ j, (T j ∧ j ≠ k) ∧ x = it rk j := by
  have hn2 : ((it rk k :: Y).map (·.2.1)).Nodup := ((hp.map (·.2.1)).nodup_iff).mpr hn
  rw [List.map_cons, List.nodup_cons] at hn2
  refine ⟨hn2.2, fun x => ?_⟩
  have hm := (hp.mem_iff (a := x)).trans (hz x)
  rw [List.mem_cons] at hm
  constructor
  · intro hx
    obtain ⟨j, hj, rfl⟩ := hm.mp (.inr hx)
    refine ⟨j, ⟨hj, fun e => ?_⟩, rfl⟩
    subst e
    exact hn2.1 (List.mem_map.mpr ⟨_, hx, rfl⟩)
  · rintro ⟨j, ⟨hj, hne⟩, rfl⟩
    exact (hm.mpr ⟨j, hj, rfl⟩).resolve_left fun e => hne (it_inj e)

theorem HeapIs.push (h : HeapIs rk S X) (hk : ¬ S k) (hl : k < 10) : ((X ++ [it rk k]).map (·.2.1)).Nodup ∧ HeapIs rk (fun j => S j ∨ j = k) (sd (X ++ [it rk k]) X.length) := by
  have hn := h.nd_new hk
  refine ⟨(((List.perm_append_singleton _ X).map (·.2.1)).nodup_iff).mpr hn, push_heap h.heap _, (((push_perm (X := X) (it rk k)).map (·.2.1)).nodup_iff).mpr hn, fun x => ?_, fun j hj => hj.elim (h.low j) fun e => e ▸ hl⟩
  rw [(push_perm (X := X) (it rk k)).mem_iff, List.mem_cons, h.mem]
  constructor
  · rintro (rfl | ⟨j, hj, rfl⟩)
    · exact ⟨k, .inr rfl, rfl⟩
    · exact ⟨j, .inl hj, rfl⟩
  · rintro ⟨j, hj | rfl, rfl⟩
    · exact .inr ⟨j, hj, rfl⟩
    · exact .inl rfl
theorem HeapIs.repl (h : HeapIs rk S X) (hX : 0 < X.length) (hk : at' X 0 = it rk k) (hm : ¬ S m) (hl : m < 10) :
    ((X.set 0 (it rk m)).map (·.2.1)).Nodup ∧ HeapIs rk (fun j => (S j ∨ j = m) ∧ j ≠ k) (sd (su (X.set 0 (it rk m)) 0).1 (su (X.set 0 (it rk m)) 0).2) := by
  have hn := h.nd_new hm
  have p1 : (it rk k :: X.set 0 (it rk m)).Perm (it rk m :: X) := hk ▸ set_perm hX (it rk m)
  have p2 : (it rk k :: sd (su (X.set 0 (it rk m)) 0).1 (su (X.set 0 (it rk m)) 0).2).Perm (it rk m :: X) := hk ▸ repl_perm (it rk m) hX
  have hz : ∀ x, x ∈ it rk m :: X ↔ ∃ j, (S j ∨ j = m) ∧ x = it rk j := fun x => by
    rw [List.mem_cons, h.mem]
    constructor
    · rintro (rfl | ⟨j, hj, rfl⟩)
      · exact ⟨m, .inr rfl, rfl⟩
      · exact ⟨j, .inl hj, rfl⟩
    · rintro ⟨j, hj | rfl, rfl⟩
      · exact .inr ⟨j, hj, rfl⟩
      · exact .inl rfl
  obtain ⟨h1, _⟩ := of_perm (T := fun j => S j ∨ j = m) p1 hn hz
  obtain ⟨h3, h4⟩ := of_perm (T := fun j => S j ∨ j = m) p2 hn hz
  exact ⟨h1, repl_heap h.heap _ hX, h3, h4, fun j hj => hj.1.elim (h.low j) fun e => e ▸ hl⟩
theorem HeapIs.pop {x : HI} (h : HeapIs rk S (X ++ [x])) (hk : at' (X ++ [x]) 0 = it rk k) :
    HeapIs rk (fun j => S j ∧ j ≠ k) (if 0 < X.length then sd (su (X.set 0 x) 0).1 (su (X.set 0 x) 0).2 else []) := by
  obtain ⟨h3, h4⟩ := of_perm (T := S) (hk ▸ pop_perm) h.nd h.mem
  exact ⟨pop_heap h.heap, h3, h4, fun j hj => h.low j hj.1⟩
end

/-! sorted names -/
theorem sorted_names {E : List Nat} {W : List Str} (hE : E.Pairwise (· < ·)) (hl : ∀ k ∈ E, k < 10) (hW : W.Nodup) (hm : ∀ s, s ∈ W ↔ ∃ k ∈ E, s = nm k) : W.Perm (E.map nm) := by
  refine (List.perm_ext_iff_of_nodup hW (map_nodup (hE.imp fun h e => by omega) hl)).mpr fun s => ?_
  rw [hm, List.mem_map]
  exact ⟨fun ⟨k, h, e⟩ => ⟨k, h, e.symm⟩, fun ⟨k, h, e⟩ => ⟨k, h, e.symm⟩⟩

theorem nm_lt : ∀ i, i < 10 → ∀ j, j < 10 → PySem.Spec.ltCps (nm j).cps.toList (nm i).cps.toList = decide (j < i) := by decide +kernel
theorem rising_pw : ∀ (l : List Str) (p : Str), p ∈ NM → (∀ s ∈ l, s ∈ NM) → risingS p l = true → (p :: l).Pairwise fun s t => NM.idxOf s ≤ NM.idxOf t
  | [], p, _, _, _ => List.pairwise_cons.mpr ⟨nofun, .nil⟩
  | x :: l, p, hp, hl, h => by
    unfold risingS at h
    rw [Bool.and_eq_true] at h
    have hx := hl x (.head _)
    have ih := rising_pw l x hx (fun s hs => hl s (.tail _ hs)) h.2
    have h1 : NM.idxOf p ≤ NM.idxOf x := by
      obtain ⟨i, hi, rfl⟩ := NM_mem.mp hp
      obtain ⟨j, hj, rfl⟩ := NM_mem.mp hx
      rw [nm_lt i hi j hj] at h
      rw [NM_idx i hi, NM_idx j hj]
      have := h.1
      simp at this
      exact this
    refine List.pairwise_cons.mpr ⟨fun s hs => ?_, ih⟩
    rcases List.mem_cons.mp hs with rfl | hs
    · exact h1
    · exact Nat.le_trans h1 ((List.pairwise_cons.mp ih).1 s hs)
theorem sorted_law {E : List Nat} (hE : E.Pairwise (· < ·)) (hl : ∀ k ∈ E, k < 10) {W : List Str} (hW : W.Perm (E.map nm)) : ∀ ts', ts'.Perm W → sortedS ts' = true → ts' = E.map nm := fun ts' hp hs => by
  have hm : ∀ s ∈ ts', s ∈ NM := fun s h => by
    obtain ⟨k, hk, rfl⟩ := List.mem_map.mp ((hp.trans hW).mem_iff.mp h)
    exact nm_mem k (hl k hk)
  refine List.Perm.eq_of_pairwise (le := fun s t => NM.idxOf s ≤ NM.idxOf t) (fun s t h1 h2 h3 h4 => ?_) ?_ ?_ (hp.trans hW)
  · obtain ⟨i, hi, rfl⟩ := NM_mem.mp (hm s h1)
    obtain ⟨j, hj, rfl⟩ := List.mem_map.mp h2
    have hj := hl j hj
    rw [NM_idx i hi, NM_idx j hj] at h3 h4
    rw [Nat.le_antisymm h3 h4]
  · cases ts' with
    | nil => exact .nil
    | cons x l => exact rising_pw l x (hm x (.head _)) (fun s h => hm s (.tail _ h)) hs
  · rw [List.pairwise_map]
    refine List.Pairwise.imp_of_mem (fun {i j} hi hj h => ?_) hE
    rw [NM_idx i (hl i hi), NM_idx j (hl j hj)]
    omega
theorem off_sorted (b : Nat → Nat → Bool) (D : List Nat) : (offL b D).Pairwise (· < ·) := List.Pairwise.filter _ List.pairwise_lt_range
end Mine

end
section
open PySem PySem.W PyProof.Rows
set_option maxRecDepth 100000
namespace Mine

section
variable {prog : Program} {w : World} {K : Frag} {A : Around} {e : Env} {fr : Vars} {σ : Sg} {s s' : Shared}

theorem Tv_not {x : Expr} {pos : Pos} {R : Bool → Sg → Prop} (h : Tv prog w K A e fr σ (isTrue x e (eval x e)) fun b σ' => R (!b) σ') : Tv prog w K A e fr σ (isTrue (.UnaryOp .Not x pos) e (eval (.UnaryOp .Not x pos) e)) R :=
  fun s r => wpAny_isTrue_Not (h s r)
theorem Tv_val {x : Expr} {R : Bool → Sg → Prop} (h : Ev prog w K A e fr σ (eval x e) fun y σ' => ∃ c, OT prog w K A σ' y c ∧ R c σ') (hx : isTrue x e (eval x e) = (do let v ← eval x e; standAt x.pos; holding [v] (truthy v)) := by rfl) : Tv prog w K A e fr σ (isTrue x e (eval x e)) R := fun s r => by
  rw [hx]
  refine wpAny_bind (wpAny_mono (h s r) (fun v s₁ ⟨y, σ', r1, t1, rv, c, ho, hR⟩ => wpAny_bind (wpAny_standAt (wpAny_holding ?_))) fun _ _ f => f)
  exact wpAny_mono (ho s₁ v r1.toRep rv) (fun b' s' ⟨t, hb⟩ => ⟨σ', r1.ext t, t1.trans t.step, hb ▸ hR⟩) fun _ _ f => f
theorem Ev_ifexp {test body orelse : Expr} {pos : Pos} {c : Bool} {R : MV → Sg → Prop} (ht : TP prog w K A e fr σ test c) (h1 : c = true → Ev prog w K A e fr σ (eval body e) R) (h2 : c = false → Ev prog w K A e fr σ (eval orelse e) R) : Ev prog w K A e fr σ (eval (.IfExp test body orelse pos) e) R := fun s r => by
  refine wpAny_IfExp (wpAny_mono (ht s r) (fun b' s₁ hzz => ?_) fun _ _ f => f)
  obtain ⟨p, e1⟩ := hzz
  subst e1
  cases b' with
  | true => exact wpAny_mono (h1 rfl s₁ (r.ext p)) (fun _ _ ⟨y, σ', a, t, b⟩ => ⟨y, σ', a, p.step.trans t, b⟩) fun _ _ f => f
  | false => exact wpAny_mono (h2 rfl s₁ (r.ext p)) (fun _ _ ⟨y, σ', a, t, b⟩ => ⟨y, σ', a, p.step.trans t, b⟩) fun _ _ f => f
end

/-! the run's store -/
noncomputable def ownL (hp wr po wa rd : Addr) (rs : List RD) : List Addr := hp :: wr :: po :: wa :: rd :: rdAddrs rs
structure Run (b : Nat → Nat → Bool) (of : Nat → Bool) (AD : AL) (ts d nd ra hp wr po rd : Addr) (σ : Sg) (D P : List Nat) (ready : List Str) (X : List HI) (W : List Nat) (wa : Addr) (rs : List RD) : Prop where
  sor : Sor b AD ts d nd ra σ D P ready
  hhp : σ hp = some (.list (X.map iv))
  hwr : σ wr = some (.list [])
  hpo : σ po = some (.list ((offN of).map .str))
  hwa : σ wa = some (.list ((W.map nm).map .str))
  rds : RoundsAt σ rd rs
  nd : (ownL hp wr po wa rd rs).Nodup
  ap : ∀ a ∈ ownL hp wr po wa rd rs, ApartA ra AD a

section
variable {b : Nat → Nat → Bool} {of : Nat → Bool} {AD : AL} {ts d nd ra hp wr po rd wa : Addr} {σ σ' : Sg} {D P D' P' : List Nat} {ready ready' : List Str} {X : List HI} {W : List Nat} {rs : List RD}
theorem Run.isL (R : Run b of AD ts d nd ra hp wr po rd σ D P ready X W wa rs) {a : Addr} (ha : a ∈ ownL hp wr po wa rd rs) : ∃ xs, σ a = some (.list xs) := by
  unfold ownL at ha
  rcases List.mem_cons.mp ha with rfl | ha
  · exact ⟨_, R.hhp⟩
  rcases List.mem_cons.mp ha with rfl | ha
  · exact ⟨_, R.hwr⟩
  rcases List.mem_cons.mp ha with rfl | ha
  · exact ⟨_, R.hpo⟩
  rcases List.mem_cons.mp ha with rfl | ha
  · exact ⟨_, R.hwa⟩
  · exact R.rds.isL ha
theorem Run.ne (R : Run b of AD ts d nd ra hp wr po rd σ D P ready X W wa rs) : hp ≠ wr ∧ hp ≠ po ∧ hp ≠ wa ∧ wr ≠ po ∧ wr ≠ wa ∧ po ≠ wa ∧ ∀ a ∈ rd :: rdAddrs rs, a ≠ hp ∧ a ≠ wr ∧ a ≠ po ∧ a ≠ wa := by
  have h := R.nd
  unfold ownL at h
  rw [List.nodup_cons, List.nodup_cons, List.nodup_cons, List.nodup_cons] at h
  obtain ⟨h1, h2, h3, h4, _⟩ := h
  have m1 : ∀ {x : Addr} {l : List Addr}, x ∈ x :: l := List.mem_cons_self
  have m2 : ∀ {x y : Addr} {l : List Addr}, x ∈ l → x ∈ y :: l := List.mem_cons_of_mem _
  refine ⟨fun e => h1 (e ▸ m1), fun e => h1 (e ▸ m2 m1), fun e => h1 (e ▸ m2 (m2 m1)), fun e => h2 (e ▸ m1), fun e => h2 (e ▸ m2 m1), fun e => h3 (e ▸ m1), fun a ha => ⟨fun e => h1 (e ▸ m2 (m2 (m2 ha))), fun e => h2 (e ▸ m2 (m2 ha)), fun e => h3 (e ▸ m2 ha), fun e => h4 (e ▸ ha)⟩⟩
/-- a store that keeps all own lists -/
theorem Run.keep (R : Run b of AD ts d nd ra hp wr po rd σ D P ready X W wa rs) (k : ∀ a xs, a ∈ ownL hp wr po wa rd rs → σ a = some (.list xs) → σ' a = some (.list xs)) (S : Sor b AD ts d nd ra σ' D' P' ready') : Run b of AD ts d nd ra hp wr po rd σ' D' P' ready' X W wa rs := by
  have m1 : ∀ {x : Addr} {l : List Addr}, x ∈ x :: l := List.mem_cons_self
  have m2 : ∀ {x y : Addr} {l : List Addr}, x ∈ l → x ∈ y :: l := List.mem_cons_of_mem _
  refine ⟨S, k _ _ m1 R.hhp, k _ _ (m2 m1) R.hwr, k _ _ (m2 (m2 m1)) R.hpo, k _ _ (m2 (m2 (m2 m1))) R.hwa, R.rds.keep fun a ha m hm => ?_, R.nd, R.ap⟩
  have ha' : a ∈ ownL hp wr po wa rd rs := m2 (m2 (m2 (m2 ha)))
  obtain ⟨xs, e⟩ := R.isL ha'
  have e2 := e
  rw [hm] at e2; cases e2
  exact k a _ ha' e
theorem Run.after (R : Run b of AD ts d nd ra hp wr po rd σ D P ready X W wa rs) (h : Stay (FootA d ra AD) σ σ') (S : Sor b AD ts d nd ra σ' D' P' ready') : Run b of AD ts d nd ra hp wr po rd σ' D' P' ready' X W wa rs :=
  R.keep (fun a xs ha e => h _ _ e (R.sor.notFoot e (R.ap a ha))) S
theorem Run.afterW (R : Run b of AD ts d nd ra hp wr po rd σ D P ready X W wa rs) {W' : List Nat} (h : Stay (fun a => FootA d ra AD a ∨ a = wa) σ σ') (S : Sor b AD ts d nd ra σ' D' P' ready') (hw : σ' wa = some (.list ((W'.map nm).map .str))) : Run b of AD ts d nd ra hp wr po rd σ' D' P' ready' X W' wa rs := by
  have m1 : ∀ {x : Addr} {l : List Addr}, x ∈ x :: l := List.mem_cons_self
  have m2 : ∀ {x y : Addr} {l : List Addr}, x ∈ l → x ∈ y :: l := List.mem_cons_of_mem _
  obtain ⟨n1, n2, n3, n4, n5, n6, n7⟩ := R.ne
  have k : ∀ a m, σ a = some m → a ∈ ownL hp wr po wa rd rs → a ≠ wa → σ' a = some m := fun a m e ha hn => by
    obtain ⟨xs, e2⟩ := R.isL ha
    exact h _ _ e fun q => q.elim (R.sor.notFoot e2 (R.ap a ha)) hn
  exact ⟨S, k _ _ R.hhp m1 n3, k _ _ R.hwr (m2 m1) n5, k _ _ R.hpo (m2 (m2 m1)) n6, hw, R.rds.keep fun a ha m hm => k a m hm (m2 (m2 (m2 (m2 ha)))) (n7 a ha).2.2.2, R.nd, R.ap⟩
theorem Run.setHp (R : Run b of AD ts d nd ra hp wr po rd σ D P ready X W wa rs) (X' : List HI) : Run b of AD ts d nd ra hp wr po rd (σ.set hp (.list (X'.map iv))) D P ready X' W wa rs := by
  obtain ⟨n1, n2, n3, n4, n5, n6, n7⟩ := R.ne
  have s := fun {a : Addr} (h : a ≠ hp) => Sg.set_ne σ (.list (X'.map iv)) h
  exact ⟨R.sor.setOwn R.hhp (R.ap _ List.mem_cons_self), Sg.set_same .., (s n1.symm).trans R.hwr, (s n2.symm).trans R.hpo, (s n3.symm).trans R.hwa, R.rds.keep fun a ha m hm => (s (n7 a ha).1).trans hm, R.nd, R.ap⟩
theorem Run.setRd (R : Run b of AD ts d nd ra hp wr po rd σ D P ready X W wa rs) {a : Addr} (ha : a ∈ rd :: rdAddrs rs) {m : MObj} {rs' : List RD} (h : RoundsAt (σ.set a m) rd rs') (e : rdAddrs rs' = rdAddrs rs) : Run b of AD ts d nd ra hp wr po rd (σ.set a m) D P ready X W wa rs' := by
  obtain ⟨n1, n2, n3, n4, n5, n6, n7⟩ := R.ne
  obtain ⟨k1, k2, k3, k4⟩ := n7 a ha
  obtain ⟨xs, hx⟩ := R.rds.isL ha
  have s := fun {c : Addr} (h : a ≠ c) => Sg.set_ne σ m h.symm
  have hl : ownL hp wr po wa rd rs' = ownL hp wr po wa rd rs := by unfold ownL; rw [e]
  exact ⟨R.sor.setOwn hx (R.ap _ (List.mem_cons_of_mem _ (List.mem_cons_of_mem _ (List.mem_cons_of_mem _ (List.mem_cons_of_mem _ ha))))), (s k1).trans R.hhp, (s k2).trans R.hwr, (s k3).trans R.hpo, (s k4).trans R.hwa, h, hl ▸ R.nd, hl ▸ R.ap⟩
theorem Run.newWa (R : Run b of AD ts d nd ra hp wr po rd σ D P ready X W wa rs) {wa' : Addr} (hw : σ wa' = none) : Run b of AD ts d nd ra hp wr po rd (σ.set wa' (.list [])) D P ready X [] wa' rs := by
  have o : Old σ (σ.set wa' (.list [])) := Old.refl.set hw
  have far : ∀ a ∈ ownL hp wr po wa rd rs, a ≠ wa' := fun a ha e => by
    obtain ⟨xs, hx⟩ := R.isL ha
    rw [e, hw] at hx; cases hx
  have m1 : ∀ {x : Addr} {l : List Addr}, x ∈ x :: l := List.mem_cons_self
  have m2 : ∀ {x y : Addr} {l : List Addr}, x ∈ l → x ∈ y :: l := List.mem_cons_of_mem _
  have h := R.nd
  unfold ownL at h
  rw [List.nodup_cons, List.nodup_cons, List.nodup_cons, List.nodup_cons] at h
  obtain ⟨h1, h2, h3, h4, h5⟩ := h
  refine ⟨R.sor.old o, o _ _ R.hhp, o _ _ R.hwr, o _ _ R.hpo, Sg.set_same .., R.rds.keep fun a ha m hm => o _ _ hm, ?_, fun a ha => ?_⟩
  · unfold ownL
    rw [List.nodup_cons, List.nodup_cons, List.nodup_cons, List.nodup_cons]
    have sw : ∀ {x : Addr} {l : List Addr}, x ∉ wa :: l → x ≠ wa' → x ∉ wa' :: l := fun hx hn hm => (List.mem_cons.mp hm).elim hn fun q => hx (m2 q)
    refine ⟨fun hm => ?_, fun hm => ?_, sw h3 (far _ (m2 (m2 m1))), fun hm => far _ (m2 (m2 (m2 (m2 hm)))) rfl, h5⟩
    · rcases List.mem_cons.mp hm with e | hm
      · exact h1 (e ▸ m1)
      rcases List.mem_cons.mp hm with e | hm
      · exact h1 (e ▸ m2 m1)
      rcases List.mem_cons.mp hm with e | hm
      · exact far _ m1 e
      · exact h1 (m2 (m2 (m2 hm)))
    · rcases List.mem_cons.mp hm with e | hm
      · exact h2 (e ▸ m1)
      rcases List.mem_cons.mp hm with e | hm
      · exact far _ (m2 m1) e
      · exact h2 (m2 (m2 hm))
  · unfold ownL at ha
    rcases List.mem_cons.mp ha with rfl | ha
    · exact R.ap _ m1
    rcases List.mem_cons.mp ha with rfl | ha
    · exact R.ap _ (m2 m1)
    rcases List.mem_cons.mp ha with rfl | ha
    · exact R.ap _ (m2 (m2 m1))
    rcases List.mem_cons.mp ha with rfl | ha
    · exact R.sor.fresh hw
    · exact R.ap _ (m2 (m2 (m2 (m2 ha))))
theorem Run.newRd (R : Run b of AD ts d nd ra hp wr po rd σ D P ready X W wa rs) {r i : Addr} (hi : σ i = none) (hr : (σ.set i (.list [])) r = none) :
    Run b of AD ts d nd ra hp wr po rd (((σ.set i (.list [])).set r (.list [.ref i, .lst []])).set rd (.list ((rs.map fun x => .ref x.r) ++ [.ref r]))) D P ready X W wa (rs ++ [⟨r, i, [], []⟩]) := by
  have hri : r ≠ i := fun e => by rw [e, Sg.set_same] at hr; cases hr
  have hr0 : σ r = none := by rwa [Sg.set_ne _ _ hri] at hr
  obtain ⟨n1, n2, n3, n4, n5, n6, n7⟩ := R.ne
  have o : Old σ ((σ.set i (.list [])).set r (.list [.ref i, .lst []])) := (Old.refl.set hi).set hr0
  have far : ∀ a ∈ ownL hp wr po wa rd rs, a ≠ i ∧ a ≠ r := fun a ha => by
    obtain ⟨xs, hx⟩ := R.isL ha
    exact ⟨fun e => (by rw [e, hi] at hx; cases hx), fun e => (by rw [e, hr0] at hx; cases hx)⟩
  have m1 : ∀ {x : Addr} {l : List Addr}, x ∈ x :: l := List.mem_cons_self
  have m2 : ∀ {x y : Addr} {l : List Addr}, x ∈ l → x ∈ y :: l := List.mem_cons_of_mem _
  obtain ⟨k1, k2, k3, k4⟩ := n7 rd m1
  have s := fun {c : Addr} (h : rd ≠ c) => Sg.set_ne ((σ.set i (.list [])).set r (.list [.ref i, .lst []])) (.list ((rs.map fun x => MV.ref x.r) ++ [.ref r])) h.symm
  have hN := R.rds.new hi hr
  have hl : ownL hp wr po wa rd (rs ++ [⟨r, i, [], []⟩]) = ownL hp wr po wa rd rs ++ [r, i] := by unfold ownL; rw [rdAddrs_app]; rfl
  refine ⟨(R.sor.old o).setOwn (o _ _ R.rds.top) (R.ap _ (m2 (m2 (m2 (m2 m1))))), (s k1).trans (o _ _ R.hhp), (s k2).trans (o _ _ R.hwr), (s k3).trans (o _ _ R.hpo), (s k4).trans (o _ _ R.hwa), hN, ?_, fun a ha => ?_⟩
  · rw [hl, List.nodup_append]
    refine ⟨R.nd, by simp [hri], fun a ha c hc => ?_⟩
    rcases List.mem_cons.mp hc with rfl | hc
    · exact (far a ha).2
    · rw [List.mem_singleton.mp hc]; exact (far a ha).1
  · rw [hl] at ha
    rcases List.mem_append.mp ha with ha | ha
    · exact R.ap a ha
    · rcases List.mem_cons.mp ha with rfl | ha
      · exact R.sor.fresh hr0
      · rw [List.mem_singleton.mp ha]; exact R.sor.fresh hi
end
end Mine

end
section
open PySem PySem.W PyProof.Rows
set_option maxRecDepth 100000
namespace Mine

/-- the works told, not done, of one kind -/
noncomputable def Pick (of : Nat → Bool) (D P : List Nat) (v : Bool) (L : List Nat) : Prop := L.Nodup ∧ ∀ k, k ∈ L ↔ k ∈ P ∧ k ∉ D ∧ of k = v
theorem Pick.len {of : Nat → Bool} {D P L : List Nat} {v : Bool} (h : Pick of D P v L) (hP : DI P) : L.length ≤ 10 := by
  have := nodup_len (l' := List.range 10) h.1 fun k hk => List.mem_range.mpr (hP.low k ((h.2 k).mp hk).1)
  rwa [List.length_range] at this

section
variable {b : Nat → Nat → Bool} {rk : Nat → Int} {of : Nat → Bool} {AD : AL} {ts d nd ra hp wr po rd wa : Addr} {σ σ' : Sg} {D P D' P' : List Nat} {ready ready' : List Str} {X : List HI} {W : List Nat} {rs : List RD}
theorem Sor.idx (S : Sor b AD ts d nd ra σ D P ready) : ∃ N : List Nat, ready = N.map nm ∧ N.Nodup ∧ ∀ k, k ∈ N ↔ k < 10 ∧ k ∉ P ∧ ∀ j ∈ need b k, j ∈ D := by
  obtain ⟨ns, S1, I, e⟩ := S.ex
  have h : ∀ s ∈ ready, ∃ k, k < 10 ∧ s = nm k ∧ k ∉ P ∧ ∀ j ∈ need b k, j ∈ D := fun s hs => (I.rd s).mp hs
  have e1 : ready = (ready.map NM.idxOf).map nm := by
    rw [List.map_map]
    refine (List.map_id ready).symm.trans (List.map_congr_left fun s hs => ?_)
    obtain ⟨k, hk, rfl, _⟩ := h s hs
    show nm k = nm (NM.idxOf (nm k))
    rw [NM_idx k hk]
  have hl : ∀ k, k ∈ ready.map NM.idxOf ↔ k < 10 ∧ k ∉ P ∧ ∀ j ∈ need b k, j ∈ D := fun k => by
    rw [List.mem_map]
    constructor
    · rintro ⟨s, hs, rfl⟩
      obtain ⟨k, hk, rfl, q⟩ := h s hs
      rw [NM_idx k hk]; exact ⟨hk, q⟩
    · exact fun q => ⟨nm k, (I.nm_rd b q.1).mpr q.2, NM_idx k q.1⟩
  refine ⟨_, e1, ?_, hl⟩
  have := I.rnd
  rw [e1] at this
  exact (List.pairwise_map.mp this).imp fun hne e => hne (by rw [e])
/-- all that can be told has been told -/
theorem Sor.all (S : Sor b AD ts d nd ra σ D P []) {k : Nat} : k ∈ P ↔ k < 10 ∧ ∀ j ∈ need b k, j ∈ D := by
  obtain ⟨ns, S1, I, e⟩ := S.ex
  refine ⟨fun h => I.low k h, fun h => Classical.byContradiction fun hn => ?_⟩
  have := (I.nm_rd b h.1).mpr ⟨hn, h.2⟩
  cases this
theorem Sor.sub (S : Sor b AD ts d nd ra σ D P ready) {k : Nat} (h : k ∈ D) : k ∈ P := by
  obtain ⟨ns, S1, I, e⟩ := S.ex
  exact I.sub k h
theorem names_filter (N : List Nat) (hN : ∀ k ∈ N, k < 10) : ((N.map nm).filter fun t => decide (t ∉ offN of)) = (N.filter fun k => !of k).map nm ∧ ((N.map nm).filter fun t => decide (t ∈ offN of)) = (N.filter fun k => of k).map nm := by
  rw [List.filter_map, List.filter_map]
  constructor
  · congr 1
    refine List.filter_congr fun k hk => ?_
    show decide (nm k ∉ offN of) = !of k
    rw [decide_not, offN_dec of (hN k hk)]
  · congr 1
    exact List.filter_congr fun k hk => offN_dec of (hN k hk)

theorem Run.start {ns : List Nd} (S : SR σ ts d nd ra 0 0 ns ((ns.filter fun x => decide (x.np = 0)).map (·.name))) (hv : view ns = runOps [] (allOps b)) (hpo : σ po = some (.list ((offN of).map .str))) (ap : Apart ra ns po) (h1 : σ hp = none) (h2 : (σ.set hp (.list [])) rd = none)
    (h3 : ((σ.set hp (.list [])).set rd (.list [])) wa = none) (h4 : (((σ.set hp (.list [])).set rd (.list [])).set wa (.list [])) wr = none) :
    ∃ ready, Run b of (addrs ns) ts d nd ra hp wr po rd ((((σ.set hp (.list [])).set rd (.list [])).set wa (.list [])).set wr (.list [])) [] [] ready [] [] wa [] := by
  have S0 : Sor b (addrs ns) ts d nd ra σ [] [] (((view ns).filter fun p => decide (p.2.1 = 0)).map (·.1)) := by
    refine ⟨⟨ns, ?_, SI.start b (by rw [view_names]; exact S.ndn) hv, rfl⟩, .nil, .nil⟩
    have e : ((view ns).filter fun p => decide (p.2.1 = 0)).map (·.1) = (ns.filter fun x => decide (x.np = 0)).map (·.name) := by
      unfold view; rw [List.filter_map, List.map_map]; rfl
    rw [e]; exact S
  have e2 : rd ≠ hp := fun e => by rw [e, Sg.set_same] at h2; cases h2
  have h2' : σ rd = none := by rwa [Sg.set_ne _ _ e2] at h2
  have e3 : wa ≠ rd := fun e => by rw [e, Sg.set_same] at h3; cases h3
  rw [Sg.set_ne _ _ e3] at h3
  have e4 : wa ≠ hp := fun e => by rw [e, Sg.set_same] at h3; cases h3
  rw [Sg.set_ne _ _ e4] at h3
  have e5 : wr ≠ wa := fun e => by rw [e, Sg.set_same] at h4; cases h4
  rw [Sg.set_ne _ _ e5] at h4
  have e6 : wr ≠ rd := fun e => by rw [e, Sg.set_same] at h4; cases h4
  rw [Sg.set_ne _ _ e6] at h4
  have e7 : wr ≠ hp := fun e => by rw [e, Sg.set_same] at h4; cases h4
  rw [Sg.set_ne _ _ e7] at h4
  have p : ∀ {a}, σ a = none → po ≠ a := fun h e => by rw [← e, hpo] at h; cases h
  have o : Old σ ((((σ.set hp (.list [])).set rd (.list [])).set wa (.list [])).set wr (.list [])) := (((Old.refl.set h1).set h2').set h3).set h4
  refine ⟨_, S0.old o, ?_, Sg.set_same .., o _ _ hpo, ?_, ⟨?_, nofun, nofun, by simp [rdAddrs]⟩, ?_, fun a ha => ?_⟩
  · rw [Sg.set_ne _ _ e7.symm, Sg.set_ne _ _ e4.symm, Sg.set_ne _ _ e2.symm, Sg.set_same]; rfl
  · rw [Sg.set_ne _ _ e5.symm, Sg.set_same]; rfl
  · rw [Sg.set_ne _ _ e6.symm, Sg.set_ne _ _ e3.symm, Sg.set_same]; rfl
  · unfold ownL rdAddrs
    simp only [List.flatMap_nil, List.nodup_cons, List.mem_cons, List.not_mem_nil, or_false, not_or, List.nodup_nil, and_true, not_false_eq_true]
    exact ⟨⟨e7.symm, (p h1).symm, e4.symm, e2.symm⟩, ⟨(p h4).symm, e5, e6⟩, ⟨p h3, p h2'⟩, e3⟩
  · unfold ownL rdAddrs at ha
    simp only [List.flatMap_nil, List.mem_cons, List.not_mem_nil, or_false] at ha
    rcases ha with rfl | rfl | rfl | rfl | rfl
    · exact S0.fresh h1
    · exact S0.fresh h4
    · exact ap.apartA
    · exact S0.fresh h3
    · exact S0.fresh h2'
end

section
variable {prog : Program} {w : World} {K : Frag} {A : Around} {e : Env} {fr : Vars} {σ : Sg} {s s' : Shared} {b : Nat → Nat → Bool} {rk : Nat → Int} {of : Nat → Bool} {AD : AL} {ts d nd ra hp wr po rd wa : Addr} {D P D' P' : List Nat} {ready ready' : List Str} {X : List HI} {W : List Nat} {rs : List RD}

theorem run_ready {n : Nat} (KK : KL K) (R : Run b of AD ts d nd ra hp wr po rd σ D P ready X W wa rs) (hW : W.length ≤ 10) :
    Fn prog w K (n + 8) (.ref 225) [.ref ts, .ref po, .ref wa, .ref wr] σ (fun y σ' => ∃ (N P' : List Nat), N.Nodup ∧ (∀ k, k ∈ N ↔ k < 10 ∧ k ∉ P ∧ ∀ j ∈ need b k, j ∈ D) ∧ y = .lst (((N.filter fun k => !of k).map nm).map .str) ∧ (∀ k, k ∈ P' ↔ k ∈ P ∨ k ∈ N) ∧
      Run b of AD ts d nd ra hp wr po rd σ' D P' [] X (W ++ N.filter fun k => of k) wa rs) := by
  obtain ⟨N, rfl, hN, hm⟩ := R.sor.idx
  have hl : ∀ k ∈ N, k < 10 := fun k hk => ((hm k).mp hk).1
  have m1 : ∀ {x : Addr} {l : List Addr}, x ∈ x :: l := List.mem_cons_self
  have m2 : ∀ {x y : Addr} {l : List Addr}, x ∈ l → x ∈ y :: l := List.mem_cons_of_mem _
  refine (sor_ready (n := n) KK R.sor R.hpo R.hwa (by rw [List.length_map]; omega) (R.ap _ (m2 (m2 m1))) (R.ap _ (m2 (m2 (m2 m1))))).mono ?_
  rintro y σ' ⟨e1, P', S', hP', hw, hst⟩
  rw [(names_filter N hl).1] at e1
  rw [(names_filter N hl).2, ← List.map_append] at hw
  refine ⟨N, P', hN, hm, e1, fun k => ?_, R.afterW hst S' hw⟩
  rw [hP']
  refine or_congr_right ⟨fun hzz => ?_, fun h => ⟨hl k h, List.mem_map.mpr ⟨k, h, rfl⟩⟩⟩
  obtain ⟨h1, h2⟩ := hzz
  obtain ⟨j, hj, e⟩ := List.mem_map.mp h2
  rw [← nm_inj j (hl j hj) k h1 e]; exact hj

/-- names.index(name) -/
theorem Ep_index {o x : Expr} {pos apos : Pos} {k : Nat} (ho : EP prog w K A e fr σ o namesV) (hx : EP prog w K A e fr σ x (.str (nm k))) (hk : k < 10)
    (hst : starEach [x] e = (false, eval x e) :: starEach [] e := by rfl) (hp : (starEach [x] e).any (·.1) = false := by rfl) (hbase : attributeBase o "index" e (eval o e) = eval o e := by rfl)
    (hfew : methodCallForm ([x].length + ([] : List Keyword).length) (backTo pos (starEach [x] e)) (backToKw pos (keywordEach [] e)) = true := by rfl) (hline : (apos.endLine == pos.line) = true := by rfl) :
    EP prog w K A e fr σ (.Call (.Attribute o "index" apos) [x] [] pos) (.int k) :=
  Ep_bmeth ho (LV.isT .lst) F.plainAttrs_list F.slot_list_index F.type_list_index (EPs_cons hx EPs_nil hst) (OC_index .lst (fun y hy => by
      obtain ⟨p, _, rfl⟩ := List.mem_map.mp hy; rfl) (by decide) (by
      rw [List.getElem?_map, NM_at k hk]
      show some (eqB (.str (nm k)) (.str (nm k))) = _
      simp [eqB]) fun i hi => by
      rw [List.getElem?_map, NM_at i (by omega)]
      show some (eqB (.str (nm i)) (.str (nm k))) = _
      have : nm i ≠ nm k := fun e => by have := nm_inj i (by omega) k hk e; omega
      simp [eqB, this]) hp hbase hfew hline
theorem iv_it (k : Nat) : iv (it rk k) = .lst [.int (rk k), .int k, .str (nm k)] := rfl
end
end Mine

end
section
open PySem PySem.W PyProof.Rows
set_option maxRecDepth 100000
namespace Mine

section
variable {prog : Program} {w : World} {K : Frag} {A : Around} {e : Env} {fr : Vars} {σ : Sg} {s s' : Shared} (b : Nat → Nat → Bool) (rk : Nat → Int) (of : Nat → Bool)
local macro_rules | `(tactic| trivial) => `(tactic| first | exact SubL.n | (refine SubL.c rfl ?_; trivial) | exact Ep_local (by assumption) rfl rfl rfl | exact Ep_cell (by assumption) rfl rfl rfl | exact Ep_int | exact Ep_none)
local macro_rules | `(tactic| and_intros) => `(tactic| exact CompOk.mk rfl rfl (by decide) (by trivial) (nodup_of rfl) (fun _ => rfl) (by first | (intro _ _ h; cases h; done) | (intro C c _ h; exact (Option.some.inj h) ▸ Nat.lt_succ_self _)) (by trivial) (fun _ => rfl) (by intro C; repeat (first | exact List.forall_mem_nil _ | (refine List.forall_mem_cons.mpr ⟨rfl, ?_⟩))) rfl)

theorem Tp_or2 {x y : Expr} {pos : Pos} {p q : Bool} (h1 : TP prog w K A e fr σ x p) (h2 : TP prog w K A e fr σ y q) : TP prog w K A e fr σ (.BoolOp .Or [x, y] pos) (p || q) :=
  Tp_bool (Tp_or h1 (fun e1 => Tp_or h2 (fun e2 => by rw [e1, e2]; exact Tp_or_nil) (fun e2 => by rw [e1, e2]; rfl)) (fun e1 => by rw [e1]; rfl))
theorem deps_iv : ∀ X : List HI, deps (X.map iv) ≤ 1
  | [] => Nat.zero_le _
  | x :: X => by
    rw [List.map_cons, deps]
    have := deps_iv X
    have h1 : dep (iv x) = 1 := rfl
    omega
theorem eqV_iv (t : HI) : eqV (.lst [.int t.1, .int t.2.1, .str t.2.2]) (.lst [.int t.1, .int t.2.1, .str t.2.2]) = some true := by simp [eqV, eqVs]
noncomputable def itS : MV → MV
  | .str s => iv (it rk (NM.idxOf s))
  | _ => .none
theorem map_itS {L : List Nat} (h : ∀ k ∈ L, k < 10) : ((((L.map nm).map MV.str).filter fun _ => true).map (itS rk)) = (L.map (it rk)).map iv := by
  rw [List.filter_eq_self.mpr fun _ _ => rfl, List.map_map, List.map_map, List.map_map]
  refine List.map_congr_left fun k hk => ?_
  show iv (it rk (NM.idxOf (nm k))) = _
  rw [NM_idx k (h k hk)]; rfl
theorem nm_at {F : List Nat} {i : Nat} {y : MV} (h : ((F.map nm).map MV.str)[i]? = some y) : ∃ k, F[i]? = some k ∧ y = .str (nm k) := by
  rw [List.getElem?_map, List.getElem?_map] at h
  cases e : F[i]? with
  | none => rw [e] at h; cases h
  | some k => rw [e] at h; cases h; exact ⟨k, rfl, rfl⟩
theorem mem_take_succ {F : List Nat} {i k j : Nat} (h : F[i]? = some k) : j ∈ F.take (i + 1) ↔ j ∈ F.take i ∨ j = k := by
  rw [List.take_add_one, h, List.mem_append]; simp
theorem notin_take {F : List Nat} {j k : Nat} (hn : F.Nodup) (h : F[j]? = some k) : ¬ k ∈ F.take j := fun hm => by
  have hd : F = F.take j ++ F.drop j := (List.take_append_drop j F).symm
  have hdr : k ∈ F.drop j := List.mem_of_getElem? (i := 0) (by rw [List.getElem?_drop]; exact h)
  rw [hd, List.nodup_append] at hn
  exact hn.2.2 k hm k hdr rfl
/-- the item of a work -/
theorem Ep_item {e : Env} {fr : Vars} {p1 p2 p3 p4 p5 p6 p7 p8 p9 p10 p11 : Pos} {k : Nat} (hr : ∀ p, EP prog w K A e fr σ (.Name "ranks" p) (ranksV rk)) (hn : ∀ p, EP prog w K A e fr σ (.Name "names" p) namesV) (hx : ∀ p, EP prog w K A e fr σ (.Name "name" p) (.str (nm k))) (hk : k < 10)
    (l1 : (p3.endLine == p5.line) = true := by rfl) (l2 : (p8.endLine == p10.line) = true := by rfl) :
    EPs prog w K A e fr σ [.Subscript (.Name "ranks" p1) (.Call (.Attribute (.Name "names" p2) "index" p3) [.Name "name" p4] [] p5) p6, .Call (.Attribute (.Name "names" p7) "index" p8) [.Name "name" p9] [] p10, .Name "name" p11] [.int (rk k), .int k, .str (nm k)] :=
  EPs_cons (Ep_sub (hr _) (Ep_index (hn _) (hx _) hk rfl rfl rfl rfl l1) (ranks_at rk hk)) (EPs_cons (Ep_index (hn _) (hx _) hk rfl rfl rfl rfl l2) (EPs_cons (hx _) EPs_nil))

/-- the frame at the head of a round -/
noncomputable def frR (ts hp rd wa wr po : Addr) (F : List Nat) : Vars := [("names", namesV), ("needs", needsV b), ("ranks", ranksV rk), ("put_off", .ref po), ("sorter", .ref ts), ("heap", .ref hp), ("rounds", .ref rd), ("waiting", .ref wa), ("wrong", .ref wr), ("fresh", .lst ((F.map nm).map .str))]

noncomputable def frI (ts hp rd wa wr po : Addr) : Vars := [("names", namesV), ("needs", needsV b), ("ranks", ranksV rk), ("put_off", .ref po), ("sorter", .ref ts), ("heap", .ref hp), ("rounds", .ref rd), ("waiting", .ref wa), ("wrong", .ref wr)]

section
variable (AD : AL) (ts d nd ra hp wr po rd : Addr)
inductive OutI (σ : Sg) : Nat → Vars → Prop
  | mk (D P F W : List Nat) (wa : Addr) (rs : List RD) (acc : List (List Nat × List Nat)) : Run b of AD ts d nd ra hp wr po rd σ D P [] [] W wa rs → Pick of D P false F → Pick of D P true W → RQ rs acc → (∀ q, Rounds b rk of D q → Rounds b rk of [] (acc ++ q)) → rs.length ≤ D.length → OutI σ (10 - D.length) (frR b rk ts hp rd wa wr po F)
inductive InnI (D : List Nat) (wa : Addr) (rs : List RD) (σ : Sg) : Nat → Vars → Prop
  | mk (E cur P : List Nat) (X : List HI) (W : List Nat) (x : RD) : Run b of AD ts d nd ra hp wr po rd σ E P [] X W wa (rs ++ [x]) → HeapIs rk (fun k => k ∈ P ∧ k ∉ E ∧ of k = false) X → Pick of E P true W → E = D ++ cur → x.ks = cur.map nm → x.off = [] → (∀ q, Inn b rk of E q → Inn b rk of D (cur ++ q)) → InnI D wa rs σ (10 - E.length) (frI b rk ts hp rd wa wr po)
inductive HX (D P W : List Nat) (wa : Addr) (rs : List RD) (S : Nat → Prop) (f : Vars) (σ : Sg) : Vars → Prop
  | mk (X : List HI) : Run b of AD ts d nd ra hp wr po rd σ D P [] X W wa rs → HeapIs rk S X → HX D P W wa rs S f σ f
inductive AfI (D : List Nat) (wa : Addr) (rs : List RD) (σ : Sg) : Vars → Prop
  | mk (P F W : List Nat) : Run b of AD ts d nd ra hp wr po rd σ D P [] [] W wa rs → Pick of D P false F → Pick of D P true W → AfI D wa rs σ (frR b rk ts hp rd wa wr po F)
end

set_option maxHeartbeats 1000000 in
theorem fn_lrun {n : Nat} (KK : KL K) {po : Addr} (hP : σ po = some (.list ((offN of).map .str))) : Fn prog w K (n + 10) (.ref 242) [namesV, needsV b, ranksV rk, .ref po] σ (fun y σ' => ∃ rd wr rs ns, y = .tup [.ref rd, .bool false, .ref wr] ∧ RoundsAt σ' rd rs ∧ Rounds b rk of [] ns ∧ RQ rs ns ∧ σ' wr = some (.list []) ∧ σ' po = some (.list ((offN of).map .str))) := by
  refine Fn_pos KK.ok KK.f_lrun.1 ["names", "needs", "ranks", "put_off"] (by decide +kernel) rfl (fun _ _ _ _ _ _ _ _ => len4 fun _ _ _ _ => rfl) ?_
  intro L q cdv A ha hh
  have he : FrE (fe (fS (topS 21)) L q 242 cdv) := frE_fe rfl
  have hu : A.units + 100 < cLine := by have := ha.units; omega
  refine EX_post fun Qp hQp _ => ?_
  have st : ∀ {x : Str} {p : Pos}, ∀ (M : Model) (A : Around) (v : Value) (Q : Unit → Shared → Prop) (E : Value → Shared → Prop) (s : Shared), wpAny M A (storeName (fe (fS (topS 21)) L q 242 cdv) x v) Q E s → wpAny M A (assign (.Name x p) (fe (fS (topS 21)) L q 242 cdv) v) Q E s := fun M A v Q E s h => wpAny_assign_Name h
  refine Ex_cons (Ex_assignT (xs := ["sorter", "heap", "rounds", "waiting", "wrong"]) he hh ⟨st, rfl, st, rfl, st, rfl, st, rfl, st, rfl, True.intro⟩ (Ev_tuple (Evs_cons (Ev_fn (Ep_glb KK.g_lsort he rfl rfl) KK.f_lsort.2 ha hh ((EPs_cons (by trivial) (EPs_cons (by trivial) EPs_nil)).evs ((fn_lsort (n := n + 1) b KK).mono ?_))))))
  rintro y σ₁ ⟨ts, d, nd, ra, ns, rfl, S, hv, old, ap⟩
  refine Evs_cons (Ev_list (Evs_nil ⟨by simp, fun hp hhp => Evs_cons (Ev_list (Evs_nil ⟨by simp, fun rd hrd => Evs_cons (Ev_list (Evs_nil ⟨by simp, fun wa hwa => Evs_cons (Ev_list (Evs_nil ⟨by simp, fun wr hwr => Evs_nil ⟨by simp, _, rfl, rfl, ?_⟩⟩))⟩))⟩))⟩))
  obtain ⟨ready, R0⟩ := Run.start (b := b) (of := of) S hv (old _ _ hP) (ap _ _ hP) hhp hrd hwa hwr
  generalize (((σ₁.set hp (.list [])).set rd (.list [])).set wa (.list [])).set wr (.list []) = σ₂ at R0
  generalize addrs ns = AD at R0
  clear S hv old ap hhp hrd hwa hwr
  refine Ex_cons (Ex_assign he rfl (Ev_fn (Ep_glb KK.g_lready he rfl rfl) KK.f_lready.2 ha hh ((EPs_cons (by trivial) (EPs_cons (by trivial) (EPs_cons (by trivial) (EPs_cons (by trivial) EPs_nil)))).evs ((run_ready (n := n + 1) KK R0 (by simp)).mono ?_))))
  rintro y σ₃ ⟨N, P, hN, hNm, rfl, hPm, R⟩
  have hF0 : Pick of [] P false (N.filter fun k => !of k) := ⟨hN.filter _, fun k => by rw [List.mem_filter, hPm]; simp⟩
  have hW0 : Pick of [] P true ([] ++ N.filter fun k => of k) := ⟨hN.filter _, fun k => by rw [List.nil_append, List.mem_filter, hPm]; simp⟩
  generalize N.filter (fun k => !of k) = F at hF0
  generalize [] ++ N.filter (fun k => of k) = W at R hW0
  clear R0
  refine Ex_cons (Ex_while (fun m fr σ' => OutI b rk of AD ts d nd ra hp wr po rd σ' m fr) 10
    ⟨_, ⟨[], P, F, W, wa, [], [], R, hF0, hW0, rfl, fun _ h => h, Nat.le_refl _⟩, by trivial⟩ ?_)
  rintro m fr σ₄ Qo hQo - - ⟨D, P, F, W, wa, rs, acc, R, hF, hW, hq, hrs, hlen⟩
  have hFl := hF.len R.sor.dP
  have hWl := hW.len R.sor.dP
  have hDl := R.sor.dD.len
  have low : ∀ k ∈ P, k < 10 := R.sor.dP.low
  refine ((Tp_or2 ((Tp_cmp (by trivial) (Ep_list EPs_nil (by simp)) (O2_neL .lst .lst (eqV_nil _) (by rw [deps_strs]; omega))).to (c := decide (F ≠ [])) (by cases F <;> simp)) ((Tp_cmp (by trivial) (Ep_list EPs_nil (by simp)) (O2_neL (.ref R.hwa) .lst (eqV_nil _) (by rw [deps_strs]; omega))).to (c := decide (W ≠ [])) (by cases W <;> simp)))).tv ?_
  split
  rotate_left
  · rename_i hne
    have hne : F = [] ∧ W = [] := by simpa using hne
    obtain ⟨rfl, rfl⟩ := hne
    have hPD : ∀ k ∈ P, k ∈ D := fun k hk => Classical.byContradiction fun hn => by
      cases h : of k with
      | true => have := (hW.2 k).mpr ⟨hk, hn, h⟩; cases this
      | false => have := (hF.2 k).mpr ⟨hk, hn, h⟩; cases this
    have hfull : ∀ k, k < 10 → k ∈ D := fun k hk => Classical.byContradiction fun hn => by
      obtain ⟨j, h1, h2, h3⟩ := R.sor.dD.more b ⟨k, hk, hn⟩
      exact h2 (hPD j (R.sor.all.mpr ⟨h1, h3⟩))
    have hlen2 : P.length ≤ D.length := nodup_len R.sor.dP.nd hPD
    obtain ⟨ns1, S1, -, -⟩ := id R.sor.ex
    refine Ex_nil (Ex_cons (Ex_return (Ev_tuple (Evs_cons (Ep.ev (by trivial) (Evs_cons (Ev_methA (by trivial) S1.ts S1.d rfl KK.m_act ha hh (EPs_nil.evs (((sor_act (n := n + 8) KK.toKF R.sor)).mono ?_)))))))))
    rintro y σ₅ ⟨rfl, rfl⟩
    refine Evs_cons (Ep.ev (by trivial) (Evs_nil ⟨by simp, ?_⟩))
    refine hQp _ _ _ ⟨rd, wr, rs, acc, ?_, R.rds, by simpa using hrs [] (.stop (R.sor.dD.full hfull)), hq, R.hwr, R.hpo⟩
    rw [decide_eq_false (by omega)]; rfl
  rename_i hne
  have hleft : ∃ k, k < 10 ∧ k ∉ D := by
    rcases Bool.or_eq_true_iff.mp hne with h | h
    · obtain ⟨k, hk⟩ := List.exists_mem_of_ne_nil F (by simpa using h)
      have := (hF.2 k).mp hk
      exact ⟨k, low k this.1, this.2.1⟩
    · obtain ⟨k, hk⟩ := List.exists_mem_of_ne_nil W (by simpa using h)
      have := (hW.2 k).mp hk
      exact ⟨k, low k this.1, this.2.1⟩
  have hlt : D.length < 10 := R.sor.dD.left hleft
  have hr1 : ∀ {a : Addr}, σ₄ a = none → rd ≠ a := fun h e => by have := R.rds.top; rw [e, h] at this; cases this
  refine Ex_cons (Ex_expr (Ev_append (by trivial) R.rds.top (Ev_round fun i r hi hr => ⟨_, (Sg.set_ne _ _ ?_).trans ((Sg.set_ne _ _ (hr1 hi)).trans R.rds.top), by simp; omega, ?_⟩)))
  · exact fun e => by rw [← e, Sg.set_ne _ _ (hr1 hi), R.rds.top] at hr; cases hr
  have R2 := R.newRd hi hr
  generalize ((σ₄.set i (.list [])).set r (.list [.ref i, .lst []])).set rd (.list ((rs.map fun x => .ref x.r) ++ [.ref r])) = σ₅ at R2
  generalize hxr : (⟨r, i, [], []⟩ : RD) = x0 at R2
  have hx0k : x0.ks = [] := by rw [← hxr]
  have hx0o : x0.off = [] := by rw [← hxr]
  clear hxr R hi hr
  refine Ex_cons (Ex_for he rfl (fun xs C j fr σ' => xs = (F.map nm).map .str ∧ C = (fun _ => True) ∧ HX b rk of AD ts d nd ra hp wr po rd D P W wa (rs ++ [x0]) (fun k => k ∈ F.take j) (frR b rk ts hp rd wa wr po F) σ' fr)
    ((SrcP_of (by trivial) (It_list hh .lst (fun _ _ => .lst) True.intro)).src ⟨⟨_, ⟨rfl, rfl, [], R2, HeapIs.nil.congr fun k => by simp⟩, by trivial⟩, fun _ _ _ _ => True.intro, ?_, ?_⟩))
  · rintro j y fr σ' Q hQ - - hy ⟨-, -, X, R3, hH⟩
    obtain ⟨k, hk, rfl⟩ := nm_at hy
    have hkF := (hF.2 k).mp (List.mem_of_getElem? hk)
    have hk10 := low k hkF.1
    have hnk := notin_take hF.1 hk
    obtain ⟨hn2, hH2⟩ := hH.push hnk hk10
    refine Ex_cons (Ex_expr (Ev_fn (Ep_glb KK.g_push he rfl rfl) KK.f_push.2 ha hh ((EPs_cons (by trivial) (EPs_cons ((Ep_list (Ep_item rk (fun _ => by trivial) (fun _ => by trivial) (fun _ => by trivial) hk10) (by simp)).to (iv_it k).symm) EPs_nil)).evs
      ((fn_heappush (n := n + 7) KK.ok KK.f_sd KK.g_sd KK.g_len KK.f_push R3.hhp (by have := hH.few; omega) hn2).mono ?_))))
    rintro y σ'' ⟨rfl, rfl⟩
    exact Ex_nil (hQ _ _ ⟨_, ⟨rfl, rfl, _, R3.setHp _, hH2.congr fun j => (mem_take_succ hk).symm⟩, by trivial⟩).1
  rintro fr σ' ⟨-, -, X, R3, hH⟩
  have hH : HeapIs rk (fun k => k ∈ P ∧ k ∉ D ∧ of k = false) X := hH.congr fun k => by
    rw [List.length_map, List.length_map, List.take_length]; exact hF.2 k
  clear R2
  refine Ex_nil ?_
  refine Ex_cons (Ex_while (fun m fr σ' => InnI b rk of AD ts d nd ra hp wr po rd D wa rs σ' m fr) (10 - D.length)
    ⟨_, ⟨D, [], P, X, W, x0, R3, hH, hW, (List.append_nil D).symm, hx0k, hx0o, fun _ h => h⟩, by trivial⟩ ?_)
  rintro m fr σ₆ Qi hQi - - ⟨E, cur, P, X, W, x, R, hH, hW, hE, xk, xo, hin⟩
  have hWl := hW.len R.sor.dP
  have hEl := R.sor.dD.len
  have low : ∀ k ∈ P, k < 10 := R.sor.dP.low
  have hXl := hH.few
  have hcl : cur.length ≤ 10 := by rw [hE, List.length_append] at hEl; exact Nat.le_trans (Nat.le_add_left _ _) hEl
  refine ((Tp_cmp (by trivial) (Ep_list EPs_nil (by simp)) (O2_neL (.ref R.hhp) .lst (eqV_nil _) (by have := deps_iv X; omega))).to (c := decide (X ≠ [])) (by cases X <;> simp)).tv ?_
  split
  rotate_left
  · rename_i hne
    have hne : X = [] := by simpa using hne
    subst hne
    refine Ex_nil ?_
    have hS : ∀ j, j ∈ P → j ∉ E → of j = true := fun j h1 h2 => by
      cases h : of j with
      | true => rfl
      | false => exact absurd (hH.pos ⟨h1, h2, h⟩) (Nat.lt_irrefl _)
    have hfree : freeL b of E = [] := List.eq_nil_iff_forall_not_mem.mpr fun j hj => by
      have := (free_mem b of).mp hj
      rw [hS j (R.sor.all.mpr ⟨this.1, this.2.2.2⟩) this.2.1] at this
      exact nomatch this.2.2.1
    have hoff : ∀ j, j ∈ offL b E ↔ j ∈ P ∧ j ∉ E := fun j => by
      rw [off_mem]
      exact ⟨fun h => ⟨R.sor.all.mpr ⟨h.1, h.2.2⟩, h.2.1⟩, fun h => ⟨low j h.1, h.2, (R.sor.all.mp h.1).2⟩⟩
    have hperm : (W.map nm).Perm ((offL b E).map nm) := ((List.perm_ext_iff_of_nodup hW.1 (off_nodup b E)).mpr fun j => by
      rw [hW.2, hoff]
      exact ⟨fun h => ⟨h.1, h.2.1⟩, fun h => ⟨h.1, h.2, hS j h.1 h.2⟩⟩).map nm
    have hol : (offL b E).length ≤ 10 := by
      have := nodup_len (l' := List.range 10) (off_nodup b E) fun k hk => List.mem_range.mpr ((off_mem b).mp hk).1
      rwa [List.length_range] at this
    have hxr := R.rds.r x (by simp)
    refine Ex_cons (Ex_setItem (Ep.ev (Ep_call (Ep_glb KK.g_sorted he rfl rfl) (fun _ _ _ r => r) keepsOk_builtin (EPs_cons (by trivial) EPs_nil) (OC_sorted (.ref R.hwa) (by rw [List.length_map]; omega) (sorted_law (off_sorted b E) (fun j hj => ((off_mem b).mp hj).1) hperm))) ⟨_, _, Ep_last R.rds (by omega) (by trivial) (Ep_un Ep_int O1_neg), Ep_int, SetI_list hxr (by decide) (by simp) (by simp) ?_⟩))
    have R12 := R.setRd (a := x.r) (.tail _ (mem_rdAddrs.mpr ⟨x, by simp, .inl rfl⟩)) (R.rds.setOff ((offL b E).map nm)) (by rw [rdAddrs_app, rdAddrs_app]; rfl)
    change Then prog w K A _ _ _ _ _ (σ₆.set x.r (.list [.ref x.i, .lst (((offL b E).map nm).map .str)]))
    generalize hx' : ({ x with off := (offL b E).map nm } : RD) = x' at R12
    have xk' : x'.ks = cur.map nm := by rw [← hx']; exact xk
    have xo' : x'.off = (offL b E).map nm := by rw [← hx']
    generalize σ₆.set x.r (.list [.ref x.i, .lst (((offL b E).map nm).map .str)]) = σ₇ at R12
    clear hx' xk xo hxr R
    have hxr := R12.rds.r x' (by simp)
    rw [xo'] at hxr
    refine Ex_cons (Ex_expr (Ev_fn (Ep_glb KK.g_lpod he rfl rfl) KK.f_lpod.2 ha hh ((EPs_cons (by trivial) (EPs_cons (Ep_sub (Ep_last R12.rds (by omega) (by trivial) (Ep_un Ep_int O1_neg)) Ep_int (OS_list (.ref hxr) (by decide) (c := .lst (((offL b E).map nm).map .str)) rfl (by simp))) EPs_nil)).evs
      ((sor_pod (n := n + 6) KK R12.sor (off_nodup b E) fun j hj => (hoff j).mp hj).mono ?_))))
    rintro y σ₈ ⟨ready, S8, hst⟩
    have R13 := R12.after hst S8
    clear R12 hxr hst S8
    have hPD : ∀ j ∈ P, j ∈ E ++ offL b E := fun j hj => by
      by_cases h : j ∈ E
      · exact List.mem_append_left _ h
      · exact List.mem_append_right _ ((hoff j).mpr ⟨hj, h⟩)
    refine Ex_cons (Ex_assignTS (xs := ["waiting", "fresh"]) he hh (List.forall_mem_cons.mpr ⟨rfl, List.forall_mem_cons.mpr ⟨rfl, List.forall_mem_nil _⟩⟩) (Ev_tuple (Evs_cons (Ev_list (Evs_nil ⟨by simp, fun wa' hwa' => Evs_cons (Ep.ev (Ep_list EPs_nil (by simp)) (Evs_nil ⟨by simp, _, rfl, rfl, ?_⟩))⟩)))))
    have R14 := R13.newWa hwa'
    clear R13
    generalize σ₈.set wa' (.list []) = σ₉ at R14
    obtain ⟨ns1, S1, -, -⟩ := id R14.sor.ex
    have hPl : P.length ≤ (E ++ offL b E).length := nodup_len R14.sor.dP.nd hPD
    change EX prog w K A _ (frR b rk ts hp rd wa' wr po []) σ₉ _ _
    refine Ex_cons (Ex_to (fun fr σ' => AfI b rk of AD ts d nd ra hp wr po rd (E ++ offL b E) wa' (rs ++ [x']) σ' fr)
      (Ex_if (Tv_val (Ev_methA (by trivial) S1.ts S1.d rfl KK.m_act ha hh (EPs_nil.evs ((sor_act (n := n + 8) KK.toKF R14.sor).mono ?_))))) ?_)
    · rintro y σ' ⟨rfl, rfl⟩
      refine ⟨_, OT_bool, ?_⟩
      rw [decide_eq_false (by omega), Bool.false_or]
      split
      · refine Ex_cons (Ex_assign he rfl (Ev_fn (Ep_glb KK.g_lready he rfl rfl) KK.f_lready.2 ha hh ((EPs_cons (by trivial) (EPs_cons (by trivial) (EPs_cons (by trivial) (EPs_cons (by trivial) EPs_nil)))).evs ((run_ready (n := n + 1) KK R14 (by simp)).mono ?_))))
        rintro y σ' ⟨N, P', hN, hNm, rfl, hPm, R15⟩
        have hND : ∀ j ∈ N, j ∉ E ++ offL b E := fun j hj hm => ((hNm j).mp hj).2.1 (R14.sor.sub hm)
        have hpick : ∀ (v : Bool) (f : Nat → Bool), (∀ j, f j = true ↔ of j = v) → Pick of (E ++ offL b E) P' v (N.filter f) := fun v f hf => ⟨hN.filter _, fun j => by
          rw [List.mem_filter, hPm, hf]
          constructor
          · exact fun ⟨h1, h2⟩ => ⟨.inr h1, hND j h1, h2⟩
          · exact fun ⟨h1, h2, h3⟩ => ⟨h1.resolve_left fun h => h2 (hPD j h), h3⟩⟩
        exact Ex_nil ⟨rfl, _, ⟨P', _, _, R15, hpick false (fun k => !of k) fun j => by simp, hpick true (fun k => of k) fun j => by simp⟩, by trivial⟩
      · rename_i hact
        have : ready = [] := by simpa using hact
        subst this
        have hno : ∀ v : Bool, Pick of (E ++ offL b E) P v [] := fun v => ⟨List.nodup_nil, fun j => ⟨nofun, fun h => absurd (hPD j h.1) h.2.1⟩⟩
        exact Ex_nil ⟨rfl, _, ⟨P, [], [], R14, hno false, hno true⟩, by trivial⟩
    rintro fr₁ σ₁₀ ⟨P', F', W', R15, hF', hW'⟩
    have hEn : E.length = D.length + cur.length := by rw [hE, List.length_append]
    have hgrow : D.length < (E ++ offL b E).length := by
      rw [List.length_append]
      by_cases hcu : cur.length = 0
      · have hDE : E.length < 10 := by rw [hEn, hcu]; exact hlt
        have hEdi : DI E := ⟨(List.nodup_append.mp R15.sor.dD.nd).1, fun j hj => R15.sor.dD.low j (List.mem_append_left _ hj)⟩
        have := List.length_pos_iff.mpr (hEdi.off_ne b of hfree hDE)
        rw [hEn, hcu]; exact Nat.lt_add_of_pos_right this
      · rw [hEn, Nat.add_assoc]; exact Nat.lt_add_of_pos_right (Nat.lt_of_lt_of_le (Nat.pos_of_ne_zero hcu) (Nat.le_add_right _ _))
    have hEf : D ++ cur = E := hE.symm
    refine Ex_nil (hQo _ _ ⟨_, ⟨_, ?_, E ++ offL b E, P', F', W', wa', rs ++ [x'], acc ++ [(cur, offL b E)], R15, hF', hW', hq.app xk' xo', fun q h => ?_, ?_⟩, by trivial⟩).1
    · exact Nat.sub_lt_sub_left hlt hgrow
    · rw [List.append_assoc]
      refine hrs _ ?_
      have h1 : Inn b rk of D cur := by simpa using hin [] (.stop hfree)
      rw [← hEf] at h ⊢
      exact .step hlt h1 h
    · rw [List.length_append]
      exact Nat.lt_of_le_of_lt hlen hgrow
  rename_i hne
  have hX : 0 < X.length := List.length_pos_iff.mpr (by simpa using hne)
  obtain ⟨k, ⟨hkP, hkE, hko⟩, e0, hmin⟩ := hH.min hX
  have hk10 := low k hkP
  refine Ex_cons (Ex_assign he rfl (Ep.ev (Ep_sub (by trivial) (by trivial) (OS_list (.ref R.hhp) (by decide) (c := iv (it rk k)) (by rw [← e0]; exact at_map hX) (by rw [List.length_map]; omega))) ?_))
  obtain ⟨ns1, S1, -, -⟩ := id R.sor.ex
  refine Ex_cons (Ex_if (Tv_not (Tv_val (Ev_methA (by trivial) S1.ts S1.d rfl KK.m_act ha hh (EPs_nil.evs (((sor_act (n := n + 8) KK.toKF R.sor)).mono ?_))))))
  rintro y σ₇ ⟨rfl, rfl⟩
  refine ⟨_, OT_bool, ?_⟩
  have hact : (decide (E.length < P.length) || !([] : List Str).isEmpty) = true := by
    have := nodup_len (l := k :: E) (l' := P) (List.nodup_cons.mpr ⟨hkE, R.sor.dD.nd⟩) fun j hj => by
      rcases List.mem_cons.mp hj with rfl | hj
      · exact hkP
      · exact R.sor.sub hj
    rw [List.length_cons] at this
    rw [decide_eq_true (by omega)]; rfl
  rw [hact, if_neg (show ¬ (!true) = true by decide)]
  refine Ex_nil ?_
  refine Ex_cons (Ex_expr (Ev_methA (by trivial) S1.ts S1.d rfl KK.m_done ha hh ((EPs_cons (Ep_sub (by trivial) (by trivial) (OS_list .lst (by decide) (c := .str (nm k)) rfl (by simp))) EPs_nil).evs ((sor_done (n := n + 8) KK.toKF R.sor hkP hkE).mono ?_))))
  rintro y σ₈ ⟨ready, S8, hst⟩
  have R8 := R.after hst S8
  have hW8 : Pick of (E ++ [k]) P true W := ⟨hW.1, fun j => by
    rw [hW.2, List.mem_append, List.mem_singleton]
    constructor
    · rintro ⟨h1, h2, h3⟩
      exact ⟨h1, fun q => q.elim h2 fun e => (by rw [e, hko] at h3; cases h3), h3⟩
    · rintro ⟨h1, h2, h3⟩
      exact ⟨h1, fun q => h2 (.inl q), h3⟩⟩
  clear S1 ns1 hst S8
  refine Ex_cons (Ex_assignC he (cl := _) (fc := [("names", namesV), ("ranks", ranksV rk)]) (by and_intros) rfl (Src_of (Ev_fn (Ep_glb KK.g_lready he rfl rfl) KK.f_lready.2 ha hh ((EPs_cons (by trivial) (EPs_cons (by trivial) (EPs_cons (by trivial) (EPs_cons (by trivial) EPs_nil)))).evs ((run_ready (n := n + 1) KK R8 hWl).mono ?_)))))
  rintro y σ₉ ⟨N, P', hN, hNm, rfl, hPm, R9⟩
  refine ⟨_, _, It_list hh .lst (fun _ _ => .lst) True.intro, fun _ => true, itS rk, ?_, fun _ _ => True.intro, fun _ _ _ _ _ _ _ => TestsP_nil, ?_, ?_⟩
  · rw [List.length_map, List.length_map]
    have := nodup_len (l' := List.range 10) hN fun j hj => List.mem_range.mpr ((hNm j).mp hj).1
    rw [List.length_range] at this
    exact Nat.le_trans (List.length_filter_le ..) (by omega)
  · intro σ' L' he' h i y hy _
    obtain ⟨j, hj, rfl⟩ := nm_at hy
    have hj10 := ((hNm j).mp (List.mem_filter.mp (List.mem_of_getElem? hj)).1).1
    show EP prog w K A _ _ σ' _ (iv (it rk (NM.idxOf (nm j))))
    rw [NM_idx j hj10]
    exact (Ep_list (Ep_item rk (fun _ => by trivial) (fun _ => by trivial) (fun _ => by trivial) hj10) (by simp)).to (iv_it j).symm
  have hKn : (N.filter fun k => !of k).Nodup := hN.filter _
  have hK : ∀ j, j ∈ N.filter (fun k => !of k) ↔ (j < 10 ∧ j ∉ P ∧ ∀ i ∈ need b j, i ∈ E ++ [k]) ∧ of j = false := fun j => by rw [List.mem_filter, hNm]; simp
  have hW9 : Pick of (E ++ [k]) P' true (W ++ N.filter fun k => of k) := by
    refine ⟨List.nodup_append.mpr ⟨hW.1, hN.filter _, fun a ha c hc e => ?_⟩, fun j => ?_⟩
    · subst e
      exact ((hNm _).mp (List.mem_filter.mp hc).1).2.1 ((hW.2 _).mp ha).1
    · rw [List.mem_append, hW8.2, List.mem_filter, hPm]
      constructor
      · rintro (⟨h1, h2, h3⟩ | ⟨h1, h2⟩)
        · exact ⟨.inl h1, h2, h3⟩
        · refine ⟨.inr h1, fun hm => ?_, h2⟩
          exact ((hNm _).mp h1).2.1 (R8.sor.sub hm)
      · rintro ⟨h1 | h1, h2, h3⟩
        · exact .inl ⟨h1, h2, h3⟩
        · exact .inr ⟨h1, h3⟩
  rw [map_itS rk fun j hj => ((hK j).mp hj).1.1]
  generalize hKK : N.filter (fun k => !of k) = K1 at hKn hK
  generalize W ++ N.filter (fun k => of k) = W1 at R9 hW9
  have hKl : K1.length ≤ 10 := by
    have := nodup_len (l' := List.range 10) hKn fun j hj => List.mem_range.mpr ((hK j).mp hj).1.1
    rwa [List.length_range] at this
  have hKP' : ∀ j ∈ K1, j ∈ P' := fun j hj => (hPm j).mpr (.inr (by rw [← hKK] at hj; exact (List.mem_filter.mp hj).1))
  have hPK : ∀ j ∈ P', j ∉ P → of j = false → j ∈ K1 := fun j hj hn ho => by
    rw [← hKK]; exact List.mem_filter.mpr ⟨((hPm j).mp hj).resolve_left hn, by rw [ho]; rfl⟩
  have hPP' : ∀ j ∈ P, j ∈ P' := fun j hj => (hPm j).mpr (.inl hj)
  clear hKK hNm hN hPm R8 hW8 hact
  refine Ex_cons (Ex_to (fun fr σ' => HX b rk of AD ts d nd ra hp wr po rd (E ++ [k]) P' W1 wa (rs ++ [x]) (fun j => ((j ∈ P ∧ j ∉ E ∧ of j = false) ∧ j ≠ k) ∨ j ∈ K1.take 1) (frI b rk ts hp rd wa wr po ++ ([("first", iv (it rk k)), ("fresh", .lst ((K1.map (it rk)).map iv)), ("gone", iv (it rk k))] : Vars)) σ' fr)
    (Ex_assign he rfl (Ev_ifexp (c := decide (K1 ≠ [])) ((Tp_cmp (by trivial) (Ep_list EPs_nil (by simp)) (O2_neL .lst .lst (eqV_nil _) (by have := deps_iv (K1.map (it rk)); omega))).to (by cases K1 <;> simp)) (fun h => ?_) (fun h => ?_))) ?_)
  · have hne : K1 ≠ [] := by simpa using h
    obtain ⟨m, K2, rfl⟩ := List.exists_cons_of_ne_nil hne
    have hm := (hK m).mp (.head _)
    obtain ⟨q1, q2⟩ := hH.repl hX e0 (m := m) (fun q => hm.1.2.1 q.1) hm.1.1
    refine Ev_fn (Ep_glb KK.g_repl he rfl rfl) KK.f_repl.2 ha hh ((EPs_cons (by trivial) (EPs_cons (Ep_sub (by trivial) (by trivial) (OS_list .lst (by decide) (c := iv (it rk m)) rfl (by rw [List.length_map, List.length_map]; omega))) EPs_nil)).evs
      ((fn_heapreplace (n := n + 6) KK.ok KK.f_sd KK.g_sd KK.g_len KK.f_su KK.g_su KK.f_repl R9.hhp hX (by omega) q1).mono ?_))
    rintro y σ' ⟨rfl, rfl⟩
    rw [e0]
    refine ⟨rfl, _, ⟨_, R9.setHp _, q2.congr fun j => ?_⟩, by trivial⟩
    show _ ↔ _ ∨ j ∈ [m]
    rw [List.mem_singleton]
    have hmk : m ≠ k := fun e => hm.1.2.1 (e ▸ hkP)
    constructor
    · rintro ⟨h1 | h1, h2⟩
      · exact .inl ⟨h1, h2⟩
      · exact .inr h1
    · rintro (⟨h1, h2⟩ | h1)
      · exact ⟨.inl h1, h2⟩
      · exact ⟨.inr h1, fun e => hmk (h1.symm.trans e)⟩
  · have hne : K1 = [] := by simpa using h
    subst hne
    rcases List.eq_nil_or_concat X with h0 | ⟨X0, xl, h0⟩
    · rw [h0] at hX; exact absurd hX (Nat.lt_irrefl _)
    · rw [List.concat_eq_append] at h0
      subst h0
      refine Ev_fn (Ep_glb KK.g_pop he rfl rfl) KK.f_pop.2 ha hh ((EPs_cons (by trivial) EPs_nil).evs
        ((fn_heappop (n := n + 6) KK.ok KK.f_sd KK.g_sd KK.g_len KK.f_su KK.g_su KK.f_pop R9.hhp (by rw [List.length_append] at hXl; omega) hH.nd).mono ?_))
      rintro y σ' ⟨rfl, rfl⟩
      rw [e0]
      exact ⟨rfl, _, ⟨_, R9.setHp _, (hH.pop e0).congr fun j => by simp⟩, by trivial⟩
  rintro fr₁ σ₁₀ ⟨X2, R10, hH2⟩
  refine Ex_cons (Ex_for he rfl (fun xs C j fr σ' => xs = ((K1.drop 1).map (it rk)).map iv ∧ C = (fun _ => True) ∧ HX b rk of AD ts d nd ra hp wr po rd (E ++ [k]) P' W1 wa (rs ++ [x]) (fun j' => ((j' ∈ P ∧ j' ∉ E ∧ of j' = false) ∧ j' ≠ k) ∨ j' ∈ K1.take (1 + j))
      (frI b rk ts hp rd wa wr po ++ ([("first", iv (it rk k)), ("fresh", .lst ((K1.map (it rk)).map iv)), ("gone", iv (it rk k))] : Vars)) σ' fr)
    ((SrcP_of (y := .lst (((K1.drop 1).map (it rk)).map iv)) ?_ (It_list hh .lst (fun _ _ => .lst) True.intro)).src ⟨⟨_, ⟨rfl, rfl, X2, R10, hH2⟩, by trivial⟩, fun _ _ _ _ => True.intro, ?_, ?_⟩))
  · exact Ep_slice (xs := (K1.map (it rk)).map iv) (lo := some 1) (hi := none) .lst (by rw [List.length_map, List.length_map]; omega) (by trivial) Ep_int True.intro (by simp [cutL]) (.inl ⟨1, rfl, rfl⟩)
  · rintro j y fr σ' Q hQ - - hy ⟨-, -, X3, R11, hH3⟩
    obtain ⟨m, hm, rfl⟩ : ∃ m, K1[1 + j]? = some m ∧ y = iv (it rk m) := by
      rw [List.getElem?_map, List.getElem?_map, List.getElem?_drop] at hy
      cases e : K1[1 + j]? with
      | none => rw [e] at hy; cases hy
      | some m => rw [e] at hy; cases hy; exact ⟨m, rfl, rfl⟩
    have hmK := (hK m).mp (List.mem_of_getElem? hm)
    obtain ⟨q1, q2⟩ := hH3.push (k := m) (fun q => q.elim (fun q => hmK.1.2.1 q.1.1) (notin_take hKn hm)) hmK.1.1
    refine Ex_cons (Ex_expr (Ev_fn (Ep_glb KK.g_push he rfl rfl) KK.f_push.2 ha hh ((EPs_cons (by trivial) (EPs_cons (by trivial) EPs_nil)).evs
      ((fn_heappush (n := n + 7) KK.ok KK.f_sd KK.g_sd KK.g_len KK.f_push R11.hhp (by have := hH3.few; omega) q1).mono ?_))))
    rintro y σ'' ⟨rfl, rfl⟩
    refine Ex_nil (hQ _ _ ⟨_, ⟨rfl, rfl, _, R11.setHp _, q2.congr fun i => ?_⟩, by trivial⟩).1
    rw [← Nat.add_assoc, mem_take_succ hm, or_assoc]
  rintro fr₁ σ₁₁ ⟨-, -, X3, R11, hH3⟩
  have hH3 : HeapIs rk (fun j => j ∈ P' ∧ j ∉ E ++ [k] ∧ of j = false) X3 := hH3.congr fun j => by
    rw [List.take_of_length_le (by rw [List.length_map, List.length_map, List.length_drop]; omega)]
    constructor
    · rintro (⟨⟨h1, h2, h3⟩, h4⟩ | h1)
      · exact ⟨hPP' j h1, fun hm => (List.mem_append.mp hm).elim h2 fun hm => h4 (List.mem_singleton.mp hm), h3⟩
      · have := (hK j).mp h1
        exact ⟨hKP' j h1, fun hm => (List.mem_append.mp hm).elim (fun hm => this.1.2.1 (R.sor.sub hm)) fun hm => this.1.2.1 (List.mem_singleton.mp hm ▸ hkP), this.2⟩
    · rintro ⟨h1, h2, h3⟩
      by_cases hp : j ∈ P
      · exact .inl ⟨⟨hp, fun hm => h2 (List.mem_append_left _ hm), h3⟩, fun e => h2 (by rw [e]; simp)⟩
      · exact .inr (hPK j h1 hp h3)
  refine Ex_nil ?_
  have hxi := R11.rds.i x (by simp)
  have hkl : (cur.length : Nat) ≤ 10 := hcl
  refine Ex_cons (Ex_expr (Ev_append (Ep_first R11.rds (Ep_last R11.rds (by omega) (by trivial) (Ep_un Ep_int O1_neg)) Ep_int) hxi (Ep.ev (Ep_ifexp (b := true) (Tp_cmp (by trivial) (by trivial) (O2_eqL .lst .lst (eqV_iv _) (by show A.units + 0 + 1 < _; omega))) (fun _ => Ep_sub (by trivial) (by trivial) (OS_list .lst (by decide) (c := .str (nm k)) rfl (by simp))) (fun h => nomatch h)) ⟨_, hxi, by rw [List.length_map, xk, List.length_map]; omega, ?_⟩)))
  have exs : x.ks.map MV.str ++ [.str (nm k)] = ((cur ++ [k]).map nm).map MV.str := by rw [xk]; simp
  rw [exs]
  have hfk : k ∈ freeL b of E := (free_mem b of).mpr ⟨hk10, hkE, hko, (R.sor.all.mp hkP).2⟩
  have hlst : leastL b rk of E = [k] := least_eq b rk of hfk fun j hj => by
    have := (free_mem b of).mp hj
    exact hmin j ⟨R.sor.all.mpr ⟨this.1, this.2.2.2⟩, this.2.1, this.2.2.1⟩
  have hElt := R.sor.dD.left ⟨k, hk10, hkE⟩
  refine Ex_nil (hQi _ _ ⟨_, ⟨_, ?_, E ++ [k], cur ++ [k], P', X3, W1, { x with ks := (cur ++ [k]).map nm }, R11.setRd (.tail _ (mem_rdAddrs.mpr ⟨x, by simp, .inr rfl⟩)) (R11.rds.addK _) (by rw [rdAddrs_app, rdAddrs_app]; rfl), hH3, hW9, by rw [hE, List.append_assoc], rfl, xo, fun q hq => ?_⟩, by trivial⟩).1
  · rw [List.length_append]
    exact Nat.sub_lt_sub_left hElt (Nat.lt_succ_self _)
  · rw [List.append_assoc]
    refine hin _ ?_
    rw [← hlst]
    exact .step (fun e => by rw [e] at hfk; cases hfk) (by rw [hlst]; exact hq)
end
end Mine

end
section
open PySem PySem.W PyProof.Rows
set_option maxRecDepth 100000
namespace Mine

section
variable {prog : Program} {w : World} {K : Frag} {A : Around} {e : Env} {fr : Vars} {σ : Sg} {s s' : Shared}

/-- y = [...] of strings, the list kept in sight -/
theorem Ex_assignCN {elt iter : Expr} {x y : Str} {px py : Pos} {ifs : List Expr} {scope : Scope} {cl : List (Str × Addr)} {pos spos : Pos} {fc : Vars} {xs : List MV} {C : Sg → Prop} {R : MF → Vars → Sg → Prop} (p : MV → Bool) (f : MV → MV) (ks : List Str) (he : FrE e) (k : CompOk e scope cl x fr fc) (hy : e.kindOf y = some .local)
    (hs : SrcP prog w K A e fr σ iter xs C) (hn : xs.length ≤ 1000) (hC : ∀ σ', (∀ a m, σ a = some m → σ' a = some m) → C σ')
    (ht : ∀ σ' L, FrE (ce e scope cl L) → (∀ a m, σ a = some m → σ' a = some m) → ∀ (i : Nat) (y : MV), xs[i]? = some y → TestsP prog w K A (ce e scope cl L) (setv fc x y) σ' ifs (p y))
    (hx : ∀ σ' L, FrE (ce e scope cl L) → (∀ a m, σ a = some m → σ' a = some m) → ∀ (i : Nat) (y : MV), xs[i]? = some y → p y = true → EP prog w K A (ce e scope cl L) (setv fc x y) σ' elt (f y)) (hks : (xs.filter p).map f = ks.map .str)
    (hR : ∀ D, σ D = none → R .next (setv fr y (.ref D)) (σ.set D (.list (ks.map .str))))
    (hsw : swapsWith (.ListComp elt [⟨.Name x px, iter, ifs, 0⟩] scope pos) (some (.Name y py)) spos.line e = pure true := by rfl)
    (hf : ∀ v, foldedSetIterable iter e v = pure v := by intro _; rfl) : E1 prog w K A e fr σ (.Assign [.Name y py] (.ListComp elt [⟨.Name x px, iter, ifs, 0⟩] scope pos) spos) R := fun s r => by
  show wpAny _ _ (exec _ e) _ _ _
  rw [exec_Assign_Name_used _ _ _ _ hsw]
  refine wpAny_bind (wpAny_standAt (wpAny_bind ?_))
  show wpAny _ A (do let _ ← comprehension (.ListComp elt [⟨.Name x px, iter, ifs, 0⟩] scope pos) scope e _ (newList []) false (eval iter e) (some (assign (.Name y py) e))) _ _ s
  refine wpAny_bind (wpAny_mono (wpAny_comprehension_free (use := some (assign (.Name y py) e)) (Q := fun _ s' => ∃ f' fr' σ', RepF prog w K (flOf A) e fr' σ' s' ∧ Step (own e) σ s σ' s' ∧ FlR s'.heap σ' f' .next ∧ R f' fr' σ') compPos hf k.clos k.kind k.names
    (wpAny_mono (hs s r) (fun v s₁ h₁ => wpAny_mono h₁ (fun rr s₂ ⟨it, At, e1, hit, x2, P, a0, c0⟩ => ?_) fun _ _ z => z.elim) fun _ _ z => z.elim)) (fun _ s' hq => wpAny_pure (wpAny_pure hq)) fun _ _ z => z)
  subst e1
  have r2 := r.ext x2
  obtain ⟨zi, oi, fsi, gi, hdi⟩ := P.here _ _ _ a0
  refine comp_core (RR := fun acc L => compPost (model prog w) A _ (some (assign (.Name y py) e)) _ acc L) he k hn r2 P a0 hC (fresh_own r hit) (fresh_K r.toRep hit) ht hx fun D L s' hD hL hDL ⟨m, hm⟩ mv rv => ?_
  rw [hks] at rv
  obtain ⟨_, its, nn, e1, zD, gD, rs⟩ := id rv
  cases e1
  have r3 := r2.movedNew (m' := .list (ks.map .str)) zi (fresh_own r hit) (fresh_K r.toRep hit) (notFl_fields r2.toRep gi hdi) gi (fun its n e1 => by rw [hdi] at e1; cases e1) mv hD ⟨its, nn, gD, strsVR (strsAre rs)⟩
  have hDe : D ≠ e.locals := fun e1 => by obtain ⟨f, ⟨o, _, _, g, _⟩, _⟩ := r2.loc; exact hD o (e1 ▸ g)
  show wpAny _ A (assign (.Name y py) e (.ref D)) _ _ s'
  refine wpAny_assign_Name (wpAny_mono (r3.storeX he (y := .ref D) rfl (.inl hy) (Q := fun _ s₄ => RepF prog w K (flOf A) e (setv fr y (.ref D)) (σ.set D (.list (ks.map .str))) s₄ ∧ Step (own e) (σ.set D (.list (ks.map .str))) s' (σ.set D (.list (ks.map .str))) s₄ ∧ ∀ b o, b ≠ e.locals → s'.heap.get? b = some o → s₄.heap.get? b = some o) fun s₄ r4 t4 _ ⟨a, ha, ka⟩ => ⟨r4, t4, ?_⟩) (fun _ s₄ ⟨r4, t4, k4⟩ => ?_) fun _ _ z => z.elim)
  · rcases ha with ⟨rfl, _⟩ | ⟨h1, _⟩
    · exact ka
    · rw [hy] at h1; cases h1
  · have loc2 : ∃ o, s₂.heap.get? e.locals = some o := by obtain ⟨f, ⟨o, _, _, g, _⟩, _⟩ := r2.loc; exact ⟨o, g⟩
    obtain ⟨oL2, gL2⟩ := loc2
    have hLL : L ≠ e.locals := fun e1 => hL _ (e1 ▸ gL2)
    have hm4 : s₄.heap.Ns L m := by
      obtain ⟨o, es, ep, g, q⟩ := hm
      exact ⟨o, es, ep, k4 L o hLL g, q⟩
    obtain ⟨oL, gL, nL⟩ := ns_notSeq hm4
    refine ⟨m, hm4, fun h' hs' => ?_⟩
    have zL : (σ.set D (.list (ks.map .str))) L = none := Sg.set_none' σ (Ne.symm hDL) (fresh_none r2.toRep hL)
    obtain ⟨r5, _⟩ := r4.moved (s' := { s₄ with heap := h' }) zL (fresh_own r2 hL) (fresh_K r2.toRep hL) (notFl_fresh r2.toRep hL) gL nL ⟨fun b o hb g => hs'.extBut b o hb g, rfl, rfl⟩
    have aD : ∀ a o, s.heap.get? a = some o → a ≠ D := fun a o g e1 => hD o (e1 ▸ x2.keep _ _ g)
    have up : ∀ a o, s.heap.get? a = some o → s'.heap.get? a = some o := fun a o g => mv.keep a o (fun e1 => hit o (e1 ▸ g)) (x2.keep _ _ g)
    refine ⟨.next, _, _, r5, ⟨fun a o g z q nf => ⟨?_, Sg.set_none' σ (aD a o g) z⟩, fun a o g z q hF => ?_, t4.os.trans (mv.os.trans x2.os), t4.gens.trans (mv.gens.trans x2.gens)⟩, rfl, hR D (fresh_none r2.toRep hD)⟩
    · exact hs'.extBut a o (fun e1 => hL _ (e1 ▸ x2.keep _ _ g)) (t4.keep a o (up a o g) (Sg.set_none' σ (aD a o g) z) q nf).1
    · obtain ⟨h1, sl, h2⟩ := t4.fr a o (up a o g) (Sg.set_none' σ (aD a o g) z) q hF
      exact ⟨h1, sl, hs'.extBut a _ (fun e1 => hL _ (e1 ▸ x2.keep _ _ g)) h2⟩

/-- l == r where both may change the store -/
theorem Ev_cmp {l r : Expr} {op : CmpOp} {pos : Pos} {R : MV → Sg → Prop} (hl : Ev prog w K A e fr σ (eval l e) fun a σ₁ => Ev prog w K A e fr σ₁ (eval r e) fun b σ₂ => ∃ c, O2 prog w K A σ₂ (compareOp op) a b c ∧ R c σ₂) (hm : behindInMarks op r = false := by rfl) :
    Ev prog w K A e fr σ (eval (.Compare l [op] [r] pos) e) R := fun s x =>
  wpAny_Compare1 (wpAny_mono (hl s x) (fun va s₁ ⟨a, σ₁, r1, t1, ra, h1⟩ => wpAny_mono (h1 s₁ r1) (fun vb s₂ ⟨b, σ₂, r2, t2, rb, c, ho, hR⟩ =>
    wpAny_mono (ho s₂ va vb r2.toRep (r1.vr t2 ra) rb) (fun vc s₃ ⟨t3, rc⟩ => ⟨c, σ₂, r2.ext t3, (t1.trans t2).trans t3.step, rc, hR⟩) fun _ _ f => f) fun _ _ f => f) fun _ _ f => f) hm

/-- nothing in sight -/
noncomputable def none0 : Sg := fun _ => none
theorem VRs.strs0 {h : Heap} : ∀ {ss : List Str} {l : List Value}, VRs h σ (ss.map .str) l → VRs h none0 (ss.map .str) l
  | [], _, e => e
  | _ :: _, _, ⟨v, vs, e, rv, q⟩ => ⟨v, vs, e, rv, VRs.strs0 q⟩
theorem VR.lst0 {h : Heap} {ss : List Str} {v : Value} (r : VR h σ (.lst (ss.map .str)) v) : VR h none0 (.lst (ss.map .str)) v := by
  obtain ⟨a, its, n, e, _, g, q⟩ := r
  exact ⟨a, its, n, e, rfl, g, q.strs0⟩
theorem VRs.cons_inv {h : Heap} {y : MV} {ys : List MV} {l : List Value} (r : VRs h σ (y :: ys) l) : ∃ v vs, l = v :: vs ∧ VR h σ y v ∧ VRs h σ ys vs := r
noncomputable def rdV (x : RD) : MV := .lst [.lst (x.ks.map .str), .lst (x.off.map .str)]
theorem Rep.ref_list {fl : List Addr} (r : Rep prog w K fl σ s) {a : Addr} {ss : List Str} (h : σ a = some (.list (ss.map .str))) : VR s.heap none0 (.lst (ss.map .str)) (.ref a) := by
  obtain ⟨its, n, g, q⟩ := r.objs _ _ h
  exact ⟨a, its, n, rfl, rfl, g, q.strs0⟩
theorem Rep.rounds {fl : List Addr} (r : Rep prog w K fl σ s) {rd : Addr} {rs : List RD} (h : RoundsAt σ rd rs) : VR s.heap none0 (.lst (rs.map rdV)) (.ref rd) := by
  obtain ⟨its, n, g, q⟩ := r.objs _ _ h.top
  refine ⟨rd, its, n, rfl, rfl, g, ?_⟩
  have h1 := h.r
  have h2 := h.i
  clear h g
  generalize its.toList = l at q
  induction rs generalizing l with
  | nil => exact q
  | cons x rs ih =>
    obtain ⟨v, vs, e1, rv, q⟩ := VRs.cons_inv q
    cases (show v = .ref x.r from rv)
    refine ⟨_, vs, e1, ?_, ih (fun y hy => h1 y (.tail _ hy)) (fun y hy => h2 y (.tail _ hy)) vs q⟩
    obtain ⟨its, n, g, q2⟩ := r.objs _ _ (h1 x (.head _))
    refine ⟨x.r, its, n, rfl, rfl, g, ?_⟩
    obtain ⟨v1, u1, e2, rv1, q3⟩ := VRs.cons_inv q2
    obtain ⟨v2, u2, e3, rv2, q4⟩ := VRs.cons_inv q3
    cases (show v1 = .ref x.i from rv1)
    exact ⟨_, u1, e2, r.ref_list (h2 x (.head _)), v2, u2, e3, rv2.lst0, q4⟩

theorem eqV_rdV (x : RD) : eqV (rdV x) (rdV x) = some true := by
  have h1 := eqVs_strs x.ks x.ks rfl
  have h2 := eqVs_strs x.off x.off rfl
  simp [rdV, eqV, eqVs, h1, h2]
theorem eqVs_rdV : ∀ rs : List RD, eqVs (rs.map rdV) (rs.map rdV) = some true
  | [] => by simp [eqVs]
  | x :: rs => by rw [List.map_cons]; simp [eqVs, eqV_rdV x, eqVs_rdV rs]
theorem dep_rdV (x : RD) : dep (rdV x) = 2 := by
  unfold rdV
  simp [dep, deps, deps_strs]
theorem deps_rdV : ∀ rs : List RD, deps (rs.map rdV) ≤ 2
  | [] => Nat.zero_le _
  | x :: rs => by rw [List.map_cons, deps, dep_rdV]; have := deps_rdV rs; omega

/-- the run's answer is what is due -/
theorem O2_same {rd wr rd' : Addr} {rs rs' : List RD} (h1 : RoundsAt σ rd rs) (h2 : RoundsAt σ rd' rs') (hw : σ wr = some (.list [])) (he : rs.map (fun x => (x.ks, x.off)) = rs'.map fun x => (x.ks, x.off)) (hu : A.units + 10 < cLine) :
    O2 prog w K A σ (compareOp .Eq) (.tup [.ref rd, .bool false, .ref wr]) (.tup [.ref rd', .bool false, .lst []]) (.bool true) := fun s va vb r ra rb => by
  have ev : rs.map rdV = rs'.map rdV := by
    have : rdV = (fun p : List Str × List Str => MV.lst [.lst (p.1.map .str), .lst (p.2.map .str)]) ∘ fun x : RD => (x.ks, x.off) := rfl
    rw [this, ← List.map_map, ← List.map_map, he]
  obtain ⟨a, its, n, rfl, _, g, q⟩ := ra
  obtain ⟨b, its2, n2, rfl, _, g2, q2⟩ := rb
  have n1 : ∀ {v}, VR s.heap σ (.lst []) v → VR s.heap none0 (.lst []) v := fun h => VR.lst0 (ss := []) h
  have q' : VRs s.heap none0 [.lst (rs.map rdV), .bool false, .lst []] its.toList := by
    obtain ⟨v1, u1, e1, r1, q⟩ := VRs.cons_inv q
    obtain ⟨v2, u2, e2, r2, q⟩ := VRs.cons_inv q
    obtain ⟨v3, u3, e3, r3, q⟩ := VRs.cons_inv q
    cases (show v1 = .ref rd from r1)
    cases (show v3 = .ref wr from r3)
    exact ⟨_, u1, e1, r.rounds h1, v2, u2, e2, r2, _, u3, e3, r.ref_list (ss := []) hw, q⟩
  have q2' : VRs s.heap none0 [.lst (rs.map rdV), .bool false, .lst []] its2.toList := by
    obtain ⟨v1, u1, e1, r1, q⟩ := VRs.cons_inv q2
    obtain ⟨v2, u2, e2, r2, q⟩ := VRs.cons_inv q
    obtain ⟨v3, u3, e3, r3, q⟩ := VRs.cons_inv q
    cases (show v1 = .ref rd' from r1)
    exact ⟨_, u1, e1, ev ▸ r.rounds h2, v2, u2, e2, r2, _, u3, e3, n1 r3, q⟩
  have h : eqVs [MV.lst (rs.map rdV), .bool false, .lst []] [MV.lst (rs.map rdV), .bool false, .lst []] = some true := by
    have := eqVs_rdV rs
    simp [eqVs, eqV, this]
  have hd := deps_rdV rs
  have hs1 := q'.size
  have hs2 := q2'.size
  obtain ⟨f, hf, hall⟩ := eqVs_all h
  refine SeqAt.eq_tupleAt (e := f) (isTupH g) (isTupH g2) (by omega) (fun j j1 j2 => ?_) ⟨.refl, by rw [hs1, hs2, Nat.min_self, hall, beq_self_eq_true, Bool.and_true]; rfl⟩
  obtain ⟨x, hx, r1⟩ := q'.getE j1
  obtain ⟨y, hy, r2⟩ := q2'.getE j2
  refine EQ 4 ?_ (hf j x y hx hy) r1 r2 (by show A.units + 1 + 4 < _; omega)
  have := deps_mem hx
  simp only [deps, dep] at this
  exact Nat.le_trans this (Nat.max_le.mpr ⟨Nat.le_trans (Nat.add_le_add_right hd 1) (by decide), by decide⟩)
end
end Mine

end
section
open PySem PySem.W PyProof.Rows
set_option maxRecDepth 100000
namespace Mine

/-! law's own numbers -/
noncomputable def DEF : List Int := [256, 1, 512, 4, 770, 768, 288, 584, 768, 16]
noncomputable def num (sc : List Int) : List Int := sc.take 10 ++ DEF.drop (sc.take 10).length
theorem num_len (sc : List Int) : (num sc).length = 10 := by
  unfold num
  have : DEF.length = 10 := rfl
  rw [List.length_append, List.length_drop, this, List.length_take]; exact Nat.add_sub_cancel' (Nat.min_le_left _ _)
noncomputable def numAt (sc : List Int) (k : Nat) : Int := ((num sc)[k]?).getD 0
theorem num_get (sc : List Int) {k : Nat} (h : k < 10) : (num sc)[k]? = some (numAt sc k) := by
  have : k < (num sc).length := by rw [num_len]; exact h
  simp [numAt, this]
theorem num_map (sc : List Int) : num sc = (List.range 10).map (numAt sc) := by
  refine List.ext_getElem? fun i => ?_
  rw [List.getElem?_map]
  by_cases h : i < 10
  · rw [num_get sc h, List.getElem?_range h]; rfl
  · rw [List.getElem?_eq_none (by rw [num_len]; omega), List.getElem?_eq_none (by rw [List.length_range]; omega)]; rfl
noncomputable def bitB (x : Int) (j : Nat) : Bool := Int.fmod (Int.fdiv x (2 ^ j)) 2 == 1
noncomputable def bOf (sc : List Int) (k j : Nat) : Bool := bitB (numAt sc k) j
noncomputable def rOf (sc : List Int) (k : Nat) : Int := Int.fmod (Int.fdiv (numAt sc k) 256) 4
noncomputable def tot (sc : List Int) : Int := (sc.take 10).sum + 33
noncomputable def oOf (sc : List Int) (k : Nat) : Bool := bitB (tot sc) k
theorem small_div (x : Int) (j : Nat) (h : j < 10) : Builtin.divisionGoesByPylong x (2 ^ j) = false := by
  have h1 : ∀ j, j < 10 → decide ((if ((2 : Int) ^ j == 0) = true then 0 else ((2 : Int) ^ j).natAbs.log2 / 30 + 1) > 300) = false := by decide +kernel
  unfold Builtin.divisionGoesByPylong
  dsimp only
  rw [h1 j h]; rfl
theorem pow_ne (j : Nat) : (2 : Int) ^ j ≠ 0 := by
  have : (0 : Int) < 2 ^ j := Int.pow_pos (by decide)
  omega
theorem nums_n (n : Nat) : nums 0 1 n = (List.range n).map fun k : Nat => MV.int k := by
  unfold nums
  refine List.map_congr_left fun k _ => ?_
  rw [Int.zero_add, Int.mul_one]
noncomputable def charsOf (k : Nat) : List Str := (nm k).cps.toList.map fun c => ⟨#[c]⟩
theorem join_chars : ∀ k, k < 10 → Txt.join "" (charsOf k) = nm k := by decide +kernel
theorem nm_ascii : ∀ k, k < 10 → (nm k).cps.all (· < 128) = true := by decide +kernel
theorem chars_short : ∀ k, k < 10 → ((charsOf k).map (·.length)).sum ≤ 10000 ∧ (charsOf k).length ≤ 1000 := by decide +kernel
noncomputable def rowS (b : Nat → Nat → Bool) : MV → MV
  | .int k => .lst ((need b k.toNat).map fun j : Nat => .int j)
  | _ => .none
noncomputable def rankS : MV → MV
  | .int x => .int (Int.fmod (Int.fdiv x 256) 4)
  | _ => .none

noncomputable def IntsE : List Expr → List Int → Prop
  | [], [] => True
  | x :: r, j :: s => (∃ k p, x = .Constant (.int j) k p) ∧ IntsE r s
  | _, _ => False
noncomputable def StrsE : List Expr → List Str → Prop
  | [], [] => True
  | x :: r, j :: s => (∃ k p, x = .Constant (.str j) k p) ∧ StrsE r s
  | _, _ => False

section
variable {prog : Program} {w : World} {K : Frag} {A : Around} {e : Env} {fr : Vars} {σ : Sg} {s s' : Shared}
local macro_rules | `(tactic| trivial) => `(tactic| first | exact SubL.n | (refine SubL.c rfl ?_; trivial) | exact Ep_local (by assumption) rfl rfl rfl | exact Ep_cell (by assumption) rfl rfl rfl | exact Ep_int | exact Ep_none)
local macro_rules | `(tactic| and_intros) => `(tactic| exact CompOk.mk rfl rfl (by decide) (by trivial) (nodup_of rfl) (fun _ => rfl) (by first | (intro _ _ h; cases h; done) | (intro C c _ h; exact (Option.some.inj h) ▸ Nat.lt_succ_self _)) (by trivial) (fun _ => rfl) (by intro C; repeat (first | exact List.forall_mem_nil _ | (refine List.forall_mem_cons.mpr ⟨rfl, ?_⟩))) rfl)

theorem EPs_ints : ∀ {xs : List Expr} {is : List Int}, IntsE xs is → EPs prog w K A e fr σ xs (is.map .int)
  | [], [], _ => EPs_nil
  | [], _ :: _, h => h.elim
  | _ :: _, [], h => h.elim
  | _ :: _, _ :: _, ⟨⟨_, _, e1⟩, h⟩ => by rw [e1]; exact EPs_cons Ep_int (EPs_ints h)
theorem EPs_strs : ∀ {xs : List Expr} {is : List Str}, StrsE xs is → EPs prog w K A e fr σ xs (is.map .str)
  | [], [], _ => EPs_nil
  | [], _ :: _, h => h.elim
  | _ :: _, [], h => h.elim
  | _ :: _, _ :: _, ⟨⟨_, _, e1⟩, h⟩ => by rw [e1]; exact EPs_cons Ep_str (EPs_strs h)
/-- a goal that unification does not look into -/
structure Hid (P : Prop) : Prop where
  get : P
theorem Ep_binH {l r : Expr} {op : Operator} {pos : Pos} {a b c : MV} (hl : EP prog w K A e fr σ l a) (hr : Hid (EP prog w K A e fr σ r b)) (ho : O2 prog w K A σ (binaryOp op) a b c) : EP prog w K A e fr σ (.BinOp l op r pos) c := Ep_bin hl hr.get ho
theorem Hid_slice {xs : List Expr} {is : List Int} {lower : Expr} {p0 p pos : Pos} {i : Nat} (h : IntsE xs is) (hn : is.length ≤ 1000) (hl : EP prog w K A e fr σ lower (.int i)) : Hid (EP prog w K A e fr σ (.Subscript (.List xs p0) (.Slice (some lower) none none p) pos) (.lst ((is.drop i).map .int))) :=
  ⟨Ep_slice (xs := is.map .int) (lo := some (i : Int)) (hi := none) .lst (by rw [List.length_map]; omega) (Ep_list (EPs_ints h) (by rw [List.length_map]; exact hn)) hl True.intro (by simp [cutL]) (.inl ⟨i, rfl, rfl⟩)⟩
theorem Ex_consH {st : Stmt} {rest : List Stmt} {R : MF → Vars → Sg → Prop} (h : E1 prog w K A e fr σ st fun f fr' σ' => f = .next ∧ Hid (EX prog w K A e fr' σ' rest R)) : EX prog w K A e fr σ (st :: rest) R :=
  Ex_cons (h.mono fun _ _ _ ⟨h1, h2⟩ => h1 ▸ h2.get)
theorem Hid_names {x : Str} {p p0 pos : Pos} {xs : List Expr} {is : List Str} {rest : List Stmt} {R : MF → Vars → Sg → Prop} (he : FrE e) (hx : nameOk e x = true) (h : StrsE xs is) (hn : is.length ≤ 1000) (hR : EX prog w K A e (setv fr x (.lst (is.map .str))) σ rest R)
    (hs : swapsWith (.List xs p0) (some (.Name x p)) pos.line e = pure false := by rfl) : Hid (EX prog w K A e fr σ (.Assign [.Name x p] (.List xs p0) pos :: rest) R) :=
  ⟨Ex_cons (Ex_assign he hx (Ep.ev (Ep_list (EPs_strs h) (by rw [List.length_map]; exact hn)) hR) hs)⟩
/-- x // 2 ** j % 2 == 1 -/
theorem Tp_bit {x j : Expr} {p1 p2 p3 p4 : Pos} {c1 c2 c3 : Nat} {q1 q2 q3 : Pos} {a : Int} {k : Nat} (hx : EP prog w K A e fr σ x (.int a)) (hj : EP prog w K A e fr σ j (.int k)) (hk : k < 10) :
    TP prog w K A e fr σ (.Compare (.BinOp (.BinOp x .FloorDiv (.BinOp (.Constant (.int 2) c1 q1) .Pow j p1) p2) .Mod (.Constant (.int 2) c2 q2) p3) [.Eq] [.Constant (.int 1) c3 q3] p4) (bitB a k) :=
  Tp_cmp (Ep_bin (Ep_bin hx ((Ep_bin Ep_int hj (O2_powI (by omega) (by omega) (by decide))).to (by rw [Int.toNat_natCast])) (O2_divI (pow_ne k) (small_div a k hk))) Ep_int (O2_modI (by decide))) Ep_int O2_eqI

set_option maxHeartbeats 1000000 in
theorem fn_law {n : Nat} (KK : KL K) (sc : List Int) (hsc : sc.length ≤ 63) : Fn prog w K (n + 12) (.ref 252) [.lst (sc.map .int)] σ (fun y _ => y = .bool true) := by
  refine Fn_pos KK.ok KK.f_law.1 ["script"] (by decide +kernel) rfl (fun _ _ _ _ _ _ _ _ => len1 fun _ => rfl) ?_
  intro L q cdv A ha hh
  have he : FrE (fe (fS (topS 23)) L q 252 cdv) := frE_fe rfl
  have hu : A.units + 10 < cLine := by have := ha.units; omega
  have cutS : ∀ {fr : Vars} {σ : Sg} {p1 p2 p3 p4 c}, fr.lookup ("script" : Str) = some (.lst (sc.map .int)) → EP prog w K A (fe (fS (topS 23)) L q 252 cdv) fr σ (.Subscript (.Name "script" p1) (.Slice none (some (.Constant (.int 10) c p2)) none p3) p4) (.lst ((sc.take 10).map .int)) := fun hl =>
    Ep_slice (xs := sc.map .int) (lo := none) (hi := some 10) .lst (by rw [List.length_map]; omega) (Ep_local he rfl hl rfl) True.intro Ep_int (by simp [cutL]) (.inr ⟨10, rfl, rfl⟩)
  have htk : (sc.take 10).length ≤ 10 := List.length_take_le ..
  have e1 : MV.lst ((sc.take 10).map .int ++ (DEF.drop (sc.take 10).length).map .int) = .lst ((num sc).map .int) := by unfold num; rw [List.map_append]
  have l1 : ((sc.take 10).map MV.int).length ≤ 10000 := by rw [List.length_map]; omega
  have l2 : ((DEF.drop (sc.take 10).length).map MV.int).length ≤ 10000 := by rw [List.length_map, List.length_drop]; exact Nat.le_trans (Nat.sub_le ..) (by decide)
  refine Ex_consH (Ex_assign he rfl (Ep.ev ((Ep_binH (cutS rfl) (Hid_slice (is := DEF) (i := (sc.take 10).length) ?_ (by decide) ?_) (O2_addL .lst .lst l1 l2)).to e1) ⟨rfl, Hid_names (is := NM) he rfl ?_ (by decide) ?_⟩))
  · exact ⟨⟨_, _, rfl⟩, ⟨_, _, rfl⟩, ⟨_, _, rfl⟩, ⟨_, _, rfl⟩, ⟨_, _, rfl⟩, ⟨_, _, rfl⟩, ⟨_, _, rfl⟩, ⟨_, _, rfl⟩, ⟨_, _, rfl⟩, ⟨_, _, rfl⟩, True.intro⟩
  · exact (Ep_call (Ep_glb KK.g_len he rfl rfl) (fun _ _ _ r => r) keepsOk_builtin (EPs_cons (cutS rfl) EPs_nil) (OC_len .lst (by rw [List.length_map]; omega))).to (by rw [List.length_map])
  · exact ⟨⟨_, _, rfl⟩, ⟨_, _, rfl⟩, ⟨_, _, rfl⟩, ⟨_, _, rfl⟩, ⟨_, _, rfl⟩, ⟨_, _, rfl⟩, ⟨_, _, rfl⟩, ⟨_, _, rfl⟩, ⟨_, _, rfl⟩, ⟨_, _, rfl⟩, True.intro⟩
  change EX prog w K A _ [("script", .lst (sc.map .int)), ("numbers", .lst ((num sc).map .int)), ("names", namesV)] σ _ _
  have hnl := num_len sc
  have nat_ : ∀ {σ : Sg} {k : Nat}, k < 10 → OS prog w K A σ (.lst ((num sc).map .int)) (.int k) (.int (numAt sc k)) := fun h =>
    OS_list .lst (by omega) (by rw [Int.toNat_natCast, List.getElem?_map, num_get sc h]; rfl) (by rw [List.length_map, hnl]; decide)
  have r10 : ∀ {fr : Vars} {σ : Sg} {p1 p2 p3 c}, SrcP prog w K A (fe (fS (topS 23)) L q 252 cdv) fr σ (.Call (.Name "range" p1) [.Constant (.int 10) c p2] [] p3) (nums 0 1 10) (fun _ => True) :=
    SrcP_range (ys := [.int 10]) (a := 0) (b := 10) (c := 1) (n := 10) hh (Ep_glb KK.g_range he rfl rfl) (EPs_cons Ep_int EPs_nil) (.inl ⟨rfl, rfl, rfl⟩) (by decide +kernel) (by decide +kernel)
  refine Ex_cons (Ex_assignC he (cl := _) (fc := [("numbers", .lst ((num sc).map .int))]) (by and_intros) rfl (r10.src ⟨fun _ => true, rowS (bOf sc), by decide, fun _ _ => True.intro, fun _ _ _ _ _ _ _ => TestsP_nil, ?_, ?_⟩))
  · intro σ' L' he' h i y hy _
    rw [nums_n] at hy
    obtain ⟨k, hk, rfl⟩ := ints_at hy
    have hk := List.mem_range.mp hk
    have hmin : (if (8 : Int) < (k : Int) then (8 : Int) else (k : Int)) = ((min k 8 : Nat) : Int) := by split <;> omega
    have hsz : ∀ m, m ≤ 8 → Builtin.Range.rangeSize 0 (m : Nat) 1 = m ∧ Builtin.Range.small 0 (m : Nat) 1 = true := by decide +kernel
    have hm : min k 8 ≤ 8 := Nat.min_le_right ..
    refine (Ep_comp (isI fun j => bitB (numAt sc k) j) id he' (cl := _) (fc := [("numbers", .lst ((num sc).map .int)), ("k", .int k)]) (by and_intros) (SrcP_range (ys := [.int ((min k 8 : Nat) : Int)]) (a := 0) (b := ((min k 8 : Nat) : Int)) (c := 1) (n := min k 8) hh (Ep_glb KK.g_range he' rfl rfl) (EPs_cons ((Ep_call (Ep_glb KK.g_min he' rfl rfl) (fun _ _ _ r => r) keepsOk_builtin (EPs_cons (by trivial) (EPs_cons Ep_int EPs_nil)) (OC_min hh)).to (congrArg MV.int hmin)) EPs_nil) (.inl ⟨rfl, rfl, rfl⟩) (hsz _ hm).1 (hsz _ hm).2) ?_ (fun _ _ => True.intro) ?_ ?_).to ?_
    · rw [nums_n, List.length_map, List.length_range]; omega
    · intro σ'' L'' he'' h' i y hy
      rw [nums_n] at hy
      obtain ⟨j, hj, rfl⟩ := ints_at hy
      have hj := List.mem_range.mp hj
      exact TestsP_one (Tp_bit (Ep_sub (by trivial) (by trivial) (nat_ hk)) (by trivial) (by omega))
    · intro σ'' L'' he'' h' i y hy _
      exact by trivial
    · rw [nums_n, filter_isI, map_id_ints]; rfl
  have hneeds : MV.lst (((nums 0 1 10).filter fun _ => true).map (rowS (bOf sc))) = needsV (bOf sc) := by
    rw [List.filter_eq_self.mpr fun _ _ => rfl, nums_n, List.map_map]; rfl
  rw [hneeds]
  change EX prog w K A _ [("script", .lst (sc.map .int)), ("numbers", .lst ((num sc).map .int)), ("names", namesV), ("needs", needsV (bOf sc))] σ _ _
  have hranks : MV.lst ((((num sc).map MV.int).filter fun _ => true).map rankS) = ranksV (rOf sc) := by
    rw [List.filter_eq_self.mpr fun _ _ => rfl, num_map, List.map_map, List.map_map]; rfl
  have st : ∀ {x : Str} {p : Pos}, ∀ (M : Model) (A : Around) (v : Value) (Q : Unit → Shared → Prop) (E : Value → Shared → Prop) (s : Shared), wpAny M A (storeName (fe (fS (topS 23)) L q 252 cdv) x v) Q E s → wpAny M A (assign (.Name x p) (fe (fS (topS 23)) L q 252 cdv) v) Q E s := fun M A v Q E s h => wpAny_assign_Name h
  refine Ex_cons (Ex_assignT (xs := ["ranks", "total"]) he hh ⟨st, rfl, st, rfl, True.intro⟩ (Ep.ev (y := .tup [ranksV (rOf sc), .int (tot sc)]) (Ep_tuple (EPs_cons ((Ep_comp (fun _ => true) rankS he (cl := _) (fc := []) (by and_intros) (SrcP_of (by trivial) (It_list hh .lst (fun _ _ => .lst) True.intro)) ?_ (fun _ _ => True.intro) (fun _ _ _ _ _ _ _ => TestsP_nil) ?_).to hranks) (EPs_cons (Ep_bin (Ep_call (Ep_glb KK.g_sum he rfl rfl) (fun _ _ _ r => r) keepsOk_builtin (EPs_cons (cutS rfl) EPs_nil) (OC_sum hh .lst)) Ep_int O2_addI) EPs_nil)) (by simp)) ⟨_, rfl, rfl, ?_⟩))
  · rw [List.length_map, hnl]; decide
  · intro σ' L' he' h i y hy _
    rw [List.getElem?_map] at hy
    obtain ⟨x, hx, rfl⟩ := Option.map_eq_some_iff.mp hy
    exact Ep_bin (Ep_bin (by trivial) Ep_int (O2_divI (by decide) rfl)) Ep_int (O2_modI (by decide))
  change EX prog w K A _ [("script", .lst (sc.map .int)), ("numbers", .lst ((num sc).map .int)), ("names", namesV), ("needs", needsV (bOf sc)), ("ranks", ranksV (rOf sc)), ("total", .int (tot sc))] σ _ _
  refine Ex_cons (Ex_assignCN (isI fun k => bitB (tot sc) k) numS (offN (oOf sc)) he (cl := _) (fc := [("names", namesV), ("total", .int (tot sc))]) (by and_intros) rfl r10 (by decide) (fun _ _ => True.intro) ?_ ?_ ?_ fun po hpo => ?_)
  · intro σ' L' he' h i y hy
    rw [nums_n] at hy
    obtain ⟨k, hk, rfl⟩ := ints_at hy
    exact TestsP_one (Tp_bit (by trivial) (by trivial) (List.mem_range.mp hk))
  · intro σ' L' he' h i y hy _
    rw [nums_n] at hy
    obtain ⟨k, hk, rfl⟩ := ints_at hy
    have hk := List.mem_range.mp hk
    have hchars : ((((nm k).cps.toList.map fun c => MV.str ⟨#[c]⟩).filter fun _ => true).map id) = (charsOf k).map .str := by
      rw [List.filter_eq_self.mpr fun _ _ => rfl, List.map_id]; unfold charsOf; rw [List.map_map]; rfl
    refine Ep_bmeth Ep_str isStrT F.plainAttrs_str F.slot_str_join F.type_str_join (EPs_cons ((Ep_comp (fun _ => true) id he' (cl := _) (fc := []) (by and_intros) (SrcP_of (Ep_sub (by trivial) (by trivial) (names_at hk)) (It_str hh (nm_ascii k hk))) ?_ (fun _ _ => True.intro) (fun _ _ _ _ _ _ _ => TestsP_nil) (fun σ'' L'' he'' h' i y hy _ => by trivial)).to (congrArg MV.lst hchars)) EPs_nil) (OC_join .lst rfl (chars_short k hk).1 (join_chars k hk))
    have := (chars_short k hk).2
    unfold charsOf at this
    rwa [List.length_map] at this ⊢
  · rw [nums_n, filter_isI, List.map_map]
    unfold offN
    rw [List.map_map]; rfl
  change EX prog w K A _ [("script", .lst (sc.map .int)), ("numbers", .lst ((num sc).map .int)), ("names", namesV), ("needs", needsV (bOf sc)), ("ranks", ranksV (rOf sc)), ("total", .int (tot sc)), ("put_off", .ref po)] _ _ _
  refine Ex_cons (Ex_return (Ev_cmp (Ev_fn (Ep_glb KK.g_lrun he rfl rfl) KK.f_lrun.2 ha hh ((EPs_cons (by trivial) (EPs_cons (by trivial) (EPs_cons (by trivial) (EPs_cons (by trivial) EPs_nil)))).evs ((fn_lrun (n := n + 1) (bOf sc) (rOf sc) (oOf sc) KK (Sg.set_same ..)).mono ?_)))))
  rintro y σ₁ ⟨rd, wr, rs, ns, rfl, hR, hRo, hRQ, hwr, hpo1⟩
  refine Ev_fn (Ep_glb KK.g_ldue he rfl rfl) KK.f_ldue.2 ha hh ((EPs_cons (by trivial) (EPs_cons (by trivial) (EPs_cons (by trivial) (EPs_cons (by trivial) EPs_nil)))).evs ((fn_ldue (n := n + 10) (bOf sc) (rOf sc) (oOf sc) KK hpo1).mono ?_))
  rintro y σ₂ ⟨rd2, rs2, ns2, rfl, hR2, hRo2, hRQ2, old⟩
  refine ⟨_, O2_same (hR.keep fun a _ m h => old a m h) hR2 (old _ _ hwr) ?_ hu, rfl⟩
  rw [hRo.det _ _ _ hRo2] at hRQ
  exact hRQ.trans hRQ2.symm
end
end Mine

end
section
open PySem PySem.W PyProof.Rows
set_option maxRecDepth 100000
namespace Mine

theorem lookup_out {β : Type} {a : Nat} : ∀ {l : List (Nat × β)}, a ∉ l.map (·.1) → l.lookup a = none
  | [], _ => rfl
  | (b, v) :: l, h => by
    rw [List.map_cons, List.mem_cons, not_or] at h
    rw [List.lookup_cons, beq_eq_false_iff_ne.mpr h.1]
    exact lookup_out h.2
noncomputable def fragOf (h : Heap) : Frag := (List.range h.objs.size).filterMap fun a => (h.get? a).map (a, ·)
theorem lookup_filterMap {β : Type} (f : Nat → Option β) (a : Nat) : ∀ l : List Nat, a ∈ l → (l.filterMap fun b => (f b).map (b, ·)).lookup a = f a
  | b :: l, h => by
    rw [List.filterMap_cons]
    by_cases e : a = b
    · subst e
      cases q : f a with
      | none =>
        show (l.filterMap _).lookup a = none
        by_cases hm : a ∈ l
        · rw [lookup_filterMap f a l hm, q]
        · refine lookup_out fun hm2 => ?_
          obtain ⟨p, hp, e2⟩ := List.mem_map.mp hm2
          obtain ⟨c, hc, e3⟩ := List.mem_filterMap.mp hp
          obtain ⟨v, hv, e4⟩ := Option.map_eq_some_iff.mp e3
          rw [← e4] at e2
          exact hm (e2 ▸ hc)
      | some v =>
        show List.lookup a ((a, v) :: _) = some v
        rw [List.lookup_cons, beq_self_eq_true]
    · have hm : a ∈ l := (List.mem_cons.mp h).resolve_left e
      have ih := lookup_filterMap f a l hm
      cases q : f b with
      | none => exact ih
      | some v =>
        show List.lookup a ((b, v) :: _) = f a
        rw [List.lookup_cons, beq_eq_false_iff_ne.mpr e]; exact ih
theorem lookup_frag (h : Heap) (a : Addr) : (fragOf h).lookup a = h.get? a := by
  by_cases e : a < h.objs.size
  · exact lookup_filterMap h.get? a _ (List.mem_range.mpr e)
  · have h1 : h.get? a = none := by
      cases q : h.get? a with
      | none => rfl
      | some o => exact absurd (Heap.lt_size q) e
    rw [h1]
    refine lookup_out fun hm2 => ?_
    obtain ⟨p, hp, e2⟩ := List.mem_map.mp hm2
    obtain ⟨c, hc, e3⟩ := List.mem_filterMap.mp hp
    obtain ⟨v, hv, e4⟩ := Option.map_eq_some_iff.mp e3
    rw [← e4] at e2
    exact e (e2 ▸ List.mem_range.mp hc)

noncomputable def glR (K : Frag) (x : Str) (a : Addr) : Bool := match gl K x with
  | some (.ref b) => b == a
  | _ => false
noncomputable def glB (K : Frag) (x : Str) (a : String) : Bool := match gl K x with
  | some (.builtin b) => b == a
  | _ => false
noncomputable def glT (K : Frag) (x : Str) (a : String) : Bool := match gl K x with
  | some (.type b) => b == a
  | _ => false
noncomputable def glI (K : Frag) (x : Str) (i : Int) : Bool := match gl K x with
  | some (.int b _) => b == i
  | _ => false
section
variable {K : Frag} {x : Str}
theorem glb_ref {a : Addr} (h : glR K x a = true) : glb K x (.ref a) := by
  unfold glR at h
  split at h
  · rename_i b q; rw [beq_iff_eq] at h; exact ⟨_, q, fun _ _ => congrArg Value.ref h⟩
  · cases h
theorem glb_bi {a : String} (h : glB K x a = true) : glb K x (.bi a) := by
  unfold glB at h
  split at h
  · rename_i b q; rw [beq_iff_eq] at h; exact ⟨_, q, fun _ _ => congrArg Value.builtin h⟩
  · cases h
theorem glb_ty {a : String} (h : glT K x a = true) : glb K x (.ty a) := by
  unfold glT at h
  split at h
  · rename_i b q; rw [beq_iff_eq] at h; exact ⟨_, q, fun _ _ => congrArg Value.type h⟩
  · cases h
theorem glb_int {i : Int} (h : glI K x i = true) : glb K x (.int i) := by
  unfold glI at h
  split at h
  · rename_i b t q; rw [beq_iff_eq] at h; exact ⟨_, q, fun _ _ => ⟨t, by rw [h]⟩⟩
  · cases h
end
noncomputable def tup110 (K : Frag) : Bool := match K.lookup 110 with
  | some ⟨.type t, none, .seq its _, sl⟩ => t == "tuple" && (match its.toList with | [.none] => true | _ => false) && sl.isEmpty
  | _ => false
theorem tup110_of {K : Frag} (h : tup110 K = true) : ∃ n, K.lookup 110 = some (tupO #[.none] n) := by
  unfold tup110 at h
  split at h
  · rename_i t its n sl q
    rw [Bool.and_eq_true, Bool.and_eq_true, beq_iff_eq, Array.isEmpty_iff] at h
    obtain ⟨⟨h1, h2⟩, h3⟩ := h
    split at h2
    · rename_i h4
      refine ⟨n, ?_⟩
      rw [q, h1, h3]
      have : its = #[.none] := by rw [← Array.toList_inj, h4]
      rw [this]
    · cases h2
  · cases h
noncomputable abbrev FnP := Arguments × FuncBody × Scope × Addr × List (Str × Addr) × Value × Addr × Bool
noncomputable def fnPart (K : Frag) (a : Addr) : Option FnP := match K.lookup a with
  | some ⟨_, _, .func fd, _⟩ => some (fd.params, fd.body, fd.scope, fd.globals, fd.closure, fd.defaults, fd.builtins, codeIn K fd.code fd.qualname)
  | _ => none
noncomputable def fnWant (s : Stmt) (dV : Value) : Option FnP := some (fA s, .stmts (fB s), fS s, mainGlobals, [], dV, builtinsNs, true)
theorem defAt_of {K : Frag} {a : Addr} {s : Stmt} {dV : Value} (h : fnPart K a = fnWant s dV) : DefAt K a (fA s) (fB s) (fS s) dV := by
  unfold fnPart at h
  split at h
  · rename_i oc od fd osl q
    obtain ⟨name, qual, params, body, scope, globals, closure, defaults, kw, doc, pm, an, code, ct, bi⟩ := fd
    unfold fnWant at h
    simp only [Option.some.injEq, Prod.mk.injEq] at h
    obtain ⟨h1, h2, h3, h4, h5, h6, h7, h8⟩ := h
    subst h1 h2 h3 h4 h5 h6 h7
    exact ⟨name, qual, kw, doc, pm, an, code, ct, oc, od, osl, q, h8⟩
  · cases h

noncomputable def fnTab : List (Addr × Stmt × Value) := [(80, inCls (topS 8) 1, .none), (117, inCls (topS 10) 0, .ref 110), (124, inCls (topS 10) 1, .none), (131, inCls (topS 10) 2, .none), (136, inCls (topS 10) 3, .none), (143, inCls (topS 10) 4, .none), (150, inCls (topS 10) 5, .none), (164, inCls (topS 10) 7, .none), (171, inCls (topS 10) 8, .none), (36, inCls (topS 2) 1, .none), (43, inCls (topS 2) 2, .none), (50, inCls (topS 2) 3, .none), (65, topS 4, .none), (225, topS 18, .none), (230, topS 19, .none), (237, topS 20, .none), (242, topS 21, .none), (247, topS 22, .none), (252, topS 23, .none), (192, topS 12, .none), (199, topS 13, .none), (206, topS 14, .none), (213, topS 15, .none), (220, topS 16, .none)]
noncomputable def facts (K : Frag) : List Bool := [(K.lookup cStatics).isSome, (K.lookup sysModules).isSome, tup110 K, nsIn K mainGlobals "law" == some (some (.ref 252)), clsS K 84, slotB K 84 "node" 85 0, slotB K 84 "npredecessors" 86 1, slotB K 84 "successors" 87 2, makeB K 84 80, clsB K 181, ownB K 181 "_node2info", ownB K 181 "_ready_nodes", ownB K 181 "_npassedout", ownB K 181 "_nfinished", makeB K 181 117, methB K 181 "_get_nodeinfo" 124, methB K 181 "add" 131, methB K 181 "prepare" 136, methB K 181 "get_ready" 143, methB K 181 "is_active" 150, methB K 181 "done" 164, methB K 181 "_find_cycle" 171, clsS K 54, slotB K 54 "_func" 55 0, slotB K 54 "_it" 56 1, makeB K 54 36, isFn K (.ref 50), isFn K (.ref 43), findIn K (.ref 54) "__next__" == some (some (.ref 50)), findIn K (.ref 54) "__iter__" == some (some (.ref 43)), findIn K (.ref 54) "__len__" == some none, findIn K (.ref 54) "__length_hint__" == some none, gl K "StopIteration" == some (.type "StopIteration"), glR K "_NodeInfo" 84, glR K "TopologicalSorter" 181, glR K "filterfalse" 54, glR K "_filter" 65, glR K "_law_ready" 225, glR K "_law_sorter" 230, glR K "_law_put_off_done" 237, glR K "_law_run" 242, glR K "_law_due" 247, glR K "heappush" 192, glR K "heappop" 199, glR K "heapreplace" 206, glR K "_siftdown" 213, glR K "_siftup" 220, glB K "len" "len", glB K "iter" "iter", glB K "next" "next", glB K "sorted" "sorted", glB K "sum" "sum", glB K "min" "min", glT K "tuple" "tuple", glT K "list" "list", glT K "bool" "bool", glT K "set" "set", glT K "type" "type", glT K "range" "range", glI K "_NODE_OUT" (-1), glI K "_NODE_DONE" (-2), keepIn K (.ref 80), keepIn K (.ref 124), keepIn K (.ref 131), keepIn K (.ref 136), keepIn K (.ref 143), keepIn K (.ref 150), keepIn K (.ref 164), keepIn K (.ref 171), keepIn K (.ref 36), keepIn K (.ref 43), keepIn K (.ref 50), keepIn K (.ref 65), keepIn K (.ref 225), keepIn K (.ref 230), keepIn K (.ref 237), keepIn K (.ref 242), keepIn K (.ref 247), keepIn K (.ref 252), keepIn K (.ref 192), keepIn K (.ref 199), keepIn K (.ref 206), keepIn K (.ref 213), keepIn K (.ref 220)]
/-- what is seen of the top, and what it should be -/
noncomputable def seenB (K : Frag) : Bool × List (Option FnP) := ((facts K).all id, fnTab.map fun t => fnPart K t.1)
noncomputable def wantB : Bool × List (Option FnP) := (true, fnTab.map fun t => fnWant t.2.1 t.2.2)
theorem allGet {l : List Bool} (h : l.all id = true) (i : Nat) {b : Bool} (e : l[i]? = some b) : b = true := List.all_eq_true.mp h b (List.mem_of_getElem? e)
theorem mapGet {α β : Type} {f g : α → β} {l : List α} (h : l.map f = l.map g) (i : Nat) {x : α} (e : l[i]? = some x) : f x = g x := List.map_inj_left.mp h x (List.mem_of_getElem? e)

theorem kl_of {K : Frag} (ok : (∃ o, K.lookup cStatics = some o) → KOk K) (h : seenB K = wantB) : KL K ∧ nsIn K mainGlobals "law" = some (some (.ref 252)) := by
  have h1 : (facts K).all id = true := congrArg Prod.fst h
  have h2 : fnTab.map (fun t => fnPart K t.1) = fnTab.map fun t => fnWant t.2.1 t.2.2 := congrArg Prod.snd h
  exact ⟨{ ok := ok (Option.isSome_iff_exists.mp (allGet h1 0 rfl)), sys := Option.isSome_iff_exists.mp (allGet h1 1 rfl), ni := (allGet h1 4 rfl), ni_node := (allGet h1 5 rfl), ni_np := (allGet h1 6 rfl), ni_su := (allGet h1 7 rfl), ni_make := (allGet h1 8 rfl), ts := (allGet h1 9 rfl), ts_n := (allGet h1 10 rfl), ts_r := (allGet h1 11 rfl), ts_p := (allGet h1 12 rfl), ts_f := (allGet h1 13 rfl), ts_make := (allGet h1 14 rfl), m_get := (allGet h1 15 rfl), m_add := (allGet h1 16 rfl), m_prep := (allGet h1 17 rfl), m_ready := (allGet h1 18 rfl), m_act := (allGet h1 19 rfl), m_done := (allGet h1 20 rfl), m_cyc := (allGet h1 21 rfl), ff := (allGet h1 22 rfl), ff_func := (allGet h1 23 rfl), ff_it := (allGet h1 24 rfl), ff_make := (allGet h1 25 rfl), fn50 := (allGet h1 26 rfl), fn43 := (allGet h1 27 rfl), t110 := tup110_of (allGet h1 2 rfl), ff_next := (beq_iff_eq.mp (allGet h1 28 rfl)), ff_iter := (beq_iff_eq.mp (allGet h1 29 rfl)), ff_len := (beq_iff_eq.mp (allGet h1 30 rfl)), ff_hint := (beq_iff_eq.mp (allGet h1 31 rfl)), g_stop := (beq_iff_eq.mp (allGet h1 32 rfl)), g_ni := glb_ref (allGet h1 33 rfl), g_ts := glb_ref (allGet h1 34 rfl), g_ff := glb_ref (allGet h1 35 rfl), g_filter := glb_ref (allGet h1 36 rfl), g_lready := glb_ref (allGet h1 37 rfl), g_lsort := glb_ref (allGet h1 38 rfl), g_lpod := glb_ref (allGet h1 39 rfl), g_lrun := glb_ref (allGet h1 40 rfl), g_ldue := glb_ref (allGet h1 41 rfl), g_push := glb_ref (allGet h1 42 rfl), g_pop := glb_ref (allGet h1 43 rfl), g_repl := glb_ref (allGet h1 44 rfl), g_sd := glb_ref (allGet h1 45 rfl), g_su := glb_ref (allGet h1 46 rfl), g_len := glb_bi (allGet h1 47 rfl), g_iter := glb_bi (allGet h1 48 rfl), g_next := glb_bi (allGet h1 49 rfl), g_sorted := glb_bi (allGet h1 50 rfl), g_sum := glb_bi (allGet h1 51 rfl), g_min := glb_bi (allGet h1 52 rfl), g_tuple := glb_ty (allGet h1 53 rfl), g_list := glb_ty (allGet h1 54 rfl), g_bool := glb_ty (allGet h1 55 rfl), g_set := glb_ty (allGet h1 56 rfl), g_type := glb_ty (allGet h1 57 rfl), g_range := glb_ty (allGet h1 58 rfl), g_out := glb_int (allGet h1 59 rfl), g_dn := glb_int (allGet h1 60 rfl), f_ni := ⟨defAt_of (mapGet h2 0 rfl), (allGet h1 61 rfl)⟩, f_tsi := defAt_of (mapGet h2 1 rfl), f_get := ⟨defAt_of (mapGet h2 2 rfl), (allGet h1 62 rfl)⟩, f_add := ⟨defAt_of (mapGet h2 3 rfl), (allGet h1 63 rfl)⟩, f_prep := ⟨defAt_of (mapGet h2 4 rfl), (allGet h1 64 rfl)⟩, f_ready := ⟨defAt_of (mapGet h2 5 rfl), (allGet h1 65 rfl)⟩, f_act := ⟨defAt_of (mapGet h2 6 rfl), (allGet h1 66 rfl)⟩, f_done := ⟨defAt_of (mapGet h2 7 rfl), (allGet h1 67 rfl)⟩, f_cyc := ⟨defAt_of (mapGet h2 8 rfl), (allGet h1 68 rfl)⟩, f_ffi := ⟨defAt_of (mapGet h2 9 rfl), (allGet h1 69 rfl)⟩, f_ffit := ⟨defAt_of (mapGet h2 10 rfl), (allGet h1 70 rfl)⟩, f_ffn := ⟨defAt_of (mapGet h2 11 rfl), (allGet h1 71 rfl)⟩, f_filter := ⟨defAt_of (mapGet h2 12 rfl), (allGet h1 72 rfl)⟩, f_lready := ⟨defAt_of (mapGet h2 13 rfl), (allGet h1 73 rfl)⟩, f_lsort := ⟨defAt_of (mapGet h2 14 rfl), (allGet h1 74 rfl)⟩, f_lpod := ⟨defAt_of (mapGet h2 15 rfl), (allGet h1 75 rfl)⟩, f_lrun := ⟨defAt_of (mapGet h2 16 rfl), (allGet h1 76 rfl)⟩, f_ldue := ⟨defAt_of (mapGet h2 17 rfl), (allGet h1 77 rfl)⟩, f_law := ⟨defAt_of (mapGet h2 18 rfl), (allGet h1 78 rfl)⟩, f_push := ⟨defAt_of (mapGet h2 19 rfl), (allGet h1 79 rfl)⟩, f_pop := ⟨defAt_of (mapGet h2 20 rfl), (allGet h1 80 rfl)⟩, f_repl := ⟨defAt_of (mapGet h2 21 rfl), (allGet h1 81 rfl)⟩, f_sd := ⟨defAt_of (mapGet h2 22 rfl), (allGet h1 82 rfl)⟩, f_su := ⟨defAt_of (mapGet h2 23 rfl), (allGet h1 83 rfl)⟩ }, (beq_iff_eq.mp (allGet h1 3 rfl))⟩
end Mine

end
section
open PySem PySem.W PyProof.Rows
set_option maxRecDepth 100000
namespace Mine

noncomputable def lawView : Program := { PySem.Challenge.pw_il0019_01 with main := { PySem.Challenge.pw_il0019_01.main with body := [topS 23] } }
noncomputable def looseN : List Str := ["_wall", "filterfalse", "_filter", "_NODE_OUT", "_NODE_DONE", "_NodeInfo", "CycleError", "TopologicalSorter", "heappush", "heappop", "heapreplace", "_siftdown", "_siftup", "_law_ready", "_law_sorter", "_law_put_off_done", "_law_run", "_law_due"]
noncomputable abbrev Left : Prop := LeftO PySem.Challenge.pw_il0019_01 lawView looseN (fun _ => true) (fun s => seenB (fragOf s.heap)) (fun _ => wantB) 5000
theorem intsVR {h : Heap} {σ : Sg} : ∀ {vs : List Value} {ns : List Int}, IntsAre vs ns → VRs h σ (ns.map .int) vs
  | _, _, .nil => rfl
  | _, _, .cons _ t r => ⟨_, _, rfl, ⟨t, rfl⟩, intsVR r⟩

/-- the script's list is all that is laid -/
theorem script_push {R : WRecords} {w : World} {s₀ s₁ : Shared} {ns : List Int} {a : Addr} {as : List Addr} (L : Laid R w s₀ s₁ [ofPy (PyData.list (ns.map PyData.int))] [.ref a] as) : ∃ o, s₁.heap = s₀.heap.push o := by
  obtain ⟨ord, _, e⟩ := L.laid
  simp only [ofPy, layAllW, layW] at e
  cases q : layAllW R (classAt s₀.heap) w.params ord (ofPys (ns.map PyData.int)) s₀ with
  | none => rw [q] at e; cases e
  | some r =>
    rw [q] at e
    have e3 := Option.some.inj (congrArg (fun x => x.map fun y => y.2.heap) e)
    exact ⟨_, e3.symm.trans (congrArg (Heap.push · _) (X.lay_ints ns s₀ r q))⟩
set_option maxHeartbeats 4000000 in
theorem holds_of_left (hl : Left) : PySem.Challenge.rw_il0019_01.Holds := by
  refine holds_law (by decide +kernel) fun said => ?_
  refine holds_openX (r := PySem.Challenge.rw_il0019_01.row) (q := lawView) (loose := looseN) (Xt := fun _ => true) (XP := fun _ _ => True) (N := 5000) hl (fun _ _ => True.intro) (fun _ _ _ _ _ => True.intro) (by rfl) (by rfl) (by rfl) (fun s _ => recFacts_of (by rfl)) (by rfl) said (by decide +kernel) ⟨rfl, rfl, rfl, rfl, rfl, by decide +kernel⟩ (RowW.promised_of_found (by decide +kernel)) ?_
  intro w s₀ s₁ mg mb G y fa o pm cd doc dV kV ho hd hcd hD hmg hg args vals as L hpre hlay hrd hwl hlo
  clear hcd hD ho hd
  wrow_args hpre hlay hrd hwl hlo
  rename_i ns hs hl0 hL1 hr1 hl2 as1 as2 l vs rs hL ra w1 r0 hI hr2 hc1 hc2
  have KI : (fragOf s₀.heap).In s₁.heap := fun a o e => L.keeps a o (by rw [← lookup_frag]; exact e)
  have ok : (∃ o, (fragOf s₀.heap).lookup cStatics = some o) → KOk (fragOf s₀.heap) := fun ⟨o, ho⟩ => ⟨fun h' hK => Heap.NoLimit.at G.T.nolimit fun o' e => by
    have := KI _ _ ho
    rw [e] at this
    cases this
    exact hK _ _ ho⟩
  obtain ⟨KL, hlaw⟩ := kl_of ok y
  have hfa : fa = 252 := by
    have h1 : mg "law" = some (.ref fa) := hmg
    have h2 := mg_of KI G.T.g hlaw
    rw [h1] at h2
    exact Value.ref.inj (Option.some.inj h2)
  subst hfa
  obtain ⟨hat, hsz⟩ := X.script_at L
  have hob := X.script_obj L hL
  have R : Rep PySem.Challenge.pw_il0019_01 w (fragOf s₀.heap) (flOf callerA) none0 s₁ := ⟨fun a m h => (by cases (show (none : Option MObj) = some m from h)), KI, fun _ _ _ => rfl, fun L hL => absurd (show L ∈ ([] : List Addr) from hL) List.not_mem_nil⟩
  have hlen : ns.length ≤ 63 := by omega
  have rs : VRs s₁.heap none0 [.lst (ns.map .int)] [.ref l] := ⟨_, _, rfl, ⟨l, vs.toArray, _, rfl, rfl, hob, intsVR hI⟩, rfl⟩
  refine wpAny_call (codeAny_mono (fn_law (n := 188) KL ns hlen callerA s₁ [.ref l] AOK.caller rfl R rs) fun r s' hzz => ?_)
  obtain ⟨v, y, σ', e1, R', t, rv, ey⟩ := hzz
  subst e1 ey
  cases (show v = .bool true from rv)
  have keep : ∀ b o, s₁.heap.get? b = some o → s'.heap.get? b = some o := fun b o hb => by
    by_cases e : b = l
    · subst e
      rw [hob] at hb; cases hb
      exact (t.keep b _ hob rfl id FrO.seq).1
    · have hlt : b < s₀.heap.objs.size := Nat.lt_of_le_of_ne (Nat.le_of_lt_succ (Nat.lt_of_lt_of_eq (Heap.lt_size hb) hsz)) fun q => e (q.trans hat.symm)
      obtain ⟨o', hpush⟩ := script_push L
      rw [hpush, Heap.get?_push_ne _ _ _ (Nat.ne_of_lt hlt)] at hb
      exact R'.top b o (by rw [lookup_frag]; exact hb)
  refine ⟨.inl ⟨.bool true, _, [], rfl, raisesW_false (by wrow_none_raised), ReadsW.bool _, postW_of (by wrow_shape) (by wtm_val) (by w_fin), fun _ => ⟨List.nodup_nil, fun a ha => absurd ha List.not_mem_nil⟩⟩, .of_keep keep, t.os, .of_eq (t.gens.trans hg)⟩
end Mine

end
section
open PySem PySem.W PyProof.Rows
set_option maxRecDepth 100000
namespace Mine
theorem left : Left := by intro w; kernel_rfl!
end Mine

end
theorem PySem.Challenge.cw_il0019_01_holds : PySem.Challenge.rw_il0019_01.Holds :=
  Mine.holds_of_left Mine.left
