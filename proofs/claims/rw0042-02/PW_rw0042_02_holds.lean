import PyProof.Rows.All
import Wide.All
import OpenK.AllK
import Wide.FinOn
import KE.KUnpack
import KE.KBits
import KE.KLam
import KE.KDictIter
import KE.KNestM
import KE.KSuperObj
import OpenK.XLed
import PySem.Challenge.RW_rw0042_02
set_option Elab.async false
set_option linter.all false
section
open PySem PySem.Calls PyProof.Rows
namespace Mine
theorem len_cons {α : Type} {l : List α} {n : Nat} (h : l.length = n + 1) : ∃ a r, l = a :: r ∧ r.length = n := by
  cases l with
  | nil => cases h
  | cons a r => exact ⟨a, r, rfl, Nat.succ.inj h⟩
theorem len1 {α : Type} {l : List α} (h : l.length = 1) : ∃ a, l = [a] := by
  obtain ⟨a, r, rfl, k⟩ := len_cons h
  exact ⟨a, by rw [List.length_eq_zero_iff.mp k]⟩
theorem len2 {α : Type} {l : List α} (h : l.length = 2) : ∃ a b, l = [a, b] := by
  obtain ⟨a, r, rfl, k⟩ := len_cons h
  obtain ⟨b, rfl⟩ := len1 k
  exact ⟨a, b, rfl⟩
theorem len4 {α : Type} {l : List α} (h : l.length = 4) : ∃ a b c d, l = [a, b, c, d] := by
  obtain ⟨a, r, rfl, k⟩ := len_cons h
  obtain ⟨b, t, rfl, k2⟩ := len_cons k
  obtain ⟨c, d, rfl⟩ := len2 k2
  exact ⟨a, b, c, d, rfl⟩
theorem two_at {α : Type} {l : List α} {a b : α} (h : l.length = 2) (e0 : l[0]? = some a) (e1 : l[1]? = some b) : l = [a, b] := by
  obtain ⟨x, y, rfl⟩ := len2 h
  obtain rfl := Option.some.inj e0; cases e1; rfl
theorem four_at {α : Type} {l : List α} {a b c d : α} (h : l.length = 4) (e0 : l[0]? = some a) (e1 : l[1]? = some b) (e2 : l[2]? = some c) (e3 : l[3]? = some d) : l = [a, b, c, d] := by
  obtain ⟨x, y, z, w, rfl⟩ := len4 h
  obtain rfl := Option.some.inj e0; cases e1; cases e2; cases e3; rfl
theorem all1 {α : Type} {P : α → Prop} {a : α} (h : P a) : ∀ x ∈ [a], P x := List.forall_mem_cons.mpr ⟨h, fun _ hx => nomatch hx⟩
theorem all2 {α : Type} {P : α → Prop} {a b : α} (h1 : P a) (h2 : P b) : ∀ x ∈ [a, b], P x := List.forall_mem_cons.mpr ⟨h1, all1 h2⟩
theorem all3 {α : Type} {P : α → Prop} {a b c : α} (h1 : P a) (h2 : P b) (h3 : P c) : ∀ x ∈ [a, b, c], P x := List.forall_mem_cons.mpr ⟨h1, all2 h2 h3⟩
theorem all4 {α : Type} {P : α → Prop} {a b c d : α} (h1 : P a) (h2 : P b) (h3 : P c) (h4 : P d) : ∀ x ∈ [a, b, c, d], P x := List.forall_mem_cons.mpr ⟨h1, all3 h2 h3 h4⟩
theorem all6 {α : Type} {P : α → Prop} {a b c d e f : α} (h1 : P a) (h2 : P b) (h3 : P c) (h4 : P d) (h5 : P e) (h6 : P f) : ∀ x ∈ [a, b, c, d, e, f], P x := List.forall_mem_cons.mpr ⟨h1, List.forall_mem_cons.mpr ⟨h2, all4 h3 h4 h5 h6⟩⟩
theorem nd_ne {l : List Addr} (h : l.Nodup) {i j : Nat} {a b : Addr} (hi : l[i]? = some a) (hj : l[j]? = some b) (hij : (i == j) = false) : a ≠ b := fun e => by
  subst e
  exact ne_of_beq_false hij ((List.getElem?_inj (List.getElem?_eq_some_iff.mp hi).1 h).mp (hi.trans hj.symm))
inductive DV where
  | none | bool (b : Bool) | int (i : Int) | str (s : Str) | lst (xs : List DV)
  deriving Inhabited
mutual
noncomputable def RepV (h : Heap) : DV → Value → List Addr → Prop
  | .none, r, fp => r = .none ∧ fp = []
  | .bool b, r, fp => r = .bool b ∧ fp = []
  | .int i, r, fp => (∃ t, r = .int i t) ∧ fp = []
  | .str x, r, fp => (∃ t, r = .str x t) ∧ fp = []
  | .lst xs, r, fp => ∃ (a : Addr) (vs : List Value) (fp' : List Addr), r = .ref a ∧ fp = a :: fp' ∧ h.IsList a vs.toArray ∧ RepVs h xs vs fp'
noncomputable def RepVs (h : Heap) : List DV → List Value → List Addr → Prop
  | [], vs, fp => vs = [] ∧ fp = []
  | d :: ds, vs, fp => ∃ (r : Value) (rs : List Value) (f1 f2 : List Addr), vs = r :: rs ∧ fp = f1 ++ f2 ∧ RepV h d r f1 ∧ RepVs h ds rs f2
end
theorem RepVs_1 : ∀ (h : PySem.Heap) (x : List PySem.Value) (x_1 : List PySem.Addr), RepVs h [] x x_1 = (x = [] ∧ x_1 = []) := by intros; rfl
theorem RepVs_2 : ∀ (h : PySem.Heap) (x : List PySem.Value) (x_1 : List PySem.Addr) (d : DV) (ds : List DV), RepVs h (d :: ds) x x_1 = ∃ r rs f1 f2, x = r :: rs ∧ x_1 = f1 ++ f2 ∧ RepV h d r f1 ∧ RepVs h ds rs f2 := by intros; rfl
mutual
theorem RepV.mono {h h' : Heap} : ∀ {d : DV} {r : Value} {fp : List Addr}, RepV h d r fp → (∀ a ∈ fp, ∀ o, h.get? a = some o → h'.get? a = some o) → RepV h' d r fp
  | .none, _, _, x, _ => x
  | .bool _, _, _, x, _ => x
  | .int _, _, _, x, _ => x
  | .str _, _, _, x, _ => x
  | .lst _, _, _, ⟨a, vs, fp', e1, e2, hl, x⟩, k => ⟨a, vs, fp', e1, e2, hl.at (k a (e2 ▸ List.mem_cons_self)), RepVs.mono x fun b hb => k b (e2 ▸ List.mem_cons_of_mem _ hb)⟩
theorem RepVs.mono {h h' : Heap} : ∀ {ds : List DV} {rs : List Value} {fp : List Addr}, RepVs h ds rs fp → (∀ a ∈ fp, ∀ o, h.get? a = some o → h'.get? a = some o) → RepVs h' ds rs fp
  | [], _, _, x, _ => x
  | _ :: _, _, _, ⟨r, rs, f1, f2, e1, e2, x, y⟩, k => ⟨r, rs, f1, f2, e1, e2, RepV.mono x fun b hb => k b (e2 ▸ List.mem_append_left _ hb), RepVs.mono y fun b hb => k b (e2 ▸ List.mem_append_right _ hb)⟩
end
mutual
theorem RepV.alive {h : Heap} : ∀ {d : DV} {r : Value} {fp : List Addr}, RepV h d r fp → ∀ a ∈ fp, ∃ o, h.get? a = some o
  | .none, _, _, x, _, ha => by rw [x.2] at ha; cases ha
  | .bool _, _, _, x, _, ha => by rw [x.2] at ha; cases ha
  | .int _, _, _, x, _, ha => by rw [x.2] at ha; cases ha
  | .str _, _, _, x, _, ha => by rw [x.2] at ha; cases ha
  | .lst _, _, _, ⟨a, vs, fp', e1, e2, ⟨o, ho, _⟩, x⟩, b, hb => by
    subst e2
    rcases List.mem_cons.mp hb with rfl | hb
    · exact ⟨o, ho⟩
    · exact RepVs.alive x b hb
theorem RepVs.alive {h : Heap} : ∀ {ds : List DV} {rs : List Value} {fp : List Addr}, RepVs h ds rs fp → ∀ a ∈ fp, ∃ o, h.get? a = some o
  | [], _, _, x, _, ha => by rw [x.2] at ha; cases ha
  | _ :: _, _, _, ⟨r, rs, f1, f2, e1, e2, x, y⟩, b, hb => by
    subst e2
    rcases List.mem_append.mp hb with hb | hb
    · exact RepV.alive x b hb
    · exact RepVs.alive y b hb
end
theorem RepVs.length {h : Heap} : ∀ {ds : List DV} {rs : List Value} {fp : List Addr}, RepVs h ds rs fp → rs.length = ds.length
  | [], _, _, x => by rw [x.1]; rfl
  | _ :: _, _, _, ⟨r, rs, f1, f2, e1, e2, x, y⟩ => by rw [e1, List.length_cons, List.length_cons, RepVs.length y]
theorem RepVs.app {h : Heap} : ∀ {ds es : List DV} {rs ts : List Value} {f g : List Addr}, RepVs h ds rs f → RepVs h es ts g → RepVs h (ds ++ es) (rs ++ ts) (f ++ g)
  | [], _, _, _, _, _, x, y => by rw [x.1, x.2]; exact y
  | _ :: _, _, _, _, _, _, ⟨r, rs, f1, f2, e1, e2, x, y⟩, z => ⟨r, rs ++ _, f1, f2 ++ _, by rw [e1]; rfl, by rw [e2, List.append_assoc], x, RepVs.app y z⟩
theorem RepVs.single {h : Heap} {d : DV} {r : Value} {f : List Addr} (x : RepV h d r f) : RepVs h [d] [r] f := ⟨r, [], f, [], rfl, by simp, x, rfl, rfl⟩
theorem RepVs.get {h : Heap} : ∀ {ds : List DV} {rs : List Value} {fp : List Addr}, RepVs h ds rs fp → ∀ {i : Nat} {d : DV}, ds[i]? = some d → ∃ (r : Value) (f : List Addr), rs[i]? = some r ∧ RepV h d r f ∧ ∀ a ∈ f, a ∈ fp
  | [], _, _, _, i, d, e => by simp at e
  | _ :: _, _, _, ⟨r, rs, f1, f2, e1, e2, x, y⟩, i, d, e => by
    subst e1 e2
    cases i with
    | zero => simp at e; subst e; exact ⟨r, f1, rfl, x, fun a ha => List.mem_append_left _ ha⟩
    | succ i =>
      simp at e
      refine Classical.byContradiction fun hnx => ?_
      (obtain ⟨r', f, h1, h2, h3⟩ := RepVs.get y e) <;> (refine hnx ?_; clear hnx)
      exact ⟨r', f, by exact h1, h2, fun a ha => List.mem_append_right _ (h3 a ha)⟩
noncomputable def VR (h : Heap) (d : DV) (r : Value) : Prop := ∃ fp, RepV h d r fp
theorem VR.keeps {h h' : Heap} {d : DV} {r : Value} (x : VR h d r) (k : ∀ b o, h.get? b = some o → h'.get? b = some o) : VR h' d r := by obtain ⟨fp, x⟩ := x; exact ⟨fp, x.mono fun a _ o e => k a o e⟩
theorem VR.int {h : Heap} {i : Int} {r : Value} (x : VR h (.int i) r) : ∃ t, r = .int i t := by obtain ⟨_, x⟩ := x; exact x.1
theorem VR.str {h : Heap} {i : Str} {r : Value} (x : VR h (.str i) r) : ∃ t, r = .str i t := by obtain ⟨_, x⟩ := x; exact x.1
theorem VR.bool {h : Heap} {i : Bool} {r : Value} (x : VR h (.bool i) r) : r = .bool i := by obtain ⟨_, x⟩ := x; exact x.1
theorem VR.none {h : Heap} {r : Value} (x : VR h .none r) : r = .none := by obtain ⟨_, x⟩ := x; exact x.1
theorem VR.ofInt {h : Heap} {i : Int} {t : Tok} : VR h (.int i) (.int i t) := ⟨[], ⟨t, rfl⟩, rfl⟩
theorem VR.ofStr {h : Heap} {i : Str} {t : Tok} : VR h (.str i) (.str i t) := ⟨[], ⟨t, rfl⟩, rfl⟩
noncomputable def VRs (h : Heap) (ds : List DV) (rs : List Value) : Prop := ∃ fp, RepVs h ds rs fp
theorem VR.lst {h : Heap} {xs : List DV} {r : Value} (x : VR h (.lst xs) r) : ∃ a vs, r = .ref a ∧ h.IsList a vs.toArray ∧ VRs h xs vs :=
  by obtain ⟨_, a, vs, fp', e1, _, hl, x⟩ := x; exact ⟨a, vs, e1, hl, fp', x⟩
theorem VR.ofLst {h : Heap} {xs : List DV} {a : Addr} {vs : List Value} (hl : h.IsList a vs.toArray) (x : VRs h xs vs) : VR h (.lst xs) (.ref a) :=
  by obtain ⟨fp, x⟩ := x; exact ⟨a :: fp, a, vs, fp, rfl, rfl, hl, x⟩
theorem VRs.keeps {h h' : Heap} {d : List DV} {r : List Value} (x : VRs h d r) (k : ∀ b o, h.get? b = some o → h'.get? b = some o) : VRs h' d r := let ⟨fp, x⟩ := x; ⟨fp, x.mono fun a _ o e => k a o e⟩
theorem VRs.length {h : Heap} {d : List DV} {r : List Value} (x : VRs h d r) : r.length = d.length := by obtain ⟨_, x⟩ := x; exact x.length
theorem VRs.nil {h : Heap} : VRs h [] [] := ⟨[], rfl, rfl⟩
theorem VRs.cons {h : Heap} {d : DV} {r : Value} {ds : List DV} {rs : List Value} (x : VR h d r) (y : VRs h ds rs) : VRs h (d :: ds) (r :: rs) :=
  by obtain ⟨f, x⟩ := x; exact let ⟨g, y⟩ := y; ⟨f ++ g, r, rs, f, g, rfl, rfl, x, y⟩
theorem VRs.nil_inv {h : Heap} {rs : List Value} (x : VRs h [] rs) : rs = [] := by obtain ⟨_, x⟩ := x; exact x.1
theorem VRs.cons_inv {h : Heap} {d : DV} {ds : List DV} {rs : List Value} (x : VRs h (d :: ds) rs) : ∃ r rs', rs = r :: rs' ∧ VR h d r ∧ VRs h ds rs' :=
  by obtain ⟨_, r, rs', f1, f2, e1, _, x, y⟩ := x; exact ⟨r, rs', e1, ⟨f1, x⟩, ⟨f2, y⟩⟩
theorem VRs.app {h : Heap} {ds es : List DV} {rs ts : List Value} (x : VRs h ds rs) (y : VRs h es ts) : VRs h (ds ++ es) (rs ++ ts) := let ⟨f, x⟩ := x; by obtain ⟨g, y⟩ := y; exact ⟨f ++ g, x.app y⟩
theorem VRs.get {h : Heap} {ds : List DV} {rs : List Value} (x : VRs h ds rs) {i : Nat} {d : DV} (e : ds[i]? = some d) : ∃ r, rs[i]? = some r ∧ VR h d r :=
  let ⟨_, x⟩ := x; by obtain ⟨r, f, h1, h2, _⟩ := x.get e; exact ⟨r, h1, f, h2⟩
theorem VRs.ints {h : Heap} : ∀ {ns : List Int} {rs : List Value}, VRs h (ns.map DV.int) rs → IntsAre rs ns
  | [], _, x => by rw [x.nil_inv]; exact .nil
  | n :: ns, _, x => by obtain ⟨r, rs', rfl, a, b⟩ := x.cons_inv; obtain ⟨t, rfl⟩ := a.int; exact .cons _ _ (VRs.ints b)
theorem VRs.ofInts {h : Heap} {rs : List Value} {ns : List Int} (x : IntsAre rs ns) : VRs h (ns.map DV.int) rs := by
  induction x with
  | nil => exact .nil
  | cons _ _ _ ih => exact .cons .ofInt ih
structure KpB (fp : List Addr) (gx : List Nat) (g s : Shared) : Prop where
  heap : ∀ b o, b ∉ fp → g.heap.get? b = some o → s.heap.get? b = some o
  gens : ∀ (i : Nat) (x : GenState), i ∉ gx → g.gens[i]? = some x → s.gens[i]? = some x
  bare : AllBare g.gens → AllBare s.gens
  os : s.os = g.os
noncomputable abbrev Kp (g s : Shared) : Prop := KpB [] [] g s
theorem Kp.hp {g s : Shared} (k : Kp g s) : ∀ b o, g.heap.get? b = some o → s.heap.get? b = some o := fun b o e => k.heap b o (by simp) e
theorem KpB.refl {fp gx} (s : Shared) : KpB fp gx s s := ⟨fun _ _ _ e => e, fun _ _ _ e => e, id, rfl⟩
theorem KpB.trans {fp gx} {a b c : Shared} (x : KpB fp gx a b) (y : KpB fp gx b c) : KpB fp gx a c :=
  ⟨fun i o h e => y.heap i o h (x.heap i o h e), fun i o h e => y.gens i o h (x.gens i o h e), fun h => y.bare (x.bare h), y.os.trans x.os⟩
theorem KpB.sub {fp fp' gx gx'} {a b : Shared} (x : KpB fp gx a b) (h1 : ∀ i ∈ fp, i ∈ fp') (h2 : ∀ i ∈ gx, i ∈ gx') : KpB fp' gx' a b :=
  ⟨fun i o h e => x.heap i o (fun m => h (h1 i m)) e, fun i o h e => x.gens i o (fun m => h (h2 i m)) e, x.bare, x.os⟩
theorem Kp.refl (s : Shared) : Kp s s := KpB.refl s
theorem Kp.trans {a b c : Shared} (x : Kp a b) (y : Kp b c) : Kp a c := KpB.trans x y
theorem Kp.tok (s : Shared) (t : Nat) : Kp s { s with toks := t } := ⟨fun _ _ _ e => e, fun _ _ _ e => e, id, rfl⟩
theorem Kp.of_heap {s : Shared} {h' : Heap} {t : Nat} (e : ∀ b o, s.heap.get? b = some o → h'.get? b = some o) : Kp s { s with heap := h', toks := t } := ⟨fun b o _ => e b o, fun _ _ _ e => e, id, rfl⟩
theorem KpB.of_heap {fp gx} {s : Shared} {h' : Heap} {t : Nat} (e : ∀ b o, b ∉ fp → s.heap.get? b = some o → h'.get? b = some o) : KpB fp gx s { s with heap := h', toks := t } := ⟨e, fun _ _ _ e => e, id, rfl⟩
theorem Kp.push (s : Shared) (o : Obj) (t : Nat) : Kp s { s with heap := s.heap.push o, toks := t } := Kp.of_heap fun _ _ e => Heap.get?_push_of_some _ e
structure Gl where
  tab : List (Str × Value)
  objs : List (Addr × Obj)
structure Bs (C : Gl) (h : Heap) : Prop where
  nolim : h.NoLimit
  held : ∀ p ∈ C.objs, h.get? p.1 = some p.2
  glob : ∃ mg mb, h.Ns mainGlobals mg ∧ h.Ns builtinsNs mb ∧ ∀ x v, C.tab.lookup x = some v → mg x = some v ∨ (mg x = none ∧ mb x = some v)
theorem Bs.keeps {C : Gl} {h h' : Heap} (x : Bs C h) (k : ∀ b o, h.get? b = some o → h'.get? b = some o) : Bs C h' := by
  obtain ⟨mg, mb, a, b, c⟩ := x.glob
  exact ⟨x.nolim.keeps k, fun p hp => k _ _ (x.held p hp), mg, mb, a.keeps k, b.keeps k, c⟩
inductive AV where
  | dv (d : DV) | ref (k : Nat) | raw (v : Value)
structure OSpec where
  P : Heap → List Addr → Prop
  mono : ∀ {h h' : Heap} {fp : List Addr}, P h fp → (∀ a ∈ fp, ∀ o, h.get? a = some o → h'.get? a = some o) → P h' fp
  alive : ∀ {h : Heap} {fp : List Addr}, P h fp → ∀ a ∈ fp, ∃ o, h.get? a = some o
inductive AObj where
  | lst (xs : List DV) | pl (xs : List DV) | other (S : OSpec)
noncomputable def Rep (h : Heap) : AObj → List Addr → Prop
  | .lst xs, fp => ∃ a fp', fp = a :: fp' ∧ RepV h (.lst xs) (.ref a) fp
  | .pl xs, fp => ∃ a fp' vs, fp = a :: fp' ∧ h.PlainList a (List.toArray vs) ∧ RepVs h xs vs fp'
  | .other S, fp => S.P h fp
theorem Rep.pl_lst {h : Heap} {xs : List DV} {fp : List Addr} (x : Rep h (.pl xs) fp) : Rep h (.lst xs) fp :=
  by obtain ⟨a, fp', vs, e, hl, x⟩ := x; exact ⟨a, fp', e, a, vs, fp', rfl, e, hl.isList, x⟩
theorem Rep.mono {h h' : Heap} {o : AObj} {fp : List Addr} (x : Rep h o fp) (k : ∀ a ∈ fp, ∀ o, h.get? a = some o → h'.get? a = some o) : Rep h' o fp := by
  cases o with
  | lst xs => obtain ⟨a, fp', e, x⟩ := x; exact ⟨a, fp', e, x.mono k⟩
  | pl xs => obtain ⟨a, fp', vs, e, ⟨n, hl⟩, x⟩ := x; exact ⟨a, fp', vs, e, ⟨n, k a (e ▸ List.mem_cons_self) _ hl⟩, x.mono fun b hb => k b (e ▸ List.mem_cons_of_mem _ hb)⟩
  | other S => exact S.mono x k
theorem Rep.alive {h : Heap} {o : AObj} {fp : List Addr} (x : Rep h o fp) : ∀ a ∈ fp, ∃ o, h.get? a = some o := by
  cases o with
  | lst xs => obtain ⟨a, fp', e, x⟩ := x; exact x.alive
  | pl xs =>
    refine Classical.byContradiction fun hnx => ?_
    (obtain ⟨a, fp', vs, e, ⟨n, hl⟩, x⟩ := x) <;> (refine hnx ?_; clear hnx)
    subst e
    intro b hb
    rcases List.mem_cons.mp hb with rfl | hb
    · exact ⟨_, hl⟩
    · exact x.alive b hb
  | other S => exact S.alive x
structure FD where
  env : Env
  cs : List Addr
  oc : List Str
  z : Heap
structure St where
  loc : List (Str × AV)
  hp : List AObj
noncomputable def AV.At (z : Heap) (fps : List (List Addr)) : AV → Value → Prop
  | .dv d, r => VR z d r
  | .ref k, r => ∃ a fp, fps[k]? = some (a :: fp) ∧ r = .ref a
  | .raw v, r => r = v
noncomputable def ownOf (D : FD) (fps : List (List Addr)) : List Addr := D.env.locals :: (D.cs ++ fps.flatten)
structure R (C : Gl) (D : FD) (g : Shared) (σ : St) (fps : List (List Addr)) (s : Shared) : Prop where
  bs : Bs C D.z
  zk : ∀ b o, D.z.get? b = some o → g.heap.get? b = some o
  keep : Kp g s
  bare : AllBare s.gens
  fk : D.env.scope.kind = .function
  eg : D.env.globals = mainGlobals
  eb : D.env.builtins = builtinsNs
  nd : (ownOf D fps).Nodup
  fresh : ∀ a ∈ ownOf D fps, g.heap.get? a = none
  ns : ∃ m, s.heap.Ns D.env.locals m ∧ ∀ x v, σ.loc.lookup x = some v → D.env.kindOf x = some .local → ∃ r, m x = some r ∧ v.At D.z fps r
  cel : ∀ x v, σ.loc.lookup x = some v → (D.env.kindOf x = some .cell ∨ D.env.kindOf x = some .free) →
    ∃ c r, D.env.cells.lookup x = some c ∧ s.heap.IsCell c (some r) ∧ v.At D.z fps r
  csl : ∀ c ∈ D.cs, ∃ v, s.heap.IsCell c v
  celo : ∀ x c, D.env.cells.lookup x = some c → c ∈ D.cs ∨ ∃ o, D.z.get? c = some o
  cown : ∀ x ∈ D.oc, ∃ c, D.env.cells.lookup x = some c ∧ c ∈ D.cs
  celi : ∀ x y c, x ∈ D.oc → D.env.cells.lookup x = some c → D.env.cells.lookup y = some c → x = y
  len : σ.hp.length = fps.length
  obj : ∀ (k : Nat) (o : AObj) (fp : List Addr), σ.hp[k]? = some o → fps[k]? = some fp → Rep s.heap o fp
noncomputable def Fext (fps fps' : List (List Addr)) : Prop := ∀ (k : Nat) (a : Addr) (fp : List Addr), fps[k]? = some (a :: fp) → ∃ fp', fps'[k]? = some (a :: fp')
theorem Fext.refl (fps : List (List Addr)) : Fext fps fps := fun _ _ fp e => ⟨fp, e⟩
theorem Fext.trans {a b c : List (List Addr)} (x : Fext a b) (y : Fext b c) : Fext a c := fun k p fp e => by obtain ⟨_, e1⟩ := x k p fp e; exact y k p _ e1
theorem Fext.app (fps ls : List (List Addr)) : Fext fps (fps ++ ls) := fun k a fp e => ⟨fp, by rw [List.getElem?_append_left (List.getElem?_eq_some_iff.mp e).1]; exact e⟩
theorem AV.At.ext {z : Heap} {fps fps' : List (List Addr)} (k : Fext fps fps') : ∀ {v : AV} {r : Value}, v.At z fps r → v.At z fps' r
  | .dv _, _, x => x
  | .ref _, _, ⟨a, fp, e, q⟩ => by obtain ⟨fp', e'⟩ := k _ a fp e; exact ⟨a, fp', e', q⟩
  | .raw _, _, x => x
theorem mem_flatten_get {fps : List (List Addr)} {k : Nat} {fp : List Addr} (e : fps[k]? = some fp) {a : Addr} (h : a ∈ fp) : a ∈ fps.flatten :=
  List.mem_flatten.mpr ⟨fp, List.mem_of_getElem? e, h⟩
theorem own_fps {D : FD} {fps : List (List Addr)} {a : Addr} (h : a ∈ fps.flatten) : a ∈ ownOf D fps := List.mem_cons_of_mem _ (List.mem_append_right _ h)
theorem own_cs {D : FD} {fps : List (List Addr)} {a : Addr} (h : a ∈ D.cs) : a ∈ ownOf D fps := List.mem_cons_of_mem _ (List.mem_append_left _ h)
theorem own_loc {D : FD} {fps : List (List Addr)} : D.env.locals ∈ ownOf D fps := List.mem_cons_self
theorem own_imp {D : FD} {fps : List (List Addr)} {l : List Addr} {b : Addr} {Q : Prop} (h : b ∈ D.env.locals :: (D.cs ++ l)) (k : b ∈ l → b ∈ ownOf D fps ∨ Q) : b ∈ ownOf D fps ∨ Q := by
  rcases List.mem_cons.mp h with e | h
  · exact .inl (e ▸ own_loc)
  · exact (List.mem_append.mp h).elim (fun h => .inl (own_cs h)) k
theorem own_mono {D : FD} {fps : List (List Addr)} {l : List Addr} {b : Addr} (h : b ∈ D.env.locals :: (D.cs ++ l)) (k : b ∈ l → b ∈ ownOf D fps) : b ∈ ownOf D fps := (own_imp (Q := False) h fun x => .inl (k x)).elim id False.elim
theorem own_sub {D : FD} {fps gs : List (List Addr)} {b : Addr} (hs : ∀ f ∈ gs, f ∈ fps) (h : b ∈ ownOf D gs) : b ∈ ownOf D fps := own_mono h fun h => by
  obtain ⟨f, hf, hm⟩ := List.mem_flatten.mp h
  exact own_fps (List.mem_flatten.mpr ⟨f, hs f hf, hm⟩)
theorem own_app {D : FD} {fps : List (List Addr)} {l : List Addr} {b : Addr} (h : b ∈ ownOf D (fps ++ [l])) : b ∈ ownOf D fps ∨ b ∈ l := own_imp h fun h => by
  obtain ⟨f, hf, hm⟩ := List.mem_flatten.mp h
  rcases List.mem_append.mp hf with hf | hf
  · exact .inl (own_fps (List.mem_flatten.mpr ⟨f, hf, hm⟩))
  · exact .inr (List.mem_singleton.mp hf ▸ hm)
theorem own_set {D : FD} {fps : List (List Addr)} {k : Nat} {l : List Addr} {b : Addr} (h : b ∈ ownOf D (fps.set k l)) : b ∈ ownOf D fps ∨ b ∈ l := own_imp h fun h => by
  obtain ⟨f, hf, hm⟩ := List.mem_flatten.mp h
  rcases List.mem_or_eq_of_mem_set hf with hf | hf
  · exact .inl (own_fps (List.mem_flatten.mpr ⟨f, hf, hm⟩))
  · exact .inr (hf ▸ hm)
theorem own_app2 {D : FD} {a : Addr} {f f2 : List Addr} {b : Addr} (h : b ∈ ownOf D [a :: (f ++ f2)]) : b ∈ ownOf D [a :: f] ∨ b ∈ f2 := own_imp h fun h => by
  have h : b ∈ (a :: f) ++ f2 := by simpa using h
  exact (List.mem_append.mp h).imp (fun h => own_fps (by simpa using h)) id
section
variable {C : Gl} {D : FD} {g s s' : Shared} {σ : St} {fps : List (List Addr)}
theorem R.alive (x : R C D g σ fps s) : ∀ a ∈ ownOf D fps, ∃ o, s.heap.get? a = some o := by
  intro a ha
  rcases List.mem_cons.mp ha with rfl | ha
  · obtain ⟨m, ⟨o, _, _, ho, _⟩, _⟩ := x.ns; exact ⟨o, ho⟩
  rcases List.mem_append.mp ha with ha | ha
  · obtain ⟨v, o, ho, _⟩ := x.csl a ha; exact ⟨o, ho⟩
  · obtain ⟨fp, hfp, ha⟩ := List.mem_flatten.mp ha
    obtain ⟨k, hk⟩ := List.mem_iff_getElem?.mp hfp
    have hk' : k < σ.hp.length := x.len ▸ (List.getElem?_eq_some_iff.mp hk).1
    exact (x.obj k _ fp (List.getElem?_eq_getElem hk') hk).alive a ha
theorem R.extB {fp : List Addr} {gx : List Nat} (x : R C D g σ fps s) (k : KpB fp gx s s') (h1 : ∀ a ∈ fp, a ∉ ownOf D fps ∧ g.heap.get? a = none) (h2 : ∀ i ∈ gx, g.gens[i]? = none)
    : R C D g σ fps s' where
  bs := x.bs
  zk := x.zk
  keep := ⟨fun b o _ e => k.heap b o (fun hb => by rw [(h1 b hb).2] at e; cases e) (x.keep.hp b o e), fun i y _ e => k.gens i y (fun hb => by rw [h2 i hb] at e; cases e) (x.keep.gens i y (by simp) e),
    fun h => k.bare (x.keep.bare h), k.os.trans x.keep.os⟩
  bare := k.bare x.bare
  fk := x.fk
  eg := x.eg
  eb := x.eb
  nd := x.nd
  fresh := x.fresh
  ns := let ⟨m, a, b⟩ := x.ns; ⟨m, (by obtain ⟨o, es, ep, ho, r⟩ := a; exact ⟨o, es, ep, k.heap _ _ (fun hb => (h1 _ hb).1 own_loc) ho, r⟩), b⟩
  cel := fun y v a b => by
    refine Classical.byContradiction fun hnx => ?_
    (obtain ⟨c, r, e, ⟨o, ho, hd⟩, q⟩ := x.cel y v a b) <;> (refine hnx ?_; clear hnx)
    refine ⟨c, r, e, ⟨o, ?_, hd⟩, q⟩
    refine k.heap _ _ (fun hb => ?_) ho
    obtain ⟨p1, p2⟩ := h1 c hb
    rcases x.celo y c e with hc | ⟨o', ho'⟩
    · exact p1 (own_cs hc)
    · rw [x.zk _ _ ho'] at p2; cases p2
  csl := fun c hc => by obtain ⟨v, o, ho, hd⟩ := x.csl c hc; exact ⟨v, o, k.heap _ _ (fun hb => (h1 _ hb).1 (own_cs hc)) ho, hd⟩
  celo := x.celo
  cown := x.cown
  celi := x.celi
  len := x.len
  obj := fun i o f e1 e2 => (x.obj i o f e1 e2).mono fun a ha o' ho' => k.heap a o' (fun hb => (h1 a hb).1 (own_fps (mem_flatten_get e2 ha))) ho'
theorem R.ext (x : R C D g σ fps s) (k : Kp s s') : R C D g σ fps s' := x.extB k (by simp) (by simp)
theorem R.weak {σ' : St} (x : R C D g σ fps s) (h1 : ∀ y v, σ'.loc.lookup y = some v → σ.loc.lookup y = some v) (h2 : σ'.hp = σ.hp) : R C D g σ' fps s where
  bs := x.bs
  zk := x.zk
  keep := x.keep
  bare := x.bare
  fk := x.fk
  eg := x.eg
  eb := x.eb
  nd := x.nd
  fresh := x.fresh
  ns := let ⟨m, a, b⟩ := x.ns; ⟨m, a, fun y v e q => b y v (h1 y v e) q⟩
  cel := fun y v e q => x.cel y v (h1 y v e) q
  csl := x.csl
  celo := x.celo
  cown := x.cown
  celi := x.celi
  len := h2 ▸ x.len
  obj := h2 ▸ x.obj
noncomputable def eraseH (h : Heap) (l : List Addr) : Heap := l.foldl (fun h a => h.update a fun o => { o with data := .freed }) h
theorem get?_erase1 (h : Heap) (a b : Addr) : (h.update a fun o => { o with data := .freed }).get? b = if b = a then none else h.get? b := by
  by_cases e : b = a
  · subst e
    rw [if_pos rfl]
    cases q : (h.update b fun o => { o with data := .freed }).get? b with
    | none => rfl
    | some o =>
      exfalso
      obtain ⟨e1, e2⟩ := Heap.get?_some_iff.mp q
      cases h
      simp only [Heap.update, Array.getElem?_modify, if_true] at e1
      rename_i objs life
      cases e3 : objs[b]? with
      | none => rw [e3] at e1; cases e1
      | some o' => rw [e3] at e1; cases e1; cases e2
  · rw [if_neg e, Heap.get?_update_other _ _ (Ne.symm e)]
theorem get?_erase (h : Heap) (l : List Addr) (b : Addr) : (eraseH h l).get? b = if b ∈ l then none else h.get? b := by
  induction l generalizing h with
  | nil => dsimp [eraseH]
  | cons a l ih =>
    show (eraseH (h.update a _) l).get? b = _
    rw [ih, get?_erase1]
    by_cases h1 : b ∈ l
    · simp [h1]
    · by_cases h2 : b = a <;> simp [h1, h2]
noncomputable def maxg (D : FD) (fps : List (List Addr)) (s : Shared) : Shared := { s with heap := eraseH s.heap (ownOf D fps) }
theorem maxg_get {b : Addr} : (maxg D fps s).heap.get? b = if b ∈ ownOf D fps then none else s.heap.get? b := get?_erase ..
theorem R.max (x : R C D g σ fps s) : R C D (maxg D fps s) σ fps s ∧ Kp g (maxg D fps s) := by
  have hk : ∀ b o, g.heap.get? b = some o → (maxg D fps s).heap.get? b = some o := fun b o e => by
    rw [maxg_get, if_neg (fun hb => by rw [x.fresh b hb] at e; cases e)]; exact x.keep.hp b o e
  refine ⟨⟨x.bs, fun b o e => hk b o (x.zk b o e), ⟨fun b o _ e => ?_, fun _ _ _ e => e, fun e => e, rfl⟩, x.bare, x.fk, x.eg, x.eb, x.nd, fun a ha => ?_, x.ns, x.cel, x.csl, x.celo, x.cown, x.celi, x.len, x.obj⟩,
    ⟨fun b o _ e => hk b o e, x.keep.gens, x.keep.bare, x.keep.os⟩⟩
  · rw [maxg_get] at e; split at e
    · exact (Option.some_ne_none _ e.symm).elim
    · exact e
  · rw [maxg_get, if_pos ha]
theorem R.back {g' : Shared} (x : R C D g' σ fps s) (k : Kp g g') (hz : ∀ b o, D.z.get? b = some o → g.heap.get? b = some o) : R C D g σ fps s where
  bs := x.bs
  zk := hz
  keep := k.trans x.keep
  bare := x.bare
  fk := x.fk
  eg := x.eg
  eb := x.eb
  nd := x.nd
  fresh := fun a ha => by
    cases e : g.heap.get? a with
    | none => rfl
    | some o => have := x.fresh a ha; rw [k.hp a o e] at this; cases this
  ns := x.ns
  cel := x.cel
  csl := x.csl
  celo := x.celo
  cown := x.cown
  celi := x.celi
  len := x.len
  obj := x.obj
theorem R.adopt {o : AObj} {fp : List Addr} (x : R C D g σ fps s) (hf : ∀ a ∈ fp, a ∉ ownOf D fps ∧ g.heap.get? a = none) (hn : fp.Nodup) (hr : Rep s.heap o fp) :
    R C D g ⟨σ.loc, σ.hp ++ [o]⟩ (fps ++ [fp]) s := by
  have hF : Fext fps (fps ++ [fp]) := Fext.app _ _
  have hown : ∀ a, a ∈ ownOf D (fps ++ [fp]) ↔ a ∈ ownOf D fps ∨ a ∈ fp := by
    intro a; simp [ownOf, or_assoc]
  refine ⟨x.bs, x.zk, x.keep, x.bare, x.fk, x.eg, x.eb, ?_, fun a ha => ?_, ?_, ?_, x.csl, x.celo, x.cown, x.celi, by simp [x.len], fun i o' f e1 e2 => ?_⟩
  · have e : ownOf D (fps ++ [fp]) = ownOf D fps ++ fp := by simp [ownOf]
    rw [e]
    exact List.nodup_append.mpr ⟨x.nd, hn, fun a ha b hb e => (hf b hb).1 (e ▸ ha)⟩
  · rcases (hown a).mp ha with ha | ha
    · exact x.fresh a ha
    · exact (hf a ha).2
  · refine Classical.byContradiction fun hnx => ?_
    (obtain ⟨m, a, b⟩ := x.ns) <;> (refine hnx ?_; clear hnx)
    exact ⟨m, a, fun q v e1 e2 => let ⟨r, h1, h2⟩ := b q v e1 e2; ⟨r, h1, h2.ext hF⟩⟩
  · intro q v e1 e2
    refine Classical.byContradiction fun hnx => ?_
    (obtain ⟨c, r, h1, h2, h3⟩ := x.cel q v e1 e2) <;> (refine hnx ?_; clear hnx)
    exact ⟨c, r, h1, h2, h3.ext hF⟩
  · by_cases hi : i < fps.length
    · rw [List.getElem?_append_left hi] at e2
      have e1' : (σ.hp ++ [o])[i]? = some o' := e1
      rw [List.getElem?_append_left (x.len ▸ hi)] at e1'
      exact x.obj i o' f e1' e2
    · have hi2 : i = fps.length := by
        have := (List.getElem?_eq_some_iff.mp e2).1
        simp at this; omega
      subst hi2
      have e1' : (σ.hp ++ [o])[fps.length]? = some o' := e1
      rw [← x.len] at e1'
      simp at e1' e2
      subst e1' e2
      exact hr
theorem R.add {o : AObj} {fp : List Addr} (x : R C D g σ fps s) (k : Kp s s') (hf : ∀ a ∈ fp, s.heap.get? a = none) (hn : fp.Nodup) (hr : Rep s'.heap o fp) :
    R C D g ⟨σ.loc, σ.hp ++ [o]⟩ (fps ++ [fp]) s' :=
  (x.ext k).adopt (fun a ha => ⟨fun hm => (by obtain ⟨o', ho'⟩ := x.alive a hm; rw [hf a ha] at ho'; cases ho'), by
    cases e : g.heap.get? a with
    | none => rfl
    | some o' => have := x.keep.hp a o' e; rw [hf a ha] at this; cases this⟩) hn hr
theorem flatten_set_mem {fps : List (List Addr)} {k : Nat} {fp : List Addr} {a : Addr} (h : a ∈ (fps.set k fp).flatten) : a ∈ fp ∨ ∃ i f, i ≠ k ∧ fps[i]? = some f ∧ a ∈ f := by
  refine Classical.byContradiction fun hnx => ?_
  (obtain ⟨f, hf, ha⟩ := List.mem_flatten.mp h) <;> (refine hnx ?_; clear hnx)
  obtain ⟨i, hi⟩ := List.mem_iff_getElem?.mp hf
  by_cases e : i = k
  · subst e
    rw [List.getElem?_set_self (by have := (List.getElem?_eq_some_iff.mp hi).1; simpa using this)] at hi
    obtain rfl := Option.some.inj hi; exact .inl ha
  · rw [List.getElem?_set_ne (Ne.symm e)] at hi
    exact .inr ⟨i, f, e, hi, ha⟩
theorem nodup_flatten_apart : ∀ {fps : List (List Addr)}, fps.flatten.Nodup → ∀ {i j : Nat} {f f' : List Addr}, i ≠ j → fps[i]? = some f → fps[j]? = some f' → ∀ a ∈ f, a ∉ f'
  | [], _, i, _, _, _, _, e, _ => by simp at e
  | x :: r, h, i, j, f, f', hij, e1, e2 => by
    intro a ha hb
    rw [List.flatten_cons] at h
    obtain ⟨h1, h2, h3⟩ := List.nodup_append.mp h
    cases i with
    | zero =>
      cases j with
      | zero => exact hij rfl
      | succ j => simp at e1 e2; subst e1; exact h3 a ha a (mem_flatten_get e2 hb) rfl
    | succ i =>
      cases j with
      | zero => simp at e1 e2; subst e2; exact h3 a hb a (mem_flatten_get e1 ha) rfl
      | succ j => simp at e1 e2; exact nodup_flatten_apart h2 (by lia) e1 e2 a ha hb
theorem nodup_flatten_set : ∀ {fps : List (List Addr)} {k : Nat} {fp : List Addr}, fps.flatten.Nodup → fp.Nodup → (∀ a ∈ fp, ∀ i f, i ≠ k → fps[i]? = some f → a ∉ f) → (fps.set k fp).flatten.Nodup
  | [], _, _, h, _, _ => by (assumption)
  | x :: r, 0, fp, h, hn, hd => by
    rw [List.flatten_cons] at h
    refine Classical.byContradiction fun hnx => ?_
    (obtain ⟨h1, h2, h3⟩ := List.nodup_append.mp h) <;> (refine hnx ?_; clear hnx)
    rw [List.set_cons_zero, List.flatten_cons]
    refine List.nodup_append.mpr ⟨hn, h2, fun a ha b hb e => ?_⟩
    subst e
    obtain ⟨f, hf, hb⟩ := List.mem_flatten.mp hb
    obtain ⟨i, hi⟩ := List.mem_iff_getElem?.mp hf
    exact hd a ha (i + 1) f (by lia) (by exact hi) hb
  | x :: r, k + 1, fp, h, hn, hd => by
    rw [List.flatten_cons] at h
    obtain ⟨h1, h2, h3⟩ := List.nodup_append.mp h
    rw [List.set_cons_succ, List.flatten_cons]
    refine List.nodup_append.mpr ⟨h1, nodup_flatten_set h2 hn fun a ha i f hik e => hd a ha (i + 1) f (by lia) (by exact e), fun a ha b hb e => ?_⟩
    subst e
    rcases flatten_set_mem hb with hb | ⟨i, f, hik, e, hb⟩
    · exact hd a hb 0 x (by lia) (by rfl) ha
    · exact h3 a ha a (mem_flatten_get e hb) rfl
theorem R.apart (x : R C D g σ fps s) {k : Nat} {fp : List Addr} (hk : fps[k]? = some fp) {a : Addr} (ha : a ∈ fp) : a ≠ D.env.locals ∧ a ∉ D.cs ∧ ∀ i f, i ≠ k → fps[i]? = some f → a ∉ f := by
  have h := x.nd
  unfold ownOf at h
  rw [List.nodup_cons, List.nodup_append] at h
  refine Classical.byContradiction fun hnx => ?_
  (obtain ⟨h1, h2, h3, h4⟩ := h) <;> (refine hnx ?_; clear hnx)
  have hm := mem_flatten_get hk ha
  exact ⟨fun e => h1 (e ▸ List.mem_append_right _ hm), fun hc => h4 a hc a hm rfl, fun i f hik e hb => nodup_flatten_apart h3 (Ne.symm hik) hk e a ha hb⟩
theorem R.upd {k : Nat} {o : AObj} {fp fp' : List Addr} {a₀ : Addr} (x : R C D g σ fps s) (hk : fps[k]? = some (a₀ :: fp)) (q : KpB (a₀ :: fp) [] s s') (hf : ∀ a ∈ fp', a ∈ fp ∨ (a ∉ ownOf D fps ∧ g.heap.get? a = none))
    (hn : (a₀ :: fp').Nodup) (hr : Rep s'.heap o (a₀ :: fp')) : R C D g ⟨σ.loc, σ.hp.set k o⟩ (fps.set k (a₀ :: fp')) s' := by
  have hal := x.alive
  have hkl := (List.getElem?_eq_some_iff.mp hk).1
  have hF : Fext fps (fps.set k (a₀ :: fp')) := fun i a f e => by
    by_cases hi : i = k
    · subst hi
      rw [hk] at e; cases e
      exact ⟨fp', List.getElem?_set_self hkl⟩
    · exact ⟨f, by rw [List.getElem?_set_ne (Ne.symm hi)]; exact e⟩
  have hnew : ∀ a ∈ a₀ :: fp', a ∈ a₀ :: fp ∨ (a ∉ ownOf D fps ∧ g.heap.get? a = none) := fun a ha => by
    rcases List.mem_cons.mp ha with rfl | ha
    · exact .inl List.mem_cons_self
    · exact (hf a ha).imp (List.mem_cons_of_mem _) id
  have hofp : ∀ a ∈ a₀ :: fp, a ∈ ownOf D fps := fun a ha => own_fps (mem_flatten_get hk ha)
  have hap : ∀ a ∈ a₀ :: fp', a ≠ D.env.locals ∧ a ∉ D.cs ∧ ∀ i f, i ≠ k → fps[i]? = some f → a ∉ f := fun a ha => by
    rcases hnew a ha with ha | ha
    · exact x.apart hk ha
    · exact ⟨fun e => ha.1 (e ▸ own_loc), fun hc => ha.1 (own_cs hc), fun i f _ e hb => ha.1 (own_fps (mem_flatten_get e hb))⟩
  have hgk : ∀ a ∈ a₀ :: fp, g.heap.get? a = none := fun a ha => x.fresh a (hofp a ha)
  have hns : D.env.locals ∉ a₀ :: fp := fun hb => (x.apart hk hb).1 rfl
  have hcs : ∀ c ∈ D.cs, c ∉ a₀ :: fp := fun c hc hb => (x.apart hk hb).2.1 hc
  refine ⟨x.bs, x.zk, ⟨fun b o' _ e => q.heap b o' (fun hb => by rw [hgk b hb] at e; cases e) (x.keep.hp b o' e), fun i y _ e => q.gens i y (by simp) (x.keep.gens i y (by simp) e), fun e => q.bare (x.keep.bare e), q.os.trans x.keep.os⟩,
    q.bare x.bare, x.fk, x.eg, x.eb, ?_, fun a ha => ?_, ?_, ?_, ?_, x.celo, x.cown, x.celi, by simp [x.len], fun i o' f e1 e2 => ?_⟩
  · have h := x.nd
    unfold ownOf at h ⊢
    rw [List.nodup_cons, List.nodup_append] at h ⊢
    refine Classical.byContradiction fun hnx => ?_
    (obtain ⟨h1, h2, h3, h4⟩ := h) <;> (refine hnx ?_; clear hnx)
    have hmem : ∀ a ∈ (fps.set k (a₀ :: fp')).flatten, a ∈ a₀ :: fp' ∨ a ∈ fps.flatten := fun a ha => by
      rcases flatten_set_mem ha with ha | ⟨i, f, _, e, ha⟩
      · exact .inl ha
      · exact .inr (mem_flatten_get e ha)
    refine ⟨fun hm => ?_, h2, nodup_flatten_set h3 hn fun a ha => (hap a ha).2.2, fun a ha b hb e => ?_⟩
    · rcases List.mem_append.mp hm with hm | hm
      · exact h1 (List.mem_append_left _ hm)
      · rcases hmem _ hm with hm | hm
        · exact (hap _ hm).1 rfl
        · exact h1 (List.mem_append_right _ hm)
    · subst e
      rcases hmem _ hb with hb | hb
      · exact (hap _ hb).2.1 ha
      · exact h4 a ha a hb rfl
  · rcases List.mem_cons.mp ha with rfl | ha
    · exact x.fresh _ own_loc
    rcases List.mem_append.mp ha with ha | ha
    · exact x.fresh _ (own_cs ha)
    · rcases flatten_set_mem ha with ha | ⟨i, f, _, e, ha⟩
      · rcases hnew a ha with ha | ha
        · exact hgk a ha
        · exact ha.2
      · exact x.fresh a (own_fps (mem_flatten_get e ha))
  · refine Classical.byContradiction fun hnx => ?_
    (obtain ⟨m, ⟨o', es, ep, ho', r⟩, b⟩ := x.ns) <;> (refine hnx ?_; clear hnx)
    exact ⟨m, ⟨o', es, ep, q.heap _ _ hns ho', r⟩, fun y v e1 e2 => let ⟨r, p1, p2⟩ := b y v e1 e2; ⟨r, p1, p2.ext hF⟩⟩
  · intro y v e1 e2
    refine Classical.byContradiction fun hnx => ?_
    (obtain ⟨c, r, p1, ⟨o', ho', hd⟩, p3⟩ := x.cel y v e1 e2) <;> (refine hnx ?_; clear hnx)
    refine ⟨c, r, p1, ⟨o', q.heap _ _ (fun hb => ?_) ho', hd⟩, p3.ext hF⟩
    rcases x.celo y c p1 with hc | ⟨o₂, ho₂⟩
    · exact hcs c hc hb
    · have := x.zk _ _ ho₂
      rw [hgk c hb] at this; cases this
  · intro c hc
    obtain ⟨v, o', ho', hd⟩ := x.csl c hc
    exact ⟨v, o', q.heap _ _ (hcs c hc) ho', hd⟩
  · by_cases hi : i = k
    · subst hi
      rw [List.getElem?_set_self hkl] at e2; cases e2
      have e1' : (σ.hp.set i o)[i]? = some o' := e1
      rw [List.getElem?_set_self (x.len ▸ hkl)] at e1'; cases e1'
      exact hr
    · rw [List.getElem?_set_ne (Ne.symm hi)] at e2
      have e1' : (σ.hp.set k o)[i]? = some o' := e1
      rw [List.getElem?_set_ne (Ne.symm hi)] at e1'
      refine (x.obj i o' f e1' e2).mono fun a ha o₂ ho₂ => q.heap a o₂ (fun hb => ?_) ho₂
      exact (x.apart hk hb).2.2 i f hi e2 ha
theorem R.trunc {l1 l2 : List AObj} {loc : List (Str × AV)} (x : R C D g ⟨loc, l1 ++ l2⟩ fps s) (hl : ∀ y v, loc.lookup y = some v → ∀ k, v = .ref k → k < l1.length) :
    ∃ fps', R C D g ⟨loc, l1⟩ fps' s ∧ fps' <+: fps := by
  have hlen : l1.length + l2.length = fps.length := by have := x.len; simpa using this
  refine ⟨fps.take l1.length, ?_, List.take_prefix ..⟩
  have hsub : ∀ a, a ∈ ownOf D (fps.take l1.length) → a ∈ ownOf D fps := fun a => own_sub fun f => List.mem_of_mem_take
  have hAt : ∀ y v, loc.lookup y = some v → ∀ r, v.At D.z fps r → v.At D.z (fps.take l1.length) r := fun y v e r h => by
    cases v with
    | dv d => exact h
    | raw u => exact h
    | ref k =>
      obtain ⟨a, fp, e2, q⟩ := h
      exact ⟨a, fp, by rw [List.getElem?_take_of_lt (hl y _ e k rfl)]; exact e2, q⟩
  refine ⟨x.bs, x.zk, x.keep, x.bare, x.fk, x.eg, x.eb, ?_, fun a ha => x.fresh a (hsub a ha), ?_, ?_, x.csl, x.celo, x.cown, x.celi, by simp; lia, fun i o f e1 e2 => ?_⟩
  · refine List.Nodup.sublist ?_ x.nd
    unfold ownOf
    refine List.Sublist.cons_cons _ (List.Sublist.append_left ?_ _)
    conv => rhs; rw [← List.take_append_drop l1.length fps, List.flatten_append]
    exact List.sublist_append_left ..
  · refine Classical.byContradiction fun hnx => ?_
    (obtain ⟨m, a, b⟩ := x.ns) <;> (refine hnx ?_; clear hnx)
    exact ⟨m, a, fun y v e1 e2 => let ⟨r, p1, p2⟩ := b y v e1 e2; ⟨r, p1, hAt y v e1 r p2⟩⟩
  · intro y v e1 e2
    refine Classical.byContradiction fun hnx => ?_
    (obtain ⟨c, r, p1, p2, p3⟩ := x.cel y v e1 e2) <;> (refine hnx ?_; clear hnx)
    exact ⟨c, r, p1, p2, hAt y v e1 r p3⟩
  · have hi : i < l1.length := (List.getElem?_eq_some_iff.mp e1).1
    rw [List.getElem?_take_of_lt hi] at e2
    exact x.obj i o f (by show (l1 ++ l2)[i]? = _; rw [List.getElem?_append_left hi]; exact e1) e2
end
end Mine
end
section
open PySem PySem.Calls PyProof.Rows
namespace Mine
structure Cx where
  prog : Program
  w : World
  C : Gl
noncomputable abbrev wpF {α : Type} (X : Cx) (A : Around) (t : Sem α) (Q : α → Shared → Prop) (s : Shared) : Prop := wpAny (model X.prog X.w) A t Q (fun _ _ => False) s
noncomputable def AOk (A : Around) (n : Nat) : Prop := A.handled = none ∧ A.depth + n < 1000 ∧ A.units + 16 * n < 9000
theorem AOk.le {A : Around} {n k : Nat} (h : AOk A n) (e : k ≤ n) : AOk A k := ⟨h.1, by have := h.2.1; omega, by have := h.2.2; omega⟩
theorem AOk.deeper {A : Around} {n : Nat} (h : AOk A (n + 1)) (env : Env) : AOk (A.deeper env) n := by
  refine ⟨h.1, ?_, ?_⟩
  · show A.depth + 1 + n < 1000; have := h.2.1; omega
  · show A.units + 3 + 16 * n < 9000; have := h.2.2; omega
theorem AOk.room {A : Around} {n : Nat} (h : AOk A n) : A.depth < recursionLimit := by show A.depth < 1000; have := h.2.1; omega
theorem wpF_mono {α : Type} {X : Cx} {A : Around} {t : Sem α} {Q Q' : α → Shared → Prop} {s : Shared} (h : wpF X A t Q s) (k : ∀ a s, Q a s → Q' a s) : wpF X A t Q' s := wpAny_mono h k fun _ _ x => x
section
variable {X : Cx} {A : Around} {C : Gl} {D : FD} {g s : Shared} {σ : St} {fps : List (List Addr)}
theorem R.loadLocal {x : Str} {v : AV} {Q : Value → Shared → Prop} (q : R C D g σ fps s) (hl : σ.loc.lookup x = some v) (hk : D.env.kindOf x = some .local) (h : ∀ r, v.At D.z fps r → Q r s) :
    wpF X A (loadName D.env x) Q s := by
  refine Classical.byContradiction fun hnx => ?_
  (obtain ⟨m, hn, hm⟩ := q.ns) <;> (refine hnx ?_; clear hnx)
  obtain ⟨r, e, hr⟩ := hm x v hl hk
  exact wpAny_loadName_local q.fk hk hn e (h r hr)
theorem R.loadCell {x : Str} {v : AV} {Q : Value → Shared → Prop} (q : R C D g σ fps s) (hl : σ.loc.lookup x = some v) (hk : D.env.kindOf x = some .cell) (h : ∀ r, v.At D.z fps r → Q r s) :
    wpF X A (loadName D.env x) Q s := by
  refine Classical.byContradiction fun hnx => ?_
  (obtain ⟨c, r, e, hc, hr⟩ := q.cel x v hl (.inl hk)) <;> (refine hnx ?_; clear hnx)
  exact wpAny_loadName_cell q.fk hk e hc (h r hr)
theorem R.loadFree {x : Str} {v : AV} {Q : Value → Shared → Prop} (q : R C D g σ fps s) (hl : σ.loc.lookup x = some v) (hk : D.env.kindOf x = some .free) (h : ∀ r, v.At D.z fps r → Q r s)
    (hn : (x == ("__classdict__" : Str)) = false) : wpF X A (loadName D.env x) Q s := by
  refine Classical.byContradiction fun hnx => ?_
  (obtain ⟨c, r, e, hc, hr⟩ := q.cel x v hl (.inr hk)) <;> (refine hnx ?_; clear hnx)
  exact wpAny_loadName_free q.fk hk e hc (h r hr) hn
noncomputable def isVar (D : FD) (x : Str) : Bool := (D.env.kindOf x == some .local || D.env.kindOf x == some .cell || D.env.kindOf x == some .free) && !(x == ("__classdict__" : Str)) && !(x == ("__debug__" : Str))
theorem R.load {x : Str} {v : AV} {Q : Value → Shared → Prop} (q : R C D g σ fps s) (hl : σ.loc.lookup x = some v) (hk : isVar D x = true) (h : ∀ r, v.At D.z fps r → Q r s) :
    wpF X A (loadName D.env x) Q s := by
  simp only [isVar, Bool.and_eq_true, Bool.or_eq_true, beq_iff_eq, Bool.not_eq_true'] at hk
  refine Classical.byContradiction fun hnx => ?_
  (obtain ⟨⟨(hk | hk) | hk, hn⟩, _⟩ := hk) <;> (refine hnx ?_; clear hnx)
  · exact q.loadLocal hl hk h
  · exact q.loadCell hl hk h
  · exact q.loadFree hl hk h hn
theorem cell_apart (q : R C D g σ fps s) {x : Str} {c : Addr} (h1 : D.env.cells.lookup x = some c) {b : Addr} (hb : b ∈ ownOf D fps) (hcb : b ∉ D.cs) : c ≠ b := by
  rintro rfl
  rcases q.celo x c h1 with hc | ⟨o, ho⟩
  · exact hcb hc
  · have := q.zk _ _ ho
    rw [q.fresh c hb] at this; cases this
theorem R.storeLocalZ {x : Str} {v : AV} {r : Value} {Q : Unit → Shared → Prop} (q : R C D g σ fps s) (hk : D.env.kindOf x = some .local) (hv : v.At D.z fps r)
    (h : ∀ s', s'.heap.objs.size = s.heap.objs.size → (∀ b o, b ≠ D.env.locals → s.heap.get? b = some o → s'.heap.get? b = some o) → s'.gens = s.gens → s'.os = s.os → R C D g ⟨(x, v) :: σ.loc, σ.hp⟩ fps s' → Q () s') : wpF X A (storeName D.env x r) Q s := by
  refine Classical.byContradiction fun hnx => ?_
  (obtain ⟨m, hn, hm⟩ := q.ns) <;> (refine hnx ?_; clear hnx)
  refine wpAny_storeName_local hk hn (fun h' hn' hs => h _ hs.1 (fun b o hb e => (hs.2 b hb).trans e) rfl rfl ?_) (by rw [q.fk]; rfl)
  have hL : D.env.locals ∈ ownOf D fps := own_loc
  have hLc : D.env.locals ∉ D.cs ∧ D.env.locals ∉ fps.flatten := by
    have := q.nd; unfold ownOf at this; rw [List.nodup_cons] at this
    exact ⟨fun e => this.1 (List.mem_append_left _ e), fun e => this.1 (List.mem_append_right _ e)⟩
  have hk' : ∀ b o, b ≠ D.env.locals → s.heap.get? b = some o → h'.get? b = some o := fun b o hb e => (hs.2 b hb).trans e
  refine ⟨q.bs, q.zk, ⟨fun b o _ e => hk' b o (fun hb => by subst hb; rw [q.fresh _ hL] at e; cases e) (q.keep.hp b o e), q.keep.gens, q.keep.bare, q.keep.os⟩, q.bare, q.fk, q.eg, q.eb, q.nd, q.fresh, ⟨_, hn', ?_⟩, ?_, ?_, q.celo, q.cown, q.celi, q.len, ?_⟩
  · intro y u e1 e2
    rw [List.lookup_cons] at e1
    by_cases hy : y = x
    · subst hy; simp at e1; subst e1; exact ⟨r, by simp, hv⟩
    · have : (y == x) = false := beq_eq_false_iff_ne.mpr hy
      rw [this] at e1
      obtain ⟨r', p1, p2⟩ := hm y u e1 e2
      exact ⟨r', by simp [hy, p1], p2⟩
  · intro y u e1 e2
    rw [List.lookup_cons] at e1
    by_cases hy : y = x
    · subst hy; rw [hk] at e2; rcases e2 with e2 | e2 <;> cases e2
    · have : (y == x) = false := beq_eq_false_iff_ne.mpr hy
      rw [this] at e1
      refine Classical.byContradiction fun hnx => ?_
      (obtain ⟨c, r', p1, ⟨o, ho, hd⟩, p3⟩ := q.cel y u e1 e2) <;> (refine hnx ?_; clear hnx)
      exact ⟨c, r', p1, ⟨o, hk' c o (cell_apart q p1 hL hLc.1) ho, hd⟩, p3⟩
  · intro c hc
    refine Classical.byContradiction fun hnx => ?_
    (obtain ⟨u, o, ho, hd⟩ := q.csl c hc) <;> (refine hnx ?_; clear hnx)
    exact ⟨u, o, hk' c o (fun e => hLc.1 (e ▸ hc)) ho, hd⟩
  · intro i o f e1 e2
    exact (q.obj i o f e1 e2).mono fun a ha o' ho' => hk' a o' (fun e => hLc.2 (e ▸ mem_flatten_get e2 ha)) ho'
theorem R.storeLocal {x : Str} {v : AV} {r : Value} {Q : Unit → Shared → Prop} (q : R C D g σ fps s) (hk : D.env.kindOf x = some .local) (hv : v.At D.z fps r)
    (h : ∀ s', R C D g ⟨(x, v) :: σ.loc, σ.hp⟩ fps s' → Q () s') : wpF X A (storeName D.env x r) Q s := q.storeLocalZ hk hv fun s' _ _ _ _ q' => h s' q'
theorem R.storeCell {x : Str} {v : AV} {r : Value} {Q : Unit → Shared → Prop} (q : R C D g σ fps s) (hk : D.env.kindOf x = some .cell) (hoc : x ∈ D.oc) (hv : v.At D.z fps r)
    (h : ∀ s', R C D g ⟨(x, v) :: σ.loc, σ.hp⟩ fps s' → Q () s') : wpF X A (storeName D.env x r) Q s := by
  obtain ⟨c, hc, hcs⟩ := q.cown x hoc
  obtain ⟨v₀, hc0⟩ := q.csl c hcs
  refine wpAny_storeName_cell q.fk hk hc hc0 (fun h' hc' hs => h _ ?_)
  have hL : c ∈ ownOf D fps := own_cs hcs
  have hnd : c ≠ D.env.locals ∧ c ∉ fps.flatten := by
    have := q.nd; unfold ownOf at this; rw [List.nodup_cons, List.nodup_append] at this
    exact ⟨fun e => this.1 (List.mem_append_left _ (e ▸ hcs)), fun e => this.2.2.2 c hcs c e rfl⟩
  have hk' : ∀ b o, b ≠ c → s.heap.get? b = some o → h'.get? b = some o := fun b o hb e => (hs.2 b hb).trans e
  refine Classical.byContradiction fun hnx => ?_
  (obtain ⟨m, ⟨o₀, es, ep, ho₀, rr⟩, hm⟩ := q.ns) <;> (refine hnx ?_; clear hnx)
  refine ⟨q.bs, q.zk, ⟨fun b o _ e => hk' b o (fun hb => by subst hb; rw [q.fresh _ hL] at e; cases e) (q.keep.hp b o e), q.keep.gens, q.keep.bare, q.keep.os⟩, q.bare, q.fk, q.eg, q.eb, q.nd, q.fresh,
    ⟨m, ⟨o₀, es, ep, hk' _ _ (Ne.symm hnd.1) ho₀, rr⟩, ?_⟩, ?_, ?_, q.celo, q.cown, q.celi, q.len, ?_⟩
  · intro y u e1 e2
    rw [List.lookup_cons] at e1
    by_cases hy : y = x
    · subst hy; rw [hk] at e2; cases e2
    · have : (y == x) = false := beq_eq_false_iff_ne.mpr hy
      rw [this] at e1
      exact hm y u e1 e2
  · intro y u e1 e2
    rw [List.lookup_cons] at e1
    by_cases hy : y = x
    · subst hy; simp at e1; subst e1; exact ⟨c, r, hc, hc', hv⟩
    · have : (y == x) = false := beq_eq_false_iff_ne.mpr hy
      rw [this] at e1
      refine Classical.byContradiction fun hnx => ?_
      (obtain ⟨c', r', p1, ⟨o, ho, hd⟩, p3⟩ := q.cel y u e1 e2) <;> (refine hnx ?_; clear hnx)
      exact ⟨c', r', p1, ⟨o, hk' c' o (fun e => hy (q.celi x y c' hoc (e ▸ hc) p1).symm) ho, hd⟩, p3⟩
  · intro c' hcm
    by_cases e : c' = c
    · subst e; exact ⟨_, hc'⟩
    · refine Classical.byContradiction fun hnx => ?_
      (obtain ⟨u, o, ho, hd⟩ := q.csl c' hcm) <;> (refine hnx ?_; clear hnx)
      exact ⟨u, o, hk' c' o e ho, hd⟩
  · intro i o f e1 e2
    exact (q.obj i o f e1 e2).mono fun a ha o' ho' => hk' a o' (fun e => hnd.2 (e ▸ mem_flatten_get e2 ha)) ho'
noncomputable def isOwnVar (D : FD) (x : Str) : Bool := D.env.kindOf x == some .local || (D.env.kindOf x == some .cell && D.oc.contains x)
theorem R.store {x : Str} {v : AV} {r : Value} {Q : Unit → Shared → Prop} (q : R C D g σ fps s) (hk : isOwnVar D x = true) (hv : v.At D.z fps r)
    (h : ∀ s', R C D g ⟨(x, v) :: σ.loc, σ.hp⟩ fps s' → Q () s') : wpF X A (storeName D.env x r) Q s := by
  simp only [isOwnVar, Bool.or_eq_true, Bool.and_eq_true, beq_iff_eq, List.contains_iff_mem] at hk
  rcases hk with hk | ⟨hk, hoc⟩
  · exact q.storeLocal hk hv h
  · exact q.storeCell hk hoc hv h
theorem R.global {x : Str} {pos : Pos} {v : Value} {Q : Value → Shared → Prop} (q : R C D g σ fps s) (hk : D.env.kindOf x = some .globalImplicit) (hv : C.tab.lookup x = some v) (h : Q v s)
    (hd : (x == ("__debug__" : Str)) = false := by decide) : wpF X A (eval (.Name x pos) D.env) Q s := by
  have b := q.bs.keeps fun b o e => q.keep.hp b o (q.zk b o e)
  refine Classical.byContradiction fun hnx => ?_
  (obtain ⟨mg, mb, h1, h2, h3⟩ := b.glob) <;> (refine hnx ?_; clear hnx)
  rw [← q.eg] at h1
  rw [← q.eb] at h2
  rcases h3 x v hv with h3 | ⟨h3, h4⟩
  · exact Name_function_global q.fk hk (loadGlobal_global h1 h3 h) hd
  · exact Name_function_global q.fk hk (loadGlobal_builtin h1 h3 h2 h4 h) hd
end
inductive NewK (s s' : Shared) (d : DV) (r : Value) : Prop
  | mk (k : Kp s s') (fp : List Addr) (x : RepV s'.heap d r fp) (n : fp.Nodup) (q : ∀ a ∈ fp, s.heap.get? a = none)
noncomputable def EvO (X : Cx) (n : Nat) (D : FD) (σ : St) (e : Expr) (d : DV) : Prop :=
  ∀ A g fps s, AOk A n → R X.C D g σ fps s → wpF X A (eval e D.env) (fun r s' => Kp s s' ∧ VR s'.heap d r) s
noncomputable def EvF (X : Cx) (n : Nat) (D : FD) (σ : St) (e : Expr) (d : DV) : Prop :=
  ∀ A g fps s, AOk A n → R X.C D g σ fps s → wpF X A (eval e D.env) (fun r s' => NewK s s' d r) s
noncomputable def EvB (X : Cx) (n : Nat) (D : FD) (σ : St) (e : Expr) (b : Bool) : Prop :=
  ∀ A g fps s, AOk A n → R X.C D g σ fps s → wpF X A (isTrue e D.env (eval e D.env)) (fun r s' => Kp s s' ∧ r = b) s
noncomputable def EvA (X : Cx) (n : Nat) (D : FD) (σ : St) (e : Expr) (v : AV) : Prop :=
  ∀ A g fps s, AOk A n → R X.C D g σ fps s → wpF X A (eval e D.env) (fun r s' => Kp s s' ∧ v.At D.z fps r) s
noncomputable def DV.sc : DV → Bool
  | .lst _ => false
  | _ => true
theorem sc_all {l : List DV} (h : l.all DV.sc = true) : ∀ d ∈ l, d.sc = true := List.all_eq_true.mp h
theorem RepV.sc_heap {h h' : Heap} {d : DV} (hd : d.sc = true) {r : Value} {fp : List Addr} (x : RepV h d r fp) : RepV h' d r [] ∧ fp = [] := by
  cases d <;> first | exact ⟨⟨x.1, rfl⟩, x.2⟩ | cases hd
section
variable {X : Cx} {n : Nat} {D : FD} {σ : St}
theorem EvF.toO {e : Expr} {d : DV} (h : EvF X n D σ e d) : EvO X n D σ e d := fun A g fps s a q => wpF_mono (h A g fps s a q) fun _ _ hqp => by obtain ⟨k, fp, r, _, _⟩ := hqp; exact ⟨k, fp, r⟩
theorem EvO.toF {e : Expr} {d : DV} (h : EvO X n D σ e d) (hd : d.sc = true) : EvF X n D σ e d := fun A g fps s a q => wpF_mono (h A g fps s a q) fun r s' hqp => by obtain ⟨k, fp, x⟩ := hqp; exact ⟨k, [], (x.sc_heap hd).1, List.nodup_nil, by simp⟩
theorem EvA.name {x : Str} {p : Pos} {v : AV} (hl : σ.loc.lookup x = some v) (hk : isVar D x = true) : EvA X n D σ (.Name x p) v := fun A g fps s _ q => by
  refine wpAny_Name (q.load (X := X) hl hk fun r hr => ⟨Kp.refl _, hr⟩) ?_
  simp only [isVar, Bool.and_eq_true, Bool.not_eq_true'] at hk
  exact hk.2
theorem EvO.name {x : Str} {p : Pos} {d : DV} (hl : σ.loc.lookup x = some (.dv d)) (hk : isVar D x = true) : EvO X n D σ (.Name x p) d := fun A g fps s a q => by
  refine wpF_mono (EvA.name hl hk A g fps s a q) fun r s' ⟨k, h⟩ => ⟨k, ?_⟩
  exact VR.keeps h fun b o e => k.hp b o (q.keep.hp b o (q.zk b o e))
theorem EvO.nameRef {x : Str} {p : Pos} {k : Nat} {xs : List DV} (hl : σ.loc.lookup x = some (.ref k)) (hk : isVar D x = true) (ho : σ.hp[k]? = some (.lst xs)) : EvO X n D σ (.Name x p) (.lst xs) := fun A g fps s a q => by
  refine wpF_mono (EvA.name hl hk A g fps s a q) fun r s' ⟨kp, a, fp, e, h⟩ => ⟨kp, ?_⟩
  subst h
  obtain ⟨a', fp', e', x⟩ := (q.ext kp).obj k _ _ ho e
  cases e'
  exact ⟨_, x⟩
theorem EvO.namePl {x : Str} {p : Pos} {k : Nat} {xs : List DV} (hl : σ.loc.lookup x = some (.ref k)) (hk : isVar D x = true) (ho : σ.hp[k]? = some (.pl xs)) : EvO X n D σ (.Name x p) (.lst xs) := fun A g fps s a q => by
  refine wpF_mono (EvA.name hl hk A g fps s a q) fun r s' ⟨kp, a, fp, e, h⟩ => ⟨kp, ?_⟩
  subst h
  obtain ⟨a', fp', e', x⟩ := ((q.ext kp).obj k _ _ ho e).pl_lst
  cases e'
  exact ⟨_, x⟩
theorem EvO.int {i : Int} {k : Nat} {p : Pos} : EvF X n D σ (.Constant (.int i) k p) (.int i) := fun A g fps s _ _ =>
  wpAny_Constant_int ⟨Kp.tok _ _, [], ⟨⟨_, rfl⟩, rfl⟩, List.nodup_nil, by simp⟩
theorem EvO.str {i : Str} {k : Nat} {p : Pos} : EvF X n D σ (.Constant (.str i) k p) (.str i) := fun A g fps s _ _ =>
  Constant_str ⟨Kp.tok _ _, [], ⟨⟨_, rfl⟩, rfl⟩, List.nodup_nil, by simp⟩
theorem EvO.none {k : Nat} {p : Pos} : EvF X n D σ (.Constant .none k p) .none := fun A g fps s _ _ =>
  wpAny_Constant_none ⟨Kp.refl _, [], ⟨rfl, rfl⟩, List.nodup_nil, by simp⟩
theorem EvO.bool {b : Bool} {k : Nat} {p : Pos} : EvF X n D σ (.Constant (.bool b) k p) (.bool b) := fun A g fps s _ _ =>
  wpAny_Constant_bool ⟨Kp.refl _, [], ⟨rfl, rfl⟩, List.nodup_nil, by simp⟩
end
inductive BinA : Operator → DV → DV → DV → Prop
  | addI {a b : Int} : BinA .Add (.int a) (.int b) (.int (a + b))
  | addS {x y : Str} (h : x.length + y.length ≤ sizeLine) : BinA .Add (.str x) (.str y) (.str (x ++ y))
  | subI {a b : Int} : BinA .Sub (.int a) (.int b) (.int (a - b))
  | mulI {a b : Int} (h : IntMulOk a b) : BinA .Mult (.int a) (.int b) (.int (a * b))
  | divI {a b : Int} (h : 0 < b) (h2 : b < 1000000000) : BinA .FloorDiv (.int a) (.int b) (.int (a / b))
  | modI {a b : Int} (h : 0 < b) : BinA .Mod (.int a) (.int b) (.int (a % b))
  | andI {a b : Int} : BinA .BitAnd (.int a) (.int b) (.int (Builtin.bitAnd a b))
  | orI {a b : Int} : BinA .BitOr (.int a) (.int b) (.int (Builtin.bitOr a b))
  | xorI {a b : Int} : BinA .BitXor (.int a) (.int b) (.int (Builtin.bitXor a b))
  | shlI {a n : Int} (hn : 0 ≤ n) (hn2 : n ≤ 1000000) (ha : a.natAbs < 2 ^ 64) : BinA .LShift (.int a) (.int n) (.int (a * 2 ^ n.toNat))
  | shrI {a n : Int} (hn : 0 ≤ n) : BinA .RShift (.int a) (.int n) (.int (a / 2 ^ n.toNat))
  | powI {a n : Int} (hn : 0 ≤ n) (hn2 : n ≤ 1000000) (ha : a.natAbs < 2 ^ 64) : BinA .Pow (.int a) (.int n) (.int (a ^ n.toNat))
section
variable {prog : Program} {w : World} {A : Around} {E : Value → Shared → Prop} {h1 h2 : Heap} {s : Shared} {op : Operator} {a b v : DV} {ra rb : Value} {Q : Value → Shared → Prop}
theorem BinA.sound (h : BinA op a b v) (ha : VR h1 a ra) (hb : VR h2 b rb) (k : ∀ r t, (∀ h3, RepV h3 v r []) → Q r { s with toks := t }) :
    wpAny (model prog w) A (binaryOp op ra rb) Q E s := by
  cases h with
  | addI => obtain ⟨t, rfl⟩ := ha.int; obtain ⟨u, rfl⟩ := hb.int; exact PyProof.Rows.add_int (k _ _ fun _ => ⟨⟨_, rfl⟩, rfl⟩)
  | addS h => obtain ⟨t, rfl⟩ := ha.str; obtain ⟨u, rfl⟩ := hb.str; exact PyProof.Rows.add_str (fun t' tk => k _ _ fun _ => ⟨⟨_, rfl⟩, rfl⟩) h
  | subI => obtain ⟨t, rfl⟩ := ha.int; obtain ⟨u, rfl⟩ := hb.int; exact PyProof.Rows.sub_int (k _ _ fun _ => ⟨⟨_, rfl⟩, rfl⟩)
  | mulI h => obtain ⟨t, rfl⟩ := ha.int; obtain ⟨u, rfl⟩ := hb.int; exact PyProof.Rows.mul_int (k _ _ fun _ => ⟨⟨_, rfl⟩, rfl⟩) h
  | @divI a b h h2 => obtain ⟨t, rfl⟩ := ha.int; obtain ⟨u, rfl⟩ := hb.int; exact PyProof.Rows.floordiv_int (by omega) (by rw [Int.fdiv_eq_ediv_of_nonneg a (by omega)]; exact k _ _ fun _ => ⟨⟨_, rfl⟩, rfl⟩) (.inl (PyProof.noPylong_small (by omega)))
  | @modI a b h => obtain ⟨t, rfl⟩ := ha.int; obtain ⟨u, rfl⟩ := hb.int; exact PyProof.Rows.mod_int (by omega) (by rw [Int.fmod_eq_emod_of_nonneg a (by omega)]; exact k _ _ fun _ => ⟨⟨_, rfl⟩, rfl⟩)
  | andI => obtain ⟨t, rfl⟩ := ha.int; obtain ⟨u, rfl⟩ := hb.int; exact PyProof.Rows.and_int (k _ _ fun _ => ⟨⟨_, rfl⟩, rfl⟩)
  | orI => obtain ⟨t, rfl⟩ := ha.int; obtain ⟨u, rfl⟩ := hb.int; exact PyProof.Rows.or_int (k _ _ fun _ => ⟨⟨_, rfl⟩, rfl⟩)
  | xorI => obtain ⟨t, rfl⟩ := ha.int; obtain ⟨u, rfl⟩ := hb.int; exact PyProof.Rows.xor_int (k _ _ fun _ => ⟨⟨_, rfl⟩, rfl⟩)
  | shlI hn hn2 h => obtain ⟨t, rfl⟩ := ha.int; obtain ⟨u, rfl⟩ := hb.int; exact PyProof.Rows.lshift_int_small hn hn2 h (k _ _ fun _ => ⟨⟨_, rfl⟩, rfl⟩)
  | @shrI a n hn => obtain ⟨t, rfl⟩ := ha.int; obtain ⟨u, rfl⟩ := hb.int; exact PyProof.Rows.rshift_int hn (by rw [Int.fdiv_eq_ediv_of_nonneg a (Int.le_of_lt (Int.pow_pos (by decide)))]; exact k _ _ fun _ => ⟨⟨_, rfl⟩, rfl⟩)
  | powI hn hn2 h => obtain ⟨t, rfl⟩ := ha.int; obtain ⟨u, rfl⟩ := hb.int; exact PyProof.Rows.pow_int_small hn hn2 h (k _ _ fun _ => ⟨⟨_, rfl⟩, rfl⟩)
theorem BinA.soundI (h : BinA op a b v) (ha : VR h1 a ra) (hb : VR h2 b rb) (k : ∀ r t, (∀ h3, RepV h3 v r []) → Q r { s with toks := t }) :
    wpAny (model prog w) A (inplaceOp op ra rb) Q E s := by
  cases h with
  | addI => obtain ⟨t, rfl⟩ := ha.int; obtain ⟨u, rfl⟩ := hb.int; exact PyProof.Rows.iadd_int (k _ _ fun _ => ⟨⟨_, rfl⟩, rfl⟩)
  | addS h => obtain ⟨t, rfl⟩ := ha.str; obtain ⟨u, rfl⟩ := hb.str; exact PyProof.Rows.iadd_str (fun t' tk => k _ _ fun _ => ⟨⟨_, rfl⟩, rfl⟩) h
  | subI => obtain ⟨t, rfl⟩ := ha.int; obtain ⟨u, rfl⟩ := hb.int; exact PyProof.Rows.isub_int (k _ _ fun _ => ⟨⟨_, rfl⟩, rfl⟩)
  | mulI h => obtain ⟨t, rfl⟩ := ha.int; obtain ⟨u, rfl⟩ := hb.int; exact PyProof.Rows.imul_int (k _ _ fun _ => ⟨⟨_, rfl⟩, rfl⟩) h
  | @divI a b h h2 => obtain ⟨t, rfl⟩ := ha.int; obtain ⟨u, rfl⟩ := hb.int; exact PyProof.Rows.ifloordiv_int (by omega) (by rw [Int.fdiv_eq_ediv_of_nonneg a (by omega)]; exact k _ _ fun _ => ⟨⟨_, rfl⟩, rfl⟩) (.inl (PyProof.noPylong_small (by omega)))
  | @modI a b h => obtain ⟨t, rfl⟩ := ha.int; obtain ⟨u, rfl⟩ := hb.int; exact PyProof.Rows.imod_int (by omega) (by rw [Int.fmod_eq_emod_of_nonneg a (by omega)]; exact k _ _ fun _ => ⟨⟨_, rfl⟩, rfl⟩)
  | andI => obtain ⟨t, rfl⟩ := ha.int; obtain ⟨u, rfl⟩ := hb.int; exact PyProof.Rows.iand_int (k _ _ fun _ => ⟨⟨_, rfl⟩, rfl⟩)
  | orI => obtain ⟨t, rfl⟩ := ha.int; obtain ⟨u, rfl⟩ := hb.int; exact PyProof.Rows.ior_int (k _ _ fun _ => ⟨⟨_, rfl⟩, rfl⟩)
  | xorI => obtain ⟨t, rfl⟩ := ha.int; obtain ⟨u, rfl⟩ := hb.int; exact PyProof.Rows.ixor_int (k _ _ fun _ => ⟨⟨_, rfl⟩, rfl⟩)
  | shlI hn hn2 h => obtain ⟨t, rfl⟩ := ha.int; obtain ⟨u, rfl⟩ := hb.int; exact PyProof.Rows.ilshift_int_small hn hn2 h (k _ _ fun _ => ⟨⟨_, rfl⟩, rfl⟩)
  | @shrI a n hn => obtain ⟨t, rfl⟩ := ha.int; obtain ⟨u, rfl⟩ := hb.int; exact PyProof.Rows.irshift_int hn (by rw [Int.fdiv_eq_ediv_of_nonneg a (Int.le_of_lt (Int.pow_pos (by decide)))]; exact k _ _ fun _ => ⟨⟨_, rfl⟩, rfl⟩)
  | powI hn hn2 h => obtain ⟨t, rfl⟩ := ha.int; obtain ⟨u, rfl⟩ := hb.int; exact PyProof.Rows.ipow_int_small hn hn2 h (k _ _ fun _ => ⟨⟨_, rfl⟩, rfl⟩)
end
inductive CmpA : CmpOp → DV → DV → Bool → Prop
  | eqI {a b : Int} : CmpA .Eq (.int a) (.int b) (a == b)
  | neI {a b : Int} : CmpA .NotEq (.int a) (.int b) (a != b)
  | ltI {a b : Int} : CmpA .Lt (.int a) (.int b) (decide (a < b))
  | gtI {a b : Int} : CmpA .Gt (.int a) (.int b) (decide (b < a))
  | eqS {x y : Str} : CmpA .Eq (.str x) (.str y) (x == y)
  | neS {x y : Str} : CmpA .NotEq (.str x) (.str y) (x != y)
  | inS {x y : Str} : CmpA .In (.str y) (.str x) (Txt.contains x y)
  | ninS {x y : Str} : CmpA .NotIn (.str y) (.str x) (!Txt.contains x y)
  | inL {i : Int} {ns : List Int} : CmpA .In (.int i) (.lst (ns.map .int)) (ns.any (· == i))
  | ninL {i : Int} {ns : List Int} : CmpA .NotIn (.int i) (.lst (ns.map .int)) (!(ns.any (· == i)))
  | isNone : CmpA .Is .none .none true
  | isNoneI {i : Int} : CmpA .Is (.int i) .none false
  | isB {a b : Bool} : CmpA .Is (.bool a) (.bool b) (a == b)
section
variable {prog : Program} {w : World} {A : Around} {E : Value → Shared → Prop} {s : Shared} {op : CmpOp} {a b : DV} {v : Bool} {ra rb : Value} {Q : Value → Shared → Prop}
theorem CmpA.sound (h : CmpA op a b v) (ha : VR s.heap a ra) (hb : VR s.heap b rb) (k : Q (.bool v) s) :
    wpAny (model prog w) A (compareOp op ra rb) Q E s := by
  cases h with
  | eqI => obtain ⟨t, rfl⟩ := ha.int; obtain ⟨u, rfl⟩ := hb.int; exact PyProof.Rows.eq_int k
  | neI => obtain ⟨t, rfl⟩ := ha.int; obtain ⟨u, rfl⟩ := hb.int; exact PyProof.Rows.ne_int k
  | ltI => obtain ⟨t, rfl⟩ := ha.int; obtain ⟨u, rfl⟩ := hb.int; exact PyProof.Rows.lt_int k
  | gtI => obtain ⟨t, rfl⟩ := ha.int; obtain ⟨u, rfl⟩ := hb.int; exact PyProof.Rows.gt_int k
  | eqS => obtain ⟨t, rfl⟩ := ha.str; obtain ⟨u, rfl⟩ := hb.str; exact PyProof.Rows.eq_str k
  | neS => obtain ⟨t, rfl⟩ := ha.str; obtain ⟨u, rfl⟩ := hb.str; exact PyProof.Rows.ne_str k
  | inS => obtain ⟨t, rfl⟩ := ha.str; obtain ⟨u, rfl⟩ := hb.str; exact SB.contains k
  | ninS => obtain ⟨t, rfl⟩ := ha.str; obtain ⟨u, rfl⟩ := hb.str; exact SB.notContains k
  | inL => obtain ⟨t, rfl⟩ := ha.int; obtain ⟨a, vs, rfl, hl, hi⟩ := hb.lst; exact in_list_ints hl hi.ints k
  | ninL => obtain ⟨t, rfl⟩ := ha.int; obtain ⟨a, vs, rfl, hl, hi⟩ := hb.lst; exact notin_list_ints hl hi.ints k
  | isNone => obtain rfl := ha.none; obtain rfl := hb.none; exact wpAny_is_self rfl k
  | isNoneI => obtain ⟨t, rfl⟩ := ha.int; obtain rfl := hb.none; exact wpAny_is_other rfl (by simp) k
  | @isB a b => obtain rfl := ha.bool; obtain rfl := hb.bool; refine wpAny_is_plain rfl ?_; rw [show (Value.bool a == Value.bool b) = (a == b) by cases a <;> cases b <;> rfl]; exact k
end
end Mine
end
section
open PySem PySem.Calls PyProof.Rows
namespace Mine
theorem R.z {C : Gl} {D : FD} {g s : Shared} {σ : St} {fps : List (List Addr)} (q : R C D g σ fps s) : Bs C s.heap := q.bs.keeps fun b o e => q.keep.hp b o (q.zk b o e)
section
variable {X : Cx} {n : Nat} {D : FD} {σ : St}
theorem EvO.two {l r : Expr} {a b : DV} (h1 : EvO X n D σ l a) (h2 : EvO X n D σ r b) {A : Around} {g s : Shared} {fps : List (List Addr)} (hA : AOk A n) (q : R X.C D g σ fps s)
    {Q : Value → Value → Shared → Prop} (k : ∀ ra rb s', Kp s s' → VR s'.heap a ra → VR s'.heap b rb → Q ra rb s') :
    wpF X A (eval l D.env) (fun ra s1 => wpF X A (eval r D.env) (fun rb s2 => Q ra rb s2) s1) s :=
  wpF_mono (h1 A g fps s hA q) fun ra s1 ⟨k1, v1⟩ => wpF_mono (h2 A g fps s1 hA (q.ext k1)) fun rb s2 hqp => by obtain ⟨k2, v2⟩ := hqp; exact k ra rb s2 (k1.trans k2) (v1.keeps k2.hp) v2
theorem EvF.bin {l r : Expr} {op : Operator} {p : Pos} {a b v : DV} (h1 : EvO X n D σ l a) (h2 : EvO X n D σ r b) (h : BinA op a b v) : EvF X n D σ (.BinOp l op r p) v := fun A g fps s hA q =>
  wpAny_BinOp (EvO.two h1 h2 hA q fun ra rb s' k va vb => h.sound va vb fun r t hr => ⟨k.trans (Kp.tok _ _), [], hr _, List.nodup_nil, by simp⟩)
theorem EvF.cmp {l r : Expr} {op : CmpOp} {p : Pos} {a b : DV} {v : Bool} (h1 : EvO X n D σ l a) (h2 : EvO X n D σ r b) (h : CmpA op a b v) (hm : behindInMarks op r = false := by with_unfolding_all rfl) :
    EvF X n D σ (.Compare l [op] [r] p) (.bool v) := fun A g fps s hA q =>
  wpAny_Compare1 (EvO.two h1 h2 hA q fun ra rb s' k va vb => h.sound va vb ⟨k, [], ⟨rfl, rfl⟩, List.nodup_nil, by simp⟩) hm
theorem EvB.cmp {l r : Expr} {op : CmpOp} {p : Pos} {a b : DV} {v : Bool} (h1 : EvO X n D σ l a) (h2 : EvO X n D σ r b) (h : CmpA op a b v) (hm : behindInMarks op r = false := by with_unfolding_all rfl) :
    EvB X n D σ (.Compare l [op] [r] p) v := fun A g fps s hA q =>
  wpAny_isTrue_Compare1 (EvO.two h1 h2 hA q fun ra rb s' k va vb => h.sound va vb (wpAny_truthy_bool ⟨k, rfl⟩)) hm
theorem EvB.not {x : Expr} {p : Pos} {b : Bool} (h : EvB X n D σ x b) : EvB X n D σ (.UnaryOp .Not x p) (!b) := fun A g fps s hA q =>
  wpAny_isTrue_Not (wpF_mono (h A g fps s hA q) fun c s' hqp => by obtain ⟨k, e⟩ := hqp; exact ⟨k, by rw [e]⟩)
theorem EvB.and2 {x y : Expr} {p : Pos} {b c : Bool} (h1 : EvB X n D σ x b) (h2 : b = true → EvB X n D σ y c) : EvB X n D σ (.BoolOp .And [x, y] p) (b && c) := fun A g fps s hA q =>
  wpAny_isTrue_BoolOp (wpAny_allTrue_And_cons (wpF_mono (h1 A g fps s hA q) fun r s1 ⟨k1, e1⟩ => by
    subst e1
    cases r with
    | false => exact ⟨k1, rfl⟩
    | true =>
      refine wpAny_allTrue_And_cons (wpF_mono (h2 rfl A g fps s1 hA (q.ext k1)) fun r s2 hq1 => ?_)
      obtain ⟨k2, e2⟩ := hq1
      subst e2
      cases r with
      | false => exact ⟨k1.trans k2, rfl⟩
      | true => exact wpAny_allTrue_And_nil ⟨k1.trans k2, rfl⟩))
theorem EvB.or2 {x y : Expr} {p : Pos} {b c : Bool} (h1 : EvB X n D σ x b) (h2 : b = false → EvB X n D σ y c) : EvB X n D σ (.BoolOp .Or [x, y] p) (b || c) := fun A g fps s hA q =>
  wpAny_isTrue_BoolOp (wpAny_allTrue_Or_cons (wpF_mono (h1 A g fps s hA q) fun r s1 ⟨k1, e1⟩ => by
    subst e1
    cases r with
    | true => exact ⟨k1, rfl⟩
    | false =>
      refine wpAny_allTrue_Or_cons (wpF_mono (h2 rfl A g fps s1 hA (q.ext k1)) fun r s2 hq2 => ?_)
      obtain ⟨k2, e2⟩ := hq2
      subst e2
      cases r with
      | true => exact ⟨k1.trans k2, rfl⟩
      | false => exact wpAny_allTrue_Or_nil ⟨k1.trans k2, rfl⟩))
noncomputable def DV.truth : DV → Bool
  | .none => false
  | .bool b => b
  | .int i => i != 0
  | .str x => (x.length : Int) != 0
  | .lst xs => !xs.isEmpty
theorem truthy_ok {prog : Program} {w : World} {A : Around} {E : Value → Shared → Prop} {s : Shared} {d : DV} {r : Value} {Q : Bool → Shared → Prop} (h : VR s.heap d r) (hd : d ≠ .none)
    (hz : ∀ x, d = .str x → x.length ≤ sizeLine) (hz2 : ∀ x, d = .lst x → x.length ≤ sizeLine) (k : ∀ s', Kp s s' → Q d.truth s') : wpAny (model prog w) A (truthy r) Q E s := by
  cases d with
  | none => exact absurd rfl hd
  | bool b => obtain rfl := h.bool; exact wpAny_truthy_bool (k _ (Kp.refl _))
  | int i => obtain ⟨t, rfl⟩ := h.int; exact P.truthy_int (k _ (Kp.refl _))
  | str x => obtain ⟨t, rfl⟩ := h.str; exact P.truthy_str (by have := hz x rfl; rw [sizeLine_eq] at this; omega) (k _ (Kp.tok _ _))
  | lst xs =>
    obtain ⟨a, vs, rfl, hl, hv⟩ := h.lst
    have e := hv.length
    refine wpAny_truthy_list hl (by have := hz2 xs rfl; rw [sizeLine_eq] at this; rw [List.size_toArray, e]; omega) ?_
    have e2 : (!vs.toArray.isEmpty) = DV.truth (.lst xs) := by
      cases vs <;> cases xs <;> simp_all [DV.truth]
    rw [e2]; exact k _ (Kp.tok _ _)
theorem EvB.val {e : Expr} {d : DV} (h : EvO X n D σ e d) (hd : d ≠ .none) (hz : ∀ x, d = .str x → x.length ≤ sizeLine := by intro _ e; cases e) (hz2 : ∀ x, d = .lst x → x.length ≤ sizeLine := by intro _ e; cases e)
    (he : ∀ env whole, isTrue e env whole = (do let v ← whole; standAt e.pos; holding [v] (truthy v)) := by intro _ _; rfl) : EvB X n D σ e d.truth := fun A g fps s hA q =>
  wpAny_isTrue_value (wpF_mono (h A g fps s hA q) fun r s1 hqp => by obtain ⟨k1, v1⟩ := hqp; exact truthy_ok v1 hd hz hz2 fun s' k' => ⟨k1.trans k', rfl⟩) (he _ _)
theorem EvF.neg {x : Expr} {p : Pos} {i : Int} (h : EvO X n D σ x (.int i)) : EvF X n D σ (.UnaryOp .USub x p) (.int (-i)) := fun A g fps s hA q =>
  wpAny_UnaryOp (wpF_mono (h A g fps s hA q) fun r s1 ⟨k1, v1⟩ => by
    obtain ⟨t, rfl⟩ := v1.int
    exact P.neg_int ⟨k1.trans (Kp.tok _ _), [], ⟨⟨_, rfl⟩, rfl⟩, List.nodup_nil, by simp⟩)
theorem listItem {prog : Program} {w : World} {A : Around} {E : Value → Shared → Prop} {s : Shared} {xs : List DV} {ra : Value} {i : Int} {d : DV} {t : Tok} {Q : Value → Shared → Prop} (h : VR s.heap (.lst xs) ra)
    (hx : (seqIndex? i xs.length).bind (xs[·]?) = some d) (hz : xs.length ≤ sizeLine) (k : ∀ r, VR s.heap d r → Q r s) : s.TypeIs ra "list" ∧ wpAny (model prog w) A (getItem ra (.int i t)) Q E s := by
  obtain ⟨a, vs, rfl, hl, hv⟩ := h.lst
  refine ⟨hl.typeIs, ?_⟩
  have e := hv.length
  rw [sizeLine_eq] at hz
  by_cases h0 : 0 ≤ i
  · have hi : i < xs.length := by
      rw [Option.bind_eq_some_iff] at hx
      refine Classical.byContradiction fun hnx => ?_
      (obtain ⟨j, hj, hx⟩ := hx) <;> (refine hnx ?_; clear hnx)
      unfold seqIndex? at hj
      have : ¬ i < 0 := by omega
      simp [this] at hj; omega
    have e2 : xs[i.toNat]? = some d := by
      rw [Option.bind_eq_some_iff] at hx
      obtain ⟨j, hj, hx⟩ := hx
      have : j = i.toNat := by
        unfold seqIndex? at hj
        have : ¬ i < 0 := by omega
        simp [this] at hj; lia
      rw [← this]; exact hx
    obtain ⟨r, hr, vr⟩ := hv.get e2
    exact wpAny_getItem_list hl h0 (by omega) (by simpa using hr) (k r vr)
  · have hi : -(xs.length : Int) ≤ i := by
      rw [Option.bind_eq_some_iff] at hx
      refine Classical.byContradiction fun hnx => ?_
      (obtain ⟨j, hj, hx⟩ := hx) <;> (refine hnx ?_; clear hnx)
      unfold seqIndex? at hj
      have : i < 0 := by omega
      simp [this] at hj; omega
    have e2 : xs[(i + xs.length).toNat]? = some d := by
      rw [Option.bind_eq_some_iff] at hx
      obtain ⟨j, hj, hx⟩ := hx
      have : j = (i + xs.length).toNat := by
        unfold seqIndex? at hj
        have : i < 0 := by omega
        simp [this] at hj; lia
      rw [← this]; exact hx
    obtain ⟨r, hr, vr⟩ := hv.get e2
    exact wpAny_getItem_list_neg hl (by omega) (by rw [List.size_toArray, e]; exact hi) (by omega) (by rw [List.size_toArray, e]; simpa using hr) (k r vr)
theorem EvO.item {o i : Expr} {p : Pos} {xs : List DV} {j : Int} {d : DV} (h1 : EvO X n D σ o (.lst xs)) (h2 : EvO X n D σ i (.int j)) (hx : (seqIndex? j xs.length).bind (xs[·]?) = some d) (hz : xs.length ≤ sizeLine)
    (hs : ∀ a t, subscripted i false (.ref a) (.int j t) = operate [.ref a, .int j t] (getItem (.ref a) (.int j t)) := by intro _ _; with_unfolding_all rfl) : EvO X n D σ (.Subscript o i p) d := fun A g fps s hA q => by
  refine Subscript_ (EvO.two h1 h2 hA q fun ra rb s' k va vb => ?_)
  obtain ⟨t, rfl⟩ := vb.int
  obtain ⟨a, vs, rfl, _, _⟩ := id va.lst
  obtain ⟨hT, hw⟩ := listItem (prog := X.prog) (w := X.w) (A := A) (E := fun _ _ => False) (t := t) (Q := fun r s'' => Kp s s'' ∧ VR s''.heap d r) va hx hz fun r vr => ⟨k, vr⟩
  exact tail_any hT list_getitem_lookup hw (hs _ _)
theorem EvF.chr {o i : Expr} {p : Pos} {x : Str} {j : Int} {c : Nat} (h1 : EvO X n D σ o (.str x)) (h2 : EvO X n D σ i (.int j)) (hx : (seqIndex? j x.length).bind (x.cps[·]?) = some c) (hz : (decide (j < -(2 ^ 63 : Int)) || decide (j ≥ 2 ^ 63)) = false)
    (hs : ∀ t u, subscripted i false (.str x t) (.int j u) = operate [.str x t, .int j u] (getItem (.str x t) (.int j u)) := by intro _ _; with_unfolding_all rfl) : EvF X n D σ (.Subscript o i p) (.str ⟨#[c]⟩) := fun A g fps s hA q => by
  refine Subscript_ (EvO.two h1 h2 hA q fun ra rb s' k va vb => ?_)
  obtain ⟨t, rfl⟩ := va.str
  obtain ⟨u, rfl⟩ := vb.int
  exact tail_any (typeIs_str _ _ _) F.slot_str_getitem.lookup (P.getItem_str hz hx ⟨k.trans (Kp.tok _ _), [], ⟨⟨_, rfl⟩, rfl⟩, List.nodup_nil, by simp⟩) (hs _ _)
noncomputable def EvPart (X : Cx) (n : Nat) (D : FD) (σ : St) (e : Option Expr) (i : Option Int) : Prop :=
  ∀ A g fps s, AOk A n → R X.C D g σ fps s → wpF X A (evalPart e D.env) (fun r s' => Kp s s' ∧ IsPart r i) s
theorem EvPart.none : EvPart X n D σ none none := fun A g fps s _ _ => wpAny_evalPart_none ⟨Kp.refl _, .none⟩
theorem EvPart.some {e : Expr} {i : Int} (h : EvO X n D σ e (.int i)) : EvPart X n D σ (some e) (some i) := fun A g fps s hA q =>
  wpAny_evalPart_some (wpF_mono (h A g fps s hA q) fun r s' hqp => by obtain ⟨k, v⟩ := hqp; obtain ⟨t, rfl⟩ := v.int; exact ⟨k, .int _ _⟩)
noncomputable def pickD (xs : List DV) (lo hi st : Option Int) : List DV :=
  (sliceRange (sliceBounds lo hi st xs.length).1 (sliceBounds lo hi st xs.length).2.1 (sliceBounds lo hi st xs.length).2.2).filterMap (xs[·]?)
theorem VRs.pick {h : Heap} {xs : List DV} {vs : List Value} (x : VRs h xs vs) (lo hi st : Option Int) : VRs h (pickD xs lo hi st) (slicePick vs.toArray lo hi st).toList := by
  have e : (slicePick vs.toArray lo hi st).toList = (sliceRange (sliceBounds lo hi st xs.length).1 (sliceBounds lo hi st xs.length).2.1 (sliceBounds lo hi st xs.length).2.2).filterMap (vs[·]?) := by
    simp [slicePick, x.length]
  rw [e]
  unfold pickD
  induction sliceRange (sliceBounds lo hi st xs.length).1 (sliceBounds lo hi st xs.length).2.1 (sliceBounds lo hi st xs.length).2.2 with
  | nil => exact .nil
  | cons i r ih =>
    cases e1 : xs[i]? with
    | none =>
      have : vs[i]? = none := by rw [List.getElem?_eq_none_iff] at e1 ⊢; rw [x.length]; exact e1
      rw [List.filterMap_cons_none e1, List.filterMap_cons_none this]; exact ih
    | some d =>
      refine Classical.byContradiction fun hnx => ?_
      (obtain ⟨r', h1, h2⟩ := x.get e1) <;> (refine hnx ?_; clear hnx)
      rw [List.filterMap_cons_some e1, List.filterMap_cons_some h1]; exact .cons h2 ih
theorem pick_runD (xs : List DV) (a : Nat) : ∀ m : Nat, ((List.range m).map (fun x => a + x)).filterMap (fun i => xs[i]?) = (xs.drop a).take m
  | 0 => by rfl
  | m + 1 => by
    rw [List.range_succ, List.map_append, List.filterMap_append, pick_runD xs a m, List.take_add_one]
    simp only [List.map_cons, List.map_nil, List.getElem?_drop]
    cases e : xs[a + m]? with
    | none => rw [List.filterMap_cons_none (by exact e)]; rfl
    | some v => rw [List.filterMap_cons_some (by exact e)]; rfl
theorem pickD_plain (xs : List DV) (lo hi : Option Int) : pickD xs lo hi none = (xs.drop (lo.elim 0 (clipAt xs.length))).take (hi.elim xs.length (clipAt xs.length) - lo.elim 0 (clipAt xs.length)) := by
  unfold pickD
  rw [sliceBounds_plain]
  simp only [sliceRange_one]
  exact pick_runD _ _ _
theorem scs_rep {h h' : Heap} : ∀ {xs : List DV} {vs : List Value}, VRs h xs vs → (∀ d ∈ xs, d.sc = true) → RepVs h' xs vs []
  | [], _, x, _ => by rw [x.nil_inv]; exact ⟨rfl, rfl⟩
  | d :: xs, _, x, hs => by
    obtain ⟨r, rs, rfl, ⟨f, a⟩, b⟩ := x.cons_inv
    exact ⟨r, rs, [], [], rfl, rfl, (a.sc_heap (h' := h') (hs d List.mem_cons_self)).1, scs_rep b fun e he => hs e (List.mem_cons_of_mem _ he)⟩
theorem pickD_sub {xs : List DV} {lo hi st : Option Int} : ∀ d ∈ pickD xs lo hi st, d ∈ xs := by
  intro d hd
  unfold pickD at hd
  obtain ⟨i, _, h⟩ := List.mem_filterMap.mp hd
  exact List.mem_of_getElem? h
theorem fresh_push {s : Shared} : s.heap.get? s.heap.objs.size = none := by
  cases e : s.heap.get? s.heap.objs.size with
  | none => rfl
  | some o => exact absurd (Heap.lt_size e) (Nat.lt_irrefl _)
theorem fresh_of_kp {s s' : Shared} (k : Kp s s') {a : Addr} (h : s'.heap.get? a = none) : s.heap.get? a = none := by
  cases e : s.heap.get? a with
  | none => rfl
  | some o => rw [k.hp a o e] at h; cases h
theorem newFlat {s s' : Shared} {xs : List DV} {vs : List Value} (k : Kp s s') (hv : VRs s'.heap xs vs) (hs : ∀ d ∈ xs, d.sc = true) :
    NewK s { s' with heap := s'.heap.push { cls := .type "list", data := .seq vs.toArray } } (.lst xs) (.ref s'.heap.objs.size) :=
  ⟨k.trans (Kp.push _ _ _), [s'.heap.objs.size], ⟨_, vs, [], rfl, rfl, ⟨_, Heap.get?_push_size _ rfl, rfl, _, rfl⟩, scs_rep hv hs⟩, by simp, fun a ha => by
    rw [List.mem_singleton.mp ha]; exact fresh_of_kp k fresh_push⟩
theorem EvF.slice {o : Expr} {lo hi st : Option Expr} {p ps : Pos} {xs : List DV} {l h t : Option Int} (h1 : EvO X n D σ o (.lst xs)) (h2 : EvPart X n D σ lo l) (h3 : EvPart X n D σ hi h) (h4 : EvPart X n D σ st t) (h0 : t ≠ some 0)
    (hz : xs.length ≤ sizeLine) (hsc : ∀ d ∈ xs, d.sc = true)
    (hs : ∀ a b, ∃ ops, subscripted (.Slice lo hi st ps) false (.ref a) (.ref b) = operate ops (getItem (.ref a) (.ref b)) := by intro _ _; exact ⟨_, by with_unfolding_all rfl⟩) :
    EvF X n D σ (.Subscript o (.Slice lo hi st ps) p) (.lst (pickD xs l h t)) := fun A g fps s hA q => by
  refine Subscript_ (wpF_mono (h1 A g fps s hA q) fun ro s1 hq3 => ?_)
  obtain ⟨k1, v1⟩ := hq3
  refine wpAny_Slice (wpF_mono (h2 A g fps s1 hA (q.ext k1)) fun rl s2 ⟨k2, v2⟩ => wpF_mono (h3 A g fps s2 hA ((q.ext k1).ext k2)) fun rh s3 ⟨k3, v3⟩ => wpF_mono (h4 A g fps s3 hA (((q.ext k1).ext k2).ext k3)) fun rt s4 hq4 => ?_)
  obtain ⟨k4, v4⟩ := hq4
  have k := ((k1.trans k2).trans k3).trans k4
  have v1' := v1.keeps ((k2.trans k3).trans k4).hp
  refine Classical.byContradiction fun hnx => ?_
  (obtain ⟨a, vs, rfl, hl, hv⟩ := v1'.lst) <;> (refine hnx ?_; clear hnx)
  obtain ⟨ops, hs⟩ := hs a s4.heap.objs.size
  have k5 : Kp s { s4 with heap := s4.heap.push { cls := .type "slice", data := .fields #[rl, rh, rt] } } := k.trans (Kp.push _ _ _)
  refine tail_any (Heap.IsList.typeIs (s := { s4 with heap := s4.heap.push { cls := .type "slice", data := .fields #[rl, rh, rt] } }) (hl.push _)) list_getitem_lookup
    (wpAny_getItem_list_slice (hl.push _) (Heap.IsSliceOf.new ..) v2 v3 v4 h0 ?_ (by rw [List.size_toArray, hv.length]; exact hz)) hs
  have hv' := (hv.keeps (Kp.push s4 { cls := .type "slice", data := .fields #[rl, rh, rt] } s4.toks).hp).pick l h t
  exact newFlat k5 hv' fun d hd => hsc d (pickD_sub d hd)
theorem EvF.sliceS {o : Expr} {lo hi : Option Expr} {p ps : Pos} {x : Str} {l h : Option Int} (h1 : EvO X n D σ o (.str x)) (h2 : EvPart X n D σ lo l) (h3 : EvPart X n D σ hi h)
    (hz : x.length ≤ sizeLine)
    (hs : ∀ a b, ∃ ops, subscripted (.Slice lo hi none ps) false (.str x a) (.ref b) = operate ops (getItem (.str x a) (.ref b)) := by intro _ _; exact ⟨_, by with_unfolding_all rfl⟩) :
    EvF X n D σ (.Subscript o (.Slice lo hi none ps) p) (.str (Txt.slice x l h)) := fun A g fps s hA q => by
  refine Subscript_ (wpF_mono (h1 A g fps s hA q) fun ro s1 hq5 => ?_)
  obtain ⟨k1, v1⟩ := hq5
  refine wpAny_Slice (wpF_mono (h2 A g fps s1 hA (q.ext k1)) fun rl s2 ⟨k2, v2⟩ => wpF_mono (h3 A g fps s2 hA ((q.ext k1).ext k2)) fun rh s3 ⟨k3, v3⟩ => wpAny_evalPart_none ?_)
  have k := (k1.trans k2).trans k3
  obtain ⟨t, rfl⟩ := v1.str
  obtain ⟨ops, hs⟩ := hs t s3.heap.objs.size
  have hk : KeptH (fun h => ∀ b o, s3.heap.get? b = some o → h.get? b = some o) := fun h ob H b o e => Heap.get?_push_of_some _ (H b o e)
  have fin : ∀ h' t' k', (∀ b o, s3.heap.get? b = some o → h'.get? b = some o) → NewK s { s3 with heap := h', toks := k' } (.str (Txt.slice x l h)) (.str (Txt.slice x l h) t') :=
    fun h' t' k' H => ⟨k.trans (Kp.of_heap H), [], ⟨⟨_, rfl⟩, rfl⟩, List.nodup_nil, by simp⟩
  cases v2 with
  | none =>
    cases v3 with
    | none => obtain ⟨T, id, e1, e2, e3⟩ := SBH.sliceItem_nn (Q := fun r s' => NewK s s' (.str (Txt.slice x none none)) r) (prog := X.prog) (w := X.w) (A := A) (E := fun _ _ => False) (t := t) hk (s := s3) (fun _ _ e => e) fin hz; exact tail_any e2 e1 e3 hs
    | int j uj => obtain ⟨T, id, e1, e2, e3⟩ := SBH.sliceItem_ns (Q := fun r s' => NewK s s' (.str (Txt.slice x none (some j))) r) (prog := X.prog) (w := X.w) (A := A) (E := fun _ _ => False) (t := t) (uj := uj) hk (s := s3) (fun _ _ e => e) fin hz; exact tail_any e2 e1 e3 hs
  | int i ui =>
    cases v3 with
    | none => obtain ⟨T, id, e1, e2, e3⟩ := SBH.sliceItem_sn (Q := fun r s' => NewK s s' (.str (Txt.slice x (some i) none)) r) (prog := X.prog) (w := X.w) (A := A) (E := fun _ _ => False) (t := t) (ui := ui) hk (s := s3) (fun _ _ e => e) fin hz; exact tail_any e2 e1 e3 hs
    | int j uj => obtain ⟨T, id, e1, e2, e3⟩ := SBH.sliceItem_ss (Q := fun r s' => NewK s s' (.str (Txt.slice x (some i) (some j))) r) (prog := X.prog) (w := X.w) (A := A) (E := fun _ _ => False) (t := t) (ui := ui) (uj := uj) hk (s := s3) (fun _ _ e => e) fin hz; exact tail_any e2 e1 e3 hs
noncomputable def EvOs (X : Cx) (n : Nat) (D : FD) (σ : St) (es : List Expr) (ds : List DV) : Prop :=
  ∀ pos A g fps s, AOk A n → R X.C D g σ fps s → wpF X A (spliced (backTo pos (starEach es D.env))) (fun vs s' => Kp s s' ∧ VRs s'.heap ds vs) s
theorem EvOs.nil : EvOs X n D σ [] [] := fun pos A g fps s _ _ => args_nil ⟨Kp.refl _, .nil⟩
theorem EvOs.cons {e : Expr} {es : List Expr} {d : DV} {ds : List DV} (h1 : EvO X n D σ e d) (h2 : EvOs X n D σ es ds) (he : ∀ env, starEach (e :: es) env = (false, eval e env) :: starEach es env := by intro _; rfl) :
    EvOs X n D σ (e :: es) (d :: ds) := fun pos A g fps s hA q =>
  args_cons (wpF_mono (h1 A g fps s hA q) fun v s1 ⟨k1, v1⟩ => wpF_mono (h2 pos A g fps s1 hA (q.ext k1)) fun vs s2 hqp => by obtain ⟨k2, v2⟩ := hqp; exact ⟨k1.trans k2, .cons (v1.keeps k2.hp) v2⟩) (he _)
theorem EvF.list {es : List Expr} {p : Pos} {ds : List DV} (h : EvOs X n D σ es ds) (hs : ∀ d ∈ ds, d.sc = true) (hz : ds.length ≤ sizeLine := by decide) : EvF X n D σ (.List es p) (.lst ds) := fun A g fps s hA q =>
  wpAny_List (wpF_mono (h p A g fps s hA q) fun vs s1 hqp => by obtain ⟨k1, v1⟩ := hqp; exact ⟨by rw [v1.length]; exact hz, newFlat k1 v1 hs⟩)
noncomputable def CallO (X : Cx) (n : Nat) (f : Value) (args : List DV) (d : DV) : Prop :=
  ∀ A s rs, AOk A n → Bs X.C s.heap → AllBare s.gens → VRs s.heap args rs → wpF X A (call f rs) (fun r s' => NewK s s' d r) s
inductive IsFn (X : Cx) (f : Value) : Prop
  | mk (a : Addr) (o : Obj) (fd : FuncData) (e : f = .ref a) (h1 : (a, o) ∈ X.C.objs) (h2 : o.data = .func fd)
theorem CallO.le {f : Value} {args : List DV} {d : DV} {m : Nat} (h : CallO X m f args d) (e : m ≤ n) : CallO X n f args d := fun A s rs hA => h A s rs (hA.le e)
theorem EvF.call {x : Str} {p pos : Pos} {es : List Expr} {e : Expr} {f : Value} {ds : List DV} {d : DV} (hk : D.env.kindOf x = some .globalImplicit) (hv : X.C.tab.lookup x = some f) (hf : IsFn X f)
    (ha : EvOs X n D σ (e :: es) ds) (h : CallO X n f ds d) (hd : (x == ("__debug__" : Str)) = false := by decide) (he : ∀ env, starEach (e :: es) env = (false, eval e env) :: starEach es env := by intro _; rfl)
    (hc : ∀ env, eval (.Call (.Name x p) (e :: es) [] pos) env = (do callWith pos (← eval (.Name x p) env) [] (backTo pos (starEach (e :: es) env)) (backToKw pos (keywordEach [] env))) := by intro _; rfl) :
    EvF X n D σ (.Call (.Name x p) (e :: es) [] pos) d := fun A g fps s hA q => by
  refine Call_ (q.global (X := X) hk hv ?_ hd) (hc _)
  obtain ⟨a, o, fd, rfl, ho, hfd⟩ := hf
  refine callWith_def (o := o) (fd := fd) hfd (wpF_mono (ha pos A g fps s hA q) fun vs s1 ⟨k1, v1⟩ => ⟨(q.ext k1).z.held _ ho, ?_⟩) (he _)
  exact wpF_mono (h A s1 vs hA (q.ext k1).z (q.ext k1).bare v1) fun r s2 hqp => by obtain ⟨k2, fp, h1, h2, h3⟩ := hqp; exact ⟨k1.trans k2, fp, h1, h2, fun a ha => fresh_of_kp k1 (h3 a ha)⟩
theorem EvF.callB {x : Str} {p pos : Pos} {es : List Expr} {e : Expr} {f : String} {ds : List DV} {d : DV} (hk : D.env.kindOf x = some .globalImplicit) (hv : X.C.tab.lookup x = some (.builtin f))
    (ha : EvOs X n D σ (e :: es) ds) (h : CallO X n (.builtin f) ds d) (hd : (x == ("__debug__" : Str)) = false := by decide) (he : ∀ env, starEach (e :: es) env = (false, eval e env) :: starEach es env := by intro _; rfl)
    (hp : ∀ env, (backTo pos (starEach es env)).any (·.1) = false := by intro _; rfl)
    (hc : ∀ env, eval (.Call (.Name x p) (e :: es) [] pos) env = (do callWith pos (← eval (.Name x p) env) [] (backTo pos (starEach (e :: es) env)) (backToKw pos (keywordEach [] env))) := by intro _; rfl) :
    EvF X n D σ (.Call (.Name x p) (e :: es) [] pos) d := fun A g fps s hA q => by
  refine Call_ (q.global (X := X) hk hv ?_ hd) (hc _)
  refine callWith_builtin1 (wpF_mono (ha pos A g fps s hA q) fun vs s1 hq6 => ?_) (he _) (hp _)
  obtain ⟨k1, v1⟩ := hq6
  exact wpF_mono (h A s1 vs hA (q.ext k1).z (q.ext k1).bare v1) fun r s2 hqp => by obtain ⟨k2, fp, h1, h2, h3⟩ := hqp; exact ⟨k1.trans k2, fp, h1, h2, fun a ha => fresh_of_kp k1 (h3 a ha)⟩
theorem one_arg {h : Heap} {d : DV} {rs : List Value} (x : VRs h [d] rs) : ∃ r, rs = [r] ∧ VR h d r := by
  obtain ⟨r, rs', rfl, a, b⟩ := x.cons_inv; rw [b.nil_inv]; exact ⟨r, rfl, a⟩
theorem two_args {h : Heap} {d e : DV} {rs : List Value} (x : VRs h [d, e] rs) : ∃ r r', rs = [r, r'] ∧ VR h d r ∧ VR h e r' := by
  obtain ⟨r, rs', rfl, a, b⟩ := x.cons_inv; obtain ⟨r', rfl, c⟩ := one_arg b; exact ⟨r, r', rfl, a, c⟩
theorem scal {s s' : Shared} {d : DV} {r : Value} (k : Kp s s') (h : RepV s'.heap d r []) : NewK s s' d r := ⟨k, [], h, List.nodup_nil, by simp⟩
theorem CallO.lenS {x : Str} (hz : x.length ≤ sizeLine) : CallO X n (.builtin "len") [.str x] (.int x.length) := fun A s rs _ _ _ v => by
  obtain ⟨r, rfl, v1⟩ := one_arg v
  obtain ⟨t, rfl⟩ := v1.str
  exact P.len_str (by rw [sizeLine_eq] at hz; omega) (scal (Kp.tok _ _) ⟨⟨_, rfl⟩, rfl⟩)
theorem CallO.lenL {xs : List DV} (hz : xs.length ≤ sizeLine) : CallO X n (.builtin "len") [.lst xs] (.int xs.length) := fun A s rs _ _ _ v => by
  obtain ⟨r, rfl, v1⟩ := one_arg v
  obtain ⟨a, vs, rfl, hl, hv⟩ := v1.lst
  have e := hv.length
  refine PyProof.Rows.len_list hl (by rw [sizeLine_eq] at hz; rw [List.size_toArray, e]; omega) ?_
  rw [List.size_toArray, e]
  exact scal (Kp.tok _ _) ⟨⟨_, rfl⟩, rfl⟩
theorem CallO.chr {i : Int} (h0 : 0 ≤ i) (h1 : i ≤ 1114111) : CallO X n (.builtin "chr") [.int i] (.str ⟨#[i.toNat]⟩) := fun A s rs _ _ _ v => by
  obtain ⟨r, rfl, v1⟩ := one_arg v
  obtain ⟨t, rfl⟩ := v1.int
  exact chr_of_range h0 h1 (scal (Kp.tok _ _) ⟨⟨_, rfl⟩, rfl⟩)
theorem CallO.ord {c : Nat} : CallO X n (.builtin "ord") [.str ⟨#[c]⟩] (.int c) := fun A s rs _ _ _ v => by
  obtain ⟨r, rfl, v1⟩ := one_arg v
  obtain ⟨t, rfl⟩ := v1.str
  exact P.ord_of_char (scal (Kp.tok _ _) ⟨⟨_, rfl⟩, rfl⟩)
theorem CallO.hex {i : Int} (hz : (baseText "0x" 16 i).length ≤ sizeLine) : CallO X n (.builtin "hex") [.int i] (.str (baseText "0x" 16 i)) := fun A s rs _ _ _ v => by
  obtain ⟨r, rfl, v1⟩ := one_arg v
  obtain ⟨t, rfl⟩ := v1.int
  exact P.hex_of_int (scal (Kp.tok _ _) ⟨⟨_, rfl⟩, rfl⟩) hz
theorem CallO.min2 {a b : Int} : CallO X n (.builtin "min") [.int a, .int b] (.int (if b < a then b else a)) := fun A s rs hA _ _ v => by
  obtain ⟨r, r', rfl, v1, u⟩ := two_args v
  obtain ⟨t, rfl⟩ := v1.int
  obtain ⟨t', rfl⟩ := u.int
  refine min_two_ints hA.1 fun h' tk hk => scal (Kp.of_heap hk) ?_
  split <;> exact ⟨⟨_, rfl⟩, rfl⟩
theorem CallO.sum {ns : List Int} : CallO X n (.builtin "sum") [.lst (ns.map .int)] (.int ns.sum) := fun A s rs hA _ _ v => by
  obtain ⟨r, rfl, v1⟩ := one_arg v
  obtain ⟨a, vs, rfl, hl, hv⟩ := v1.lst
  have hi := hv.ints
  obtain ⟨xs, hx⟩ := hi.allInts.items
  rw [hx] at hl
  refine sum_intListG hA.1 hl fun h' tk t' hk => ?_
  have e : preSum (numAt xs) xs.size = ns.sum := by
    rw [preSum_eq, List.take_of_length_le (by simp)]
    have := hi.numsOf
    rw [show vs = vs.toArray.toList from rfl, hx, nums_intItems] at this
    rw [this]
  rw [e]
  exact scal (Kp.of_heap hk) ⟨⟨_, rfl⟩, rfl⟩
end
end Mine
end
section
open PySem PySem.Calls PyProof.Rows
namespace Mine
inductive AFl where
  | next | brk | cont | ret (d : DV)
inductive RetR (g s' : Shared) (d : DV) (f : Flow) : Prop
  | mk (r : Value) (fp : List Addr) (e : f = .ret r) (x : RepV s'.heap d r fp) (n : fp.Nodup) (q : ∀ a ∈ fp, g.heap.get? a = none)
noncomputable def FlR (g s' : Shared) : AFl → Flow → Prop
  | .next, f => f = .next
  | .brk, f => f = .brk
  | .cont, f => f = .cont
  | .ret d, f => RetR g s' d f
theorem FlR.back {g g' s' : Shared} {fl : AFl} {f : Flow} (h : FlR g' s' fl f) (k : Kp g g') : FlR g s' fl f := by
  cases fl with
  | ret d => obtain ⟨r, fp, e, x, n, q⟩ := h; exact ⟨r, fp, e, x, n, fun a ha => fresh_of_kp k (q a ha)⟩
  | _ => exact h
inductive Post (X : Cx) (D : FD) (g : Shared) (fps : List (List Addr)) (Φ : AFl → St → Prop) (f : Flow) (s' : Shared) : Prop
  | mk (fl : AFl) (σ' : St) (fps' : List (List Addr)) (q : R X.C D g σ' fps' s') (e : Fext fps fps') (r : FlR g s' fl f) (h : Φ fl σ')
inductive RX (C : Gl) (D : FD) (g : Shared) (fps : List (List Addr)) (σ' : St) (s' : Shared) : Prop
  | mk (fps' : List (List Addr)) (q : R C D g σ' fps' s') (e : Fext fps fps')
noncomputable def Ex (X : Cx) (n : Nat) (D : FD) (b : List Stmt) (σ : St) (Φ : AFl → St → Prop) : Prop :=
  ∀ A g fps s, AOk A n → R X.C D g σ fps s → wpF X A (execs b D.env) (Post X D g fps Φ) s
noncomputable def Ex1 (X : Cx) (n : Nat) (D : FD) (b : Stmt) (σ : St) (Φ : AFl → St → Prop) : Prop :=
  ∀ A g fps s, AOk A n → R X.C D g σ fps s → wpF X A (exec b D.env) (Post X D g fps Φ) s
noncomputable def Then (X : Cx) (n : Nat) (D : FD) (rest : List Stmt) (Φ : AFl → St → Prop) : AFl → St → Prop
  | .next, σ => Ex X n D rest σ Φ
  | fl, σ => Φ fl σ
theorem wpAny_e {X : Cx} {α : Type} {A : Around} {t : Sem α} {Q Q' : α → Shared → Prop} {E : Value → Shared → Prop} {s : Shared} (h : wpF X A t Q s) (k : ∀ a s, Q a s → Q' a s) : wpAny (model X.prog X.w) A t Q' E s :=
  wpAny_mono h k fun _ _ x => x.elim
section
variable {X : Cx} {n : Nat} {D : FD} {σ : St} {Φ : AFl → St → Prop} {rest : List Stmt}
theorem Ex.nil (h : Φ .next σ) : Ex X n D [] σ Φ := fun A g fps s hA q => wpAny_execs_nil ⟨.next, σ, fps, q, Fext.refl _, rfl, h⟩
theorem Ex.cons {st : Stmt} (h : Ex1 X n D st σ (Then X n D rest Φ)) : Ex X n D (st :: rest) σ Φ := fun A g fps s hA q => by
  refine wpAny_execs_cons (wpF_mono (h A g fps s hA q) fun f s1 hqx41 => ?_)
  refine Classical.byContradiction fun hnx => ?_
  (obtain ⟨fl, σ', fps', q1, e1, r1, h1⟩ := hqx41) <;> (refine hnx ?_; clear hnx)
  cases fl with
  | next =>
    obtain rfl : f = .next := r1
    exact wpF_mono (h1 A g fps' s1 hA q1) fun f s2 hqp => by obtain ⟨fl, σ'', fps'', q2, e2, r2, h2⟩ := hqp; exact ⟨fl, σ'', fps'', q2, e1.trans e2, r2, h2⟩
  | brk => obtain rfl : f = .brk := r1; exact ⟨.brk, σ', fps', q1, e1, rfl, h1⟩
  | cont => obtain rfl : f = .cont := r1; exact ⟨.cont, σ', fps', q1, e1, rfl, h1⟩
  | ret d => obtain ⟨r, fp, e, x, nn, qq⟩ := r1; subst e; exact ⟨.ret d, σ', fps', q1, e1, ⟨r, fp, rfl, x, nn, qq⟩, h1⟩
theorem Ex.mono {b : List Stmt} {Φ' : AFl → St → Prop} (h : Ex X n D b σ Φ) (k : ∀ fl σ', Φ fl σ' → Φ' fl σ') : Ex X n D b σ Φ' := fun A g fps s hA q =>
  wpF_mono (h A g fps s hA q) fun f s1 hqp => by obtain ⟨fl, σ', fps', q1, e1, r1, h1⟩ := hqp; exact ⟨fl, σ', fps', q1, e1, r1, k _ _ h1⟩
theorem Ex.weak {b : List Stmt} {σ' : St} (h : Ex X n D b σ' Φ) (h1 : ∀ y v, σ'.loc.lookup y = some v → σ.loc.lookup y = some v) (h2 : σ'.hp = σ.hp) : Ex X n D b σ Φ := fun A g fps s hA q =>
  h A g fps s hA (q.weak h1 h2)
noncomputable def St.put (σ : St) (x : Str) : DV → St
  | .lst xs => ⟨(x, .ref σ.hp.length) :: σ.loc, σ.hp ++ [.lst xs]⟩
  | d => ⟨(x, .dv d) :: σ.loc, σ.hp⟩
theorem R.put {C : Gl} {D : FD} {g s s' : Shared} {σ : St} {fps : List (List Addr)} {A : Around} {x : Str} {d : DV} {r : Value} {fp : List Addr} {Q : Unit → Shared → Prop} (q : R C D g σ fps s) (k : Kp s s') (h1 : RepV s'.heap d r fp) (h2 : fp.Nodup)
    (h3 : ∀ a ∈ fp, s.heap.get? a = none) (hk : isOwnVar D x = true) (h : ∀ fps' s'', R C D g (σ.put x d) fps' s'' → Fext fps fps' → Q () s'') : wpF X A (storeName D.env x r) Q s' := by
  cases d with
  | lst xs =>
    refine Classical.byContradiction fun hnx => ?_
    (obtain ⟨a, vs, fp', e1, e2, hl, hv⟩ := id h1) <;> (refine hnx ?_; clear hnx)
    subst e1
    have q1 := q.add (o := .lst xs) k h3 h2 ⟨a, fp', e2, h1⟩
    exact q1.store (v := .ref σ.hp.length) hk ⟨a, fp', by rw [q.len, List.getElem?_append_right (Nat.le_refl _)]; simp [e2], rfl⟩ fun s'' q2 => h _ s'' q2 (Fext.app _ _)
  | none => exact (q.ext k).store (v := .dv .none) hk ⟨[], h1.1, rfl⟩ fun s'' q2 => h _ s'' q2 (Fext.refl _)
  | bool b => exact (q.ext k).store (v := .dv (.bool b)) hk ⟨[], h1.1, rfl⟩ fun s'' q2 => h _ s'' q2 (Fext.refl _)
  | int b => exact (q.ext k).store (v := .dv (.int b)) hk ⟨[], h1.1, rfl⟩ fun s'' q2 => h _ s'' q2 (Fext.refl _)
  | str b => exact (q.ext k).store (v := .dv (.str b)) hk ⟨[], h1.1, rfl⟩ fun s'' q2 => h _ s'' q2 (Fext.refl _)
theorem Ex.assign {x : Str} {p pos : Pos} {e : Expr} {d : DV} (h : EvF X n D σ e d) (hk : isOwnVar D x = true) (hr : Ex X n D rest (σ.put x d) Φ)
    (hs : swapsWith e (some (.Name x p)) pos.line D.env = pure false := by rfl) : Ex X n D (.Assign [.Name x p] e pos :: rest) σ Φ := Ex.cons fun A g fps s hA q =>
  wpAny_Assign_Name (wpF_mono (h A g fps s hA q) fun r s1 hqp => by obtain ⟨k1, fp, h1, h2, h3⟩ := hqp; exact q.put k1 h1 h2 h3 hk fun fps' s2 q2 e2 => ⟨.next, _, fps', q2, e2, rfl, hr⟩) hs
theorem Ex.assignNil {x : Str} {p pp pos : Pos} (hk : isOwnVar D x = true) (hr : Ex X n D rest ⟨(x, .ref σ.hp.length) :: σ.loc, σ.hp ++ [.pl []]⟩ Φ) : Ex X n D (.Assign [.Name x p] (.List [] pp) pos :: rest) σ Φ := Ex.cons fun A g fps s hA q =>
  wpAny_Assign_Name (wpAny_List (args_nil ⟨by decide, by
    have q1 := q.add (o := .pl []) (fp := [s.heap.objs.size]) (Kp.push s { cls := .type "list", data := .seq ([] : List Value).toArray } s.toks) (fun a ha => by rw [List.mem_singleton.mp ha]; exact fresh_push) (by simp)
      ⟨_, [], [], rfl, ⟨0, Heap.get?_push_size _ rfl⟩, rfl, rfl⟩
    exact q1.store (v := .ref σ.hp.length) hk ⟨_, [], by rw [q.len, List.getElem?_append_right (Nat.le_refl _)]; simp, rfl⟩ fun s'' q2 => ⟨.next, _, _, q2, Fext.app _ _, rfl, hr⟩⟩)) (by rfl)
theorem Ex.aug {x : Str} {p pos : Pos} {e : Expr} {op : Operator} {a b v : DV} (hl : σ.loc.lookup x = some (.dv a)) (hk : isOwnVar D x = true) (h : EvO X n D σ e b) (hb : BinA op a b v) (hv : isVar D x = true)
    (hr : Ex X n D rest ⟨(x, .dv v) :: σ.loc, σ.hp⟩ Φ) : Ex X n D (.AugAssign (.Name x p) op e pos :: rest) σ Φ := Ex.cons fun A g fps s hA q =>
  wpAny_AugAssign_Name (q.load (X := X) hl hv fun r hr' => wpF_mono (h A g fps s hA q) fun rb s1 hqp => by
    obtain ⟨k1, v1⟩ := hqp
    refine hb.soundI (h1 := D.z) hr' v1 fun r' t hv' => ?_
    have q1 := (q.ext k1).ext (Kp.tok s1 t)
    exact q1.store (v := .dv v) hk ⟨[], hv' _⟩ fun s'' q2 => ⟨.next, _, _, q2, Fext.refl _, rfl, hr⟩)
theorem Ex.ret {e : Expr} {pos : Pos} {d : DV} (h : EvF X n D σ e d) (hr : Φ (.ret d) σ) : Ex X n D (.Return (some e) pos :: rest) σ Φ := Ex.cons fun A g fps s hA q =>
  wpAny_Return_some (wpF_mono (h A g fps s hA q) fun r s1 hqp => by obtain ⟨k1, fp, h1, h2, h3⟩ := hqp; exact ⟨.ret d, σ, fps, q.ext k1, Fext.refl _, ⟨r, fp, rfl, h1, h2, fun a ha => fresh_of_kp q.keep (h3 a ha)⟩, hr⟩)
theorem Ex.retRef {x : Str} {p pos : Pos} {k : Nat} {xs : List DV} (hl : σ.loc.lookup x = some (.ref k)) (hk : isVar D x = true) (ho : σ.hp[k]? = some (.lst xs) ∨ σ.hp[k]? = some (.pl xs)) (hr : Φ (.ret (.lst xs)) σ) :
    Ex X n D (.Return (some (.Name x p)) pos :: rest) σ Φ := Ex.cons fun A g fps s hA q =>
  wpAny_Return_some (wpF_mono (EvA.name hl hk A g fps s hA q) fun r s1 hqp => by
    obtain ⟨k1, a, fp, e, h⟩ := hqp
    subst h
    have q1 := q.ext k1
    have hrep : Rep s1.heap (.lst xs) (a :: fp) := by
      rcases ho with ho | ho
      · exact q1.obj k _ _ ho e
      · exact (q1.obj k _ _ ho e).pl_lst
    refine Classical.byContradiction fun hnx => ?_
    (obtain ⟨a', fp', e', x⟩ := hrep) <;> (refine hnx ?_; clear hnx)
    cases e'
    refine ⟨.ret (.lst xs), σ, fps, q1, Fext.refl _, ⟨_, _, rfl, x, ?_, fun b hb => q1.fresh b (own_fps (mem_flatten_get e hb))⟩, hr⟩
    have := q1.nd
    unfold ownOf at this
    rw [List.nodup_cons, List.nodup_append] at this
    exact List.Nodup.sublist (List.sublist_flatten_of_mem (List.mem_of_getElem? e)) this.2.2.1)
theorem Ex.brk {pos : Pos} (h : Φ .brk σ) : Ex X n D (.Break pos :: rest) σ Φ := Ex.cons fun A g fps s hA q => wpAny_Break ⟨.brk, σ, fps, q, Fext.refl _, rfl, h⟩
theorem Ex.cont {pos : Pos} (h : Φ .cont σ) : Ex X n D (.Continue pos :: rest) σ Φ := Ex.cons fun A g fps s hA q => wpAny_Continue ⟨.cont, σ, fps, q, Fext.refl _, rfl, h⟩
theorem Ex.ite {test : Expr} {body orelse : List Stmt} {pos : Pos} {b : Bool} (h : EvB X n D σ test b) (h1 : b = true → Ex X n D body σ (Then X n D rest Φ)) (h2 : b = false → Ex X n D orelse σ (Then X n D rest Φ)) :
    Ex X n D (.If test body orelse pos :: rest) σ Φ := Ex.cons fun A g fps s hA q =>
  wpAny_If (wpF_mono (h A g fps s hA q) fun c s1 hqp => by
    obtain ⟨k1, e⟩ := hqp
    subst e
    cases c with
    | true => exact h1 rfl A g fps s1 hA (q.ext k1)
    | false => exact h2 rfl A g fps s1 hA (q.ext k1))
theorem Ex.iteJ {test : Expr} {body orelse : List Stmt} {pos : Pos} {b : Bool} (Ψ : St → Prop) (h : EvB X n D σ test b) (h1 : b = true → Ex X n D body σ (fun fl σ' => match fl with | .next => Ψ σ' | fl => Φ fl σ'))
    (h2 : b = false → Ex X n D orelse σ (fun fl σ' => match fl with | .next => Ψ σ' | fl => Φ fl σ')) (hr : ∀ σ', Ψ σ' → Ex X n D rest σ' Φ) :
    Ex X n D (.If test body orelse pos :: rest) σ Φ := by
  have key : ∀ fl σ', (match fl with | .next => Ψ σ' | fl => Φ fl σ') → Then X n D rest Φ fl σ' := fun fl σ' h => by
    cases fl <;> first | exact hr _ h | exact h
  exact Ex.ite h (fun e => (h1 e).mono key) (fun e => (h2 e).mono key)
noncomputable def SubL : List (Str × AV) → List (Str × AV) → Prop
  | [], _ => True
  | p :: r, l => l.lookup p.1 = some p.2 ∧ SubL r l
theorem SubL.lookup : ∀ {l' l : List (Str × AV)}, SubL l' l → ∀ y v, l'.lookup y = some v → l.lookup y = some v
  | [], _, _, y, v, e => by simp at e
  | p :: r, l, ⟨h1, h2⟩, y, v, e => by
    rw [List.lookup_cons] at e
    by_cases hy : y = p.1
    · subst hy; simp at e; subst e; exact h1
    · have : (y == p.1) = false := beq_eq_false_iff_ne.mpr hy
      rw [this] at e
      exact SubL.lookup h2 y v e
noncomputable def AV.below (m : Nat) : AV → Bool
  | .ref k => decide (k < m)
  | _ => true
noncomputable def refsBelow (m : Nat) (l : List (Str × AV)) : Bool := l.all fun p => p.2.below m
theorem refsBelow.at {m : Nat} {l : List (Str × AV)} (h : refsBelow m l = true) : ∀ y v, l.lookup y = some v → ∀ k, v = .ref k → k < m := fun y v e k hv => by
  subst hv
  exact of_decide_eq_true (List.all_eq_true.mp h _ (mem_of_lookup e))
structure Sub (σ σ' : St) : Prop where
  loc : SubL σ'.loc σ.loc
  refs : refsBelow σ'.hp.length σ'.loc = true
  hp : ∃ junk, σ.hp = σ'.hp ++ junk
theorem R.sub {C : Gl} {D : FD} {g s : Shared} {σ σ' : St} {fps : List (List Addr)} (q : R C D g σ fps s) (h : Sub σ σ') : ∃ fps', R C D g σ' fps' s ∧ fps' <+: fps ∧ fps'.length = σ'.hp.length := by
  obtain ⟨junk, hj⟩ := h.hp
  have q1 : R C D g ⟨σ'.loc, σ'.hp ++ junk⟩ fps s := q.weak h.loc.lookup hj.symm
  obtain ⟨fps', q2, hp⟩ := q1.trunc (refsBelow.at h.refs)
  exact ⟨fps', q2, hp, q2.len.symm⟩
theorem Fext.cut {a b c : List (List Addr)} (x : Fext a b) (p : c <+: b) (h : a.length ≤ c.length) : Fext a c := fun k y fp e => by
  obtain ⟨fp', e'⟩ := x k y fp e
  obtain ⟨t, rfl⟩ := p
  have hk : k < c.length := Nat.lt_of_lt_of_le (List.getElem?_eq_some_iff.mp e).1 h
  rw [List.getElem?_append_left hk] at e'
  exact ⟨fp', e'⟩
theorem Ex.while_ {T : Type} {test : Expr} {body orelse : List Stmt} {pos : Pos} (S : T → St) (μ : T → Nat) (b : T → Bool) (I : T → Prop) (t₀ : T) (h0 : I t₀) (hs : Sub σ (S t₀)) (hn : ∀ t, I t → (S t).hp.length = (S t₀).hp.length)
    (hb : ∀ t, I t → EvB X n D (S t) test (b t))
    (turn : ∀ t, I t → b t = true → Ex X n D body (S t) (fun fl σ' => match fl with
      | .next | .cont => ∃ t', I t' ∧ μ t' < μ t ∧ Sub σ' (S t')
      | .brk => Then X n D rest Φ .next σ'
      | .ret d => Φ (.ret d) σ'))
    (fin : ∀ t, I t → b t = false → Ex X n D orelse (S t) (Then X n D rest Φ)) (hl : σ.hp.length ≤ (S t₀).hp.length) : Ex X n D (.While test body orelse pos :: rest) σ Φ := Ex.cons fun A g fps s hA q => by
  refine Classical.byContradiction fun hnx => ?_
  (obtain ⟨fps0, q0, p0, l0⟩ := q.sub hs) <;> (refine hnx ?_; clear hnx)
  have e0 : Fext fps fps0 := Fext.cut (Fext.refl _) p0 (by rw [← q.len, l0]; exact hl)
  refine wpAny_While (codeAny_whileLoop (fun m s' => ∃ t fps', I t ∧ μ t = m ∧ R X.C D g (S t) fps' s' ∧ Fext fps fps') (fun m s' ⟨t, fps', hI, hm, q', e'⟩ => ?_) (μ t₀) ⟨t₀, fps0, h0, rfl, q0, e0⟩)
  refine wpAny_e (hb t hI A g fps' s' hA q') fun c s1 hqx185 => ?_
  obtain ⟨k1, ec⟩ := hqx185
  subst ec
  have q1 := q'.ext k1
  cases hbt : b t with
  | true =>
    dsimp only [if_true]
    refine wpAny_e (turn t hI hbt A g fps' s1 hA q1) fun f s2 hqx192 => ?_
    obtain ⟨fl, σ', fps2, q2, e2, r2, h2⟩ := hqx192
    have again : (∃ t', I t' ∧ μ t' < μ t ∧ Sub σ' (S t')) → ∃ m', m' < m ∧ ∃ t fps', I t ∧ μ t = m' ∧ R X.C D g (S t) fps' s2 ∧ Fext fps fps' := fun hqp => by
      obtain ⟨t', hI', hm', hs'⟩ := hqp
      obtain ⟨fps3, q3, p3, l3⟩ := q2.sub hs'
      refine ⟨μ t', hm ▸ hm', t', fps3, hI', rfl, q3, (e'.trans e2).cut p3 ?_⟩
      rw [← q.len, l3, hn t' hI']; exact hl
    cases fl with
    | next => obtain rfl : f = .next := r2; exact again h2
    | cont => obtain rfl : f = .cont := r2; exact again h2
    | brk => obtain rfl : f = .brk := r2; exact ⟨.next, σ', fps2, q2, e'.trans e2, rfl, h2⟩
    | ret d => obtain ⟨r, fp, e, x, nn, qq⟩ := r2; subst e; exact ⟨.ret d, σ', fps2, q2, e'.trans e2, ⟨r, fp, rfl, x, nn, qq⟩, h2⟩
  | false =>
    dsimp only [Bool.false_eq_true, if_false]
    refine wpAny_e (fin t hI hbt A g fps' s1 hA q1) fun f s2 hqp => by obtain ⟨fl, σ', fps2, q2, e2, r2, h2⟩ := hqp; exact ⟨fl, σ', fps2, q2, e'.trans e2, r2, h2⟩
inductive IV where
  | one (d : DV) | two (a b : DV)
inductive PairAt (h : Heap) (a b : DV) (r : Value) : Prop
  | mk (t : Addr) (o : Obj) (va vb : Value) (e : r = .ref t) (h1 : h.get? t = some o) (h2 : o.cls = .type "tuple") (h3 : ∃ ep, o.data = .seq #[va, vb] ep) (h4 : VR h a va) (h5 : VR h b vb)
noncomputable def ItemAt (h : Heap) : IV → Value → Prop
  | .one d, r => VR h d r
  | .two a b, r => PairAt h a b r
noncomputable def As (X : Cx) (n : Nat) (D : FD) (σ : St) (target : Expr) (i : IV) (σ' : St) : Prop :=
  ∀ A g fps s r, AOk A n → R X.C D g σ fps s → ItemAt s.heap i r → wpF X A (assign target D.env r) (fun _ s' => R X.C D g σ' fps s') s
theorem As.name {x : Str} {p : Pos} {d : DV} (hd : d.sc = true) (hk : isOwnVar D x = true) : As X n D σ (.Name x p) (.one d) ⟨(x, .dv d) :: σ.loc, σ.hp⟩ := fun A g fps s r hA q hi =>
  wpAny_assign_Name (q.store (v := .dv d) hk (by obtain ⟨f, x⟩ := hi; exact ⟨[], (x.sc_heap hd).1⟩) fun s' q' => q')
theorem As.tuple2 {x y : Str} {px py p : Pos} {k : Nat} {a b : DV} (ha : a.sc = true) (hb : b.sc = true) (hx : isOwnVar D x = true) (hy : isOwnVar D y = true) :
    As X n D σ (.Tuple [.Name x px, .Name y py] k p) (.two a b) ⟨(y, .dv b) :: (x, .dv a) :: σ.loc, σ.hp⟩ := fun A g fps s r hA q hi => by
  refine Classical.byContradiction fun hnx => ?_
  (obtain ⟨t, o, va, vb, rfl, h1, h2, ⟨ep, h3⟩, ⟨f1, h4⟩, ⟨f2, h5⟩⟩ := hi) <;> (refine hnx ?_; clear hnx)
  refine wpAny_assign_Tuple (items := #[va, vb]) hA.1 ⟨o, h1, h2, ep, h3⟩ rfl rfl fun h' he => ?_
  have k1 : Kp s { s with heap := h' } := ⟨fun b' o' _ e => he b' o' (fun hb' => by rw [hb'] at e; exact absurd (Heap.lt_size e) (Nat.lt_irrefl _)) e, fun _ _ _ e => e, id, rfl⟩
  have q1 := q.ext k1
  refine wpAny_assignInOrder_more (wpAny_assign_Name (q1.store (v := .dv a) hx ⟨[], (h4.sc_heap ha).1⟩ fun s2 q2 => ?_))
  exact wpAny_assignInOrder_more (wpAny_assign_Name (q2.store (v := .dv b) hy ⟨[], (h5.sc_heap hb).1⟩ fun s3 q3 => wpAny_assignInOrder_none q3))
structure Itr (X : Cx) (A : Around) (D : FD) (J : St → Prop) (fps0 : List (List Addr)) (target : Expr) (I : Addr) (xs : List IV) (It : Nat → Shared → Prop) (fp wr : List Addr) (gx : List Nat) : Prop where
  next : ∀ g σ fps s j, R X.C D g σ fps s → J σ → Fext fps0 fps → It j s →
    wpF X A (pyNext (.ref I)) (fun o s' => KpB wr gx s s' ∧ match xs[j]? with
      | some x => ∃ r, o = some r ∧ wpF X A (letOwnedTupleGo target (.ref I) r) (fun _ s'' => KpB wr gx s' s'' ∧ ItemAt s''.heap x r ∧ It (j + 1) s'') s'
      | none => o = none) s
  stay : ∀ j s s', It j s → (∀ b ∈ fp, ∀ o, s.heap.get? b = some o → s'.heap.get? b = some o) → (∀ (i : Nat) x, s.gens[i]? = some x → s'.gens[i]? = some x) → It j s'
  alive : ∀ j s, It j s → ∀ a ∈ fp, ∃ o, s.heap.get? a = some o
  sub : ∀ a ∈ wr, a ∈ fp
  self : ∀ A s j (Q : Value → Shared → Prop), It j s → Q (.ref I) s → wpF X A (pyIter (.ref I)) Q s
inductive ItP (X : Cx) (A : Around) (D : FD) (J : St → Prop) (fps : List (List Addr)) (target : Expr) (xs : List IV) (s : Shared) (it : Value) (s2 : Shared) : Prop
  | mk (k : Kp s s2) (I : Addr) (It : Nat → Shared → Prop) (fp wr : List Addr) (gx : List Nat) (e : it = .ref I) (W : Itr X A D J fps target I xs It fp wr gx) (i0 : It 0 s2) (h1 : ∀ b ∈ fp, b ∉ ownOf D fps) (h2 : ∀ b ∈ wr, s.heap.get? b = none) (h3 : ∀ i ∈ gx, s.gens[i]? = none)
noncomputable def EvI (X : Cx) (n : Nat) (D : FD) (σ : St) (target iter : Expr) (xs : List IV) (J : St → Prop) : Prop :=
  ∀ A g fps s, AOk A n → R X.C D g σ fps s → wpF X A (eval iter D.env) (fun x s1 => wpF X A (pyIter x) (fun it s2 => ItP X A D J fps target xs s it s2) s1) s
theorem letGo_name {x : Str} {p : Pos} {it v : Value} : letOwnedTupleGo (.Name x p) it v = pure () := rfl
structure ItrD (X : Cx) (A : Around) (D : FD) (J : St → Prop) (fps0 : List (List Addr)) (target : Expr) (I : Addr) (xs : List IV) (It : Nat → List Addr → List Addr → Shared → Prop) (gx : List Nat) : Prop where
  next : ∀ g σ fps s j fp wr, R X.C D g σ fps s → J σ → Fext fps0 fps → It j fp wr s →
    wpF X A (pyNext (.ref I)) (fun o s' => KpB wr gx s s' ∧ match xs[j]? with
      | some x => ∃ r, o = some r ∧ wpF X A (letOwnedTupleGo target (.ref I) r) (fun _ s'' => KpB wr gx s' s'' ∧ ItemAt s''.heap x r ∧ ∃ fp' wr', It (j + 1) fp' wr' s'' ∧ (∀ b ∈ fp', b ∈ fp ∨ s.heap.get? b = none) ∧ (∀ b ∈ wr', b ∈ wr ∨ s.heap.get? b = none)) s'
      | none => o = none) s
  stay : ∀ j fp wr s s', It j fp wr s → (∀ b ∈ fp, ∀ o, s.heap.get? b = some o → s'.heap.get? b = some o) → (∀ (i : Nat) x, s.gens[i]? = some x → s'.gens[i]? = some x) → It j fp wr s'
  alive : ∀ j fp wr s, It j fp wr s → ∀ a ∈ fp, ∃ o, s.heap.get? a = some o
  sub : ∀ j fp wr s, It j fp wr s → ∀ a ∈ wr, a ∈ fp
inductive ItDP (X : Cx) (A : Around) (D : FD) (J : St → Prop) (fps : List (List Addr)) (target : Expr) (xs : List IV) (s : Shared) (it : Value) (s2 : Shared) : Prop
  | mk (k : Kp s s2) (I : Addr) (It : Nat → List Addr → List Addr → Shared → Prop) (fp wr : List Addr) (gx : List Nat) (e : it = .ref I) (W : ItrD X A D J fps target I xs It gx) (i0 : It 0 fp wr s2) (h1 : ∀ b ∈ fp, b ∉ ownOf D fps) (h2 : ∀ b ∈ wr, s.heap.get? b = none) (h3 : ∀ i ∈ gx, s.gens[i]? = none)
noncomputable def EvID (X : Cx) (n : Nat) (D : FD) (σ : St) (target iter : Expr) (xs : List IV) (J : St → Prop) : Prop :=
  ∀ A g fps s, AOk A n → R X.C D g σ fps s → wpF X A (eval iter D.env) (fun x s1 => wpF X A (pyIter x) (fun it s2 => ItDP X A D J fps target xs s it s2) s1) s
inductive ForI (X : Cx) (D : FD) (g : Shared) (fps : List (List Addr)) {T : Type} (S : Nat → T → St) (I : Nat → T → Prop) (It : Nat → List Addr → List Addr → Shared → Prop) (len m : Nat) (s' : Shared) : Prop
  | mk (j : Nat) (t : T) (fps' : List (List Addr)) (fp wr : List Addr) (hm : m = len - j) (hj : j ≤ len) (hI : I j t) (hit : It j fp wr s') (q : R X.C D g (S j t) fps' s') (e : Fext fps fps') (ho : ∀ b ∈ fp, b ∉ ownOf D fps') (hw : ∀ b ∈ wr, g.heap.get? b = none)
theorem Ex.forD {T : Type} {target iter : Expr} {body orelse : List Stmt} {pos : Pos} {J : St → Prop} (xs : List IV) (S : Nat → T → St) (I : Nat → T → Prop) (t₀ : T)
    (hi : EvID X n D σ target iter xs J) (h0 : I 0 t₀) (hS : Sub σ (S 0 t₀)) (hn : ∀ j t, I j t → σ.hp.length ≤ (S j t).hp.length) (hJ : ∀ j t, I j t → J (S j t))
    (turn : ∀ j t x, I j t → xs[j]? = some x → ∃ σ1, As X n D (S j t) target x σ1 ∧ Ex X n D body σ1 (fun fl σ' => match fl with
      | .next | .cont => ∃ t', I (j + 1) t' ∧ Sub σ' (S (j + 1) t')
      | .brk => Then X n D rest Φ .next σ'
      | .ret d => Φ (.ret d) σ'))
    (fin : ∀ t, I xs.length t → Ex X n D orelse (S xs.length t) (Then X n D rest Φ))
    (hs : ∀ x, foldedSetIterable iter D.env x = pure x := by intro _; rfl) : Ex X n D (.For target iter body orelse pos :: rest) σ Φ := Ex.cons fun A g fps s hA q => by
  refine wpAny_For (wpF_mono (hi A g fps s hA q) fun x s1 h1 => wpF_mono h1 fun it s2 hqx277 => ?_) hs
  obtain ⟨k2, II, It, fp, wr, gx, e, W, it0, ho, hw, hg⟩ := hqx277
  subst e
  refine Classical.byContradiction fun hnx => ?_
  (obtain ⟨fps0, q0, p0, l0⟩ := (q.ext k2).sub hS) <;> (refine hnx ?_; clear hnx)
  have e0 : Fext fps fps0 := Fext.cut (Fext.refl _) p0 (by rw [← q.len, l0]; exact hn 0 t₀ h0)
  have ho0 : ∀ b ∈ fp, b ∉ ownOf D fps0 := fun b hb hm => ho b hb (own_sub (fun f hf => p0.subset hf) hm)
  have hwg : ∀ b ∈ wr, g.heap.get? b = none := fun b hb => fresh_of_kp q.keep (hw b hb)
  have hgg : ∀ i ∈ gx, g.gens[i]? = none := fun i hb => by
    cases e : g.gens[i]? with
    | none => rfl
    | some x => have := q.keep.gens i x (by simp) e; rw [hg i hb] at this; cases this
  refine codeAny_forLoop_any (ForI X D g fps S I It xs.length) (fun m s' ⟨j, t, fps', fp, wr, hm, hj, hI, hit, q', e', ho', hwg⟩ => ?_) _
    ⟨0, t₀, fps0, fp, wr, rfl, Nat.zero_le _, h0, it0, q0, e0, ho0, hwg⟩
  have hdis : ∀ a ∈ wr, a ∉ ownOf D fps' ∧ g.heap.get? a = none := fun a ha => ⟨ho' a (W.sub _ _ _ _ hit a ha), hwg a ha⟩
  refine wpAny_e (W.next g (S j t) fps' s' j fp wr q' (hJ j t hI) e' hit) fun o s3 hqx297 => ?_
  obtain ⟨k3, h3⟩ := hqx297
  have q3 := q'.extB k3 hdis hgg
  cases hx : xs[j]? with
  | none =>
    rw [hx] at h3
    subst h3
    have hj' : j = xs.length := by rw [List.getElem?_eq_none_iff] at hx; (exact Nat.le_antisymm (by assumption) (by assumption))
    subst hj'
    exact wpAny_e (fin t hI A g fps' s3 hA q3) fun f s4 hqp => by obtain ⟨fl, σ', fps2, q4, e4, r4, h4⟩ := hqp; exact ⟨fl, σ', fps2, q4, e'.trans e4, r4, h4⟩
  | some x =>
    rw [hx] at h3
    refine Classical.byContradiction fun hnx => ?_
    (obtain ⟨r, rfl, h3⟩ := h3) <;> (refine hnx ?_; clear hnx)
    have hlt : j < xs.length := (List.getElem?_eq_some_iff.mp hx).1
    refine wpAny_e h3 fun _ s4 ⟨k4, hit4, fp', wr', it4, hfp', hwr'⟩ => ?_
    have q4 := q3.extB k4 hdis hgg
    refine Classical.byContradiction fun hnx => ?_
    (obtain ⟨σ1, hAs, hB⟩ := turn j t x hI hx) <;> (refine hnx ?_; clear hnx)
    obtain ⟨q4m, kg⟩ := q4.max
    refine wpAny_e (hAs A _ fps' s4 r hA q4m hit4) fun _ s5 q5 => ?_
    refine wpAny_e (hB A _ fps' s5 hA q5) fun f s6 hqx316 => ?_
    obtain ⟨fl, σ', fps2, q6, e6, r6, h6⟩ := hqx316
    have q6g : R X.C D g σ' fps2 s6 := q6.back kg fun b o e => q'.zk b o e
    have hof : ∀ b ∈ fp', b ∉ ownOf D fps' := fun b hb hm => (hfp' b hb).elim (fun h => ho' b h hm) fun h => by
      obtain ⟨o, ho⟩ := q'.alive b hm
      exact (Option.some_ne_none _ (ho.symm.trans h)).elim
    have hwg' : ∀ b ∈ wr', g.heap.get? b = none := fun b hb => (hwr' b hb).elim (hwg b) fun h => fresh_of_kp q'.keep h
    have again : (∃ t', I (j + 1) t' ∧ Sub σ' (S (j + 1) t')) → ∃ m', m' < m ∧ ForI X D g fps S I It xs.length m' s6 := fun hqp => by
      obtain ⟨t', hI', hs'⟩ := hqp
      refine Classical.byContradiction fun hnx => ?_
      (obtain ⟨fps3, q7, p7, l7⟩ := q6g.sub hs') <;> (refine hnx ?_; clear hnx)
      have al := W.alive _ _ _ _ it4
      have hkeep : ∀ b ∈ fp', ∀ o, s4.heap.get? b = some o → s6.heap.get? b = some o := fun b hb o e =>
        q6.keep.hp b o (by rw [maxg_get, if_neg (hof b hb)]; exact e)
      refine ⟨xs.length - (j + 1), Nat.lt_of_lt_of_eq (Nat.sub_lt_sub_left hlt (Nat.lt_succ_self j)) hm.symm, j + 1, t', fps3, fp', wr', rfl, hlt, hI', W.stay _ _ _ _ _ it4 hkeep (fun i x e => q6.keep.gens i x (by simp) e), q7, (e'.trans e6).cut p7 ?_, fun b hb hm => ?_, hwg'⟩
      · rw [← q.len, l7]; exact hn _ _ hI'
      · have hm' : b ∈ ownOf D fps2 := own_sub (fun f hf => p7.subset hf) hm
        obtain ⟨o, ho⟩ := al b hb
        have := q6.fresh b hm'
        rw [maxg_get, if_neg (hof b hb), ho] at this; cases this
    cases fl with
    | next => obtain rfl : f = .next := r6; exact again h6
    | cont => obtain rfl : f = .cont := r6; exact again h6
    | brk => obtain rfl : f = .brk := r6; exact ⟨.next, σ', fps2, q6g, e'.trans e6, rfl, h6⟩
    | ret d => obtain ⟨r', fp', e, x', nn, qq⟩ := r6.back kg; subst e; exact ⟨.ret d, σ', fps2, q6g, e'.trans e6, ⟨r', fp', rfl, x', nn, qq⟩, h6⟩
theorem EvI.toD {target iter : Expr} {xs : List IV} {J : St → Prop} (hi : EvI X n D σ target iter xs J) : EvID X n D σ target iter xs J := fun A g fps s hA q => wpF_mono (hi A g fps s hA q) fun x s1 h1 => wpF_mono h1 fun it s2 h2 => by
  obtain ⟨k2, I, It, fp, wr, gx, e, W, i0, o1, o2, o3⟩ := h2
  refine ⟨k2, I, fun j f w s => (f = fp ∧ w = wr) ∧ It j s, fp, wr, gx, e, ⟨fun g σ fps s j f w q' hJ hF hit => ?_, fun j f w s s' hit hk hg => ?_, fun j f w s hit => ?_, fun j f w s hit => ?_⟩, ⟨⟨rfl, rfl⟩, i0⟩, o1, o2, o3⟩
  all_goals obtain ⟨⟨rfl, rfl⟩, hit⟩ := hit
  · refine wpF_mono (W.next g σ fps s j q' hJ hF hit) fun o s3 h3 => ⟨h3.1, ?_⟩
    have h4 := h3.2
    split at h4
    · obtain ⟨r, e, h5⟩ := h4
      exact ⟨r, e, wpF_mono h5 fun _ s4 h6 => ⟨h6.1, h6.2.1, f, w, ⟨⟨rfl, rfl⟩, h6.2.2⟩, fun _ => .inl, fun _ => .inl⟩⟩
    · exact h4
  · exact ⟨⟨rfl, rfl⟩, W.stay j s s' hit hk hg⟩
  · exact W.alive j s hit
  · exact W.sub
theorem Ex.for_ {T : Type} {target iter : Expr} {body orelse : List Stmt} {pos : Pos} {J : St → Prop} (xs : List IV) (S : Nat → T → St) (I : Nat → T → Prop) (t₀ : T)
    (hi : EvI X n D σ target iter xs J) (h0 : I 0 t₀) (hS : Sub σ (S 0 t₀)) (hn : ∀ j t, I j t → σ.hp.length ≤ (S j t).hp.length) (hJ : ∀ j t, I j t → J (S j t))
    (turn : ∀ j t x, I j t → xs[j]? = some x → ∃ σ1, As X n D (S j t) target x σ1 ∧ Ex X n D body σ1 (fun fl σ' => match fl with
      | .next | .cont => ∃ t', I (j + 1) t' ∧ Sub σ' (S (j + 1) t')
      | .brk => Then X n D rest Φ .next σ'
      | .ret d => Φ (.ret d) σ'))
    (fin : ∀ t, I xs.length t → Ex X n D orelse (S xs.length t) (Then X n D rest Φ))
    (hs : ∀ x, foldedSetIterable iter D.env x = pure x := by intro _; rfl) : Ex X n D (.For target iter body orelse pos :: rest) σ Φ :=
  Ex.forD xs S I t₀ hi.toD h0 hS hn hJ turn fin hs
end
end Mine
end
section
open PySem PySem.Calls PyProof.Rows
namespace Mine
section
variable {X : Cx} {n : Nat} {D : FD} {σ : St} {Φ : AFl → St → Prop} {rest : List Stmt}
theorem Itr.ofWalks {A : Around} (hA : AOk A n) {J : St → Prop} {fps0 : List (List Addr)} {x : Str} {p : Pos} {I : Addr} {fp wr : List Addr} {P : Nat → Value → Prop} {It : Nat → Heap → Prop} {xs : List IV}
    (W : ∀ A : Around, A.handled = none → Walks X.prog X.w A I fp wr xs.length P It) (hP : ∀ i v y, xs[i]? = some y → P i v → ∀ h, (It (i + 1) h) → ItemAt h y v) (hal : ∀ i h, It i h → ∀ a ∈ fp, ∃ o, h.get? a = some o)
    (wself : ∀ A (s : Shared) j (Q : Value → Shared → Prop), It j s.heap → Q (.ref I) s → wpF X A (pyIter (.ref I)) Q s)  : Itr X A D J fps0 (.Name x p) I xs (fun i s => It i s.heap ∧ i ≤ xs.length) fp wr [] where
  next := fun g σ fps s j q hJ hF hit => by
    cases hx : xs[j]? with
    | some y =>
      have hlt : j < xs.length := (List.getElem?_eq_some_iff.mp hx).1
      refine (W A hA.1).item j s _ _ hlt hit.1 fun v h' tk hv hit' hk => ⟨KpB.of_heap hk, v, rfl, ?_⟩
      rw [letGo_name]
      exact wpAny_pure ⟨KpB.refl _, hP j v y hx hv _ hit', hit', hlt⟩
    | none =>
      have hlt : j = xs.length := by have := hit.2; rw [List.getElem?_eq_none_iff] at hx; (exact Nat.le_antisymm (by assumption) (by assumption))
      subst hlt
      exact (W A hA.1).done s _ _ hit.1 fun h' tk hk => ⟨KpB.of_heap hk, rfl⟩
  stay := fun j s s' hit hk _ => ⟨(W ⟨none, 0, none, none, 1⟩ rfl).frame j _ _ hit.1 hk, hit.2⟩
  alive := fun j s hit => hal j _ hit.1
  sub := (W ⟨none, 0, none, none, 1⟩ rfl).sub
  self := fun A s j Q hit hQ => wself A s j Q hit.1 hQ
noncomputable def rangeIV (a c : Int) (m : Nat) : List IV := (List.range m).map fun (i : Nat) => IV.one (.int (a + (i : Int) * c))
theorem rangeIV_len (a c : Int) (m : Nat) : (rangeIV a c m).length = m := by simp [rangeIV]
theorem rangeIV_get {a c : Int} {m i : Nat} {y : IV} (h : (rangeIV a c m)[i]? = some y) : i < m ∧ y = .one (.int (a + (i : Int) * c)) := by
  unfold rangeIV at h
  rw [List.getElem?_map] at h
  obtain ⟨k, hk, rfl⟩ := Option.map_eq_some_iff.mp h
  obtain ⟨h1, h2⟩ := List.getElem?_eq_some_iff.mp hk
  simp at h1 h2
  subst h2
  exact ⟨h1, rfl⟩
theorem range_iter {D' : FD} {J : St → Prop} {A : Around} (hA : AOk A n) {x : Str} {p : Pos} {a b c : Int} {t u v : Tok} {s s1 : Shared} {r : Addr} {fps : List (List Addr)} {g : Shared} (q : R X.C D g σ fps s) (k : Kp s s1) (hr : IsRange s1.heap r a b c t u v) (hsm : Builtin.Range.small a b c = true) (h0 : 0 ≤ Builtin.Range.rangeSize a b c) :
    wpF X A (pyIter (.ref r)) (fun it s2 => ItP X A D J fps (.Name x p) (rangeIV a c (Builtin.Range.rangeSize a b c).toNat) s it s2) s1 := by
  refine wpAny_pyIter_range hr hsm ?_
  have hf : s.heap.get? s1.heap.objs.size = none := fresh_of_kp k fresh_push
  refine ⟨k.trans (Kp.push _ _ _), s1.heap.objs.size, _, [s1.heap.objs.size], [s1.heap.objs.size], [], rfl,
    Itr.ofWalks hA (P := fun i v => ∃ t, v = .int (a + i * c) t) (It := fun i h => IsRangeIter h s1.heap.objs.size (a + (i : Nat) * c) (((Builtin.Range.rangeSize a b c).toNat : Int) - (i : Nat)) c)
      (fun A' hA' => by rw [rangeIV_len]; exact Walks.range hA' _ a c _) (fun i v y hy ⟨t, ht⟩ h _ => ?_) (fun i h hi b hb => ?_) (fun A s j Q hi hQ => wpAny_pyIter_rangeiter hi hQ), ⟨?_, Nat.zero_le _⟩, fun b hb hm => ?_, fun b hb => ?_, by simp⟩
  · obtain ⟨_, rfl⟩ := rangeIV_get hy
    subst ht
    exact VR.ofInt
  · rw [List.mem_singleton.mp hb]; exact ⟨_, hi⟩
  · have e1 : (a + ((0 : Nat) : Int) * c) = a := by simp
    have e2 : (((Builtin.Range.rangeSize a b c).toNat : Int) - ((0 : Nat) : Int)) = Builtin.Range.rangeSize a b c := by omega
    show IsRangeIter _ _ (a + ((0 : Nat) : Int) * c) (((Builtin.Range.rangeSize a b c).toNat : Int) - ((0 : Nat) : Int)) c
    rw [e1, e2]
    exact Heap.get?_push_size _ rfl
  · rw [List.mem_singleton.mp hb] at hm
    obtain ⟨o, ho⟩ := q.alive _ hm
    exact (Option.some_ne_none _ (ho.symm.trans hf)).elim
  · rw [List.mem_singleton.mp hb]; exact hf
theorem rangeSize_nonneg (a b c : Int) (hc : 0 < c) : 0 ≤ Builtin.Range.rangeSize a b c := by
  unfold Builtin.Range.rangeSize
  simp only [show c > 0 from hc, if_true]
  split
  · have : 0 ≤ (b - a - 1) / c := Int.ediv_nonneg (by lia) (by omega)
    omega
  · (exact Int.ofNat_nonneg _)
theorem EvI.range1 {J : St → Prop} {x : Str} {p pr pos : Pos} {e : Expr} {N : Int} (hk : D.env.kindOf (Str.ofString "range") = some .globalImplicit) (hv : X.C.tab.lookup (Str.ofString "range") = some (.type "range")) (h : EvO X n D σ e (.int N)) (h1 : -(2 ^ 62) ≤ N) (h2 : N < 2 ^ 62)
    (hse : ∀ env, backTo pos (starEach [e] env) = [(false, eval e env)] := by intro _; rfl) : EvI X n D σ (.Name x p) (.Call (.Name (Str.ofString "range") pr) [e] [] pos) (rangeIV 0 1 N.toNat) J := fun A g fps s hA q => by
  refine wpAny_Call_NameR (q.global (X := X) hk hv ?_)
  rw [hse]
  refine PySem.callWith_type rfl (evalArgs_plain (spliced_cons (wpF_mono (h A g fps s hA q) fun nv s1 ⟨k1, v1⟩ => spliced_nil ?_)))
  obtain ⟨t, rfl⟩ := v1.int
  refine call_range_1 ?_
  have hsz : Builtin.Range.rangeSize 0 N 1 = (N.toNat : Int) := by rw [rangeSize_one]; split <;> lia
  have := range_iter hA (J := J) (x := x) (p := p) (D' := D) (s1 := { s1 with heap := s1.heap.push { cls := .type "range", data := .fields #[.int 0 s1.toks, .int N t, .int 1 (s1.toks + 1)] }, toks := s1.toks + 1 + 1 }) q (k1.trans (Kp.push _ _ _)) (IsRange.new ..) (small_one (by decide) (by decide) h1 h2) (rangeSize_nonneg _ _ _ (by decide))
  rw [hsz] at this
  exact this
theorem EvI.range2 {J : St → Prop} {x : Str} {p pr pos : Pos} {e e' : Expr} {M N : Int} (hk : D.env.kindOf (Str.ofString "range") = some .globalImplicit) (hv : X.C.tab.lookup (Str.ofString "range") = some (.type "range")) (h : EvO X n D σ e (.int M)) (h' : EvO X n D σ e' (.int N))
    (h1 : -(2 ^ 62) ≤ N) (h2 : N < 2 ^ 62) (h3 : -(2 ^ 62) ≤ M) (h4 : M < 2 ^ 62)
    (hse : ∀ env, backTo pos (starEach [e, e'] env) = [(false, eval e env), (false, eval e' env)] := by intro _; rfl) : EvI X n D σ (.Name x p) (.Call (.Name (Str.ofString "range") pr) [e, e'] [] pos) (rangeIV M 1 (N - M).toNat) J := fun A g fps s hA q => by
  refine wpAny_Call_NameR (q.global (X := X) hk hv ?_)
  rw [hse]
  refine PySem.callWith_type rfl (evalArgs_plain (spliced_cons (wpF_mono (h A g fps s hA q) fun nv s1 ⟨k1, v1⟩ => spliced_cons (wpF_mono (h' A g fps s1 hA (q.ext k1)) fun nv' s2 ⟨k2, v2⟩ => spliced_nil ?_))))
  obtain ⟨t, rfl⟩ := v1.int
  obtain ⟨u, rfl⟩ := v2.int
  refine call_range_2 ?_
  have hsz : Builtin.Range.rangeSize M N 1 = ((N - M).toNat : Int) := by rw [rangeSize_one]; split <;> omega
  have := range_iter hA (J := J) (x := x) (p := p) (D' := D) (s1 := { s2 with heap := s2.heap.push { cls := .type "range", data := .fields #[.int M t, .int N u, .int 1 s2.toks] }, toks := s2.toks + 1 }) q ((k1.trans k2).trans (Kp.push _ _ _)) (IsRange.new ..) (small_one h3 h4 h1 h2) (rangeSize_nonneg _ _ _ (by decide))
  rw [hsz] at this
  exact this
theorem EvI.range3 {J : St → Prop} {x : Str} {p pr pos : Pos} {e e' e'' : Expr} {M N : Int} (hk : D.env.kindOf (Str.ofString "range") = some .globalImplicit) (hv : X.C.tab.lookup (Str.ofString "range") = some (.type "range")) (h : EvO X n D σ e (.int M)) (h' : EvO X n D σ e' (.int N))
    (h'' : EvO X n D σ e'' (.int 2)) (h1 : 0 ≤ N) (h2 : N < 2 ^ 29) (h3 : 0 ≤ M) (h4 : M < 2 ^ 29)
    (hse : ∀ env, backTo pos (starEach [e, e', e''] env) = [(false, eval e env), (false, eval e' env), (false, eval e'' env)] := by intro _; rfl) : EvI X n D σ (.Name x p) (.Call (.Name (Str.ofString "range") pr) [e, e', e''] [] pos) (rangeIV M 2 ((N - M + 1) / 2).toNat) J := fun A g fps s hA q => by
  refine wpAny_Call_NameR (q.global (X := X) hk hv ?_)
  rw [hse]
  refine PySem.callWith_type rfl (evalArgs_plain (spliced_cons (wpF_mono (h A g fps s hA q) fun nv s1 ⟨k1, v1⟩ => spliced_cons (wpF_mono (h' A g fps s1 hA (q.ext k1)) fun nv' s2 ⟨k2, v2⟩ => spliced_cons (wpF_mono (h'' A g fps s2 hA ((q.ext k1).ext k2)) fun nv'' s3 ⟨k3, v3⟩ => spliced_nil ?_)))))
  obtain ⟨t, rfl⟩ := v1.int
  obtain ⟨u, rfl⟩ := v2.int
  obtain ⟨w, rfl⟩ := v3.int
  refine call_range_3 (by decide) ?_ (.inl (PyProof.noPylong_small (by (exact Nat.le_add_left _ _))))
  have hsz : Builtin.Range.rangeSize M N 2 = (((N - M + 1) / 2).toNat : Int) := by
    unfold Builtin.Range.rangeSize
    simp only [show (2 : Int) > 0 by decide, if_true]
    split
    · rw [Int.toNat_of_nonneg (by omega)]; omega
    · rw [Int.toNat_of_nonpos (by omega)]; rfl
  have hsm : Builtin.Range.small M N 2 = true := by
    unfold Builtin.Range.small
    rw [hsz]
    simp only [Builtin.Range.rangeFitsLong, Bool.and_eq_true, Bool.or_eq_true, decide_eq_true_eq, beq_iff_eq, show (2 : Int) > 0 by decide, if_true]
    refine ⟨⟨⟨⟨⟨Int.le_trans (by decide) h3, Int.lt_of_lt_of_le h4 (by decide)⟩, Int.le_trans (by decide) h1, Int.lt_of_lt_of_le h2 (by decide)⟩, by decide, by decide⟩, Int.le_trans (by decide) (Int.natCast_nonneg _), ?_⟩, .inr ⟨Int.le_trans (by decide) (Int.add_le_add_right h1 _), Int.lt_of_lt_of_le (Int.add_lt_add_right h2 _) (by decide)⟩⟩
    omega
  have := range_iter hA (J := J) (x := x) (p := p) (D' := D) (s1 := { s3 with heap := s3.heap.push { cls := .type "range", data := .fields #[.int M t, .int N u, .int 2 w] }, toks := s3.toks }) q (((k1.trans k2).trans k3).trans (Kp.push _ _ _)) (by exact Heap.get?_push_size _ rfl) hsm (rangeSize_nonneg _ _ _ (by decide))
  rw [hsz] at this
  exact this
theorem EvI.str {J : St → Prop} {x : Str} {p : Pos} {e : Expr} {y : Str} (h : EvO X n D σ e (.str y)) : EvI X n D σ (.Name x p) e (y.cps.toList.map fun c => .one (.str ⟨#[c]⟩)) J := fun A g fps s hA q =>
  wpF_mono (h A g fps s hA q) fun r s1 hqp => by
    obtain ⟨k1, v1⟩ := hqp
    obtain ⟨t, rfl⟩ := v1.str
    have hf : s.heap.get? s1.heap.objs.size = none := fresh_of_kp k1 fresh_push
    have key : ∀ (ty : String) (h' : Heap), h'.IsStrIter s1.heap.objs.size ty y t 0 → (∀ A : Around, A.handled = none → Walks X.prog X.w A s1.heap.objs.size [s1.heap.objs.size] [s1.heap.objs.size] y.cps.size (SignAt y) (fun i h => h.IsStrIter s1.heap.objs.size ty y t i)) →
        (∀ A (s : Shared) j (Q : Value → Shared → Prop), s.heap.IsStrIter s1.heap.objs.size ty y t j → Q (.ref s1.heap.objs.size) s → wpF X A (pyIter (.ref s1.heap.objs.size)) Q s) →
        Kp s { s1 with heap := h' } → ItP X A D J fps (.Name x p) (y.cps.toList.map fun c => .one (.str ⟨#[c]⟩)) s (.ref s1.heap.objs.size) { s1 with heap := h' } := fun ty h' hi W ws kk => by
      refine ⟨kk, s1.heap.objs.size, _, [s1.heap.objs.size], [s1.heap.objs.size], [], rfl, Itr.ofWalks hA (P := SignAt y) (It := fun i h => h.IsStrIter s1.heap.objs.size ty y t i) (fun A' hA' => ?_) (fun i v z hz ⟨c, u, e1, e2⟩ h _ => ?_) (fun i h hi b hb => ?_) ws, ⟨hi, Nat.zero_le _⟩, fun b hb hm => ?_, fun b hb => ?_, by simp⟩
      · rw [List.length_map, Array.length_toList]; exact W A' hA'
      · rw [List.getElem?_map] at hz
        obtain ⟨k, hk, rfl⟩ := Option.map_eq_some_iff.mp hz
        have : k = c := by simp at hk; obtain rfl := Option.some.inj (e1.symm.trans hk); rfl
        subst this e2
        exact VR.ofStr
      · rw [List.mem_singleton.mp hb]; obtain ⟨o, ho, _⟩ := hi; exact ⟨o, ho⟩
      · rw [List.mem_singleton.mp hb] at hm
        obtain ⟨o, ho⟩ := q.alive _ hm
        exact (Option.some_ne_none _ (ho.symm.trans hf)).elim
      · rw [List.mem_singleton.mp hb]; exact hf
    cases ha : y.cps.all (· < 128)
    · refine wpAny_pyIter_wide ha ?_
      exact key _ _ ⟨_, Heap.get?_push_size _ rfl, rfl, rfl⟩ (fun A' hA' => Walks.strWide hA' _ y t) (fun A s j Q hi hQ => wpAny_pyIter_striter_wide hi hQ) (k1.trans (Kp.push _ _ _))
    · refine wpAny_pyIter_ascii ha ?_
      exact key _ _ ⟨_, Heap.get?_push_size _ rfl, rfl, rfl⟩ (fun A' hA' => Walks.strAscii hA' _ y t) (fun A s j Q hi hQ => wpAny_pyIter_striter_ascii hi hQ) (k1.trans (Kp.push _ _ _))
theorem letGo_list {target : Expr} (ht : (∃ x p, target = .Name x p) ∨ (∃ elts k p, target = .Tuple elts k p)) {A : Around} {I l : Addr} {i : Nat} {r : Value} {s : Shared} {Q : Unit → Shared → Prop} (hit : s.heap.IsListIter I l i) (h : Q () s) :
    wpF X A (letOwnedTupleGo target (.ref I) r) Q s := by
  rcases ht with ⟨x, p, rfl⟩ | ⟨elts, k, p, rfl⟩
  · exact wpAny_pure h
  · cases r with
    | ref T => exact wpAny_letOwnedTupleGo_listiter hit h
    | _ => exact wpAny_pure h
theorem list_iter {J : St → Prop} {A : Around} (hA : AOk A n) {target : Expr} (ht : (∃ x p, target = .Name x p) ∨ (∃ elts k p, target = .Tuple elts k p)) {xs : List DV} {s s1 : Shared} {r : Value} {f : List Addr} {fps : List (List Addr)} {g : Shared} (q : R X.C D g σ fps s) (k : Kp s s1)
    (hr : RepV s1.heap (.lst xs) r f) (hf : ∀ b ∈ f, b ∉ ownOf D fps) :
    wpF X A (pyIter r) (fun it s2 => ItP X A D J fps target (xs.map .one) s it s2) s1 := by
  refine Classical.byContradiction fun hnx => ?_
  (obtain ⟨a, vs, fp', e1, e2, hl, hv⟩ := id hr) <;> (refine hnx ?_; clear hnx)
  subst e1
  refine wpAny_pyIter_list hl ?_
  have hfr : s.heap.get? s1.heap.objs.size = none := fresh_of_kp k fresh_push
  have hne : a ≠ s1.heap.objs.size := by obtain ⟨o, ho, _⟩ := hl; exact Nat.ne_of_lt (Heap.lt_size ho)
  refine ⟨k.trans (Kp.push _ _ _), s1.heap.objs.size, fun j s => s.heap.IsListIter s1.heap.objs.size a j ∧ RepV s.heap (.lst xs) (.ref a) f, s1.heap.objs.size :: f, [s1.heap.objs.size], [], rfl, ⟨?_, ?_, ?_, ?_, fun A s j Q hi hQ => wpAny_pyIter_listiter hi.1 hQ⟩, ⟨⟨_, Heap.get?_push_size _ rfl, rfl, rfl⟩, ?_⟩, ?_, fun b hb => ?_, by simp⟩
  · intro g' σ' fps' s' j q' _ _ ⟨hit, hr'⟩
    refine Classical.byContradiction fun hnx => ?_
    (obtain ⟨a', vs', fp'', e1, e2', hl', hv'⟩ := id hr') <;> (refine hnx ?_; clear hnx)
    cases e1
    have hnf : s1.heap.objs.size ∉ f := fun hm => by
      obtain ⟨o, ho⟩ := RepV.alive hr _ hm
      exact absurd (Heap.lt_size ho) (Nat.lt_irrefl _)
    have stay : ∀ h', (∀ b o, b ≠ s1.heap.objs.size → s'.heap.get? b = some o → h'.get? b = some o) → RepV h' (.lst xs) (.ref a) f := fun h' hk => hr'.mono fun b hb o e => hk b o (fun hh => hnf (hh ▸ hb)) e
    cases hx : (xs.map IV.one)[j]? with
    | none =>
      have : vs'.toArray[j]? = none := by
        rw [List.getElem?_eq_none_iff, List.length_map] at hx
        simp [hv'.length]; omega
      exact wpAny_pyNext_list_end hA.1 hit hl' this fun h' he => ⟨KpB.of_heap fun b o hb e => he b o (by simpa using hb) e, rfl⟩
    | some y =>
      rw [List.getElem?_map] at hx
      obtain ⟨d, hd, rfl⟩ := Option.map_eq_some_iff.mp hx
      refine Classical.byContradiction fun hnx => ?_
      (obtain ⟨r', f', h1, h2, h3⟩ := hv'.get hd) <;> (refine hnx ?_; clear hnx)
      refine wpAny_pyNext_list_item hit hl' (by simpa using h1) fun h' hit' hs' => ⟨KpB.of_heap fun b o hb e => hs'.extBut b o (by simpa using hb) e, r', rfl, ?_⟩
      have hk : ∀ b o, b ≠ s1.heap.objs.size → s'.heap.get? b = some o → h'.get? b = some o := fun b o hb e => hs'.extBut b o hb e
      refine letGo_list ht hit' ⟨KpB.refl _, ⟨f', h2.mono fun b hb o e => hk b o (fun hh => hnf (by rw [← hh, e2']; exact List.mem_cons_of_mem _ (h3 b hb))) e⟩, hit', stay _ hk⟩
  · exact fun j s s' hqp hk _ => by obtain ⟨hit, hr'⟩ := hqp; exact ⟨hit.at fun o e => hk _ List.mem_cons_self o e, hr'.mono fun b hb o e => hk b (List.mem_cons_of_mem _ hb) o e⟩
  · intro j s ⟨⟨o, ho, _⟩, hr'⟩ b hb
    rcases List.mem_cons.mp hb with rfl | hb
    · exact ⟨o, ho⟩
    · exact hr'.alive b hb
  · intro b hb; rw [List.mem_singleton.mp hb]; exact List.mem_cons_self
  · exact hr.mono fun b _ o e => Heap.get?_push_of_some _ e
  · intro b hb hm
    rcases List.mem_cons.mp hb with rfl | hb
    · obtain ⟨o, ho⟩ := q.alive _ hm
      exact (Option.some_ne_none _ (ho.symm.trans hfr)).elim
    · exact hf b hb hm
  · rw [List.mem_singleton.mp hb]; exact hfr
theorem EvI.frozen {J : St → Prop} {target : Expr} {y : Str} {py : Pos} {xs : List DV} (ht : (∃ x p, target = .Name x p) ∨ (∃ elts k p, target = .Tuple elts k p)) (hl : σ.loc.lookup y = some (.dv (.lst xs))) (hk : isVar D y = true) :
    EvI X n D σ target (.Name y py) (xs.map .one) J := fun A g fps s hA q =>
  wpF_mono (EvA.name hl hk A g fps s hA q) fun r s1 ⟨k1, f, hr⟩ => list_iter hA ht q k1 (hr.mono fun b _ o e => (q.keep.trans k1).hp b o (q.zk b o e)) fun b hb hm => by
    obtain ⟨o, ho⟩ := hr.alive b hb
    have := q.zk _ _ ho
    rw [q.fresh b hm] at this; cases this
theorem EvI.own {x y : Str} {p py : Pos} {k : Nat} {xs : List DV} (hl : σ.loc.lookup y = some (.ref k)) (hk : isVar D y = true) (hxs : ∀ d ∈ xs, d.sc = true) (ho : σ.hp[k]? = some (.lst xs) ∨ σ.hp[k]? = some (.pl xs)) :
    EvI X n D σ (.Name x p) (.Name y py) (xs.map .one) (fun σ' => σ'.hp[k]? = some (.lst xs) ∨ σ'.hp[k]? = some (.pl xs)) := fun A g fps s hA q =>
  wpF_mono (EvA.name hl hk A g fps s hA q) fun r s1 hqp => by
    obtain ⟨k1, a, fp, e, hr⟩ := hqp
    subst hr
    have rep : ∀ {g' : Shared} {σ' : St} {fps' : List (List Addr)} {s' : Shared} {fp' : List Addr}, R X.C D g' σ' fps' s' → (σ'.hp[k]? = some (.lst xs) ∨ σ'.hp[k]? = some (.pl xs)) → fps'[k]? = some (a :: fp') → RepV s'.heap (.lst xs) (.ref a) (a :: fp') := fun {g' σ' fps' s' fp'} q' h' e' => by
      have : Rep s'.heap (.lst xs) (a :: fp') := by
        rcases h' with h' | h'
        · exact q'.obj k _ _ h' e'
        · exact (q'.obj k _ _ h' e').pl_lst
      obtain ⟨a', f', e2, x⟩ := this
      cases e2; exact x
    refine Classical.byContradiction fun hnx => ?_
    (obtain ⟨_, vs, _, e1, _, hl1, hv1⟩ := rep (q.ext k1) ho e) <;> (refine hnx ?_; clear hnx)
    cases e1
    refine wpAny_pyIter_list hl1 ?_
    have hfr : s.heap.get? s1.heap.objs.size = none := fresh_of_kp k1 fresh_push
    refine ⟨k1.trans (Kp.push _ _ _), s1.heap.objs.size, fun j s => s.heap.IsListIter s1.heap.objs.size a j, [s1.heap.objs.size], [s1.heap.objs.size], [], rfl, ⟨?_, ?_, ?_, ?_, fun A s j Q hi hQ => wpAny_pyIter_listiter hi hQ⟩, ⟨_, Heap.get?_push_size _ rfl, rfl, rfl⟩, ?_, fun b hb => ?_, by simp⟩
    · intro g' σ' fps' s' j q' hJ hF hit
      obtain ⟨fp', e'⟩ := hF k a fp e
      refine Classical.byContradiction fun hnx => ?_
      (obtain ⟨a', vs', fp'', e1, e2', hl', hv'⟩ := rep q' hJ e') <;> (refine hnx ?_; clear hnx)
      cases e1
      cases hx : (xs.map IV.one)[j]? with
      | none =>
        have : vs'.toArray[j]? = none := by
          rw [List.getElem?_eq_none_iff, List.length_map] at hx
          simp [hv'.length]; omega
        exact wpAny_pyNext_list_end hA.1 hit hl' this fun h' he => ⟨KpB.of_heap fun b o hb e => he b o (by simpa using hb) e, rfl⟩
      | some y =>
        rw [List.getElem?_map] at hx
        obtain ⟨d, hd, rfl⟩ := Option.map_eq_some_iff.mp hx
        refine Classical.byContradiction fun hnx => ?_
        (obtain ⟨r', f', h1, h2, h3⟩ := hv'.get hd) <;> (refine hnx ?_; clear hnx)
        refine wpAny_pyNext_list_item hit hl' (by simpa using h1) fun h' hit' hs' => ⟨KpB.of_heap fun b o hb e => hs'.extBut b o (by simpa using hb) e, r', rfl, ?_⟩
        rw [letGo_name]
        exact wpAny_pure ⟨KpB.refl _, ⟨[], (h2.sc_heap (hxs d (List.mem_of_getElem? hd))).1⟩, hit'⟩
    · exact fun j s s' hit hk _ => hit.at fun o e => hk _ List.mem_cons_self o e
    · intro j s ⟨o, ho, _⟩ b hb
      rw [List.mem_singleton.mp hb]; exact ⟨o, ho⟩
    · exact fun b hb => hb
    · intro b hb hm
      rw [List.mem_singleton.mp hb] at hm
      obtain ⟨o, ho⟩ := q.alive _ hm
      exact (Option.some_ne_none _ (ho.symm.trans hfr)).elim
    · rw [List.mem_singleton.mp hb]; exact hfr
end
end Mine
end
section
open PySem PySem.Calls PyProof.Rows
namespace Mine
theorem setPlain {prog : Program} {w : World} {A : Around} {E : Value → Shared → Prop} {s : Shared} {l : Addr} {items : Array Value} {k : Int} {t : Tok} {v : Value} {j : Nat} {Q : Unit → Shared → Prop} (hl : s.heap.PlainList l items)
    (hj : seqIndex? k items.size = some j) (hf : Builtin.List.listFitsIndex k = true)
    (hQ : ∀ h', h'.PlainList l (items.setIfInBounds j v) → Heap.SameBut l s.heap h' → Q () { s with heap := h' }) :
    wpAny (model prog w) A (setItem (.ref l) (.int k t) v) Q E s := by
  obtain ⟨n, ho⟩ := id hl
  have hT : s.TypeIs (.ref l) "list" := ⟨_, ho, rfl⟩
  have hji : j < items.size := by
    have hj : (let m := if k < 0 then k + (items.size : Int) else k; if (decide (0 ≤ m) && decide (m < (items.size : Int))) = true then some m.toNat else none) = some j := hj
    generalize (if k < 0 then k + (items.size : Int) else k) = m at hj
    dsimp only at hj
    split at hj
    · rename_i h
      cases hj
      rw [Bool.and_eq_true, decide_eq_true_eq, decide_eq_true_eq] at h
      exact (Int.toNat_lt h.1).mpr h.2
    · cases hj
  have hfin : (s.heap.update l (Obj.mapSeq (·.setIfInBounds j v))).PlainList l (items.setIfInBounds j v) := ⟨n, by
    rw [Heap.get?_update_self _ ho (by dsimp [Obj.mapSeq, Obj.isFreed])]
    simp [Obj.mapSeq]⟩
  unfold setItem
  try with_reducible refine wpAny_holding ?_
  first | refine wpAny_bind (wpAny_pure ?_) | skip
  refine wpAny_bind (wpAny_sequenceKey hT (by decide) ?_)
  refine wpAny_bind (wpAny_callSpecial?_slot (name := Str.ofString "__setitem__") hT slot_list_setitem
    (wpAny_call_entry slot_list_setitem hT entry_list_setitem ?_ (args_list_setitem _ _ _)))
  show wpAny _ _ (Builtin.List.listSubscript? (.int k t) >>= _) _ _ s
  refine wpAny_bind (wpAny_listSubscript_int hf ?_)
  clear hf
  have fin : ∀ {β : Type} {K : PUnit → Sem β} {Q' : β → Shared → Prop}, wpAny (model prog w) A.in1 (K ⟨⟩) Q' E { s with heap := s.heap.update l (Obj.mapSeq (·.setIfInBounds j v)) } → wpAny (model prog w) A.in1 (setSeqItemAt l j v >>= K) Q' E s := fun h =>
    wpAny_bind (wpAny_setSeqItemAt ho rfl h)
  cases k with
  | ofNat i =>
    have : j = i := by
      unfold seqIndex? at hj
      have h0 : ¬ (Int.ofNat i < 0) := Int.not_lt.mpr (Int.natCast_nonneg i)
      simp only [h0, if_false] at hj
      split at hj
      · simp at hj; lia
      · exact (Option.some_ne_none _ hj.symm).elim
    subst this
    have hx' : items[j]? = some items[j] := Array.getElem?_eq_getElem hji
    show wpAny _ _ ((seqItemAt l j >>= fun r => pure (r.map (j, ·))) >>= _) _ _ s
    refine wpAny_bind (wpAny_bind (wpAny_seqItemAt ho rfl (wpAny_pure ?_)))
    rw [hx']
    refine wpAny_bind (wpAny_setSeqItemAt ho rfl ?_)
    first
      | exact wpAny_bind (wpAny_pure (wpAny_pure ⟨.none, rfl, wpAny_pure (hQ _ hfin (Heap.SameBut.update ..))⟩))
      | exact wpAny_pure ⟨.none, rfl, wpAny_pure (hQ _ hfin (Heap.SameBut.update ..))⟩
  | negSucc i =>
    show wpAny _ _ ((Builtin.List.listItems (.ref l) >>= fun xs => pure ((seqIndex? (Int.negSucc i) xs.size).bind fun i => xs[i]?.map (i, ·))) >>= _) _ _ s
    refine wpAny_bind (wpAny_bind ?_)
    show wpAny _ _ (seqItems? (.ref l) >>= _) _ _ s
    refine wpAny_bind (wpAny_seqItems ho rfl (wpAny_pure (wpAny_pure ?_)))
    rw [hj]
    simp only [Option.bind_some, Array.getElem?_eq_getElem hji, Option.map_some]
    refine wpAny_bind (wpAny_setSeqItemAt ho rfl ?_)
    first
      | exact wpAny_bind (wpAny_pure (wpAny_pure ⟨.none, rfl, wpAny_pure (hQ _ hfin (Heap.SameBut.update ..))⟩))
      | exact wpAny_pure ⟨.none, rfl, wpAny_pure (hQ _ hfin (Heap.SameBut.update ..))⟩
theorem RepVs.setFlat {h : Heap} : ∀ {xs : List DV} {vs : List Value} {fp : List Addr} {j : Nat} {d : DV} {r : Value}, RepVs h xs vs fp → (∀ e ∈ xs, e.sc = true) → RepV h d r [] → RepVs h (xs.set j d) (vs.set j r) []
  | [], _, _, j, d, r, x, _, _ => by rw [x.1]; simp [RepVs_1, RepVs_2]
  | e :: xs, _, _, 0, d, r, ⟨r0, rs, f1, f2, e1, e2, x, y⟩, hs, hd => by
    subst e1
    exact ⟨r, rs, [], [], rfl, rfl, hd, scs_rep ⟨f2, y⟩ fun a ha => hs a (List.mem_cons_of_mem _ ha)⟩
  | e :: xs, _, _, j + 1, d, r, ⟨r0, rs, f1, f2, e1, e2, x, y⟩, hs, hd => by
    subst e1
    exact ⟨r0, _, [], [], rfl, rfl, (x.sc_heap (h' := h) (hs e List.mem_cons_self)).1, RepVs.setFlat y (fun a ha => hs a (List.mem_cons_of_mem _ ha)) hd⟩
section
variable {X : Cx} {n : Nat} {D : FD} {σ : St} {Φ : AFl → St → Prop} {rest : List Stmt}
theorem R.getPl {C : Gl} {D : FD} {g s : Shared} {σ : St} {fps : List (List Addr)} (q : R C D g σ fps s) {k : Nat} {xs : List DV} (h : σ.hp[k]? = some (.pl xs)) {a : Addr} {fp : List Addr} (e : fps[k]? = some (a :: fp)) :
    ∃ vs, s.heap.PlainList a (List.toArray vs) ∧ RepVs s.heap xs vs fp := by
  refine Classical.byContradiction fun hnx => ?_
  (obtain ⟨a', fp', vs, e', x, y⟩ := q.obj k _ _ h e) <;> (refine hnx ?_; clear hnx)
  cases e'; exact ⟨vs, x, y⟩
theorem Ex.append {x : Str} {px pa pc pe : Pos} {e : Expr} {k : Nat} {xs : List DV} {d : DV} (hl : σ.loc.lookup x = some (.ref k)) (hk : isVar D x = true) (ho : σ.hp[k]? = some (.pl xs)) (h : EvF X n D σ e d)
    (hz : xs.length ≤ sizeLine) (hr : Ex X n D rest ⟨σ.loc, σ.hp.set k (.pl (xs ++ [d]))⟩ Φ) (hline : (pa.endLine == pc.line) = true := by rfl) (hse : ∀ env, starEach [e] env = [(false, eval e env)] := by intro _; rfl) :
    Ex X n D (.Expr (.Call (.Attribute (.Name x px) (Str.ofString "append") pa) [e] [] pc) pe :: rest) σ Φ := Ex.cons fun A g fps s hA q => by
  refine wpAny_Expr_any (Call_method1 rfl (hse _) hline (wpF_mono (EvA.name hl hk A g fps s hA q) fun r s1 hq1 => ?_)) (by unfold interactive; rw [q.fk]; rfl) (by rfl)
  refine Classical.byContradiction fun hnx => ?_
  (obtain ⟨k1, a, fp, e1, hr1⟩ := hq1) <;> (refine hnx ?_; clear hnx)
  subst hr1
  have q1 := q.ext k1
  refine Classical.byContradiction fun hnx => ?_
  (obtain ⟨vs, ⟨nn, hp⟩, hv⟩ := q1.getPl ho e1) <;> (refine hnx ?_; clear hnx)
  refine ⟨"list", "list.append", F.plainAttrs_list, F.slot_list_append, F.type_list_append, ⟨_, hp, rfl⟩, fun b hb => by cases hb; exact ⟨_, hp, rfl⟩, P.append_list (wpF_mono (h A g fps s1 hA q1) fun r s2 hq2 => ?_)⟩
  obtain ⟨k2, f2, h1, h2, h3⟩ := hq2
  have q2 := q1.ext k2
  refine Classical.byContradiction fun hnx => ?_
  (obtain ⟨vs2, ⟨n2, hp2⟩, hv2⟩ := q2.getPl ho e1) <;> (refine hnx ?_; clear hnx)
  refine ⟨vs2.toArray, n2, by rw [List.size_toArray, hv2.length]; exact hz, hp2, ?_⟩
  have hne : ∀ b ∈ f2, b ≠ a := fun b hb hh => by subst hh; rw [h3 b hb] at hp; cases hp
  have hbut : ∀ b o, b ∉ a :: fp → s2.heap.get? b = some o → (s2.heap.update a (Obj.mapSeq fun ys => ys.push r)).get? b = some o := fun b o hb e => by
    rw [Heap.get?_update_other _ _ (fun hh => hb (by rw [← hh]; exact List.mem_cons_self))]; exact e
  have hbut' : ∀ b o, b ≠ a → s2.heap.get? b = some o → (s2.heap.update a (Obj.mapSeq fun ys => ys.push r)).get? b = some o := fun b o hb e => by
    rw [Heap.get?_update_other _ _ (Ne.symm hb)]; exact e
  have hafp : a ∉ fp := by
    have := q2.nd; unfold ownOf at this; rw [List.nodup_cons, List.nodup_append] at this
    have := List.Nodup.sublist (List.sublist_flatten_of_mem (List.mem_of_getElem? e1)) this.2.2.1
    rw [List.nodup_cons] at this; exact this.1
  have hnd : fp.Nodup := by
    have := q2.nd; unfold ownOf at this; rw [List.nodup_cons, List.nodup_append] at this
    have := List.Nodup.sublist (List.sublist_flatten_of_mem (List.mem_of_getElem? e1)) this.2.2.1
    rw [List.nodup_cons] at this; exact this.2
  have hfo : ∀ b ∈ f2, b ∉ ownOf D fps := fun b hb hm => by
    obtain ⟨o, ho⟩ := q1.alive b hm
    rw [h3 b hb] at ho; cases ho
  have q3 := q2.upd (o := .pl (xs ++ [d])) (fp' := fp ++ f2) e1 (s' := { s2 with heap := s2.heap.update a (Obj.mapSeq fun ys => ys.push r) }) (KpB.of_heap hbut)
    (fun b hb => by
      rcases List.mem_append.mp hb with hb | hb
      · exact .inl hb
      · exact .inr ⟨hfo b hb, fresh_of_kp q1.keep (h3 b hb)⟩)
    (by
      refine List.nodup_cons.mpr ⟨fun hm => ?_, List.nodup_append.mpr ⟨hnd, h2, fun b hb c hc hh => ?_⟩⟩
      · rcases List.mem_append.mp hm with hm | hm
        · exact hafp hm
        · exact hne a hm rfl
      · subst hh; exact hfo b hc (own_fps (mem_flatten_get e1 (List.mem_cons_of_mem _ hb))))
    ⟨a, fp ++ f2, vs2 ++ [r], rfl, ⟨n2 + 1, by
        rw [Heap.get?_update_self _ hp2 (by rw [Obj.mapSeq_push_plain]; rfl), Obj.mapSeq_push_plain]; simp⟩,
      (hv2.mono fun b hb o e => hbut' b o (fun hh => hafp (hh ▸ hb)) e).app (RepVs.single (h1.mono fun b hb o e => hbut' b o (hne b hb) e))⟩
  exact ⟨.next, _, _, q3, fun i b f e => by
      by_cases hi : i = k
      · subst hi; rw [e1] at e; cases e
        exact ⟨_, List.getElem?_set_self (List.getElem?_eq_some_iff.mp e1).1⟩
      · exact ⟨f, by rw [List.getElem?_set_ne (Ne.symm hi)]; exact e⟩, rfl, hr⟩
theorem Fext.set {fps : List (List Addr)} {k : Nat} {a : Addr} {fp fp' : List Addr} (e1 : fps[k]? = some (a :: fp)) : Fext fps (fps.set k (a :: fp')) := fun i b f e => by
  by_cases hi : i = k
  · subst hi; rw [e1] at e; cases e
    exact ⟨_, List.getElem?_set_self (List.getElem?_eq_some_iff.mp e1).1⟩
  · exact ⟨f, by rw [List.getElem?_set_ne (Ne.symm hi)]; exact e⟩
theorem R.setFlat {C : Gl} {D : FD} {g s : Shared} {σ : St} {fps : List (List Addr)} (q : R C D g σ fps s) {k : Nat} {ys : List DV} {ws : List Value} {a : Addr} {fp : List Addr} (e1 : fps[k]? = some (a :: fp)) {h' : Heap} {t : Nat}
    (hp : h'.PlainList a (List.toArray ws)) (hs : Heap.SameBut a s.heap h') (hv : RepVs h' ys ws []) : R C D g ⟨σ.loc, σ.hp.set k (.pl ys)⟩ (fps.set k [a]) { s with heap := h', toks := t } :=
  q.upd (o := .pl ys) (fp' := []) e1 (KpB.of_heap fun b o hb e => (hs.2 b (fun hh => hb (by rw [hh]; exact List.mem_cons_self))).trans e) (by simp) (by simp) ⟨a, [], ws, rfl, hp, hv⟩
theorem sc_move {h h' : Heap} {xs : List DV} {vs : List Value} {f : List Addr} (x : RepVs h xs vs f) (hs : ∀ d ∈ xs, d.sc = true) : RepVs h' xs vs [] := scs_rep ⟨f, x⟩ hs
theorem Ex.putItem {x : Str} {px pt pos : Pos} {e i : Expr} {k j : Nat} {c : Int} {xs : List DV} {d : DV} (hl : σ.loc.lookup x = some (.ref k)) (hk : isVar D x = true) (ho : σ.hp[k]? = some (.pl xs)) (h : EvO X n D σ e d) (hd : d.sc = true) (hsc : ∀ d ∈ xs, d.sc = true)
    (hi : EvO X n D σ i (.int c)) (hj : seqIndex? c xs.length = some j) (hf : Builtin.List.listFitsIndex c = true)
    (hr : Ex X n D rest ⟨σ.loc, σ.hp.set k (.pl (xs.set j d))⟩ Φ) (hs : swapsWith e (some (.Subscript (.Name x px) i pt)) pos.line D.env = pure false := by rfl) :
    Ex X n D (.Assign [.Subscript (.Name x px) i pt] e pos :: rest) σ Φ := Ex.cons fun A g fps s hA q => by
  refine wpAny_Assign_Subscript (wpF_mono (h A g fps s hA q) fun r s1 ⟨k1, v1⟩ => wpF_mono (EvA.name hl hk A g fps s1 hA (q.ext k1)) fun ro s2 ⟨k2, a, fp, e1, hr1⟩ => wpF_mono (hi A g fps s2 hA ((q.ext k1).ext k2)) fun ri s3 hq3 => ?_) hs
  obtain ⟨k3, v3⟩ := hq3
  subst hr1
  obtain ⟨t, rfl⟩ := v3.int
  have q3 := ((q.ext k1).ext k2).ext k3
  refine Classical.byContradiction fun hnx => ?_
  (obtain ⟨vs, hp, hv⟩ := q3.getPl ho e1) <;> (refine hnx ?_; clear hnx)
  refine setPlain hp (j := j) (by rw [List.size_toArray, hv.length]; exact hj) hf fun h' hp' hs' => ?_
  refine Classical.byContradiction fun hnx => ?_
  (obtain ⟨f, v1⟩ := v1) <;> (refine hnx ?_; clear hnx)
  have hv' : RepVs h' (xs.set j d) (vs.set j r) [] := RepVs.setFlat (sc_move hv hsc) hsc (v1.sc_heap (h' := h') hd).1
  exact ⟨.next, _, _, q3.setFlat e1 (t := s3.toks) (by simpa using hp') hs' hv', Fext.set e1, rfl, hr⟩
theorem EvF.addL {l r : Expr} {p : Pos} {xs ys : List DV} (h1 : EvO X n D σ l (.lst xs)) (h2 : EvO X n D σ r (.lst ys)) (hz : xs.length + ys.length ≤ sizeLine) (hs1 : ∀ d ∈ xs, d.sc = true) (hs2 : ∀ d ∈ ys, d.sc = true) :
    EvF X n D σ (.BinOp l .Add r p) (.lst (xs ++ ys)) := fun A g fps s hA q =>
  wpAny_BinOp (EvO.two h1 h2 hA q fun ra rb s' k va vb => by
    refine Classical.byContradiction fun hnx => ?_
    (obtain ⟨a, vs, rfl, hl, hv⟩ := va.lst) <;> (refine hnx ?_; clear hnx)
    obtain ⟨b, ws, rfl, hl2, hv2⟩ := vb.lst
    refine Classical.byContradiction fun hnx => ?_
    (obtain ⟨⟨cls, dd, data, sl⟩, ho, hc, n, hd⟩ := id hl) <;> (refine hnx ?_; clear hnx)
    refine Classical.byContradiction fun hnx => ?_
    (obtain ⟨⟨cls2, dd2, data2, sl2⟩, ho2, hc2, n2, hd2⟩ := id hl2) <;> (refine hnx ?_; clear hnx)
    simp only at hc hd hc2 hd2
    subst hc hd hc2 hd2
    have e : vs.toArray ++ ws.toArray = (vs ++ ws).toArray := by simp
    refine concat_meets ⟨_, ho, rfl⟩ ⟨_, ho2, rfl⟩ noFill_list_add seq_list_add PySem.F.slot_list_add PySem.F.entry_list_add (PySem.F.args_list_add_2 _ _)
      (list_addW a b vs.toArray ws.toArray n n2 dd dd2 sl sl2 (by rw [List.size_toArray, List.size_toArray, hv.length, hv2.length]; exact hz)) ⟨ho, ho2, ?_⟩
    rw [e]
    exact newFlat k (hv.app hv2) fun d hd => by exact (List.mem_append.mp hd).elim (hs1 d) (hs2 d))
end
end Mine
end
section
open PySem PySem.Calls PyProof.Rows
namespace Mine
theorem bindC_1 : ∀ (kindOf : PySem.Str → Option PySem.NameKind) (x : PySem.Str → Option PySem.Value), PySem.bindC kindOf [] x = x := by intros; rfl
theorem bindC_2 : ∀ (kindOf : PySem.Str → Option PySem.NameKind) (x : PySem.Str → Option PySem.Value) (n : PySem.Str) (v : PySem.Value) (r : List (PySem.Str × PySem.Value)), PySem.bindC kindOf ((n, v) :: r) x = PySem.bindC kindOf r (if kindOf n = some PySem.NameKind.local then x else fun y ↦ if y = n then some v else x y) := by intros; rfl
theorem bindL_1 : ∀ (kindOf : PySem.Str → Option PySem.NameKind) (x : PySem.Str → Option PySem.Value), PySem.bindL kindOf [] x = x := by intros; rfl
theorem bindL_2 : ∀ (kindOf : PySem.Str → Option PySem.NameKind) (x : PySem.Str → Option PySem.Value) (n : PySem.Str) (v : PySem.Value) (r : List (PySem.Str × PySem.Value)), PySem.bindL kindOf ((n, v) :: r) x = PySem.bindL kindOf r (if kindOf n = some PySem.NameKind.local then fun y ↦ if y = n then some v else x y else x) := by intros; rfl
theorem bindL_at (K : Str → Option NameKind) : ∀ (b : List (Str × Value)) (m : Str → Option Value) (x : Str), K x = some .local → bindL K b m x = (b.reverse.lookup x).or (m x)
  | [], m, x, _ => by (rfl)
  | (y, v) :: r, m, x, h => by
    rw [bindL_2, bindL_at K r _ x h, List.reverse_cons, List.lookup_append, Option.or_assoc]
    congr 1
    by_cases hx : x = y
    · subst hx; simp [h]
    · have : (x == y) = false := beq_eq_false_iff_ne.mpr hx
      simp only [List.lookup_cons, this, List.lookup_nil, Option.none_or]
      split <;> simp [hx]
theorem bindC_at (K : Str → Option NameKind) : ∀ (b : List (Str × Value)) (m : Str → Option Value) (x : Str), K x ≠ some .local → bindC K b m x = (b.reverse.lookup x).or (m x)
  | [], m, x, _ => by (rfl)
  | (y, v) :: r, m, x, h => by
    rw [bindC_2, bindC_at K r _ x h, List.reverse_cons, List.lookup_append, Option.or_assoc]
    congr 1
    by_cases hx : x = y
    · subst hx; simp [h]
    · have : (x == y) = false := beq_eq_false_iff_ne.mpr hx
      simp only [List.lookup_cons, this, List.lookup_nil, Option.none_or]
      split <;> simp [hx]
theorem cells_mem : ∀ (names : List (Str × NameKind)) (n : Nat) (acc : List (Str × Addr)) (p : Str × Addr), p ∈ cellsFrom n names acc → p ∈ acc ∨ (p.1, NameKind.cell) ∈ names
  | [], _, _, _, h => .inl h
  | (y, k) :: r, n, acc, p, h => by
    unfold cellsFrom at h
    split at h
    · rename_i hk
      have hk : k = .cell := by simpa using hk
      subst hk
      rcases cells_mem r _ _ p h with h | h
      · rcases List.mem_cons.mp h with rfl | h
        · exact .inr (by (exact .head _))
        · exact .inl h
      · exact .inr (List.mem_cons_of_mem _ h)
    · rcases cells_mem r _ _ p h with h | h
      · exact .inl h
      · exact .inr (List.mem_cons_of_mem _ h)
theorem cells_keep : ∀ (names : List (Str × NameKind)) (n : Nat) (acc : List (Str × Addr)) (x : Str), (acc.lookup x).isSome = true → ((cellsFrom n names acc).lookup x).isSome = true
  | [], _, _, _, h => h
  | (y, k) :: r, n, acc, x, h => by
    unfold cellsFrom
    split
    · refine cells_keep r _ _ x ?_
      rw [List.lookup_cons]; split <;> (first | assumption | rfl)
    · exact cells_keep r _ _ x h
theorem cells_has : ∀ (names : List (Str × NameKind)) (n : Nat) (acc : List (Str × Addr)) (x : Str), (x, NameKind.cell) ∈ names → ((cellsFrom n names acc).lookup x).isSome = true
  | (y, k) :: r, n, acc, x, h => by
    unfold cellsFrom
    rcases List.mem_cons.mp h with e | h
    · cases e
      simp only [beq_self_eq_true, if_true]
      exact cells_keep r _ _ _ (by simp)
    · split <;> exact cells_has r _ _ x h
theorem cells_nd : ∀ (names : List (Str × NameKind)) (n : Nat) (acc : List (Str × Addr)), (names.map (·.1)).Nodup → (acc.map (·.1)).Nodup → (∀ x ∈ acc.map (·.1), x ∉ names.map (·.1)) → ((cellsFrom n names acc).map (·.1)).Nodup
  | [], _, _, _, h, _ => h
  | (y, k) :: r, n, acc, h1, h2, h3 => by
    rw [List.map_cons, List.nodup_cons] at h1
    unfold cellsFrom
    split
    · refine cells_nd r _ _ h1.2 ?_ ?_
      · rw [List.map_cons, List.nodup_cons]
        exact ⟨fun hm => h3 y hm (by (exact .head _)), h2⟩
      · intro x hx
        rw [List.map_cons] at hx
        rcases List.mem_cons.mp hx with rfl | hx
        · exact h1.1
        · exact fun hm => h3 x hx (List.mem_cons_of_mem _ hm)
    · exact cells_nd r _ _ h1.2 h2 fun x hx hm => h3 x hx (List.mem_cons_of_mem _ hm)
theorem lookup_of_nd {α : Type} : ∀ {l : List (Str × α)} {p : Str × α}, (l.map (·.1)).Nodup → p ∈ l → l.lookup p.1 = some p.2
  | (y, v) :: r, p, h, hm => by
    rw [List.map_cons, List.nodup_cons] at h
    rw [List.lookup_cons]
    rcases List.mem_cons.mp hm with rfl | hm
    · simp
    · have : p.1 ≠ y := fun e => h.1 (List.mem_map.mpr ⟨p, hm, e⟩)
      rw [beq_eq_false_iff_ne.mpr this]
      exact lookup_of_nd h.2 hm
theorem zip_lookup {h : Heap} : ∀ {ds : List DV} {rs : List Value} (names : List Str), VRs h ds rs → ∀ x, (∃ d r, (names.zip (ds.map AV.dv)).reverse.lookup x = some (.dv d) ∧ (names.zip rs).reverse.lookup x = some r ∧ VR h d r) ∨
    ((names.zip (ds.map AV.dv)).reverse.lookup x = none ∧ (names.zip rs).reverse.lookup x = none)
  | [], rs, names, v, x => by rw [v.nil_inv]; simp
  | d :: ds, rs, [], v, x => by simp
  | d :: ds, rs, y :: names, v, x => by
    refine Classical.byContradiction fun hnx => ?_
    (obtain ⟨r, rs', rfl, a, b⟩ := v.cons_inv) <;> (refine hnx ?_; clear hnx)
    simp only [List.map_cons, List.zip_cons_cons, List.reverse_cons, List.lookup_append]
    rcases zip_lookup names b x with ⟨d', r', h1, h2, h3⟩ | ⟨h1, h2⟩
    · exact .inl ⟨d', r', by rw [h1]; rfl, by rw [h2]; rfl, h3⟩
    · rw [h1, h2]
      by_cases hx : x = y
      · subst hx; exact .inl ⟨d, r, by simp, by simp, a⟩
      · have : (x == y) = false := beq_eq_false_iff_ne.mpr hx
        exact .inr ⟨by simp [List.lookup_cons, this], by simp [List.lookup_cons, this]⟩
noncomputable def fnD (fd : FuncData) (L a : Addr) (z : Heap) : FD := ⟨callEnvC fd L a, (cellsFrom (L + 1) fd.scope.names []).map (·.2), (fd.scope.names.filter fun x => x.2 == .cell).map (·.1), z⟩
theorem R.start {C : Gl} {s s' : Shared} {fd : FuncData} {a : Addr} {names : List Str} {ds : List DV} {rs : List Value} (hb : Bs C s.heap) (hbare : AllBare s.gens) (hv : VRs s.heap ds rs)
    (hg : fd.globals = mainGlobals) (hbu : fd.builtins = builtinsNs) (hk : fd.scope.kind = .function) (hfree : ∀ x ∈ fd.scope.names, x.2 ≠ .free) (hnd : (fd.scope.names.map (·.1)).Nodup)
    (x : InCallC s (callEnvC fd s.heap.objs.size a).locals (bindL (callEnvC fd s.heap.objs.size a).kindOf (names.zip rs) fun _ => none) (callEnvC fd s.heap.objs.size a).cells
        (bindC (callEnvC fd s.heap.objs.size a).kindOf (names.zip rs) fun _ => none) s') :
    R C (fnD fd s.heap.objs.size a s.heap) s ⟨(names.zip (ds.map AV.dv)).reverse, []⟩ [] s' := by
  obtain ⟨h', tk, rfl⟩ := x.toInCall.same
  have hcells : (callEnvC fd s.heap.objs.size a).cells = cellsFrom (s.heap.objs.size + 1) fd.scope.names [] := rfl
  have hloc : (callEnvC fd s.heap.objs.size a).locals = s.heap.objs.size := rfl
  have hab : ∀ c ∈ (fnD fd s.heap.objs.size a s.heap).cs, s.heap.objs.size < c := fun c hc => by
    obtain ⟨p, hp, rfl⟩ := List.mem_map.mp hc
    exact x.above p.1 p.2 hp
  have hnof : ∀ y, (callEnvC fd s.heap.objs.size a).kindOf y ≠ some .free := fun y e => by
    have : (y, NameKind.free) ∈ fd.scope.names := mem_of_lookup e
    exact hfree _ this rfl
  refine ⟨hb, fun b o e => e, Kp.of_heap x.toInCall.keep, hbare, hk, hg, hbu, ?_, fun b hb => ?_, ⟨_, x.toInCall.ns, fun y v e1 e2 => ?_⟩, fun y v e1 e2 => ?_, fun c hc => ?_, fun y c e => ?_, fun y hy => ?_, fun y z c _ e1 e2 => ?_, rfl, fun k o f e1 e2 => by simp at e1⟩
  · show (s.heap.objs.size :: ((cellsFrom (s.heap.objs.size + 1) fd.scope.names []).map (·.2) ++ [].flatten)).Nodup
    rw [List.flatten_nil, List.append_nil, List.nodup_cons]
    refine ⟨fun hm => absurd (hab _ hm) (Nat.lt_irrefl _), ?_⟩
    have := x.apart
    rw [hcells] at this
    rw [List.Nodup, List.pairwise_map]
    exact this
  · have hb' : b ∈ s.heap.objs.size :: ((fnD fd s.heap.objs.size a s.heap).cs ++ []) := hb
    rw [List.append_nil] at hb'
    rcases List.mem_cons.mp hb' with rfl | hb'
    · exact Heap.get?_none_of_le (Nat.le_refl _)
    · exact Heap.get?_none_of_le (Nat.le_of_lt (hab b hb'))
  · rcases zip_lookup names hv y with ⟨d, r, h1, h2, h3⟩ | ⟨h1, h2⟩
    · rw [show St.loc _ = _ from rfl] at e1
      obtain rfl := Option.some.inj (h1.symm.trans e1)
      exact ⟨r, by rw [bindL_at (callEnvC fd s.heap.objs.size a).kindOf _ _ _ e2, h2]; rfl, h3⟩
    · have : (names.zip (ds.map AV.dv)).reverse.lookup y = some v := e1
      exact (Option.some_ne_none _ (this.symm.trans h1)).elim
  · rcases zip_lookup names hv y with ⟨d, r, h1, h2, h3⟩ | ⟨h1, h2⟩
    · have e1' : (names.zip (ds.map AV.dv)).reverse.lookup y = some v := e1
      obtain rfl := Option.some.inj (h1.symm.trans e1')
      have e2 : (callEnvC fd s.heap.objs.size a).kindOf y = some .cell := e2.resolve_right (hnof y)
      have hs := cells_has fd.scope.names (s.heap.objs.size + 1) [] y (mem_of_lookup e2)
      obtain ⟨c, hc⟩ := Option.isSome_iff_exists.mp hs
      have := x.cell y c hc
      rw [bindC_at (callEnvC fd s.heap.objs.size a).kindOf _ _ _ (by rw [e2]; decide), h2] at this
      exact ⟨c, r, hc, this, h3⟩
    · have : (names.zip (ds.map AV.dv)).reverse.lookup y = some v := e1
      exact (Option.some_ne_none _ (this.symm.trans h1)).elim
  · obtain ⟨p, hp, rfl⟩ := List.mem_map.mp hc
    exact ⟨_, x.cell p.1 p.2 (lookup_of_nd (cells_nd _ _ _ hnd List.nodup_nil (by simp)) hp)⟩
  · exact .inl (List.mem_map.mpr ⟨(y, c), mem_of_lookup e, rfl⟩)
  · obtain ⟨p, hp, rfl⟩ := List.mem_map.mp hy
    refine Classical.byContradiction fun hnx => ?_
    (obtain ⟨hp1, hp2⟩ := List.mem_filter.mp hp) <;> (refine hnx ?_; clear hnx)
    obtain ⟨y, k⟩ := p
    obtain rfl : k = .cell := by simpa using hp2
    have hs := cells_has fd.scope.names (s.heap.objs.size + 1) [] y hp1
    obtain ⟨c, hc⟩ := Option.isSome_iff_exists.mp hs
    exact ⟨c, hc, List.mem_map.mpr ⟨(y, c), mem_of_lookup hc, rfl⟩⟩
  · exact name_of_addr x.apart (mem_of_lookup e1) (mem_of_lookup e2)
noncomputable def retIs (d : DV) : AFl → St → Prop
  | .ret d', _ => d' = d
  | .next, _ => d = .none
  | _, _ => False
theorem CallO.ofBody {X : Cx} {n : Nat} {a : Addr} {o : Obj} {fd : FuncData} {body : List Stmt} {names : List Str} {args : List DV} {d : DV} (ho : (a, o) ∈ X.C.objs) (hd : o.data = .func fd) (hbody : fd.body = .stmts body)
    (hclo : fd.closure = []) (hg : fd.globals = mainGlobals) (hbu : fd.builtins = builtinsNs) (hcd : ∀ h, Bs X.C h → h.CodeRec fd.code fd.qualname)
    (hbind : ∀ vals : List Value, vals.length = args.length → bindArgs fd ⟨vals, []⟩ = pure (names.zip vals)) (hkind : ∀ x ∈ names, fd.scope.names.lookup x = some .local ∨ fd.scope.names.lookup x = some .cell)
    (hfree : ∀ x ∈ fd.scope.names, x.2 ≠ .free) (hnd : (fd.scope.names.map (·.1)).Nodup) (hco : fd.scope.isCoroutine = false) (hgen : fd.scope.isGenerator = false) (hk : fd.scope.kind = .function)
    (h : ∀ L z, Bs X.C z → Ex X n (fnD fd L a z) body ⟨(names.zip (args.map AV.dv)).reverse, []⟩ (retIs d)) : CallO X (n + 1) (.ref a) args d := fun A s rs hA hb hbare hv => by
  refine wpAny_call (codeAny_call_cells hA.room (hb.held _ ho) hd hb.nolim (hcd _ hb) hbody (hbind rs hv.length) hclo (fun x hx => ?_) (fun s₁ x => ?_) hco hgen hk)
  · have hm : x.1 ∈ names := (List.of_mem_zip (a := x.1) (b := x.2) hx).1
    rcases hkind _ hm with e | e
    · exact .inl e
    · exact .inr ⟨e, cells_has _ _ _ _ (mem_of_lookup e)⟩
  · have q := R.start hb hbare hv hg hbu hk hfree hnd x
    refine wpAny_e (h s.heap.objs.size s.heap hb _ s [] s₁ (hA.deeper _) q) fun f s2 hq1 => ?_
    obtain ⟨fl, σ', fps', q2, e2, r2, h2⟩ := hq1
    cases fl with
    | ret d' =>
      obtain rfl : d' = d := h2
      obtain ⟨r, fp, rfl, h3, h4, h5⟩ := r2
      exact ⟨q2.keep, fp, h3, h4, h5⟩
    | next =>
      obtain rfl : d = .none := h2
      obtain rfl : f = .next := r2
      exact ⟨q2.keep, [], ⟨rfl, rfl⟩, List.nodup_nil, by simp⟩
    | brk => exact h2.elim
    | cont => exact h2.elim
-- the parts of a statement and of an expression that are spoken of
noncomputable def sParts : Stmt → Str × Arguments × List Stmt × List Stmt × Scope × Expr × Pos
  | .FunctionDef n a b _ _ _ s _ _ p => (n, a, b, [], s, default, p)
  | .ClassDef _ _ _ b _ _ _ _ _ _ _ => (default, default, b, [], default, default, default)
  | .Return v _ => (default, default, [], [], default, v.getD default, default)
  | .Assign _ e _ => (default, default, [], [], default, e, default)
  | .For t _ b _ _ => (default, default, b, [], default, t, default)
  | .While _ b _ _ => (default, default, b, [], default, default, default)
  | .If t b o _ => (default, default, b, o, default, t, default)
  | .Expr e _ => (default, default, [], [], default, e, default)
  | _ => default
noncomputable def eParts : Expr → List Expr × Arguments × Expr × Scope × Pos
  | .Tuple e _ p => (e, default, default, default, p)
  | .List e _ => (e, default, default, default, default)
  | .Call _ l _ _ => (l, default, default, default, default)
  | .Yield v _ => ([], default, v.getD default, default, default)
  | .Lambda a b s p => ([], a, b, s, p)
  | _ => default
noncomputable def dName (s : Stmt) : Str := (sParts s).1
noncomputable def dParams (s : Stmt) : Arguments := (sParts s).2.1
noncomputable def dBody (s : Stmt) : List Stmt := (sParts s).2.2.1
noncomputable def dScope (s : Stmt) : Scope := (sParts s).2.2.2.2.1
noncomputable def dFd (st : Stmt) (pm cd doc : Value) : FuncData := docDef (dName st) (dParams st) (dBody st) (dScope st) pm cd doc
theorem fdl {fd : FuncData} {p : Arguments} (h1 : fd.params = p) (h2 : fd.defaults = .none) (h3 : fd.kwdefaults = .none) : fd = { fd with params := p, defaults := .none, kwdefaults := .none } := by
  cases fd; dsimp only at h1 h2 h3; subst h1 h2 h3; rfl
noncomputable def FnAt (X : Cx) (a : Addr) (st : Stmt) (pm cd doc : Value) : Prop :=
  (∃ o, (a, o) ∈ X.C.objs ∧ o.data = .func (dFd st pm cd doc)) ∧ ∀ h, Bs X.C h → h.CodeRec cd (dName st)
theorem FnAt.isFn {X : Cx} {a : Addr} {st : Stmt} {pm cd doc : Value} (h : FnAt X a st pm cd doc) : IsFn X (.ref a) := by obtain ⟨⟨o, h1, h2⟩, _⟩ := h; exact ⟨a, o, _, rfl, h1, h2⟩
theorem FnAt.call {X : Cx} {n : Nat} {a : Addr} {st : Stmt} {pm cd doc : Value} (h : FnAt X a st pm cd doc) (names : List Str) {args : List DV} {d : DV}
    (hbind : ∀ vals : List Value, vals.length = args.length → bindArgs (dFd st pm cd doc) ⟨vals, []⟩ = pure (names.zip vals)) (hkind : ∀ x ∈ names, (dScope st).names.lookup x = some .local ∨ (dScope st).names.lookup x = some .cell)
    (hfree : ∀ x ∈ (dScope st).names, x.2 ≠ .free) (hnd : ((dScope st).names.map (·.1)).Nodup) (hco : (dScope st).isCoroutine = false) (hgen : (dScope st).isGenerator = false) (hk : (dScope st).kind = .function)
    (hb : ∀ L z, Bs X.C z → Ex X n (fnD (dFd st pm cd doc) L a z) (dBody st) ⟨(names.zip (args.map AV.dv)).reverse, []⟩ (retIs d)) : CallO X (n + 1) (.ref a) args d := by
  refine Classical.byContradiction fun hnx => ?_
  (obtain ⟨⟨o, h1, h2⟩, h3⟩ := h) <;> (refine hnx ?_; clear hnx)
  exact CallO.ofBody h1 h2 rfl rfl rfl rfl h3 hbind hkind hfree hnd hco hgen hk hb
end Mine
end
section
open PySem PySem.Calls PyProof.Rows
namespace Mine
theorem R.appended {C : Gl} {D : FD} {g s : Shared} {σ : St} {fps : List (List Addr)} (q : R C D g σ fps s) {k : Nat} {xs : List DV} {vs : List Value} {a : Addr} {fp f2 : List Addr} {d : DV} {r : Value} (e1 : fps[k]? = some (a :: fp))
    (hv : RepVs s.heap xs vs fp) (h1 : RepV s.heap d r f2) (h2 : f2.Nodup) (h3 : ∀ b ∈ f2, b ∉ ownOf D fps ∧ g.heap.get? b = none) {h' : Heap} {t : Nat} (hp : h'.PlainList a (vs.toArray.push r)) (hs : Heap.SameBut a s.heap h') :
    R C D g ⟨σ.loc, σ.hp.set k (.pl (xs ++ [d]))⟩ (fps.set k (a :: (fp ++ f2))) { s with heap := h', toks := t } := by
  have hnd : (a :: fp).Nodup := by
    have := q.nd; unfold ownOf at this; rw [List.nodup_cons, List.nodup_append] at this
    exact List.Nodup.sublist (List.sublist_flatten_of_mem (List.mem_of_getElem? e1)) this.2.2.1
  rw [List.nodup_cons] at hnd
  have hne : ∀ b ∈ f2, b ≠ a := fun b hb hh => (h3 b hb).1 (hh ▸ own_fps (mem_flatten_get e1 List.mem_cons_self))
  have hk : ∀ b o, b ≠ a → s.heap.get? b = some o → h'.get? b = some o := fun b o hb e => (hs.2 b hb).trans e
  refine q.upd (o := .pl (xs ++ [d])) (fp' := fp ++ f2) e1 (KpB.of_heap fun b o hb e => hk b o (fun hh => hb (by rw [hh]; exact List.mem_cons_self)) e)
    (fun b hb => (List.mem_append.mp hb).imp id (h3 b)) ?_
    ⟨a, fp ++ f2, vs ++ [r], rfl, by simpa using hp, (hv.mono fun b hb o e => hk b o (fun hh => hnd.1 (hh ▸ hb)) e).app (RepVs.single (h1.mono fun b hb o e => hk b o (hne b hb) e))⟩
  refine List.nodup_cons.mpr ⟨fun hm => ?_, List.nodup_append.mpr ⟨hnd.2, h2, fun b hb c hc hh => ?_⟩⟩
  · rcases List.mem_append.mp hm with hm | hm
    · exact hnd.1 hm
    · exact hne a hm rfl
  · subst hh; exact (h3 b hc).1 (own_fps (mem_flatten_get e1 (List.mem_cons_of_mem _ hb)))
noncomputable def clos : List (Str × NameKind) → List (Str × Addr) → List (Str × Addr) → List (Str × Addr)
  | [], _, acc => acc
  | (y, k) :: r, cells, acc => if k == .free then clos r cells ((y, (cells.lookup y).getD 0) :: acc) else clos r cells acc
theorem clos_forIn {env : Env} (f : Str × NameKind → List (Str × Addr) → Sem (ForInStep (List (Str × Addr))))
    (hf : ∀ name kind cs, f (name, kind) cs = if kind == .free then (do let c ← cellOf env name; pure (.yield ((name, c) :: cs))) else pure (.yield cs)) :
    ∀ (names : List (Str × NameKind)) (acc : List (Str × Addr)), (∀ x ∈ names, x.2 = .free → (env.cells.lookup x.1).isSome = true) → forIn names acc f = pure (clos names env.cells acc)
  | [], acc, _ => by rw [List.forIn_nil]; rfl
  | (y, k) :: r, acc, h => by
    rw [List.forIn_cons, hf]
    unfold clos
    have hr : ∀ x ∈ r, x.2 = .free → (env.cells.lookup x.1).isSome = true := fun x hx => h x (List.mem_cons_of_mem _ hx)
    split
    · rename_i hk
      refine Classical.byContradiction fun hnx => ?_
      (obtain ⟨c, hc⟩ := Option.isSome_iff_exists.mp (h (y, k) List.mem_cons_self (by simpa using hk))) <;> (refine hnx ?_; clear hnx)
      have hc' : env.cells.lookup y = some c := hc
      have : cellOf env y = pure c := by unfold cellOf; rw [hc']
      rw [this, hc']
      exact clos_forIn f hf r _ hr
    · exact clos_forIn f hf r _ hr
theorem closureFor_eq {scope : Scope} {env : Env} (h : ∀ x ∈ scope.names, x.2 = .free → (env.cells.lookup x.1).isSome = true) : closureFor scope env = pure (clos scope.names env.cells []) := by
  unfold closureFor
  dsimp only
  rw [clos_forIn (env := env) _ (fun name kind cs => by cases hkc : kind == NameKind.free <;> dsimp [hkc]) scope.names [] h]
  rfl
theorem clos_val : ∀ (names : List (Str × NameKind)) (cells acc : List (Str × Addr)), (∀ p ∈ acc, p.2 = (cells.lookup p.1).getD 0 ∧ (p.1, NameKind.free) ∈ names ∨ p.2 = (cells.lookup p.1).getD 0) → ∀ p ∈ clos names cells acc, p.2 = (cells.lookup p.1).getD 0
  | [], cells, acc, h, p, hp => by rcases h p hp with h | h; exact h.1; exact h
  | (y, k) :: r, cells, acc, h, p, hp => by
    unfold clos at hp
    split at hp
    · refine clos_val r cells _ (fun p hp => ?_) p hp
      rcases List.mem_cons.mp hp with rfl | hp
      · exact .inr rfl
      · rcases h p hp with h | h
        · exact .inr h.1
        · exact .inr h
    · refine clos_val r cells _ (fun p hp => ?_) p hp
      rcases h p hp with h | h
      · exact .inr h.1
      · exact .inr h
theorem clos_name : ∀ (names : List (Str × NameKind)) (cells acc : List (Str × Addr)), ∀ p ∈ clos names cells acc, p ∈ acc ∨ (p.1, NameKind.free) ∈ names
  | [], cells, acc, p, hp => .inl hp
  | (y, k) :: r, cells, acc, p, hp => by
    unfold clos at hp
    split at hp
    · rename_i hk
      obtain rfl : k = .free := by simpa using hk
      rcases clos_name r cells _ p hp with h | h
      · rcases List.mem_cons.mp h with rfl | h
        · exact .inr (by (exact .head _))
        · exact .inl h
      · exact .inr (List.mem_cons_of_mem _ h)
    · rcases clos_name r cells _ p hp with h | h
      · exact .inl h
      · exact .inr (List.mem_cons_of_mem _ h)
theorem clos_keep : ∀ (names : List (Str × NameKind)) (cells acc : List (Str × Addr)) (x : Str), (acc.lookup x).isSome = true → ((clos names cells acc).lookup x).isSome = true
  | [], _, _, _, h => h
  | (y, k) :: r, cells, acc, x, h => by
    unfold clos
    split
    · refine clos_keep r _ _ x ?_
      rw [List.lookup_cons]; split <;> (first | assumption | rfl)
    · exact clos_keep r _ _ x h
theorem clos_has : ∀ (names : List (Str × NameKind)) (cells acc : List (Str × Addr)) (x : Str), (x, NameKind.free) ∈ names → ((clos names cells acc).lookup x).isSome = true
  | (y, k) :: r, cells, acc, x, h => by
    unfold clos
    rcases List.mem_cons.mp h with e | h
    · cases e
      simp only [beq_self_eq_true, if_true]
      exact clos_keep r _ _ _ (by simp)
    · split <;> exact clos_has r _ _ x h
theorem clos_at {names : List (Str × NameKind)} {cells : List (Str × Addr)} {x : Str} {c : Addr} (hx : (x, NameKind.free) ∈ names) (hc : cells.lookup x = some c) : (clos names cells []).lookup x = some c := by
  obtain ⟨c', h⟩ := Option.isSome_iff_exists.mp (clos_has names cells [] x hx)
  have := clos_val names cells [] (by simp) (x, c') (mem_of_lookup h)
  simp only [hc, Option.getD_some] at this
  rw [h, this]
theorem cells_split : ∀ (names : List (Str × NameKind)) (n : Nat) (acc : List (Str × Addr)), cellsFrom n names acc = cellsFrom n names [] ++ acc
  | [], _, _ => rfl
  | (y, k) :: r, n, acc => by
    unfold cellsFrom
    split
    · rw [cells_split r _ ((y, n) :: acc), cells_split r _ [(y, n)], List.append_assoc]; rfl
    · exact cells_split r _ _
noncomputable def compEnv (scope : Scope) (cl : List (Str × Addr)) (C : Addr) (env : Env) : Env :=
  { scope := relabel scope env, locals := C, globals := env.globals, cells := cellsFrom (C + 1) scope.names cl, qual := env.qual, func := none, code := env.code, frame := env.frame, builtins := env.builtins }
noncomputable def compD (D : FD) (scope : Scope) (C : Addr) (z : Heap) : FD :=
  ⟨compEnv scope (clos scope.names D.env.cells []) C D.env, (cellsFrom (C + 1) scope.names []).map (·.2), (scope.names.filter fun x => x.2 == .cell).map (·.1), z⟩
theorem newEnvAround {M : Model} {A : Around} {E : Value → Shared → Prop} {s : Shared} {scope : Scope} {cl : List (Str × Addr)} {env : Env} {Q : Env → Shared → Prop}
    (h : Q (newEnv scope s.heap.objs.size env.globals (cellsFrom (s.heap.objs.size + 1) scope.names cl) env.qual none .none (some env) builtinsNs) { s with heap := pushCells (s.heap.push { cls := .type "dict", data := .dict #[] }) scope.names }) :
    wpAny M A (newFunctionEnv scope env.globals cl [] env.qual none .none (some env)) Q E s := by
  simp only [newFunctionEnv, Option.isSome_some, if_true]
  refine wpAny_bind (wpAny_alloc ?_)
  refine wpAny_bind (wpAny_layCells _ (fun name kind cells => by cases hkc : kind == NameKind.cell <;> dsimp [hkc]) _ _ _ _ ?_)
  rw [show ({ s with heap := s.heap.push { cls := .type "dict", data := .dict #[] } } : Shared).heap.objs.size = s.heap.objs.size + 1 from Heap.size_push ..]
  refine wpAny_bind ?_
  rw [List.forIn_nil]
  exact wpAny_pure (wpAny_pure h)
structure Cap (D : FD) (σ : St) (y : Str) (d : DV) : Prop where
  kind : D.env.kindOf y = some .cell ∨ D.env.kindOf y = some .free
  val : σ.loc.lookup y = some (.dv d) ∨ ∃ k xs, σ.loc.lookup y = some (.ref k) ∧ (σ.hp[k]? = some (.lst xs) ∨ σ.hp[k]? = some (.pl xs)) ∧ d = .lst xs
noncomputable def capL (cap : List (Str × DV)) : List (Str × AV) := cap.map fun p => (p.1, .dv p.2)
theorem capL_mem {cap : List (Str × DV)} {y : Str} {v : AV} (h : (capL cap).lookup y = some v) : ∃ d, v = .dv d ∧ (y, d) ∈ cap := by
  refine Classical.byContradiction fun hnx => ?_
  (obtain ⟨p, hp, e⟩ := List.mem_map.mp (mem_of_lookup h)) <;> (refine hnx ?_; clear hnx)
  cases e; exact ⟨p.2, rfl, hp⟩
theorem lookup_relabel {env : Env} : ∀ {names : List (Str × NameKind)} {x : Str}, names.lookup x = some .free →
    (names.map fun (n, k) => if (k == NameKind.free && env.scope.kind == .function && env.kindOf n == some .cell) then (n, NameKind.cell) else (n, k)).lookup x = some .cell ∨
    (names.map fun (n, k) => if (k == NameKind.free && env.scope.kind == .function && env.kindOf n == some .cell) then (n, NameKind.cell) else (n, k)).lookup x = some .free
  | [], _, h => by simp at h
  | (n, k) :: r, x, h => by
    have ih := @lookup_relabel env r x
    simp only [List.map_cons]
    cases hx : x == n with
    | true =>
      simp only [List.lookup_cons, hx] at h
      obtain rfl := Option.some.inj h
      split <;> simp [List.lookup_cons, hx]
    | false =>
      simp only [List.lookup_cons, hx] at h
      split <;> (simp only [List.lookup_cons, hx]; exact ih h)
theorem R.compG {C : Gl} {D : FD} {g s s3 : Shared} {σ : St} {fps : List (List Addr)} {scope : Scope} {cap : List (Str × AV)} {z' : Heap} (q : R C D g σ fps s) (k : Kp s s3) (hkind : scope.kind = .function) (hnd : (scope.names.map (·.1)).Nodup)
    (hb : Bs C z') (hz' : ∀ b o, z'.get? b = some o → s.heap.get? b = some o) (hcz : ∀ y c, D.env.cells.lookup y = some c → ∃ o, z'.get? c = some o)
    (hcap : ∀ p ∈ cap, (D.env.kindOf p.1 = some .cell ∨ D.env.kindOf p.1 = some .free) ∧ scope.names.lookup p.1 = some .free ∧ ∃ v, σ.loc.lookup p.1 = some v ∧ ∀ r, v.At D.z fps r → p.2.At z' [] r) (hfree : ∀ x ∈ scope.names, x.2 = .free → ∃ d, (x.1, d) ∈ cap) :
    R C (compD D scope s3.heap.objs.size z') s ⟨cap, []⟩ [] { s3 with heap := pushCells (s3.heap.push { cls := .type "dict", data := .dict #[] }) scope.names } := by
  have kk : Kp s { s3 with heap := pushCells (s3.heap.push { cls := .type "dict", data := .dict #[] }) scope.names } := k.trans (Kp.of_heap fun b o e => pushCells_keeps _ _ b o (Heap.get?_push_of_some _ e))
  have ok := cellsFrom_ok scope.names (s3.heap.push { cls := .type "dict", data := .dict #[] }) (s3.heap.objs.size + 1) [] ⟨fun _ _ hm => (nomatch hm), List.Pairwise.nil⟩ (by rw [Heap.size_push]; exact Nat.le_refl _)
  rw [Heap.size_push] at ok
  have hfr : ∀ b, s3.heap.objs.size ≤ b → s.heap.get? b = none := fun b hb => fresh_of_kp k (Heap.get?_none_of_le hb)
  have hcell : ∀ y c, (compD D scope s3.heap.objs.size z').env.cells.lookup y = some c → ((cellsFrom (s3.heap.objs.size + 1) scope.names []).lookup y = some c) ∨ ((cellsFrom (s3.heap.objs.size + 1) scope.names []).lookup y = none ∧ (clos scope.names D.env.cells []).lookup y = some c) := fun y c e => by
    have e' : (cellsFrom (s3.heap.objs.size + 1) scope.names (clos scope.names D.env.cells [])).lookup y = some c := e
    rw [cells_split, List.lookup_append] at e'
    cases h : (cellsFrom (s3.heap.objs.size + 1) scope.names []).lookup y with
    | some c' => rw [h] at e'; exact .inl e'
    | none => rw [h] at e'; exact .inr ⟨rfl, e'⟩
  have hold : ∀ y c, (clos scope.names D.env.cells []).lookup y = some c → ∃ o, z'.get? c = some o := fun y c e => by
    have hm := mem_of_lookup e
    rcases clos_name _ _ _ _ hm with h | h
    · cases h
    · obtain ⟨d, hd⟩ := hfree _ h rfl
      obtain ⟨hc, _, v, hv, _⟩ := hcap _ hd
      have hval := clos_val scope.names D.env.cells [] (by simp) _ hm
      obtain ⟨c', r, h1, ⟨o, ho, _⟩, _⟩ := q.cel y v hv hc
      have : c = (D.env.cells.lookup y).getD 0 := hval
      rw [h1] at this
      exact this ▸ hcz _ _ h1
  have hab : ∀ c ∈ (cellsFrom (s3.heap.objs.size + 1) scope.names []).map (·.2), s3.heap.objs.size < c := fun c hc => by
    obtain ⟨p, hp, rfl⟩ := List.mem_map.mp hc
    exact (ok.empty p.1 p.2 hp).2
  refine ⟨hb, hz', kk, kk.bare q.bare, hkind, q.eg, q.eb, ?_, fun b hb => ?_, ⟨fun _ => none, (Heap.Ns.new s3.heap (.type "dict")).keeps (pushCells_keeps _ _), fun y v e1 e2 => ?_⟩, fun y v e1 e2 => ?_, fun c hc => ?_, fun y c e => ?_, fun y hy => ?_, fun y y' c hy e1 e2 => ?_, rfl, fun k o f e1 e2 => by simp at e1⟩
  · show (s3.heap.objs.size :: ((cellsFrom (s3.heap.objs.size + 1) scope.names []).map (·.2) ++ [].flatten)).Nodup
    rw [List.flatten_nil, List.append_nil, List.nodup_cons]
    refine ⟨fun hm => absurd (hab _ hm) (Nat.lt_irrefl _), ?_⟩
    rw [List.Nodup, List.pairwise_map]
    exact ok.apart
  · have hb' : b ∈ s3.heap.objs.size :: ((cellsFrom (s3.heap.objs.size + 1) scope.names []).map (·.2) ++ []) := hb
    rw [List.append_nil] at hb'
    rcases List.mem_cons.mp hb' with rfl | hb'
    · exact hfr _ (Nat.le_refl _)
    · exact hfr _ (Nat.le_of_lt (hab b hb'))
  · have hm := mem_of_lookup e1
    have := (hcap _ hm).2.1
    rcases lookup_relabel (env := D.env) this with h | h <;> (have e2' : _ = some NameKind.local := e2; rw [show (compD D scope s3.heap.objs.size z').env.kindOf y = _ from h] at e2'; cases e2')
  · have hm := mem_of_lookup e1
    obtain ⟨hc, hf, v0, hv0, hat⟩ := hcap _ hm
    obtain ⟨c, r, h1, h2, h3⟩ := q.cel y v0 hv0 hc
    have hcl := clos_at (mem_of_lookup hf) h1
    refine ⟨c, r, ?_, h2.keeps kk.hp, hat r h3⟩
    show (cellsFrom (s3.heap.objs.size + 1) scope.names (clos scope.names D.env.cells [])).lookup y = some c
    rw [cells_split, List.lookup_append, hcl]
    cases h : (cellsFrom (s3.heap.objs.size + 1) scope.names []).lookup y with
    | none => rfl
    | some c' =>
      rcases cells_mem _ _ _ _ (mem_of_lookup h) with h' | h'
      · cases h'
      · have := lookup_of_nd hnd h'
        simp only at this
        rw [hf] at this; cases this
  · obtain ⟨p, hp, rfl⟩ := List.mem_map.mp hc
    exact ⟨_, (ok.empty p.1 p.2 hp).1⟩
  · rcases hcell y c e with h | ⟨_, h⟩
    · exact .inl (List.mem_map.mpr ⟨(y, c), mem_of_lookup h, rfl⟩)
    · exact .inr (hold y c h)
  · obtain ⟨p, hp, rfl⟩ := List.mem_map.mp hy
    refine Classical.byContradiction fun hnx => ?_
    (obtain ⟨hp1, hp2⟩ := List.mem_filter.mp hp) <;> (refine hnx ?_; clear hnx)
    obtain ⟨y, k⟩ := p
    obtain rfl : k = .cell := by simpa using hp2
    obtain ⟨c, hc⟩ := Option.isSome_iff_exists.mp (cells_has scope.names (s3.heap.objs.size + 1) [] y hp1)
    refine ⟨c, ?_, List.mem_map.mpr ⟨(y, c), mem_of_lookup hc, rfl⟩⟩
    show (cellsFrom (s3.heap.objs.size + 1) scope.names (clos scope.names D.env.cells [])).lookup y = some c
    rw [cells_split, List.lookup_append, hc]; rfl
  · obtain ⟨p, hp, rfl⟩ := List.mem_map.mp hy
    obtain ⟨hp1, hp2⟩ := List.mem_filter.mp hp
    obtain ⟨y, k⟩ := p
    obtain rfl : k = .cell := by simpa using hp2
    obtain ⟨c', hc'⟩ := Option.isSome_iff_exists.mp (cells_has scope.names (s3.heap.objs.size + 1) [] y hp1)
    have hy1 : (cellsFrom (s3.heap.objs.size + 1) scope.names []).lookup y = some c := by
      rcases hcell y c e1 with h | ⟨h, _⟩
      · exact h
      · rw [hc'] at h; cases h
    have hgt := hab c (List.mem_map.mpr ⟨(y, c), mem_of_lookup hy1, rfl⟩)
    rcases hcell y' c e2 with h | ⟨_, h⟩
    · exact name_of_addr ok.apart (mem_of_lookup hy1) (mem_of_lookup h)
    · obtain ⟨o, ho⟩ := hold y' c h
      exact absurd hgt (Nat.not_lt.mpr (Nat.le_of_lt (Heap.lt_size (k.hp _ _ (hz' _ _ ho)))))
theorem R.comp {C : Gl} {D : FD} {g s s3 : Shared} {σ : St} {fps : List (List Addr)} {scope : Scope} {cap : List (Str × DV)} (q : R C D g σ fps s) (k : Kp s s3) (hkind : scope.kind = .function) (hnd : (scope.names.map (·.1)).Nodup)
    (hcap : ∀ p ∈ cap, Cap D σ p.1 p.2 ∧ scope.names.lookup p.1 = some .free) (hfree : ∀ x ∈ scope.names, x.2 = .free → ∃ d, (x.1, d) ∈ cap) :
    R C (compD D scope s3.heap.objs.size s.heap) s ⟨capL cap, []⟩ [] { s3 with heap := pushCells (s3.heap.push { cls := .type "dict", data := .dict #[] }) scope.names } := by
  refine q.compG k hkind hnd q.z (fun _ _ e => e) (fun y c e => ?_) (fun p hp => ?_) fun x hx hf => ?_
  · rcases q.celo y c e with h | ⟨o, h⟩
    · exact q.alive c (own_cs h)
    · exact ⟨o, q.keep.hp _ _ (q.zk _ _ h)⟩
  · obtain ⟨p', hp', rfl⟩ := List.mem_map.mp hp
    obtain ⟨⟨hk, hv⟩, hf⟩ := hcap _ hp'
    refine ⟨hk, hf, ?_⟩
    rcases hv with h | ⟨k, xs, h, ho, e⟩
    · exact ⟨_, h, fun r h3 => VR.keeps h3 fun b o e => q.keep.hp b o (q.zk b o e)⟩
    · refine ⟨_, h, fun r h3 => ?_⟩
      obtain ⟨a, fp, e', rfl⟩ := h3
      have : Rep s.heap (.lst xs) (a :: fp) := by
        rcases ho with ho | ho
        · exact q.obj _ _ _ ho e'
        · exact (q.obj _ _ _ ho e').pl_lst
      obtain ⟨a', fp', e1, x⟩ := this
      cases e1
      show VR s.heap p'.2 (.ref a)
      rw [e]; exact ⟨_, x⟩
  · obtain ⟨d, hd⟩ := hfree x hx hf
    exact ⟨.dv d, List.mem_map.mpr ⟨_, hd, rfl⟩⟩
theorem compLoop_any {prog : Program} {w : World} {A : Around} {R : Result → Shared → Prop} {s : Shared} {elt target iter : Expr} {ifs : List Expr} {scope : Scope} {pos : Pos} {it acc : Value} {env : Env} (I : Nat → Shared → Prop)
    (turn : ∀ n s, I n s → wpAny (model prog w) A (pyNext it) (fun r s₁ => match r with
      | none => R (.ok .next) s₁
      | some v => wpAny (model prog w) A (letOwnedTupleGo target it v) (fun _ s₁' => wpAny (model prog w) A (assign target env v) (fun _ s₂ =>
          wpAny (model prog w) A (forIn ifs true fun c r => if r = true then do let ok ← isTrue c env (eval c env); pure (ForInStep.yield ok) else pure (ForInStep.yield r)) (fun ok s₃ =>
            if ok = true then wpAny (model prog w) A (eval elt env) (fun x s₄ =>
              wpAny (model prog w) A (call (.builtin "list.append") [acc, x]) (fun _ s₅ => ∃ m, m < n ∧ I m s₅) (fun _ _ => False) s₄) (fun _ _ => False) s₃
            else ∃ m, m < n ∧ I m s₃) (fun _ _ => False) s₂) (fun _ _ => False) s₁') (fun _ _ => False) s₁) (fun _ _ => False) s)
    (n : Nat) (h : I n s) : codeAny (model prog w) A (.compLoop (.ListComp elt [⟨target, iter, ifs, 0⟩] scope pos) 0 it acc env) R s := by
  refine codeAny_loop rfl I (fun n s hI => ?_) n h
  show wpAny _ A ((compTurn (.ListComp elt [⟨target, iter, ifs, 0⟩] scope pos) 0 it acc env).onRaise (fun x => do noteFrame x env; theTreesLotGoes x)) _ _ s
  refine wpAny_noted ?_
  rw [compTurn_list]
  refine wpAny_mono (E := fun _ _ => False) ?_ (fun _ _ x => x) fun _ _ x => x.elim
  refine wpAny_bind (wpAny_standAt (wpAny_bind (wpAny_mono (turn n s hI) (fun r s₁ h₁ => ?_) fun _ _ h' => h')))
  cases r with
  | none => exact wpAny_pure h₁
  | some v =>
    refine wpAny_bind (wpAny_mono h₁ (fun _ s₁' h₁' => ?_) fun _ _ h' => h')
    refine wpAny_bind (wpAny_mono h₁' (fun _ s₂ h₂ => wpAny_bind (wpAny_mono h₂ (fun ok s₃ h₃ => ?_) fun _ _ h' => h')) fun _ _ h' => h')
    cases ok with
    | false => exact wpAny_pure ⟨rfl, h₃⟩
    | true =>
      exact wpAny_bind (wpAny_bind (wpAny_mono h₃ (fun x s₄ h₄ => wpAny_bind (wpAny_mono h₄ (fun _ s₅ h₅ => wpAny_pure (wpAny_pure ⟨rfl, h₅⟩)) fun _ _ h' => h')) fun _ _ h' => h'))
noncomputable def EvT (X : Cx) (n : Nat) (D : FD) (σ : St) (ifs : List Expr) (b : Bool) : Prop :=
  ∀ A g fps s, AOk A n → R X.C D g σ fps s → wpF X A (forIn ifs true fun c r => if r = true then do let ok ← isTrue c D.env (eval c D.env); pure (ForInStep.yield ok) else pure (ForInStep.yield r)) (fun r s' => Kp s s' ∧ r = b) s
section
variable {X : Cx} {n : Nat} {D : FD} {σ : St} {Φ : AFl → St → Prop} {rest : List Stmt}
theorem EvT.nil : EvT X n D σ [] true := fun A g fps s _ _ => wpAny_tests_nil ⟨Kp.refl _, rfl⟩
theorem EvT.one {c : Expr} {b : Bool} (h : EvB X n D σ c b) : EvT X n D σ [c] b := fun A g fps s hA q => wpAny_tests_one (h A g fps s hA q)
theorem comp_core {scope : Scope} {target iter elt : Expr} {ifs : List Expr} {pos : Pos} {cap : List (Str × DV)} {xs : List IV} {J : St → Prop} (F : IV → Option DV) {A : Around} {g s : Shared} {fps : List (List Addr)} (hA : AOk A n) (q : R X.C D g σ fps s)
    (hI : EvI X n D σ target iter xs J) (hJ : J σ) (hlen : xs.length ≤ sizeLine) (hkind : scope.kind = .function) (hnd : (scope.names.map (·.1)).Nodup)
    (hcap : ∀ p ∈ cap, Cap D σ p.1 p.2 ∧ scope.names.lookup p.1 = some .free) (hfree : ∀ x ∈ scope.names, x.2 = .free → ∃ d, (x.1, d) ∈ cap)
    (turn : ∀ L z hp x, x ∈ xs → ∃ l, SubL (capL cap) l ∧ As X n (compD D scope L z) ⟨capL cap, hp⟩ target x ⟨l, hp⟩ ∧ match F x with
      | some d => EvT X n (compD D scope L z) ⟨l, hp⟩ ifs true ∧ EvF X n (compD D scope L z) ⟨l, hp⟩ elt d
      | none => EvT X n (compD D scope L z) ⟨l, hp⟩ ifs false)
    {use : Option (Value → Sem Unit)} {Q : Value → Shared → Prop}
    (hQ : ∀ a L fp s', Kp s s' → RepV s'.heap (.lst (xs.filterMap F)) (.ref a) fp → fp.Nodup → (∀ b ∈ fp, s.heap.get? b = none) → L ∉ fp → s.heap.get? L = none → (∃ m, s'.heap.Ns L m) →
      compPost (model X.prog X.w) A (fun _ _ => False) use Q (.ref a) L (.ok .next) s')
    (hs : ∀ x, foldedSetIterable iter D.env x = pure x := by intro _; rfl) :
    wpF X A (comprehension (.ListComp elt [⟨target, iter, ifs, 0⟩] scope pos) scope D.env (firstIterPos [⟨target, iter, ifs, 0⟩] pos) (newList []) false (eval iter D.env) use) Q s := by
  have hclos : closureFor scope D.env = pure (clos scope.names D.env.cells []) := closureFor_eq fun x hx hf => by
    obtain ⟨d, hd⟩ := hfree x hx hf
    obtain ⟨hc, _⟩ := hcap _ hd
    obtain ⟨v, hv⟩ : ∃ v, σ.loc.lookup x.1 = some v := by rcases hc.val with h | ⟨k, xs, h, _⟩ <;> exact ⟨_, h⟩
    obtain ⟨c, r, h1, _⟩ := q.cel x.1 v hv hc.kind
    rw [h1]; rfl
  refine wpAny_comprehension_free (g := ⟨target, iter, ifs, 0⟩) (gs := []) rfl hs hclos hkind (fun x hx hl => by have := lookup_of_nd hnd hx; rw [hl] at this; exact this) (wpF_mono (hI A g fps s hA q) fun xv s1 h1 => wpF_mono h1 fun it s2 hqx303 => ?_)
  obtain ⟨k2, II, It, fpI, wr, gx, e, W, it0, ho, hw, hg⟩ := hqx303
  subst e
  refine wpAny_newList ?_ (by decide)
  refine newEnvAround ?_
  generalize hs3 : ({ s2 with heap := s2.heap.push { cls := .type "list", data := .seq ([] : List Value).toArray } } : Shared) = s3
  have k23 : Kp s2 s3 := hs3 ▸ Kp.push _ _ _
  have k3 : Kp s s3 := k2.trans k23
  have ha3 : s3.heap.PlainList s2.heap.objs.size #[] := by subst hs3; exact ⟨0, Heap.get?_push_size _ rfl⟩
  have hafr : s.heap.get? s2.heap.objs.size = none := fresh_of_kp k2 fresh_push
  have hgen3 : s3.gens = s2.gens := by subst hs3; rfl
  have hsz3 : s3.heap.objs.size = s2.heap.objs.size + 1 := by subst hs3; simp
  have q4 := q.comp k3 hkind hnd hcap hfree
  generalize hs4 : ({ s3 with heap := pushCells (s3.heap.push { cls := .type "dict", data := .dict #[] }) scope.names } : Shared) = s4 at q4 ⊢
  have k34 : Kp s3 s4 := by subst hs4; exact Kp.of_heap fun b o e => pushCells_keeps _ _ b o (Heap.get?_push_of_some _ e)
  have hDeq : compEnv scope (clos scope.names D.env.cells []) s3.heap.objs.size D.env = { newEnv scope s3.heap.objs.size D.env.globals (cellsFrom (s3.heap.objs.size + 1) scope.names (clos scope.names D.env.cells [])) D.env.qual none .none (some D.env) builtinsNs with scope := relabel scope D.env } := rfl
  rw [← hDeq]
  generalize hL : s3.heap.objs.size = L at q4 ⊢
  have hab : s2.heap.objs.size ∉ ownOf (compD D scope L s.heap) [] := by
    subst hL
    intro hm
    have hm : s2.heap.objs.size ∈ s3.heap.objs.size :: ((cellsFrom (s3.heap.objs.size + 1) scope.names []).map (·.2) ++ []) := hm
    rw [List.append_nil] at hm
    rcases List.mem_cons.mp hm with e | hm
    · omega
    · obtain ⟨p, hp, e⟩ := List.mem_map.mp hm
      have ok := cellsFrom_ok scope.names (s3.heap.push { cls := .type "dict", data := .dict #[] }) (s3.heap.objs.size + 1) [] ⟨fun _ _ hm => (nomatch hm), List.Pairwise.nil⟩ (by rw [Heap.size_push]; exact Nat.le_refl _)
      rw [Heap.size_push] at ok
      have := (ok.empty p.1 p.2 hp).2
      have e' : p.2 = s2.heap.objs.size := e
      omega
  have hbig : ∀ b ∈ ownOf (compD D scope L s.heap) [], s2.heap.get? b = none := fun b hm => by
    subst hL
    have hm : b ∈ s3.heap.objs.size :: ((cellsFrom (s3.heap.objs.size + 1) scope.names []).map (·.2) ++ []) := hm
    rw [List.append_nil] at hm
    have : s3.heap.objs.size ≤ b := by
      rcases List.mem_cons.mp hm with rfl | hm
      · exact Nat.le_refl _
      · obtain ⟨p, hp, rfl⟩ := List.mem_map.mp hm
        have ok := cellsFrom_ok scope.names (s3.heap.push { cls := .type "dict", data := .dict #[] }) (s3.heap.objs.size + 1) [] ⟨fun _ _ hm => (nomatch hm), List.Pairwise.nil⟩ (by rw [Heap.size_push]; exact Nat.le_refl _)
        rw [Heap.size_push] at ok
        exact Nat.le_of_lt (ok.empty p.1 p.2 hp).2
    exact Heap.get?_none_of_le (by omega)
  have q5 := q4.adopt (o := .pl []) (fp := [s2.heap.objs.size]) (fun b hb => by rw [List.mem_singleton.mp hb]; exact ⟨hab, hafr⟩) (by simp) ⟨s2.heap.objs.size, [], [], rfl, (by obtain ⟨m, e⟩ := ha3; exact ⟨m, k34.hp _ _ e⟩), rfl, rfl⟩
  have hn2 : s2.heap.get? s2.heap.objs.size = none := fresh_push
  have hbig5 : ∀ b ∈ ownOf (compD D scope L s.heap) [[s2.heap.objs.size]], s2.heap.get? b = none := fun b hm => (own_app (fps := []) hm).elim (hbig b) fun h => by rw [List.mem_singleton.mp h]; exact hn2
  generalize s2.heap.objs.size = a at q5 hafr hab hbig5 ⊢
  have al2 := W.alive _ _ it0
  have ho5 : ∀ b ∈ fpI, b ∉ ownOf (compD D scope L s.heap) [[a]] := fun b hb hm => by
    obtain ⟨o, ho⟩ := al2 b hb
    rw [hbig5 b hm] at ho; cases ho
  have it4 := W.stay 0 s2 s4 it0 (fun b _ o e => (k23.trans k34).hp b o e) (fun i x e => (k23.trans k34).gens i x (by simp) e)
  have loop : codeAny (model X.prog X.w) A (.compLoop (.ListComp elt [⟨target, iter, ifs, 0⟩] scope pos) 0 (.ref II) (.ref a) (compEnv scope (clos scope.names D.env.cells []) L D.env)) (compPost (model X.prog X.w) A (fun _ _ => False) use Q (.ref a) L) s4 := by
    refine compLoop_any (fun m s' => ∃ j f, m = xs.length - j ∧ j ≤ xs.length ∧ It j s' ∧ R X.C (compD D scope L s.heap) s ⟨capL cap, [.pl ((xs.take j).filterMap F)]⟩ [a :: f] s' ∧ (∀ b ∈ fpI, b ∉ ownOf (compD D scope L s.heap) [a :: f]))
      (fun m s' ⟨j, f, hm, hj, hit, q', ho'⟩ => ?_) _ ⟨0, [], rfl, Nat.zero_le _, it4, by exact q5, ho5⟩
    have hdis : ∀ b ∈ wr, b ∉ ownOf (compD D scope L s.heap) [a :: f] ∧ s.heap.get? b = none := fun b hb => ⟨ho' b (W.sub b hb), hw b hb⟩
    refine wpF_mono (W.next g σ fps s' j (q.ext q'.keep) hJ (Fext.refl _) hit) fun o s6 hqx365 => ?_
    obtain ⟨k6, h6⟩ := hqx365
    have q6 := q'.extB k6 hdis hg
    cases hx : xs[j]? with
    | none =>
      rw [hx] at h6
      subst h6
      have hj' : j = xs.length := by rw [List.getElem?_eq_none_iff] at hx; (exact Nat.le_antisymm (by assumption) (by assumption))
      subst hj'
      rw [List.take_length] at q6
      refine Classical.byContradiction fun hnx => ?_
      (obtain ⟨vs, hp, hv⟩ := q6.getPl (k := 0) rfl rfl) <;> (refine hnx ?_; clear hnx)
      have hnd' := q6.nd
      unfold ownOf at hnd'
      rw [List.nodup_cons, List.nodup_append] at hnd'
      refine hQ a L (a :: f) s6 q6.keep ⟨a, vs, f, rfl, rfl, hp.isList, hv⟩ (by simpa using hnd'.2.2.1) (fun b hb => q6.fresh b (own_fps (by simpa using hb))) (fun hm => hnd'.1 (List.mem_append_right _ (show L ∈ [a :: f].flatten by simpa using hm))) (q6.fresh _ own_loc) ?_
      obtain ⟨m, hm, _⟩ := q6.ns
      exact ⟨m, hm⟩
    | some x =>
      rw [hx] at h6
      obtain ⟨r, rfl, h6⟩ := h6
      have hlt : j < xs.length := (List.getElem?_eq_some_iff.mp hx).1
      refine wpF_mono h6 fun _ s7 hqx386 => ?_
      refine Classical.byContradiction fun hnx => ?_
      (obtain ⟨k7, hit7, it7⟩ := hqx386) <;> (refine hnx ?_; clear hnx)
      have q7 := q6.extB k7 hdis hg
      refine Classical.byContradiction fun hnx => ?_
      (obtain ⟨l, hl, hAs, hF⟩ := turn L s.heap [.pl ((xs.take j).filterMap F)] x (List.mem_of_getElem? hx)) <;> (refine hnx ?_; clear hnx)
      obtain ⟨q7m, kg⟩ := q7.max
      refine wpF_mono (hAs A _ _ s7 r hA q7m hit7) fun _ s8 q8 => ?_
      have q8g := q8.back kg fun b o e => e
      have al7 := W.alive _ _ it7
      have it8 : It (j + 1) s8 := W.stay _ _ _ it7 (fun b hb o e => q8.keep.hp b o (by rw [maxg_get, if_neg (ho' b hb)]; exact e)) fun i x e => q8.keep.gens i x (by simp) e
      have ho8 : ∀ b ∈ fpI, ∃ o, s8.heap.get? b = some o := W.alive _ _ it8
      have hstep : (xs.take (j + 1)).filterMap F = (xs.take j).filterMap F ++ (F x).toList := by
        rw [List.take_add_one, hx, List.filterMap_append]
        cases hFx : F x <;> simp [hFx]
      cases hFx : F x with
      | none =>
        rw [hFx] at hF hstep
        refine wpF_mono (hF A _ _ s8 hA q8g) fun ok s9 hqx402 => ?_
        obtain ⟨k9, e9⟩ := hqx402
        subst e9
        simp only [Bool.false_eq_true, if_false]
        refine ⟨xs.length - (j + 1), Nat.lt_of_lt_of_eq (Nat.sub_lt_sub_left hlt (Nat.lt_succ_self j)) hm.symm, j + 1, f, rfl, hlt, W.stay _ _ _ it8 (fun b _ o e => k9.hp b o e) (fun i x e => k9.gens i x (by simp) e), ?_, ho'⟩
        rw [hstep]
        simpa using (q8g.ext k9).weak (σ' := ⟨capL cap, [.pl ((xs.take j).filterMap F)]⟩) hl.lookup rfl
      | some d =>
        rw [hFx] at hF hstep
        refine wpF_mono (hF.1 A _ _ s8 hA q8g) fun ok s9 hqx411 => ?_
        obtain ⟨k9, e9⟩ := hqx411
        subst e9
        simp only [if_true]
        have q9 := q8g.ext k9
        refine wpF_mono (hF.2 A _ _ s9 hA q9) fun v s10 hqx416 => ?_
        obtain ⟨k10, f2, h1, h2, h3⟩ := hqx416
        have q10 := q9.ext k10
        refine Classical.byContradiction fun hnx => ?_
        (obtain ⟨vs, hp, hv⟩ := q10.getPl (k := 0) rfl rfl) <;> (refine hnx ?_; clear hnx)
        have hlen' : ((xs.take j).filterMap F).length ≤ j := by
          refine Nat.le_trans (List.length_filterMap_le _ _) ?_
          exact List.length_take_le j xs
        refine wpAny_list_append_plain hp (fun h' hp' hs' => ?_) (by rw [List.size_toArray, hv.length]; exact Nat.le_trans hlen' (Nat.le_trans hj hlen))
        have h3' : ∀ b ∈ f2, b ∉ ownOf (compD D scope L s.heap) [a :: f] ∧ s.heap.get? b = none := fun b hb => ⟨fun hm => (by
          obtain ⟨o, ho⟩ := q9.alive b hm
          rw [h3 b hb] at ho
          exact (Option.some_ne_none _ ho.symm).elim), fresh_of_kp q9.keep (h3 b hb)⟩
        have q11 := q10.appended (k := 0) rfl hv h1 h2 h3' (t := s10.toks) hp' hs'
        have haI : a ∉ fpI := fun hm => ho' a hm (own_fps (by (exact .head _)))
        refine ⟨xs.length - (j + 1), Nat.lt_of_lt_of_eq (Nat.sub_lt_sub_left hlt (Nat.lt_succ_self j)) hm.symm, j + 1, f ++ f2, rfl, hlt, W.stay _ _ _ it8 (fun b hb o e => (hs'.2 b (fun hh => haI (hh ▸ hb))).trans ((k9.trans k10).hp b o e)) (fun i x e => (k9.trans k10).gens i x (by simp) e), ?_, fun b hb hm => ?_⟩
        · rw [hstep]
          exact q11.weak (σ' := ⟨capL cap, [.pl ((xs.take j).filterMap F ++ [d])]⟩) hl.lookup rfl
        · have hm : b ∈ ownOf (compD D scope L s.heap) [a :: f] ∨ b ∈ f2 := own_app2 hm
          rcases hm with hm | hm
          · exact ho' b hb hm
          · obtain ⟨o, ho⟩ := ho8 b hb
            have := k9.hp b o ho
            rw [h3 b hm] at this; cases this
  exact codeAny_compStart_list loop (wpAny_e (W.self A s4 0 _ it4 loop) fun _ _ h => h)
theorem EvF.comp {scope : Scope} {target iter elt : Expr} {ifs : List Expr} {pos : Pos} (cap : List (Str × DV)) {xs : List IV} {J : St → Prop} (F : IV → Option DV)
    (hI : EvI X n D σ target iter xs J) (hJ : J σ) (hlen : xs.length ≤ sizeLine) (hkind : scope.kind = .function) (hnd : (scope.names.map (·.1)).Nodup)
    (hcap : ∀ p ∈ cap, Cap D σ p.1 p.2 ∧ scope.names.lookup p.1 = some .free) (hfree : ∀ x ∈ scope.names, x.2 = .free → ∃ d, (x.1, d) ∈ cap)
    (turn : ∀ L z hp x, x ∈ xs → ∃ l, SubL (capL cap) l ∧ As X n (compD D scope L z) ⟨capL cap, hp⟩ target x ⟨l, hp⟩ ∧ match F x with
      | some d => EvT X n (compD D scope L z) ⟨l, hp⟩ ifs true ∧ EvF X n (compD D scope L z) ⟨l, hp⟩ elt d
      | none => EvT X n (compD D scope L z) ⟨l, hp⟩ ifs false)
    (hs : ∀ x, foldedSetIterable iter D.env x = pure x := by intro _; rfl) :
    EvF X n D σ (.ListComp elt [⟨target, iter, ifs, 0⟩] scope pos) (.lst (xs.filterMap F)) := fun A g fps s hA q => by
  refine comp_core (use := none) F hA q hI hJ hlen hkind hnd hcap hfree turn (fun a L fp s' k h1 h2 h3 h4 h5 hqx459 => ?_) hs
  obtain ⟨m, hm⟩ := hqx459
  refine ⟨m, hm, fun h' hs' => ⟨?_, fp, h1.mono fun b hb o e => (hs'.2 b (fun hh => h4 (hh ▸ hb))).trans e, h2, h3⟩⟩
  exact ⟨fun b o _ e => (hs'.2 b (fun hh => by subst hh; exact (Option.some_ne_none _ (e.symm.trans h5)).elim)).trans (k.hp b o e), fun i x _ e => k.gens i x (by (assumption)) e, k.bare, k.os⟩
theorem Ex.assignComp {scope : Scope} {target iter elt : Expr} {ifs : List Expr} {pos p spos : Pos} {x : Str} (cap : List (Str × DV)) {xs : List IV} {J : St → Prop} (F : IV → Option DV)
    (hI : EvI X n D σ target iter xs J) (hJ : J σ) (hlen : xs.length ≤ sizeLine) (hkind : scope.kind = .function) (hnd : (scope.names.map (·.1)).Nodup)
    (hcap : ∀ p ∈ cap, Cap D σ p.1 p.2 ∧ scope.names.lookup p.1 = some .free) (hfree : ∀ x ∈ scope.names, x.2 = .free → ∃ d, (x.1, d) ∈ cap)
    (turn : ∀ L z hp x, x ∈ xs → ∃ l, SubL (capL cap) l ∧ As X n (compD D scope L z) ⟨capL cap, hp⟩ target x ⟨l, hp⟩ ∧ match F x with
      | some d => EvT X n (compD D scope L z) ⟨l, hp⟩ ifs true ∧ EvF X n (compD D scope L z) ⟨l, hp⟩ elt d
      | none => EvT X n (compD D scope L z) ⟨l, hp⟩ ifs false)
    (hk : isOwnVar D x = true) (hsw : swapsWith (.ListComp elt [⟨target, iter, ifs, 0⟩] scope pos) (some (.Name x p)) spos.line D.env = pure true)
    (hr : Ex X n D rest (σ.put x (.lst (xs.filterMap F))) Φ)
    (hs : ∀ x, foldedSetIterable iter D.env x = pure x := by intro _; rfl) :
    Ex X n D (.Assign [.Name x p] (.ListComp elt [⟨target, iter, ifs, 0⟩] scope pos) spos :: rest) σ Φ := Ex.cons fun A g fps s hA q => by
  rw [exec_Assign_Name_used _ _ _ _ hsw]
  refine wpAny_bind (wpAny_standAt (wpAny_bind ?_))
  show wpAny _ A (do let _ ← comprehension (.ListComp elt [⟨target, iter, ifs, 0⟩] scope pos) scope D.env (firstIterPos [⟨target, iter, ifs, 0⟩] pos) (newList []) false (eval iter D.env) (some (PySem.assign (.Name x p) D.env))) _ _ s
  refine wpAny_bind (wpF_mono (comp_core (use := some (PySem.assign (.Name x p) D.env)) (Q := fun _ s' => Post X D g fps (Then X n D rest Φ) .next s') F hA q hI hJ hlen hkind hnd hcap hfree turn (fun a L fp s' k h1 h2 h3 h4 h5 hqx478 => ?_) hs) (fun _ s' hq => wpAny_pure (wpAny_pure hq)))
  obtain ⟨m, hm⟩ := hqx478
  have hLo : L ∉ ownOf D fps := fun hm' => by
    obtain ⟨o, ho⟩ := q.alive L hm'
    exact (Option.some_ne_none _ (ho.symm.trans h5)).elim
  have q1 := (q.ext k).adopt (o := .lst (xs.filterMap F)) (fp := fp) (fun b hb => ⟨fun hm' => (by obtain ⟨o, ho⟩ := q.alive b hm'; rw [h3 b hb] at ho; cases ho), fresh_of_kp q.keep (h3 b hb)⟩) h2 (by
    refine Classical.byContradiction fun hnx => ?_
    (obtain ⟨a', vs, fp', e1, e2, hl, hv⟩ := id h1) <;> (refine hnx ?_; clear hnx)
    cases e1
    exact ⟨a, fp', e2, h1⟩)
  refine Classical.byContradiction fun hnx => ?_
  (obtain ⟨a', vs, fp', e1, e2, hl, hv⟩ := id h1) <;> (refine hnx ?_; clear hnx)
  cases e1
  obtain ⟨q1m, kg⟩ := q1.max
  have hL1 : L ∉ ownOf D (fps ++ [fp]) := fun hm' => by
    exact (own_app hm').elim hLo h4
  show wpAny _ A (PySem.assign (.Name x p) D.env (.ref a)) _ _ _
  refine wpAny_assign_Name (q1m.store (v := .ref σ.hp.length) hk ⟨a, fp', by rw [q.len, List.getElem?_append_right (Nat.le_refl _)]; simp [e2], rfl⟩ fun s'' q2 => ?_)
  refine Classical.byContradiction fun hnx => ?_
  (obtain ⟨oL, es, ep, hoL, hdL, r1, r2⟩ := hm) <;> (refine hnx ?_; clear hnx)
  have hnsL : s''.heap.Ns L m := ⟨oL, es, ep, q2.keep.hp L oL (by rw [maxg_get, if_neg hL1]; exact hoL), hdL, r1, r2⟩
  refine ⟨m, hnsL, fun h' hs' => ?_⟩
  have q3 := q2.back kg fun b o e => q.zk b o e
  have q4 := q3.extB (fp := [L]) (gx := []) (s' := { s'' with heap := h' }) (KpB.of_heap fun b o hb e => (hs'.2 b (fun hh => hb (by rw [hh]; exact List.mem_singleton.mpr rfl))).trans e)
    (fun b hb => by rw [List.mem_singleton.mp hb]; exact ⟨hL1, fresh_of_kp q.keep h5⟩) (by simp)
  exact ⟨.next, _, _, q4, Fext.app _ _, rfl, hr⟩
end
end Mine
end
section
open PySem PySem.Calls PyProof.Rows
namespace Mine
section
variable {X : Cx} {n : Nat} {D : FD} {σ : St} {Φ : AFl → St → Prop} {rest : List Stmt}
theorem Itr.ofWalksT {A : Around} (hA : AOk A n) {J : St → Prop} {fps0 : List (List Addr)} {elts : List Expr} {k : Nat} {p : Pos} {I : Addr} {fp wr : List Addr} {Pt : Nat → Array Value → Prop} {It : Nat → Heap → Prop} {Mid : Nat → Addr → Heap → Prop} {xs : List IV}
    (W : WalksT X.prog X.w A I fp wr xs.length Pt It Mid) (hP : ∀ i vals y, xs[i]? = some y → Pt i vals → ∀ h T, h.IsTuple T vals → ItemAt h y (.ref T)) (hal : ∀ i h, It i h → ∀ a ∈ fp, ∃ o, h.get? a = some o)
    (wself : ∀ A (s : Shared) j (Q : Value → Shared → Prop), It j s.heap → Q (.ref I) s → wpF X A (pyIter (.ref I)) Q s) : Itr X A D J fps0 (.Tuple elts k p) I xs (fun i s => It i s.heap ∧ i ≤ xs.length) fp wr [] where
  next := fun g σ fps s j q hJ hF hit => by
    cases hx : xs[j]? with
    | some y =>
      have hlt : j < xs.length := (List.getElem?_eq_some_iff.mp hx).1
      refine W.item j s _ _ hlt hit.1 fun T vals h' tk hv hT ht hm hk => ⟨KpB.of_heap hk, .ref T, rfl, ?_⟩
      have hap := W.apart _ _ _ hm
      refine W.go elts k p j T _ _ _ hm fun h'' hit' hk' => ⟨KpB.of_heap hk', ?_, hit', hlt⟩
      refine hP j vals y hx hv _ _ ?_
      refine Classical.byContradiction fun hnx => ?_
      (obtain ⟨o, ho, r⟩ := ht) <;> (refine hnx ?_; clear hnx)
      exact ⟨o, hk' _ _ hap ho, r⟩
    | none =>
      have hlt : j = xs.length := by have := hit.2; rw [List.getElem?_eq_none_iff] at hx; (exact Nat.le_antisymm (by assumption) (by assumption))
      subst hlt
      exact W.done s _ _ hit.1 fun h' tk hk => ⟨KpB.of_heap hk, rfl⟩
  stay := fun j s s' hit hk _ => ⟨W.frame j _ _ hit.1 hk, hit.2⟩
  alive := fun j s hit => hal j _ hit.1
  sub := W.sub
  self := fun A s j Q hit hQ => wself A s j Q hit.1 hQ
noncomputable def enumIV (y : Str) : List IV := (y.cps.toList.zipIdx).map fun p => .two (.int p.2) (.str ⟨#[p.1]⟩)
noncomputable def EvP (X : Cx) (n : Nat) (D : FD) (σ : St) (e : Expr) (i : IV) : Prop :=
  ∀ A g fps s, AOk A n → R X.C D g σ fps s → wpF X A (eval e D.env) (fun r s' => Kp s s' ∧ ItemAt s'.heap i r) s
theorem EvP.tuple {e1 e2 : Expr} {k : Nat} {p : Pos} {a b : DV} (h : EvOs X n D σ [e1, e2] [a, b]) : EvP X n D σ (.Tuple [e1, e2] k p) (.two a b) := fun A g fps s hA q => by
  refine wpAny_Tuple_spliced (wpF_mono (h p A g fps s hA q) fun vs s1 hq1 => ?_)
  obtain ⟨k1, v1⟩ := hq1
  refine Classical.byContradiction fun hnx => ?_
  (obtain ⟨ra, rb, rfl, va, vb⟩ := two_args v1) <;> (refine hnx ?_; clear hnx)
  refine ⟨by show 2 ≤ sizeLine; decide, k1.trans (Kp.push _ _ _), s1.heap.objs.size, _, ra, rb, rfl, Heap.get?_push_size _ rfl, rfl, ⟨0, rfl⟩, va.keeps (Kp.push s1 _ s1.toks).hp, vb.keeps (Kp.push s1 _ s1.toks).hp⟩
theorem R.wake {C : Gl} {g s s' : Shared} {fps : List (List Addr)} (q : R C D g σ fps s) (hz : ∀ b o, D.z.get? b = some o → s'.heap.get? b = some o) (ho : ∀ b ∈ ownOf D fps, ∀ o, s.heap.get? b = some o → s'.heap.get? b = some o)
    (hb : AllBare s'.gens) : R C D (maxg D fps s') σ fps s' := by
  have hzo : ∀ b o, D.z.get? b = some o → b ∉ ownOf D fps := fun b o e hm => by
    have := q.zk b o e
    rw [q.fresh b hm] at this; cases this
  have hall : ∀ b, (b ∈ ownOf D fps ∨ ∃ o, D.z.get? b = some o) → ∀ o, s.heap.get? b = some o → s'.heap.get? b = some o := fun b h o e => by
    rcases h with h | ⟨o', h⟩
    · exact ho b h o e
    · have := q.keep.hp b o' (q.zk b o' h)
      obtain rfl := Option.some.inj (e.symm.trans this); exact hz b o h
  refine ⟨q.bs, fun b o e => ?_, ⟨fun b o _ e => ?_, fun _ _ _ e => e, fun e => e, rfl⟩, hb, q.fk, q.eg, q.eb, q.nd, fun a ha => ?_, ?_, fun y v e1 e2 => ?_, fun c hc => ?_, q.celo, q.cown, q.celi, q.len, fun i o f e1 e2 => ?_⟩
  · rw [maxg_get, if_neg (hzo b o e)]; exact hz b o e
  · rw [maxg_get] at e; split at e
    · exact (Option.some_ne_none _ e.symm).elim
    · exact e
  · rw [maxg_get, if_pos ha]
  · refine Classical.byContradiction fun hnx => ?_
    (obtain ⟨m, ⟨o, es, ep, ho', r⟩, b⟩ := q.ns) <;> (refine hnx ?_; clear hnx)
    exact ⟨m, ⟨o, es, ep, hall _ (.inl own_loc) _ ho', r⟩, b⟩
  · refine Classical.byContradiction fun hnx => ?_
    (obtain ⟨c, r, p1, ⟨o', ho', hd⟩, p3⟩ := q.cel y v e1 e2) <;> (refine hnx ?_; clear hnx)
    exact ⟨c, r, p1, ⟨o', hall c ((q.celo y c p1).imp own_cs id) _ ho', hd⟩, p3⟩
  · obtain ⟨v, o', ho', hd⟩ := q.csl c hc
    exact ⟨v, o', hall c (.inl (own_cs hc)) _ ho', hd⟩
  · exact (q.obj i o f e1 e2).mono fun a ha o' ho' => hall a (.inl (own_fps (mem_flatten_get e2 ha))) _ ho'
noncomputable def ghost (s : Shared) (W : List Addr) : Shared := { s with heap := eraseH s.heap W }
theorem ghost_get {s : Shared} {W : List Addr} {b : Addr} : (ghost s W).heap.get? b = if b ∈ W then none else s.heap.get? b := get?_erase ..
theorem ghost_kp {s s' : Shared} {W : List Addr} (k : Kp (ghost s W) s') : KpB W [] s s' :=
  ⟨fun b o hb e => k.hp b o (by rw [ghost_get, if_neg hb]; exact e), k.gens, k.bare, k.os⟩
theorem R.wakeG {C : Gl} {g s s' : Shared} {fps : List (List Addr)} {ei : List Addr} (q : R C D g σ fps s) (hz : ∀ b o, D.z.get? b = some o → s'.heap.get? b = some o) (ho : ∀ b ∈ ownOf D fps, ∀ o, s.heap.get? b = some o → s'.heap.get? b = some o)
    (hb : AllBare s'.gens) (he : ∀ b ∈ ei, D.z.get? b = none) : R C D (ghost s' (ownOf D fps ++ ei)) σ fps s' := by
  have h := q.wake hz ho hb
  refine h.back ⟨fun b o _ e => ?_, fun _ _ _ e => e, id, rfl⟩ fun b o e => ?_
  · rw [ghost_get] at e
    split at e
    · exact (Option.some_ne_none _ e.symm).elim
    · rename_i hn
      rw [maxg_get, if_neg fun hm => hn (List.mem_append_left _ hm)]; exact e
  · rw [ghost_get, if_neg fun hm => ?_]
    · exact hz b o e
    · rcases List.mem_append.mp hm with hm | hm
      · have := q.zk b o e
        rw [q.fresh b hm] at this; cases this
      · rw [he b hm] at e; cases e
theorem R.zsmall {C : Gl} {E : Env} {cs : List Addr} {oc : List Str} {z z' : Heap} {g s : Shared} {fps : List (List Addr)} (q : R C ⟨E, cs, oc, z⟩ g σ fps s) (hb : Bs C z') (hz : ∀ b o, z'.get? b = some o → z.get? b = some o)
    (hc : E.cells = []) (hv : ∀ y v, σ.loc.lookup y = some v → ∃ d, v = .dv d ∧ d.sc = true) : R C ⟨E, cs, oc, z'⟩ g σ fps s where
  bs := hb
  zk := fun b o e => q.zk b o (hz b o e)
  keep := q.keep
  bare := q.bare
  fk := q.fk
  eg := q.eg
  eb := q.eb
  nd := q.nd
  fresh := q.fresh
  ns := by
    obtain ⟨m, a, b⟩ := q.ns
    refine ⟨m, a, fun y v e1 e2 => ?_⟩
    refine Classical.byContradiction fun hnx => ?_
    (obtain ⟨r, h1, h2⟩ := b y v e1 e2) <;> (refine hnx ?_; clear hnx)
    obtain ⟨d, rfl, hd⟩ := hv y v e1
    obtain ⟨f, h2⟩ := h2
    exact ⟨r, h1, [], (h2.sc_heap hd).1⟩
  cel := fun y v e1 e2 => by
    refine Classical.byContradiction fun hnx => ?_
    (obtain ⟨c, r, p1, _⟩ := q.cel y v e1 e2) <;> (refine hnx ?_; clear hnx)
    have p1 : E.cells.lookup y = some c := p1
    rw [hc] at p1; cases p1
  csl := q.csl
  celo := fun y c e => by
    have e : E.cells.lookup y = some c := e
    rw [hc] at e; cases e
  cown := q.cown
  celi := q.celi
  len := q.len
  obj := q.obj
variable {A : Around} {RE : GenEnd} {Y : Protocol} {m : Nat} {s₀ s : Shared} {c : Code} {fs : List Frame} {K : Flow → Sem Fin} {H : Value → Sem Fin} {gd : Bool → Bool} {lv : List Value → List Value} {env : Env}
theorem seg_stmt {st : Stmt} {rest : List Stmt} (h : wpF X (A.over c fs) (exec st env) (fun f s' => f = .next ∧ Seg (model X.prog X.w) A RE Y m s₀ c ((execs rest env).wrap K H gd lv) fs s') s) :
    Seg (model X.prog X.w) A RE Y m s₀ c ((execs (st :: rest) env).wrap K H gd lv) fs s :=
  seg_execs_cons (seg_wrap (wpAny_mono h (fun f s' hqp => by obtain ⟨e, x⟩ := hqp; subst e; exact x) fun _ _ x => x.elim))
theorem seg_If {test : Expr} {body orelse : List Stmt} {pos : Pos} (h : wpF X (A.over c fs) (isTrue test env (eval test env)) (fun b s' => if b = true then Seg (model X.prog X.w) A RE Y m s₀ c ((execs body env).wrap K H gd lv) fs s'
      else Seg (model X.prog X.w) A RE Y m s₀ c ((execs orelse env).wrap K H gd lv) fs s') s) :
    Seg (model X.prog X.w) A RE Y m s₀ c ((exec (.If test body orelse pos) env).wrap K H gd lv) fs s := by
  rw [exec_If]
  refine seg_bind_wrap (wpAny_standAt (seg_bind_wrap (wpAny_mono h (fun b s' hb => ?_) fun _ _ x => x.elim)))
  cases b with
  | true => exact hb
  | false => exact hb
theorem seg_For {target iter : Expr} {body orelse : List Stmt} {pos : Pos} (hs : ∀ x, foldedSetIterable iter env x = pure x)
    (h : wpF X (A.over c fs) (eval iter env) (fun x s1 => wpF X (A.over c fs) (pyIter x) (fun it s2 => ∀ p, Seg (model X.prog X.w) A RE Y m s₀ (.forLoop target it body orelse env) ((model X.prog X.w).den (.forLoop target it body orelse env))
      (.ret (fun r => ((match r with | .ok f => (.pure f : Sem Flow) | .error e => .raise e).onRaise fun (x : Value) => do
        if (← field x 1) == Value.none then unsupported "frame.own-activation:exception-without-traceback"
        setFlight x env.frame).wrap K H gd lv) none (gd false) (lv []) c p [] :: fs) s2) s1) s) :
    Seg (model X.prog X.w) A RE Y m s₀ c ((exec (.For target iter body orelse pos) env).wrap K H gd lv) fs s := by
  rw [exec_For]
  refine seg_bind_wrap (wpAny_standAt (seg_bind_wrap (wpAny_mono h (fun x s1 h1 => seg_bind_wrap (wpAny_of_eq (hs x) (seg_bind_wrap (wpAny_standAt (seg_bind_wrap (wpAny_holding
    (wpAny_mono h1 (fun it s2 h2 => ?_) fun _ _ x => x.elim))))))) fun _ _ x => x.elim)))
  exact seg_call h2
theorem seg_forLoop {target : Expr} {it : Value} {body : List Stmt} (h : wpF X (A.over (.forLoop target it body [] env) fs) (pyNext it) (fun o s1 => match o with
      | none => Seg (model X.prog X.w) A RE Y m s₀ (.block [] env) (leafOf (.ok .next)) fs s1
      | some v => wpF X (A.over (.forLoop target it body [] env) fs) (letOwnedTupleGo target it v) (fun _ s2 => wpF X (A.over (.forLoop target it body [] env) fs) (assign target env v) (fun _ s3 =>
          Seg (model X.prog X.w) A RE Y m s₀ (.forLoop target it body [] env) ((execs body env).wrap (fun f => match f with
            | .next | .cont => .pure (.again (.forLoop target it body [] env))
            | .brk => .pure (.done .next)
            | .ret v => .pure (.done (.ret v))) (fun e => (do noteFrame e env; theTreesLotGoes e : Sem Unit).wrap (fun _ => .raise e) .raise id id) id id) fs s3) s2) s1) s) :
    Seg (model X.prog X.w) A RE Y m s₀ (.forLoop target it body [] env) ((model X.prog X.w).den (.forLoop target it body [] env)) fs s := by
  show Seg _ A RE Y m s₀ _ ((forTurn target it body [] env).onRaise (fun x => do noteFrame x env; theTreesLotGoes x)) fs s
  unfold forTurn
  rw [Sem.onRaise_eq_wrap]
  refine seg_bind_wrap (wpAny_standAt (seg_bind_wrap (wpAny_onRaise (wpAny_mono h (fun o s1 h1 => ?_) fun _ _ x => x.elim))))
  cases o with
  | none =>
    refine seg_again rfl ?_
    exact h1
  | some v =>
    refine seg_bind_wrap (wpAny_mono h1 (fun _ s2 h2 => seg_bind_wrap (wpAny_mono h2 (fun _ s3 h3 => ?_) fun _ _ x => x.elim)) fun _ _ x => x.elim)
    rw [Sem.bind_eq_wrap', Sem.wrap_wrap]
    rw [Sem.wrap_congr (execs body env) _ _ (K' := fun f => match f with
            | .next | .cont => .pure (.again (.forLoop target it body [] env))
            | .brk => .pure (.done .next)
            | .ret v => .pure (.done (.ret v))) (H' := (fun e => (do noteFrame e env; theTreesLotGoes e : Sem Unit).wrap (fun _ => .raise e) .raise id id))
        (fun f => by cases f <;> rfl)
        (fun e => by first | exact Sem.bind_eq_wrap _ _ | (show (do noteFrame e env; theTreesLotGoes e : Sem Unit).bind (fun _ => .raise e) = _; rw [Sem.bind_eq_wrap]))]
    exact h3
noncomputable def gR (W : List Addr) : GenEnd := fun n s₀ r s₁ => r = .ok (.ret .none) ∧ n = 0 ∧ KpB W [] s₀ s₁
noncomputable def gY (z : Heap) (W : List Addr) (items : List IV) : Protocol := fun m s₀ v s kap =>
  (∃ x, items[items.length - 1 - m]? = some x ∧ ItemAt s.heap x v) ∧ KpB W [] s₀ s ∧ (∀ b ∈ W, ∃ o, s.heap.get? b = some o) ∧
    ∀ s'' : Shared, (∀ b ∈ W, ∀ o, s.heap.get? b = some o → s''.heap.get? b = some o) → (∀ b o, z.get? b = some o → s''.heap.get? b = some o) → AllBare s''.gens → kap (.send .none) s''
theorem pyNext_gen {A : Around} {s : Shared} {a : Addr} {g n : Nat} {gs : GenState} {P : Nat → Shared → Shared → Prop} {Y : Protocol} {Q : Option Value → Shared → Prop} (hh : A.handled = none)
    (hl : s.heap.NoLimit) (hroom : A.depth < recursionLimit)
    (hg : s.heap.IsGen a g) (hgs : s.gens[g]? = some gs)
    (hgo : gs.Goes (model X.prog X.w) A.in1 (fun n s₀ r s₁ => r = .ok (.ret .none) ∧ P n s₀ s₁) Y n (.send .none) (s.setGen g .running))
    (hY : ∀ v s₁ gs', gs'.bare = true → Y (n - 1) (s.setGen g .running) v s₁ (fun r' s'' => match n with
        | 0 => False
        | m + 1 => gs'.Goes (model X.prog X.w) A.in1 (fun n s₀ r s₁ => r = .ok (.ret .none) ∧ P n s₀ s₁) Y m r' s'') → Q (some v) (s₁.setGen g gs'))
    (hP : ∀ s₁, P n (s.setGen g .running) s₁ → ∀ h', (∀ b o, s₁.heap.get? b = some o → h'.get? b = some o) → Q none { s₁.setGen g .finished with heap := h' }) :
    wpF X A (pyNext (.ref a)) Q s := by
  unfold pyNext
  refine wpAny_bind (wpAny_attempt (wpAny_callSpecial?_slot (name := Str.ofString "__next__") hg.typeIs slot_gen_next
    (wpAny_call_entry slot_gen_next hg.typeIs entry_gen_next ?_ (args_gen_next _))))
  show wpAny _ A.in1 (Builtin.Generator.genWake (.ref a) (.send .none)) _ _ s
  unfold Builtin.Generator.genWake
  refine wpAny_bind (wpAny_holding (wpAny_genNumber hg (wpAny_bind (wpAny_genState hgs ?_))))
  cases gs with
  | running => exact hgo.elim
  | finished => exact hgo.elim
  | _ =>
    refine wpAny_bind (wpAny_roomToWake hl hroom ?_)
    show wpAny _ A.in1 (.resume g (.send .none) [] _) _ _ s
    refine wpAny_resumeQ hgs hgo (fun x s₁ hx => ?_) (fun v s₁ gs' hb hv => ?_)
    · obtain ⟨rfl, hp⟩ := hx
      show wpAny _ A.in1 (newExc (.type "StopIteration") [] >>= _) _ _ _
      refine wpAny_bind ?_
      simp only [newExc, newTuple]
      refine wpAny_bind (wpAny_newObj_type ?_ (by size_fits))
      refine wpAny_bind (m := firstArgMember _ _) (wpAny_of_eq (a := Value.none) (by first | rfl | (simp only [firstArgMember]; rfl)) ?_)
      refine wpAny_newObj_type ?_ (by size_fits)
      dsimp only [raiseNew]
      refine wpAny_bind (wpAny_bind (wpAny_handled ?_))
      first | rw [show A.in1.handled = none from hh] | rw [hh]
      refine wpAny_throw ?_
      refine wpAny_bind (wpAny_isInstance (T := "StopIteration") (b := true) ⟨_, Heap.get?_push_size _ rfl, rfl⟩ isSubtype_stop ?_)
      exact wpAny_pure (hP s₁ hp _ fun b o hb => Heap.get?_push_of_some _ (Heap.get?_push_of_some _ hb))
    · exact wpAny_pure ⟨v, rfl, wpAny_pure (hY v s₁ gs' hb hv)⟩
theorem setGen_kp {s s₁ : Shared} {W : List Addr} {g : Nat} {gs' : GenState} (hb : gs'.bare = true) (k : KpB W [] (s.setGen g .running) s₁) : KpB W [g] s (s₁.setGen g gs') where
  heap := fun b o hb e => k.heap b o hb e
  gens := fun i x hi e => by
    have hi : i ≠ g := fun h => hi (by simp [h])
    have e1 : (s.setGen g .running).gens[i]? = some x := by simp [Shared.setGen, Ne.symm hi, e]
    have := k.gens i x (by simp) e1
    simp [Shared.setGen, Ne.symm hi, this]
  bare := fun h => by
    have h1 : AllBare (s.setGen g .running).gens := fun y hy => by
      have hy : y ∈ s.gens.setIfInBounds g .running := by simpa [Shared.setGen] using hy
      rcases Array.mem_or_eq_of_mem_setIfInBounds hy with h' | h'
      · exact h y h'
      · subst h'; rfl
    have h2 := k.bare h1
    intro y hy
    have hy : y ∈ s₁.gens.setIfInBounds g gs' := by simpa [Shared.setGen] using hy
    rcases Array.mem_or_eq_of_mem_setIfInBounds hy with h' | h'
    · exact h2 y h'
    · subst h'; exact hb
  os := k.os
theorem setGen_bare {s : Shared} {g : Nat} (h : AllBare s.gens) : AllBare (s.setGen g .running).gens := fun y hy => by
  have hy : y ∈ s.gens.setIfInBounds g .running := by simpa [Shared.setGen] using hy
  rcases Array.mem_or_eq_of_mem_setIfInBounds hy with h' | h'
  · exact h y h'
  · subst h'; rfl
noncomputable def zAlive (z : Heap) : List Addr := (List.range z.objs.size).filter fun b => (z.get? b).isSome
theorem mem_zAlive {z : Heap} {b : Addr} : b ∈ zAlive z ↔ ∃ o, z.get? b = some o := by
  unfold zAlive
  rw [List.mem_filter, List.mem_range, Option.isSome_iff_exists]
  exact ⟨fun h => h.2, fun h => ⟨by obtain ⟨o, e⟩ := h; exact Heap.lt_size e, h⟩⟩
inductive GAt (X : Cx) (A : Around) (z : Heap) (L a : Addr) (g : Nat) (items : List IV) (j : Nat) (fp wr : List Addr) (s : Shared) : Prop
  | mk (ei : List Addr) (h1 : fp = a :: L :: (ei ++ zAlive z)) (h2 : wr = L :: ei) (h3 : a ∉ L :: ei) (h4 : ∀ b ∈ L :: ei, z.get? b = none) (h5 : s.heap.IsGen a g) (h6 : ∀ b o, z.get? b = some o → s.heap.get? b = some o) (h7 : ∀ b ∈ L :: ei, ∃ o, s.heap.get? b = some o) (h8 : j ≤ items.length) (gs : GenState) (h9 : s.gens[g]? = some gs)
    (h10 : ∀ s'' : Shared, AllBare s''.gens → (∀ b ∈ fp, ∀ o, s.heap.get? b = some o → s''.heap.get? b = some o) →
      ∃ ei', (∀ b ∈ ei', b ∈ ei ∨ s''.heap.get? b = none) ∧ gs.Goes (model X.prog X.w) A.in1 (gR (L :: ei')) (gY z (L :: ei') items) (items.length - j) (.send .none) s'')
theorem KpB.narrow {W W' : List Addr} {gx : List Nat} {s s' : Shared} (k : KpB W gx s s') (h : ∀ b ∈ W, b ∈ W' ∨ s.heap.get? b = none) : KpB W' gx s s' :=
  ⟨fun b o hb e => k.heap b o (fun hm => (h b hm).elim hb fun h => by exact (Option.some_ne_none _ (e.symm.trans h)).elim) e, k.gens, k.bare, k.os⟩
theorem ItrD.ofGen {A : Around} (hA : AOk A n) {J : St → Prop} {fps0 : List (List Addr)} {ts : List Expr} {tk : Nat} {tp : Pos} {L a : Addr} {g : Nat} {items : List IV} (hb : Bs X.C D.z) (ha : a ∉ zAlive D.z) (haL : a ≠ L) (hL : L ∉ zAlive D.z) :
    ItrD X A D J fps0 (.Tuple ts tk tp) a items (GAt X A D.z L a g items) [g] where
  next := fun gg σ fps s j fp wr q hJ hF hit => by
    obtain ⟨ei, rfl, rfl, hae, hez, hg, hz, hal, hj, gs, hgs, hgo⟩ := hit
    refine Classical.byContradiction fun hnx => ?_
    (obtain ⟨ei', hei, hgo⟩ := hgo (s.setGen g .running) (setGen_bare q.bare) fun b _ o e => e) <;> (refine hnx ?_; clear hnx)
    have hei : ∀ b ∈ ei', b ∈ ei ∨ s.heap.get? b = none := hei
    refine Classical.byContradiction fun hnx => ?_
    (obtain ⟨og, nm, qn, hog, hogr⟩ := id hg) <;> (refine hnx ?_; clear hnx)
    have hnar : ∀ b ∈ L :: ei', b ∈ L :: ei ∨ s.heap.get? b = none := fun b hb => by
      rcases List.mem_cons.mp hb with rfl | hb
      · exact .inl List.mem_cons_self
      · exact (hei b hb).imp (List.mem_cons_of_mem _) id
    have hae' : a ∉ L :: ei' := fun hm => (hnar a hm).elim hae fun h => by rw [hog] at h; cases h
    have hlet : ∀ (v : Value) (s' : Shared) (Q : Unit → Shared → Prop), s'.heap.IsGen a g → Q () s' → wpF X A (letOwnedTupleGo (.Tuple ts tk tp) (.ref a) v) Q s' := fun v s' Q hqp hQ => by
      obtain ⟨o, nm, qn, ho, hc, hd, _⟩ := hqp
      cases v with
      | ref T =>
        refine wpAny_bind (wpAny_load ho ?_)
        rw [hc, hd]
        exact wpAny_pure hQ
      | _ => exact wpAny_pure hQ
    refine pyNext_gen (P := fun n s₀ s₁ => n = 0 ∧ KpB (L :: ei') [] s₀ s₁) hA.1 q.z.nolim hA.room hg hgs hgo (fun v s₁ gs' hb hv => ?_) (fun s₁ hp h' hk => ?_)
    · refine Classical.byContradiction fun hnx => ?_
      (obtain ⟨⟨x, hx, hv⟩, k1, hal', hkap⟩ := hv) <;> (refine hnx ?_; clear hnx)
      have k2 := setGen_kp hb k1
      have hez' : ∀ b ∈ L :: ei', D.z.get? b = none := fun b hb => (hnar b hb).elim (hez b) fun h => by
        cases e : D.z.get? b with
        | none => rfl
        | some o => rw [hz b o e] at h; cases h
      have hzk : ∀ b o, D.z.get? b = some o → s₁.heap.get? b = some o := fun b o e => k1.heap b o (fun hm => by rw [hez' b hm] at e; cases e) (hz b o e)
      cases hn : items.length - j with
      | zero =>
        rw [hn] at hkap
        exact (hkap s₁ (fun _ _ _ e => e) hzk (k1.bare (setGen_bare q.bare))).elim
      | succ m =>
        rw [hn] at hkap hx
        have hjx : items[j]? = some x := by
          have : items.length - 1 - (m + 1 - 1) = j := by omega
          rw [this] at hx; exact hx
        have hg' : (s₁.setGen g gs').heap.IsGen a g := ⟨og, nm, qn, k1.heap a og hae' hog, hogr⟩
        refine ⟨k2.narrow hnar, ?_⟩
        rw [hjx]
        refine ⟨v, rfl, hlet _ _ _ hg' ⟨KpB.refl _, hv, a :: L :: (ei' ++ zAlive D.z), L :: ei', ⟨ei', rfl, rfl, hae', hez', hg', hzk, hal', by omega, gs', ?_, fun s'' h1 h2 => ⟨ei', fun b hb => .inl hb, ?_⟩⟩, fun b hb => ?_, hnar⟩⟩
        · have hlt : g < s.gens.size := by
            rcases Nat.lt_or_ge g s.gens.size with h' | h'
            · exact h'
            · rw [Array.getElem?_eq_none h'] at hgs; cases hgs
          have h1 : (s.setGen g .running).gens[g]? = some .running := by simp [Shared.setGen, hlt]
          have := k1.gens g _ (by simp) h1
          exact setGen_self this
        · have : items.length - (j + 1) = m := by omega
          rw [this]
          refine hkap s'' (fun b hb o e => h2 b ?_ o e) (fun b o e => h2 b ?_ o (hzk b o e)) h1
          · rcases List.mem_cons.mp hb with rfl | hb
            · (exact .tail _ (.head _))
            · simp [hb]
          · exact List.mem_cons_of_mem _ (List.mem_cons_of_mem _ (List.mem_append_right _ (mem_zAlive.mpr ⟨o, e⟩)))
        · rcases List.mem_cons.mp hb with rfl | hb
          · simp
          rcases List.mem_cons.mp hb with rfl | hb
          · simp
          rcases List.mem_append.mp hb with hb | hb
          · rcases hei b hb with h | h
            · exact .inl (by simp [h])
            · exact .inr h
          · exact .inl (by simp [hb])
    · refine Classical.byContradiction fun hnx => ?_
      (obtain ⟨h0, k1⟩ := hp) <;> (refine hnx ?_; clear hnx)
      have hjl : items[j]? = none := by rw [List.getElem?_eq_none_iff]; omega
      rw [hjl]
      have k2 := (setGen_kp (gs' := .finished) rfl k1).narrow hnar
      exact ⟨⟨fun b o hb e => hk b o (k2.heap b o hb e), k2.gens, k2.bare, k2.os⟩, rfl⟩
  stay := fun j fp wr s s' hit hk hg' => by
    obtain ⟨ei, rfl, rfl, hae, hez, ⟨o, nm, qn, ho, hr⟩, hz, hal, hj, gs, hgs, hgo⟩ := hit
    refine ⟨ei, rfl, rfl, hae, hez, ⟨o, nm, qn, hk a (by (exact .head _)) o ho, hr⟩, fun b o e => hk b (List.mem_cons_of_mem _ (List.mem_cons_of_mem _ (List.mem_append_right _ (mem_zAlive.mpr ⟨o, e⟩)))) o (hz b o e), fun b hb => ?_, hj, gs, hg' g gs hgs, fun s'' h1 h2 => ?_⟩
    · obtain ⟨o, ho⟩ := hal b hb
      refine ⟨o, hk b ?_ o ho⟩
      rcases List.mem_cons.mp hb with rfl | hb
      · (exact .tail _ (.head _))
      · simp [hb]
    · refine hgo s'' h1 fun b hb o e => h2 b hb o (hk b hb o e)
  alive := fun j fp wr s hit b hb => by
    refine Classical.byContradiction fun hnx => ?_
    (obtain ⟨ei, rfl, rfl, hae, hez, ⟨o, nm, qn, ho, hr⟩, hz, hal, hj, gs, hgs, hgo⟩ := hit) <;> (refine hnx ?_; clear hnx)
    rcases List.mem_cons.mp hb with rfl | hb
    · exact ⟨o, ho⟩
    rcases List.mem_cons.mp hb with rfl | hb
    · exact hal _ List.mem_cons_self
    rcases List.mem_append.mp hb with hb | hb
    · exact hal _ (List.mem_cons_of_mem _ hb)
    · obtain ⟨o, e⟩ := mem_zAlive.mp hb
      exact ⟨o, hz b o e⟩
  sub := fun j fp wr s hit b hb => by
    refine Classical.byContradiction fun hnx => ?_
    (obtain ⟨ei, rfl, rfl, _⟩ := hit) <;> (refine hnx ?_; clear hnx)
    rcases List.mem_cons.mp hb with rfl | hb
    · (exact .tail _ (.head _))
    · simp [hb]
end
end Mine
end
section
open PySem PySem.Calls PyProof.Rows
namespace Mine
section
variable {X : Cx} {n : Nat} {D : FD} {σ : St} {Φ : AFl → St → Prop} {rest : List Stmt}
noncomputable def genD (st : Stmt) (pm cd doc : Value) (L a : Addr) (z : Heap) : FD := ⟨callEnvC (dFd st pm cd doc) L a, [], [], z⟩
theorem EvID.gen {J : St → Prop} {ts : List Expr} {tk : Nat} {tp : Pos} {x : Str} {p pos : Pos} {es : List Expr} {e : Expr} {a : Addr} {st : Stmt} {pm cd doc : Value} {args : List DV} {items : List IV} (hk : D.env.kindOf x = some .globalImplicit) (hv : X.C.tab.lookup x = some (.ref a)) (hf : FnAt X a st pm cd doc) (names : List Str)
    (hsc : ∀ d ∈ args, d.sc = true) (ha : EvOs X (n + 1) D σ (e :: es) args)
    (hbind : ∀ vals : List Value, vals.length = args.length → bindArgs (dFd st pm cd doc) ⟨vals, []⟩ = pure (names.zip vals)) (hkind : ∀ x ∈ names, (dScope st).names.lookup x = some .local)
    (hfree : ∀ x ∈ (dScope st).names, x.2 ≠ .free) (hnd : ((dScope st).names.map (·.1)).Nodup) (hcl : ∀ k, cellsFrom k (dScope st).names [] = []) (hoc : (((dScope st).names.filter fun x => x.2 == .cell).map (·.1)) = []) (hco : (dScope st).isCoroutine = false) (hgen : (dScope st).isGenerator = true) (hkd : (dScope st).kind = .function)
    (hseg : ∀ L z A s, AOk A (n + 1) → R X.C (genD st pm cd doc L a z) (ghost s (L :: [s.heap.objs.size + 1, s.heap.objs.size])) ⟨(names.zip (args.map AV.dv)).reverse, []⟩ [] s →
      Seg (model X.prog X.w) A.in1 (gR (L :: [s.heap.objs.size + 1, s.heap.objs.size])) (gY z (L :: [s.heap.objs.size + 1, s.heap.objs.size]) items) items.length s (.func (dBody st) (genD st pm cd doc L a z).env) ((model X.prog X.w).den (.func (dBody st) (genD st pm cd doc L a z).env)) [] s)
    (hd : (x == ("__debug__" : Str)) = false := by decide) (he : ∀ env, starEach (e :: es) env = (false, eval e env) :: starEach es env := by intro _; rfl)
    (hc : ∀ env, eval (.Call (.Name x p) (e :: es) [] pos) env = (do callWith pos (← eval (.Name x p) env) [] (backTo pos (starEach (e :: es) env)) (backToKw pos (keywordEach [] env))) := by intro _; rfl) :
    EvID X (n + 1) D σ (.Tuple ts tk tp) (.Call (.Name x p) (e :: es) [] pos) items J := fun A g fps s hA q => by
  refine Call_ (q.global (X := X) hk hv ?_ hd) (hc _)
  refine Classical.byContradiction fun hnx => ?_
  (obtain ⟨⟨o, ho, hfd⟩, hcode⟩ := hf) <;> (refine hnx ?_; clear hnx)
  refine callWith_def (o := o) (fd := dFd st pm cd doc) hfd (wpF_mono (ha pos A g fps s hA q) fun vs s1 hqx22 => ?_) (he _)
  obtain ⟨k1, v1⟩ := hqx22
  have q1 := q.ext k1
  refine ⟨q1.z.held _ ho, wpAny_call (codeAny_call_generator hA.room (q1.z.held _ ho) hfd hco hgen rfl (hcode _ q1.z) ?_)⟩
  rw [hbind vs v1.length]
  refine wpAny_pure ?_
  show wpAny _ _ (newFunctionEnv (dScope st) mainGlobals [] (names.zip vs) (dName st ++ ".<locals>.") (some a) cd none builtinsNs) _ _ s1
  refine wpAny_newFunctionEnv_cells hkd (fun y hy => .inl (hkind _ (List.of_mem_zip (a := y.1) (b := y.2) hy).1)) fun env henv s2 xc => ?_
  have henv : env = callEnvC (dFd st pm cd doc) s1.heap.objs.size a := henv
  subst henv
  have q2 := R.start (fd := dFd st pm cd doc) (a := a) (names := names) q1.z q1.bare v1 rfl rfl hkd hfree hnd xc
  have hfn : fnD (dFd st pm cd doc) s1.heap.objs.size a s1.heap = genD st pm cd doc s1.heap.objs.size a s1.heap := by
    unfold fnD genD
    have e1 : cellsFrom (s1.heap.objs.size + 1) (dFd st pm cd doc).scope.names [] = [] := hcl _
    have e2 : (((dFd st pm cd doc).scope.names.filter fun x => x.2 == .cell).map (·.1)) = [] := hoc
    rw [e1, e2]; rfl
  rw [hfn] at q2
  have hzs : ∀ b o, D.z.get? b = some o → s1.heap.get? b = some o := fun b o e => q1.keep.hp b o (q1.zk b o e)
  have q3 : R X.C (genD st pm cd doc s1.heap.objs.size a D.z) s1 ⟨(names.zip (args.map AV.dv)).reverse, []⟩ [] s2 := by
    refine R.zsmall q2 q1.bs hzs (hcl _) fun y v e1 => ?_
    have hm := mem_of_lookup e1
    rw [List.mem_reverse] at hm
    have := (List.of_mem_zip (a := y) (b := v) hm).2
    obtain ⟨d, hd, rfl⟩ := List.mem_map.mp this
    exact ⟨d, rfl, hsc d hd⟩
  refine ⟨q2.z.nolim, ?_⟩
  have hLz : D.z.get? s1.heap.objs.size = none := by
    cases e : D.z.get? s1.heap.objs.size with
    | none => rfl
    | some o => exact absurd (Heap.lt_size (hzs _ _ e)) (Nat.lt_irrefl _)
  have hLs : s1.heap.objs.size < s2.heap.objs.size := by
    obtain ⟨o, ho⟩ := q3.alive _ (own_loc (D := genD st pm cd doc s1.heap.objs.size a D.z))
    exact Heap.lt_size ho
  have haz : D.z.get? s2.heap.objs.size = none := by
    cases e : D.z.get? s2.heap.objs.size with
    | none => rfl
    | some o => exact absurd (Heap.lt_size (hzs _ _ e)) (Nat.not_lt.mpr (Nat.le_of_lt hLs))
  have hgs : s2.gens = s1.gens := by obtain ⟨h', tk, rfl⟩ := xc.toInCall.same; rfl
  have hpush : ∀ b o, s2.heap.get? b = some o → (s2.heap.push { cls := .type "generator", data := .fields #[.int s2.gens.size 0, .str (dFd st pm cd doc).name s2.toks, .str (dFd st pm cd doc).qualname (s2.toks + 1)] }).get? b = some o := fun b o e => Heap.get?_push_of_some _ e
  have hgen : (s2.heap.push { cls := .type "generator", data := .fields #[.int s2.gens.size 0, .str (dFd st pm cd doc).name s2.toks, .str (dFd st pm cd doc).qualname (s2.toks + 1)] }).IsGen s2.heap.objs.size s2.gens.size := ⟨_, _, _, Heap.get?_push_size _ rfl, rfl, rfl, rfl⟩
  refine wpAny_pyIter_gen hgen ⟨k1.trans (q3.keep.trans ⟨fun b o _ e => hpush b o e, fun i x _ e => ?_, fun h y hy => ?_, rfl⟩), s2.heap.objs.size, GAt X A D.z s1.heap.objs.size s2.heap.objs.size s2.gens.size items, s2.heap.objs.size :: s1.heap.objs.size :: ([] ++ zAlive D.z), s1.heap.objs.size :: [], [s2.gens.size], rfl, ?_, ?_, ?_, ?_, ?_⟩
  · exact (Array.getElem?_push_lt (Array.getElem?_eq_some_iff.mp e).1).trans (by rw [← Array.getElem?_eq_getElem (Array.getElem?_eq_some_iff.mp e).1]; exact e)
  · rcases Array.mem_push.mp hy with h' | h'
    · exact h y h'
    · subst h'; rfl
  · refine ItrD.ofGen hA q1.bs (fun hm => ?_) (Nat.ne_of_gt hLs) fun hm => ?_
    · obtain ⟨o, e⟩ := mem_zAlive.mp hm; exact (Option.some_ne_none _ (e.symm.trans haz)).elim
    · obtain ⟨o, e⟩ := mem_zAlive.mp hm; exact (Option.some_ne_none _ (e.symm.trans hLz)).elim
  · refine ⟨[], rfl, rfl, fun hm => Nat.ne_of_gt hLs (List.mem_singleton.mp hm), fun b hb => by rw [List.mem_singleton.mp hb]; exact hLz, hgen, fun b o e => hpush b o (q3.keep.hp b o (hzs b o e)), fun b hb => ?_, Nat.zero_le _, _, Array.getElem?_push_size .., fun s'' hb'' hk'' => ?_⟩
    · rw [List.mem_singleton.mp hb]
      obtain ⟨o, ho⟩ := q3.alive _ (own_loc (D := genD st pm cd doc s1.heap.objs.size a D.z))
      exact ⟨o, hpush _ _ ho⟩
    · refine ⟨[s''.heap.objs.size + 1, s''.heap.objs.size], fun b hb => .inr ?_, rfl, ?_⟩
      · rcases List.mem_cons.mp hb with rfl | hb
        · exact Heap.get?_none_of_le (Nat.le_succ _)
        · rw [List.mem_singleton.mp hb]; exact Heap.get?_none_of_le (Nat.le_refl _)
      · have hzk : ∀ b o, D.z.get? b = some o → s''.heap.get? b = some o := fun b o e => hk'' b (List.mem_cons_of_mem _ (List.mem_cons_of_mem _ (List.mem_append_right _ (mem_zAlive.mpr ⟨o, e⟩)))) o (hpush b o (q3.keep.hp b o (hzs b o e)))
        refine hseg s1.heap.objs.size D.z A s'' hA ?_
        refine q3.wakeG (ei := [s''.heap.objs.size + 1, s''.heap.objs.size]) hzk (fun b hb o e => hk'' b ?_ o (hpush b o e)) hb'' fun b hb => ?_
        · have hb : b ∈ [s1.heap.objs.size] := hb
          rw [List.mem_singleton.mp hb]; (exact .tail _ (.head _))
        · show D.z.get? b = none
          cases e : D.z.get? b with
          | none => rfl
          | some o =>
            have := Heap.lt_size (hzk _ _ e)
            rcases List.mem_cons.mp hb with rfl | hb
            · exact absurd this (Nat.not_lt.mpr (Nat.le_succ _))
            · rw [List.mem_singleton.mp hb] at this; exact absurd this (Nat.lt_irrefl _)
  · intro b hb hm
    obtain ⟨o, ho⟩ := q1.alive b hm
    have hlt := Heap.lt_size ho
    rcases List.mem_cons.mp hb with rfl | hb
    · exact absurd hlt (Nat.not_lt.mpr (Nat.le_of_lt hLs))
    rcases List.mem_cons.mp hb with rfl | hb
    · exact absurd hlt (Nat.lt_irrefl _)
    · obtain ⟨o', e⟩ := mem_zAlive.mp hb
      have := q1.zk b o' e
      rw [q1.fresh b hm] at this; cases this
  · intro b hb
    rw [List.mem_singleton.mp hb]
    exact fresh_of_kp k1 (Heap.get?_none_of_le (Nat.le_refl _))
  · intro i hi
    rw [List.mem_singleton.mp hi]
    cases e : s.gens[s2.gens.size]? with
    | none => rfl
    | some y =>
      have := k1.gens _ y (by simp) e
      rw [hgs] at this
      rw [Array.getElem?_eq_none (Nat.le_refl _)] at this; cases this
theorem nextOf_ascii_end {A : Around} {s : Shared} {it : Addr} {x : Str} {t : Tok} {i : Nat} {Q E : Value → Shared → Prop} (hh : A.handled = none)
    (hit : s.heap.IsStrIter it "str_ascii_iterator" x t i) (hx : x.cps[i]? = none)
    (hE : ∀ h' e, Heap.ExtBut it s.heap h' → (∃ o, h'.get? it = some o) → (∃ o, h'.get? e = some o ∧ o.cls = .type "StopIteration") → E (.ref e) { s with heap := h' }) :
    wpAny (model X.prog X.w) A (Builtin.SmallTypes.nextOf (.ref it)) Q E s := by
  refine Classical.byContradiction fun hnx => ?_
  (obtain ⟨o, ho, hc, hd⟩ := id hit) <;> (refine hnx ?_; clear hnx)
  unfold Builtin.SmallTypes.nextOf
  refine wpAny_bind (wpAny_callSpecial?_slot (name := Str.ofString "__next__") hit.typeIs F.slot_str_ascii_iterator_next
    (wpAny_call_entry F.slot_str_ascii_iterator_next hit.typeIs F.entry_str_ascii_iterator_next ?_ (F.args_str_ascii_iterator_next_1 _)))
  show wpAny _ _ (field (.ref it) 0 >>= _) _ _ s
  refine wpAny_bind (wpAny_field ho hd (x := .str x t) rfl ?_)
  show wpAny _ _ (field (.ref it) 1 >>= _) _ _ s
  refine wpAny_bind (wpAny_field ho hd (x := .int i 0) rfl ?_)
  simp only [Int.toNat_natCast, hx]
  refine wpAny_bind (wpAny_rule (wpAny_bind (wpAny_setField ho hd (by simp) (wpAny_bind (wpAny_letGo ?_)))))
  show wpAny _ _ (newExc (.type "StopIteration") [] >>= _) _ _ _
  refine wpAny_bind ?_
  simp only [newExc, newTuple]
  refine wpAny_bind (wpAny_newObj_type ?_ (by size_fits))
  refine wpAny_bind (m := firstArgMember _ _) (wpAny_of_eq (a := Value.none) (by first | rfl | (simp only [firstArgMember]; rfl)) ?_)
  refine wpAny_newObj_type ?_ (by size_fits)
  dsimp only [raiseNew]
  refine wpAny_bind (wpAny_handled ?_)
  first | rw [show A.in1.handled = none from hh] | rw [hh]
  refine wpAny_bind (wpAny_pure (wpAny_throw ?_))
  exact hE _ _ (((Heap.SameBut.update ..).extBut.push _).push _) ⟨_, Heap.get?_push_of_some _ (Heap.get?_push_of_some _ (Heap.get?_update_self _ ho (Obj.isFreed_of_fields (Obj.data_mapFields hd _))))⟩ ⟨_, Heap.get?_push_size _ rfl, rfl⟩
theorem enum_end {A : Around} {s : Shared} {e it : Addr} {y : Str} {t : Tok} {i : Int} {old : Value} {Q : Option Value → Shared → Prop} (hh : A.handled = none) (he : IsEnum s.heap e it i old) (hne : e ≠ it) (hst : s.heap.IsStrIter it "str_ascii_iterator" y t y.cps.size)
    (hQ : ∀ h', Heap.ExtBut it s.heap h' → (∃ o, h'.get? it = some o) → Q none { s with heap := h' }) : wpF X A (pyNext (.ref e)) Q s := by
  have hT : s.TypeIs (.ref e) "enumerate" := ⟨_, he, rfl⟩
  unfold pyNext
  refine wpAny_bind (wpAny_attempt (wpAny_callSpecial?_slot (name := Str.ofString "__next__") hT F.slot_enumerate_next
    (wpAny_call_entry F.slot_enumerate_next hT F.entry_enumerate_next ?_ (F.args_enumerate_next_1 _))))
  show wpAny _ _ (field (.ref e) 2 >>= _) _ _ _
  refine wpAny_bind (wpAny_field he rfl (x := .ref it) rfl ?_)
  refine wpAny_bind (nextOf_ascii_end hh hst (by simp) fun h' x he' hal hx' => ?_)
  refine Classical.byContradiction fun hnx => ?_
  (obtain ⟨o, ho, hc⟩ := hx') <;> (refine hnx ?_; clear hnx)
  refine wpAny_bind (wpAny_isInstance (T := "StopIteration") (b := true) ⟨o, ho, hc⟩ isSubtype_stop ?_)
  exact wpAny_pure (hQ _ he' hal)
theorem enumStr_at {J : St → Prop} {pr pos px : Pos} {x : Str} {y : Str} (hk : D.env.kindOf (Str.ofString "enumerate") = some .globalImplicit) (hv : X.C.tab.lookup (Str.ofString "enumerate") = some (.type "enumerate"))
    (hl : σ.loc.lookup x = some (.dv (.str y))) (hvx : isVar D x = true) (hasc : y.cps.all (· < 128) = true) : ∀ A g fps s₀, AOk A n → R X.C D g σ fps s₀ →
    wpF X A (eval (.Call (.Name (Str.ofString "enumerate") pr) [.Name x px] [] pos) D.env) (fun v s1 => wpF X A (pyIter v) (fun it s2 => Kp s₀ s2 ∧ it = .ref (s₀.heap.objs.size + 1) ∧ ∃ It, (∀ A' elts k pt, AOk A' n → Itr X A' D J fps (.Tuple elts k pt) (s₀.heap.objs.size + 1) (enumIV y) It [s₀.heap.objs.size + 1, s₀.heap.objs.size] [s₀.heap.objs.size + 1, s₀.heap.objs.size] []) ∧ It 0 s2 ∧ (∀ j (s s' : Shared), It j s → (∀ b ∈ [s₀.heap.objs.size + 1, s₀.heap.objs.size], ∀ o, s.heap.get? b = some o → s'.heap.get? b = some o) → It j s') ∧
      ∀ A' s, AOk A' n → It (enumIV y).length s → wpF X A' (pyNext (.ref (s₀.heap.objs.size + 1))) (fun o s' => o = none ∧ KpB [s₀.heap.objs.size + 1, s₀.heap.objs.size] [] s s' ∧ ∀ b ∈ [s₀.heap.objs.size + 1, s₀.heap.objs.size], ∃ o, s'.heap.get? b = some o) s) s1) s₀ := fun A g fps s hA q => by
  refine wpAny_Call_NameR (q.global (X := X) hk hv ?_)
  show wpAny _ A (callWith pos _ [] (backTo pos [(false, eval (.Name x px) D.env)]) _) _ _ s
  refine PySem.callWith_type rfl (evalArgs_plain (spliced_cons (wpAny_Name (q.load (X := X) hl hvx fun r hr => spliced_nil ?_) (by simp only [isVar, Bool.and_eq_true, Bool.not_eq_true'] at hvx; exact hvx.2))))
  refine Classical.byContradiction fun hnx => ?_
  (obtain ⟨f, ⟨t, rfl⟩, _⟩ := hr) <;> (refine hnx ?_; clear hnx)
  refine call_enumerate_str fun h' he hit hsz hkp => ?_
  refine wpAny_pyIter_enum he ⟨Kp.of_heap hkp, rfl, ?_⟩
  have hlen : (enumIV y).length = y.cps.size := by simp [enumIV]
  have hi : h'.IsStrIter s.heap.objs.size "str_ascii_iterator" y t 0 := by
    have e : strIterType y = "str_ascii_iterator" := by simp only [strIterType, hasc, if_true]
    rw [e] at hit; exact hit
  have W := fun (A' : Around) (hA' : AOk A' n) => WalksT.enumerateD (Draws.strAscii (prog := X.prog) (w := X.w) (A := A'.in1) hA'.1 s.heap.objs.size y t) (s.heap.objs.size + 1) (Nat.succ_ne_self _) (by simp) (by (exact .head _))
  rw [← hlen] at W
  refine ⟨_, fun A' elts k pt hA' => Itr.ofWalksT hA' (W A' hA') (fun i vals z hz ⟨t', x, ⟨c, u, e1, e2⟩, e3⟩ h T hT => ?_) (fun i h ⟨⟨old, he⟩, o, ho, _⟩ b hb => ?_) (fun A s j Q hqp hQ => by obtain ⟨⟨old, he⟩, _⟩ := hqp; exact wpAny_pyIter_enum he hQ), ⟨⟨⟨_, he⟩, hi⟩, Nat.zero_le _⟩,
    fun j s1 s' hit hk => ⟨(W A hA).frame j _ _ hit.1 hk, hit.2⟩, fun A' s' hA' ⟨⟨⟨old, he⟩, hi⟩, _⟩ => ?_⟩
  · subst e2 e3
    unfold enumIV at hz
    rw [List.getElem?_map] at hz
    obtain ⟨pr', hp, rfl⟩ := Option.map_eq_some_iff.mp hz
    rw [List.getElem?_zipIdx] at hp
    obtain ⟨c', hc', rfl⟩ := Option.map_eq_some_iff.mp hp
    have : c' = c := by simp at hc'; obtain rfl := Option.some.inj (e1.symm.trans hc'); rfl
    subst this
    refine Classical.byContradiction fun hnx => ?_
    (obtain ⟨o, ho, hc, ep, hd⟩ := hT) <;> (refine hnx ?_; clear hnx)
    exact ⟨T, o, _, _, rfl, ho, hc, ⟨ep, hd⟩, by simpa using VR.ofInt, VR.ofStr⟩
  · rcases List.mem_cons.mp hb with rfl | hb
    · exact ⟨_, he⟩
    · rw [List.mem_singleton.mp hb]; exact ⟨o, ho⟩
  · rw [hlen] at hi
    refine enum_end hA'.1 he (Nat.succ_ne_self _) hi fun h'' hx hal => ⟨rfl, KpB.of_heap fun b o hb e => hx b o (fun hh => hb (by simp [hh])) e, fun b hb => ?_⟩
    rcases List.mem_cons.mp hb with rfl | hb
    · exact ⟨_, hx _ _ (Nat.succ_ne_self _) he⟩
    · rw [List.mem_singleton.mp hb]; exact hal
end
end Mine
end
section
open PySem PySem.Calls PyProof.Rows
namespace Mine
mutual
noncomputable def DV.py : DV → PyData
  | .none => .none
  | .bool b => .bool b
  | .int i => .int i
  | .str x => .str x
  | .lst xs => .list (DV.pys xs)
noncomputable def DV.pys : List DV → List PyData
  | [] => []
  | x :: xs => x.py :: DV.pys xs
end
mutual
theorem RepV.reads {h : Heap} : ∀ {d : DV} {r : Value} {fp : List Addr}, RepV h d r fp → ∃ as, Reads h r d.py as
  | .none, _, _, x => by rw [x.1]; exact ⟨_, .none⟩
  | .bool b, _, _, x => by rw [x.1]; exact ⟨_, .bool b⟩
  | .int i, _, _, x => by obtain ⟨t, e⟩ := x.1; rw [e]; exact ⟨_, .int i t⟩
  | .str i, _, _, x => by obtain ⟨t, e⟩ := x.1; rw [e]; exact ⟨_, .str i t⟩
  | .lst xs, _, _, ⟨a, vs, fp', e1, e2, ⟨o, ho, hc, n, hd⟩, y⟩ => by
    subst e1
    obtain ⟨as, r⟩ := RepVs.readsAll y
    exact ⟨_, .list ho hc hd (by exact r)⟩
theorem RepVs.readsAll {h : Heap} : ∀ {ds : List DV} {rs : List Value} {fp : List Addr}, RepVs h ds rs fp → ∃ as, ReadsAll h rs (DV.pys ds) as
  | [], _, _, x => by rw [x.1]; exact ⟨_, .nil⟩
  | d :: ds, _, _, ⟨r, rs, f1, f2, e1, e2, x, y⟩ => by
    subst e1
    obtain ⟨as, p⟩ := RepV.reads x
    obtain ⟨bs, q⟩ := RepVs.readsAll y
    exact ⟨_, .cons p q⟩
end
theorem VR.reads {h : Heap} {d : DV} {r : Value} (x : VR h d r) : ∃ as, Reads h r d.py as := by obtain ⟨_, x⟩ := x; exact x.reads
theorem VRs.strV {h : Heap} : ∀ {texts : List Str} {vs : List Value}, VRs h (texts.map .str) vs → ∃ l : List (Str × Tok), vs = strValues l ∧ l.map (·.1) = texts
  | [], vs, x => ⟨[], x.nil_inv, rfl⟩
  | y :: ys, vs, x => by
    obtain ⟨r, rs, rfl, a, b⟩ := x.cons_inv
    obtain ⟨t, rfl⟩ := a.str
    obtain ⟨l, rfl, rfl⟩ := VRs.strV b
    exact ⟨(y, t) :: l, rfl, rfl⟩
theorem VRs.ofStrV {h : Heap} (l : List (Str × Tok)) : VRs h ((l.map (·.1)).map .str) (strValues l) := by
  induction l with
  | nil => exact .nil
  | cons p l ih => exact .cons .ofStr ih
section
open Builtin Builtin.Str
variable {X : Cx} {n : Nat} {D : FD} {σ : St} {Φ : AFl → St → Prop} {rest : List Stmt}
theorem EvB.neL {l r : Expr} {p : Pos} {a b : DV} (h1 : EvO X n D σ l a) (h2 : EvO X n D σ r b) (ha : a.py.canLay0 = true) (hb : b.py.canLay0 = true) (hd : min a.py.depth b.py.depth ≤ 100) (hm : behindInMarks .NotEq r = false := by with_unfolding_all rfl) :
    EvB X n D σ (.Compare l [.NotEq] [r] p) (!PyData.eqv a.py b.py) := fun A g fps s hA q =>
  wpAny_isTrue_Compare1 (EvO.two h1 h2 hA q fun ra rb s' k va vb => by
    obtain ⟨as, va⟩ := va.reads
    obtain ⟨bs, vb⟩ := vb.reads
    exact SeqAt.rcNeAt_reads va vb ha hb (by have := hA.2.2; show _ < 9900; omega) _ _ _ _ (wpAny_truthy_bool ⟨k, rfl⟩)) hm
theorem EvB.eqL {l r : Expr} {p : Pos} {a b : DV} (h1 : EvO X n D σ l a) (h2 : EvO X n D σ r b) (ha : a.py.canLay0 = true) (hb : b.py.canLay0 = true) (hd : min a.py.depth b.py.depth ≤ 100) (hm : behindInMarks .Eq r = false := by with_unfolding_all rfl) :
    EvB X n D σ (.Compare l [.Eq] [r] p) (PyData.eqv a.py b.py) := fun A g fps s hA q =>
  wpAny_isTrue_Compare1 (EvO.two h1 h2 hA q fun ra rb s' k va vb => by
    obtain ⟨as, va⟩ := va.reads
    obtain ⟨bs, vb⟩ := vb.reads
    exact SeqAt.rcAt_reads va vb ha hb (by have := hA.2.2; show _ < 9900; omega) _ _ _ _ (wpAny_truthy_bool ⟨k, rfl⟩)) hm
theorem EvF.join {o e : Expr} {pa pc : Pos} {sep : Str} {texts : List Str} (h0 : EvO X n D σ o (.str sep)) (h : EvO X n D σ e (.lst (texts.map .str))) (hok : JoinOk sep texts = true)
    (hbase : ∀ env, attributeBase o (Str.ofString "join") env (eval o env) = eval o env := by intro _; rfl) (hse : ∀ env, starEach [e] env = [(false, eval e env)] := by intro _; rfl) (hline : (pa.endLine == pc.line) = true := by rfl) :
    EvF X n D σ (.Call (.Attribute o (Str.ofString "join") pa) [e] [] pc) (.str (Txt.join sep texts)) := fun A g fps s hA q => by
  refine Call_method1 (hbase _) (hse _) hline (wpF_mono (h0 A g fps s hA q) fun r s1 hq1 => ?_)
  obtain ⟨k1, v1⟩ := hq1
  obtain ⟨t, rfl⟩ := v1.str
  refine SB.join (wpF_mono (h A g fps s1 hA (q.ext k1)) fun r s2 hq2 => ?_)
  obtain ⟨k2, v2⟩ := hq2
  refine Classical.byContradiction fun hnx => ?_
  (obtain ⟨a, vs, rfl, hl, hv⟩ := v2.lst) <;> (refine hnx ?_; clear hnx)
  refine Classical.byContradiction fun hnx => ?_
  (obtain ⟨l, rfl, hl2⟩ := hv.strV) <;> (refine hnx ?_; clear hnx)
  exact ⟨a, l, rfl, hl, texts, hl2, hok, fun t' k => scal ((k1.trans k2).trans (Kp.tok _ _)) ⟨⟨_, rfl⟩, rfl⟩⟩
theorem EvF.count {o e : Expr} {pa pc : Pos} {x y : Str} (h0 : EvO X n D σ o (.str x)) (h : EvO X n D σ e (.str y))
    (hbase : ∀ env, attributeBase o (Str.ofString "count") env (eval o env) = eval o env := by intro _; rfl) (hse : ∀ env, starEach [e] env = [(false, eval e env)] := by intro _; rfl) (hline : (pa.endLine == pc.line) = true := by rfl) :
    EvF X n D σ (.Call (.Attribute o (Str.ofString "count") pa) [e] [] pc) (.int (Txt.count x y)) := fun A g fps s hA q => by
  refine Call_method1 (hbase _) (hse _) hline (wpF_mono (h0 A g fps s hA q) fun r s1 hq3 => ?_)
  refine Classical.byContradiction fun hnx => ?_
  (obtain ⟨k1, v1⟩ := hq3) <;> (refine hnx ?_; clear hnx)
  obtain ⟨t, rfl⟩ := v1.str
  refine SB.count (wpF_mono (h A g fps s1 hA (q.ext k1)) fun r s2 hq4 => ?_)
  obtain ⟨k2, v2⟩ := hq4
  obtain ⟨u, rfl⟩ := v2.str
  exact ⟨y, u, rfl, scal ((k1.trans k2).trans (Kp.tok _ _)) ⟨⟨_, rfl⟩, rfl⟩⟩
theorem EvF.split {o e : Expr} {pa pc : Pos} {x y : Str} (h0 : EvO X n D σ o (.str x)) (h : EvO X n D σ e (.str y)) (hx : x.length ≤ sizeLine) (hy : (y.length == 0) = false) (hn : (partsBetween x (occurrences x y 0 x.length (x.length + 1)) y.length).length ≤ sizeLine)
    (hbase : ∀ env, attributeBase o (Str.ofString "split") env (eval o env) = eval o env := by intro _; rfl) (hse : ∀ env, starEach [e] env = [(false, eval e env)] := by intro _; rfl) (hline : (pa.endLine == pc.line) = true := by rfl) :
    EvF X n D σ (.Call (.Attribute o (Str.ofString "split") pa) [e] [] pc) (.lst ((Txt.split x y).map .str)) := fun A g fps s hA q => by
  refine Call_method1 (hbase _) (hse _) hline (wpF_mono (h0 A g fps s hA q) fun r s1 hq5 => ?_)
  obtain ⟨k1, v1⟩ := hq5
  obtain ⟨t, rfl⟩ := v1.str
  refine ⟨"str", _, F.plainAttrs_str, F.slot_str_split, F.type_str_split, typeIs_str _ _ _, (fun _ e => nomatch e), method1_meets F.slot_str_split F.entry_str_split (wpF_mono (h A g fps s1 hA (q.ext k1)) fun r s2 hq6 => ?_)⟩
  obtain ⟨k2, v2⟩ := hq6
  obtain ⟨u, rfl⟩ := v2.str
  refine ⟨typeIs_str _ _ _, F.args_str_split_2 _ _, ?_⟩
  have fin : ∀ (l : List (Str × Tok)) (k : Nat), l.map (·.1) = Txt.split x y → NewK s { s2 with heap := s2.heap.push { cls := .type "list", data := .seq (strValues l).toArray }, toks := k } (.lst ((Txt.split x y).map .str)) (.ref s2.heap.objs.size) := fun l k e => by
    rw [← e]
    have := newFlat (s := s) (s' := { s2 with toks := k }) ((k1.trans k2).trans (Kp.tok _ k)) (VRs.ofStrV (h := s2.heap) l) fun d hd => by
      obtain ⟨p, _, rfl⟩ := List.mem_map.mp hd; rfl
    exact this
  cases h1 : (decide (x.length < y.length) || decide (Builtin.Str.strKind x < Builtin.Str.strKind y))
  · cases hf : (occurrences x y 0 x.length (x.length + 1)).isEmpty
    · refine ⟨_, meets_str_split_sep x y t u h1 hy hf hx hn, ?_⟩
      show wants _ _ _ { s2 with toks := _, heap := s2.heap.push { cls := .type "list", data := .seq (strsFrom s2.toks (partsBetween x (occurrences x y 0 x.length (x.length + 1)) y.length)).toArray } }
      rw [strsFrom_eq]
      exact fin (numbered s2.toks _) _ ((numbered_texts _ _).trans ((if_neg (ne_true_of_eq_false h1)).trans (if_neg (ne_true_of_eq_false hf))).symm)
    · exact ⟨_, meets_str_split_not_found x y t u h1 hy hf, fin [(x, t)] _ ((if_neg (ne_true_of_eq_false h1)).trans (if_pos hf)).symm⟩
  · exact ⟨_, meets_str_split_cannot_occur x y t u h1, fin [(x, t)] _ (if_pos h1).symm⟩
end
end Mine
end
section
open PySem PySem.Calls PyProof.Rows
namespace Mine
section
variable {X : Cx} {n : Nat} {D : FD} {σ : St} {Φ : AFl → St → Prop} {rest : List Stmt}
noncomputable def IntTab (X : Cx) (x : Str) (f : Int → Option Str) : Prop :=
  ∃ d F, X.C.tab.lookup x = some (.ref d) ∧ (d == sysModules) = false ∧ (∀ h, Bs X.C h → h.MapOf (intKind X.prog X.w) d F) ∧ ∀ k, match f k with
    | some y => ∃ t, F k = some (.str y t)
    | none => F k = none
theorem EvF.getTab {x : Str} {px pa pc : Pos} {e1 e2 : Expr} {f : Int → Option Str} {k : Int} {y : Str} (hk : D.env.kindOf x = some .globalImplicit) (ht : IntTab X x f) (h1 : EvO X n D σ e1 (.int k)) (h2 : EvO X n D σ e2 (.str y))
    (hd : (x == ("__debug__" : Str)) = false := by decide) (hbase : ∀ env, attributeBase (.Name x px) (Str.ofString "get") env (eval (.Name x px) env) = eval (.Name x px) env := by intro _; rfl)
    (hse : ∀ env, starEach [e1, e2] env = [(false, eval e1 env), (false, eval e2 env)] := by intro _; rfl) (hline : (pa.endLine == pc.line) = true := by rfl) :
    EvF X n D σ (.Call (.Attribute (.Name x px) (Str.ofString "get") pa) [e1, e2] [] pc) (.str ((f k).getD y)) := fun A g fps s hA q => by
  obtain ⟨d, F, hv, hds, hm, hF⟩ := ht
  refine Call_method2 (hbase _) (hse _) hline (q.global (X := X) hk hv ?_ hd)
  have hm0 := hm _ q.z
  refine ⟨"dict", "dict.get", PySem.F.plainAttrs_dict, PySem.F.slot_dict_get, PySem.F.type_dict_get, hm0.typeIs, hm0.noDict, wpAny_dict_get2 (knd := intKind X.prog X.w) hds (wpF_mono (h1 A g fps s hA q) fun r1 s1 ⟨k1, v1⟩ => wpF_mono (h2 A g fps s1 hA (q.ext k1)) fun r2 s2 hq1 => ?_)⟩
  obtain ⟨k2, v2⟩ := hq1
  obtain ⟨t, rfl⟩ := v1.int
  obtain ⟨u, rfl⟩ := v2.str
  refine ⟨k, F, by simp [intKind, Value.isInt], hm _ ((q.ext k1).ext k2).z, ?_⟩
  have := hF k
  cases e : f k with
  | none => rw [e] at this; rw [this]; exact scal ((k1.trans k2).trans (Kp.tok _ _)) ⟨⟨_, rfl⟩, rfl⟩
  | some z => rw [e] at this; obtain ⟨t', this⟩ := this; rw [this]; exact scal ((k1.trans k2).trans (Kp.tok _ _)) ⟨⟨_, rfl⟩, rfl⟩
theorem EvF.ifExp {t a b : Expr} {p : Pos} {c : Bool} {d : DV} (h : EvB X n D σ t c) (h1 : c = true → EvF X n D σ a d) (h2 : c = false → EvF X n D σ b d) : EvF X n D σ (.IfExp t a b p) d := fun A g fps s hA q =>
  wpAny_IfExp (wpF_mono (h A g fps s hA q) fun c' s1 hqp => by
    obtain ⟨k1, e⟩ := hqp
    subst e
    cases c' with
    | true => exact wpF_mono (h1 rfl A g fps s1 hA (q.ext k1)) fun r s2 ⟨k2, fp, x, y, z⟩ => ⟨k1.trans k2, fp, x, y, fun a ha => fresh_of_kp k1 (z a ha)⟩
    | false => exact wpF_mono (h2 rfl A g fps s1 hA (q.ext k1)) fun r s2 ⟨k2, fp, x, y, z⟩ => ⟨k1.trans k2, fp, x, y, fun a ha => fresh_of_kp k1 (z a ha)⟩)
end
end Mine
end
section
open PySem PySem.Calls PyProof.Rows
set_option maxRecDepth 100000
namespace Mine
theorem slot_fn_sa : Slot "function" "__setattr__" "object.__setattr__" :=
  .of (owner := "object") (n := "__setattr__") (by rw [typeLookup_type, builtinLookup_eq_fast]; kernel_rfl) (by decide +kernel) (by decide +kernel) (by decide +kernel)
    (by first | exact .inl (by decide +kernel) | exact .inr (by decide +kernel)) (by rw [isSubtype_type]; kernel_rfl)
theorem slot_fn_ga : Slot "function" "__getattribute__" "object.__getattribute__" :=
  .of (owner := "object") (n := "__getattribute__") (by rw [typeLookup_type, builtinLookup_eq_fast]; kernel_rfl) (by decide +kernel) (by decide +kernel) (by decide +kernel)
    (by first | exact .inl (by decide +kernel) | exact .inr (by decide +kernel)) (by rw [isSubtype_type]; kernel_rfl)
theorem mro_fn : mroOf (.type "function") = pure [.type "function", .type "object"] := by kernel_rfl
theorem lk_fn_read : typeLookup (.type "function") (Str.ofString "read") = pure none := by rw [typeLookup_type, builtinLookup_eq_fast]; kernel_rfl
theorem lk_fn_getattr : typeLookup (.type "function") (Str.ofString "__getattr__") = pure none := by rw [typeLookup_type, builtinLookup_eq_fast]; kernel_rfl
theorem own_fn_sa : classOwn (.type "function") (Str.ofString "__setattr__") = pure none := by kernel_rfl
theorem fn_setattr {X : Cx} {A : Around} {s : Shared} {f : Addr} {o : Obj} {fd : FuncData} {v : Value} {Q : Unit → Shared → Prop} (ho : s.heap.get? f = some o) (hc : o.cls = .type "function") (hd : o.dict = none) (hdat : o.data = .func fd)
    (hq : ∀ h' tk, h'.get? f = some { o with dict := some s.heap.objs.size } → h'.Ns1 s.heap.objs.size (fun y => if y = Str.ofString "read" then some v else none) → (∀ b ob, b ≠ f → s.heap.get? b = some ob → h'.get? b = some ob) → Q () { s with heap := h', toks := tk }) :
    wpF X A (setAttr (.ref f) (Str.ofString "read") v) Q s := by
  have hT : s.TypeIs (.ref f) "function" := ⟨_, ho, hc⟩
  unfold setAttr
  refine wpAny_bind (wpAny_mkText (wpAny_bind (wpAny_callSpecial?_slot (name := Str.ofString "__setattr__") (T := "function") (id := "object.__setattr__") ⟨_, ho, hc⟩ slot_fn_sa (wpAny_call_entry slot_fn_sa ⟨_, ho, hc⟩ F.entry_object_setattr ?_ (F.args_object_setattr_3 _ _ _)))))
  obtain ⟨h, g, d, t, os⟩ := s
  have f1 := mro_fn
  have f2 := own_fn_sa
  have f3 := lk_fn_read
  show wpAny _ _ (Builtin.«object.__setattr__» ⟨[.ref f, .str (Str.ofString "read") t, v], []⟩) _ _ ⟨h, g, d, t + 1, os⟩
  unfold Builtin.«object.__setattr__»
  repeat (first | rw [refuse_eq] | (with_reducible refine wpAny_loadPart_at ho ?_; rw [hc]) | wp_step)
  rw [hd, if_neg (by decide), hdat]
  have hx₁ : (h.push { cls := .type "dict", data := .dict #[] }).get? f = some o := Heap.get?_push_of_some _ ho
  have hxs : f ≠ h.objs.size := Nat.ne_of_lt (Heap.lt_size ho)
  refine wpAny_bind (wpAny_alloc' ?_)
  refine wpAny_bind (wpAny_update' hx₁ ?_)
  have hdm : ∀ d, dictMade (.type "function") f d = pure (some d) := fun d => rfl
  rw [hdm]
  refine wpAny_pure ?_
  have hgd : ((h.push { cls := .type "dict", data := .dict #[] }).update f fun o => { cls := o.cls, dict := some h.objs.size, data := o.data, slots := o.slots }).get? h.objs.size
      = some { cls := .type "dict", data := .dict #[] } :=
    (Heap.get?_update_ne _ _ _ _ hxs.symm).trans (Heap.get?_push_at rfl rfl)
  have hnd : ((h.push { cls := .type "dict", data := .dict #[] }).update f fun o => { cls := o.cls, dict := some h.objs.size, data := o.data, slots := o.slots }).Ns h.objs.size (fun _ => none) :=
    ⟨_, #[], _, hgd, rfl, fun e he => absurd he (by simp), fun _ => rfl⟩
  show wpAny _ _ (Builtin.ObjectAttr.storeInDict h.objs.size (.str (Str.ofString "read") t) (Str.ofString "read") v) _ _ _
  unfold Builtin.ObjectAttr.storeInDict Builtin.ObjectAttr.newKeyGuard
  refine wpAny_bind (wpAny_pure (wpAny_bind (wpAny_nsSet1 (Heap.Ns1.of_empty hnd) fun h' hn' hs => ?_)))
  refine Classical.byContradiction fun hnx => ?_
  (obtain ⟨oD, esD, epD, hoD, hdD, hcD⟩ := hn'.count (Within.cons (Str.ofString "read") v Within.nil)) <;> (refine hnx ?_; clear hnx)
  refine wpAny_bind (wpAny_lookBehind hoD (by rw [hdD]; exact pastItsLine_dict (Nat.le_trans hcD (by rw [List.length_cons, List.length_nil, sizeLine_eq]; (exact Nat.le_add_left _ _)))) ?_)
  wp_walk
  have hf' : h'.get? f = some { o with dict := some h.objs.size } := (hs.2 f hxs).trans (Heap.get?_update_self _ hx₁ (by unfold Obj.isFreed; simp only [hdat]))
  refine ⟨_, rfl, wpAny_pure (hq h' _ hf' hn' fun b ob hb e => ?_)⟩
  exact (hs.2 b (Nat.ne_of_lt (Heap.lt_size e))).trans ((Heap.get?_update_ne _ _ _ _ hb).trans (Heap.get?_push_of_some _ e))
theorem specialFn {X : Cx} {A : Around} {s : Shared} {f : Addr} {o : Obj} {n : Str} {r : Option Value} {Q : Option Value → Shared → Prop} (ho : s.heap.get? f = some o) (hc : o.cls = .type "function") (h : typeLookup (.type "function") n = pure r) (hQ : Q r s) :
    wpF X A (specialOf (.ref f) n) Q s := by
  unfold specialOf
  exact wpAny_bind (wpAny_typeOf (T := "function") ⟨_, ho, hc⟩ (wpAny_of_eq h hQ))
theorem fn_getattribute {X : Cx} {A : Around} {s : Shared} {f d : Addr} {o : Obj} {fd : FuncData} {v : Value} {m : Str → Option Value} {t : Tok} {Q : Fin → Shared → Prop} (ho : s.heap.get? f = some o) (hc : o.cls = .type "function") (hdat : o.data = .func fd) (hd : o.dict = some d) (hn : s.heap.Ns d m) (hv : m (Str.ofString "read") = some v)
    (hq : Q (.done (.ret v)) s) : wpF X A (Builtin.«object.__getattribute__» ⟨[.ref f, .str (Str.ofString "read") t], []⟩) Q s := by
  obtain ⟨h, g, dr, tt, os⟩ := s
  have f3 := lk_fn_read
  unfold Builtin.«object.__getattribute__»
  repeat (first | (with_reducible refine wpAny_loadPart_at ho ?_; rw [hc]) | wp_step)
  rw [hdat]
  show wpAny _ _ (instanceDict f false) _ _ _
  unfold instanceDict
  repeat (first | (with_reducible refine wpAny_loadPart_at ho ?_; rw [hc]) | wp_step)
  rw [hd]
  repeat (first | (with_reducible refine wpAny_nsGet hn ?_; rw [hv]) | wp_step)
  exact hq
theorem fn_getMethod {X : Cx} {A : Around} {s : Shared} {f d : Addr} {o : Obj} {fd : FuncData} {v : Value} {m : Str → Option Value} {pl : Sem Bool} {Q : Value × List Value → Shared → Prop} (ho : s.heap.get? f = some o) (hc : o.cls = .type "function") (hdat : o.data = .func fd) (hd : o.dict = some d) (hn : s.heap.Ns d m) (hv : m (Str.ofString "read") = some v) (hh : handedOut v = pure v)
    (hq : ∀ tk, Q (v, []) { s with toks := tk }) : wpF X A (getMethod (.ref f) (Str.ofString "read") pl) Q s := by
  have hcan : (Manifest.canonical "object.__getattribute__" != "object.__getattribute__") = false := F.canon_object_ga
  unfold getMethod
  refine wpAny_bind (specialFn ho hc slot_fn_ga.lookup ?_)
  dsimp only [hcan, Bool.false_eq_true, if_false]
  refine wpAny_bind (specialFn ho hc lk_fn_getattr ?_)
  dsimp only [Option.isSome_none, Bool.false_eq_true, if_false]
  refine wpAny_bind (specialFn ho hc lk_fn_read ?_)
  refine wpAny_bind ?_
  unfold getAttr getAttrBy
  refine wpAny_bind (wpAny_mkText (wpAny_holding (wpAny_bind (wpAny_typeOf (T := "function") ⟨_, ho, hc⟩ (wpAny_bind (wpAny_of_eq slot_fn_ga.lookup ?_))))))
  show wpAny _ _ (getAttrByItsOwn _ _ _ _ _ _) _ _ _
  unfold getAttrByItsOwn
  refine wpAny_bind (wpAny_pure ?_)
  show wpAny _ _ ((holding [] (callGetattribute (Value.ref f) (Value.str (Str.ofString "read") s.toks) (Value.builtin "object.__getattribute__") false)).attempt >>= _) _ _ _
  refine wpAny_bind (wpAny_attempt (wpAny_holding ?_))
  show wpAny _ _ (boundAndCalled _ _ _) _ _ _
  unfold boundAndCalled
  refine wpAny_bind (wpAny_of_eq (slot_fn_ga.bind (.ref f)) ?_)
  refine wpAny_call_entry slot_fn_ga (T := "function") ⟨_, ho, hc⟩ F.entry_object_getattribute ?_ (F.args_object_getattribute_2 _ _)
  refine wpAny_mono (fn_getattribute (X := X) (s := { s with toks := s.toks + 1 }) (t := s.toks) (Q := fun fin s' => fin = .done (.ret v) ∧ s' = { s with toks := s.toks + 1 }) ho hc hdat hd hn hv ⟨rfl, rfl⟩) (fun fin s' hq1 => ?_) fun _ _ x => x.elim
  obtain ⟨e1, e2⟩ := hq1
  subst e1 e2
  refine ⟨v, rfl, ?_⟩
  show wpAny _ _ (handedOut v) _ _ _
  rw [hh]
  exact wpAny_pure (wpAny_pure (hq _))
end Mine
end
section
open PySem PySem.Calls PyProof.Rows
namespace Mine
noncomputable def AVs (z : Heap) : List AV → List Value → Prop
  | [], rs => rs = []
  | a :: as, rs => ∃ r rs', rs = r :: rs' ∧ a.At z [] r ∧ AVs z as rs'
theorem zip_lookupV {z : Heap} : ∀ {as : List AV} {rs : List Value} (names : List Str), AVs z as rs → ∀ x, (∃ a r, (names.zip as).reverse.lookup x = some a ∧ (names.zip rs).reverse.lookup x = some r ∧ a.At z [] r) ∨
    ((names.zip as).reverse.lookup x = none ∧ (names.zip rs).reverse.lookup x = none)
  | [], rs, names, v, x => by rw [show rs = [] from v]; simp
  | d :: ds, rs, [], v, x => by simp
  | d :: ds, rs, y :: names, v, x => by
    refine Classical.byContradiction fun hnx => ?_
    (obtain ⟨r, rs', rfl, a, b⟩ := v) <;> (refine hnx ?_; clear hnx)
    simp only [List.zip_cons_cons, List.reverse_cons, List.lookup_append]
    rcases zip_lookupV names b x with ⟨d', r', h1, h2, h3⟩ | ⟨h1, h2⟩
    · exact .inl ⟨d', r', by rw [h1]; rfl, by rw [h2]; rfl, h3⟩
    · rw [h1, h2]
      by_cases hx : x = y
      · subst hx; exact .inl ⟨d, r, by simp, by simp, a⟩
      · have : (x == y) = false := beq_eq_false_iff_ne.mpr hx
        exact .inr ⟨by simp [List.lookup_cons, this], by simp [List.lookup_cons, this]⟩
theorem R.startV {C : Gl} {s s' : Shared} {fd : FuncData} {a : Addr} {names : List Str} {avs : List AV} {rs : List Value} (hb : Bs C s.heap) (hbare : AllBare s.gens) (hv : AVs s.heap avs rs)
    (hg : fd.globals = mainGlobals) (hbu : fd.builtins = builtinsNs) (hk : fd.scope.kind = .function) (hfree : ∀ x ∈ fd.scope.names, x.2 ≠ .free) (hnd : (fd.scope.names.map (·.1)).Nodup)
    (x : InCallC s (callEnvC fd s.heap.objs.size a).locals (bindL (callEnvC fd s.heap.objs.size a).kindOf (names.zip rs) fun _ => none) (callEnvC fd s.heap.objs.size a).cells
        (bindC (callEnvC fd s.heap.objs.size a).kindOf (names.zip rs) fun _ => none) s') :
    R C (fnD fd s.heap.objs.size a s.heap) s ⟨(names.zip avs).reverse, []⟩ [] s' := by
  obtain ⟨h', tk, rfl⟩ := x.toInCall.same
  have hcells : (callEnvC fd s.heap.objs.size a).cells = cellsFrom (s.heap.objs.size + 1) fd.scope.names [] := rfl
  have hab : ∀ c ∈ (fnD fd s.heap.objs.size a s.heap).cs, s.heap.objs.size < c := fun c hc => by
    obtain ⟨p, hp, rfl⟩ := List.mem_map.mp hc
    exact x.above p.1 p.2 hp
  have hnof : ∀ y, (callEnvC fd s.heap.objs.size a).kindOf y ≠ some .free := fun y e => by
    have : (y, NameKind.free) ∈ fd.scope.names := mem_of_lookup e
    exact hfree _ this rfl
  refine ⟨hb, fun b o e => e, Kp.of_heap x.toInCall.keep, hbare, hk, hg, hbu, ?_, fun b hb => ?_, ⟨_, x.toInCall.ns, fun y v e1 e2 => ?_⟩, fun y v e1 e2 => ?_, fun c hc => ?_, fun y c e => ?_, fun y hy => ?_, fun y z c _ e1 e2 => ?_, rfl, fun k o f e1 e2 => by simp at e1⟩
  · show (s.heap.objs.size :: ((cellsFrom (s.heap.objs.size + 1) fd.scope.names []).map (·.2) ++ [].flatten)).Nodup
    rw [List.flatten_nil, List.append_nil, List.nodup_cons]
    refine ⟨fun hm => absurd (hab _ hm) (Nat.lt_irrefl _), ?_⟩
    have := x.apart
    rw [hcells] at this
    rw [List.Nodup, List.pairwise_map]
    exact this
  · have hb' : b ∈ s.heap.objs.size :: ((fnD fd s.heap.objs.size a s.heap).cs ++ []) := hb
    rw [List.append_nil] at hb'
    rcases List.mem_cons.mp hb' with rfl | hb'
    · exact Heap.get?_none_of_le (Nat.le_refl _)
    · exact Heap.get?_none_of_le (Nat.le_of_lt (hab b hb'))
  · rcases zip_lookupV names hv y with ⟨d, r, h1, h2, h3⟩ | ⟨h1, h2⟩
    · have e1' : (names.zip avs).reverse.lookup y = some v := e1
      obtain rfl := Option.some.inj (h1.symm.trans e1')
      exact ⟨r, by rw [bindL_at (callEnvC fd s.heap.objs.size a).kindOf _ _ _ e2, h2]; rfl, h3⟩
    · have : (names.zip avs).reverse.lookup y = some v := e1
      exact (Option.some_ne_none _ (this.symm.trans h1)).elim
  · rcases zip_lookupV names hv y with ⟨d, r, h1, h2, h3⟩ | ⟨h1, h2⟩
    · have e1' : (names.zip avs).reverse.lookup y = some v := e1
      obtain rfl := Option.some.inj (h1.symm.trans e1')
      have e2 : (callEnvC fd s.heap.objs.size a).kindOf y = some .cell := e2.resolve_right (hnof y)
      have hs := cells_has fd.scope.names (s.heap.objs.size + 1) [] y (mem_of_lookup e2)
      obtain ⟨c, hc⟩ := Option.isSome_iff_exists.mp hs
      have := x.cell y c hc
      rw [bindC_at (callEnvC fd s.heap.objs.size a).kindOf _ _ _ (by rw [e2]; decide), h2] at this
      exact ⟨c, r, hc, this, h3⟩
    · have : (names.zip avs).reverse.lookup y = some v := e1
      exact (Option.some_ne_none _ (this.symm.trans h1)).elim
  · obtain ⟨p, hp, rfl⟩ := List.mem_map.mp hc
    exact ⟨_, x.cell p.1 p.2 (lookup_of_nd (cells_nd _ _ _ hnd List.nodup_nil (by simp)) hp)⟩
  · exact .inl (List.mem_map.mpr ⟨(y, c), mem_of_lookup e, rfl⟩)
  · obtain ⟨p, hp, rfl⟩ := List.mem_map.mp hy
    obtain ⟨hp1, hp2⟩ := List.mem_filter.mp hp
    obtain ⟨y, k⟩ := p
    obtain rfl : k = .cell := by simpa using hp2
    have hs := cells_has fd.scope.names (s.heap.objs.size + 1) [] y hp1
    obtain ⟨c, hc⟩ := Option.isSome_iff_exists.mp hs
    exact ⟨c, hc, List.mem_map.mpr ⟨(y, c), mem_of_lookup hc, rfl⟩⟩
  · exact name_of_addr x.apart (mem_of_lookup e1) (mem_of_lookup e2)
theorem R.reval {C : Gl} {D : FD} {g s : Shared} {σ : St} {fps : List (List Addr)} {loc : List (Str × AV)} (q : R C D g σ fps s) (h : ∀ y v, loc.lookup y = some v → ∃ v0, σ.loc.lookup y = some v0 ∧ ∀ r, v0.At D.z fps r → v.At D.z fps r) :
    R C D g ⟨loc, σ.hp⟩ fps s where
  bs := q.bs
  zk := q.zk
  keep := q.keep
  bare := q.bare
  fk := q.fk
  eg := q.eg
  eb := q.eb
  nd := q.nd
  fresh := q.fresh
  ns := by
    obtain ⟨m, a, b⟩ := q.ns
    refine ⟨m, a, fun y v e1 e2 => ?_⟩
    obtain ⟨v0, h1, h2⟩ := h y v e1
    obtain ⟨r, h3, h4⟩ := b y v0 h1 e2
    exact ⟨r, h3, h2 r h4⟩
  cel := fun y v e1 e2 => by
    refine Classical.byContradiction fun hnx => ?_
    (obtain ⟨v0, h1, h2⟩ := h y v e1) <;> (refine hnx ?_; clear hnx)
    refine Classical.byContradiction fun hnx => ?_
    (obtain ⟨c, r, p1, p2, p3⟩ := q.cel y v0 h1 e2) <;> (refine hnx ?_; clear hnx)
    exact ⟨c, r, p1, p2, h2 r p3⟩
  csl := q.csl
  celo := q.celo
  cown := q.cown
  celi := q.celi
  len := q.len
  obj := q.obj
theorem R.zdown {C : Gl} {E : Env} {cs : List Addr} {oc : List Str} {z z' : Heap} {g s : Shared} {σ : St} {fps : List (List Addr)} (q : R C ⟨E, cs, oc, z⟩ g σ fps s) (hb : Bs C z') (hz : ∀ b o, z'.get? b = some o → z.get? b = some o)
    (hc : E.cells = []) (hv : ∀ y v, σ.loc.lookup y = some v → ∀ r, v.At z fps r → v.At z' fps r) : R C ⟨E, cs, oc, z'⟩ g σ fps s where
  bs := hb
  zk := fun b o e => q.zk b o (hz b o e)
  keep := q.keep
  bare := q.bare
  fk := q.fk
  eg := q.eg
  eb := q.eb
  nd := q.nd
  fresh := q.fresh
  ns := by
    obtain ⟨m, a, b⟩ := q.ns
    refine ⟨m, a, fun y v e1 e2 => ?_⟩
    obtain ⟨r, h1, h2⟩ := b y v e1 e2
    exact ⟨r, h1, hv y v e1 r h2⟩
  cel := fun y v e1 e2 => by
    refine Classical.byContradiction fun hnx => ?_
    (obtain ⟨c, r, p1, _⟩ := q.cel y v e1 e2) <;> (refine hnx ?_; clear hnx)
    have p1 : E.cells.lookup y = some c := p1
    rw [hc] at p1; cases p1
  csl := q.csl
  celo := fun y c e => by
    have e : E.cells.lookup y = some c := e
    rw [hc] at e; cases e
  cown := q.cown
  celi := q.celi
  len := q.len
  obj := q.obj
theorem R.takeOver {C : Gl} {E : Env} {z z' : Heap} {s s1 : Shared} {loc : List (Str × AV)} {x : Addr} {fp : List Addr} {o : AObj} {self : Str} (q : R C ⟨E, [], [], z⟩ s ⟨loc, []⟩ [] s1) (hb : Bs C z') (hz : ∀ b o, z'.get? b = some o → z.get? b = some o)
    (hc : E.cells = []) (hself : loc.lookup self = some (.raw (.ref x))) (hv : ∀ y v, y ≠ self → loc.lookup y = some v → ∃ d, v = .dv d ∧ d.sc = true)
    (hfp : ∀ b ∈ x :: fp, z'.get? b = none) (hnd : (x :: fp).Nodup) (hr : Rep s.heap o (x :: fp)) (loc' : List (Str × AV)) (hl : ∀ y v, loc'.lookup y = some v → (y = self ∧ v = .ref 0) ∨ (y ≠ self ∧ loc.lookup y = some v)) :
    R C ⟨E, [], [], z'⟩ (ghost s (x :: fp)) ⟨loc', [o]⟩ [x :: fp] s1 := by
  have q1 : R C ⟨E, [], [], z'⟩ s ⟨loc, []⟩ [] s1 := q.zdown hb hz hc fun y v e r hr => by
    by_cases hy : y = self
    · subst hy
      have e : loc.lookup y = some v := e
      obtain rfl := Option.some.inj (hself.symm.trans e); exact hr
    · obtain ⟨d, rfl, hd⟩ := hv y v hy e
      obtain ⟨f, hr⟩ := hr
      exact ⟨[], (hr.sc_heap hd).1⟩
  have hal : ∀ b ∈ x :: fp, ∃ o, s.heap.get? b = some o := hr.alive
  have q2 : R C ⟨E, [], [], z'⟩ (ghost s (x :: fp)) ⟨loc, []⟩ [] s1 := q1.back ⟨fun b o _ e => by rw [ghost_get] at e; split at e; cases e; exact e, fun _ _ _ e => e, id, rfl⟩ fun b o e => by
    rw [ghost_get, if_neg fun hm => by rw [hfp b hm] at e; cases e]
    exact q1.zk b o e
  have q3 := q2.adopt (o := o) (fp := x :: fp) (fun b hb => ⟨fun hm => (by
      obtain ⟨o', ho'⟩ := hal b hb
      rw [q1.fresh b hm] at ho'
      exact (Option.some_ne_none _ ho'.symm).elim), by rw [ghost_get, if_pos hb]⟩) hnd (hr.mono fun b _ o' e => q1.keep.hp b o' e)
  refine R.reval (σ := ⟨loc, [o]⟩) q3 fun y v e => ?_
  rcases hl y v e with ⟨rfl, rfl⟩ | ⟨hy, e'⟩
  · exact ⟨_, hself, fun r hr => ⟨x, fp, rfl, hr⟩⟩
  · exact ⟨v, e', fun r hr => hr⟩
inductive MethO (S' : OSpec) (x : Addr) (fp : List Addr) (s s' : Shared) : Prop
  | mk (fp' : List Addr) (p : S'.P s'.heap (x :: fp')) (n : (x :: fp').Nodup) (h : ∀ b ∈ fp', b ∈ fp ∨ s.heap.get? b = none)
noncomputable def MethC (X : Cx) (n : Nat) (f : Addr) (S S' : OSpec) (args : List DV) (d : DV) : Prop :=
  ∀ A s rs x fp z, AOk A n → Bs X.C z → (∀ b o, z.get? b = some o → s.heap.get? b = some o) → AllBare s.gens → S.P s.heap (x :: fp) → (x :: fp).Nodup → (∀ b ∈ x :: fp, z.get? b = none) → VRs s.heap args rs →
    codeAny (model X.prog X.w) A (.call (.ref f) ⟨.ref x :: rs, []⟩) (fun r s' => match r with
      | .ok (.ret r) => KpB (x :: fp) [] s s' ∧ MethO S' x fp s s' ∧ RepV s'.heap d r []
      | .ok _ => False
      | .error _ => False) s
theorem MethC.wp {X : Cx} {n : Nat} {f : Addr} {S S' : OSpec} {args : List DV} {d : DV} (h : MethC X n f S S' args d) {A : Around} {s : Shared} {rs : List Value} {x : Addr} {fp : List Addr} {z : Heap} (hA : AOk A n) (hb : Bs X.C z) (hz : ∀ b o, z.get? b = some o → s.heap.get? b = some o) (hbare : AllBare s.gens)
    (hS : S.P s.heap (x :: fp)) (hnd : (x :: fp).Nodup) (hf : ∀ b ∈ x :: fp, z.get? b = none) (hv : VRs s.heap args rs) :
    wpF X A (call (.ref f) (.ref x :: rs)) (fun r s' => KpB (x :: fp) [] s s' ∧ MethO S' x fp s s' ∧ RepV s'.heap d r []) s :=
  wpAny_call (h A s rs x fp z hA hb hz hbare hS hnd hf hv)
theorem MethC.ofBody {X : Cx} {n : Nat} {a : Addr} {o : Obj} {fd : FuncData} {body : List Stmt} {self : Str} {names : List Str} {args : List DV} {d : DV} {S S' : OSpec} (ho : (a, o) ∈ X.C.objs) (hd : o.data = .func fd) (hbody : fd.body = .stmts body)
    (hclo : fd.closure = []) (hg : fd.globals = mainGlobals) (hbu : fd.builtins = builtinsNs) (hcd : ∀ h, Bs X.C h → h.CodeRec fd.code fd.qualname)
    (hbind : ∀ vals : List Value, vals.length = args.length + 1 → bindArgs fd ⟨vals, []⟩ = pure ((self :: names).zip vals)) (hkind : ∀ x ∈ self :: names, fd.scope.names.lookup x = some .local) (hself : self ∉ names) (hnames : names.Nodup) (hln : names.length = args.length)
    (hfree : ∀ x ∈ fd.scope.names, x.2 ≠ .free) (hnd : (fd.scope.names.map (·.1)).Nodup) (hcl : ∀ k, cellsFrom k fd.scope.names [] = []) (hoc : ((fd.scope.names.filter fun x => x.2 == .cell).map (·.1)) = []) (hco : fd.scope.isCoroutine = false) (hgen : fd.scope.isGenerator = false) (hk : fd.scope.kind = .function)
    (hsc : ∀ d ∈ args, d.sc = true) (hdsc : d.sc = true)
    (h : ∀ L z, Ex X n ⟨callEnvC fd L a, [], [], z⟩ body ⟨(self, .ref 0) :: names.zip (args.map AV.dv), [.other S]⟩ (fun fl σ' => retIs d fl σ' ∧ σ'.hp[0]? = some (.other S'))) : MethC X (n + 1) a S S' args d := fun A s rs x fp z hA hb hzs hbare hS hnf hz hv => by
  refine (codeAny_call_cells hA.room (hzs _ _ (hb.held _ ho)) hd (hb.keeps hzs).nolim (hcd _ (hb.keeps hzs)) hbody (hbind (.ref x :: rs) (by rw [List.length_cons, hv.length])) hclo (fun y hy => .inl (hkind _ (List.of_mem_zip (a := y.1) (b := y.2) hy).1)) (fun s₁ xc => ?_) hco hgen hk)
  have hav : AVs s.heap (.raw (.ref x) :: args.map AV.dv) (.ref x :: rs) := by
    refine ⟨_, _, rfl, rfl, ?_⟩
    clear xc hbind hln hsc h
    induction args generalizing rs with
    | nil => exact hv.nil_inv
    | cons d ds ih =>
      obtain ⟨r, rs', rfl, h1, h2⟩ := hv.cons_inv
      exact ⟨r, rs', rfl, h1, ih _ h2⟩
  have q0 := R.startV (fd := fd) (a := a) (names := self :: names) (hb.keeps hzs) hbare hav hg hbu hk hfree hnd xc
  have hfn : fnD fd s.heap.objs.size a s.heap = ⟨callEnvC fd s.heap.objs.size a, [], [], s.heap⟩ := by
    unfold fnD; rw [hcl, hoc]; rfl
  rw [hfn] at q0
  have hlen : ∀ {α : Type} (l : List (Str × α)), (l.map (·.1)).Nodup → ∀ y, l.reverse.lookup y = l.lookup y := fun {α} l hl y => by
    cases e : l.lookup y with
    | none =>
      cases e2 : l.reverse.lookup y with
      | none => rfl
      | some v =>
        have := lookup_of_nd hl (List.mem_reverse.mp (mem_of_lookup e2))
        exact (Option.some_ne_none _ (this.symm.trans e)).elim
    | some v =>
      have hm := List.mem_reverse.mpr (mem_of_lookup e)
      have : (l.reverse.map (·.1)).Nodup := by rw [List.map_reverse, List.Nodup, List.pairwise_reverse]; exact List.Pairwise.imp (fun h => Ne.symm h) hl
      exact lookup_of_nd this hm
  have hnz : (((self :: names).zip (AV.raw (.ref x) :: args.map AV.dv)).map (·.1)).Nodup := by
    rw [List.map_fst_zip (by simp [hln])]
    exact List.nodup_cons.mpr ⟨hself, hnames⟩
  have q1 : R X.C ⟨callEnvC fd s.heap.objs.size a, [], [], z⟩ (ghost s (x :: fp)) ⟨(self, .ref 0) :: names.zip (args.map AV.dv), [.other S]⟩ [x :: fp] s₁ := by
    refine q0.takeOver hb hzs (hcl _) (self := self) (o := .other S) ?_ (fun y v hy e => ?_) hz hnf hS _ fun y v e => ?_
    · rw [hlen _ hnz]; simp
    · rw [hlen _ hnz] at e
      simp only [List.zip_cons_cons, List.lookup_cons, beq_eq_false_iff_ne.mpr hy] at e
      have hm := (List.of_mem_zip (a := y) (b := v) (mem_of_lookup e)).2
      obtain ⟨d, hd, rfl⟩ := List.mem_map.mp hm
      exact ⟨d, rfl, hsc d hd⟩
    · rw [List.lookup_cons] at e
      by_cases hy : y = self
      · subst hy
        simp at e
        exact .inl ⟨rfl, e.symm⟩
      · refine .inr ⟨hy, ?_⟩
        rw [beq_eq_false_iff_ne.mpr hy] at e
        rw [hlen _ hnz]
        simp only [List.zip_cons_cons, List.lookup_cons, beq_eq_false_iff_ne.mpr hy]
        exact e
  refine wpAny_e (h s.heap.objs.size z _ (ghost s (x :: fp)) [x :: fp] s₁ (hA.deeper _) q1) fun f s2 hq1 => ?_
  obtain ⟨fl, σ', fps', q2, e2, r2, h2, h3⟩ := hq1
  obtain ⟨fp', e2⟩ := e2 0 x fp rfl
  have hrep := q2.obj 0 _ _ h3 e2
  have hnd2 : (x :: fp').Nodup := by
    have := q2.nd; unfold ownOf at this; rw [List.nodup_cons, List.nodup_append] at this
    exact List.Nodup.sublist (List.sublist_flatten_of_mem (List.mem_of_getElem? e2)) this.2.2.1
  have hsub : ∀ b ∈ fp', b ∈ fp ∨ s.heap.get? b = none := fun b hb => by
    have h1 := q2.fresh b (own_fps (mem_flatten_get e2 (List.mem_cons_of_mem _ hb)))
    rw [ghost_get] at h1
    split at h1
    · rename_i hm
      rcases List.mem_cons.mp hm with rfl | hm
      · exact absurd hb (List.nodup_cons.mp hnd2).1
      · exact .inl hm
    · exact .inr h1
  have hkp := ghost_kp q2.keep
  cases fl with
  | ret d' =>
    obtain rfl : d' = d := h2
    obtain ⟨r, fpr, rfl, h4, h5, h6⟩ := r2
    exact ⟨hkp, ⟨fp', hrep, hnd2, hsub⟩, (h4.sc_heap hdsc).1⟩
  | next =>
    obtain rfl : d = .none := h2
    obtain rfl : f = .next := r2
    exact ⟨hkp, ⟨fp', hrep, hnd2, hsub⟩, ⟨rfl, rfl⟩⟩
  | brk => exact h2.elim
  | cont => exact h2.elim
end Mine
end
section
open PySem PySem.Calls PyProof.Rows
set_option maxRecDepth 100000
namespace Mine
theorem Call_meth {X : Cx} {A : Around} {env : Env} {s : Shared} {o : Expr} {name : Str} {apos pos : Pos} {args : List Expr} {Q : Value → Shared → Prop}
    (hbase : attributeBase o name env (eval o env) = eval o env) (hfew : methodCallForm (args.length + ([] : List Keyword).length) (backTo pos (starEach args env)) (backToKw pos (keywordEach [] env)) = true) (hline : (apos.endLine == pos.line) = true)
    (h : wpF X A (eval o env) (fun ov s₁ => wpF X A (getMethod ov name (do return (← importBound o env).getD true)) (fun p s₂ => wpF X A (callWith pos p.1 p.2 (backTo pos (starEach args env)) []) Q s₂) s₁) s) :
    wpF X A (eval (.Call (.Attribute o name apos) args [] pos) env) Q s := by
  rw [arm_eval_Call, hbase]
  refine wpAny_bind (wpAny_mono h (fun ov s₁ h₁ => ?_) fun _ _ e => e)
  refine wpAny_bind (wpAny_standAt ?_)
  have hpos : methodCallPos true o env apos pos = pure pos := by unfold methodCallPos; simp [hline]
  unfold methodCall
  rw [hfew]
  refine wpAny_bind (wpAny_holding (wpAny_mono h₁ (fun p s₂ h₂ => ?_) fun _ _ e => e))
  exact wpAny_bind (wpAny_of_eq hpos h₂)
structure RdFn where
  body : List Stmt
  params : Arguments
  scope : Scope
  code : Value
  qual : Str
inductive RdAt (K : RdFn) (h : Heap) (g c1 c2 : Addr) : Prop
  | mk (og : Obj) (fd : FuncData) (h1 : h.get? g = some og) (h2 : og.cls = .type "function") (h3 : og.data = .func fd) (h4 : fd.body = .stmts K.body) (h5 : fd.params = K.params) (h6 : fd.scope = K.scope) (h7 : fd.globals = mainGlobals) (h8 : fd.builtins = builtinsNs) (h9 : fd.code = K.code) (h10 : fd.qualname = K.qual)
    (h11 : fd.defaults = .none) (h12 : fd.kwdefaults = .none) (h13 : fd.closure.lookup (Str.ofString "place") = some c1) (h14 : fd.closure.lookup (Str.ofString "text") = some c2) (h15 : ∀ p ∈ fd.closure, p.2 = c1 ∨ p.2 = c2)
theorem RdAt.at {K : RdFn} {h h' : Heap} {g c1 c2 : Addr} (i : RdAt K h g c1 c2) (k : ∀ o, h.get? g = some o → h'.get? g = some o) : RdAt K h' g c1 c2 := by
  obtain ⟨og, fd, h1, h2, h3, h4, h5, h6, h7, h8, h9, h10, h11, h12, h13, h14, h15⟩ := i
  exact ⟨og, fd, k _ h1, h2, h3, h4, h5, h6, h7, h8, h9, h10, h11, h12, h13, h14, h15⟩
theorem R.startC {C : Gl} {s : Shared} {h' : Heap} {tk : Nat} {env : Env} {L c1 c2 pl : Addr} {z : Heap} {text : Str} {place k : Int} {t1 t2 : Tok} {v : Value} {clo : List (Str × Addr)} {m : Str → Option Value} (hb : Bs C z) (hz : ∀ b o, z.get? b = some o → s.heap.get? b = some o) (hbare : AllBare s.gens)
    (hL : L = s.heap.objs.size) (hloc : env.locals = L) (hcel : env.cells = clo) (hkd : env.scope.kind = .function) (hg : env.globals = mainGlobals) (hbu : env.builtins = builtinsNs)
    (hn : h'.Ns L m) (hm : m (Str.ofString "size") = some v) (hk : ∀ b o, s.heap.get? b = some o → h'.get? b = some o)
    (h1 : clo.lookup (Str.ofString "place") = some c1) (h2 : clo.lookup (Str.ofString "text") = some c2) (h3 : ∀ p ∈ clo, p.2 = c1 ∨ p.2 = c2) (hv : v = .int k t1)
    (i1 : s.heap.IsCell c1 (some (.ref pl))) (i2 : s.heap.IsCell c2 (some (.str text t2))) (hp : s.heap.PlainList pl #[.int place tk]) (hnd : [c1, c2, pl].Nodup) (hzf : ∀ b ∈ [c1, c2, pl], z.get? b = none)
    (hkp : env.kindOf (Str.ofString "place") = some .free) (hkt : env.kindOf (Str.ofString "text") = some .free) (hks : env.kindOf (Str.ofString "size") = some .local) {tk' : Nat} :
    R C ⟨env, [c1, c2], [], z⟩ (ghost s [c1, c2, pl]) ⟨[(Str.ofString "size", .dv (.int k)), (Str.ofString "place", .ref 0), (Str.ofString "text", .dv (.str text))], [.pl [.int place]]⟩ [[pl]] { s with heap := h', toks := tk' } := by
  have al1 : ∃ o, s.heap.get? c1 = some o := by obtain ⟨o, e, _⟩ := i1; exact ⟨o, e⟩
  have al2 : ∃ o, s.heap.get? c2 = some o := by obtain ⟨o, e, _⟩ := i2; exact ⟨o, e⟩
  have al3 : ∃ o, s.heap.get? pl = some o := by obtain ⟨_, e⟩ := hp; exact ⟨_, e⟩
  have hLn : s.heap.get? L = none := by rw [hL]; exact Heap.get?_none_of_le (Nat.le_refl _)
  have hne : ∀ b, (∃ o, s.heap.get? b = some o) → L ≠ b := fun b hqp hh => by obtain ⟨o, e⟩ := hqp; rw [← hh, hLn] at e; cases e
  have hkc : ∀ c v, s.heap.IsCell c v → h'.IsCell c v := fun c v hqp => by obtain ⟨o, e, r⟩ := hqp; exact ⟨o, hk _ _ e, r⟩
  refine ⟨hb, fun b o e => ?_, ⟨fun b o _ e => ?_, fun _ _ _ e => e, id, rfl⟩, hbare, hkd, hg, hbu, ?_, fun b hb' => ?_, ⟨m, by rw [hloc]; exact hn, fun y u e1 e2 => ?_⟩, fun y u e1 e2 => ?_, fun c hc => ?_, fun y c e => ?_, fun y hy => (by cases hy), fun y w c hy => (by cases hy), rfl, fun i o f e1 e2 => ?_⟩
  · rw [ghost_get, if_neg fun hm' => by rw [hzf b hm'] at e; cases e]; exact hz b o e
  · rw [ghost_get] at e
    split at e
    · exact (Option.some_ne_none _ e.symm).elim
    · exact hk b o e
  · show (env.locals :: ([c1, c2] ++ [[pl]].flatten)).Nodup
    rw [hloc]
    refine List.nodup_cons.mpr ⟨fun hm' => ?_, by exact hnd⟩
    simp at hm'
    rcases hm' with e | e | e
    · exact hne _ al1 e
    · exact hne _ al2 e
    · exact hne _ al3 e
  · have hb' : b ∈ env.locals :: ([c1, c2] ++ [[pl]].flatten) := hb'
    rw [ghost_get]
    split
    · rfl
    · rename_i hn'
      rw [hloc] at hb'
      rcases List.mem_cons.mp hb' with rfl | hb'
      · exact hLn
      · exact absurd (by simpa using hb') (by simpa using hn')
  · have e1 : [(Str.ofString "size", AV.dv (.int k)), (Str.ofString "place", .ref 0), (Str.ofString "text", .dv (.str text))].lookup y = some u := e1
    have e2 : env.kindOf y = some .local := e2
    rw [List.lookup_cons] at e1
    split at e1
    · rename_i hy
      have hy : y = Str.ofString "size" := by simpa using hy
      subst hy
      obtain rfl := Option.some.inj e1
      exact ⟨v, hm, [], ⟨t1, hv⟩, rfl⟩
    · rw [List.lookup_cons] at e1
      split at e1
      · rename_i hy
        have hy : y = Str.ofString "place" := by simpa using hy
        subst hy; rw [hkp] at e2; cases e2
      · rw [List.lookup_cons] at e1
        split at e1
        · rename_i hy
          have hy : y = Str.ofString "text" := by simpa using hy
          subst hy; rw [hkt] at e2; cases e2
        · exact (Option.some_ne_none _ e1.symm).elim
  · have e1 : [(Str.ofString "size", AV.dv (.int k)), (Str.ofString "place", .ref 0), (Str.ofString "text", .dv (.str text))].lookup y = some u := e1
    have e2 : env.kindOf y = some .cell ∨ env.kindOf y = some .free := e2
    rw [List.lookup_cons] at e1
    split at e1
    · rename_i hy
      have hy : y = Str.ofString "size" := by simpa using hy
      subst hy; rw [hks] at e2; rcases e2 with e2 | e2 <;> cases e2
    · rw [List.lookup_cons] at e1
      split at e1
      · rename_i hy
        have hy : y = Str.ofString "place" := by simpa using hy
        subst hy
        obtain rfl := Option.some.inj e1
        exact ⟨c1, .ref pl, by rw [hcel]; exact h1, hkc _ _ i1, pl, [], rfl, rfl⟩
      · rw [List.lookup_cons] at e1
        split at e1
        · rename_i hy
          have hy : y = Str.ofString "text" := by simpa using hy
          subst hy
          obtain rfl := Option.some.inj e1
          exact ⟨c2, .str text t2, by rw [hcel]; exact h2, hkc _ _ i2, [], ⟨t2, rfl⟩, rfl⟩
        · exact (Option.some_ne_none _ e1.symm).elim
  · have hc : c ∈ [c1, c2] := hc
    rcases List.mem_cons.mp hc with rfl | hc
    · exact ⟨_, hkc _ _ i1⟩
    · rw [List.mem_singleton.mp hc]; exact ⟨_, hkc _ _ i2⟩
  · have e : env.cells.lookup y = some c := e
    rw [hcel] at e
    rcases h3 _ (mem_of_lookup e) with rfl | rfl
    · exact .inl (by (exact .head _))
    · exact .inl (by (exact .tail _ (.head _)))
  · have e1 : [AObj.pl [.int place]][i]? = some o := e1
    have e2 : [[pl]][i]? = some f := e2
    cases i with
    | zero =>
      simp at e1 e2
      subst e1 e2
      obtain ⟨nn, hp⟩ := hp
      exact ⟨pl, [], [.int place tk], rfl, ⟨nn, hk _ _ hp⟩, _, [], [], [], rfl, rfl, ⟨⟨_, rfl⟩, rfl⟩, rfl, rfl⟩
    | succ i => simp at e1
end Mine
end
section
open PySem PySem.Calls PyProof.Rows
set_option maxRecDepth 100000
namespace Mine
noncomputable def topS (i : Nat) : Stmt := PySem.Challenge.pw_rw0042_02.main.body.getD i (.Pass default)
noncomputable def iI : Nat := 5
noncomputable def escIV : List Nat → Nat → Bool → List IV
  | [], i, true => [.two (.int ((i : Int) - 1)) (.str ⟨#[92]⟩)]
  | [], _, false => []
  | c :: r, i, true => .two (.int i) (.str ⟨#[92, c]⟩) :: escIV r (i + 1) false
  | c :: r, i, false => if c = 92 then escIV r (i + 1) true else .two (.int i) (.str ⟨#[c]⟩) :: escIV r (i + 1) false
theorem escIV_1 : ∀ (x : Nat), escIV [] x true = [IV.two (DV.int ((x : Int) - 1)) (DV.str { cps := #[92] })] := by intros; rfl
theorem escIV_2 : ∀ (x : Nat), escIV [] x false = [] := by intros; rfl
theorem escIV_3 : ∀ (x c : Nat) (r : List Nat), escIV (c :: r) x true = IV.two (DV.int (x : Int)) (DV.str { cps := #[92, c] }) :: escIV r (x + 1) false := by intros; rfl
theorem escIV_4 : ∀ (x c : Nat) (r : List Nat), escIV (c :: r) x false = if c = 92 then escIV r (x + 1) true else IV.two (DV.int (x : Int)) (DV.str { cps := #[c] }) :: escIV r (x + 1) false := by intros; rfl
noncomputable def forT (s : Stmt) : Expr := (sParts s).2.2.2.2.2.1
noncomputable def forB (s : Stmt) : List Stmt := (sParts s).2.2.1
noncomputable def ifT (s : Stmt) : Expr := (sParts s).2.2.2.2.2.1
noncomputable def ifB (s : Stmt) : List Stmt := (sParts s).2.2.1
noncomputable def ifE (s : Stmt) : List Stmt := (sParts s).2.2.2.1
noncomputable def yldE (s : Stmt) : Expr := (eParts (sParts s).2.2.2.2.2.1).2.2.1
noncomputable def tupE (e : Expr) : List Expr := (eParts e).1
noncomputable def tupP (e : Expr) : Pos := (eParts e).2.2.2.2
noncomputable def asgE (s : Stmt) : Expr := (sParts s).2.2.2.2.2.1
noncomputable def stN (l : List Stmt) (i : Nat) : Stmt := l.getD i (.Pass default)
noncomputable def escS (y : Str) (i : Nat) (b : Bool) : St := ⟨[(Str.ofString "pos", .dv (.int (if i = 0 then 0 else (i : Int) - 1))), (Str.ofString "escape", .dv (.bool b)), (Str.ofString "addr", .dv (.str y))], []⟩
section
variable {X : Cx} {n : Nat} {a : Addr} {pm cd doc : Value}
theorem wakes {D : FD} {σ : St} {W : List Addr} {ei : List Addr} {A : Around} {RE : GenEnd} {m : Nat} {c : Code} {t : Sem Fin} {fs : List Frame} {s₀ s : Shared} {v : Value} {items pre rest : List IV} {x : IV}
    (hW : W = ownOf D [] ++ ei) (hz : ∀ b ∈ ei, D.z.get? b = none) (hi : items = pre ++ x :: rest) (hm : m = rest.length) (q : R X.C D (ghost s₀ W) σ [] s) (hal : ∀ b ∈ ei, ∃ o, s.heap.get? b = some o) (hv : ItemAt s.heap x v)
    (hk : ∀ s'', R X.C D (ghost s'' W) σ [] s'' → (∀ b ∈ ei, ∀ o, s.heap.get? b = some o → s''.heap.get? b = some o) → Seg (model X.prog X.w) A RE (gY D.z W items) m s'' c t fs s'') :
    ∀ kap : Resume → Shared → Prop, (∀ s'', Seg (model X.prog X.w) A RE (gY D.z W items) m s'' c t fs s'' → kap (.send .none) s'') → gY D.z W items m s₀ v s kap := fun kap hkap => by
  subst hW
  refine ⟨⟨x, ?_, hv⟩, ghost_kp q.keep, fun b hb => ?_, fun s'' h1 h2 h3 => hkap s'' ?_⟩
  · subst hi hm
    have : (pre ++ x :: rest).length - 1 - rest.length = pre.length := by simp
    rw [this]; simp
  · rcases List.mem_append.mp hb with hb | hb
    · exact q.alive b hb
    · exact hal b hb
  · exact hk s'' (q.wakeG h2 (fun b hb => h1 b (List.mem_append_left _ hb)) h3 hz) fun b hb => h1 b (List.mem_append_right _ hb)
theorem enum_get {y : Str} {i : Nat} {c : Nat} (h : y.cps.toList[i]? = some c) : (enumIV y)[i]? = some (.two (.int i) (.str ⟨#[c]⟩)) := by
  unfold enumIV
  rw [List.getElem?_map, List.getElem?_zipIdx, h]
  simp
theorem esc_seg (htab : X.C.tab.lookup (Str.ofString "enumerate") = some (.type "enumerate")) (y : Str) (hy : y.length + 2 ≤ sizeLine) (hasc : y.cps.all (· < 128) = true) : ∀ L z A s, AOk A (n + 1) → R X.C (genD (topS iI) pm cd doc L a z) (ghost s (L :: [s.heap.objs.size + 1, s.heap.objs.size])) ⟨([Str.ofString "addr"].zip ([DV.str y].map AV.dv)).reverse, []⟩ [] s →
      Seg (model X.prog X.w) A.in1 (gR (L :: [s.heap.objs.size + 1, s.heap.objs.size])) (gY z (L :: [s.heap.objs.size + 1, s.heap.objs.size]) (escIV y.cps.toList 0 false)) (escIV y.cps.toList 0 false).length s (.func (dBody (topS iI)) (genD (topS iI) pm cd doc L a z).env)
        ((model X.prog X.w).den (.func (dBody (topS iI)) (genD (topS iI) pm cd doc L a z).env)) [] s := fun L z A s₀ hA q => by
  have hAf : ∀ {A : Around} {b : List Stmt} {E : Env}, AOk A (n + 1) → AOk (A.in1.over (.func b E) []) n := fun {A b E} hA => ⟨hA.1, by
    show A.depth + 0 + 1 + n < 1000; have := hA.2.1; omega, by show A.units + 1 + 0 + 3 + 16 * n < 9000; have := hA.2.2; lia⟩
  have hA1 := hAf (b := dBody (topS iI)) (E := (genD (topS iI) pm cd doc L a z).env) hA
  refine seg_func ?_
  refine seg_stmt (wpAny_Assign_Name (wpAny_Constant_int (R.storeLocalZ (v := .dv (.int 0)) (q.ext (Kp.tok _ _)) rfl ⟨[], ⟨_, rfl⟩, rfl⟩ fun s1 hz1 hk1 _ _ q1 => ⟨rfl, ?_⟩)) (by rfl))
  refine seg_stmt (wpAny_Assign_Name (wpAny_Constant_bool (R.storeLocalZ (v := .dv (.bool false)) q1 rfl ⟨[], rfl, rfl⟩ fun s2 hz2 hk2 _ _ q2 => ⟨rfl, ?_⟩)) (by rfl))
  have hsz : s2.heap.objs.size = s₀.heap.objs.size := hz2.trans hz1
  refine seg_execs_cons (seg_For (fun _ => rfl) (wpF_mono (enumStr_at (J := fun _ => True) rfl htab rfl rfl hasc _ _ _ _ hA1 q2) fun x s3 h3 => wpF_mono h3 fun it s4 hq1 p => ?_))
  refine Classical.byContradiction fun hnx => ?_
  (obtain ⟨k4, eit, It, W, it0, hst, hend⟩ := hq1) <;> (refine hnx ?_; clear hnx)
  subst eit
  rw [hsz] at W hst hend
  rw [hsz]
  have q4 := q2.ext k4
  have hL : ∀ b ∈ [s₀.heap.objs.size + 1, s₀.heap.objs.size], b ∉ ownOf (genD (topS iI) pm cd doc L a z) [] := fun b hb hm => by
    have hm : b ∈ [L] := hm
    rw [List.mem_singleton.mp hm] at hb
    obtain ⟨o, ho⟩ := q.alive L own_loc
    have hlt := Heap.lt_size ho
    rcases List.mem_cons.mp hb with e | hb
    · rw [e] at hlt; exact absurd hlt (Nat.not_lt.mpr (Nat.le_succ _))
    · rw [List.mem_singleton.mp hb] at hlt; exact absurd hlt (Nat.lt_irrefl _)
  have hz : ∀ b ∈ [s₀.heap.objs.size + 1, s₀.heap.objs.size], z.get? b = none := fun b hb => by
    cases e : z.get? b with
    | none => rfl
    | some o =>
      have := q.zk b o e
      rw [ghost_get, if_pos (List.mem_cons_of_mem _ hb)] at this; cases this
  generalize hW' : (L :: [s₀.heap.objs.size + 1, s₀.heap.objs.size]) = WW at *
  have hWW : WW = ownOf (genD (topS iI) pm cd doc L a z) [] ++ [s₀.heap.objs.size + 1, s₀.heap.objs.size] := hW'.symm
  generalize hfr : Frame.ret _ _ _ _ _ _ _ = fr
  have q4' : R X.C (genD (topS iI) pm cd doc L a z) (ghost s₀ WW) (escS y 0 false) [] s4 := q4.weak (SubL.lookup ⟨rfl, rfl, rfl, trivial⟩) rfl
  clear q q1 q2 q4
  generalize hei : [s₀.heap.objs.size + 1, s₀.heap.objs.size] = ei at *
  generalize hee : s₀.heap.objs.size + 1 = ea at *
  let st := stN (dBody (topS iI)) 2
  have key : ∀ (r : List Nat) (i : Nat) (esc : Bool) (pre : List IV) (s₀ s : Shared), i ≤ y.cps.toList.length → y.cps.toList.drop i = r → escIV y.cps.toList 0 false = pre ++ escIV r i esc → (esc = true → 0 < i) → It i s → R X.C (genD (topS iI) pm cd doc L a z) (ghost s₀ WW) (escS y i esc) [] s →
      Seg (model X.prog X.w) A.in1 (gR WW) (gY z WW (escIV y.cps.toList 0 false)) (escIV r i esc).length s₀ (.forLoop (forT st) (.ref ea) (forB st) [] (genD (topS iI) pm cd doc L a z).env) ((model X.prog X.w).den (.forLoop (forT st) (.ref ea) (forB st) [] (genD (topS iI) pm cd doc L a z).env)) [fr] s := by
    have hA2 : AOk (A.in1.over (.forLoop (forT st) (.ref ea) (forB st) [] (genD (topS iI) pm cd doc L a z).env) [fr]) n := by
      rw [← hfr]
      refine ⟨hA.1, ?_, ?_⟩
      · show A.depth + 1 + 0 + n < 1000; have := hA.2.1; omega
      · show A.units + 1 + 3 + 0 + 16 * n < 9000; have := hA.2.2; omega
    have hdis : ∀ (s₀ : Shared), ∀ b ∈ ei, b ∉ ownOf (genD (topS iI) pm cd doc L a z) [] ∧ (ghost s₀ WW).heap.get? b = none := fun s₀ b hb => ⟨hL b hb, by rw [ghost_get, if_pos]; rw [hWW]; exact List.mem_append_right _ hb⟩
    have hfg : splitAtGen [fr] = none ∧ [fr].any Frame.guarded = false := by rw [← hfr]; exact ⟨rfl, rfl⟩
    have hlen : (enumIV y).length = y.cps.toList.length := by simp [enumIV]
    intro r
    induction r with
    | nil =>
      intro i esc pre s₀ s hle hd hpre hesc hit q
      have hil : i = (enumIV y).length := by have := List.drop_eq_nil_iff.mp hd; rw [hlen]; (exact Nat.le_antisymm (by assumption) (by assumption))
      refine seg_forLoop (wpF_mono (hend _ s hA2 (by rw [← hil]; exact hit)) fun o s1 hq2 => ?_)
      obtain ⟨h1, k1, hal1⟩ := hq2
      subst h1
      have q1 := q.extB k1 (hdis s₀) (by simp)
      show Seg _ _ _ _ _ _ _ _ [fr] _
      rw [← hfr]
      refine seg_leaf _ ?_
      have hev : EvB X n (genD (topS iI) pm cd doc L a z) (escS y i esc) (ifT (stN (dBody (topS iI)) 3)) (DV.truth (.bool esc)) := EvB.val (EvO.name (d := .bool esc) rfl rfl) (by simp)
      refine seg_execs_cons (seg_If (wpF_mono (hev _ _ [] s1 hA1 q1) fun b s2 hq3 => ?_))
      refine Classical.byContradiction fun hnx => ?_
      (obtain ⟨k2, e2⟩ := hq3) <;> (refine hnx ?_; clear hnx)
      have q2 := q1.ext k2
      have e2 : b = esc := e2
      rw [e2]; clear e2
      cases esc with
      | true =>
        rw [if_pos rfl]
        have hi : i ≠ 0 := Nat.ne_of_gt (hesc rfl)
        have hp : EvP X n (genD (topS iI) pm cd doc L a z) (escS y i true) (yldE (stN (ifB (stN (dBody (topS iI)) 3)) 0)) (.two (.int ((i : Int) - 1)) (.str ⟨#[92]⟩)) :=
          EvP.tuple (EvOs.cons (EvO.name (by simp [escS, hi]) rfl) (EvOs.cons EvO.str.toO EvOs.nil))
        refine seg_execs_cons (seg_Expr_Yield rfl rfl rfl (wpAny_mono (hp _ _ [] s2 hA1 q2) (fun v s3 hq4 => ?_) fun _ _ x => x.elim) rfl rfl)
        obtain ⟨k3, hv⟩ := hq4
        refine fun kap hkap => wakes (ei := ei) (D := genD (topS iI) pm cd doc L a z) hWW hz hpre rfl (q2.ext k3) (fun b hb => ?_) hv (fun s'' q'' hk'' => ?_) kap (fun s'' h => hkap .none s'' h)
        · obtain ⟨o, ho⟩ := hal1 b hb
          exact ⟨o, (k2.trans k3).hp b o ho⟩
        · rw [hWW] at q''
          exact seg_end (.ok (.ret .none)) ⟨rfl, rfl, by rw [hWW]; exact ghost_kp q''.keep⟩
      | false =>
        rw [if_neg (by simp)]
        exact seg_end (.ok (.ret .none)) ⟨rfl, rfl, by rw [hWW] at q2; rw [hWW]; exact ghost_kp q2.keep⟩
    | cons c r ih =>
      intro i esc pre s₀ s hle hd hpre hesc hit q
      have hci : y.cps.toList[i]? = some c := by
        have := congrArg (·[0]?) hd
        simpa using this
      have hle' : i + 1 ≤ y.cps.toList.length := (List.getElem?_eq_some_iff.mp hci).1
      have hdr : y.cps.toList.drop (i + 1) = r := by
        rw [← List.drop_drop, hd]; rfl
      refine seg_forLoop (wpF_mono ((W _ (tupE (forT st)) 0 (tupP (forT st)) hA2).next _ _ [] s i q trivial (Fext.refl _) hit) fun o s1 hq5 => ?_)
      refine Classical.byContradiction fun hnx => ?_
      (obtain ⟨k1, h1⟩ := hq5) <;> (refine hnx ?_; clear hnx)
      have q1 := q.extB k1 (hdis s₀) (by simp)
      rw [enum_get hci] at h1
      obtain ⟨rr, rfl, h1⟩ := h1
      refine wpF_mono h1 fun _ s2 hq6 => ?_
      obtain ⟨k2, hit2, it2⟩ := hq6
      have q2 := q1.extB k2 (hdis s₀) (by simp)
      have hAs : As X n (genD (topS iI) pm cd doc L a z) (escS y i esc) (forT st) (.two (.int i) (.str ⟨#[c]⟩)) ⟨(Str.ofString "ch", .dv (.str ⟨#[c]⟩)) :: (Str.ofString "pos", .dv (.int i)) :: (escS y i esc).loc, []⟩ :=
        As.tuple2 rfl rfl rfl rfl
      obtain ⟨q2m, kg⟩ := q2.max
      refine wpF_mono (hAs _ _ [] s2 rr hA2 q2m hit2) fun _ s3 q3m => ?_
      have q3 := q3m.back kg q.zk
      have it3 : It (i + 1) s3 := hst _ _ _ it2 fun b hb o e => q3m.keep.hp b o (by rw [maxg_get, if_neg (hL b hb)]; exact e)
      have hal3 : ∀ b ∈ ei, ∃ o, s3.heap.get? b = some o := (W _ [] 0 default hA2).alive _ _ it3
      clear q3m q2m kg q2 q1
      have hev : EvB X n (genD (topS iI) pm cd doc L a z) ⟨(Str.ofString "ch", .dv (.str ⟨#[c]⟩)) :: (Str.ofString "pos", .dv (.int i)) :: (escS y i esc).loc, []⟩ (ifT (stN (forB st) 0)) (DV.truth (.bool esc)) := EvB.val (EvO.name (d := .bool esc) rfl rfl) (by simp)
      refine seg_execs_cons (seg_If (wpF_mono (hev _ _ [] s3 hA2 q3) fun b s4 hq7 => ?_))
      obtain ⟨k4, e4⟩ := hq7
      have q4 := q3.ext k4
      have it4 : It (i + 1) s4 := hst _ _ _ it3 fun b _ o e => k4.hp b o e
      have e4 : b = esc := e4
      rw [e4]; clear e4
      cases esc with
      | true =>
        rw [if_pos rfl]
        have hadd : BinA .Add (.str (Str.ofString "\\")) (.str ⟨#[c]⟩) (.str ⟨#[92, c]⟩) := BinA.addS (x := Str.ofString "\\") (y := ⟨#[c]⟩) (Nat.le_of_ble_eq_true rfl)
        have hp : EvP X n (genD (topS iI) pm cd doc L a z) ⟨(Str.ofString "ch", .dv (.str ⟨#[c]⟩)) :: (Str.ofString "pos", .dv (.int i)) :: (escS y i true).loc, []⟩ (yldE (stN (ifB (stN (forB st) 0)) 0)) (.two (.int i) (.str ⟨#[92, c]⟩)) :=
          EvP.tuple (EvOs.cons (EvO.name rfl rfl) (EvOs.cons (EvF.bin EvO.str.toO (EvO.name rfl rfl) hadd).toO EvOs.nil))
        refine seg_execs_cons (seg_Expr_Yield hfg.1 rfl hfg.2 (wpAny_mono (hp _ _ [] s4 hA2 q4) (fun v s5 hq8 => ?_) fun _ _ x => x.elim) rfl rfl)
        obtain ⟨k5, hv⟩ := hq8
        refine fun kap hkap => wakes (ei := ei) (D := genD (topS iI) pm cd doc L a z) hWW hz hpre rfl (q4.ext k5) (fun b hb => ?_) hv (fun s'' q'' hk'' => ?_) kap (fun s'' h => hkap .none s'' h)
        · obtain ⟨o, ho⟩ := hal3 b hb
          exact ⟨o, (k4.trans k5).hp b o ho⟩
        · have it5 : It (i + 1) s'' := hst _ _ _ it4 fun b hb o e => hk'' b hb o (k5.hp b o e)
          refine seg_stmt (wpAny_Assign_Name (wpAny_Constant_bool (R.storeLocalZ (v := .dv (.bool false)) q'' rfl ⟨[], rfl, rfl⟩ fun s6 hz6 hk6 _ _ q6 => ⟨rfl, ?_⟩)) (by rfl))
          refine seg_again rfl (ih (i + 1) false (pre ++ [.two (.int i) (.str ⟨#[92, c]⟩)]) s'' s6 hle' hdr (by rw [hpre]; simp [escIV_1, escIV_2, escIV_3, escIV_4]) (by simp) (hst _ _ _ it5 fun b hb o e => hk6 b o (fun hh => hL b hb (by rw [hh]; exact own_loc)) e) (q6.weak (SubL.lookup ⟨?_, rfl, rfl, trivial⟩) rfl))
          show some _ = some _
          simp
      | false =>
        rw [if_neg (by simp)]
        have hev2 : EvB X n (genD (topS iI) pm cd doc L a z) ⟨(Str.ofString "ch", .dv (.str ⟨#[c]⟩)) :: (Str.ofString "pos", .dv (.int i)) :: (escS y i false).loc, []⟩ (ifT (stN (ifE (stN (forB st) 0)) 0)) ((⟨#[c]⟩ : Str) == Str.ofString "\\") := EvB.cmp (EvO.name rfl rfl) EvO.str.toO .eqS
        refine seg_execs_cons (seg_If (wpF_mono (hev2 _ _ [] s4 hA2 q4) fun b s5 hq9 => ?_))
        obtain ⟨k5, e5⟩ := hq9
        have q5 := q4.ext k5
        have it5 : It (i + 1) s5 := hst _ _ _ it4 fun b _ o e => k5.hp b o e
        have hcc : b = decide (c = 92) := by
          rw [e5]
          by_cases h : c = 92
          · subst h; rfl
          · have : (⟨#[c]⟩ : Str) ≠ Str.ofString "\\" := fun e => h (by
              have : some c = some 92 := congrArg (fun (x : Str) => x.cps[0]?) e
              simpa using this)
            simp [h, this]
        rw [hcc]; clear hcc e5
        by_cases h : c = 92
        · rw [if_pos (by simp [h])]
          have hE : escIV (c :: r) i false = escIV r (i + 1) true := by simp [escIV_1, escIV_2, escIV_3, escIV_4, h]
          rw [hE] at hpre ⊢
          refine seg_stmt (wpAny_Assign_Name (wpAny_Constant_bool (R.storeLocalZ (v := .dv (.bool true)) q5 rfl ⟨[], rfl, rfl⟩ fun s6 hz6 hk6 _ _ q6 => ⟨rfl, ?_⟩)) (by rfl))
          refine seg_again rfl (ih (i + 1) true pre s₀ s6 hle' hdr hpre (by omega) (hst _ _ _ it5 fun b hb o e => hk6 b o (fun hh => hL b hb (by rw [hh]; exact own_loc)) e) (q6.weak (SubL.lookup ⟨?_, rfl, rfl, trivial⟩) rfl))
          show some _ = some _
          simp
        · rw [if_neg (by simp [h])]
          have hE : escIV (c :: r) i false = .two (.int i) (.str ⟨#[c]⟩) :: escIV r (i + 1) false := by simp [escIV_1, escIV_2, escIV_3, escIV_4, h]
          rw [hE] at hpre ⊢
          have hp : EvP X n (genD (topS iI) pm cd doc L a z) ⟨(Str.ofString "ch", .dv (.str ⟨#[c]⟩)) :: (Str.ofString "pos", .dv (.int i)) :: (escS y i false).loc, []⟩ (yldE (stN (ifE (stN (ifE (stN (forB st) 0)) 0)) 0)) (.two (.int i) (.str ⟨#[c]⟩)) :=
            EvP.tuple (EvOs.cons (EvO.name rfl rfl) (EvOs.cons (EvO.name rfl rfl) EvOs.nil))
          refine seg_execs_cons (seg_Expr_Yield hfg.1 rfl hfg.2 (wpAny_mono (hp _ _ [] s5 hA2 q5) (fun v s6 hq10 => ?_) fun _ _ x => x.elim) rfl rfl)
          obtain ⟨k6, hv⟩ := hq10
          refine fun kap hkap => wakes (ei := ei) (D := genD (topS iI) pm cd doc L a z) hWW hz hpre rfl (q5.ext k6) (fun b hb => ?_) hv (fun s'' q'' hk'' => ?_) kap (fun s'' h => hkap .none s'' h)
          · obtain ⟨o, ho⟩ := hal3 b hb
            exact ⟨o, ((k4.trans k5).trans k6).hp b o ho⟩
          · have it6 : It (i + 1) s'' := hst _ _ _ it5 fun b hb o e => hk'' b hb o (k6.hp b o e)
            refine seg_again rfl (ih (i + 1) false (pre ++ [.two (.int i) (.str ⟨#[c]⟩)]) s'' s'' hle' hdr (by rw [hpre]; simp) (by simp) it6 (q''.weak (SubL.lookup ⟨?_, rfl, rfl, trivial⟩) rfl))
            show some _ = some _
            simp
  exact key _ 0 false [] s₀ s4 (Nat.zero_le _) rfl rfl (by simp) it0 q4'
end
end Mine
namespace Mine
theorem escIV_shape : ∀ (l : List Nat) (i : Nat) (b : Bool), ∀ x ∈ escIV l i b, ∃ (p : Int) (c : Str), x = .two (.int p) (.str c)
  | [], i, true, x, h => by simp [escIV_1, escIV_2, escIV_3, escIV_4] at h; exact ⟨_, _, h⟩
  | [], _, false, x, h => by simp [escIV_1, escIV_2, escIV_3, escIV_4] at h
  | c :: r, i, true, x, h => by
    simp only [escIV_1, escIV_2, escIV_3, escIV_4, List.mem_cons] at h
    rcases h with rfl | h
    · exact ⟨_, _, rfl⟩
    · exact escIV_shape r _ _ x h
  | c :: r, i, false, x, h => by
    simp only [escIV_1, escIV_2, escIV_3, escIV_4] at h
    split at h
    · exact escIV_shape r _ _ x h
    · rcases List.mem_cons.mp h with rfl | h
      · exact ⟨_, _, rfl⟩
      · exact escIV_shape r _ _ x h
theorem escIV_len : ∀ (l : List Nat) (i : Nat) (b : Bool), (escIV l i b).length ≤ l.length + 1
  | [], i, true => by simp [escIV_1, escIV_2, escIV_3, escIV_4]
  | [], _, false => by simp [escIV_1, escIV_2, escIV_3, escIV_4]
  | c :: r, i, true => by simp only [escIV_1, escIV_2, escIV_3, escIV_4, List.length_cons]; have := escIV_len r (i + 1) false; omega
  | c :: r, i, false => by
    simp only [escIV_1, escIV_2, escIV_3, escIV_4]
    split
    · have := escIV_len r (i + 1) true; simp only [List.length_cons]; (exact Nat.le_succ_of_le (by assumption))
    · simp only [List.length_cons]; have := escIV_len r (i + 1) false; (exact Nat.lt_succ_of_le (by assumption))
inductive FnG (X : Cx) (i : Nat) (a : Addr) : Prop
  | mk (pm cd doc : Value) (h1 : X.C.tab.lookup (dName (topS i)) = some (.ref a)) (h2 : FnAt X a (topS i) pm cd doc)
theorem esc_call {X : Cx} {n : Nat} {D : FD} {σ : St} {J : St → Prop} {ts : List Expr} {tk : Nat} {tp : Pos} {p pos : Pos} {e : Expr} {y : Str} {a : Addr} (hk : D.env.kindOf (Str.ofString "_iter_escaped_chars") = some .globalImplicit) (hf : FnG X iI a)
    (htab : X.C.tab.lookup (Str.ofString "enumerate") = some (.type "enumerate")) (h : EvO X (n + 1) D σ e (.str y)) (hy : y.length + 2 ≤ sizeLine) (hasc : y.cps.all (· < 128) = true) (hse : ∀ env, starEach [e] env = [(false, eval e env)] := by intro _; rfl)
    (hc : ∀ env, eval (.Call (.Name (Str.ofString "_iter_escaped_chars") p) [e] [] pos) env = (do callWith pos (← eval (.Name (Str.ofString "_iter_escaped_chars") p) env) [] (backTo pos (starEach [e] env)) (backToKw pos (keywordEach [] env))) := by intro _; rfl) :
    EvID X (n + 1) D σ (.Tuple ts tk tp) (.Call (.Name (Str.ofString "_iter_escaped_chars") p) [e] [] pos) (escIV y.cps.toList 0 false) J := by
  obtain ⟨pm, cd, doc, hv, hf⟩ := hf
  refine EvID.gen hk hv hf [Str.ofString "addr"] (sc_all rfl) (EvOs.cons h EvOs.nil (fun env => hse env)) (fun vals hv => ?_) (by decide) (by decide) (by decide) (fun _ => rfl) rfl rfl rfl rfl (esc_seg htab y hy hasc) (by decide) (fun env => hse env) hc
  obtain ⟨v, rfl⟩ := len1 hv
  rfl
end Mine
end
section
open PySem PySem.Calls PyProof.Rows
set_option maxRecDepth 100000
namespace Mine
noncomputable abbrev StT := Int × Option Int × List Str
noncomputable def stripStep (y : Str) (t : StT) : IV → StT
  | .two (.int pos) (.str ch) =>
    if ch == Str.ofString "\"" then
      match t.2.1 with
      | none => (t.1, some pos, t.2.2)
      | some o => (pos + 1, none, if t.1 != o then t.2.2 ++ [Txt.slice y (some t.1) (some o)] else t.2.2)
    else t
  | _ => t
noncomputable def stripT (y : Str) : StT := (escIV y.cps.toList 0 false).foldl (stripStep y) (0, none, [])
noncomputable def stripO (y : Str) : Str :=
  if Txt.contains y (Str.ofString "\"") then Txt.join Str.empty (if (stripT y).1 < y.length then (stripT y).2.2 ++ [Txt.slice y (some (stripT y).1) none] else (stripT y).2.2) else y
noncomputable def optD : Option Int → DV
  | none => .none
  | some i => .int i
noncomputable def stripS (y : Str) (t : StT) : St := ⟨[(Str.ofString "start", .dv (.int t.1)), (Str.ofString "open_pos", .dv (optD t.2.1)), (Str.ofString "addr", .dv (.str y)), (Str.ofString "result", .ref 0)], [.pl (t.2.2.map .str)]⟩
noncomputable def StOk (y : Str) (j : Nat) (t : StT) : Prop := t.2.2.length ≤ j ∧ ∀ z ∈ t.2.2, z.length ≤ y.length
theorem strip_q0 {y : Str} {a pos : Int} {r : List Str} {ch : Str} : stripStep y (a, none, r) (.two (.int pos) (.str ch)) = if (ch == Str.ofString "\"") = true then (a, some pos, r) else (a, none, r) := rfl
theorem strip_q1 {y : Str} {a o pos : Int} {r : List Str} {ch : Str} : stripStep y (a, some o, r) (.two (.int pos) (.str ch)) = if (ch == Str.ofString "\"") = true then (pos + 1, none, if (a != o) = true then r ++ [Txt.slice y (some a) (some o)] else r) else (a, some o, r) := rfl
theorem strip_skip {y : Str} {t : StT} {pos : Int} {ch : Str} (h : (ch == Str.ofString "\"") = false) : stripStep y t (.two (.int pos) (.str ch)) = t := by
  show (if (ch == Str.ofString "\"") = true then _ else t) = t
  rw [h]; rfl
theorem StOk.step {y : Str} {j : Nat} {t : StT} (h : StOk y j t) (pos : Int) (ch : Str) : StOk y (j + 1) (stripStep y t (.two (.int pos) (.str ch))) := by
  obtain ⟨h1, h2⟩ := h
  obtain ⟨a, o, r⟩ := t
  cases o with
  | none => rw [strip_q0]; split <;> exact ⟨Nat.le_succ_of_le h1, h2⟩
  | some o =>
    rw [strip_q1]
    split
    · show (if (a != o) = true then r ++ [Txt.slice y (some a) (some o)] else r).length ≤ _ ∧ ∀ z ∈ (if (a != o) = true then r ++ [Txt.slice y (some a) (some o)] else r), _
      split
      · refine ⟨by rw [List.length_append]; exact Nat.succ_le_succ h1, fun z hz => ?_⟩
        rcases List.mem_append.mp hz with hz | hz
        · exact h2 z hz
        · rw [List.mem_singleton.mp hz]; exact Txt.slice_le y _ _
      · exact ⟨Nat.le_succ_of_le h1, h2⟩
    · exact ⟨Nat.le_succ_of_le h1, h2⟩
theorem sum_le {ys : List Str} {m : Nat} (h : ∀ z ∈ ys, z.length ≤ m) : (ys.map (·.length)).sum ≤ ys.length * m := by
  induction ys with
  | nil => simp
  | cons a r ih =>
    have h1 := h a List.mem_cons_self
    have h2 := ih fun z hz => h z (List.mem_cons_of_mem _ hz)
    simp only [List.map_cons, List.sum_cons, List.length_cons, Nat.succ_mul]
    omega
theorem fold_ok {y : Str} (items : List IV) (hs : ∀ x ∈ items, ∃ pos ch, x = .two (.int pos) (.str ch)) : ∀ j, j ≤ items.length → StOk y j ((items.take j).foldl (stripStep y) (0, none, []))
  | 0, _ => by simp [StOk]
  | j + 1, h => by
    have hj : j < items.length := h
    rw [List.take_add_one, List.getElem?_eq_getElem hj, List.foldl_append]
    obtain ⟨pos, ch, e⟩ := hs _ (List.getElem_mem hj)
    rw [e]
    exact (fold_ok items hs j (Nat.le_of_lt hj)).step pos ch
section
variable {X : Cx} {n : Nat} {aI aS aC : Addr}
theorem strip_ok {pm cd doc : Value} (hf : FnAt X aS (topS 6) pm cd doc) (hI : FnG X iI aI) (hen : X.C.tab.lookup (Str.ofString "enumerate") = some (.type "enumerate")) (hlen : X.C.tab.lookup (Str.ofString "len") = some (.builtin "len"))
    (y : Str) (hy : y.length ≤ 1000) (hasc : y.cps.all (· < 128) = true) : CallO X (n + 2) (.ref aS) [.str y] (.str (stripO y)) := by
  have hyz : y.length ≤ sizeLine := Nat.le_trans hy (by decide)
  refine hf.call [Str.ofString "addr"] (fun vals hv => ?_) (by decide) (by decide) (by decide) rfl rfl rfl fun L z hz => ?_
  · obtain ⟨v, rfl⟩ := len1 hv
    rfl
  refine Ex.ite (EvB.cmp EvO.str.toO (EvO.name rfl rfl) .ninS) (fun hb => ?_) fun hb => Ex.nil ?_
  · refine Ex.ret ((EvO.name rfl rfl).toF rfl) ?_
    have hb : Txt.contains y (Str.ofString "\"") = false := by simpa using hb
    show DV.str _ = DV.str _
    rw [stripO, hb]; (rfl)
  have hb : Txt.contains y (Str.ofString "\"") = true := by simpa using hb
  refine Ex.assign EvO.int rfl ?_
  refine Ex.assign EvO.none rfl ?_
  refine Ex.assignNil rfl ?_
  have hlen' := escIV_len y.cps.toList 0 false
  have hyl : y.cps.toList.length = y.length := by rfl
  refine Ex.forD (T := StT) (J := fun _ => True) (escIV y.cps.toList 0 false) (fun _ t => stripS y t) (fun j t => t = ((escIV y.cps.toList 0 false).take j).foldl (stripStep y) (0, none, []) ∧ j ≤ (escIV y.cps.toList 0 false).length) (0, none, [])
    (esc_call rfl hI hen (EvO.name rfl rfl) (Nat.le_trans (Nat.add_le_add_right hy 2) (by decide)) hasc) ⟨rfl, Nat.zero_le _⟩ ⟨⟨rfl, rfl, rfl, rfl, trivial⟩, rfl, [], rfl⟩ (fun j t _ => by simp [stripS, St.put]) (fun _ _ _ => trivial) (fun j t x ⟨ht, hj⟩ hx => ?_) fun t ht => ?_
  · have hjl : j < (escIV y.cps.toList 0 false).length := (List.getElem?_eq_some_iff.mp hx).1
    have hok := fold_ok (y := y) (escIV y.cps.toList 0 false) (escIV_shape _ _ _) j hj
    rw [← ht] at hok
    have hnext : stripStep y t x = ((escIV y.cps.toList 0 false).take (j + 1)).foldl (stripStep y) (0, none, []) := by
      rw [List.take_add_one, hx, List.foldl_append, ← ht]; rfl
    refine Classical.byContradiction fun hnx => ?_
    (obtain ⟨pos, ch, rfl⟩ := escIV_shape _ _ _ x (List.mem_of_getElem? hx)) <;> (refine hnx ?_; clear hnx)
    refine ⟨_, As.tuple2 rfl rfl rfl rfl, ?_⟩
    refine Ex.ite (EvB.cmp (EvO.name rfl rfl) EvO.str.toO .eqS) (fun hc => ?_) fun hc => Ex.nil (Ex.nil ⟨t, ⟨?_, hjl⟩, ⟨rfl, rfl, rfl, rfl, trivial⟩, rfl, [], rfl⟩)
    · obtain ⟨st, op, res⟩ := t
      have hres : (res.map DV.str).length ≤ sizeLine := by
        have := hok.1
        simp only [List.length_map]
        exact Nat.le_trans (by have : res.length ≤ j := this; lia : res.length ≤ 1001) (by decide)
      cases op with
      | none =>
        refine Ex.ite (b := true) (EvB.cmp (a := .none) (EvO.name rfl rfl) EvO.none.toO .isNone) (fun _ => ?_) (by simp)
        refine Ex.assign ((EvO.name rfl rfl).toF rfl) rfl (Ex.nil (Ex.nil (Ex.nil ⟨(st, some pos, res), ⟨?_, hjl⟩, ⟨rfl, rfl, rfl, rfl, trivial⟩, rfl, [], rfl⟩)))
        rw [← hnext, strip_q0, if_pos hc]
      | some o =>
        refine Ex.ite (b := false) (EvB.cmp (a := .int o) (EvO.name rfl rfl) EvO.none.toO .isNoneI) (by simp) fun _ => ?_
        refine Ex.ite (EvB.cmp (EvO.name (d := .int st) rfl rfl) (EvO.name (d := .int o) rfl rfl) .neI) (fun hne => ?_) fun hne => ?_
        · refine Ex.append (k := 0) rfl rfl rfl (EvF.sliceS (EvO.name rfl rfl) (.some (EvO.name (d := .int st) rfl rfl)) (.some (EvO.name (d := .int o) rfl rfl)) hyz) hres (Ex.nil ?_)
          refine Ex.assign (EvF.bin (EvO.name rfl rfl) EvO.int.toO .addI) rfl (Ex.assign EvO.none rfl (Ex.nil (Ex.nil (Ex.nil ⟨(pos + 1, none, res ++ [Txt.slice y (some st) (some o)]), ⟨?_, hjl⟩, ⟨rfl, rfl, rfl, rfl, trivial⟩, rfl, [], ?_⟩))))
          · rw [← hnext]
            have hne' : (st != o) = true := hne
            rw [strip_q1, if_pos hc, if_pos hne']
          · simp [stripS, St.put]
        · refine Ex.nil ?_
          refine Ex.assign (EvF.bin (EvO.name rfl rfl) EvO.int.toO .addI) rfl (Ex.assign EvO.none rfl (Ex.nil (Ex.nil (Ex.nil ⟨(pos + 1, none, res), ⟨?_, hjl⟩, ⟨rfl, rfl, rfl, rfl, trivial⟩, rfl, [], rfl⟩))))
          rw [← hnext]
          have hne' : (st != o) = false := hne
          rw [strip_q1, if_pos hc, if_neg (by rw [hne']; decide)]
    · rw [← hnext, strip_skip hc]
  · have ht' : t = stripT y := by rw [ht.1, List.take_length]; rfl
    have hok := fold_ok (y := y) (escIV y.cps.toList 0 false) (escIV_shape _ _ _) _ (Nat.le_refl _)
    rw [List.take_length] at hok
    have hok : StOk y (escIV y.cps.toList 0 false).length t := by rw [ht']; exact hok
    have hout : stripO y = Txt.join Str.empty (if t.1 < y.length then t.2.2 ++ [Txt.slice y (some t.1) none] else t.2.2) := by rw [ht', stripO, if_pos hb]
    obtain ⟨st, op, res⟩ := t
    have hrl : res.length ≤ 1001 := by have : res.length ≤ (escIV y.cps.toList 0 false).length := hok.1; omega
    refine Ex.nil (Ex.ite (EvB.cmp (EvO.name (d := .int st) rfl rfl) (EvF.callB rfl hlen (EvOs.cons (EvO.name rfl rfl) EvOs.nil) (CallO.lenS hyz)).toO .ltI) (fun hlt => ?_) fun hlt => Ex.nil ?_)
    · refine Ex.append (k := 0) rfl rfl rfl (EvF.sliceS (EvO.name rfl rfl) (.some (EvO.name (d := .int st) rfl rfl)) .none hyz) (by simp only [List.length_map]; exact Nat.le_trans hrl (by decide)) (Ex.nil ?_)
      refine Ex.ret (EvF.join (texts := res ++ [Txt.slice y (some st) none]) EvO.str.toO ?_ (joinOk_of ?_)) ?_
      · exact EvO.namePl (k := 0) rfl rfl (by simp [stripS])
      · have h1 := sum_le (ys := res ++ [Txt.slice y (some st) none]) (m := y.length) (fun z hz => by
          rcases List.mem_append.mp hz with hz | hz
          · exact hok.2 z hz
          · rw [List.mem_singleton.mp hz]; exact Txt.slice_le y _ _)
        have h2 : (res ++ [Txt.slice y (some st) none]).length * y.length ≤ 1002 * 1000 := Nat.mul_le_mul (by simp; omega) hy
        have h3 : (Str.ofString "").length = 0 := rfl
        rw [h3]; lia
      · show DV.str _ = DV.str _
        have hlt : st < y.length := by simpa using hlt
        rw [hout]; simp only [hlt, if_true]; rfl
    · refine Ex.ret (EvF.join (texts := res) EvO.str.toO (EvO.namePl (k := 0) rfl rfl rfl) (joinOk_of ?_)) ?_
      · have h1 := sum_le (ys := res) (m := y.length) hok.2
        have h2 : res.length * y.length ≤ 1002 * 1000 := Nat.mul_le_mul (by (exact Nat.le_succ_of_le (by assumption))) hy
        have h3 : (Str.ofString "").length = 0 := rfl
        rw [h3]; omega
      · show DV.str _ = DV.str _
        have hlt : ¬ st < y.length := by simpa using hlt
        rw [hout]; simp only [hlt, if_false]; rfl
noncomputable def chkGo : List IV → Int → Bool
  | [], k => k == 0
  | .two _ (.str ch) :: r, k => if ch == Str.ofString "(" then chkGo r (k + 1) else if ch == Str.ofString ")" then if k - 1 < 0 then false else chkGo r (k - 1) else chkGo r k
  | _ :: r, k => chkGo r k
noncomputable def chkO (y : Str) : Bool := chkGo (escIV (stripO y).cps.toList 0 false) 0
noncomputable def chkS (y : Str) (k : Int) : St := ⟨[(Str.ofString "opens", .dv (.int k)), (Str.ofString "addr", .dv (.str y))], []⟩
theorem check_ok {pm cd doc : Value} (hf : FnAt X aC (topS 7) pm cd doc) (hS : FnG X 6 aS) (hI : FnG X iI aI) (hen : X.C.tab.lookup (Str.ofString "enumerate") = some (.type "enumerate")) (hlen : X.C.tab.lookup (Str.ofString "len") = some (.builtin "len"))
    (y : Str) (hy : y.length ≤ 1000) (hasc : y.cps.all (· < 128) = true) (hy' : (stripO y).length ≤ 1000) (hasc' : (stripO y).cps.all (· < 128) = true) : CallO X (n + 3) (.ref aC) [.str y] (.bool (chkO y)) := by
  refine hf.call [Str.ofString "addr"] (fun vals hv => ?_) (by decide) (by decide) (by decide) rfl rfl rfl fun L z hz => ?_
  · obtain ⟨v, rfl⟩ := len1 hv
    rfl
  obtain ⟨pmS, cdS, docS, hvS, hfS⟩ := hS
  refine Ex.assign (d := .str (stripO y)) (EvF.call rfl hvS hfS.isFn (EvOs.cons (EvO.name rfl rfl) EvOs.nil) (strip_ok hfS hI hen hlen y hy hasc)) rfl ?_
  refine Ex.assign EvO.int rfl ?_
  refine Ex.forD (T := Int) (J := fun _ => True) (escIV (stripO y).cps.toList 0 false) (fun _ t => chkS (stripO y) t) (fun j t => chkGo ((escIV (stripO y).cps.toList 0 false).drop j) t = chkO y) 0
    (esc_call rfl hI hen (EvO.name rfl rfl) (Nat.le_trans (Nat.add_le_add_right hy' 2) (by decide)) hasc') rfl ⟨⟨rfl, rfl, trivial⟩, rfl, [], rfl⟩ (fun j t _ => by simp [chkS, St.put]) (fun _ _ _ => trivial) (fun j t x ht hx => ?_) fun t ht => ?_
  · obtain ⟨pos, ch, rfl⟩ := escIV_shape _ _ _ x (List.mem_of_getElem? hx)
    have hd : (escIV (stripO y).cps.toList 0 false).drop j = .two (.int pos) (.str ch) :: (escIV (stripO y).cps.toList 0 false).drop (j + 1) := by
      rw [List.getElem?_eq_some_iff] at hx
      obtain ⟨h1, h2⟩ := hx
      rw [← h2]; exact List.drop_eq_getElem_cons h1
    rw [hd] at ht
    dsimp only [chkGo] at ht
    refine ⟨_, As.tuple2 rfl rfl rfl rfl, ?_⟩
    refine Ex.ite (EvB.cmp (EvO.name rfl rfl) EvO.str.toO .eqS) (fun hc => ?_) fun hc => ?_
    · refine Ex.aug rfl rfl EvO.int.toO .addI rfl (Ex.nil (Ex.nil ⟨t + 1, ?_, ⟨rfl, rfl, trivial⟩, rfl, [], rfl⟩))
      rw [if_pos hc] at ht; exact ht
    · rw [if_neg (by simp [hc])] at ht
      refine Ex.ite (EvB.cmp (EvO.name rfl rfl) EvO.str.toO .eqS) (fun hc2 => ?_) fun hc2 => ?_
      · rw [if_pos hc2] at ht
        refine Ex.aug rfl rfl EvO.int.toO .subI rfl ?_
        refine Ex.ite (EvB.cmp (EvO.name (d := .int (t - 1)) rfl rfl) EvO.int.toO .ltI) (fun hn => ?_) fun hn => ?_
        · refine Ex.ret EvO.bool ?_
          have hn : t - 1 < 0 := by simpa using hn
          rw [if_pos hn] at ht
          show DV.bool _ = DV.bool _
          rw [ht]
        · have hn : ¬ t - 1 < 0 := by simpa using hn
          rw [if_neg hn] at ht
          exact Ex.nil (Ex.nil (Ex.nil (Ex.nil ⟨t - 1, ht, ⟨rfl, rfl, trivial⟩, rfl, [], rfl⟩)))
      · rw [if_neg (by simp [hc2])] at ht
        exact Ex.nil (Ex.nil (Ex.nil ⟨t, ht, ⟨rfl, rfl, trivial⟩, rfl, [], rfl⟩))
  · rw [List.drop_length] at ht
    refine Ex.nil (Ex.ret (EvF.cmp (EvO.name (d := .int t) rfl rfl) EvO.int.toO .eqI) ?_)
    show DV.bool _ = DV.bool _
    rw [← ht]; rfl
end
end Mine
end
section
open PySem PySem.Calls PyProof.Rows
set_option maxRecDepth 100000
namespace Mine
noncomputable def flagTab : List (Int × Str) := [(1, Str.ofString "OPTIMIZED"), (2, Str.ofString "NEWLOCALS"), (4, Str.ofString "VARARGS"), (8, Str.ofString "VARKEYWORDS"), (16, Str.ofString "NESTED"), (32, Str.ofString "GENERATOR"), (64, Str.ofString "NOFREE"), (128, Str.ofString "COROUTINE"), (256, Str.ofString "ITERABLE_COROUTINE"), (512, Str.ofString "ASYNC_GENERATOR")]
noncomputable def flagName (k : Int) : Option Str := flagTab.lookup k
noncomputable def nameOf (k : Int) : Str := (flagName k).getD (baseText "0x" 16 k)
noncomputable def pfGo : Nat → Nat → Int → List Str → Option (List Str)
  | 0, _, f, ns => if f = 0 then some (ns ++ [baseText "0x" 16 0]) else none
  | m + 1, i, f, ns =>
    if Builtin.bitAnd f (2 ^ i) != 0 then
      if Builtin.bitXor f (2 ^ i) = 0 then some (ns ++ [nameOf (2 ^ i)]) else pfGo m (i + 1) (Builtin.bitXor f (2 ^ i)) (ns ++ [nameOf (2 ^ i)])
    else pfGo m (i + 1) f ns
theorem pfGo_1 : ∀ (x : Nat) (x_1 : Int) (x_2 : List PySem.Str), pfGo 0 x x_1 x_2 = if x_1 = 0 then some (x_2 ++ [PySem.baseText "0x" 16 0]) else none := by intros; rfl
theorem pfGo_2 : ∀ (x : Nat) (x_1 : Int) (x_2 : List PySem.Str) (m : Nat), pfGo (m + 1) x x_1 x_2 = if (PySem.Builtin.bitAnd x_1 (2 ^ x) != 0) = true then if PySem.Builtin.bitXor x_1 (2 ^ x) = 0 then some (x_2 ++ [nameOf (2 ^ x)]) else pfGo m (x + 1) (PySem.Builtin.bitXor x_1 (2 ^ x)) (x_2 ++ [nameOf (2 ^ x)]) else pfGo m (x + 1) x_1 x_2 := by intros; rfl
noncomputable def pfS (t : Int × List Str) : St := ⟨[(Str.ofString "flags", .dv (.int t.1)), (Str.ofString "names", .ref 0)], [.pl (t.2.map .str)]⟩
theorem hex_short : ∀ i, i < 32 → (baseText "0x" 16 (2 ^ i)).length ≤ sizeLine := by decide
section
variable {X : Cx} {n : Nat} {aP : Addr}
theorem pretty_ok {pm cd doc : Value} (hf : FnAt X aP (topS 2) pm cd doc) (hT : IntTab X (Str.ofString "COMPILER_FLAG_NAMES") flagName) (hra : X.C.tab.lookup (Str.ofString "range") = some (.type "range")) (hhex : X.C.tab.lookup (Str.ofString "hex") = some (.builtin "hex"))
    (f : Int) (l : List Str) (h : pfGo 32 0 f [] = some l) (hj : JoinOk (Str.ofString ", ") l = true) : CallO X (n + 1) (.ref aP) [.int f] (.str (Txt.join (Str.ofString ", ") l)) := by
  refine hf.call [Str.ofString "flags"] (fun vals hv => ?_) (by decide) (by decide) (by decide) rfl rfl rfl fun L z hz => ?_
  · obtain ⟨v, rfl⟩ := len1 hv
    rfl
  refine Ex.assignNil rfl ?_
  have hrest : ∀ σ : St, σ.loc.lookup (Str.ofString "names") = some (.ref 0) → σ.hp[0]? = some (.pl (l.map .str)) → Ex X n (fnD (dFd (topS 2) pm cd doc) L aP z) ((dBody (topS 2)).drop 2) σ (retIs (.str (Txt.join (Str.ofString ", ") l))) := fun σ h1 h2 => by
    refine Ex.ret (EvF.join (texts := l) EvO.str.toO (EvO.namePl (k := 0) h1 rfl h2) hj) ?_
    rfl
  refine Ex.for_ (T := Int × List Str) (J := fun _ => True) (rangeIV 0 1 (32 : Int).toNat) (fun _ t => pfS t) (fun j t => pfGo (32 - j) j t.1 t.2 = some l ∧ t.2.length ≤ j ∧ j ≤ 32) (f, [])
    (EvI.range1 rfl hra EvO.int.toO (by decide) (by decide)) ⟨h, by simp, by simp⟩ ⟨⟨rfl, rfl, trivial⟩, rfl, [], rfl⟩ (fun j t _ => by simp [pfS]) (fun _ _ _ => trivial) (fun j t x ⟨ht, hn, _⟩ hx => ?_) fun t ht => ?_
  · obtain ⟨hj32, rfl⟩ := rangeIV_get hx
    have hj32 : j < 32 := hj32
    obtain ⟨fl, ns⟩ := t
    have e32 : 32 - j = (32 - (j + 1)) + 1 := by lia
    rw [e32] at ht
    dsimp only [pfGo] at ht
    have hz31 : ns.length ≤ sizeLine := Nat.le_trans (by have : ns.length ≤ j := hn; omega : ns.length ≤ 32) (by decide)
    refine ⟨_, As.name rfl rfl, ?_⟩
    have hsh : (1 : Int) * 2 ^ ((0 : Int) + (j : Int) * 1).toNat = 2 ^ j := by simp
    have h2j : EvF X n (fnD (dFd (topS 2) pm cd doc) L aP z) ⟨(Str.ofString "i", .dv (.int (0 + (j : Int) * 1))) :: (pfS (fl, ns)).loc, (pfS (fl, ns)).hp⟩ (asgE (stN (forB (stN (dBody (topS 2)) 1)) 0)) (.int (2 ^ j)) := by
      rw [← hsh]
      exact EvF.bin EvO.int.toO (EvO.name rfl rfl) (.shlI (by (exact Int.ofNat_nonneg _)) (by omega) (by decide))
    refine Ex.assign h2j rfl ?_
    refine Ex.ite (EvB.val (EvF.bin (EvO.name (d := .int fl) rfl rfl) (EvO.name (d := .int (2 ^ j)) rfl rfl) .andI).toO (by simp)) (fun hb => ?_) fun hb => ?_
    · have hb : (Builtin.bitAnd fl (2 ^ j) != 0) = true := hb
      rw [if_pos hb] at ht
      refine Ex.append (k := 0) (d := .str (nameOf (2 ^ j))) rfl rfl rfl (EvF.getTab rfl hT (EvO.name (d := .int (2 ^ j)) rfl rfl) (EvF.callB rfl hhex (EvOs.cons (EvO.name (d := .int (2 ^ j)) rfl rfl) EvOs.nil) (CallO.hex (hex_short j hj32))).toO) (by simpa using hz31) ?_
      refine Ex.aug rfl rfl (EvO.name (d := .int (2 ^ j)) rfl rfl) .xorI rfl ?_
      refine Ex.ite (EvB.not (EvB.val (EvO.name (d := .int (Builtin.bitXor fl (2 ^ j))) rfl rfl) (by simp))) (fun h0 => ?_) fun h0 => ?_
      · have h0 : Builtin.bitXor fl (2 ^ j) = 0 := by simpa [DV.truth] using h0
        rw [if_pos h0] at ht
        refine Ex.brk (hrest _ rfl ?_)
        obtain rfl := Option.some.inj ht
        simp [pfS, St.put]
      · have h0 : ¬ Builtin.bitXor fl (2 ^ j) = 0 := by simpa [DV.truth] using h0
        rw [if_neg h0] at ht
        refine Ex.nil (Ex.nil (Ex.nil ⟨(Builtin.bitXor fl (2 ^ j), ns ++ [nameOf (2 ^ j)]), ⟨ht, by simp at hn ⊢; omega, hj32⟩, ⟨rfl, rfl, trivial⟩, rfl, [], ?_⟩))
        simp [pfS, St.put]
    · have hb : ¬ (Builtin.bitAnd fl (2 ^ j) != 0) = true := by rw [show (Builtin.bitAnd fl (2 ^ j) != 0) = false from hb]; simp
      rw [if_neg hb] at ht
      exact Ex.nil (Ex.nil ⟨(fl, ns), ⟨ht, by simp at hn ⊢; (exact Nat.le_succ_of_le (by assumption)), hj32⟩, ⟨rfl, rfl, trivial⟩, rfl, [], rfl⟩)
  · obtain ⟨fl, ns⟩ := t
    refine Classical.byContradiction fun hnx => ?_
    (obtain ⟨ht, hn, _⟩ := ht) <;> (refine hnx ?_; clear hnx)
    have e0 : 32 - (rangeIV 0 1 (32 : Int).toNat).length = 0 := by rfl
    rw [e0] at ht
    dsimp only [pfGo] at ht
    have hn : ns.length ≤ 32 := by exact hn
    split at ht
    · rename_i hf0
      subst hf0
      obtain rfl := Option.some.inj ht
      refine Ex.append (k := 0) (d := .str (baseText "0x" 16 0)) rfl rfl rfl (EvF.callB rfl hhex (EvOs.cons (EvO.name (d := .int 0) rfl rfl) EvOs.nil) (CallO.hex (by decide))) (by simp; exact Nat.le_trans hn (by decide)) ?_
      refine Ex.nil (hrest _ rfl ?_)
      simp [pfS, St.put]
    · exact (Option.some_ne_none _ ht.symm).elim
end
end Mine
end
section
open PySem PySem.Calls PyProof.Rows
set_option maxRecDepth 100000
namespace Mine
noncomputable def octets (n : Int) : Str := if n < 64 then ⟨#[n.toNat]⟩ else ⟨#[(64 + n / 64 % 64).toNat, (n % 64).toNat]⟩
theorem octets_ok {X : Cx} {n : Nat} {a : Addr} {pm cd doc : Value} (hf : FnAt X a (topS 12) pm cd doc) (htab : X.C.tab.lookup (Str.ofString "chr") = some (.builtin "chr")) (i : Int) (h0 : 0 ≤ i) (h1 : i < 4096) :
    CallO X (n + 1) (.ref a) [.int i] (.str (octets i)) := by
  refine hf.call [Str.ofString "number"] (fun vals hv => ?_) (by decide) (by decide) (by decide) rfl rfl rfl fun L z hz => ?_
  · obtain ⟨v, rfl⟩ := len1 hv
    rfl
  refine Ex.assign (d := .str ⟨#[(i % 64).toNat]⟩) (EvF.callB rfl htab (EvOs.cons (EvF.bin (EvO.name rfl rfl) EvO.int.toO (.modI (by decide))).toO EvOs.nil) (CallO.chr (by omega) (by omega))) rfl ?_
  refine Ex.assign (EvF.bin (EvO.name rfl rfl) EvO.int.toO (.divI (by decide) (by decide))) rfl ?_
  refine Ex.while_ (T := Bool) (fun t => ⟨[(Str.ofString "number", .dv (.int (if t then 0 else i / 64))), (Str.ofString "signs", .dv (.str (if t then octets i else ⟨#[(i % 64).toNat]⟩)))], []⟩) (fun t => if t then 0 else 1)
    (fun t => decide (0 < (if t then 0 else i / 64))) (fun t => t = true → 64 ≤ i) false (by simp) ⟨⟨rfl, rfl, trivial⟩, rfl, [], rfl⟩ (fun _ _ => rfl)
    (fun t ht => EvB.cmp (EvO.name rfl rfl) EvO.int.toO .gtI) (fun t ht hb => ?_) (fun t ht hb => ?_) (Nat.le_refl _)
  · cases t with
    | true => simp at hb
    | false =>
      simp at hb
      have e0 : i / 64 / 64 = 0 := by omega
      refine Ex.assign (EvF.bin (EvF.callB rfl htab (EvOs.cons (EvF.bin EvO.int.toO (EvF.bin (EvO.name rfl rfl) EvO.int.toO (.modI (by decide))).toO .addI).toO EvOs.nil) (CallO.chr (by simp; omega) (by simp; omega))).toO (EvO.name rfl rfl) (.addS (Nat.le_of_ble_eq_true rfl))) rfl ?_
      refine Ex.assign (EvF.bin (EvO.name rfl rfl) EvO.int.toO (.divI (by decide) (by decide))) rfl ?_
      refine Ex.nil ⟨true, fun _ => by omega, by simp, ⟨⟨?_, ?_, trivial⟩, rfl, [], rfl⟩⟩
      · show some _ = some _
        simp [e0]
      · show some _ = some _
        have h64 : ¬ i < 64 := by omega
        simp only [octets, h64, if_false, Bool.false_eq_true, if_true]
        rfl
  · refine Ex.nil (Ex.ret ((EvO.name rfl rfl).toF rfl) ?_)
    show DV.str _ = DV.str _
    cases t with
    | true => rfl
    | false =>
      simp at hb
      have h64 : i < 64 := by omega
      have e : i % 64 = i := by lia
      simp [octets, h64, e]
noncomputable def wrTest (b : Bool) (c : Nat) : Bool := Txt.contains (Str.ofString "\\\"") ⟨#[c]⟩ || (b && Txt.contains (Str.ofString "\n\t\r ") ⟨#[c]⟩)
noncomputable def wrStep (b : Bool) (t : Str) (c : Nat) : Str := if wrTest b c then t ++ Str.ofString "\\" ++ ⟨#[c]⟩ else t ++ ⟨#[c]⟩
noncomputable def wrBody (b : Bool) (cs : List Nat) : Str := cs.foldl (wrStep b) Str.empty
noncomputable def written (i : Int) : Str := if (i / 3 % 2 == 1) = true then wrBody true (octets i).cps.toList ++ Str.ofString "\n" else Str.ofString "\"" ++ wrBody false (octets i).cps.toList ++ Str.ofString "\""
theorem wrBody_len (b : Bool) : ∀ (cs : List Nat) (t : Str), (cs.foldl (wrStep b) t).length ≤ t.length + 2 * cs.length
  | [], t => by simp
  | c :: cs, t => by
    have h := wrBody_len b cs (wrStep b t c)
    have h2 : (wrStep b t c).length ≤ t.length + 2 := by
      unfold wrStep
      split
      · rw [Str.length_append, Str.length_append]; exact Nat.le_refl _
      · rw [Str.length_append]; exact Nat.le_succ _
    simp only [List.foldl_cons, List.length_cons]
    lia
theorem octets_len (i : Int) : (octets i).cps.toList.length ≤ 2 := by
  unfold octets; split <;> simp
theorem written_ok {X : Cx} {n : Nat} {a aO : Addr} {pm cd doc : Value} (hf : FnAt X a (topS 13) pm cd doc) (hO : FnG X 12 aO) (htab : X.C.tab.lookup (Str.ofString "chr") = some (.builtin "chr")) (i : Int) (h0 : 0 ≤ i) (h1 : i < 4096) :
    CallO X (n + 2) (.ref a) [.int i] (.str (written i)) := by
  obtain ⟨pmO, cdO, docO, hvO, hfO⟩ := hO
  refine hf.call [Str.ofString "number"] (fun vals hv => ?_) (by decide) (by decide) (by decide) rfl rfl rfl fun L z hz => ?_
  · obtain ⟨v, rfl⟩ := len1 hv
    rfl
  refine Ex.assign (d := .bool (i / 3 % 2 == 1)) (EvF.cmp (EvF.bin (EvF.bin (EvO.name rfl rfl) EvO.int.toO (.divI (by decide) (by decide))).toO EvO.int.toO (.modI (by decide))).toO EvO.int.toO .eqI) rfl ?_
  refine Ex.assign EvO.str rfl ?_
  generalize hb : (i / 3 % 2 == 1) = b
  have hl2 := octets_len i
  refine Ex.for_ (T := Str) (J := fun _ => True) ((octets i).cps.toList.map fun c => .one (.str ⟨#[c]⟩)) (fun _ t => ⟨[(Str.ofString "text", .dv (.str t)), (Str.ofString "bare", .dv (.bool b))], []⟩) (fun j t => t = ((octets i).cps.toList.take j).foldl (wrStep b) Str.empty) Str.empty
    (EvI.str (EvF.call rfl hvO hfO.isFn (EvOs.cons (EvO.name rfl rfl) EvOs.nil) (octets_ok hfO htab i h0 h1)).toO) rfl ⟨⟨rfl, rfl, trivial⟩, rfl, [], rfl⟩ (fun j t _ => by simp [St.put]) (fun _ _ _ => trivial) (fun j t x ht hx => ?_) fun t ht => ?_
  · rw [List.getElem?_map] at hx
    refine Classical.byContradiction fun hnx => ?_
    (obtain ⟨c, hc, rfl⟩ := Option.map_eq_some_iff.mp hx) <;> (refine hnx ?_; clear hnx)
    have hnext : wrStep b t c = ((octets i).cps.toList.take (j + 1)).foldl (wrStep b) Str.empty := by
      rw [List.take_add_one, hc, List.foldl_append, ← ht]; rfl
    have htl : t.length ≤ 100 := by
      rw [ht]
      have := wrBody_len b ((octets i).cps.toList.take j) Str.empty
      have h3 : ((octets i).cps.toList.take j).length ≤ 2 := by rw [List.length_take]; omega
      have h4 : Str.empty.length = 0 := rfl
      lia
    have hz : ∀ k, k ≤ 200 → k ≤ sizeLine := fun k hk => Nat.le_trans hk (by decide)
    refine ⟨_, As.name rfl rfl, ?_⟩
    refine Ex.ite (b := wrTest b c) (EvB.or2 (EvB.cmp (EvO.name rfl rfl) EvO.str.toO .inS) fun _ => EvB.and2 (EvB.val (EvO.name (d := .bool b) rfl rfl) (by simp)) fun _ => EvB.cmp (EvO.name rfl rfl) EvO.str.toO .inS) (fun hw => ?_) fun hw => Ex.nil ?_
    · refine Ex.aug rfl rfl EvO.str.toO (.addS (hz _ (Nat.add_le_add htl (by decide : (Str.ofString "\\").length ≤ 100)))) rfl (Ex.nil ?_)
      refine Ex.aug rfl rfl (EvO.name (d := .str ⟨#[c]⟩) rfl rfl) (.addS (hz _ ?_)) rfl (Ex.nil ⟨wrStep b t c, hnext, ⟨?_, rfl, trivial⟩, rfl, [], rfl⟩)
      · rw [Str.length_append]; exact Nat.add_le_add (Nat.add_le_add htl (Nat.le_refl 1)) (by decide : 1 ≤ 99)
      · show some _ = some _
        rw [wrStep, if_pos hw]
    · refine Ex.aug rfl rfl (EvO.name (d := .str ⟨#[c]⟩) rfl rfl) (.addS (hz _ (Nat.add_le_add htl (by decide : 1 ≤ 100)))) rfl (Ex.nil ⟨wrStep b t c, hnext, ⟨?_, rfl, trivial⟩, rfl, [], rfl⟩)
      show some _ = some _
      rw [wrStep, if_neg (by simp [hw])]
  · have ht : t = wrBody b (octets i).cps.toList := by rw [ht, List.length_map, List.take_length]; rfl
    have htl : t.length ≤ 4 := by
      rw [ht]
      have := wrBody_len b (octets i).cps.toList Str.empty
      have h4 : Str.empty.length = 0 := rfl
      show (List.foldl (wrStep b) Str.empty _).length ≤ 4
      omega
    have hz : ∀ k, k ≤ 200 → k ≤ sizeLine := fun k hk => Nat.le_trans hk (by decide)
    refine Ex.nil (Ex.ite (EvB.val (EvO.name (d := .bool b) rfl rfl) (by simp)) (fun hbt => ?_) fun hbt => Ex.nil ?_)
    · have hbt : b = true := hbt
      refine Ex.ret (EvF.bin (EvO.name (d := .str t) rfl rfl) EvO.str.toO (.addS (y := Str.ofString "\n") (hz _ (Nat.le_trans (Nat.add_le_add htl (by decide : (Str.ofString "\n").length ≤ 100)) (by decide))))) ?_
      show DV.str _ = DV.str _
      rw [written, hb, if_pos hbt, ht, hbt]
    · have hbt : b = false := hbt
      refine Ex.ret (EvF.bin (EvF.bin EvO.str.toO (EvO.name (d := .str t) rfl rfl) (.addS (hz _ (by have : (Str.ofString "\"").length = 1 := rfl; omega)))).toO EvO.str.toO (.addS (hz _ ?_))) ?_
      · rw [Str.length_append]; have : (Str.ofString "\"").length = 1 := rfl; omega
      · show DV.str _ = DV.str _
        rw [written, hb, if_neg (by simp [hbt]), ht, hbt]
end Mine
end
section
open PySem PySem.Calls PyProof.Rows
set_option maxRecDepth 100000
namespace Mine
noncomputable def iStream : Nat := 11
noncomputable def readSt : Stmt := stN (dBody (topS iStream)) 1
noncomputable def readK (code : Value) (qual : Str) : RdFn := ⟨dBody readSt, dParams readSt, dScope readSt, code, qual⟩
theorem read_ok {X : Cx} {n : Nat} {code : Value} {qual : Str} {A : Around} {s : Shared} {g c1 c2 pl : Addr} {z : Heap} {text : Str} {place k : Int} {t1 t2 tk : Tok} (hA : AOk A (n + 1)) (hb : Bs X.C z) (hz : ∀ b o, z.get? b = some o → s.heap.get? b = some o) (hbare : AllBare s.gens)
    (hr : RdAt (readK code qual) s.heap g c1 c2) (hcd : s.heap.CodeRec code qual) (i1 : s.heap.IsCell c1 (some (.ref pl))) (i2 : s.heap.IsCell c2 (some (.str text t2))) (hp : s.heap.PlainList pl #[.int place tk]) (hnd : [c1, c2, pl].Nodup) (hzf : ∀ b ∈ [c1, c2, pl], z.get? b = none)
    (ht : text.length ≤ sizeLine) :
    wpF X A (call (.ref g) [.int k t1]) (fun r s' => KpB [c1, c2, pl] [] s s' ∧ s'.heap.IsCell c1 (some (.ref pl)) ∧ (∃ t, s'.heap.IsCell c2 (some (.str text t))) ∧ (∃ t, s'.heap.PlainList pl #[.int (place + k) t]) ∧ ∃ t, r = .str (Txt.slice text (some place) (some (place + k))) t) s := by
  refine Classical.byContradiction fun hnx => ?_
  (obtain ⟨og, fd, hog, hcls, hfd, hbody, hpar, hsco, hgl, hbi, hcode, hqual, hdef, hkw, hc1, hc2, hc3⟩ := hr) <;> (refine hnx ?_; clear hnx)
  have hsco : fd.scope = dScope readSt := hsco
  have hpar : fd.params = dParams readSt := hpar
  have hbody : fd.body = .stmts (dBody readSt) := hbody
  refine wpAny_call (codeAny_call_function hA.room hog hfd (by rw [hsco]; rfl) (by rw [hsco]; rfl) hbody (by rw [hcode, hqual]; exact hcd) ?_)
  have hbind : bindArgs fd ⟨[.int k t1], []⟩ = pure [(Str.ofString "size", .int k t1)] := by
    rw [fdl hpar hdef hkw]; rfl
  rw [hbind]
  refine wpAny_pure ?_
  refine wpAny_newFunctionEnv (by rw [hsco]; decide) (by rw [hsco]; intro y hy; rw [List.mem_singleton.mp hy]; rfl) (fun h' hn hs => ?_) (by rw [hsco]; rfl)
  have hkeep : ∀ b o, s.heap.get? b = some o → h'.get? b = some o := fun b o e => (hs.2 b (Nat.ne_of_lt (Heap.lt_size e))).trans (Heap.get?_push_of_some _ e)
  refine ⟨(hb.keeps fun b o e => hkeep b o (hz b o e)).nolim, codeAny_func ?_⟩
  have hkd : ∀ x, (newEnv fd.scope s.heap.objs.size fd.globals fd.closure (fd.qualname ++ ".<locals>.") (some g) fd.code none fd.builtins).kindOf x = (dScope readSt).names.lookup x := fun x => by rw [← hsco]; rfl
  have q := R.startC (C := X.C) (env := newEnv fd.scope s.heap.objs.size fd.globals fd.closure (fd.qualname ++ ".<locals>.") (some g) fd.code none fd.builtins) (h' := h') (tk := tk) (tk' := s.toks + [(Str.ofString "size", Value.int k t1)].length)
    hb hz hbare rfl rfl rfl (by show fd.scope.kind = _; rw [hsco]; rfl) hgl hbi hn rfl hkeep hc1 hc2 hc3 rfl i1 i2 hp hnd hzf (by rw [hkd]; rfl) (by rw [hkd]; rfl) (by rw [hkd]; rfl)
  have hv : ∀ x, x = Str.ofString "place" ∨ x = Str.ofString "text" ∨ x = Str.ofString "size" ∨ x = Str.ofString "start" → isVar ⟨newEnv fd.scope s.heap.objs.size fd.globals fd.closure (fd.qualname ++ ".<locals>.") (some g) fd.code none fd.builtins, [c1, c2], [], z⟩ x = true := fun x hx => by
    unfold isVar
    rw [show (FD.env ⟨newEnv fd.scope s.heap.objs.size fd.globals fd.closure (fd.qualname ++ ".<locals>.") (some g) fd.code none fd.builtins, [c1, c2], [], z⟩) = newEnv fd.scope s.heap.objs.size fd.globals fd.closure (fd.qualname ++ ".<locals>.") (some g) fd.code none fd.builtins from rfl, hkd]
    rcases hx with rfl | rfl | rfl | rfl <;> rfl
  have hown : isOwnVar ⟨newEnv fd.scope s.heap.objs.size fd.globals fd.closure (fd.qualname ++ ".<locals>.") (some g) fd.code none fd.builtins, [c1, c2], [], z⟩ (Str.ofString "start") = true := by
    unfold isOwnVar
    rw [show (FD.env ⟨newEnv fd.scope s.heap.objs.size fd.globals fd.closure (fd.qualname ++ ".<locals>.") (some g) fd.code none fd.builtins, [c1, c2], [], z⟩) = newEnv fd.scope s.heap.objs.size fd.globals fd.closure (fd.qualname ++ ".<locals>.") (some g) fd.code none fd.builtins from rfl, hkd]
    rfl
  have body : Ex X n ⟨newEnv fd.scope s.heap.objs.size fd.globals fd.closure (fd.qualname ++ ".<locals>.") (some g) fd.code none fd.builtins, [c1, c2], [], z⟩ (dBody readSt) ⟨[(Str.ofString "size", .dv (.int k)), (Str.ofString "place", .ref 0), (Str.ofString "text", .dv (.str text))], [.pl [.int place]]⟩
      (fun fl σ' => fl = .ret (.str (Txt.slice text (some place) (some (place + k)))) ∧ σ'.hp[0]? = some (.pl [.int (place + k)]) ∧ σ'.loc.lookup (Str.ofString "place") = some (.ref 0) ∧ σ'.loc.lookup (Str.ofString "text") = some (.dv (.str text))) := by
    refine Ex.assign (d := .int place) ((EvO.item (EvO.namePl (k := 0) (xs := [.int place]) rfl (hv _ (by simp)) rfl) EvO.int.toO rfl (by show 1 ≤ sizeLine; decide)).toF rfl) hown ?_
    refine Ex.putItem (k := 0) (xs := [.int place]) (j := 0) (d := .int (place + k)) rfl (hv _ (by simp)) rfl (EvF.bin (EvO.name (d := .int place) rfl (hv _ (by simp))) (EvO.name (d := .int k) rfl (hv _ (by simp))) .addI).toO rfl (by simp [DV.sc]) EvO.int.toO rfl (by decide) ?_
    refine Ex.ret (EvF.sliceS (EvO.name (d := .str text) rfl (hv _ (by simp))) (.some (EvO.name (d := .int place) rfl (hv _ (by simp)))) (.some (EvF.bin (EvO.name (d := .int place) rfl (hv _ (by simp))) (EvO.name (d := .int k) rfl (hv _ (by simp))) .addI).toO) ht) ?_
    exact ⟨rfl, rfl, rfl, rfl⟩
  refine wpAny_e (body _ _ _ _ (hA.deeper _) q) fun f s2 hq1 => ?_
  refine Classical.byContradiction fun hnx => ?_
  (obtain ⟨fl, σ', fps', q2, e2, r2, hfl, h3, h4, h5⟩ := hq1) <;> (refine hnx ?_; clear hnx)
  subst hfl
  obtain ⟨r, fpr, rfl, h6, _, _⟩ := r2
  obtain ⟨fp', e2⟩ := e2 0 pl [] rfl
  have hrep := q2.obj 0 _ _ h3 e2
  refine Classical.byContradiction fun hnx => ?_
  (obtain ⟨a', fp'', vs, ea, hpl, hvs⟩ := hrep) <;> (refine hnx ?_; clear hnx)
  cases ea
  obtain ⟨c, r', p1, p2, a'', fp3, p3, p4⟩ := q2.cel (Str.ofString "place") _ h4 (.inr (by show Env.kindOf _ _ = _; rw [hkd]; rfl))
  rw [e2] at p3; cases p3
  obtain ⟨c', r'', p5, p6, fp4, p7, _⟩ := q2.cel (Str.ofString "text") _ h5 (.inr (by show Env.kindOf _ _ = _; rw [hkd]; rfl))
  have p1 : fd.closure.lookup (Str.ofString "place") = some c := p1
  have p5 : fd.closure.lookup (Str.ofString "text") = some c' := p5
  obtain rfl := Option.some.inj (hc1.symm.trans p1)
  obtain rfl := Option.some.inj (hc2.symm.trans p5)
  subst p4
  obtain ⟨t, rfl⟩ := p7
  refine Classical.byContradiction fun hnx => ?_
  (obtain ⟨w, ws, f1, f2, rfl, _, ⟨⟨tw, rfl⟩, _⟩, ⟨rfl, _⟩⟩ := hvs) <;> (refine hnx ?_; clear hnx)
  exact ⟨ghost_kp q2.keep, p2, ⟨t, p6⟩, ⟨tw, hpl⟩, h6.1⟩
end Mine
end
section
open PySem PySem.Calls PyProof.Rows
set_option maxRecDepth 100000
namespace Mine
structure LexK where
  C : Addr
  N : Addr
  mN : Str → Option Value
  fR : Addr
  fG : Addr
  fP : Addr
  fI : Addr
  code : Value
  qual : Str
structure LexSt where
  text : Str
  place : Int
  push : List Str
  line : Int
structure LexA where
  dx : Addr
  f : Addr
  d : Addr
  g : Addr
  c1 : Addr
  c2 : Addr
  pl : Addr
  p : Addr
noncomputable def LexA.list (a : LexA) : List Addr := [a.dx, a.f, a.d, a.g, a.c1, a.c2, a.pl, a.p]
noncomputable def lexNames : List Str := [Str.ofString "lineno", Str.ofString "instream", Str.ofString "whitespace", Str.ofString "pushback"]
noncomputable def lexWs : Str := Str.ofString "\n\t\r "
structure LexM (st : LexSt) (f p : Addr) (mA : Str → Option Value) : Prop where
  within : PySem.Within mA lexNames
  line : ∃ t, mA (Str.ofString "lineno") = some (.int st.line t)
  ins : mA (Str.ofString "instream") = some (.ref f)
  ws : ∃ t, mA (Str.ofString "whitespace") = some (.str lexWs t)
  push : mA (Str.ofString "pushback") = some (.ref p)
theorem LexM.none {st : LexSt} {f p : Addr} {mA : Str → Option Value} (h : LexM st f p mA) {y : Str} (hy : y ∉ lexNames) : mA y = none := by
  cases e : mA y with
  | none => rfl
  | some v => exact absurd (h.within y (by rw [e]; simp)) hy
inductive InstAt (h : Heap) (C x dx : Addr) : Prop
  | mk (ox : Obj) (e1 : h.get? x = some ox) (e2 : ox.cls = .ref C) (e3 : ∀ c, ox.data ≠ .cls c) (e4 : ox.dict = some dx)
inductive StrmO (h : Heap) (f d g : Addr) : Prop
  | mk (o : Obj) (fd : FuncData) (m : Str → Option Value) (e1 : h.get? f = some o) (e2 : o.cls = .type "function") (e3 : o.data = .func fd) (e4 : o.dict = some d) (e5 : h.Ns d m) (e6 : m (Str.ofString "read") = some (.ref g))
structure LexI (K : LexK) (st : LexSt) (h : Heap) (x : Addr) (a : LexA) : Prop where
  inst : InstAt h K.C x a.dx
  dict : ∃ mA, h.Ns1 a.dx mA ∧ LexM st a.f a.p mA
  strm : StrmO h a.f a.d a.g
  read : RdAt (readK K.code K.qual) h a.g a.c1 a.c2
  cell1 : h.IsCell a.c1 (some (.ref a.pl))
  cell2 : ∃ t, h.IsCell a.c2 (some (.str st.text t))
  place : ∃ t, h.PlainList a.pl #[.int st.place t]
  push : ∃ vs, h.PlainList a.p (List.toArray vs) ∧ RepVs h (st.push.map .str) vs []
theorem InstAt.at {h h' : Heap} {C x dx : Addr} (i : InstAt h C x dx) (k : ∀ o, h.get? x = some o → h'.get? x = some o) : InstAt h' C x dx := by
  obtain ⟨ox, e1, e2, e3, e4⟩ := i
  exact ⟨ox, k _ e1, e2, e3, e4⟩
theorem StrmO.at {h h' : Heap} {f d g : Addr} (i : StrmO h f d g) (k1 : ∀ o, h.get? f = some o → h'.get? f = some o) (k2 : ∀ o, h.get? d = some o → h'.get? d = some o) : StrmO h' f d g := by
  obtain ⟨o, fd, m, e1, e2, e3, e4, e5, e6⟩ := i
  exact ⟨o, fd, m, k1 _ e1, e2, e3, e4, Heap.Ns.at e5 k2, e6⟩
structure LexAll (P : Addr → Prop) (x : Addr) (a : LexA) : Prop where
  x : P x
  dx : P a.dx
  f : P a.f
  d : P a.d
  g : P a.g
  c1 : P a.c1
  c2 : P a.c2
  pl : P a.pl
  p : P a.p
theorem LexA.all {P : Addr → Prop} {x : Addr} {a : LexA} (h : ∀ b ∈ x :: a.list, P b) : LexAll P x a :=
  ⟨h _ (.head _), h _ (.tail _ (.head _)), h _ (.tail _ (.tail _ (.head _))), h _ (.tail _ (.tail _ (.tail _ (.head _)))), h _ (.tail _ (.tail _ (.tail _ (.tail _ (.head _))))), h _ (.tail _ (.tail _ (.tail _ (.tail _ (.tail _ (.head _)))))), h _ (.tail _ (.tail _ (.tail _ (.tail _ (.tail _ (.tail _ (.head _))))))), h _ (.tail _ (.tail _ (.tail _ (.tail _ (.tail _ (.tail _ (.tail _ (.head _)))))))), h _ (.tail _ (.tail _ (.tail _ (.tail _ (.tail _ (.tail _ (.tail _ (.tail _ (.head _))))))))) ⟩
theorem IsCell_at {h h' : Heap} {c : Addr} {v : Option Value} (x : h.IsCell c v) (k : ∀ o, h.get? c = some o → h'.get? c = some o) : h'.IsCell c v := by
  obtain ⟨o, e, r⟩ := x
  exact ⟨o, k _ e, r⟩
theorem LexI.put {K : LexK} {st st' : LexSt} {h h' : Heap} {x : Addr} {a : LexA} (i : LexI K st h x a) (kf : ∀ o, h.get? a.f = some o → h'.get? a.f = some o) (kd : ∀ o, h.get? a.d = some o → h'.get? a.d = some o) (kg : ∀ o, h.get? a.g = some o → h'.get? a.g = some o)
    (inst : InstAt h' K.C x a.dx) (dict : ∃ mA, h'.Ns1 a.dx mA ∧ LexM st' a.f a.p mA) (c1 : h'.IsCell a.c1 (some (.ref a.pl))) (c2 : ∃ t, h'.IsCell a.c2 (some (.str st'.text t))) (pl : ∃ t, h'.PlainList a.pl #[.int st'.place t]) (pu : ∃ vs, h'.PlainList a.p (List.toArray vs) ∧ RepVs h' (st'.push.map .str) vs []) : LexI K st' h' x a :=
  ⟨inst, dict, i.strm.at kf kd, i.read.at kg, c1, c2, pl, pu⟩
theorem LexI.keep {K : LexK} {st : LexSt} {h h' : Heap} {x : Addr} {a : LexA} (i : LexI K st h x a) (A : LexAll (fun b => ∀ o, h.get? b = some o → h'.get? b = some o) x a) {ws : List Str} (pu : ∃ vs, h'.PlainList a.p (List.toArray vs) ∧ RepVs h' (ws.map .str) vs []) : LexI K { st with push := ws } h' x a := by
  refine Classical.byContradiction fun hnx => ?_
  (obtain ⟨mA, e, r⟩ := i.dict) <;> (refine hnx ?_; clear hnx)
  obtain ⟨t2, c2⟩ := i.cell2
  obtain ⟨t3, c3⟩ := i.place
  exact i.put A.f A.d A.g (i.inst.at A.x) ⟨mA, Heap.Ns1.at e A.dx, ⟨r.within, r.line, r.ins, r.ws, r.push⟩⟩ (IsCell_at i.cell1 A.c1) ⟨t2, IsCell_at c2 A.c2⟩ ⟨t3, Heap.PlainList.at c3 A.pl⟩ pu
theorem LexI.mono {K : LexK} {st : LexSt} {h h' : Heap} {x : Addr} {a : LexA} (i : LexI K st h x a) (k : ∀ b ∈ x :: a.list, ∀ o, h.get? b = some o → h'.get? b = some o) : LexI K st h' x a := by
  have A := LexA.all k
  obtain ⟨vs, e, r⟩ := i.push
  exact i.keep A ⟨vs, Heap.PlainList.at e A.p, r.mono (by simp)⟩
theorem LexI.setPush {K : LexK} {st : LexSt} {h h' : Heap} {x : Addr} {a : LexA} {ex : List Addr} (i : LexI K st h x a) (hnd : (x :: (a.list ++ ex)).Nodup) (hk : ∀ b o, b ≠ a.p → h.get? b = some o → h'.get? b = some o) {ws : List Str} (pu : ∃ vs, h'.PlainList a.p (List.toArray vs) ∧ RepVs h' (ws.map .str) vs []) : LexI K { st with push := ws } h' x a := by
  obtain ⟨mA, e, r⟩ := i.dict
  obtain ⟨t2, c2⟩ := i.cell2
  obtain ⟨t3, c3⟩ := i.place
  have kk : ∀ i {b}, (x :: (a.list ++ ex))[i]? = some b → (i == 8) = false → ∀ o, h.get? b = some o → h'.get? b = some o := fun i b e k o => hk b o (nd_ne hnd e (j := 8) rfl k)
  exact i.put (kk 2 rfl rfl) (kk 3 rfl rfl) (kk 4 rfl rfl) (i.inst.at (kk 0 rfl rfl)) ⟨mA, Heap.Ns1.at e (kk 1 rfl rfl), ⟨r.within, r.line, r.ins, r.ws, r.push⟩⟩ (IsCell_at i.cell1 (kk 5 rfl rfl)) ⟨t2, IsCell_at c2 (kk 6 rfl rfl)⟩ ⟨t3, Heap.PlainList.at c3 (kk 7 rfl rfl)⟩ pu
theorem LexI.setInst {K : LexK} {st st' : LexSt} {h h' : Heap} {x : Addr} {a : LexA} (i : LexI K st h x a) (hnd : (x :: a.list).Nodup) (hk : ∀ b o, b ≠ x → b ≠ a.dx → h.get? b = some o → h'.get? b = some o) (inst : InstAt h' K.C x a.dx) (dict : ∃ mA, h'.Ns1 a.dx mA ∧ LexM st' a.f a.p mA) (ht : st'.text = st.text) (hp : st'.place = st.place) (hw : st'.push = st.push) : LexI K st' h' x a := by
  have kk : ∀ i {b}, (x :: a.list)[i]? = some b → (i == 0) = false → (i == 1) = false → ∀ o, h.get? b = some o → h'.get? b = some o := fun i b e k k2 o => hk b o (nd_ne hnd e (j := 0) rfl k) (nd_ne hnd e (j := 1) rfl k2)
  obtain ⟨vs, pe, pr⟩ := i.push
  obtain ⟨t2, c2⟩ := i.cell2
  obtain ⟨t3, c3⟩ := i.place
  exact i.put (kk 2 rfl rfl rfl) (kk 3 rfl rfl rfl) (kk 4 rfl rfl rfl) inst dict (IsCell_at i.cell1 (kk 5 rfl rfl rfl)) ⟨t2, by rw [ht]; exact IsCell_at c2 (kk 6 rfl rfl rfl)⟩ ⟨t3, by rw [hp]; exact Heap.PlainList.at c3 (kk 7 rfl rfl rfl)⟩ ⟨vs, Heap.PlainList.at pe (kk 8 rfl rfl rfl), by rw [hw]; exact pr.mono (by simp)⟩
theorem LexI.alive {K : LexK} {st : LexSt} {h : Heap} {x : Addr} {a : LexA} (i : LexI K st h x a) : ∀ b ∈ x :: a.list, ∃ o, h.get? b = some o := by
  refine List.forall_mem_cons.mpr ⟨?_, List.forall_mem_cons.mpr ⟨?_, List.forall_mem_cons.mpr ⟨?_, all6 ?_ ?_ ?_ ?_ ?_ ?_⟩⟩⟩
  · obtain ⟨o, e, _⟩ := i.inst; exact ⟨o, e⟩
  · obtain ⟨_, ⟨o, _, _, e, _⟩, _⟩ := i.dict; exact ⟨o, e⟩
  · obtain ⟨o, _, _, e, _⟩ := i.strm; exact ⟨o, e⟩
  · obtain ⟨_, _, _, _, _, _, _, ⟨o, _, _, e, _⟩, _⟩ := i.strm; exact ⟨o, e⟩
  · obtain ⟨o, _, e, _⟩ := i.read; exact ⟨o, e⟩
  · obtain ⟨o, e, _⟩ := i.cell1; exact ⟨o, e⟩
  · obtain ⟨_, o, e, _⟩ := i.cell2; exact ⟨o, e⟩
  · obtain ⟨_, _, e⟩ := i.place; exact ⟨_, e⟩
  · obtain ⟨_, ⟨_, e⟩, _⟩ := i.push; exact ⟨_, e⟩
noncomputable def lexS (K : LexK) (st : LexSt) : OSpec where
  P := fun h l => ∃ x a ex, l = x :: (LexA.list a ++ ex) ∧ LexI K st h x a ∧ ∀ b ∈ ex, ∃ o, h.get? b = some o
  mono := by
    rintro h h' fp ⟨x, a, ex, rfl, i, hex⟩ k
    refine ⟨x, a, ex, rfl, i.mono fun b hb => k b (by rcases List.mem_cons.mp hb with rfl | hb <;> (first | exact .head _ | exact .tail _ (List.mem_append_left _ (by assumption)))), fun b hb => ?_⟩
    obtain ⟨o, e⟩ := hex b hb
    exact ⟨o, k b (by (exact .tail _ (List.mem_append_right _ (by assumption)))) o e⟩
  alive := by
    rintro h fp ⟨x, a, ex, rfl, i, hex⟩ b hb
    rcases List.mem_cons.mp hb with rfl | hb
    · exact i.alive _ List.mem_cons_self
    rcases List.mem_append.mp hb with hb | hb
    · exact i.alive b (List.mem_cons_of_mem _ hb)
    · exact hex b hb
noncomputable def clsB (s : Stmt) : List Stmt := (sParts s).2.2.1
noncomputable def iCls : Nat := 9
noncomputable def mS (j : Nat) : Stmt := stN (clsB (topS iCls)) j
inductive MethAt (X : Cx) (f : Addr) (st : Stmt) : Prop
  | mk (o : Obj) (fd : FuncData) (h1 : (f, o) ∈ X.C.objs) (h2 : o.cls = .type "function") (h3 : o.data = .func fd) (h4 : fd.body = .stmts (dBody st)) (h5 : fd.params = dParams st) (h6 : fd.scope = dScope st) (h7 : fd.closure = []) (h8 : fd.globals = mainGlobals) (h9 : fd.builtins = builtinsNs) (h10 : fd.defaults = .none) (h11 : fd.kwdefaults = .none)
    (h12 : ∀ h, Bs X.C h → h.CodeRec fd.code fd.qualname)
inductive ClsOb (X : Cx) (K : LexK) : Prop
  | mk : ∀ nm q bs sn sub col dd k0 k1 k2 k3 k5 newId, (K.C, excClassObj nm q K.C K.N bs [.type "object"] true sn sub false col dd k0 k1 k2 k3 k5 newId) ∈ X.C.objs → ObjNewFacts newId → ClsOb X K
structure LexCls (X : Cx) (K : LexK) : Prop where
  cls : ClsOb X K
  ns : ∀ h, Bs X.C h → h.Ns K.N K.mN
  ga : K.mN (Str.ofString "__getattribute__") = none
  gh : K.mN (Str.ofString "__getattr__") = none
  sa : K.mN (Str.ofString "__setattr__") = none
  own : ∀ y ∈ lexNames, K.mN y = none
  mR : K.mN (Str.ofString "_read_char") = some (.ref K.fR)
  mG : K.mN (Str.ofString "get_token") = some (.ref K.fG)
  mP : K.mN (Str.ofString "push_token") = some (.ref K.fP)
  mI : K.mN (Str.ofString "__init__") = some (.ref K.fI)
  aI : MethAt X K.fI (mS 0)
  aR : MethAt X K.fR (mS 1)
  aG : MethAt X K.fG (mS 2)
  aP : MethAt X K.fP (mS 3)
  code : ∀ h, Bs X.C h → h.CodeRec K.code K.qual
theorem LexCls.ne {X : Cx} {K : LexK} {D : FD} {g s : Shared} {σ : St} {fps : List (List Addr)} {x : Addr} (hc : LexCls X K) (q : R X.C D g σ fps s) (h : x ∈ fps.flatten) : x ≠ K.C := fun hh => by
  obtain ⟨nm, qq, bs, sn, sub, col, dd, k0', k1', k2', k3', k5', newId, hcl, _⟩ := hc.cls
  have h1 := q.fresh x (own_fps h)
  rw [hh] at h1
  exact (Option.some_ne_none _ ((q.zk _ _ (q.bs.held _ hcl)).symm.trans h1)).elim
theorem LexCls.fns {X : Cx} {K : LexK} (h : LexCls X K) : ∀ f ∈ [K.fR, K.fG, K.fP, K.fI], ∃ o fd, (f, o) ∈ X.C.objs ∧ o.cls = .type "function" ∧ o.data = .func fd := by
  intro f hf
  revert hf; revert f; refine all4 ?_ ?_ ?_ ?_
  · obtain ⟨o, fd, h1, h2, h3, _⟩ := h.aR; exact ⟨o, fd, h1, h2, h3⟩
  · obtain ⟨o, fd, h1, h2, h3, _⟩ := h.aG; exact ⟨o, fd, h1, h2, h3⟩
  · obtain ⟨o, fd, h1, h2, h3, _⟩ := h.aP; exact ⟨o, fd, h1, h2, h3⟩
  · obtain ⟨o, fd, h1, h2, h3, _⟩ := h.aI; exact ⟨o, fd, h1, h2, h3⟩
theorem lk_obj_line : ∀ y ∈ lexNames, typeLookup (.type "object") y = pure none := by
  intro y hy
  revert hy; revert y
  refine all4 ?_ ?_ ?_ ?_ <;> (rw [typeLookup_type, builtinLookup_eq_fast]; kernel_rfl)
theorem lk_obj_meth : ∀ y ∈ [Str.ofString "_read_char", Str.ofString "get_token", Str.ofString "push_token"], typeLookup (.type "object") y = pure none := by
  intro y hy
  revert hy; revert y; refine all3 ?_ ?_ ?_ <;> (rw [typeLookup_type, builtinLookup_eq_fast]; kernel_rfl)
section
variable {X : Cx} {K : LexK} {n : Nat} {A : Around} {s : Shared} {st : LexSt} {x : Addr} {a : LexA}
theorem LexI.ii {h : Heap} (i : LexI K st h x a) (hne : a.dx ≠ x) : ∃ mA, h.Inst x K.C mA ∧ LexM st a.f a.p mA := by
  obtain ⟨ox, e1, e2, e3, e4⟩ := i.inst
  obtain ⟨mA, e5, e6⟩ := i.dict
  exact ⟨mA, ⟨ox, e1, e2, e3, .inr ⟨a.dx, e4, hne, e5⟩⟩, e6⟩
theorem lex_get {y : Str} {v : Value} {mA : Str → Option Value} {e : Bool} {Q : Value → Shared → Prop} (hc : LexCls X K) (hb : Bs X.C s.heap) (hi : s.heap.Inst x K.C mA) (hy : y ∈ lexNames) (hv : mA y = some v) (hh : handedOut v = pure v) (hq : Q v { s with toks := s.toks + 1 }) :
    wpF X A (getAttr (.ref x) y e) Q s := by
  refine Classical.byContradiction fun hnx => ?_
  (obtain ⟨nm, q, bs, sn, sub, col, dd, k0, k1, k2, k3, k5, newId, ho, _⟩ := hc.cls) <;> (refine hnx ?_; clear hnx)
  obtain ⟨h, g, d, t, os⟩ := s
  exact load_attr (hb.held _ ho) (hc.ns _ hb) hc.ga (hc.own _ hy) (lk_obj_line _ hy) hi hv hh hq
theorem lex_method {y : Str} {f : Addr} {mA : Str → Option Value} {pl : Sem Bool} {Q : Value × List Value → Shared → Prop} (hc : LexCls X K) (hb : Bs X.C s.heap) (hi : s.heap.Inst x K.C mA) (hm : LexM st a.f a.p mA) (hy : y ∈ [Str.ofString "_read_char", Str.ofString "get_token", Str.ofString "push_token"]) (hy2 : y ∉ lexNames) (hf : K.mN y = some (.ref f)) (hf2 : f ∈ [K.fR, K.fG, K.fP, K.fI])
    (hq : Q (.ref f, [.ref x]) s) : wpF X A (getMethod (.ref x) y pl) Q s := by
  refine Classical.byContradiction fun hnx => ?_
  (obtain ⟨nm, q, bs, sn, sub, col, dd, k0, k1, k2, k3, k5, newId, ho, _⟩ := hc.cls) <;> (refine hnx ?_; clear hnx)
  refine Classical.byContradiction fun hnx => ?_
  (obtain ⟨of, fd, h1, h2, h3⟩ := hc.fns f hf2) <;> (refine hnx ?_; clear hnx)
  obtain ⟨h, g, d, t, os⟩ := s
  exact method_of (hb.held _ ho) (hc.ns _ hb) hc.ga hc.gh hf (hb.held _ h1) h2 (lk_obj_meth _ hy) hi (hm.none hy2) hq
end
end Mine
end
section
open PySem PySem.Calls PyProof.Rows
set_option maxRecDepth 100000
namespace Mine
section
variable {X : Cx} {K : LexK} {n : Nat} {D : FD} {σ : St} {st : LexSt} {Φ : AFl → St → Prop} {rest : List Stmt}
theorem R.lex {C : Gl} {g s : Shared} {fps : List (List Addr)} {k : Nat} (q : R C D g σ fps s) (ho : σ.hp[k]? = some (.other (lexS K st))) : ∃ x a ex, fps[k]? = some (x :: (LexA.list a ++ ex)) ∧ LexI K st s.heap x a ∧ (x :: a.list).Nodup := by
  have hlt : k < fps.length := q.len ▸ (List.getElem?_eq_some_iff.mp ho).1
  have e := List.getElem?_eq_getElem hlt
  refine Classical.byContradiction fun hnx => ?_
  (obtain ⟨x, a, ex, e1, i, hex⟩ := q.obj k _ _ ho e) <;> (refine hnx ?_; clear hnx)
  rw [e1] at e
  refine ⟨x, a, ex, e, i, ?_⟩
  have := q.nd; unfold ownOf at this; rw [List.nodup_cons, List.nodup_append] at this
  have := List.Nodup.sublist (List.sublist_flatten_of_mem (List.mem_of_getElem? e)) this.2.2.1
  exact List.Nodup.sublist (List.Sublist.cons_cons _ (List.sublist_append_left ..)) this
theorem R.lexSet {C : Gl} {g s s' : Shared} {fps : List (List Addr)} {k : Nat} {st' : LexSt} {x : Addr} {a : LexA} {W ex : List Addr} (q : R C D g σ fps s) (e : fps[k]? = some (x :: (a.list ++ ex))) (kp : KpB W [] s s') (hW : ∀ b ∈ W, b ∈ x :: a.list) (i : LexI K st' s'.heap x a) :
    R C D g ⟨σ.loc, σ.hp.set k (.other (lexS K st'))⟩ fps s' := by
  have hnd : (x :: (a.list ++ ex)).Nodup := by
    have := q.nd; unfold ownOf at this; rw [List.nodup_cons, List.nodup_append] at this
    exact List.Nodup.sublist (List.sublist_flatten_of_mem (List.mem_of_getElem? e)) this.2.2.1
  have hex : ∀ b ∈ ex, ∃ o, s'.heap.get? b = some o := fun b hb => by
    obtain ⟨o, ho⟩ := q.alive b (own_fps (mem_flatten_get e (by (exact .tail _ (List.mem_append_right _ (by assumption))))))
    refine ⟨o, kp.heap b o (fun hm => ?_) ho⟩
    have h1 : (x :: a.list ++ ex).Nodup := by exact hnd
    exact (List.nodup_append.mp h1).2.2 b (hW b hm) b hb rfl
  have := q.upd (o := .other (lexS K st')) (fp' := a.list ++ ex) e (kp.sub (fun b hb => by rcases List.mem_cons.mp (hW b hb) with rfl | h <;> (first | exact .head _ | exact .tail _ (List.mem_append_left _ (by assumption)))) (by simp)) (fun b hb => .inl hb) hnd ⟨x, a, ex, rfl, i, hex⟩
  rwa [PySem.W.X.set_same e] at this
noncomputable def LexSt.read (st : LexSt) : LexSt := { st with place := st.place + 1 }
noncomputable def LexSt.ch (st : LexSt) : Str := Txt.slice st.text (some st.place) (some (st.place + 1))
theorem lex_name {A : Around} {g s : Shared} {fps : List (List Addr)} {self : Str} {k : Nat} {ps : Pos} {Q : Value → Shared → Prop} (hl : σ.loc.lookup self = some (.ref k)) (hk : isVar D self = true) (ho : σ.hp[k]? = some (.other (lexS K st))) (hA : AOk A n) (q : R X.C D g σ fps s)
    (hq : ∀ s1 x a ex mA, Kp s s1 → R X.C D g σ fps s1 → fps[k]? = some (x :: (LexA.list a ++ ex)) → LexI K st s1.heap x a → (x :: a.list).Nodup → a.dx ≠ x → s1.heap.Inst x K.C mA → LexM st a.f a.p mA → Q (.ref x) s1) : wpF X A (eval (.Name self ps) D.env) Q s :=
  wpF_mono (EvA.name hl hk A g fps s hA q) fun r s1 hq1 => by
    obtain ⟨k1, x', fp', e1, hr1⟩ := hq1
    subst hr1
    obtain ⟨x, a, ex, e2, i, hnd⟩ := (q.ext k1).lex ho
    rw [e1] at e2; cases e2
    have hdx : a.dx ≠ x' := fun hh => (List.nodup_cons.mp hnd).1 (by rw [← hh]; (exact .head _))
    obtain ⟨mA, hI, hM⟩ := i.ii hdx
    exact hq s1 x' a ex mA k1 (q.ext k1) e1 i hnd hdx hI hM
theorem lex_read (hc : LexCls X K) {self : Str} {k k0 : Nat} {ps pi pa p0 pc : Pos} (hl : σ.loc.lookup self = some (.ref k)) (hk : isVar D self = true) (ho : σ.hp[k]? = some (.other (lexS K st))) (ht : st.text.length ≤ sizeLine) (hline : (pa.endLine == pc.line) = true := by rfl) :
    ∀ A g fps s, AOk A (n + 1) → R X.C D g σ fps s → wpF X A (eval (.Call (.Attribute (.Attribute (.Name self ps) (Str.ofString "instream") pi) (Str.ofString "read") pa) [.Constant (.int 1) k0 p0] [] pc) D.env)
      (fun r s' => R X.C D g ⟨σ.loc, σ.hp.set k (.other (lexS K st.read))⟩ fps s' ∧ ∃ t, r = .str st.ch t) s := fun A g fps s hA q => by
  refine Call_meth rfl rfl hline ?_
  refine Attribute_any_ (lex_name hl hk ho hA q fun s1 a' a ex mA k1 q1 e1 i hnd hdx hI hM => ?_)
  refine lex_get hc q1.z hI (by decide) hM.ins rfl ?_
  have k2 : Kp s1 { s1 with toks := s1.toks + 1 } := Kp.tok _ _
  have q2 := q1.ext k2
  refine Classical.byContradiction fun hnx => ?_
  (obtain ⟨of, fd, m, f1, f2, f3, f4, f5, f6⟩ := i.strm) <;> (refine hnx ?_; clear hnx)
  refine fn_getMethod (s := { s1 with toks := s1.toks + 1 }) f1 f2 f3 f4 f5 f6 rfl fun tk => ?_
  have q3 : R X.C D g σ fps { s1 with toks := tk } := q1.ext (Kp.tok _ _)
  refine Classical.byContradiction fun hnx => ?_
  (obtain ⟨og, fd', g1, g2, g3, _⟩ := id i.read) <;> (refine hnx ?_; clear hnx)
  refine callWith_def (o := og) (fd := fd') g3 (args_cons (wpAny_Constant_int (args_nil ⟨g1, ?_⟩)) rfl) rfl
  refine Classical.byContradiction fun hnx => ?_
  (obtain ⟨t2, c2⟩ := i.cell2) <;> (refine hnx ?_; clear hnx)
  refine Classical.byContradiction fun hnx => ?_
  (obtain ⟨tp, cp⟩ := i.place) <;> (refine hnx ?_; clear hnx)
  have q4 : R X.C D g σ fps { s1 with toks := tk + 1 } := q1.ext (Kp.tok _ _)
  have hzf : ∀ b ∈ [a.c1, a.c2, a.pl], D.z.get? b = none := fun b hb => by
    have hm : b ∈ a' :: (a.list ++ ex) := by
      revert hb; revert b; refine all3 ?_ ?_ ?_ <;> (first | exact .tail _ (.tail _ (.tail _ (.tail _ (.tail _ (.head _))))) | exact .tail _ (.tail _ (.tail _ (.tail _ (.tail _ (.tail _ (.head _)))))) | exact .tail _ (.tail _ (.tail _ (.tail _ (.tail _ (.tail _ (.tail _ (.head _))))))))
    have hf := q1.fresh b (own_fps (mem_flatten_get e1 hm))
    cases e : D.z.get? b with
    | none => rfl
    | some o => rw [q1.zk b o e] at hf; cases hf
  have hnd3 : [a.c1, a.c2, a.pl].Nodup := by
    refine List.Nodup.sublist ?_ hnd
    exact ((((((List.Sublist.refl [a.c1, a.c2, a.pl]).trans (List.Sublist.cons_cons _ (List.Sublist.cons_cons _ (List.Sublist.cons_cons _ (List.nil_sublist [a.p]))))).cons a.g).cons a.d).cons a.f).cons a.dx).cons a'
  refine wpF_mono (read_ok (n := n) (s := { s1 with toks := tk + 1 }) hA q1.bs (fun b o e => q1.keep.hp b o (q1.zk b o e)) q1.bare i.read (hc.code _ q1.z) i.cell1 c2 cp hnd3 hzf ht) fun r s5 ⟨k5, d1, d2, ⟨t5, d3⟩, ⟨t6, d4⟩⟩ => ⟨?_, t6, d4⟩
  refine q4.lexSet e1 k5 (fun b hb => ?_) ?_
  · revert hb; revert b; refine all3 ?_ ?_ ?_ <;> (first | exact .tail _ (.tail _ (.tail _ (.tail _ (.tail _ (.head _))))) | exact .tail _ (.tail _ (.tail _ (.tail _ (.tail _ (.tail _ (.head _)))))) | exact .tail _ (.tail _ (.tail _ (.tail _ (.tail _ (.tail _ (.tail _ (.head _))))))))
  · have kk : ∀ i {b}, (a' :: a.list)[i]? = some b → (i == 5) = false → (i == 6) = false → (i == 7) = false → ∀ o, s1.heap.get? b = some o → s5.heap.get? b = some o := fun i b e h5 h6 h7 o =>
      k5.heap b o fun hm => all3 (P := fun c => b ≠ c) (nd_ne hnd e (j := 5) rfl h5) (nd_ne hnd e (j := 6) rfl h6) (nd_ne hnd e (j := 7) rfl h7) b hm rfl
    obtain ⟨mA, e, r⟩ := i.dict
    obtain ⟨vs, pe, pr⟩ := i.push
    exact i.put (kk 2 rfl rfl rfl rfl) (kk 3 rfl rfl rfl rfl) (kk 4 rfl rfl rfl rfl) (i.inst.at (kk 0 rfl rfl rfl rfl)) ⟨mA, Heap.Ns1.at e (kk 1 rfl rfl rfl rfl), ⟨r.within, r.line, r.ins, r.ws, r.push⟩⟩ d1 d2 ⟨t5, d3⟩ ⟨vs, Heap.PlainList.at pe (kk 8 rfl rfl rfl rfl), pr.mono (by simp)⟩
theorem MethC.ofAt {f : Addr} {m : Stmt} {self : Str} {names : List Str} {args : List DV} {d : DV} {S S' : OSpec} (h : MethAt X f m)
    (hbind : ∀ fd : FuncData, fd.params = dParams m → fd.defaults = .none → fd.kwdefaults = .none → ∀ vals : List Value, vals.length = args.length + 1 → bindArgs fd ⟨vals, []⟩ = pure ((self :: names).zip vals))
    (hkind : ∀ x ∈ self :: names, (dScope m).names.lookup x = some .local) (hself : self ∉ names) (hnames : names.Nodup) (hln : names.length = args.length)
    (hfree : ∀ x ∈ (dScope m).names, x.2 ≠ .free) (hnd : ((dScope m).names.map (·.1)).Nodup) (hcl : ∀ k, cellsFrom k (dScope m).names [] = []) (hoc : (((dScope m).names.filter fun x => x.2 == .cell).map (·.1)) = []) (hco : (dScope m).isCoroutine = false) (hgen : (dScope m).isGenerator = false) (hk : (dScope m).kind = .function)
    (hsc : ∀ d ∈ args, d.sc = true) (hdsc : d.sc = true)
    (hb : ∀ E z, (∀ x, E.kindOf x = (dScope m).names.lookup x) → Ex X n ⟨E, [], [], z⟩ (dBody m) ⟨(self, .ref 0) :: names.zip (args.map AV.dv), [.other S]⟩ (fun fl σ' => retIs d fl σ' ∧ σ'.hp[0]? = some (.other S'))) : MethC X (n + 1) f S S' args d := by
  obtain ⟨o, fd, h1, h2, h3, h4, h5, h6, h7, h8, h9, h10, h11, h12⟩ := h
  refine MethC.ofBody h1 h3 h4 h7 h8 h9 h12 (fun vals hv => hbind fd h5 h10 h11 vals hv) (by rw [h6]; exact hkind) hself hnames hln (by rw [h6]; exact hfree) (by rw [h6]; exact hnd) (by rw [h6]; exact hcl) (by rw [h6]; exact hoc) (by rw [h6]; exact hco) (by rw [h6]; exact hgen) (by rw [h6]; exact hk) hsc hdsc fun L z => hb _ z fun x => by rw [← h6]; rfl
theorem lex_store {A : Around} {s : Shared} {x : Addr} {a : LexA} {y : Str} {v : Value} {mA : Str → Option Value} {Q : Unit → Shared → Prop} (hc : LexCls X K) (hb : Bs X.C s.heap) (hx : InstAt s.heap K.C x a.dx) (hn : s.heap.Ns1 a.dx mA) (hne : a.dx ≠ x) (hxC : x ≠ K.C) (hw : PySem.Within mA lexNames) (hy : y ∈ lexNames)
    (hq : ∀ h' tk, InstAt h' K.C x a.dx → h'.Ns1 a.dx (fun z => if z = y then some v else mA z) → (∀ b o, b ≠ x → b ≠ a.dx → s.heap.get? b = some o → h'.get? b = some o) → Q () { s with heap := h', toks := tk }) :
    wpF X A (setAttr (.ref x) y v) Q s := by
  refine Classical.byContradiction fun hnx => ?_
  (obtain ⟨nm, qq, bs, sn, sub, col, dd, k0', k1', k2', k3', k5', newId, hcl, _⟩ := hc.cls) <;> (refine hnx ?_; clear hnx)
  obtain ⟨ox, e1, e2, e3, e4⟩ := hx
  obtain ⟨h, g, d, t, os⟩ := s
  have e1 : h.get? x = some ox := e1
  refine store_attr F.store_object (hb.held _ hcl) (hc.ns _ hb) hc.sa (hc.own _ hy) (lk_obj_line _ hy) hxC ⟨ox, e1, e2, e3, .inr ⟨a.dx, e4, hne, hn⟩⟩ (fun h' tk' I hk hs => ?_) hw (by decide)
  refine Classical.byContradiction fun hnx => ?_
  (obtain ⟨o1, f1, f2, f3, f4, f5⟩ := hs ox e1) <;> (refine hnx ?_; clear hnx)
  refine Classical.byContradiction fun hnx => ?_
  (obtain ⟨o2, g1, g2, g3, g4⟩ := I) <;> (refine hnx ?_; clear hnx)
  obtain rfl := Option.some.inj (f1.symm.trans g1)
  have hd1 := f5 _ e4
  refine hq h' tk' ⟨o1, f1, g2, g3, hd1⟩ ?_ fun b o hbx hbd e => hk b o hbx (fun o₀ dx he hd => ?_) e
  · rcases g4 with ⟨g4, _⟩ | ⟨d', g4, _, g5⟩
    · rw [hd1] at g4; cases g4
    · obtain rfl := Option.some.inj (hd1.symm.trans g4); exact g5
  · obtain rfl := Option.some.inj (e1.symm.trans he); obtain rfl := Option.some.inj (e4.symm.trans hd); exact hbd
noncomputable def LexSt.bump (st : LexSt) : LexSt := { st with line := st.line + 1 }
theorem lex_bump (hc : LexCls X K) {self : Str} {k k0 : Nat} {ps pt p0 pos : Pos} (hl : σ.loc.lookup self = some (.ref k)) (hk : isVar D self = true) (ho : σ.hp[k]? = some (.other (lexS K st)))
    (hr : Ex X n D rest ⟨σ.loc, σ.hp.set k (.other (lexS K st.bump))⟩ Φ) : Ex X n D (.AugAssign (.Attribute (.Name self ps) (Str.ofString "lineno") pt) .Add (.Constant (.int 1) k0 p0) pos :: rest) σ Φ := Ex.cons fun A g fps s hA q => by
  refine wpAny_AugAssign_AttributeAny (lex_name hl hk ho hA q fun s1 a' a ex _ k1 q1 e1 i hnd hdx _ _ => ?_)
  refine Classical.byContradiction fun hnx => ?_
  (obtain ⟨mA, hN, hM⟩ := i.dict) <;> (refine hnx ?_; clear hnx)
  obtain ⟨ox, j1, j2, j3, j4⟩ := i.inst
  obtain ⟨t1, hline⟩ := hM.line
  refine lex_get hc q1.z ⟨ox, j1, j2, j3, .inr ⟨a.dx, j4, hdx, hN⟩⟩ (by decide) hline rfl ?_
  refine wpAny_Constant_int (PyProof.Rows.iadd_int ?_)
  have hxC : a' ≠ K.C := hc.ne q1 (mem_flatten_get e1 List.mem_cons_self)
  refine lex_store (s := { s1 with toks := _ }) hc q1.z i.inst hN hdx hxC hM.within (by decide) fun h' tk i1 i2 i3 => ?_
  refine ⟨.next, _, fps, q1.lexSet (st' := st.bump) (s' := { s1 with heap := h', toks := tk }) (W := [a', a.dx]) e1 (KpB.of_heap fun b o hb e => i3 b o (fun hh => hb (by simp [hh])) (fun hh => hb (by simp [hh])) e) (fun b hb => ?_) ?_, Fext.refl _, rfl, hr⟩
  · revert hb; revert b; refine all2 ?_ ?_ <;> (first | exact .head _ | exact .tail _ (.head _))
  · exact i.setInst hnd i3 i1 ⟨_, i2, ⟨fun y hy => (by
          by_cases hh : y = Str.ofString "lineno"
          · subst hh; decide
          · rw [if_neg hh] at hy; exact hM.within y hy), ⟨_, if_pos rfl⟩, by rw [if_neg (by decide)]; exact hM.ins, (by rw [if_neg (by decide)]; exact hM.ws), by rw [if_neg (by decide)]; exact hM.push⟩⟩ rfl rfl rfl
noncomputable def EvM (X : Cx) (n : Nat) (D : FD) (σ : St) (e : Expr) (σ' : St) (y : Str) : Prop :=
  ∀ A g fps s, AOk A n → R X.C D g σ fps s → wpF X A (eval e D.env) (fun r s' => RX X.C D g fps σ' s' ∧ ∃ t, r = .str y t) s
theorem Ex.assignM {x : Str} {p pos : Pos} {e : Expr} {σ' : St} {y : Str} (h : EvM X n D σ e σ' y) (hk : isOwnVar D x = true) (hr : Ex X n D rest ⟨(x, .dv (.str y)) :: σ'.loc, σ'.hp⟩ Φ)
    (hs : swapsWith e (some (.Name x p)) pos.line D.env = pure false := by rfl) : Ex X n D (.Assign [.Name x p] e pos :: rest) σ Φ := Ex.cons fun A g fps s hA q =>
  wpAny_Assign_Name (wpF_mono (h A g fps s hA q) fun r s1 hqp => by
    obtain ⟨⟨fps', q1, e1⟩, t, hr'⟩ := hqp
    subst hr'
    exact q1.store (v := .dv (.str y)) hk ⟨[], ⟨t, rfl⟩, rfl⟩ fun s2 q2 => ⟨.next, _, fps', q2, e1, rfl, hr⟩) hs
noncomputable def LexSt.step (st : LexSt) : LexSt := if (st.ch == Str.ofString "\n") = true then st.read.bump else st.read
theorem readChar_ok (hc : LexCls X K) (ht : st.text.length ≤ sizeLine) : MethC X (n + 2) K.fR (lexS K st) (lexS K st.step) [] (.str st.ch) := by
  refine MethC.ofAt (self := Str.ofString "self") (names := []) hc.aR (fun fd h1 h2 h3 vals hv => ?_) (by decide) (by decide) (by decide) rfl (by decide) (by decide) (fun _ => rfl) rfl rfl rfl rfl (by simp) rfl fun E z hE => ?_
  · obtain ⟨v, rfl⟩ := len1 hv
    rw [fdl h1 h2 h3]; rfl
  have hv : ∀ x, (dScope (mS 1)).names.lookup x = some .local → x ≠ Str.ofString "__classdict__" → x ≠ Str.ofString "__debug__" → isVar ⟨E, [], [], z⟩ x = true := fun x h h1 h2 => by
    unfold isVar
    rw [show FD.env ⟨E, [], [], z⟩ = E from rfl, hE, h]
    simp [h1, h2]
  have hw : ∀ x, (dScope (mS 1)).names.lookup x = some .local → isOwnVar ⟨E, [], [], z⟩ x = true := fun x h => by
    unfold isOwnVar
    rw [show FD.env ⟨E, [], [], z⟩ = E from rfl, hE, h]
    rfl
  have hrd : EvM X (n + 1) ⟨E, [], [], z⟩ ⟨[(Str.ofString "self", .ref 0)], [.other (lexS K st)]⟩ (asgE (stN (dBody (mS 1)) 0)) ⟨[(Str.ofString "self", .ref 0)], [.other (lexS K st.read)]⟩ st.ch := fun A g fps s hA q =>
    wpF_mono (lex_read (k := 0) hc rfl (hv _ rfl (by decide) (by decide)) rfl ht (by rfl) A g fps s hA q) fun r s' hqp => by obtain ⟨q', h⟩ := hqp; exact ⟨⟨fps, q', Fext.refl _⟩, h⟩
  refine Ex.assignM hrd (hw _ rfl) ?_
  refine Ex.ite (EvB.cmp (EvO.name (d := .str st.ch) rfl (hv _ rfl (by decide) (by decide))) EvO.str.toO .eqS) (fun hb => ?_) fun hb => Ex.nil ?_
  · refine lex_bump (k := 0) hc rfl (hv _ rfl (by decide) (by decide)) rfl (Ex.nil ?_)
    refine Ex.ret ((EvO.name (d := .str st.ch) rfl (hv _ rfl (by decide) (by decide))).toF rfl) ⟨rfl, ?_⟩
    rw [LexSt.step, if_pos hb]; rfl
  · refine Ex.ret ((EvO.name (d := .str st.ch) rfl (hv _ rfl (by decide) (by decide))).toF rfl) ⟨rfl, ?_⟩
    rw [LexSt.step, if_neg (by simp [hb])]; rfl
end
end Mine
end
section
open PySem PySem.Calls PyProof.Rows
set_option maxRecDepth 100000
namespace Mine
theorem lk_fn_get : typeLookup (.type "function") (Str.ofString "__get__") = pure (some (.builtin "function.__get__")) := by rw [typeLookup_type, builtinLookup_eq_fast]; kernel_rfl
theorem lk_fn_set : typeLookup (.type "function") (Str.ofString "__set__") = pure none := by rw [typeLookup_type, builtinLookup_eq_fast]; kernel_rfl
theorem lk_fn_delete : typeLookup (.type "function") (Str.ofString "__delete__") = pure none := by rw [typeLookup_type, builtinLookup_eq_fast]; kernel_rfl
section
variable {prog : Program} {w : World} {A : Around} {E : Value → Shared → Prop} {h : Heap} {g : Array GenState} {d : Drawn} {t : Nat} {os : OsState}
variable {nm q : Str} {C N x : Addr} {bs : List Value} {sn : List Str} {sub : List Value} {ab : Bool} {col : Option Bool} {dd : Option Addr} {k0 k1 k2 k3 k5 : Option Value} {newId : String}
  {mN mA : Str → Option Value} {name : Str} {v : Value}
theorem bound_entry {tk : Tok} {f : Addr} {of : Obj} {Q : PySem.Fin → Shared → Prop}
    (hC : h.get? C = some (excClassObj nm q C N bs [.type "object"] true sn sub ab col dd k0 k1 k2 k3 k5 newId)) (hn : h.Ns N mN) (hna : mN name = some (.ref f)) (hng : mN (Str.ofString "__getattr__") = none) (hfo : h.get? f = some of) (hfc : of.cls = .type "function")
    (hB : typeLookup (.type "object") name = pure none) (I : h.Inst x C mA) (hv : mA name = none) (hnm : ([Str.ofString "__module__", Str.ofString "__name__", Str.ofString "__qualname__", Str.ofString "__doc__", Str.ofString "__annotations__"].contains name) = false) (hq : Q (.done (.ret (.ref h.objs.size))) ⟨h.push { cls := .type "method", data := .fields #[.ref f, .ref x] }, g, d, t, os⟩) :
    wpAny (model prog w) A (Builtin.«proto.getattr_hooked» ⟨[.ref x, .str name tk], []⟩) Q E ⟨h, g, d, t, os⟩ := by
  obtain ⟨o, hx, hc, hnc, hd⟩ := I
  have f1 := lk_fn_get
  have f2 := lk_fn_set
  have f3 := lk_fn_delete
  unfold Builtin.«proto.getattr_hooked»
  repeat (first | (with_reducible refine wpAny_loadPart_at hx ?_; rw [hc]) | (with_reducible refine wpAny_loadPart_at hfo ?_; rw [hfc]) | (with_reducible refine wpAny_typeLookup_exc hC hn F.mro_object hB ?_; rw [hna]) | wp_step)
  have fin : wpAny (model prog w) A (Builtin.ObjectAttr.bindTo (.builtin "function.__get__") (.ref f) (.ref x) (.ref C)) Q E ⟨h, g, d, t, os⟩ := by
    unfold Builtin.ObjectAttr.bindTo
    refine wpAny_bind (wpAny_holding (wpAny_call_entry F.ks_slot_function_get (T := "function") ⟨_, hfo, hfc⟩ F.ks_entry_function_get ?_ (F.ks_getArgs_function _ _ _)))
    unfold Builtin.«function.__get__»
    repeat wp_step
    exact ⟨_, rfl, wpAny_pure hq⟩
  split
  · rename_i c hcd
    exact absurd hcd (hnc c)
  unfold instanceDict
  repeat (first | (with_reducible refine wpAny_loadPart_at hx ?_; rw [hc]) | with_reducible refine wpAny_loadPart_at hC ?_ | wp_step)
  rcases hd with ⟨hd, _⟩ | ⟨dx, hd, hdx, hns⟩
  · rw [hd]
    repeat (first | (with_reducible refine wpAny_typeLookup_exc hC hn F.mro_object F.lk_object_getattr ?_; rw [hng]) | wp_step)
    rw [hnm]
    simp only [Bool.false_eq_true, if_false]
    refine wpAny_pure ?_
    refine wpAny_bind (wpAny_rule (wpAny_pure ?_))
    show wpAny _ _ (typeLookup (.ref C) (Str.ofString "__getattr__") >>= _) _ _ _
    refine wpAny_bind (wpAny_typeLookup_exc hC hn F.mro_object F.lk_object_getattr ?_)
    rw [hng]
    exact fin
  · rw [hd]
    repeat (first | (with_reducible refine wpAny_nsGet hns.ns ?_; rw [hv]) | (with_reducible refine wpAny_typeLookup_exc hC hn F.mro_object F.lk_object_getattr ?_; rw [hng]) | wp_step)
    rw [hnm]
    simp only [Bool.false_eq_true, if_false]
    refine wpAny_pure ?_
    refine wpAny_bind (wpAny_rule (wpAny_pure ?_))
    show wpAny _ _ (typeLookup (.ref C) (Str.ofString "__getattr__") >>= _) _ _ _
    refine wpAny_bind (wpAny_typeLookup_exc hC hn F.mro_object F.lk_object_getattr ?_)
    rw [hng]
    exact fin
theorem bound_attr {expr : Bool} {f : Addr} {of : Obj} {Q : Value → Shared → Prop}
    (hC : h.get? C = some (excClassObj nm q C N bs [.type "object"] true sn sub ab col dd k0 k1 k2 k3 k5 newId)) (hn : h.Ns N mN) (hgb : mN (Str.ofString "__getattribute__") = none) (hna : mN name = some (.ref f)) (hng : mN (Str.ofString "__getattr__") = none) (hfo : h.get? f = some of) (hfc : of.cls = .type "function")
    (hB : typeLookup (.type "object") name = pure none) (I : h.Inst x C mA) (hv : mA name = none) (hnm : ([Str.ofString "__module__", Str.ofString "__name__", Str.ofString "__qualname__", Str.ofString "__doc__", Str.ofString "__annotations__"].contains name) = false)
    (hq : Q (.ref h.objs.size) ⟨h.push { cls := .type "method", data := .fields #[.ref f, .ref x] }, g, d, t + 1, os⟩) :
    wpAny (model prog w) A (getAttr (.ref x) name expr) Q E ⟨h, g, d, t, os⟩ := by
  obtain ⟨o, hx, hc, _⟩ := id I
  unfold getAttr getAttrBy
  repeat (first | (with_reducible refine wpAny_loadPart_at hx ?_; rw [hc]) | (with_reducible refine wpAny_typeLookup_exc hC hn F.mro_object F.lk_object_ga ?_; rw [hgb]) | wp_step)
  show wpAny _ _ ((runValue (.builtin "proto.getattr_hooked" ⟨[.ref x, .str name t], []⟩)).onRaise (noteIf true (.ref x) (.str name t))) _ _ _
  refine wpAny_onRaise (wpAny_runValue (codeAny_builtin F.plainObj_entry_getattr_hooked (bound_entry hC hn hna hng hfo hfc hB I hv hnm ?_)))
  show wpAny _ _ (handedOut (.ref h.objs.size)) _ _ _
  exact wpAny_pure hq
end
end Mine
end
section
open PySem PySem.Calls PyProof.Rows
set_option maxRecDepth 100000
namespace Mine
theorem slot_ci_next : Slot "callable_iterator" "__next__" "callable_iterator.__next__" :=
  .of (owner := "callable_iterator") (n := "__next__") (by rw [typeLookup_type, builtinLookup_eq_fast]; kernel_rfl) (by decide +kernel) (by decide +kernel) (by decide +kernel)
    (by first | exact .inl (by decide +kernel) | exact .inr (by decide +kernel)) (by rw [isSubtype_type]; kernel_rfl)
theorem entry_ci_next : entryFor table "callable_iterator.__next__" = some Builtin.«callable_iterator.__next__» := entryFor_of_tree (by kernel_rfl)
theorem args_ci_next (a : Value) : argsOk "callable_iterator.__next__" ⟨[a], []⟩ := by unfold argsOk; kernel_rfl
theorem entry_ci_iter : entryFor table "callable_iterator.__iter__" = some Builtin.«dict_keyiterator.__iter__» :=
  entryFor_alias (id' := "dict_keyiterator.__iter__") (by kernel_rfl) (by first | rfl | decide +kernel | (unfold String.splitOn; simp +decide [String.splitOnAux])) (by decide +kernel) (by kernel_rfl)
theorem args_ci_iter (a : Value) : argsOk "callable_iterator.__iter__" ⟨[a], []⟩ := by unfold argsOk; kernel_rfl
theorem slot_ci_iter : Slot "callable_iterator" "__iter__" "callable_iterator.__iter__" :=
  .of (owner := "callable_iterator") (n := "__iter__") (by rw [typeLookup_type, builtinLookup_eq_fast]; kernel_rfl) (by decide +kernel) (by decide +kernel) (by decide +kernel)
    (by first | exact .inl (by decide +kernel) | exact .inr (by decide +kernel)) (by rw [isSubtype_type]; kernel_rfl)
theorem lk_method_call : typeLookup (.type "method") (Str.ofString "__call__") = pure (some (.builtin "method.__call__")) := by rw [typeLookup_type, builtinLookup_eq_fast]; kernel_rfl
theorem args_iter2 (a b : Value) : argsOk "iter" ⟨[a, b], []⟩ := by unfold argsOk; kernel_rfl
section
variable {X : Cx} {A : Around} {s : Shared}
theorem wp_callBorrowed {f : Value} {pos : List Value} {Q E : Value → Shared → Prop} (hc : codeAny (model X.prog X.w) A (.call f ⟨pos, []⟩) (fun r s' => match r with | .ok (.ret v) => Q v s' | .ok _ => False | .error e => E e s') s) :
    wpAny (model X.prog X.w) A (callBorrowed f pos) Q E s := fun Γ p hΓ => by
  have h := hc _ p rfl (hΓ.enter (.call f ⟨pos, []⟩) none p (by intro x; cases x))
  unfold callBorrowed
  rw [Sem.wp_call]
  refine wpCode_mono (fun r s' hr => ?_) h
  match r, hr with
  | .ok (.ret v), hr => exact hr
  | .error e, hr => exact hr
theorem call_iter2 {m : Addr} {o : Obj} {v : Value} {Q : Value → Shared → Prop} (ho : s.heap.get? m = some o) (hc : o.cls = .type "method")
    (hq : Q (.ref s.heap.objs.size) { s with heap := s.heap.push { cls := .type "callable_iterator", data := .fields #[.ref m, v, .bool false] } }) : wpF X A (call (.builtin "iter") [.ref m, v]) Q s := by
  refine call_function_entry (by decide +kernel) (by decide +kernel) PySem.W.kdk_entry_iter (args_iter2 _ _) ?_
  unfold Builtin.«iter»
  refine wpAny_bind (m := someArgs "iter" 1 2 _) (wpAny_of_eq (a := [Value.ref m, v]) (by first | rfl | kernel_rfl!) ?_)
  dsimp only
  refine wpAny_bind (wpAny_specialOf (name := Str.ofString "__call__") (T := "method") ⟨_, ho, hc⟩ lk_method_call ?_)
  refine wpAny_ite_split (fun hab => absurd hab (by decide)) (fun _ => ?_)
  refine wpAny_bind (wpAny_rule ?_)
  unfold newFields
  refine wpAny_bind (wpAny_newObj_type ?_ (by size_fits))
  exact wpAny_pure ⟨_, rfl, hq⟩
noncomputable def ciObj (m : Addr) (t : Tok) : Obj := { cls := .type "callable_iterator", data := .fields #[.ref m, .str Str.empty t, .bool false] }
noncomputable def ciEnd : Obj := { cls := .type "callable_iterator", data := .fields #[.none, .none, .bool true] }
noncomputable def mObj (f x : Addr) : Obj := { cls := .type "method", data := .fields #[.ref f, .ref x] }
theorem wp_borrows {A : Around} {s : Shared} {m f x : Addr} {of : Obj} {fd : FuncData} {Q : Bool → Shared → Prop} {E : Value → Shared → Prop} (hm : s.heap.get? m = some (mObj f x)) (hf : s.heap.get? f = some of) (hfd : of.data = .func fd) (h : Q true s) :
    wpAny (model X.prog X.w) A (borrowsExactly (.ref m)) Q E s := by
  unfold borrowsExactly
  refine wpAny_bind (wpAny_load hm ?_)
  show wpAny _ _ (load f >>= _) _ _ _
  refine wpAny_bind (wpAny_load hf ?_)
  rw [hfd]
  exact wpAny_pure h
theorem ci_next {it m f x : Addr} {t : Tok} {of : Obj} {fd : FuncData} {ch : Str} {P : Shared → Prop} {Q : Option Value → Shared → Prop} (hh : A.handled = none) (hit : s.heap.get? it = some (ciObj m t)) (hm : s.heap.get? m = some (mObj f x)) (hf : s.heap.get? f = some of) (hfd : of.data = .func fd)
    (hcall : codeAny (model X.prog X.w) A.in1 (.call (.ref f) ⟨[.ref x], []⟩) (fun r s' => match r with
      | .ok (.ret v) => (∃ t, v = .str ch t) ∧ s'.heap.get? it = some (ciObj m t) ∧ s'.heap.get? m = some (mObj f x) ∧ s'.heap.get? f = some of ∧ P s'
      | .ok _ => False
      | .error _ => False) s)
    (hsome : ch ≠ Str.empty → ∀ s' t, P s' → Q (some (.str ch t)) s')
    (hnone : ch = Str.empty → ∀ s' h', P s' → (∀ b o, b ≠ it → s'.heap.get? b = some o → h'.get? b = some o) → h'.get? it = some ciEnd → Q none { s' with heap := h' }) : wpF X A (pyNext (.ref it)) Q s := by
  have hT : s.TypeIs (.ref it) "callable_iterator" := ⟨_, hit, rfl⟩
  unfold pyNext
  refine wpAny_bind (wpAny_attempt (wpAny_callSpecial?_slot (name := Str.ofString "__next__") hT slot_ci_next
    (wpAny_call_entry slot_ci_next hT entry_ci_next ?_ (args_ci_next _))))
  unfold Builtin.«callable_iterator.__next__»
  refine wpAny_bind (wpAny_of_eq (a := (Value.ref it, [])) (by first | rfl | kernel_rfl!) ?_)
  refine wpAny_bind (wpAny_field hit rfl (x := .bool false) rfl ?_)
  refine wpAny_ite_split (fun hab => absurd hab (by decide)) (fun _ => ?_)
  refine wpAny_bind (wpAny_field hit rfl (x := .ref m) rfl ?_)
  refine wpAny_bind (wpAny_attempt ?_)
  unfold callOutOfASlot
  refine wpAny_bind (wp_borrows (X := X) hm hf hfd ?_)
  rw [if_pos rfl]
  refine wp_callBorrowed (ks_codeAny_call_bound hm (codeAny_mono hcall fun r s' hr => ?_))
  match r, hr with
  | .ok (.ret v), ⟨⟨tv, e⟩, i1, i2, i3, hP⟩ =>
    subst e
    show wpAny _ _ (field (.ref it) 2 >>= _) _ _ _
    refine wpAny_bind (wpAny_field i1 rfl (x := .bool false) rfl ?_)
    refine wpAny_ite_split (fun hab => absurd hab (by decide)) (fun _ => ?_)
    show wpAny _ _ (field (.ref it) 1 >>= _) _ _ _
    refine wpAny_bind (wpAny_field i1 rfl (x := .str Str.empty t) rfl ?_)
    refine wpAny_bind (wpAny_holding (wpAny_eqBool_str ?_))
    by_cases hc : ch = Str.empty
    · subst hc
      dsimp only [decide_true, Bool.not_true, Bool.false_eq_true, if_false]
      refine wpAny_bind (wpAny_rule ?_)
      refine wpAny_bind ?_
      show wpAny _ _ (field (.ref it) 0 >>= _) _ _ _
      refine wpAny_bind (wpAny_field i1 rfl (x := .ref m) rfl ?_)
      refine wpAny_bind ?_
      unfold slotLetsGo
      refine wpAny_bind (wp_borrows (X := X) i2 i3 hfd ?_)
      rw [if_pos rfl]
      refine wpAny_pure ?_
      obtain ⟨hp, g, d, tk, os⟩ := s'
      refine wpAny_bind (wpAny_setField_rec i1 (by simp) fun h1 e1 n1 => ?_)
      refine wpAny_bind (wpAny_setField_rec e1 (by simp) fun h2 e2 n2 => ?_)
      refine wpAny_setField_rec e2 (by simp) fun h3 e3 n3 => ?_
      show wpAny _ _ (newExc (.type "StopIteration") [] >>= _) _ _ _
      refine wpAny_bind ?_
      simp only [newExc, newTuple]
      refine wpAny_bind (wpAny_newObj_type ?_ (by size_fits))
      refine wpAny_bind (m := firstArgMember _ _) (wpAny_of_eq (a := Value.none) (by first | rfl | (simp only [firstArgMember]; rfl)) ?_)
      refine wpAny_newObj_type ?_ (by size_fits)
      dsimp only [raiseNew]
      refine wpAny_bind (wpAny_handled ?_)
      first | rw [show A.in1.handled = none from hh] | rw [hh]
      refine wpAny_bind (wpAny_pure (wpAny_throw ?_))
      refine wpAny_bind (wpAny_isInstance (T := "StopIteration") (b := true) ⟨_, Heap.get?_push_size _ rfl, rfl⟩ isSubtype_stop ?_)
      rw [if_pos rfl]
      refine wpAny_pure (hnone rfl ⟨hp, g, d, tk, os⟩ _ hP (fun b o hb e => ?_) ?_)
      · exact Heap.get?_push_of_some _ (Heap.get?_push_of_some _ ((n3.2 b hb).trans ((n2.2 b hb).trans ((n1.2 b hb).trans e))))
      · exact Heap.get?_push_of_some _ (Heap.get?_push_of_some _ e3)
    · rw [if_pos (by simp [Ne.symm hc])]
      exact wpAny_pure ⟨_, rfl, wpAny_pure (hsome hc s' tv hP)⟩
theorem ci_done {it : Addr} {Q : Option Value → Shared → Prop} (hh : A.handled = none) (hit : s.heap.get? it = some ciEnd) (h : ∀ h', (∀ b o, s.heap.get? b = some o → h'.get? b = some o) → Q none { s with heap := h' }) : wpF X A (pyNext (.ref it)) Q s := by
  have hT : s.TypeIs (.ref it) "callable_iterator" := ⟨_, hit, rfl⟩
  unfold pyNext
  refine wpAny_bind (wpAny_attempt (wpAny_callSpecial?_slot (name := Str.ofString "__next__") hT slot_ci_next
    (wpAny_call_entry slot_ci_next hT entry_ci_next ?_ (args_ci_next _))))
  unfold Builtin.«callable_iterator.__next__»
  refine wpAny_bind (wpAny_of_eq (a := (Value.ref it, [])) (by first | rfl | kernel_rfl!) ?_)
  refine wpAny_bind (wpAny_field hit rfl (x := .bool true) rfl ?_)
  rw [if_pos (by rfl)]
  refine wpAny_bind (wpAny_rule (wpAny_bind ?_))
  show wpAny _ _ (newExc (.type "StopIteration") [] >>= _) _ _ _
  refine wpAny_bind ?_
  dsimp only [newExc, newTuple]
  refine wpAny_bind (wpAny_newObj_type ?_ (by size_fits))
  refine wpAny_bind (m := firstArgMember _ _) (wpAny_of_eq (a := Value.none) (by first | rfl | (simp only [firstArgMember]; rfl)) ?_)
  refine wpAny_newObj_type ?_ (by size_fits)
  dsimp only [raiseNew]
  refine wpAny_bind (wpAny_handled ?_)
  first | rw [show A.in1.handled = none from hh] | rw [hh]
  refine wpAny_bind (wpAny_pure (wpAny_throw ?_))
  refine wpAny_bind (wpAny_isInstance (T := "StopIteration") (b := true) ⟨_, Heap.get?_push_size _ rfl, rfl⟩ isSubtype_stop ?_)
  rw [if_pos rfl]
  exact wpAny_pure (h _ fun b o e => Heap.get?_push_of_some _ (Heap.get?_push_of_some _ e))
theorem ci_iter {it : Addr} {o : Obj} {Q : Value → Shared → Prop} (hit : s.heap.get? it = some o) (hc : o.cls = .type "callable_iterator") (h : Q (.ref it) s) : wpF X A (pyIter (.ref it)) Q s := by
  have hT : s.TypeIs (.ref it) "callable_iterator" := ⟨_, hit, hc⟩
  refine wpAny_pyIter_slot hT slot_ci_iter (wpAny_call_entry slot_ci_iter hT entry_ci_iter ?_ (args_ci_iter _))
  show wpAny _ _ (ret (.ref it)) _ _ s
  exact wpAny_pure ⟨_, rfl, "callable_iterator", _, hT, slot_ci_next.lookup, h⟩
end
end Mine
end
section
open PySem PySem.Calls PyProof.Rows
set_option maxRecDepth 100000
namespace Mine
noncomputable def litS (K : LexK) (st : LexSt) (x it m : Addr) (act : Bool) : OSpec where
  P := fun h l => ∃ a, l = x :: (LexA.list a ++ [it, m]) ∧ LexI K st h x a ∧ (∃ o, h.get? it = some o ∧ if act then ∃ t, o = ciObj m t else o = ciEnd) ∧ h.get? m = some (mObj K.fR x)
  mono := by
    rintro h h' fp ⟨a, rfl, i, ⟨o, e1, e2⟩, e3⟩ k
    exact ⟨a, rfl, i.mono fun b hb => k b (by rcases List.mem_cons.mp hb with rfl | hb <;> (first | exact .head _ | exact .tail _ (List.mem_append_left _ (by assumption)))), ⟨o, k _ (by (exact .tail _ (List.mem_append_right _ (.head _)))) _ e1, e2⟩, k _ (by simp) _ e3⟩
  alive := by
    rintro h fp ⟨a, rfl, i, ⟨o, e1, e2⟩, e3⟩ b hb
    rcases List.mem_cons.mp hb with rfl | hb
    · exact i.alive _ List.mem_cons_self
    rcases List.mem_append.mp hb with hb | hb
    · exact i.alive b (List.mem_cons_of_mem _ hb)
    · exact all2 (P := fun b => ∃ o, h.get? b = some o) ⟨o, e1⟩ ⟨_, e3⟩ b hb
section
variable {X : Cx} {K : LexK} {n : Nat} {D : FD} {σ : St} {st : LexSt} {Φ : AFl → St → Prop} {rest : List Stmt} {x it m : Addr} {act : Bool} {k : Nat}
theorem R.nodupAt {C : Gl} {g s : Shared} {fps : List (List Addr)} {l : List Addr} (q : R C D g σ fps s) (e : fps[k]? = some l) : l.Nodup := by
  have := q.nd; unfold ownOf at this; rw [List.nodup_cons, List.nodup_append] at this
  exact List.Nodup.sublist (List.sublist_flatten_of_mem (List.mem_of_getElem? e)) this.2.2.1
theorem R.zfree {C : Gl} {g s : Shared} {fps : List (List Addr)} {l : List Addr} (q : R C D g σ fps s) (e : fps[k]? = some l) : ∀ b ∈ l, D.z.get? b = none := fun b hb => by
  have h1 := q.fresh b (own_fps (mem_flatten_get e hb))
  cases e2 : D.z.get? b with
  | none => rfl
  | some o => rw [q.zk b o e2] at h1; cases h1
theorem R.methPost {C : Gl} {g s s' : Shared} {fps : List (List Addr)} {st' : LexSt} {a : LexA} {ex fp' : List Addr} (q : R C D g σ fps s) (e : fps[k]? = some (x :: (a.list ++ ex))) (kp : KpB (x :: a.list) [] s s') (hP : (lexS K st').P s'.heap (x :: fp')) (hnd' : (x :: fp').Nodup)
    (hsub : ∀ b ∈ fp', b ∈ a.list ∨ s.heap.get? b = none) : ∃ a', LexI K st' s'.heap x a' ∧ (∀ b ∈ ex, ∀ o, s.heap.get? b = some o → s'.heap.get? b = some o) ∧ ∀ o : AObj, Rep s'.heap o (x :: (a'.list ++ ex)) → RX C D g fps ⟨σ.loc, σ.hp.set k o⟩ s' := by
  refine Classical.byContradiction fun hnx => ?_
  (obtain ⟨x', a', ex', e1, i, _⟩ := hP) <;> (refine hnx ?_; clear hnx)
  cases e1
  have hnd := q.nodupAt e
  have h1 : (x :: a.list ++ ex).Nodup := by exact hnd
  have hapart : ∀ b ∈ ex, b ∉ x :: a.list := fun b hb hm => (List.nodup_append.mp h1).2.2 b hm b hb rfl
  have hal : ∀ b ∈ x :: (a.list ++ ex), ∃ o, s.heap.get? b = some o := fun b hb => q.alive b (own_fps (mem_flatten_get e hb))
  refine ⟨a', i, fun b hb o ho => kp.heap b o (hapart b hb) ho, fun o hr => ?_⟩
  have hnew : (x :: (a'.list ++ ex)).Nodup := by
    have h2 : (x :: a'.list).Nodup := List.Nodup.sublist (List.Sublist.cons_cons _ (List.sublist_append_left ..)) hnd'
    have h3 : ex.Nodup := (List.nodup_append.mp h1).2.1
    have h4 : (x :: a'.list ++ ex).Nodup := List.nodup_append.mpr ⟨h2, h3, fun b hb c hc hh => by
      subst hh
      rcases List.mem_cons.mp hb with rfl | hb
      · exact hapart b hc List.mem_cons_self
      · rcases hsub b (List.mem_append_left _ hb) with h | h
        · exact hapart b hc (List.mem_cons_of_mem _ h)
        · obtain ⟨o', ho'⟩ := hal b (by (exact .tail _ (List.mem_append_right _ (by assumption))))
          exact (Option.some_ne_none _ (ho'.symm.trans h)).elim⟩
    exact h4
  exact ⟨_, q.upd (o := o) (fp' := a'.list ++ ex) e (kp.sub (fun b hb => by rcases List.mem_cons.mp hb with rfl | h <;> (first | exact .head _ | exact .tail _ (List.mem_append_left _ (by assumption)))) (by simp)) (fun b hb => by
    rcases List.mem_append.mp hb with hb | hb
    · rcases hsub b (List.mem_append_left _ hb) with h | h
      · exact .inl (List.mem_append_left _ h)
      · refine .inr ⟨fun hm => ?_, fresh_of_kp q.keep h⟩
        obtain ⟨o', ho'⟩ := q.alive b hm
        exact (Option.some_ne_none _ (ho'.symm.trans h)).elim
    · exact .inl (List.mem_append_right _ hb)) hnew hr, Fext.set e⟩
noncomputable def NextM (X : Cx) (n : Nat) (D : FD) (σ : St) (v : Value) (o : Option Str) (σ' : St) : Prop :=
  ∀ A g fps s, AOk A n → R X.C D g σ fps s → wpF X A (pyNext v) (fun r s' => RX X.C D g fps σ' s' ∧ match o with
    | some y => ∃ t, r = some (.str y t)
    | none => r = none) s
theorem R.lit {C : Gl} {g s : Shared} {fps : List (List Addr)} (q : R C D g σ fps s) (ho : σ.hp[k]? = some (.other (litS K st x it m act))) : ∃ a, fps[k]? = some (x :: (LexA.list a ++ [it, m])) ∧ LexI K st s.heap x a ∧ (∃ o, s.heap.get? it = some o ∧ if act then ∃ t, o = ciObj m t else o = ciEnd) ∧ s.heap.get? m = some (mObj K.fR x) := by
  have hlt : k < fps.length := q.len ▸ (List.getElem?_eq_some_iff.mp ho).1
  have e := List.getElem?_eq_getElem hlt
  obtain ⟨a, e1, i, h1, h2⟩ := q.obj k _ _ ho e
  rw [e1] at e
  exact ⟨a, e, i, h1, h2⟩
theorem lit_next (hc : LexCls X K) (ht : st.text.length ≤ sizeLine) (ho : σ.hp[k]? = some (.other (litS K st x it m true))) (h0 : st.ch ≠ Str.empty) : NextM X (n + 3) D σ (.ref it) (some st.ch) ⟨σ.loc, σ.hp.set k (.other (litS K st.step x it m true))⟩ := fun A g fps s hA q => by
  obtain ⟨a, e, i, ⟨oi, hi, ti, rfl⟩, hm⟩ := q.lit ho
  obtain ⟨of, fd, f1, f2, f3⟩ := hc.fns K.fR (by simp)
  have hz := q.zfree e
  have hnd := q.nodupAt e
  have hA1 : AOk A.in1 (n + 2) := ⟨hA.1, by have := hA.2.1; show A.depth + (n + 2) < 1000; omega, by have := hA.2.2; show A.units + 1 + 16 * (n + 2) < 9000; omega⟩
  have hcall := readChar_ok (n := n) hc ht A.in1 s [] x a.list D.z hA1 q.bs (fun b o e => q.keep.hp b o (q.zk b o e)) q.bare ⟨x, a, [], by simp, i, by simp⟩ (List.Nodup.sublist (List.Sublist.cons_cons _ (List.sublist_append_left ..)) hnd) (fun b hb => hz b (List.mem_append_left _ hb)) .nil
  have hfx : K.fR ∉ x :: a.list := fun hm' => by
    have h1 := hz K.fR (by rcases List.mem_cons.mp hm' with h | h; simp [h]; simp [h])
    rw [q.bs.held _ f1] at h1; cases h1
  refine ci_next (X := X) (f := K.fR) (x := x) (fd := fd) (ch := st.ch) (P := fun s' => RX X.C D g fps ⟨σ.loc, σ.hp.set k (.other (litS K st.step x it m true))⟩ s') hA.1 hi hm (q.z.held _ f1) f3 (codeAny_mono hcall fun r s' hr => ?_) (fun _ s' t hqp => by obtain ⟨fps', q', e'⟩ := hqp; exact ⟨⟨fps', q', e'⟩, t, rfl⟩) (fun h => absurd h h0)
  match r, hr with
  | .ok (.ret v), ⟨kp, ⟨fp', hP, hnd', hsub⟩, hv⟩ =>
    obtain ⟨a', i', hex, hfin⟩ := q.methPost e kp hP hnd' hsub
    have j1 := hex it (by simp) _ hi
    have j2 := hex m (by simp) _ hm
    exact ⟨hv.1, j1, j2, kp.heap _ _ hfx (q.z.held _ f1), hfin (.other (litS K st.step x it m true)) ⟨a', rfl, i', ⟨_, j1, ti, rfl⟩, j2⟩⟩
theorem lit_last (hc : LexCls X K) (ht : st.text.length ≤ sizeLine) (ho : σ.hp[k]? = some (.other (litS K st x it m true))) (h0 : st.ch = Str.empty) : NextM X (n + 3) D σ (.ref it) none ⟨σ.loc, σ.hp.set k (.other (litS K st.step x it m false))⟩ := fun A g fps s hA q => by
  obtain ⟨a, e, i, ⟨oi, hi, ti, rfl⟩, hm⟩ := q.lit ho
  obtain ⟨of, fd, f1, f2, f3⟩ := hc.fns K.fR (by simp)
  have hz := q.zfree e
  have hnd := q.nodupAt e
  have hA1 : AOk A.in1 (n + 2) := ⟨hA.1, by have := hA.2.1; show A.depth + (n + 2) < 1000; omega, by have := hA.2.2; show A.units + 1 + 16 * (n + 2) < 9000; omega⟩
  have hcall := readChar_ok (n := n) hc ht A.in1 s [] x a.list D.z hA1 q.bs (fun b o e => q.keep.hp b o (q.zk b o e)) q.bare ⟨x, a, [], by simp, i, by simp⟩ (List.Nodup.sublist (List.Sublist.cons_cons _ (List.sublist_append_left ..)) hnd) (fun b hb => hz b (List.mem_append_left _ hb)) .nil
  have hfx : K.fR ∉ x :: a.list := fun hm' => by
    have h1 := hz K.fR (by rcases List.mem_cons.mp hm' with h | h; simp [h]; simp [h])
    rw [q.bs.held _ f1] at h1; cases h1
  refine ci_next (X := X) (f := K.fR) (x := x) (fd := fd) (ch := st.ch) (P := fun s' => s'.heap.get? it = some (ciObj m ti) ∧ s'.heap.get? m = some (mObj K.fR x) ∧ ∃ a', LexI K st.step s'.heap x a' ∧ ∀ o : AObj, Rep s'.heap o (x :: (a'.list ++ [it, m])) → RX X.C D g fps ⟨σ.loc, σ.hp.set k o⟩ s') hA.1 hi hm (q.z.held _ f1) f3 (codeAny_mono hcall fun r s' hr => ?_) (fun h => absurd h0 h) (fun _ s' h' ⟨j1, j2, a', i', hfin⟩ hk he => ⟨?_, rfl⟩)
  · match r, hr with
    | .ok (.ret v), ⟨kp, ⟨fp', hP, hnd', hsub⟩, hv⟩ =>
      obtain ⟨a', i', hex, hfin⟩ := q.methPost e kp hP hnd' hsub
      have j1 := hex it (by simp) _ hi
      have j2 := hex m (by simp) _ hm
      exact ⟨hv.1, j1, j2, kp.heap _ _ hfx (q.z.held _ f1), j1, j2, a', i', hfin⟩
  · obtain ⟨fps1, q1, e1⟩ := hfin (.other (litS K st.step x it m true)) ⟨a', rfl, i', ⟨_, j1, ti, rfl⟩, j2⟩
    have hk0 : k < σ.hp.length := (List.getElem?_eq_some_iff.mp ho).1
    have hg : (σ.hp.set k (.other (litS K st.step x it m true)))[k]? = some (.other (litS K st.step x it m true)) := List.getElem?_set_self hk0
    refine Classical.byContradiction fun hnx => ?_
    (obtain ⟨a2, e2, i2, _, _⟩ := q1.lit hg) <;> (refine hnx ?_; clear hnx)
    have hnd2 := q1.nodupAt e2
    have hne : ∀ b ∈ x :: (a2.list ++ [m]), b ≠ it := fun b hb hh => by
      subst hh
      have h3 : (x :: a2.list ++ [b, m]).Nodup := by exact hnd2
      obtain ⟨_, n2, n3⟩ := List.nodup_append.mp h3
      rcases List.mem_cons.mp hb with rfl | hb
      · exact n3 b List.mem_cons_self b (by (exact .head _)) rfl
      rcases List.mem_append.mp hb with hb | hb
      · exact n3 b (List.mem_cons_of_mem _ hb) b (by (exact .head _)) rfl
      · have : b = m := List.mem_singleton.mp hb
        subst this; simp at n2
    have q2 := q1.upd (o := .other (litS K st.step x it m false)) (fp' := a2.list ++ [it, m]) (s' := { s' with heap := h' }) e2 (KpB.of_heap fun b o hb e => hk b o (fun hh => hb (by rw [hh]; (exact .tail _ (List.mem_append_right _ (.head _))))) e) (fun b hb => .inl hb) hnd2
      ⟨a2, rfl, i2.mono fun b hb o e => hk b o (hne b (List.mem_append_left _ hb)) e, ⟨_, he, rfl⟩, hk _ _ (hne m (by (exact .tail _ (List.mem_append_right _ (.head _))))) j2⟩
    rw [List.set_set] at q2
    exact ⟨_, q2, e1.trans (Fext.set e2)⟩
theorem lit_done (ho : σ.hp[k]? = some (.other (litS K st x it m false))) : NextM X n D σ (.ref it) none σ := fun A g fps s hA q => by
  refine Classical.byContradiction fun hnx => ?_
  (obtain ⟨a, e, i, ⟨oi, hi, hoi⟩, hm⟩ := q.lit ho) <;> (refine hnx ?_; clear hnx)
  have hoi : oi = ciEnd := hoi
  subst hoi
  exact ci_done (X := X) hA.1 hi fun h' hk => ⟨⟨fps, q.ext (Kp.of_heap hk), Fext.refl _⟩, rfl⟩
end
end Mine
end
section
open PySem PySem.Calls PyProof.Rows
set_option maxRecDepth 100000
namespace Mine
section
variable {X : Cx} {K : LexK} {n : Nat} {D : FD} {σ : St} {st : LexSt} {Φ : AFl → St → Prop} {rest : List Stmt} {x it m : Addr} {act : Bool} {k : Nat}
theorem Ex.forM {T : Type} {v w : Str} {pv pw pos : Pos} {body : List Stmt} {it : Addr} (S : T → St) (μ : T → Nat) (I : T → Prop) (t₀ : T) (h0 : I t₀) (hS : Sub σ (S t₀)) (hn : ∀ t, I t → σ.hp.length ≤ (S t).hp.length)
    (hl : σ.loc.lookup w = some (.raw (.ref it))) (hw : isVar D w = true) (hv : isOwnVar D v = true) (hpi : ∀ A g fps s (Q : Value → Shared → Prop), R X.C D g σ fps s → Q (.ref it) s → wpF X A (pyIter (.ref it)) Q s)
    (turn : ∀ t, I t → ∃ o σ', NextM X n D (S t) (.ref it) o σ' ∧ match o with
      | none => Then X n D rest Φ .next σ'
      | some c => Ex X n D body ⟨(v, .dv (.str c)) :: σ'.loc, σ'.hp⟩ (fun fl σ'' => match fl with
        | .next | .cont => ∃ t', I t' ∧ μ t' < μ t ∧ Sub σ'' (S t')
        | .brk => Then X n D rest Φ .next σ''
        | .ret d => Φ (.ret d) σ'')) : Ex X n D (.For (.Name v pv) (.Name w pw) body [] pos :: rest) σ Φ := Ex.cons fun A g fps s hA q => by
  refine wpAny_For (wpF_mono (EvA.name hl hw A g fps s hA q) fun r s1 hq1 => ?_) (fun _ => rfl)
  obtain ⟨k1, hr⟩ := hq1
  have hr : r = .ref it := hr
  subst hr
  have q1 := q.ext k1
  refine hpi A g fps s1 _ q1 ?_
  refine Classical.byContradiction fun hnx => ?_
  (obtain ⟨fps0, q0, p0, l0⟩ := q1.sub hS) <;> (refine hnx ?_; clear hnx)
  have e0 : Fext fps fps0 := Fext.cut (Fext.refl _) p0 (by rw [← q.len, l0]; exact hn t₀ h0)
  refine codeAny_forLoop_any (fun m s' => ∃ t fps', I t ∧ μ t = m ∧ R X.C D g (S t) fps' s' ∧ Fext fps fps') (fun m s' hq2 => ?_) (μ t₀) ⟨t₀, fps0, h0, rfl, q0, e0⟩
  refine Classical.byContradiction fun hnx => ?_
  (obtain ⟨t, fps', hI, hm, q', e'⟩ := hq2) <;> (refine hnx ?_; clear hnx)
  obtain ⟨o, σ', hnx, hB⟩ := turn t hI
  refine wpAny_e (hnx A g fps' s' hA q') fun r s3 hq3 => ?_
  refine Classical.byContradiction fun hnx => ?_
  (obtain ⟨⟨fps3, q3, e3⟩, hr⟩ := hq3) <;> (refine hnx ?_; clear hnx)
  cases o with
  | none =>
    subst hr
    exact wpAny_execs_nil ⟨.next, σ', fps3, q3, e'.trans e3, rfl, hB⟩
  | some c =>
    obtain ⟨tc, rfl⟩ := hr
    simp only
    rw [letGo_name]
    refine wpAny_pure ?_
    refine wpAny_assign_Name ?_
    refine wpAny_e (X := X) (q3.store (X := X) (v := .dv (.str c)) hv ⟨[], ⟨tc, rfl⟩, rfl⟩ (Q := fun _ s4 => R X.C D g ⟨(v, .dv (.str c)) :: σ'.loc, σ'.hp⟩ fps3 s4) fun s4 q4 => q4) fun _ s4 q4 => ?_
    refine wpAny_e (hB A g fps3 s4 hA q4) fun f s6 hq4 => ?_
    obtain ⟨fl, σ'', fps2, q6, e6, r6, h6⟩ := hq4
    have again : (∃ t', I t' ∧ μ t' < μ t ∧ Sub σ'' (S t')) → ∃ m', m' < m ∧ ∃ t fps', I t ∧ μ t = m' ∧ R X.C D g (S t) fps' s6 ∧ Fext fps fps' := fun hqp => by
      obtain ⟨t', hI', hm', hs'⟩ := hqp
      obtain ⟨fps7, q7, p7, l7⟩ := q6.sub hs'
      refine ⟨μ t', hm ▸ hm', t', fps7, hI', rfl, q7, ((e'.trans e3).trans e6).cut p7 ?_⟩
      rw [← q.len, l7]; exact hn t' hI'
    cases fl with
    | next => obtain rfl : f = .next := r6; exact again h6
    | cont => obtain rfl : f = .cont := r6; exact again h6
    | brk => obtain rfl : f = .brk := r6; exact ⟨.next, σ'', fps2, q6, (e'.trans e3).trans e6, rfl, h6⟩
    | ret d => obtain ⟨r', fp', e, x', nn, qq⟩ := r6; subst e; exact ⟨.ret d, σ'', fps2, q6, (e'.trans e3).trans e6, ⟨r', fp', rfl, x', nn, qq⟩, h6⟩
theorem lex_iter (hc : LexCls X K) {self v : Str} {ps pi pm pc pv pos : Pos} {k0 : Nat} {p0 : Pos} (hl : σ.loc.lookup self = some (.ref k)) (hk : isVar D self = true) (ho : σ.hp[k]? = some (.other (lexS K st))) (hv : isOwnVar D v = true) (hg : D.env.kindOf (Str.ofString "iter") = some .globalImplicit) (hb : X.C.tab.lookup (Str.ofString "iter") = some (.builtin "iter"))
    (hr : ∀ x it m, Ex X n D rest ⟨(v, .raw (.ref it)) :: σ.loc, σ.hp.set k (.other (litS K st x it m true))⟩ Φ) :
    Ex X n D (.Assign [.Name v pv] (.Call (.Name (Str.ofString "iter") pi) [.Attribute (.Name self ps) (Str.ofString "_read_char") pm, .Constant (.str (Str.ofString "")) k0 p0] [] pc) pos :: rest) σ Φ := Ex.cons fun A g fps s hA q => by
  refine wpAny_Assign_Name ?_ (by rfl)
  refine Call_ (q.global (X := X) hg hb ?_) rfl
  refine callWith_builtin1 (args_cons (Attribute_any_ (lex_name hl hk ho hA q fun s1 x a ex mA k1 q1 e1 i hnd hdx hI hM => ?_)) rfl) rfl rfl
  refine Classical.byContradiction fun hnx => ?_
  (obtain ⟨nm, qq, bs, sn, sub, col, dd, c0, c1, c2, c3, c5, newId, hcl, _⟩ := hc.cls) <;> (refine hnx ?_; clear hnx)
  refine Classical.byContradiction fun hnx => ?_
  (obtain ⟨of, fd, f1, f2, f3⟩ := hc.fns K.fR (by (exact .head _))) <;> (refine hnx ?_; clear hnx)
  have hz := q1.z
  have hnf := q1.nodupAt e1
  obtain ⟨h, ge, d, t, os⟩ := s1
  refine bound_attr (hz.held _ hcl) (hc.ns _ hz) hc.ga hc.mR hc.gh (hz.held _ f1) f2 (lk_obj_meth _ (by (exact .head _))) hI (hM.none (by decide)) (by decide) ?_
  refine args_cons (wpAny_Constant_str (args_nil ?_)) rfl
  refine call_iter2 (X := X) (o := mObj K.fR x) (Heap.get?_push_size _ rfl) rfl ?_
  have hsz : (h.push (mObj K.fR x)).objs.size = h.objs.size + 1 := Heap.size_push ..
  have hkp : ∀ b o, h.get? b = some o → ((h.push (mObj K.fR x)).push (ciObj h.objs.size (t + 1))).get? b = some o := fun b o e => Heap.get?_push_of_some _ (Heap.get?_push_of_some _ e)
  have hfr : ∀ b ∈ [h.objs.size + 1, h.objs.size], h.get? b = none := fun b hb => by
    rcases List.mem_cons.mp hb with rfl | hb
    · exact Heap.get?_none_of_le (Nat.le_succ _)
    · rw [List.mem_singleton.mp hb]; exact Heap.get?_none_of_le (Nat.le_refl _)
  have hal : ∀ b ∈ x :: a.list, ∃ o, h.get? b = some o := i.alive
  have hnew : (x :: (a.list ++ [h.objs.size + 1, h.objs.size])).Nodup := by
    have : (x :: a.list ++ [h.objs.size + 1, h.objs.size]).Nodup := List.nodup_append.mpr ⟨hnd, by simp, fun b hb c hc hh => by
      subst hh
      obtain ⟨o, ho⟩ := hal b hb
      rw [hfr b hc] at ho; cases ho⟩
    exact this
  have q2 := q1.upd (o := .other (litS K st x (h.objs.size + 1) h.objs.size true)) (fp' := a.list ++ [h.objs.size + 1, h.objs.size]) (s' := ⟨(h.push (mObj K.fR x)).push (ciObj h.objs.size (t + 1)), ge, d, t + 1 + 1, os⟩) e1
    (KpB.of_heap fun b o _ e => hkp b o e) (fun b hb => by
      rcases List.mem_append.mp hb with hb | hb
      · exact .inl (List.mem_append_left _ hb)
      · refine .inr ⟨fun hm => ?_, fresh_of_kp q1.keep (hfr b hb)⟩
        obtain ⟨o, ho⟩ := q1.alive b hm
        have ho : h.get? b = some o := ho
        rw [hfr b hb] at ho; cases ho) hnew
    ⟨a, rfl, i.mono fun b _ o e => hkp b o e, ⟨_, by rw [← hsz]; exact Heap.get?_push_size _ rfl, t + 1, rfl⟩, Heap.get?_push_of_some _ (Heap.get?_push_size _ rfl)⟩
  have q3 := fun (Q : Unit → Shared → Prop) hQ => q2.store (X := X) (A := A) (x := v) (v := .raw (.ref (h.objs.size + 1))) (r := .ref (h.objs.size + 1)) (Q := Q) hv rfl hQ
  have fin := q3 (fun _ s4 => Post X D g fps (Then X n D rest Φ) .next s4) fun s4 q4 => (⟨.next, _, _, q4, Fext.set e1, rfl, hr x (h.objs.size + 1) h.objs.size⟩ : Post X D g fps (Then X n D rest Φ) .next s4)
  rw [← hsz] at fin
  exact fin
end
end Mine
end
section
open PySem PySem.Calls PyProof.Rows
set_option maxRecDepth 100000
namespace Mine
section
variable {X : Cx} {K : LexK} {n : Nat} {D : FD} {σ : St} {st : LexSt} {Φ : AFl → St → Prop} {rest : List Stmt} {x it m : Addr} {act : Bool} {k : Nat}
theorem lit_name {A : Around} {g s : Shared} {fps : List (List Addr)} {self : Str} {ps : Pos} {Q : Value → Shared → Prop} (hl : σ.loc.lookup self = some (.ref k)) (hk : isVar D self = true) (ho : σ.hp[k]? = some (.other (litS K st x it m act))) (hA : AOk A n) (q : R X.C D g σ fps s)
    (hq : ∀ s1 a mA, Kp s s1 → R X.C D g σ fps s1 → fps[k]? = some (x :: (LexA.list a ++ [it, m])) → LexI K st s1.heap x a → (x :: (LexA.list a ++ [it, m])).Nodup → s1.heap.Inst x K.C mA → LexM st a.f a.p mA → (∃ o, s1.heap.get? it = some o ∧ if act then ∃ t, o = ciObj m t else o = ciEnd) → s1.heap.get? m = some (mObj K.fR x) → Q (.ref x) s1) : wpF X A (eval (.Name self ps) D.env) Q s :=
  wpF_mono (EvA.name hl hk A g fps s hA q) fun r s1 hq1 => by
    obtain ⟨k1, x', fp', e1, hr1⟩ := hq1
    subst hr1
    obtain ⟨a, e2, i, h1, h2⟩ := (q.ext k1).lit ho
    rw [e1] at e2; cases e2
    have hnd := (q.ext k1).nodupAt e1
    have hdx : a.dx ≠ x := fun hh => (List.nodup_cons.mp hnd).1 (by rw [← hh]; (exact .head _))
    obtain ⟨mA, hI, hM⟩ := i.ii hdx
    exact hq s1 a mA k1 (q.ext k1) e1 i hnd hI hM h1 h2
theorem lit_ws (hc : LexCls X K) {self : Str} {ps pa : Pos} (hl : σ.loc.lookup self = some (.ref k)) (hk : isVar D self = true) (ho : σ.hp[k]? = some (.other (litS K st x it m act))) : EvO X n D σ (.Attribute (.Name self ps) (Str.ofString "whitespace") pa) (.str lexWs) := fun A g fps s hA q => by
  refine Attribute_any_ (lit_name hl hk ho hA q fun s1 a mA k1 q1 e1 i hnd hI hM hi hm => ?_)
  obtain ⟨t, hw⟩ := hM.ws
  exact lex_get hc q1.z hI (by decide) hw rfl ⟨k1.trans (Kp.tok _ _), .ofStr⟩
theorem lex_pushO (hc : LexCls X K) {self : Str} {ps pa : Pos} (hl : σ.loc.lookup self = some (.ref k)) (hk : isVar D self = true) (ho : σ.hp[k]? = some (.other (lexS K st))) : EvO X n D σ (.Attribute (.Name self ps) (Str.ofString "pushback") pa) (.lst (st.push.map .str)) := fun A g fps s hA q => by
  refine Attribute_any_ (lex_name hl hk ho hA q fun s1 x' a ex mA k1 q1 e1 i hnd hdx hI hM => ?_)
  refine Classical.byContradiction fun hnx => ?_
  (obtain ⟨vs, ⟨nn, hp⟩, hv⟩ := i.push) <;> (refine hnx ?_; clear hnx)
  exact lex_get hc q1.z hI (by decide) hM.push rfl ⟨k1.trans (Kp.tok _ _), .ofLst ⟨_, hp, rfl, nn, rfl⟩ ⟨_, hv⟩⟩
theorem lit_readChar (hc : LexCls X K) (ht : st.text.length ≤ sizeLine) {self : Str} {ps pa pc : Pos} (hl : σ.loc.lookup self = some (.ref k)) (hk : isVar D self = true) (ho : σ.hp[k]? = some (.other (litS K st x it m true))) (hline : (pa.endLine == pc.line) = true := by rfl) :
    EvM X (n + 2) D σ (.Call (.Attribute (.Name self ps) (Str.ofString "_read_char") pa) [] [] pc) ⟨σ.loc, σ.hp.set k (.other (litS K st.step x it m true))⟩ st.ch := fun A g fps s hA q => by
  refine Call_meth rfl rfl hline (lit_name hl hk ho hA q fun s1 a mA k1 q1 e1 i hnd hI hM hi hm => ?_)
  refine Classical.byContradiction fun hnx => ?_
  (obtain ⟨oi, hi, ti, rfl⟩ := hi) <;> (refine hnx ?_; clear hnx)
  have hz := q1.zfree e1
  refine Classical.byContradiction fun hnx => ?_
  (obtain ⟨of, fd, f1, f2, f3⟩ := hc.fns K.fR (by (exact .head _))) <;> (refine hnx ?_; clear hnx)
  refine lex_method (a := a) hc q1.z hI hM (by (exact .head _)) (by decide) hc.mR (by (exact .head _)) ?_
  refine callWith_function (o := of) (fd := fd) (PyProof.Rows.evalArgs_none ⟨⟨q1.z.held _ f1, f3⟩, ?_⟩)
  refine wpF_mono ((readChar_ok (n := n) hc ht).wp hA q1.bs (fun b o e => q1.keep.hp b o (q1.zk b o e)) q1.bare ⟨x, a, [], by rfl, i, by simp⟩ (List.Nodup.sublist (List.Sublist.cons_cons _ (List.sublist_append_left ..)) hnd) (fun b hb => hz b (List.mem_append_left _ hb)) .nil) fun r s2 hq4 => ?_
  refine Classical.byContradiction fun hnx => ?_
  (obtain ⟨kp, ⟨fp', hP, hnd', hsub⟩, hv⟩ := hq4) <;> (refine hnx ?_; clear hnx)
  refine Classical.byContradiction fun hnx => ?_
  (obtain ⟨a', i', hex, hfin⟩ := q1.methPost e1 kp hP hnd' hsub) <;> (refine hnx ?_; clear hnx)
  exact ⟨hfin _ ⟨a', rfl, i', ⟨_, hex it (by (exact .head _)) _ hi, ti, rfl⟩, hex m (by (exact .tail _ (.head _))) _ hm⟩, hv.1⟩
theorem Ex.litWeak {b : List Stmt} (ho : σ.hp[k]? = some (.other (litS K st x it m act))) (h : Ex X n D b ⟨σ.loc, σ.hp.set k (.other (lexS K st))⟩ Φ) : Ex X n D b σ Φ := fun A g fps s hA q => by
  refine Classical.byContradiction fun hnx => ?_
  (obtain ⟨a, e, i, ⟨o, h1, h2⟩, h3⟩ := q.lit ho) <;> (refine hnx ?_; clear hnx)
  have q2 := q.upd (o := .other (lexS K st)) (fp' := a.list ++ [it, m]) e (KpB.refl s) (fun b hb => .inl hb) (q.nodupAt e) ⟨x, a, [it, m], rfl, i, fun b hb => by
    revert hb; revert b; refine all2 ?_ ?_
    · exact ⟨_, h1⟩
    · exact ⟨_, h3⟩⟩
  rw [PySem.W.X.set_same e] at q2
  exact h A g fps s hA q2
theorem Ex.retM {e : Expr} {pos : Pos} {σ' : St} {y : Str} (h : EvM X n D σ e σ' y) (hr : Φ (.ret (.str y)) σ') : Ex X n D (.Return (some e) pos :: rest) σ Φ := Ex.cons fun A g fps s hA q =>
  wpAny_Return_some (wpF_mono (h A g fps s hA q) fun r s1 hqp => by
    obtain ⟨⟨fps', q1, e1⟩, t, hr'⟩ := hqp
    subst hr'
    exact ⟨.ret (.str y), σ', fps', q1, e1, ⟨_, [], rfl, ⟨⟨_, rfl⟩, rfl⟩, List.nodup_nil, by simp⟩, hr⟩)
theorem lex_pop (hc : LexCls X K) {self : Str} {ps pi pa p0 pc : Pos} {k0 : Nat} {w : Str} {ws : List Str} (hl : σ.loc.lookup self = some (.ref k)) (hk : isVar D self = true) (ho : σ.hp[k]? = some (.other (lexS K st))) (hp : st.push = w :: ws) (hz : st.push.length ≤ sizeLine) (hline : (pa.endLine == pc.line) = true := by rfl) :
    EvM X n D σ (.Call (.Attribute (.Attribute (.Name self ps) (Str.ofString "pushback") pi) (Str.ofString "pop") pa) [.Constant (.int 0) k0 p0] [] pc) ⟨σ.loc, σ.hp.set k (.other (lexS K { st with push := ws }))⟩ w := fun A g fps s hA q => by
  refine Call_method1 rfl rfl hline (Attribute_any_ (lex_name hl hk ho hA q fun s1 x' a ex mA k1 q1 e1 i hnd hdx hI hM => ?_))
  refine Classical.byContradiction fun hnx => ?_
  (obtain ⟨vs, ⟨nn, hpl⟩, hv⟩ := i.push) <;> (refine hnx ?_; clear hnx)
  have hlen := hv.length
  refine lex_get hc q1.z hI (by decide) hM.push rfl ?_
  have q2 := q1.ext (Kp.tok s1 (s1.toks + 1))
  rw [hp] at hv
  refine Classical.byContradiction fun hnx => ?_
  (obtain ⟨r0, rs, f1, f2, hvs, _, ⟨⟨t0, rfl⟩, _⟩, hv2⟩ := hv) <;> (refine hnx ?_; clear hnx)
  subst hvs
  refine ⟨"list", "list.pop", PySem.F.plainAttrs_list, PySem.F.slot_list_pop, PySem.F.type_list_pop, ⟨_, hpl, rfl⟩, fun b hb => by cases hb; exact ⟨_, hpl, rfl⟩, P.pop_at_list (wpAny_Constant_int ⟨_, nn, 0, _, 0, .str w t0, by rw [List.size_toArray, hlen]; simpa using hz, rfl, hpl, by decide, by simp [seqIndex?], by rfl, ?_⟩)⟩
  refine ⟨?_, t0, rfl⟩
  have hfin : (s1.heap.update a.p (Obj.mapSeq fun xs => xs.eraseIdxIfInBounds 0)).PlainList a.p (List.toArray rs) := ⟨nn + 1, by
    rw [Heap.get?_update_self _ hpl (by dsimp [Obj.mapSeq, Obj.isFreed])]
    simp [Obj.mapSeq]⟩
  have hk' : ∀ b o, b ≠ a.p → s1.heap.get? b = some o → (s1.heap.update a.p (Obj.mapSeq fun xs => xs.eraseIdxIfInBounds 0)).get? b = some o := fun b o hb e => by
    rw [Heap.get?_update_other _ _ (Ne.symm hb)]; exact e
  refine ⟨fps, q1.lexSet (st' := { st with push := ws }) (s' := { s1 with heap := s1.heap.update a.p (Obj.mapSeq fun xs => xs.eraseIdxIfInBounds 0), toks := s1.toks + 1 + 1 }) (W := [a.p]) e1 (KpB.of_heap fun b o hb e => hk' b o (fun hh => hb (by simp [hh])) e) (by simp [LexA.list]) ?_, Fext.refl _⟩
  exact i.setPush (ex := []) (by rw [List.append_nil]; exact hnd) (fun b o hb e => hk' b o hb e) ⟨rs, hfin, scs_rep ⟨f2, hv2⟩ (by intro d hd; obtain ⟨z, _, rfl⟩ := List.mem_map.mp hd; rfl)⟩
end
end Mine
end
section
open PySem PySem.Calls PyProof.Rows
set_option maxRecDepth 100000
namespace Mine
open StrLaws
theorem slice1 (y : Str) (p : Nat) : Txt.slice y (some (p : Int)) (some ((p : Int) + 1)) = match y.cps.toList[p]? with
    | some c => ⟨#[c]⟩
    | none => Str.empty := by
  by_cases h : p < y.cps.toList.length
  · have hs : p + 1 ≤ y.length := by
      have h' : p < y.cps.size := by simpa using h
      exact h'
    have := sliceText_nat y (a := p) (b := p + 1) (Nat.le_succ _) hs
    have e : ((p + 1 : Nat) : Int) = (p : Int) + 1 := by (rfl)
    rw [e] at this
    rw [List.getElem?_eq_getElem h]
    refine Eq.trans ?_ (this.trans ?_)
    · rfl
    · have : (y.cps.toList.drop p).take (p + 1 - p) = [y.cps.toList[p]] := by
        rw [List.drop_eq_getElem_cons h, Nat.add_sub_cancel_left]; rfl
      rw [this]
      rfl
  · rw [List.getElem?_eq_none (by (exact Nat.not_lt.mp (by assumption)))]
    have hl : y.length ≤ p := by simpa [Str.length] using h
    have e : Builtin.Str.strSliceIndices (some (p : Int)) (some ((p : Int) + 1)) 1 y.length = [] := by
      have h1 : ¬ ((p : Int) < 0) := by omega
      have h2 : ¬ ((p : Int) + 1 < 0) := by omega
      have e1 : max (0 : Int) (min (p : Int) (y.length : Int)) = y.length := by omega
      have e2 : max (0 : Int) (min ((p : Int) + 1) (y.length : Int)) = y.length := by lia
      simp [Builtin.Str.strSliceIndices, h1, h2, e1, e2, sliceRange]
    unfold Txt.slice
    rw [e]
    split
    · rename_i hh
      have h0 : 0 = y.length := by simpa using hh
      apply Str.ext'
      have : y.cps.size = 0 := h0.symm
      exact Array.eq_empty_of_size_eq_zero this
    · rfl
theorem LexSt.ch_eq {st : LexSt} (h0 : 0 ≤ st.place) : st.ch = match st.text.cps.toList[st.place.toNat]? with
    | some c => ⟨#[c]⟩
    | none => Str.empty := by
  obtain ⟨p, e⟩ := Int.eq_ofNat_of_zero_le h0
  unfold LexSt.ch
  rw [e, slice1]
  rfl
theorem LexSt.ch_some {st : LexSt} (h0 : 0 ≤ st.place) (h : st.ch ≠ Str.empty) : st.place < st.text.length := by
  rw [LexSt.ch_eq h0] at h
  cases e : st.text.cps.toList[st.place.toNat]? with
  | none => rw [e] at h; exact absurd rfl h
  | some c =>
    have := (List.getElem?_eq_some_iff.mp e).1
    simp at this
    show st.place < (st.text.cps.size : Int)
    omega
theorem LexSt.ch_len {st : LexSt} (h0 : 0 ≤ st.place) : st.ch.length ≤ 1 := by
  rw [LexSt.ch_eq h0]
  cases st.text.cps.toList[st.place.toNat]? with
  | none => exact Nat.zero_le _
  | some c => exact Nat.le_refl _
theorem LexSt.step_place {st : LexSt} : st.step.place = st.place + 1 := by unfold LexSt.step; split <;> rfl
theorem LexSt.step_text {st : LexSt} : st.step.text = st.text := by unfold LexSt.step; split <;> rfl
noncomputable def bareGo : Nat → LexSt → Str → Str × LexSt
  | 0, st, tok => (tok, st)
  | n + 1, st, tok =>
    if st.ch = Str.empty then (tok, st.step)
    else if Txt.contains lexWs st.ch = true then (tok, st.step)
    else if (st.ch == Str.ofString "\\") = true then bareGo n st.step.step (tok ++ st.step.ch)
    else bareGo n st.step (tok ++ st.ch)
theorem bareGo_1 : ∀ (x : LexSt) (x_1 : PySem.Str), bareGo 0 x x_1 = (x_1, x) := by intros; rfl
theorem bareGo_2 : ∀ (x : LexSt) (x_1 : PySem.Str) (n : Nat), bareGo (n + 1) x x_1 = if x.ch = PySem.Str.empty then (x_1, x.step) else if PySem.Txt.contains lexWs x.ch = true then (x_1, x.step) else if (x.ch == PySem.Str.ofString "\\") = true then bareGo n x.step.step (x_1 ++ x.step.ch) else bareGo n x.step (x_1 ++ x.ch) := by intros; rfl
noncomputable def quoGo : Nat → LexSt → Str → Str × LexSt
  | 0, st, tok => (tok, st)
  | n + 1, st, tok =>
    if st.ch = Str.empty then (tok, st.step)
    else if (st.ch == Str.ofString "\"") = true then (tok, st.step)
    else if (st.ch == Str.ofString "\\") = true then quoGo n st.step.step (tok ++ st.step.ch)
    else quoGo n st.step (tok ++ st.ch)
theorem quoGo_1 : ∀ (x : LexSt) (x_1 : PySem.Str), quoGo 0 x x_1 = (x_1, x) := by intros; rfl
theorem quoGo_2 : ∀ (x : LexSt) (x_1 : PySem.Str) (n : Nat), quoGo (n + 1) x x_1 = if x.ch = PySem.Str.empty then (x_1, x.step) else if (x.ch == PySem.Str.ofString "\"") = true then (x_1, x.step) else if (x.ch == PySem.Str.ofString "\\") = true then quoGo n x.step.step (x_1 ++ x.step.ch) else quoGo n x.step (x_1 ++ x.ch) := by intros; rfl
noncomputable def tokGo (f : Nat) : Nat → LexSt → Str × LexSt
  | 0, st => (Str.empty, st)
  | n + 1, st =>
    if st.ch = Str.empty then (Str.empty, st.step)
    else if Txt.contains lexWs st.ch = true then tokGo f n st.step
    else if (st.ch == Str.ofString "\"") = true then quoGo f st.step Str.empty
    else if (st.ch == Str.ofString "\\") = true then bareGo f st.step.step (Str.empty ++ st.step.ch)
    else bareGo f st.step (Str.empty ++ st.ch)
theorem tokGo_1 : ∀ (f : Nat) (x : LexSt), tokGo f 0 x = (PySem.Str.empty, x) := by intros; rfl
theorem tokGo_2 : ∀ (f : Nat) (x : LexSt) (n : Nat), tokGo f (n + 1) x = if x.ch = PySem.Str.empty then (PySem.Str.empty, x.step) else if PySem.Txt.contains lexWs x.ch = true then tokGo f n x.step else if (x.ch == PySem.Str.ofString "\"") = true then quoGo f x.step PySem.Str.empty else if (x.ch == PySem.Str.ofString "\\") = true then bareGo f x.step.step (PySem.Str.empty ++ x.step.ch) else bareGo f x.step (PySem.Str.empty ++ x.ch) := by intros; rfl
noncomputable def getTok (st : LexSt) : Str × LexSt :=
  match st.push with
  | w :: ws => (w, { st with push := ws })
  | [] => tokGo (st.text.length + 2) (st.text.length + 2) st
structure LSt where
  f : Nat
  st : LexSt
  tok : Str
noncomputable def LSt.Ok (t : LSt) : Prop := 0 ≤ t.st.place ∧ 1 ≤ t.f ∧ (t.st.text.length : Int) + 2 ≤ t.f + t.st.place ∧ t.st.text.length ≤ 1000 ∧ (t.tok.length : Int) ≤ t.st.place ∧ (t.tok.length : Int) ≤ t.st.text.length + 1
theorem LSt.Ok.pos {t : LSt} (h : t.Ok) : ∃ n, t.f = n + 1 := ⟨t.f - 1, by obtain ⟨h1, h2, h3, h4, h5⟩ := h; omega⟩
section
variable {X : Cx} {K : LexK} {n : Nat} {D : FD} {Φ : AFl → St → Prop} {rest : List Stmt} {x it m : Addr}
noncomputable def litSt (K : LexK) (x it m : Addr) (st : LexSt) (tok : Str) (act : Bool) : St := ⟨[(Str.ofString "token", .dv (.str tok)), (Str.ofString "fiter", .raw (.ref it)), (Str.ofString "self", .ref 0)], [.other (litS K st x it m act)]⟩
noncomputable def bareSt : Stmt := stN (ifE (stN (forB (stN (dBody (mS 2)) 3)) 1)) 2
noncomputable def quoSt : Stmt := stN (ifB (stN (forB (stN (dBody (mS 2)) 3)) 1)) 0
noncomputable def tokPost (K : LexK) (r : Str × LexSt) (fl : AFl) (σ' : St) : Prop := retIs (.str r.1) fl σ' ∧ σ'.hp[0]? = some (.other (lexS K r.2))
theorem envVar {E : Env} {z : Heap} {m : Stmt} (hE : ∀ x, E.kindOf x = (dScope m).names.lookup x) {x : Str} (h : (dScope m).names.lookup x = some .local) (h1 : x ≠ Str.ofString "__classdict__") (h2 : x ≠ Str.ofString "__debug__") : isVar ⟨E, [], [], z⟩ x = true := by
  unfold isVar
  rw [show FD.env ⟨E, [], [], z⟩ = E from rfl, hE, h]
  simp [h1, h2]
theorem envOwn {E : Env} {z : Heap} {m : Stmt} (hE : ∀ x, E.kindOf x = (dScope m).names.lookup x) {x : Str} (h : (dScope m).names.lookup x = some .local) : isOwnVar ⟨E, [], [], z⟩ x = true := by
  unfold isOwnVar
  rw [show FD.env ⟨E, [], [], z⟩ = E from rfl, hE, h]
  rfl
theorem lit_pi {σ : St} {k : Nat} {st : LexSt} {act : Bool} (ho : σ.hp[k]? = some (.other (litS K st x it m act))) : ∀ A g fps s (Q : Value → Shared → Prop), R X.C D g σ fps s → Q (.ref it) s → wpF X A (pyIter (.ref it)) Q s := fun A g fps s Q q hQ => by
  refine Classical.byContradiction fun hnx => ?_
  (obtain ⟨a, e, i, ⟨o, h1, h2⟩, h3⟩ := q.lit ho) <;> (refine hnx ?_; clear hnx)
  refine ci_iter (X := X) h1 ?_ hQ
  cases act with
  | true => obtain ⟨t, rfl⟩ := h2; rfl
  | false => have h2 : o = ciEnd := h2; subst h2; rfl
theorem bare_loop (hc : LexCls X K) {E : Env} {z : Heap} (hE : ∀ x, E.kindOf x = (dScope (mS 2)).names.lookup x) {t₀ : LSt} (h0 : t₀.Ok) {σ : St} (hS : Sub σ (litSt K x it m t₀.st t₀.tok true)) (hln : σ.hp.length ≤ 1) (hw : σ.loc.lookup (Str.ofString "fiter") = some (.raw (.ref it))) (hlit : σ.hp[0]? = some (.other (litS K t₀.st x it m true)))
    (hret : ∀ σ' : St, σ'.hp[0]? = some (.other (lexS K (bareGo t₀.f t₀.st t₀.tok).2)) → Φ (.ret (.str (bareGo t₀.f t₀.st t₀.tok).1)) σ')
    (hfin : Then X (n + 3) ⟨E, [], [], z⟩ rest Φ .next (litSt K x it m (bareGo t₀.f t₀.st t₀.tok).2 (bareGo t₀.f t₀.st t₀.tok).1 false)) :
    Ex X (n + 3) ⟨E, [], [], z⟩ (bareSt :: rest) σ Φ := by
  have vv : ∀ x, (dScope (mS 2)).names.lookup x = some .local → x ≠ Str.ofString "__classdict__" → x ≠ Str.ofString "__debug__" → isVar ⟨E, [], [], z⟩ x = true := fun x h h1 h2 => envVar hE h h1 h2
  have ow : ∀ x, (dScope (mS 2)).names.lookup x = some .local → isOwnVar ⟨E, [], [], z⟩ x = true := fun x h => envOwn hE h
  generalize hG : bareGo t₀.f t₀.st t₀.tok = G at hfin hret
  refine Ex.forM (it := it) (T := LSt) (fun t => litSt K x it m t.st t.tok true) (fun t => t.f) (fun t => t.Ok ∧ bareGo t.f t.st t.tok = G) t₀ ⟨h0, hG⟩ hS (fun t _ => by exact hln) hw (vv _ rfl (by decide) (by decide)) (ow _ rfl) (lit_pi hlit) (fun t hq1 => ?_)
  obtain ⟨ht, hg⟩ := hq1
  obtain ⟨f, hf⟩ := ht.pos
  refine Classical.byContradiction fun hnx => ?_
  (obtain ⟨o1, o2, o3, o4, o5⟩ := ht) <;> (refine hnx ?_; clear hnx)
  have htx : t.st.text.length ≤ sizeLine := Nat.le_trans o4 (by decide)
  rw [hf] at hg
  simp only [bareGo_1, bareGo_2] at hg
  by_cases hch : t.st.ch = Str.empty
  · rw [if_pos hch] at hg
    refine ⟨none, _, lit_last (k := 0) hc htx rfl hch, ?_⟩
    subst hg
    exact hfin
  · rw [if_neg hch] at hg
    have hpl := LexSt.ch_some o1 hch
    have hcl := LexSt.ch_len o1
    have hb4 : t.tok.length + t.st.ch.length ≤ sizeLine := Nat.le_trans (m := 1002) (by omega) (by decide)
    refine ⟨some t.st.ch, _, lit_next (k := 0) hc htx rfl hch, ?_⟩
    refine Ex.ite (EvB.cmp (EvO.name (d := .str t.st.ch) rfl (vv _ rfl (by decide) (by decide))) (lit_ws (k := 0) (act := true) hc rfl (vv _ rfl (by decide) (by decide)) rfl) .inS) (fun hb => ?_) fun hb => ?_
    · rw [if_pos hb] at hg
      refine Ex.litWeak (k := 0) rfl (Ex.ret ((EvO.name (d := .str t.tok) rfl (vv _ rfl (by decide) (by decide))).toF rfl) ?_)
      subst hg
      exact hret _ rfl
    · rw [if_neg (by simp [hb])] at hg
      refine Ex.ite (EvB.cmp (EvO.name (d := .str t.st.ch) rfl (vv _ rfl (by decide) (by decide))) EvO.str.toO .eqS) (fun hb2 => ?_) fun hb2 => ?_
      · rw [if_pos hb2] at hg
        have o1' : 0 ≤ t.st.step.place := by rw [LexSt.step_place]; omega
        have hcl2 := LexSt.ch_len o1'
        have hb3 : t.tok.length + t.st.step.ch.length ≤ sizeLine := Nat.le_trans (m := 1002) (by omega) (by decide)
        refine Ex.assignM (lit_readChar (n := n + 1) (k := 0) hc (by rw [LexSt.step_text]; exact htx) rfl (vv _ rfl (by decide) (by decide)) rfl) (ow _ rfl) (Ex.nil (Ex.nil ?_))
        refine Ex.aug (a := .str t.tok) (b := .str t.st.step.ch) rfl (ow _ rfl) (EvO.name rfl (vv _ rfl (by decide) (by decide))) (.addS hb3) (vv _ rfl (by decide) (by decide)) (Ex.nil ?_)
        refine ⟨⟨f, t.st.step.step, t.tok ++ t.st.step.ch⟩, ⟨⟨?_, ?_, ?_, ?_, ?_⟩, hg⟩, by rw [hf]; exact Nat.lt_succ_self f, ⟨rfl, rfl, rfl, trivial⟩, rfl, [], rfl⟩
        · show 0 ≤ t.st.step.step.place; rw [LexSt.step_place, LexSt.step_place]; lia
        · show 1 ≤ f; omega
        · show (t.st.step.step.text.length : Int) + 2 ≤ f + t.st.step.step.place; rw [LexSt.step_place, LexSt.step_place, LexSt.step_text, LexSt.step_text]; omega
        · show t.st.step.step.text.length ≤ 1000; rw [LexSt.step_text, LexSt.step_text]; exact o4
        · show ((t.tok ++ t.st.step.ch).length : Int) ≤ t.st.step.step.place ∧ ((t.tok ++ t.st.step.ch).length : Int) ≤ (t.st.step.step.text.length : Int) + 1; rw [LexSt.step_place, LexSt.step_place, LexSt.step_text, LexSt.step_text, Str.length_append]; omega
      · rw [if_neg (by simp [hb2])] at hg
        refine Ex.nil (Ex.nil ?_)
        refine Ex.aug (a := .str t.tok) (b := .str t.st.ch) rfl (ow _ rfl) (EvO.name rfl (vv _ rfl (by decide) (by decide))) (.addS hb4) (vv _ rfl (by decide) (by decide)) (Ex.nil ?_)
        refine ⟨⟨f, t.st.step, t.tok ++ t.st.ch⟩, ⟨⟨?_, ?_, ?_, ?_, ?_⟩, hg⟩, by rw [hf]; exact Nat.lt_succ_self f, ⟨rfl, rfl, rfl, trivial⟩, rfl, [], rfl⟩
        · show 0 ≤ t.st.step.place; rw [LexSt.step_place]; omega
        · show 1 ≤ f; omega
        · show (t.st.step.text.length : Int) + 2 ≤ f + t.st.step.place; rw [LexSt.step_place, LexSt.step_text]; omega
        · show t.st.step.text.length ≤ 1000; rw [LexSt.step_text]; exact o4
        · show ((t.tok ++ t.st.ch).length : Int) ≤ t.st.step.place ∧ ((t.tok ++ t.st.ch).length : Int) ≤ (t.st.step.text.length : Int) + 1; rw [LexSt.step_place, LexSt.step_text, Str.length_append]; omega
end
end Mine
end
section
open PySem PySem.Calls PyProof.Rows
set_option maxRecDepth 100000
namespace Mine
section
variable {X : Cx} {K : LexK} {n : Nat} {D : FD} {Φ : AFl → St → Prop} {rest : List Stmt} {x it m : Addr}
theorem quo_loop (hc : LexCls X K) {E : Env} {z : Heap} (hE : ∀ x, E.kindOf x = (dScope (mS 2)).names.lookup x) {t₀ : LSt} (h0 : t₀.Ok) {σ : St} (hS : Sub σ (litSt K x it m t₀.st t₀.tok true)) (hln : σ.hp.length ≤ 1) (hw : σ.loc.lookup (Str.ofString "fiter") = some (.raw (.ref it))) (hlit : σ.hp[0]? = some (.other (litS K t₀.st x it m true)))
    (hret : ∀ σ' : St, σ'.hp[0]? = some (.other (lexS K (quoGo t₀.f t₀.st t₀.tok).2)) → Φ (.ret (.str (quoGo t₀.f t₀.st t₀.tok).1)) σ')
    (hfin : Then X (n + 3) ⟨E, [], [], z⟩ rest Φ .next (litSt K x it m (quoGo t₀.f t₀.st t₀.tok).2 (quoGo t₀.f t₀.st t₀.tok).1 false)) :
    Ex X (n + 3) ⟨E, [], [], z⟩ (quoSt :: rest) σ Φ := by
  have vv : ∀ x, (dScope (mS 2)).names.lookup x = some .local → x ≠ Str.ofString "__classdict__" → x ≠ Str.ofString "__debug__" → isVar ⟨E, [], [], z⟩ x = true := fun x h h1 h2 => envVar hE h h1 h2
  have ow : ∀ x, (dScope (mS 2)).names.lookup x = some .local → isOwnVar ⟨E, [], [], z⟩ x = true := fun x h => envOwn hE h
  generalize hG : quoGo t₀.f t₀.st t₀.tok = G at hfin hret
  refine Ex.forM (it := it) (T := LSt) (fun t => litSt K x it m t.st t.tok true) (fun t => t.f) (fun t => t.Ok ∧ quoGo t.f t.st t.tok = G) t₀ ⟨h0, hG⟩ hS (fun t _ => by simpa [litSt] using hln) hw (vv _ rfl (by decide) (by decide)) (ow _ rfl) (lit_pi hlit) (fun t hq1 => ?_)
  obtain ⟨ht, hg⟩ := hq1
  obtain ⟨f, hf⟩ := ht.pos
  refine Classical.byContradiction fun hnx => ?_
  (obtain ⟨o1, o2, o3, o4, o5⟩ := ht) <;> (refine hnx ?_; clear hnx)
  have htx : t.st.text.length ≤ sizeLine := Nat.le_trans o4 (by decide)
  rw [hf] at hg
  simp only [quoGo_1, quoGo_2] at hg
  by_cases hch : t.st.ch = Str.empty
  · rw [if_pos hch] at hg
    refine ⟨none, _, lit_last (k := 0) hc htx rfl hch, ?_⟩
    subst hg
    exact hfin
  · rw [if_neg hch] at hg
    have hpl := LexSt.ch_some o1 hch
    have hcl := LexSt.ch_len o1
    have hb4 : t.tok.length + t.st.ch.length ≤ sizeLine := Nat.le_trans (m := 1002) (by omega) (by decide)
    refine ⟨some t.st.ch, _, lit_next (k := 0) hc htx rfl hch, ?_⟩
    refine Ex.ite (EvB.cmp (EvO.name (d := .str t.st.ch) rfl (vv _ rfl (by decide) (by decide))) EvO.str.toO .eqS) (fun hb => ?_) fun hb => ?_
    · rw [if_pos hb] at hg
      refine Ex.litWeak (k := 0) rfl (Ex.ret ((EvO.name (d := .str t.tok) rfl (vv _ rfl (by decide) (by decide))).toF rfl) ?_)
      subst hg
      exact hret _ rfl
    · rw [if_neg (by simp [hb])] at hg
      refine Ex.ite (EvB.cmp (EvO.name (d := .str t.st.ch) rfl (vv _ rfl (by decide) (by decide))) EvO.str.toO .eqS) (fun hb2 => ?_) fun hb2 => ?_
      · rw [if_pos hb2] at hg
        have o1' : 0 ≤ t.st.step.place := by rw [LexSt.step_place]; omega
        have hcl2 := LexSt.ch_len o1'
        have hb3 : t.tok.length + t.st.step.ch.length ≤ sizeLine := Nat.le_trans (m := 1002) (by omega) (by decide)
        refine Ex.assignM (lit_readChar (n := n + 1) (k := 0) hc (by rw [LexSt.step_text]; exact htx) rfl (vv _ rfl (by decide) (by decide)) rfl) (ow _ rfl) (Ex.nil (Ex.nil ?_))
        refine Ex.aug (a := .str t.tok) (b := .str t.st.step.ch) rfl (ow _ rfl) (EvO.name rfl (vv _ rfl (by decide) (by decide))) (.addS hb3) (vv _ rfl (by decide) (by decide)) (Ex.nil ?_)
        refine ⟨⟨f, t.st.step.step, t.tok ++ t.st.step.ch⟩, ⟨⟨?_, ?_, ?_, ?_, ?_⟩, hg⟩, by rw [hf]; exact Nat.lt_succ_self f, ⟨rfl, rfl, rfl, trivial⟩, rfl, [], rfl⟩
        · show 0 ≤ t.st.step.step.place; rw [LexSt.step_place, LexSt.step_place]; omega
        · show 1 ≤ f; omega
        · show (t.st.step.step.text.length : Int) + 2 ≤ f + t.st.step.step.place; rw [LexSt.step_place, LexSt.step_place, LexSt.step_text, LexSt.step_text]; omega
        · show t.st.step.step.text.length ≤ 1000; rw [LexSt.step_text, LexSt.step_text]; exact o4
        · show ((t.tok ++ t.st.step.ch).length : Int) ≤ t.st.step.step.place ∧ ((t.tok ++ t.st.step.ch).length : Int) ≤ (t.st.step.step.text.length : Int) + 1; rw [LexSt.step_place, LexSt.step_place, LexSt.step_text, LexSt.step_text, Str.length_append]; omega
      · rw [if_neg (by simp [hb2])] at hg
        refine Ex.nil (Ex.nil ?_)
        refine Ex.aug (a := .str t.tok) (b := .str t.st.ch) rfl (ow _ rfl) (EvO.name rfl (vv _ rfl (by decide) (by decide))) (.addS hb4) (vv _ rfl (by decide) (by decide)) (Ex.nil ?_)
        refine ⟨⟨f, t.st.step, t.tok ++ t.st.ch⟩, ⟨⟨?_, ?_, ?_, ?_, ?_⟩, hg⟩, by rw [hf]; exact Nat.lt_succ_self f, ⟨rfl, rfl, rfl, trivial⟩, rfl, [], rfl⟩
        · show 0 ≤ t.st.step.place; rw [LexSt.step_place]; omega
        · show 1 ≤ f; omega
        · show (t.st.step.text.length : Int) + 2 ≤ f + t.st.step.place; rw [LexSt.step_place, LexSt.step_text]; omega
        · show t.st.step.text.length ≤ 1000; rw [LexSt.step_text]; exact o4
        · show ((t.tok ++ t.st.ch).length : Int) ≤ t.st.step.place ∧ ((t.tok ++ t.st.ch).length : Int) ≤ (t.st.step.text.length : Int) + 1; rw [LexSt.step_place, LexSt.step_text, Str.length_append]; omega
noncomputable def LSt.fresh (st : LexSt) : LSt := ⟨st.text.length + 2, st, Str.empty⟩
set_option maxHeartbeats 4000000 in
theorem out_loop (hc : LexCls X K) {E : Env} {z : Heap} (hE : ∀ x, E.kindOf x = (dScope (mS 2)).names.lookup x) {F : Nat} {t₀ : LSt} (h0 : t₀.Ok) (ht0 : t₀.tok = Str.empty) (hF : (t₀.st.text.length : Int) + 2 ≤ F) {σ : St} (hS : Sub σ (litSt K x it m t₀.st t₀.tok true)) (hln : σ.hp.length ≤ 1) (hw : σ.loc.lookup (Str.ofString "fiter") = some (.raw (.ref it))) (hlit : σ.hp[0]? = some (.other (litS K t₀.st x it m true))) :
    Ex X (n + 3) ⟨E, [], [], z⟩ ((dBody (mS 2)).drop 3) σ (tokPost K (tokGo F t₀.f t₀.st)) := by
  have vv : ∀ x, (dScope (mS 2)).names.lookup x = some .local → x ≠ Str.ofString "__classdict__" → x ≠ Str.ofString "__debug__" → isVar ⟨E, [], [], z⟩ x = true := fun x h h1 h2 => envVar hE h h1 h2
  have ow : ∀ x, (dScope (mS 2)).names.lookup x = some .local → isOwnVar ⟨E, [], [], z⟩ x = true := fun x h => envOwn hE h
  generalize hG : tokGo F t₀.f t₀.st = G
  -- two kinds of turn: the iterator lives, or it has ended and the token stands
  refine Ex.forM (it := it) (T := LSt × Bool) (fun t => litSt K x it m t.1.st t.1.tok t.2) (fun t => if t.2 then t.1.f + 1 else 0) (fun t => if t.2 then t.1.Ok ∧ t.1.tok = Str.empty ∧ (t.1.st.text.length : Int) + 2 ≤ F ∧ tokGo F t.1.f t.1.st = G else (t.1.tok, t.1.st) = G) (t₀, true) (by exact ⟨h0, ht0, hF, hG⟩) hS (fun t _ => by simpa [litSt] using hln) hw (vv _ rfl (by decide) (by decide)) (ow _ rfl) (lit_pi hlit) (fun tb ht => ?_)
  obtain ⟨t, b⟩ := tb
  have hret : ∀ (tok : Str) (st : LexSt) (act : Bool), (tok, st) = G → Then X (n + 3) ⟨E, [], [], z⟩ ((dBody (mS 2)).drop 4) (tokPost K G) .next (litSt K x it m st tok act) := fun tok st act hg => by
    refine Ex.litWeak (k := 0) (x := x) (it := it) (m := m) (act := act) rfl (Ex.ret ((EvO.name (d := .str tok) rfl (vv _ rfl (by decide) (by decide))).toF rfl) ?_)
    subst hg
    exact ⟨rfl, rfl⟩
  cases b with
  | false => exact ⟨none, _, lit_done (k := 0) rfl, hret _ _ false ht⟩
  | true =>
    refine Classical.byContradiction fun hnx => ?_
    (obtain ⟨hok, htk, hF', hg⟩ := ht) <;> (refine hnx ?_; clear hnx)
    obtain ⟨f, hf⟩ := hok.pos
    have hok' := hok
    refine Classical.byContradiction fun hnx => ?_
    (obtain ⟨o1, o2, o3, o4, o5⟩ := (show t.Ok from hok)) <;> (refine hnx ?_; clear hnx)
    have hf : t.f = f + 1 := hf
    have htk : t.tok = Str.empty := htk
    have hF' : (t.st.text.length : Int) + 2 ≤ F := hF'
    have hg : tokGo F t.f t.st = G := hg
    have htx : t.st.text.length ≤ sizeLine := Nat.le_trans o4 (by decide)
    rw [hf] at hg
    simp only [tokGo_1, tokGo_2] at hg
    by_cases hch : t.st.ch = Str.empty
    · rw [if_pos hch] at hg
      refine ⟨none, _, lit_last (k := 0) hc htx rfl hch, ?_⟩
      have := hret t.tok t.st.step false (by rw [htk]; exact hg)
      exact this
    · rw [if_neg hch] at hg
      have hpl := LexSt.ch_some o1 hch
      have hcl := LexSt.ch_len o1
      have s1ok : ∀ tok : Str, (tok.length : Int) ≤ 1 → LSt.Ok ⟨F, t.st.step, tok⟩ := fun tok h => ⟨by show 0 ≤ t.st.step.place; rw [LexSt.step_place]; omega, by show 1 ≤ F; omega,
        by show (t.st.step.text.length : Int) + 2 ≤ F + t.st.step.place; rw [LexSt.step_place, LexSt.step_text]; omega, by show t.st.step.text.length ≤ 1000; rw [LexSt.step_text]; exact o4, by show (tok.length : Int) ≤ t.st.step.place ∧ (tok.length : Int) ≤ (t.st.step.text.length : Int) + 1; rw [LexSt.step_place, LexSt.step_text]; omega⟩
      have s2ok : ∀ tok : Str, (tok.length : Int) ≤ 1 → LSt.Ok ⟨F, t.st.step.step, tok⟩ := fun tok h => ⟨by show 0 ≤ t.st.step.step.place; rw [LexSt.step_place, LexSt.step_place]; omega, by show 1 ≤ F; omega,
        by show (t.st.step.step.text.length : Int) + 2 ≤ F + t.st.step.step.place; rw [LexSt.step_place, LexSt.step_place, LexSt.step_text, LexSt.step_text]; omega, by show t.st.step.step.text.length ≤ 1000; rw [LexSt.step_text, LexSt.step_text]; exact o4, by show (tok.length : Int) ≤ t.st.step.step.place ∧ (tok.length : Int) ≤ (t.st.step.step.text.length : Int) + 1; rw [LexSt.step_place, LexSt.step_place, LexSt.step_text, LexSt.step_text]; omega⟩
      refine ⟨some t.st.ch, _, lit_next (k := 0) hc htx rfl hch, ?_⟩
      refine Ex.ite (EvB.cmp (EvO.name (d := .str t.st.ch) rfl (vv _ rfl (by decide) (by decide))) (lit_ws (k := 0) (act := true) hc rfl (vv _ rfl (by decide) (by decide)) rfl) .inS) (fun hb => ?_) fun hb => Ex.nil ?_
      · rw [if_pos hb] at hg
        refine Ex.cont ?_
        refine ⟨(⟨f, t.st.step, t.tok⟩, true), ⟨⟨by show 0 ≤ t.st.step.place; rw [LexSt.step_place]; omega, by show 1 ≤ f; omega,
          by show (t.st.step.text.length : Int) + 2 ≤ f + t.st.step.place; rw [LexSt.step_place, LexSt.step_text]; omega, by show t.st.step.text.length ≤ 1000; rw [LexSt.step_text]; exact o4, by show (t.tok.length : Int) ≤ t.st.step.place ∧ (t.tok.length : Int) ≤ (t.st.step.text.length : Int) + 1; rw [LexSt.step_place, LexSt.step_text]; omega⟩, htk, by show (t.st.step.text.length : Int) + 2 ≤ F; rw [LexSt.step_text]; exact hF', hg⟩, by show f + 1 < t.f + 1; omega, ⟨rfl, rfl, rfl, trivial⟩, rfl, [], rfl⟩
      · rw [if_neg (by simp [hb])] at hg
        refine Ex.ite (EvB.cmp (EvO.name (d := .str t.st.ch) rfl (vv _ rfl (by decide) (by decide))) EvO.str.toO .eqS) (fun hb2 => ?_) fun hb2 => ?_
        · rw [if_pos hb2] at hg
          refine quo_loop (n := n) (x := x) (it := it) (m := m) hc hE (t₀ := ⟨F, t.st.step, Str.empty⟩) (s1ok _ (by show (0 : Int) ≤ _; (exact Int.ofNat_nonneg _))) ⟨⟨by show some _ = some _; rw [htk], rfl, rfl, trivial⟩, rfl, [], rfl⟩ (Nat.le_refl _) rfl rfl (fun σ' h => ?_) ?_
          · subst hg; exact ⟨rfl, h⟩
          · exact Ex.nil (Ex.nil ⟨((⟨0, (quoGo F t.st.step Str.empty).2, (quoGo F t.st.step Str.empty).1⟩ : LSt), false), by subst hg; rfl, by show 0 < t.f + 1; omega, ⟨rfl, rfl, rfl, trivial⟩, rfl, [], rfl⟩)
        · rw [if_neg (by simp [hb2])] at hg
          refine Ex.ite (EvB.cmp (EvO.name (d := .str t.st.ch) rfl (vv _ rfl (by decide) (by decide))) EvO.str.toO .eqS) (fun hb3 => ?_) fun hb3 => Ex.nil ?_
          · rw [if_pos hb3] at hg
            have o1' : 0 ≤ t.st.step.place := by rw [LexSt.step_place]; omega
            have hcl2 := LexSt.ch_len o1'
            refine Ex.assignM (lit_readChar (n := n + 1) (k := 0) hc (by rw [LexSt.step_text]; exact htx) rfl (vv _ rfl (by decide) (by decide)) rfl) (ow _ rfl) (Ex.nil ?_)
            have hsl : (Str.empty ++ t.st.step.ch).length ≤ 1 := by rw [Str.length_append]; have : Str.empty.length = 0 := rfl; lia
            refine Ex.aug (a := .str Str.empty) (b := .str t.st.step.ch) (by show some _ = some _; rw [htk]) (ow _ rfl) (EvO.name rfl (vv _ rfl (by decide) (by decide))) (.addS (Nat.le_trans (m := 1) (by rw [← Str.length_append]; exact hsl) (by decide))) (vv _ rfl (by decide) (by decide)) ?_
            refine bare_loop (n := n) (x := x) (it := it) (m := m) hc hE (t₀ := ⟨F, t.st.step.step, Str.empty ++ t.st.step.ch⟩) (s2ok _ (by omega)) ⟨⟨rfl, rfl, rfl, trivial⟩, rfl, [], rfl⟩ (Nat.le_refl _) rfl rfl (fun σ' h => ?_) ?_
            · subst hg; exact ⟨rfl, h⟩
            · exact Ex.nil (Ex.nil ⟨((⟨0, (bareGo F t.st.step.step (Str.empty ++ t.st.step.ch)).2, (bareGo F t.st.step.step (Str.empty ++ t.st.step.ch)).1⟩ : LSt), false), by subst hg; rfl, by show 0 < t.f + 1; (exact Nat.lt_succ_of_lt (by assumption)), ⟨rfl, rfl, rfl, trivial⟩, rfl, [], rfl⟩)
          · rw [if_neg (by simp [hb3])] at hg
            have hsl : (Str.empty ++ t.st.ch).length ≤ 1 := by rw [Str.length_append]; have : Str.empty.length = 0 := rfl; lia
            refine Ex.aug (a := .str Str.empty) (b := .str t.st.ch) (by show some _ = some _; rw [htk]) (ow _ rfl) (EvO.name rfl (vv _ rfl (by decide) (by decide))) (.addS (Nat.le_trans (m := 1) (by rw [← Str.length_append]; exact hsl) (by decide))) (vv _ rfl (by decide) (by decide)) ?_
            refine bare_loop (n := n) (x := x) (it := it) (m := m) hc hE (t₀ := ⟨F, t.st.step, Str.empty ++ t.st.ch⟩) (s1ok _ (by omega)) ⟨⟨rfl, rfl, rfl, trivial⟩, rfl, [], rfl⟩ (Nat.le_refl _) rfl rfl (fun σ' h => ?_) ?_
            · subst hg; exact ⟨rfl, h⟩
            · exact Ex.nil (Ex.nil ⟨((⟨0, (bareGo F t.st.step (Str.empty ++ t.st.ch)).2, (bareGo F t.st.step (Str.empty ++ t.st.ch)).1⟩ : LSt), false), by subst hg; rfl, by show 0 < t.f + 1; (exact Nat.lt_succ_of_lt (by assumption)), ⟨rfl, rfl, rfl, trivial⟩, rfl, [], rfl⟩)
end
end Mine
end
section
open PySem PySem.Calls PyProof.Rows
set_option maxRecDepth 100000
namespace Mine
section
variable {X : Cx} {K : LexK} {n : Nat} {D : FD} {σ : St} {st : LexSt} {Φ : AFl → St → Prop} {rest : List Stmt} {k : Nat}
noncomputable def LexSt.Fine (st : LexSt) : Prop := 0 ≤ st.place ∧ st.text.length ≤ 1000 ∧ st.push.length ≤ 1000
theorem getToken_ok {st : LexSt} (hc : LexCls X K) (hb : X.C.tab.lookup (Str.ofString "iter") = some (.builtin "iter")) (hf : st.Fine) : MethC X (n + 4) K.fG (lexS K st) (lexS K (getTok st).2) [] (.str (getTok st).1) := by
  refine Classical.byContradiction fun hnx => ?_
  (obtain ⟨o1, o4, o6⟩ := hf) <;> (refine hnx ?_; clear hnx)
  refine MethC.ofAt (self := Str.ofString "self") (names := []) hc.aG (fun fd h1 h2 h3 vals hv => ?_) (by decide) (by decide) (by decide) rfl (by decide) (by decide) (fun _ => rfl) rfl rfl rfl rfl (by simp) rfl fun E z hE => ?_
  · obtain ⟨v, rfl⟩ := len1 hv
    rw [fdl h1 h2 h3]; rfl
  have vv : ∀ x, (dScope (mS 2)).names.lookup x = some .local → x ≠ Str.ofString "__classdict__" → x ≠ Str.ofString "__debug__" → isVar ⟨E, [], [], z⟩ x = true := fun x h h1 h2 => envVar hE h h1 h2
  have ow : ∀ x, (dScope (mS 2)).names.lookup x = some .local → isOwnVar ⟨E, [], [], z⟩ x = true := fun x h => envOwn hE h
  refine Ex.ite (EvB.val (lex_pushO (k := 0) hc rfl (vv _ rfl (by decide) (by decide)) rfl) (by simp) (hz2 := fun x e => by cases e; rw [List.length_map]; exact Nat.le_trans o6 (by decide))) (fun hb1 => ?_) fun hb1 => Ex.nil ?_
  · cases hp : st.push with
    | nil => rw [hp] at hb1; cases hb1
    | cons w ws =>
      refine Ex.retM (lex_pop (k := 0) hc rfl (vv _ rfl (by decide) (by decide)) rfl hp (Nat.le_trans o6 (by decide))) ?_
      unfold getTok; rw [hp]; exact ⟨rfl, rfl⟩
  · have hp : st.push = [] := by
      cases hp : st.push with
      | nil => rfl
      | cons w ws => rw [hp] at hb1; cases hb1
    have hG : getTok st = tokGo (st.text.length + 2) (st.text.length + 2) st := by unfold getTok; rw [hp]
    rw [hG]
    refine Ex.assign (d := .str Str.empty) EvO.str (ow _ rfl) ?_
    refine lex_iter (k := 0) hc rfl (vv _ rfl (by decide) (by decide)) rfl (ow _ rfl) (by rw [hE]; rfl) hb fun x it m => ?_
    exact out_loop (n := n) (x := x) (it := it) (m := m) hc hE (t₀ := ⟨st.text.length + 2, st, Str.empty⟩) ⟨o1, by show 1 ≤ st.text.length + 2; (exact Nat.le_add_left _ _), by show (st.text.length : Int) + 2 ≤ ((st.text.length + 2 : Nat) : Int) + st.place; omega, o4, by show (0 : Int) ≤ st.place ∧ (0 : Int) ≤ (st.text.length : Int) + 1; omega⟩ rfl (by show (st.text.length : Int) + 2 ≤ ((st.text.length + 2 : Nat) : Int); omega) ⟨⟨rfl, rfl, rfl, trivial⟩, rfl, [], rfl⟩ (Nat.le_refl _) rfl rfl
end
end Mine
end
section
open PySem PySem.Calls PyProof.Rows
set_option maxRecDepth 100000
namespace Mine
section
variable {X : Cx} {K : LexK} {n : Nat} {D : FD} {σ : St} {st : LexSt} {Φ : AFl → St → Prop} {rest : List Stmt} {k : Nat}
theorem lex_push (hc : LexCls X K) {self : Str} {ps pi pa pc pe : Pos} {e : Expr} {w : Str} (hl : σ.loc.lookup self = some (.ref k)) (hk : isVar D self = true) (ho : σ.hp[k]? = some (.other (lexS K st))) (hw : EvO X n D σ e (.str w)) (hz : st.push.length ≤ sizeLine)
    (hr : Ex X n D rest ⟨σ.loc, σ.hp.set k (.other (lexS K { st with push := st.push ++ [w] }))⟩ Φ) (hline : (pa.endLine == pc.line) = true := by rfl) (hse : ∀ env, starEach [e] env = [(false, eval e env)] := by intro _; rfl) :
    Ex X n D (.Expr (.Call (.Attribute (.Attribute (.Name self ps) (Str.ofString "pushback") pi) (Str.ofString "append") pa) [e] [] pc) pe :: rest) σ Φ := Ex.cons fun A g fps s hA q => by
  refine wpAny_Expr_any (Call_method1 rfl (hse _) hline (Attribute_any_ (lex_name hl hk ho hA q fun s1 x' a ex mA k1 q1 e1 i hnd hdx hI hM => ?_))) (by unfold interactive; rw [q.fk]; rfl) (by rfl)
  obtain ⟨vs, ⟨nn, hpl⟩, hv⟩ := i.push
  have hlen := hv.length
  refine lex_get hc q1.z hI (by decide) hM.push rfl ?_
  have q2 := q1.ext (Kp.tok s1 (s1.toks + 1))
  refine ⟨"list", "list.append", PySem.F.plainAttrs_list, PySem.F.slot_list_append, PySem.F.type_list_append, ⟨_, hpl, rfl⟩, fun b hb => by cases hb; exact ⟨_, hpl, rfl⟩, P.append_list (wpF_mono (hw A g fps _ hA q2) fun r s3 hq2 => ?_)⟩
  obtain ⟨k3, v3⟩ := hq2
  have q3 := q2.ext k3
  have hpl3 := k3.hp _ _ hpl
  obtain ⟨tw, rfl⟩ := v3.str
  refine ⟨vs.toArray, nn, by rw [List.size_toArray, hlen, List.length_map]; exact hz, hpl3, ?_⟩
  have hfin : (s3.heap.update a.p (Obj.mapSeq fun xs => xs.push (.str w tw))).PlainList a.p (List.toArray (vs ++ [.str w tw])) := ⟨nn + 1, by
    rw [Heap.get?_update_self _ hpl3 (by rw [Obj.mapSeq_push_plain]; rfl), Obj.mapSeq_push_plain]; simp⟩
  have hk' : ∀ b o, b ≠ a.p → s3.heap.get? b = some o → (s3.heap.update a.p (Obj.mapSeq fun xs => xs.push (.str w tw))).get? b = some o := fun b o hb e => by
    rw [Heap.get?_update_other _ _ (Ne.symm hb)]; exact e
  have i3 : LexI K st s3.heap x' a := i.mono fun b _ o e => k3.hp b o e
  refine ⟨.next, _, fps, q3.lexSet (st' := { st with push := st.push ++ [w] }) (s' := { s3 with heap := s3.heap.update a.p (Obj.mapSeq fun xs => xs.push (.str w tw)) }) (W := [a.p]) e1 (KpB.of_heap fun b o hb e => hk' b o (fun hh => hb (by simp [hh])) e) (by simp [LexA.list]) ?_, Fext.refl _, rfl, hr⟩
  exact i3.setPush (ex := []) (by rw [List.append_nil]; exact hnd) (fun b o hb e => hk' b o hb e) ⟨vs ++ [.str w tw], hfin, by
      rw [List.map_append]
      exact (sc_move hv (by intro d hd; obtain ⟨z, _, rfl⟩ := List.mem_map.mp hd; rfl)).app (f := []) (g := []) (RepVs.single ⟨⟨tw, rfl⟩, rfl⟩)⟩
theorem pushToken_ok {w : Str} (hc : LexCls X K) (hf : st.push.length ≤ 1000) : MethC X (n + 1) K.fP (lexS K st) (lexS K { st with push := st.push ++ [w] }) [.str w] .none := by
  refine MethC.ofAt (self := Str.ofString "self") (names := [Str.ofString "token"]) hc.aP (fun fd h1 h2 h3 vals hv => ?_) (by decide) (by decide) (by decide) rfl (by decide) (by decide) (fun _ => rfl) rfl rfl rfl rfl (sc_all rfl) rfl fun E z hE => ?_
  · obtain ⟨v, v2, rfl⟩ := len2 hv
    rw [fdl h1 h2 h3]; rfl
  have vv : ∀ x, (dScope (mS 3)).names.lookup x = some .local → x ≠ Str.ofString "__classdict__" → x ≠ Str.ofString "__debug__" → isVar ⟨E, [], [], z⟩ x = true := fun x h h1 h2 => envVar hE h h1 h2
  exact lex_push (k := 0) hc rfl (vv _ rfl (by decide) (by decide)) rfl (EvO.name (d := .str w) rfl (vv _ rfl (by decide) (by decide))) (Nat.le_trans hf (by decide)) (Ex.nil ⟨rfl, rfl⟩)
theorem lex_getToken (hc : LexCls X K) (hb : X.C.tab.lookup (Str.ofString "iter") = some (.builtin "iter")) (hf : st.Fine) {v : Str} {pv pa pc : Pos} (hl : σ.loc.lookup v = some (.ref k)) (hk : isVar D v = true) (ho : σ.hp[k]? = some (.other (lexS K st))) (hline : (pa.endLine == pc.line) = true := by rfl) :
    EvM X (n + 4) D σ (.Call (.Attribute (.Name v pv) (Str.ofString "get_token") pa) [] [] pc) ⟨σ.loc, σ.hp.set k (.other (lexS K (getTok st).2))⟩ (getTok st).1 := fun A g fps s hA q => by
  refine Call_meth rfl rfl hline (lex_name hl hk ho hA q fun s1 x' a ex mA k1 q1 e1 i hnd hdx hI hM => ?_)
  have hz := q1.zfree e1
  obtain ⟨of, fd, f1, f2, f3⟩ := hc.fns K.fG (by (exact .tail _ (.head _)))
  refine lex_method (a := a) hc q1.z hI hM (by (exact .tail _ (.head _))) (by decide) hc.mG (by (exact .tail _ (.head _))) ?_
  refine callWith_function (o := of) (fd := fd) (PyProof.Rows.evalArgs_none ⟨⟨q1.z.held _ f1, f3⟩, ?_⟩)
  refine wpF_mono ((getToken_ok (n := n) hc hb hf).wp hA q1.bs (fun b o e => q1.keep.hp b o (q1.zk b o e)) q1.bare ⟨x', a, [], by (rfl), i, by simp⟩ hnd (fun b hb => hz b (List.mem_append_left _ hb)) .nil) fun r s2 hq4 => ?_
  obtain ⟨kp, ⟨fp', hP, hnd', hsub⟩, hv⟩ := hq4
  obtain ⟨a', i', hex, hfin⟩ := q1.methPost e1 kp hP hnd' hsub
  refine ⟨hfin _ ⟨x', a', ex, rfl, i', fun b hb => ?_⟩, hv.1⟩
  obtain ⟨o, ho⟩ := q1.alive b (own_fps (mem_flatten_get e1 (by (exact .tail _ (List.mem_append_right _ (by assumption))))))
  exact ⟨o, hex b hb o ho⟩
end
end Mine
end
section
open PySem PySem.Calls PyProof.Rows
set_option maxRecDepth 100000
namespace Mine
noncomputable def retE (s : Stmt) : Expr := (sParts s).2.2.2.2.2.1
noncomputable def argE (e : Expr) (i : Nat) : Expr := (eParts e).1.getD i default
noncomputable def liS (xs : List Int) (j : Nat) : OSpec where
  P := fun h fp => ∃ it l vs, fp = [it, l] ∧ it ≠ l ∧ h.IsListIter it l j ∧ h.IsList l (List.toArray vs) ∧ RepVs h (xs.map .int) vs []
  mono := by
    rintro h h' fp ⟨it, l, vs, rfl, hne, h1, h2, h3⟩ k
    exact ⟨it, l, vs, rfl, hne, h1.at fun o e => k it (by (exact .head _)) o e, h2.at fun o e => k l (by (exact .tail _ (.head _))) o e, h3.mono (by simp)⟩
  alive := by
    rintro h fp ⟨it, l, vs, rfl, hne, ⟨o, h1, _⟩, ⟨o2, h2, _⟩, h3⟩ b hb
    revert hb; revert b; refine all2 ?_ ?_
    · exact ⟨o, h1⟩
    · exact ⟨o2, h2⟩
noncomputable def liE (xs : List Int) : OSpec where
  P := fun h fp => ∃ j, (liS xs j).P h fp
  mono := fun hqp k => by obtain ⟨j, h⟩ := hqp; exact ⟨j, (liS xs j).mono h k⟩
  alive := fun hqp => by obtain ⟨j, h⟩ := hqp; exact (liS xs j).alive h
section
variable {X : Cx} {n : Nat} {D : FD} {σ : St} {Φ : AFl → St → Prop} {rest : List Stmt} {k : Nat} {A : Around} {s : Shared}
theorem call_next_list {it l : Addr} {i : Nat} {items : Array Value} {x : Value} {Q : Value → Shared → Prop} (hit : s.heap.IsListIter it l i) (hl : s.heap.IsList l items) (hx : items[i]? = some x)
    (hQ : ∀ h', h'.IsListIter it l (i + 1) → Heap.SameBut it s.heap h' → Q x { s with heap := h' }) : wpF X A (call (.builtin "next") [.ref it]) Q s := by
  refine call_function_entry (by decide +kernel) (by decide +kernel) PySem.W.kdk_entry_next (PySem.W.kdk_args_next _) ?_
  unfold Builtin.«next»
  refine wpAny_bind (m := someArgs "next" 1 2 _) (wpAny_of_eq (a := [Value.ref it]) (by first | rfl | kernel_rfl!) ?_)
  dsimp only
  refine wpAny_bind (wpAny_specialOf (name := Str.ofString "__next__") hit.typeIs slot_listiter_next.lookup ?_)
  refine wpAny_ite_split (fun hab => absurd hab (by decide)) (fun _ => ?_)
  refine Classical.byContradiction fun hnx => ?_
  (obtain ⟨o, ho, hc, hd⟩ := id hit) <;> (refine hnx ?_; clear hnx)
  refine Classical.byContradiction fun hnx => ?_
  (obtain ⟨ol, hol, _, nl, hdl⟩ := hl) <;> (refine hnx ?_; clear hnx)
  refine wpAny_bind (wpAny_callSpecial?_slot (name := Str.ofString "__next__") hit.typeIs slot_listiter_next
    (wpAny_call_entry slot_listiter_next hit.typeIs entry_listiter_next ?_ (args_listiter_next _)))
  show wpAny _ _ (field (.ref it) 0 >>= _) _ _ s
  refine wpAny_bind (wpAny_field ho hd (x := .ref l) rfl ?_)
  show wpAny _ _ (if (Value.ref l == Value.none) = true then _ else _) _ _ s
  rw [if_neg (show ¬ ((Value.ref l == Value.none) = true) from Bool.false_ne_true)]
  show wpAny _ _ (field (.ref it) 1 >>= _) _ _ s
  refine wpAny_bind (wpAny_field ho hd (x := .int i 0) rfl ?_)
  show wpAny _ _ (seqItems? (.ref l) >>= _) _ _ s
  refine wpAny_bind (wpAny_seqItems hol hdl ?_)
  simp only [Int.toNat_natCast, hx]
  refine wpAny_bind (wpAny_setField ho hd (by simp) (wpAny_pure ⟨x, rfl, wpAny_pure ⟨_, rfl, hQ _ ?_ (Heap.SameBut.update ..)⟩⟩))
  exact ⟨_, Heap.get?_update_self _ ho (Obj.isFreed_of_fields (Obj.data_mapFields hd _)), (Obj.cls_mapFields ..).trans hc, by
    rw [Obj.data_mapFields hd]; (rfl)⟩
noncomputable def EvMI (X : Cx) (n : Nat) (D : FD) (σ : St) (e : Expr) (σ' : St) (y : Int) : Prop :=
  ∀ A g fps s, AOk A n → R X.C D g σ fps s → wpF X A (eval e D.env) (fun r s' => RX X.C D g fps σ' s' ∧ ∃ t, r = .int y t) s
theorem Ex.assignMI {x : Str} {p pos : Pos} {e : Expr} {σ' : St} {y : Int} (h : EvMI X n D σ e σ' y) (hk : isOwnVar D x = true) (hr : Ex X n D rest ⟨(x, .dv (.int y)) :: σ'.loc, σ'.hp⟩ Φ)
    (hs : swapsWith e (some (.Name x p)) pos.line D.env = pure false := by rfl) : Ex X n D (.Assign [.Name x p] e pos :: rest) σ Φ := Ex.cons fun A g fps s hA q =>
  wpAny_Assign_Name (wpF_mono (h A g fps s hA q) fun r s1 hqp => by
    obtain ⟨⟨fps', q1, e1⟩, t, hr'⟩ := hqp
    subst hr'
    exact q1.store (v := .dv (.int y)) hk ⟨[], ⟨t, rfl⟩, rfl⟩ fun s2 q2 => ⟨.next, _, fps', q2, e1, rfl, hr⟩) hs
theorem li_next {xs : List Int} {j : Nat} {c : Int} {v : Str} {pn pv pc : Pos} (hg : D.env.kindOf (Str.ofString "next") = some .globalImplicit) (hb : X.C.tab.lookup (Str.ofString "next") = some (.builtin "next")) (hl : σ.loc.lookup v = some (.ref k)) (hk : isVar D v = true) (ho : σ.hp[k]? = some (.other (liS xs j))) (hx : xs[j]? = some c) :
    EvMI X n D σ (.Call (.Name (Str.ofString "next") pn) [.Name v pv] [] pc) ⟨σ.loc, σ.hp.set k (.other (liS xs (j + 1)))⟩ c := fun A g fps s hA q => by
  refine Call_ (q.global (X := X) hg hb ?_) rfl
  refine callWith_builtin1 (args_cons (wpF_mono (EvA.name hl hk A g fps s hA q) fun r s1 ⟨k1, it, fp', e1, hr1⟩ => args_nil ?_) rfl) rfl rfl
  subst hr1
  have q1 := q.ext k1
  refine Classical.byContradiction fun hnx => ?_
  (obtain ⟨it', l, vs, e2, hne, h1, h2, h3⟩ := q1.obj k _ _ ho e1) <;> (refine hnx ?_; clear hnx)
  cases e2
  obtain ⟨r, f, hr, hv, _⟩ := h3.get (i := j) (d := .int c) (by rw [List.getElem?_map, hx]; rfl)
  refine Classical.byContradiction fun hnx => ?_
  (obtain ⟨⟨t, rfl⟩, _⟩ := hv) <;> (refine hnx ?_; clear hnx)
  refine call_next_list (X := X) h1 h2 (by simpa using hr) fun h' hi' hs' => ⟨⟨_, q1.upd (o := .other (liS xs (j + 1))) (fp' := [l]) (s' := { s1 with heap := h' }) e1 (KpB.of_heap fun b o hb e => (hs'.2 b (fun hh => hb (by simp [hh]))).trans e) (fun b hb => .inl hb) (by simpa using hne) ⟨it, l, vs, rfl, hne, hi', h2.at fun o e => (hs'.2 l hne.symm).trans e, h3.mono (by simp)⟩, Fext.set e1⟩, t, rfl⟩
theorem Ex.liWeak {b : List Stmt} {xs : List Int} {j : Nat} (ho : σ.hp[k]? = some (.other (liS xs j))) (h : Ex X n D b ⟨σ.loc, σ.hp.set k (.other (liE xs))⟩ Φ) : Ex X n D b σ Φ := fun A g fps s hA q => by
  have hlt : k < fps.length := q.len ▸ (List.getElem?_eq_some_iff.mp ho).1
  have e := List.getElem?_eq_getElem hlt
  refine Classical.byContradiction fun hnx => ?_
  (obtain ⟨it, l, vs, e2, r⟩ := q.obj k _ _ ho e) <;> (refine hnx ?_; clear hnx)
  rw [e2] at e
  have q2 := q.upd (o := .other (liE xs)) (fp' := [l]) e (KpB.refl s) (fun b hb => .inl hb) (q.nodupAt e) ⟨j, it, l, vs, rfl, r⟩
  rw [PySem.W.X.set_same e] at q2
  exact h A g fps s hA q2
noncomputable def vGo : List Int → Int → Int → Option Int
  | rest, b, val =>
    if Builtin.bitAnd b 64 != 0 then
      match rest with
      | [] => none
      | c :: r => if val.natAbs < 2 ^ 64 then vGo r c (Builtin.bitOr (val * 2 ^ 6) (Builtin.bitAnd c 63)) else none
    else some val
theorem vGo_eq (rest : List Int) (b val : Int) : vGo rest b val = if (Builtin.bitAnd b 64 != 0) = true then (match rest with
      | [] => none
      | c :: r => if val.natAbs < 2 ^ 64 then vGo r c (Builtin.bitOr (val * 2 ^ 6) (Builtin.bitAnd c 63)) else none)
    else some val := by rw [vGo.eq_def]
noncomputable def varint : List Int → Option Int
  | [] => none
  | c :: r => vGo r c (Builtin.bitAnd c 63)
noncomputable def vS (xs : List Int) (t : Nat × Int × Int) : St := ⟨[(Str.ofString "val", .dv (.int t.2.2)), (Str.ofString "b", .dv (.int t.2.1)), (Str.ofString "iterator", .ref 0)], [.other (liS xs t.1)]⟩
theorem varint_ex {E : Env} {z : Heap} (hE : ∀ x, E.kindOf x = (dScope (topS 3)).names.lookup x) (hb : X.C.tab.lookup (Str.ofString "next") = some (.builtin "next")) {xs : List Int} {v : Int} (h : varint xs = some v) :
    Ex X n ⟨E, [], [], z⟩ (dBody (topS 3)) ⟨[(Str.ofString "iterator", .ref 0)], [.other (liS xs 0)]⟩ (fun fl σ' => retIs (.int v) fl σ' ∧ σ'.hp[0]? = some (.other (liE xs))) := by
  have vv : ∀ x, (dScope (topS 3)).names.lookup x = some .local → x ≠ Str.ofString "__classdict__" → x ≠ Str.ofString "__debug__" → isVar ⟨E, [], [], z⟩ x = true := fun x h h1 h2 => envVar hE h h1 h2
  have ow : ∀ x, (dScope (topS 3)).names.lookup x = some .local → isOwnVar ⟨E, [], [], z⟩ x = true := fun x h => envOwn hE h
  cases xs with
  | nil => exact (Option.some_ne_none _ h.symm).elim
  | cons c0 r0 =>
    refine Ex.assignMI (li_next (k := 0) (j := 0) (c := c0) (by rw [show FD.env ⟨E, [], [], z⟩ = E from rfl, hE]; rfl) hb rfl (vv _ rfl (by decide) (by decide)) rfl rfl) (ow _ rfl) ?_
    refine Ex.assign (d := .int (Builtin.bitAnd c0 63)) (EvF.bin (EvO.name (d := .int c0) rfl (vv _ rfl (by decide) (by decide))) EvO.int.toO .andI) (ow _ rfl) ?_
    refine Ex.while_ (T := Nat × Int × Int) (fun t => vS (c0 :: r0) t) (fun t => (c0 :: r0).length - t.1) (fun t => DV.truth (.int (Builtin.bitAnd t.2.1 64))) (fun t => vGo ((c0 :: r0).drop t.1) t.2.1 t.2.2 = some v ∧ t.1 ≤ (c0 :: r0).length) (1, c0, Builtin.bitAnd c0 63) ⟨h, by simp⟩ ⟨⟨rfl, rfl, rfl, trivial⟩, rfl, [], rfl⟩ (fun _ _ => rfl)
      (fun t ht => EvB.val (EvF.bin (EvO.name (d := .int t.2.1) rfl (vv _ rfl (by decide) (by decide))) EvO.int.toO .andI).toO (by simp)) (fun t ht hbt => ?_) (fun t ht hbt => Ex.nil ?_) (Nat.le_refl _)
    · obtain ⟨j, b, val⟩ := t
      obtain ⟨hg, hj⟩ := ht
      have hbt : (Builtin.bitAnd b 64 != 0) = true := hbt
      have hg : vGo ((c0 :: r0).drop j) b val = some v := hg
      have hj : j ≤ (c0 :: r0).length := hj
      rw [vGo_eq, if_pos hbt] at hg
      cases hd : (c0 :: r0).drop j with
      | nil => rw [hd] at hg; cases hg
      | cons c r =>
        rw [hd] at hg
        simp only at hg
        split at hg
        · rename_i hval
          have hcj : (c0 :: r0)[j]? = some c := by
            have := congrArg (·[0]?) hd
            simpa using this
          have hdr : (c0 :: r0).drop (j + 1) = r := by rw [← List.drop_drop, hd]; rfl
          have hjl : j < (c0 :: r0).length := (List.getElem?_eq_some_iff.mp hcj).1
          refine Ex.aug (a := .int val) rfl (ow _ rfl) EvO.int.toO (.shlI (by decide) (by decide) hval) (vv _ rfl (by decide) (by decide)) ?_
          refine Ex.assignMI (li_next (k := 0) (j := j) (c := c) (by rw [show FD.env ⟨E, [], [], z⟩ = E from rfl, hE]; rfl) hb rfl (vv _ rfl (by decide) (by decide)) rfl hcj) (ow _ rfl) ?_
          refine Ex.aug (a := .int (val * 2 ^ 6)) rfl (ow _ rfl) (EvF.bin (EvO.name (d := .int c) rfl (vv _ rfl (by decide) (by decide))) EvO.int.toO .andI).toO .orI (vv _ rfl (by decide) (by decide)) (Ex.nil ?_)
          refine ⟨(j + 1, c, Builtin.bitOr (val * 2 ^ 6) (Builtin.bitAnd c 63)), ⟨by show vGo ((c0 :: r0).drop (j + 1)) _ _ = _; rw [hdr]; exact hg, hjl⟩, by show (c0 :: r0).length - (j + 1) < (c0 :: r0).length - j; omega, ⟨rfl, rfl, rfl, trivial⟩, rfl, [], rfl⟩
        · exact (Option.some_ne_none _ hg.symm).elim
    · obtain ⟨j, b, val⟩ := t
      obtain ⟨hg, hj⟩ := ht
      have hbt : (Builtin.bitAnd b 64 != 0) = false := hbt
      have hg : vGo ((c0 :: r0).drop j) b val = some v := hg
      rw [vGo_eq, if_neg (by rw [hbt]; simp)] at hg
      obtain rfl : val = v := by simpa using hg
      exact Ex.liWeak (k := 0) rfl (Ex.ret ((EvO.name (d := .int val) rfl (vv _ rfl (by decide) (by decide))).toF rfl) ⟨rfl, rfl⟩)
theorem varint_meth {a : Addr} {pm cd doc : Value} (hf : FnAt X a (topS 3) pm cd doc) (hb : X.C.tab.lookup (Str.ofString "next") = some (.builtin "next")) {xs : List Int} {v : Int} (h : varint xs = some v) : MethC X (n + 1) a (liS xs 0) (liE xs) [] (.int v) := by
  refine Classical.byContradiction fun hnx => ?_
  (obtain ⟨⟨o, h1, h2⟩, h3⟩ := hf) <;> (refine hnx ?_; clear hnx)
  refine MethC.ofBody (fd := dFd (topS 3) pm cd doc) (self := Str.ofString "iterator") (names := []) h1 h2 rfl rfl rfl rfl h3 (fun vals hv => ?_) (by show ∀ x ∈ [Str.ofString "iterator"], (dScope (topS 3)).names.lookup x = some .local; decide) (by decide) (by decide) rfl (by show ∀ x ∈ (dScope (topS 3)).names, x.2 ≠ .free; decide) (by show ((dScope (topS 3)).names.map (·.1)).Nodup; decide) (fun _ => rfl) rfl rfl rfl rfl (by simp) rfl fun L z => varint_ex (fun x => rfl) hb h
  obtain ⟨v, rfl⟩ := len1 hv
  rfl
theorem call_iter1 {l : Addr} {items : Array Value} {Q : Value → Shared → Prop} (hl : s.heap.IsList l items) (h : Q (.ref s.heap.objs.size) { s with heap := s.heap.push { cls := .type "list_iterator", data := .fields #[.ref l, .int 0 0] } }) : wpF X A (call (.builtin "iter") [.ref l]) Q s := by
  refine call_function_entry (by decide +kernel) (by decide +kernel) PySem.W.kdk_entry_iter (PySem.W.kdk_args_iter _) ?_
  unfold Builtin.«iter»
  refine wpAny_bind (m := someArgs "iter" 1 2 _) (wpAny_of_eq (a := [Value.ref l]) (by first | rfl | kernel_rfl!) ?_)
  show wpAny _ _ (pyIter (.ref l) >>= _) _ _ _
  refine wpAny_bind (wpAny_pyIter_list hl ?_)
  exact wpAny_pure ⟨_, rfl, h⟩
noncomputable def ordF : IV → Option DV
  | .one (.str y) => y.cps[0]?.map fun (c : Nat) => DV.int (c : Int)
  | _ => none
theorem number_ok {a aV : Addr} {pm cd doc : Value} (hf : FnAt X a (topS 14) pm cd doc) (hV : FnG X 3 aV) (hb : X.C.tab.lookup (Str.ofString "next") = some (.builtin "next")) (hi : X.C.tab.lookup (Str.ofString "iter") = some (.builtin "iter")) (hord : X.C.tab.lookup (Str.ofString "ord") = some (.builtin "ord"))
    {w : Str} {v : Int} (hw : w.length ≤ 1000) (h : varint (w.cps.toList.map fun (c : Nat) => (c : Int)) = some v) : CallO X (n + 2) (.ref a) [.str w] (.int v) := by
  refine Classical.byContradiction fun hnx => ?_
  (obtain ⟨pmV, cdV, docV, hvV, hfV⟩ := hV) <;> (refine hnx ?_; clear hnx)
  refine hf.call [Str.ofString "word"] (fun vals hv => ?_) (by decide) (by decide) (by decide) rfl rfl rfl fun L z hz => ?_
  · obtain ⟨v, rfl⟩ := len1 hv
    rfl
  refine Ex.ret (d := .int v) (fun A g fps s hA q => ?_) rfl
  refine Call_ (q.global (X := X) rfl hvV ?_) rfl
  refine Classical.byContradiction fun hnx => ?_
  (obtain ⟨⟨o, ho, hfd⟩, hcd⟩ := id hfV) <;> (refine hnx ?_; clear hnx)
  refine callWith_def (o := o) (fd := dFd (topS 3) pmV cdV docV) hfd (args_cons (Call_ (q.global (X := X) rfl hi ?_) rfl) rfl) rfl
  have hcomp : EvF X (n + 1) (fnD (dFd (topS 14) pm cd doc) L a z) ⟨([Str.ofString "word"].zip ([DV.str w].map AV.dv)).reverse, []⟩ (argE (argE (retE (stN (dBody (topS 14)) 0)) 0) 0) (.lst ((w.cps.toList.map fun c => IV.one (.str ⟨#[c]⟩)).filterMap ordF)) := by
    refine EvF.comp (J := fun _ => True) [] ordF (EvI.str (EvO.name (d := .str w) rfl rfl)) trivial ?_ rfl (by decide) (by simp) (fun x hx hk => absurd hk ((by decide : ∀ x ∈ [(Str.ofString ".0", NameKind.local), (Str.ofString "sign", NameKind.local), (Str.ofString "ord", NameKind.globalImplicit)], x.2 ≠ NameKind.free) x hx)) (fun L' z' hp x hx => ?_)
    · rw [List.length_map]; exact Nat.le_trans (by exact hw) (by decide)
    · refine Classical.byContradiction fun hnx => ?_
      (obtain ⟨c, _, rfl⟩ := List.mem_map.mp hx) <;> (refine hnx ?_; clear hnx)
      refine ⟨_, trivial, As.name rfl rfl, EvT.nil, ?_⟩
      exact EvF.callB rfl hord (EvOs.cons (EvO.name (d := .str ⟨#[c]⟩) rfl rfl) EvOs.nil) CallO.ord
  have hout : (w.cps.toList.map fun c => IV.one (.str ⟨#[c]⟩)).filterMap ordF = (w.cps.toList.map fun (c : Nat) => (c : Int)).map DV.int := by
    rw [List.filterMap_map, List.map_map]
    induction w.cps.toList with
    | nil => rfl
    | cons c r ih => rw [List.map_cons, List.filterMap_cons_some (f := ordF ∘ fun c => IV.one (.str ⟨#[c]⟩)) (b := DV.int (c : Int)) rfl, ih]; rfl
  rw [hout] at hcomp
  refine callWith_builtin1 (args_cons (wpF_mono (hcomp A g fps s hA q) fun r s1 hq1 => ?_) rfl) rfl rfl
  refine Classical.byContradiction fun hnx => ?_
  (obtain ⟨k1, f1, ⟨l, vs, fp', e1, e2, hl, hv⟩, hn, hfr⟩ := hq1) <;> (refine hnx ?_; clear hnx)
  subst e1 e2
  refine args_nil (call_iter1 (X := X) hl (args_nil ?_))
  have q1 := q.ext k1
  have hkp : ∀ b o, s1.heap.get? b = some o → (s1.heap.push { cls := .type "list_iterator", data := .fields #[.ref l, .int 0 0] }).get? b = some o := fun b o e => Heap.get?_push_of_some _ e
  have q2 : R X.C _ g _ fps { s1 with heap := s1.heap.push { cls := .type "list_iterator", data := .fields #[.ref l, .int 0 0] } } := q1.ext (Kp.of_heap hkp)
  have hlal : ∃ o, s1.heap.get? l = some o := by obtain ⟨o, e, _⟩ := hl; exact ⟨o, e⟩
  have hne : s1.heap.objs.size ≠ l := fun hh => by
    obtain ⟨o, e⟩ := hlal
    have := Heap.lt_size e
    rw [← hh] at this
    exact absurd this (Nat.lt_irrefl _)
  have hzf : ∀ b ∈ [s1.heap.objs.size, l], z.get? b = none := fun b hb => by
    cases e : z.get? b with
    | none => rfl
    | some o =>
      have hs : s.heap.get? b = some o := q.keep.hp b o (q.zk b o e)
      rcases List.mem_cons.mp hb with rfl | hb
      · exact absurd (Heap.lt_size (k1.hp _ _ hs)) (Nat.lt_irrefl _)
      · rw [List.mem_singleton.mp hb, hfr l List.mem_cons_self] at hs; cases hs
  refine ⟨q2.z.held _ ho, ?_⟩
  refine wpF_mono ((varint_meth (n := n) hfV hb h).wp (x := s1.heap.objs.size) (fp := [l]) hA q2.bs (fun b o e => q2.keep.hp b o (q2.zk b o e)) q2.bare ⟨_, l, vs, rfl, hne, ⟨_, Heap.get?_push_size _ rfl, rfl, rfl⟩, hl.push _, scs_rep ⟨_, hv⟩ (by intro d hd; obtain ⟨z, _, rfl⟩ := List.mem_map.mp hd; rfl)⟩ (by simpa using hne) hzf .nil) fun r s2 ⟨kp, _, hv2⟩ => ⟨?_, [], hv2, List.nodup_nil, by simp⟩
  exact ⟨fun b o _ e => kp.heap b o (fun hm => by
    rcases List.mem_cons.mp hm with rfl | hm
    · exact absurd (Heap.lt_size (k1.hp _ _ e)) (Nat.lt_irrefl _)
    · rw [List.mem_singleton.mp hm, hfr l List.mem_cons_self] at e; cases e) (hkp _ _ (k1.hp _ _ e)), fun i x _ e => kp.gens i x (by simp) (k1.gens i x (by simp) e), fun e => kp.bare (k1.bare e), kp.os.trans k1.os⟩
end
end Mine
end
section
open PySem PySem.Calls PyProof.Rows
set_option maxRecDepth 100000
namespace Mine
section
variable {X : Cx} {K : LexK} {n : Nat} {D : FD} {σ : St} {st : LexSt} {Φ : AFl → St → Prop} {rest : List Stmt} {k : Nat}
theorem lex_pushToken (hc : LexCls X K) (hf : st.push.length ≤ 1000) {v : Str} {pv pa pc pe : Pos} {e : Expr} {w : Str} (hl : σ.loc.lookup v = some (.ref k)) (hk : isVar D v = true) (ho : σ.hp[k]? = some (.other (lexS K st))) (he : EvO X (n + 1) D σ e (.str w))
    (hr : Ex X (n + 1) D rest ⟨σ.loc, σ.hp.set k (.other (lexS K { st with push := st.push ++ [w] }))⟩ Φ) (hline : (pa.endLine == pc.line) = true := by rfl) (hse : ∀ env, backTo pc (starEach [e] env) = [(false, eval e env)] := by intro _; rfl)
    (hfew : ∀ env, methodCallForm ([e].length + ([] : List Keyword).length) (backTo pc (starEach [e] env)) (backToKw pc (keywordEach [] env)) = true := by intro _; rfl) :
    Ex X (n + 1) D (.Expr (.Call (.Attribute (.Name v pv) (Str.ofString "push_token") pa) [e] [] pc) pe :: rest) σ Φ := Ex.cons fun A g fps s hA q => by
  refine wpAny_Expr_any (Call_meth rfl (hfew _) hline (lex_name hl hk ho hA q fun s1 x' a ex mA k1 q1 e1 i hnd hdx hI hM => ?_)) (by unfold interactive; rw [q.fk]; rfl) (by rfl)
  have hz := q1.zfree e1
  obtain ⟨of, fd, f1, f2, f3⟩ := hc.fns K.fP (by simp)
  refine lex_method (a := a) hc q1.z hI hM (by simp) (by decide) hc.mP (by simp) ?_
  rw [hse]
  refine callWith_function (o := of) (fd := fd) (evalArgs_plain (spliced_cons (wpF_mono (he A g fps s1 hA q1) fun rv s2 ⟨k2, v2⟩ => spliced_nil ?_)))
  have q2 := q1.ext k2
  refine ⟨⟨q2.z.held _ f1, f3⟩, ?_⟩
  have i2 : LexI K st s2.heap x' a := i.mono fun b _ o e => k2.hp b o e
  refine wpF_mono ((pushToken_ok (n := n) (w := w) hc hf).wp hA q2.bs (fun b o e => q2.keep.hp b o (q2.zk b o e)) q2.bare ⟨x', a, [], by simp, i2, by simp⟩ hnd (fun b hb => hz b (List.mem_append_left _ hb)) (.cons v2 .nil)) fun r s3 hq2 => ?_
  obtain ⟨kp, ⟨fp', hP, hnd', hsub⟩, hv⟩ := hq2
  obtain ⟨a', i', hex, hfin⟩ := q2.methPost e1 kp hP hnd' hsub
  obtain ⟨fps', q3, e3⟩ := hfin (.other (lexS K { st with push := st.push ++ [w] })) ⟨x', a', ex, rfl, i', fun b hb => by
    obtain ⟨o, ho⟩ := q2.alive b (own_fps (mem_flatten_get e1 (by simp [hb])))
    exact ⟨o, hex b hb o ho⟩⟩
  exact ⟨.next, _, fps', q3, e3, rfl, hr⟩
theorem lex_lineO (hc : LexCls X K) {v : Str} {ps pa : Pos} (hl : σ.loc.lookup v = some (.ref k)) (hk : isVar D v = true) (ho : σ.hp[k]? = some (.other (lexS K st))) : EvO X n D σ (.Attribute (.Name v ps) (Str.ofString "lineno") pa) (.int st.line) := fun A g fps s hA q => by
  refine Attribute_any_ (lex_name hl hk ho hA q fun s1 x' a ex mA k1 q1 e1 i hnd hdx hI hM => ?_)
  obtain ⟨t, hw⟩ := hM.line
  exact lex_get hc q1.z hI (by decide) hw rfl ⟨k1.trans (Kp.tok _ _), .ofInt⟩
end
end Mine
end
section
open PySem PySem.Calls PyProof.Rows
set_option maxRecDepth 100000
namespace Mine
theorem R.takeOver2 {C : Gl} {E : Env} {z z' : Heap} {s s1 : Shared} {loc : List (Str × AV)} {x : Addr} {fp : List Addr} {o : AObj} {self : Str} (q : R C ⟨E, [], [], z⟩ s ⟨loc, []⟩ [] s1) (hb : Bs C z') (hz : ∀ b o, z'.get? b = some o → z.get? b = some o)
    (hc : E.cells = []) (hself : loc.lookup self = some (.raw (.ref x))) (hv : ∀ y v, y ≠ self → loc.lookup y = some v → (∃ d, v = .dv d ∧ d.sc = true) ∨ ∃ r, v = .raw r)
    (hfp : ∀ b ∈ x :: fp, z'.get? b = none) (hnd : (x :: fp).Nodup) (hr : Rep s.heap o (x :: fp)) (loc' : List (Str × AV)) (hl : ∀ y v, loc'.lookup y = some v → (y = self ∧ v = .ref 0) ∨ (y ≠ self ∧ loc.lookup y = some v)) :
    R C ⟨E, [], [], z'⟩ (ghost s (x :: fp)) ⟨loc', [o]⟩ [x :: fp] s1 := by
  have q1 : R C ⟨E, [], [], z'⟩ s ⟨loc, []⟩ [] s1 := q.zdown hb hz hc fun y v e r hr => by
    by_cases hy : y = self
    · subst hy
      have e : loc.lookup y = some v := e
      rw [hself] at e; cases e; exact hr
    · rcases hv y v hy e with ⟨d, rfl, hd⟩ | ⟨r', rfl⟩
      · obtain ⟨f, hr⟩ := hr
        exact ⟨[], (hr.sc_heap hd).1⟩
      · exact hr
  have hal : ∀ b ∈ x :: fp, ∃ o, s.heap.get? b = some o := hr.alive
  have q2 : R C ⟨E, [], [], z'⟩ (ghost s (x :: fp)) ⟨loc, []⟩ [] s1 := q1.back ⟨fun b o _ e => by rw [ghost_get] at e; split at e; cases e; exact e, fun _ _ _ e => e, id, rfl⟩ fun b o e => by
    rw [ghost_get, if_neg fun hm => by rw [hfp b hm] at e; cases e]
    exact q1.zk b o e
  have q3 := q2.adopt (o := o) (fp := x :: fp) (fun b hb => ⟨fun hm => (by
      obtain ⟨o', ho'⟩ := hal b hb
      rw [q1.fresh b hm] at ho'
      cases ho'), by rw [ghost_get, if_pos hb]⟩) hnd (hr.mono fun b _ o' e => q1.keep.hp b o' e)
  refine R.reval (σ := ⟨loc, [o]⟩) q3 fun y v e => ?_
  rcases hl y v e with ⟨rfl, rfl⟩ | ⟨hy, e'⟩
  · exact ⟨_, hself, fun r hr => ⟨x, fp, rfl, hr⟩⟩
  · exact ⟨v, e', fun r hr => hr⟩
noncomputable def mkS (K : LexK) (P : (Str → Option Value) → Prop) : OSpec where
  P := fun h l => ∃ x dx mA, l = [x, dx] ∧ dx ≠ x ∧ (InstAt h K.C x dx) ∧ h.Ns1 dx mA ∧ PySem.Within mA lexNames ∧ P mA
  mono := by
    rintro h h' fp ⟨x, dx, mA, rfl, hne, hi, hn, hw, hP⟩ k
    exact ⟨x, dx, mA, rfl, hne, hi.at (k _ (by simp)), Heap.Ns1.at hn (k _ (by simp)), hw, hP⟩
  alive := by
    rintro h fp ⟨x, dx, mA, rfl, hne, ⟨ox, e, r⟩, ⟨o, _, _, ho, _⟩, hw, hP⟩ b hb
    revert hb; revert b; refine all2 ?_ ?_
    · exact ⟨ox, e⟩
    · exact ⟨o, ho⟩
end Mine
end
section
open PySem PySem.Calls PyProof.Rows
set_option maxRecDepth 100000
namespace Mine
section
variable {X : Cx} {K : LexK} {n : Nat} {D : FD} {σ : St} {Φ : AFl → St → Prop} {rest : List Stmt} {k : Nat}
theorem Ex.mkSet {P : (Str → Option Value) → Prop} (hc : LexCls X K) {self y : Str} {ps pt pos : Pos} {e : Expr} {V : Value → Prop} (hl : σ.loc.lookup self = some (.ref k)) (hk : isVar D self = true) (ho : σ.hp[k]? = some (.other (mkS K P))) (hy : y ∈ lexNames)
    (he : ∀ A g fps s, AOk A n → R X.C D g σ fps s → wpF X A (eval e D.env) (fun r s' => Kp s s' ∧ V r) s)
    (hr : Ex X n D rest ⟨σ.loc, σ.hp.set k (.other (mkS K fun m => ∃ m0 v, P m0 ∧ V v ∧ m = fun z => if z = y then some v else m0 z))⟩ Φ) (hs : swapsWith e (some (.Attribute (.Name self ps) y pt)) pos.line D.env = pure false := by rfl) :
    Ex X n D (.Assign [.Attribute (.Name self ps) y pt] e pos :: rest) σ Φ := Ex.cons fun A g fps s hA q => by
  refine plainObj_wpAny_Assign_Attribute (wpF_mono (he A g fps s hA q) fun v s1 ⟨k1, hv⟩ => wpF_mono (EvA.name hl hk A g fps s1 hA (q.ext k1)) fun r s2 hq1 => ?_) hs
  obtain ⟨k2, x, fp', e1, hr1⟩ := hq1
  subst hr1
  have q2 := (q.ext k1).ext k2
  obtain ⟨x', dx, mA, e2, hne, hx, hn, hw, hP⟩ := q2.obj k _ _ ho e1
  cases e2
  have hxC : x ≠ K.C := hc.ne q2 (mem_flatten_get e1 List.mem_cons_self)
  refine lex_store (a := ⟨dx, 0, 0, 0, 0, 0, 0, 0⟩) hc q2.z hx hn hne hxC hw hy fun h' tk i1 i2 i3 => ?_
  exact ⟨.next, _, _, q2.upd (o := .other (mkS K fun m => ∃ m0 v, P m0 ∧ V v ∧ m = fun z => if z = y then some v else m0 z)) (fp' := [dx]) e1 (KpB.of_heap fun b o hb e => i3 b o (fun hh => hb (by simp [hh])) (fun hh => hb (by simp [hh])) e) (fun b hb => .inl hb) (q2.nodupAt e1)
    ⟨x, dx, _, rfl, hne, i1, i2, fun z hz => (by
      by_cases h : z = y
      · subst h; exact hy
      · simp only [if_neg h] at hz; exact hw z hz), mA, v, hP, hv, rfl⟩, Fext.set e1, rfl, hr⟩
end
end Mine
end
section
open PySem PySem.Calls PyProof.Rows
set_option maxRecDepth 100000
namespace Mine
noncomputable def madeS (K : LexK) (P : (Str → Option Value) → Prop) : OSpec where
  P := fun h l => ∃ x dx p mA, l = [x, dx, p] ∧ dx ≠ x ∧ (InstAt h K.C x dx) ∧ h.Ns1 dx mA ∧ PySem.Within mA lexNames ∧ h.PlainList p #[] ∧ ∃ m0, P m0 ∧ mA = fun z => if z = Str.ofString "pushback" then some (.ref p) else m0 z
  mono := by
    rintro h h' fp ⟨x, dx, p, mA, rfl, hne, hi, hn, hw, ⟨nn, hp⟩, hP⟩ k
    exact ⟨x, dx, p, mA, rfl, hne, hi.at (k _ (by (exact .head _))), Heap.Ns1.at hn (k _ (by (exact .tail _ (.head _)))), hw, ⟨nn, k _ (by (exact .tail _ (.tail _ (.head _)))) _ hp⟩, hP⟩
  alive := by
    rintro h fp ⟨x, dx, p, mA, rfl, hne, ⟨ox, e, r⟩, ⟨o, _, _, ho, _⟩, hw, ⟨nn, hp⟩, hP⟩ b hb
    revert hb; revert b; refine all3 ?_ ?_ ?_
    · exact ⟨ox, e⟩
    · exact ⟨o, ho⟩
    · exact ⟨_, hp⟩
section
variable {X : Cx} {K : LexK} {n : Nat} {D : FD} {σ : St} {Φ : AFl → St → Prop} {rest : List Stmt} {k : Nat}
theorem Ex.mkPush {P : (Str → Option Value) → Prop} (hc : LexCls X K) {self : Str} {ps pt pos pl : Pos} (hl : σ.loc.lookup self = some (.ref k)) (hk : isVar D self = true) (ho : σ.hp[k]? = some (.other (mkS K P)))
    (hr : Ex X n D rest ⟨σ.loc, σ.hp.set k (.other (madeS K P))⟩ Φ) : Ex X n D (.Assign [.Attribute (.Name self ps) (Str.ofString "pushback") pt] (.List [] pl) pos :: rest) σ Φ := Ex.cons fun A g fps s hA q => by
  refine plainObj_wpAny_Assign_Attribute (wpAny_List (args_nil ⟨by decide, ?_⟩)) (by rfl)
  have q1 := q.ext (Kp.push s { cls := .type "list", data := .seq ([] : List Value).toArray } s.toks)
  refine wpF_mono (EvA.name hl hk A g fps _ hA q1) fun r s2 hq1 => ?_
  obtain ⟨k2, x, fp', e1, hr1⟩ := hq1
  subst hr1
  have q2 := q1.ext k2
  have hpl : s2.heap.get? s.heap.objs.size = some { cls := .type "list", data := .seq #[] } := k2.hp _ _ (Heap.get?_push_size _ rfl)
  obtain ⟨x', dx, mA, e2, hne, hx, hn, hw, hP⟩ := q2.obj k _ _ ho e1
  cases e2
  have hxC : x ≠ K.C := hc.ne q2 (mem_flatten_get e1 List.mem_cons_self)
  have hpo : s.heap.objs.size ∉ ownOf D fps := fun hm => by
    obtain ⟨o, ho⟩ := q.alive _ hm
    exact absurd (Heap.lt_size ho) (Nat.lt_irrefl _)
  have hm1 : x ∈ ownOf D fps := own_fps (mem_flatten_get e1 (by (exact .head _)))
  have hm2 : dx ∈ ownOf D fps := own_fps (mem_flatten_get e1 (by (exact .tail _ (.head _))))
  have hpx : s.heap.objs.size ≠ x := fun hh => hpo (by rw [hh]; exact hm1)
  have hpd : s.heap.objs.size ≠ dx := fun hh => hpo (by rw [hh]; exact hm2)
  have hgn : g.heap.get? s.heap.objs.size = none := fresh_of_kp q.keep fresh_push
  refine lex_store (a := ⟨dx, 0, 0, 0, 0, 0, 0, 0⟩) hc q2.z hx hn hne hxC hw (by decide) fun h' tk i1 i2 i3 => ?_
  exact ⟨.next, _, _, q2.upd (o := .other (madeS K P)) (fp' := [dx, s.heap.objs.size]) e1 (KpB.of_heap fun b o hb e => i3 b o (fun hh => hb (by simp [hh])) (fun hh => hb (by simp [hh])) e)
    (fun b hb => by
      rcases List.mem_cons.mp hb with rfl | hb
      · exact .inl (by (exact .head _))
      · rw [List.mem_singleton.mp hb]; exact .inr ⟨hpo, hgn⟩)
    (by simp; exact ⟨⟨fun hh => hne hh.symm, fun hh => hpx hh.symm⟩, fun hh => hpd hh.symm⟩)
    ⟨x, dx, s.heap.objs.size, _, rfl, hne, i1, i2, fun z hz => (by
      by_cases h : z = Str.ofString "pushback"
      · subst h; decide
      · simp only [if_neg h] at hz; exact hw z hz), ⟨0, i3 _ _ hpx hpd hpl⟩, mA, hP, rfl⟩, Fext.set e1, rfl, hr⟩
end
end Mine
end
section
open PySem PySem.Calls PyProof.Rows
set_option maxRecDepth 100000
namespace Mine
section
variable {X : Cx} {K : LexK} {n : Nat}
noncomputable def mk0 : (Str → Option Value) → Prop := fun m => m = fun _ => none
noncomputable def mkAll (f : Addr) : (Str → Option Value) → Prop := fun m => ∃ t1 t2 m0, mk0 m0 ∧ m = fun z => if z = Str.ofString "whitespace" then some (.str lexWs t2) else if z = Str.ofString "instream" then some (.ref f) else if z = Str.ofString "lineno" then some (.int 1 t1) else m0 z
theorem init_body (hc : LexCls X K) {E : Env} {z : Heap} (hE : ∀ x, E.kindOf x = (dScope (mS 0)).names.lookup x) (f : Addr) :
    Ex X n ⟨E, [], [], z⟩ (dBody (mS 0)) ⟨[(Str.ofString "self", .ref 0), (Str.ofString "fp", .raw (.ref f))], [.other (mkS K mk0)]⟩ (fun fl σ' => retIs .none fl σ' ∧ ∃ P, (∀ m, P m → mkAll f m) ∧ σ'.hp[0]? = some (.other (madeS K P))) := by
  have vv : ∀ x, (dScope (mS 0)).names.lookup x = some .local → x ≠ Str.ofString "__classdict__" → x ≠ Str.ofString "__debug__" → isVar ⟨E, [], [], z⟩ x = true := fun x h h1 h2 => envVar hE h h1 h2
  refine Ex.mkSet (k := 0) (V := fun v => ∃ t, v = .int 1 t) hc rfl (vv _ rfl (by decide) (by decide)) rfl (by decide) (fun A g fps s hA q => wpAny_Constant_int ⟨Kp.tok _ _, _, rfl⟩) ?_
  refine Ex.mkSet (k := 0) (V := fun v => v = .ref f) hc rfl (vv _ rfl (by decide) (by decide)) rfl (by decide) (fun A g fps s hA q => wpF_mono (EvA.name (v := .raw (.ref f)) rfl (vv _ rfl (by decide) (by decide)) A g fps s hA q) fun r s' ⟨k, h⟩ => ⟨k, h⟩) ?_
  refine Ex.mkSet (k := 0) (V := fun v => ∃ t, v = .str lexWs t) hc rfl (vv _ rfl (by decide) (by decide)) rfl (by decide) (fun A g fps s hA q => wpAny_Constant_str ⟨Kp.tok _ _, _, rfl⟩) ?_
  refine Ex.mkPush (k := 0) hc rfl (vv _ rfl (by decide) (by decide)) rfl (Ex.nil ⟨rfl, _, fun m hm => ?_, rfl⟩)
  obtain ⟨m2, v2, ⟨m1, v1, ⟨m0, v0, h0, ⟨t1, rfl⟩, rfl⟩, rfl, rfl⟩, ⟨t2, rfl⟩, rfl⟩ := hm
  exact ⟨t1, t2, m0, h0, rfl⟩
end
end Mine
end
section
open PySem PySem.Calls PyProof.Rows
set_option maxRecDepth 100000
namespace Mine
section
variable {X : Cx} {K : LexK} {n : Nat}
theorem init_ok (hc : LexCls X K) {A : Around} {s : Shared} {x dx f : Addr} {z : Heap} (hA : AOk A (n + 1)) (hb : Bs X.C z) (hzs : ∀ b o, z.get? b = some o → s.heap.get? b = some o) (hbare : AllBare s.gens) (hS : (mkS K mk0).P s.heap [x, dx]) (hnd : [x, dx].Nodup) (hz : ∀ b ∈ [x, dx], z.get? b = none) :
    wpF X A (call (.ref K.fI) [.ref x, .ref f]) (fun r s' => r = .none ∧ KpB [x, dx] [] s s' ∧ ∃ fp', (x :: fp').Nodup ∧ (∀ b ∈ fp', b = dx ∨ s.heap.get? b = none) ∧ ∃ P, (∀ m, P m → mkAll f m) ∧ (madeS K P).P s'.heap (x :: fp')) s := by
  refine Classical.byContradiction fun hnx => ?_
  (obtain ⟨o, fd, h1, h2, h3, h4, h5, h6, h7, h8, h9, h10, h11, h12⟩ := hc.aI) <;> (refine hnx ?_; clear hnx)
  have hbs := hb.keeps hzs
  have hbind : bindArgs fd ⟨[.ref x, .ref f], []⟩ = pure ([Str.ofString "self", Str.ofString "fp"].zip [Value.ref x, Value.ref f]) := by
    rw [fdl h5 h10 h11]; rfl
  refine wpAny_call (codeAny_call_cells hA.room (hbs.held _ h1) h3 hbs.nolim (h12 _ hbs) h4 hbind h7 (fun y hy => .inl ?_) (fun s₁ xc => ?_) (by rw [h6]; rfl) (by rw [h6]; rfl) (by rw [h6]; rfl))
  · have hm : y.1 ∈ [Str.ofString "self", Str.ofString "fp"] := (List.of_mem_zip (a := y.1) (b := y.2) hy).1
    rw [h6]
    exact (by decide : ∀ w ∈ [Str.ofString "self", Str.ofString "fp"], (dScope (mS 0)).names.lookup w = some .local) _ hm
  · have q0 := R.startV (fd := fd) (a := K.fI) (names := [Str.ofString "self", Str.ofString "fp"]) (avs := [.raw (.ref x), .raw (.ref f)]) hbs hbare ⟨_, _, rfl, rfl, _, _, rfl, rfl, rfl⟩ h8 h9 (by rw [h6]; rfl) (by rw [h6]; decide) (by rw [h6]; decide) xc
    have hcl : ∀ k, cellsFrom k fd.scope.names [] = [] := fun k => by rw [h6]; rfl
    have hoc : ((fd.scope.names.filter fun x => x.2 == .cell).map (·.1)) = [] := by rw [h6]; rfl
    have hfn : fnD fd s.heap.objs.size K.fI s.heap = ⟨callEnvC fd s.heap.objs.size K.fI, [], [], s.heap⟩ := by unfold fnD; rw [hcl, hoc]; rfl
    rw [hfn] at q0
    have q1 := R.takeOver2 (self := Str.ofString "self") (o := .other (mkS K mk0)) (x := x) (fp := [dx]) q0 hb hzs (hcl _) rfl (fun y v hy e => by
      have hm := mem_of_lookup e
      simp at hm
      rcases hm with ⟨_, rfl⟩ | ⟨_, rfl⟩ <;> exact .inr ⟨_, rfl⟩) hz hnd hS [(Str.ofString "self", .ref 0), (Str.ofString "fp", .raw (.ref f))] (fun y v e => by
      rw [List.lookup_cons] at e
      split at e
      · rename_i hy
        have hy : y = Str.ofString "self" := by simpa using hy
        obtain rfl := Option.some.inj e; exact .inl ⟨hy, rfl⟩
      · rename_i hy
        rw [List.lookup_cons] at e
        split at e
        · rename_i hy2
          have hy2 : y = Str.ofString "fp" := by simpa using hy2
          obtain rfl := Option.some.inj e; subst hy2; exact .inr ⟨by decide, rfl⟩
        · exact (Option.some_ne_none _ e.symm).elim)
    refine wpAny_e (init_body hc (fun w => by rw [← h6]; rfl) f _ _ _ _ (hA.deeper _) q1) fun fl' s2 hq1 => ?_
    refine Classical.byContradiction fun hnx => ?_
    (obtain ⟨fl, σ', fps', q2, e2, r2, hr, P, hP, h13⟩ := hq1) <;> (refine hnx ?_; clear hnx)
    obtain ⟨fp', e2⟩ := e2 0 x [dx] rfl
    have hrep := q2.obj 0 _ _ h13 e2
    have hnd2 := q2.nodupAt e2
    have hsub : ∀ b ∈ fp', b = dx ∨ s.heap.get? b = none := fun b hb => by
      have h1 := q2.fresh b (own_fps (mem_flatten_get e2 (List.mem_cons_of_mem _ hb)))
      rw [ghost_get] at h1
      split at h1
      · rename_i hm
        rcases List.mem_cons.mp hm with rfl | hm
        · exact absurd hb (List.nodup_cons.mp hnd2).1
        · exact .inl (List.mem_singleton.mp hm)
      · exact .inr h1
    have hkp := ghost_kp q2.keep
    cases fl with
    | ret d' =>
      have : d' = .none := hr
      subst this
      obtain ⟨r, fpr, rfl, h14, _, _⟩ := r2
      exact ⟨h14.1, hkp, fp', hnd2, hsub, P, hP, hrep⟩
    | next =>
      obtain rfl : fl' = .next := r2
      exact ⟨rfl, hkp, fp', hnd2, hsub, P, hP, hrep⟩
    | brk => exact hr.elim
    | cont => exact hr.elim
end
end Mine
end
section
open PySem PySem.Calls PyProof.Rows
set_option maxRecDepth 100000
namespace Mine
theorem execs_app (l1 l2 : List Stmt) (env : Env) : execs (l1 ++ l2) env = (execs l1 env >>= fun f => match f with | .next => execs l2 env | f => pure f) := by
  induction l1 with
  | nil => rw [List.nil_append, execs_nil, pure_bind]
  | cons a r ih =>
    rw [List.cons_append, execs_cons, execs_cons, bind_assoc]
    congr 1
    funext f
    cases f with
    | next => exact ih
    | _ => rfl
theorem execs_cross {X : Cx} {A : Around} {env : Env} {l1 l2 : List Stmt} {Q : Flow → Shared → Prop} {s : Shared} (h : wpF X A (execs l1 env) (fun f s1 => f = .next ∧ wpF X A (execs l2 env) Q s1) s) : wpF X A (execs (l1 ++ l2) env) Q s := by
  rw [execs_app]
  refine wpAny_bind (wpF_mono h fun f s1 hq1 => ?_)
  obtain ⟨e, h1⟩ := hq1
  subst e
  exact h1
theorem R.zdownC {C : Gl} {E : Env} {cs : List Addr} {oc : List Str} {z z' : Heap} {g s : Shared} {σ : St} {fps : List (List Addr)} (q : R C ⟨E, cs, oc, z⟩ g σ fps s) (hb : Bs C z') (hz : ∀ b o, z'.get? b = some o → z.get? b = some o)
    (hc : ∀ y c, E.cells.lookup y = some c → c ∈ cs ∨ ∃ o, z'.get? c = some o) (hv : ∀ y v, σ.loc.lookup y = some v → ∀ r, v.At z fps r → v.At z' fps r) : R C ⟨E, cs, oc, z'⟩ g σ fps s where
  bs := hb
  zk := fun b o e => q.zk b o (hz b o e)
  keep := q.keep
  bare := q.bare
  fk := q.fk
  eg := q.eg
  eb := q.eb
  nd := q.nd
  fresh := q.fresh
  ns := by
    obtain ⟨m, a, b⟩ := q.ns
    refine ⟨m, a, fun y v e1 e2 => ?_⟩
    obtain ⟨r, h1, h2⟩ := b y v e1 e2
    exact ⟨r, h1, hv y v e1 r h2⟩
  cel := fun y v e1 e2 => by
    refine Classical.byContradiction fun hnx => ?_
    (obtain ⟨c, r, p1, p2, p3⟩ := q.cel y v e1 e2) <;> (refine hnx ?_; clear hnx)
    exact ⟨c, r, p1, p2, hv y v e1 r p3⟩
  csl := q.csl
  celo := hc
  cown := q.cown
  celi := q.celi
  len := q.len
  obj := q.obj
theorem R.takeOverC {C : Gl} {E : Env} {cs : List Addr} {oc : List Str} {z z' : Heap} {s s1 : Shared} {loc : List (Str × AV)} {fp : List Addr} {o : AObj} (q : R C ⟨E, cs, oc, z⟩ s ⟨loc, []⟩ [] s1) (hb : Bs C z') (hz : ∀ b o, z'.get? b = some o → z.get? b = some o)
    (hc : ∀ y c, E.cells.lookup y = some c → c ∈ cs ∨ ∃ o, z'.get? c = some o) (hv : ∀ y v, loc.lookup y = some v → (∃ d, v = .dv d ∧ d.sc = true) ∨ ∃ r, v = .raw r)
    (hfp : ∀ b ∈ fp, z'.get? b = none) (hnd : fp.Nodup) (hr : Rep s.heap o fp) :
    R C ⟨E, cs, oc, z'⟩ (ghost s fp) ⟨loc, [o]⟩ [fp] s1 := by
  have q1 : R C ⟨E, cs, oc, z'⟩ s ⟨loc, []⟩ [] s1 := q.zdownC hb hz hc fun y v e r hr => by
    rcases hv y v e with ⟨d, rfl, hd⟩ | ⟨r', rfl⟩
    · obtain ⟨f, hr⟩ := hr
      exact ⟨[], (hr.sc_heap hd).1⟩
    · exact hr
  have hal : ∀ b ∈ fp, ∃ o, s.heap.get? b = some o := hr.alive
  have q2 : R C ⟨E, cs, oc, z'⟩ (ghost s fp) ⟨loc, []⟩ [] s1 := q1.back ⟨fun b o _ e => by rw [ghost_get] at e; split at e; cases e; exact e, fun _ _ _ e => e, id, rfl⟩ fun b o e => by
    rw [ghost_get, if_neg fun hm => by rw [hfp b hm] at e; cases e]
    exact q1.zk b o e
  exact q2.adopt (o := o) (fp := fp) (fun b hb => ⟨fun hm => (by
      obtain ⟨o', ho'⟩ := hal b hb
      rw [q1.fresh b hm] at ho'
      exact (Option.some_ne_none _ ho'.symm).elim), by rw [ghost_get, if_pos hb]⟩) hnd (hr.mono fun b _ o' e => q1.keep.hp b o' e)
section
variable {X : Cx} {n : Nat} {D : FD} {σ : St} {Φ : AFl → St → Prop} {rest : List Stmt}
inductive XP (X : Cx) (D : FD) (g : Shared) (fps : List (List Addr)) (Ψ : St → AV → Prop) (r : Value) (s' : Shared) : Prop
  | mk (σ' : St) (v : AV) (fps' : List (List Addr)) (q : R X.C D g σ' fps' s') (e : Fext fps fps') (h : v.At D.z fps' r) (p : Ψ σ' v)
noncomputable def EvX (X : Cx) (n : Nat) (D : FD) (σ : St) (e : Expr) (Ψ : St → AV → Prop) : Prop :=
  ∀ A g fps s, AOk A n → R X.C D g σ fps s → wpF X A (eval e D.env) (fun r s' => XP X D g fps Ψ r s') s
theorem Ex.assignX {x : Str} {p pos : Pos} {e : Expr} {Ψ : St → AV → Prop} (h : EvX X n D σ e Ψ) (hk : isOwnVar D x = true) (hr : ∀ σ' v, Ψ σ' v → Ex X n D rest ⟨(x, v) :: σ'.loc, σ'.hp⟩ Φ)
    (hs : swapsWith e (some (.Name x p)) pos.line D.env = pure false := by rfl) : Ex X n D (.Assign [.Name x p] e pos :: rest) σ Φ := Ex.cons fun A g fps s hA q =>
  wpAny_Assign_Name (wpF_mono (h A g fps s hA q) fun r s1 hqp => by obtain ⟨σ', v, fps', q1, e1, hv, hΨ⟩ := hqp; exact q1.store hk hv fun s2 q2 => ⟨.next, _, fps', q2, e1, rfl, hr σ' v hΨ⟩) hs
theorem Ex.assignPl {x : Str} {p pp pos : Pos} {es : List Expr} {ds : List DV} (h : EvOs X n D σ es ds) (hsc : ∀ d ∈ ds, d.sc = true) (hk : isOwnVar D x = true) (hr : Ex X n D rest ⟨(x, .ref σ.hp.length) :: σ.loc, σ.hp ++ [.pl ds]⟩ Φ) (hz : ds.length ≤ sizeLine := by decide)
    (hs : swapsWith (.List es pp) (some (.Name x p)) pos.line D.env = pure false := by rfl) : Ex X n D (.Assign [.Name x p] (.List es pp) pos :: rest) σ Φ := Ex.cons fun A g fps s hA q =>
  wpAny_Assign_Name (wpAny_List (wpF_mono (h pp A g fps s hA q) fun vs s1 ⟨k1, v1⟩ => ⟨by rw [v1.length]; exact hz, by
    have q1 := (q.ext k1).add (o := .pl ds) (fp := [s1.heap.objs.size]) (Kp.push s1 { cls := .type "list", data := .seq vs.toArray } s1.toks) (fun a ha => by rw [List.mem_singleton.mp ha]; exact fresh_push) (by simp)
      ⟨_, [], vs, rfl, ⟨0, Heap.get?_push_size _ rfl⟩, scs_rep v1 hsc⟩
    exact q1.store (v := .ref σ.hp.length) hk ⟨_, [], by rw [q.len, List.getElem?_append_right (Nat.le_refl _)]; simp, rfl⟩ fun s'' q2 => ⟨.next, _, _, q2, Fext.app _ _, rfl, hr⟩⟩)) hs
end
noncomputable def objAt (a : Addr) (o : Obj) : OSpec where
  P := fun h l => l = [a] ∧ h.get? a = some o
  mono := fun hqp k => by obtain ⟨e, h1⟩ := hqp; exact ⟨e, k _ (by simp [e]) _ h1⟩
  alive := fun hqp b hb => by obtain ⟨e, h1⟩ := hqp; subst e; rw [List.mem_singleton.mp hb]; exact ⟨_, h1⟩
noncomputable def strAt (f : Addr) (ob : Obj) (v : Value) : OSpec where
  P := fun h l => ∃ d, l = [f, d] ∧ h.get? f = some { ob with dict := some d } ∧ h.Ns1 d (fun y => if y = Str.ofString "read" then some v else none)
  mono := by
    rintro h h' fp ⟨d, rfl, h1, h2⟩ k
    exact ⟨d, rfl, k _ (by (exact .head _)) _ h1, Heap.Ns1.at h2 (k _ (by (exact .tail _ (.head _))))⟩
  alive := by
    rintro h fp ⟨d, rfl, h1, ⟨o, _, _, ho, _⟩⟩ b hb
    revert hb; revert b; refine all2 ?_ ?_
    · exact ⟨_, h1⟩
    · exact ⟨o, ho⟩
noncomputable def tabS (P : Addr) (ps : Array Value) (cs : List (Addr × Str)) : OSpec where
  P := fun h l => l = P :: cs.map (·.1) ∧ h.get? P = some (PySem.W.tabObj ps) ∧ ∀ c ∈ cs, h.CodeRec (.ref c.1) c.2
  mono := by
    rintro h h' fp ⟨rfl, h1, h2⟩ k
    exact ⟨rfl, k _ (by (exact .head _)) _ h1, fun c hc => Heap.CodeRec.at (h2 c hc) (k _ (List.mem_cons_of_mem _ (List.mem_map_of_mem hc)))⟩
  alive := by
    rintro h fp ⟨rfl, h1, h2⟩ b hb
    rcases List.mem_cons.mp hb with rfl | hb
    · exact ⟨_, h1⟩
    · obtain ⟨c, hc, rfl⟩ := List.mem_map.mp hb
      refine Classical.byContradiction fun hnx => ?_
      (obtain ⟨c', o, _, _, e, ho, _⟩ := h2 c hc) <;> (refine hnx ?_; clear hnx)
      cases e; exact ⟨o, ho⟩
end Mine
end
section
open PySem PySem.Calls PyProof.Rows
set_option maxRecDepth 100000
namespace Mine
theorem R.slot0 {C : Gl} {D : FD} {g s : Shared} {σ : St} {fps : List (List Addr)} (q : R C D g σ fps s) {k : Nat} {o : AObj} (ho : σ.hp[k]? = some o) : ∃ f, fps[k]? = some f ∧ Rep s.heap o f := by
  have hk : k < fps.length := q.len ▸ (List.getElem?_eq_some_iff.mp ho).1
  exact ⟨_, List.getElem?_eq_getElem hk, q.obj k _ _ ho (List.getElem?_eq_getElem hk)⟩
theorem R.addObj {C : Gl} {D : FD} {g s : Shared} {σ : St} {fps : List (List Addr)} (q : R C D g σ fps s) {h' : Heap} {tk : Nat} {ob : Obj} (hk : ∀ b o, s.heap.get? b = some o → h'.get? b = some o) (hsz : s.heap.objs.size ≤ h'.objs.size) (hf : ob.isFreed = false) :
    R C D g ⟨σ.loc, σ.hp ++ [.other (objAt h'.objs.size ob)]⟩ (fps ++ [[h'.objs.size]]) { s with heap := h'.push ob, toks := tk } :=
  q.add (s' := { s with heap := h'.push ob, toks := tk }) (o := .other (objAt h'.objs.size ob)) (fp := [h'.objs.size]) (Kp.of_heap fun b o e => Heap.get?_push_of_some _ (hk b o e)) (fun a ha => by rw [List.mem_singleton.mp ha]; exact Heap.get?_none_of_le hsz) (by simp)
    ⟨rfl, Heap.get?_push_size _ hf⟩
theorem R.mkFirst {C : Gl} {D : FD} {g s : Shared} {σ : St} {fps : List (List Addr)} (q : R C D g σ fps s) {P : Addr} {ps new : Array Value} {cs0 : List (Addr × Str)} (ho : σ.hp[0]? = some (.other (tabS P ps cs0))) {c' : Addr} {qual : Str} {h' : Heap} {tk : Nat} {ob : Obj}
    (hx : Heap.ExtBut P s.heap h') (hge : s.heap.objs.size ≤ c') (hlt : c' < h'.objs.size) (hrec : h'.CodeRec (.ref c') qual) (htb : h'.get? P = some (PySem.W.tabObj new)) (hf : ob.isFreed = false) :
    RX C D g fps ⟨σ.loc, σ.hp.set 0 (.other (tabS P new (cs0 ++ [(c', qual)]))) ++ [.other (objAt h'.objs.size ob)]⟩ { s with heap := h'.push ob, toks := tk } := by
  refine Classical.byContradiction fun hnx => ?_
  (obtain ⟨f, e1, hP, h1, h2⟩ := q.slot0 ho) <;> (refine hnx ?_; clear hnx)
  subst hP
  have hnd := q.nodupAt e1
  have hPn : ∀ c ∈ cs0, c.1 ≠ P := fun c hc e => (List.nodup_cons.mp hnd).1 (e ▸ List.mem_map_of_mem hc)
  have hown : ∀ b ∈ ownOf D fps, b < s.heap.objs.size := fun b hb => by obtain ⟨o, e⟩ := q.alive b hb; exact Heap.lt_size e
  have hPs : P < s.heap.objs.size := Heap.lt_size h1
  have hcn : c' ∉ ownOf D fps := fun hm => absurd (hown _ hm) (Nat.not_lt.mpr hge)
  have hgn : g.heap.get? c' = none := fresh_of_kp q.keep (Heap.get?_none_of_le hge)
  have q1 : R C D g ⟨σ.loc, σ.hp.set 0 (.other (tabS P new (cs0 ++ [(c', qual)])))⟩ (fps.set 0 (P :: (cs0.map (·.1) ++ [c']))) { s with heap := h', toks := tk } := by
    refine q.upd (a₀ := P) (fp := cs0.map (·.1)) e1 (KpB.of_heap fun b o hb e => hx b o (fun h => hb (by simp [h])) e) (fun a ha => ?_) ?_ ?_
    · rcases List.mem_append.mp ha with ha | ha
      · exact .inl ha
      · rw [List.mem_singleton.mp ha]; exact .inr ⟨hcn, hgn⟩
    · have : (P :: cs0.map (·.1)) ++ [c'] = P :: (cs0.map (·.1) ++ [c']) := rfl
      rw [← this]
      refine List.nodup_append.mpr ⟨hnd, by simp, fun a ha b hb e => ?_⟩
      rw [List.mem_singleton.mp hb] at e
      subst e
      exact hcn (own_fps (mem_flatten_get e1 ha))
    · refine ⟨by simp, htb, fun c hc => ?_⟩
      rcases List.mem_append.mp hc with hc | hc
      · exact Heap.CodeRec.at (h2 c hc) (fun o e => hx _ o (hPn c hc) e)
      · rw [List.mem_singleton.mp hc]; exact hrec
  exact ⟨_, q1.addObj (h' := h') (tk := tk) (ob := ob) (fun _ _ e => e) (Nat.le_refl _) hf, (Fext.set e1).trans (Fext.app _ _)⟩
inductive MkP (X : Cx) (D : FD) (g : Shared) (fps : List (List Addr)) (σ : St) (T' : Addr → OSpec) (G : Addr → Prop) (Ω : Addr → Obj → Prop) (r : Value) (s' : Shared) : Prop
  | mk (c' f : Addr) (ob : Obj) (fps' : List (List Addr)) (h1 : G c') (h2 : Ω c' ob) (h3 : r = .ref f) (q : R X.C D g ⟨σ.loc, σ.hp.set 0 (.other (T' c')) ++ [.other (objAt f ob)]⟩ fps' s') (e : Fext fps fps')
noncomputable def MkF (X : Cx) (n : Nat) (D : FD) (mk : Sem Value) (T : OSpec) (T' : Addr → OSpec) (G : Addr → Prop) (Ω : Addr → Obj → Prop) : Prop :=
  ∀ A g fps s σ, AOk A n → R X.C D g σ fps s → σ.hp[0]? = some (.other T) → wpF X A mk (fun r s' => MkP X D g fps σ T' G Ω r s') s
noncomputable def DefOb (name qual : Str) (params : Arguments) (body : List Stmt) (scope : Scope) (clo : List (Str × Addr)) (c' : Addr) (ob : Obj) : Prop := ∃ doc pm ctv, ob = PySem.W.fnMade name qual params body scope clo doc pm c' ctv
noncomputable def LamOb (name qual : Str) (params : Arguments) (body : Expr) (scope : Scope) (clo : List (Str × Addr)) (c' : Addr) (ob : Obj) : Prop := ∃ pm ctv, ob = PySem.W.kla_obj name qual params body scope clo pm c' ctv
structure MkG (X : Cx) (c P : Addr) : Prop where
  code : ∀ h, Bs X.C h → PySem.W.CodeHd h c P
  bi : ∀ h mg, Bs X.C h → h.Ns mainGlobals mg → h.BuiltinsAt mg P
section
variable {X : Cx} {n : Nat} {D : FD} {c P : Addr} {ps : Array Value} {cs0 : List (Addr × Str)} {name qual : Str} {params : Arguments} {scope : Scope} {clo : List (Str × Addr)} {pos : Pos} {fl : Nat}
theorem gP {C : Gl} {h : Heap} (hb : Bs C h) {o : Obj} (hP : h.get? P = some o) (ho : o = PySem.W.tabObj ps) : mainGlobals ≠ P := by
  obtain ⟨mg, mb, ⟨og, es, ep, e, hd, _⟩, _⟩ := hb.glob
  intro h
  rw [h, hP, ho] at e
  obtain rfl := Option.some.inj e; cases hd
theorem mkDef_first {body : List Stmt} (hG : MkG X c P) (hcode : D.env.code = .ref c) (hcl : closureFor scope D.env = pure clo) (hnf : codeAmong pos ps.toList = none) (ht : TriplesOk ps.toList) :
    MkF X n D (makeFunction name qual params (.stmts body) scope D.env [] [] [] pos fl) (tabS P ps cs0) (fun c' => tabS P (ps ++ #[rawInt pos.line, rawInt pos.col, .ref c']) (cs0 ++ [(c', qual)])) (fun _ => True) (DefOb name qual params body scope clo) := by
  intro A g fps s σ hA q ho
  obtain ⟨f, e1, hP, h1, h2⟩ := q.slot0 ho
  obtain ⟨mg, mb, hg, _, _⟩ := q.z.glob
  refine PySem.W.makeFunction_K (mg := mg) hcl q.eg hg hcode (hG.code _ q.z) h1 ht hnf (gP q.z h1 rfl) (hG.bi _ _ q.z hg) fun c' ctv doc h' tk hx hge hlt hrec htb => ?_
  obtain ⟨fps', q1, e1⟩ := q.mkFirst (tk := tk) (ob := PySem.W.fnMade name qual params body scope clo doc ((mg "__name__").getD .none) c' ctv) ho hx hge hlt hrec htb rfl
  exact ⟨c', _, _, fps', trivial, ⟨_, _, _, rfl⟩, rfl, q1, e1⟩
theorem mkDef_hit {body : List Stmt} {r : Addr} (hG : MkG X c P) (hcode : D.env.code = .ref c) (hcl : closureFor scope D.env = pure clo) (hf : codeAmong pos ps.toList = some (.ref r)) (ht : TriplesOk ps.toList) :
    MkF X n D (makeFunction name qual params (.stmts body) scope D.env [] [] [] pos fl) (tabS P ps cs0) (fun _ => tabS P ps cs0) (fun c' => c' = r) (DefOb name qual params body scope clo) := by
  intro A g fps s σ hA q ho
  obtain ⟨f, e1, hP, h1, h2⟩ := q.slot0 ho
  obtain ⟨mg, mb, hg, _, _⟩ := q.z.glob
  refine PySem.W.makeFunction_hit (mg := mg) hcl q.eg hg hcode (hG.code _ q.z) h1 ht hf (hG.bi _ _ q.z hg) fun ctv doc h' tk hk hsz => ?_
  refine ⟨r, _, _, fps ++ [[h'.objs.size]], rfl, ⟨doc, (mg "__name__").getD .none, ctv, rfl⟩, rfl, ?_, Fext.app _ _⟩
  have := q.addObj (tk := tk) (ob := PySem.W.fnMade name qual params body scope clo doc ((mg "__name__").getD .none) r ctv) hk hsz rfl
  show R X.C D g ⟨σ.loc, σ.hp.set 0 (.other (tabS P ps cs0)) ++ _⟩ _ _
  rw [PySem.W.X.set_same ho]
  exact this
theorem mkLam_first {body : Expr} (hG : MkG X c P) (hcode : D.env.code = .ref c) (hcl : closureFor scope D.env = pure clo) (hnf : codeAmong pos ps.toList = none) (ht : TriplesOk ps.toList) :
    MkF X n D (makeFunction name qual params (.expr body) scope D.env [] [] [] pos fl) (tabS P ps cs0) (fun c' => tabS P (ps ++ #[rawInt pos.line, rawInt pos.col, .ref c']) (cs0 ++ [(c', qual)])) (fun _ => True) (LamOb name qual params body scope clo) := by
  intro A g fps s σ hA q ho
  obtain ⟨f, e1, hP, h1, h2⟩ := q.slot0 ho
  refine Classical.byContradiction fun hnx => ?_
  (obtain ⟨mg, mb, hg, _, _⟩ := q.z.glob) <;> (refine hnx ?_; clear hnx)
  refine PySem.W.kla_makeFunction (mg := mg) hcl q.eg hg hcode (hG.code _ q.z) h1 ht hnf (gP q.z h1 rfl) (hG.bi _ _ q.z hg) fun c' ctv h' tk hx hge hlt hrec htb => ?_
  refine Classical.byContradiction fun hnx => ?_
  (obtain ⟨fps', q1, e1⟩ := q.mkFirst (tk := tk) (ob := PySem.W.kla_obj name qual params body scope clo ((mg "__name__").getD .none) c' ctv) ho hx hge hlt hrec htb rfl) <;> (refine hnx ?_; clear hnx)
  exact ⟨c', _, _, fps', trivial, ⟨_, _, rfl⟩, rfl, q1, e1⟩
theorem mkLam_hit {body : Expr} {r : Addr} (hG : MkG X c P) (hcode : D.env.code = .ref c) (hcl : closureFor scope D.env = pure clo) (hf : codeAmong pos ps.toList = some (.ref r)) (ht : TriplesOk ps.toList) :
    MkF X n D (makeFunction name qual params (.expr body) scope D.env [] [] [] pos fl) (tabS P ps cs0) (fun _ => tabS P ps cs0) (fun c' => c' = r) (LamOb name qual params body scope clo) := by
  intro A g fps s σ hA q ho
  obtain ⟨f, e1, hP, h1, h2⟩ := q.slot0 ho
  refine Classical.byContradiction fun hnx => ?_
  (obtain ⟨mg, mb, hg, _, _⟩ := q.z.glob) <;> (refine hnx ?_; clear hnx)
  refine PySem.W.kla_makeFunctionHit (mg := mg) hcl q.eg hg hcode (hG.code _ q.z) h1 ht hf (hG.bi _ _ q.z hg) fun ctv h' tk hk hsz => ?_
  refine ⟨r, _, _, fps ++ [[h'.objs.size]], rfl, ⟨(mg "__name__").getD .none, ctv, rfl⟩, rfl, ?_, Fext.app _ _⟩
  have := q.addObj (tk := tk) (ob := PySem.W.kla_obj name qual params body scope clo ((mg "__name__").getD .none) r ctv) hk hsz rfl
  show R X.C D g ⟨σ.loc, σ.hp.set 0 (.other (tabS P ps cs0)) ++ _⟩ _ _
  rw [PySem.W.X.set_same ho]
  exact this
end
section
variable {X : Cx} {n : Nat} {D : FD} {σ : St} {Φ : AFl → St → Prop} {rest : List Stmt} {T : OSpec} {T' : Addr → OSpec} {G : Addr → Prop} {Ω : Addr → Obj → Prop}
theorem Ex.def_ {name : Str} {params : Arguments} {body : List Stmt} {scope : Scope} {pos : Pos} (hm : MkF X n D (makeFunction name (qualnameIn D.env name name) params (.stmts body) scope D.env [] [] [] pos pos.line) T T' G Ω) (h0 : σ.hp[0]? = some (.other T)) (hk : isOwnVar D name = true)
    (hr : ∀ c' f ob, G c' → Ω c' ob → Ex X n D rest ⟨(name, .raw (.ref f)) :: σ.loc, σ.hp.set 0 (.other (T' c')) ++ [.other (objAt f ob)]⟩ Φ) (hd0 : params.defaults = [] := by rfl) (hk0 : params.kw_defaults = [] := by rfl) (ha : annTrees params none D.env = [] := by rfl) :
    Ex X n D (.FunctionDef name params body [] none [] scope none name pos :: rest) σ Φ := Ex.cons fun A g fps s hA q => by
  refine PySem.W.nestDef_K hd0 hk0 ha (wpF_mono (hm A g fps s σ hA q h0) fun r s1 hq1 => ?_)
  refine Classical.byContradiction fun hnx => ?_
  (obtain ⟨c', f, ob, fps', hg, ho, hr1, q1, e1⟩ := hq1) <;> (refine hnx ?_; clear hnx)
  subst hr1
  exact q1.store (v := .raw (.ref f)) hk rfl fun s2 q2 => ⟨.next, _, _, q2, e1, rfl, hr c' f ob hg ho⟩
theorem Ex.lam_ {x : Str} {p : Pos} {params : Arguments} {body : Expr} {scope : Scope} {pos pos' : Pos} (hm : MkF X n D (makeFunction "<lambda>" (D.env.qual ++ "<lambda>") params (.expr body) scope D.env [] [] [] pos pos.line) T T' G Ω) (h0 : σ.hp[0]? = some (.other T)) (hk : isOwnVar D x = true)
    (hr : ∀ c' f ob, G c' → Ω c' ob → Ex X n D rest ⟨(x, .raw (.ref f)) :: σ.loc, σ.hp.set 0 (.other (T' c')) ++ [.other (objAt f ob)]⟩ Φ) (hd0 : defaultsOf params D.env = ([], []) := by rfl)
    (hs : swapsWith (.Lambda params body scope pos) (some (.Name x p)) pos'.line D.env = pure false := by rfl) :
    Ex X n D (.Assign [.Name x p] (.Lambda params body scope pos) pos' :: rest) σ Φ := Ex.cons fun A g fps s hA q => by
  refine wpAny_Assign_Name (PySem.W.kla_eval hd0 (wpF_mono (hm A g fps s σ hA q h0) fun r s1 hq2 => ?_)) hs
  obtain ⟨c', f, ob, fps', hg, ho, hr1, q1, e1⟩ := hq2
  subst hr1
  exact q1.store (v := .raw (.ref f)) hk rfl fun s2 q2 => ⟨.next, _, _, q2, e1, rfl, hr c' f ob hg ho⟩
theorem Ex.setRead {x y : Str} {px pt py pos : Pos} {k : Nat} {f : Addr} {ob : Obj} {fd : FuncData} {v : Value} (hl : σ.loc.lookup x = some (.raw (.ref f))) (hk : isVar D x = true) (ho : σ.hp[k]? = some (.other (objAt f ob))) (hc : ob.cls = .type "function") (hd : ob.dict = none) (hdat : ob.data = .func fd)
    (hly : σ.loc.lookup y = some (.raw v)) (hky : isVar D y = true) (hr : Ex X n D rest ⟨σ.loc, σ.hp.set k (.other (strAt f ob v))⟩ Φ)
    (hs : swapsWith (.Name y py) (some (.Attribute (.Name x px) (Str.ofString "read") pt)) pos.line D.env = pure false := by rfl) :
    Ex X n D (.Assign [.Attribute (.Name x px) (Str.ofString "read") pt] (.Name y py) pos :: rest) σ Φ := Ex.cons fun A g fps s hA q => by
  refine plainObj_wpAny_Assign_Attribute (wpF_mono (EvA.name hly hky A g fps s hA q) fun w s1 ⟨k1, hv⟩ => wpF_mono (EvA.name hl hk A g fps s1 hA (q.ext k1)) fun r s2 hq3 => ?_) hs
  obtain ⟨k2, hr1⟩ := hq3
  have hv : w = v := hv
  have hr1 : r = .ref f := hr1
  subst hv hr1
  have q2 := (q.ext k1).ext k2
  refine Classical.byContradiction fun hnx => ?_
  (obtain ⟨fp, e1, e2, h1⟩ := q2.slot0 ho) <;> (refine hnx ?_; clear hnx)
  subst e2
  refine fn_setattr h1 hc hd hdat fun h' tk i1 i2 i3 => ?_
  have hfs : f < s2.heap.objs.size := Heap.lt_size h1
  exact ⟨.next, _, _, q2.upd (o := .other (strAt f ob w)) (fp' := [s2.heap.objs.size]) e1 (KpB.of_heap fun b o hb e => i3 b o (fun h => hb (by simp [h])) e)
    (fun b hb => .inr (by
      rw [List.mem_singleton.mp hb]
      exact ⟨fun hm => (by obtain ⟨o, e⟩ := q2.alive _ hm; exact absurd (Heap.lt_size e) (Nat.lt_irrefl _)), fresh_of_kp q2.keep fresh_push⟩))
    (by simp; exact Nat.ne_of_lt hfs) ⟨_, rfl, i1, i2⟩, Fext.set e1, rfl, hr⟩
end
end Mine
end
section
open PySem PySem.Calls PyProof.Rows
set_option maxRecDepth 100000
namespace Mine
noncomputable def lamE (s : Stmt) : Expr := (sParts s).2.2.2.2.2.1
noncomputable def lamP (e : Expr) : Arguments := (eParts e).2.1
noncomputable def lamB (e : Expr) : Expr := (eParts e).2.2.1
noncomputable def lamS (e : Expr) : Scope := (eParts e).2.2.2.1
noncomputable def lamPos (e : Expr) : Pos := (eParts e).2.2.2.2
noncomputable def dPos (s : Stmt) : Pos := (sParts s).2.2.2.2.2.2
noncomputable def lamX : Expr := lamE (stN (dBody (topS iStream)) 2)
noncomputable def strQ : Str := dName (topS iStream) ++ Str.ofString ".<locals>."
noncomputable def readQ : Str := strQ ++ Str.ofString "_law_read"
noncomputable def mkRead (D : FD) : Sem Value := makeFunction (Str.ofString "_law_read") (qualnameIn D.env (Str.ofString "_law_read") (Str.ofString "_law_read")) (dParams readSt) (.stmts (dBody readSt)) (dScope readSt) D.env [] [] [] (dPos readSt) (dPos readSt).line
noncomputable def mkLam (D : FD) : Sem Value := makeFunction "<lambda>" (D.env.qual ++ "<lambda>") (lamP lamX) (.expr (lamB lamX)) (lamS lamX) D.env [] [] [] (lamPos lamX) (lamPos lamX).line
noncomputable def readClo (k1 k2 : Addr) : List (Str × Addr) := [(Str.ofString "text", k2), (Str.ofString "place", k1)]
noncomputable def ReadOb (k1 k2 : Addr) : Addr → Obj → Prop := DefOb (Str.ofString "_law_read") readQ (dParams readSt) (dBody readSt) (dScope readSt) (readClo k1 k2)
noncomputable def IsLamOb (ob : Obj) : Prop := ∃ fd, ob.cls = .type "function" ∧ ob.dict = none ∧ ob.data = .func fd
inductive StrmB (T2 : Addr → Addr → OSpec) (G1 : Addr → Prop) (G2 : Addr → Addr → Prop) (L : Addr) (t : Str) (fl : AFl) (σ' : St) : Prop
  | mk (e : fl = .next) (c1 c2 g f : Addr) (ob obs : Obj) (g1 : G1 c1) (g2 : G2 c1 c2) (o1 : ReadOb (L + 2) (L + 1) c1 ob) (o2 : IsLamOb obs) (hp : σ'.hp = [.other (T2 c1 c2), .pl [.int 0], .other (objAt g ob), .other (strAt f obs (.ref g))])
    (l1 : σ'.loc.lookup (Str.ofString "stream") = some (.raw (.ref f))) (l2 : σ'.loc.lookup (Str.ofString "text") = some (.dv (.str t))) (l3 : σ'.loc.lookup (Str.ofString "place") = some (.ref 1))
section
variable {X : Cx} {n : Nat} {aS : Addr} {pm cd doc : Value}
noncomputable abbrev strE (pm cd doc : Value) (L a : Addr) : Env := callEnvC (dFd (topS iStream) pm cd doc) L a
theorem stream_body {D : FD} {L : Addr} (hE : D.env = strE pm cd doc L aS) (hoc : D.oc = [Str.ofString "text", Str.ofString "place"]) {T0 : OSpec} {T1 : Addr → OSpec} {T2 : Addr → Addr → OSpec} {G1 : Addr → Prop} {G2 : Addr → Addr → Prop} {Ω2 : Addr → Obj → Prop} (hΩ : ∀ c ob, Ω2 c ob → IsLamOb ob)
    (m1 : MkF X n D (mkRead D) T0 T1 G1 (ReadOb (L + 2) (L + 1))) (m2 : ∀ c1, G1 c1 → MkF X n D (mkLam D) (T1 c1) (T2 c1) (G2 c1) Ω2) (t : Str) :
    Ex X n D ((dBody (topS iStream)).take 4) ⟨[(Str.ofString "text", .dv (.str t))], [.other T0]⟩ (StrmB T2 G1 G2 L t) := by
  have kk : ∀ x, D.env.kindOf x = (dScope (topS iStream)).names.lookup x := fun x => by rw [hE]; rfl
  have k1 : isOwnVar D (Str.ofString "place") = true := by unfold isOwnVar; rw [kk, hoc]; decide
  have k2 : isOwnVar D (Str.ofString "_law_read") = true := by unfold isOwnVar; rw [kk, hoc]; decide
  have k3 : isOwnVar D (Str.ofString "stream") = true := by unfold isOwnVar; rw [kk, hoc]; decide
  have v2 : isVar D (Str.ofString "_law_read") = true := by unfold isVar; rw [kk]; decide
  have v3 : isVar D (Str.ofString "stream") = true := by unfold isVar; rw [kk]; decide
  refine Ex.assignPl (ds := [.int 0]) (EvOs.cons EvO.int.toO EvOs.nil) (sc_all rfl) k1 ?_
  refine Ex.def_ m1 rfl k2 fun c1 g ob g1 o1 => ?_
  refine Ex.lam_ (m2 c1 g1) rfl k3 fun c2 f obs g2 o2 => ?_
  refine Classical.byContradiction fun hnx => ?_
  (obtain ⟨fd, h1, h2, h3⟩ := hΩ c2 obs o2) <;> (refine hnx ?_; clear hnx)
  refine Ex.setRead (k := 3) (f := f) (ob := obs) (v := .ref g) rfl v3 rfl h1 h2 h3 rfl v2 (Ex.nil ⟨rfl, c1, c2, g, f, ob, obs, g1, g2, o1, ⟨fd, h1, h2, h3⟩, rfl, rfl, rfl, rfl⟩)
end
end Mine
end
section
open PySem PySem.Calls PyProof.Rows
set_option maxRecDepth 100000
namespace Mine
structure StrmI (c1 : Addr) (h : Heap) (t : Str) (f d g k1 k2 pl : Addr) : Prop where
  strm : StrmO h f d g
  read : RdAt (readK (.ref c1) readQ) h g k1 k2
  cell1 : h.IsCell k1 (some (.ref pl))
  cell2 : ∃ tk, h.IsCell k2 (some (.str t tk))
  place : ∃ tk, h.PlainList pl #[.int 0 tk]
inductive StrmP (G1 : Addr → Prop) (G2 : Addr → Addr → Prop) (T2 : Addr → Addr → OSpec) (P : Addr) (t : Str) (s : Shared) (r : Value) (s' : Shared) : Prop
  | mk (c1 c2 f d g k1 k2 pl : Addr) (fpT : List Addr) (g1 : G1 c1) (g2 : G2 c1 c2) (e : r = .ref f) (k : KpB [P] [] s s') (p : (T2 c1 c2).P s'.heap (P :: fpT)) (i : StrmI c1 s'.heap t f d g k1 k2 pl) (nd : ((P :: fpT) ++ [f, d, g, k1, k2, pl]).Nodup)
    (fr : ∀ b ∈ fpT ++ [f, d, g, k1, k2, pl], s.heap.get? b = none)
section
variable {X : Cx} {n : Nat} {aS : Addr} {pm cd doc : Value}
noncomputable def strD (pm cd doc : Value) (aS L : Addr) (z : Heap) : FD := ⟨strE pm cd doc L aS, [L + 2, L + 1], [Str.ofString "text", Str.ofString "place"], z⟩
theorem stream_call (hf : FnAt X aS (topS iStream) pm cd doc) {P : Addr} {T0 : OSpec} {T1 : Addr → OSpec} {T2 : Addr → Addr → OSpec} {G1 : Addr → Prop} {G2 : Addr → Addr → Prop} {Ω2 : Addr → Obj → Prop} (hΩ : ∀ c ob, Ω2 c ob → IsLamOb ob)
    (m1 : ∀ L z, MkF X n (strD pm cd doc aS L z) (mkRead (strD pm cd doc aS L z)) T0 T1 G1 (ReadOb (L + 2) (L + 1))) (m2 : ∀ L z c1, G1 c1 → MkF X n (strD pm cd doc aS L z) (mkLam (strD pm cd doc aS L z)) (T1 c1) (T2 c1) (G2 c1) Ω2) {t : Str}
    {A : Around} {s : Shared} {z : Heap} {r : Value} (hA : AOk A (n + 1)) (hb : Bs X.C z) (hzs : ∀ b o, z.get? b = some o → s.heap.get? b = some o) (hbare : AllBare s.gens) (hP : z.get? P = none) (hT : T0.P s.heap [P]) (hr : VR s.heap (.str t) r) :
    wpF X A (call (.ref aS) [r]) (fun r s' => StrmP G1 G2 T2 P t s r s') s := by
  refine Classical.byContradiction fun hnx => ?_
  (obtain ⟨⟨o, h1, h2⟩, h3⟩ := hf) <;> (refine hnx ?_; clear hnx)
  have hbs := hb.keeps hzs
  refine wpAny_call (codeAny_call_cells hA.room (hbs.held _ h1) h2 hbs.nolim (h3 _ hbs) rfl (binds := [Str.ofString "text"].zip [r]) rfl rfl (fun y hy => .inr ?_) (fun s₁ xc => ?_) rfl rfl rfl)
  · simp at hy
    subst hy
    exact ⟨(by decide : (dScope (topS iStream)).names.lookup (Str.ofString "text") = some .cell), cells_has _ _ _ _ (by decide : (Str.ofString "text", NameKind.cell) ∈ (dScope (topS iStream)).names)⟩
  · have q0 := R.start (fd := dFd (topS iStream) pm cd doc) (a := aS) (names := [Str.ofString "text"]) (ds := [.str t]) hbs hbare (VRs.cons hr VRs.nil) rfl rfl rfl (by decide : ∀ x ∈ (dScope (topS iStream)).names, x.2 ≠ .free) (by decide : ((dScope (topS iStream)).names.map (·.1)).Nodup) xc
    generalize hL : s.heap.objs.size = L at q0 ⊢
    have q0 : R X.C ⟨strE pm cd doc L aS, [L + 2, L + 1], [Str.ofString "text", Str.ofString "place"], s.heap⟩ s ⟨[(Str.ofString "text", .dv (.str t))], []⟩ [] s₁ := q0
    have q1 := R.takeOverC (o := .other T0) (fp := [P]) q0 hb hzs (fun y c e => .inl (by
      have e : ([(Str.ofString "place", L + 2), (Str.ofString "text", L + 1)] : List (Str × Addr)).lookup y = some c := e
      have := mem_of_lookup e
      simp at this
      rcases this with ⟨_, rfl⟩ | ⟨_, rfl⟩ <;> (first | exact .head _ | exact .tail _ (.head _)))) (fun y v e => .inl (by
        have := mem_of_lookup e
        simp at this
        obtain ⟨rfl, rfl⟩ := this
        exact ⟨_, rfl, rfl⟩)) (fun b hb => by rw [List.mem_singleton.mp hb]; exact hP) (by simp) hT
    have q1 : R X.C (strD pm cd doc aS L z) (ghost s [P]) ⟨[(Str.ofString "text", .dv (.str t))], [.other T0]⟩ [[P]] s₁ := q1
    have kk : ∀ x, (strD pm cd doc aS L z).env.kindOf x = (dScope (topS iStream)).names.lookup x := fun x => rfl
    show wpAny _ _ (execs (dBody (topS iStream)) _) _ _ _
    rw [← List.take_append_drop 4 (dBody (topS iStream))]
    refine wpAny_e (execs_cross (Q := fun f s' => ∃ v, f = .ret v ∧ StrmP G1 G2 T2 P t s v s') (wpF_mono (stream_body (D := strD pm cd doc aS L z) (L := L) rfl rfl hΩ (m1 L z) (m2 L z) t _ _ _ _ (hA.deeper _) q1) fun f' s2 ⟨fl, σ', fps', q2, e2, r2, hfl, c1, c2, g, f, ob, obs, g1, g2, o1, o2, hhp, hl1, hl2, hl3⟩ => ?_)) fun f s2 ⟨v, hf, x⟩ => ?_
    · subst hfl
      have r2 : f' = .next := r2
      subst r2
      refine ⟨rfl, wpAny_execs_cons (wpAny_Return_some (wpF_mono (EvA.name (X := X) (n := n) hl1 (by unfold isVar; rw [kk]; decide) _ _ _ _ (hA.deeper _) q2) fun w s3 hq1 => ?_))⟩
      obtain ⟨k3, hw⟩ := hq1
      have hw : w = .ref f := hw
      subst hw
      have q3 := q2.ext k3
      refine Classical.byContradiction fun hnx => ?_
      (obtain ⟨fpT, e0⟩ := e2 0 P [] rfl) <;> (refine hnx ?_; clear hnx)
      refine Classical.byContradiction fun hnx => ?_
      (obtain ⟨σl, σh⟩ := σ') <;> (refine hnx ?_; clear hnx)
      have hhp : σh = _ := hhp
      subst hhp
      have p0 := q3.obj 0 _ _ rfl e0
      refine Classical.byContradiction fun hnx => ?_
      (obtain ⟨f1, e1, p1⟩ := q3.slot0 (k := 1) rfl) <;> (refine hnx ?_; clear hnx)
      refine Classical.byContradiction fun hnx => ?_
      (obtain ⟨f2, e2', p2⟩ := q3.slot0 (k := 2) rfl) <;> (refine hnx ?_; clear hnx)
      refine Classical.byContradiction fun hnx => ?_
      (obtain ⟨f3, e3, p3⟩ := q3.slot0 (k := 3) rfl) <;> (refine hnx ?_; clear hnx)
      refine Classical.byContradiction fun hnx => ?_
      (obtain ⟨pl, fp1, vs, rfl, hpl, hvs⟩ := p1) <;> (refine hnx ?_; clear hnx)
      refine Classical.byContradiction fun hnx => ?_
      (obtain ⟨rv, rvs, fa, fb, rfl, rfl, ⟨⟨tk, rfl⟩, rfl⟩, rfl, rfl⟩ := hvs) <;> (refine hnx ?_; clear hnx)
      obtain ⟨rfl, hg2⟩ := p2
      obtain ⟨d, rfl, hf3, hd3⟩ := p3
      have hfps : fps' = [P :: fpT, [pl], [g], [f, d]] := four_at q3.len.symm e0 e1 e2' e3
      subst hfps
      obtain ⟨ct, rt, ht1, ht2, fpt, ⟨tkt, ht3⟩, _⟩ := q3.cel (Str.ofString "text") _ hl2 (.inl (by rw [kk]; decide))
      obtain ⟨cp, rp, hp1, hp2, ap, fpp, hp3, hp4⟩ := q3.cel (Str.ofString "place") _ hl3 (.inl (by rw [kk]; decide))
      have ht1 : some (L + 1) = some ct := ht1
      have hp1 : some (L + 2) = some cp := hp1
      obtain rfl := Option.some.inj ht1; cases hp1
      simp at hp3
      obtain ⟨rfl, rfl⟩ := hp3
      subst hp4
      refine Classical.byContradiction fun hnx => ?_
      (obtain ⟨docv, pmv, ctv, hob⟩ := o1) <;> (refine hnx ?_; clear hnx)
      subst hob
      refine Classical.byContradiction fun hnx => ?_
      (obtain ⟨fd, of1, of2, of3⟩ := o2) <;> (refine hnx ?_; clear hnx)
      have hnd := q3.nd
      have hnd : (L :: ([L + 2, L + 1] ++ ([P :: fpT, [pl], [g], [f, d]] : List (List Addr)).flatten)).Nodup := hnd
      have hp : List.Perm ([L + 2, L + 1] ++ ([P :: fpT, [pl], [g], [f, d]] : List (List Addr)).flatten) ((P :: fpT) ++ [f, d, g, L + 2, L + 1, pl]) := by
        dsimp only [List.flatten_cons, List.flatten_nil, List.append_nil]
        refine List.perm_append_comm.trans ?_
        rw [List.append_assoc]
        refine List.Perm.append_left _ ?_
        show List.Perm [pl, g, f, d, L + 2, L + 1] [f, d, g, L + 2, L + 1, pl]
        refine (List.perm_append_comm (l₁ := [pl, g]) (l₂ := [f, d, L + 2, L + 1])).trans ?_
        refine List.Perm.cons _ (List.Perm.cons _ ?_)
        show List.Perm ([L + 2, L + 1] ++ [pl, g]) ([g] ++ ([L + 2, L + 1] ++ [pl]))
        refine List.Perm.trans ?_ List.perm_append_comm
        rw [List.append_assoc]
        exact List.Perm.append_left _ (List.Perm.refl _)
      have hnd2 := hp.nodup_iff.mp (List.nodup_cons.mp hnd).2
      have hsub : ∀ b ∈ fpT ++ [f, d, g, L + 2, L + 1, pl], b ≠ P ∧ b ∈ ownOf (strD pm cd doc aS L z) [P :: fpT, [pl], [g], [f, d]] := fun b hb =>
        ⟨fun h => (List.nodup_cons.mp hnd2).1 (h ▸ hb), List.mem_cons_of_mem _ (hp.mem_iff.mpr (List.mem_cons_of_mem _ hb))⟩
      refine ⟨.ref f, rfl, c1, c2, f, d, g, L + 2, L + 1, pl, fpT, g1, g2, rfl, ghost_kp q3.keep, p0, ⟨⟨_, fd, _, hf3, of1, of3, rfl, hd3.ns, by rfl⟩, ?_, hp2, ⟨tkt, ht3 ▸ ht2⟩, ⟨tk, hpl⟩⟩, ?_, fun b hb => ?_⟩
      · exact ⟨_, _, hg2, rfl, rfl, rfl, rfl, rfl, rfl, rfl, rfl, rfl, rfl, rfl, rfl, rfl, by refine all2 ?_ ?_ <;> simp⟩
      · exact hnd2
      · have h4 := q3.fresh b (hsub b hb).2
        rw [ghost_get] at h4
        split at h4
        · rename_i hm
          exact absurd (List.mem_singleton.mp hm) (hsub b hb).1
        · exact h4
    · subst hf
      exact x
end
end Mine
end
section
open PySem PySem.Calls PyProof.Rows
set_option maxRecDepth 100000
namespace Mine
theorem AOk.tc {A : Around} {n : Nat} (h : AOk A (n + 1)) (C f : Addr) : AOk (A.under (.builtin "type.__call__" ⟨[.ref C, .ref f], []⟩)) n := by
  have e1 : (Code.builtin "type.__call__" ⟨[.ref C, .ref f], []⟩).weight = 1 := by rfl
  have e2 : (Code.builtin "type.__call__" ⟨[.ref C, .ref f], []⟩).cUnits = 1 := by rfl
  refine ⟨h.1, ?_, ?_⟩
  · show A.depth + (Code.builtin "type.__call__" ⟨[.ref C, .ref f], []⟩).weight + n < 1000
    rw [e1]
    have := h.2.1; omega
  · show A.units + (Code.builtin "type.__call__" ⟨[.ref C, .ref f], []⟩).cUnits + 16 * n < 9000
    rw [e2]
    have := h.2.2; lia
section
variable {X : Cx} {K : LexK} {n : Nat}
theorem lex_new (hc : LexCls X K) {A : Around} {s : Shared} {f : Addr} (hA : AOk A (n + 2)) (hb : Bs X.C s.heap) (hbare : AllBare s.gens) :
    wpF X A (call (.ref K.C) [.ref f]) (fun r s' => ∃ x fp', r = .ref x ∧ Kp s s' ∧ (x :: fp').Nodup ∧ (∀ b ∈ x :: fp', s.heap.get? b = none) ∧ ∃ P, (∀ m, P m → mkAll f m) ∧ (madeS K P).P s'.heap (x :: fp')) s := by
  refine Classical.byContradiction fun hnx => ?_
  (obtain ⟨nm, q, bs, sn, sub, col, dd, k0, k1, k2, k3, k5, newId, hcl, hF⟩ := hc.cls) <;> (refine hnx ?_; clear hnx)
  refine Classical.byContradiction fun hnx => ?_
  (obtain ⟨oI, fdI, hI, hIc, hId⟩ := hc.fns K.fI (by (exact .tail _ (.tail _ (.tail _ (.head _)))))) <;> (refine hnx ?_; clear hnx)
  obtain ⟨h, g, d, t, os⟩ := s
  refine wpAny_call_obj_init hF (hb.held _ hcl) (hc.ns _ hb) hc.mI (hb.held _ hI) hIc fun h' x dx hm => ?_
  refine Classical.byContradiction fun hnx => ?_
  (obtain ⟨ox, hx, hxc, hxd, hor⟩ := hm.inst) <;> (refine hnx ?_; clear hnx)
  have hdx := hm.dict _ hx
  rcases hor with ⟨hn, _⟩ | ⟨dx', e, hne, hns⟩
  · rw [hdx] at hn; cases hn
  rw [hdx] at e; cases e
  refine wpF_mono (init_ok hc (z := h) (dx := dx) (hA.tc _ _) hb hm.keeps hbare ⟨x, dx, _, rfl, hne, ⟨ox, hx, hxc, hxd, hdx⟩, hns, fun z hz => absurd rfl hz, rfl⟩ (by simp; exact fun h => hne h.symm) (fun b hb => by
    revert hb; revert b; refine all2 ?_ ?_
    · exact hm.newX
    · exact hm.newD)) fun r s' ⟨hr, kp, fp', hnd, hsub, P, hP, hmade⟩ => ⟨hr, x, fp', rfl, ⟨fun b o _ e => ?_, fun i y hi e => kp.gens i y hi e, fun e => kp.bare e, kp.os⟩, hnd, fun b hb => ?_, P, hP, hmade⟩
  · refine kp.heap b o (fun hm' => ?_) (hm.keeps b o e)
    simp only [List.mem_cons, List.not_mem_nil, or_false] at hm'
    rcases hm' with rfl | rfl
    · have := hm.newX; rw [e] at this; cases this
    · have := hm.newD; rw [e] at this; cases this
  · rcases List.mem_cons.mp hb with rfl | hb
    · exact hm.newX
    · rcases hsub b hb with rfl | hb
      · exact hm.newD
      · cases e : h.get? b with
        | none => rfl
        | some o => have := hm.keeps b o e; exact (Option.some_ne_none _ (this.symm.trans hb)).elim
noncomputable def kOf (K : LexK) (c1 : Addr) : LexK := { K with code := .ref c1, qual := readQ }
theorem lex_made {P : (Str → Option Value) → Prop} {h : Heap} {x f d g k1 k2 pl c1 : Addr} {fp' : List Addr} {t : Str} (hm : (madeS K P).P h (x :: fp')) (hP : ∀ m, P m → mkAll f m) (hs : StrmI c1 h t f d g k1 k2 pl) :
    ∃ dx p, fp' = [dx, p] ∧ LexI (kOf K c1) ⟨t, 0, [], 1⟩ h x ⟨dx, f, d, g, k1, k2, pl, p⟩ := by
  refine Classical.byContradiction fun hnx => ?_
  (obtain ⟨x', dx, p, mA, e, hne, hx, hn, hw, hp, m0, hm0, hmA⟩ := hm) <;> (refine hnx ?_; clear hnx)
  cases e
  refine Classical.byContradiction fun hnx => ?_
  (obtain ⟨t1, t2, m1, hm1, rfl⟩ := hP m0 hm0) <;> (refine hnx ?_; clear hnx)
  have hm1 : m1 = fun _ => none := hm1
  subst hm1
  refine ⟨dx, p, rfl, ⟨hx, ⟨mA, hn, ⟨hw, ?_, ?_, ?_, ?_⟩⟩, hs.strm, hs.read, hs.cell1, hs.cell2, hs.place, ⟨[], hp, rfl, rfl⟩⟩⟩
  · exact ⟨t1, by rw [hmA]; rfl⟩
  · rw [hmA]; rfl
  · exact ⟨t2, by rw [hmA]; rfl⟩
  · rw [hmA]; rfl
end
end Mine
end
section
open PySem PySem.Calls PyProof.Rows
set_option maxRecDepth 100000
namespace Mine
section
variable {X : Cx} {K : LexK} {n : Nat} {D : FD} {σ : St}
theorem callWith_lexCls {A : Around} {env : Env} {pos : Pos} {e : Expr} {rest : List Expr} {Q : Value → Shared → Prop} {s : Shared} (hc : LexCls X K) (h : wpF X A (spliced (backTo pos (starEach (e :: rest) env))) (fun vs s1 => Bs X.C s1.heap ∧ wpF X A (call (.ref K.C) vs) Q s1) s)
    (he : starEach (e :: rest) env = (false, eval e env) :: starEach rest env := by rfl) (hplain : (backTo pos (starEach rest env)).any (·.1) = false := by rfl) :
    wpF X A (callWith pos (.ref K.C) [] (backTo pos (starEach (e :: rest) env)) []) Q s := by
  refine Classical.byContradiction fun hnx => ?_
  (obtain ⟨nm, q, bs, sn, sub, col, dd, k0, k1, k2, k3, k5, newId, hcl, hF⟩ := hc.cls) <;> (refine hnx ?_; clear hnx)
  rw [he] at h ⊢
  refine PySem.W.callWith_of (P := fun h => Bs X.C h) (by show ((false || (backTo pos (starEach rest env)).any (·.1)) || false) = false; rw [hplain]; rfl) (fun h hb => ⟨.machine, .inr (.inl rfl), fun A Q E s k q => ?_⟩) (PySem.Calls.evalArgs_plain h)
  obtain ⟨h', g, d, t, os⟩ := s
  exact wpAny_keeperOf_exc (k _ _ (hb.held _ hcl)) q
noncomputable def StrmFn (X : Cx) (aS c P : Addr) : Prop := ∃ pm doc, X.C.tab.lookup (Str.ofString "_law_stream") = some (.ref aS) ∧ FnAt X aS (topS iStream) pm (.ref c) doc ∧ MkG X c P
noncomputable def lamQ : Str := strQ ++ "<lambda>"
noncomputable def tab1 (c1 : Addr) : Array Value := #[] ++ #[rawInt (dPos readSt).line, rawInt (dPos readSt).col, .ref c1]
noncomputable def tabFull (c1 c2 : Addr) : Array Value := tab1 c1 ++ #[rawInt (lamPos lamX).line, rawInt (lamPos lamX).col, .ref c2]
theorem LamOb.is {name qual : Str} {params : Arguments} {body : Expr} {scope : Scope} {clo : List (Str × Addr)} (c : Addr) (ob : Obj) (h : LamOb name qual params body scope clo c ob) : IsLamOb ob := by
  obtain ⟨pm, ctv, rfl⟩ := h
  exact ⟨_, rfl, rfl, rfl⟩
theorem strD_clo {pm cd doc : Value} {aS L : Addr} {z : Heap} : closureFor (dScope readSt) (strD pm cd doc aS L z).env = pure (readClo (L + 2) (L + 1)) :=
  closureFor_eq (env := (strD pm cd doc aS L z).env) fun x hx hf => by
    have hx : x ∈ [(Str.ofString "size", NameKind.local), (Str.ofString "start", NameKind.local), (Str.ofString "place", NameKind.free), (Str.ofString "text", NameKind.free)] := hx
    revert hf; revert hx; revert x
    refine all4 ?_ ?_ ?_ ?_
    · exact nofun
    · exact nofun
    · exact fun _ _ => rfl
    · exact fun _ _ => rfl
theorem strD_cloL {pm cd doc : Value} {aS L : Addr} {z : Heap} : closureFor (lamS lamX) (strD pm cd doc aS L z).env = pure [] := by rfl
theorem stream_first {aS c P : Addr} (hS : StrmFn X aS c P) {t : Str} {A : Around} {s : Shared} {z : Heap} {r : Value} (hA : AOk A (n + 1)) (hb : Bs X.C z) (hzs : ∀ b o, z.get? b = some o → s.heap.get? b = some o) (hbare : AllBare s.gens) (hP : z.get? P = none) (hT : s.heap.get? P = some (PySem.W.tabObj #[])) (hr : VR s.heap (.str t) r) :
    wpF X A (call (.ref aS) [r]) (fun r s' => StrmP (fun _ => True) (fun _ _ => True) (fun c1 c2 => tabS P (tabFull c1 c2) [(c1, readQ), (c2, lamQ)]) P t s r s') s := by
  refine Classical.byContradiction fun hnx => ?_
  (obtain ⟨pm, doc, _, hf, hG⟩ := hS) <;> (refine hnx ?_; clear hnx)
  refine (stream_call (n := n) (T0 := tabS P #[] []) (T1 := fun c1 => tabS P (tab1 c1) [(c1, readQ)]) (T2 := fun c1 c2 => tabS P (tabFull c1 c2) [(c1, readQ), (c2, lamQ)]) (G1 := fun _ => True) (G2 := fun _ _ => True)
    (Ω2 := LamOb "<lambda>" lamQ (lamP lamX) (lamB lamX) (lamS lamX) []) hf (fun c ob h => h.is) (fun L z => ?_) (fun L z c1 _ => ?_) hA hb hzs hbare hP ⟨rfl, hT, by simp⟩ hr)
  · exact mkDef_first (c := c) (ps := #[]) (cs0 := []) hG rfl strD_clo rfl trivial
  · exact mkLam_first (c := c) (ps := tab1 c1) (cs0 := [(c1, readQ)]) hG rfl strD_cloL rfl trivial
inductive StrmH (c1 : Addr) (t : Str) (s : Shared) (r : Value) (s' : Shared) : Prop
  | mk (f d g k1 k2 pl : Addr) (e : r = .ref f) (k : Kp s s') (i : StrmI c1 s'.heap t f d g k1 k2 pl) (nd : [f, d, g, k1, k2, pl].Nodup) (fr : ∀ b ∈ [f, d, g, k1, k2, pl], s.heap.get? b = none)
theorem stream_hit {aS c P c1 c2 : Addr} (hS : StrmFn X aS c P) {t : Str} {A : Around} {s : Shared} {z : Heap} {r : Value} (hA : AOk A (n + 1)) (hb : Bs X.C z) (hzs : ∀ b o, z.get? b = some o → s.heap.get? b = some o) (hbare : AllBare s.gens) (hP : z.get? P = none) (hT : s.heap.get? P = some (PySem.W.tabObj (tabFull c1 c2))) (hr : VR s.heap (.str t) r) :
    wpF X A (call (.ref aS) [r]) (fun r s' => StrmH c1 t s r s') s := by
  refine Classical.byContradiction fun hnx => ?_
  (obtain ⟨pm, doc, _, hf, hG⟩ := hS) <;> (refine hnx ?_; clear hnx)
  refine wpF_mono (stream_call (n := n) (T0 := tabS P (tabFull c1 c2) []) (T1 := fun _ => tabS P (tabFull c1 c2) []) (T2 := fun _ _ => tabS P (tabFull c1 c2) []) (G1 := fun c => c = c1) (G2 := fun _ c => c = c2)
    (Ω2 := LamOb "<lambda>" lamQ (lamP lamX) (lamB lamX) (lamS lamX) []) hf (fun c ob h => h.is) (fun L z => ?_) (fun L z c1' _ => ?_) hA hb hzs hbare hP ⟨rfl, hT, by simp⟩ hr) fun r s' ⟨c1', c2', f, d, g, k1, k2, pl, fpT, e1, e2, hr, kp, ⟨e3, hT', _⟩, hI, hnd, hfr⟩ => ?_
  · exact mkDef_hit (c := c) (r := c1) hG rfl strD_clo rfl trivial
  · exact mkLam_hit (c := c) (r := c2) hG rfl strD_cloL rfl trivial
  · subst e1 e2
    cases e3
    refine ⟨f, d, g, k1, k2, pl, hr, ⟨fun b o _ e => ?_, fun i y hi e => kp.gens i y hi e, kp.bare, kp.os⟩, hI, (List.nodup_append.mp hnd).2.1, hfr⟩
    by_cases hbP : b = P
    · subst hbP
      obtain rfl := Option.some.inj (hT.symm.trans e); exact hT'
    · exact kp.heap b o (by simpa using hbP) e
theorem R.addLex {C : Gl} {g s s' : Shared} {fps : List (List Addr)} (q : R C D g σ fps s) (k : Kp s s') {st : LexSt} {x : Addr} {a : LexA} (i : LexI K st s'.heap x a) (hnd : (x :: a.list).Nodup) (hf : ∀ b ∈ x :: a.list, b ∉ ownOf D fps ∧ g.heap.get? b = none) :
    R C D g ⟨σ.loc, σ.hp ++ [.other (lexS K st)]⟩ (fps ++ [x :: a.list]) s' := (q.ext k).adopt hf hnd ⟨x, a, [], by rfl, i, by simp⟩
inductive LexOn (C : Gl) (D : FD) (g : Shared) (σ : St) (fps : List (List Addr)) (S : OSpec) (r : Value) (s' : Shared) : Prop
  | mk (fps' : List (List Addr)) (q : R C D g ⟨σ.loc, σ.hp ++ [.other S]⟩ fps' s') (e : Fext fps fps') (h : (AV.ref σ.hp.length).At D.z fps' r)
theorem lex_on (hc : LexCls X K) {A : Around} {g s : Shared} {fps : List (List Addr)} {c1 f d gg k1 k2 pl : Addr} {t : Str} (hA : AOk A (n + 2)) (q : R X.C D g σ fps s) (hs : StrmI c1 s.heap t f d gg k1 k2 pl) (hnd : [f, d, gg, k1, k2, pl].Nodup) (hf : ∀ b ∈ [f, d, gg, k1, k2, pl], b ∉ ownOf D fps ∧ g.heap.get? b = none) :
    wpF X A (call (.ref K.C) [.ref f]) (fun r s' => LexOn X.C D g σ fps (lexS (kOf K c1) ⟨t, 0, [], 1⟩) r s') s := by
  refine wpF_mono (lex_new (n := n) hc hA q.z q.bare) fun r s' hq1 => ?_
  refine Classical.byContradiction fun hnx => ?_
  (obtain ⟨x, fp', hr, k, hnd2, hfr, P, hP, hm⟩ := hq1) <;> (refine hnx ?_; clear hnx)
  have hs' : StrmI c1 s'.heap t f d gg k1 k2 pl := by
    refine Classical.byContradiction fun hnx => ?_
    (obtain ⟨a, b, c, ⟨tk, e⟩, ⟨tk', e'⟩⟩ := hs) <;> (refine hnx ?_; clear hnx)
    exact ⟨a.at (k.hp _) (k.hp _), b.at (k.hp _), c.keeps k.hp, ⟨tk, e.keeps k.hp⟩, ⟨tk', Heap.PlainList.at e' (k.hp _)⟩⟩
  refine Classical.byContradiction fun hnx => ?_
  (obtain ⟨dx, p, rfl, i⟩ := lex_made hm hP hs') <;> (refine hnx ?_; clear hnx)
  have hal : ∀ b ∈ [f, d, gg, k1, k2, pl], ∃ o, s.heap.get? b = some o := by
    refine Classical.byContradiction fun hnx => ?_
    (obtain ⟨⟨o, fd, m, a1, a2, a3, a4, ⟨od, _, _, a5, _⟩, a6⟩, ⟨og, fd', b1, b⟩, ⟨oc, c, _⟩, ⟨tk, oe, e, _⟩, ⟨tk', n', e'⟩⟩ := hs) <;> (refine hnx ?_; clear hnx)
    intro b hb
    revert hb; revert b; refine all6 ?_ ?_ ?_ ?_ ?_ ?_
    · exact ⟨_, a1⟩
    · exact ⟨_, a5⟩
    · exact ⟨_, b1⟩
    · exact ⟨_, c⟩
    · exact ⟨_, e⟩
    · exact ⟨_, e'⟩
  have hp : List.Perm ([x, dx, p] ++ [f, d, gg, k1, k2, pl]) (x :: LexA.list ⟨dx, f, d, gg, k1, k2, pl, p⟩) := by
    refine List.Perm.cons _ (List.Perm.cons _ ?_)
    exact List.perm_append_comm (l₁ := [p]) (l₂ := [f, d, gg, k1, k2, pl])
  have q' := q.addLex (K := kOf K c1) k i (hp.nodup_iff.mp (List.nodup_append.mpr ⟨hnd2, hnd, fun a ha b hb e => by
      subst e
      obtain ⟨o, e⟩ := hal a hb
      rw [hfr a ha] at e; cases e⟩)) (fun b hb => by
      rcases List.mem_append.mp (hp.mem_iff.mpr hb) with hb | hb
      · have h1 := hfr b hb
        exact ⟨fun hm => (by obtain ⟨o, e⟩ := q.alive b hm; exact (Option.some_ne_none _ (e.symm.trans h1)).elim), fresh_of_kp q.keep h1⟩
      · exact hf b hb)
  exact ⟨_, q', Fext.app _ _, x, _, by rw [q.len, List.getElem?_append_right (Nat.le_refl _)]; simp; rfl, hr⟩
end
end Mine
end
section
open PySem PySem.Calls PyProof.Rows
set_option maxRecDepth 100000
namespace Mine
section
variable {X : Cx} {K : LexK} {n : Nat} {D : FD} {σ : St}
theorem EvX.lexFirst {aS c P : Addr} (hS : StrmFn X aS c P) (hc : LexCls X K) (hkS : D.env.kindOf (Str.ofString "_law_stream") = some .globalImplicit) (hkN : D.env.kindOf (Str.ofString "_netrclex") = some .globalImplicit) (htN : X.C.tab.lookup (Str.ofString "_netrclex") = some (.ref K.C))
    {pN pS posS pos : Pos} {e : Expr} {t : Str} (he : EvO X (n + 2) D σ e (.str t)) (h0 : σ.hp[0]? = some (.other (tabS P #[] []))) (hse : ∀ env, starEach [e] env = [(false, eval e env)] := by intro _; rfl) :
    EvX X (n + 2) D σ (.Call (.Name (Str.ofString "_netrclex") pN) [.Call (.Name (Str.ofString "_law_stream") pS) [e] [] posS] [] pos) (fun σ' v => ∃ c1 c2, σ' = ⟨σ.loc, σ.hp.set 0 (.other (tabS P (tabFull c1 c2) [(c1, readQ), (c2, lamQ)])) ++ [.other (lexS (kOf K c1) ⟨t, 0, [], 1⟩)]⟩ ∧ v = .ref σ.hp.length) := by
  intro A g fps s hA q
  refine Call_ (q.global (X := X) hkN htN ?_) rfl
  refine callWith_lexCls hc (args_cons ?_ rfl) rfl
  refine Classical.byContradiction fun hnx => ?_
  (obtain ⟨pm, doc, hv, ⟨⟨o, ho, hfd⟩, hcd⟩, hG⟩ := id hS) <;> (refine hnx ?_; clear hnx)
  refine Call_ (q.global (X := X) hkS hv ?_) (by rfl)
  refine callWith_def (o := o) (fd := dFd (topS iStream) pm (.ref c) doc) hfd (args_cons (wpF_mono (he A g fps s hA q) fun r s1 hq1 => ?_) (hse _)) (hse _)
  obtain ⟨k1, v1⟩ := hq1
  have q1 := q.ext k1
  refine args_nil ⟨q1.z.held _ ho, ?_⟩
  refine Classical.byContradiction fun hnx => ?_
  (obtain ⟨f0, e0, hf0, hT, _⟩ := q1.slot0 h0) <;> (refine hnx ?_; clear hnx)
  have hf0 : f0 = [P] := hf0
  subst hf0
  refine wpF_mono (stream_first (n := n + 1) hS hA q1.bs (fun b o e => q1.keep.hp b o (q1.zk b o e)) q1.bare (q1.zfree e0 P (by (exact .head _))) hT v1) fun r s2 hq => ?_
  refine Classical.byContradiction fun hnx => ?_
  (obtain ⟨c1, c2, f, d, gg, k1', k2', pl, fpT, _, _, hr, kp, hT2, hI, hnd, hfr⟩ := hq) <;> (refine hnx ?_; clear hnx)
  subst hr
  have hown : ∀ b ∈ fpT ++ [f, d, gg, k1', k2', pl], b ∉ ownOf D fps ∧ g.heap.get? b = none := fun b hb => ⟨fun hm => (by obtain ⟨o, e⟩ := q1.alive b hm; rw [hfr b hb] at e; cases e), fresh_of_kp q1.keep (hfr b hb)⟩
  have hnd1 := List.nodup_append.mp hnd
  have q2 := q1.upd (o := .other (tabS P (tabFull c1 c2) [(c1, readQ), (c2, lamQ)])) (a₀ := P) (fp := []) (fp' := fpT) e0 kp (fun a ha => .inr (hown a (List.mem_append_left _ ha))) hnd1.1 hT2
  have hownS : ∀ b ∈ ownOf D (fps.set 0 (P :: fpT)), b ∈ ownOf D fps ∨ b ∈ fpT := fun b hb => (own_set hb).elim .inl fun h => (List.mem_cons.mp h).elim (fun e => .inl (e ▸ own_fps (mem_flatten_get e0 (.head _)))) .inr
  refine args_nil ⟨q2.z, wpF_mono (lex_on (n := n) (σ := ⟨σ.loc, σ.hp.set 0 (.other (tabS P (tabFull c1 c2) [(c1, readQ), (c2, lamQ)]))⟩) hc hA q2 hI hnd1.2.1 fun b hb => ⟨fun hm => ?_, (hown b (List.mem_append_right _ hb)).2⟩) fun r s3 ⟨fps', q3, e3, hv3⟩ => ⟨_, _, fps', q3, (Fext.set e0).trans e3, hv3, c1, c2, rfl, by simp⟩⟩
  rcases hownS b hm with hm | hm
  · exact (hown b (List.mem_append_right _ hb)).1 hm
  · exact hnd1.2.2 b (List.mem_cons_of_mem _ hm) b hb rfl
structure HitG (X : Cx) (C0 : Gl) (aS c P c1 c2 : Addr) : Prop where
  tab : (P, PySem.W.tabObj (tabFull c1 c2)) ∈ X.C.objs
  strm : StrmFn ⟨X.prog, X.w, C0⟩ aS c P
  down : ∀ h, Bs X.C h → Bs C0 (eraseH h [P])
  name : X.C.tab.lookup (Str.ofString "_law_stream") = some (.ref aS)
  fn : IsFn X (.ref aS)
theorem EvX.lexHit {C0 : Gl} {aS c P c1 c2 : Addr} (hS : HitG X C0 aS c P c1 c2) (hc : LexCls X K) (hkS : D.env.kindOf (Str.ofString "_law_stream") = some .globalImplicit) (hkN : D.env.kindOf (Str.ofString "_netrclex") = some .globalImplicit) (htN : X.C.tab.lookup (Str.ofString "_netrclex") = some (.ref K.C))
    {pN pS posS pos : Pos} {e : Expr} {t : Str} (he : EvO X (n + 2) D σ e (.str t)) (hse : ∀ env, starEach [e] env = [(false, eval e env)] := by intro _; rfl) :
    EvX X (n + 2) D σ (.Call (.Name (Str.ofString "_netrclex") pN) [.Call (.Name (Str.ofString "_law_stream") pS) [e] [] posS] [] pos) (fun σ' v => σ' = ⟨σ.loc, σ.hp ++ [.other (lexS (kOf K c1) ⟨t, 0, [], 1⟩)]⟩ ∧ v = .ref σ.hp.length) := by
  intro A g fps s hA q
  refine Call_ (q.global (X := X) hkN htN ?_) rfl
  refine callWith_lexCls hc (args_cons ?_ rfl) rfl
  refine Classical.byContradiction fun hnx => ?_
  (obtain ⟨a', o, fd, e', ho, hfd⟩ := hS.fn) <;> (refine hnx ?_; clear hnx)
  cases e'
  refine Call_ (q.global (X := X) hkS hS.name ?_) (by rfl)
  refine callWith_def (o := o) (fd := fd) hfd (args_cons (wpF_mono (he A g fps s hA q) fun r s1 hq2 => ?_) (hse _)) (hse _)
  obtain ⟨k1, v1⟩ := hq2
  have q1 := q.ext k1
  refine args_nil ⟨q1.z.held _ ho, ?_⟩
  have hT := q1.z.held _ hS.tab
  refine wpF_mono (stream_hit (X := ⟨X.prog, X.w, C0⟩) (n := n + 1) hS.strm hA (z := eraseH s1.heap [P]) (hS.down _ q1.z) (fun b o e => by rw [get?_erase] at e; split at e; cases e; exact e) q1.bare (by rw [get?_erase]; simp) hT v1) fun r s2 hq => ?_
  refine Classical.byContradiction fun hnx => ?_
  (obtain ⟨f, d, gg, k1', k2', pl, hr, kp, hI, hnd, hfr⟩ := hq) <;> (refine hnx ?_; clear hnx)
  subst hr
  have hown : ∀ b ∈ [f, d, gg, k1', k2', pl], b ∉ ownOf D fps ∧ g.heap.get? b = none := fun b hb => ⟨fun hm => (by obtain ⟨o, e⟩ := q1.alive b hm; rw [hfr b hb] at e; cases e), fresh_of_kp q1.keep (hfr b hb)⟩
  have q2 := q1.ext kp
  exact args_nil ⟨q2.z, wpF_mono (lex_on (n := n) hc hA q2 hI hnd hown) fun r s3 hqp => by obtain ⟨fps', q3, e3, hv3⟩ := hqp; exact ⟨_, _, fps', q3, e3, hv3, rfl, rfl⟩⟩
end
end Mine
end
section
open PySem PySem.Calls PyProof.Rows
set_option maxRecDepth 100000
namespace Mine
section
variable {X : Cx} {n : Nat} {D : FD} {σ : St} {Φ : AFl → St → Prop} {rest : List Stmt}
theorem R.compLend {C : Gl} {g s s3 : Shared} {fps : List (List Addr)} {scope : Scope} {v : Str} {k : Nat} {o : AObj} {a0 : Addr} {fp0 : List Addr} (q : R C D g σ fps s) (k3 : Kp s s3) (hkind : scope.kind = .function) (hnd : (scope.names.map (·.1)).Nodup)
    (hl : σ.loc.lookup v = some (.ref k)) (ho : σ.hp[k]? = some o) (e0 : fps[k]? = some (a0 :: fp0)) (hkv : D.env.kindOf v = some .cell ∨ D.env.kindOf v = some .free) (hv : scope.names.lookup v = some .free) (hfree : ∀ x ∈ scope.names, x.2 = .free → x.1 = v) :
    R C (compD D scope s3.heap.objs.size (eraseH s.heap (a0 :: fp0))) (ghost s (a0 :: fp0)) ⟨[(v, .ref 0)], [o]⟩ [a0 :: fp0] { s3 with heap := pushCells (s3.heap.push { cls := .type "dict", data := .dict #[] }) scope.names } := by
  have hown : ∀ b ∈ a0 :: fp0, b ∈ ownOf D fps := fun b hb => own_fps (mem_flatten_get e0 hb)
  have hDz : ∀ b o, D.z.get? b = some o → (eraseH s.heap (a0 :: fp0)).get? b = some o := fun b o e => by
    rw [get?_erase, if_neg fun hm => by rw [q.zfree e0 b hm] at e; cases e]
    exact q.keep.hp b o (q.zk b o e)
  have q1 := q.compG (z' := eraseH s.heap (a0 :: fp0)) (cap := [(v, .raw (.ref a0))]) k3 hkind hnd (q.bs.keeps hDz) (fun b o e => by rw [get?_erase] at e; split at e; cases e; exact e) (fun y c e => by
    rcases q.celo y c e with hc | ⟨o, ho⟩
    · obtain ⟨w, o, ho, _⟩ := q.csl c hc
      exact ⟨o, by rw [get?_erase, if_neg fun hm => (q.apart e0 hm).2.1 hc]; exact ho⟩
    · exact ⟨o, hDz c o ho⟩) (fun p hp => by
    rw [List.mem_singleton.mp hp]
    refine ⟨hkv, hv, .ref k, hl, fun r hq1 => ?_⟩
    obtain ⟨a, fp, e, hr⟩ := hq1
    rw [e0] at e; cases e; exact hr) (fun x hx hf => ⟨_, by rw [hfree x hx hf]; exact List.mem_cons_self⟩)
  have hrep : Rep s.heap o (a0 :: fp0) := q.obj k o _ ho e0
  have hal := hrep.alive
  have q2 := q1.back (g := ghost s (a0 :: fp0)) ⟨fun b o _ e => by rw [ghost_get] at e; split at e; cases e; exact e, fun _ _ _ e => e, id, rfl⟩ fun b o e => by
    have e : (eraseH s.heap (a0 :: fp0)).get? b = some o := e
    rw [ghost_get]; rw [get?_erase] at e; exact e
  have q3 := q2.adopt (o := o) (fp := a0 :: fp0) (fun b hb => ⟨fun hm => (by
      obtain ⟨o', ho'⟩ := hal b hb
      rw [q1.fresh b hm] at ho'
      cases ho'), by rw [ghost_get, if_pos hb]⟩) (q.nodupAt e0) (hrep.mono fun b _ o' e => q1.keep.hp b o' e)
  refine R.reval (σ := ⟨[(v, .raw (.ref a0))], [o]⟩) q3 fun y w e => ?_
  have hm := mem_of_lookup e
  simp at hm
  obtain ⟨rfl, rfl⟩ := hm
  exact ⟨.raw (.ref a0), by simp [List.lookup], fun r hr => ⟨a0, fp0, rfl, hr⟩⟩
end
end Mine
end
section
open PySem PySem.Calls PyProof.Rows
set_option maxRecDepth 100000
namespace Mine
section
variable {X : Cx} {n : Nat} {D : FD} {σ : St} {Φ : AFl → St → Prop} {rest : List Stmt}
theorem Ex.assignCompM {scope : Scope} {iter elt : Expr} {pos p pi spos : Pos} {x i v : Str} {k : Nat} {S : Nat → OSpec} {ys : List Str} {xs : List IV}
    (hI : EvI X n D σ (.Name i pi) iter xs (fun _ => True)) (hxs : xs.length = ys.length) (hlen : ys.length ≤ 1000) (hsc : ∀ x ∈ xs, ∃ d, x = .one d ∧ d.sc = true)
    (hkind : scope.kind = .function) (hnd : (scope.names.map (·.1)).Nodup) (hl : σ.loc.lookup v = some (.ref k)) (ho : σ.hp[k]? = some (.other (S 0))) (hkv : D.env.kindOf v = some .cell ∨ D.env.kindOf v = some .free) (hv : scope.names.lookup v = some .free) (hfree : ∀ x ∈ scope.names, x.2 = .free → x.1 = v)
    (hi : ∀ L z, isOwnVar (compD D scope L z) i = true) (hiv : i ≠ v)
    (turn : ∀ L z j d y o', xs[j]? = some (.one d) → ys[j]? = some y → EvM X n (compD D scope L z) ⟨[(i, .dv d), (v, .ref 0)], [.other (S j), o']⟩ elt ⟨[(i, .dv d), (v, .ref 0)], [.other (S (j + 1)), o']⟩ y)
    (hk : isOwnVar D x = true) (hsw : swapsWith (.ListComp elt [⟨.Name i pi, iter, [], 0⟩] scope pos) (some (.Name x p)) spos.line D.env = pure true)
    (hr : Ex X n D rest ⟨(x, .ref σ.hp.length) :: σ.loc, σ.hp.set k (.other (S ys.length)) ++ [.lst (ys.map .str)]⟩ Φ)
    (hs : ∀ x, foldedSetIterable iter D.env x = pure x := by intro _; rfl) :
    Ex X n D (.Assign [.Name x p] (.ListComp elt [⟨.Name i pi, iter, [], 0⟩] scope pos) spos :: rest) σ Φ := Ex.cons fun A g fps s hA q => by
  rw [exec_Assign_Name_used _ _ _ _ hsw]
  refine wpAny_bind (wpAny_standAt (wpAny_bind ?_))
  show wpAny _ A (do let _ ← comprehension (.ListComp elt [⟨.Name i pi, iter, [], 0⟩] scope pos) scope D.env (firstIterPos [⟨.Name i pi, iter, [], 0⟩] pos) (newList []) false (eval iter D.env) (some (PySem.assign (.Name x p) D.env))) _ _ s
  refine Classical.byContradiction fun hnx => ?_
  (obtain ⟨cv, rv, hcv, _, a0, fp0, e0, _⟩ := q.cel v _ hl hkv) <;> (refine hnx ?_; clear hnx)
  have hclos : closureFor scope D.env = pure (clos scope.names D.env.cells []) := closureFor_eq fun x hx hf => by rw [hfree x hx hf, hcv]; rfl
  refine wpAny_bind (wpF_mono (wpAny_comprehension_free (Q := fun _ s' => Post X D g fps (Then X n D rest Φ) .next s') (g := ⟨.Name i pi, iter, [], 0⟩) (gs := []) rfl hs hclos hkind (fun x hx hl => by have := lookup_of_nd hnd hx; rw [hl] at this; exact this) (wpF_mono (hI A g fps s hA q) fun xv s1 h1 => wpF_mono h1 fun it s2 hqx24 => ?_)) (fun _ s' hq => wpAny_pure (wpAny_pure hq)))
  obtain ⟨k2, II, It, fpI, wr, gx, e, W, it0, hoI, hw, hg⟩ := hqx24
  subst e
  refine wpAny_newList ?_ (by decide)
  refine newEnvAround ?_
  generalize hs3 : ({ s2 with heap := s2.heap.push { cls := .type "list", data := .seq ([] : List Value).toArray } } : Shared) = s3
  have k23 : Kp s2 s3 := hs3 ▸ Kp.push _ _ _
  have k3 : Kp s s3 := k2.trans k23
  have ha3 : s3.heap.PlainList s2.heap.objs.size #[] := by subst hs3; exact ⟨0, Heap.get?_push_size _ rfl⟩
  have hafr : s.heap.get? s2.heap.objs.size = none := fresh_of_kp k2 fresh_push
  have hsz3 : s3.heap.objs.size = s2.heap.objs.size + 1 := by subst hs3; simp
  have hownD : ∀ b ∈ a0 :: fp0, b ∈ ownOf D fps := fun b hb => own_fps (mem_flatten_get e0 hb)
  have q4 := q.compLend k3 hkind hnd hl ho e0 hkv hv hfree
  generalize hs4 : ({ s3 with heap := pushCells (s3.heap.push { cls := .type "dict", data := .dict #[] }) scope.names } : Shared) = s4 at q4 ⊢
  have k34 : Kp s3 s4 := by subst hs4; exact Kp.of_heap fun b o e => pushCells_keeps _ _ b o (Heap.get?_push_of_some _ e)
  have hDeq : compEnv scope (clos scope.names D.env.cells []) s3.heap.objs.size D.env = { newEnv scope s3.heap.objs.size D.env.globals (cellsFrom (s3.heap.objs.size + 1) scope.names (clos scope.names D.env.cells [])) D.env.qual none .none (some D.env) builtinsNs with scope := relabel scope D.env } := rfl
  rw [← hDeq]
  have hLs : s.heap.get? s3.heap.objs.size = none := fresh_of_kp k3 (Heap.get?_none_of_le (Nat.le_refl _))
  generalize hz : eraseH s.heap (a0 :: fp0) = z at q4 ⊢
  have hbig : ∀ b ∈ ownOf (compD D scope s3.heap.objs.size z) [a0 :: fp0], b ∈ a0 :: fp0 ∨ s3.heap.objs.size ≤ b := fun b hm => by
    have hm : b ∈ s3.heap.objs.size :: ((cellsFrom (s3.heap.objs.size + 1) scope.names []).map (·.2) ++ ([a0 :: fp0] : List (List Addr)).flatten) := hm
    rcases List.mem_cons.mp hm with rfl | hm
    · exact .inr (Nat.le_refl _)
    rcases List.mem_append.mp hm with hm | hm
    · obtain ⟨p, hp, rfl⟩ := List.mem_map.mp hm
      have ok := cellsFrom_ok scope.names (s3.heap.push { cls := .type "dict", data := .dict #[] }) (s3.heap.objs.size + 1) [] ⟨fun _ _ hm => (nomatch hm), List.Pairwise.nil⟩ (by rw [Heap.size_push]; exact Nat.le_refl _)
      rw [Heap.size_push] at ok
      exact .inr (Nat.le_of_lt (ok.empty p.1 p.2 hp).2)
    · exact .inl (by simpa using hm)
  generalize hL : s3.heap.objs.size = L at q4 hLs hbig ⊢
  have hab : s2.heap.objs.size ∉ ownOf (compD D scope L z) [a0 :: fp0] := fun hm => by
    rcases hbig _ hm with hm | hm
    · obtain ⟨o, e⟩ := q.alive _ (hownD _ hm)
      exact absurd (Heap.lt_size (k2.hp _ _ e)) (Nat.lt_irrefl _)
    · lia
  have q5 := q4.adopt (o := .pl []) (fp := [s2.heap.objs.size]) (fun b hb => by rw [List.mem_singleton.mp hb]; exact ⟨hab, by rw [ghost_get]; split; rfl; exact hafr⟩) (by simp) ⟨s2.heap.objs.size, [], [], rfl, (by obtain ⟨m, e⟩ := ha3; exact ⟨m, k34.hp _ _ e⟩), rfl, rfl⟩
  have al2 := W.alive _ _ it0
  have ho5 : ∀ b ∈ fpI, b ∉ ownOf (compD D scope L z) [a0 :: fp0, [s2.heap.objs.size]] := fun b hb hm => by
    obtain ⟨o, ho⟩ := al2 b hb
    have hm : b ∈ ownOf (compD D scope L z) [a0 :: fp0] ∨ b = s2.heap.objs.size := (own_app (fps := [a0 :: fp0]) hm).imp id List.mem_singleton.mp
    have hlt := Heap.lt_size ho
    rcases hm with hm | hm
    · rcases hbig _ hm with hm | hm
      · exact hoI b hb (hownD _ hm)
      · have h5 : s2.heap.objs.size + 1 ≤ b := by rw [← hsz3, hL]; exact hm
        exact absurd hlt (Nat.not_lt.mpr (Nat.le_of_succ_le h5))
    · rw [hm] at hlt; exact absurd hlt (Nat.lt_irrefl _)
  generalize s2.heap.objs.size = a at q5 hafr hab ho5 ⊢
  have it4 := W.stay 0 s2 s4 it0 (fun b _ o e => (k23.trans k34).hp b o e) (fun i x e => (k23.trans k34).gens i x (by simp) e)
  have out : ∀ (j : Nat) (fpl : List Addr) (loc : List (Str × AV)) (o2 : AObj) (s' : Shared), R X.C (compD D scope L z) (ghost s (a0 :: fp0)) ⟨loc, [.other (S j), o2]⟩ [a0 :: fpl, [a]] s' → R X.C D g ⟨σ.loc, σ.hp.set k (.other (S j))⟩ (fps.set k (a0 :: fpl)) s' := fun j fpl loc o2 s' q' => by
    refine q.upd e0 (ghost_kp q'.keep) (fun b hb => ?_) (q'.nodupAt (k := 0) rfl) (q'.obj 0 _ _ rfl rfl)
    have h1 := q'.fresh b (own_fps (by (exact .tail _ (List.mem_append_left _ (by assumption)))))
    rw [ghost_get] at h1
    split at h1
    · rename_i hm
      rcases List.mem_cons.mp hm with rfl | hm
      · exact absurd hb (List.nodup_cons.mp (q'.nodupAt (k := 0) rfl)).1
      · exact .inl hm
    · exact .inr ⟨fun hm => (by obtain ⟨o, e⟩ := q.alive _ hm; exact (Option.some_ne_none _ (e.symm.trans h1)).elim), fresh_of_kp q.keep h1⟩
  have loop : codeAny (model X.prog X.w) A (.compLoop (.ListComp elt [⟨.Name i pi, iter, [], 0⟩] scope pos) 0 (.ref II) (.ref a) (compEnv scope (clos scope.names D.env.cells []) L D.env)) (compPost (model X.prog X.w) A (fun _ _ => False) (some (PySem.assign (.Name x p) D.env)) (fun _ s' => Post X D g fps (Then X n D rest Φ) .next s') (.ref a) L) s4 := by
    refine compLoop_any (fun m s' => ∃ j fpl, m = xs.length - j ∧ j ≤ xs.length ∧ It j s' ∧ R X.C (compD D scope L z) (ghost s (a0 :: fp0)) ⟨[(v, .ref 0)], [.other (S j), .pl ((ys.take j).map .str)]⟩ [a0 :: fpl, [a]] s' ∧ (∀ b ∈ fpI, b ∉ ownOf (compD D scope L z) [a0 :: fpl, [a]]))
      (fun m s' ⟨j, fpl, hm, hj, hit, q', ho'⟩ => ?_) _ ⟨0, fp0, rfl, Nat.zero_le _, it4, q5, ho5⟩
    have hdis : ∀ b ∈ wr, b ∉ ownOf (compD D scope L z) [a0 :: fpl, [a]] ∧ (ghost s (a0 :: fp0)).heap.get? b = none := fun b hb => ⟨ho' b (W.sub b hb), by rw [ghost_get]; split; rfl; exact hw b hb⟩
    refine wpF_mono (W.next g _ _ s' j (out j fpl _ _ s' q') trivial (Fext.set e0) hit) fun o s6 hqx96 => ?_
    obtain ⟨k6, h6⟩ := hqx96
    have q6 := q'.extB k6 hdis hg
    cases hx : xs[j]? with
    | none =>
      rw [hx] at h6
      subst h6
      have hj' : j = ys.length := by rw [List.getElem?_eq_none_iff] at hx; lia
      subst hj'
      rw [List.take_length] at q6
      have q7 := out _ _ _ _ _ q6
      have hap := q6.apart (k := 1) (fp := [a]) rfl (a := a) (by simp)
      have hownS : ∀ b ∈ ownOf D (fps.set k (a0 :: fpl)), b ∈ ownOf D fps ∨ b ∈ a0 :: fpl := fun b hb => own_set hb
      have haD : a ∉ ownOf D (fps.set k (a0 :: fpl)) := fun hm => by
        rcases hownS a hm with hm | hm
        · obtain ⟨o, e⟩ := q.alive _ hm
          exact (Option.some_ne_none _ (e.symm.trans hafr)).elim
        · exact hap.2.2 0 _ (by decide) rfl hm
      have q8 := q7.adopt (o := .lst (ys.map .str)) (fp := [a]) (fun b hb => by rw [List.mem_singleton.mp hb]; exact ⟨haD, fresh_of_kp q.keep hafr⟩) (by simp) (q6.obj 1 _ _ rfl rfl).pl_lst
      have hLD : L ∉ ownOf D (fps.set k (a0 :: fpl) ++ [[a]]) := fun hm => by
        have hm : L ∈ ownOf D (fps.set k (a0 :: fpl)) ∨ L = a := (own_app hm).imp id List.mem_singleton.mp
        rcases hm with hm | hm
        · rcases hownS L hm with hm | hm
          · obtain ⟨o, e⟩ := q.alive _ hm
            exact (Option.some_ne_none _ (e.symm.trans hLs)).elim
          · exact (q6.apart (k := 0) rfl hm).1 rfl
        · exact hap.1 hm.symm
      refine Classical.byContradiction fun hnx => ?_
      (obtain ⟨mL, hmL, _⟩ := q6.ns) <;> (refine hnx ?_; clear hnx)
      obtain ⟨q8m, kg⟩ := q8.max
      show wpAny _ A (PySem.assign (.Name x p) D.env (.ref a)) _ _ _
      refine wpAny_assign_Name (q8m.store (v := .ref σ.hp.length) hk ⟨a, [], by
        have : fps.length = (fps.set k (a0 :: fpl)).length := by simp
        rw [q.len, this, List.getElem?_append_right (Nat.le_refl _)]; simp, rfl⟩ fun s'' q9 => ?_)
      refine Classical.byContradiction fun hnx => ?_
      (obtain ⟨oL, es, ep, hoL, hdL, r1, r2⟩ := hmL) <;> (refine hnx ?_; clear hnx)
      have hnsL : s''.heap.Ns L mL := ⟨oL, es, ep, q9.keep.hp L oL (by rw [maxg_get, if_neg hLD]; exact hoL), hdL, r1, r2⟩
      refine ⟨mL, hnsL, fun h' hs' => ?_⟩
      have q10 := q9.back kg fun b o e => q.zk b o e
      have q11 := q10.extB (fp := [L]) (gx := []) (s' := { s'' with heap := h' }) (KpB.of_heap fun b o hb e => (hs'.2 b (fun hh => hb (by rw [hh]; exact List.mem_singleton.mpr rfl))).trans e)
        (fun b hb => by rw [List.mem_singleton.mp hb]; exact ⟨hLD, fresh_of_kp q.keep hLs⟩) (by simp)
      exact ⟨.next, _, _, q11, (Fext.set e0).trans (Fext.app _ _), rfl, hr⟩
    | some xv' =>
      rw [hx] at h6
      obtain ⟨r, rfl, h6⟩ := h6
      have hlt : j < xs.length := (List.getElem?_eq_some_iff.mp hx).1
      refine Classical.byContradiction fun hnx => ?_
      (obtain ⟨d, rfl, hd⟩ := hsc _ (List.mem_of_getElem? hx)) <;> (refine hnx ?_; clear hnx)
      obtain ⟨y, hy⟩ : ∃ y, ys[j]? = some y := ⟨_, List.getElem?_eq_getElem (hxs ▸ hlt)⟩
      refine wpF_mono h6 fun _ s7 ⟨k7, hit7, it7⟩ => ?_
      have q7 := q6.extB k7 hdis hg
      obtain ⟨q7m, kg⟩ := q7.max
      refine wpF_mono (As.name (n := n) hd (hi L z) A _ _ s7 r hA q7m hit7) fun _ s8 q8 => ?_
      have al7 := W.alive _ _ it7
      have it8 : It (j + 1) s8 := W.stay _ _ _ it7 (fun b hb o e => q8.keep.hp b o (by rw [maxg_get, if_neg (ho' b hb)]; exact e)) fun i x e => q8.keep.gens i x (by simp) e
      refine wpAny_tests_nil ?_
      simp only [if_true]
      obtain ⟨q8m, kg8⟩ := q8.max
      refine wpF_mono (turn L z j d y _ hx hy A _ _ s8 hA q8m) fun r s9 hqx166 => ?_
      refine Classical.byContradiction fun hnx => ?_
      (obtain ⟨⟨fps', q9, e9⟩, t, hrt⟩ := hqx166) <;> (refine hnx ?_; clear hnx)
      subst hrt
      obtain ⟨fpl', e9a⟩ := e9 0 a0 fpl rfl
      obtain ⟨f9, e9b⟩ := e9 1 a [] rfl
      refine Classical.byContradiction fun hnx => ?_
      (obtain ⟨vs, hp, hv⟩ := q9.getPl (k := 1) rfl e9b) <;> (refine hnx ?_; clear hnx)
      have hf9 : f9 = [] := by
        have h2 := hv.mono (h' := s9.heap) (fun _ _ _ e => e)
        have : ∀ {ds : List Str} {rs : List Value} {fp : List Addr}, RepVs s9.heap (ds.map .str) rs fp → fp = [] := by
          intro ds
          induction ds with
          | nil => intro rs fp h; exact h.2
          | cons d ds ih => intro rs fp ⟨r, rs', f1, f2, _, e2, h1, h2⟩; rw [e2, h1.2, ih h2]; rfl
        exact this hv
      subst hf9
      have hfps : fps' = [a0 :: fpl', [a]] := two_at q9.len.symm e9a e9b
      subst hfps
      have ho9 : ∀ b ∈ fpI, b ∉ ownOf (compD D scope L z) [a0 :: fpl', [a]] := fun b hb hm => by
        have h1 := q9.fresh b hm
        rw [maxg_get, if_neg (ho' b hb)] at h1
        obtain ⟨o, e⟩ := W.alive _ _ it8 b hb
        exact (Option.some_ne_none _ (e.symm.trans h1)).elim
      have it9 : It (j + 1) s9 := W.stay _ _ _ it8 (fun b hb o e => q9.keep.hp b o (by rw [maxg_get, if_neg (ho' b hb)]; exact e)) fun i x e => q9.keep.gens i x (by simp) e
      have h9 : 1000 < sizeLine := by decide
      have hlen' : ((ys.take j).map DV.str).length ≤ 1000 := by simp; lia
      refine wpAny_list_append_plain hp (fun h' hp' hs' => ?_) (by rw [List.size_toArray, hv.length]; lia)
      have q9b := (q9.back kg8 (fun b o e => q8.zk b o e)).back kg (fun b o e => q7.zk b o e)
      have q11 := q9b.appended (k := 1) (f2 := []) (d := .str y) (r := .str y t) rfl hv ⟨⟨t, rfl⟩, rfl⟩ (by simp) (by simp) (t := s9.toks) hp' hs'
      have haI : a ∉ fpI := fun hm => ho9 a hm (own_fps (by (exact .tail _ (List.mem_append_right _ (.head _)))))
      refine ⟨xs.length - (j + 1), Nat.lt_of_lt_of_eq (Nat.sub_lt_sub_left hlt (Nat.lt_succ_self j)) hm.symm, j + 1, fpl', rfl, hlt, W.stay _ _ _ it9 (fun b hb o e => (hs'.2 b (fun hh => haI (hh ▸ hb))).trans e) (fun i x e => e), ?_, ho9⟩
      have hstep : (ys.take (j + 1)).map DV.str = (ys.take j).map DV.str ++ [.str y] := by
        rw [List.take_add_one, hy, List.map_append]; rfl
      rw [hstep]
      exact q11.weak (σ' := ⟨[(v, .ref 0)], [.other (S (j + 1)), .pl ((ys.take j).map DV.str ++ [.str y])]⟩) (fun y' w e => by
        have hm := mem_of_lookup e
        simp at hm
        obtain ⟨rfl, rfl⟩ := hm
        show List.lookup y' [(i, AV.dv d), (y', AV.ref 0)] = _
        have h0 : (y' == i) = false := by simpa using fun h : y' = i => hiv h.symm
        simp [List.lookup, h0]) rfl
  exact codeAny_compStart_list loop (wpAny_e (W.self A s4 0 _ it4 loop) fun _ _ h => h)
end
end Mine
end
section
open PySem PySem.Calls PyProof.Rows
set_option maxRecDepth 100000
namespace Mine
structure Up (X X' : Cx) : Prop where
  prog : X'.prog = X.prog
  w : X'.w = X.w
  tab : X'.C.tab = X.C.tab
  objs : ∀ p ∈ X.C.objs, p ∈ X'.C.objs
section
variable {X X' : Cx}
theorem Up.bs (u : Up X X') {h : Heap} (b : Bs X'.C h) : Bs X.C h :=
  ⟨b.nolim, fun p hp => b.held p (u.objs p hp), by obtain ⟨mg, mb, h1, h2, h3⟩ := b.glob; exact ⟨mg, mb, h1, h2, fun x v e => h3 x v (by rw [u.tab]; exact e)⟩⟩
theorem Up.fnAt (u : Up X X') {a : Addr} {st : Stmt} {pm cd doc : Value} (h : FnAt X a st pm cd doc) : FnAt X' a st pm cd doc :=
  ⟨by obtain ⟨o, h1, h2⟩ := h.1; exact ⟨o, u.objs _ h1, h2⟩, fun g b => h.2 g (u.bs b)⟩
theorem Up.fnG (u : Up X X') {i : Nat} {a : Addr} (h : FnG X i a) : FnG X' i a := by obtain ⟨pm, cd, doc, h1, h2⟩ := h; exact ⟨pm, cd, doc, by rw [u.tab]; exact h1, u.fnAt h2⟩
theorem Up.intTab (u : Up X X') {x : Str} {f : Int → Option Str} (h : IntTab X x f) : IntTab X' x f := by
  obtain ⟨d, F, h1, h2, h3, h4⟩ := h
  exact ⟨d, F, by rw [u.tab]; exact h1, h2, fun g b => by rw [u.prog, u.w]; exact h3 g (u.bs b), h4⟩
theorem Up.meth (u : Up X X') {f : Addr} {st : Stmt} (h : MethAt X f st) : MethAt X' f st := by
  obtain ⟨o, fd, h1, h2, h3, h4, h5, h6, h7, h8, h9, h10, h11, h12⟩ := h
  exact ⟨o, fd, u.objs _ h1, h2, h3, h4, h5, h6, h7, h8, h9, h10, h11, fun g b => h12 g (u.bs b)⟩
theorem Up.lexCls (u : Up X X') {K : LexK} {c1 : Addr} (h : LexCls X K) (hc : ∀ g, Bs X'.C g → g.CodeRec (.ref c1) readQ) : LexCls X' (kOf K c1) where
  cls := by
    refine Classical.byContradiction fun hnx => ?_
    (obtain ⟨nm, q, bs, sn, sub, col, dd, k0, k1, k2, k3, k5, newId, h1, h2⟩ := h.cls) <;> (refine hnx ?_; clear hnx)
    exact ⟨nm, q, bs, sn, sub, col, dd, k0, k1, k2, k3, k5, newId, u.objs _ h1, h2⟩
  ns := fun g b => h.ns g (u.bs b)
  ga := h.ga
  gh := h.gh
  sa := h.sa
  own := h.own
  mR := h.mR
  mG := h.mG
  mP := h.mP
  mI := h.mI
  aI := u.meth h.aI
  aR := u.meth h.aR
  aG := u.meth h.aG
  aP := u.meth h.aP
  code := hc
end
noncomputable def C2 (C : Gl) (P : Addr) (tb : Obj) (c1 : Addr) (oc : Obj) : Gl := ⟨C.tab, (P, tb) :: (c1, oc) :: C.objs⟩
theorem Ns_erase {h : Heap} {a P : Addr} {m : Str → Option Value} {ps : Array Value} (x : h.Ns a m) (hP : h.get? P = some (PySem.W.tabObj ps)) : (eraseH h [P]).Ns a m := by
  refine Classical.byContradiction fun hnx => ?_
  (obtain ⟨o, es, ep, e, hd, r⟩ := x) <;> (refine hnx ?_; clear hnx)
  refine ⟨o, es, ep, ?_, hd, r⟩
  rw [get?_erase, if_neg]
  · exact e
  · intro hm
    rw [List.mem_singleton.mp hm, hP] at e
    obtain rfl := Option.some.inj e; cases hd
theorem C2.down {C : Gl} {P c1 : Addr} {ps : Array Value} {oc : Obj} (hne : ∀ p ∈ C.objs, p.1 ≠ P) {h : Heap} (b : Bs (C2 C P (PySem.W.tabObj ps) c1 oc) h) : Bs C (eraseH h [P]) := by
  have hP := b.held (P, PySem.W.tabObj ps) List.mem_cons_self
  refine ⟨?_, fun p hp => ?_, ?_⟩
  · obtain ⟨mc, h1, h2⟩ := b.nolim
    exact ⟨mc, Ns_erase h1 hP, h2⟩
  · rw [get?_erase, if_neg (by simpa using hne p hp)]
    exact b.held p (List.mem_cons_of_mem _ (List.mem_cons_of_mem _ hp))
  · refine Classical.byContradiction fun hnx => ?_
    (obtain ⟨mg, mb, h1, h2, h3⟩ := b.glob) <;> (refine hnx ?_; clear hnx)
    exact ⟨mg, mb, Ns_erase h1 hP, Ns_erase h2 hP, h3⟩
theorem R.rebase {C C' : Gl} {D : FD} {g s : Shared} {σ : St} {fps : List (List Addr)} (q : R C D g σ fps s) {k : Nat} {o : AObj} {a0 : Addr} {fp0 : List Addr} (ho : σ.hp[k]? = some o) (e0 : fps[k]? = some (a0 :: fp0)) (loc' : List (Str × AV))
    (hb : Bs C' (eraseH s.heap (D.env.locals :: (D.cs ++ (a0 :: fp0)))))
    (hl : ∀ y v, loc'.lookup y = some v → ∃ v0, σ.loc.lookup y = some v0 ∧ ∀ r, v0.At D.z fps r → v.At (eraseH s.heap (D.env.locals :: (D.cs ++ (a0 :: fp0)))) [a0 :: fp0] r) :
    R C' ⟨D.env, D.cs, D.oc, eraseH s.heap (D.env.locals :: (D.cs ++ (a0 :: fp0)))⟩ { s with heap := eraseH s.heap (D.env.locals :: (D.cs ++ (a0 :: fp0))) } ⟨loc', [o]⟩ [a0 :: fp0] s := by
  have hsub : ∀ b, b ∈ D.env.locals :: (D.cs ++ (a0 :: fp0)) → b ∈ ownOf D fps := fun b hb => own_mono hb fun h => own_fps (mem_flatten_get e0 h)
  have hown : ∀ b, b ∈ ownOf (⟨D.env, D.cs, D.oc, eraseH s.heap (D.env.locals :: (D.cs ++ (a0 :: fp0)))⟩ : FD) [a0 :: fp0] ↔ b ∈ D.env.locals :: (D.cs ++ (a0 :: fp0)) := fun b => by simp [ownOf]
  refine ⟨hb, fun b o e => e, ⟨fun b o _ e => ?_, fun _ _ _ e => e, id, rfl⟩, q.bare, q.fk, q.eg, q.eb, ?_, fun b hb => ?_, ?_, ?_, q.csl, fun y c e => ?_, q.cown, q.celi, rfl, fun i o' f e1 e2 => ?_⟩
  · have e : (eraseH s.heap (D.env.locals :: (D.cs ++ (a0 :: fp0)))).get? b = some o := e
    rw [get?_erase] at e; split at e; cases e; exact e
  · have h := q.nd
    unfold ownOf at h ⊢
    refine List.Nodup.sublist (List.Sublist.cons_cons _ (List.Sublist.append_left ?_ _)) h
    simpa using List.sublist_flatten_of_mem (List.mem_of_getElem? e0)
  · show (eraseH s.heap _).get? b = none
    rw [get?_erase, if_pos ((hown b).mp hb)]
  · refine Classical.byContradiction fun hnx => ?_
    (obtain ⟨m, h1, h2⟩ := q.ns) <;> (refine hnx ?_; clear hnx)
    refine ⟨m, h1, fun y v e1 e2 => ?_⟩
    refine Classical.byContradiction fun hnx => ?_
    (obtain ⟨v0, h3, h4⟩ := hl y v e1) <;> (refine hnx ?_; clear hnx)
    obtain ⟨r, h5, h6⟩ := h2 y v0 h3 e2
    exact ⟨r, h5, h4 r h6⟩
  · intro y v e1 e2
    refine Classical.byContradiction fun hnx => ?_
    (obtain ⟨v0, h3, h4⟩ := hl y v e1) <;> (refine hnx ?_; clear hnx)
    refine Classical.byContradiction fun hnx => ?_
    (obtain ⟨c, r, h5, h6, h7⟩ := q.cel y v0 h3 e2) <;> (refine hnx ?_; clear hnx)
    exact ⟨c, r, h5, h6, h4 r h7⟩
  · rcases q.celo y c e with h | ⟨o', h⟩
    · exact .inl h
    · refine .inr ⟨o', ?_⟩
      show (eraseH s.heap _).get? c = _
      rw [get?_erase, if_neg fun hm => by
        have := q.fresh c (hsub c hm)
        rw [q.zk _ _ h] at this; cases this]
      exact q.keep.hp _ _ (q.zk _ _ h)
  · match i, e1, e2 with
    | 0, e1, e2 =>
      simp at e1 e2; subst e1 e2
      exact q.obj k _ _ ho e0
theorem R.freezeRef {C : Gl} {D : FD} {g s : Shared} {σ : St} {fps : List (List Addr)} (q : R C D g σ fps s) {k j : Nat} {a0 : Addr} {fp0 : List Addr} {xs : List DV} (e0 : fps[k]? = some (a0 :: fp0)) (hj : σ.hp[j]? = some (.lst xs) ∨ σ.hp[j]? = some (.pl xs)) (hne : j ≠ k) :
    ∀ r, (AV.ref j).At D.z fps r → (AV.dv (.lst xs)).At (eraseH s.heap (D.env.locals :: (D.cs ++ (a0 :: fp0)))) [a0 :: fp0] r := by
  rintro r ⟨a, fp, e, rfl⟩
  have hrep : Rep s.heap (.lst xs) (a :: fp) := by
    rcases hj with h | h
    · exact q.obj _ _ _ h e
    · exact (q.obj _ _ _ h e).pl_lst
  obtain ⟨a', fp', e', x⟩ := hrep
  cases e'
  refine ⟨_, x.mono fun b hb o ho => ?_⟩
  rw [get?_erase, if_neg]
  · exact ho
  · intro hm
    have hap := q.apart e hb
    rcases List.mem_cons.mp hm with rfl | hm
    · exact hap.1 rfl
    rcases List.mem_append.mp hm with hm | hm
    · exact hap.2.1 hm
    · exact hap.2.2 k _ (Ne.symm hne) e0 hm
theorem R.freezeDv {C : Gl} {D : FD} {g s : Shared} {σ : St} {fps : List (List Addr)} (q : R C D g σ fps s) {k : Nat} {a0 : Addr} {fp0 : List Addr} {d : DV} (e0 : fps[k]? = some (a0 :: fp0)) :
    ∀ r, (AV.dv d).At D.z fps r → (AV.dv d).At (eraseH s.heap (D.env.locals :: (D.cs ++ (a0 :: fp0)))) [a0 :: fp0] r := fun r x => by
  refine VR.keeps (h := D.z) x fun b o e => ?_
  rw [get?_erase, if_neg]
  · exact q.keep.hp _ _ (q.zk _ _ e)
  · intro hm
    have hb : b ∈ ownOf D fps := own_mono hm fun h => own_fps (mem_flatten_get e0 h)
    have := q.fresh b hb
    rw [q.zk _ _ e] at this; cases this
end Mine
end
section
open PySem PySem.Calls PyProof.Rows
set_option maxRecDepth 100000
namespace Mine
noncomputable def oneF (f : DV → Option DV) : IV → Option DV
  | .one d => f d
  | _ => none
theorem oneF_map (f : DV → Option DV) (ds : List DV) : (ds.map IV.one).filterMap (oneF f) = ds.filterMap f := by
  rw [List.filterMap_map]; rfl
noncomputable def rangeD (m : Nat) : List DV := (List.range m).map fun (j : Nat) => .int ((0 : Int) + (j : Int) * 1)
theorem rangeIV_eq (m : Nat) : rangeIV 0 1 m = (rangeD m).map .one := by
  unfold rangeIV rangeD; rw [List.map_map]; rfl
theorem pickD_map {α : Type} (f : α → DV) (ns : List α) (lo hi st : Option Int) : pickD (ns.map f) lo hi st = ((sliceRange (sliceBounds lo hi st ns.length).1 (sliceBounds lo hi st ns.length).2.1 (sliceBounds lo hi st ns.length).2.2).filterMap (ns[·]?)).map f := by
  unfold pickD
  rw [List.length_map, List.map_filterMap]
  congr 1
  funext i
  rw [List.getElem?_map]
theorem pickD_ints (ns : List Int) (lo hi st : Option Int) : pickD (ns.map .int) lo hi st = (pickNums ns lo hi st).map .int := pickD_map _ _ _ _ _
noncomputable def drawn (given : List Int) (k : Nat) (m : Int) (ns : List Int) : List Int := (List.range k).map fun (j : Nat) => (given.getD j 0 + (pickNums ns (some ((0 : Int) + (j : Int) * 1)) none (some (k : Int))).sum) % m
theorem drawn_bd {given : List Int} {k : Nat} {m : Int} {ns : List Int} (hm : 0 < m) : ∀ r ∈ drawn given k m ns, 0 ≤ r ∧ r < m := by
  intro r hr
  obtain ⟨j, _, rfl⟩ := List.mem_map.mp hr
  exact ⟨Int.emod_nonneg _ (by lia), Int.emod_lt_of_pos _ hm⟩
theorem freeOk {names : List (Str × NameKind)} {cap : List (Str × DV)} (h : names.all (fun x => x.2 != .free || (cap.map (·.1)).contains x.1) = true) : ∀ x ∈ names, x.2 = .free → ∃ d, (x.1, d) ∈ cap := by
  intro x hx hf
  have h1 := List.all_eq_true.mp h x hx
  rw [hf] at h1
  simp at h1
  obtain ⟨d, hd⟩ := h1
  exact ⟨d, hd⟩
section
variable {X : Cx} {n : Nat} {D : FD} {σ : St}
theorem EvF.mapC {scope : Scope} {iter elt : Expr} {pos py : Pos} {y : Str} (cap : List (Str × DV)) {ds : List DV} {J : St → Prop} (f : DV → DV) (hI : EvI X n D σ (.Name y py) iter (ds.map .one) J) (hJ : J σ) (hlen : ds.length ≤ 1000) (hsc : ∀ d ∈ ds, d.sc = true)
    (hkind : scope.kind = .function) (hnd : (scope.names.map (·.1)).Nodup) (hcap : ∀ p ∈ cap, Cap D σ p.1 p.2 ∧ scope.names.lookup p.1 = some .free) (hfree : ∀ x ∈ scope.names, x.2 = .free → ∃ d, (x.1, d) ∈ cap) (hy : ∀ L z, isOwnVar (compD D scope L z) y = true) (hyc : ∀ p ∈ cap, p.1 ≠ y)
    (turn : ∀ L z hp d, d ∈ ds → EvF X n (compD D scope L z) ⟨(y, .dv d) :: capL cap, hp⟩ elt (f d)) (hcn : (cap.map (·.1)).Nodup := by first | decide | (simp only [List.map_cons, List.map_nil]; decide))
    (hs : ∀ x, foldedSetIterable iter D.env x = pure x := by intro _; rfl) :
    EvF X n D σ (.ListComp elt [⟨.Name y py, iter, [], 0⟩] scope pos) (.lst (ds.map f)) := by
  have h := EvF.comp (elt := elt) (pos := pos) (ifs := []) cap (oneF fun d => some (f d)) hI hJ (by rw [List.length_map]; exact Nat.le_trans hlen (by decide)) hkind hnd hcap hfree (fun L z hp x hx => ?_) hs
  · rw [oneF_map] at h
    simpa using h
  · refine Classical.byContradiction fun hnx => ?_
    (obtain ⟨d, hd, rfl⟩ := List.mem_map.mp hx) <;> (refine hnx ?_; clear hnx)
    refine ⟨(y, .dv d) :: capL cap, ?_, As.name (hsc d hd) (hy L z), EvT.nil, turn L z hp d hd⟩
    have : ∀ (l : List (Str × DV)), (∀ p ∈ l, p.1 ≠ y ∧ (capL cap).lookup p.1 = some (.dv p.2)) → SubL (capL l) ((y, .dv d) :: capL cap) := by
      intro l
      induction l with
      | nil => intro _; trivial
      | cons p r ih =>
        intro hl
        refine ⟨?_, ih fun q hq => hl q (List.mem_cons_of_mem _ hq)⟩
        have h1 := hl p List.mem_cons_self
        rw [List.lookup_cons]
        have h0 : (p.1 == y) = false := by simpa using h1.1
        rw [show ((p.1, AV.dv p.2).1 == y) = false from h0]
        exact h1.2
    refine this cap fun p hp => ⟨hyc p hp, ?_⟩
    have h2 : (capL cap).map (·.1) = cap.map (·.1) := by unfold capL; rw [List.map_map]; rfl
    exact lookup_of_nd (l := capL cap) (p := (p.1, .dv p.2)) (by rw [h2]; exact hcn) (List.mem_map_of_mem (f := fun p => (p.1, AV.dv p.2)) hp)
end
end Mine
end
section
open PySem PySem.Calls PyProof.Rows
set_option maxRecDepth 100000
namespace Mine
structure LawG (X : Cx) (K : LexK) : Prop where
  esc : ∃ a, FnG X iI a
  strip : ∃ a, FnG X 6 a
  chk : ∃ a, FnG X 7 a
  flags : IntTab X (Str.ofString "COMPILER_FLAG_NAMES") flagName
  pf : ∃ a, FnG X 2 a
  vi : ∃ a, FnG X 3 a
  cls : X.C.tab.lookup (Str.ofString "_netrclex") = some (.ref K.C)
  oct : ∃ a, FnG X 12 a
  wri : ∃ a, FnG X 13 a
  num : ∃ a, FnG X 14 a
  range : X.C.tab.lookup (Str.ofString "range") = some (.type "range")
  enum : X.C.tab.lookup (Str.ofString "enumerate") = some (.type "enumerate")
  len : X.C.tab.lookup (Str.ofString "len") = some (.builtin "len")
  chr : X.C.tab.lookup (Str.ofString "chr") = some (.builtin "chr")
  ord : X.C.tab.lookup (Str.ofString "ord") = some (.builtin "ord")
  hex : X.C.tab.lookup (Str.ofString "hex") = some (.builtin "hex")
  sum : X.C.tab.lookup (Str.ofString "sum") = some (.builtin "sum")
  min : X.C.tab.lookup (Str.ofString "min") = some (.builtin "min")
  max : X.C.tab.lookup (Str.ofString "max") = some (.builtin "max")
  iter : X.C.tab.lookup (Str.ofString "iter") = some (.builtin "iter")
  next : X.C.tab.lookup (Str.ofString "next") = some (.builtin "next")
theorem LawG.up {X X' : Cx} {K : LexK} (u : Up X X') (h : LawG X K) (c1 : Addr) : LawG X' (kOf K c1) where
  esc := by obtain ⟨a, x⟩ := h.esc; exact ⟨a, u.fnG x⟩
  strip := by obtain ⟨a, x⟩ := h.strip; exact ⟨a, u.fnG x⟩
  chk := by obtain ⟨a, x⟩ := h.chk; exact ⟨a, u.fnG x⟩
  flags := u.intTab h.flags
  pf := by obtain ⟨a, x⟩ := h.pf; exact ⟨a, u.fnG x⟩
  vi := by obtain ⟨a, x⟩ := h.vi; exact ⟨a, u.fnG x⟩
  cls := by rw [u.tab]; exact h.cls
  oct := by obtain ⟨a, x⟩ := h.oct; exact ⟨a, u.fnG x⟩
  wri := by obtain ⟨a, x⟩ := h.wri; exact ⟨a, u.fnG x⟩
  num := by obtain ⟨a, x⟩ := h.num; exact ⟨a, u.fnG x⟩
  range := by rw [u.tab]; exact h.range
  enum := by rw [u.tab]; exact h.enum
  len := by rw [u.tab]; exact h.len
  chr := by rw [u.tab]; exact h.chr
  ord := by rw [u.tab]; exact h.ord
  hex := by rw [u.tab]; exact h.hex
  sum := by rw [u.tab]; exact h.sum
  min := by rw [u.tab]; exact h.min
  max := by rw [u.tab]; exact h.max
  iter := by rw [u.tab]; exact h.iter
  next := by rw [u.tab]; exact h.next
theorem wrBody_le (b : Bool) (i : Int) : (wrBody b (octets i).cps.toList).length ≤ 4 := by
  have h1 := wrBody_len b (octets i).cps.toList Str.empty
  have h2 := octets_len i
  have h4 : Str.empty.length = 0 := rfl
  unfold wrBody; lia
theorem written_len (i : Int) : (written i).length ≤ 6 := by
  unfold written
  have h1 := wrBody_le true i
  have h2 := wrBody_le false i
  split
  · rw [Str.length_append]
    have : (Str.ofString "\n").length = 1 := rfl
    omega
  · rw [Str.length_append, Str.length_append]
    have : (Str.ofString "\"").length = 1 := rfl
    omega
noncomputable def wrF : DV → DV
  | .int i => .str (written i)
  | d => d
theorem wrF_map (rows : List Int) : (rows.map written).map DV.str = (rows.map DV.int).map wrF := by rw [List.map_map, List.map_map]; rfl
noncomputable def given1 : List Int := [1793, 43, 34, 652, 85]
section
variable {X : Cx} {K : LexK} {n : Nat}
noncomputable def law1S : Stmt := topS 17
noncomputable abbrev law1D (pm cd doc : Value) (a L : Addr) (z : Heap) : FD := fnD (dFd law1S pm cd doc) L a z
noncomputable def text1 (rows : List Int) : Str := Txt.join (Str.ofString "") (rows.map written)
theorem law1_first {aS c P : Addr} (hg : LawG X K) (hc : LexCls X K) (hS : StrmFn X aS c P) {pm cd doc : Value} {a L : Addr} {z : Heap} {ns : List Int} (hns : ns.length ≤ 63) :
    Ex X (n + 6) (law1D pm cd doc a L z) ((dBody law1S).take 4) ⟨[(Str.ofString "script", .dv (.lst (ns.map .int)))], [.other (tabS P #[] [])]⟩ (fun fl σ' => fl = .next ∧ ∃ c1 c2,
      σ'.hp = [.other (tabS P (tabFull c1 c2) [(c1, readQ), (c2, lamQ)]), .lst (given1.map .int), .lst ((drawn given1 5 4096 ns).map .int), .other (lexS (kOf K c1) ⟨text1 (drawn given1 5 4096 ns), 0, [], 1⟩)] ∧
      σ'.loc.lookup (Str.ofString "drawn") = some (.ref 2) ∧ σ'.loc.lookup (Str.ofString "text") = some (.dv (.str (text1 (drawn given1 5 4096 ns)))) ∧ σ'.loc.lookup (Str.ofString "lexer") = some (.ref 3)) := by
  have hs63 : (ns.map DV.int).length ≤ sizeLine := by rw [List.length_map]; exact Nat.le_trans hns (by decide)
  have hsc : ∀ d ∈ ns.map DV.int, d.sc = true := by intro d hd; obtain ⟨i, _, rfl⟩ := List.mem_map.mp hd; rfl
  refine Ex.assign (d := .lst (given1.map .int)) (EvF.list (EvOs.cons EvO.int.toO (EvOs.cons EvO.int.toO (EvOs.cons EvO.int.toO (EvOs.cons EvO.int.toO (EvOs.cons EvO.int.toO EvOs.nil))))) (sc_all rfl)) rfl ?_
  have hrows : (rangeIV 0 1 (5 : Int).toNat).filterMap (oneF fun d => match d with
      | .int i => some (.int ((given1.getD i.toNat 0 + (pickNums ns (some i) none (some ((5 : Nat) : Int))).sum) % 4096))
      | _ => none) = (drawn given1 5 4096 ns).map .int := by
    rw [rangeIV_eq, oneF_map]; rfl
  refine Ex.assignComp (J := fun _ => True) (xs := rangeIV 0 1 (5 : Int).toNat) [(Str.ofString "given", .lst (given1.map .int)), (Str.ofString "script", .lst (ns.map .int))] (oneF fun d => match d with
      | .int i => some (.int ((given1.getD i.toNat 0 + (pickNums ns (some i) none (some ((5 : Nat) : Int))).sum) % 4096))
      | _ => none) (EvI.range1 rfl hg.range EvO.int.toO (by decide) (by decide)) trivial (by decide) rfl (by decide) (fun p hp => ?_) (freeOk rfl) (fun L' z' hp x hx => ?_) rfl rfl ?_
  · revert hp; revert p; refine all2 ?_ ?_
    · exact ⟨⟨.inl rfl, .inr ⟨1, _, rfl, .inl rfl, rfl⟩⟩, rfl⟩
    · exact ⟨⟨.inl rfl, .inl rfl⟩, rfl⟩
  · rw [rangeIV_eq] at hx
    obtain ⟨d, hd, rfl⟩ := List.mem_map.mp hx
    obtain ⟨j, hj, rfl⟩ := List.mem_map.mp hd
    have hj : j < 5 := List.mem_range.mp hj
    refine ⟨_, ⟨rfl, rfl, trivial⟩, As.name rfl rfl, EvT.nil, ?_⟩
    have hgi : (seqIndex? ((0 : Int) + (j : Int) * 1) (given1.map DV.int).length).bind ((given1.map DV.int)[·]?) = some (.int (given1.getD ((0 : Int) + (j : Int) * 1).toNat 0)) := by
      match j, hj with
      | 0, _ => rfl
      | 1, _ => rfl
      | 2, _ => rfl
      | 3, _ => rfl
      | 4, _ => rfl
    refine EvF.bin (EvF.bin (EvO.item (EvO.name (d := .lst (given1.map .int)) rfl rfl) (EvO.name rfl rfl) hgi (by decide)) (EvF.callB rfl hg.sum (EvOs.cons (d := .lst ((pickNums ns (some ((0 : Int) + (j : Int) * 1)) none (some ((5 : Nat) : Int))).map .int)) ?_ EvOs.nil) CallO.sum).toO .addI).toO EvO.int.toO (.modI (by decide))
    rw [← pickD_ints]
    exact (EvF.slice (EvO.name (d := .lst (ns.map .int)) rfl rfl) (EvPart.some (EvO.name rfl rfl)) EvPart.none (EvPart.some EvO.int.toO) (by decide) hs63 hsc).toO
  rw [hrows]
  refine Classical.byContradiction fun hnx => ?_
  (obtain ⟨aW, pmW, cdW, docW, hvW, hfW⟩ := hg.wri) <;> (refine hnx ?_; clear hnx)
  obtain ⟨aO, hO⟩ := hg.oct
  have hbd := drawn_bd (given := given1) (k := 5) (m := 4096) (ns := ns) (by decide)
  have hlen3 : (drawn given1 5 4096 ns).length = 5 := by rfl
  refine Ex.assign (d := .str (text1 (drawn given1 5 4096 ns))) (EvF.join EvO.str.toO (texts := (drawn given1 5 4096 ns).map written) ?_ (joinOk_of ?_)) rfl ?_
  · rw [wrF_map]
    refine (EvF.mapC (J := fun σ' => σ'.hp[2]? = some (.lst ((drawn given1 5 4096 ns).map .int)) ∨ σ'.hp[2]? = some (.pl ((drawn given1 5 4096 ns).map .int))) [] wrF (EvI.own (k := 2) rfl rfl (by intro d hd; obtain ⟨i, _, rfl⟩ := List.mem_map.mp hd; rfl) (.inl rfl)) (.inl rfl) (by rw [List.length_map, hlen3]; decide) (by intro d hd; obtain ⟨i, _, rfl⟩ := List.mem_map.mp hd; rfl) rfl (by decide) (by simp) (freeOk rfl) (fun L' z' => rfl) (by simp) (fun L' z' hp d hd => ?_)).toO
    obtain ⟨i, hi, rfl⟩ := List.mem_map.mp hd
    have hb := hbd i hi
    exact EvF.call rfl hvW hfW.isFn (EvOs.cons (EvO.name (d := .int i) rfl rfl) EvOs.nil) (CallO.le (written_ok (n := n) hfW hO hg.chr i hb.1 (by omega)) (by omega))
  · have e1 := sum_le (ys := (drawn given1 5 4096 ns).map written) (m := 6) (fun w hw => by obtain ⟨i, _, rfl⟩ := List.mem_map.mp hw; exact written_len i)
    have e2 : ((drawn given1 5 4096 ns).map written).length = 5 := by rw [List.length_map, hlen3]
    have e3 : (Str.ofString "").length = 0 := rfl
    rw [e3]; omega
  · refine Ex.assignX (EvX.lexFirst (n := n + 4) hS hc rfl rfl hg.cls (EvO.name rfl rfl) rfl) rfl fun σ' v hv => Ex.nil ⟨rfl, ?_⟩
    refine Classical.byContradiction fun hnx => ?_
    (obtain ⟨c1, c2, rfl, rfl⟩ := hv) <;> (refine hnx ?_; clear hnx)
    exact ⟨c1, c2, rfl, rfl, rfl, rfl⟩
end
end Mine
end
section
open PySem PySem.Calls PyProof.Rows
set_option maxRecDepth 100000
namespace Mine
noncomputable abbrev DV.ok (d : DV) : Prop := d.py.canLay0 = true
theorem ok_lst {xs : List DV} (h : ∀ d ∈ xs, d.ok) : (DV.lst xs).ok := by
  have : ∀ xs : List DV, (∀ d ∈ xs, d.ok) → PyData.canLayAll0 (DV.pys xs) = true := by
    intro xs
    induction xs with
    | nil => intro _; rfl
    | cons d ds ih =>
      intro h
      show PyData.canLayAll0 (d.py :: DV.pys ds) = true
      rw [PyData.canLayAll0, h d List.mem_cons_self, ih fun e he => h e (List.mem_cons_of_mem _ he)]
      rfl
  show PyData.canLay0 (.list (DV.pys xs)) = true
  rw [PyData.canLay0]; exact this xs h
theorem ok_int (i : Int) : (DV.int i).ok := rfl
theorem ok_str {x : Str} (h : PyData.strOk x = true) : (DV.str x).ok := by show PyData.canLay0 (.str x) = true; rw [PyData.canLay0]; exact h
theorem ok_ints (ns : List Int) : (DV.lst (ns.map .int)).ok := ok_lst fun d hd => by obtain ⟨i, _, rfl⟩ := List.mem_map.mp hd; rfl
theorem ok_strs {ns : List Str} (h : ∀ w ∈ ns, PyData.strOk w = true) : (DV.lst (ns.map .str)).ok := ok_lst fun d hd => by obtain ⟨i, hi, rfl⟩ := List.mem_map.mp hd; exact ok_str (h i hi)
noncomputable def DV.deep (k : Nat) (d : DV) : Prop := d.py.depth ≤ k
theorem deep_sc {d : DV} (h : d.sc = true) : d.deep 0 := by
  cases d with
  | lst xs => cases h
  | _ => exact Nat.zero_le _
theorem deep_lst {k : Nat} {xs : List DV} (h : ∀ d ∈ xs, d.deep k) : (DV.lst xs).deep (k + 1) := by
  have : ∀ xs : List DV, (∀ d ∈ xs, d.deep k) → PyData.depthAll (DV.pys xs) ≤ k := by
    intro xs
    induction xs with
    | nil => intro _; exact Nat.zero_le _
    | cons d ds ih =>
      intro h
      show PyData.depthAll (d.py :: DV.pys ds) ≤ k
      rw [PyData.depthAll]
      exact Nat.max_le.mpr ⟨h d List.mem_cons_self, ih fun e he => h e (List.mem_cons_of_mem _ he)⟩
  show PyData.depth (.list (DV.pys xs)) ≤ k + 1
  rw [PyData.depth]
  exact Nat.succ_le_succ (this xs h)
theorem deep_ints (ns : List Int) : (DV.lst (ns.map .int)).deep 1 := deep_lst fun d hd => by obtain ⟨i, _, rfl⟩ := List.mem_map.mp hd; exact deep_sc rfl
theorem deep_strs (ns : List Str) : (DV.lst (ns.map .str)).deep 1 := deep_lst fun d hd => by obtain ⟨i, _, rfl⟩ := List.mem_map.mp hd; exact deep_sc rfl
section
variable {X : Cx} {n : Nat} {D : FD} {σ : St}
theorem EvB.neR {l r : Expr} {p : Pos} {a : DV} {k : Nat} (h1 : EvO X n D σ l a) (h2 : EvO X n D σ r a) (ho : a.ok) (hd : a.deep k) (hk : k ≤ 100 := by decide) (hm : behindInMarks .NotEq r = false := by with_unfolding_all rfl) :
    EvB X n D σ (.Compare l [.NotEq] [r] p) false := by
  have h := EvB.neL (p := p) h1 h2 ho ho (Nat.le_trans (Nat.min_le_left _ _) (Nat.le_trans hd hk)) hm
  have e : PyData.eqv a.py a.py = true := SeqAt.eqv_refl _ ho
  rw [e] at h
  exact h
noncomputable def EvZ (X : Cx) (n : Nat) (D : FD) (σ : St) (e : Expr) (d : DV) : Prop :=
  ∀ A g fps s, AOk A n → R X.C D g σ fps s → wpF X A (eval e D.env) (fun r s' => Kp s s' ∧ VR D.z d r) s
theorem EvZ.name {x : Str} {p : Pos} {d : DV} (hl : σ.loc.lookup x = some (.dv d)) (hk : isVar D x = true) : EvZ X n D σ (.Name x p) d := fun A g fps s hA q =>
  wpF_mono (EvA.name hl hk A g fps s hA q) fun r s1 hqp => by obtain ⟨k1, hr⟩ := hqp; exact ⟨k1, hr⟩
theorem EvZ.item {o i : Expr} {p : Pos} {xs : List DV} {j : Nat} {d : DV} (h1 : EvZ X n D σ o (.lst xs)) (h2 : EvO X n D σ i (.int (j : Int))) (hx : xs[j]? = some d) (hz : xs.length ≤ 1000)
    (hs : ∀ a t, subscripted i false (.ref a) (.int (j : Int) t) = operate [.ref a, .int (j : Int) t] (getItem (.ref a) (.int (j : Int) t)) := by intro _ _; with_unfolding_all rfl) : EvZ X n D σ (.Subscript o i p) d := fun A g fps s hA q => by
  refine Subscript_ (wpF_mono (h1 A g fps s hA q) fun ra s1 ⟨k1, va⟩ => wpF_mono (h2 A g fps s1 hA (q.ext k1)) fun rb s2 hq1 => ?_)
  obtain ⟨k2, vb⟩ := hq1
  obtain ⟨t, rfl⟩ := vb.int
  obtain ⟨a, vs, rfl, hl, hv⟩ := va.lst
  have up : ∀ b o, D.z.get? b = some o → s2.heap.get? b = some o := fun b o e => (k1.trans k2).hp b o (q.keep.hp b o (q.zk b o e))
  refine Classical.byContradiction fun hnx => ?_
  (obtain ⟨r, hr, vr⟩ := hv.get hx) <;> (refine hnx ?_; clear hnx)
  have hj : j < xs.length := (List.getElem?_eq_some_iff.mp hx).1
  have hl2 : s2.heap.IsList a vs.toArray := by obtain ⟨o, e, r⟩ := hl; exact ⟨o, up _ _ e, r⟩
  exact tail_any hl2.typeIs list_getitem_lookup (wpAny_getItem_list hl2 (by (exact Int.ofNat_nonneg _)) (by omega) (by simpa using hr) ⟨k1.trans k2, vr⟩) (hs _ _)
theorem EvI.z {J : St → Prop} {target e : Expr} {xs : List DV} (ht : (∃ x p, target = .Name x p) ∨ (∃ elts k p, target = .Tuple elts k p)) (h : EvZ X n D σ e (.lst xs)) : EvI X n D σ target e (xs.map .one) J := fun A g fps s hA q =>
  wpF_mono (h A g fps s hA q) fun r s1 ⟨k1, f, hr⟩ => list_iter hA ht q k1 (hr.mono fun b _ o e => (q.keep.trans k1).hp b o (q.zk b o e)) fun b hb hm => by
    obtain ⟨o, ho⟩ := hr.alive b hb
    have := q.zk _ _ ho
    rw [q.fresh b hm] at this; cases this
end
end Mine
end
section
open PySem PySem.Calls PyProof.Rows
set_option maxRecDepth 100000
namespace Mine
theorem filterMap_if {α β : Type} (p : α → Bool) (g : α → β) : ∀ l : List α, l.filterMap (fun j => if p j = true then some (g j) else none) = (l.filter p).map g
  | [] => rfl
  | a :: l => by
    rw [List.filterMap_cons, List.filter_cons]
    by_cases h : p a = true
    · rw [if_pos h, if_pos h, filterMap_if p g l]; rfl
    · rw [if_neg h, if_neg h, filterMap_if p g l]
theorem subCap {cap : List (Str × DV)} {y : Str} {d : DV} (hyc : ∀ p ∈ cap, p.1 ≠ y) (hcn : (cap.map (·.1)).Nodup) : SubL (capL cap) ((y, .dv d) :: capL cap) := by
  have : ∀ (l : List (Str × DV)), (∀ p ∈ l, p.1 ≠ y ∧ (capL cap).lookup p.1 = some (.dv p.2)) → SubL (capL l) ((y, .dv d) :: capL cap) := by
    intro l
    induction l with
    | nil => intro _; trivial
    | cons p r ih =>
      intro hl
      refine ⟨?_, ih fun q hq => hl q (List.mem_cons_of_mem _ hq)⟩
      have h1 := hl p List.mem_cons_self
      rw [List.lookup_cons]
      have h0 : (p.1 == y) = false := by simpa using h1.1
      rw [show ((p.1, AV.dv p.2).1 == y) = false from h0]
      exact h1.2
  refine this cap fun p hp => ⟨hyc p hp, ?_⟩
  have h2 : (capL cap).map (·.1) = cap.map (·.1) := by unfold capL; rw [List.map_map]; rfl
  exact lookup_of_nd (l := capL cap) (p := (p.1, .dv p.2)) (by rw [h2]; exact hcn) (List.mem_map_of_mem (f := fun p => (p.1, AV.dv p.2)) hp)
section
variable {X : Cx} {n : Nat} {D : FD} {σ : St} {Φ : AFl → St → Prop} {rest : List Stmt}
theorem Ex.assignMapC {scope : Scope} {iter elt : Expr} {pos py p spos : Pos} {x y : Str} (cap : List (Str × DV)) {ds : List DV} {J : St → Prop} (f : DV → DV) (hI : EvI X n D σ (.Name y py) iter (ds.map .one) J) (hJ : J σ) (hlen : ds.length ≤ 1000) (hsc : ∀ d ∈ ds, d.sc = true)
    (hkind : scope.kind = .function) (hnd : (scope.names.map (·.1)).Nodup) (hcap : ∀ p ∈ cap, Cap D σ p.1 p.2 ∧ scope.names.lookup p.1 = some .free) (hfree : ∀ x ∈ scope.names, x.2 = .free → ∃ d, (x.1, d) ∈ cap) (hy : ∀ L z, isOwnVar (compD D scope L z) y = true) (hyc : ∀ p ∈ cap, p.1 ≠ y)
    (turn : ∀ L z hp d, d ∈ ds → EvF X n (compD D scope L z) ⟨(y, .dv d) :: capL cap, hp⟩ elt (f d)) (hk : isOwnVar D x = true) (hsw : swapsWith (.ListComp elt [⟨.Name y py, iter, [], 0⟩] scope pos) (some (.Name x p)) spos.line D.env = pure true)
    (hr : Ex X n D rest ⟨(x, .ref σ.hp.length) :: σ.loc, σ.hp ++ [.lst (ds.map f)]⟩ Φ) (hcn : (cap.map (·.1)).Nodup := by first | decide | (simp only [List.map_cons, List.map_nil]; decide))
    (hs : ∀ x, foldedSetIterable iter D.env x = pure x := by intro _; rfl) :
    Ex X n D (.Assign [.Name x p] (.ListComp elt [⟨.Name y py, iter, [], 0⟩] scope pos) spos :: rest) σ Φ := by
  refine Ex.assignComp (elt := elt) (pos := pos) (ifs := []) cap (oneF fun d => some (f d)) hI hJ (by rw [List.length_map]; exact Nat.le_trans hlen (by decide)) hkind hnd hcap hfree (fun L z hp x hx => ?_) hk hsw ?_ hs
  · refine Classical.byContradiction fun hnx => ?_
    (obtain ⟨d, hd, rfl⟩ := List.mem_map.mp hx) <;> (refine hnx ?_; clear hnx)
    exact ⟨(y, .dv d) :: capL cap, subCap hyc hcn, As.name (hsc d hd) (hy L z), EvT.nil, turn L z hp d hd⟩
  · have e : ds.filterMap (fun d => some (f d)) = ds.map f := by simp
    rw [oneF_map, e]
    exact hr
theorem EvF.filtC {scope : Scope} {iter elt test : Expr} {pos py : Pos} {y : Str} (cap : List (Str × DV)) {ds : List DV} {J : St → Prop} (p : DV → Bool) (f : DV → DV) (hI : EvI X n D σ (.Name y py) iter (ds.map .one) J) (hJ : J σ) (hlen : ds.length ≤ 1000) (hsc : ∀ d ∈ ds, d.sc = true)
    (hkind : scope.kind = .function) (hnd : (scope.names.map (·.1)).Nodup) (hcap : ∀ p ∈ cap, Cap D σ p.1 p.2 ∧ scope.names.lookup p.1 = some .free) (hfree : ∀ x ∈ scope.names, x.2 = .free → ∃ d, (x.1, d) ∈ cap) (hy : ∀ L z, isOwnVar (compD D scope L z) y = true) (hyc : ∀ p ∈ cap, p.1 ≠ y)
    (tst : ∀ L z hp d, d ∈ ds → EvB X n (compD D scope L z) ⟨(y, .dv d) :: capL cap, hp⟩ test (p d)) (turn : ∀ L z hp d, d ∈ ds → p d = true → EvF X n (compD D scope L z) ⟨(y, .dv d) :: capL cap, hp⟩ elt (f d)) (hcn : (cap.map (·.1)).Nodup := by first | decide | (simp only [List.map_cons, List.map_nil]; decide))
    (hs : ∀ x, foldedSetIterable iter D.env x = pure x := by intro _; rfl) :
    EvF X n D σ (.ListComp elt [⟨.Name y py, iter, [test], 0⟩] scope pos) (.lst ((ds.filter p).map f)) := by
  have h := EvF.comp (elt := elt) (pos := pos) (ifs := [test]) cap (oneF fun d => if p d = true then some (f d) else none) hI hJ (by rw [List.length_map]; exact Nat.le_trans hlen (by decide)) hkind hnd hcap hfree (fun L z hp x hx => ?_) hs
  · rw [oneF_map, filterMap_if] at h
    exact h
  · refine Classical.byContradiction fun hnx => ?_
    (obtain ⟨d, hd, rfl⟩ := List.mem_map.mp hx) <;> (refine hnx ?_; clear hnx)
    refine ⟨(y, .dv d) :: capL cap, subCap hyc hcn, As.name (hsc d hd) (hy L z), ?_⟩
    have ht := EvT.one (tst L z hp d hd)
    by_cases hb : p d = true
    · have e : oneF (fun d => if p d = true then some (f d) else none) (.one d) = some (f d) := by show (if _ then _ else _) = _; rw [if_pos hb]
      rw [e]
      rw [hb] at ht
      exact ⟨ht, turn L z hp d hd hb⟩
    · have e : oneF (fun d => if p d = true then some (f d) else none) (.one d) = none := by show (if _ then _ else _) = _; rw [if_neg hb]
      rw [e]
      have hb' : p d = false := by simpa using hb
      rw [hb'] at ht
      exact ht
theorem Ex.assignFiltC {scope : Scope} {iter elt test : Expr} {pos py q spos : Pos} {x y : Str} (cap : List (Str × DV)) {ds : List DV} {J : St → Prop} (p : DV → Bool) (f : DV → DV) (hI : EvI X n D σ (.Name y py) iter (ds.map .one) J) (hJ : J σ) (hlen : ds.length ≤ 1000) (hsc : ∀ d ∈ ds, d.sc = true)
    (hkind : scope.kind = .function) (hnd : (scope.names.map (·.1)).Nodup) (hcap : ∀ p ∈ cap, Cap D σ p.1 p.2 ∧ scope.names.lookup p.1 = some .free) (hfree : ∀ x ∈ scope.names, x.2 = .free → ∃ d, (x.1, d) ∈ cap) (hy : ∀ L z, isOwnVar (compD D scope L z) y = true) (hyc : ∀ p ∈ cap, p.1 ≠ y)
    (tst : ∀ L z hp d, d ∈ ds → EvB X n (compD D scope L z) ⟨(y, .dv d) :: capL cap, hp⟩ test (p d)) (turn : ∀ L z hp d, d ∈ ds → p d = true → EvF X n (compD D scope L z) ⟨(y, .dv d) :: capL cap, hp⟩ elt (f d)) (hk : isOwnVar D x = true) (hsw : swapsWith (.ListComp elt [⟨.Name y py, iter, [test], 0⟩] scope pos) (some (.Name x q)) spos.line D.env = pure true)
    (hr : Ex X n D rest ⟨(x, .ref σ.hp.length) :: σ.loc, σ.hp ++ [.lst ((ds.filter p).map f)]⟩ Φ) (hcn : (cap.map (·.1)).Nodup := by first | decide | (simp only [List.map_cons, List.map_nil]; decide))
    (hs : ∀ x, foldedSetIterable iter D.env x = pure x := by intro _; rfl) :
    Ex X n D (.Assign [.Name x q] (.ListComp elt [⟨.Name y py, iter, [test], 0⟩] scope pos) spos :: rest) σ Φ := by
  refine Ex.assignComp (elt := elt) (pos := pos) (ifs := [test]) cap (oneF fun d => if p d = true then some (f d) else none) hI hJ (by rw [List.length_map]; exact Nat.le_trans hlen (by decide)) hkind hnd hcap hfree (fun L z hp x hx => ?_) hk hsw ?_ hs
  · obtain ⟨d, hd, rfl⟩ := List.mem_map.mp hx
    refine ⟨(y, .dv d) :: capL cap, subCap hyc hcn, As.name (hsc d hd) (hy L z), ?_⟩
    have ht := EvT.one (tst L z hp d hd)
    by_cases hb : p d = true
    · have e : oneF (fun d => if p d = true then some (f d) else none) (.one d) = some (f d) := by show (if _ then _ else _) = _; rw [if_pos hb]
      rw [e]
      rw [hb] at ht
      exact ⟨ht, turn L z hp d hd hb⟩
    · have e : oneF (fun d => if p d = true then some (f d) else none) (.one d) = none := by show (if _ then _ else _) = _; rw [if_neg hb]
      rw [e]
      have hb' : p d = false := by simpa using hb
      rw [hb'] at ht
      exact ht
  · rw [oneF_map, filterMap_if]
    exact hr
end
noncomputable def tokN (st : LexSt) : Nat → LexSt
  | 0 => st
  | j + 1 => (getTok (tokN st j)).2
theorem tokN_1 : ∀ (st : LexSt), tokN st 0 = st := by intros; rfl
theorem tokN_2 : ∀ (st : LexSt) (j : Nat), tokN st (j + 1) = (getTok (tokN st j)).snd := by intros; rfl
structure LexOk (text : Str) (ws : List Str) : Prop where
  fine : ∀ j, j < ws.length → (tokN ⟨text, 0, [], 1⟩ j).Fine
  tok : ∀ j w, ws[j]? = some w → (getTok (tokN ⟨text, 0, [], 1⟩ j)).1 = w
  line : (tokN ⟨text, 0, [], 1⟩ ws.length).line = 1 + Txt.count text (Str.ofString "\n")
noncomputable def octF : DV → DV
  | .int i => .str (octets i)
  | d => d
theorem octF_map (rows : List Int) : (rows.map octets).map DV.str = (rows.map DV.int).map octF := by rw [List.map_map, List.map_map]; rfl
noncomputable def varN (w : Str) : Option Int := varint (w.cps.toList.map fun (c : Nat) => (c : Int))
end Mine
end
section
open PySem PySem.Calls PyProof.Rows
set_option maxRecDepth 100000
namespace Mine
section
variable {X : Cx} {K : LexK} {n : Nat}
theorem sc_ints (ns : List Int) : ∀ d ∈ ns.map DV.int, d.sc = true := by intro d hd; obtain ⟨i, _, rfl⟩ := List.mem_map.mp hd; rfl
theorem sc_strs (ns : List Str) : ∀ d ∈ ns.map DV.str, d.sc = true := by intro d hd; obtain ⟨i, _, rfl⟩ := List.mem_map.mp hd; rfl
theorem law2_second (hg : LawG X K) (hc : LexCls X K) {pm cd doc : Value} {a L : Addr} {z : Heap} {rows : List Int} {text : Str} (h3 : rows.length = 5) (hb : ∀ r ∈ rows, 0 ≤ r ∧ r < 4096) (hlex : LexOk text (rows.map octets)) (hvar : ∀ r ∈ rows, varN (octets r) = some r) (hoc : ∀ r ∈ rows, PyData.strOk (octets r) = true)  :
    Ex X (n + 6) (law1D pm cd doc a L z) (((dBody law1S).drop 4).take 4) ⟨[(Str.ofString "drawn", .dv (.lst (rows.map .int))), (Str.ofString "text", .dv (.str text)), (Str.ofString "lexer", .ref 0)], [.other (lexS K ⟨text, 0, [], 1⟩)]⟩ (fun fl σ' => fl = .next ∧
      σ'.hp = [.other (lexS K (tokN ⟨text, 0, [], 1⟩ 5)), .lst ((rows.map octets).map .str), .lst (rows.map .int)] ∧
      σ'.loc.lookup (Str.ofString "drawn") = some (.dv (.lst (rows.map .int))) ∧ σ'.loc.lookup (Str.ofString "numbers") = some (.ref 2) ∧ σ'.loc.lookup (Str.ofString "words") = some (.ref 1) ∧ σ'.loc.lookup (Str.ofString "lexer") = some (.ref 0)) := by
  have hol : ∀ r : Int, (octets r).length ≤ 2 := fun r => octets_len r
  have hw3 : (rows.map octets).length = 5 := by rw [List.length_map, h3]
  refine Ex.assignCompM (v := Str.ofString "lexer") (k := 0) (S := fun j => lexS K (tokN ⟨text, 0, [], 1⟩ j)) (ys := rows.map octets) (xs := rangeIV 0 1 (5 : Int).toNat) (EvI.range1 rfl hg.range EvO.int.toO (by decide) (by decide)) (by rw [rangeIV_len, hw3]; rfl) (by rw [hw3]; decide) (fun x hx => ?_) rfl (by decide) rfl rfl (.inl rfl) rfl (fun x hx hf => ?_) (fun _ _ => rfl) (by decide) (fun L' z' j d y o' hx hy => ?_) rfl rfl ?_
  · rw [rangeIV_eq] at hx
    obtain ⟨d, hd, rfl⟩ := List.mem_map.mp hx
    obtain ⟨j, _, rfl⟩ := List.mem_map.mp hd
    exact ⟨_, rfl, rfl⟩
  · have hx : x ∈ [(Str.ofString ".0", NameKind.local), (Str.ofString "i", NameKind.local), (Str.ofString "lexer", NameKind.free)] := hx
    revert hf; revert hx; revert x
    refine all3 ?_ ?_ ?_
    · exact nofun
    · exact nofun
    · exact fun _ _ => rfl
  · have hj : j < (rows.map octets).length := (List.getElem?_eq_some_iff.mp hy).1
    have h := lex_getToken (X := X) (K := K) (n := n + 2) (st := tokN ⟨text, 0, [], 1⟩ j) (D := compD (law1D pm cd doc a L z) { kind := .function, names := [(Str.ofString ".0", NameKind.local), (Str.ofString "i", NameKind.local), (Str.ofString "lexer", NameKind.free)], isGenerator := false, isCoroutine := false, more := [] } L' z') (σ := ⟨[(Str.ofString "i", .dv d), (Str.ofString "lexer", .ref 0)], [.other (lexS K (tokN ⟨text, 0, [], 1⟩ j)), o']⟩) (k := 0) (v := Str.ofString "lexer") (pv := ⟨173, 13, 173, 18⟩) (pa := ⟨173, 13, 173, 28⟩) (pc := ⟨173, 13, 173, 30⟩) hc hg.iter (hlex.fine j hj) rfl rfl rfl
    rw [hlex.tok j y hy] at h
    exact h
  refine Classical.byContradiction fun hnx => ?_
  (obtain ⟨aO, pmO, cdO, docO, hvO, hfO⟩ := hg.oct) <;> (refine hnx ?_; clear hnx)
  refine Classical.byContradiction fun hnx => ?_
  (obtain ⟨aN, pmN, cdN, docN, hvN, hfN⟩ := hg.num) <;> (refine hnx ?_; clear hnx)
  obtain ⟨aV, hV⟩ := hg.vi
  have hokw : (DV.lst ((rows.map octets).map .str)).ok := ok_strs fun w hw => by obtain ⟨r, hr, rfl⟩ := List.mem_map.mp hw; exact hoc r hr
  refine Ex.ite (b := (false || ((tokN ⟨text, 0, [], 1⟩ (rows.map octets).length).line != 1 + Txt.count text (Str.ofString "\n")))) (EvB.or2 (EvB.neR (a := .lst ((rows.map octets).map .str)) (EvO.nameRef (k := 1) rfl rfl rfl) ?_ hokw (deep_strs _)) fun _ => EvB.cmp (lex_lineO (k := 0) hc rfl rfl rfl) (EvF.bin EvO.int.toO (EvF.count (EvO.name (d := .str text) rfl rfl) EvO.str.toO).toO .addI).toO .neI) (fun hb => ?_) fun _ => Ex.nil ?_
  · rw [octF_map]
    refine (EvF.mapC (J := fun _ => True) [] octF (EvI.frozen (.inl ⟨_, _, rfl⟩) (xs := rows.map .int) rfl rfl) trivial (by rw [List.length_map, h3]; decide) (sc_ints _) rfl (by decide) (by simp) (freeOk rfl) (fun L' z' => rfl) (by simp) (fun L' z' hp d hd => ?_)).toO
    obtain ⟨i, hi, rfl⟩ := List.mem_map.mp hd
    have hbi := hb i hi
    exact EvF.call rfl hvO hfO.isFn (EvOs.cons (EvO.name (d := .int i) rfl rfl) EvOs.nil) (CallO.le (octets_ok (n := n) hfO hg.chr i hbi.1 (by omega)) (by lia))
  · rw [hlex.line] at hb; simp at hb
  rw [hw3]
  refine Ex.assignMapC [] (ds := (rows.map octets).map .str) (fun d => match d with
      | .str w => .int ((varN w).getD 0)
      | d => d) (EvI.own (k := 1) rfl rfl (sc_strs _) (.inl rfl)) (.inl rfl) (by rw [List.length_map, hw3]; decide) (sc_strs _) rfl (by decide) (by simp) (freeOk rfl) (fun L' z' => rfl) (by simp) (fun L' z' hp d hd => ?_) rfl rfl ?_
  · obtain ⟨w, hw, rfl⟩ := List.mem_map.mp hd
    obtain ⟨r, hr, rfl⟩ := List.mem_map.mp hw
    show EvF _ _ _ _ _ (.int ((varN (octets r)).getD 0))
    rw [hvar r hr]
    exact EvF.call rfl hvN hfN.isFn (EvOs.cons (EvO.name (d := .str (octets r)) rfl rfl) EvOs.nil) (CallO.le (number_ok (n := n) hfN hV hg.next hg.iter hg.ord (Nat.le_trans (hol r) (by decide)) (hvar r hr)) (by lia))
  have htold : (((rows.map octets).map DV.str).map fun d => match d with
      | .str w => .int ((varN w).getD 0)
      | d => d) = rows.map DV.int := by
    rw [List.map_map, List.map_map]
    refine List.map_congr_left fun r hr => ?_
    show DV.int ((varN (octets r)).getD 0) = _
    rw [hvar r hr]; rfl
  rw [htold]
  refine Ex.ite (b := false) (EvB.neR (a := .lst (rows.map .int)) (EvO.nameRef (k := 2) rfl rfl rfl) (EvO.name rfl rfl) (ok_ints _) (deep_ints _)) (fun hb => by cases hb) fun _ => Ex.nil (Ex.nil ⟨rfl, rfl, rfl, rfl, rfl, rfl⟩)
end
end Mine
end
section
open PySem PySem.Calls PyProof.Rows
set_option maxRecDepth 100000
namespace Mine
noncomputable def cmR (ns : List Int) : Nat → Int × List Int
  | 0 => (0, [])
  | j + 1 => ((cmR ns j).1 + ns.getD j 0 % 4, (cmR ns j).2 ++ [(cmR ns j).1 + ns.getD j 0 % 4])
theorem cmR_len (ns : List Int) : ∀ j, (cmR ns j).2.length = j
  | 0 => rfl
  | j + 1 => by show ((cmR ns j).2 ++ [_]).length = _; rw [List.length_append, cmR_len ns j]; rfl
noncomputable def wkI (r : Int) : Int := r / 4 % 4 + 1
noncomputable def wkF : DV → DV
  | .int i => .int (wkI i)
  | d => d
theorem wkF_map (rows : List Int) : (rows.map DV.int).map wkF = (rows.map wkI).map DV.int := by rw [List.map_map, List.map_map]; rfl
section
variable {X : Cx} {K : LexK} {n : Nat}
noncomputable def b2 : List (Str × AV) := [(Str.ofString "numbers", .ref 2), (Str.ofString "words", .ref 1), (Str.ofString "lexer", .ref 0)]
theorem law2_come {pm cd doc : Value} {a L : Addr} {z : Heap} {ns : List Int} (h5 : ns.length = 5) {lx wd : AObj} {Φ : AFl → St → Prop}
    (hr : Ex X (n + 6) (law1D pm cd doc a L z) ((dBody law1S).drop 12) ⟨(Str.ofString "works", .ref 4) :: (Str.ofString "hour", .dv (.int (cmR ns 5).1)) :: (Str.ofString "come", .ref 3) :: b2, [lx, wd, .lst (ns.map .int), .pl ((cmR ns 5).2.map .int), .lst ((ns.map wkI).map .int)]⟩ Φ) :
    Ex X (n + 6) (law1D pm cd doc a L z) ((dBody law1S).drop 8) ⟨b2, [lx, wd, .lst (ns.map .int)]⟩ Φ := by
  refine Ex.assignNil rfl (Ex.assign (d := .int 0) EvO.int rfl ?_)
  refine Ex.for_ (T := Unit) (J := fun σ' => σ'.hp[2]? = some (.lst (ns.map .int)) ∨ σ'.hp[2]? = some (.pl (ns.map .int))) ((ns.map DV.int).map .one) (fun j _ => ⟨(Str.ofString "hour", .dv (.int (cmR ns j).1)) :: (Str.ofString "come", .ref 3) :: b2, [lx, wd, .lst (ns.map .int), .pl ((cmR ns j).2.map .int)]⟩) (fun j _ => j ≤ 5) ()
    (EvI.own (k := 2) rfl rfl (sc_ints _) (.inl rfl)) (by decide) ⟨⟨rfl, rfl, rfl, rfl, rfl, trivial⟩, rfl, [], rfl⟩ (fun j t _ => Nat.le_refl _) (fun _ _ _ => .inl rfl) (fun j t x hj hx => ?_) fun t ht => ?_
  · rw [List.getElem?_map, List.getElem?_map] at hx
    obtain ⟨d, hd, rfl⟩ := Option.map_eq_some_iff.mp hx
    obtain ⟨r, hr', rfl⟩ := Option.map_eq_some_iff.mp hd
    have hj5 : j < 5 := h5 ▸ (List.getElem?_eq_some_iff.mp hr').1
    have hg : ns.getD j 0 = r := by rw [List.getD, hr']; rfl
    refine ⟨_, As.name rfl rfl, ?_⟩
    refine Ex.aug (a := .int (cmR ns j).1) (b := .int (r % 4)) rfl rfl (EvF.bin (EvO.name rfl rfl) EvO.int.toO (.modI (by decide))).toO .addI rfl ?_
    refine Ex.append (k := 3) (xs := (cmR ns j).2.map .int) (d := .int ((cmR ns j).1 + r % 4)) rfl rfl rfl ((EvO.name rfl rfl).toF rfl) (by rw [List.length_map, cmR_len]; exact Nat.le_trans (Nat.le_of_lt hj5) (by decide)) (Ex.nil ⟨(), hj5, ⟨?_, rfl, rfl, rfl, rfl, trivial⟩, rfl, [], ?_⟩)
    · show some _ = some _
      rw [← hg]; rfl
    · show [lx, wd, _, _] = [lx, wd, _, _] ++ []
      rw [← hg]
      simp [cmR]
  · rw [List.length_map, List.length_map, h5]
    refine Ex.nil ?_
    refine Ex.assign (EvF.mapC (J := fun σ' => σ'.hp[2]? = some (.lst (ns.map .int)) ∨ σ'.hp[2]? = some (.pl (ns.map .int))) [] (ds := ns.map .int) wkF (EvI.own (k := 2) rfl rfl (sc_ints _) (.inl rfl)) (.inl rfl) (by rw [List.length_map, h5]; decide) (sc_ints _) rfl (by decide) (by simp) (freeOk rfl) (fun L' z' => rfl) (by simp) (fun L' z' hp d hd => ?_)) rfl ?_
    · obtain ⟨r, hr', rfl⟩ := List.mem_map.mp hd
      exact EvF.bin (EvF.bin (EvF.bin (EvO.name (d := .int r) rfl rfl) EvO.int.toO (.divI (by decide) (by decide))).toO EvO.int.toO (.modI (by decide))).toO EvO.int.toO .addI
    · rw [wkF_map]; exact hr
end
end Mine
end
section
open PySem PySem.Calls PyProof.Rows
set_option maxRecDepth 100000
namespace Mine
theorem seqIndex_nat {m len : Nat} (h : m < len) : seqIndex? (m : Int) len = some m := by
  have h1 : ¬ ((m : Int) < 0) := by omega
  have h2 : (m : Int) < (len : Int) := by omega
  unfold seqIndex?
  simp only [h1, if_false]
  rw [if_pos (by simp [h2])]
  (rfl)
theorem fits_nat {m : Nat} (h : m < 1000) : Builtin.List.listFitsIndex (m : Int) = true := by
  unfold Builtin.List.listFitsIndex
  simp
  omega
theorem getD_at {l : List Str} {i : Nat} (h : i < l.length) : (l.map DV.str)[i]? = some (.str (l.getD i Str.empty)) := by
  rw [List.getElem?_map, List.getElem?_eq_getElem h]; simp [List.getD, List.getElem?_eq_getElem h]
theorem getI_at {l : List Int} {i : Nat} (h : i < l.length) : (l.map DV.int)[i]? = some (.int (l.getD i 0)) := by
  rw [List.getElem?_map, List.getElem?_eq_getElem h]; simp [List.getD, List.getElem?_eq_getElem h]
theorem idx_at {α : Type} {l : List α} {j : Int} {i : Nat} {d : α} (hj : j = (i : Int)) (h : l[i]? = some d) : (seqIndex? j l.length).bind (l[·]?) = some d := by
  subst hj
  rw [seqIndex_nat (List.getElem?_eq_some_iff.mp h).1]
  exact h
structure R1 where
  q : List Str
  left : List Str
  ends : List Int
  busy : Int
  hand : Int
  came : Nat
noncomputable def inA {α : Type} (ws : List α) (w0 : α) (co : List Int) (h : Int) : Nat → List α → Nat → List α × Nat
  | 0, q, c => (q, c)
  | f + 1, q, c => if (decide ((c : Int) < 5) && (co.getD c 0 == h)) = true then inA ws w0 co h f (q ++ [ws.getD c w0]) (c + 1) else (q, c)
noncomputable def numW (w : Str) : Int := (varN w).getD 0
noncomputable def r1A (ws : List Str) (co : List Int) (h : Int) (t : R1) : R1 := { t with q := (inA ws Str.empty co h (5 - t.came) t.q t.came).1, came := (inA ws Str.empty co h (5 - t.came) t.q t.came).2 }
noncomputable def r1B (t : R1) : R1 := if (t.hand == 0) = true then (match t.q with
  | [] => t
  | w :: r => { t with q := r, left := t.left ++ [w], hand := wkI (numW w) }) else t
noncomputable def r1C (h : Int) (t : R1) : R1 := if 0 < t.hand then (if (t.hand - 1 == 0) = true then { t with busy := t.busy + 2 ^ h.toNat, hand := t.hand - 1, ends := t.ends ++ [h + 1] } else { t with busy := t.busy + 2 ^ h.toNat, hand := t.hand - 1 }) else t
noncomputable def r1 (ws : List Str) (co : List Int) : Nat → R1
  | 0 => ⟨[], [], [], 0, 0, 0⟩
  | j + 1 => r1C j (r1B (r1A ws co j (r1 ws co j)))
section
variable {X : Cx} {K : LexK} {n : Nat}
noncomputable def b3 : List (Str × AV) := (Str.ofString "works", .ref 4) :: (Str.ofString "come", .ref 3) :: b2
noncomputable def r1L (t : R1) : List (Str × AV) := [(Str.ofString "left", .ref 5), (Str.ofString "ends", .ref 6), (Str.ofString "busy", .dv (.int t.busy)), (Str.ofString "hand", .dv (.int t.hand)), (Str.ofString "came", .dv (.int (t.came : Int)))] ++ b3
noncomputable def r1H (K : LexK) (text : Str) (ln : Int) (ws : List Str) (nm : AObj) (co : List Int) (wk : AObj) (p : Int) (t : R1) : List AObj :=
  [.other (lexS K ⟨text, p, t.q, ln⟩), .lst (ws.map .str), nm, .pl (co.map .int), wk, .pl (t.left.map .str), .pl (t.ends.map .int)]
theorem law2_segA (hc : LexCls X K) {pm cd doc : Value} {a L : Addr} {z : Heap} {text : Str} {ln p h : Int} {ws : List Str} {nm wk : AObj} {co : List Int} (h5 : ws.length = 5) (hco : co.length = 5) {t : R1} (ht : t.q.length ≤ t.came ∧ t.came ≤ 5) {Φ : AFl → St → Prop} {rest : List Stmt}
    (hr : Ex X (n + 6) (law1D pm cd doc a L z) rest ⟨(Str.ofString "hour", .dv (.int h)) :: r1L (r1A ws co h t), r1H K text ln ws nm co wk p (r1A ws co h t)⟩ Φ) :
    Ex X (n + 6) (law1D pm cd doc a L z) (stN (forB (stN (dBody law1S) 17)) 0 :: rest) ⟨(Str.ofString "hour", .dv (.int h)) :: r1L t, r1H K text ln ws nm co wk p t⟩ Φ := by
  refine Ex.while_ (T := List Str × Nat) (fun u => ⟨(Str.ofString "hour", .dv (.int h)) :: r1L { t with q := u.1, came := u.2 }, r1H K text ln ws nm co wk p { t with q := u.1, came := u.2 }⟩) (fun u => 5 - u.2) (fun u => decide ((u.2 : Int) < 5) && (co.getD u.2 0 == h))
    (fun u => u.1.length ≤ u.2 ∧ u.2 ≤ 5 ∧ inA ws Str.empty co h (5 - u.2) u.1 u.2 = inA ws Str.empty co h (5 - t.came) t.q t.came) (t.q, t.came) ⟨ht.1, ht.2, rfl⟩ ⟨⟨rfl, rfl, rfl, rfl, rfl, rfl, rfl, rfl, rfl, rfl, rfl, trivial⟩, rfl, [], rfl⟩ (fun _ _ => rfl)
    (fun u hu => ?_) (fun u hu hb => ?_) (fun u hu hb => Ex.nil ?_) (Nat.le_refl _)
  · obtain ⟨q, c⟩ := u
    exact EvB.and2 (EvB.cmp (EvO.name (d := .int (c : Int)) rfl rfl) EvO.int.toO .ltI) fun hlt => EvB.cmp (EvO.item (EvO.namePl (k := 3) (xs := co.map .int) rfl rfl rfl) (EvO.name (d := .int (c : Int)) rfl rfl) (idx_at rfl (getI_at (by rw [hco]; exact Int.ofNat_lt.mp (of_decide_eq_true hlt)))) (by rw [List.length_map, hco]; decide)) (EvO.name (d := .int h) rfl rfl) .eqI
  · obtain ⟨q, c⟩ := u
    obtain ⟨u1, u2, u3⟩ := hu
    have u1 : q.length ≤ c := u1
    have hc5 : c < 5 := Int.ofNat_lt.mp (of_decide_eq_true (Bool.and_eq_true_iff.mp hb).1)
    refine lex_pushToken (n := n + 5) (k := 0) (st := ⟨text, p, q, ln⟩) (w := ws.getD c Str.empty) hc (Nat.le_trans u1 (Nat.le_trans (Nat.le_of_lt hc5) (by decide))) rfl rfl rfl (EvO.item (EvO.nameRef (k := 1) (xs := ws.map .str) rfl rfl rfl) (EvO.name (d := .int (c : Int)) rfl rfl) (idx_at rfl (getD_at (by rw [h5]; exact hc5))) (by rw [List.length_map, h5]; decide)) ?_
    refine Ex.aug (a := .int (c : Int)) (b := .int 1) rfl rfl EvO.int.toO .addI rfl (Ex.nil ⟨(q ++ [ws.getD c Str.empty], c + 1), ⟨by rw [List.length_append]; exact Nat.succ_le_succ u1, hc5, ?_⟩, Nat.sub_lt_sub_left hc5 (Nat.lt_succ_self c), ⟨⟨rfl, rfl, rfl, rfl, rfl, rfl, rfl, rfl, rfl, rfl, rfl, trivial⟩, rfl, [], rfl⟩⟩)
    rw [← u3]
    show inA ws Str.empty co h (5 - (c + 1)) (q ++ [ws.getD c Str.empty]) (c + 1) = inA ws Str.empty co h (5 - c) q c
    rw [show 5 - c = (5 - (c + 1)) + 1 by omega]
    exact (if_pos hb).symm
  · obtain ⟨q, c⟩ := u
    obtain ⟨u1, u2, u3⟩ := hu
    have e : inA ws Str.empty co h (5 - c) q c = (q, c) := by
      cases 5 - c with
      | zero => rfl
      | succ m => exact if_neg (by rw [hb]; decide)
    have e2 : r1A ws co h t = { t with q := q, came := c } := by
      unfold r1A; rw [← u3, e]
    rw [e2] at hr
    exact hr
end
end Mine
end
section
open PySem PySem.Calls PyProof.Rows
set_option maxRecDepth 100000
namespace Mine
theorem getTok_end {y : Str} {p ln : Int} (h0 : 0 ≤ p) (h : (y.length : Int) ≤ p) : getTok ⟨y, p, [], ln⟩ = (Str.empty, ⟨y, p + 1, [], ln⟩) := by
  have hc : (⟨y, p, [], ln⟩ : LexSt).ch = Str.empty := by
    rw [LexSt.ch_eq h0]
    have : y.cps.toList[p.toNat]? = none := List.getElem?_eq_none (by show y.length ≤ p.toNat; omega)
    show (match y.cps.toList[p.toNat]? with
      | some c => _
      | none => Str.empty) = _
    rw [this]
  show tokGo _ (_ + 1 + 1) _ = _
  rw [tokGo_2, if_pos hc]
  congr 1
  unfold LexSt.step
  rw [hc]
  rfl
theorem getTok_cons {y : Str} {p l : Int} {w : Str} {ws : List Str} : getTok ⟨y, p, w :: ws, l⟩ = (w, ⟨y, p, ws, l⟩) := rfl
structure WordOk (w : Str) : Prop where
  ne : (w != Str.ofString "") = true
  len : w.length ≤ 1000
  var : ∃ v, varN w = some v
section
variable {X : Cx} {K : LexK} {n : Nat}
theorem law2_segB (hg : LawG X K) (hc : LexCls X K) {pm cd doc : Value} {a L : Addr} {z : Heap} {text : Str} {ln p h : Int} {ws : List Str} {nm wk : AObj} {co : List Int} (htx : text.length ≤ 1000) (hp0 : 0 ≤ p) (hp : (text.length : Int) ≤ p) {t : R1} (hql : t.q.length ≤ 1000) (hll : t.left.length ≤ 1000) (hw : ∀ w ∈ t.q, WordOk w) {Φ : AFl → St → Prop} {rest : List Stmt}
    (hr : ∀ p', p ≤ p' → Ex X (n + 6) (law1D pm cd doc a L z) rest ⟨(Str.ofString "hour", .dv (.int h)) :: r1L (r1B t), r1H K text ln ws nm co wk p' (r1B t)⟩ Φ) :
    Ex X (n + 6) (law1D pm cd doc a L z) (stN (forB (stN (dBody law1S) 17)) 1 :: rest) ⟨(Str.ofString "hour", .dv (.int h)) :: r1L t, r1H K text ln ws nm co wk p t⟩ Φ := by
  obtain ⟨aN, pmN, cdN, docN, hvN, hfN⟩ := hg.num
  obtain ⟨aV, hV⟩ := hg.vi
  obtain ⟨q, left, ends, busy, hand, came⟩ := t
  refine Ex.ite (b := hand == 0) (EvB.cmp (EvO.name (d := .int hand) rfl rfl) EvO.int.toO .eqI) (fun hb => ?_) fun hb => Ex.nil ?_
  · refine Ex.assignM (lex_getToken (n := n + 2) (k := 0) (st := ⟨text, p, q, ln⟩) hc hg.iter ⟨hp0, htx, hql⟩ rfl rfl rfl) rfl ?_
    cases q with
    | nil =>
      rw [getTok_end hp0 hp]
      refine Ex.ite (b := (Str.empty != Str.ofString "")) (EvB.cmp (EvO.name rfl rfl) EvO.str.toO .neS) (fun hb => absurd hb (by decide)) fun _ => Ex.nil (Ex.nil ?_)
      have e : r1B ⟨[], left, ends, busy, hand, came⟩ = ⟨[], left, ends, busy, hand, came⟩ := by unfold r1B; split <;> rfl
      have := hr (p + 1) (by omega)
      rw [e] at this
      exact Ex.weak this (SubL.lookup ⟨rfl, rfl, rfl, rfl, rfl, rfl, rfl, rfl, rfl, rfl, rfl, trivial⟩) rfl
    | cons w r =>
      rw [getTok_cons]
      obtain ⟨w1, w2, v, w3⟩ := hw w (.head _)
      refine Ex.ite (b := (w != Str.ofString "")) (EvB.cmp (EvO.name rfl rfl) EvO.str.toO .neS) (fun _ => ?_) fun hn => absurd (w1.symm.trans hn) (by decide)
      have e : r1B ⟨w :: r, left, ends, busy, hand, came⟩ = ⟨r, left ++ [w], ends, busy, wkI v, came⟩ := by unfold r1B; rw [if_pos hb]; show (⟨r, left ++ [w], ends, busy, wkI ((varN w).getD 0), came⟩ : R1) = _; rw [w3]; rfl
      have := hr p (Int.le_refl _)
      rw [e] at this
      refine Ex.append (k := 5) (xs := left.map .str) (d := .str w) rfl rfl rfl ((EvO.name rfl rfl).toF rfl) (by rw [List.length_map]; exact Nat.le_trans hll (by decide)) ?_
      refine Ex.assign (d := .int (wkI v)) (EvF.bin (EvF.bin (EvF.bin (EvF.call rfl hvN hfN.isFn (EvOs.cons (EvO.name (d := .str w) rfl rfl) EvOs.nil) (CallO.le (number_ok (n := n) hfN hV hg.next hg.iter hg.ord w2 w3) (by lia))).toO EvO.int.toO (.divI (by decide) (by decide))).toO EvO.int.toO (.modI (by decide))).toO EvO.int.toO .addI) rfl (Ex.nil (Ex.nil ?_))
      refine Ex.weak this (SubL.lookup ⟨rfl, rfl, rfl, rfl, rfl, rfl, rfl, rfl, rfl, rfl, rfl, trivial⟩) ?_
      unfold r1H
      rw [List.map_append]
      rfl
  · have e : r1B ⟨q, left, ends, busy, hand, came⟩ = ⟨q, left, ends, busy, hand, came⟩ := by unfold r1B; exact if_neg (by rw [hb]; decide)
    have := hr p (Int.le_refl _)
    rw [e] at this
    exact this
end
end Mine
end
section
open PySem PySem.Calls PyProof.Rows
set_option maxRecDepth 100000
namespace Mine
structure R1Ok (j : Nat) (t : R1) : Prop where
  len : t.q.length + t.left.length ≤ t.came
  le : t.came ≤ 5
  ends : t.ends.length ≤ j
  words : ∀ w ∈ t.q, WordOk w
theorem inA_ok {ws : List Str} {co : List Int} {h : Int} (hws : ∀ w ∈ ws, WordOk w) (h5 : ws.length = 5) : ∀ f q c m, q.length + m ≤ c → c ≤ 5 → (∀ w ∈ q, WordOk w) →
    (inA ws Str.empty co h f q c).1.length + m ≤ (inA ws Str.empty co h f q c).2 ∧ (inA ws Str.empty co h f q c).2 ≤ 5 ∧ ∀ w ∈ (inA ws Str.empty co h f q c).1, WordOk w
  | 0, q, c, m, h1, h2, h3 => ⟨h1, h2, h3⟩
  | f + 1, q, c, m, h1, h2, h3 => by
    unfold inA
    split
    · rename_i hb
      have hc5 : c < 5 := Int.ofNat_lt.mp (of_decide_eq_true (Bool.and_eq_true_iff.mp hb).1)
      refine inA_ok hws h5 f _ _ m (by rw [List.length_append, Nat.add_right_comm]; exact Nat.succ_le_succ h1) hc5 fun w hw => ?_
      rcases List.mem_append.mp hw with hw | hw
      · exact h3 w hw
      · rw [List.mem_singleton.mp hw]
        have : c < ws.length := by rw [h5]; exact hc5
        rw [List.getD, List.getElem?_eq_getElem this]
        exact hws _ (List.getElem_mem this)
    · exact ⟨h1, h2, h3⟩
theorem r1_ok {ws : List Str} {co : List Int} (hws : ∀ w ∈ ws, WordOk w) (h5 : ws.length = 5) : ∀ j, R1Ok j (r1 ws co j)
  | 0 => ⟨Nat.le_refl _, Nat.zero_le _, Nat.le_refl _, fun _ h => nomatch h⟩
  | j + 1 => by
    obtain ⟨a1, a2, a3, a4⟩ := r1_ok (co := co) hws h5 j
    show R1Ok (j + 1) (r1C j (r1B (r1A ws co j (r1 ws co j))))
    obtain ⟨b1, b2, b3⟩ := inA_ok (co := co) (h := (j : Int)) hws h5 (5 - (r1 ws co j).came) (r1 ws co j).q (r1 ws co j).came (r1 ws co j).left.length a1 a2 a4
    have hA : R1Ok j (r1A ws co j (r1 ws co j)) := ⟨b1, b2, a3, b3⟩
    generalize r1A ws co j (r1 ws co j) = t at hA ⊢
    have hB : R1Ok j (r1B t) := by
      obtain ⟨q, left, ends, busy, hand, came⟩ := t
      obtain ⟨c1, c2, c3, c4⟩ := hA
      unfold r1B
      split
      · cases q with
        | nil => exact ⟨c1, c2, c3, c4⟩
        | cons w r => exact ⟨by show r.length + (left ++ [w]).length ≤ came; rw [List.length_append, ← Nat.add_assoc, Nat.add_right_comm]; exact c1, c2, c3, fun x hx => c4 x (List.mem_cons_of_mem _ hx)⟩
      · exact ⟨c1, c2, c3, c4⟩
    generalize r1B t = u at hB ⊢
    obtain ⟨c1, c2, c3, c4⟩ := hB
    unfold r1C
    split
    · split
      · exact ⟨c1, c2, by show (u.ends ++ [_]).length ≤ _; rw [List.length_append]; exact Nat.succ_le_succ c3, c4⟩
      · exact ⟨c1, c2, Nat.le_succ_of_le c3, c4⟩
    · exact ⟨c1, c2, Nat.le_succ_of_le c3, c4⟩
section
variable {X : Cx} {K : LexK} {n : Nat}
theorem law2_segC {pm cd doc : Value} {a L : Addr} {z : Heap} {text : Str} {ln p h : Int} {ws : List Str} {nm wk : AObj} {co : List Int} (h0 : 0 ≤ h) (h1 : h ≤ 1000000) {t : R1} (hel : t.ends.length ≤ 1000) {Φ : AFl → St → Prop} {rest : List Stmt}
    (hr : Ex X (n + 6) (law1D pm cd doc a L z) rest ⟨(Str.ofString "hour", .dv (.int h)) :: r1L (r1C h t), r1H K text ln ws nm co wk p (r1C h t)⟩ Φ) :
    Ex X (n + 6) (law1D pm cd doc a L z) (stN (forB (stN (dBody law1S) 17)) 2 :: rest) ⟨(Str.ofString "hour", .dv (.int h)) :: r1L t, r1H K text ln ws nm co wk p t⟩ Φ := by
  obtain ⟨q, left, ends, busy, hand, came⟩ := t
  refine Ex.ite (b := decide (0 < hand)) (EvB.cmp (EvO.name (d := .int hand) rfl rfl) EvO.int.toO .gtI) (fun hb => ?_) fun hb => Ex.nil ?_
  · have hb := of_decide_eq_true hb
    refine Ex.aug (a := .int busy) (b := .int (2 ^ h.toNat)) rfl rfl (EvF.bin EvO.int.toO (EvO.name (d := .int h) rfl rfl) (.powI h0 h1 (by decide))).toO .addI rfl ?_
    refine Ex.aug (a := .int hand) (b := .int 1) rfl rfl EvO.int.toO .subI rfl ?_
    refine Ex.ite (b := hand - 1 == 0) (EvB.cmp (EvO.name (d := .int (hand - 1)) rfl rfl) EvO.int.toO .eqI) (fun hc => ?_) fun hc => Ex.nil (Ex.nil ?_)
    · have e : r1C h ⟨q, left, ends, busy, hand, came⟩ = ⟨q, left, ends ++ [h + 1], busy + 2 ^ h.toNat, hand - 1, came⟩ := by unfold r1C; rw [if_pos hb, if_pos hc]
      rw [e] at hr
      refine Ex.append (k := 6) (xs := ends.map .int) (d := .int (h + 1)) rfl rfl rfl (EvF.bin (EvO.name (d := .int h) rfl rfl) EvO.int.toO .addI) (by rw [List.length_map]; exact Nat.le_trans hel (by decide)) (Ex.nil (Ex.nil ?_))
      refine Ex.weak hr (SubL.lookup ⟨rfl, rfl, rfl, rfl, rfl, rfl, rfl, rfl, rfl, rfl, rfl, trivial⟩) ?_
      unfold r1H
      rw [List.map_append]
      rfl
    · have e : r1C h ⟨q, left, ends, busy, hand, came⟩ = ⟨q, left, ends, busy + 2 ^ h.toNat, hand - 1, came⟩ := by unfold r1C; rw [if_pos hb, if_neg (by rw [hc]; decide)]
      rw [e] at hr
      exact Ex.weak hr (SubL.lookup ⟨rfl, rfl, rfl, rfl, rfl, rfl, rfl, rfl, rfl, rfl, rfl, trivial⟩) rfl
  · have e : r1C h ⟨q, left, ends, busy, hand, came⟩ = ⟨q, left, ends, busy, hand, came⟩ := by unfold r1C; exact if_neg (of_decide_eq_false hb)
    rw [e] at hr
    exact hr
theorem law2_road (hg : LawG X K) (hc : LexCls X K) {pm cd doc : Value} {a L : Addr} {z : Heap} {text : Str} {ln p0 : Int} {ws : List Str} {nm wk : AObj} {co : List Int} {hv : DV} (h5 : ws.length = 5) (hco : co.length = 5) (hws : ∀ w ∈ ws, WordOk w) (htx : text.length ≤ 1000) (hp0 : 0 ≤ p0) (hp : (text.length : Int) ≤ p0) {Φ : AFl → St → Prop}
    (hr : ∀ p, Ex X (n + 6) (law1D pm cd doc a L z) ((dBody law1S).drop 18) ⟨r1L (r1 ws co 23), r1H K text ln ws nm co wk p (r1 ws co 23)⟩ Φ) :
    Ex X (n + 6) (law1D pm cd doc a L z) ((dBody law1S).drop 12) ⟨(Str.ofString "works", .ref 4) :: (Str.ofString "hour", .dv hv) :: (Str.ofString "come", .ref 3) :: b2, [.other (lexS K ⟨text, p0, [], ln⟩), .lst (ws.map .str), nm, .pl (co.map .int), wk]⟩ Φ := by
  refine Ex.assignNil rfl (Ex.assignNil rfl (Ex.assign (d := .int 0) EvO.int rfl (Ex.assign (d := .int 0) EvO.int rfl (Ex.assign (d := .int 0) EvO.int rfl ?_))))
  refine Ex.for_ (T := Int) (J := fun _ => True) (rangeIV 0 1 (23 : Int).toNat) (fun j p => ⟨r1L (r1 ws co j), r1H K text ln ws nm co wk p (r1 ws co j)⟩) (fun j p => j ≤ 23 ∧ 0 ≤ p ∧ (text.length : Int) ≤ p) p0
    (EvI.range1 rfl hg.range EvO.int.toO (by decide) (by decide)) ⟨by decide, hp0, hp⟩ ⟨⟨rfl, rfl, rfl, rfl, rfl, rfl, rfl, rfl, rfl, rfl, trivial⟩, rfl, [], rfl⟩ (fun _ _ _ => Nat.le_refl _) (fun _ _ _ => trivial) (fun j p x hj hx => ?_) fun p hp' => ?_
  · obtain ⟨hj8, rfl⟩ := rangeIV_get hx
    have hj8 : j < 23 := hj8
    obtain ⟨_, g1, g2⟩ := hj
    refine ⟨_, As.name rfl rfl, ?_⟩
    have hm : ((0 : Int) + (j : Int) * 1) = (j : Int) := by lia
    rw [hm]
    obtain ⟨a1, a2, a3, a4⟩ := r1_ok (co := co) hws h5 j
    obtain ⟨b1, b2, b3⟩ := inA_ok (co := co) (h := (j : Int)) hws h5 (5 - (r1 ws co j).came) (r1 ws co j).q (r1 ws co j).came (r1 ws co j).left.length a1 a2 a4
    refine law2_segA hc h5 hco ⟨Nat.le_trans (Nat.le_add_right _ _) a1, a2⟩ ?_
    refine law2_segB (t := r1A ws co j (r1 ws co j)) hg hc htx g1 g2 (Nat.le_trans (Nat.le_trans (Nat.le_add_right _ _) b1) (Nat.le_trans b2 (by decide))) (Nat.le_trans (Nat.le_trans (Nat.le_add_left _ _) a1) (Nat.le_trans a2 (by decide))) b3 fun p' hpp => ?_
    refine law2_segC (Int.natCast_nonneg j) (by omega) ?_ (Ex.nil ?_)
    · have : (r1B (r1A ws co j (r1 ws co j))).ends = (r1 ws co j).ends := by
        unfold r1B
        split
        · split <;> rfl
        · rfl
      rw [this]; exact Nat.le_trans a3 (by omega)
    · exact ⟨p', ⟨hj8, Int.le_trans g1 hpp, Int.le_trans g2 hpp⟩, ⟨rfl, rfl, rfl, rfl, rfl, rfl, rfl, rfl, rfl, rfl, trivial⟩, rfl, [], rfl⟩
  · exact Ex.nil (hr p)
end
end Mine
end
section
open PySem PySem.Calls PyProof.Rows
set_option maxRecDepth 100000
namespace Mine
theorem VRs.take {h : Heap} : ∀ {ds : List DV} {rs : List Value} (n : Nat), VRs h ds rs → VRs h (ds.take n) (rs.take n)
  | _, _, 0, _ => by simpa using VRs.nil
  | [], _, n + 1, x => by rw [x.nil_inv]; simpa using VRs.nil
  | d :: ds, _, n + 1, x => by obtain ⟨r, rs', rfl, a, b⟩ := x.cons_inv; simpa using VRs.cons a (b.take n)
theorem RepVs.take {h : Heap} : ∀ {xs : List DV} {vs : List Value} {fp : List Addr} (n : Nat), RepVs h xs vs fp → (∀ e ∈ xs, e.sc = true) → RepVs h (xs.take n) (vs.take n) [] := fun n x hs => scs_rep (VRs.take n ⟨_, x⟩) fun d hd => hs d (List.mem_of_mem_take hd)
section
variable {X : Cx} {n : Nat} {D : FD} {σ : St} {Φ : AFl → St → Prop} {rest : List Stmt}
theorem Ex.augItem {x : Str} {px pt pos : Pos} {e i : Expr} {op : Operator} {k j : Nat} {c : Int} {xs : List DV} {d b v : DV} (hl : σ.loc.lookup x = some (.ref k)) (hk : isVar D x = true) (ho : σ.hp[k]? = some (.pl xs)) (h : EvO X n D σ e b) (hb : BinA op d b v) (hd : v.sc = true) (hsc : ∀ d ∈ xs, d.sc = true)
    (hi : EvO X n D σ i (.int c)) (hj : seqIndex? c xs.length = some j) (hx : xs[j]? = some d) (hf : Builtin.List.listFitsIndex c = true) (hz : xs.length ≤ sizeLine)
    (hr : Ex X n D rest ⟨σ.loc, σ.hp.set k (.pl (xs.set j v))⟩ Φ) (hau : ∀ ov iv new, augStore i ov iv new = (do holding [new, ov, iv] (setItem ov iv new); release [new, ov, iv] []; pure .next) := by intros; rfl) :
    Ex X n D (.AugAssign (.Subscript (.Name x px) i pt) op e pos :: rest) σ Φ := Ex.cons fun A g fps s hA q => by
  refine wpAny_AugAssign_SubscriptAny (wpF_mono (EvA.name hl hk A g fps s hA q) fun ro s2 ⟨k2, a, fp, e1, hr1⟩ => wpF_mono (hi A g fps s2 hA (q.ext k2)) fun ri s3 hq4 => ?_) hau
  obtain ⟨k3, v3⟩ := hq4
  subst hr1
  obtain ⟨t, rfl⟩ := v3.int
  have q3 := (q.ext k2).ext k3
  obtain ⟨vs, hp, hv⟩ := q3.getPl ho e1
  have vl : VR s3.heap (.lst xs) (.ref a) := .ofLst hp.isList ⟨_, hv⟩
  refine (listItem (t := t) vl (by rw [hj]; exact hx) hz fun r vr => ?_).2
  refine wpF_mono (h A g fps s3 hA q3) fun rb s4 ⟨k4, v4⟩ => hb.soundI vr v4 fun r' tk hv' => ?_
  have q4 := (q3.ext k4).ext (Kp.tok s4 tk)
  obtain ⟨vs4, hp4, hv4⟩ := q4.getPl ho e1
  refine setPlain hp4 (j := j) (by rw [List.size_toArray, hv4.length]; exact hj) hf fun h' hp' hs' => ?_
  have hv5 : RepVs h' (xs.set j v) (vs4.set j r') [] := RepVs.setFlat (sc_move hv4 hsc) hsc (hv' _)
  exact ⟨.next, _, _, q4.setFlat e1 (t := tk) (by simpa using hp') hs' hv5, Fext.set e1, rfl, hr⟩
theorem Ex.pop {x : Str} {px pa pc pe : Pos} {k : Nat} {xs : List DV} (hl : σ.loc.lookup x = some (.ref k)) (hk : isVar D x = true) (ho : σ.hp[k]? = some (.pl xs)) (hsc : ∀ d ∈ xs, d.sc = true) (hne : xs ≠ []) (hz : xs.length ≤ sizeLine)
    (hr : Ex X n D rest ⟨σ.loc, σ.hp.set k (.pl xs.dropLast)⟩ Φ) (hline : (pa.endLine == pc.line) = true := by rfl) : Ex X n D (.Expr (.Call (.Attribute (.Name x px) (Str.ofString "pop") pa) [] [] pc) pe :: rest) σ Φ := Ex.cons fun A g fps s hA q => by
  refine wpAny_Expr_any (Call_method0 rfl hline (wpF_mono (EvA.name hl hk A g fps s hA q) fun r s1 hq5 => ?_)) (by unfold interactive; rw [q.fk]; rfl) (by rfl)
  obtain ⟨k1, a, fp, e1, hr1⟩ := hq5
  subst hr1
  have q1 := q.ext k1
  obtain ⟨vs, ⟨nn, hp⟩, hv⟩ := q1.getPl ho e1
  have hlen := hv.length
  have hpos : 0 < vs.length := by rw [hlen]; exact List.length_pos_iff.mpr hne
  refine ⟨"list", "list.pop", F.plainAttrs_list, F.slot_list_pop, F.type_list_pop, ⟨_, hp, rfl⟩, fun b hb => by cases hb; exact ⟨_, hp, rfl⟩,
    P.pop_list (y := vs[vs.length - 1]'(by omega)) hp (by simp) ?_ (by rw [List.size_toArray, hlen]; exact hz)⟩
  have hfin : (s1.heap.update a (Obj.mapSeq fun ys => ys.eraseIdxIfInBounds (vs.toArray.size - 1))).PlainList a (List.toArray vs.dropLast) := by
    have he : (vs.toArray).eraseIdxIfInBounds (vs.toArray.size - 1) = vs.dropLast.toArray := by
      simp [List.dropLast_eq_take, List.eraseIdx_eq_take_drop_succ]
      omega
    refine ⟨nn + 1, ?_⟩
    rw [Heap.get?_update_self _ hp (by simp [Obj.mapSeq, Obj.isFreed])]
    simp only [Obj.mapSeq, he]
    have : (vs.dropLast.toArray.size == vs.toArray.size) = false := by simp; omega
    simp [this]
    omega
  have hv5 : RepVs (s1.heap.update a (Obj.mapSeq fun ys => ys.eraseIdxIfInBounds (vs.toArray.size - 1))) xs.dropLast vs.dropLast [] := by
    rw [List.dropLast_eq_take, List.dropLast_eq_take, hlen]
    exact RepVs.take _ (sc_move hv hsc) hsc
  exact ⟨.next, _, _, q1.setFlat e1 (t := s1.toks) hfin (Heap.SameBut.update ..) hv5, Fext.set e1, rfl, hr⟩
end
end Mine
end
section
open PySem PySem.Calls PyProof.Rows
set_option maxRecDepth 100000
namespace Mine
section
variable {prog : Program} {w : World} {A : Around} {E : Value → Shared → Prop}
theorem assign_Tuple_list {env : Env} {elts : List Expr} {x1} {pos : Pos} {t : Addr} {items : Array Value} {s : Shared} {Q : Unit → Shared → Prop} (hh : A.handled = none) (ht : s.heap.IsList t items)
    (hn : (assignEach elts env).length = items.size) (hstar : (assignEach elts env).findIdx? (·.1) = none)
    (h : ∀ h', Heap.ExtBut s.heap.objs.size s.heap h' → wpAny (model prog w) A (assignInOrder ((assignEach elts env).map (·.2)) items.toList) Q E { s with heap := h' }) :
    wpAny (model prog w) A (PySem.assign (.Tuple elts x1 pos) env (.ref t)) Q E s := by
  rw [arm_assign_Tuple]
  refine wpAny_bind (wpAny_standAt ?_)
  unfold unpack
  rw [hn, hstar]
  exact wpAny_bind (wpAny_holding (PySem.W.kun_itemsOf hh ht h))
end
end Mine
end
section
open PySem PySem.Calls PyProof.Rows
set_option maxRecDepth 100000
namespace Mine
section
variable {X : Cx} {n : Nat} {D : FD} {σ : St} {Φ : AFl → St → Prop} {rest : List Stmt}
theorem Ex.assignTup3 {x y w : Str} {px py pw p pos : Pos} {k0 : Nat} {e : Expr} {s1 : Str} {xs : List DV} {b : Int} (h : EvF X n D σ e (.lst [.str s1, .lst xs, .int b])) (hx : isOwnVar D x = true) (hy : isOwnVar D y = true) (hw : isOwnVar D w = true)
    (hr : Ex X n D rest ⟨(w, .dv (.int b)) :: (y, .ref σ.hp.length) :: (x, .dv (.str s1)) :: σ.loc, σ.hp ++ [.lst xs]⟩ Φ)
    (hs : swapsWithSole [.Tuple [.Name x px, .Name y py, .Name w pw] k0 p] e pos.line D.env = pure false := by rfl) (hsw : swappedStores [.Tuple [.Name x px, .Name y py, .Name w pw] k0 p] e D.env = pure none := by rfl) :
    Ex X n D (.Assign [.Tuple [.Name x px, .Name y py, .Name w pw] k0 p] e pos :: rest) σ Φ := Ex.cons fun A g fps s hA q => by
  refine wpAny_Assign_stores (wpF_mono (h A g fps s hA q) fun r s1' hq => ?_) hs hsw
  obtain ⟨k1, fp, h1, h2, h3⟩ := hq
  obtain ⟨a, vs, fp', rfl, rfl, hl, hv⟩ := h1
  obtain ⟨r1, rs1, f1, f1', rfl, rfl, ⟨⟨t1, rfl⟩, rfl⟩, hv⟩ := hv
  obtain ⟨r2, rs2, f2, f2', rfl, rfl, hr2, hv⟩ := hv
  obtain ⟨r3, rs3, f3, f3', rfl, rfl, ⟨⟨t3, rfl⟩, rfl⟩, hv⟩ := hv
  obtain ⟨rfl, rfl⟩ := hv
  obtain ⟨a2, vs2, fp2, rfl, rfl, hl2, hv2⟩ := id hr2
  show wpAny _ _ (PySem.assign (.Tuple [.Name x px, .Name y py, .Name w pw] k0 p) D.env (.ref a)) _ _ _
  refine assign_Tuple_list hA.1 hl rfl rfl fun h' he => ?_
  have k2 : Kp s1' { s1' with heap := h' } := ⟨fun b' o' _ e => he b' o' (fun hb' => by rw [hb'] at e; exact absurd (Heap.lt_size e) (Nat.lt_irrefl _)) e, fun _ _ _ e => e, id, rfl⟩
  have hnd : (a2 :: fp2).Nodup := by
    have := (List.nodup_cons.mp h2).2
    simpa using this
  have q1 := q.add (o := .lst xs) (fp := a2 :: fp2) (k1.trans k2) (fun b hb => h3 b (List.mem_cons_of_mem _ (by simpa using hb))) hnd ⟨a2, fp2, rfl, hr2.mono fun b _ o e => k2.hp b o e⟩
  refine wpAny_assignInOrder_more (wpAny_assign_Name (q1.store (v := .dv (.str s1)) hx ⟨[], ⟨t1, rfl⟩, rfl⟩ fun s2 q2 => ?_))
  refine wpAny_assignInOrder_more (wpAny_assign_Name (q2.store (v := .ref σ.hp.length) hy ⟨a2, fp2, by rw [q.len, List.getElem?_append_right (Nat.le_refl _)]; simp, rfl⟩ fun s3 q3 => ?_))
  exact wpAny_assignInOrder_more (wpAny_assign_Name (q3.store (v := .dv (.int b)) hw ⟨[], ⟨t3, rfl⟩, rfl⟩ fun s4 q4 => wpAny_assignInOrder_none ⟨.next, _, _, q4, Fext.app _ _, rfl, hr⟩))
theorem Ex.retMix {e1 e3 : Expr} {x : Str} {px p pos : Pos} {d1 d3 : DV} {k : Nat} {xs : List DV} (h1 : EvO X n D σ e1 d1) (hs1 : d1.sc = true) (hl : σ.loc.lookup x = some (.ref k)) (hk : isVar D x = true) (ho : σ.hp[k]? = some (.pl xs)) (h3 : EvO X n D σ e3 d3) (hs3 : d3.sc = true)
    (hr : Φ (.ret (.lst [d1, .lst xs, d3])) σ) (he1 : ∀ es env, starEach (e1 :: es) env = (false, eval e1 env) :: starEach es env := by intro _ _; rfl) (he3 : ∀ es env, starEach (e3 :: es) env = (false, eval e3 env) :: starEach es env := by intro _ _; rfl) :
    Ex X n D (.Return (some (.List [e1, .Name x px, e3] p)) pos :: rest) σ Φ := Ex.cons fun A g fps s hA q => by
  refine wpAny_Return_some (wpAny_List (args_cons (wpF_mono (h1 A g fps s hA q) fun r1 s1 hq1 => args_cons (wpF_mono (EvA.name hl hk A g fps s1 hA (q.ext hq1.1)) fun r2 s2 hq2 => args_cons (wpF_mono (h3 A g fps s2 hA ((q.ext hq1.1).ext hq2.1)) fun r3 s3 hq3 => args_nil ?_) (he3 _ _)) rfl) (he1 _ _)))
  obtain ⟨k1, v1⟩ := hq1
  obtain ⟨k2, a, fp, e, hr2⟩ := hq2
  subst hr2
  obtain ⟨k3, v3⟩ := hq3
  refine ⟨by show 3 ≤ sizeLine; decide, ?_⟩
  have q3 := ((q.ext k1).ext k2).ext k3
  obtain ⟨a', fp', e', hx⟩ := (q3.obj k _ _ ho e).pl_lst
  cases e'
  have k4 : Kp s3 { s3 with heap := s3.heap.push { cls := .type "list", data := .seq [r1, .ref a, r3].toArray } } := Kp.push _ _ _
  obtain ⟨f1, w1⟩ := v1
  obtain ⟨f3, w3⟩ := v3
  have hal := hx.alive
  refine ⟨.ret (.lst [d1, .lst xs, d3]), σ, fps, q3.ext k4, Fext.refl _, ⟨_, s3.heap.objs.size :: ([] ++ ((a :: fp) ++ ([] ++ []))), rfl, ⟨_, _, _, rfl, rfl, ⟨_, Heap.get?_push_size _ rfl, rfl, _, rfl⟩, ⟨_, _, _, _, rfl, rfl, (w1.sc_heap hs1).1, _, _, _, _, rfl, rfl, hx.mono fun b _ o e => k4.hp b o e, _, _, _, _, rfl, rfl, (w3.sc_heap hs3).1, rfl, rfl⟩⟩, ?_, ?_⟩, hr⟩
  · rw [List.nil_append, List.append_nil, List.append_nil, List.nodup_cons]
    refine ⟨fun hm => ?_, q3.nodupAt e⟩
    obtain ⟨o, ho⟩ := hal _ hm
    exact absurd (Heap.lt_size ho) (Nat.lt_irrefl _)
  · intro b hb
    rcases List.mem_cons.mp hb with rfl | hb
    · exact fresh_of_kp q3.keep fresh_push
    · exact q3.fresh b (own_fps (mem_flatten_get e (by simpa using hb)))
end
end Mine
end
section
open PySem PySem.Calls PyProof.Rows
set_option maxRecDepth 100000
namespace Mine
structure Pl where
  row : Str
  whn : List Int
  pile : List Int
  busy : Int
  came : Nat
noncomputable def plIn (wk : List Int) (h : Int) (t : Pl) : Pl := ⟨t.row ++ Str.ofString "(", t.whn ++ [h], t.pile ++ [wk.getD t.came 0], t.busy, t.came + 1⟩
noncomputable def plW (wk co : List Int) (h : Int) : Nat → Pl → Pl
  | 0, t => t
  | f + 1, t => if (decide ((t.came : Int) < 5) && (co.getD t.came 0 == h)) = true then plW wk co h f (plIn wk h t) else t
noncomputable def lastI (l : List Int) : Int := l.getD (l.length - 1) 0
noncomputable def plB (h : Int) (t : Pl) : Pl := match t.pile with
  | [] => t
  | _ :: _ => if (lastI t.pile - 1 == 0) = true then ⟨t.row ++ Str.ofString ")", t.whn ++ [h + 1], t.pile.dropLast, t.busy + 2 ^ h.toNat, t.came⟩
    else ⟨t.row, t.whn, t.pile.set (t.pile.length - 1) (lastI t.pile - 1), t.busy + 2 ^ h.toNat, t.came⟩
noncomputable def plRun (wk co : List Int) : Nat → Pl
  | 0 => ⟨Str.ofString "", [], [], 0, 0⟩
  | j + 1 => plB j (plW wk co j (5 - (plRun wk co j).came) (plRun wk co j))
structure PlOk (m : Nat) (t : Pl) : Prop where
  row : t.row.length ≤ t.came + m
  whn : t.whn.length ≤ t.came + m
  pile : t.pile.length ≤ t.came
  le : t.came ≤ 5
theorem plIn_ok {wk : List Int} {h : Int} {m : Nat} {t : Pl} (k : PlOk m t) (hc : t.came < 5) : PlOk m (plIn wk h t) := by
  obtain ⟨h1, h2, h3, h4⟩ := k
  refine ⟨?_, ?_, ?_, hc⟩
  · show (t.row ++ Str.ofString "(").length ≤ t.came + 1 + m
    rw [Str.length_append, Nat.add_right_comm]; exact Nat.succ_le_succ h1
  · show (t.whn ++ [h]).length ≤ t.came + 1 + m
    rw [List.length_append, Nat.add_right_comm]; exact Nat.succ_le_succ h2
  · show (t.pile ++ [_]).length ≤ t.came + 1
    rw [List.length_append]; exact Nat.succ_le_succ h3
theorem plW_ok {wk co : List Int} {h : Int} {m : Nat} : ∀ f {t : Pl}, PlOk m t → PlOk m (plW wk co h f t)
  | 0, t, k => k
  | f + 1, t, k => by
    unfold plW
    split
    · rename_i hb
      exact plW_ok f (plIn_ok k (Int.ofNat_lt.mp (of_decide_eq_true (Bool.and_eq_true_iff.mp hb).1)))
    · exact k
theorem plB_ok {h : Int} {m : Nat} {t : Pl} (k : PlOk m t) : PlOk (m + 1) (plB h t) := by
  obtain ⟨h1, h2, h3, h4⟩ := k
  unfold plB
  split
  · exact ⟨Nat.le_succ_of_le h1, Nat.le_succ_of_le h2, h3, h4⟩
  · split
    · refine ⟨?_, ?_, ?_, h4⟩
      · show (t.row ++ Str.ofString ")").length ≤ t.came + (m + 1)
        rw [Str.length_append]; exact Nat.succ_le_succ h1
      · show (t.whn ++ [h + 1]).length ≤ t.came + (m + 1)
        rw [List.length_append]; exact Nat.succ_le_succ h2
      · show t.pile.dropLast.length ≤ t.came
        rw [List.length_dropLast]; exact Nat.le_trans (Nat.sub_le ..) h3
    · exact ⟨Nat.le_succ_of_le h1, Nat.le_succ_of_le h2, by show (t.pile.set _ _).length ≤ _; rw [List.length_set]; exact h3, h4⟩
theorem plRun_ok (wk co : List Int) : ∀ j, PlOk j (plRun wk co j)
  | 0 => ⟨Nat.le_refl _, Nat.le_refl _, Nat.le_refl _, Nat.zero_le _⟩
  | j + 1 => plB_ok (plW_ok _ (plRun_ok wk co j))
section
variable {X : Cx} {n : Nat}
noncomputable abbrev pileD (pm cd doc : Value) (a L : Addr) (z : Heap) : FD := fnD (dFd (topS 16) pm cd doc) L a z
noncomputable def plL (co wk : List Int) (t : Pl) : List (Str × AV) := [(Str.ofString "row", .dv (.str t.row)), (Str.ofString "when", .ref 0), (Str.ofString "pile", .ref 1), (Str.ofString "busy", .dv (.int t.busy)), (Str.ofString "came", .dv (.int (t.came : Int))), (Str.ofString "come", .dv (.lst (co.map .int))), (Str.ofString "works", .dv (.lst (wk.map .int)))]
noncomputable def plH (t : Pl) : List AObj := [.pl (t.whn.map .int), .pl (t.pile.map .int)]
theorem pile_segA {pm cd doc : Value} {a L : Addr} {z : Heap} {h : Int} {co wk : List Int} (hco : co.length = 5) (hwk : wk.length = 5) {t : Pl} {m : Nat} (ht : PlOk m t) (hm : m ≤ 100) {Φ : AFl → St → Prop} {rest : List Stmt}
    (hr : Ex X n (pileD pm cd doc a L z) rest ⟨(Str.ofString "hour", .dv (.int h)) :: plL co wk (plW wk co h (5 - t.came) t), plH (plW wk co h (5 - t.came) t)⟩ Φ) :
    Ex X n (pileD pm cd doc a L z) (stN (forB (stN (dBody (topS 16)) 5)) 0 :: rest) ⟨(Str.ofString "hour", .dv (.int h)) :: plL co wk t, plH t⟩ Φ := by
  refine Ex.while_ (T := Pl) (fun u => ⟨(Str.ofString "hour", .dv (.int h)) :: plL co wk u, plH u⟩) (fun u => 5 - u.came) (fun u => decide ((u.came : Int) < 5) && (co.getD u.came 0 == h))
    (fun u => PlOk m u ∧ plW wk co h (5 - u.came) u = plW wk co h (5 - t.came) t) t ⟨ht, rfl⟩ ⟨⟨rfl, rfl, rfl, rfl, rfl, rfl, rfl, rfl, trivial⟩, rfl, [], rfl⟩ (fun _ _ => rfl)
    (fun u hu => ?_) (fun u hu hb => ?_) (fun u hu hb => Ex.nil ?_) (Nat.le_refl _)
  · exact EvB.and2 (EvB.cmp (EvO.name (d := .int (u.came : Int)) rfl rfl) EvO.int.toO .ltI) fun hlt => EvB.cmp (EvO.item (EvO.name (d := .lst (co.map .int)) rfl rfl) (EvO.name (d := .int (u.came : Int)) rfl rfl) (idx_at rfl (getI_at (by rw [hco]; exact Int.ofNat_lt.mp (of_decide_eq_true hlt)))) (by rw [List.length_map, hco]; decide)) (EvO.name (d := .int h) rfl rfl) .eqI
  · obtain ⟨u1, u3⟩ := hu
    have hc5 : u.came < 5 := Int.ofNat_lt.mp (of_decide_eq_true (Bool.and_eq_true_iff.mp hb).1)
    have hz : ∀ k, k ≤ 200 → k ≤ sizeLine := fun k hk => Nat.le_trans hk (by decide)
    have l1 := u1.row
    have l2 := u1.whn
    have l3 := u1.pile
    refine Ex.append (k := 1) (xs := u.pile.map .int) (d := .int (wk.getD u.came 0)) rfl rfl rfl ((EvO.item (EvO.name (d := .lst (wk.map .int)) rfl rfl) (EvO.name (d := .int (u.came : Int)) rfl rfl) (idx_at rfl (getI_at (by rw [hwk]; exact hc5))) (by rw [List.length_map, hwk]; decide)).toF rfl) (by rw [List.length_map]; exact hz _ (by omega)) ?_
    refine Ex.aug (a := .str u.row) (b := .str (Str.ofString "(")) rfl rfl EvO.str.toO (.addS (by show u.row.length + 1 ≤ _; exact hz _ (by omega))) rfl ?_
    refine Ex.append (k := 0) (xs := u.whn.map .int) (d := .int h) rfl rfl rfl ((EvO.name rfl rfl).toF rfl) (by rw [List.length_map]; exact hz _ (by omega)) ?_
    refine Ex.aug (a := .int (u.came : Int)) (b := .int 1) rfl rfl EvO.int.toO .addI rfl (Ex.nil ⟨plIn wk h u, ⟨plIn_ok u1 hc5, ?_⟩, Nat.sub_lt_sub_left hc5 (Nat.lt_succ_self _), ⟨⟨rfl, rfl, rfl, rfl, rfl, rfl, rfl, rfl, trivial⟩, rfl, [], ?_⟩⟩)
    · rw [← u3]
      show plW wk co h (5 - (u.came + 1)) (plIn wk h u) = plW wk co h (5 - u.came) u
      rw [show 5 - u.came = (5 - (u.came + 1)) + 1 by omega]
      exact (if_pos hb).symm
    · show [_, _] = plH (plIn wk h u) ++ []
      unfold plH plIn
      rw [List.map_append, List.map_append]
      rfl
  · obtain ⟨u1, u3⟩ := hu
    have e : plW wk co h (5 - u.came) u = u := by
      cases 5 - u.came with
      | zero => rfl
      | succ m => exact if_neg (by rw [hb]; decide)
    rw [← u3, e] at hr
    exact hr
end
end Mine
end
section
open PySem PySem.Calls PyProof.Rows
set_option maxRecDepth 100000
namespace Mine
theorem drop_set {α : Type} (l : List α) (v : α) : (l.set (l.length - 1) v).dropLast = l.dropLast := by
  rw [List.dropLast_eq_take, List.dropLast_eq_take, List.length_set, List.take_set_of_le (Nat.le_refl _)]
theorem ne_nil (xs : List Int) : (!PyData.eqv (DV.lst (xs.map .int)).py (DV.lst []).py) = !xs.isEmpty := by
  cases xs <;> rfl
section
variable {X : Cx} {n : Nat}
theorem pile_segB {pm cd doc : Value} {a L : Addr} {z : Heap} {h : Int} {co wk : List Int} (h0 : 0 ≤ h) (h1 : h ≤ 1000000) {t : Pl} {m : Nat} (ht : PlOk m t) (hm : m ≤ 100) {Φ : AFl → St → Prop} {rest : List Stmt}
    (hr : Ex X n (pileD pm cd doc a L z) rest ⟨(Str.ofString "hour", .dv (.int h)) :: plL co wk (plB h t), plH (plB h t)⟩ Φ) :
    Ex X n (pileD pm cd doc a L z) (stN (forB (stN (dBody (topS 16)) 5)) 1 :: rest) ⟨(Str.ofString "hour", .dv (.int h)) :: plL co wk t, plH t⟩ Φ := by
  have hz : ∀ k, k ≤ 200 → k ≤ sizeLine := fun k hk => Nat.le_trans hk (by decide)
  obtain ⟨l1, l2, l3, l4⟩ := ht
  refine Ex.ite (EvB.neL (EvO.namePl (k := 1) (xs := t.pile.map .int) rfl rfl rfl) (EvF.list EvOs.nil (by simp)).toO (ok_ints _) (by rfl) (Nat.le_trans (Nat.min_le_right _ _) (by decide))) (fun hb => ?_) fun hb => Ex.nil ?_
  · rw [ne_nil] at hb
    obtain ⟨row, whn, pile, busy, came⟩ := t
    cases pile with
    | nil => cases hb
    | cons v r =>
      have hlen : ((v :: r).map DV.int).length = (v :: r).length := List.length_map _
      have hpos : 0 < (v :: r).length := Nat.succ_pos _
      have hlt : (v :: r).length - 1 < (v :: r).length := Nat.sub_lt hpos (by decide)
      have hx := getI_at (l := v :: r) hlt
      have l3 : (v :: r).length ≤ came := l3
      have l4 : came ≤ 5 := l4
      refine Ex.aug (a := .int busy) (b := .int (2 ^ h.toNat)) rfl rfl (EvF.bin EvO.int.toO (EvO.name (d := .int h) rfl rfl) (.powI h0 h1 (by decide))).toO .addI rfl ?_
      refine Ex.augItem (k := 1) (xs := (v :: r).map .int) (j := (v :: r).length - 1) (c := -1) (d := .int (lastI (v :: r))) (b := .int 1) (v := .int (lastI (v :: r) - 1)) rfl rfl rfl EvO.int.toO .subI rfl (sc_ints _) (EvF.neg EvO.int.toO).toO (by rw [hlen]; exact PyProof.Rows.seqIndex?_neg_one hpos) hx (by decide) (by rw [hlen]; exact hz _ (by omega)) ?_
      have hset : ((v :: r).map DV.int).set ((v :: r).length - 1) (.int (lastI (v :: r) - 1)) = ((v :: r).set ((v :: r).length - 1) (lastI (v :: r) - 1)).map .int := by rw [List.map_set]
      rw [hset]
      generalize hS : (v :: r).set ((v :: r).length - 1) (lastI (v :: r) - 1) = S
      have hSl : S.length = (v :: r).length := by rw [← hS, List.length_set]
      have hSx : (S.map DV.int)[S.length - 1]? = some (.int (lastI (v :: r) - 1)) := by
        rw [List.getElem?_map, hSl, ← hS, List.getElem?_set_self hlt]; rfl
      refine Ex.ite (b := lastI (v :: r) - 1 == 0) (EvB.cmp (EvO.item (EvO.namePl (k := 1) (xs := S.map .int) rfl rfl rfl) (EvF.neg EvO.int.toO).toO (by rw [List.length_map, PyProof.Rows.seqIndex?_neg_one (by rw [hSl]; exact hpos)]; exact hSx) (by rw [List.length_map, hSl]; exact hz _ (by omega))) EvO.int.toO .eqI) (fun hc => ?_) fun hc => Ex.nil (Ex.nil ?_)
      · have e : plB h ⟨row, whn, v :: r, busy, came⟩ = ⟨row ++ Str.ofString ")", whn ++ [h + 1], S.dropLast, busy + 2 ^ h.toNat, came⟩ := by
          rw [← hS, drop_set]
          exact if_pos hc
        rw [e] at hr
        refine Ex.pop (k := 1) (xs := S.map .int) rfl rfl rfl (sc_ints _) (by intro hn; have := congrArg List.length hn; rw [List.length_map, hSl] at this; cases this) (by rw [List.length_map, hSl]; exact hz _ (by omega)) ?_
        refine Ex.aug (a := .str row) (b := .str (Str.ofString ")")) rfl rfl EvO.str.toO (.addS (by show row.length + 1 ≤ _; exact hz _ (by have : row.length ≤ came + m := l1; omega))) rfl ?_
        refine Ex.append (k := 0) (xs := whn.map .int) (d := .int (h + 1)) rfl rfl rfl (EvF.bin (EvO.name (d := .int h) rfl rfl) EvO.int.toO .addI) (by rw [List.length_map]; exact hz _ (by have : whn.length ≤ came + m := l2; omega)) (Ex.nil (Ex.nil ?_))
        refine Ex.weak hr (SubL.lookup ⟨rfl, rfl, rfl, rfl, rfl, rfl, rfl, rfl, trivial⟩) ?_
        unfold plH
        rw [List.map_append, List.map_dropLast]
        rfl
      · have e : plB h ⟨row, whn, v :: r, busy, came⟩ = ⟨row, whn, S, busy + 2 ^ h.toNat, came⟩ := by
          rw [← hS]
          exact if_neg (by rw [hc]; decide)
        rw [e] at hr
        exact Ex.weak hr (SubL.lookup ⟨rfl, rfl, rfl, rfl, rfl, rfl, rfl, rfl, trivial⟩) rfl
  · rw [ne_nil] at hb
    obtain ⟨row, whn, pile, busy, came⟩ := t
    cases pile with
    | nil => exact hr
    | cons v r => cases hb
theorem pile_ok {a : Addr} {pm cd doc : Value} (hf : FnAt X a (topS 16) pm cd doc) (hra : X.C.tab.lookup (Str.ofString "range") = some (.type "range")) {co wk : List Int} (hco : co.length = 5) (hwk : wk.length = 5) :
    CallO X (n + 1) (.ref a) [.lst (co.map .int), .lst (wk.map .int)] (.lst [.str (plRun wk co 23).row, .lst ((plRun wk co 23).whn.map .int), .int (plRun wk co 23).busy]) := by
  refine hf.call [Str.ofString "come", Str.ofString "works"] (fun vals hv => ?_) (by decide) (by decide) (by decide) rfl rfl rfl fun L z hz => ?_
  · obtain ⟨v, v2, rfl⟩ := len2 hv
    rfl
  refine Ex.assign (d := .str (Str.ofString "")) EvO.str rfl (Ex.assignNil rfl (Ex.assignNil rfl (Ex.assign (d := .int 0) EvO.int rfl (Ex.assign (d := .int 0) EvO.int rfl ?_))))
  refine Ex.for_ (T := Unit) (J := fun _ => True) (rangeIV 0 1 (23 : Int).toNat) (fun j _ => ⟨plL co wk (plRun wk co j), plH (plRun wk co j)⟩) (fun j _ => j ≤ 23) ()
    (EvI.range1 rfl hra EvO.int.toO (by decide) (by decide)) (by decide) ⟨⟨rfl, rfl, rfl, rfl, rfl, rfl, rfl, trivial⟩, rfl, [], rfl⟩ (fun _ _ _ => Nat.le_refl _) (fun _ _ _ => trivial) (fun j t x hj hx => ?_) fun t ht => ?_
  · obtain ⟨hj8, rfl⟩ := rangeIV_get hx
    have hj8 : j < 23 := hj8
    refine ⟨_, As.name rfl rfl, ?_⟩
    have hm : ((0 : Int) + (j : Int) * 1) = (j : Int) := by lia
    rw [hm]
    have k := plRun_ok wk co j
    refine pile_segA hco hwk k (by omega) ?_
    refine pile_segB (Int.natCast_nonneg j) (by omega) (plW_ok _ k) (by omega) (Ex.nil ?_)
    exact ⟨(), hj8, ⟨rfl, rfl, rfl, rfl, rfl, rfl, rfl, trivial⟩, rfl, [], rfl⟩
  · refine Ex.nil (Ex.retMix (k := 0) (d1 := .str (plRun wk co 23).row) (d3 := .int (plRun wk co 23).busy) (xs := (plRun wk co 23).whn.map .int) (EvO.name rfl rfl) rfl rfl rfl rfl (EvO.name rfl rfl) rfl rfl)
end
end Mine
end
section
open PySem PySem.Calls PyProof.Rows
set_option maxRecDepth 100000
namespace Mine
noncomputable def sgAt (row : Str) (i : Nat) : Str := ⟨#[row.cps.toList.getD i 0]⟩
noncomputable def slR (row : Str) (i j : Nat) : Str := Txt.slice row (some ((i : Int) + 1)) (some (j : Int))
noncomputable def prHit (row : Str) (i j : Nat) : Bool := (sgAt row j == Str.ofString ")") && (chkO (slR row i j) == true)
noncomputable def prIn (row : Str) (i : Nat) (acc : List (Int × Int)) : Nat → List (Int × Int)
  | 0 => acc
  | k + 1 => if prHit row i (i + 1 + 2 * k) = true then prIn row i acc k ++ [((i : Int), ((i + 1 + 2 * k : Nat) : Int))] else prIn row i acc k
noncomputable def prN (row : Str) (i : Nat) : Nat := (((row.length : Int) - ((i : Int) + 1) + 1) / 2).toNat
noncomputable def prRun (row : Str) : Nat → List (Int × Int)
  | 0 => []
  | i + 1 => if (sgAt row i == Str.ofString "(") = true then prIn row i (prRun row i) (prN row i) else prRun row i
noncomputable def pairV (l : List (Int × Int)) : List DV := l.map fun p => .lst [.int p.1, .int p.2]
structure RowOk (row : Str) : Prop where
  len : row.length ≤ 100
  seg : ∀ i j, i < j → j < row.length → (slR row i j).length ≤ 1000 ∧ (slR row i j).cps.all (· < 128) = true ∧ (stripO (slR row i j)).length ≤ 1000 ∧ (stripO (slR row i j)).cps.all (· < 128) = true
theorem half_lt {m i k : Nat} (h : k < (((m : Int) - ((i : Int) + 1) + 1) / 2).toNat) : i + 1 + 2 * k < m := by omega
theorem prIn_len (row : Str) (i : Nat) (acc : List (Int × Int)) : ∀ k, (prIn row i acc k).length ≤ acc.length + k
  | 0 => Nat.le_refl _
  | k + 1 => by
    unfold prIn
    split
    · rw [List.length_append]; exact Nat.succ_le_succ (prIn_len row i acc k)
    · exact Nat.le_succ_of_le (prIn_len row i acc k)
theorem prRun_len {row : Str} (h : row.length ≤ 100) : ∀ i, (prRun row i).length ≤ 51 * i
  | 0 => Nat.le_refl _
  | i + 1 => by
    have ih := prRun_len h i
    unfold prRun
    split
    · have := prIn_len row i (prRun row i) (prN row i)
      have h2 : prN row i ≤ 51 := by unfold prN; omega
      omega
    · omega
section
variable {X : Cx} {n : Nat} {aI aS aC : Addr}
noncomputable abbrev pairsD (pm cd doc : Value) (a L : Addr) (z : Heap) : FD := fnD (dFd (topS 15) pm cd doc) L a z
theorem pairs_ok {a : Addr} {pm cd doc : Value} (hf : FnAt X a (topS 15) pm cd doc) (hC : FnG X 7 aC) (hS : FnG X 6 aS) (hI : FnG X iI aI) (hen : X.C.tab.lookup (Str.ofString "enumerate") = some (.type "enumerate")) (hlen : X.C.tab.lookup (Str.ofString "len") = some (.builtin "len")) (hra : X.C.tab.lookup (Str.ofString "range") = some (.type "range"))
    {row : Str} (hp : RowOk row) : CallO X (n + 4) (.ref a) [.str row] (.lst (pairV (prRun row row.length))) := by
  obtain ⟨pmC, cdC, docC, hvC, hfC⟩ := hC
  have hl0 := hp.len
  have hz1 : row.length ≤ sizeLine := Nat.le_trans hl0 (by decide)
  refine hf.call [Str.ofString "row"] (fun vals hv => ?_) (by decide) (by decide) (by decide) rfl rfl rfl fun L z hz => ?_
  · obtain ⟨v, rfl⟩ := len1 hv
    rfl
  have hchr : ∀ (σ : St) (nm : Str) (pn pp p4 : Pos) (m : Nat), σ.loc.lookup (Str.ofString "row") = some (.dv (.str row)) → σ.loc.lookup nm = some (.dv (.int (m : Int))) → isVar (pairsD pm cd doc a L z) nm = true → m < row.length →
      EvF X (n + 3) (pairsD pm cd doc a L z) σ (.Subscript (.Name (Str.ofString "row") pp) (.Name nm pn) p4) (.str (sgAt row m)) := fun σ nm pn pp p4 m e1 e2 e3 hm =>
    EvF.chr (EvO.name e1 rfl) (EvO.name e2 e3) (by
      rw [seqIndex_nat hm]
      show row.cps[m]? = some (row.cps.toList.getD m 0)
      have : m < row.cps.size := hm
      rw [Array.getElem?_eq_getElem this, List.getD, List.getElem?_eq_getElem (by simpa using this)]
      rfl) (by
      have h1 : ¬ ((m : Int) < -(2 ^ 63 : Int)) := by omega
      have h2 : ¬ ((m : Int) ≥ 2 ^ 63) := by omega
      rw [decide_eq_false h1, decide_eq_false h2]; rfl)
  refine Ex.assignNil rfl ?_
  refine Ex.for_ (T := Unit) (J := fun _ => True) (rangeIV 0 1 (row.length : Int).toNat) (fun i _ => ⟨[(Str.ofString "pairs", .ref 0), (Str.ofString "row", .dv (.str row))], [.pl (pairV (prRun row i))]⟩) (fun i _ => i ≤ row.length) ()
    (EvI.range1 rfl hra (EvF.callB rfl hlen (EvOs.cons (EvO.name (d := .str row) rfl rfl) EvOs.nil) (CallO.lenS hz1)).toO (Int.natCast_nonneg _) (by omega)) (Nat.zero_le _) ⟨⟨rfl, rfl, trivial⟩, rfl, [], rfl⟩ (fun _ _ _ => Nat.le_refl _) (fun _ _ _ => trivial) (fun i t x hi hx => ?_) fun t ht => ?_
  · obtain ⟨hi8, rfl⟩ := rangeIV_get hx
    have hi : i < row.length := by rwa [Int.toNat_natCast] at hi8
    refine ⟨_, As.name rfl rfl, ?_⟩
    have hm : ((0 : Int) + (i : Int) * 1) = (i : Int) := by lia
    rw [hm]
    refine Ex.ite (EvB.cmp (hchr _ (Str.ofString "i") _ _ _ i rfl rfl rfl hi).toO EvO.str.toO .eqS) (fun hb => ?_) fun hb => Ex.nil (Ex.nil ?_)
    · have hrun : prRun row (i + 1) = prIn row i (prRun row i) (prN row i) := if_pos hb
      refine Ex.for_ (T := Unit) (J := fun _ => True) (rangeIV ((i : Int) + 1) 2 (prN row i)) (fun k _ => ⟨[(Str.ofString "pairs", .ref 0), (Str.ofString "i", .dv (.int i)), (Str.ofString "row", .dv (.str row))], [.pl (pairV (prIn row i (prRun row i) k))]⟩) (fun k _ => k ≤ prN row i) ()
        (EvI.range3 rfl hra (EvF.bin (EvO.name (d := .int (i : Int)) rfl rfl) EvO.int.toO .addI).toO (EvF.callB rfl hlen (EvOs.cons (EvO.name (d := .str row) rfl rfl) EvOs.nil) (CallO.lenS hz1)).toO EvO.int.toO (Int.natCast_nonneg _) (by omega) (by omega) (by omega)) (Nat.zero_le _) ⟨⟨rfl, rfl, rfl, trivial⟩, rfl, [], rfl⟩ (fun _ _ _ => Nat.le_refl _) (fun _ _ _ => trivial) (fun k t x hk hx => ?_) fun t ht => ?_
      · obtain ⟨hkN, rfl⟩ := rangeIV_get hx
        have hj : i + 1 + 2 * k < row.length := half_lt hkN
        have hjm : ((i : Int) + 1) + (k : Int) * 2 = ((i + 1 + 2 * k : Nat) : Int) := by omega
        refine ⟨_, As.name rfl rfl, ?_⟩
        rw [hjm]
        have hnext : prIn row i (prRun row i) (k + 1) = if prHit row i (i + 1 + 2 * k) = true then prIn row i (prRun row i) k ++ [((i : Int), ((i + 1 + 2 * k : Nat) : Int))] else prIn row i (prRun row i) k := rfl
        have hll : (prIn row i (prRun row i) k).length ≤ 6000 := by
          have h1 := prIn_len row i (prRun row i) k
          have h2 := prRun_len hl0 i
          omega
        have hij : i < i + 1 + 2 * k := by omega
        generalize i + 1 + 2 * k = j at hj hnext hij ⊢
        obtain ⟨g1, g2, g3, g4⟩ := hp.seg i j hij hj
        refine Ex.ite (b := prHit row i j) (EvB.and2 (EvB.cmp (hchr _ (Str.ofString "j") _ _ _ j rfl rfl rfl hj).toO EvO.str.toO .eqS) fun _ => EvB.cmp (EvF.call rfl hvC hfC.isFn (EvOs.cons (EvF.sliceS (EvO.name (d := .str row) rfl rfl) (.some (EvF.bin (EvO.name (d := .int (i : Int)) rfl rfl) EvO.int.toO .addI).toO) (.some (EvO.name (d := .int (j : Int)) rfl rfl)) hz1).toO EvOs.nil) (check_ok (n := n) hfC hS hI hen hlen (slR row i j) g1 g2 g3 g4)).toO EvO.bool.toO .isB) (fun hb2 => ?_) fun hb2 => Ex.nil (Ex.nil ⟨(), hkN, ⟨rfl, rfl, rfl, trivial⟩, rfl, [], ?_⟩)
        · refine Ex.append (k := 0) (xs := pairV (prIn row i (prRun row i) k)) (d := .lst [.int i, .int j]) rfl rfl rfl (EvF.list (EvOs.cons (EvO.name rfl rfl) (EvOs.cons (EvO.name rfl rfl) EvOs.nil)) (sc_all rfl) (by show 2 ≤ sizeLine; decide)) (by unfold pairV; rw [List.length_map]; exact Nat.le_trans hll (by decide)) (Ex.nil (Ex.nil ⟨(), hkN, ⟨rfl, rfl, rfl, trivial⟩, rfl, [], ?_⟩))
          show [AObj.pl _] = [AObj.pl _] ++ []
          rw [hnext, if_pos hb2]
          unfold pairV
          rw [List.map_append]
          rfl
        · show [AObj.pl _] = [AObj.pl _] ++ []
          rw [hnext, if_neg (by rw [hb2]; decide)]
          rfl
      · refine Ex.nil (Ex.nil (Ex.nil ⟨(), hi, ⟨rfl, rfl, trivial⟩, rfl, [], ?_⟩))
        rw [rangeIV_len]
        show [AObj.pl _] = [AObj.pl _] ++ []
        rw [hrun]; rfl
    · have hrun : prRun row (i + 1) = prRun row i := if_neg (by rw [hb]; decide)
      refine ⟨(), hi, ⟨rfl, rfl, trivial⟩, rfl, [], ?_⟩
      show [AObj.pl _] = [AObj.pl _] ++ []
      rw [hrun]; rfl
  · refine Ex.nil (Ex.retRef (k := 0) rfl rfl (.inr rfl) ?_)
    rw [rangeIV_len, Int.toNat_natCast]
    rfl
end
end Mine
end
section
open PySem PySem.Calls PyProof.Rows
set_option maxRecDepth 100000
namespace Mine
section
variable {X : Cx} {n : Nat} {D : FD} {σ : St}
theorem EvI.fresh {J : St → Prop} {target e : Expr} {xs : List DV} (ht : (∃ x p, target = .Name x p) ∨ (∃ elts k p, target = .Tuple elts k p)) (h : EvF X n D σ e (.lst xs)) : EvI X n D σ target e (xs.map .one) J := fun A g fps s hA q =>
  wpF_mono (h A g fps s hA q) fun r s1 hq => by
    obtain ⟨k1, f, hr, hn, hf⟩ := hq
    refine list_iter hA ht q k1 hr fun b hb hm => ?_
    obtain ⟨o, ho⟩ := q.alive _ hm
    exact (Option.some_ne_none _ (ho.symm.trans (hf b hb))).elim
theorem As.list2 {x y : Str} {px py p : Pos} {k : Nat} {a b : DV} (ha : a.sc = true) (hb : b.sc = true) (hx : isOwnVar D x = true) (hy : isOwnVar D y = true) :
    As X n D σ (.Tuple [.Name x px, .Name y py] k p) (.one (.lst [a, b])) ⟨(y, .dv b) :: (x, .dv a) :: σ.loc, σ.hp⟩ := fun A g fps s r hA q hi => by
  have hi : VR s.heap (.lst [a, b]) r := hi
  obtain ⟨l, vs, rfl, hl, hv⟩ := hi.lst
  obtain ⟨va, vs1, rfl, h4, hv⟩ := hv.cons_inv
  obtain ⟨vb, vs2, rfl, h5, hv⟩ := hv.cons_inv
  obtain rfl := hv.nil_inv
  refine assign_Tuple_list hA.1 hl rfl rfl fun h' he => ?_
  have k1 : Kp s { s with heap := h' } := ⟨fun b' o' _ e => he b' o' (fun hb' => by rw [hb'] at e; exact absurd (Heap.lt_size e) (Nat.lt_irrefl _)) e, fun _ _ _ e => e, id, rfl⟩
  have q1 := q.ext k1
  obtain ⟨f4, h4⟩ := h4
  obtain ⟨f5, h5⟩ := h5
  refine wpAny_assignInOrder_more (wpAny_assign_Name (q1.store (v := .dv a) hx ⟨[], (h4.sc_heap ha).1⟩ fun s2 q2 => ?_))
  exact wpAny_assignInOrder_more (wpAny_assign_Name (q2.store (v := .dv b) hy ⟨[], (h5.sc_heap hb).1⟩ fun s3 q3 => wpAny_assignInOrder_none q3))
end
theorem prIn_mem {row : Str} {i : Nat} (hi : i < row.length) {acc : List (Int × Int)} (ha : ∀ p ∈ acc, ∃ i j : Nat, p = ((i : Int), (j : Int)) ∧ i < j ∧ j < row.length) : ∀ k, k ≤ prN row i → ∀ p ∈ prIn row i acc k, ∃ i j : Nat, p = ((i : Int), (j : Int)) ∧ i < j ∧ j < row.length
  | 0, _ => ha
  | k + 1, hk => by
    have ih := prIn_mem hi ha k (Nat.le_of_succ_le hk)
    unfold prIn
    split
    · intro p hp
      rcases List.mem_append.mp hp with hp | hp
      · exact ih p hp
      · exact ⟨i, i + 1 + 2 * k, List.mem_singleton.mp hp, by omega, half_lt hk⟩
    · exact ih
theorem prRun_mem {row : Str} : ∀ m, m ≤ row.length → ∀ p ∈ prRun row m, ∃ i j : Nat, p = ((i : Int), (j : Int)) ∧ i < j ∧ j < row.length
  | 0, _ => fun _ h => nomatch h
  | m + 1, hm => by
    have ih := prRun_mem m (Nat.le_of_succ_le hm)
    unfold prRun
    split
    · exact prIn_mem hm ih _ (Nat.le_refl _)
    · exact ih
theorem plW_whn {wk co : List Int} {h : Int} : ∀ f {t : Pl}, t.row.length = t.whn.length → (plW wk co h f t).row.length = (plW wk co h f t).whn.length
  | 0, t, k => k
  | f + 1, t, k => by
    unfold plW
    split
    · refine plW_whn f ?_
      show (t.row ++ Str.ofString "(").length = (t.whn ++ [h]).length
      rw [Str.length_append, List.length_append, k]; rfl
    · exact k
theorem plB_whn {h : Int} {t : Pl} (k : t.row.length = t.whn.length) : (plB h t).row.length = (plB h t).whn.length := by
  unfold plB
  split
  · exact k
  · split
    · show (t.row ++ Str.ofString ")").length = (t.whn ++ [h + 1]).length
      rw [Str.length_append, List.length_append, k]; rfl
    · exact k
theorem plRun_whn (wk co : List Int) : ∀ j, (plRun wk co j).row.length = (plRun wk co j).whn.length
  | 0 => rfl
  | j + 1 => plB_whn (plW_whn _ (plRun_whn wk co j))
structure LawG2 (X : Cx) : Prop where
  prs : ∃ a, FnG X 15 a
  pil : ∃ a, FnG X 16 a
noncomputable def lastsOf (row : Str) (whn : List Int) : List Int := (prRun row row.length).map fun p => whn.getD p.2.toNat 0
noncomputable def lastF (whn : List Int) : IV → Option DV
  | .one (.lst [_, .int j]) => some (.int (whn.getD j.toNat 0))
  | _ => none
theorem lastF_map (row : Str) (whn : List Int) : ((pairV (prRun row row.length)).map IV.one).filterMap (lastF whn) = (lastsOf row whn).map .int := by
  unfold lastsOf pairV
  rw [List.map_map, List.map_map]
  induction prRun row row.length with
  | nil => rfl
  | cons p r ih => rw [List.map_cons, List.map_cons, List.filterMap_cons_some (f := lastF whn) (b := DV.int (whn.getD p.2.toNat 0)) rfl, ih]; rfl
section
variable {X : Cx} {K : LexK} {n : Nat}
theorem law2_pile (hg : LawG X K) (h2 : LawG2 X) {pm cd doc : Value} {a L : Addr} {z : Heap} {text : Str} {ln p : Int} {ws : List Str} {nm : AObj} {co wk : List Int} (hco : co.length = 5) (hwk : wk.length = 5) (hro : RowOk (plRun wk co 23).row) {t : R1} {Φ : AFl → St → Prop} {rest : List Stmt}
    (hr : Ex X (n + 6) (law1D pm cd doc a L z) rest ⟨(Str.ofString "lasts", .ref 8) :: (Str.ofString "worked", .dv (.int (plRun wk co 23).busy)) :: r1L t, r1H K text ln ws nm co (.lst (wk.map .int)) p t ++ [.lst ((plRun wk co 23).whn.map .int), .lst ((lastsOf (plRun wk co 23).row (plRun wk co 23).whn).map .int)]⟩ Φ) :
    Ex X (n + 6) (law1D pm cd doc a L z) (stN (dBody law1S) 18 :: stN (dBody law1S) 19 :: rest) ⟨r1L t, r1H K text ln ws nm co (.lst (wk.map .int)) p t⟩ Φ := by
  obtain ⟨aL, pmL, cdL, docL, hvL, hfL⟩ := h2.pil
  obtain ⟨aP, pmP, cdP, docP, hvP, hfP⟩ := h2.prs
  obtain ⟨aC, hC⟩ := hg.chk
  obtain ⟨aS, hS⟩ := hg.strip
  obtain ⟨aI, hI⟩ := hg.esc
  refine Ex.assignTup3 (EvF.call rfl hvL hfL.isFn (EvOs.cons (EvO.namePl (k := 3) (xs := co.map .int) rfl rfl rfl) (EvOs.cons (EvO.nameRef (k := 4) (xs := wk.map .int) rfl rfl rfl) EvOs.nil)) (CallO.le (pile_ok (n := n) hfL hg.range hco hwk) (by omega))) rfl rfl rfl ?_
  have hwl := plRun_whn wk co 23
  generalize (plRun wk co 23).row = row at hr hro hwl ⊢
  generalize (plRun wk co 23).whn = whn at hr hwl ⊢
  refine Ex.assignComp (J := fun _ => True) (xs := (pairV (prRun row row.length)).map .one) [(Str.ofString "when", .lst (whn.map .int))] (lastF whn) (EvI.fresh (.inr ⟨_, _, _, rfl⟩) (EvF.call rfl hvP hfP.isFn (EvOs.cons (EvO.name (d := .str row) rfl rfl) EvOs.nil) (CallO.le (pairs_ok (n := n) hfP hC hS hI hg.enum hg.len hg.range hro) (by omega)))) trivial ?_ rfl (by decide) (fun p hp => ?_) (freeOk rfl) (fun L' z' hp x hx => ?_) rfl rfl ?_
  · unfold pairV
    rw [List.length_map, List.length_map]
    exact Nat.le_trans (prRun_len hro.len _) (Nat.le_trans (Nat.mul_le_mul_left 51 hro.len) (by decide))
  · rw [List.mem_singleton.mp hp]
    exact ⟨⟨.inl rfl, .inr ⟨7, _, rfl, .inl rfl, rfl⟩⟩, rfl⟩
  · obtain ⟨d, hd, rfl⟩ := List.mem_map.mp hx
    obtain ⟨pr, hpr, rfl⟩ := List.mem_map.mp hd
    obtain ⟨i, j, rfl, hij, hj⟩ := prRun_mem _ (Nat.le_refl _) pr hpr
    refine ⟨_, ⟨rfl, trivial⟩, As.list2 rfl rfl rfl rfl, EvT.nil, ?_⟩
    exact (EvO.item (EvO.name (d := .lst (whn.map .int)) rfl rfl) (EvO.name (d := .int (j : Int)) rfl rfl) (idx_at rfl (getI_at (hwl ▸ hj))) (by rw [List.length_map, ← hwl]; exact Nat.le_trans hro.len (by decide))).toF rfl
  · rw [lastF_map]
    refine Ex.weak hr (SubL.lookup ⟨rfl, rfl, rfl, rfl, rfl, rfl, rfl, rfl, rfl, rfl, rfl, rfl, trivial⟩) ?_
    rfl
end
end Mine
end
section
open PySem PySem.Calls PyProof.Rows
set_option maxRecDepth 100000
namespace Mine
section
variable {X : Cx} {n : Nat} {D : FD} {σ : St}
theorem CallO.max {ns : List Int} {M : Int} (hM : M ∈ ns) (hle : ∀ a ∈ ns, a ≤ M) : CallO X n (.builtin "max") [.lst (ns.map .int)] (.int M) := fun A s rs hA _ _ v => by
  obtain ⟨r, rfl, v1⟩ := one_arg v
  obtain ⟨a, vs, rfl, hl, hv⟩ := v1.lst
  have hi := hv.ints
  obtain ⟨xs, hx⟩ := hi.allInts.items
  have hns : ns = xs.toList.map (·.1) := by rw [← hi.numsOf, ← nums_intItems, ← hx]
  have hsz : 0 < xs.size := by
    have := List.length_pos_of_mem hM
    rw [hns, List.length_map, Array.length_toList] at this; exact this
  rw [hx] at hl
  refine max_intList hA.1 hl hsz fun v h' tk hv hk => ?_
  obtain ⟨t, rfl⟩ := intItems_at hv
  obtain ⟨h1, h2⟩ := argBest_gt (numAt xs) (xs.size - 1)
  have e : numAt xs (argBest (fun i j => decide (numAt xs i > numAt xs j)) (xs.size - 1)) = M := by
    refine Int.le_antisymm (hle _ ?_) ?_
    · rw [hns, numAt_eq]; exact getD_mem (by rw [List.length_map, Array.length_toList]; omega)
    · rw [hns] at hM
      obtain ⟨j, hj, rfl⟩ := mem_getD hM
      rw [List.length_map, Array.length_toList] at hj
      rw [← numAt_eq]; exact h2 j (by omega)
  rw [e]
  exact scal (Kp.of_heap hk) ⟨⟨_, rfl⟩, rfl⟩
theorem EvF.mulS {l r : Expr} {p : Pos} {x : Str} {m : Int} (h1 : EvO X n D σ l (.str x)) (h2 : EvO X n D σ r (.int m)) (h : MulOk x m) : EvF X n D σ (.BinOp l .Mult r p) (.str (Txt.mul x m)) := fun A g fps s hA q =>
  wpAny_BinOp (EvO.two h1 h2 hA q fun ra rb s' k va vb => by
    obtain ⟨t, rfl⟩ := va.str
    obtain ⟨u, rfl⟩ := vb.int
    exact SB.mul h fun t' tk => ⟨k.trans (Kp.tok _ _), [], ⟨⟨_, rfl⟩, rfl⟩, List.nodup_nil, by simp⟩)
theorem mulOk0 {m : Int} (h1 : 0 ≤ m) (h2 : m ≤ 100) : MulOk (Str.ofString "0") m := by
  have hl : (Str.ofString "0").length = 1 := rfl
  refine ⟨?_, fun h3 _ => ?_, fun h3 _ => ?_⟩
  · rw [decide_eq_false (by omega), decide_eq_false (by omega)]; rfl
  · rw [hl]
    have : (1 : Int) ≤ (2 ^ 63 - 1) / m := (Int.le_ediv_iff_mul_le (by omega)).mpr (by omega)
    omega
  · rw [hl]
    show decide (1 * m.toNat > sizeLine) = false
    exact decide_eq_false (Nat.not_lt.mpr (Nat.le_trans (by omega : 1 * m.toNat ≤ 100) (by decide)))
end
end Mine
end
section
open PySem PySem.Calls PyProof.Rows
set_option maxRecDepth 100000
namespace Mine
noncomputable def endL (co wk : List Int) (i : Nat) : List Int := (List.range (i + 1)).map fun k => co.getD k 0 + (pickNums wk (some (k : Int)) (some ((i : Int) + 1)) none).sum
noncomputable def maxL : List Int → Int
  | [] => 0
  | [a] => a
  | a :: b :: r => if maxL (b :: r) < a then a else maxL (b :: r)
theorem maxL_ok : ∀ {l : List Int}, l ≠ [] → maxL l ∈ l ∧ ∀ a ∈ l, a ≤ maxL l
  | [], h => absurd rfl h
  | [a], _ => ⟨.head _, fun b hb => by rw [List.mem_singleton.mp hb]; exact Int.le_refl _⟩
  | a :: b :: r, _ => by
    obtain ⟨h1, h2⟩ := maxL_ok (l := b :: r) (by simp)
    show (if maxL (b :: r) < a then a else maxL (b :: r)) ∈ _ ∧ ∀ c ∈ _, c ≤ (if maxL (b :: r) < a then a else maxL (b :: r))
    split
    · rename_i hc
      refine ⟨.head _, fun c hm => ?_⟩
      rcases List.mem_cons.mp hm with e | hm
      · rw [e]; exact Int.le_refl _
      · exact Int.le_trans (h2 c hm) (Int.le_of_lt hc)
    · rename_i hc
      refine ⟨.tail _ h1, fun c hm => ?_⟩
      rcases List.mem_cons.mp hm with e | hm
      · rw [e]; exact Int.not_lt.mp hc
      · exact h2 c hm
noncomputable def dueE (co wk : List Int) (i : Nat) : Int := maxL (endL co wk i)
noncomputable def known2 : List Str := [Str.ofString "OPTIMIZED", Str.ofString "NEWLOCALS", Str.ofString "VARARGS", Str.ofString "VARKEYWORDS", Str.ofString "NESTED", Str.ofString "GENERATOR", Str.ofString "NOFREE", Str.ofString "COROUTINE", Str.ofString "ITERABLE_COROUTINE", Str.ofString "ASYNC_GENERATOR"]
noncomputable def duL (wd : Int) (t : R1) : List (Str × AV) := [(Str.ofString "due_words", .ref 12), (Str.ofString "due_lasts", .ref 11), (Str.ofString "due_ends", .ref 10), (Str.ofString "known", .ref 9), (Str.ofString "lasts", .ref 8), (Str.ofString "worked", .dv (.int wd))] ++ r1L t
noncomputable def duH (o0 o1 o2 o5 o6 o7 o8 : AObj) (co wk e l : List Int) (w : List Str) : List AObj := [o0, o1, o2, .pl (co.map .int), .lst (wk.map .int), o5, o6, o7, o8, .lst (known2.map .str), .pl (e.map .int), .pl (l.map .int), .pl (w.map .str)]
noncomputable def endF (co wk : List Int) (i : Nat) : DV → DV
  | .int k => .int (co.getD k.toNat 0 + (pickNums wk (some k) (some ((i : Int) + 1)) none).sum)
  | d => d
theorem endF_map (co wk : List Int) (i : Nat) : (rangeD (i + 1)).map (endF co wk i) = (endL co wk i).map .int := by
  unfold rangeD endL
  rw [List.map_map, List.map_map]
  refine List.map_congr_left fun k _ => ?_
  show DV.int (co.getD ((0 : Int) + (k : Int) * 1).toNat 0 + (pickNums wk (some ((0 : Int) + (k : Int) * 1)) _ _).sum) = _
  rw [show ((0 : Int) + (k : Int) * 1) = (k : Int) by omega]
  rfl
section
variable {X : Cx} {K : LexK} {n : Nat}
theorem due_segE (hg : LawG X K) {pm cd doc : Value} {a L : Addr} {z : Heap} {o0 o1 o2 o5 o6 o7 o8 : AObj} {co wk e l : List Int} {w : List Str} (hco : co.length = 5) (hwk : wk.length = 5) {i : Nat} (hi : i < 5) (he : e.length ≤ 1000) {wd : Int} {t : R1} {Φ : AFl → St → Prop} {rest : List Stmt}
    (hr : Ex X (n + 6) (law1D pm cd doc a L z) rest ⟨(Str.ofString "i", .dv (.int (i : Int))) :: duL wd t, duH o0 o1 o2 o5 o6 o7 o8 co wk (e ++ [dueE co wk i]) l w⟩ Φ) :
    Ex X (n + 6) (law1D pm cd doc a L z) (stN (forB (stN (dBody law1S) 24)) 0 :: rest) ⟨(Str.ofString "i", .dv (.int (i : Int))) :: duL wd t, duH o0 o1 o2 o5 o6 o7 o8 co wk e l w⟩ Φ := by
  have hne : endL co wk i ≠ [] := by unfold endL; rw [List.range_succ_eq_map]; simp
  obtain ⟨hM, hle⟩ := maxL_ok hne
  have hzw : (wk.map DV.int).length ≤ sizeLine := by rw [List.length_map, hwk]; decide
  refine Ex.append (k := 10) (xs := e.map .int) (d := .int (dueE co wk i)) rfl rfl rfl (EvF.callB rfl hg.max (EvOs.cons (d := .lst ((endL co wk i).map .int)) ?_ EvOs.nil) (CallO.max hM hle)) (by rw [List.length_map]; exact Nat.le_trans he (by decide)) ?_
  · rw [← endF_map]
    refine (EvF.mapC (J := fun _ => True) [(Str.ofString "come", .lst (co.map .int)), (Str.ofString "i", .int (i : Int)), (Str.ofString "works", .lst (wk.map .int))] (endF co wk i) (by rw [← rangeIV_eq]; exact EvI.range1 (N := ((i + 1 : Nat) : Int)) rfl hg.range (EvF.bin (EvO.name (d := .int (i : Int)) rfl rfl) EvO.int.toO .addI).toO (by omega) (by omega)) trivial (by unfold rangeD; rw [List.length_map, List.length_range]; omega) (fun d hd => ?_) rfl (by decide) (all3 ?_ ?_ ?_) (freeOk rfl) (fun L' z' => rfl) (all3 (show Str.ofString "come" ≠ Str.ofString "k" by decide) (show Str.ofString "i" ≠ Str.ofString "k" by decide) (show Str.ofString "works" ≠ Str.ofString "k" by decide)) (fun L' z' hp d hd => ?_)).toO
    · obtain ⟨j, _, rfl⟩ := List.mem_map.mp hd; rfl
    · exact ⟨⟨.inl rfl, .inr ⟨3, _, rfl, .inr rfl, rfl⟩⟩, rfl⟩
    · exact ⟨⟨.inl rfl, .inl rfl⟩, rfl⟩
    · exact ⟨⟨.inl rfl, .inr ⟨4, _, rfl, .inl rfl, rfl⟩⟩, rfl⟩
    · obtain ⟨k, hk, rfl⟩ := List.mem_map.mp hd
      have hk : k < i + 1 := List.mem_range.mp hk
      rw [show ((0 : Int) + (k : Int) * 1) = (k : Int) by omega]
      refine EvF.bin (EvO.item (EvO.name (d := .lst (co.map .int)) rfl rfl) (EvO.name (d := .int (k : Int)) rfl rfl) (idx_at rfl (getI_at (by rw [hco]; omega))) (by rw [List.length_map, hco]; decide)) (EvF.callB rfl hg.sum (EvOs.cons (d := .lst ((pickNums wk (some (k : Int)) (some ((i : Int) + 1)) none).map .int)) ?_ EvOs.nil) CallO.sum).toO .addI
      rw [← pickD_ints]
      exact (EvF.slice (EvO.name (d := .lst (wk.map .int)) rfl rfl) (.some (EvO.name (d := .int (k : Int)) rfl rfl)) (.some (EvF.bin (EvO.name (d := .int (i : Int)) rfl rfl) EvO.int.toO .addI).toO) .none (by simp) hzw (sc_ints _)).toO
  · refine Ex.weak hr (fun _ _ h => h) ?_
    unfold duH
    rw [List.map_append]
    rfl
end
end Mine
end
section
open PySem PySem.Calls PyProof.Rows
set_option maxRecDepth 100000
namespace Mine
noncomputable def rangeF (a m : Nat) : List DV := (List.range m).map fun (k : Nat) => .int ((a + k : Nat) : Int)
theorem rangeIV_from (a m : Nat) : rangeIV (a : Int) 1 m = (rangeF a m).map .one := by
  unfold rangeIV rangeF
  rw [List.map_map]
  refine List.map_congr_left fun k _ => ?_
  show IV.one (.int ((a : Int) + (k : Int) * 1)) = IV.one (.int ((a + k : Nat) : Int))
  rw [Int.mul_one]; rfl
noncomputable def lastSt (co wk : List Int) (i : Nat) (v : Int) : Int := co.getD i 0 + (((List.range (5 - i)).filter fun k => decide (co.getD (i + k) 0 < v)).map fun k => wk.getD (i + k) 0).sum
noncomputable def lastR (co wk : List Int) (i : Nat) : Nat → Int
  | 0 => co.getD i 0 + 1
  | m + 1 => lastSt co wk i (lastR co wk i m)
noncomputable def ltP (co : List Int) (v : Int) : DV → Bool
  | .int j => decide (co.getD j.toNat 0 < v)
  | _ => false
noncomputable def wkG (wk : List Int) : DV → DV
  | .int j => .int (wk.getD j.toNat 0)
  | d => d
theorem lt_map (co wk : List Int) (i : Nat) (v : Int) : ((rangeF i (5 - i)).filter (ltP co v)).map (wkG wk) = ((((List.range (5 - i)).filter fun k => decide (co.getD (i + k) 0 < v)).map fun k => wk.getD (i + k) 0)).map .int := by
  unfold rangeF
  rw [List.filter_map, List.map_map, List.map_map]
  rfl
section
variable {X : Cx} {K : LexK} {n : Nat}
theorem due_segL (hg : LawG X K) {pm cd doc : Value} {a L : Addr} {z : Heap} {o0 o1 o2 o5 o6 o7 o8 : AObj} {co wk e l : List Int} {w : List Str} (hco : co.length = 5) (hwk : wk.length = 5) {i : Nat} (hi : i < 5) (hl : l.length ≤ 1000) {wd : Int} {t : R1} {Φ : AFl → St → Prop} {rest : List Stmt}
    (hr : Ex X (n + 6) (law1D pm cd doc a L z) rest ⟨(Str.ofString "i", .dv (.int (i : Int))) :: duL wd t, duH o0 o1 o2 o5 o6 o7 o8 co wk e (l ++ [lastR co wk i 5]) w⟩ Φ) :
    Ex X (n + 6) (law1D pm cd doc a L z) (stN (forB (stN (dBody law1S) 24)) 1 :: stN (forB (stN (dBody law1S) 24)) 2 :: stN (forB (stN (dBody law1S) 24)) 3 :: rest) ⟨(Str.ofString "i", .dv (.int (i : Int))) :: duL wd t, duH o0 o1 o2 o5 o6 o7 o8 co wk e l w⟩ Φ := by
  have hzw : (wk.map DV.int).length ≤ sizeLine := by rw [List.length_map, hwk]; decide
  have hzc : (co.map DV.int).length ≤ sizeLine := by rw [List.length_map, hco]; decide
  have hci : ∀ σ : St, ∀ p1 p2 p3 : Pos, σ.loc.lookup (Str.ofString "come") = some (.ref 3) → σ.hp[3]? = some (.pl (co.map .int)) → σ.loc.lookup (Str.ofString "i") = some (.dv (.int (i : Int))) → EvO X (n + 6) (law1D pm cd doc a L z) σ (.Subscript (.Name (Str.ofString "come") p1) (.Name (Str.ofString "i") p2) p3) (.int (co.getD i 0)) := fun σ p1 p2 p3 e1 e2 e3 =>
    EvO.item (EvO.namePl (k := 3) e1 rfl e2) (EvO.name (d := .int (i : Int)) e3 rfl) (idx_at rfl (getI_at (by rw [hco]; exact hi))) hzc
  refine Ex.assign (d := .int (co.getD i 0 + 1)) (EvF.bin (hci _ _ _ _ rfl rfl rfl) EvO.int.toO .addI) rfl ?_
  refine Ex.for_ (T := Unit) (J := fun _ => True) (rangeIV 0 1 (5 : Int).toNat) (fun m _ => ⟨(Str.ofString "last", .dv (.int (lastR co wk i m))) :: (Str.ofString "i", .dv (.int (i : Int))) :: duL wd t, duH o0 o1 o2 o5 o6 o7 o8 co wk e l w⟩) (fun m _ => m ≤ 5) ()
    (EvI.range1 rfl hg.range EvO.int.toO (by decide) (by decide)) (by decide) ⟨⟨rfl, rfl, rfl, rfl, rfl, rfl, rfl, rfl, rfl, rfl, rfl, rfl, rfl, rfl, rfl, rfl, rfl, rfl, trivial⟩, rfl, [], rfl⟩ (fun _ _ _ => Nat.le_refl _) (fun _ _ _ => trivial) (fun m u x hm hx => ?_) fun u hu => ?_
  · obtain ⟨hm8, rfl⟩ := rangeIV_get hx
    refine ⟨_, As.name rfl rfl, ?_⟩
    refine Ex.assign (d := .int (lastR co wk i (m + 1))) (EvF.bin (hci _ _ _ _ rfl rfl rfl) (EvF.callB rfl hg.sum (EvOs.cons (d := .lst ((((List.range (5 - i)).filter fun k => decide (co.getD (i + k) 0 < lastR co wk i m)).map fun k => wk.getD (i + k) 0).map .int)) ?_ EvOs.nil) CallO.sum).toO .addI) rfl (Ex.nil ⟨(), hm8, ⟨rfl, rfl, rfl, rfl, rfl, rfl, rfl, rfl, rfl, rfl, rfl, rfl, rfl, rfl, rfl, rfl, rfl, rfl, trivial⟩, rfl, [], rfl⟩)
    rw [← lt_map]
    refine (EvF.filtC (J := fun _ => True) [(Str.ofString "come", .lst (co.map .int)), (Str.ofString "last", .int (lastR co wk i m)), (Str.ofString "works", .lst (wk.map .int))] (ltP co (lastR co wk i m)) (wkG wk) ?_ trivial (by unfold rangeF; rw [List.length_map, List.length_range]; omega) (fun d hd => ?_) rfl (by decide) (all3 ?_ ?_ ?_) (freeOk rfl) (fun L' z' => rfl) (all3 (show Str.ofString "come" ≠ Str.ofString "j" by decide) (show Str.ofString "last" ≠ Str.ofString "j" by decide) (show Str.ofString "works" ≠ Str.ofString "j" by decide)) (fun L' z' hp d hd => ?_) (fun L' z' hp d hd _ => ?_)).toO
    · rw [← rangeIV_from, show 5 - i = ((5 : Int) - (i : Int)).toNat by omega]
      exact EvI.range2 rfl hg.range (EvO.name rfl rfl) EvO.int.toO (by decide) (by decide) (by omega) (by omega)
    · obtain ⟨j, _, rfl⟩ := List.mem_map.mp hd; rfl
    · exact ⟨⟨.inl rfl, .inr ⟨3, _, rfl, .inr rfl, rfl⟩⟩, rfl⟩
    · exact ⟨⟨.inl rfl, .inl rfl⟩, rfl⟩
    · exact ⟨⟨.inl rfl, .inr ⟨4, _, rfl, .inl rfl, rfl⟩⟩, rfl⟩
    · obtain ⟨k, hk, rfl⟩ := List.mem_map.mp hd
      have hk : k < 5 - i := List.mem_range.mp hk
      exact EvB.cmp (EvO.item (EvO.name (d := .lst (co.map .int)) rfl rfl) (EvO.name (d := .int ((i + k : Nat) : Int)) rfl rfl) (idx_at rfl (getI_at (by rw [hco]; omega))) hzc) (EvO.name (d := .int (lastR co wk i m)) rfl rfl) .ltI
    · obtain ⟨k, hk, rfl⟩ := List.mem_map.mp hd
      have hk : k < 5 - i := List.mem_range.mp hk
      exact (EvO.item (EvO.name (d := .lst (wk.map .int)) rfl rfl) (EvO.name (d := .int ((i + k : Nat) : Int)) rfl rfl) (idx_at rfl (getI_at (by rw [hwk]; omega))) hzw).toF rfl
  · rw [rangeIV_len]
    refine Ex.nil (Ex.append (k := 11) (xs := l.map .int) (d := .int (lastR co wk i 5)) rfl rfl rfl ((EvO.name rfl rfl).toF rfl) (by rw [List.length_map]; exact Nat.le_trans hl (by decide)) ?_)
    refine Ex.weak hr (SubL.lookup ⟨rfl, rfl, rfl, rfl, rfl, rfl, rfl, rfl, rfl, rfl, rfl, rfl, rfl, rfl, rfl, rfl, rfl, trivial⟩) ?_
    unfold duH
    rw [List.map_append]
    rfl
end
end Mine
end
section
open PySem PySem.Calls PyProof.Rows
set_option maxRecDepth 100000
namespace Mine
noncomputable def figS (q : Nat) : Str := ⟨#[(Str.ofString "1248").cps.toList.getD q 0]⟩
noncomputable def hexW (m : Nat) : Str := Str.ofString "0x" ++ figS (m % 4) ++ Txt.mul (Str.ofString "0") ((m / 4 : Nat) : Int)
noncomputable def wordAt (m : Nat) : Str := if (decide ((m : Int) < 10)) = true then known2.getD m Str.empty else hexW m
noncomputable def wordsFrom (a m : Nat) : List Str := (List.range m).map fun k => wordAt (a + k)
theorem wordsFrom_succ (a m : Nat) : wordsFrom a (m + 1) = wordsFrom a m ++ [wordAt (a + m)] := by
  unfold wordsFrom; rw [List.range_succ, List.map_append]; rfl
theorem wordsFrom_len (a m : Nat) : (wordsFrom a m).length = m := by unfold wordsFrom; rw [List.length_map, List.length_range]
theorem fig_at : ∀ q < 4, (Str.ofString "1248").cps[q]? = some ((Str.ofString "1248").cps.toList.getD q 0) := by decide
theorem mul0_len : ∀ q < 6, (Txt.mul (Str.ofString "0") ((q : Nat) : Int)).length ≤ 10 := by decide
section
variable {X : Cx} {K : LexK} {n : Nat}
theorem due_segW (hg : LawG X K) {pm cd doc : Value} {a L : Addr} {z : Heap} {o0 o1 o2 o5 o6 o7 o8 : AObj} {co wk e l : List Int} {w : List Str} (hwk : wk.length = 5) {i : Nat} (hi : i < 5) (he : e.length = i) {E : Int} (h0 : 0 ≤ E - wk.getD i 0) (h1 : E ≤ 23) (h2 : 0 ≤ wk.getD i 0) (hw : w.length ≤ 1000) {wd : Int} {t : R1} {Φ : AFl → St → Prop} {rest : List Stmt}
    (hr : Ex X (n + 6) (law1D pm cd doc a L z) rest ⟨(Str.ofString "i", .dv (.int (i : Int))) :: duL wd t, duH o0 o1 o2 o5 o6 o7 o8 co wk (e ++ [E]) l (w ++ wordsFrom (E - wk.getD i 0).toNat (wk.getD i 0).toNat)⟩ Φ) :
    Ex X (n + 6) (law1D pm cd doc a L z) (stN (forB (stN (dBody law1S) 24)) 4 :: rest) ⟨(Str.ofString "i", .dv (.int (i : Int))) :: duL wd t, duH o0 o1 o2 o5 o6 o7 o8 co wk (e ++ [E]) l w⟩ Φ := by
  have hzw : (wk.map DV.int).length ≤ sizeLine := by rw [List.length_map, hwk]; decide
  have hze : ((e ++ [E]).map DV.int).length ≤ sizeLine := by rw [List.length_map, List.length_append, he]; exact Nat.le_trans (by show i + 1 ≤ 6; omega) (by decide)
  have hEi : (e ++ [E]).getD i 0 = E := by rw [List.getD, ← he, List.getElem?_append_right (Nat.le_refl _), Nat.sub_self]; rfl
  have hlt : i < (e ++ [E]).length := by rw [List.length_append, he]; exact Nat.lt_succ_self i
  obtain ⟨u, hu⟩ : ∃ u : Nat, E - wk.getD i 0 = (u : Int) := ⟨(E - wk.getD i 0).toNat, (Int.toNat_of_nonneg h0).symm⟩
  obtain ⟨v, hv⟩ : ∃ v : Nat, wk.getD i 0 = (v : Int) := ⟨(wk.getD i 0).toNat, (Int.toNat_of_nonneg h2).symm⟩
  have huv : u + v ≤ 23 := by omega
  have hEv : E - (u : Int) = (v : Int) := by omega
  have hdue : ∀ p1 p2 p3 : Pos, EvO X (n + 6) (law1D pm cd doc a L z) ⟨(Str.ofString "i", .dv (.int (i : Int))) :: duL wd t, duH o0 o1 o2 o5 o6 o7 o8 co wk (e ++ [E]) l w⟩ (.Subscript (.Name (Str.ofString "due_ends") p1) (.Name (Str.ofString "i") p2) p3) (.int E) := fun p1 p2 p3 => by
    have h := getI_at hlt
    rw [hEi] at h
    exact EvO.item (EvO.namePl (k := 10) rfl rfl rfl) (EvO.name (d := .int (i : Int)) rfl rfl) (idx_at rfl h) hze
  rw [hu, hv, Int.toNat_natCast, Int.toNat_natCast] at hr
  refine Ex.for_ (T := Unit) (J := fun _ => True) (rangeIV (u : Int) 1 v) (fun k _ => ⟨(Str.ofString "i", .dv (.int (i : Int))) :: duL wd t, duH o0 o1 o2 o5 o6 o7 o8 co wk (e ++ [E]) l (w ++ wordsFrom u k)⟩) (fun k _ => k ≤ v) ()
    ?hI (Nat.zero_le _) ⟨⟨rfl, rfl, rfl, rfl, rfl, rfl, rfl, rfl, rfl, rfl, rfl, rfl, rfl, rfl, rfl, rfl, rfl, trivial⟩, rfl, [], ?h0⟩ (fun _ _ _ => Nat.le_refl _) (fun _ _ _ => trivial) (fun k s x hk hx => ?_) fun s hs => ?_
  case hI =>
    rw [← hu, show v = (E - (E - wk.getD i 0)).toNat by omega]
    exact EvI.range2 rfl hg.range (EvF.bin (hdue _ _ _) (EvO.item (EvO.nameRef (k := 4) (xs := wk.map .int) rfl rfl rfl) (EvO.name (d := .int (i : Int)) rfl rfl) (idx_at rfl (getI_at (by rw [hwk]; exact hi))) hzw) .subI).toO (hdue _ _ _) (by omega) (by omega) (by omega) (by omega)
  case h0 =>
    show duH _ _ _ _ _ _ _ _ _ _ _ w = duH _ _ _ _ _ _ _ _ _ _ _ (w ++ []) ++ []
    rw [List.append_nil, List.append_nil]
  · obtain ⟨hkv, rfl⟩ := rangeIV_get hx
    refine ⟨_, As.name rfl rfl, ?_⟩
    have hpl : ((u : Int) + (k : Int) * 1) = ((u + k : Nat) : Int) := by omega
    rw [hpl]
    have hm : u + k < 23 := by omega
    generalize hM : u + k = m at hm
    have hnext : w ++ wordsFrom u (k + 1) = w ++ wordsFrom u k ++ [wordAt m] := by rw [wordsFrom_succ, hM, List.append_assoc]
    have hzl : ((w ++ wordsFrom u k).map DV.str).length ≤ sizeLine := by rw [List.length_map, List.length_append, wordsFrom_len]; exact Nat.le_trans (by omega : w.length + k ≤ 2000) (by decide)
    refine Ex.ite (EvB.cmp (EvO.name (d := .int (m : Int)) rfl rfl) EvO.int.toO .ltI) (fun hb => ?_) fun hb => ?_
    · have hm10 : m < 10 := Int.ofNat_lt.mp (of_decide_eq_true hb)
      have hwd : wordAt m = known2.getD m Str.empty := if_pos hb
      refine Ex.append (k := 12) (xs := (w ++ wordsFrom u k).map .str) (d := .str (known2.getD m Str.empty)) rfl rfl rfl ((EvO.item (EvO.nameRef (k := 9) (xs := known2.map .str) rfl rfl rfl) (EvO.name (d := .int (m : Int)) rfl rfl) (idx_at rfl (getD_at hm10)) (by decide)).toF rfl) hzl (Ex.nil (Ex.nil ⟨(), hkv, ⟨rfl, rfl, rfl, rfl, rfl, rfl, rfl, rfl, rfl, rfl, rfl, rfl, rfl, rfl, rfl, rfl, rfl, trivial⟩, rfl, [], ?_⟩))
      rw [hnext, hwd]
      unfold duH
      rw [List.map_append (l₁ := w ++ wordsFrom u k)]
      rfl
    · have hwd : wordAt m = hexW m := if_neg (by rw [hb]; decide)
      have hq : m % 4 < 4 := Nat.mod_lt _ (by decide)
      have hd6 : m / 4 < 6 := by omega
      have hml := mul0_len _ hd6
      refine Ex.append (k := 12) (xs := (w ++ wordsFrom u k).map .str) (d := .str (hexW m)) rfl rfl rfl (EvF.bin (EvF.bin EvO.str.toO (EvF.chr (c := (Str.ofString "1248").cps.toList.getD (m % 4) 0) (j := ((m % 4 : Nat) : Int)) EvO.str.toO (EvF.bin (EvO.name (d := .int (m : Int)) rfl rfl) EvO.int.toO (.modI (by decide))).toO (by rw [seqIndex_nat (show m % 4 < (Str.ofString "1248").length from hq)]; exact fig_at _ hq) ?_).toO (.addS (by show 2 + 1 ≤ sizeLine; decide))).toO (EvF.mulS (m := ((m / 4 : Nat) : Int)) EvO.str.toO (EvF.bin (EvO.name (d := .int (m : Int)) rfl rfl) EvO.int.toO (.divI (by decide) (by decide))).toO (mulOk0 (by omega) (by omega))).toO (.addS ?_)) hzl (Ex.nil (Ex.nil ⟨(), hkv, ⟨rfl, rfl, rfl, rfl, rfl, rfl, rfl, rfl, rfl, rfl, rfl, rfl, rfl, rfl, rfl, rfl, rfl, trivial⟩, rfl, [], ?_⟩))
      · rw [decide_eq_false (by omega), decide_eq_false (by omega)]; rfl
      · have : (Str.ofString "0x" ++ figS (m % 4)).length = 3 := by rw [Str.length_append]; rfl
        exact Nat.le_trans (by show (Str.ofString "0x" ++ figS (m % 4)).length + _ ≤ 13; omega) (by decide)
      · rw [hnext, hwd]
        unfold duH
        rw [List.map_append (l₁ := w ++ wordsFrom u k)]
        rfl
  · rw [rangeIV_len]
    exact Ex.nil hr
end
end Mine
end
section
open PySem PySem.Calls PyProof.Rows
set_option maxRecDepth 100000
namespace Mine
noncomputable def dueEs (co wk : List Int) (i : Nat) : List Int := (List.range i).map fun k => dueE co wk k
noncomputable def dueLs (co wk : List Int) (i : Nat) : List Int := (List.range i).map fun k => lastR co wk k 5
noncomputable def dueW (co wk : List Int) : Nat → List Str
  | 0 => []
  | i + 1 => dueW co wk i ++ wordsFrom (dueE co wk i - wk.getD i 0).toNat (wk.getD i 0).toNat
theorem dueEs_succ (co wk : List Int) (i : Nat) : dueEs co wk (i + 1) = dueEs co wk i ++ [dueE co wk i] := by
  unfold dueEs; rw [List.range_succ, List.map_append]; rfl
theorem dueLs_succ (co wk : List Int) (i : Nat) : dueLs co wk (i + 1) = dueLs co wk i ++ [lastR co wk i 5] := by
  unfold dueLs; rw [List.range_succ, List.map_append]; rfl
theorem dueEs_len (co wk : List Int) (i : Nat) : (dueEs co wk i).length = i := by unfold dueEs; rw [List.length_map, List.length_range]
theorem dueLs_len (co wk : List Int) (i : Nat) : (dueLs co wk i).length = i := by unfold dueLs; rw [List.length_map, List.length_range]
structure DueOk (co wk : List Int) : Prop where
  lo : ∀ i < 5, 0 ≤ dueE co wk i - wk.getD i 0
  hi : ∀ i < 5, dueE co wk i ≤ 23
  wk : ∀ i < 5, 0 ≤ wk.getD i 0
theorem dueW_len {co wk : List Int} (h : DueOk co wk) : ∀ i, i ≤ 5 → (dueW co wk i).length ≤ 23 * i
  | 0, _ => Nat.le_refl _
  | i + 1, hi => by
    have ih := dueW_len h i (Nat.le_of_succ_le hi)
    show (dueW co wk i ++ _).length ≤ _
    rw [List.length_append, wordsFrom_len]
    have h1 := h.lo i hi
    have h2 := h.hi i hi
    omega
section
variable {X : Cx} {K : LexK} {n : Nat}
theorem law2_due (hg : LawG X K) {pm cd doc : Value} {a L : Addr} {z : Heap} {o0 o1 o2 o5 o6 o7 o8 : AObj} {co wk : List Int} (hco : co.length = 5) (hwk : wk.length = 5) (hd : DueOk co wk) {wd : Int} {t : R1} {Φ : AFl → St → Prop} {rest : List Stmt}
    (hr : Ex X (n + 6) (law1D pm cd doc a L z) rest ⟨duL wd t, duH o0 o1 o2 o5 o6 o7 o8 co wk (dueEs co wk 5) (dueLs co wk 5) (dueW co wk 5)⟩ Φ) :
    Ex X (n + 6) (law1D pm cd doc a L z) (stN (dBody law1S) 21 :: stN (dBody law1S) 22 :: stN (dBody law1S) 23 :: stN (dBody law1S) 24 :: rest) ⟨(Str.ofString "known", .ref 9) :: (Str.ofString "lasts", .ref 8) :: (Str.ofString "worked", .dv (.int wd)) :: r1L t, [o0, o1, o2, .pl (co.map .int), .lst (wk.map .int), o5, o6, o7, o8, .lst (known2.map .str)]⟩ Φ := by
  refine Ex.assignNil rfl (Ex.assignNil rfl (Ex.assignNil rfl ?_))
  refine Ex.for_ (T := Unit) (J := fun _ => True) (rangeIV 0 1 (5 : Int).toNat) (fun i _ => ⟨duL wd t, duH o0 o1 o2 o5 o6 o7 o8 co wk (dueEs co wk i) (dueLs co wk i) (dueW co wk i)⟩) (fun i _ => i ≤ 5) ()
    (EvI.range1 rfl hg.range EvO.int.toO (by decide) (by decide)) (by decide) ⟨⟨rfl, rfl, rfl, rfl, rfl, rfl, rfl, rfl, rfl, rfl, rfl, rfl, rfl, rfl, rfl, rfl, trivial⟩, rfl, [], rfl⟩ (fun _ _ _ => Nat.le_refl _) (fun _ _ _ => trivial) (fun i u x hi hx => ?_) fun u hu => ?_
  · obtain ⟨hi8, rfl⟩ := rangeIV_get hx
    have hi5 : i < 5 := hi8
    refine ⟨_, As.name rfl rfl, ?_⟩
    rw [show ((0 : Int) + (i : Int) * 1) = (i : Int) by omega]
    have hwl := dueW_len hd i (Nat.le_of_lt hi5)
    refine due_segE hg hco hwk hi5 (by rw [dueEs_len]; omega) ?_
    refine due_segL hg hco hwk hi5 (by rw [dueLs_len]; omega) ?_
    refine due_segW hg hwk hi5 (dueEs_len co wk i) (hd.lo i hi5) (hd.hi i hi5) (hd.wk i hi5) (by omega) (Ex.nil ?_)
    refine ⟨(), hi5, ⟨rfl, rfl, rfl, rfl, rfl, rfl, rfl, rfl, rfl, rfl, rfl, rfl, rfl, rfl, rfl, rfl, trivial⟩, rfl, [], ?_⟩
    show duH _ _ _ _ _ _ _ _ _ _ _ _ = duH _ _ _ _ _ _ _ _ _ (dueEs co wk (i + 1)) (dueLs co wk (i + 1)) (dueW co wk (i + 1)) ++ []
    rw [dueEs_succ, dueLs_succ, List.append_nil]
    rfl
  · rw [rangeIV_len]
    exact Ex.nil hr
end
end Mine
end
section
open PySem PySem.Calls PyProof.Rows
set_option maxRecDepth 100000
namespace Mine
section
variable {X : Cx} {n : Nat} {D : FD} {σ : St} {Φ : AFl → St → Prop} {rest : List Stmt} {es : List Expr} {ds : List DV}
theorem EvOs.strC {w : Str} {k : Nat} {p : Pos} {es : List Expr} {ds : List DV} (h : EvOs X n D σ es ds) : EvOs X n D σ (.Constant (.str w) k p :: es) (.str w :: ds) := EvOs.cons EvO.str.toO h (fun _ => rfl)
theorem EvOs.intC {w : Int} {k : Nat} {p : Pos} {es : List Expr} {ds : List DV} (h : EvOs X n D σ es ds) : EvOs X n D σ (.Constant (.int w) k p :: es) (.int w :: ds) := EvOs.cons EvO.int.toO h (fun _ => rfl)
inductive Consts : List Expr → List DV → Prop
  | nil : Consts [] []
  | str {w : Str} {k : Nat} {p : Pos} {es : List Expr} {ds : List DV} : Consts es ds → Consts (.Constant (.str w) k p :: es) (.str w :: ds)
  | int {w : Int} {k : Nat} {p : Pos} {es : List Expr} {ds : List DV} : Consts es ds → Consts (.Constant (.int w) k p :: es) (.int w :: ds)
theorem Consts.ev (h : Consts es ds) : EvOs X n D σ es ds ∧ ∀ d ∈ ds, d.sc = true := by
  induction h with
  | nil => exact ⟨EvOs.nil, by simp⟩
  | str _ ih => exact ⟨EvOs.strC ih.1, by intro d hd; rcases List.mem_cons.mp hd with rfl | hd; rfl; exact ih.2 d hd⟩
  | int _ ih => exact ⟨EvOs.intC ih.1, by intro d hd; rcases List.mem_cons.mp hd with rfl | hd; rfl; exact ih.2 d hd⟩
theorem swaps_list {p : Pos} {x : Str} {q : Pos} {l : Nat} {env : Env} : swapsWith (.List es p) (some (.Name x q)) l env = pure false := rfl
theorem Ex.known {p pos pp : Pos} (h : Consts es (known2.map .str)) (hk : isOwnVar D (Str.ofString "known") = true) (hr : Ex X n D rest ⟨(Str.ofString "known", .ref σ.hp.length) :: σ.loc, σ.hp ++ [.lst (known2.map .str)]⟩ Φ) : Ex X n D (.Assign [.Name (Str.ofString "known") p] (.List es pp) pos :: rest) σ Φ :=
  Ex.assign (d := .lst (known2.map .str)) (EvF.list (h.ev (X := X) (n := n) (D := D) (σ := σ)).1 (h.ev (X := X) (n := n) (D := D) (σ := σ)).2 (show 10 ≤ sizeLine by decide)) hk hr swaps_list
noncomputable def listOf (e : Expr) : List Expr := (eParts e).1
theorem EvB.or3 {x y w : Expr} {p : Pos} (h1 : EvB X n D σ x false) (h2 : EvB X n D σ y false) (h3 : EvB X n D σ w false) : EvB X n D σ (.BoolOp .Or [x, y, w] p) false := fun A g fps s hA q =>
  wpAny_isTrue_BoolOp (wpAny_allTrue_Or_cons (wpF_mono (h1 A g fps s hA q) fun r s1 hq1 => by
    obtain ⟨k1, e1⟩ := hq1
    subst e1
    refine wpAny_allTrue_Or_cons (wpF_mono (h2 A g fps s1 hA (q.ext k1)) fun r s2 hq2 => ?_)
    obtain ⟨k2, e2⟩ := hq2
    subst e2
    refine wpAny_allTrue_Or_cons (wpF_mono (h3 A g fps s2 hA ((q.ext k1).ext k2)) fun r s3 hq3 => ?_)
    obtain ⟨k3, e3⟩ := hq3
    subst e3
    exact wpAny_allTrue_Or_nil ⟨(k1.trans k2).trans k3, rfl⟩))
theorem EvF.and2T {x y : Expr} {p : Pos} {d : DV} (h1 : EvF X n D σ x (.bool true)) (h2 : EvF X n D σ y d) : EvF X n D σ (.BoolOp .And [x, y] p) d := fun A g fps s hA q =>
  wpAny_And2 (wpF_mono (h1 A g fps s hA q) fun v s1 hq => by
    obtain ⟨k1, fp, hx, _, _⟩ := hq
    obtain ⟨rfl, _⟩ := hx
    refine wpAny_truthy_bool ?_
    rw [if_pos rfl]
    refine wpF_mono (h2 A g fps s1 hA (q.ext k1)) fun r s2 hq2 => ?_
    obtain ⟨k2, fp2, a1, a2, a3⟩ := hq2
    exact ⟨k1.trans k2, fp2, a1, a2, fun a ha => fresh_of_kp k1 (a3 a ha)⟩)
end
structure Plain2 (co wk : List Int) (ws : List Str) (t : R1) (ls : List Int) (wd : Int) : Prop where
  due : DueOk co wk
  left : t.left = ws
  ends : t.ends = dueEs co wk 5
  lasts : ls = dueLs co wk 5
  busy : pfGo 32 0 t.busy [] = some (dueW co wk 5)
  worked : pfGo 32 0 wd [] = some (dueW co wk 5)
  join : JoinOk (Str.ofString ", ") (dueW co wk 5) = true
section
variable {X : Cx} {K : LexK} {n : Nat}
theorem law2_end (hg : LawG X K) {pm cd doc : Value} {a L : Addr} {z : Heap} {o0 o2 o7 : AObj} {co wk ls : List Int} {ws : List Str} {wd : Int} {t : R1} (hp : Plain2 co wk ws t ls wd) (hws : ∀ w ∈ ws, PyData.strOk w = true) :
    Ex X (n + 6) (law1D pm cd doc a L z) [stN (dBody law1S) 25, stN (dBody law1S) 26, stN (dBody law1S) 27] ⟨duL wd t, duH o0 (.lst (ws.map .str)) o2 (.pl (t.left.map .str)) (.pl (t.ends.map .int)) o7 (.lst (ls.map .int)) co wk (dueEs co wk 5) (dueLs co wk 5) (dueW co wk 5)⟩ (retIs (.bool true)) := by
  obtain ⟨aP, pmP, cdP, docP, hvP, hfP⟩ := hg.pf
  obtain ⟨hd, h1, h2, h3, h4, h5, h6⟩ := hp
  rw [h1, h2, h3]
  refine Ex.ite (b := false) (EvB.or3 (EvB.neR (a := .lst (ws.map .str)) (EvO.namePl (k := 5) rfl rfl rfl) (EvO.nameRef (k := 1) rfl rfl rfl) (ok_strs hws) (deep_strs _)) (EvB.neR (a := .lst ((dueEs co wk 5).map .int)) (EvO.namePl (k := 6) rfl rfl rfl) (EvO.namePl (k := 10) rfl rfl rfl) (ok_ints _) (deep_ints _)) (EvB.neR (a := .lst ((dueLs co wk 5).map .int)) (EvO.nameRef (k := 8) rfl rfl rfl) (EvO.namePl (k := 11) rfl rfl rfl) (ok_ints _) (deep_ints _))) (fun hb => by cases hb) fun _ => Ex.nil ?_
  refine Ex.assign (d := .str (Txt.join (Str.ofString ", ") (dueW co wk 5))) (EvF.join EvO.str.toO (EvO.namePl (k := 12) rfl rfl rfl) h6) rfl ?_
  refine Ex.ret (d := .bool true) (EvF.and2T ?_ ?_) rfl
  · have : (.bool true : DV) = .bool (Txt.join (Str.ofString ", ") (dueW co wk 5) == Txt.join (Str.ofString ", ") (dueW co wk 5)) := by rw [beq_self_eq_true]
    rw [this]
    exact EvF.cmp (EvF.call rfl hvP hfP.isFn (EvOs.cons (EvO.name (d := .int t.busy) rfl rfl) EvOs.nil) (CallO.le (pretty_ok (n := n) hfP hg.flags hg.range hg.hex t.busy _ h4 h6) (by omega))).toO (EvO.name rfl rfl) .eqS
  · have : (.bool true : DV) = .bool (Txt.join (Str.ofString ", ") (dueW co wk 5) == Txt.join (Str.ofString ", ") (dueW co wk 5)) := by rw [beq_self_eq_true]
    rw [this]
    exact EvF.cmp (EvF.call rfl hvP hfP.isFn (EvOs.cons (EvO.name (d := .int wd) rfl rfl) EvOs.nil) (CallO.le (pretty_ok (n := n) hfP hg.flags hg.range hg.hex wd _ h5 h6) (by omega))).toO (EvO.name rfl rfl) .eqS
end
end Mine
end
section
open PySem PySem.Calls PyProof.Rows
set_option maxRecDepth 100000
namespace Mine
section
variable {X : Cx} {K : LexK} {n : Nat}
theorem erase1_sub {h : Heap} {l : List Addr} {b : Addr} {o : Obj} (e : (eraseH h l).get? b = some o) : h.get? b = some o := by
  rw [get?_erase] at e; split at e; cases e; exact e
theorem hit_of {aS c P c1 c2 : Addr} {oc : Obj} (hS : StrmFn X aS c P) (hne : ∀ p ∈ X.C.objs, p.1 ≠ P) : HitG ⟨X.prog, X.w, C2 X.C P (PySem.W.tabObj (tabFull c1 c2)) c1 oc⟩ X.C aS c P c1 c2 := by
  obtain ⟨pm, doc, hv, hf, hG⟩ := id hS
  obtain ⟨a', o, fd, e, ho, hfd⟩ := hf.isFn
  exact ⟨List.mem_cons_self, hS, fun h b => C2.down hne b, hv, ⟨a', o, fd, e, List.mem_cons_of_mem _ (List.mem_cons_of_mem _ ho), hfd⟩⟩
theorem up_of {P c1 : Addr} {tb oc : Obj} : Up X ⟨X.prog, X.w, C2 X.C P tb c1 oc⟩ := ⟨rfl, rfl, rfl, fun p hp => List.mem_cons_of_mem _ (List.mem_cons_of_mem _ hp)⟩
theorem ints_off {h : Heap} {ns : List Int} {r : Value} {P : Addr} {ps : Array Value} (hr : VR h (.lst (ns.map .int)) r) (hP : h.get? P = some (PySem.W.tabObj ps)) : VR (eraseH h [P]) (.lst (ns.map .int)) r := by
  obtain ⟨a, vs, rfl, hl, hv⟩ := hr.lst
  have hne : a ≠ P := fun e => by
    obtain ⟨o, e1, e2, _⟩ := hl
    rw [e, hP] at e1
    cases e1; cases e2
  refine VR.ofLst (let ⟨o, e1, x⟩ := hl; ⟨o, by rw [get?_erase, if_neg (by simpa using hne)]; exact e1, x⟩) ⟨[], ?_⟩
  exact scs_rep hv (sc_ints _)
structure LawDone (P : Addr) (s s' : Shared) (v : Value) : Prop where
  ok : v = .bool true
  keep : ∀ b o, b ≠ P → s.heap.get? b = some o → s'.heap.get? b = some o
  tab : ∃ ps, s'.heap.get? P = some (PySem.W.tabObj ps)
  bare : AllBare s'.gens
  os : s'.os = s.os
structure PartDone (g s' : Shared) (f : Flow) : Prop where
  ok : f = .ret (.bool true)
  keep : ∀ b o, g.heap.get? b = some o → s'.heap.get? b = some o
  bare : AllBare s'.gens
  os : s'.os = g.os
structure WpS (X : Cx) (A : Around) (t : Sem Flow) (Q : Flow → Shared → Prop) (s : Shared) : Prop where
  run : wpF X A t Q s
theorem PartDone.up {g s2 s' : Shared} {f : Flow} {l : List Addr} (hd : PartDone { s2 with heap := eraseH s2.heap l } s' f) (hk : ∀ b o, g.heap.get? b = some o → s2.heap.get? b = some o) (hl : ∀ b o, g.heap.get? b = some o → b ∉ l) (ho : s2.os = g.os) : PartDone g s' f := by
  refine ⟨hd.ok, fun b o e => hd.keep b o ?_, hd.bare, hd.os.trans ho⟩
  show (eraseH s2.heap l).get? b = _
  rw [get?_erase, if_neg (hl b o e)]
  exact hk b o e
theorem R.offOwn {C : Gl} {D : FD} {g s : Shared} {σ : St} {fps : List (List Addr)} (q : R C D g σ fps s) {k : Nat} {l : List Addr} (e0 : fps[k]? = some l) : ∀ b o, g.heap.get? b = some o → b ∉ D.env.locals :: (D.cs ++ l) := fun b o e hm => by
  have hb' : b ∈ ownOf D fps := own_mono hm fun h => own_fps (mem_flatten_get e0 h)
  rw [q.fresh b hb'] at e; cases e
theorem PartDone.law {P : Addr} {s s2 s' : Shared} {f : Flow} {l : List Addr} {ps : Array Value} (hd : PartDone { s2 with heap := eraseH s2.heap l } s' f) (hk : Kp (ghost s [P]) s2) (hl : ∀ b o, (ghost s [P]).heap.get? b = some o → b ∉ l) (hP : s2.heap.get? P = some (PySem.W.tabObj ps)) (hPl : P ∉ l) :
    ∃ v, f = .ret v ∧ LawDone P s s' v := by
  have hz : ∀ b o, s2.heap.get? b = some o → b ∉ l → s'.heap.get? b = some o := fun b o e hb => hd.keep b o (by
    show (eraseH s2.heap l).get? b = _
    rw [get?_erase, if_neg hb]; exact e)
  refine ⟨_, hd.ok, rfl, fun b o hb e => ?_, ⟨ps, hz P _ hP hPl⟩, hd.bare, hd.os.trans hk.os⟩
  have e' : (ghost s [P]).heap.get? b = some o := by rw [ghost_get, if_neg (by simpa using hb)]; exact e
  exact hz b o (hk.hp b o e') (hl b o e')
theorem law1_env {pm cd doc : Value} {a L : Addr} {z : Heap} : ∀ y c, (law1D pm cd doc a L z).env.cells.lookup y = some c → c ∈ (law1D pm cd doc a L z).cs := fun y c e => List.mem_map.mpr ⟨(y, c), mem_of_lookup e, rfl⟩
theorem law1_start {pm cd doc : Value} {a L P : Addr} {s s1 : Shared} {ns : List Int} (q0 : R X.C (law1D pm cd doc a L s.heap) s ⟨[(Str.ofString "script", .dv (.lst (ns.map .int)))], []⟩ [] s1) (hb : Bs X.C (eraseH s.heap [P])) (hT : s.heap.get? P = some (PySem.W.tabObj #[])) :
    R X.C (law1D pm cd doc a L (eraseH s.heap [P])) (ghost s [P]) ⟨[(Str.ofString "script", .dv (.lst (ns.map .int)))], [.other (tabS P #[] [])]⟩ [[P]] s1 := by
  have q1 : R X.C (law1D pm cd doc a L (eraseH s.heap [P])) s ⟨[(Str.ofString "script", .dv (.lst (ns.map .int)))], []⟩ [] s1 := R.zdownC (z' := eraseH s.heap [P]) q0 hb (fun b o e => erase1_sub e) (fun y c e => .inl (law1_env (z := s.heap) y c e)) (fun y v e r hr => by
    have := mem_of_lookup e
    simp at this
    obtain ⟨rfl, rfl⟩ := this
    exact ints_off hr hT)
  have q2 := q1.back (g := ghost s [P]) ⟨fun b o _ e => by rw [ghost_get] at e; split at e; cases e; exact e, fun _ _ _ e => e, id, rfl⟩ fun b o e => by
    have e : (eraseH s.heap [P]).get? b = some o := e
    rw [ghost_get]; rw [get?_erase] at e; exact e
  exact q2.adopt (o := .other (tabS P #[] [])) (fp := [P]) (fun b hb' => by
    rw [List.mem_singleton.mp hb']
    refine ⟨fun hm => ?_, by rw [ghost_get, if_pos (by (exact .head _))]⟩
    have := q1.fresh P hm
    rw [hT] at this; cases this) (by simp) ⟨rfl, q1.keep.hp _ _ hT, by simp⟩
theorem drawn_len {given : List Int} {k : Nat} {m : Int} {ns : List Int} : (drawn given k m ns).length = k := by simp [drawn]
end
end Mine
end
section
open PySem PySem.Calls PyProof.Rows
set_option maxRecDepth 100000
namespace Mine
noncomputable def KnownSt (st : Stmt) : Prop := ∃ p pp pos es, st = .Assign [.Name (Str.ofString "known") p] (.List es pp) pos ∧ Consts es (known2.map .str)
theorem knownSt : ∃ st, KnownSt st ∧ (dBody law1S).drop 18 = stN (dBody law1S) 18 :: stN (dBody law1S) 19 :: st :: stN (dBody law1S) 21 :: stN (dBody law1S) 22 :: stN (dBody law1S) 23 :: stN (dBody law1S) 24 :: [stN (dBody law1S) 25, stN (dBody law1S) 26, stN (dBody law1S) 27] := by
  obtain ⟨p, pp, pos, e⟩ : ∃ p pp pos, (dBody law1S).drop 18 = stN (dBody law1S) 18 :: stN (dBody law1S) 19 :: .Assign [.Name (Str.ofString "known") p] (.List (listOf (asgE (stN (dBody law1S) 20))) pp) pos :: stN (dBody law1S) 21 :: stN (dBody law1S) 22 :: stN (dBody law1S) 23 :: stN (dBody law1S) 24 :: [stN (dBody law1S) 25, stN (dBody law1S) 26, stN (dBody law1S) 27] := ⟨_, _, _, rfl⟩
  have hkn : Consts (listOf (asgE (stN (dBody law1S) 20))) (known2.map .str) := .str (.str (.str (.str (.str (.str (.str (.str (.str (.str .nil)))))))))
  exact ⟨_, ⟨p, pp, pos, _, rfl, hkn⟩, e⟩
noncomputable def coOf (ns : List Int) : List Int := (cmR ns 5).2
noncomputable def wkOf (ns : List Int) : List Int := ns.map wkI
noncomputable def wsOf (ns : List Int) : List Str := ns.map octets
structure AllPlain2 : Prop where
  plain : ∀ ns : List Int, ns.length = 5 → (∀ r ∈ ns, 0 ≤ r ∧ r < 4096) → Plain2 (coOf ns) (wkOf ns) (wsOf ns) (r1 (wsOf ns) (coOf ns) 23) (lastsOf (plRun (wkOf ns) (coOf ns) 23).row (plRun (wkOf ns) (coOf ns) 23).whn) (plRun (wkOf ns) (coOf ns) 23).busy
  row : ∀ ns : List Int, ns.length = 5 → (∀ r ∈ ns, 0 ≤ r ∧ r < 4096) → RowOk (plRun (wkOf ns) (coOf ns) 23).row
  lex : ∀ ns : List Int, ns.length = 5 → (∀ r ∈ ns, 0 ≤ r ∧ r < 4096) → LexOk (text1 ns) (ns.map octets)
  fin : ∀ ns : List Int, ns.length = 5 → (∀ r ∈ ns, 0 ≤ r ∧ r < 4096) → ∃ p ln, tokN ⟨text1 ns, 0, [], 1⟩ 5 = ⟨text1 ns, p, [], ln⟩ ∧ 0 ≤ p ∧ ((text1 ns).length : Int) ≤ p ∧ (text1 ns).length ≤ 1000
  var : ∀ r : Int, 0 ≤ r → r < 4096 → varN (octets r) = some r
  ok : ∀ r : Int, 0 ≤ r → r < 4096 → PyData.strOk (octets r) = true ∧ (octets r != Str.ofString "") = true
section
variable {X : Cx} {K : LexK} {n : Nat}
theorem law2_tail (hall : AllPlain2) (hg : LawG X K) (h2 : LawG2 X) (hc : LexCls X K) {pm cd doc : Value} {a L : Addr} {z : Heap} {ns : List Int} (h5 : ns.length = 5) (hb : ∀ r ∈ ns, 0 ≤ r ∧ r < 4096) :
    Ex X (n + 6) (law1D pm cd doc a L z) ((dBody law1S).drop 8) ⟨b2, [.other (lexS K (tokN ⟨text1 ns, 0, [], 1⟩ 5)), .lst ((ns.map octets).map .str), .lst (ns.map .int)]⟩ (retIs (.bool true)) := by
  obtain ⟨p, ln, ef, f1, f2, f3⟩ := hall.fin ns h5 hb
  rw [ef]
  have hws : ∀ w ∈ wsOf ns, WordOk w := fun w hw => by
    obtain ⟨r, hr, rfl⟩ := List.mem_map.mp hw
    have hr := hb r hr
    exact ⟨(hall.ok r hr.1 hr.2).2, Nat.le_trans (octets_len r) (by decide), r, hall.var r hr.1 hr.2⟩
  have hwl : (wsOf ns).length = 5 := by unfold wsOf; rw [List.length_map, h5]
  have hkl : (wkOf ns).length = 5 := by unfold wkOf; rw [List.length_map, h5]
  have hcl : (coOf ns).length = 5 := cmR_len ns 5
  have hpl := hall.plain ns h5 hb
  refine law2_come h5 ?_
  refine law2_road (ws := wsOf ns) (co := coOf ns) hg hc hwl hcl hws f3 f1 f2 fun p' => ?_
  obtain ⟨st, hst, e⟩ := knownSt
  rw [e]
  refine law2_pile (wk := wkOf ns) hg h2 hcl hkl (hall.row ns h5 hb) ?_
  obtain ⟨q, qq, pos, es, rfl, hkn⟩ := hst
  refine Ex.known hkn rfl ?_
  refine law2_due hg hcl hkl hpl.due ?_
  exact law2_end hg hpl fun w hw => by
    obtain ⟨r, hr, rfl⟩ := List.mem_map.mp hw
    exact (hall.ok r (hb r hr).1 (hb r hr).2).1
end
end Mine
end
section
open PySem PySem.Calls PyProof.Rows
set_option maxRecDepth 100000
namespace Mine
section
variable {X : Cx} {K : LexK} {n : Nat}
theorem LawG2.up {X X' : Cx} (u : Up X X') (h : LawG2 X) : LawG2 X' where
  prs := by obtain ⟨a, x⟩ := h.prs; exact ⟨a, u.fnG x⟩
  pil := by obtain ⟨a, x⟩ := h.pil; exact ⟨a, u.fnG x⟩
theorem law2_c (hall : AllPlain2) (hg : LawG X K) (h2 : LawG2 X) (hc : LexCls X K) {pm cd doc : Value} {a L : Addr} {z : Heap} {ns : List Int} (h5 : ns.length = 5) (hb : ∀ r ∈ ns, 0 ≤ r ∧ r < 4096)
    {A : Around} {g s : Shared} {fps : List (List Addr)} (hA : AOk A (n + 6)) (q : R X.C (law1D pm cd doc a L z) g ⟨b2, [.other (lexS K (tokN ⟨text1 ns, 0, [], 1⟩ 5)), .lst ((ns.map octets).map .str), .lst (ns.map .int)]⟩ fps s) :
    WpS X A (execs ((dBody law1S).drop 8) (law1D pm cd doc a L z).env) (fun f s' => PartDone g s' f) s := by
  refine ⟨wpF_mono (law2_tail (n := n) hall hg h2 hc h5 hb A g fps s hA q) fun f s' hq1 => ?_⟩
  obtain ⟨fl, σ', fps', q', _, r', h'⟩ := hq1
  cases fl with
  | ret d =>
    have h' : d = .bool true := h'
    subst h'
    obtain ⟨r, fp, e1, e2, _, _⟩ := r'
    subst e1
    have e2 : r = .bool true := e2.1
    subst e2
    exact ⟨rfl, fun b o e => q'.keep.hp b o e, q'.bare, q'.keep.os⟩
  | next => cases h'
  | brk => exact h'.elim
  | cont => exact h'.elim
theorem law2_b (hall : AllPlain2) (hg : LawG X K) (hc : LexCls X K) {pm cd doc : Value} {a L : Addr} {z : Heap} {ns : List Int} (h5 : ns.length = 5) (hb : ∀ r ∈ ns, 0 ≤ r ∧ r < 4096)
    {l8 : List Stmt} {A : Around} (hk : ∀ (z : Heap) (g s : Shared) (fps : List (List Addr)), R X.C (law1D pm cd doc a L z) g ⟨b2, [.other (lexS K (tokN ⟨text1 ns, 0, [], 1⟩ 5)), .lst ((ns.map octets).map .str), .lst (ns.map .int)]⟩ fps s → WpS X A (execs l8 (law1D pm cd doc a L z).env) (fun f s' => PartDone g s' f) s)
    {g s : Shared} {fps : List (List Addr)} (hA : AOk A (n + 6)) (q : R X.C (law1D pm cd doc a L z) g ⟨[(Str.ofString "drawn", .dv (.lst (ns.map .int))), (Str.ofString "text", .dv (.str (text1 ns))), (Str.ofString "lexer", .ref 0)], [.other (lexS K ⟨text1 ns, 0, [], 1⟩)]⟩ fps s) :
    wpF X A (execs (((dBody law1S).drop 4).take 4 ++ l8) (law1D pm cd doc a L z).env) (fun f s' => PartDone g s' f) s := by
  have h2 := law2_second (n := n) (pm := pm) (cd := cd) (doc := doc) (a := a) (L := L) (z := z) hg hc h5 hb (hall.lex ns h5 hb) (fun r hr => hall.var r (hb r hr).1 (hb r hr).2) (fun r hr => (hall.ok r (hb r hr).1 (hb r hr).2).1)
  have h2' := h2 A g fps s hA q
  refine execs_cross (wpF_mono h2' fun f s2 hq2 => ?_)
  obtain ⟨fl, σ', fps', q2, e2, r2, hfl, hhp, hl1, hl2, hl3, hl4⟩ := hq2
  subst hfl
  have r2 : f = .next := r2
  subst r2
  refine ⟨rfl, ?_⟩
  have q3 := q2.weak (σ' := ⟨b2, [.other (lexS K (tokN ⟨text1 ns, 0, [], 1⟩ 5)), .lst ((ns.map octets).map .str), .lst (ns.map .int)]⟩) (SubL.lookup ⟨hl2, hl3, hl4, trivial⟩) hhp.symm
  exact (hk _ _ _ _ q3).run
theorem law2_a (hall : AllPlain2) {aS c P : Addr} (hg : LawG X K) (h1 : LawG2 X) (hc : LexCls X K) (hS : StrmFn X aS c P) (hne : ∀ p ∈ X.C.objs, p.1 ≠ P) {pm cd doc : Value} {a L : Addr} {z : Heap} {ns : List Int} (hns : ns.length ≤ 63)
    {l1 l2 : List Stmt} (hl1 : (dBody law1S).drop 4 = l1 ++ l2) (hl1' : l1 = ((dBody law1S).drop 4).take 4)
    {A : Around} (hl2 : ∀ (X : Cx) (K : LexK) (c1 : Addr), LawG X (kOf K c1) → LawG2 X → LexCls X (kOf K c1) → ∀ (z : Heap) (ns : List Int), ns.length = 5 → (∀ r ∈ ns, 0 ≤ r ∧ r < 4096) → ∀ (g s : Shared) (fps : List (List Addr)),
      R X.C (law1D pm cd doc a L z) g ⟨b2, [.other (lexS (kOf K c1) (tokN ⟨text1 ns, 0, [], 1⟩ 5)), .lst ((ns.map octets).map .str), .lst (ns.map .int)]⟩ fps s → WpS X A (execs l2 (law1D pm cd doc a L z).env) (fun f s' => PartDone g s' f) s)
    {s s1 : Shared} {fps : List (List Addr)} (hA : AOk A (n + 6)) (q : R X.C (law1D pm cd doc a L z) (ghost s [P]) ⟨[(Str.ofString "script", .dv (.lst (ns.map .int)))], [.other (tabS P #[] [])]⟩ fps s1) :
    wpF X A (execs ((dBody law1S).take 4 ++ (l1 ++ l2)) (law1D pm cd doc a L z).env) (fun f s' => ∃ v, f = .ret v ∧ LawDone P s s' v) s1 := by
  have h2 := law1_first (n := n) (pm := pm) (cd := cd) (doc := doc) (a := a) (L := L) (z := z) hg hc hS hns
  have h2' := h2 A _ _ s1 hA q
  refine execs_cross (wpF_mono h2' fun f s2 hq1 => ?_)
  refine Classical.byContradiction fun hnx => ?_
  (obtain ⟨fl, σ', fps', q2, e2, r2, hfl, c1, c2, hhp, e3, e4, e5⟩ := hq1) <;> (refine hnx ?_; clear hnx)
  subst hfl
  have r2 : f = .next := r2
  subst r2
  refine ⟨rfl, ?_⟩
  refine Classical.byContradiction fun hnx => ?_
  (obtain ⟨σl, σh⟩ := σ') <;> (refine hnx ?_; clear hnx)
  have hhp : σh = _ := hhp
  subst hhp
  refine Classical.byContradiction fun hnx => ?_
  (obtain ⟨x, al, ex, e0, hI, _⟩ := q2.lex (k := 3) rfl) <;> (refine hnx ?_; clear hnx)
  refine Classical.byContradiction fun hnx => ?_
  (obtain ⟨fT, eT, hTl, hT2, hT3⟩ := q2.slot0 (k := 0) rfl) <;> (refine hnx ?_; clear hnx)
  refine Classical.byContradiction fun hnx => ?_
  (obtain ⟨c', oc, vs, t, ec, hoc, hod, hov⟩ := hT3 (c1, readQ) (by (exact .head _))) <;> (refine hnx ?_; clear hnx)
  cases ec
  have hoff := q2.offOwn e0
  have hPo : ∀ b ∈ fT, b ∉ (law1D pm cd doc a L z).env.locals :: ((law1D pm cd doc a L z).cs ++ (x :: (al.list ++ ex))) := fun b hb hm => by
    have hap := q2.apart eT hb
    rcases List.mem_cons.mp hm with h | hm
    · exact hap.1 h
    rcases List.mem_append.mp hm with hm | hm
    · exact hap.2.1 hm
    · exact hap.2.2 3 _ (by decide) e0 hm
  have hP1 : P ∈ fT := by rw [hTl]; (exact .head _)
  have hC1 : c1 ∈ fT := by rw [hTl]; (exact .tail _ (.head _))
  have hzz : ∀ b o, z.get? b = some o → (eraseH s2.heap ((law1D pm cd doc a L z).env.locals :: ((law1D pm cd doc a L z).cs ++ (x :: (al.list ++ ex))))).get? b = some o := fun b o e => by
    rw [get?_erase, if_neg (hoff b o (q2.zk b o e))]
    exact q2.keep.hp b o (q2.zk b o e)
  have hbz := q2.bs.keeps hzz
  have hb2 : Bs (C2 X.C P (PySem.W.tabObj (tabFull c1 c2)) c1 oc) (eraseH s2.heap ((law1D pm cd doc a L z).env.locals :: ((law1D pm cd doc a L z).cs ++ (x :: (al.list ++ ex))))) := by
    refine ⟨hbz.nolim, fun p hp => ?_, hbz.glob⟩
    rcases List.mem_cons.mp hp with rfl | hp
    · show (eraseH s2.heap _).get? P = _
      rw [get?_erase, if_neg (hPo P hP1)]; exact hT2
    rcases List.mem_cons.mp hp with rfl | hp
    · show (eraseH s2.heap _).get? c1 = _
      rw [get?_erase, if_neg (hPo c1 hC1)]; exact hoc
    · exact hbz.held p hp
  have q3 := q2.rebase (C' := C2 X.C P (PySem.W.tabObj (tabFull c1 c2)) c1 oc) (k := 3) (o := .other (lexS (kOf K c1) ⟨text1 (drawn given1 5 4096 ns), 0, [], 1⟩)) rfl e0 [(Str.ofString "drawn", .dv (.lst ((drawn given1 5 4096 ns).map .int))), (Str.ofString "text", .dv (.str (text1 (drawn given1 5 4096 ns)))), (Str.ofString "lexer", .ref 0)] hb2 (fun y v e => by
    have hm := mem_of_lookup e
    simp only [List.mem_cons, List.not_mem_nil, or_false, Prod.mk.injEq] at hm
    rcases hm with ⟨rfl, rfl⟩ | ⟨rfl, rfl⟩ | ⟨rfl, rfl⟩
    · exact ⟨_, e3, q2.freezeRef e0 (.inl rfl) (by decide)⟩
    · exact ⟨_, e4, q2.freezeDv e0⟩
    · exact ⟨_, e5, fun r hqp => by obtain ⟨a', fp', ea, er⟩ := hqp; exact ⟨a', fp', by rw [e0] at ea; cases ea; rfl, er⟩⟩)
  have up : Up X ⟨X.prog, X.w, C2 X.C P (PySem.W.tabObj (tabFull c1 c2)) c1 oc⟩ := up_of
  have hg' := hg.up up c1
  have h1' := h1.up up
  have hc' : LexCls ⟨X.prog, X.w, C2 X.C P (PySem.W.tabObj (tabFull c1 c2)) c1 oc⟩ (kOf K c1) := up.lexCls hc fun g b => ⟨c1, oc, vs, t, rfl, b.held (c1, oc) (by (exact .tail _ (.head _))), hod, hov⟩
  subst hl1'
  have h5 := law2_b (X := ⟨X.prog, X.w, C2 X.C P (PySem.W.tabObj (tabFull c1 c2)) c1 oc⟩) (n := n) (l8 := l2) hall hg' hc' drawn_len (drawn_bd (by decide)) (fun z g s fps q => hl2 ⟨X.prog, X.w, C2 X.C P (PySem.W.tabObj (tabFull c1 c2)) c1 oc⟩ K c1 hg' h1' hc' z _ drawn_len (drawn_bd (by decide)) g s fps q) hA q3
  exact wpF_mono h5 fun f s' hd => hd.law q2.keep hoff hT2 (hPo P hP1)
theorem law2_split : (dBody law1S).drop 4 = ((dBody law1S).drop 4).take 4 ++ (dBody law1S).drop 8 := by
  have h := List.take_append_drop 4 ((dBody law1S).drop 4)
  rw [List.drop_drop] at h
  exact h.symm
theorem law2_whole : dBody law1S = (dBody law1S).take 4 ++ (((dBody law1S).drop 4).take 4 ++ (dBody law1S).drop 8) := by
  rw [← law2_split]
  exact (List.take_append_drop 4 _).symm
theorem law2_rest (hall : AllPlain2) {pm cd doc : Value} {a L : Addr} : ∃ l2 : List Stmt, (dBody law1S).drop 4 = ((dBody law1S).drop 4).take 4 ++ l2 ∧ dBody law1S = (dBody law1S).take 4 ++ (((dBody law1S).drop 4).take 4 ++ l2) ∧
    ∀ (A : Around), AOk A (n + 6) → ∀ (X : Cx) (K : LexK) (c1 : Addr), LawG X (kOf K c1) → LawG2 X → LexCls X (kOf K c1) → ∀ (z : Heap) (ns : List Int), ns.length = 5 → (∀ r ∈ ns, 0 ≤ r ∧ r < 4096) → ∀ (g s : Shared) (fps : List (List Addr)),
      R X.C (law1D pm cd doc a L z) g ⟨b2, [.other (lexS (kOf K c1) (tokN ⟨text1 ns, 0, [], 1⟩ 5)), .lst ((ns.map octets).map .str), .lst (ns.map .int)]⟩ fps s → WpS X A (execs l2 (law1D pm cd doc a L z).env) (fun f s' => PartDone g s' f) s := by
  refine ⟨(dBody law1S).drop 8, law2_split, law2_whole, ?_⟩
  intro A hA X K c1 hg h1 hc z ns h5 hb g s fps q
  exact law2_c (X := X) (K := kOf K c1) (n := n) hall hg h1 hc h5 hb hA q
theorem law2_call (hall : AllPlain2) {aS c P : Addr} (hg : LawG X K) (h1 : LawG2 X) (hc : LexCls X K) (hS : StrmFn X aS c P) {a : Addr} {pm cd doc : Value} (hf : FnAt X a law1S pm cd doc) {ns : List Int} (hns : ns.length ≤ 63)
    {A : Around} {s : Shared} {r : Value} (hA : AOk A (n + 7)) (hb : Bs X.C (eraseH s.heap [P])) (hbare : AllBare s.gens) (hT : s.heap.get? P = some (PySem.W.tabObj #[])) (hr : VR s.heap (.lst (ns.map .int)) r) :
    codeAny (model X.prog X.w) A (.call (.ref a) ⟨[r], []⟩) (fun res s' => ∃ v, res = .ok (.ret v) ∧ LawDone P s s' v) s := by
  obtain ⟨⟨o, h2, h3⟩, h4⟩ := hf
  have hbs : Bs X.C s.heap := hb.keeps (fun b o e => erase1_sub e)
  have hne : ∀ p ∈ X.C.objs, p.1 ≠ P := fun p hp e => by
    have h := hb.held p hp
    rw [e, get?_erase, if_pos (by simp)] at h
    cases h
  refine codeAny_call_cells hA.room (hbs.held _ h2) h3 hbs.nolim (h4 _ hbs) rfl (binds := [Str.ofString "script"].zip [r]) rfl rfl (fun y hy => .inr ?_) (fun s₁ xc => ?_) rfl rfl rfl
  · simp at hy
    subst hy
    exact ⟨(by decide : (dScope law1S).names.lookup (Str.ofString "script") = some .cell), cells_has _ _ _ _ (by decide : (Str.ofString "script", NameKind.cell) ∈ (dScope law1S).names)⟩
  · have q0 := R.start (fd := dFd law1S pm cd doc) (a := a) (names := [Str.ofString "script"]) (ds := [.lst (ns.map .int)]) hbs hbare (VRs.cons hr VRs.nil) rfl rfl rfl (by decide : ∀ x ∈ (dScope law1S).names, x.2 ≠ .free) (by decide : ((dScope law1S).names.map (·.1)).Nodup) xc
    generalize hL : s.heap.objs.size = L at q0 ⊢
    have q1 := law1_start (pm := pm) (cd := cd) (doc := doc) (a := a) (L := L) (P := P) (ns := ns) q0 hb hT
    obtain ⟨l2, e1, e2, hk⟩ := law2_rest (n := n) (pm := pm) (cd := cd) (doc := doc) (a := a) (L := L) hall
    have h5 := law2_a (n := n) (l2 := l2) hall hg h1 hc hS hne hns e1 rfl (hk (A.deeper (law1D pm cd doc a L s.heap).env) (hA.deeper _)) (hA.deeper _) q1
    rw [← e2] at h5
    exact wpAny_e h5 fun f s2 ⟨v, hf, x⟩ => ⟨v, by rw [hf], x⟩
end
end Mine
end
section
open PySem PySem.Calls PyProof.Rows
set_option maxRecDepth 100000
namespace Mine
noncomputable def LexSt.cs (st : LexSt) : List Nat := st.text.cps.toList.drop st.place.toNat
noncomputable def LexSt.adv (st : LexSt) (l : List Nat) : LexSt := ⟨st.text, st.place + (l.length : Int), st.push, st.line + cnt 10 l⟩
theorem LexSt.adv_adv (st : LexSt) (l m : List Nat) : (st.adv l).adv m = st.adv (l ++ m) := by
  unfold LexSt.adv
  simp only [List.length_append, PyProof.Rows.cnt_append]
  congr 1
  · lia
  · lia
theorem LexSt.adv_nil (st : LexSt) : st.adv [] = st := by
  unfold LexSt.adv
  rw [cnt_nil]; simp
theorem LexSt.cs_adv {st : LexSt} {l r : List Nat} (h0 : 0 ≤ st.place) (h : st.cs = l ++ r) : (st.adv l).cs = r := by
  unfold LexSt.cs at h ⊢
  show st.text.cps.toList.drop (st.place + (l.length : Int)).toNat = r
  rw [show (st.place + (l.length : Int)).toNat = st.place.toNat + l.length by lia, ← List.drop_drop, h]
  simp
theorem adv_pos {st : LexSt} {l : List Nat} (h0 : 0 ≤ st.place) : 0 ≤ (st.adv l).place := by show 0 ≤ st.place + (l.length : Int); omega
theorem ch_at {st : LexSt} {c : Nat} {r : List Nat} (h0 : 0 ≤ st.place) (h : st.cs = c :: r) : st.ch = ⟨#[c]⟩ := by
  rw [LexSt.ch_eq h0]
  have : st.text.cps.toList[st.place.toNat]? = some c := by
    unfold LexSt.cs at h
    have e := List.getElem?_drop (xs := st.text.cps.toList) (i := st.place.toNat) (j := 0)
    rw [h] at e
    exact e.symm
  rw [this]
theorem one_inj {a b : Nat} : ((⟨#[a]⟩ : Str) == ⟨#[b]⟩) = (a == b) := by
  by_cases h : a = b
  · subst h; simp
  · have h1 : (a == b) = false := by simpa using h
    rw [h1]
    have : (⟨#[a]⟩ : Str) ≠ ⟨#[b]⟩ := fun e => h (by
      have e2 := congrArg (fun s : Str => s.cps.toList) e
      simpa using e2)
    simpa using this
theorem one_ne (a : Nat) : (⟨#[a]⟩ : Str) ≠ Str.empty := fun e => by
  have e2 := congrArg (fun s : Str => s.cps.toList.length) e
  have e3 : (1 : Nat) = 0 := e2
  cases e3
theorem sNl : Str.ofString "\n" = ⟨#[10]⟩ := by decide +kernel
theorem sQ : Str.ofString "\"" = ⟨#[34]⟩ := by decide +kernel
theorem sB : Str.ofString "\\" = ⟨#[92]⟩ := by decide +kernel
theorem step_at {st : LexSt} {c : Nat} {r : List Nat} (h0 : 0 ≤ st.place) (h : st.cs = c :: r) : st.step = st.adv [c] := by
  unfold LexSt.step
  rw [ch_at h0 h, sNl, one_inj]
  unfold LexSt.adv
  rw [cnt_cons, cnt_nil]
  by_cases hc : c = 10
  · subst hc; dsimp [LexSt.bump, LexSt.read]
  · have : (c == 10) = false := by simpa using hc
    rw [this, if_neg hc]; simp [LexSt.read]
theorem cont1 (x : Str) (c : Nat) : Txt.contains x ⟨#[c]⟩ = decide (c ∈ x.cps.toList) := by
  unfold Txt.contains
  rw [empty_one, Bool.not_not]
noncomputable def isWs (c : Nat) : Bool := c == 10 || c == 9 || c == 13 || c == 32
theorem ws_cps : lexWs.cps.toList = [10, 9, 13, 32] := by decide +kernel
theorem ws_at (c : Nat) : Txt.contains lexWs ⟨#[c]⟩ = isWs c := by
  rw [cont1, ws_cps]
  unfold isWs
  rw [Bool.eq_iff_iff]; simp [or_assoc]
theorem esc_cps : (Str.ofString "\\\"").cps.toList = [92, 34] := by decide +kernel
theorem wr_at (b : Bool) (c : Nat) : wrTest b c = (c == 92 || c == 34 || (b && isWs c)) := by
  unfold wrTest
  have e : (Str.ofString "\n\t\r ") = lexWs := rfl
  rw [cont1, esc_cps, e, ws_at, Bool.eq_iff_iff]; simp [or_assoc]
noncomputable def enc (b : Bool) (c : Nat) : List Nat := if wrTest b c = true then [92, c] else [c]
theorem quo_at : ∀ (cs : List Nat) (n : Nat) (st : LexSt) (tok : Str) (rest : List Nat), cs.length < n → 0 ≤ st.place → st.cs = cs.flatMap (enc false) ++ 34 :: rest →
    quoGo n st tok = (tok ++ ⟨cs.toArray⟩, st.adv (cs.flatMap (enc false) ++ [34]))
  | [], n + 1, st, tok, rest, hn, h0, h => by
    have h : st.cs = 34 :: rest := h
    rw [quoGo_2, ch_at h0 h, if_neg (one_ne _), sQ, one_inj, if_pos (by rfl), step_at h0 h]
    have : tok ++ (⟨[].toArray⟩ : Str) = tok := by apply Str.ext'; show tok.cps ++ #[] = _; simp
    rw [this]; rfl
  | c :: cs, n + 1, st, tok, rest, hn, h0, h => by
    have hn : cs.length < n := by simpa using hn
    have ht : ∀ t : Str, t ++ (⟨#[c]⟩ : Str) ++ ⟨cs.toArray⟩ = t ++ ⟨(c :: cs).toArray⟩ := fun t => by
      apply Str.ext'
      show t.cps ++ #[c] ++ cs.toArray = t.cps ++ (c :: cs).toArray
      rw [Array.append_assoc]; congr 1; apply Array.ext'; simp
    rw [List.flatMap_cons] at h ⊢
    have hw := wr_at false c
    unfold enc at h ⊢
    by_cases hc : wrTest false c = true
    · rw [if_pos hc] at h ⊢
      have h : st.cs = 92 :: c :: (cs.flatMap (enc false) ++ 34 :: rest) := by rw [h]; simp; rfl
      have h1 : (st.adv [92]).cs = c :: (cs.flatMap (enc false) ++ 34 :: rest) := LexSt.cs_adv h0 h
      have h2 : (st.adv [92, c]).cs = cs.flatMap (enc false) ++ 34 :: rest := LexSt.cs_adv (l := [92, c]) h0 h
      rw [quoGo_2, ch_at h0 h, if_neg (one_ne _), sQ, one_inj, if_neg (by decide), sB, one_inj, if_pos (by decide), step_at h0 h, ch_at (adv_pos h0) h1, step_at (adv_pos h0) h1, LexSt.adv_adv]
      rw [show [92] ++ [c] = [92, c] from rfl, quo_at cs n _ _ rest hn (adv_pos h0) h2, LexSt.adv_adv, ht]
      simp; rfl
    · have hc' : wrTest false c = false := by simpa using hc
      rw [if_neg hc] at h ⊢
      rw [hc'] at hw
      have hne : c ≠ 92 ∧ c ≠ 34 := by
        simp at hw; exact hw
      have h : st.cs = c :: (cs.flatMap (enc false) ++ 34 :: rest) := by rw [h]; simp; rfl
      have h2 : (st.adv [c]).cs = cs.flatMap (enc false) ++ 34 :: rest := LexSt.cs_adv (l := [c]) h0 h
      rw [quoGo_2, ch_at h0 h, if_neg (one_ne _), sQ, one_inj, if_neg (by simpa using hne.2), sB, one_inj, if_neg (by simpa using hne.1), step_at h0 h]
      rw [quo_at cs n _ _ rest hn (adv_pos h0) h2, LexSt.adv_adv, ht]
      simp; rfl
theorem bare_at : ∀ (cs : List Nat) (n : Nat) (st : LexSt) (tok : Str) (rest : List Nat), cs.length < n → 0 ≤ st.place → st.cs = cs.flatMap (enc true) ++ 10 :: rest →
    bareGo n st tok = (tok ++ ⟨cs.toArray⟩, st.adv (cs.flatMap (enc true) ++ [10]))
  | [], n + 1, st, tok, rest, hn, h0, h => by
    have h : st.cs = 10 :: rest := h
    rw [bareGo_2, ch_at h0 h, if_neg (one_ne _), ws_at, if_pos (by rfl), step_at h0 h]
    have : tok ++ (⟨[].toArray⟩ : Str) = tok := by apply Str.ext'; show tok.cps ++ #[] = _; simp
    rw [this]; rfl
  | c :: cs, n + 1, st, tok, rest, hn, h0, h => by
    have hn : cs.length < n := by simpa using hn
    have ht : ∀ t : Str, t ++ (⟨#[c]⟩ : Str) ++ ⟨cs.toArray⟩ = t ++ ⟨(c :: cs).toArray⟩ := fun t => by
      apply Str.ext'
      show t.cps ++ #[c] ++ cs.toArray = t.cps ++ (c :: cs).toArray
      rw [Array.append_assoc]; congr 1; apply Array.ext'; simp
    rw [List.flatMap_cons] at h ⊢
    have hw := wr_at true c
    unfold enc at h ⊢
    by_cases hc : wrTest true c = true
    · rw [if_pos hc] at h ⊢
      have h : st.cs = 92 :: c :: (cs.flatMap (enc true) ++ 10 :: rest) := by rw [h]; simp; rfl
      have h1 : (st.adv [92]).cs = c :: (cs.flatMap (enc true) ++ 10 :: rest) := LexSt.cs_adv h0 h
      have h2 : (st.adv [92, c]).cs = cs.flatMap (enc true) ++ 10 :: rest := LexSt.cs_adv (l := [92, c]) h0 h
      rw [bareGo_2, ch_at h0 h, if_neg (one_ne _), ws_at, if_neg (by decide), sB, one_inj, if_pos (by decide), step_at h0 h, ch_at (adv_pos h0) h1, step_at (adv_pos h0) h1, LexSt.adv_adv]
      rw [show [92] ++ [c] = [92, c] from rfl, bare_at cs n _ _ rest hn (adv_pos h0) h2, LexSt.adv_adv, ht]
      simp; rfl
    · have hc' : wrTest true c = false := by simpa using hc
      rw [if_neg hc] at h ⊢
      rw [hc'] at hw
      have hne : (c ≠ 92 ∧ c ≠ 34) ∧ isWs c = false := by
        simp at hw; exact hw
      have h : st.cs = c :: (cs.flatMap (enc true) ++ 10 :: rest) := by rw [h]; simp; rfl
      have h2 : (st.adv [c]).cs = cs.flatMap (enc true) ++ 10 :: rest := LexSt.cs_adv (l := [c]) h0 h
      rw [bareGo_2, ch_at h0 h, if_neg (one_ne _), ws_at, if_neg (by rw [hne.2]; simp), sB, one_inj, if_neg (by simpa using hne.1.1), step_at h0 h]
      rw [bare_at cs n _ _ rest hn (adv_pos h0) h2, LexSt.adv_adv, ht]
      simp; rfl
end Mine
end
section
open PySem PySem.Calls PyProof.Rows
set_option maxRecDepth 100000
namespace Mine
theorem wrStep_at (b : Bool) (t : Str) (c : Nat) : (wrStep b t c).cps.toList = t.cps.toList ++ enc b c := by
  unfold wrStep enc
  by_cases h : wrTest b c = true
  · rw [if_pos h, if_pos h, sB]
    show (t.cps ++ #[92] ++ #[c]).toList = _
    simp
  · rw [if_neg h, if_neg h]
    show (t.cps ++ #[c]).toList = _
    simp
theorem wrFold_at (b : Bool) : ∀ (cs : List Nat) (t : Str), (cs.foldl (wrStep b) t).cps.toList = t.cps.toList ++ cs.flatMap (enc b)
  | [], t => by simp
  | c :: cs, t => by rw [List.foldl_cons, wrFold_at b cs, wrStep_at, List.flatMap_cons, List.append_assoc]
noncomputable def isBare (r : Int) : Bool := r / 3 % 2 == 1
noncomputable def wch (r : Int) : List Nat := if isBare r = true then (octets r).cps.toList.flatMap (enc true) ++ [10] else 34 :: (octets r).cps.toList.flatMap (enc false) ++ [34]
theorem written_at (r : Int) : (written r).cps.toList = wch r := by
  unfold written wch isBare wrBody
  have he : Str.empty.cps.toList = [] := rfl
  split
  · show ((((octets r).cps.toList.foldl (wrStep true) Str.empty)).cps ++ (Str.ofString "\n").cps).toList = _
    rw [Array.toList_append, wrFold_at, he, sNl]; (rfl)
  · show ((Str.ofString "\"").cps ++ ((octets r).cps.toList.foldl (wrStep false) Str.empty).cps ++ (Str.ofString "\"").cps).toList = _
    rw [Array.toList_append, Array.toList_append, wrFold_at, he, sQ]; (rfl)
theorem oct_ne (r : Int) : (octets r).cps.toList ≠ [] := by unfold octets; split <;> simp
theorem strBack (x : Str) : (⟨x.cps.toList.toArray⟩ : Str) = x := by apply Str.ext'; simp
theorem tok_at {st : LexSt} {r : Int} {rest : List Nat} (F n : Nat) (hF : 2 < F) (h0 : 0 ≤ st.place) (h : st.cs = wch r ++ rest) : tokGo F (n + 1) st = (octets r, st.adv (wch r)) := by
  have hl := octets_len r
  unfold wch at h ⊢
  by_cases hb : isBare r = true
  · rw [if_pos hb] at h ⊢
    cases hcs : (octets r).cps.toList with
    | nil => exact absurd hcs (oct_ne r)
    | cons c cs =>
      have hoct : octets r = ⟨(c :: cs).toArray⟩ := by rw [← strBack (octets r), hcs]
      rw [hcs] at h hl
      rw [List.flatMap_cons] at h ⊢
      have hlc : cs.length < F := by simp at hl; omega
      have hw := wr_at true c
      have ht : Str.empty ++ (⟨#[c]⟩ : Str) ++ ⟨cs.toArray⟩ = ⟨(c :: cs).toArray⟩ := by
        rw [Str.empty_append]
        apply Str.ext'
        show #[c] ++ cs.toArray = (c :: cs).toArray
        apply Array.ext'; simp
      unfold enc at h ⊢
      by_cases hc : wrTest true c = true
      · rw [if_pos hc] at h ⊢
        have h : st.cs = 92 :: c :: (cs.flatMap (enc true) ++ 10 :: rest) := by rw [h]; simp; rfl
        have h1 : (st.adv [92]).cs = c :: (cs.flatMap (enc true) ++ 10 :: rest) := LexSt.cs_adv h0 h
        have h2 : (st.adv [92, c]).cs = cs.flatMap (enc true) ++ 10 :: rest := LexSt.cs_adv (l := [92, c]) h0 h
        rw [tokGo_2, ch_at h0 h, if_neg (one_ne _), ws_at, if_neg (by decide), sQ, one_inj, if_neg (by decide), sB, one_inj, if_pos (by decide), step_at h0 h, ch_at (adv_pos h0) h1, step_at (adv_pos h0) h1, LexSt.adv_adv]
        rw [show [92] ++ [c] = [92, c] from rfl, bare_at cs F _ _ rest hlc (adv_pos h0) h2, LexSt.adv_adv, ht, hoct]
        simp; rfl
      · have hc' : wrTest true c = false := by simpa using hc
        rw [if_neg hc] at h ⊢
        rw [hc'] at hw
        have hne : (c ≠ 92 ∧ c ≠ 34) ∧ isWs c = false := by
          simp at hw; exact hw
        have h : st.cs = c :: (cs.flatMap (enc true) ++ 10 :: rest) := by rw [h]; simp; rfl
        have h2 : (st.adv [c]).cs = cs.flatMap (enc true) ++ 10 :: rest := LexSt.cs_adv (l := [c]) h0 h
        rw [tokGo_2, ch_at h0 h, if_neg (one_ne _), ws_at, if_neg (by rw [hne.2]; simp), sQ, one_inj, if_neg (by simpa using hne.1.2), sB, one_inj, if_neg (by simpa using hne.1.1), step_at h0 h]
        rw [bare_at cs F _ _ rest hlc (adv_pos h0) h2, LexSt.adv_adv, ht, hoct]
        simp; rfl
  · rw [if_neg hb] at h ⊢
    have h : st.cs = 34 :: ((octets r).cps.toList.flatMap (enc false) ++ 34 :: rest) := by rw [h]; simp
    have h1 : (st.adv [34]).cs = (octets r).cps.toList.flatMap (enc false) ++ 34 :: rest := LexSt.cs_adv h0 h
    rw [tokGo_2, ch_at h0 h, if_neg (one_ne _), ws_at, if_neg (by decide), sQ, one_inj, if_pos (by decide), step_at h0 h]
    rw [quo_at _ F _ _ rest (by (exact Nat.lt_of_le_of_lt (by assumption) (by assumption))) (adv_pos h0) h1, LexSt.adv_adv, Str.empty_append, strBack]
    (rfl)
theorem getTok_at {st : LexSt} {r : Int} {rest : List Nat} (hp : st.push = []) (h0 : 0 ≤ st.place) (h : st.cs = wch r ++ rest) (hl : 0 < st.text.length) : getTok st = (octets r, st.adv (wch r)) := by
  unfold getTok
  rw [hp]
  exact tok_at _ _ (by omega) h0 h
noncomputable def textC (rows : List Int) : List Nat := rows.flatMap wch
theorem join_at : ∀ ts : List Str, (Txt.join (Str.ofString "") ts).cps.toList = ts.flatMap fun t => t.cps.toList := by
  intro ts
  have hf : ∀ (l : List Str) (acc : Array Nat), (l.foldl (fun acc p => acc ++ (Str.ofString "").cps ++ p.cps) acc).toList = acc.toList ++ l.flatMap fun t => t.cps.toList := by
    intro l
    induction l with
    | nil => intro acc; simp
    | cons t l ih =>
      intro acc
      rw [List.foldl_cons, ih, List.flatMap_cons]
      have : (Str.ofString "").cps = #[] := by decide +kernel
      rw [this]; simp
  show ((ts.drop 1).foldl _ (ts.headD Str.empty).cps).toList = _
  rw [hf]
  cases ts with
  | nil => rfl
  | cons t l => (rfl)
theorem text1_at (rows : List Int) : (text1 rows).cps.toList = textC rows := by
  unfold text1 textC
  rw [join_at, List.flatMap_map]
  congr 1
  funext r
  exact written_at r
theorem wch_ne (r : Int) : 0 < (wch r).length := by unfold wch; split <;> simp
theorem wch_len (r : Int) : (wch r).length ≤ 6 := by
  rw [← written_at]; exact written_len r
theorem toks_at (rows : List Int) : ∀ (j : Nat), j ≤ rows.length → tokN ⟨text1 rows, 0, [], 1⟩ j = (⟨text1 rows, 0, [], 1⟩ : LexSt).adv (textC (rows.take j)) ∧ ∀ r, rows[j]? = some r → getTok (tokN ⟨text1 rows, 0, [], 1⟩ j) = (octets r, (tokN ⟨text1 rows, 0, [], 1⟩ j).adv (wch r)) := by
  have tok : ∀ (j : Nat) (st : LexSt), st = (⟨text1 rows, 0, [], 1⟩ : LexSt).adv (textC (rows.take j)) → ∀ r, rows[j]? = some r → getTok st = (octets r, st.adv (wch r)) := by
    rintro j st rfl r hr
    have hsp : rows = rows.take j ++ r :: rows.drop (j + 1) := by
      have hj := (List.getElem?_eq_some_iff.mp hr)
      obtain ⟨hj, e⟩ := hj
      have := List.take_append_drop j rows
      rw [List.drop_eq_getElem_cons hj, e] at this
      exact this.symm
    have hcs : (⟨text1 rows, 0, [], 1⟩ : LexSt).cs = textC (rows.take j) ++ (wch r ++ textC (rows.drop (j + 1))) := by
      show (text1 rows).cps.toList.drop 0 = _
      rw [List.drop_zero, text1_at]
      conv => lhs; rw [hsp]
      simp [textC]
    refine getTok_at rfl (adv_pos (by show (0 : Int) ≤ 0; omega)) (LexSt.cs_adv (by show (0 : Int) ≤ 0; omega) hcs) ?_
    show 0 < (text1 rows).length
    have e : (text1 rows).length = (text1 rows).cps.toList.length := by rfl
    rw [e, text1_at]
    conv => rhs; rw [hsp]
    have := wch_ne r
    simp [textC]; omega
  intro j
  induction j with
  | zero => exact fun _ => ⟨by simp [tokN_1, tokN_2, textC, LexSt.adv_nil], tok 0 _ (by simp [tokN_1, tokN_2, textC, LexSt.adv_nil])⟩
  | succ j ih =>
    intro hj
    obtain ⟨h1, h2⟩ := ih (by (exact Nat.le_of_lt (by assumption)))
    have hr := List.getElem?_eq_getElem (show j < rows.length by (assumption))
    have e : tokN ⟨text1 rows, 0, [], 1⟩ (j + 1) = (⟨text1 rows, 0, [], 1⟩ : LexSt).adv (textC (rows.take (j + 1))) := by
      show (getTok (tokN ⟨text1 rows, 0, [], 1⟩ j)).2 = _
      rw [h2 _ hr]
      show (tokN ⟨text1 rows, 0, [], 1⟩ j).adv _ = _
      rw [h1, LexSt.adv_adv]
      congr 1
      rw [List.take_add_one, hr]
      unfold textC
      rw [List.flatMap_append]
      congr 1
      show wch _ = [rows[j]].flatMap wch
      simp
    exact ⟨e, tok (j + 1) _ e⟩
theorem textC_len : ∀ rows : List Int, (textC rows).length ≤ 6 * rows.length
  | [] => Nat.le_refl _
  | r :: rows => by
    have h1 := textC_len rows
    have h2 := wch_len r
    simp only [textC, List.flatMap_cons, List.length_append, List.length_cons] at h1 ⊢
    lia
theorem lex_ok (rows : List Int) (h : rows.length ≤ 100) : LexOk (text1 rows) (rows.map octets) where
  fine := fun j hj => by
    rw [List.length_map] at hj
    rw [(toks_at rows j (by (exact Nat.le_of_lt (by assumption)))).1]
    refine ⟨adv_pos (by show (0 : Int) ≤ 0; (exact Int.ofNat_nonneg _)), ?_, Nat.zero_le _⟩
    show (text1 rows).length ≤ 1000
    have e : (text1 rows).length = (text1 rows).cps.toList.length := by rfl
    rw [e, text1_at]
    have := textC_len rows
    lia
  tok := fun j w hw => by
    rw [List.getElem?_map] at hw
    obtain ⟨r, hr, rfl⟩ := Option.map_eq_some_iff.mp hw
    have hj := (List.getElem?_eq_some_iff.mp hr).1
    rw [(toks_at rows j (by (exact Nat.le_of_lt (by assumption)))).2 r hr]
  line := by
    rw [List.length_map, (toks_at rows rows.length (Nat.le_refl _)).1, List.take_length]
    show 1 + cnt 10 (textC rows) = _
    rw [sNl, count_cnt, text1_at]
end Mine
end
section
open PySem PySem.Calls PyProof.Rows
set_option maxRecDepth 100000
namespace Mine
theorem len_cps (x : Str) : x.length = x.cps.toList.length := by rfl
theorem fin2 {ns : List Int} (h5 : ns.length = 5) : ∃ p ln, tokN ⟨text1 ns, 0, [], 1⟩ 5 = ⟨text1 ns, p, [], ln⟩ ∧ 0 ≤ p ∧ ((text1 ns).length : Int) ≤ p ∧ (text1 ns).length ≤ 1000 := by
  have e := (toks_at ns 5 (Nat.le_of_eq h5.symm)).1
  rw [List.take_of_length_le (Nat.le_of_eq h5)] at e
  have hl : (text1 ns).length = (textC ns).length := by rw [len_cps, text1_at]
  have h1 := textC_len ns
  rw [h5] at h1
  refine ⟨_, _, e, ?_, ?_, ?_⟩
  · show 0 ≤ (0 : Int) + ((textC ns).length : Int)
    omega
  · show ((text1 ns).length : Int) ≤ (0 : Int) + ((textC ns).length : Int)
    omega
  · omega
theorem and_high (k : Int) : ∀ (j : Nat) (b : Int), 0 ≤ b → b < 2 ^ j → Builtin.bitAnd (k * 2 ^ j) b = 0
  | 0, b, h0, h1 => by
    have : b = 0 := by have h1 : b < 1 := h1; omega
    rw [this, bitAnd_zero]
  | j + 1, b, h0, h1 => by
    have e : k * 2 ^ (j + 1) = 2 * (k * 2 ^ j) := by rw [Int.pow_succ, Int.mul_comm (2 ^ j) 2, ← Int.mul_assoc, Int.mul_comm k 2, Int.mul_assoc]
    rw [Int.pow_succ] at h1
    rw [W.kbt_halves, e, if_neg (by omega), show 2 * (k * 2 ^ j) / 2 = k * 2 ^ j by omega, and_high k j (b / 2) (by omega) (by omega)]
    rfl
theorem bitOr_high {k b : Int} (h0 : 0 ≤ b) (h1 : b < 64) : Builtin.bitOr (k * 2 ^ 6) b = k * 64 + b := by
  rw [bitOr_and, and_high k 6 b h0 h1]
  omega
theorem bit64 {b : Int} : Builtin.bitAnd b 64 = (b / 64 % 2) * 64 := W.kbt_bit b 6
theorem var4096 {r : Int} (h0 : 0 ≤ r) (h1 : r < 4096) : varN (octets r) = some r := by
  have hend : ∀ b v : Int, 0 ≤ b → b < 64 → vGo [] b v = some v := fun b v a0 a1 => by
    rw [vGo_eq, if_neg]
    rw [bit64, show b / 64 = 0 by omega]
    decide
  unfold varN octets
  split
  · show vGo [] ((r.toNat : Nat) : Int) (Builtin.bitAnd ((r.toNat : Nat) : Int) 63) = _
    rw [Int.toNat_of_nonneg h0, hend _ _ h0 (by assumption), bitAnd_m6, Int.emod_eq_of_lt h0 (by assumption)]
  · show vGo [(((r % 64).toNat : Nat) : Int)] (((64 + r / 64 % 64).toNat : Nat) : Int) (Builtin.bitAnd (((64 + r / 64 % 64).toNat : Nat) : Int) 63) = _
    have a0 : 0 ≤ r / 64 := by omega
    have a1 : r / 64 < 64 := by omega
    rw [Int.toNat_of_nonneg (show 0 ≤ r % 64 by omega), Int.toNat_of_nonneg (show 0 ≤ 64 + r / 64 % 64 by omega), Int.emod_eq_of_lt a0 a1]
    rw [vGo_eq, if_pos, bitAnd_m6]
    · dsimp only
      rw [if_pos (by omega), hend _ _ (by omega) (by omega), bitAnd_m6, bitOr_high (by omega) (by omega)]
      congr 1
      omega
    · rw [bit64, show (64 + r / 64) / 64 % 2 = 1 by omega]
      decide
theorem ok4096 {r : Int} (h0 : 0 ≤ r) (h1 : r < 4096) : PyData.strOk (octets r) = true ∧ (octets r != Str.ofString "") = true := by
  have hn : (Str.ofString "") = Str.empty := by decide +kernel
  unfold octets
  split
  · refine ⟨?_, ?_⟩
    · show (#[r.toNat] : Array Nat).all (· < 0x110000) = true
      simp; omega
    · rw [hn]; exact bne_iff_ne.mpr (one_ne _)
  · refine ⟨?_, ?_⟩
    · show (#[(64 + r / 64 % 64).toNat, (r % 64).toNat] : Array Nat).all (· < 0x110000) = true
      simp; omega
    · rw [hn]
      refine bne_iff_ne.mpr fun e => ?_
      have e2 := congrArg (fun s : Str => s.cps.toList.length) e
      have e3 : (2 : Nat) = 0 := e2
      cases e3
end Mine
end
section
open PySem PySem.Calls PyProof.Rows
set_option maxRecDepth 100000
namespace Mine
noncomputable def sumP : List Nat → Int
  | [] => 0
  | t :: l => 2 ^ t + sumP l
theorem sumP_app (l m : List Nat) : sumP (l ++ m) = sumP l + sumP m := by
  induction l with
  | nil => exact (Int.zero_add _).symm
  | cons t l ih => show 2 ^ t + sumP (l ++ m) = 2 ^ t + sumP l + sumP m; rw [ih, Int.add_assoc]
theorem sumP_mul (i : Nat) : ∀ l : List Nat, (∀ t ∈ l, i ≤ t) → ∃ q : Int, sumP l = 2 ^ i * q
  | [], _ => ⟨0, (Int.mul_zero _).symm⟩
  | t :: l, h => by
    obtain ⟨q, e⟩ := sumP_mul i l fun t ht => h t (.tail _ ht)
    have ht := h t (.head _)
    refine ⟨2 ^ (t - i) + q, ?_⟩
    show 2 ^ t + sumP l = _
    rw [e, Int.mul_add, ← Int.pow_add, Nat.add_sub_of_le ht]
theorem sumP_pos : ∀ l : List Nat, l ≠ [] → 0 < sumP l
  | [], h => absurd rfl h
  | [t], _ => by show 0 < 2 ^ t + (0 : Int); rw [Int.add_zero]; exact W.kbt_pos t
  | t :: u :: l, _ => Int.add_pos (W.kbt_pos t) (sumP_pos (u :: l) (List.cons_ne_nil _ _))
noncomputable def nmI (i : Nat) : Str := nameOf (2 ^ i)
theorem bit_even {i : Nat} {q : Int} : Builtin.bitAnd (2 ^ (i + 1) * q) (2 ^ i) = 0 := by
  rw [W.kbt_bit, Int.pow_succ, Int.mul_assoc, Int.mul_ediv_cancel_left _ (Int.ne_of_gt (W.kbt_pos i)), Int.mul_emod_right, Int.zero_mul]
theorem bit_odd {i : Nat} {q : Int} : Builtin.bitAnd (2 ^ i + 2 ^ (i + 1) * q) (2 ^ i) = 2 ^ i := by
  have e : (2 : Int) ^ i + 2 ^ (i + 1) * q = 2 ^ i * (1 + 2 * q) := by rw [Int.pow_succ, Int.mul_assoc, Int.mul_add, Int.mul_one]
  rw [W.kbt_bit, e, Int.mul_ediv_cancel_left _ (Int.ne_of_gt (W.kbt_pos i)), show (1 + 2 * q) % 2 = 1 by omega, Int.one_mul]
theorem pf_sum : ∀ (m i : Nat) (ns : List Str) (l : List Nat), l ≠ [] → (∀ t ∈ l, i ≤ t ∧ t < i + m) → l.Pairwise (· < ·) → pfGo m i (sumP l) ns = some (ns ++ l.map nmI)
  | _, _, _, [], h, _, _ => absurd rfl h
  | 0, i, ns, t :: l, _, h, _ => by obtain ⟨h1, h2⟩ := h t (.head _); exact absurd h2 (Nat.not_lt.mpr h1)
  | m + 1, i, ns, t :: l, _, h, hp => by
    obtain ⟨hp1, hp2⟩ := List.pairwise_cons.mp hp
    obtain ⟨h1, h2⟩ := h t (.head _)
    rw [pfGo_2]
    by_cases e : t = i
    · subst e
      obtain ⟨q, eq⟩ := sumP_mul (t + 1) l fun u hu => hp1 u hu
      have es : sumP (t :: l) = 2 ^ t + 2 ^ (t + 1) * q := by rw [← eq]; rfl
      rw [es, bitXor_and, bit_odd, if_pos (bne_iff_ne.mpr (Int.ne_of_gt (W.kbt_pos t)))]
      have ex : (2 : Int) ^ t + 2 ^ (t + 1) * q + 2 ^ t - 2 * 2 ^ t = sumP l := by rw [eq]; generalize (2 : Int) ^ t = x; generalize (2 : Int) ^ (t + 1) * q = y; omega
      rw [ex]
      by_cases hl : l = []
      · subst hl; exact if_pos (show sumP [] = 0 from rfl)
      · rw [if_neg (Int.ne_of_gt (sumP_pos l hl)), pf_sum m (t + 1) _ l hl (fun u hu => ⟨hp1 u hu, Nat.lt_of_lt_of_eq (h u (.tail _ hu)).2 (by rw [Nat.add_assoc, Nat.add_comm 1 m])⟩) hp2, List.append_assoc]
        rfl
    · have hti : i + 1 ≤ t := Nat.lt_of_le_of_ne h1 (Ne.symm e)
      obtain ⟨q, eq⟩ := sumP_mul (i + 1) (t :: l) fun u hu => (List.mem_cons.mp hu).elim (fun e => e ▸ hti) fun hu => Nat.le_trans hti (Nat.le_of_lt (hp1 u hu))
      rw [eq, bit_even, if_neg (by decide), ← eq]
      exact pf_sum m (i + 1) ns (t :: l) (List.cons_ne_nil _ _) (fun u hu => ⟨(List.mem_cons.mp hu).elim (fun e => e ▸ hti) fun hu => Nat.le_trans hti (Nat.le_of_lt (hp1 u hu)), Nat.lt_of_lt_of_eq (h u hu).2 (by rw [Nat.add_assoc, Nat.add_comm 1 m])⟩) hp
theorem word_nm : ∀ t : Nat, t < 23 → nmI t = wordAt t ∧ (wordAt t).length ≤ 20 := by decide +kernel
end Mine
end
section
open PySem PySem.Calls PyProof.Rows
set_option maxRecDepth 100000
namespace Mine
noncomputable def sgn (b : Bool) : Nat := cond b 40 41
noncomputable def bst (B : List Bool) : List Nat := B.map sgn
noncomputable def balN : List Bool → Nat → Bool
  | [], k => k == 0
  | b :: r, k => cond b (balN r (k + 1)) (k != 0 && balN r (k - 1))
theorem balN_0 (k : Nat) : balN [] k = (k == 0) := rfl
theorem balN_1 (b : Bool) (r : List Bool) (k : Nat) : balN (b :: r) k = cond b (balN r (k + 1)) (k != 0 && balN r (k - 1)) := rfl
theorem sO : Str.ofString "(" = ⟨#[40]⟩ := by decide +kernel
theorem chkGo_c (p : Int) (ch : Str) (r : List IV) (k : Int) : chkGo (.two (.int p) (.str ch) :: r) k = if (ch == Str.ofString "(") = true then chkGo r (k + 1) else if (ch == Str.ofString ")") = true then if k - 1 < 0 then false else chkGo r (k - 1) else chkGo r k := rfl
theorem chk_bst : ∀ (B : List Bool) (i k : Nat), chkGo (escIV (bst B) i false) (k : Int) = balN B k
  | [], i, k => by
    show ((k : Int) == 0) = (k == 0)
    cases k <;> rfl
  | b :: B, i, k => by
    have e1 : escIV (bst (b :: B)) i false = .two (.int (i : Int)) (.str ⟨#[sgn b]⟩) :: escIV (bst B) (i + 1) false := by
      show escIV (sgn b :: bst B) i false = _
      rw [escIV_4, if_neg (by cases b <;> decide)]
    rw [e1, chkGo_c, sO, PyProof.Rows.tuple_end_more, one_inj, one_inj, balN_1]
    cases b with
    | true => exact (if_pos rfl).trans (chk_bst B _ (k + 1))
    | false =>
      rw [if_neg (by decide), if_pos (by decide)]
      cases k with
      | zero => rfl
      | succ k =>
        rw [if_neg (by omega), show ((k + 1 : Nat) : Int) - 1 = (k : Int) by omega]
        exact chk_bst B _ k
theorem bst_mem {B : List Bool} {c : Nat} (h : c ∈ bst B) : c = 40 ∨ c = 41 := by
  obtain ⟨b, _, rfl⟩ := List.mem_map.mp h
  cases b
  · exact .inr rfl
  · exact .inl rfl
theorem strip_plain {y : Str} {B : List Bool} (h : y.cps.toList = bst B) : stripO y = y := by
  unfold stripO
  rw [sQ, cont1, h, if_neg]
  intro h1
  rcases bst_mem (of_decide_eq_true h1) with h2 | h2 <;> cases h2
theorem chk_plain {y : Str} {B : List Bool} (h : y.cps.toList = bst B) : chkO y = balN B 0 := by
  unfold chkO
  rw [strip_plain h, h]
  exact chk_bst B 0 0
theorem slR_at (row : Str) {i j : Nat} (h : i < j) (hj : j ≤ row.length) : (slR row i j).cps.toList = (row.cps.toList.drop (i + 1)).take (j - (i + 1)) := by
  have := StrLaws.sliceText_nat row (a := i + 1) (b := j) h hj
  have e : slR row i j = ⟨((row.cps.toList.drop (i + 1)).take (j - (i + 1))).toArray⟩ := by
    refine Eq.trans ?_ this
    rfl
  rw [e]
theorem sl_bst {row : Str} {B : List Bool} (hr : row.cps.toList = bst B) {i j : Nat} (h : i < j) (hj : j ≤ row.length) : (slR row i j).cps.toList = bst ((B.drop (i + 1)).take (j - (i + 1))) := by
  rw [slR_at row h hj, hr]
  unfold bst
  rw [List.map_take, List.map_drop]
theorem row_len {row : Str} {B : List Bool} (hr : row.cps.toList = bst B) : row.length = B.length := by
  rw [len_cps, hr]; exact List.length_map _
theorem ascii_plain {y : Str} {B : List Bool} (h : y.cps.toList = bst B) : y.cps.all (· < 128) = true := by
  rw [Array.all_eq_true']
  intro c hc
  have hc : c ∈ y.cps.toList := by simpa using hc
  rw [h] at hc
  rcases bst_mem hc with rfl | rfl <;> rfl
theorem rowOk_plain {row : Str} {B : List Bool} (hr : row.cps.toList = bst B) (hl : B.length ≤ 100) : RowOk row where
  len := by rw [row_len hr]; exact hl
  seg := fun i j hij hj => by
    have h1 := sl_bst hr hij (Nat.le_of_lt hj)
    have h2 : (slR row i j).length ≤ 1000 := by
      rw [row_len h1, List.length_take, List.length_drop]
      omega
    rw [strip_plain h1]
    exact ⟨h2, ascii_plain h1, h2, ascii_plain h1⟩
noncomputable def clsI : List Bool → Nat → Option Nat
  | [], _ => none
  | b :: r, d => cond b ((clsI r (d + 1)).map (· + 1)) (if d = 0 then some 0 else (clsI r (d - 1)).map (· + 1))
theorem clsI_1 (b : Bool) (r : List Bool) (d : Nat) : clsI (b :: r) d = cond b ((clsI r (d + 1)).map (· + 1)) (if d = 0 then some 0 else (clsI r (d - 1)).map (· + 1)) := rfl
theorem map_succ {o : Option Nat} {x : Nat} : o.map (· + 1) = some (x + 1) ↔ o = some x := by
  cases o with
  | none => exact ⟨fun h => (nomatch h), fun h => (nomatch h)⟩
  | some y => exact ⟨fun h => by rw [Nat.succ.inj (Option.some.inj h)], fun h => by rw [Option.some.inj h]; rfl⟩
theorem map_succ0 {o : Option Nat} : ¬ o.map (· + 1) = some 0 := by
  cases o with
  | none => exact fun h => (nomatch h)
  | some y => exact fun h => (nomatch h)
theorem clsI_iff : ∀ (s : List Bool) (d x : Nat), clsI s d = some x ↔ s[x]? = some false ∧ balN (s.take x) d = true
  | [], d, x => ⟨fun h => (nomatch h), fun h => by have h1 := h.1; rw [List.getElem?_nil] at h1; exact (nomatch h1)⟩
  | true :: r, d, 0 => ⟨fun h => absurd h map_succ0, fun h => (nomatch h.1)⟩
  | true :: r, d, x + 1 => by
    rw [clsI_1, List.getElem?_cons_succ, List.take_succ_cons, balN_1]
    exact map_succ.trans (clsI_iff r (d + 1) x)
  | false :: r, 0, 0 => ⟨fun _ => ⟨rfl, rfl⟩, fun _ => rfl⟩
  | false :: r, 0, x + 1 => ⟨fun h => (nomatch h), fun h => (nomatch h.2)⟩
  | false :: r, d + 1, 0 => ⟨fun h => absurd h map_succ0, fun h => (nomatch h.2)⟩
  | false :: r, d + 1, x + 1 => by
    rw [clsI_1, List.getElem?_cons_succ, List.take_succ_cons, balN_1]
    exact map_succ.trans (clsI_iff r d x)
theorem clsI_odd : ∀ (s : List Bool) (d x : Nat), clsI s d = some x → ∃ k, x = d + 2 * k
  | [], d, x, h => nomatch h
  | true :: r, d, 0, h => absurd h map_succ0
  | true :: r, d, x + 1, h => by
    obtain ⟨k, e⟩ := clsI_odd r (d + 1) x (map_succ.mp h)
    exact ⟨k + 1, by omega⟩
  | false :: r, 0, x, h => ⟨0, (Option.some.inj h).symm⟩
  | false :: r, d + 1, 0, h => absurd h map_succ0
  | false :: r, d + 1, x + 1, h => by
    obtain ⟨k, e⟩ := clsI_odd r d x (map_succ.mp h)
    exact ⟨k, by omega⟩
section
variable {row : Str} {B : List Bool} (hr : row.cps.toList = bst B)
include hr
theorem sg_at {i : Nat} {b : Bool} (h : B[i]? = some b) : sgAt row i = ⟨#[sgn b]⟩ := by
  unfold sgAt bst at *
  rw [hr, List.getD_eq_getElem?_getD, List.getElem?_map, h]
  rfl
theorem hit_iff {i j : Nat} (h : i < j) (hj : j < B.length) : prHit row i j = true ↔ clsI (B.drop (i + 1)) 0 = some (j - (i + 1)) := by
  rw [clsI_iff, List.getElem?_drop, Nat.add_sub_of_le h, List.getElem?_eq_getElem hj]
  unfold prHit
  rw [sg_at hr (List.getElem?_eq_getElem hj), PyProof.Rows.tuple_end_more, one_inj, chk_plain (sl_bst hr h (Nat.le_of_lt (Nat.lt_of_lt_of_eq hj (row_len hr).symm)))]
  generalize B[j] = b
  generalize balN _ 0 = c
  cases b <;> cases c <;> decide
theorem prIn_at {i k0 : Nat} (hc : clsI (B.drop (i + 1)) 0 = some (2 * k0)) (acc : List (Int × Int)) : ∀ k, i + 1 + 2 * k ≤ B.length + 1 → prIn row i acc k = if k0 < k then acc ++ [((i : Int), ((i + 1 + 2 * k0 : Nat) : Int))] else acc
  | 0, _ => rfl
  | k + 1, h => by
    show (if prHit row i (i + 1 + 2 * k) = true then prIn row i acc k ++ _ else prIn row i acc k) = _
    rw [prIn_at hc acc k (by omega)]
    have hi := hit_iff hr (i := i) (j := i + 1 + 2 * k) (by omega) (by omega)
    rw [hc, Nat.add_sub_cancel_left] at hi
    by_cases e : k0 = k
    · subst e
      rw [if_pos (hi.mpr rfl), if_neg (Nat.lt_irrefl _), if_pos (Nat.lt_succ_self _)]
    · rw [if_neg fun h => e (by have := Option.some.inj (hi.mp h); omega)]
      by_cases h2 : k0 < k
      · rw [if_pos h2, if_pos (Nat.lt_succ_of_lt h2)]
      · rw [if_neg h2, if_neg (by omega)]
theorem prIn_all {i x : Nat} (hc : clsI (B.drop (i + 1)) 0 = some x) (acc : List (Int × Int)) : prIn row i acc (prN row i) = acc ++ [((i : Int), ((i + 1 + x : Nat) : Int))] := by
  obtain ⟨k0, e⟩ := clsI_odd _ _ _ hc
  rw [Nat.zero_add] at e
  subst e
  have h1 := ((clsI_iff _ _ _).mp hc).1
  rw [List.getElem?_drop] at h1
  obtain ⟨h2, _⟩ := List.getElem?_eq_some_iff.mp h1
  have hl := row_len hr
  have hn : prN row i = (B.length - i) / 2 := by unfold prN; omega
  rw [hn, prIn_at hr hc acc _ (by omega), if_pos (by omega)]
end
noncomputable def clsV (z : List (Bool × Int)) (d : Nat) : Option Int := (clsI (z.map (·.1)) d).map fun x => (z.map (·.2)).getD x 0
theorem clsV_o {h : Int} {r : List (Bool × Int)} {d : Nat} : clsV ((true, h) :: r) d = clsV r (d + 1) := by
  show ((clsI (r.map (·.1)) (d + 1)).map (· + 1)).map _ = _
  rw [Option.map_map]; rfl
theorem clsV_c0 {h : Int} {r : List (Bool × Int)} : clsV ((false, h) :: r) 0 = some h := rfl
theorem clsV_c {h : Int} {r : List (Bool × Int)} {d : Nat} : clsV ((false, h) :: r) (d + 1) = clsV r d := by
  show ((clsI (r.map (·.1)) d).map (· + 1)).map _ = _
  rw [Option.map_map]; rfl
inductive LastsR : List (Bool × Int) → List Int → Prop
  | nil : LastsR [] []
  | opn {h D : Int} {r : List (Bool × Int)} {ds : List Int} : clsV r 0 = some D → LastsR r ds → LastsR ((true, h) :: r) (D :: ds)
  | cls {h : Int} {r : List (Bool × Int)} {ds : List Int} : LastsR r ds → LastsR ((false, h) :: r) ds
theorem drop_past {α : Type} {p : List α} {a : α} {r : List α} : (p ++ a :: r).drop (p.length + 1) = r := by
  rw [← List.drop_drop, List.drop_left]; rfl
noncomputable def lastAt (whn : List Int) (p : Int × Int) : Int := whn.getD p.2.toNat 0
theorem lasts_from {row : Str} {whn : List Int} {z : List (Bool × Int)} (hr : row.cps.toList = bst (z.map (·.1))) (hw : whn = z.map (·.2)) : ∀ {zs : List (Bool × Int)} {ds : List Int}, LastsR zs ds → ∀ p, z = p ++ zs → (prRun row row.length).map (lastAt whn) = (prRun row p.length).map (lastAt whn) ++ ds := by
  have hl : row.length = z.length := (row_len hr).trans (List.length_map _)
  intro zs ds h
  induction h with
  | nil => intro p e; rw [hl, e, List.append_nil, List.append_nil]
  | @opn h D r ds h1 _ ih =>
    intro p e
    rw [ih (p ++ [(true, h)]) (by rw [e, List.append_assoc]; rfl), List.length_append]
    have hd : (z.map (·.1)).drop (p.length + 1) = r.map (·.1) ∧ (z.map (·.2)).drop (p.length + 1) = r.map (·.2) ∧ (z.map (·.1))[p.length]? = some true := by
      subst e
      refine ⟨?_, ?_, ?_⟩
      · rw [← List.map_drop, drop_past]
      · rw [← List.map_drop, drop_past]
      · rw [List.getElem?_map, List.getElem?_append_right (Nat.le_refl _), Nat.sub_self]; rfl
    obtain ⟨d1, d2, d3⟩ := hd
    obtain ⟨x, hx, hD⟩ := Option.map_eq_some_iff.mp h1
    have hp : prRun row (p.length + 1) = prRun row p.length ++ [((p.length : Int), ((p.length + 1 + x : Nat) : Int))] := by
      show (if (sgAt row p.length == Str.ofString "(") = true then _ else _) = _
      rw [sg_at hr d3, sO, one_inj, if_pos (by decide)]
      exact prIn_all hr (by rw [d1]; exact hx) _
    show (prRun row (p.length + 1)).map (lastAt whn) ++ ds = _
    rw [hp, List.map_append, List.append_assoc]
    congr 1
    show whn.getD (p.length + 1 + x) 0 :: ds = D :: ds
    rw [← hD, hw, ← d2, List.getD_eq_getElem?_getD, List.getD_eq_getElem?_getD, List.getElem?_drop]
  | @cls h r ds _ ih =>
    intro p e
    rw [ih (p ++ [(false, h)]) (by rw [e, List.append_assoc]; rfl), List.length_append]
    have d3 : (z.map (·.1))[p.length]? = some false := by
      subst e
      rw [List.getElem?_map, List.getElem?_append_right (Nat.le_refl _), Nat.sub_self]; rfl
    have hp : prRun row (p.length + 1) = prRun row p.length := by
      show (if (sgAt row p.length == Str.ofString "(") = true then _ else _) = _
      rw [sg_at hr d3, sO, one_inj]
      exact if_neg (by decide)
    show (prRun row (p.length + 1)).map (lastAt whn) ++ ds = _
    rw [hp]
theorem lasts_eq {row : Str} {whn : List Int} {z : List (Bool × Int)} {ds : List Int} (hr : row.cps.toList = bst (z.map (·.1))) (hw : whn = z.map (·.2)) (h : LastsR z ds) : lastsOf row whn = ds := (lasts_from hr hw h [] rfl).trans (List.nil_append _)
end Mine
end
section
open PySem PySem.Calls PyProof.Rows
set_option maxRecDepth 100000
namespace Mine
inductive Run : Int → List Int → List (Int × Int) → List (Bool × Int) → Prop
  | done {h : Int} : Run h [] [] []
  | come {h w : Int} {pile : List Int} {jobs : List (Int × Int)} {z : List (Bool × Int)} : Run h (w :: pile) jobs z → Run h pile ((h, w) :: jobs) ((true, h) :: z)
  | idle {h : Int} {jobs : List (Int × Int)} {z : List (Bool × Int)} : (∀ j ∈ jobs, h < j.1) → Run (h + 1) [] jobs z → Run h [] jobs z
  | work {h x : Int} {pile : List Int} {jobs : List (Int × Int)} {z : List (Bool × Int)} : (∀ j ∈ jobs, h < j.1) → 2 ≤ x → Run (h + 1) ((x - 1) :: pile) jobs z → Run h (x :: pile) jobs z
  | fin {h : Int} {pile : List Int} {jobs : List (Int × Int)} {z : List (Bool × Int)} : (∀ j ∈ jobs, h < j.1) → Run (h + 1) pile jobs z → Run h (1 :: pile) jobs ((false, h + 1) :: z)
noncomputable def wkB : List (Int × Int) → Int → Int
  | [], _ => 0
  | j :: r, t => (if j.1 < t then j.2 else 0) + wkB r t
noncomputable def cntB : List (Int × Int) → Int → Nat
  | [], _ => 0
  | j :: r, t => (if j.1 < t then 1 else 0) + cntB r t
theorem wkB_1 (j : Int × Int) (r : List (Int × Int)) (t : Int) : wkB (j :: r) t = (if j.1 < t then j.2 else 0) + wkB r t := rfl
theorem wkB_pos : ∀ (l : List (Int × Int)) (t : Int), (∀ j ∈ l, 1 ≤ j.2) → 0 ≤ wkB l t
  | [], _, _ => Int.le_refl _
  | j :: r, t, h => by
    have h1 := wkB_pos r t fun i hi => h i (.tail _ hi)
    have h2 := h j (.head _)
    rw [wkB_1]
    split <;> omega
theorem wkB_0 : ∀ (l : List (Int × Int)) (h : Int), (∀ j ∈ l, h < j.1) → wkB l (h + 1) = 0
  | [], _, _ => rfl
  | j :: r, h, hj => by
    have h2 := hj j (.head _)
    rw [wkB_1, if_neg (by omega), wkB_0 r h fun i hi => hj i (.tail _ hi)]
    rfl
theorem wkB_mono {u v : Int} (huv : u ≤ v) : ∀ (l : List (Int × Int)), (∀ j ∈ l, 1 ≤ j.2) → wkB l u ≤ wkB l v ∧ cntB l u ≤ cntB l v ∧ (wkB l u < wkB l v → cntB l u < cntB l v) ∧ cntB l v ≤ l.length
  | [], _ => ⟨Int.le_refl _, Nat.le_refl _, fun h => absurd h (Int.lt_irrefl _), Nat.le_refl _⟩
  | j :: r, h => by
    obtain ⟨h1, h2, h3, h4⟩ := wkB_mono huv r fun i hi => h i (.tail _ hi)
    have hj := h j (.head _)
    have e : ∀ t, cntB (j :: r) t = (if j.1 < t then 1 else 0) + cntB r t := fun _ => rfl
    rw [wkB_1, wkB_1, e, e, List.length_cons]
    by_cases a : j.1 < u
    · rw [if_pos a, if_pos (Int.lt_of_lt_of_le a huv), if_pos a, if_pos (Int.lt_of_lt_of_le a huv)]
      exact ⟨by omega, by omega, fun h => by have := h3 (by omega); omega, by omega⟩
    · rw [if_neg a, if_neg a]
      by_cases b : j.1 < v
      · rw [if_pos b, if_pos b]
        exact ⟨by omega, by omega, fun h => by omega, by omega⟩
      · rw [if_neg b, if_neg b]
        exact ⟨by omega, by omega, fun h => by have := h3 (by omega); omega, by omega⟩
structure Hit (b : Int) (jobs : List (Int × Int)) (h D : Int) : Prop where
  lt : h < D
  at' : b + wkB jobs D = D
  low : ∀ t, h < t → t < D → t < b + wkB jobs t
theorem take_pos : ∀ (pile : List Int) (p : Nat), (∀ x ∈ pile, 1 ≤ x) → 0 ≤ (pile.take p).sum ∧ (0 < p → p ≤ pile.length → 1 ≤ (pile.take p).sum)
  | [], p, _ => by rw [List.take_nil]; exact ⟨Int.le_refl _, fun h h2 => absurd (Nat.lt_of_lt_of_le h h2) (Nat.lt_irrefl 0)⟩
  | x :: pile, 0, _ => ⟨Int.le_refl _, fun h => absurd h (Nat.lt_irrefl 0)⟩
  | x :: pile, p + 1, h => by
    have h1 := (take_pos pile p fun y hy => h y (.tail _ hy)).1
    have h2 := h x (.head _)
    rw [List.take_succ_cons, List.sum_cons]
    exact ⟨by omega, fun _ _ => by omega⟩
structure JobsOk (h : Int) (jobs : List (Int × Int)) : Prop where
  lo : ∀ j ∈ jobs, h ≤ j.1
  wk : ∀ j ∈ jobs, 1 ≤ j.2
theorem JobsOk.tail {h : Int} {j : Int × Int} {jobs : List (Int × Int)} (k : JobsOk h (j :: jobs)) : JobsOk h jobs := ⟨fun i hi => k.lo i (.tail _ hi), fun i hi => k.wk i (.tail _ hi)⟩
theorem JobsOk.next {h : Int} {jobs : List (Int × Int)} (k : JobsOk h jobs) (hl : ∀ j ∈ jobs, h < j.1) : JobsOk (h + 1) jobs := ⟨hl, k.wk⟩
theorem run_cls {h : Int} {pile : List Int} {jobs : List (Int × Int)} {z : List (Bool × Int)} (R : Run h pile jobs z) : (∀ x ∈ pile, 1 ≤ x) → JobsOk h jobs → ∀ p, p < pile.length → ∃ D, clsV z p = some D ∧ Hit (h + (pile.take (p + 1)).sum) jobs h D := by
  induction R with
  | done => exact fun _ _ p hp => absurd hp (Nat.not_lt_zero _)
  | @come h w pile jobs z _ ih =>
    intro h1 h2 p hp
    have hw := h2.wk _ (.head _)
    obtain ⟨D, e, k1, k2, k3⟩ := ih (fun x hx => (List.mem_cons.mp hx).elim (fun e => e ▸ hw) (h1 x)) h2.tail (p + 1) (Nat.succ_lt_succ hp)
    rw [List.take_succ_cons, List.sum_cons] at k2 k3
    refine ⟨D, clsV_o.trans e, k1, ?_, fun t a b => ?_⟩
    · rw [wkB_1, if_pos k1]; omega
    · have := k3 t a b
      rw [wkB_1, if_pos a]; omega
  | idle _ _ _ => exact fun _ _ p hp => absurd hp (Nat.not_lt_zero _)
  | @work h x pile jobs z hl hx _ ih =>
    intro h1 h2 p hp
    obtain ⟨D, e, k1, k2, k3⟩ := ih (fun y hy => (List.mem_cons.mp hy).elim (fun e => by rw [e]; omega) fun hy => h1 y (.tail _ hy)) (h2.next hl) p hp
    rw [List.take_succ_cons, List.sum_cons] at k2 k3 ⊢
    have e2 : h + 1 + (x - 1 + (pile.take p).sum) = h + (x + (pile.take p).sum) := by omega
    rw [e2] at k2 k3
    refine ⟨D, e, by omega, k2, fun t a b => ?_⟩
    by_cases ht : h + 1 < t
    · exact k3 t ht b
    · have := (take_pos pile p fun y hy => h1 y (.tail _ hy)).1
      have := wkB_pos jobs t h2.wk
      omega
  | @fin h pile jobs z hl _ ih =>
    intro h1 h2 p hp
    cases p with
    | zero => exact ⟨h + 1, clsV_c0, by omega, by rw [wkB_0 jobs h hl, List.take_succ_cons, List.take_zero, List.sum_cons, List.sum_nil]; omega, fun t a b => by omega⟩
    | succ p =>
      have hp : p < pile.length := Nat.lt_of_succ_lt_succ hp
      have hx : ∀ y ∈ pile, 1 ≤ y := fun y hy => h1 y (.tail _ hy)
      obtain ⟨D, e, k1, k2, k3⟩ := ih hx (h2.next hl) p hp
      rw [List.take_succ_cons (i := p + 1), List.sum_cons]
      rw [show h + 1 + (pile.take (p + 1)).sum = h + (1 + (pile.take (p + 1)).sum) by omega] at k2 k3
      refine ⟨D, clsV_c.trans e, by omega, k2, fun t a b => ?_⟩
      by_cases ht : h + 1 < t
      · exact k3 t ht b
      · have := (take_pos pile (p + 1) hx).2 (Nat.succ_pos _) hp
        have := wkB_pos jobs t h2.wk
        omega
inductive Ends : List (Int × Int) → List Int → Prop
  | nil : Ends [] []
  | cons {c w D : Int} {jobs : List (Int × Int)} {ds : List Int} : Hit (c + w) jobs c D → Ends jobs ds → Ends ((c, w) :: jobs) (D :: ds)
theorem run_lasts {h : Int} {pile : List Int} {jobs : List (Int × Int)} {z : List (Bool × Int)} (R : Run h pile jobs z) : (∀ x ∈ pile, 1 ≤ x) → JobsOk h jobs → ∃ ds, LastsR z ds ∧ Ends jobs ds := by
  induction R with
  | done => exact fun _ _ => ⟨[], .nil, .nil⟩
  | @come h w pile jobs z R ih =>
    intro h1 h2
    have hw := h2.wk _ (.head _)
    have h3 : ∀ x ∈ w :: pile, 1 ≤ x := fun x hx => (List.mem_cons.mp hx).elim (fun e => e ▸ hw) (h1 x)
    obtain ⟨ds, a, b⟩ := ih h3 h2.tail
    obtain ⟨D, e, k⟩ := run_cls R h3 h2.tail 0 (Nat.succ_pos _)
    rw [List.take_succ_cons, List.sum_cons, List.take_zero, List.sum_nil, Int.add_zero] at k
    exact ⟨D :: ds, .opn e a, .cons k b⟩
  | idle hl _ ih => exact fun h1 h2 => ih h1 (h2.next hl)
  | @work h x pile jobs z hl hx _ ih => exact fun h1 h2 => ih (fun y hy => (List.mem_cons.mp hy).elim (fun e => by rw [e]; omega) fun hy => h1 y (.tail _ hy)) (h2.next hl)
  | fin hl _ ih =>
    intro h1 h2
    obtain ⟨ds, a, b⟩ := ih (fun y hy => h1 y (.tail _ hy)) (h2.next hl)
    exact ⟨ds, .cls a, b⟩
noncomputable def itL (c : Int) (l : List (Int × Int)) : Nat → Int
  | 0 => c + 1
  | m + 1 => c + wkB l (itL c l m)
theorem fix_at {c w D : Int} {jobs : List (Int × Int)} (k : Hit (c + w) jobs c D) (hw : ∀ j ∈ (c, w) :: jobs, 1 ≤ j.2) : ∀ m, c < itL c ((c, w) :: jobs) m ∧ itL c ((c, w) :: jobs) m ≤ D ∧ (itL c ((c, w) :: jobs) m = D ∨ m + 1 ≤ cntB ((c, w) :: jobs) (itL c ((c, w) :: jobs) m)) := by
  obtain ⟨k1, k2, k3⟩ := k
  have hf : ∀ t, c < t → c + wkB ((c, w) :: jobs) t = c + w + wkB jobs t := fun t ht => by rw [wkB_1, if_pos ht]; omega
  intro m
  induction m with
  | zero =>
    have h0 : itL c ((c, w) :: jobs) 0 = c + 1 := rfl
    rw [h0]
    refine ⟨by omega, by omega, .inr ?_⟩
    show 1 ≤ (if c < c + 1 then 1 else 0) + cntB jobs (c + 1)
    rw [if_pos (by omega)]
    omega
  | succ m ih =>
    have hs : itL c ((c, w) :: jobs) (m + 1) = c + wkB ((c, w) :: jobs) (itL c ((c, w) :: jobs) m) := rfl
    rw [hs]
    generalize itL c ((c, w) :: jobs) m = u at ih
    obtain ⟨i1, i2, i3⟩ := ih
    have hfu := hf u i1
    by_cases e : u = D
    · rw [e] at hfu ⊢
      rw [hfu, k2]
      exact ⟨k1, Int.le_refl _, .inl rfl⟩
    · have h1 := k3 u i1 (by omega)
      have h2 := (wkB_mono i2 jobs fun j hj => hw j (.tail _ hj)).1
      rw [hfu]
      refine ⟨by omega, by omega, ?_⟩
      by_cases e2 : c + w + wkB jobs u = D
      · exact .inl e2
      · refine .inr ?_
        have h3 := k3 (c + w + wkB jobs u) (by omega) (by omega)
        have h4 := hf (c + w + wkB jobs u) (by omega)
        have h5 := (wkB_mono (Int.le_of_lt h1) ((c, w) :: jobs) hw).2.2.1 (by omega)
        rcases i3 with i3 | i3
        · exact absurd i3 e
        · exact Nat.lt_of_le_of_lt i3 h5
theorem fix5 {c w D : Int} {jobs : List (Int × Int)} (k : Hit (c + w) jobs c D) (hw : ∀ j ∈ (c, w) :: jobs, 1 ≤ j.2) (hl : jobs.length ≤ 4) : itL c ((c, w) :: jobs) 5 = D := by
  obtain ⟨_, _, h | h⟩ := fix_at k hw 5
  · exact h
  · have := (wkB_mono (Int.le_refl (itL c ((c, w) :: jobs) 5)) ((c, w) :: jobs) hw).2.2.2
    rw [List.length_cons] at this
    omega
theorem sum_wkB (f g : Nat → Int) (v : Int) : ∀ l : List Nat, ((l.filter fun k => decide (f k < v)).map g).sum = wkB (l.map fun k => (f k, g k)) v
  | [] => rfl
  | k :: l => by
    rw [List.map_cons, wkB_1, ← sum_wkB f g v l, List.filter_cons]
    by_cases h : f k < v
    · rw [if_pos (decide_eq_true h), if_pos h, List.map_cons, List.sum_cons]
    · rw [if_neg (by rw [decide_eq_false h]; decide), if_neg h, Int.zero_add]
theorem lastR_it {co wk : List Int} {i : Nat} {l : List (Int × Int)} (hl : ((List.range (5 - i)).map fun k => (co.getD (i + k) 0, wk.getD (i + k) 0)) = l) : ∀ m, lastR co wk i m = itL (co.getD i 0) l m
  | 0 => rfl
  | m + 1 => by
    show lastSt co wk i (lastR co wk i m) = co.getD i 0 + wkB l (itL (co.getD i 0) l m)
    rw [← lastR_it hl m]
    unfold lastSt
    rw [sum_wkB (fun k => co.getD (i + k) 0) (fun k => wk.getD (i + k) 0), hl]
theorem due_one {co wk : List Int} {i : Nat} {c w D : Int} {jobs : List (Int × Int)} (hl : ((List.range (5 - i)).map fun k => (co.getD (i + k) 0, wk.getD (i + k) 0)) = (c, w) :: jobs) (hc : co.getD i 0 = c) (k : Hit (c + w) jobs c D) (hw : ∀ j ∈ (c, w) :: jobs, 1 ≤ j.2) (h4 : jobs.length ≤ 4) : lastR co wk i 5 = D := by
  rw [lastR_it hl 5, hc]
  exact fix5 k hw h4
theorem ends_due {c0 c1 c2 c3 c4 w0 w1 w2 w3 w4 : Int} {ds : List Int} (h : Ends [(c0, w0), (c1, w1), (c2, w2), (c3, w3), (c4, w4)] ds) (hw : ∀ j ∈ [(c0, w0), (c1, w1), (c2, w2), (c3, w3), (c4, w4)], 1 ≤ j.2) : ds = dueLs [c0, c1, c2, c3, c4] [w0, w1, w2, w3, w4] 5 := by
  obtain _ | ⟨k0, h⟩ := h
  obtain _ | ⟨k1, h⟩ := h
  obtain _ | ⟨k2, h⟩ := h
  obtain _ | ⟨k3, h⟩ := h
  obtain _ | ⟨k4, h⟩ := h
  obtain _ | _ := h
  have hw1 := fun j hj => hw j (.tail _ hj)
  have hw2 := fun j hj => hw1 j (.tail _ hj)
  have hw3 := fun j hj => hw2 j (.tail _ hj)
  have hw4 := fun j hj => hw3 j (.tail _ hj)
  have e0 := due_one (co := [c0, c1, c2, c3, c4]) (wk := [w0, w1, w2, w3, w4]) (i := 0) rfl rfl k0 hw (show 4 ≤ 4 by decide)
  have e1 := due_one (co := [c0, c1, c2, c3, c4]) (wk := [w0, w1, w2, w3, w4]) (i := 1) rfl rfl k1 hw1 (show 3 ≤ 4 by decide)
  have e2 := due_one (co := [c0, c1, c2, c3, c4]) (wk := [w0, w1, w2, w3, w4]) (i := 2) rfl rfl k2 hw2 (show 2 ≤ 4 by decide)
  have e3 := due_one (co := [c0, c1, c2, c3, c4]) (wk := [w0, w1, w2, w3, w4]) (i := 3) rfl rfl k3 hw3 (show 1 ≤ 4 by decide)
  have e4 := due_one (co := [c0, c1, c2, c3, c4]) (wk := [w0, w1, w2, w3, w4]) (i := 4) rfl rfl k4 hw4 (show 0 ≤ 4 by decide)
  show _ = [lastR [c0, c1, c2, c3, c4] [w0, w1, w2, w3, w4] 0 5, lastR [c0, c1, c2, c3, c4] [w0, w1, w2, w3, w4] 1 5, lastR [c0, c1, c2, c3, c4] [w0, w1, w2, w3, w4] 2 5, lastR [c0, c1, c2, c3, c4] [w0, w1, w2, w3, w4] 3 5, lastR [c0, c1, c2, c3, c4] [w0, w1, w2, w3, w4] 4 5]
  rw [e0, e1, e2, e3, e4]
end Mine
end
section
open PySem PySem.Calls PyProof.Rows
set_option maxRecDepth 100000
namespace Mine
noncomputable def sg (wk : List Int) : Nat → Int
  | 0 => 0
  | i + 1 => sg wk i + wk.getD i 0
noncomputable def fS (co wk : List Int) (f : Int) (i : Nat) : Int := if co.getD i 0 < f then f else co.getD i 0
noncomputable def fL (co wk : List Int) : Nat → Int
  | 0 => 0
  | i + 1 => fS co wk (fL co wk i) i + wk.getD i 0
structure Day (co wk : List Int) : Prop where
  cl : co.length = 5
  wl : wk.length = 5
  nn : 0 ≤ co.getD 0 0
  mono : ∀ i < 5, ∀ k < i, co.getD k 0 ≤ co.getD i 0
  le : ∀ i < 5, co.getD i 0 ≤ 3 * ((i : Int) + 1)
  w1 : ∀ i < 5, 1 ≤ wk.getD i 0
  w4 : ∀ i < 5, wk.getD i 0 ≤ 4
section
variable {co wk : List Int}
theorem fL_s (i : Nat) : fL co wk (i + 1) = fS co wk (fL co wk i) i + wk.getD i 0 := rfl
theorem sg_s (i : Nat) : sg wk (i + 1) = sg wk i + wk.getD i 0 := rfl
theorem fS_le {f : Int} {i : Nat} : f ≤ fS co wk f i ∧ co.getD i 0 ≤ fS co wk f i ∧ (fS co wk f i = f ∨ fS co wk f i = co.getD i 0) := by
  unfold fS
  by_cases h : co.getD i 0 < f
  · rw [if_pos h]; exact ⟨Int.le_refl _, Int.le_of_lt h, .inl rfl⟩
  · rw [if_neg h]; exact ⟨Int.not_lt.mp h, Int.le_refl _, .inr rfl⟩
theorem fL_spec (d : Day co wk) : ∀ i, i < 5 → (∀ k ≤ i, co.getD k 0 + (sg wk (i + 1) - sg wk k) ≤ fL co wk (i + 1)) ∧ ∃ k ≤ i, fL co wk (i + 1) = co.getD k 0 + (sg wk (i + 1) - sg wk k)
  | 0, _ => by
    have h0 : sg wk 0 = 0 := rfl
    have h1 : fL co wk 0 = 0 := rfl
    have h2 := d.nn
    obtain ⟨a, b, c⟩ := fS_le (co := co) (wk := wk) (f := 0) (i := 0)
    rw [fL_s, sg_s, h0, h1]
    refine ⟨fun k hk => ?_, 0, Nat.le_refl _, ?_⟩
    · rw [Nat.le_zero.mp hk, h0]; omega
    · rw [h0]; omega
  | i + 1, h => by
    obtain ⟨h1, k0, h2, h3⟩ := fL_spec d i (Nat.lt_of_succ_lt h)
    obtain ⟨a, b, c⟩ := fS_le (co := co) (wk := wk) (f := fL co wk (i + 1)) (i := i + 1)
    rw [fL_s (i + 1), sg_s (i + 1)]
    refine ⟨fun k hk => ?_, ?_⟩
    · by_cases e : k = i + 1
      · rw [e]; omega
      · have := h1 k (Nat.lt_succ_iff.mp (Nat.lt_of_le_of_ne hk e)); omega
    · rcases c with c | c
      · exact ⟨k0, Nat.le_succ_of_le h2, by omega⟩
      · exact ⟨i + 1, Nat.le_refl _, by omega⟩
theorem fL_le (d : Day co wk) : ∀ i, i ≤ 5 → 0 ≤ fL co wk i ∧ fL co wk i ≤ 3 + 4 * (i : Int)
  | 0, _ => ⟨Int.le_refl _, by show (0 : Int) ≤ _; omega⟩
  | i + 1, h => by
    obtain ⟨h1, h2⟩ := fL_le d i (Nat.le_of_succ_le h)
    obtain ⟨a, b, c⟩ := fS_le (co := co) (wk := wk) (f := fL co wk i) (i := i)
    have h3 := d.w1 i h
    have h4 := d.w4 i h
    have h5 := d.le i h
    rw [fL_s]
    omega
theorem idx5 : ∀ i : Nat, i < 5 → ∀ k : Nat, k ≤ i → (sliceRange (sliceBounds (some (k : Int)) (some ((i : Int) + 1)) none 5).1 (sliceBounds (some (k : Int)) (some ((i : Int) + 1)) none 5).2.1 (sliceBounds (some (k : Int)) (some ((i : Int) + 1)) none 5).2.2) = List.range' k (i + 1 - k) := by decide +kernel
noncomputable def pk (ns : List Int) (x : Nat) : Option Int := ns[x]?
theorem sum_range' {ns : List Int} : ∀ m k, k + m ≤ ns.length → ((List.range' k m).filterMap (pk ns)).sum + sg ns k = sg ns (k + m)
  | 0, k, _ => Int.zero_add _
  | m + 1, k, h => by
    have hk : pk ns k = some (ns.getD k 0) := by unfold pk; rw [List.getD_eq_getElem?_getD, List.getElem?_eq_getElem (by omega)]; rfl
    have ih := sum_range' (ns := ns) m (k + 1) (by omega)
    rw [List.range'_succ, List.filterMap_cons_some hk, List.sum_cons]
    rw [sg_s, show k + 1 + m = k + (m + 1) by omega] at ih
    omega
theorem pick_sum (d : Day co wk) {i k : Nat} (hi : i < 5) (hk : k ≤ i) : (pickNums wk (some (k : Int)) (some ((i : Int) + 1)) none).sum = sg wk (i + 1) - sg wk k := by
  unfold pickNums
  rw [d.wl, idx5 i hi k hk]
  show ((List.range' k (i + 1 - k)).filterMap (pk wk)).sum = _
  have := sum_range' (ns := wk) (i + 1 - k) k (by rw [d.wl]; omega)
  rw [show k + (i + 1 - k) = i + 1 by omega] at this
  omega
theorem dueE_at (d : Day co wk) {i : Nat} (hi : i < 5) : dueE co wk i = fL co wk (i + 1) := by
  obtain ⟨h1, k, h2, h3⟩ := fL_spec d i hi
  have hn : endL co wk i ≠ [] := fun e => by
    have := congrArg List.length e
    unfold endL at this
    rw [List.length_map, List.length_range] at this
    cases this
  obtain ⟨m1, m2⟩ := maxL_ok hn
  have hm : co.getD k 0 + (sg wk (i + 1) - sg wk k) ∈ endL co wk i := List.mem_map.mpr ⟨k, List.mem_range.mpr (Nat.lt_succ_of_le h2), by rw [pick_sum d hi h2]⟩
  have ha := m2 _ hm
  obtain ⟨k', hk', e⟩ := List.mem_map.mp m1
  have hk' := Nat.le_of_lt_succ (List.mem_range.mp hk')
  rw [pick_sum d hi hk'] at e
  have hb := h1 k' hk'
  show maxL (endL co wk i) = _
  omega
theorem due_ok (d : Day co wk) : DueOk co wk where
  lo := fun i hi => by
    rw [dueE_at d hi, fL_s]
    have := (fL_le d i (Nat.le_of_lt hi)).1
    have := (fS_le (co := co) (wk := wk) (f := fL co wk i) (i := i)).1
    omega
  hi := fun i hi => by
    rw [dueE_at d hi]
    have := (fL_le d (i + 1) hi).2
    omega
  wk := fun i hi => by have := d.w1 i hi; omega
noncomputable def hrs (co wk : List Int) : Nat → List Nat
  | 0 => []
  | i + 1 => hrs co wk i ++ List.range' (fS co wk (fL co wk i) i).toNat (wk.getD i 0).toNat
theorem hrs_bd (d : Day co wk) : ∀ i, i ≤ 5 → (∀ t ∈ hrs co wk i, (t : Int) < fL co wk i) ∧ (hrs co wk i).Pairwise (· < ·) ∧ ((hrs co wk i).length : Int) ≤ 4 * (i : Int)
  | 0, _ => ⟨fun t ht => (nomatch ht), .nil, Int.le_refl _⟩
  | i + 1, h => by
    obtain ⟨h1, h2, h5⟩ := hrs_bd d i (Nat.le_of_succ_le h)
    have h3 := d.w1 i h
    have h4 := d.w4 i h
    have a := (fS_le (co := co) (wk := wk) (f := fL co wk i) (i := i)).1
    have b := (fL_le d i (Nat.le_of_succ_le h)).1
    rw [fL_s]
    refine ⟨fun t ht => ?_, List.pairwise_append.mpr ⟨h2, List.pairwise_lt_range', fun x hx y hy => ?_⟩, ?_⟩
    · rcases List.mem_append.mp ht with ht | ht
      · have := h1 t ht; omega
      · have := List.mem_range'_1.mp ht; omega
    · have := h1 x hx
      have := List.mem_range'_1.mp hy
      omega
    · show (((hrs co wk i ++ _).length : Nat) : Int) ≤ _
      rw [List.length_append, List.length_range']
      omega
theorem dueW_at (d : Day co wk) : ∀ i, i ≤ 5 → dueW co wk i = (hrs co wk i).map wordAt
  | 0, _ => rfl
  | i + 1, h => by
    show dueW co wk i ++ wordsFrom (dueE co wk i - wk.getD i 0).toNat (wk.getD i 0).toNat = _
    rw [dueW_at d i (Nat.le_of_succ_le h), dueE_at d h, fL_s, Int.add_sub_cancel]
    show _ = (hrs co wk i ++ _).map wordAt
    rw [List.map_append]
    congr 1
    unfold wordsFrom
    rw [List.range'_eq_map_range, List.map_map]
    rfl
end
end Mine
end
section
open PySem PySem.Calls PyProof.Rows
set_option maxRecDepth 100000
namespace Mine
noncomputable def wsM (ws : List Str) (m n : Nat) : List Str := (List.range' m n).map fun i => ws.getD i Str.empty
noncomputable def endM (co wk : List Int) (e : Nat) : List Int := (List.range e).map fun i => fL co wk (i + 1)
structure Both (co wk : List Int) (ws : List Str) (t : R1) (u : Pl) (m n e : Nat) (h : Int) : Prop where
  a5 : m + n ≤ 5
  ca : t.came = m + n
  cu : u.came = m + n
  left : t.left = wsM ws 0 m
  q : t.q = wsM ws m n
  hand : 0 ≤ t.hand
  ends : t.ends = endM co wk e
  e0 : t.hand = 0 → e = m
  e1 : 0 < t.hand → e + 1 = m ∧ fL co wk m = h + t.hand
  busy : t.busy + sumP (List.range' h.toNat t.hand.toNat) = sumP (hrs co wk m)
  bu : u.busy = t.busy
  pos : ∀ x ∈ u.pile, 1 ≤ x
  sum : u.pile.sum = t.hand + (sg wk (m + n) - sg wk m)
structure Pre (co wk : List Int) (ws : List Str) (t : R1) (u : Pl) (m n e : Nat) (h : Int) : Prop where
  b : Both co wk ws t u m n e h
  old : ∀ i < m + n, co.getD i 0 ≤ h
  new : ∀ i, m + n ≤ i → i < 5 → h ≤ co.getD i 0
  free : t.hand = 0 → fL co wk m ≤ h ∧ (0 < n → fS co wk (fL co wk m) m = h)
structure Mid (co wk : List Int) (ws : List Str) (t : R1) (u : Pl) (m n e : Nat) (h : Int) : Prop where
  b : Both co wk ws t u m n e h
  old : ∀ i < m + n, co.getD i 0 ≤ h
  new : ∀ i, m + n ≤ i → i < 5 → h < co.getD i 0
  free : t.hand = 0 → fL co wk m ≤ h ∧ (0 < n → fS co wk (fL co wk m) m = h)
section
variable {co wk : List Int} {ws : List Str}
theorem wsM_s (m n : Nat) : wsM ws m n ++ [ws.getD (m + n) Str.empty] = wsM ws m (n + 1) := by
  unfold wsM
  rw [List.range'_1_concat, List.map_append]; rfl
theorem come_both (d : Day co wk) {m e : Nat} {h : Int} : ∀ (f : Nat) {n : Nat} {t : R1} {u : Pl}, f = 5 - (m + n) → Pre co wk ws t u m n e h →
    ∃ n', inA ws Str.empty co h f t.q t.came = (wsM ws m n', m + n') ∧ Mid co wk ws { t with q := (inA ws Str.empty co h f t.q t.came).1, came := (inA ws Str.empty co h f t.q t.came).2 } (plW wk co h f u) m n' e h
  | 0, n, t, u, hf, k => by
    have hq := k.b.q
    have hc := k.b.ca
    have e5 : m + n = 5 := by have := k.b.a5; omega
    obtain ⟨k1, k0, k2, k3⟩ := k
    refine ⟨n, by rw [hq, hc]; rfl, k1, k0, fun i h1 h2 => by omega, k3⟩
  | f + 1, n, t, u, hf, k => by
    have hq := k.b.q
    have hc := k.b.ca
    have hlt : m + n < 5 := by omega
    obtain ⟨k1, k0, k2, k3⟩ := k
    have hcu := k1.cu
    by_cases hh : co.getD (m + n) 0 = h
    · have hcond : ∀ c, c = m + n → (decide ((c : Int) < 5) && (co.getD c 0 == h)) = true := fun c e => by
        subst e
        rw [hh, beq_self_eq_true, Bool.and_true]
        exact decide_eq_true (by omega)
      have e1 : inA ws Str.empty co h (f + 1) t.q t.came = inA ws Str.empty co h f (t.q ++ [ws.getD t.came Str.empty]) (t.came + 1) := if_pos (hcond _ hc)
      have e2 : plW wk co h (f + 1) u = plW wk co h f (plIn wk h u) := if_pos (hcond _ hcu)
      rw [e1, e2]
      refine come_both d f (n := n + 1) (t := { t with q := t.q ++ [ws.getD t.came Str.empty], came := t.came + 1 }) (u := plIn wk h u) (by omega) ?_
      obtain ⟨b1, b2, b3, b4, b5, b6, b7, b8, b9, b10, b11, b12, b13⟩ := k1
      refine ⟨⟨hlt, ?_, ?_, b4, ?_, b6, b7, b8, b9, b10, b11, fun x hx => ?_, ?_⟩, fun i hi => ?_, fun i h1 h2 => k2 i (Nat.le_of_succ_le h1) h2, fun h0 => ⟨(k3 h0).1, fun _ => ?_⟩⟩
      · show t.came + 1 = _; rw [hc]; rfl
      · show u.came + 1 = _; rw [hcu]; rfl
      · show t.q ++ [ws.getD t.came Str.empty] = _
        rw [hq, hc, wsM_s]
      · rcases List.mem_append.mp hx with hx | hx
        · exact b12 x hx
        · rw [List.mem_singleton.mp hx, hcu]; exact d.w1 _ hlt
      · show (u.pile ++ [wk.getD u.came 0]).sum = t.hand + (sg wk (m + n + 1) - sg wk m)
        rw [List.sum_append, b13, hcu, sg_s, List.sum_cons, List.sum_nil]
        omega
      · by_cases e : i = m + n
        · rw [e, hh]; exact Int.le_refl _
        · exact k0 i (Nat.lt_of_le_of_ne (Nat.le_of_lt_succ hi) e)
      · cases n with
        | zero =>
          have := (k3 h0).1
          unfold fS
          rw [Nat.add_zero] at hh
          rw [hh, if_neg (by omega)]
        | succ n => exact (k3 h0).2 (Nat.succ_pos _)
    · have hcond : ∀ c, c = m + n → ¬ (decide ((c : Int) < 5) && (co.getD c 0 == h)) = true := fun c e h1 => by
        subst e
        exact hh (eq_of_beq (Bool.and_eq_true_iff.mp h1).2)
      have e1 : inA ws Str.empty co h (f + 1) t.q t.came = (t.q, t.came) := if_neg (hcond _ hc)
      have e2 : plW wk co h (f + 1) u = u := if_neg (hcond _ hcu)
      rw [e1, e2]
      refine ⟨n, by rw [hq, hc], k1, k0, fun i h1 h2 => ?_, k3⟩
      have h3 := k2 (m + n) (Nat.le_refl _) hlt
      by_cases e : m + n = i
      · subst e; omega
      · have := d.mono i h2 (m + n) (Nat.lt_of_le_of_ne h1 e); omega
theorem pile_end : ∀ (l : List Int), l ≠ [] → ∃ p x, l = p ++ [x] := fun l h => ⟨l.dropLast, l.getLast h, (List.dropLast_concat_getLast h).symm⟩
theorem sum_0 : ∀ l : List Int, (∀ x ∈ l, 1 ≤ x) → 0 ≤ l.sum ∧ (l.sum = 0 → l = [])
  | [], _ => ⟨Int.le_refl _, fun _ => rfl⟩
  | x :: l, h => by
    have := (sum_0 l fun y hy => h y (.tail _ hy)).1
    have := h x (.head _)
    rw [List.sum_cons]
    exact ⟨by omega, fun h => by omega⟩
theorem lastI_at (p : List Int) (x : Int) : lastI (p ++ [x]) = x := by
  unfold lastI
  rw [List.length_append, List.getD_eq_getElem?_getD]
  show ((p ++ [x])[p.length + 1 - 1]?).getD 0 = x
  rw [Nat.add_sub_cancel, List.getElem?_append_right (Nat.le_refl _), Nat.sub_self]
  rfl
theorem plB_at (h : Int) (u : Pl) {p : List Int} {x : Int} (e : u.pile = p ++ [x]) : plB h u = if x = 1 then ⟨u.row ++ Str.ofString ")", u.whn ++ [h + 1], p, u.busy + 2 ^ h.toNat, u.came⟩ else ⟨u.row, u.whn, p ++ [x - 1], u.busy + 2 ^ h.toNat, u.came⟩ := by
  obtain ⟨r, w, pl, b, c⟩ := u
  have e : pl = p ++ [x] := e
  subst e
  have h1 : plB h ⟨r, w, p ++ [x], b, c⟩ = if (lastI (p ++ [x]) - 1 == 0) = true then ⟨r ++ Str.ofString ")", w ++ [h + 1], (p ++ [x]).dropLast, b + 2 ^ h.toNat, c⟩ else ⟨r, w, (p ++ [x]).set ((p ++ [x]).length - 1) (lastI (p ++ [x]) - 1), b + 2 ^ h.toNat, c⟩ := by
    cases p <;> rfl
  rw [h1, lastI_at, List.dropLast_concat]
  have h2 : (p ++ [x]).set ((p ++ [x]).length - 1) (x - 1) = p ++ [x - 1] := by
    rw [List.length_append]
    show (p ++ [x]).set (p.length + 1 - 1) (x - 1) = _
    rw [Nat.add_sub_cancel, List.set_append_right _ _ (Nat.le_refl _), Nat.sub_self]
    rfl
  rw [h2]
  by_cases hx : x = 1
  · rw [if_pos (by rw [hx]; rfl), if_pos hx]
  · rw [if_neg (by intro h3; have := eq_of_beq h3; omega), if_neg hx]
theorem plB_sum {h : Int} {u : Pl} (hp : ∀ x ∈ u.pile, 1 ≤ x) (h1 : 0 < u.pile.sum) : (plB h u).came = u.came ∧ (plB h u).busy = u.busy + 2 ^ h.toNat ∧ (∀ x ∈ (plB h u).pile, 1 ≤ x) ∧ (plB h u).pile.sum = u.pile.sum - 1 := by
  obtain ⟨p, x, e⟩ := pile_end u.pile fun e => by rw [e] at h1; exact absurd h1 (Int.lt_irrefl _)
  rw [plB_at h u e]
  rw [e] at hp ⊢
  rw [List.sum_append, List.sum_cons, List.sum_nil, Int.add_zero]
  have hx := hp x (List.mem_append.mpr (.inr (.head _)))
  have hp' := fun y hy => hp y (List.mem_append.mpr (.inl hy))
  by_cases e1 : x = 1
  · rw [if_pos e1]
    exact ⟨rfl, rfl, hp', by show p.sum = _; omega⟩
  · rw [if_neg e1]
    refine ⟨rfl, rfl, fun y hy => ?_, ?_⟩
    · rcases List.mem_append.mp hy with hy | hy
      · exact hp' y hy
      · rw [List.mem_singleton.mp hy]; omega
    · show (p ++ [x - 1]).sum = _
      rw [List.sum_append, List.sum_cons, List.sum_nil]
      omega
theorem serve_at (d : Day co wk) {m n e : Nat} {h : Int} (h0 : 0 ≤ h) {t : R1} {u : Pl} (b : Both co wk ws t u m n e h) (hh : 0 < t.hand) (old : ∀ i < m + n, co.getD i 0 ≤ h) (new : ∀ i, m + n ≤ i → i < 5 → h < co.getD i 0) : ∃ e', Pre co wk ws (r1C h t) (plB h u) m n e' (h + 1) := by
  obtain ⟨b1, b2, b3, b4, b5, b6, b7, b8, b9, b10, b11, b12, b13⟩ := b
  obtain ⟨i1, i2⟩ := b9 hh
  have hsg : 0 ≤ sg wk (m + n) - sg wk m := by
    have : ∀ k, m + k ≤ 5 → 0 ≤ sg wk (m + k) - sg wk m := fun k => by
      induction k with
      | zero => intro _; rw [Nat.add_zero]; omega
      | succ k ih =>
        intro hk
        have := ih (Nat.le_of_succ_le hk)
        have := d.w1 (m + k) hk
        show 0 ≤ sg wk (m + k + 1) - _
        rw [sg_s]; omega
    exact this n b1
  obtain ⟨p1, p2, p3, p4⟩ := plB_sum (h := h) b12 (by omega)
  obtain ⟨th, eth⟩ : ∃ r : Nat, t.hand = (r : Int) + 1 := ⟨(t.hand - 1).toNat, by omega⟩
  have hbs : t.busy + 2 ^ h.toNat + sumP (List.range' (h + 1).toNat (t.hand - 1).toNat) = sumP (hrs co wk m) := by
    rw [← b10, show t.hand.toNat = (t.hand - 1).toNat + 1 by omega, List.range'_succ, show (h + 1).toNat = h.toNat + 1 by omega, Int.add_assoc]
    rfl
  have hr : r1C h t = if (t.hand - 1 == 0) = true then { t with busy := t.busy + 2 ^ h.toNat, hand := t.hand - 1, ends := t.ends ++ [h + 1] } else { t with busy := t.busy + 2 ^ h.toNat, hand := t.hand - 1 } := if_pos hh
  rw [hr]
  by_cases e1 : t.hand = 1
  · rw [if_pos (by rw [e1]; rfl)]
    refine ⟨e + 1, ⟨b1, b2, p1.trans b3, b4, b5, ?_, ?_, fun _ => i1, fun h2 => ?_, hbs, p2.trans (by rw [b11]), p3, ?_⟩, fun i hi => Int.le_trans (old i hi) (by omega), fun i a c => new i a c, fun _ => ⟨?_, fun hn => ?_⟩⟩
    · show 0 ≤ t.hand - 1; omega
    · show t.ends ++ [h + 1] = endM co wk (e + 1)
      unfold endM
      rw [b7, List.range_succ, List.map_append, show h + 1 = fL co wk (e + 1) by rw [i1]; omega]
      rfl
    · have h2 : 0 < t.hand - 1 := h2
      omega
    · rw [p4, b13]; show _ = t.hand - 1 + _; omega
    · omega
    · have := old m (by omega)
      unfold fS
      rw [if_pos (by omega)]
      omega
  · rw [if_neg (by intro h3; have := eq_of_beq h3; omega)]
    refine ⟨e, ⟨b1, b2, p1.trans b3, b4, b5, ?_, b7, fun h2 => ?_, fun _ => ⟨i1, ?_⟩, hbs, p2.trans (by rw [b11]), p3, ?_⟩, fun i hi => Int.le_trans (old i hi) (by omega), fun i a c => new i a c, fun h2 => ?_⟩
    · show 0 ≤ t.hand - 1; omega
    · have h2 : t.hand - 1 = 0 := h2
      omega
    · show fL co wk m = h + 1 + (t.hand - 1); omega
    · rw [p4, b13]; show _ = t.hand - 1 + _; omega
    · have h2 : t.hand - 1 = 0 := h2
      omega
theorem step_both (d : Day co wk) (num : ∀ i < 5, wkI (numW (ws.getD i Str.empty)) = wk.getD i 0) {m n e : Nat} {h : Int} (h0 : 0 ≤ h) {t : R1} {u : Pl} (k : Mid co wk ws t u m n e h) : ∃ m' n' e', Pre co wk ws (r1C h (r1B t)) (plB h u) m' n' e' (h + 1) := by
  have b := k.b
  have old := k.old
  have new := k.new
  have free := k.free
  by_cases hh : t.hand = 0
  · obtain ⟨f1, f2⟩ := free hh
    obtain ⟨b1, b2, b3, b4, b5, b6, b7, b8, b9, b10, b11, b12, b13⟩ := b
    cases n with
    | zero =>
      have e1 : r1B t = t := by
        unfold r1B
        rw [if_pos (beq_iff_eq.mpr hh), b5]
        rfl
      have e2 : r1C h t = t := if_neg (by omega)
      have e3 : u.pile = [] := (sum_0 u.pile b12).2 (by rw [b13, hh, Nat.add_zero]; omega)
      have e4 : plB h u = u := by unfold plB; rw [e3]
      rw [e1, e2, e4]
      refine ⟨m, 0, e, ⟨b1, b2, b3, b4, b5, b6, b7, b8, fun h1 => by omega, ?_, b11, b12, b13⟩, fun i hi => Int.le_trans (old i hi) (by omega), fun i a c => new i a c, fun _ => ⟨by omega, fun h1 => absurd h1 (Nat.lt_irrefl _)⟩⟩
      rw [← b10, hh]; rfl
    | succ n =>
      have hm : m < 5 := by omega
      have hs := f2 (Nat.succ_pos _)
      have hw := d.w1 m hm
      have hq : t.q = ws.getD m Str.empty :: wsM ws (m + 1) n := by rw [b5]; unfold wsM; rw [List.range'_succ]; rfl
      have e1 : r1B t = { t with q := wsM ws (m + 1) n, left := t.left ++ [ws.getD m Str.empty], hand := wk.getD m 0 } := by
        unfold r1B
        rw [if_pos (beq_iff_eq.mpr hh), hq, ← num m hm]
      rw [e1]
      have hl : fL co wk (m + 1) = h + wk.getD m 0 := by rw [fL_s, hs]
      have e0 := b8 hh
      refine ⟨m + 1, n, serve_at d h0 (e := e) ⟨by omega, ?_, ?_, ?_, rfl, Int.le_trans (by decide) hw, b7, ?_, ?_, ?_, b11, b12, ?_⟩ (Int.lt_of_lt_of_le (by decide) hw) ?_ ?_⟩
      · rw [Nat.add_right_comm]; exact b2
      · rw [Nat.add_right_comm]; exact b3
      · show t.left ++ [ws.getD m Str.empty] = _
        have := wsM_s (ws := ws) 0 m
        rw [Nat.zero_add] at this
        rw [b4, this]
      · intro h1
        have h1 : wk.getD m 0 = 0 := h1
        omega
      · exact fun _ => ⟨by rw [e0], hl⟩
      · show t.busy + sumP (List.range' h.toNat (wk.getD m 0).toNat) = sumP (hrs co wk m ++ List.range' (fS co wk (fL co wk m) m).toNat (wk.getD m 0).toNat)
        rw [sumP_app, hs, ← b10, hh]
        show _ = t.busy + sumP [] + _
        rw [show sumP [] = 0 from rfl, Int.add_zero]
      · show u.pile.sum = wk.getD m 0 + (sg wk (m + 1 + n) - sg wk (m + 1))
        rw [b13, sg_s, hh, Nat.add_right_comm m 1 n, ← Nat.add_assoc]
        omega
      · exact fun i hi => old i (by omega)
      · exact fun i a c => new i (by omega) c
  · have e1 : r1B t = t := if_neg fun h1 => hh (eq_of_beq h1)
    rw [e1]
    exact ⟨m, n, serve_at d h0 b (by have := b.hand; omega) old new⟩
theorem roads (d : Day co wk) (num : ∀ i < 5, wkI (numW (ws.getD i Str.empty)) = wk.getD i 0) : ∀ j : Nat, ∃ m n e, Pre co wk ws (r1 ws co j) (plRun wk co j) m n e (j : Int)
  | 0 => ⟨0, 0, 0, ⟨Nat.zero_le _, rfl, rfl, rfl, rfl, Int.le_refl _, rfl, fun _ => rfl, fun h => absurd h (Int.lt_irrefl _), rfl, rfl, fun x hx => (nomatch hx), rfl⟩, fun i hi => absurd hi (Nat.not_lt_zero _), fun i _ h5 => by
      have := d.nn
      cases i with
      | zero => exact this
      | succ i => exact Int.le_trans this (d.mono _ h5 0 (Nat.succ_pos _)), fun _ => ⟨Int.le_refl _, fun h => absurd h (Nat.lt_irrefl _)⟩⟩
  | j + 1 => by
    obtain ⟨m, n, e, k⟩ := roads d num j
    obtain ⟨n', _, k2⟩ := come_both d (5 - (m + n)) rfl k
    have e1 := k.b.ca
    have e2 := k.b.cu
    obtain ⟨m3, n3, e3, k3⟩ := step_both d num (Int.natCast_nonneg j) k2
    refine ⟨m3, n3, e3, ?_⟩
    have q1 : r1 ws co (j + 1) = r1C (j : Int) (r1B (r1A ws co (j : Int) (r1 ws co j))) := rfl
    have q2 : plRun wk co (j + 1) = plB (j : Int) (plW wk co (j : Int) (5 - (plRun wk co j).came) (plRun wk co j)) := rfl
    rw [q1, q2, e2]
    unfold r1A
    rw [e1] at k3 ⊢
    exact k3
end
end Mine
end
section
open PySem PySem.Calls PyProof.Rows
set_option maxRecDepth 100000
namespace Mine
noncomputable def jobsA (co wk : List Int) (a : Nat) : List (Int × Int) := (List.range' a (5 - a)).map fun i => (co.getD i 0, wk.getD i 0)
structure Tl (R : Str) (W : List Int) (u : Pl) (z : List (Bool × Int)) : Prop where
  row : R.cps.toList = u.row.cps.toList ++ bst (z.map (·.1))
  whn : W = u.whn ++ z.map (·.2)
section
variable {co wk : List Int} {ws : List Str} {R : Str} {W : List Int}
theorem Tl.sign {u : Pl} {b : Bool} {h : Int} {z : List (Bool × Int)} {w : Str} (hw : w = ⟨#[sgn b]⟩) {u' : Pl} (e1 : u'.row = u.row ++ w) (e2 : u'.whn = u.whn ++ [h]) (k : Tl R W u' z) : Tl R W u ((b, h) :: z) := by
  obtain ⟨h1, h2⟩ := k
  refine ⟨?_, ?_⟩
  · rw [h1, e1, hw]
    show (u.row.cps ++ #[sgn b]).toList ++ _ = _
    rw [Array.toList_append, List.append_assoc]; rfl
  · rw [h2, e2, List.append_assoc]; rfl
theorem run_W (h : Int) : ∀ (f : Nat) (u : Pl), f = 5 - u.came → ∀ z, Run h (plW wk co h f u).pile.reverse (jobsA co wk (plW wk co h f u).came) z → Tl R W (plW wk co h f u) z → ∃ z', Run h u.pile.reverse (jobsA co wk u.came) z' ∧ Tl R W u z'
  | 0, u, _, z, h1, h2 => ⟨z, h1, h2⟩
  | f + 1, u, hf, z, h1, h2 => by
    by_cases hc : (decide ((u.came : Int) < 5) && (co.getD u.came 0 == h)) = true
    · have e : plW wk co h (f + 1) u = plW wk co h f (plIn wk h u) := if_pos hc
      rw [e] at h1 h2
      obtain ⟨z1, a, b⟩ := run_W h f (plIn wk h u) (by show f = 5 - (u.came + 1); omega) z h1 h2
      obtain ⟨c1, c2⟩ := Bool.and_eq_true_iff.mp hc
      have c3 := eq_of_beq c2
      refine ⟨(true, h) :: z1, ?_, b.sign sO rfl rfl⟩
      have a : Run h (u.pile ++ [wk.getD u.came 0]).reverse (jobsA co wk (u.came + 1)) z1 := a
      rw [List.reverse_append] at a
      have ej : jobsA co wk u.came = (h, wk.getD u.came 0) :: jobsA co wk (u.came + 1) := by
        unfold jobsA
        rw [show 5 - u.came = 5 - (u.came + 1) + 1 by omega, List.range'_succ, List.map_cons, c3]
      rw [ej]
      exact .come a
    · have e : plW wk co h (f + 1) u = u := if_neg hc
      rw [e] at h1 h2
      exact ⟨z, h1, h2⟩
theorem run_B {h : Int} {u : Pl} (hp : ∀ x ∈ u.pile, 1 ≤ x) (hn : ∀ j ∈ jobsA co wk u.came, h < j.1) {z : List (Bool × Int)} (h1 : Run (h + 1) (plB h u).pile.reverse (jobsA co wk (plB h u).came) z) (h2 : Tl R W (plB h u) z) : ∃ z', Run h u.pile.reverse (jobsA co wk u.came) z' ∧ Tl R W u z' := by
  by_cases e0 : u.pile = []
  · have e4 : plB h u = u := by unfold plB; rw [e0]
    rw [e4] at h1 h2
    rw [e0] at h1 ⊢
    exact ⟨z, .idle hn h1, h2⟩
  · obtain ⟨p, x, e⟩ := pile_end u.pile e0
    rw [plB_at h u e] at h1 h2
    rw [e] at hp ⊢
    have hx := hp x (List.mem_append.mpr (.inr (.head _)))
    rw [List.reverse_append]
    by_cases e1 : x = 1
    · rw [if_pos e1] at h1 h2
      subst e1
      exact ⟨_, .fin hn h1, h2.sign PyProof.Rows.tuple_end_more rfl rfl⟩
    · rw [if_neg e1] at h1 h2
      have h1 : Run (h + 1) (p ++ [x - 1]).reverse (jobsA co wk u.came) z := h1
      rw [List.reverse_append] at h1
      exact ⟨_, .work hn (by omega) h1, h2.row, h2.whn⟩
theorem run_all (d : Day co wk) (num : ∀ i < 5, wkI (numW (ws.getD i Str.empty)) = wk.getD i 0) (h0 : ∃ z, Run 23 (plRun wk co 23).pile.reverse (jobsA co wk (plRun wk co 23).came) z ∧ Tl R W (plRun wk co 23) z) : ∀ k j : Nat, j + k = 23 → ∃ z, Run (j : Int) (plRun wk co j).pile.reverse (jobsA co wk (plRun wk co j).came) z ∧ Tl R W (plRun wk co j) z
  | 0, j, e => by have e : j = 23 := e; subst e; exact h0
  | k + 1, j, e => by
    obtain ⟨z, h1, h2⟩ := run_all d num h0 k (j + 1) (by omega)
    obtain ⟨m, n, e', kp⟩ := roads d num j
    obtain ⟨n', _, k2⟩ := come_both d (5 - (m + n)) rfl kp
    have ec := kp.b.cu
    have q2 : plRun wk co (j + 1) = plB (j : Int) (plW wk co (j : Int) (5 - (plRun wk co j).came) (plRun wk co j)) := rfl
    rw [q2] at h1 h2
    rw [← ec] at k2
    obtain ⟨z1, a, b⟩ := run_B k2.b.pos (fun x hx => by
      obtain ⟨i, hi, rfl⟩ := List.mem_map.mp hx
      have hi := List.mem_range'_1.mp hi
      rw [k2.b.cu] at hi
      exact k2.new i hi.1 (by have := k2.b.a5; omega)) h1 h2
    exact run_W (j : Int) _ _ rfl z1 a b
theorem five_at {α : Type} {l : List α} (h : l.length = 5) : ∃ a b c d e, l = [a, b, c, d, e] := by
  obtain _ | ⟨a, l⟩ := l; · cases h
  obtain _ | ⟨b, l⟩ := l; · cases h
  obtain _ | ⟨c, l⟩ := l; · cases h
  obtain _ | ⟨d, l⟩ := l; · cases h
  obtain _ | ⟨e, l⟩ := l; · cases h
  obtain _ | ⟨f, l⟩ := l
  · exact ⟨a, b, c, d, e, rfl⟩
  · exact absurd h (by simp)
structure Eve (co wk : List Int) (ws : List Str) : Prop where
  left : (r1 ws co 23).left = wsM ws 0 5
  ends : (r1 ws co 23).ends = endM co wk 5
  busy : (r1 ws co 23).busy = sumP (hrs co wk 5)
  bu : (plRun wk co 23).busy = (r1 ws co 23).busy
  lasts : lastsOf (plRun wk co 23).row (plRun wk co 23).whn = dueLs co wk 5
  row : RowOk (plRun wk co 23).row
theorem eve (d : Day co wk) (num : ∀ i < 5, wkI (numW (ws.getD i Str.empty)) = wk.getD i 0) : Eve co wk ws := by
  obtain ⟨m, n, e, k⟩ := roads d num 23
  obtain ⟨⟨b1, b2, b3, b4, b5, b6, b7, b8, b9, b10, b11, b12, b13⟩, old, new, free⟩ := k
  have ha : m + n = 5 := by
    refine Classical.byContradiction fun hne => ?_
    have h1 := new 4 (by omega) (by decide)
    have h2 := d.le 4 (by decide)
    have h1 : 23 ≤ co.getD 4 0 := h1
    omega
  have hh : (r1 ws co 23).hand = 0 := by
    refine Classical.byContradiction fun hne => ?_
    have h1 := (b9 (by omega)).2
    have h2 := (fL_le d m (by omega)).2
    have h1 : fL co wk m = 23 + (r1 ws co 23).hand := h1
    omega
  have hn : n = 0 := by
    refine Classical.byContradiction fun hne => ?_
    have h1 := (free hh).2 (Nat.pos_of_ne_zero hne)
    have h2 := (fL_le d (m + 1) (by omega)).2
    have h3 := d.w1 m (by omega)
    have h1 : fS co wk (fL co wk m) m = 23 := h1
    rw [fL_s, h1] at h2
    omega
  subst hn
  have hm : m = 5 := ha
  subst hm
  have he := b8 hh
  subst he
  have hp : (plRun wk co 23).pile = [] := (sum_0 _ b12).2 (by rw [b13, hh]; show (0 : Int) + (sg wk 5 - sg wk 5) = 0; omega)
  obtain ⟨z, r, t⟩ := run_all (R := (plRun wk co 23).row) (W := (plRun wk co 23).whn) d num (by
    rw [hp, b3]
    exact ⟨[], .done, (List.append_nil _).symm, (List.append_nil _).symm⟩) 23 0 rfl
  have r : Run 0 [] (jobsA co wk 0) z := r
  have t1 : (plRun wk co 23).row.cps.toList = bst (z.map (·.1)) := t.row
  have t2 : (plRun wk co 23).whn = z.map (·.2) := t.whn
  refine ⟨b4, b7, ?_, b11, ?_, ?_⟩
  · rw [← b10, hh]
    show _ = _ + sumP []
    rw [show sumP [] = 0 from rfl, Int.add_zero]
  · have hj : JobsOk 0 (jobsA co wk 0) := ⟨fun x hx => by
      obtain ⟨i, hi, rfl⟩ := List.mem_map.mp hx
      have hi := (List.mem_range'_1.mp hi).2
      cases i with
      | zero => exact d.nn
      | succ i => exact Int.le_trans d.nn (d.mono _ hi 0 (Nat.succ_pos _)), fun x hx => by
      obtain ⟨i, hi, rfl⟩ := List.mem_map.mp hx
      exact d.w1 i (List.mem_range'_1.mp hi).2⟩
    obtain ⟨ds, l1, l2⟩ := run_lasts r (fun x hx => (nomatch hx)) hj
    rw [lasts_eq t1 t2 l1]
    obtain ⟨c0, c1, c2, c3, c4, hco⟩ := five_at d.cl
    obtain ⟨w0, w1, w2, w3, w4, hwk⟩ := five_at d.wl
    have hw := hj.wk
    rw [hco, hwk] at l2 hw ⊢
    exact ends_due l2 hw
  · have hl := (plRun_ok wk co 23).row
    rw [row_len t1, b3] at hl
    exact rowOk_plain t1 (Nat.le_trans hl (by decide))
theorem day_plain (d : Day co wk) (hl : ws.length = 5) (num : ∀ i < 5, wkI (numW (ws.getD i Str.empty)) = wk.getD i 0) : Plain2 co wk ws (r1 ws co 23) (lastsOf (plRun wk co 23).row (plRun wk co 23).whn) (plRun wk co 23).busy := by
  obtain ⟨k1, k2, k3, k4, k5, k6⟩ := eve d num
  obtain ⟨g1, g2, g3⟩ := hrs_bd d 5 (Nat.le_refl _)
  have hle := (fL_le d 5 (Nat.le_refl _)).2
  have g4 : ∀ t ∈ hrs co wk 5, t < 23 := fun t ht => by have := g1 t ht; omega
  have hne : hrs co wk 5 ≠ [] := fun e => by
    have h1 : hrs co wk 4 ++ List.range' (fS co wk (fL co wk 4) 4).toNat (wk.getD 4 0).toNat = [] := e
    have h2 := congrArg List.length (List.append_eq_nil_iff.mp h1).2
    rw [List.length_range'] at h2
    have h2 : (wk.getD 4 0).toNat = 0 := h2
    have := d.w1 4 (by decide)
    omega
  have hw : pfGo 32 0 (sumP (hrs co wk 5)) [] = some (dueW co wk 5) := by
    rw [pf_sum 32 0 [] _ hne (fun t ht => ⟨Nat.zero_le _, Nat.lt_trans (g4 t ht) (by decide)⟩) g2, dueW_at d 5 (Nat.le_refl _), List.nil_append]
    refine congrArg some ?_
    exact List.map_congr_left fun t ht => (word_nm t (g4 t ht)).1
  refine ⟨due_ok d, ?_, ?_, k5, by rw [k3]; exact hw, by rw [k4, k3]; exact hw, ?_⟩
  · rw [k1]
    obtain ⟨c0, c1, c2, c3, c4, e⟩ := five_at hl
    subst e
    rfl
  · rw [k2]
    exact List.map_congr_left fun i hi => (dueE_at d (List.mem_range.mp hi)).symm
  · refine joinOk_of ?_
    have hlen : (dueW co wk 5).length ≤ 20 := by
      rw [dueW_at d 5 (Nat.le_refl _), List.length_map]
      omega
    have h20 := sum_le (ys := dueW co wk 5) (m := 20) fun w hw => by
      rw [dueW_at d 5 (Nat.le_refl _)] at hw
      obtain ⟨t, ht, rfl⟩ := List.mem_map.mp hw
      exact (word_nm t (g4 t ht)).2
    have e2 : (Str.ofString ", ").length = 2 := by decide +kernel
    rw [e2]
    omega
end
theorem cmR_map (ns : List Int) : ∀ j, (cmR ns j).2 = (List.range j).map fun i => (cmR ns (i + 1)).1
  | 0 => rfl
  | j + 1 => by
    rw [List.range_succ, List.map_append, ← cmR_map ns j]
    rfl
theorem cmR_mono (ns : List Int) (i : Nat) : ∀ k, (cmR ns i).1 ≤ (cmR ns (i + k)).1 ∧ (cmR ns (i + k)).1 ≤ (cmR ns i).1 + 3 * (k : Int)
  | 0 => ⟨Int.le_refl _, by rw [Nat.add_zero]; omega⟩
  | k + 1 => by
    obtain ⟨h1, h2⟩ := cmR_mono ns i k
    have e : (cmR ns (i + (k + 1))).1 = (cmR ns (i + k)).1 + ns.getD (i + k) 0 % 4 := rfl
    rw [e]
    omega
theorem getD_map' {α β : Type} {f : α → β} {l : List α} {a : α} {b : β} {i : Nat} (h : i < l.length) : (l.map f).getD i b = f (l.getD i a) := by
  rw [List.getD_eq_getElem?_getD, List.getD_eq_getElem?_getD, List.getElem?_map, List.getElem?_eq_getElem h]; rfl
theorem co_at (ns : List Int) {i : Nat} (h : i < 5) : (coOf ns).getD i 0 = (cmR ns (i + 1)).1 := by
  unfold coOf
  rw [cmR_map, getD_map' (a := 0) (by rw [List.length_range]; exact h), List.getD_eq_getElem?_getD, List.getElem?_range h]
  rfl
theorem day_of {ns : List Int} (h5 : ns.length = 5) : Day (coOf ns) (wkOf ns) where
  cl := cmR_len ns 5
  wl := by unfold wkOf; rw [List.length_map, h5]
  nn := by rw [co_at ns (by decide)]; exact (cmR_mono ns 0 1).1
  mono := fun i hi k hk => by
    rw [co_at ns hi, co_at ns (Nat.lt_trans hk hi), show i + 1 = k + 1 + (i - k) by omega]
    exact (cmR_mono ns (k + 1) (i - k)).1
  le := fun i hi => by
    rw [co_at ns hi]
    have := (cmR_mono ns 0 (i + 1)).2
    rw [Nat.zero_add] at this
    have e : (cmR ns 0).1 = 0 := rfl
    omega
  w1 := fun i hi => by
    unfold wkOf
    rw [getD_map' (a := 0) (by rw [h5]; exact hi)]
    unfold wkI; omega
  w4 := fun i hi => by
    unfold wkOf
    rw [getD_map' (a := 0) (by rw [h5]; exact hi)]
    unfold wkI; omega
theorem num_of {ns : List Int} (h5 : ns.length = 5) (hb : ∀ r ∈ ns, 0 ≤ r ∧ r < 4096) : ∀ i < 5, wkI (numW ((wsOf ns).getD i Str.empty)) = (wkOf ns).getD i 0 := fun i hi => by
  have hi : i < ns.length := by rw [h5]; exact hi
  unfold wsOf wkOf
  rw [getD_map' (a := 0) hi, getD_map' (a := 0) hi]
  have hm : ns.getD i 0 ∈ ns := by rw [List.getD_eq_getElem?_getD, List.getElem?_eq_getElem hi]; exact List.getElem_mem hi
  unfold numW
  rw [var4096 (hb _ hm).1 (hb _ hm).2]
  rfl
theorem all_plain2 : AllPlain2 where
  plain := fun ns h5 hb => day_plain (day_of h5) (by unfold wsOf; rw [List.length_map, h5]) (num_of h5 hb)
  row := fun ns h5 hb => (eve (day_of h5) (num_of h5 hb)).row
  lex := fun ns h5 _ => lex_ok ns (by rw [h5]; decide)
  fin := fun ns h5 _ => fin2 h5
  var := fun r h0 h1 => var4096 h0 h1
  ok := fun r h0 h1 => ok4096 h0 h1
end Mine
end
section
open PySem PySem.W PyProof.Rows
set_option maxRecDepth 100000
set_option maxHeartbeats 0
namespace Mine
noncomputable def tkS (s : String) (t : Nat) : Value := .str (Str.ofString s) t
noncomputable def eV (P : Params) (s : String) (t : Nat) (v : Value) : DictEntry := ⟨PyData.keyHash P (Str.ofString s), tkS s t, v⟩
noncomputable def eR (P : Params) (s : String) (t r : Nat) : DictEntry := eV P s t (.ref r)
noncomputable def eI (i t : Nat) (s : String) : DictEntry := ⟨i, .int i t, tkS s (t + 1)⟩
noncomputable def codeW (nm qn : String) (t ln na fl r u : Nat) (a b c : Value) : Obj := .mk (.type "code") none (.fields #[tkS nm t, tkS qn (t + 1), tkS "/claim/cut.py" (t + 2), .int ln 0, .int na 0, .int 0 0, .int 0 0, .int fl 0, .ref r, .bool true, .int 181 0, .ref (r + 1), .none, a, b, c, .int u 0, .int ln 0, tkS "/claim/cut.py" (u + 1)]) #[]
noncomputable def codeO (nm qn : String) (t ln na fl r u : Nat) : Obj := codeW nm qn t ln na fl r u (.ref (r + 2)) (.ref (r + 3)) (.ref (r + 4))
noncomputable def codeN (nm qn : String) (t ln na fl r u : Nat) : Obj := codeW nm qn t ln na fl r u .none .none (.ref (r + 2))
noncomputable def funO (st : Stmt) (qn md : String) (t c : Nat) : Obj := .mk (.type "function") none (.func (.mk (dName st) (Str.ofString qn) (dParams st) (.stmts (dBody st)) (dScope st) 3 [] .none .none .none (tkS md t) none (.ref c) .none 0)) #[]
noncomputable def kP (P : Params) : Frag := [
  (3, .mk (.type "dict") none (.dict #[eV P "__name__" 165 (Value.str (Str.ofString "law_rw0042_02") 333), eV P "__doc__" 166 Value.none, eV P "__package__" 167 Value.none, eV P "__loader__" 168 (Value.builtin "__main__.__loader__#opaque"), eV P "__spec__" 169 Value.none, eR P "__annotations__" 170 6, eR P "__builtins__" 171 4, eV P "__file__" 173 (Value.str (Str.ofString "/claim/cut.py") 172), eV P "__cached__" 174 Value.none, eR P "COMPILER_FLAG_NAMES" 219 15, eR P "pretty_flags" 229 22, eR P "_parse_varint" 238 29, eR P "_iter_escaped_chars" 250 36, eR P "_strip_quoted_realnames" 262 43, eR P "_check_parenthesis" 272 50, eR P "_netrclex" 332 88, eR P "_law_stream" 345 99, eR P "_law_octets" 353 106, eR P "_law_written" 363 113, eR P "_law_number" 369 118, eR P "_law_pairs" 379 125, eR P "_law_pile" 393 132, eR P "law" 399 137] 23) #[]),
  (15, .mk (.type "dict") none (.dict #[eI 1 189 "OPTIMIZED", eI 2 191 "NEWLOCALS", eI 4 193 "VARARGS", eI 8 195 "VARKEYWORDS", eI 16 197 "NESTED", eI 32 199 "GENERATOR", eI 64 201 "NOFREE", eI 128 203 "COROUTINE", eI 256 205 "ITERABLE_COROUTINE", eI 512 207 "ASYNC_GENERATOR"] 10) #[]),
  (21, codeO "pretty_flags" "pretty_flags" 220 3 1 3 16 227),
  (22, funO (topS 2) "pretty_flags" "cpy313.dis" 187 21),
  (28, codeO "_parse_varint" "_parse_varint" 230 15 1 3 23 236),
  (29, funO (topS 3) "_parse_varint" "cpy313.dis" 187 28),
  (35, codeO "_iter_escaped_chars" "_iter_escaped_chars" 241 24 1 35 30 248),
  (36, funO (topS 5) "_iter_escaped_chars" "cpy313.email.utils" 239 35),
  (42, codeO "_strip_quoted_realnames" "_strip_quoted_realnames" 251 37 1 3 37 260),
  (43, funO (topS 6) "_strip_quoted_realnames" "cpy313.email.utils" 239 42),
  (49, codeO "_check_parenthesis" "_check_parenthesis" 263 55 1 3 44 270),
  (50, funO (topS 7) "_check_parenthesis" "cpy313.email.utils" 239 49),
  (63, codeO "__init__" "_netrclex.__init__" 287 69 2 3 58 292),
  (64, funO (mS 0) "_netrclex.__init__" "cpy313.netrc" 273 63),
  (70, codeO "_read_char" "_netrclex._read_char" 295 75 1 3 65 300),
  (71, funO (mS 1) "_netrclex._read_char" "cpy313.netrc" 273 70),
  (77, codeO "get_token" "_netrclex.get_token" 303 81 1 3 72 310),
  (78, funO (mS 2) "_netrclex.get_token" "cpy313.netrc" 273 77),
  (84, codeO "push_token" "_netrclex.push_token" 313 108 2 3 79 318),
  (85, funO (mS 3) "_netrclex.push_token" "cpy313.netrc" 273 84),
  (87, .mk (.type "dict") none (.dict #[eV P "__module__" 282 (Value.str (Str.ofString "cpy313.netrc") 273), eV P "__firstlineno__" 286 (Value.int 67 285), eR P "__init__" 294 64, eR P "_read_char" 302 71, eR P "get_token" 312 78, eR P "push_token" 320 85, eR P "__static_attributes__" 325 86, eR P "__dict__" 327 89, eR P "__weakref__" 329 90, eV P "__doc__" 330 Value.none] 4) #[]),
  (88, Obj.mk (Value.type "type") none (Data.cls (ClassData.mk (Str.ofString "_netrclex") [Value.type "object"] [Value.ref 88, Value.type "object"] 87 (Str.ofString "_netrclex") true [] [] false none false)) #[none, none, some (Value.str (Str.ofString "_netrclex") 275), some (Value.str (Str.ofString "_netrclex") 283), some (Value.builtin "object.__new__"), some (Value.bool true)]),
  (98, codeO "_law_stream" "_law_stream" 335 111 1 3 93 343),
  (99, funO (topS 11) "_law_stream" "law_rw0042_02" 333 98),
  (105, codeO "_law_octets" "_law_octets" 346 121 1 3 100 351),
  (106, funO (topS 12) "_law_octets" "law_rw0042_02" 333 105),
  (112, codeO "_law_written" "_law_written" 354 128 1 3 107 361),
  (113, funO (topS 13) "_law_written" "law_rw0042_02" 333 112),
  (117, codeN "_law_number" "_law_number" 364 138 1 3 114 367),
  (118, funO (topS 14) "_law_number" "law_rw0042_02" 333 117),
  (124, codeO "_law_pairs" "_law_pairs" 370 140 1 3 119 377),
  (125, funO (topS 15) "_law_pairs" "law_rw0042_02" 333 124),
  (131, codeO "_law_pile" "_law_pile" 380 148 2 3 126 391),
  (132, funO (topS 16) "_law_pile" "law_rw0042_02" 333 131),
  (136, codeN "law" "law" 394 168 1 3 133 397),
  (137, funO (topS 17) "law" "law_rw0042_02" 333 136)]
noncomputable def K1 (w : World) : Frag := kP w.params
noncomputable def as1 : List Addr := [3, 15, 21, 22, 28, 29, 35, 36, 42, 43, 49, 50, 63, 64, 70, 71, 77, 78, 84, 85, 87, 88, 98, 99, 105, 106, 112, 113, 117, 118, 124, 125, 131, 132, 136, 137]
theorem as1_ok (P : Params) : as1 = (kP P).map (·.1) := by kernel_rfl
noncomputable def hook1 : Hook := kmHook kP as1 as1_ok [94]
noncomputable def view1 : Program := { PySem.Challenge.pw_rw0042_02 with main := { PySem.Challenge.pw_rw0042_02.main with body := [1,2,3,5,6,7,9,11,12,13,14,15,16,17].map topS } }
noncomputable def loose1 : List Str := [Str.ofString "COMPILER_FLAG_NAMES"]
noncomputable def row1 : RowW := PySem.Challenge.rw_rw0042_02.row.toRowW
theorem left1 : LeftO PySem.Challenge.rw_rw0042_02.row.prog view1 loose1 (fun s => xlAt view1 [] s && recOk (RowW.records PySem.Challenge.rw_rw0042_02.row.toRowW) s) hook1.obs hook1.val 1952 := by
  refine LeftO.of_split "special-get-raises" ?_
  intro w
  kernel_rfl
noncomputable def recD (st : Stmt) : DefRec := ⟨dName st, dParams st, dBody st, dScope st, dPos st⟩
end Mine
open Mine
theorem Mine.hd2 (walk : WalkO view1 loose1 (XL view1 []) hook1.says PySem.Challenge.rw_rw0042_02.row.toRowW (recD (topS 17)) [] fun f vs => PySem.call f vs) : PySem.Challenge.rw_rw0042_02.Holds := by
  refine holds_law (by kernel_rfl) fun said => ?_
  refine holds_open (q := view1) (loose := loose1) (Xt := fun s => xlAt view1 [] s && recOk (RowW.records PySem.Challenge.rw_rw0042_02.row.toRowW) s) (XP := XL view1 []) (Yf := hook1.obs) (Ya := hook1.val) (YP := hook1.says) (N := 1952) left1 hook1.of hook1.keeps (fun s e => xl_of s (Bool.and_eq_true_iff.mp e).1) XL.keeps (d := recD (topS 17)) (kwd := []) (by kernel_rfl) (by kernel_rfl) (by kernel_rfl) (fun s e => recFacts_of (Bool.and_eq_true_iff.mp e).2) (by rfl) (by first | assumption | decide +kernel) (by decide +kernel) ⟨rfl, rfl, rfl, rfl, rfl, by decide +kernel⟩ ?hw walk
  w_witness2
end
section
open PySem PySem.Calls PyProof.Rows
set_option maxRecDepth 100000
namespace Mine
noncomputable def gtab1 : List (Str × Value) := [(Str.ofString "_iter_escaped_chars", .ref 36), (Str.ofString "_strip_quoted_realnames", .ref 43), (Str.ofString "_check_parenthesis", .ref 50), (Str.ofString "COMPILER_FLAG_NAMES", .ref 15), (Str.ofString "pretty_flags", .ref 22), (Str.ofString "_parse_varint", .ref 29), (Str.ofString "_netrclex", .ref 88), (Str.ofString "_law_stream", .ref 99), (Str.ofString "_law_octets", .ref 106), (Str.ofString "_law_written", .ref 113), (Str.ofString "_law_number", .ref 118), (Str.ofString "_law_pairs", .ref 125), (Str.ofString "_law_pile", .ref 132),
  (Str.ofString "range", .type "range"), (Str.ofString "enumerate", .type "enumerate"), (Str.ofString "len", .builtin "len"), (Str.ofString "chr", .builtin "chr"), (Str.ofString "ord", .builtin "ord"), (Str.ofString "hex", .builtin "hex"), (Str.ofString "sum", .builtin "sum"), (Str.ofString "min", .builtin "min"), (Str.ofString "max", .builtin "max"), (Str.ofString "iter", .builtin "iter"), (Str.ofString "next", .builtin "next")]
noncomputable def X1 (w : World) (ob : Obj) : Cx := ⟨PySem.Challenge.rw_rw0042_02.row.prog, w, ⟨gtab1, (4, ob) :: K1 w⟩⟩
noncomputable def kObj (w : World) (a : Addr) : Obj := ((K1 w).lookup a).getD default
noncomputable def kFd (w : World) (a : Addr) : FuncData := match (kObj w a).data with
  | .func fd => fd
  | _ => default
noncomputable def kDict (w : World) (a : Addr) : Array DictEntry := match (kObj w a).data with
  | .dict es _ => es
  | _ => #[]
noncomputable def kEp (w : World) (a : Addr) : Nat := match (kObj w a).data with
  | .dict _ ep => ep
  | _ => 0
noncomputable def kCls (w : World) (a : Addr) : ClassData := match (kObj w a).data with
  | .cls cd => cd
  | _ => default
noncomputable def codeName (o : Obj) : Option Str := match o.data with
  | .fields vs => (match (vs[1]? : Option Value) with
    | some (.str q _) => some q
    | _ => none)
  | _ => none
theorem codeRec_of {h : Heap} {c : Addr} {o : Obj} {q : Str} (e : h.get? c = some o) (hn : codeName o = some q) : h.CodeRec (.ref c) q := by
  unfold codeName at hn
  split at hn
  · rename_i vs hd
    split at hn
    · rename_i q' t hv
      obtain rfl := Option.some.inj hn
      exact ⟨c, o, vs, t, rfl, e, hd, hv⟩
    · exact (Option.some_ne_none _ hn.symm).elim
  · exact (Option.some_ne_none _ hn.symm).elim
section
variable {w : World} {ob : Obj}
theorem mem1 {a : Addr} {o : Obj} (e : (K1 w).lookup a = some o) : (a, o) ∈ (X1 w ob).C.objs := List.mem_cons_of_mem _ (PySem.W.mem_of_lookupK e)
theorem held1 {h : Heap} (b : Bs (X1 w ob).C h) {a : Addr} {o : Obj} (e : (K1 w).lookup a = some o) : h.get? a = some o := b.held _ (mem1 e)
theorem in1 {h : Heap} (b : Bs (X1 w ob).C h) : (K1 w).In h := fun a o e => held1 b e
theorem fn1_of {a c : Addr} {st : Stmt} (h1 : (K1 w).lookup a = some (kObj w a)) (h2 : (kObj w a).data = .func (dFd st (kFd w a).pyModule (.ref c) (kFd w a).doc)) (h3 : (K1 w).lookup c = some (kObj w c)) (h4 : codeName (kObj w c) = some (dName st)) :
    FnAt (X1 w ob) a st (kFd w a).pyModule (.ref c) (kFd w a).doc :=
  ⟨⟨_, mem1 h1, h2⟩, fun h b => codeRec_of (held1 b h3) h4⟩
theorem fg1 {a c : Addr} {i : Nat} (h0 : gtab1.lookup (dName (topS i)) = some (.ref a)) (h1 : (K1 w).lookup a = some (kObj w a)) (h2 : (kObj w a).data = .func (dFd (topS i) (kFd w a).pyModule (.ref c) (kFd w a).doc)) (h3 : (K1 w).lookup c = some (kObj w c)) (h4 : codeName (kObj w c) = some (dName (topS i))) :
    FnG (X1 w ob) i a := ⟨_, _, _, h0, fn1_of h1 h2 h3 h4⟩
theorem ns1_of {h : Heap} (b : Bs (X1 w ob).C h) {a : Addr} (h1 : (K1 w).lookup a = some (kObj w a)) {ep : Nat} (h2 : (kObj w a).data = .dict (kDict w a) ep) (h3 : (kDict w a).toList.all (fun e => match e.key with | .str _ _ => true | _ => false) = true) : h.Ns a (fun n => nsFind (kDict w a) n) := by
  refine ⟨_, _, ep, held1 b h1, h2, fun e he => ?_, fun _ => rfl⟩
  have := List.all_eq_true.mp h3 e (by simpa using he)
  split at this
  · exact ⟨_, _, by assumption⟩
  · cases this
theorem meth1 {a c : Addr} {st : Stmt} (h1 : (K1 w).lookup a = some (kObj w a)) (h2 : (kObj w a).data = .func (kFd w a)) (h2' : (kObj w a).cls = .type "function") (e1 : (kFd w a).body = .stmts (dBody st)) (e2 : (kFd w a).params = dParams st) (e3 : (kFd w a).scope = dScope st) (e4 : (kFd w a).closure = []) (e5 : (kFd w a).globals = mainGlobals) (e6 : (kFd w a).builtins = builtinsNs) (e7 : (kFd w a).defaults = .none) (e8 : (kFd w a).kwdefaults = .none)
    (e9 : (kFd w a).code = .ref c) (h3 : (K1 w).lookup c = some (kObj w c)) (h4 : codeName (kObj w c) = some (kFd w a).qualname) : MethAt (X1 w ob) a st :=
  ⟨_, _, mem1 h1, h2', h2, e1, e2, e3, e4, e5, e6, e7, e8, fun h b => by rw [e9]; exact codeRec_of (held1 b h3) h4⟩
noncomputable def lexK1 (w : World) : LexK := ⟨88, 87, fun n => nsFind (kDict w 87) n, 71, 78, 85, 64, .ref 35, Str.ofString "_iter_escaped_chars"⟩
theorem lexCls1 : LexCls (X1 w ob) (lexK1 w) where
  cls := ⟨Str.ofString "_netrclex", Str.ofString "_netrclex", (kCls w 88).bases, (kCls w 88).slotNames, (kCls w 88).subclasses, (kCls w 88).collection, (kObj w 88).dict, (kObj w 88).slots.getD 0 none, (kObj w 88).slots.getD 1 none, (kObj w 88).slots.getD 2 none, (kObj w 88).slots.getD 3 none, (kObj w 88).slots.getD 5 none, "object.__new__", mem1 (a := 88) (by kernel_rfl), F.objNew⟩
  ns := fun h b => ns1_of b (a := 87) (by kernel_rfl) (ep := kEp w 87) (by kernel_rfl) (by kernel_rfl)
  ga := by kernel_rfl
  gh := by kernel_rfl
  sa := by kernel_rfl
  own := by
    intro y hy
    revert hy; revert y; refine all4 ?_ ?_ ?_ ?_
    · kernel_rfl
    · kernel_rfl
    · kernel_rfl
    · kernel_rfl
  mR := by kernel_rfl
  mG := by kernel_rfl
  mP := by kernel_rfl
  mI := by kernel_rfl
  aI := meth1 (c := 63) (by kernel_rfl) (by kernel_rfl) (by kernel_rfl) (by kernel_rfl) (by kernel_rfl) (by kernel_rfl) (by kernel_rfl) (by kernel_rfl) (by kernel_rfl) (by kernel_rfl) (by kernel_rfl) (by kernel_rfl) (by kernel_rfl) (by kernel_rfl)
  aR := meth1 (c := 70) (by kernel_rfl) (by kernel_rfl) (by kernel_rfl) (by kernel_rfl) (by kernel_rfl) (by kernel_rfl) (by kernel_rfl) (by kernel_rfl) (by kernel_rfl) (by kernel_rfl) (by kernel_rfl) (by kernel_rfl) (by kernel_rfl) (by kernel_rfl)
  aG := meth1 (c := 77) (by kernel_rfl) (by kernel_rfl) (by kernel_rfl) (by kernel_rfl) (by kernel_rfl) (by kernel_rfl) (by kernel_rfl) (by kernel_rfl) (by kernel_rfl) (by kernel_rfl) (by kernel_rfl) (by kernel_rfl) (by kernel_rfl) (by kernel_rfl)
  aP := meth1 (c := 84) (by kernel_rfl) (by kernel_rfl) (by kernel_rfl) (by kernel_rfl) (by kernel_rfl) (by kernel_rfl) (by kernel_rfl) (by kernel_rfl) (by kernel_rfl) (by kernel_rfl) (by kernel_rfl) (by kernel_rfl) (by kernel_rfl) (by kernel_rfl)
  code := fun h b => codeRec_of (held1 b (a := 35) (o := kObj w 35) (by kernel_rfl)) (by kernel_rfl)
theorem strmFn1 (h1 : ob.cls = .type "module") (h2 : ob.dict = some builtinsNs) (h3 : ob.data = .plain) : StrmFn (X1 w ob) 99 98 94 := by
  refine ⟨_, _, by kernel_rfl, fn1_of (a := 99) (c := 98) (by kernel_rfl) (by kernel_rfl) (by kernel_rfl) (by kernel_rfl), fun h b => PySem.W.codeHd_of_K (in1 b) (by kernel_rfl), fun h mg b hn => ?_⟩
  exact ⟨4, ob, PySem.W.mg_of (in1 b) hn (by kernel_rfl), by decide, by decide, by decide, b.held (4, ob) List.mem_cons_self, h1, h2, h3⟩
theorem lawG2 : LawG2 (X1 w ob) where
  prs := ⟨125, fg1 (c := 124) (by kernel_rfl) (by kernel_rfl) (by kernel_rfl) (by kernel_rfl) (by kernel_rfl)⟩
  pil := ⟨132, fg1 (c := 131) (by kernel_rfl) (by kernel_rfl) (by kernel_rfl) (by kernel_rfl) (by kernel_rfl)⟩
end
end Mine
end
section
open PySem PySem.Calls PyProof.Rows
set_option maxRecDepth 100000
namespace Mine
section
variable {w : World} {ob : Obj}
theorem intTab1 : IntTab (X1 w ob) (Str.ofString "COMPILER_FLAG_NAMES") flagName := by
  refine ⟨15, fun k => findBy Value.isInt (kDict w 15) k, by kernel_rfl, by decide, fun h b => ?_, fun k => ?_⟩
  · have hk : (kDict w 15).toList.all (fun e => match e.key with | .int i _ => e.hash == hashInt i | _ => false) = true := by kernel_rfl
    refine ⟨kObj w 15, kDict w 15, kEp w 15, held1 b (by kernel_rfl), ⟨by kernel_rfl, by kernel_rfl, by kernel_rfl⟩, by kernel_rfl, fun e he => ?_, fun _ => rfl⟩
    have := List.all_eq_true.mp hk e (by simpa using he)
    split at this
    · rename_i i t hi
      exact ⟨i, by rw [hi]; show (i == i) = true; simp, (by simpa using this : e.hash = hashInt i)⟩
    · cases this
  · by_cases h0 : k = 1; · subst h0; exact ⟨190, by kernel_rfl⟩
    by_cases h1 : k = 2; · subst h1; exact ⟨192, by kernel_rfl⟩
    by_cases h2 : k = 4; · subst h2; exact ⟨194, by kernel_rfl⟩
    by_cases h3 : k = 8; · subst h3; exact ⟨196, by kernel_rfl⟩
    by_cases h4 : k = 16; · subst h4; exact ⟨198, by kernel_rfl⟩
    by_cases h5 : k = 32; · subst h5; exact ⟨200, by kernel_rfl⟩
    by_cases h6 : k = 64; · subst h6; exact ⟨202, by kernel_rfl⟩
    by_cases h7 : k = 128; · subst h7; exact ⟨204, by kernel_rfl⟩
    by_cases h8 : k = 256; · subst h8; exact ⟨206, by kernel_rfl⟩
    by_cases h9 : k = 512; · subst h9; exact ⟨208, by kernel_rfl⟩
    have e1 : flagName k = none := by
      unfold flagName flagTab
      simp [List.lookup, h0, h1, h2, h3, h4, h5, h6, h7, h8, h9]
      have hb : ∀ c : Int, k ≠ c → (k == c) = false := fun c h => by simpa using h
      simp [hb _ h0, hb _ h1, hb _ h2, hb _ h3, hb _ h4, hb _ h5, hb _ h6, hb _ h7, hb _ h8, hb _ h9]
    rw [e1]
    show findBy Value.isInt (kDict w 15) k = none
    have hk : (kDict w 15).toList.all (fun e => match e.key with | .int i _ => [1, 2, 4, 8, 16, 32, 64, 128, 256, 512].contains i | _ => true) = true := by kernel_rfl
    unfold findBy
    rw [Option.map_eq_none_iff, Array.find?_eq_none]
    intro e he
    have := List.all_eq_true.mp hk e (by simpa using he)
    intro hh
    obtain ⟨t, ht⟩ := Value.isInt_shape hh
    rw [ht] at this
    simp [h0, h1, h2, h3, h4, h5, h6, h7, h8, h9] at this
theorem lawGr1 : LawG (X1 w ob) (lexK1 w) where
  esc := ⟨36, fg1 (c := 35) (by kernel_rfl) (by kernel_rfl) (by kernel_rfl) (by kernel_rfl) (by kernel_rfl)⟩
  strip := ⟨43, fg1 (c := 42) (by kernel_rfl) (by kernel_rfl) (by kernel_rfl) (by kernel_rfl) (by kernel_rfl)⟩
  chk := ⟨50, fg1 (c := 49) (by kernel_rfl) (by kernel_rfl) (by kernel_rfl) (by kernel_rfl) (by kernel_rfl)⟩
  flags := intTab1
  pf := ⟨22, fg1 (c := 21) (by kernel_rfl) (by kernel_rfl) (by kernel_rfl) (by kernel_rfl) (by kernel_rfl)⟩
  vi := ⟨29, fg1 (c := 28) (by kernel_rfl) (by kernel_rfl) (by kernel_rfl) (by kernel_rfl) (by kernel_rfl)⟩
  cls := by kernel_rfl
  oct := ⟨106, fg1 (c := 105) (by kernel_rfl) (by kernel_rfl) (by kernel_rfl) (by kernel_rfl) (by kernel_rfl)⟩
  wri := ⟨113, fg1 (c := 112) (by kernel_rfl) (by kernel_rfl) (by kernel_rfl) (by kernel_rfl) (by kernel_rfl)⟩
  num := ⟨118, fg1 (c := 117) (by kernel_rfl) (by kernel_rfl) (by kernel_rfl) (by kernel_rfl) (by kernel_rfl)⟩
  range := by kernel_rfl
  enum := by kernel_rfl
  len := by kernel_rfl
  chr := by kernel_rfl
  ord := by kernel_rfl
  hex := by kernel_rfl
  sum := by kernel_rfl
  min := by kernel_rfl
  max := by kernel_rfl
  iter := by kernel_rfl
  next := by kernel_rfl
theorem fnLaw1 : FnAt (X1 w ob) 137 law1S (kFd w 137).pyModule (.ref 136) (kFd w 137).doc := fn1_of (by kernel_rfl) (by kernel_rfl) (by kernel_rfl) (by kernel_rfl)
end
end Mine
end
section
open PySem PySem.Calls PyProof.Rows
set_option maxRecDepth 100000
namespace Mine
noncomputable def nodupB : List Nat → Bool
  | [] => true
  | a :: l => !(l.contains a) && nodupB l
theorem nodupB_1 : nodupB [] = true := by intros; rfl
theorem nodupB_2 : ∀ (a : Nat) (l : List Nat), nodupB (a :: l) = (!l.contains a && nodupB l) := by intros; rfl
theorem lookup_nd {α : Type} : ∀ {l : List (Nat × α)}, nodupB (l.map (·.1)) = true → ∀ p ∈ l, l.lookup p.1 = some p.2
  | [], _, p, hp => by cases hp
  | (a, x) :: l, h, p, hp => by
    simp only [List.map_cons, nodupB_1, nodupB_2, Bool.and_eq_true, Bool.not_eq_true'] at h
    rcases List.mem_cons.mp hp with rfl | hp
    · simp [List.lookup]
    · have hne : (p.1 == a) = false := by
        cases hh : p.1 == a with
        | false => rfl
        | true =>
          have e : p.1 = a := by simpa using hh
          have : (l.map (·.1)).contains a = true := by simp; exact ⟨p.2, by rw [← e]; exact hp⟩
          rw [this] at h; cases h.1
      rw [List.lookup_cons, hne]
      exact lookup_nd h.2 p hp
section
variable {w : World} {ob : Obj} {h : Heap} {mg mb : Str → Option Value}
theorem bs1 (hN : h.NoLimit) (hg : h.Ns mainGlobals mg) (hb : h.Ns builtinsNs mb) (hbt : ∀ x : Str, x ≠ "__name__" → mb x = bootBuiltins x) (KX : (K1 w).In h) (KT : h.get? 94 = some (PySem.W.tabObj #[])) (ho : h.get? 4 = some ob) : Bs (X1 w ob).C (eraseH h [94]) := by
  refine ⟨?_, fun p hp => ?_, mg, mb, Ns_erase hg KT, Ns_erase hb KT, fun x v e => ?_⟩
  · obtain ⟨mc, h1, h2⟩ := hN
    exact ⟨mc, Ns_erase h1 KT, h2⟩
  · have hnd : nodupB ((K1 w).map (·.1)) = true := by kernel_rfl
    have h94 : ((K1 w).map (·.1)).contains 94 = false := by kernel_rfl
    rcases List.mem_cons.mp hp with rfl | hp
    · rw [get?_erase, if_neg (by decide : ¬ (4 : Nat) ∈ [94])]; exact ho
    · have hne : p.1 ≠ 94 := fun hh => by
        have : ((K1 w).map (·.1)).contains 94 = true := by simp; exact ⟨p.2, by rw [← hh]; exact hp⟩
        rw [h94] at this; cases this
      rw [get?_erase, if_neg (by simpa using hne)]
      exact KX _ _ (lookup_nd hnd p hp)
  · have key : ∀ p ∈ gtab1, mg p.1 = some p.2 ∨ mg p.1 = none ∧ mb p.1 = some p.2 := by
      unfold gtab1
      iterate 13 (refine List.forall_mem_cons.mpr ⟨.inl (PySem.W.mg_of KX hg (by kernel_rfl)), ?_⟩)
      iterate 11 (refine List.forall_mem_cons.mpr ⟨.inr ⟨PySem.W.mg_none_of KX hg (by kernel_rfl), (hbt _ (by decide)).trans (by kernel_rfl)⟩, ?_⟩)
      exact fun _ hm => nomatch hm
    exact key _ (mem_of_lookup e)
end
end Mine
end
open PySem PySem.W PyProof.Rows Mine
set_option maxRecDepth 100000
set_option maxHeartbeats 8000000
theorem Mine.claimA {s₁ s' : Shared} {v : Value} (x : LawDone 94 s₁ s' v) (hT : s₁.heap.get? 94 = some (PySem.W.tabObj #[])) (hC : PySem.W.CodeHd s₁.heap 98 94) : OldK s₁.heap s'.heap := by
  obtain ⟨ps, hps⟩ := x.tab
  refine ⟨fun b o e => ?_, fun b o e => ?_⟩
  · by_cases hb : b = 94
    · subst hb
      obtain rfl := Option.some.inj (hT.symm.trans e)
      exact .inr (.inl ⟨(hC.tab hT).isCodeTable, rfl, #[], ps, rfl, by rw [Array.empty_append]; exact hps⟩)
    · exact .inl (x.keep b o hb e)
  · by_cases hb : b = 94
    · subst hb; exact ⟨_, hps⟩
    · exact ⟨o, x.keep b o hb e⟩
theorem PySem.Challenge.cw_rw0042_02_holds : PySem.Challenge.rw_rw0042_02.Holds :=
  Mine.hd2 (by
  intro w s₀ s₁ mg mb G Y fa o pm cd doc dV kV ho hd hcd hD hmg hg args vals as hpre hlay hrd hwl hlo
  have KX := km_in_of Y
  have KT := km_tabs_of Y 94 (by (exact .head _))
  have T := G.T
  obtain ⟨bm, ob, b1, b2, b3, b4, b5, b6⟩ := T.bmain
  have b7 : mg "__builtins__" = some (.ref 4) := PySem.W.mg_of KX T.g (by kernel_rfl)
  rw [b1] at b7
  cases b7
  have h137 : mg (Str.ofString "law") = some (.ref 137) := PySem.W.mg_of KX T.g (by kernel_rfl)
  have hmg2 : mg (Str.ofString "law") = some (.ref fa) := hmg
  rw [h137] at hmg2
  cases hmg2
  have hbs := Mine.bs1 (w := w) (ob := ob) T.nolimit T.g T.b T.builtins KX KT b3
  clear hcd hmg ho
  wrow_args hpre hlay hrd hwl hlo
  rename_i ns _ _ _ _ _ _ _ l vs _ hL _ _ _ hI _ hn _
  have hr : VR s₁.heap (.lst (ns.map .int)) (.ref l) := VR.ofLst hL (VRs.ofInts hI)
  have hbare : AllBare s₁.gens := AllBare.of_eq hg
  have hA : AOk callerA (3 + 7) := ⟨rfl, by decide, by decide⟩
  have hC : PySem.W.CodeHd s₁.heap 98 94 := PySem.W.codeHd_of_K KX (by kernel_rfl)
  have h := law2_call (n := 3) (X := X1 w ob) (K := lexK1 w) all_plain2 lawGr1 lawG2 lexCls1 (strmFn1 b4 b5 b6) fnLaw1 (ns := ns) (by omega) hA hbs hbare KT hr
  refine wpAny_call ?_
  refine codeAny_mono h fun res s' hq1 => ?_
  obtain ⟨v, e, x⟩ := hq1
  subst e
  exact ⟨.inl ⟨v, .bool true, [], rfl, fun _ => rfl, by rw [x.ok]; exact .bool true, by kernel_rfl, fun _ => ⟨List.nodup_nil, by simp⟩⟩, claimA x KT hC, x.os, x.bare⟩)
