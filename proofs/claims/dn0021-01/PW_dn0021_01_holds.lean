import PyProof.Rows.All
import Wide.All
import OpenK.AllK
import Wide.FinOn
import PyProof.IsInstance
import PyProof.EnumStmt
import KE.KRevIter
import KE.KNest
import PyProof.TypeEq
import PyProof.Rows.SetFrom
import KE.KDictList
import PyProof.NeKinds
import PyProof.SliceMore
import PySem.Challenge.RW_dn0021_01
/-! part M1 -/
set_option Elab.async false
set_option maxRecDepth 100000
namespace Mine
open PySem PySem.Calls PySem.W PyProof.Rows

/-! ## what an object is -/
abbrev Pr := Obj → Prop
abbrev Fs := List (Addr × Pr)
def isL (xs : List Value) : Pr := fun o => ∃ n, o = { cls := .type "list", dict := none, data := .seq xs.toArray n, slots := #[] }
def isT (xs : List Value) : Pr := fun o => ∃ n, o = { cls := .type "tuple", dict := none, data := .seq xs.toArray n, slots := #[] }
def isLI (l : Addr) (i : Nat) : Pr := fun o => o.cls = .type "list_iterator" ∧ o.data = .fields #[.ref l, .int i 0]
def isTI (t : Addr) (i : Nat) : Pr := fun o => o.cls = .type "tuple_iterator" ∧ o.data = .fields #[.ref t, .int i 0]
def isC (v : Option Value) : Pr := fun o => o.data = .cell v
def isNs (m : Str → Option Value) : Pr := fun o => ∃ es ep, o.data = .dict es ep ∧ StrKeys es ∧ ∀ name, nsFind es name = m name
def loc (l : List (Str × Value)) : Pr := fun o => ∃ m, isNs m o ∧ ∀ p ∈ l, m p.1 = some p.2
def anyO : Pr := fun _ => True
def is (o : Obj) : Pr := fun o' => o' = o

/-! ## the fifteen classes -/
def nm (k : Nat) : String := ["object", "int", "bool", "str", "list", "BaseException", "Exception", "ArithmeticError", "ZeroDivisionError", "LookupError", "KeyError", "ValueError", "UnicodeError", "BaseExceptionGroup", "ExceptionGroup"].getD k "object"
def cl (k : Nat) : Value := .type (nm k)
def way (k : Nat) : List Nat := [[0], [1, 0], [2, 1, 0], [3, 0], [4, 0], [5, 0], [6, 5, 0], [7, 6, 5, 0], [8, 7, 6, 5, 0], [9, 6, 5, 0], [10, 9, 6, 5, 0], [11, 6, 5, 0], [12, 11, 6, 5, 0], [13, 5, 0], [14, 13, 6, 5, 0]].getD k [0]
def up (k : Nat) : List Nat := [[], [0], [1], [0], [0], [0], [5], [6], [7], [6], [9], [6], [11], [5], [13, 6]].getD k []
def mroKey (n : String) : Str := s!"type.{"__mro__"}:{n}"
def basesKey (n : String) : Str := s!"type.{"__bases__"}:{n}"

/-- what the statics may hold -/
def KV (ps : Fs) (key : Str) (v : Value) : Prop :=
  (∃ k a, k < 15 ∧ key = mroKey (nm k) ∧ v = .ref a ∧ (a, isT ((way k).map cl)) ∈ ps) ∨
  (∃ k a, k < 15 ∧ key = basesKey (nm k) ∧ v = .ref a ∧ (a, isT ((up k).map cl)) ∈ ps)
theorem KV.mono {ps ps' : Fs} (hs : ∀ p ∈ ps, p ∈ ps') {key v} : KV ps key v → KV ps' key v
  | .inl ⟨k, a, h1, h2, h3, h4⟩ => .inl ⟨k, a, h1, h2, h3, hs _ h4⟩
  | .inr ⟨k, a, h1, h2, h3, h4⟩ => .inr ⟨k, a, h1, h2, h3, hs _ h4⟩

/-- what the code table of the composing function may hold -/
def isCodeQ (q : Str) : Pr := fun o => ∃ vs t, o.data = .fields vs ∧ vs[1]? = some (.str q t)
def TabV (ps : Fs) (vs : Array Value) : Prop :=
  TriplesOk vs.toList ∧ ∀ cv, codeAmong ⟨49, 4, 50, 124⟩ vs.toList = some cv → ∃ a, cv = .ref a ∧ (a, isCodeQ "_compose_mro.<locals>.is_related") ∈ ps
theorem TabV.mono {ps ps' : Fs} (hs : ∀ p ∈ ps, p ∈ ps') {vs} (x : TabV ps vs) : TabV ps' vs := ⟨x.1, fun cv h => let ⟨a, e, m⟩ := x.2 cv h; ⟨a, e, hs _ m⟩⟩

structure BOk (B : Heap) : Prop where
  top : ∃ b o, B.get? b = some o ∧ B.objs.size = b + 1 ∧ b ≠ 2 ∧ b ≠ 37
  low : 38 ≤ B.objs.size
  st : ∃ o, B.get? 2 = some o

structure Base (B h : Heap) (ps : Fs) : Prop where
  ok : BOk B
  keep : ∀ b o, B.get? b = some o → b ≠ 2 → b ≠ 37 → h.get? b = some o
  stat : ∃ o m, h.get? 2 = some o ∧ o.cls = .none ∧ isNs m o ∧ ∀ key v, m key = some v → KV ps key v
  tab : ∃ vs, h.get? 37 = some (X.tableObj vs) ∧ TabV ps vs

structure St (B h : Heap) (ps fs : Fs) : Prop where
  base : Base B h ps
  at_ : ∀ p ∈ ps ++ fs, ∃ o, h.get? p.1 = some o ∧ p.2 o
  new : ∀ p ∈ ps ++ fs, B.objs.size ≤ p.1
  nd : ((ps ++ fs).map (·.1)).Nodup

section
variable {B h h' : Heap} {ps fs fs' : Fs} {a : Addr} {P P' : Pr}
theorem Base.size (x : Base B h ps) : B.objs.size ≤ h.objs.size := by
  obtain ⟨b, o, e, hs, h1, h2⟩ := x.ok.top
  rw [hs]; exact Heap.lt_size (x.keep b o e h1 h2)
theorem St.lt (D : St B h ps fs) (hm : (a, P) ∈ ps ++ fs) : a < h.objs.size := let ⟨_, e, _⟩ := D.at_ _ hm; Heap.lt_size e
theorem St.get (D : St B h ps fs) (hm : (a, P) ∈ ps ++ fs) : ∃ o, h.get? a = some o ∧ P o := D.at_ _ hm
theorem St.getF (D : St B h ps fs) (hm : (a, P) ∈ fs) : ∃ o, h.get? a = some o ∧ P o := D.at_ _ (List.mem_append_right _ hm)
theorem St.getP (D : St B h ps fs) (hm : (a, P) ∈ ps) : ∃ o, h.get? a = some o ∧ P o := D.at_ _ (List.mem_append_left _ hm)
theorem St.ge (D : St B h ps fs) (hm : (a, P) ∈ ps ++ fs) : B.objs.size ≤ a := D.new _ hm
theorem St.ne_low (D : St B h ps fs) (hm : (a, P) ∈ ps ++ fs) : a ≠ 2 ∧ a ≠ 37 := by
  have h1 : 38 ≤ a := Nat.le_trans D.base.ok.low (D.new _ hm)
  exact ⟨Nat.ne_of_gt (Nat.lt_of_lt_of_le (by decide) h1), Nat.ne_of_gt (Nat.lt_of_lt_of_le (by decide) h1)⟩

theorem St.push (D : St B h ps fs) {o : Obj} (hP : P o) (hf : o.isFreed = false := by rfl) : St B (h.push o) ps ((h.objs.size, P) :: fs) := by
  refine ⟨⟨D.base.ok, fun b o' e h1 h2 => Heap.get?_push_of_some _ (D.base.keep b o' e h1 h2), ?_, ?_⟩, ?_, ?_, ?_⟩
  · obtain ⟨o', m, e, r⟩ := D.base.stat; exact ⟨o', m, Heap.get?_push_of_some _ e, r⟩
  · obtain ⟨vs, e, tv⟩ := D.base.tab; exact ⟨vs, Heap.get?_push_of_some _ e, tv⟩
  · intro p hp
    rcases List.mem_append.mp hp with q | q
    · obtain ⟨o', e, r⟩ := D.at_ p (List.mem_append_left _ q); exact ⟨o', Heap.get?_push_of_some _ e, r⟩
    · rcases List.mem_cons.mp q with rfl | q
      · exact ⟨o, Heap.get?_push_size _ hf, hP⟩
      · obtain ⟨o', e, r⟩ := D.at_ p (List.mem_append_right _ q); exact ⟨o', Heap.get?_push_of_some _ e, r⟩
  · intro p hp
    rcases List.mem_append.mp hp with q | q
    · exact D.new p (List.mem_append_left _ q)
    · rcases List.mem_cons.mp q with rfl | q
      · exact D.base.size
      · exact D.new p (List.mem_append_right _ q)
  · have hn : h.objs.size ∉ (ps ++ fs).map (·.1) := fun hm => by
      obtain ⟨p, hp, e⟩ := List.mem_map.mp hm
      exact absurd (D.lt (a := p.1) (P := p.2) hp) (by rw [e]; exact Nat.lt_irrefl _)
    have : ((ps ++ (h.objs.size, P) :: fs).map (·.1)).Perm (h.objs.size :: (ps ++ fs).map (·.1)) := by
      rw [List.map_append, List.map_cons, List.map_append]; exact List.perm_middle
    exact this.nodup_iff.mpr (List.nodup_cons.mpr ⟨hn, D.nd⟩)

theorem St.keeps (D : St B h ps fs) (hk : ∀ b o, h.get? b = some o → h'.get? b = some o) : St B h' ps fs :=
  ⟨⟨D.base.ok, fun b o e h1 h2 => hk _ _ (D.base.keep b o e h1 h2), let ⟨o, m, e, r⟩ := D.base.stat; ⟨o, m, hk _ _ e, r⟩, let ⟨vs, e, tv⟩ := D.base.tab; ⟨vs, hk _ _ e, tv⟩⟩,
   fun p hp => let ⟨o, e, r⟩ := D.at_ p hp; ⟨o, hk _ _ e, r⟩, D.new, D.nd⟩

theorem St.sub (D : St B h ps fs) (hs : fs'.Sublist fs) : St B h ps fs' :=
  have hm : ∀ p ∈ ps ++ fs', p ∈ ps ++ fs := fun p hp => (List.mem_append.mp hp).elim (List.mem_append_left _) fun q => List.mem_append_right _ (hs.subset q)
  ⟨D.base, fun p hp => D.at_ p (hm p hp), fun p hp => D.new p (hm p hp), D.nd.sublist (((List.Sublist.refl ps).append hs).map _)⟩
theorem St.perm (D : St B h ps fs) (hp : fs'.Perm fs) : St B h ps fs' :=
  have q : (ps ++ fs').Perm (ps ++ fs) := hp.append_left ps
  ⟨D.base, fun p hp => D.at_ p (q.subset hp), fun p hp => D.new p (q.subset hp), (q.map _).nodup_iff.mpr D.nd⟩

theorem St.inj (D : St B h ps fs) {p q : Addr × Pr} (hp : p ∈ ps ++ fs) (hq : q ∈ ps ++ fs) (e : p.1 = q.1) : p = q := by
  have nd := D.nd
  generalize ps ++ fs = l at *
  induction l with
  | nil => cases hp
  | cons x r ih =>
    rw [List.map_cons, List.nodup_cons] at nd
    rcases List.mem_cons.mp hp with h1 | h1
    · rcases List.mem_cons.mp hq with h2 | h2
      · rw [h1, h2]
      · exact absurd (List.mem_map.mpr ⟨q, h2, by rw [← e, h1]⟩) nd.1
    · rcases List.mem_cons.mp hq with h2 | h2
      · exact absurd (List.mem_map.mpr ⟨p, h1, by rw [e, h2]⟩) nd.1
      · exact ih h1 h2 nd.2
theorem St.ne (D : St B h ps fs) {i j : Nat} {b : Addr} {Pb : Pr} (hi : fs[i]? = some (a, P)) (hj : fs[j]? = some (b, Pb)) (ij : i ≠ j) : a ≠ b := by
  have nd := D.nd
  rw [List.map_append, List.nodup_append] at nd
  have nd2 := nd.2.1
  intro e
  obtain ⟨li, ei⟩ := List.getElem?_eq_some_iff.mp hi
  obtain ⟨lj, ej⟩ := List.getElem?_eq_some_iff.mp hj
  have hii : i < (fs.map (·.1)).length := by rw [List.length_map]; exact li
  have hjj : j < (fs.map (·.1)).length := by rw [List.length_map]; exact lj
  have pw := List.pairwise_iff_getElem.mp nd2
  rcases Nat.lt_or_gt_of_ne ij with q | q
  · have := pw i j hii hjj q
    rw [List.getElem_map, List.getElem_map, ei, ej] at this; exact this e
  · have := pw j i hjj hii q
    rw [List.getElem_map, List.getElem_map, ei, ej] at this; exact this e.symm
theorem St.nePs (D : St B h ps fs) {b : Addr} {Pb : Pr} (hi : (a, P) ∈ ps) (hj : (b, Pb) ∈ fs) : a ≠ b := by
  have nd := D.nd
  rw [List.map_append, List.nodup_append] at nd
  exact nd.2.2 a (List.mem_map.mpr ⟨_, hi, rfl⟩) b (List.mem_map.mpr ⟨_, hj, rfl⟩)

/-- one entry alone is changed -/
theorem St.same (D : St B h ps fs) {i : Nat} (hi : fs[i]? = some (a, P)) (hs : Heap.ExtBut a h h') (hn : ∃ o, h'.get? a = some o ∧ P' o) : St B h' ps (fs.set i (a, P')) := by
  have hmi : (a, P) ∈ fs := List.mem_of_getElem? hi
  have hlow := D.ne_low (List.mem_append_right ps hmi)
  have hge := D.new _ (List.mem_append_right ps hmi)
  refine ⟨⟨D.base.ok, fun b o e h1 h2 => hs b o (fun q => ?_) (D.base.keep b o e h1 h2), ?_, ?_⟩, fun p hp => ?_, fun p hp => ?_, ?_⟩
  · exact absurd (Heap.lt_size e) (Nat.not_lt.mpr (by rw [q]; exact hge))
  · obtain ⟨o, m, e, r⟩ := D.base.stat; exact ⟨o, m, hs _ _ (Ne.symm hlow.1) e, r⟩
  · obtain ⟨vs, e, tv⟩ := D.base.tab; exact ⟨vs, hs _ _ (Ne.symm hlow.2) e, tv⟩
  · rcases List.mem_append.mp hp with q | q
    · obtain ⟨o, e, r⟩ := D.at_ p (List.mem_append_left _ q)
      exact ⟨o, hs _ _ (D.nePs (P := p.2) q hmi) e, r⟩
    · obtain ⟨j, hj⟩ := List.getElem?_of_mem q
      rw [List.getElem?_set] at hj
      by_cases ij : i = j
      · rw [if_pos ij] at hj
        split at hj
        · cases hj; exact hn
        · cases hj
      · rw [if_neg ij] at hj
        have hpm : p ∈ fs := List.mem_of_getElem? hj
        obtain ⟨o, e, r⟩ := D.at_ p (List.mem_append_right _ hpm)
        exact ⟨o, hs _ _ (Ne.symm (D.ne hi hj ij)) e, r⟩
  · rcases List.mem_append.mp hp with q | q
    · exact D.new p (List.mem_append_left _ q)
    · rcases List.mem_or_eq_of_mem_set q with q | rfl
      · exact D.new p (List.mem_append_right _ q)
      · exact hge
  · have : (ps ++ fs.set i (a, P')).map (·.1) = (ps ++ fs).map (·.1) := by
      rw [List.map_append, List.map_append, List.map_set]
      congr 1
      have : (fs.map (·.1))[i]? = some a := by rw [List.getElem?_map, hi]; rfl
      exact X.set_same this
    rw [this]; exact D.nd

/-- one entry is lost -/
theorem St.lose (D : St B h ((ps)) ((a, P) :: fs)) (hs : Heap.ExtBut a h h') : St B h' ps fs := by
  have hmi : (a, P) ∈ (a, P) :: fs := .head _
  have hlow := D.ne_low (List.mem_append_right ps hmi)
  have hge := D.new _ (List.mem_append_right ps hmi)
  have D' := D.sub (List.sublist_cons_self (a, P) fs)
  refine ⟨⟨D.base.ok, fun b o e h1 h2 => hs b o (fun q => ?_) (D.base.keep b o e h1 h2), ?_, ?_⟩, fun p hp => ?_, D'.new, D'.nd⟩
  · exact absurd (Heap.lt_size e) (Nat.not_lt.mpr (by rw [q]; exact hge))
  · obtain ⟨o, m, e, r⟩ := D.base.stat; exact ⟨o, m, hs _ _ (Ne.symm hlow.1) e, r⟩
  · obtain ⟨vs, e, tv⟩ := D.base.tab; exact ⟨vs, hs _ _ (Ne.symm hlow.2) e, tv⟩
  · obtain ⟨o, e, r⟩ := D'.at_ p hp
    refine ⟨o, hs _ _ (fun q => ?_) e, r⟩
    rcases List.mem_append.mp hp with z | z
    · exact D.nePs (P := p.2) z hmi q
    · obtain ⟨j, hj⟩ := List.getElem?_of_mem z
      exact D.ne (i := 0) (j := j + 1) (b := p.1) (Pb := p.2) rfl hj (by omega) q.symm
/-- an entry is read only from now on -/
theorem St.freeze (D : St B h ps ((a, P) :: fs)) : St B h ((a, P) :: ps) fs := by
  have q : ((a, P) :: (ps ++ fs)).Perm (ps ++ (a, P) :: fs) := List.perm_middle.symm
  exact ⟨⟨D.base.ok, D.base.keep, let ⟨o, m, e, c, n, r⟩ := D.base.stat; ⟨o, m, e, c, n, fun k v x => (r k v x).mono fun _ => List.mem_cons_of_mem _⟩, let ⟨vs, e, tv⟩ := D.base.tab; ⟨vs, e, tv.mono fun _ => List.mem_cons_of_mem _⟩⟩,
    fun p hp => D.at_ p (q.subset hp), fun p hp => D.new p (q.subset hp), (q.map _).nodup_iff.mpr D.nd⟩
theorem St.imp (D : St B h ps fs) {i : Nat} (hi : fs[i]? = some (a, P)) (hP : ∀ o, P o → P' o) : St B h ps (fs.set i (a, P')) :=
  D.same hi (Heap.ExtBut.refl _ _) (let ⟨o, e, r⟩ := D.getF (List.mem_of_getElem? hi); ⟨o, e, hP o r⟩)
end

/-! ## reading the entries as the library says them -/
section
variable {B h : Heap} {ps fs : Fs} {a : Addr}
theorem St.list {xs : List Value} (D : St B h ps fs) (hm : (a, isL xs) ∈ ps ++ fs) : h.IsList a xs.toArray := let ⟨o, e, n, d⟩ := D.get hm; ⟨o, e, by rw [d], n, by rw [d]⟩
theorem St.plain {xs : List Value} (D : St B h ps fs) (hm : (a, isL xs) ∈ ps ++ fs) : h.PlainList a xs.toArray := let ⟨o, e, n, d⟩ := D.get hm; ⟨n, by rw [e, d]⟩
theorem St.objL {xs : List Value} (D : St B h ps fs) (hm : (a, isL xs) ∈ ps ++ fs) : ∃ n, h.get? a = some { cls := .type "list", dict := none, data := .seq xs.toArray n, slots := #[] } := let ⟨o, e, n, d⟩ := D.get hm; ⟨n, by rw [← d]; exact e⟩
theorem St.objT {xs : List Value} (D : St B h ps fs) (hm : (a, isT xs) ∈ ps ++ fs) : ∃ n, h.get? a = some { cls := .type "tuple", dict := none, data := .seq xs.toArray n, slots := #[] } := let ⟨o, e, n, d⟩ := D.get hm; ⟨n, by rw [← d]; exact e⟩
theorem St.tup {xs : List Value} (D : St B h ps fs) (hm : (a, isT xs) ∈ ps ++ fs) : h.IsTuple a xs.toArray := let ⟨o, e, n, d⟩ := D.get hm; ⟨o, e, by rw [d], n, by rw [d]⟩
theorem St.li {l : Addr} {i : Nat} (D : St B h ps fs) (hm : (a, isLI l i) ∈ ps ++ fs) : h.IsListIter a l i := let ⟨o, e, c, d⟩ := D.get hm; ⟨o, e, c, d⟩
theorem St.ti {l : Addr} {i : Nat} (D : St B h ps fs) (hm : (a, isTI l i) ∈ ps ++ fs) : h.IsTupleIter a l i := let ⟨o, e, c, d⟩ := D.get hm; ⟨o, e, c, d⟩
theorem St.cell {v : Option Value} (D : St B h ps fs) (hm : (a, isC v) ∈ ps ++ fs) : h.IsCell a v := let ⟨o, e, d⟩ := D.get hm; ⟨o, e, d⟩
theorem St.ns {l : List (Str × Value)} (D : St B h ps fs) (hm : (a, loc l) ∈ ps ++ fs) : ∃ m, h.Ns a m ∧ ∀ p ∈ l, m p.1 = some p.2 :=
  let ⟨o, e, m, ⟨es, ep, d, k, f⟩, r⟩ := D.get hm; ⟨m, ⟨o, es, ep, e, d, k, f⟩, r⟩
theorem St.nolimit (D : St B h ps fs) (hno : ∀ v, ¬ KV ps "sys.recursionlimit" v) : h.NoLimit := by
  obtain ⟨o, m, e, c, ⟨es, ep, d, k, f⟩, r⟩ := D.base.stat
  refine ⟨m, ⟨o, es, ep, e, d, k, f⟩, ?_⟩
  cases q : m "sys.recursionlimit" with
  | none => rfl
  | some v => exact absurd (r _ _ q) (hno v)
end

theorem nm_lt : ∀ k, k < 15 → (mroKey (nm k) ≠ ("sys.recursionlimit" : Str) ∧ basesKey (nm k) ≠ ("sys.recursionlimit" : Str)) := by decide +kernel
theorem KV.no_rec {ps : Fs} (v : Value) : ¬ KV ps "sys.recursionlimit" v := by
  rintro (⟨k, a, h1, h2, _⟩ | ⟨k, a, h1, h2, _⟩)
  · exact (nm_lt k h1).1 h2.symm
  · exact (nm_lt k h1).2 h2.symm
theorem St.nl {B h : Heap} {ps fs : Fs} (D : St B h ps fs) : h.NoLimit := D.nolimit KV.no_rec
end Mine
/-! part M2 -/
set_option Elab.async false
set_option maxRecDepth 100000
namespace Mine
open PySem PySem.Calls PySem.W PyProof.Rows

/-- the state at hand: r is the law's first state -/
structure On (r s : Shared) (ps fs : Fs) : Prop where
  st : St r.heap s.heap ps fs
  gens : s.gens = r.gens
  os : s.os = r.os

structure EnvIs (env : Env) (sc : Scope) (L : Addr) (cells : List (Str × Addr)) : Prop where
  scope : env.scope = sc
  locals : env.locals = L
  globals : env.globals = 3
  cells : env.cells = cells
  builtins : env.builtins = 0
theorem EnvIs.kind {env : Env} {sc : Scope} {L : Addr} {cells : List (Str × Addr)} (H : EnvIs env sc L cells) {x : Str} {k : NameKind} (h : sc.names.lookup x = some k) : env.kindOf x = some k := by
  unfold Env.kindOf; rw [H.scope]; exact h

/-- a name of the module's, a name of the built-ins' -/
def Glob (B : Heap) (x : Str) (v : Value) : Prop := ∃ mg, B.Ns 3 mg ∧ mg x = some v
def Blt (B : Heap) (x : Str) (v : Value) : Prop := (∃ mg, B.Ns 3 mg ∧ mg x = none) ∧ ∃ mb, B.Ns 0 mb ∧ mb x = some v

theorem ns_of_base {B h : Heap} {ps : Fs} {a : Addr} {m} (x : Base B h ps) (h2 : a ≠ 2) (h37 : a ≠ 37) (n : B.Ns a m) : h.Ns a m :=
  let ⟨o, es, ep, e, r⟩ := n; ⟨o, es, ep, x.keep _ _ e h2 h37, r⟩

def put (x : Str) (v : Value) (l : List (Str × Value)) : List (Str × Value) := (x, v) :: l.filter (fun p => decide (p.1 ≠ x))

section
variable {prog : Program} {w : World} {A : Around} {E : Value → Shared → Prop} {r s : Shared} {ps fs : Fs} {env : Env} {sc : Scope} {L : Addr} {cells : List (Str × Addr)}

theorem On.with_heap (D : On r s ps fs) {h' : Heap} {t : Nat} {ps' fs' : Fs} (d : St r.heap h' ps' fs') : On r { s with heap := h', toks := t } ps' fs' := ⟨d, D.gens, D.os⟩
theorem On.tok (D : On r s ps fs) {t : Nat} : On r { s with toks := t } ps fs := ⟨D.st, D.gens, D.os⟩
theorem On.sub (D : On r s ps fs) {fs' : Fs} (h : fs'.Sublist fs) : On r s ps fs' := ⟨D.st.sub h, D.gens, D.os⟩
theorem On.perm (D : On r s ps fs) {fs' : Fs} (h : fs'.Perm fs) : On r s ps fs' := ⟨D.st.perm h, D.gens, D.os⟩

theorem ev_local {x : Str} {pos : Pos} {v : Value} {l : List (Str × Value)} {Q : Value → Shared → Prop} (H : EnvIs env sc L cells) (D : On r s ps fs) (hL : (L, loc l) ∈ fs) (hv : (x, v) ∈ l)
    (hl : sc.names.lookup x = some .local) (hk : sc.kind = .function) (h : Q v s) (hd : (x == ("__debug__" : Str)) = false := by decide) : wpAny (model prog w) A (eval (.Name x pos) env) Q E s := by
  obtain ⟨m, hn, hm⟩ := D.st.ns (List.mem_append_right _ hL)
  exact wpAny_Name (wpAny_loadName_local (by rw [H.scope]; exact hk) (H.kind hl) (by rw [H.locals]; exact hn) (hm _ hv) h) hd
theorem ev_cell {x : Str} {pos : Pos} {v : Value} {c : Addr} {Q : Value → Shared → Prop} (H : EnvIs env sc L cells) (D : On r s ps fs) (hc : cells.lookup x = some c) (hL : (c, isC (some v)) ∈ fs)
    (hl : sc.names.lookup x = some .cell) (hk : sc.kind = .function) (h : Q v s) (hd : (x == ("__debug__" : Str)) = false := by decide) : wpAny (model prog w) A (eval (.Name x pos) env) Q E s :=
  wpAny_Name (wpAny_loadName_cell (by rw [H.scope]; exact hk) (H.kind hl) (by rw [H.cells]; exact hc) (D.st.cell (List.mem_append_right _ hL)) h) hd
theorem ev_free {x : Str} {pos : Pos} {v : Value} {c : Addr} {Q : Value → Shared → Prop} (H : EnvIs env sc L cells) (D : On r s ps fs) (hc : cells.lookup x = some c) (hL : (c, isC (some v)) ∈ fs)
    (hl : sc.names.lookup x = some .free) (hk : sc.kind = .function) (h : Q v s) (hd : (x == ("__debug__" : Str)) = false := by decide) (hn : (x == ("__classdict__" : Str)) = false := by decide) : wpAny (model prog w) A (eval (.Name x pos) env) Q E s :=
  wpAny_Name (wpAny_loadName_free (by rw [H.scope]; exact hk) (H.kind hl) (by rw [H.cells]; exact hc) (D.st.cell (List.mem_append_right _ hL)) h hn) hd
theorem ev_glob {x : Str} {pos : Pos} {v : Value} {Q : Value → Shared → Prop} (H : EnvIs env sc L cells) (D : On r s ps fs) (hg : Glob r.heap x v)
    (hl : sc.names.lookup x = some .globalImplicit) (hk : sc.kind = .function) (h : Q v s) (hd : (x == ("__debug__" : Str)) = false := by decide) : wpAny (model prog w) A (eval (.Name x pos) env) Q E s := by
  obtain ⟨mg, hn, hv⟩ := hg
  exact Name_function_global (by rw [H.scope]; exact hk) (H.kind hl) (loadGlobal_global (by rw [H.globals]; exact ns_of_base D.st.base (by decide) (by decide) hn) hv h) hd
theorem ev_blt {x : Str} {pos : Pos} {v : Value} {Q : Value → Shared → Prop} (H : EnvIs env sc L cells) (D : On r s ps fs) (hg : Blt r.heap x v)
    (hl : sc.names.lookup x = some .globalImplicit) (hk : sc.kind = .function) (h : Q v s) (hd : (x == ("__debug__" : Str)) = false := by decide) : wpAny (model prog w) A (eval (.Name x pos) env) Q E s := by
  obtain ⟨⟨mg, hn, hv⟩, mb, hb, hv2⟩ := hg
  exact Name_function_global (by rw [H.scope]; exact hk) (H.kind hl) (loadGlobal_builtin (by rw [H.globals]; exact ns_of_base D.st.base (by decide) (by decide) hn) hv
    (by rw [H.builtins]; exact ns_of_base D.st.base (by decide) (by decide) hb) hv2 h) hd

theorem put_ok {x : Str} {v : Value} {l : List (Str × Value)} {m : Str → Option Value} (hm : ∀ p ∈ l, m p.1 = some p.2) : ∀ p ∈ put x v l, (if p.1 = x then some v else m p.1) = some p.2 := by
  intro p hp
  rcases List.mem_cons.mp hp with rfl | hp
  · simp
  · obtain ⟨h1, h2⟩ := List.mem_filter.mp hp
    rw [if_neg (by simpa using h2)]; exact hm p h1

theorem st_local {x : Str} {v : Value} {l : List (Str × Value)} {i : Nat} {Q : Unit → Shared → Prop} (H : EnvIs env sc L cells) (D : On r s ps fs) (hL : fs[i]? = some (L, loc l))
    (hl : sc.names.lookup x = some .local) (hk : sc.kind = .function) (h : ∀ s', On r s' ps (fs.set i (L, loc (put x v l))) → Q () s') : wpAny (model prog w) A (storeName env x v) Q E s := by
  obtain ⟨m, hn, hm⟩ := D.st.ns (List.mem_append_right ps (List.mem_of_getElem? hL))
  refine wpAny_storeName_local (H.kind hl) (by rw [H.locals]; exact hn) (fun h' hn' hs' => h _ (D.with_heap (D.st.same hL (by rw [H.locals] at hs'; exact hs'.extBut) ?_))) (by rw [H.scope, hk]; rfl)
  rw [H.locals] at hn'
  obtain ⟨o, es, ep, e, d, k, f⟩ := hn'
  exact ⟨o, e, _, ⟨es, ep, d, k, f⟩, put_ok hm⟩
theorem st_cell {x : Str} {v : Value} {v₀ : Option Value} {c : Addr} {i : Nat} {Q : Unit → Shared → Prop} (H : EnvIs env sc L cells) (D : On r s ps fs) (hc : cells.lookup x = some c) (hL : fs[i]? = some (c, isC v₀))
    (hl : sc.names.lookup x = some .cell) (hk : sc.kind = .function) (h : ∀ s', On r s' ps (fs.set i (c, isC (some v))) → Q () s') : wpAny (model prog w) A (storeName env x v) Q E s := by
  refine wpAny_storeName_cell (by rw [H.scope]; exact hk) (H.kind hl) (by rw [H.cells]; exact hc) (D.st.cell (List.mem_append_right ps (List.mem_of_getElem? hL))) fun h' hc' hs' =>
    h _ (D.with_heap (D.st.same hL hs'.extBut ?_))
  obtain ⟨o, e, d⟩ := hc'
  exact ⟨o, e, d⟩

/-! ## new lists, tuples -/
theorem new_list {vs : List Value} {Q : Value → Shared → Prop} (D : On r s ps fs) (hsz : vs.length ≤ sizeLine)
    (h : ∀ a s', On r s' ps ((a, isL vs) :: fs) → Q (.ref a) s') : wpAny (model prog w) A (newList vs) Q E s :=
  wpAny_newObj_type (h _ _ (D.with_heap (t := s.toks) (D.st.push ⟨0, rfl⟩))) (by show vs.toArray.size ≤ sizeLine; rw [List.size_toArray]; exact hsz)
theorem new_tup {vs : List Value} {Q : Value → Shared → Prop} (D : On r s ps fs) (hsz : vs.length ≤ sizeLine)
    (h : ∀ a s', On r s' ps ((a, isT vs) :: fs) → Q (.ref a) s') : wpAny (model prog w) A (newTuple vs) Q E s :=
  wpAny_newObj_type (h _ _ (D.with_heap (t := s.toks) (D.st.push ⟨0, rfl⟩))) (by show vs.toArray.size ≤ sizeLine; rw [List.size_toArray]; exact hsz)

/-! ## iterators -/
theorem it_list {a : Addr} {xs : List Value} {Q : Value → Shared → Prop} (D : On r s ps fs) (hL : (a, isL xs) ∈ ps ++ fs)
    (h : ∀ I s', On r s' ps ((I, isLI a 0) :: fs) → Q (.ref I) s') : wpAny (model prog w) A (pyIter (.ref a)) Q E s :=
  wpAny_pyIter_list (D.st.list hL) (h _ _ (D.with_heap (t := s.toks) (D.st.push ⟨rfl, rfl⟩)))
theorem it_tup {a : Addr} {xs : List Value} {Q : Value → Shared → Prop} (D : On r s ps fs) (hL : (a, isT xs) ∈ ps ++ fs)
    (h : ∀ I s', On r s' ps ((I, isTI a 0) :: fs) → Q (.ref I) s') : wpAny (model prog w) A (pyIter (.ref a)) Q E s :=
  wpAny_pyIter_tuple (D.st.tup hL) (h _ _ (D.with_heap (t := s.toks) (D.st.push ⟨rfl, rfl⟩)))
theorem next_list {I a : Addr} {j n : Nat} {xs : List Value} {v : Value} {Q : Option Value → Shared → Prop} (D : On r s ps fs) (hI : fs[j]? = some (I, isLI a n)) (hL : (a, isL xs) ∈ ps ++ fs) (hv : xs[n]? = some v)
    (h : ∀ s', On r s' ps (fs.set j (I, isLI a (n + 1))) → Q (some v) s') : wpAny (model prog w) A (pyNext (.ref I)) Q E s :=
  wpAny_pyNext_list_item (D.st.li (List.mem_append_right ps (List.mem_of_getElem? hI))) (D.st.list hL) (by simpa using hv) fun h' hi hs => h _ (D.with_heap (t := s.toks) (D.st.same hI hs.extBut (let ⟨o, e, c, d⟩ := hi; ⟨o, e, c, d⟩)))
theorem next_list_end {I a : Addr} {n : Nat} {xs : List Value} {Q : Option Value → Shared → Prop} (hh : A.handled = none) (D : On r s ps ((I, isLI a n) :: fs)) (hL : (a, isL xs) ∈ ps ++ fs) (hv : xs[n]? = none)
    (h : ∀ s', On r s' ps fs → Q none s') : wpAny (model prog w) A (pyNext (.ref I)) Q E s :=
  wpAny_pyNext_list_end hh (D.st.li (List.mem_append_right ps (.head _))) (D.st.list ((List.mem_append.mp hL).elim (List.mem_append_left _) fun q => List.mem_append_right _ (.tail _ q))) (by simpa using hv)
    fun h' hs => h _ (D.with_heap (t := s.toks) (D.st.lose hs))
theorem next_tup {I a : Addr} {j n : Nat} {xs : List Value} {v : Value} {Q : Option Value → Shared → Prop} (D : On r s ps fs) (hI : fs[j]? = some (I, isTI a n)) (hL : (a, isT xs) ∈ ps ++ fs) (hv : xs[n]? = some v)
    (h : ∀ s', On r s' ps (fs.set j (I, isTI a (n + 1))) → Q (some v) s') : wpAny (model prog w) A (pyNext (.ref I)) Q E s :=
  wpAny_pyNext_tuple_item (D.st.ti (List.mem_append_right ps (List.mem_of_getElem? hI))) (D.st.tup hL) (by simpa using hv) fun h' hi hs => h _ (D.with_heap (t := s.toks) (D.st.same hI hs.extBut (let ⟨o, e, c, d⟩ := hi; ⟨o, e, c, d⟩)))
theorem next_tup_end {I a : Addr} {n : Nat} {xs : List Value} {Q : Option Value → Shared → Prop} (hh : A.handled = none) (D : On r s ps ((I, isTI a n) :: fs)) (hL : (a, isT xs) ∈ ps ++ fs) (hv : xs[n]? = none)
    (h : ∀ s', On r s' ps fs → Q none s') : wpAny (model prog w) A (pyNext (.ref I)) Q E s :=
  wpAny_pyNext_tuple_end hh (D.st.ti (List.mem_append_right ps (.head _))) (D.st.tup ((List.mem_append.mp hL).elim (List.mem_append_left _) fun q => List.mem_append_right _ (.tail _ q))) (by simpa using hv)
    fun h' hs => h _ (D.with_heap (t := s.toks) (D.st.lose hs))
theorem append_list {a : Addr} {j : Nat} {xs : List Value} {v : Value} {Q : Value → Shared → Prop} (D : On r s ps fs) (hI : fs[j]? = some (a, isL xs)) (hsz : xs.length ≤ sizeLine)
    (h : ∀ s', On r s' ps (fs.set j (a, isL (xs ++ [v]))) → Q .none s') : wpAny (model prog w) A (call (.builtin "list.append") [.ref a, v]) Q E s :=
  wpAny_list_append_plain (D.st.plain (List.mem_append_right ps (List.mem_of_getElem? hI))) (fun h' hi hs => h _ (D.with_heap (t := s.toks) (D.st.same hI hs.extBut (by
    obtain ⟨n, e⟩ := hi; exact ⟨_, e, n, by simp⟩)))) (by rw [List.size_toArray]; exact hsz)
end
end Mine
/-! part M3 -/
set_option Elab.async false
set_option maxRecDepth 100000
namespace Mine
open PySem PySem.Calls PySem.W PyProof.Rows

structure AOk (A : Around) (n : Nat) : Prop where
  handled : A.handled = none
  depth : A.depth + n ≤ 900
  units : A.units + 4 * n ≤ 5000
theorem AOk.deeper {A : Around} {n : Nat} (h : AOk A (n + 1)) (env : Env) : AOk (A.deeper env) n :=
  ⟨h.handled, by have := h.depth; show A.depth + 1 + n ≤ 900; omega, by have := h.units; show A.units + 3 + 4 * n ≤ 5000; omega⟩
theorem AOk.less {A : Around} {n k : Nat} (h : AOk A n) (hk : k ≤ n) : AOk A k := ⟨h.handled, by have := h.depth; omega, by have := h.units; omega⟩
theorem AOk.in1 {A : Around} {n : Nat} (h : AOk A (n + 1)) : AOk A.in1 n := ⟨h.handled, by have := h.depth; show A.depth + n ≤ 900; omega, by have := h.units; show A.units + 1 + 4 * n ≤ 5000; omega⟩
theorem AOk.room {A : Around} {n : Nat} (h : AOk A n) : A.depth < recursionLimit := by have := h.depth; show A.depth < 1000; omega

def CodeR (B : Heap) (cd : Value) (q : Str) : Prop := ∃ c o vs t, cd = .ref c ∧ c ≠ 2 ∧ c ≠ 37 ∧ B.get? c = some o ∧ o.data = .fields vs ∧ vs[1]? = some (.str q t)
theorem CodeR.rec {B h : Heap} {ps : Fs} {cd : Value} {q : Str} (x : CodeR B cd q) (b : Base B h ps) : h.CodeRec cd q :=
  let ⟨c, o, vs, t, e, h2, h37, g, r⟩ := x; ⟨c, o, vs, t, e, b.keep _ _ g h2 h37, r⟩

/-- a function object, and its code object's name -/
def FnAt (h : Heap) (a : Addr) (fd : FuncData) : Prop := ∃ o, h.get? a = some o ∧ o.data = .func fd

theorem lookup_nodup {l : List (Str × Value)} (hn : (l.map (·.1)).Nodup) : ∀ p ∈ l, l.lookup p.1 = some p.2 := by
  induction l with
  | nil => intro p hp; cases hp
  | cons x l ih =>
    rw [List.map_cons, List.nodup_cons] at hn
    intro p hp
    rcases List.mem_cons.mp hp with rfl | hp
    · rw [List.lookup_cons]; simp
    · rw [List.lookup_cons]
      have : (p.1 == x.1) = false := beq_eq_false_iff_ne.mpr fun e => hn.1 (e ▸ List.mem_map.mpr ⟨p, hp, rfl⟩)
      rw [this]; exact ih hn.2 p hp
theorem lookup_rev {l : List (Str × Value)} (hn : (l.map (·.1)).Nodup) : ∀ p ∈ l, l.reverse.lookup p.1 = some p.2 := fun p hp =>
  lookup_nodup (l := l.reverse) (by rw [List.map_reverse]; exact List.pairwise_reverse.mpr (hn.imp fun h => Ne.symm h)) p (List.mem_reverse.mpr hp)

section
variable {B h h' : Heap} {ps fs : Fs} {a : Addr} {P : Pr}
theorem St.add (D : St B h ps fs) (hne : ∀ p ∈ ps ++ fs, p.1 ≠ a) (hB : B.objs.size ≤ a) (hn : ∃ o, h.get? a = some o ∧ P o) : St B h ps ((a, P) :: fs) := by
  have q : (ps ++ (a, P) :: fs).Perm ((a, P) :: (ps ++ fs)) := List.perm_middle
  refine ⟨D.base, fun p hp => ?_, fun p hp => ?_, (q.map _).nodup_iff.mpr ?_⟩
  · rcases List.mem_cons.mp (q.subset hp) with rfl | z
    · exact hn
    · exact D.at_ p z
  · rcases List.mem_cons.mp (q.subset hp) with rfl | z
    · exact hB
    · exact D.new p z
  · rw [List.map_cons, List.nodup_cons]
    exact ⟨fun hm => let ⟨p, hp, e⟩ := List.mem_map.mp hm; hne p hp e, D.nd⟩
theorem St.add_new {h₀ : Heap} (D₀ : St B h₀ ps fs) (D : St B h ps fs) (ha : h₀.objs.size ≤ a) (hn : ∃ o, h.get? a = some o ∧ P o) : St B h ps ((a, P) :: fs) :=
  D.add (fun p hp e => absurd (D₀.lt (a := p.1) (P := p.2) hp) (Nat.not_lt.mpr (by rw [e]; exact ha))) (Nat.le_trans D₀.base.size ha) hn
end

section
variable {prog : Program} {w : World} {A : Around} {E : Value → Shared → Prop} {r s : Shared} {ps fs : Fs}

theorem call_fn {a : Addr} {fd : FuncData} {body : List Stmt} {vals : List Value} {kw : List (Str × Value)} {binds : List (Str × Value)} {Q : Value → Shared → Prop}
    (D : On r s ps fs) (hroom : A.depth < recursionLimit) (hf : FnAt s.heap a fd) (hcd : s.heap.CodeRec fd.code fd.qualname) (hbody : fd.body = .stmts body) (hbind : BindsTo s fd ⟨vals, kw⟩ binds)
    (hglob : fd.globals = 3) (hblt : fd.builtins = 0)
    (hcell : ∀ x ∈ fd.scope.names, x.2 ≠ .cell) (hloc : ∀ x ∈ binds, fd.scope.names.lookup x.1 = some .local) (hnd : (binds.map (·.1)).Nodup)
    (h : ∀ env L s', EnvIs env fd.scope L fd.closure → On r s' ps ((L, loc binds) :: fs) →
      wpAny (model prog w) (A.deeper env) (execs body env) (fun f s'' => Q (match f with | .ret v => v | _ => .none) s'') (fun _ _ => False) s')
    (hco : fd.scope.isCoroutine = false) (hgen : fd.scope.isGenerator = false) (hk : fd.scope.kind = .function) :
    wpAny (model prog w) A (call (.ref a) vals kw) Q E s := by
  obtain ⟨o, ho, hd⟩ := hf
  refine wpAny_call (codeAny_call_function hroom ho hd hco hgen hbody hcd (hbind _ _ _ _ ?_))
  refine wpAny_newFunctionEnv hcell hloc (fun h₀ hns hsb => ?_) hk
  have D₁ : St r.heap (s.heap.push { cls := .type "frame", data := .dict #[] }) ps ((s.heap.objs.size, anyO) :: fs) := D.st.push trivial
  have D₂ : On r ({ s with heap := h₀, toks := s.toks + binds.length }) ps ((s.heap.objs.size, loc binds) :: fs) := D.with_heap (D₁.same (i := 0) rfl hsb.extBut (by
    obtain ⟨o, es, ep, e, d, k, f⟩ := hns
    exact ⟨o, e, _, ⟨es, ep, d, k, f⟩, lookup_rev hnd⟩))
  exact ⟨D₂.st.nl, codeAny_func (wpAny_mono (h _ _ _ ⟨rfl, rfl, hglob, rfl, hblt⟩ D₂) (fun _ _ q => q) fun _ _ f => f.elim)⟩

theorem call_fnC {a : Addr} {fd : FuncData} {body : List Stmt} {vals : List Value} {binds : List (Str × Value)} {Q : Value → Shared → Prop}
    (D : On r s ps fs) (hroom : A.depth < recursionLimit) (hf : FnAt s.heap a fd) (hcd : s.heap.CodeRec fd.code fd.qualname) (hbody : fd.body = .stmts body) (hbind : bindArgs fd ⟨vals, []⟩ = pure binds)
    (hglob : fd.globals = 3) (hblt : fd.builtins = 0) (hclo : fd.closure = [])
    (hkind : ∀ n, ∀ x ∈ binds, fd.scope.names.lookup x.1 = some .local ∨ (fd.scope.names.lookup x.1 = some .cell ∧ ((cellsFrom n fd.scope.names []).lookup x.1).isSome = true))
    (h : ∀ env L s', EnvIs env fd.scope L (cellsFrom (L + 1) fd.scope.names []) → env.code = fd.code → env.qual = fd.qualname ++ ".<locals>." → env.frame = some L → (St r.heap s.heap ps fs ∧ s.heap.objs.size ≤ L) →
      InCallC s L (bindL env.kindOf binds fun _ => none) env.cells (bindC env.kindOf binds fun _ => none) s' → On r s' ps fs →
      wpAny (model prog w) (A.deeper env) (execs body env) (fun f s'' => Q (match f with | .ret v => v | _ => .none) s'') (fun _ _ => False) s')
    (hco : fd.scope.isCoroutine = false) (hgen : fd.scope.isGenerator = false) (hk : fd.scope.kind = .function) :
    wpAny (model prog w) A (call (.ref a) vals []) Q E s := by
  obtain ⟨o, ho, hd⟩ := hf
  refine wpAny_call (codeAny_call_cells hroom ho hd D.st.nl hcd hbody hbind hclo (hkind _) (fun s₁ x => ?_) hco hgen hk)
  have D₁ : On r s₁ ps fs := by
    obtain ⟨h', tk, e, hk'⟩ := x.done
    subst e
    exact D.with_heap (D.st.keeps hk')
  exact wpAny_mono (h _ s.heap.objs.size s₁ ⟨rfl, rfl, hglob, rfl, hblt⟩ rfl rfl rfl ⟨D.st, Nat.le_refl _⟩ x D₁) (fun _ _ q => q) fun _ _ f => f.elim
end
end Mine
/-! part M4 -/
set_option Elab.async false
set_option maxRecDepth 100000
namespace Mine
open PySem PySem.Calls PySem.W PyProof.Rows

theorem upto15 {P : Nat → Prop} (h0 : P 0) (h1 : P 1) (h2 : P 2) (h3 : P 3) (h4 : P 4) (h5 : P 5) (h6 : P 6) (h7 : P 7) (h8 : P 8) (h9 : P 9) (h10 : P 10) (h11 : P 11) (h12 : P 12) (h13 : P 13) (h14 : P 14) : ∀ k, k < 15 → P k
  | 0, _ => h0 | 1, _ => h1 | 2, _ => h2 | 3, _ => h3 | 4, _ => h4 | 5, _ => h5 | 6, _ => h6 | 7, _ => h7 | 8, _ => h8 | 9, _ => h9 | 10, _ => h10 | 11, _ => h11 | 12, _ => h12 | 13, _ => h13 | 14, _ => h14
  | k + 15, h => absurd h (by omega)

theorem meta_cl : ∀ k, k < 15 → typeOf (cl k) = pure (.type "type") := by
  refine upto15 ?_ ?_ ?_ ?_ ?_ ?_ ?_ ?_ ?_ ?_ ?_ ?_ ?_ ?_ ?_ <;> kernel_rfl
theorem mro_cl : ∀ k, k < 15 → mroOf (cl k) = pure ((way k).map cl) := by
  refine upto15 ?_ ?_ ?_ ?_ ?_ ?_ ?_ ?_ ?_ ?_ ?_ ?_ ?_ ?_ ?_ <;> (show mroOf (.type _) = _; rw [mroOf_type]; kernel_rfl)
theorem nm_inj : ∀ k, k < 15 → ∀ j, j < 15 → nm k = nm j → k = j := by decide +kernel
theorem cl_inj {k j : Nat} (hk : k < 15) (hj : j < 15) (e : cl k = cl j) : k = j := nm_inj k hk j hj (Value.type.inj e)

def Ty (v : Value) : Prop := ∃ k, k < 15 ∧ v = cl k
theorem Ty.is {v : Value} (h : Ty v) (s : Shared) : s.TypeIs v "type" := by
  obtain ⟨k, hk, rfl⟩ := h
  exact meta_cl k hk

section
variable {prog : Program} {w : World} {A : Around} {E : Value → Shared → Prop} {r s : Shared} {ps fs : Fs}

theorem cmp_eq_ty {x y : Value} {Q : Value → Shared → Prop} (hx : Ty x) (hy : Ty y) (h : Q (.bool (x == y)) s) : wpAny (model prog w) A (compareOp .Eq x y) Q E s := by
  have hx' := hx; have hy' := hy
  obtain ⟨i, hi, rfl⟩ := hx
  obtain ⟨j, hj, rfl⟩ := hy
  by_cases e : i = j
  · subst e
    rw [beq_self_eq_true] at h
    exact TypeEq.eq_type_same (X := nm i) (fun s' => hx'.is s') h
  · have ne : (cl i == cl j) = false := beq_eq_false_iff_ne.mpr fun z => e (cl_inj hi hj z)
    rw [ne] at h
    exact TypeEq.eq_type_other (X := nm i) (Y := nm j) (fun s' => hx'.is s') (fun s' => hy'.is s') ne h
theorem eqg_ty {x y : Value} (hy : Ty y) (hx : Ty x) : MeetsSeq.EqGives y x (y == x) := by
  intro prog w A E s Q h
  unfold eqBool
  refine wpAny_holding ?_
  cases e : y == x with
  | true =>
    rw [e] at h
    simp only [if_true]
    exact wpAny_bind (wpAny_rule (wpAny_pure h))
  | false =>
    rw [e] at h
    simp only [Bool.false_eq_true, if_false]
    obtain ⟨i, hi, rfl⟩ := id hy
    obtain ⟨j, hj, rfl⟩ := id hx
    show wpAny _ A (richCompare .Eq (cl i) (cl j) >>= fun a => truthOfDropped a) Q E s
    refine wpAny_bind (cmp_eq_ty (E := E) hy hx ?_)
    rw [e]
    exact wpAny_truthy_bool h

theorem any_beq {x : Value} (xs : List Value) : xs.any (fun y => y == x) = decide (x ∈ xs) := by
  rw [Bool.eq_iff_iff, List.any_eq_true, decide_eq_true_iff]
  constructor
  · rintro ⟨y, hy, e⟩; rw [← beq_iff_eq.mp e]; exact hy
  · intro h; exact ⟨x, h, beq_self_eq_true x⟩

theorem in_ty {a : Addr} {xs : List Value} {x : Value} {Q : Value → Shared → Prop} (D : On r s ps fs) (hL : (a, isL xs) ∈ ps ++ fs) (hxs : ∀ y ∈ xs, Ty y) (hx : Ty x) (h : Q (.bool (decide (x ∈ xs))) s) :
    wpAny (model prog w) A (compareOp .In x (.ref a)) Q E s :=
  SeqInW.in_listW (fun y => y == x) (fun y hy => eqg_ty (hxs y (by simpa using hy)) hx) (D.st.list hL) (by rw [List.any_toArray, any_beq]; exact h)

theorem truth_list {a : Addr} {xs : List Value} {Q : Bool → Shared → Prop} (D : On r s ps fs) (hL : (a, isL xs) ∈ ps ++ fs) (hsz : xs.length ≤ 100000) (h : ∀ s', On r s' ps fs → Q (!xs.isEmpty) s') :
    wpAny (model prog w) A (truthy (.ref a)) Q E s :=
  wpAny_truthy_list (D.st.list hL) (by rw [List.size_toArray]; omega) (by
    have := h _ (D.tok (t := s.toks + 1 + 1))
    have e : xs.toArray.isEmpty = xs.isEmpty := by cases xs <;> rfl
    rw [e]; exact this)

theorem item_list {value slice : PySem.Expr} {a : Addr} {xs : List Value} {k : Int} {u : Tok} {x : Value} {Q : Value → Shared → Prop} (D : On r s ps fs) (hL : (a, isL xs) ∈ ps ++ fs) (h0 : 0 ≤ k) (hk : k < 2 ^ 63)
    (hx : xs[k.toNat]? = some x) (h : Q x s) (hs : subscripted slice false (.ref a) (.int k u) = operate [.ref a, .int k u] (getItem (.ref a) (.int k u)) := by with_unfolding_all rfl) :
    wpAny (model prog w) A (subscriptTail value slice (.ref a) (.int k u)) Q E s :=
  tail_any (D.st.list hL).typeIs slot_list_getitem.lookup (wpAny_getItem_list (D.st.list hL) h0 hk (by simpa using hx) h) hs

theorem add_list {a b : Addr} {xs ys : List Value} {Q : Value → Shared → Prop} (D : On r s ps fs) (hL : (a, isL xs) ∈ ps ++ fs) (hM : (b, isL ys) ∈ ps ++ fs) (hsz : xs.length + ys.length ≤ sizeLine)
    (h : ∀ c s', On r s' ps ((c, isL (xs ++ ys)) :: fs) → Q (.ref c) s') : wpAny (model prog w) A (binaryOp .Add (.ref a) (.ref b)) Q E s := by
  obtain ⟨n, e⟩ := D.st.objL hL
  obtain ⟨m, e'⟩ := D.st.objL hM
  refine P.add_list (n := n) (n2 := m) e e' (h _ _ (D.with_heap (t := s.toks) (D.st.push ⟨0, ?_⟩))) (by rw [List.size_toArray, List.size_toArray]; exact hsz)
  simp

/-- xs[1:] -/
theorem slice_from1 {env : Env} {x : Str} {px : Pos} {k : Nat} {p1 p pos : Pos} {a : Addr} {xs : List Value} {Q : Value → Shared → Prop} (D : On r s ps fs) (hL : (a, isL xs) ∈ ps ++ fs)
    (hv : ∀ Q' : Value → Shared → Prop, Q' (.ref a) s → wpAny (model prog w) A (eval (.Name x px) env) Q' E s) (h1 : 1 ≤ xs.length) (hsz : xs.length ≤ sizeLine)
    (h : ∀ c s', On r s' ps ((c, isL (xs.drop 1)) :: fs) → Q (.ref c) s') :
    wpAny (model prog w) A (eval (.Subscript (.Name x px) (.Slice (some (.Constant (.int 1) k p1)) none none p) pos) env) Q E s := by
  refine wpAny_Subscript_list_slice (hv _ (wpAny_evalPart_some (wpAny_Constant_int (wpAny_evalPart_none ?_))))
  refine ⟨a, xs.toArray, some 1, none, rfl, D.st.list hL, by rw [List.size_toArray]; exact hsz, .int _ _, .none, ?_⟩
  have D1 : On r { s with heap := s.heap.push { cls := .type "slice", data := .fields #[.int 1 s.toks, .none, .none] }, toks := s.toks + 1 } ps ((s.heap.objs.size, anyO) :: fs) := D.with_heap (D.st.push trivial)
  have D2 := D1.with_heap (t := s.toks + 1) (D1.st.push (o := { cls := .type "list", data := .seq (slicePick xs.toArray (some 1) none none) }) (P := isL (xs.drop 1)) ⟨0, by
    have := slicePick_from xs.toArray 1 (by rw [List.size_toArray]; exact h1)
    simp only [Int.natCast_one] at this
    rw [show (1 : Int) = ((1 : Nat) : Int) from rfl] at *
    rw [this]⟩)
  have D3 := D2.sub (fs' := (_, isL (xs.drop 1)) :: fs) (.cons_cons _ (List.sublist_cons_self _ _))
  rw [Heap.size_push] at D3
  exact h _ _ D3

theorem del0_list {a : Addr} {x : Value} {xs : List Value} {u : Tok} {i : Nat} {Q : Unit → Shared → Prop} (D : On r s ps fs) (hL : fs[i]? = some (a, isL (x :: xs))) (hsz : xs.length < sizeLine)
    (h : ∀ s', On r s' ps (fs.set i (a, isL xs)) → Q () s') : wpAny (model prog w) A (delItem (.ref a) (.int 0 u)) Q E s := by
  refine wpAny_delItem_plain (k := 0) (D.st.plain (List.mem_append_right ps (List.mem_of_getElem? hL))) (by decide) (by simp [seqIndex?]) (fun h' hp hs => h _ (D.with_heap (t := s.toks) (D.st.same hL hs.extBut ?_))) (by rw [List.size_toArray]; exact hsz)
  obtain ⟨n, e⟩ := hp
  refine ⟨_, e, n, ?_⟩
  simp [Array.eraseIdxIfInBounds]
end
end Mine
/-! part M5 -/
set_option Elab.async false
set_option maxRecDepth 100000
set_option autoImplicit false
namespace Mine
open PySem PySem.Calls PySem.W PyProof.Rows

theorem loc_sub {l l' : List (Str × Value)} (h : ∀ p ∈ l', p ∈ l) : ∀ o, loc l o → loc l' o := fun _ ⟨m, hn, hm⟩ => ⟨m, hn, fun p hp => hm p (h p hp)⟩
section
variable {prog : Program} {w : World} {A : Around} {E : Value → Shared → Prop} {r s : Shared} {ps fs : Fs}
theorem On.imp (D : On r s ps fs) {i : Nat} {a : Addr} {P P' : Pr} (hi : fs[i]? = some (a, P)) (hP : ∀ o, P o → P' o) : On r s ps (fs.set i (a, P')) := ⟨D.st.imp hi hP, D.gens, D.os⟩

/-- a comprehension's loop -/
structure Src (prog : Program) (w : World) (A : Around) (r : Shared) (I : Addr) (It : Nat → Pr) (items : List Value) (J : Nat → Fs → Fs → Prop) : Prop where
  self : ∀ {s : Shared} {ps fs : Fs} {j : Nat} {Q : Value → Shared → Prop} {E : Value → Shared → Prop}, fs[j]? = some (I, It 0) → On r s ps fs → Q (.ref I) s → wpAny (model prog w) A (pyIter (.ref I)) Q E s
  item : ∀ {i : Nat} {v : Value} {s : Shared} {ps fs : Fs} {X Y : Addr × Pr} {Q : Option Value → Shared → Prop} {E : Value → Shared → Prop}, items[i]? = some v → J i ps fs → On r s ps (X :: Y :: (I, It i) :: fs) → (∀ s', On r s' ps (X :: Y :: (I, It (i + 1)) :: fs) → Q (some v) s') → wpAny (model prog w) A (pyNext (.ref I)) Q E s
  fin : ∀ {s : Shared} {ps fs : Fs} {X Y : Addr × Pr} {Q : Option Value → Shared → Prop} {E : Value → Shared → Prop}, J items.length ps fs → On r s ps (X :: Y :: (I, It items.length) :: fs) → (∀ s', On r s' ps (X :: Y :: fs) → Q none s') → wpAny (model prog w) A (pyNext (.ref I)) Q E s

def testsOf (ifs : List PySem.Expr) (cenv : Env) : Sem Bool := forIn ifs true fun c r => if r = true then do let ok ← isTrue c cenv (eval c cenv); pure (ForInStep.yield ok) else pure (ForInStep.yield r)

theorem comp_loop {elt iter : PySem.Expr} {x : Str} {px : Pos} {ifs : List PySem.Expr} {scope sc' : Scope} {cl : List (Str × Addr)} {pos : Pos} {I D C : Addr} {It : Nat → Pr} {items : List Value} {J : Nat → Fs → Fs → Prop} {cenv : Env} {l : List (Str × Value)}
    (K : Nat → Fs → Fs → List Value → Prop) (R : Result → Shared → Prop)
    (S : Src prog w A r I It items J) (hJ : ∀ i ps fs acc, K i ps fs acc → J i ps fs ∧ acc.length ≤ i) (hlen : items.length ≤ 100000)
    (H : EnvIs cenv sc' C cl) (hx : sc'.names.lookup x = some .local) (hk : sc'.kind = .function)
    (turn : ∀ i v acc s ps fs, items[i]? = some v → K i ps fs acc → On r s ps ((C, loc [(x, v)]) :: (D, isL acc) :: (I, It (i + 1)) :: fs) →
      wpAny (model prog w) A (testsOf ifs cenv) (fun ok s' => if ok = true then wpAny (model prog w) A (eval elt cenv) (fun y s'' => ∃ ps'' fs'' l'', On r s'' ps'' ((C, loc l'') :: (D, isL acc) :: (I, It (i + 1)) :: fs'') ∧ K (i + 1) ps'' fs'' (acc ++ [y])) (fun _ _ => False) s'
        else ∃ ps' fs' l', On r s' ps' ((C, loc l') :: (D, isL acc) :: (I, It (i + 1)) :: fs') ∧ K (i + 1) ps' fs' acc) (fun _ _ => False) s)
    (hfin : ∀ acc s ps fs l, K items.length ps fs acc → On r s ps ((C, loc l) :: (D, isL acc) :: fs) → R (.ok .next) s)
    (h0 : On r s ps ((C, loc l) :: (D, isL []) :: (I, It 0) :: fs)) (hK : K 0 ps fs []) :
    codeAny (model prog w) A (.compLoop (.ListComp elt [⟨.Name x px, iter, ifs, 0⟩] scope pos) 0 (.ref I) (.ref D) cenv) R s := by
  refine codeAny_compLoop_tests (fun k s' => ∃ i ps fs acc l, k = items.length + 1 - i ∧ i ≤ items.length ∧ On r s' ps ((C, loc l) :: (D, isL acc) :: (I, It i) :: fs) ∧ K i ps fs acc) ?_ (items.length + 1) ⟨0, ps, fs, [], l, rfl, Nat.zero_le _, h0, hK⟩
  rintro k s' ⟨i, ps, fs, acc, l, rfl, hi, D', hK'⟩
  have hj := (hJ _ _ _ _ hK').1
  have hac := (hJ _ _ _ _ hK').2
  rcases Nat.lt_or_eq_of_le hi with hlt | rfl
  · have hv : items[i]? = some items[i] := by simp [hlt]
    refine S.item hv hj D' fun s₁ D₁ => ?_
    refine wpAny_assign_Name (st_local H D₁ (i := 0) rfl hx hk fun s₂ D₂ => ?_)
    have D₃ := D₂.imp (i := 0) (P' := loc [(x, items[i])]) rfl (loc_sub (fun p hp => by rw [List.mem_singleton.mp hp]; exact .head _))
    refine wpAny_mono (turn i _ acc s₂ ps fs hv hK' D₃) (fun ok s₃ h₃ => ?_) fun _ _ f => f.elim
    cases ok with
    | false =>
      obtain ⟨ps', fs', l', D₄, hK₄⟩ := h₃
      exact ⟨items.length + 1 - (i + 1), by omega, i + 1, ps', fs', acc, l', rfl, hlt, D₄, hK₄⟩
    | true =>
      refine wpAny_mono h₃ (fun y s₄ h₄ => ?_) fun _ _ f => f.elim
      obtain ⟨ps', fs', l', D₄, hK₄⟩ := h₄
      refine append_list D₄ (j := 1) rfl (by rw [sizeLine_eq]; omega) fun s₅ D₅ => ?_
      exact ⟨items.length + 1 - (i + 1), by omega, i + 1, ps', fs', acc ++ [y], l', rfl, hlt, D₅, hK₄⟩
  · exact S.fin hj D' fun s₁ D₁ => hfin acc s₁ ps fs l hK' D₁

/-- a list comprehension, up to what becomes of the list -/
theorem comp_core {env : Env} {sc : Scope} {L : Addr} {cells : List (Str × Addr)} {elt iter : PySem.Expr} {x : Str} {px : Pos} {ifs : List PySem.Expr} {scope : Scope} {cl : List (Str × Addr)} {pos : Pos} {I : Addr} {It : Nat → Pr} {items : List Value} {J : Nat → Fs → Fs → Prop}
    {use : Option (Value → Sem Unit)} {Q : Value → Shared → Prop}
    (K : Nat → Fs → Fs → List Value → Prop) (S : Src prog w A r I It items J) (hJ : ∀ i ps fs acc, K i ps fs acc → J i ps fs ∧ acc.length ≤ i) (hlen : items.length ≤ 100000)
    (H : EnvIs env sc L cells) (hcell : ∀ y ∈ scope.names, y.2 ≠ .cell) (hkind : scope.kind = .function) (hx : scope.names.lookup x = some .local)
    (turn : ∀ i v acc s ps fs cenv C D, EnvIs cenv (relabel scope env) C cl → items[i]? = some v → K i ps fs acc → On r s ps ((C, loc [(x, v)]) :: (D, isL acc) :: (I, It (i + 1)) :: fs) →
      wpAny (model prog w) A (testsOf ifs cenv) (fun ok s' => if ok = true then wpAny (model prog w) A (eval elt cenv) (fun y s'' => ∃ ps'' fs'' l'', On r s'' ps'' ((C, loc l'') :: (D, isL acc) :: (I, It (i + 1)) :: fs'') ∧ K (i + 1) ps'' fs'' (acc ++ [y])) (fun _ _ => False) s'
        else ∃ ps' fs' l', On r s' ps' ((C, loc l') :: (D, isL acc) :: (I, It (i + 1)) :: fs') ∧ K (i + 1) ps' fs' acc) (fun _ _ => False) s)
    (hfin : ∀ acc s ps fs l C D, K items.length ps fs acc → On r s ps ((C, loc l) :: (D, isL acc) :: fs) → compPost (model prog w) A E use Q (.ref D) C (.ok .next) s)
    (h0 : On r s ps ((I, It 0) :: fs)) (hK : K 0 ps fs []) :
    wpAny (model prog w) A (newList []) (fun acc s₃ => wpAny (model prog w) A (newFunctionEnv scope env.globals cl [] env.qual none .none (some env)) (fun cenv s₄ =>
      codeAny (model prog w) A (.compStart (.ListComp elt [⟨.Name x px, iter, ifs, 0⟩] scope pos) 0 (.ref I) acc { cenv with scope := relabel scope env }) (compPost (model prog w) A E use Q acc cenv.locals) s₄) E s₃) E s := by
  refine new_list h0 (by rw [sizeLine_eq]; decide) fun D s₃ D₃ => ?_
  refine wpAny_newFunctionEnv hcell (by intro y hy; simp at hy) (fun h₁ hns₁ hsb₁ => ?_) hkind
  have D₄ : St r.heap (s₃.heap.push { cls := .type "dict", data := .dict #[] }) ps ((s₃.heap.objs.size, anyO) :: (D, isL []) :: (I, It 0) :: fs) := D₃.st.push trivial
  have D₅ : On r { s₃ with heap := h₁, toks := s₃.toks + ([] : List (Str × Value)).length } ps ((s₃.heap.objs.size, loc []) :: (D, isL []) :: (I, It 0) :: fs) := D₃.with_heap (D₄.same (i := 0) rfl hsb₁.extBut (by
    obtain ⟨o, es, ep, e, d, k, f⟩ := hns₁
    exact ⟨o, e, _, ⟨es, ep, d, k, f⟩, fun p hp => nomatch hp⟩))
  dsimp only [newEnv]
  have loop : ∀ {Rq : Result → Shared → Prop}, (∀ acc s ps fs l, K items.length ps fs acc → On r s ps ((s₃.heap.objs.size, loc l) :: (D, isL acc) :: fs) → Rq (.ok .next) s) →
      codeAny (model prog w) A (.compLoop (.ListComp elt [⟨.Name x px, iter, ifs, 0⟩] scope pos) 0 (.ref I) (.ref D) { scope := relabel scope env, locals := s₃.heap.objs.size, globals := env.globals, cells := cl, qual := env.qual, func := none, code := env.code, frame := env.frame, builtins := env.builtins }) Rq
        { s₃ with heap := h₁, toks := s₃.toks + ([] : List (Str × Value)).length } := fun hR =>
    comp_loop (sc' := relabel scope env) (cl := cl) K _ S hJ hlen ⟨rfl, rfl, H.globals, rfl, H.builtins⟩ (lookup_relabel_local hx) (by simp [relabel, hkind])
      (fun i v acc s ps fs hv hk D => turn i v acc s ps fs _ _ _ ⟨rfl, rfl, H.globals, rfl, H.builtins⟩ hv hk D) hR D₅ hK
  have hR := fun acc s ps fs l hk' DD => hfin acc s ps fs l s₃.heap.objs.size D hk' DD
  exact codeAny_compStart_list (loop hR) (S.self (j := 2) rfl D₅ (loop hR))

theorem swaps_listComp_no {elt : PySem.Expr} {gens : List Comprehension} {scope : Scope} {pos : Pos} {env : Env} {sc : Scope} {L : Addr} {cells : List (Str × Addr)} {t : Str} {tp : Pos} {n : Nat} (H : EnvIs env sc L cells) (h : sc.names.lookup t = some .cell) :
    swapsWith (.ListComp elt gens scope pos) (some (.Name t tp)) n env = pure false := by
  have e : (NameKind.cell == NameKind.local) = false := rfl
  simp [swapsWith, H.kind h, e]

/-- the list is the value -/
theorem comp_value {env : Env} {sc : Scope} {L : Addr} {cells : List (Str × Addr)} {elt iter : PySem.Expr} {x : Str} {px : Pos} {ifs : List PySem.Expr} {scope : Scope} {cl : List (Str × Addr)} {pos : Pos} {Q : Value → Shared → Prop}
    (H : EnvIs env sc L cells) (hclos : closureFor scope env = pure cl) (hcell : ∀ y ∈ scope.names, y.2 ≠ .cell) (hkind : scope.kind = .function) (hnames : ∀ y ∈ scope.names, y.2 = .local → scope.names.lookup y.1 = some .local) (hx : scope.names.lookup x = some .local)
    (h : wpAny (model prog w) A (eval iter env) (fun xv s₁ => wpAny (model prog w) A (pyIter xv) (fun it s₂ => ∃ (I : Addr) (It : Nat → Pr) (items : List Value) (J : Nat → Fs → Fs → Prop) (K : Nat → Fs → Fs → List Value → Prop) (ps fs : Fs), it = .ref I ∧ Src prog w A r I It items J ∧ (∀ i ps fs acc, K i ps fs acc → J i ps fs ∧ acc.length ≤ i) ∧ items.length ≤ 100000 ∧
      (∀ i v acc s ps fs cenv C D, EnvIs cenv (relabel scope env) C cl → items[i]? = some v → K i ps fs acc → On r s ps ((C, loc [(x, v)]) :: (D, isL acc) :: (I, It (i + 1)) :: fs) →
        wpAny (model prog w) A (testsOf ifs cenv) (fun ok s' => if ok = true then wpAny (model prog w) A (eval elt cenv) (fun y s'' => ∃ ps'' fs'' l'', On r s'' ps'' ((C, loc l'') :: (D, isL acc) :: (I, It (i + 1)) :: fs'') ∧ K (i + 1) ps'' fs'' (acc ++ [y])) (fun _ _ => False) s'
          else ∃ ps' fs' l', On r s' ps' ((C, loc l') :: (D, isL acc) :: (I, It (i + 1)) :: fs') ∧ K (i + 1) ps' fs' acc) (fun _ _ => False) s) ∧
      On r s₂ ps ((I, It 0) :: fs) ∧ K 0 ps fs ([] : List Value) ∧
      (∀ acc s ps fs D, K items.length ps fs acc → On r s ps ((D, isL acc) :: fs) → Q (.ref D) s)) E s₁) E s)
    (hs : ∀ x, foldedSetIterable iter env x = pure x := by intro _; rfl) :
    wpAny (model prog w) A (eval (.ListComp elt [⟨.Name x px, iter, ifs, 0⟩] scope pos) env) Q E s := by
  rw [eval_ListComp]
  refine wpAny_comprehension_free (use := none) rfl hs hclos hkind hnames (wpAny_mono h (fun xv s₁ h₁ => wpAny_mono h₁ (fun it s₂ h₂ => ?_) fun _ _ e => e) fun _ _ e => e)
  obtain ⟨I, It, items, J, K, ps, fs, rfl, S, hJ, hlen, turn, D, hK, hQ⟩ := h₂
  refine comp_core K S hJ hlen H hcell hkind hx turn (fun acc s ps fs l C D' hk DD => ?_) D hK
  obtain ⟨m, hn, _⟩ := DD.st.ns (List.mem_append_right _ (.head _))
  exact ⟨m, hn, fun h' hs' => hQ acc _ ps fs D' hk (DD.with_heap (t := s.toks) (DD.st.lose hs'.extBut))⟩

/-- the list is stored under a local name of the block at once -/
theorem comp_assign {env : Env} {sc : Scope} {L : Addr} {cells : List (Str × Addr)} {elt iter : PySem.Expr} {x y : Str} {px py : Pos} {ifs : List PySem.Expr} {scope : Scope} {cl : List (Str × Addr)} {pos spos : Pos} {Q : Flow → Shared → Prop}
    (hsw : swapsWith (.ListComp elt [⟨.Name x px, iter, ifs, 0⟩] scope pos) (some (.Name y py)) spos.line env = pure true)
    (H : EnvIs env sc L cells) (hclos : closureFor scope env = pure cl) (hcell : ∀ y ∈ scope.names, y.2 ≠ .cell) (hkind : scope.kind = .function) (hnames : ∀ y ∈ scope.names, y.2 = .local → scope.names.lookup y.1 = some .local) (hx : scope.names.lookup x = some .local)
    (h : wpAny (model prog w) A (eval iter env) (fun xv s₁ => wpAny (model prog w) A (pyIter xv) (fun it s₂ => ∃ (I : Addr) (It : Nat → Pr) (items : List Value) (J : Nat → Fs → Fs → Prop) (K : Nat → Fs → Fs → List Value → Prop) (ps fs : Fs), it = .ref I ∧ Src prog w A r I It items J ∧ (∀ i ps fs acc, K i ps fs acc → J i ps fs ∧ acc.length ≤ i) ∧ items.length ≤ 100000 ∧
      (∀ i v acc s ps fs cenv C D, EnvIs cenv (relabel scope env) C cl → items[i]? = some v → K i ps fs acc → On r s ps ((C, loc [(x, v)]) :: (D, isL acc) :: (I, It (i + 1)) :: fs) →
        wpAny (model prog w) A (testsOf ifs cenv) (fun ok s' => if ok = true then wpAny (model prog w) A (eval elt cenv) (fun y s'' => ∃ ps'' fs'' l'', On r s'' ps'' ((C, loc l'') :: (D, isL acc) :: (I, It (i + 1)) :: fs'') ∧ K (i + 1) ps'' fs'' (acc ++ [y])) (fun _ _ => False) s'
          else ∃ ps' fs' l', On r s' ps' ((C, loc l') :: (D, isL acc) :: (I, It (i + 1)) :: fs') ∧ K (i + 1) ps' fs' acc) (fun _ _ => False) s) ∧
      On r s₂ ps ((I, It 0) :: fs) ∧ K 0 ps fs ([] : List Value) ∧
      (∀ acc s ps fs l C D, K items.length ps fs acc → On r s ps ((C, loc l) :: (D, isL acc) :: fs) →
        wpAny (model prog w) A (storeName env y (.ref D)) (fun _ s' => ∃ ps' fs' l', On r s' ps' ((C, loc l') :: fs') ∧ ∀ s'', On r s'' ps' fs' → Q .next s'') E s)) E s₁) E s)
    (hs : ∀ x, foldedSetIterable iter env x = pure x := by intro _; rfl) :
    wpAny (model prog w) A (exec (.Assign [.Name y py] (.ListComp elt [⟨.Name x px, iter, ifs, 0⟩] scope pos) spos) env) Q E s := by
  rw [exec_Assign_Name_used _ _ _ _ hsw]
  refine wpAny_bind (wpAny_standAt (wpAny_bind ?_))
  show wpAny _ A (do let _ ← comprehension (.ListComp elt [⟨.Name x px, iter, ifs, 0⟩] scope pos) scope env _ (newList []) false (eval iter env) (some (assign (.Name y py) env))) _ _ s
  refine wpAny_bind (wpAny_mono (wpAny_comprehension_free (use := some (assign (.Name y py) env)) (Q := fun _ s' => Q .next s') rfl hs hclos hkind hnames
    (wpAny_mono h (fun xv s₁ h₁ => wpAny_mono h₁ (fun it s₂ h₂ => ?_) fun _ _ e => e) fun _ _ e => e)) (fun _ s' hq => wpAny_pure (wpAny_pure hq)) fun _ _ e => e)
  obtain ⟨I, It, items, J, K, ps, fs, rfl, S, hJ, hlen, turn, D, hK, hQ⟩ := h₂
  refine comp_core K S hJ hlen H hcell hkind hx turn (fun acc s ps fs l C D' hk DD => ?_) D hK
  show wpAny _ A (assign (.Name y py) env (.ref D')) _ _ _
  refine wpAny_assign_Name (wpAny_mono (hQ acc s ps fs l C D' hk DD) (fun _ s' hq => ?_) fun _ _ e => e)
  obtain ⟨ps', fs', l', D₁, hq⟩ := hq
  obtain ⟨m, hn, _⟩ := D₁.st.ns (List.mem_append_right _ (.head _))
  exact ⟨m, hn, fun h' hs' => hq _ (D₁.with_heap (t := s'.toks) (D₁.st.lose hs'.extBut))⟩

/-! ## the sources -/
theorem src_list {I a : Addr} {xs : List Value} (hh : A.handled = none) : Src prog w A r I (isLI a) xs (fun _ ps fs => (a, isL xs) ∈ ps ++ fs) where
  self := fun hj D hq => wpAny_pyIter_listiter (D.st.li (List.mem_append_right _ (List.mem_of_getElem? hj))) hq
  item := fun hv hm D hq => next_list D (j := 2) rfl ((List.mem_append.mp hm).elim (List.mem_append_left _) fun q => List.mem_append_right _ (.tail _ (.tail _ (.tail _ q)))) hv hq
  fin := fun {s ps fs X Y Q E} hm D hq => by
    have D' := D.perm (fs' := (I, isLI a xs.length) :: X :: Y :: fs) (by
      exact (List.perm_middle (l₁ := [X, Y]) (a := (I, isLI a xs.length)) (l₂ := fs)).symm)
    exact next_list_end hh D' ((List.mem_append.mp hm).elim (List.mem_append_left _) fun q => List.mem_append_right _ (.tail _ (.tail _ q))) (by simp) hq
end
end Mine
/-! part M6 -/
set_option Elab.async false
set_option maxRecDepth 100000
set_option autoImplicit false
namespace Mine
open PySem PySem.Calls PySem.W PyProof.Rows

structure SrcF (prog : Program) (w : World) (A : Around) (r : Shared) (I : Addr) (It : Nat → Pr) (items : List Value) (J : Nat → Fs → Fs → Prop) : Prop where
  item : ∀ {i : Nat} {v : Value} {s : Shared} {ps fs : Fs} {Q : Option Value → Shared → Prop} {E : Value → Shared → Prop}, items[i]? = some v → J i ps fs → On r s ps ((I, It i) :: fs) → (∀ s', On r s' ps ((I, It (i + 1)) :: fs) → Q (some v) s') → wpAny (model prog w) A (pyNext (.ref I)) Q E s
  fin : ∀ {s : Shared} {ps fs : Fs} {Q : Option Value → Shared → Prop} {E : Value → Shared → Prop}, J items.length ps fs → On r s ps ((I, It items.length) :: fs) → (∀ s', On r s' ps fs → Q none s') → wpAny (model prog w) A (pyNext (.ref I)) Q E s

section
variable {prog : Program} {w : World} {A : Around} {E : Value → Shared → Prop} {r s : Shared} {ps fs : Fs}

theorem srcF_list {I a : Addr} {xs : List Value} (hh : A.handled = none) : SrcF prog w A r I (isLI a) xs (fun _ ps fs => (a, isL xs) ∈ ps ++ fs) where
  item := fun hv hm D hq => next_list D (j := 0) rfl ((List.mem_append.mp hm).elim (List.mem_append_left _) fun q => List.mem_append_right _ (.tail _ q)) hv hq
  fin := fun hm D hq => next_list_end hh D hm (by simp) hq
theorem srcF_tup {I a : Addr} {xs : List Value} (hh : A.handled = none) : SrcF prog w A r I (isTI a) xs (fun _ ps fs => (a, isT xs) ∈ ps ++ fs) where
  item := fun hv hm D hq => next_tup D (j := 0) rfl ((List.mem_append.mp hm).elim (List.mem_append_left _) fun q => List.mem_append_right _ (.tail _ q)) hv hq
  fin := fun hm D hq => next_tup_end hh D hm (by simp) hq

theorem for_loop {env : Env} {target : PySem.Expr} {body orelse : List Stmt} {I : Addr} {It : Nat → Pr} {items : List Value} {J : Nat → Fs → Fs → Prop} {Q : Flow → Shared → Prop}
    (K : Nat → Fs → Fs → Prop) (S : SrcF prog w A r I It items J) (hJ : ∀ i ps fs, K i ps fs → J i ps fs)
    (turn : ∀ i v s ps fs, items[i]? = some v → K i ps fs → On r s ps ((I, It (i + 1)) :: fs) →
      wpAny (model prog w) A (assign target env v) (fun _ s₂ => wpAny (model prog w) A (execs body env) (fun f s₃ => match f with
        | .next | .cont => ∃ ps' fs', On r s₃ ps' ((I, It (i + 1)) :: fs') ∧ K (i + 1) ps' fs'
        | .brk => Q .next s₃
        | .ret v => Q (.ret v) s₃) (fun _ _ => False) s₂) (fun _ _ => False) s)
    (done : ∀ s ps fs, K items.length ps fs → On r s ps fs → wpAny (model prog w) A (execs orelse env) Q (fun _ _ => False) s)
    (D : On r s ps ((I, It 0) :: fs)) (hK : K 0 ps fs) (ht : ∀ v, letOwnedTupleGo target (.ref I) v = pure ()) :
    codeAny (model prog w) A (.forLoop target (.ref I) body orelse env) (fun r s' => match r with | .ok f => Q f s' | .error e => cameBackBy (model prog w) A env E e s') s := by
  refine codeAny_forLoop (fun k s' => ∃ i ps fs, k = items.length + 1 - i ∧ i ≤ items.length ∧ On r s' ps ((I, It i) :: fs) ∧ K i ps fs) ?_ (items.length + 1) ⟨0, ps, fs, rfl, Nat.zero_le _, D, hK⟩ ht
  rintro k s' ⟨i, ps, fs, rfl, hi, D', hK'⟩
  rcases Nat.lt_or_eq_of_le hi with hlt | rfl
  · have hv : items[i]? = some items[i] := by simp [hlt]
    refine S.item hv (hJ _ _ _ hK') D' fun s₁ D₁ => ?_
    refine wpAny_mono (turn i _ s₁ ps fs hv hK' D₁) (fun _ s₂ h₂ => wpAny_mono h₂ (fun f s₃ h₃ => ?_) fun _ _ f => f.elim) fun _ _ f => f.elim
    cases f with
    | next => obtain ⟨ps', fs', D₃, hK₃⟩ := h₃; exact ⟨items.length + 1 - (i + 1), by omega, i + 1, ps', fs', rfl, hlt, D₃, hK₃⟩
    | cont => obtain ⟨ps', fs', D₃, hK₃⟩ := h₃; exact ⟨items.length + 1 - (i + 1), by omega, i + 1, ps', fs', rfl, hlt, D₃, hK₃⟩
    | brk => exact h₃
    | ret v => exact h₃
  · exact S.fin (hJ _ _ _ hK') D' fun s₁ D₁ => wpAny_mono (done s₁ ps fs hK' D₁) (fun _ _ q => q) fun _ _ f => f.elim
end

/-! ## the merge, on plain lists -/
def heads (s : List Value) : Value := s.headD .none
def good (all : List (List Value)) (c : Value) : Bool := all.all fun s => !decide (c ∈ s.drop 1)
def pick (all : List (List Value)) : Option Value := (all.find? fun s => good all (heads s)).map heads
def strip1 (c : Value) (s : List Value) : List Value := if heads s == c then s.drop 1 else s
def mergeF : Nat → List (List Value) → Option (List Value)
  | 0, _ => none
  | n + 1, xss =>
    if xss.filter (fun s => !s.isEmpty) = [] then some []
    else match pick (xss.filter fun s => !s.isEmpty) with
      | none => none
      | some c => (mergeF n ((xss.filter fun s => !s.isEmpty).map (strip1 c))).map (c :: ·)
/-- bases before the class, for each of the fifteen -/
def lists (k : Nat) : List (List Nat) := [[k]] ++ (up k).map way ++ [[]] ++ [[]] ++ [up k]
theorem merge_way : ∀ k, k < 15 → mergeF 8 ((lists k).map (fun l => l.map cl)) = some ((way k).map cl) := by decide +kernel
end Mine
/-! part M7 -/
set_option Elab.async false
set_option maxRecDepth 100000
set_option autoImplicit false
namespace Mine
open PySem PySem.Calls PySem.W PyProof.Rows

/-! ## the program's defs -/
def stOf (i : Nat) : Stmt := PySem.Challenge.pw_dn0021_01.main.body.getD i (.Pass default)
def bodyOf : Stmt → List Stmt
  | .FunctionDef _ _ b .. => b
  | _ => []
def nameOf : Stmt → Str
  | .FunctionDef n .. => n
  | _ => ""
def argsOf : Stmt → Arguments
  | .FunctionDef _ a .. => a
  | _ => default
def scopeOf : Stmt → Scope
  | .FunctionDef _ _ _ _ _ _ sc _ _ _ => sc
  | _ => default
def loopBody : Stmt → List Stmt
  | .While _ b _ _ => b
  | .For _ _ b _ _ => b
  | _ => []
def nth (l : List Stmt) (i : Nat) : Stmt := l.getD i (.Pass default)
def mkFn (i : Nat) (dflt : Value) (mod : Value) (c : Addr) : FuncData :=
  { name := nameOf (stOf i), qualname := nameOf (stOf i), params := argsOf (stOf i), body := .stmts (bodyOf (stOf i)), scope := scopeOf (stOf i), globals := 3, closure := [], defaults := dflt, kwdefaults := .none,
    doc := .none, pyModule := mod, annotations := none, code := .ref c, closureTuple := .none, builtins := 0 }
structure IsFn (B : Heap) (a : Addr) (i : Nat) (dflt : Value) : Prop where
  low : a ≠ 2 ∧ a ≠ 37
  ex : ∃ mod c, FnAt B a (mkFn i dflt mod c) ∧ CodeR B (.ref c) (nameOf (stOf i))
theorem IsFn.at {B : Heap} {a : Addr} {i : Nat} {dflt : Value} (x : IsFn B a i dflt) {h : Heap} {ps : Fs} (b : Base B h ps) : ∃ mod c, FnAt h a (mkFn i dflt mod c) ∧ h.CodeRec (.ref c) (nameOf (stOf i)) :=
  let ⟨mod, c, ⟨o, e, d⟩, y⟩ := x.ex; ⟨mod, c, ⟨o, b.keep _ _ e x.low.1 x.low.2, d⟩, y.rec b⟩

local macro_rules | `(tactic| walk_at "mem") => `(tactic| first
  | exact List.Mem.head _
  | exact List.Mem.tail _ (List.Mem.head _)
  | exact List.Mem.tail _ (List.Mem.tail _ (List.Mem.head _))
  | exact List.Mem.tail _ (List.Mem.tail _ (List.Mem.tail _ (List.Mem.head _)))
  | exact List.Mem.tail _ (List.Mem.tail _ (List.Mem.tail _ (List.Mem.tail _ (List.Mem.head _))))
  | exact List.Mem.tail _ (List.Mem.tail _ (List.Mem.tail _ (List.Mem.tail _ (List.Mem.tail _ (List.Mem.head _))))))

local macro_rules | `(tactic| walk_at "sub") => `(tactic| first | exact List.forall_mem_nil _ | (refine List.forall_mem_cons.mpr ⟨?_, ?_⟩; (walk_at "mem"); (walk_at "sub")))

theorem put_keep {x : Str} {v : Value} {l l₀ : List (Str × Value)} (hsub : ∀ p ∈ l₀, p ∈ l) (hne : (l₀.all fun p => decide (p.1 ≠ x)) = true) : ∀ p ∈ (x, v) :: l₀, p ∈ put x v l := by
  intro p hp
  rcases List.mem_cons.mp hp with rfl | hp
  · exact .head _
  · exact .tail _ (List.mem_filter.mpr ⟨hsub p hp, List.all_eq_true.mp hne p hp⟩)
section
variable {prog : Program} {w : World} {A : Around} {E : Value → Shared → Prop} {r s : Shared} {ps fs : Fs} {env : Env} {sc : Scope} {L : Addr} {cells : List (Str × Addr)}
theorem st_keep {x : Str} {v : Value} {l : List (Str × Value)} (l₀ : List (Str × Value)) {i : Nat} {Q : Unit → Shared → Prop} (H : EnvIs env sc L cells) (D : On r s ps fs) (hL : fs[i]? = some (L, loc l))
    (hl : sc.names.lookup x = some .local) (hk : sc.kind = .function) (hsub : ∀ p ∈ l₀, p ∈ l) (hne : (l₀.all fun p => decide (p.1 ≠ x)) = true) (h : ∀ s', On r s' ps (fs.set i (L, loc ((x, v) :: l₀))) → Q () s') : wpAny (model prog w) A (storeName env x v) Q E s := by
  refine st_local H D hL hl hk fun s' D' => h s' ?_
  have hlt : i < fs.length := (List.getElem?_eq_some_iff.mp hL).1
  have := D'.imp (i := i) (P' := loc ((x, v) :: l₀)) (by rw [List.getElem?_set]; simp [hlt]; rfl) (loc_sub (put_keep hsub hne))
  rwa [List.set_set] at this
end

/-! ## _c3_merge -/
def scM : Scope := scopeOf (stOf 3)
def whM : List Stmt := loopBody (nth (bodyOf (stOf 3)) 1)

/-- the lists of the merge, in the ledger -/
structure Seqs (ps fs : Fs) (as : List Addr) (xss : List (List Value)) : Prop where
  len : as.length = xss.length
  at_ : ∀ (i : Nat) (a : Addr) (xs : List Value), as[i]? = some a → xss[i]? = some xs → (a, isL xs) ∈ ps ++ fs
  ty : ∀ xs ∈ xss, ∀ x ∈ xs, Ty x
  small : xss.length ≤ 1000 ∧ ∀ xs ∈ xss, xs.length ≤ 1000
theorem Seqs.tail {ps fs : Fs} {as : List Addr} {xss : List (List Value)} (x : Seqs ps fs as xss) (p : Addr × Pr) : Seqs ps (p :: fs) as xss :=
  ⟨x.len, fun i a xs h1 h2 => (List.mem_append.mp (x.at_ i a xs h1 h2)).elim (List.mem_append_left _) fun q => List.mem_append_right _ (.tail _ q), x.ty, x.small⟩

theorem mem_app_cons {ps fs : Fs} {p q : Addr × Pr} (h : p ∈ ps ++ fs) : p ∈ ps ++ q :: fs := (List.mem_append.mp h).elim (List.mem_append_left _) fun z => List.mem_append_right _ (.tail _ z)

theorem Ty.ne_none {x : Value} (h : Ty x) : (x == Value.none) = false := by obtain ⟨k, _, rfl⟩ := h; rfl

section
variable {prog : Program} {w : World} {A : Around} {E : Value → Shared → Prop} {r s : Shared} {ps rest : Fs}

def forIn2 : List Stmt := loopBody (nth whM 2)

/-- the inner search: is the candidate in no tail? -/
theorem inner {env : Env} {L : Addr} (hA : A.handled = none) (H : EnvIs env scM L []) {q R : Addr} {as : List Addr} {xss : List (List Value)} {c : Value} {v1 : Value} {Q : Flow → Shared → Prop}
    (D : On r s ps ((L, loc [("candidate", c), ("s1", v1), ("sequences", .ref q), ("result", .ref R)]) :: rest)) (hq : (q, isL (as.map .ref)) ∈ ps ++ rest) (S : Seqs ps rest as xss) (hne : ∀ xs ∈ xss, xs ≠ []) (hc : Ty c)
    (h1 : good xss c = true → ∀ s', On r s' ps ((L, loc [("candidate", c), ("sequences", .ref q), ("result", .ref R)]) :: rest) → Q .brk s')
    (h2 : good xss c = false → ∀ s', On r s' ps ((L, loc [("sequences", .ref q), ("result", .ref R)]) :: rest) → Q .next s') :
    wpAny (model prog w) A (exec (nth forIn2 1) env) Q E s := by
  refine wpAny_For ?_
  refine ev_local H D (by walk_at "mem") (by walk_at "mem") rfl rfl ?_
  refine it_list D (mem_app_cons hq) fun I s D => ?_
  refine for_loop (fun i ps' fs' => ps' = ps ∧ ∃ l, (∀ p ∈ ([("candidate", c), ("s1", v1), ("sequences", .ref q), ("result", .ref R)] : List (Str × Value)), p ∈ l) ∧ fs' = (L, loc l) :: rest ∧ ∀ j xs, j < i → xss[j]? = some xs → c ∉ xs.drop 1)
    (srcF_list (xs := as.map Value.ref) hA) ?_ ?_ ?_ D ?_ (fun _ => rfl)
  · rintro i ps' fs' ⟨rfl, l, hl, rfl, _⟩; exact mem_app_cons hq
  · rintro i v s ps' fs' hv ⟨rfl, l, hl, rfl, hg⟩ D
    rw [List.getElem?_map] at hv
    obtain ⟨a, ha, rfl⟩ := Option.map_eq_some_iff.mp hv
    have hlt : i < xss.length := by rw [← S.len]; exact (List.getElem?_eq_some_iff.mp ha).1
    have hx : xss[i]? = some xss[i] := by simp [hlt]
    have hm := List.mem_of_getElem? hx
    have hne1 : 1 ≤ xss[i].length := List.length_pos_iff.mpr (hne _ hm)
    refine wpAny_assign_Name (st_keep _ H D (i := 1) rfl rfl rfl hl rfl fun s D => ?_)
    refine wpAny_execs_cons (wpAny_If (wpAny_isTrue_Compare1 ?_))
    refine ev_local H D (by walk_at "mem") (by walk_at "mem") rfl rfl ?_
    refine slice_from1 D (mem_app_cons (mem_app_cons (S.at_ i a _ ha hx))) (fun Q' hq' => ev_local H D (by walk_at "mem") (by walk_at "mem") rfl rfl hq') hne1 (by rw [sizeLine_eq]; have := S.small.2 _ hm; omega) fun d s D => ?_
    refine in_ty D (List.mem_append_right _ (.head _)) (fun y hy => S.ty _ hm y (List.mem_of_mem_drop hy)) hc ?_
    refine wpAny_truthy_bool ?_
    by_cases hin : c ∈ xss[i].drop 1
    · rw [decide_eq_true hin]
      simp only [if_true]
      refine wpAny_execs_cons (wpAny_Assign_Name (wpAny_Constant_none ?_))
      refine st_keep [("sequences", .ref q), ("result", .ref R)] H D (i := 2) rfl rfl rfl (by walk_at "sub") rfl fun s D => ?_
      refine wpAny_execs_cons (wpAny_Break ?_)
      have D' := On.sub (fs' := (L, loc [("candidate", Value.none), ("sequences", .ref q), ("result", .ref R)]) :: rest) D (.cons _ (.cons _ (.refl _)))
      refine h2 ?_ s (D'.imp (i := 0) (P' := loc [("sequences", .ref q), ("result", .ref R)]) rfl (loc_sub (by walk_at "sub")))
      rw [good, Bool.eq_false_iff]
      intro hg'
      have := List.all_eq_true.mp hg' _ hm
      rw [decide_eq_true hin] at this
      cases this
    · rw [decide_eq_false hin]
      simp only [Bool.false_eq_true, if_false]
      refine wpAny_execs_nil (wpAny_execs_nil ?_)
      refine ⟨ps', (L, loc _) :: rest, D.sub (.cons _ (.refl _)), rfl, _, ?_, rfl, fun j xs hj hxs => ?_⟩
      · exact fun p hp => .tail _ hp
      · rcases Nat.lt_succ_iff_lt_or_eq.mp hj with hj | rfl
        · exact hg j xs hj hxs
        · rw [hx] at hxs; cases hxs; exact hin
  · rintro s ps' fs' ⟨rfl, l, hl, rfl, hg⟩ D
    refine wpAny_execs_cons (wpAny_Break ?_)
    refine h1 ?_ s (D.imp (i := 0) (P' := loc [("candidate", c), ("sequences", .ref q), ("result", .ref R)]) rfl (loc_sub fun p hp => hl p ?_))
    · rw [good, List.all_eq_true]
      intro xs hxs
      obtain ⟨j, hj⟩ := List.getElem?_of_mem hxs
      have := hg j xs (by rw [List.length_map, S.len]; exact (List.getElem?_eq_some_iff.mp hj).1) hj
      rw [decide_eq_false this]; rfl
    · revert p; walk_at "sub"
  · exact ⟨rfl, _, fun p hp => hp, rfl, fun j xs hj => absurd hj (Nat.not_lt_zero _)⟩


/-- the outer search -/
theorem outer {env : Env} {L : Addr} (hA : A.handled = none) (H : EnvIs env scM L []) {q R : Addr} {as : List Addr} {xss : List (List Value)} {c : Value} {Q : Flow → Shared → Prop}
    (D : On r s ps ((L, loc [("sequences", .ref q), ("result", .ref R)]) :: rest)) (hq : (q, isL (as.map .ref)) ∈ ps ++ rest) (S : Seqs ps rest as xss) (hne : ∀ xs ∈ xss, xs ≠ []) (hp : pick xss = some c)
    (h : ∀ s', On r s' ps ((L, loc [("candidate", c), ("sequences", .ref q), ("result", .ref R)]) :: rest) → Q .next s') :
    wpAny (model prog w) A (exec (nth whM 2) env) Q E s := by
  refine wpAny_For ?_
  refine ev_local H D (by walk_at "mem") (by walk_at "mem") rfl rfl ?_
  refine it_list D (mem_app_cons hq) fun I s D => ?_
  refine for_loop (fun i ps' fs' => ps' = ps ∧ ∃ l, (∀ p ∈ ([("sequences", .ref q), ("result", .ref R)] : List (Str × Value)), p ∈ l) ∧ fs' = (L, loc l) :: rest ∧ ∀ j xs, j < i → xss[j]? = some xs → good xss (heads xs) = false)
    (srcF_list (xs := as.map Value.ref) hA) ?_ ?_ ?_ D ?_ (fun _ => rfl)
  · rintro i ps' fs' ⟨rfl, l, hl, rfl, _⟩; exact mem_app_cons hq
  · rintro i v s ps' fs' hv ⟨rfl, l, hl, rfl, hg⟩ D
    rw [List.getElem?_map] at hv
    obtain ⟨a, ha, rfl⟩ := Option.map_eq_some_iff.mp hv
    have hlt : i < xss.length := by rw [← S.len]; exact (List.getElem?_eq_some_iff.mp ha).1
    have hx : xss[i]? = some xss[i] := by simp [hlt]
    have hm := List.mem_of_getElem? hx
    have hne1 := hne _ hm
    obtain ⟨y, ys, hy⟩ := List.exists_cons_of_ne_nil hne1
    have hhd : heads xss[i] = y := by rw [hy]; rfl
    have hyT : Ty y := S.ty _ hm y (by rw [hy]; exact .head _)
    refine wpAny_assign_Name (st_keep _ H D (i := 1) rfl rfl rfl hl rfl fun s D => ?_)
    refine wpAny_execs_cons (wpAny_Assign_Name (Subscript_ ?_))
    refine ev_local H D (by walk_at "mem") (by walk_at "mem") rfl rfl ?_
    refine wpAny_Constant_int ?_
    refine item_list (x := y) D.tok (mem_app_cons (mem_app_cons (S.at_ i a _ ha hx))) (by decide) (by decide) (by rw [hy]; rfl) ?_
    refine st_keep [("s1", .ref a), ("sequences", .ref q), ("result", .ref R)] H D.tok (i := 1) rfl rfl rfl (by walk_at "sub") rfl fun s D => ?_
    refine wpAny_execs_cons ?_
    have D' := On.perm (fs' := (L, loc [("candidate", y), ("s1", .ref a), ("sequences", .ref q), ("result", .ref R)]) :: (I, isLI q (i + 1)) :: rest) D (.swap _ _ _)
    refine inner hA H D' (mem_app_cons hq) (S.tail _) hne hyT (fun hgood s D => ?_) (fun hbad s D => ?_)
    · have hpc : pick xss = some y := by
        rw [pick]
        have : xss.find? (fun s => good xss (heads s)) = some xss[i] := by
          rw [List.find?_eq_some_iff_getElem]
          refine ⟨by rw [hhd]; exact hgood, i, hlt, rfl, fun j hj => ?_⟩
          have := hg j xss[j] hj (by simp)
          rw [this]; rfl
        rw [this, Option.map_some, hhd]
      rw [hpc] at hp; cases hp
      exact h s (D.sub (.cons_cons _ (.cons _ (.refl _))))
    · refine wpAny_execs_nil ?_
      refine ⟨ps', (L, loc _) :: rest, D.perm (.swap _ _ _), rfl, _, fun p hp => hp, rfl, fun j xs hj hxs => ?_⟩
      rcases Nat.lt_succ_iff_lt_or_eq.mp hj with hj | rfl
      · exact hg j xs hj hxs
      · rw [hx] at hxs; cases hxs; rw [hhd]; exact hbad
  · rintro s ps' fs' ⟨rfl, l, hl, rfl, hg⟩ D
    exfalso
    rw [pick] at hp
    obtain ⟨xs, hf, _⟩ := Option.map_eq_some_iff.mp hp
    obtain ⟨hgd, j, hj, e, _⟩ := List.find?_eq_some_iff_getElem.mp hf
    have := hg j xs (by rw [List.length_map, S.len]; exact hj) (by rw [← e]; simp)
    simp only [this] at hgd
    cases hgd
  · exact ⟨rfl, _, fun p hp => hp, rfl, fun j xs hj => absurd hj (Nat.not_lt_zero _)⟩
end
end Mine
/-! part M8 -/
set_option Elab.async false
set_option maxRecDepth 100000
set_option autoImplicit false
namespace Mine
open PySem PySem.Calls PySem.W PyProof.Rows
local macro_rules | `(tactic| walk_at "mem") => `(tactic| first
  | exact List.Mem.head _
  | exact List.Mem.tail _ (List.Mem.head _)
  | exact List.Mem.tail _ (List.Mem.tail _ (List.Mem.head _))
  | exact List.Mem.tail _ (List.Mem.tail _ (List.Mem.tail _ (List.Mem.head _)))
  | exact List.Mem.tail _ (List.Mem.tail _ (List.Mem.tail _ (List.Mem.tail _ (List.Mem.head _))))
  | exact List.Mem.tail _ (List.Mem.tail _ (List.Mem.tail _ (List.Mem.tail _ (List.Mem.tail _ (List.Mem.head _))))))
local macro_rules | `(tactic| walk_at "sub") => `(tactic| first | exact List.forall_mem_nil _ | (refine List.forall_mem_cons.mpr ⟨?_, ?_⟩; (walk_at "mem"); (walk_at "sub")))

def seqE (as : List Addr) (xss : List (List Value)) : Fs := (as.zip xss).map fun p => (p.1, isL p.2)
theorem seqE_get {as : List Addr} {xss : List (List Value)} {i : Nat} {a : Addr} {xs : List Value} (h1 : as[i]? = some a) (h2 : xss[i]? = some xs) : (seqE as xss)[i]? = some (a, isL xs) := by
  unfold seqE
  rw [List.getElem?_map, (List.getElem?_zip_eq_some (z := (a, xs))).mpr ⟨h1, h2⟩]; rfl
theorem seqE_length {as : List Addr} {xss : List (List Value)} (h : as.length = xss.length) : (seqE as xss).length = as.length := by
  unfold seqE; rw [List.length_map, List.length_zip, h, Nat.min_self]
theorem seqE_set {as : List Addr} {xss : List (List Value)} {i : Nat} {a : Addr} {ys : List Value} (h1 : as[i]? = some a) : (seqE as xss).set i (a, isL ys) = seqE as (xss.set i ys) := by
  unfold seqE
  induction as generalizing xss i with
  | nil => simp at h1
  | cons b as ih =>
    cases xss with
    | nil => simp
    | cons xs xss =>
      cases i with
      | zero => simp only [List.getElem?_cons_zero, Option.some.injEq] at h1; subst h1; rfl
      | succ i =>
        simp only [List.getElem?_cons_succ] at h1
        simp only [List.zip_cons_cons, List.map_cons, List.set_cons_succ, List.cons.injEq, true_and]
        exact ih h1
theorem blk_get {pre rest : Fs} {as : List Addr} {xss : List (List Value)} {i : Nat} {a : Addr} {xs : List Value} (hl : as.length = xss.length) (h1 : as[i]? = some a) (h2 : xss[i]? = some xs) : (pre ++ (seqE as xss ++ rest))[pre.length + i]? = some (a, isL xs) := by
  rw [List.getElem?_append_right (Nat.le_add_right ..), Nat.add_sub_cancel_left, List.getElem?_append_left (by rw [seqE_length hl]; exact (List.getElem?_eq_some_iff.mp h1).1)]
  exact seqE_get h1 h2
theorem blk_set {pre rest : Fs} {as : List Addr} {xss : List (List Value)} {i : Nat} {a : Addr} {ys : List Value} (hl : as.length = xss.length) (h1 : as[i]? = some a) : (pre ++ (seqE as xss ++ rest)).set (pre.length + i) (a, isL ys) = pre ++ (seqE as (xss.set i ys) ++ rest) := by
  rw [List.set_append_right _ _ (Nat.le_add_right ..), Nat.add_sub_cancel_left, List.set_append_left _ _ (by rw [seqE_length hl]; exact (List.getElem?_eq_some_iff.mp h1).1), seqE_set h1]
theorem seqs_of {ps pre rest : Fs} {as : List Addr} {xss : List (List Value)} (hl : as.length = xss.length) (ht : ∀ xs ∈ xss, ∀ x ∈ xs, Ty x) (hs : xss.length ≤ 1000 ∧ ∀ xs ∈ xss, xs.length ≤ 1000) : Seqs ps (pre ++ (seqE as xss ++ rest)) as xss :=
  ⟨hl, fun _ _ _ h1 h2 => List.mem_append_right _ (List.mem_of_getElem? (blk_get hl h1 h2)), ht, hs⟩

section
variable {prog : Program} {w : World} {A : Around} {E : Value → Shared → Prop} {r s : Shared} {ps rest : Fs}

/-- the last loop: the chosen class goes -/
theorem strips {env : Env} {L : Addr} (hA : A.handled = none) (H : EnvIs env scM L []) {q R : Addr} {as : List Addr} {xss : List (List Value)} {c : Value} {res : List Value} {Q : Flow → Shared → Prop}
    (D : On r s ps ((L, loc [("candidate", c), ("sequences", .ref q), ("result", .ref R)]) :: (R, isL res) :: (q, isL (as.map .ref)) :: (seqE as xss ++ rest))) (hlen : as.length = xss.length) (hty : ∀ xs ∈ xss, ∀ x ∈ xs, Ty x) (hsm : xss.length ≤ 1000 ∧ ∀ xs ∈ xss, xs.length ≤ 1000)
    (hne : ∀ xs ∈ xss, xs ≠ []) (hc : Ty c)
    (h : ∀ s', On r s' ps ((L, loc [("sequences", .ref q), ("result", .ref R)]) :: (R, isL res) :: (q, isL (as.map .ref)) :: (seqE as (xss.map (strip1 c)) ++ rest)) → Q .next s') :
    wpAny (model prog w) A (exec (nth whM 5) env) Q E s := by
  refine wpAny_For ?_
  refine ev_local H D (by walk_at "mem") (by walk_at "mem") rfl rfl ?_
  refine it_list D (List.mem_append_right _ (by walk_at "mem")) fun I s D => ?_
  refine for_loop (fun i ps' fs' => ps' = ps ∧ ∃ l, (∀ p ∈ ([("candidate", c), ("sequences", .ref q), ("result", .ref R)] : List (Str × Value)), p ∈ l) ∧ fs' = (L, loc l) :: (R, isL res) :: (q, isL (as.map .ref)) :: (seqE as ((xss.take i).map (strip1 c) ++ xss.drop i) ++ rest))
    (srcF_list (xs := as.map Value.ref) hA) ?_ ?_ ?_ D ?_ (fun _ => rfl)
  · rintro i ps' fs' ⟨rfl, l, hl, rfl⟩; exact List.mem_append_right _ (by walk_at "mem")
  · rintro i v s ps' fs' hv ⟨rfl, l, hl, rfl⟩ D
    rw [List.getElem?_map] at hv
    obtain ⟨a, ha, rfl⟩ := Option.map_eq_some_iff.mp hv
    have hlt : i < xss.length := by rw [← hlen]; exact (List.getElem?_eq_some_iff.mp ha).1
    have hm : xss[i] ∈ xss := List.getElem_mem hlt
    obtain ⟨y, ys, hy⟩ := List.exists_cons_of_ne_nil (hne _ hm)
    have hyT : Ty y := hty _ hm y (by rw [hy]; exact .head _)
    generalize hyss : (xss.take i).map (strip1 c) ++ xss.drop i = yss at D
    have hlen' : as.length = yss.length := by rw [← hyss]; simp; omega
    have hyi : yss[i]? = some (y :: ys) := by
      rw [← hyss, List.getElem?_append_right (by simp; omega)]
      simp only [List.length_map, List.length_take]
      rw [show i - min i xss.length = 0 by omega, List.getElem?_drop, Nat.add_zero, ← hy]
      simp
    have hstep : (xss.take (i + 1)).map (strip1 c) ++ xss.drop (i + 1) = yss.set i (strip1 c (y :: ys)) := by
      rw [← hyss, List.set_append_right _ _ (by simp; omega)]
      simp only [List.length_map, List.length_take]
      rw [show i - min i xss.length = 0 by omega, List.take_add_one, List.getElem?_eq_getElem hlt, List.drop_eq_getElem_cons hlt, hy]
      simp
    refine wpAny_assign_Name (st_keep _ H D (i := 1) rfl rfl rfl hl rfl fun s D => ?_)
    refine wpAny_execs_cons (wpAny_If (wpAny_isTrue_Compare1 (Subscript_ ?_)))
    refine ev_local H D (by walk_at "mem") (by walk_at "mem") rfl rfl ?_
    refine wpAny_Constant_int ?_
    have Dt := D.tok (t := s.toks + 1)
    have hbm : (a, isL (y :: ys)) ∈ ps' ++ ((I, isLI q (i + 1)) :: (L, loc (("seq", Value.ref a) :: [("candidate", c), ("sequences", .ref q), ("result", .ref R)])) :: (R, isL res) :: (q, isL (as.map .ref)) :: (seqE as yss ++ rest)) :=
      List.mem_append_right _ (List.mem_of_getElem? (blk_get (pre := [(I, isLI q (i + 1)), (L, loc (("seq", Value.ref a) :: [("candidate", c), ("sequences", .ref q), ("result", .ref R)])), (R, isL res), (q, isL (as.map .ref))]) hlen' ha hyi))
    refine item_list (x := y) Dt hbm (by decide) (by decide) rfl ?_
    refine ev_local H Dt (by walk_at "mem") (by walk_at "mem") rfl rfl ?_
    refine cmp_eq_ty hyT hc (wpAny_truthy_bool ?_)
    by_cases e : y = c
    · subst e
      rw [beq_self_eq_true]
      simp only [if_true]
      refine wpAny_execs_cons (wpAny_Delete (wpAny_deleteEach_cons (wpAny_delete_Subscript ?_)))
      refine ev_local H Dt (by walk_at "mem") (by walk_at "mem") rfl rfl ?_
      refine wpAny_Constant_int ?_
      refine del0_list (Dt.tok) (i := 4 + i) (a := a) (x := y) (xs := ys) (blk_get (pre := [(I, isLI q (i + 1)), (L, loc (("seq", Value.ref a) :: [("candidate", y), ("sequences", .ref q), ("result", .ref R)])), (R, isL res), (q, isL (as.map .ref))]) hlen' ha hyi)
        (by rw [sizeLine_eq]; have := hsm.2 _ hm; rw [hy, List.length_cons] at this; omega) fun s D => ?_
      have hb := blk_set (pre := [(I, isLI q (i + 1)), (L, loc (("seq", Value.ref a) :: [("candidate", y), ("sequences", .ref q), ("result", .ref R)])), (R, isL res), (q, isL (as.map .ref))]) (rest := rest) (xss := yss) (ys := ys) hlen' ha
      have D' : On r s ps' ((I, isLI q (i + 1)) :: (L, loc (("seq", Value.ref a) :: [("candidate", y), ("sequences", .ref q), ("result", .ref R)])) :: (R, isL res) :: (q, isL (as.map .ref)) :: (seqE as (yss.set i ys) ++ rest)) := by
        exact Eq.mp (congrArg (On r s ps') hb) D
      refine wpAny_deleteEach_nil (wpAny_execs_nil (wpAny_execs_nil ?_))
      refine ⟨ps', _, D', rfl, ("seq", Value.ref a) :: [("candidate", y), ("sequences", .ref q), ("result", .ref R)], fun p hp => .tail _ hp, ?_⟩
      rw [hstep]
      have : strip1 y (y :: ys) = ys := by simp [strip1, heads]
      rw [this]
    · rw [beq_eq_false_iff_ne.mpr e]
      simp only [Bool.false_eq_true, if_false]
      refine wpAny_execs_nil (wpAny_execs_nil ?_)
      refine ⟨ps', _, Dt, rfl, ("seq", Value.ref a) :: [("candidate", c), ("sequences", .ref q), ("result", .ref R)], fun p hp => .tail _ hp, ?_⟩
      rw [hstep]
      have h1 : strip1 c (y :: ys) = y :: ys := by simp [strip1, heads, e]
      have h2 : yss.set i (y :: ys) = yss := X.set_same hyi
      rw [h1, h2]
      rfl
  · rintro s ps' fs' ⟨rfl, l, hl, rfl⟩ D
    rw [List.length_map, hlen, List.take_length, List.drop_length, List.append_nil] at D
    refine wpAny_execs_nil (h s (D.imp (i := 0) rfl (loc_sub fun p hp => hl p ?_)))
    revert p; walk_at "sub"
  · refine ⟨rfl, _, fun p hp => hp, ?_⟩
    simp
end
end Mine
/-! part M9 -/
set_option Elab.async false
set_option maxRecDepth 100000
set_option autoImplicit false
namespace Mine
open PySem PySem.Calls PySem.W PyProof.Rows
local macro_rules | `(tactic| walk_at "mem") => `(tactic| first
  | exact List.Mem.head _
  | exact List.Mem.tail _ (List.Mem.head _)
  | exact List.Mem.tail _ (List.Mem.tail _ (List.Mem.head _))
  | exact List.Mem.tail _ (List.Mem.tail _ (List.Mem.tail _ (List.Mem.head _)))
  | exact List.Mem.tail _ (List.Mem.tail _ (List.Mem.tail _ (List.Mem.tail _ (List.Mem.head _))))
  | exact List.Mem.tail _ (List.Mem.tail _ (List.Mem.tail _ (List.Mem.tail _ (List.Mem.tail _ (List.Mem.head _))))))
local macro_rules | `(tactic| walk_at "sub") => `(tactic| first | exact List.forall_mem_nil _ | (refine List.forall_mem_cons.mpr ⟨?_, ?_⟩; (walk_at "mem"); (walk_at "sub")))

theorem swaps_yes {elt : PySem.Expr} {gens : List Comprehension} {scope : Scope} {pos : Pos} {env : Env} {sc : Scope} {L : Addr} {cells : List (Str × Addr)} {t : Str} {tp : Pos} {n : Nat} (H : EnvIs env sc L cells) (hl : sc.names.lookup t = some .local) (hk : sc.kind = .function)
    (hline : (tp.line == pos.line) = true) (hno : (scope.names.any fun x => x.1 == t && (x.2 == .local || x.2 == .cell)) = false) : swapsWith (.ListComp elt gens scope pos) (some (.Name t tp)) n env = pure true := by
  have e : (NameKind.local == NameKind.local) = true := rfl
  have e2 : (ScopeKind.function == ScopeKind.function) = true := rfl
  have hb : env.blockKind = .function := by unfold Env.blockKind; rw [H.scope, hk]; rfl
  have hp : (PySem.Expr.ListComp elt gens scope pos).pos = pos := rfl
  have hno' : (scope.names.any fun (n, k) => n == t && (k == NameKind.local || k == NameKind.cell)) = false := hno
  simp only [swapsWith, H.kind hl, hb, hp, hline, hno']
  rfl

theorem nonempty_pairs {as : List Addr} {xss : List (List Value)} (h : as.length = xss.length) : ((as.zip xss).filter fun p => !p.2.isEmpty).map (·.2) = xss.filter fun s => !s.isEmpty := by
  induction as generalizing xss with
  | nil => cases xss with
    | nil => rfl
    | cons _ _ => simp at h
  | cons a as ih => cases xss with
    | nil => simp at h
    | cons x xss =>
      simp only [List.length_cons, Nat.add_right_cancel_iff] at h
      simp only [List.zip_cons_cons, List.filter_cons]
      cases x.isEmpty <;> simp [ih h]
theorem seqE_pairs (zs : List (Addr × List Value)) : seqE (zs.map (·.1)) (zs.map (·.2)) = zs.map fun p => (p.1, isL p.2) := by
  induction zs with
  | nil => rfl
  | cons z zs ih => simp only [List.map_cons, seqE, List.zip_cons_cons, List.cons.injEq, true_and]; exact ih

section
variable {prog : Program} {w : World} {A : Around} {E : Value → Shared → Prop} {r s : Shared} {ps rest : Fs}

/-- sequences = [s for s in sequences if s] -/
theorem keeps {env : Env} {L : Addr} (hA : A.handled = none) (H : EnvIs env scM L []) {q R : Addr} {as : List Addr} {xss : List (List Value)} {res : List Value} {Q : Flow → Shared → Prop}
    (D : On r s ps ((L, loc [("sequences", .ref q), ("result", .ref R)]) :: (R, isL res) :: (q, isL (as.map .ref)) :: (seqE as xss ++ rest))) (hlen : as.length = xss.length) (hsm : xss.length ≤ 1000 ∧ ∀ xs ∈ xss, xs.length ≤ 1000)
    (h : ∀ s' q' as', as'.length = (xss.filter fun s => !s.isEmpty).length → On r s' ps ((L, loc [("sequences", .ref q'), ("result", .ref R)]) :: (R, isL res) :: (q', isL (as'.map .ref)) :: (seqE as' (xss.filter fun s => !s.isEmpty) ++ rest)) → Q .next s') :
    wpAny (model prog w) A (exec (nth whM 0) env) Q E s := by
  refine comp_assign (r := r) (cl := []) (swaps_yes H rfl rfl rfl rfl) H (closureFor_none (by decide)) (by decide) rfl (by decide) rfl ?_
  refine ev_local H D (by walk_at "mem") (by walk_at "mem") rfl rfl ?_
  refine it_list D (List.mem_append_right _ (by walk_at "mem")) fun I s D => ?_
  refine ⟨I, isLI q, as.map Value.ref, fun _ ps fs => (q, isL (as.map Value.ref)) ∈ ps ++ fs,
    fun i ps' fs' acc => ps' = ps ∧ fs' = (L, loc [("sequences", .ref q), ("result", .ref R)]) :: (R, isL res) :: (q, isL (as.map .ref)) :: (seqE as xss ++ rest) ∧ acc = (((as.zip xss).take i).filter fun p => !p.2.isEmpty).map fun p => Value.ref p.1,
    ps, _, rfl, src_list hA, ?_, by rw [List.length_map, hlen]; omega, ?_, D, ⟨rfl, rfl, rfl⟩, ?_⟩
  · rintro i ps' fs' acc ⟨rfl, rfl, rfl⟩
    refine ⟨List.mem_append_right _ (by walk_at "mem"), ?_⟩
    rw [List.length_map]
    refine Nat.le_trans (List.length_filter_le _ _) ?_
    rw [List.length_take]; omega
  · rintro i v acc s ps' fs' cenv C D' Hc hv ⟨rfl, rfl, rfl⟩ D
    rw [List.getElem?_map] at hv
    obtain ⟨a, ha, rfl⟩ := Option.map_eq_some_iff.mp hv
    have hlt : i < xss.length := by rw [← hlen]; exact (List.getElem?_eq_some_iff.mp ha).1
    have hx : xss[i]? = some xss[i] := by simp [hlt]
    have hm := List.getElem_mem hlt
    have hz : (as.zip xss)[i]? = some (a, xss[i]) := (List.getElem?_zip_eq_some (z := (a, xss[i]))).mpr ⟨ha, hx⟩
    have hbm : ∀ X Y Z : Addr × Pr, (a, isL xss[i]) ∈ X :: Y :: Z :: (L, loc [("sequences", Value.ref q), ("result", .ref R)]) :: (R, isL res) :: (q, isL (as.map .ref)) :: (seqE as xss ++ rest) := fun X Y Z =>
      List.mem_of_getElem? (blk_get (pre := [X, Y, Z, (L, loc [("sequences", Value.ref q), ("result", .ref R)]), (R, isL res), (q, isL (as.map .ref))]) hlen ha hx)
    refine wpAny_tests_one (wpAny_isTrue_value ?_)
    refine ev_local Hc D (by walk_at "mem") (by walk_at "mem") (lookup_relabel_local rfl) rfl ?_
    refine truth_list D (List.mem_append_right _ (hbm _ _ _)) (by have := hsm.2 _ hm; omega) fun s D => ?_
    cases he : xss[i].isEmpty with
    | true =>
      simp only [Bool.not_true, Bool.false_eq_true, if_false]
      refine ⟨ps', _, _, D, rfl, rfl, ?_⟩
      rw [List.take_add_one, hz]
      simp [he]
    | false =>
      simp only [Bool.not_false, if_true]
      refine ev_local Hc D (by walk_at "mem") (by walk_at "mem") (lookup_relabel_local rfl) rfl ?_
      refine ⟨ps', _, _, D, rfl, rfl, ?_⟩
      rw [List.take_add_one, hz]
      simp [he]
  · rintro acc s ps' fs' l C D' ⟨rfl, rfl, rfl⟩ D
    refine st_keep [("result", .ref R)] H D (i := 2) rfl rfl rfl (by walk_at "sub") rfl fun s D => ?_
    refine ⟨ps', _, _, D, fun s D => ?_⟩
    rw [List.length_map, List.take_of_length_le (by rw [List.length_zip, hlen]; omega)] at D
    generalize hzs : ((as.zip xss).filter fun p => !p.2.isEmpty) = zs at D
    have hx2 : zs.map (·.2) = xss.filter fun s => !s.isEmpty := by rw [← hzs]; exact nonempty_pairs hlen
    rw [← hx2] at h
    refine h s D' (zs.map (·.1)) (by simp) ?_
    rw [seqE_pairs]
    have e : (zs.map fun p => Value.ref p.1) = (zs.map (·.1)).map Value.ref := by simp
    rw [e] at D
    have hsub : (zs.map fun p => (p.1, isL p.2)).Sublist (seqE as xss) := by
      rw [← hzs]; exact List.Sublist.map _ List.filter_sublist
    have D1 := On.sub (fs' := (D', isL ((zs.map (·.1)).map Value.ref)) :: (L, loc [("sequences", .ref D'), ("result", .ref R)]) :: (R, isL res) :: (zs.map (fun p => (p.1, isL p.2)) ++ rest)) D
      (.cons_cons _ (.cons_cons _ (.cons_cons _ (.cons _ (hsub.append (.refl _))))))
    exact D1.perm (((List.Perm.swap _ _ _).cons _).trans (List.Perm.swap _ _ _))

theorem pick_mem {xss : List (List Value)} {c : Value} (hne : ∀ xs ∈ xss, xs ≠ []) (h : pick xss = some c) : ∃ xs ∈ xss, c ∈ xs := by
  obtain ⟨xs, hf, e⟩ := Option.map_eq_some_iff.mp h
  have hm := List.mem_of_find?_eq_some hf
  obtain ⟨y, ys, hy⟩ := List.exists_cons_of_ne_nil (hne _ hm)
  subst hy
  exact ⟨_, hm, by rw [← e]; exact .head _⟩
theorem strip1_mem {c x : Value} {xs : List Value} (h : x ∈ strip1 c xs) : x ∈ xs := by
  unfold strip1 at h
  split at h
  · exact List.mem_of_mem_drop h
  · exact h
theorem strip1_len {c : Value} {xs : List Value} : (strip1 c xs).length ≤ xs.length := by
  unfold strip1
  split
  · rw [List.length_drop]; omega
  · exact Nat.le_refl _

/-- the body of _c3_merge -/
theorem merge_body {env : Env} {L : Addr} (hA : A.handled = none) (H : EnvIs env scM L []) {q : Addr} {as : List Addr} {xss : List (List Value)} {out : List Value} {n : Nat} {Q : Flow → Shared → Prop}
    (D : On r s ps ((L, loc [("sequences", .ref q)]) :: (q, isL (as.map .ref)) :: (seqE as xss ++ rest))) (hlen : as.length = xss.length) (hty : ∀ xs ∈ xss, ∀ x ∈ xs, Ty x) (hsm : xss.length ≤ 1000 ∧ ∀ xs ∈ xss, xs.length ≤ 1000)
    (hm : mergeF n xss = some out) (hn : n ≤ 1000) (h : ∀ R s', On r s' ps ((R, isL out) :: rest) → Q (.ret (.ref R)) s') :
    wpAny (model prog w) A (execs (bodyOf (stOf 3)) env) Q (fun _ _ => False) s := by
  refine wpAny_execs_cons (wpAny_Assign_Name (List_ (wpAny_items_nil ?_)))
  refine new_list D (by decide) fun R s D => ?_
  refine st_keep [("sequences", .ref q)] H D (i := 1) rfl rfl rfl (by walk_at "sub") rfl fun s D => ?_
  refine wpAny_execs_cons (wpAny_While ?_)
  refine codeAny_whileLoop (fun k s => ∃ q as xss res out', On r s ps ((L, loc [("sequences", .ref q), ("result", .ref R)]) :: (R, isL res) :: (q, isL (as.map .ref)) :: (seqE as xss ++ rest)) ∧ as.length = xss.length ∧ (∀ xs ∈ xss, ∀ x ∈ xs, Ty x) ∧
    (xss.length ≤ 1000 ∧ ∀ xs ∈ xss, xs.length ≤ 1000) ∧ mergeF k xss = some out' ∧ res ++ out' = out ∧ res.length + k ≤ 1000) ?_ n ?_
  · rintro k s ⟨q, as, xss, res, out', D, hlen, hty, hsm, hm, hout, hk⟩
    refine wpAny_isTrue_value (wpAny_Constant_bool (wpAny_truthy_bool ?_))
    simp only [if_true]
    cases k with
    | zero => cases hm
    | succ k =>
    refine wpAny_execs_cons (keeps hA H D hlen hsm fun s q as' hlen' D => ?_)
    have hty' : ∀ xs ∈ xss.filter (fun s => !s.isEmpty), ∀ x ∈ xs, Ty x := fun xs hx => hty xs (List.mem_filter.mp hx).1
    have hsm' : (xss.filter fun s => !s.isEmpty).length ≤ 1000 ∧ ∀ xs ∈ xss.filter (fun s => !s.isEmpty), xs.length ≤ 1000 := ⟨Nat.le_trans (List.length_filter_le _ _) hsm.1, fun xs hx => hsm.2 xs (List.mem_filter.mp hx).1⟩
    have hne' : ∀ xs ∈ xss.filter (fun s => !s.isEmpty), xs ≠ [] := fun xs hx e => by
      have := (List.mem_filter.mp hx).2
      rw [e] at this; cases this
    rw [mergeF] at hm
    generalize hys : xss.filter (fun s => !s.isEmpty) = yss at *
    refine wpAny_execs_cons (wpAny_If (wpAny_isTrue_Not (wpAny_isTrue_value ?_)))
    refine ev_local H D (by walk_at "mem") (by walk_at "mem") rfl rfl ?_
    refine truth_list D (List.mem_append_right _ (by walk_at "mem")) (by rw [List.length_map, hlen']; have := hsm'.1; omega) fun s D => ?_
    by_cases hy0 : yss = []
    · subst hy0
      have : as' = [] := List.eq_nil_of_length_eq_zero (by rw [hlen']; rfl)
      subst this
      simp only [List.map_nil, List.isEmpty_nil, Bool.not_true, Bool.not_false, if_true] at hm ⊢
      cases hm
      rw [List.append_nil] at hout
      subst hout
      refine wpAny_execs_cons (wpAny_Return_some ?_)
      refine ev_local H D (by walk_at "mem") (by walk_at "mem") rfl rfl ?_
      exact h R s (D.sub (.cons _ (.cons_cons _ (.cons _ (.refl _)))))
    · rw [if_neg hy0] at hm
      have hb : (as'.map Value.ref).isEmpty = false := by
        cases as' with
        | nil => exact absurd (List.eq_nil_of_length_eq_zero (by rw [← hlen']; rfl)) hy0
        | cons _ _ => rfl
      rw [hb]
      simp only [Bool.not_false, Bool.not_true, Bool.false_eq_true, if_false]
      cases hp : pick yss with
      | none => rw [hp] at hm; cases hm
      | some c =>
      rw [hp] at hm
      obtain ⟨out'', hm'', e⟩ := Option.map_eq_some_iff.mp hm
      subst e
      obtain ⟨zs, hzs, hcz⟩ := pick_mem hne' hp
      have hc : Ty c := hty' _ hzs _ hcz
      refine wpAny_execs_nil (wpAny_execs_cons ?_)
      refine outer hA H D (List.mem_append_right _ (by walk_at "mem")) (seqs_of (pre := [(R, isL res), (q, isL (as'.map .ref))]) hlen' hty' hsm') hne' hp fun s D => ?_
      refine wpAny_execs_cons (wpAny_If (wpAny_isTrue_Compare1 ?_))
      refine ev_local H D (by walk_at "mem") (by walk_at "mem") rfl rfl ?_
      refine wpAny_Constant_none (is_none ?_)
      rw [hc.ne_none]
      refine wpAny_truthy_bool ?_
      simp only [Bool.false_eq_true, if_false]
      refine wpAny_execs_nil (wpAny_execs_cons (wpAny_Expr (wpAny_Call_append rfl rfl rfl rfl ?_) (by unfold interactive; rw [H.scope]; rfl) rfl))
      refine ev_local H D (by walk_at "mem") (by walk_at "mem") rfl rfl ?_
      obtain ⟨m, hob⟩ := D.st.objL (List.mem_append_right _ (by walk_at "mem") : (R, isL res) ∈ ps ++ _)
      refine ⟨R, _, rfl, ⟨_, m, hob, rfl, rfl, rfl⟩, ?_⟩
      refine ev_local H D (by walk_at "mem") (by walk_at "mem") rfl rfl ?_
      refine append_list D (j := 1) rfl (by rw [sizeLine_eq]; omega) fun s D => ?_
      refine wpAny_execs_cons (strips hA H D hlen' hty' hsm' hne' hc fun s D => ?_)
      refine wpAny_execs_nil ⟨k, Nat.lt_succ_self _, q, as', yss.map (strip1 c), res ++ [c], out'', D, by rw [List.length_map]; exact hlen', ?_, ⟨by rw [List.length_map]; exact hsm'.1, ?_⟩, hm'', by rw [← hout]; simp, by simp; omega⟩
      · rintro xs hx x hxx
        obtain ⟨ys, hy, rfl⟩ := List.mem_map.mp hx
        exact hty' ys hy x (strip1_mem hxx)
      · rintro xs hx
        obtain ⟨ys, hy, rfl⟩ := List.mem_map.mp hx
        exact Nat.le_trans strip1_len (hsm'.2 ys hy)
  · have D' := D.imp (i := 1) (P' := loc [("sequences", .ref q), ("result", .ref R)]) rfl (loc_sub (by walk_at "sub"))
    exact ⟨q, as, xss, [], out, D'.perm (.swap _ _ _), hlen, hty, hsm, hm, rfl, by simpa using hn⟩

/-- _c3_merge(sequences) -/
theorem c3_merge {k : Nat} (hA : AOk A (k + 1)) (hf : IsFn r.heap 29 3 .none) {q : Addr} {as : List Addr} {xss : List (List Value)} {out : List Value} {n : Nat} {Q : Value → Shared → Prop}
    (D : On r s ps ((q, isL (as.map .ref)) :: (seqE as xss ++ rest))) (hlen : as.length = xss.length) (hty : ∀ xs ∈ xss, ∀ x ∈ xs, Ty x) (hsm : xss.length ≤ 1000 ∧ ∀ xs ∈ xss, xs.length ≤ 1000)
    (hm : mergeF n xss = some out) (hn : n ≤ 1000) (h : ∀ R s', On r s' ps ((R, isL out) :: rest) → Q (.ref R) s') :
    wpAny (model prog w) A (call (.ref 29) [.ref q] []) Q E s := by
  obtain ⟨mod, c, hfn, hcd⟩ := hf.at D.st.base
  refine call_fn (binds := [("sequences", .ref q)]) D hA.room hfn hcd rfl (BindsTo.of_eq rfl) rfl rfl (by show ∀ x ∈ (scopeOf (stOf 3)).names, _; decide) (by intro x hx; rw [List.mem_singleton.mp hx]; rfl) (by simp) (fun env L s H D => ?_) rfl rfl rfl
  exact merge_body (Q := fun f s'' => Q (match f with | .ret v => v | _ => .none) s'') (hA.deeper env).handled H D hlen hty hsm hm hn fun R s D => h R s D
end
end Mine
/-! part M10 -/
set_option Elab.async false
set_option maxRecDepth 100000
set_option autoImplicit false
namespace Mine
open PySem PySem.Calls PySem.W PyProof.Rows Builtin Builtin.ObjectAttr Builtin.Getset_descriptor

theorem putName_ns {o : Obj} {m : Str → Option Value} {name : Str} {hh : Int} {t : Tok} {v : Value} (h : isNs m o) : isNs (fun x => if x = name then some v else m x) (Obj.putName name hh (.str name t) v o) ∧ (Obj.putName name hh (.str name t) v o).cls = o.cls ∧ (Obj.putName name hh (.str name t) v o).isFreed = false := by
  obtain ⟨es, ep, hd, hk, hm⟩ := h
  obtain ⟨c, d, dt, sl⟩ := o
  simp only at hd
  subst hd
  rw [Obj.putName_eq]
  unfold Obj.putNameByArray
  cases hi : es.findIdx? (·.key.isStr name) with
  | some i =>
    simp only [hi]
    refine ⟨⟨_, ep, rfl, hk.modify _ _, fun x => ?_⟩, by first | trivial | rfl, by first | trivial | rfl⟩
    show _ = if x = name then some v else m x
    rw [← hm]; exact findBy_modify (fun n v => v.isStr n) Value.isStr_inj es name x v i hi
  | none =>
    simp only [hi]
    refine ⟨⟨_, ep + 1, rfl, hk.push _ _ _ _, fun x => ?_⟩, by first | trivial | rfl, by first | trivial | rfl⟩
    show _ = if x = name then some v else m x
    rw [← hm]
    exact findBy_push (fun n v => v.isStr n) es name x _ _ v (fun y => by
      show (name == y) = decide (y = name)
      by_cases h : y = name
      · subst h; simp
      · have : ¬ name = y := fun e => h e.symm
        simp [h, this]) hi

section
variable {prog : Program} {w : World} {A : Around} {E : Value → Shared → Prop} {r s : Shared} {ps fs : Fs}

theorem St.stat_set {B h : Heap} {ps fs : Fs} {o : Obj} {m : Str → Option Value} {name : Str} {hh : Int} {t : Tok} {v : Value} (D : St B h ps fs) (ho : h.get? 2 = some o) (hc : o.cls = .none) (hn : isNs m o) (hm : ∀ key v, m key = some v → KV ps key v) (hv : KV ps name v) :
    St B (h.update 2 (Obj.putName name hh (.str name t) v)) ps fs := by
  obtain ⟨h1, h2, h3⟩ := putName_ns (name := name) (hh := hh) (t := t) (v := v) hn
  have hs : Heap.SameBut 2 h (h.update 2 (Obj.putName name hh (.str name t) v)) := Heap.SameBut.update ..
  have hs' : ∀ b o', b ≠ 2 → h.get? b = some o' → (h.update 2 (Obj.putName name hh (.str name t) v)).get? b = some o' := fun b o' hb e => (hs.2 b hb).trans e
  refine ⟨⟨D.base.ok, fun b o' e n2 n37 => hs' b o' n2 (D.base.keep b o' e n2 n37), ⟨_, _, Heap.get?_update_self _ ho h3, h2.trans hc, h1, fun key u hu => ?_⟩, ?_⟩, fun p hp => ?_, D.new, D.nd⟩
  · by_cases e : key = name
    · subst e; simp only [if_true, Option.some.injEq] at hu; rw [← hu]; exact hv
    · simp only [e, if_false] at hu; exact hm _ _ hu
  · obtain ⟨vs, e, tv⟩ := D.base.tab; exact ⟨vs, hs' _ _ (by decide) e, tv⟩
  · obtain ⟨o', e, q⟩ := D.at_ p hp
    exact ⟨o', hs' _ _ (D.ne_low hp).1 e, q⟩

theorem stat_put {name : Str} {v : Value} {Q : Unit → Shared → Prop} (D : On r s ps fs) (hv : KV ps name v) (h : ∀ s', On r s' ps fs → Q () s') : wpAny (model prog w) A (nsSet cStatics name v) Q E s := by
  obtain ⟨o, m, ho, hc, hn, hm⟩ := D.st.base.stat
  obtain ⟨es, ep, hd, hk, hf⟩ := id hn
  have hany : es.any (·.refKey) = false := by
    rw [Array.any_eq_false']; intro e he; obtain ⟨n, t, h⟩ := hk e he; simp [DictEntry.refKey, h]
  unfold nsSet strHash
  refine wpAny_bind (wpAny_bind (wpAny_askSetting (wpAny_pure (wpAny_bind (wpAny_mkText (wpAny_bind (wpAny_loadPart ho ?_)))))))
  rw [hd]
  dsimp only
  simp only [aRefKeyMayBeTheName_eq, aRefKeyMayBeTheNameByArray, hany, Bool.and_false, Bool.false_eq_true, if_false]
  exact wpAny_updatePart ho (h _ (D.with_heap (t := s.toks + 1) (D.st.stat_set ho hc hn hm hv)))

/-- what the statics keep of a class: read, or made and kept -/
theorem kept {n : Nat} {what : String} {k : Nat} {xs : List Value} {make : Sem Value} {Q : Fin → Shared → Prop} (D : On r s ps fs)
    (hkey : ∀ m : Str → Option Value, (∀ key v, m key = some v → KV ps key v) → ∀ v, m (s!"type.{what}:{nm k}" : String) = some v → ∃ a, v = .ref a ∧ (a, isT xs) ∈ ps)
    (hnew : ∀ a ps', (∀ p ∈ ps, p ∈ ps') → (a, isT xs) ∈ ps' → KV ps' (s!"type.{what}:{nm k}" : String) (.ref a))
    (hmake : ∀ Q' : Value → Shared → Prop, (∀ a s', On r s' ps ((a, isT xs) :: fs) → Q' (.ref a) s') → wpAny (model prog w) A make Q' E s)
    (h : ∀ a s' ps', (∀ p ∈ ps, p ∈ ps') → (a, isT xs) ∈ ps' → On r s' ps' fs → Q (.done (.ret (.ref a))) s') :
    wpAny (model prog w) A (Builtin.keptObject (.type (nm k)) n what make) Q E s := by
  obtain ⟨o, m, ho, hc, hn, hm⟩ := D.st.base.stat
  have hns : s.heap.Ns cStatics m := let ⟨es, ep, d, k, f⟩ := hn; ⟨o, es, ep, ho, d, k, f⟩
  unfold Builtin.keptObject
  refine wpAny_bind (wpAny_nsGet hns ?_)
  cases hv : m (s!"type.{what}:{nm k}" : String) with
  | some v =>
    obtain ⟨a, rfl, ha⟩ := hkey m hm v hv
    exact wpAny_bind (wpAny_pure (wpAny_pure (h a s ps (fun _ z => z) ha D)))
  | none =>
    refine wpAny_bind (hmake _ fun a s' D' => ?_)
    have D1 : On r s' ((a, isT xs) :: ps) fs := ⟨D'.st.freeze, D'.gens, D'.os⟩
    refine wpAny_bind (stat_put D1 (hnew a ((a, isT xs) :: ps) (fun _ => List.mem_cons_of_mem _) (.head _)) fun s'' D2 => ?_)
    exact wpAny_pure (h a s'' _ (fun _ => List.mem_cons_of_mem _) (.head _) D2)
end
end Mine
/-! part M11 -/
set_option Elab.async false
set_option maxRecDepth 100000
set_option autoImplicit false
namespace Mine
open PySem PySem.Calls PySem.W PyProof.Rows Builtin Builtin.ObjectAttr Builtin.Getset_descriptor

theorem noK (h : Heap) : Frag.In [] h := fun _ _ e => nomatch e
theorem stub_cl : ∀ k, k < 15 → opaqueClassAbove (cl k) = pure none := by
  have : ∀ k, k < 15 → Manifest.isStub (nm k) = false := by decide +kernel
  intro k hk
  show opaqueClassAbove (.type (nm k)) = _
  unfold opaqueClassAbove; dsimp only; rw [this k hk]; rfl

theorem entry_mro : entryFor table "type.__mro__" = some Builtin.«type.__mro__» := entryFor_of_tree (by kernel_rfl)
theorem type_mro : typeOf (.builtin "type.__mro__") = pure (.type "getset_descriptor") := by show builtinType _ = _; rw [builtinType_eq_fast]; kernel_rfl
theorem owner_mro : descrOwnerAndName "type.__mro__" = ("type", "__mro__") := by decide +kernel
theorem dga_mro (d tp : Value) (T : String) : descrGetArgs ⟨[d, .type T, tp], []⟩ = pure (d, some (.type T), given tp) := by kernel_rfl
theorem entry_bases : entryFor table "type.__bases__" = some Builtin.«type.__bases__» := entryFor_of_tree (by kernel_rfl)
theorem type_bases : typeOf (.builtin "type.__bases__") = pure (.type "getset_descriptor") := by show builtinType _ = _; rw [builtinType_eq_fast]; kernel_rfl
theorem owner_bases : descrOwnerAndName "type.__bases__" = ("type", "__bases__") := by decide +kernel

theorem mk_inj : ∀ k, k < 15 → ∀ j, j < 15 → (mroKey (nm k) = mroKey (nm j) → k = j) ∧ (basesKey (nm k) = basesKey (nm j) → k = j) ∧ mroKey (nm k) ≠ basesKey (nm j) := by decide +kernel
theorem way_len : ∀ k, k < 15 → (way k).length ≤ 5 ∧ way k ≠ [] ∧ (∀ j ∈ way k, j < 15) ∧ (up k).length ≤ 2 ∧ (∀ j ∈ up k, j < k) := by decide +kernel

section
variable {prog : Program} {w : World} {A : Around} {E : Value → Shared → Prop} {r s : Shared} {ps fs : Fs} {k : Nat}

theorem found_mro : findCls [] (cl k) (.type "type") "__mro__" = some (.get (.builtin "getset_descriptor.__get__") (.builtin "type.__mro__") (cl k) (.type "type")) := by rfl
theorem found_bases : findCls [] (cl k) (.type "type") "__bases__" = some (.get (.builtin "getset_descriptor.__get__") (.builtin "type.__bases__") (cl k) (.type "type")) := by rfl

/-- the getter's road to the built-in reader -/
theorem getset_road {id name : String} {B : Builtin} {tp : Value} {Q : Value → Shared → Prop} (hk : k < 15) (hty : typeOf (.builtin id) = pure (.type "getset_descriptor")) (howner : descrOwnerAndName id = ("type", name)) (hq : plainId id = true) (hen : entryFor table id = some B)
    (h : ∀ A', A'.handled = A.handled → wpAny (model prog w) A' (B ⟨[cl k], []⟩) (fun fin s' => ∃ v, fin = .done (.ret v) ∧ Q v s') E s) :
    wpAny (model prog w) A (call (.builtin "getset_descriptor.__get__") [.builtin id, cl k, tp]) Q E s := by
  refine wpAny_call ?_
  obtain ⟨hh, g, dr, t, os⟩ := s
  have L0 : Looks (model prog w) hh (typeOf (cl k)) (.type "type") := Looks.of_pure (meta_cl k hk)
  have L1 : Looks (model prog w) hh (isSubtype (.type "type") (.type "type")) true := Looks.of_pure (by rw [isSubtype_type]; kernel_rfl)
  refine codeAny_call_builtin KF.slot_gs.plain KF.entry_gs (KF.slot_gs.check _ _ _ _ _ _ _ _ hty (KF.args_gs _ _ _) ?_)
  unfold Builtin.«getset_descriptor.__get__» descrGet
  rw [show descrGetArgs ⟨[.builtin id, cl k, tp], []⟩ = pure (.builtin id, some (cl k), given tp) from dga_mro _ _ _]
  refine wpAny_bind (wpAny_pure ?_)
  unfold descrGetter descrCheckInstance descrNameAndClass isInstance
  simp only [howner]
  repeat lk
  refine ⟨plainId_quiet hq _, codeAny_builtin hen (wpAny_mono (h _ rfl) (fun fin s' hf => ?_) fun _ _ f => f)⟩
  obtain ⟨v, rfl, hv⟩ := hf
  exact hv

theorem mro_run {A' : Around} {Q : Fin → Shared → Prop} (hk : k < 15) (D : On r s ps fs) (h : ∀ a s' ps', (∀ p ∈ ps, p ∈ ps') → (a, isT ((way k).map cl)) ∈ ps' → On r s' ps' fs → Q (.done (.ret (.ref a))) s') :
    wpAny (model prog w) A' (Builtin.«type.__mro__» ⟨[cl k], []⟩) Q E s := by
  unfold Builtin.«type.__mro__»
  show wpAny _ _ (mroOf (cl k) >>= _) _ _ _
  rw [mro_cl k hk]
  refine wpAny_bind (wpAny_pure ?_)
  have hne : ((way k).map cl).isEmpty = false := by
    have := (way_len k hk).2.1
    cases hw : way k with
    | nil => exact absurd hw this
    | cons _ _ => rfl
  rw [hne]
  simp only [Bool.false_eq_true, if_false]
  refine kept (k := k) (xs := (way k).map cl) D (fun m hm v hv => ?_) (fun a ps' _ ha => .inl ⟨k, a, hk, rfl, rfl, ha⟩) (fun Q' hQ' => ?_) h
  · rcases hm _ _ hv with ⟨j, a, hj, e, rfl, ha⟩ | ⟨j, a, hj, e, rfl, ha⟩
    · have := (mk_inj k hk j hj).1 e
      subst this; exact ⟨a, rfl, ha⟩
    · exact absurd e (mk_inj k hk j hj).2.2
  · refine wpAny_bind (wpAny_pure ?_)
    exact new_tup D (by rw [List.length_map, sizeLine_eq]; have := (way_len k hk).1; omega) hQ'
theorem bases_cl : ∀ k, k < 15 → ((Manifest.find? (nm k)).elim [] (·.bases)).map Value.type = (up k).map cl := by
  rw [find?_eq_fast]; decide +kernel
theorem bases_run {A' : Around} {Q : Fin → Shared → Prop} (hk : k < 15) (D : On r s ps fs) (h : ∀ a s' ps', (∀ p ∈ ps, p ∈ ps') → (a, isT ((up k).map cl)) ∈ ps' → On r s' ps' fs → Q (.done (.ret (.ref a))) s') :
    wpAny (model prog w) A' (Builtin.«type.__bases__» ⟨[cl k], []⟩) Q E s := by
  unfold Builtin.«type.__bases__»
  refine kept (k := k) (xs := (up k).map cl) D (fun m hm v hv => ?_) (fun a ps' _ ha => .inr ⟨k, a, hk, rfl, rfl, ha⟩) (fun Q' hQ' => ?_) h
  · rcases hm _ _ hv with ⟨j, a, hj, e, rfl, ha⟩ | ⟨j, a, hj, e, rfl, ha⟩
    · exact absurd e.symm (mk_inj j hj k hk).2.2
    · have := (mk_inj k hk j hj).2.1 e
      subst this; exact ⟨a, rfl, ha⟩
  · show wpAny _ _ (newTuple (((Manifest.find? (nm k)).elim [] (·.bases)).map .type)) _ _ _
    rw [bases_cl k hk]
    exact new_tup D (by rw [List.length_map, sizeLine_eq]; have := (way_len k hk).2.2.2.1; omega) hQ'

theorem attr_open {name : Str} {rr : CFound} {expr : Bool} {Q : Value → Shared → Prop} (hk : k < 15) (e : findCls [] (cl k) (.type "type") name = some rr)
    (h : wpAny (model prog w) A.in1 rr.run (fun fin s' => match fin with | .done (.ret v) => wpAny (model prog w) A (handedOut v) Q E s' | _ => False) (fun _ _ => False) { s with toks := s.toks + 1 }) :
    wpAny (model prog w) A (getAttr (cl k) name expr) Q E s :=
  cls_open (K := []) (noK _) (Looks.of_pure (stub_cl k hk)) (Looks.of_pure (meta_cl k hk)) type_tga (looks_hook (noK _) (r := none) (by rfl)) (by rfl) e h

theorem attr_mro {expr : Bool} {Q : Value → Shared → Prop} (hk : k < 15) (D : On r s ps fs) (h : ∀ a s' ps', (∀ p ∈ ps, p ∈ ps') → (a, isT ((way k).map cl)) ∈ ps' → On r s' ps' fs → Q (.ref a) s') :
    wpAny (model prog w) A (getAttr (cl k) "__mro__" expr) Q E s := by
  refine attr_open hk found_mro ?_
  show wpAny _ _ (do ret (← holding [Value.builtin "type.__mro__"] (call (.builtin "getset_descriptor.__get__") [.builtin "type.__mro__", cl k, .type "type"]))) _ _ _
  refine wpAny_bind (wpAny_holding (getset_road hk type_mro owner_mro (by decide +kernel) entry_mro fun A' _ => ?_))
  refine mro_run hk D.tok fun a s' ps' hs ha D' => ⟨_, rfl, ?_⟩
  exact wpAny_pure (handed_on rfl (h a s' ps' hs ha D'))
theorem attr_bases {expr : Bool} {Q : Value → Shared → Prop} (hk : k < 15) (D : On r s ps fs) (h : ∀ a s' ps', (∀ p ∈ ps, p ∈ ps') → (a, isT ((up k).map cl)) ∈ ps' → On r s' ps' fs → Q (.ref a) s') :
    wpAny (model prog w) A (getAttr (cl k) "__bases__" expr) Q E s := by
  refine attr_open hk found_bases ?_
  show wpAny _ _ (do ret (← holding [Value.builtin "type.__bases__"] (call (.builtin "getset_descriptor.__get__") [.builtin "type.__bases__", cl k, .type "type"]))) _ _ _
  refine wpAny_bind (wpAny_holding (getset_road hk type_bases owner_bases (by decide +kernel) entry_bases fun A' _ => ?_))
  refine bases_run hk D.tok fun a s' ps' hs ha D' => ⟨_, rfl, ?_⟩
  exact wpAny_pure (handed_on rfl (h a s' ps' hs ha D'))
end
end Mine
/-! part M12 -/
set_option Elab.async false
set_option maxRecDepth 100000
set_option autoImplicit false
namespace Mine
open PySem PySem.Calls PySem.W PyProof.Rows Builtin Builtin.ObjectAttr Builtin.Getset_descriptor

section
variable {prog : Program} {w : World} {A : Around} {E : Value → Shared → Prop} {r s : Shared} {ps fs : Fs} {k : Nat}

theorem raise_attr {α : Type} {msg : String} {Q : α → Shared → Prop} (hh : A.handled = none) (D : On r s ps fs)
    (h : ∀ a s', On r s' ps fs → s'.TypeIs (.ref a) "AttributeError" → E (.ref a) s') : wpAny (model prog w) A (raiseErrorWords "AttributeError" msg : Sem α) Q E s := by
  unfold raiseErrorWords
  refine wpAny_bind (wpAny_mkText (wpAny_bind ?_))
  unfold newExc newTuple
  refine wpAny_bind (wpAny_newObj_type ?_)
  refine wpAny_bind (m := firstArgMember _ _) (wpAny_of_eq (a := Value.none) (by simp only [firstArgMember, attrError_no_first]; rfl) ?_)
  rw [ownMembersOf_AttributeError]
  refine wpAny_newObj_type ?_
  unfold raiseNew
  refine wpAny_bind (wpAny_handled ?_)
  rw [hh]
  have fin : ∀ t t', E (.ref (s.heap.push { cls := .type "tuple", data := .seq [Value.str (Str.ofString msg) s.toks].toArray }).objs.size) _ := fun t t' => h _ _ (D.with_heap (t := t) (D.st.keeps (h' := (s.heap.push { cls := .type "tuple", data := .seq [Value.str (Str.ofString msg) s.toks].toArray }).push { cls := .type "AttributeError", data := .fields t' }) fun b o e => Heap.get?_push_of_some _ (Heap.get?_push_of_some _ e))) ⟨_, Heap.get?_push_size _ rfl, rfl⟩
  first
    | exact wpAny_throw (fin _ _)
    | exact wpAny_bind (wpAny_pure (wpAny_throw (fin _ _)))

theorem ask_attr {o name : Value} {T ga : String} {Q : Option Value → Shared → Prop} (hT : ∀ s : Shared, s.TypeIs o T) (hga : typeLookup (.type T) "__getattribute__" = pure (some (.builtin ga))) (hbind : bindSpecial (.builtin ga) o = pure (.builtin ga, [o]))
    (hgt : typeLookup (.type T) "__getattr__" = pure none)
    (h : wpAny (model prog w) A (call (.builtin ga) [o, name]) (fun v s' => ∃ a, v = .ref a ∧ Q (some (.ref a)) s') (fun e s' => ∃ a, e = .ref a ∧ s'.TypeIs (.ref a) "AttributeError" ∧ Q none s') s) :
    wpAny (model prog w) A (getAttrBy? o name) Q E s := by
  unfold getAttrBy? getAttrBy
  refine wpAny_bind (wpAny_attempt (wpAny_holding (wpAny_bind (wpAny_typeOf (hT s) (wpAny_bind (wpAny_of_eq hga ?_))))))
  dsimp only
  rw [show (onTheHeap (.type T) && Value.builtin ga == .builtin "object.__getattribute__") = false from rfl, if_neg (by decide)]
  unfold getAttrByItsOwn hookBefore
  rw [if_neg (show ¬ onTheHeap (.type T) = true from Bool.false_ne_true)]
  refine wpAny_bind (wpAny_pure (wpAny_bind (wpAny_attempt (wpAny_holding ?_))))
  unfold callGetattribute boundAndCalled
  rw [if_neg (show ¬ (false && onTheHeap (.builtin ga)) = true from Bool.false_ne_true), hbind]
  refine wpAny_bind (wpAny_pure ?_)
  refine wpAny_mono h (fun v s' hv => ?_) (fun e s' he => ?_)
  · obtain ⟨a, rfl, hq⟩ := hv
    exact wpAny_pure (wpAny_pure hq)
  · obtain ⟨a, rfl, hty, hq⟩ := he
    show wpAny _ _ (getattributeRaised _ _ _ _ _ _ _) _ _ _
    unfold getattributeRaised hookBehind
    refine wpAny_bind (wpAny_isInstance hty sub_AttributeError ?_)
    simp only [if_true]
    rw [if_neg (show ¬ onTheHeap (.type T) = true from Bool.false_ne_true)]
    refine wpAny_bind (wpAny_of_eq hgt ?_)
    unfold hookOrError attributeErrorLeaves
    simp only [Bool.not_false, if_true]
    refine wpAny_throw ?_
    exact wpAny_bind (wpAny_isInstance hty sub_AttributeError (wpAny_pure hq))

theorem int_no_mro : typeLookup (.type "int") "__mro__" = pure none := by rw [typeLookup_type, builtinLookup_eq_fast]; kernel_rfl
theorem type_no_getattr : typeLookup (.type "type") "__getattr__" = pure none := by rw [typeLookup_type, builtinLookup_eq_fast]; kernel_rfl

theorem ask_int {i : Int} {t u : Tok} {Q : Option Value → Shared → Prop} (hh : A.handled = none) (D : On r s ps fs) (h : ∀ s', On r s' ps fs → Q none s') :
    wpAny (model prog w) A (getAttrBy? (.int i t) (.str "__mro__" u)) Q E s := by
  have hT : ∀ s' : Shared, s'.TypeIs (.int i t) "int" := fun _ => rfl
  refine ask_attr hT F.slot_int_getattribute.lookup (F.slot_int_getattribute.bind _) am_int_getattr_none ?_
  refine call_meets F.slot_int_getattribute (hT _) am_entry_int_getattribute (F.args_int_getattribute_2 _ _) (meets_getattribute_miss_int i t "__mro__" u int_no_mro (by decide +kernel)) ⟨hh, fun h' tk e hx => ?_⟩
  obtain ⟨t', u', he⟩ := hx.there
  exact ⟨e, rfl, ⟨_, he, rfl⟩, h _ (D.with_heap (D.st.keeps hx.keeps))⟩

/-- the road of a class's attribute by its own look-up -/
theorem tga_call {name : Str} {u : Tok} {rr : CFound} {Q : Value → Shared → Prop} (hk : k < 15) (e : findCls [] (cl k) (.type "type") name = some rr)
    (h : ∀ A', A'.handled = A.handled → wpAny (model prog w) A' rr.run (fun fin s' => match fin with | .done (.ret v) => Q v s' | _ => False) E s) :
    wpAny (model prog w) A (call (.builtin "type.__getattribute__") [cl k, .str name u]) Q E s := by
  refine wpAny_call (codeAny_call_builtin KF.slot_tga.plain KF.entry_tga ?_)
  refine @check_slot (model prog w) _ _ s "type.__getattribute__" "type" "__getattribute__" (cl k) [.str name u] [] _ (by decide +kernel) (by decide +kernel) (Looks.of_pure (meta_cl k hk) |>.andThen (looks_subIn (noK _) (by rfl))) (KF.args_tga (cl k) (.str name u)) ?_
  refine tga_run (K := []) (noK _) (Looks.of_pure (stub_cl k hk)) (Looks.of_pure (meta_cl k hk)) e (wpAny_mono (h _ rfl) (fun fin s' z => ?_) fun _ _ z => z)
  rcases fin with (_ | _ | _ | _) | _ <;> first | exact z | exact z.elim

theorem ask_mro {u : Tok} {Q : Option Value → Shared → Prop} (hk : k < 15) (D : On r s ps fs) (h : ∀ a s' ps', (∀ p ∈ ps, p ∈ ps') → (a, isT ((way k).map cl)) ∈ ps' → On r s' ps' fs → Q (some (.ref a)) s') :
    wpAny (model prog w) A (getAttrBy? (cl k) (.str "__mro__" u)) Q E s := by
  refine ask_attr (fun s' => Ty.is ⟨k, hk, rfl⟩ s') KF.slot_tga.lookup (KF.slot_tga.bind _) type_no_getattr ?_
  refine tga_call hk found_mro fun A' _ => ?_
  show wpAny _ _ (do ret (← holding [Value.builtin "type.__mro__"] (call (.builtin "getset_descriptor.__get__") [.builtin "type.__mro__", cl k, .type "type"]))) _ _ _
  refine wpAny_bind (wpAny_holding (getset_road hk type_mro owner_mro (by decide +kernel) entry_mro fun A' _ => ?_))
  refine mro_run hk D fun a s' ps' hs ha D' => ⟨_, rfl, ?_⟩
  exact wpAny_pure ⟨a, rfl, h a s' ps' hs ha D'⟩

theorem entry_abs : entryFor table "type.__abstractmethods__" = some Builtin.«type.__abstractmethods__» := entryFor_of_tree (by kernel_rfl)
theorem type_abs : typeOf (.builtin "type.__abstractmethods__") = pure (.type "getset_descriptor") := by show builtinType _ = _; rw [builtinType_eq_fast]; kernel_rfl
theorem owner_abs : descrOwnerAndName "type.__abstractmethods__" = ("type", "__abstractmethods__") := by decide +kernel
theorem found_abs : findCls [] (cl k) (.type "type") "__abstractmethods__" = some (.get (.builtin "getset_descriptor.__get__") (.builtin "type.__abstractmethods__") (cl k) (.type "type")) := by rfl
theorem ask_abs {u : Tok} {Q : Option Value → Shared → Prop} (hh : A.handled = none) (hk : k < 15) (D : On r s ps fs) (h : ∀ s', On r s' ps fs → Q none s') :
    wpAny (model prog w) A (getAttrBy? (cl k) (.str "__abstractmethods__" u)) Q E s := by
  refine ask_attr (fun s' => Ty.is ⟨k, hk, rfl⟩ s') KF.slot_tga.lookup (KF.slot_tga.bind _) type_no_getattr ?_
  refine tga_call hk found_abs fun A' hA' => ?_
  show wpAny _ _ (do ret (← holding [Value.builtin "type.__abstractmethods__"] (call (.builtin "getset_descriptor.__get__") [.builtin "type.__abstractmethods__", cl k, .type "type"]))) _ _ _
  refine wpAny_bind (wpAny_holding (getset_road hk type_abs owner_abs (by decide +kernel) entry_abs fun A'' hA'' => ?_))
  unfold Builtin.«type.__abstractmethods__»
  refine wpAny_bind (wpAny_pure ?_)
  dsimp only
  refine wpAny_bind (wpAny_rule ?_)
  refine raise_attr (by rw [hA'', hA', hh]) D fun a s' D' hty => ⟨a, rfl, hty, h s' D'⟩

theorem tl_mro : typeLookup (.type "type") "__mro__" = pure (some (.builtin "type.__mro__")) := by rw [typeLookup_type, builtinLookup_eq_fast]; kernel_rfl
theorem tl_abs : typeLookup (.type "type") "__abstractmethods__" = pure (some (.builtin "type.__abstractmethods__")) := by rw [typeLookup_type, builtinLookup_eq_fast]; kernel_rfl
theorem kind_hasattr : builtinKind "hasattr" = none := by decide +kernel
theorem plain_hasattr : plainId "hasattr" = true := by decide +kernel
theorem entry_hasattr : entryFor table "hasattr" = some Builtin.«hasattr» := entryFor_of_fast (by kernel_rfl)
theorem args_hasattr (a b : Value) : argsOk "hasattr" ⟨[a, b], []⟩ := by unfold argsOk; kernel_rfl

theorem hasattr_cl {name : Str} {u : Tok} {id : String} {Q : Value → Shared → Prop} (hk : k < 15) (hl : typeLookup (.type "type") name = pure (some (.builtin id))) (hnd : withoutEnding? id "#data" = none)
    (h : wpAny (model prog w) A.in1 (getAttrBy? (cl k) (.str name u)) (fun x s' => Q (.bool x.isSome) s') E s) : wpAny (model prog w) A (call (.builtin "hasattr") [cl k, .str name u]) Q E s := by
  refine call_function_entry kind_hasattr plain_hasattr entry_hasattr (args_hasattr _ _) ?_
  unfold Builtin.«hasattr»
  refine wpAny_bind (m := someArgs "hasattr" 2 2 _) (wpAny_pure ?_)
  refine wpAny_bind (wpAny_pure ?_)
  rw [if_neg (show ¬ (cl k == .builtin "__main__.__loader__#opaque") = true from Bool.false_ne_true)]
  refine wpAny_bind (wpAny_of_eq (meta_cl k hk) ?_)
  refine wpAny_bind (wpAny_pure ?_)
  refine wpAny_bind (wpAny_of_eq hl ?_)
  refine wpAny_bind (wpAny_of_eq KF.slot_tga.lookup ?_)
  rw [hnd]
  show wpAny _ _ (do
          let road ← (pure 0 : Sem Nat)
          if (road == 1) = true then ret (Value.bool false)
            else do
              let found ← getAttrBy? (cl k) (Value.str name u)
              if (found.isNone && road == 2) = true then unsupported "hasattr:an-optional-look-up-on-a-module-missed-behind-a-descriptor-of-its-type"
              ret (Value.bool found.isSome)) _ _ _
  refine wpAny_bind (wpAny_pure ?_)
  rw [if_neg (by decide)]
  refine wpAny_bind (wpAny_mono h (fun x s' hx => ?_) fun _ _ z => z)
  rw [show (x.isNone && (0:Nat) == 2) = false by cases x <;> rfl]
  exact wpAny_pure ⟨_, rfl, hx⟩
theorem hasattr_int {i : Int} {t u : Tok} {Q : Value → Shared → Prop} (hh : A.handled = none) (D : On r s ps fs) (h : ∀ s', On r s' ps fs → Q (.bool false) s') : wpAny (model prog w) A (call (.builtin "hasattr") [.int i t, .str "__mro__" u]) Q E s := by
  refine call_function_entry kind_hasattr plain_hasattr entry_hasattr (args_hasattr _ _) ?_
  unfold Builtin.«hasattr»
  refine wpAny_bind (m := someArgs "hasattr" 2 2 _) (wpAny_pure ?_)
  refine wpAny_bind (wpAny_pure ?_)
  rw [if_neg (show ¬ (Value.int i t == .builtin "__main__.__loader__#opaque") = true from Bool.false_ne_true)]
  refine wpAny_bind (wpAny_pure ?_)
  refine wpAny_bind (wpAny_pure ?_)
  refine wpAny_bind (wpAny_of_eq int_no_mro ?_)
  show wpAny _ _ (do
          let road ← (pure 0 : Sem Nat)
          if (road == 1) = true then ret (Value.bool false)
            else do
              let found ← getAttrBy? (.int i t) (Value.str "__mro__" u)
              if (found.isNone && road == 2) = true then unsupported "hasattr:an-optional-look-up-on-a-module-missed-behind-a-descriptor-of-its-type"
              ret (Value.bool found.isSome)) _ _ _
  refine wpAny_bind (wpAny_pure ?_)
  rw [if_neg (by decide)]
  refine wpAny_bind (ask_int hh D fun s' D' => ?_)
  exact wpAny_pure ⟨_, rfl, h s' D'⟩

theorem hasattr_mro {u : Tok} {Q : Value → Shared → Prop} (hk : k < 15) (D : On r s ps fs) (h : ∀ s' ps', (∀ p ∈ ps, p ∈ ps') → On r s' ps' fs → Q (.bool true) s') : wpAny (model prog w) A (call (.builtin "hasattr") [cl k, .str "__mro__" u]) Q E s :=
  hasattr_cl hk tl_mro (by decide +kernel) (ask_mro hk D fun _ s' ps' hs _ D' => h s' ps' hs D')
theorem hasattr_abs {u : Tok} {Q : Value → Shared → Prop} (hh : A.handled = none) (hk : k < 15) (D : On r s ps fs) (h : ∀ s', On r s' ps fs → Q (.bool false) s') : wpAny (model prog w) A (call (.builtin "hasattr") [cl k, .str "__abstractmethods__" u]) Q E s :=
  hasattr_cl hk tl_abs (by decide +kernel) (ask_abs hh hk D h)
end
end Mine
/-! part M13 -/
set_option Elab.async false
set_option maxRecDepth 100000
set_option autoImplicit false
namespace Mine
open PySem PySem.Calls PySem.W PyProof.Rows Builtin

/-! ## reversed, enumerate -/
def isRv (t : Addr) (i : Int) : Pr := fun o => o.cls = .type "reversed" ∧ o.data = .fields #[.ref t, rawInt i]
def enObj (f : Value) (it : Addr) (i : Int) (old : Value) : Obj := { cls := .type "enumerate", dict := none, data := .fields #[f, .bool false, .ref it, rawInt i, .none, old], slots := #[] }
def isEn (it : Addr) (i : Nat) : Pr := fun o => ∃ old, o = enObj .none it i old
def isEnO (it : Addr) (i : Nat) (a : Addr) : Pr := fun o => ∃ old, o = enObj (rawInt a) it i old

namespace MF
theorem owner_rv : Manifest.owners.lookup (String.ofList ['d', 'e', 's', 'r', 'e', 'v', 'e', 'r'].reverse) = some Manifest.sig_reversed := by kernel_rfl
theorem slot_rv_next : Slot "reversed" "__next__" "reversed.__next__" :=
  .of (owner := "reversed") (n := "__next__") (by rw [typeLookup_type, builtinLookup_eq_fast]; kernel_rfl) (by decide +kernel) (by decide +kernel) (by decide +kernel)
    (by first | exact .inl (by decide +kernel) | exact .inr (by decide +kernel)) (by rw [isSubtype_type]; kernel_rfl)
theorem entry_rv_next : entryFor table "reversed.__next__" = some Builtin.«reversed.__next__» := entryFor_of_tree (by kernel_rfl)
theorem args_rv_next (a : Value) : argsOk "reversed.__next__" ⟨[a], []⟩ := by
  unfold argsOk; rw [signature?_of (id := "reversed.__next__") (n := ['_', '_', 't', 'x', 'e', 'n', '_', '_']) (o := ['d', 'e', 's', 'r', 'e', 'v', 'e', 'r']) (by kernel_rfl) owner_rv]; kernel_rfl
theorem slot_rv_iter : Slot "reversed" "__iter__" "reversed.__iter__" :=
  .of (owner := "reversed") (n := "__iter__") (by rw [typeLookup_type, builtinLookup_eq_fast]; kernel_rfl) (by decide +kernel) (by decide +kernel) (by decide +kernel)
    (by first | exact .inl (by decide +kernel) | exact .inr (by decide +kernel)) (by rw [isSubtype_type]; kernel_rfl)
theorem args_rv_iter (a : Value) : argsOk "reversed.__iter__" ⟨[a], []⟩ := by
  unfold argsOk; rw [signature?_of (id := "reversed.__iter__") (n := ['_', '_', 'r', 'e', 't', 'i', '_', '_']) (o := ['d', 'e', 's', 'r', 'e', 'v', 'e', 'r']) (by kernel_rfl) owner_rv]; kernel_rfl
theorem entry_rv_iter : entryFor table "reversed.__iter__" = some Builtin.«dict_keyiterator.__iter__» :=
  entryFor_alias (id' := "dict_keyiterator.__iter__") (by kernel_rfl) (by first | rfl | decide +kernel | (unfold String.splitOn; simp +decide [String.splitOnAux])) (by decide +kernel) (by kernel_rfl)
theorem slot_rv_init : Slot "reversed" "__init__" "object.__init__" :=
  .of (owner := "object") (n := "__init__") (by rw [typeLookup_type, builtinLookup_eq_fast]; kernel_rfl) (by decide +kernel) (by decide +kernel) (by decide +kernel)
    (by first | exact .inl (by decide +kernel) | exact .inr (by decide +kernel)) (by rw [isSubtype_type]; kernel_rfl)
theorem called_rv : TypeCalled "reversed" "reversed.__new__" "object.__init__" :=
  ⟨by decide +kernel, F.create_reversed, ⟨_, _, F.mro_reversed⟩, F.made_reversed, F.plain_reversed_new, F.sub_reversed_self, slot_rv_init⟩
theorem tup_norev : typeLookup (.type "tuple") "__reversed__" = pure none := by rw [typeLookup_type, builtinLookup_eq_fast]; kernel_rfl
theorem tup_nodict : isSubtype (.type "tuple") (.type "dict") = pure false := by rw [isSubtype_type]; kernel_rfl
end MF

theorem meets_rv_new (t : Addr) (items : Array Value) :
    Meets (Builtin.«reversed.__new__» ⟨[.type "reversed", .ref t], []⟩) (fun _ R s => IsTup s.heap t items ∧ (items.size : Int) < 2 ^ 63 ∧
      R (.ok (.ret (.ref s.heap.objs.size))) { s with heap := s.heap.push { cls := .type "reversed", data := .fields #[.ref t, rawInt ((items.size : Int) - 1)] }, toks := s.toks + 1 + 1 }) :=
  .of_wp fun prog w A R s h => by
    obtain ⟨ht, hfit, h⟩ := h
    unfold Builtin.«reversed.__new__»
    refine wpAny_bind (wpAny_of_eq (newClass_reversed _) ?_)
    try dsimp only
    refine wpAny_bind (wpAny_of_eq (a := ()) (by first | rfl | kernel_rfl) ?_)
    refine wpAny_bind (wpAny_of_eq (a := ()) (by first | rfl | kernel_rfl) ?_)
    try dsimp only
    refine wpAny_bind (wpAny_specialOf ht.typeIs MF.tup_norev ?_)
    try dsimp only
    show wpAny _ _ ((do
      if ← isInstance (.ref t) (.type "dict") then return false
      match ← specialOf (.ref t) "__getitem__" with
      | none => return false
      | some (.builtin i) =>
        if ["tuple.__getitem__", "str.__getitem__", "bytes.__getitem__", "bytearray.__getitem__", "memoryview.__getitem__", "numpy.ndarray.__getitem__", "sqlite3.Row.__getitem__"].contains i then return true
        if i == "sqlite3.Blob.__getitem__" then return false
        unsupported "reversed.__new__:is-it-a-sequence"
      | some _ => return true : Sem Bool) >>= _) _ _ _
    refine wpAny_bind (wpAny_bind (wpAny_isInstance ht.typeIs MF.tup_nodict ?_))
    simp only [Bool.false_eq_true, if_false]
    refine wpAny_bind (wpAny_specialOf ht.typeIs slot_tuple_getitem.lookup ?_)
    try dsimp only
    rw [if_pos (by decide)]
    refine wpAny_pure ?_
    simp only [Bool.not_true, Bool.false_eq_true, if_false]
    refine wpAny_bind (len_tuple ht hfit ?_)
    refine wpAny_bind (wpAny_of_eq (a := some (items.size : Int)) rfl ?_)
    try dsimp only
    exact wpAny_bind (m := newObj (.type "reversed") (.fields #[.ref t, rawInt ((items.size : Int) - 1)])) (wpAny_newObj_type (wpAny_pure ⟨_, rfl, h⟩))

section
variable {prog : Program} {w : World} {A : Around} {E : Value → Shared → Prop} {r s : Shared} {ps fs : Fs}
theorem call_rv {t : Addr} {xs : List Value} {Q : Value → Shared → Prop} (D : On r s ps fs) (ht : (t, isT xs) ∈ ps ++ fs) (hsz : xs.length ≤ 1000)
    (h : ∀ a s', On r s' ps ((a, isRv t ((xs.length : Int) - 1)) :: fs) → Q (.ref a) s') : wpAny (model prog w) A (call (.type "reversed") [.ref t]) Q E s := by
  obtain ⟨o, e, n, d⟩ := D.st.get ht
  have hT : IsTup s.heap t xs.toArray := ⟨o, e, by rw [d], n, by rw [d]⟩
  refine callType_new MF.called_rv (by decide) (F.typeCall_reversed_1 _) (F.newCall_reversed_1 _) (fun obj => F.args_object_init_2 obj _) F.entry_reversed_new (meets_rv_new t xs.toArray) ⟨hT, by rw [List.size_toArray]; omega, ?_⟩
  rw [List.size_toArray]
  exact ⟨⟨_, Heap.get?_push_size _ rfl, rfl⟩, h _ _ (D.with_heap (D.st.push ⟨rfl, rfl⟩))⟩

theorem iter_rv {it t : Addr} {i : Int} {Q : Value → Shared → Prop} (D : On r s ps fs) (hI : (it, isRv t i) ∈ ps ++ fs) (h : Q (.ref it) s) : wpAny (model prog w) A (pyIter (.ref it)) Q E s := by
  obtain ⟨o, e, hc, hd⟩ := D.st.get hI
  have hT : s.TypeIs (.ref it) "reversed" := ⟨o, e, hc⟩
  refine wpAny_pyIter_slot hT MF.slot_rv_iter (wpAny_call_entry MF.slot_rv_iter hT MF.entry_rv_iter ?_ (MF.args_rv_iter _))
  show wpAny _ _ (ret (.ref it)) _ _ s
  exact wpAny_pure ⟨_, rfl, "reversed", _, hT, MF.slot_rv_next.lookup, h⟩
end

theorem meets_en_new (it t : Addr) (i : Int) :
    Meets (Builtin.«enumerate.__new__» ⟨[.type "enumerate", .ref it], []⟩) (fun _ R s => (∃ o, s.heap.get? it = some o ∧ isRv t i o) ∧
      R (.ok (.ret (.ref s.heap.objs.size))) { s with heap := s.heap.push (enObj .none it 0 .none) }) :=
  .of_wp fun prog w A R s h => by
    obtain ⟨⟨o, e, hc, hd⟩, h⟩ := h
    have hsub := sub_enumerate
    have hT : s.TypeIs (.ref it) "reversed" := ⟨o, e, hc⟩
    have hit : ∀ (A : Around) (Q : Value → Shared → Prop) (E : Value → Shared → Prop), Q (.ref it) s → wpAny (model prog w) A (pyIter (.ref it)) Q E s := fun A Q E h => by
      refine wpAny_pyIter_slot hT MF.slot_rv_iter (wpAny_call_entry MF.slot_rv_iter hT MF.entry_rv_iter ?_ (MF.args_rv_iter _))
      show wpAny _ _ (ret (.ref it)) _ _ s
      exact wpAny_pure ⟨_, rfl, "reversed", _, hT, MF.slot_rv_next.lookup, h⟩
    unfold Builtin.«enumerate.__new__»
    refine wpAny_bind (wpAny_of_eq (a := (Value.type "enumerate", [Value.ref it])) (by unfold Builtin.SmallTypes.newClass; simp only [isType, hsub, pure_bind, Bool.not_true, Bool.false_eq_true, if_false]) ?_)
    try dsimp only
    rw [if_pos (by decide)]
    unfold Builtin.SmallTypes.calledThroughType
    refine wpAny_bind (wpAny_bind (wpAny_stack_any fun st => wpAny_pure ?_))
    have fin : ∀ {A' : Around} {Q' : PySem.Fin → Shared → Prop} {E' : Value → Shared → Prop}, Q' (.done (.ret (.ref s.heap.objs.size))) { s with heap := s.heap.push (enObj .none it 0 .none) } → wpAny (model prog w) A' (do ret (← Builtin.SmallTypes.newRecord (.type "enumerate") (Builtin.SmallTypes.ownedTupleFields ++ [← pyIter (.ref it), rawInt 0, .none, .none]))) Q' E' s := fun h' =>
      wpAny_bind (hit _ _ _ (wpAny_bind (m := newObj (.type "enumerate") (.fields #[.none, .bool false, .ref it, rawInt 0, .none, .none])) (wpAny_newObj_type (wpAny_pure h'))))
    split
    · rename_i c _ _ _ _ _
      cases (c == Value.type "enumerate")
      · exact fin ⟨_, rfl, h⟩
      · exact fin ⟨_, rfl, h⟩
    · exact fin ⟨_, rfl, h⟩
end Mine
/-! part M14 -/
set_option Elab.async false
set_option maxRecDepth 100000
set_option autoImplicit false
namespace Mine
open PySem PySem.Calls PySem.W PyProof.Rows Builtin

section
variable {prog : Program} {w : World} {A : Around} {E : Value → Shared → Prop} {r s : Shared} {ps fs : Fs}

theorem next_rv {it t : Addr} {i j : Nat} {xs : List Value} {v : Value} {Q : Value → Shared → Prop} (D : On r s ps fs) (hj : fs[j]? = some (it, isRv t (i : Int))) (ht : (t, isT xs) ∈ ps ++ fs) (hv : xs[i]? = some v) (hsz : xs.length ≤ 1000)
    (h : ∀ s', On r s' ps (fs.set j (it, isRv t ((i : Int) - 1))) → Q v s') : wpAny (model prog w) A (Builtin.SmallTypes.nextOf (.ref it)) Q E s := by
  obtain ⟨o, e, hc, hd⟩ := D.st.get (List.mem_append_right ps (List.mem_of_getElem? hj))
  obtain ⟨o2, e2, n2, d2⟩ := D.st.get ht
  have hil : i < xs.length := (List.getElem?_eq_some_iff.mp hv).1
  have hTt : IsTup s.heap t xs.toArray := ⟨o2, e2, by rw [d2], n2, by rw [d2]⟩
  have hT : s.TypeIs (.ref it) "reversed" := ⟨o, e, hc⟩
  unfold Builtin.SmallTypes.nextOf
  refine wpAny_bind (wpAny_callSpecial?_slot (name := Str.ofString "__next__") hT MF.slot_rv_next (wpAny_call_entry MF.slot_rv_next hT MF.entry_rv_next ?_ (MF.args_rv_next _)))
  unfold Builtin.«reversed.__next__»
  refine wpAny_bind (wpAny_of_eq (a := (Value.ref it, [])) rfl ?_)
  try dsimp only
  refine wpAny_bind (wpAny_field e hd (x := .ref t) rfl ?_)
  refine wpAny_bind (wpAny_field e hd (x := rawInt (i : Int)) rfl ?_)
  show wpAny _ _ (if (i : Int) < 0 then _ else _) _ _ s
  rw [if_neg (by omega)]
  refine wpAny_bind (wpAny_specialOf hTt.typeIs slot_tuple_getitem.lookup ?_)
  simp only [Option.isNone_some, Bool.false_eq_true, if_false]
  refine wpAny_bind (wpAny_mkInt ?_)
  refine wpAny_bind (wpAny_attempt (getItem_tuple (s := { s with toks := s.toks + 1 }) (j := i) (x := v) hTt (by omega) (by omega) (by unfold seqIndex?; rw [List.size_toArray]; simp only [show ¬ ((i : Int) < 0) by omega, if_false]; simp; omega) (by simpa using hv) ?_))
  dsimp only
  refine wpAny_bind (wpAny_field (s := { s with toks := s.toks + 1 }) e hd (x := rawInt (i : Int)) rfl ?_)
  show wpAny _ _ (setField (.ref it) 1 (rawInt ((i : Int) - 1)) >>= _) _ _ _
  refine wpAny_bind (wpAny_setField (s := { s with toks := s.toks + 1 }) e hd (by simp) (wpAny_pure ⟨v, rfl, ?_⟩))
  refine wpAny_pure (h _ (D.with_heap (t := s.toks + 1) (D.st.same hj (Heap.SameBut.update ..).extBut ⟨_, Heap.get?_update_self _ e (Obj.isFreed_of_fields (Obj.data_mapFields hd _)), (Obj.cls_mapFields ..).trans hc, ?_⟩)))
  rw [Obj.data_mapFields hd]; simp

theorem next_rv_end {it t : Addr} {Q : Value → Shared → Prop} (hh : A.handled = none) (D : On r s ps ((it, isRv t (-1)) :: fs))
    (h : ∀ s' x, On r s' ps fs → s'.TypeIs (.ref x) "StopIteration" → E (.ref x) s') : wpAny (model prog w) A (Builtin.SmallTypes.nextOf (.ref it)) Q E s := by
  obtain ⟨o, e, hc, hd⟩ := D.st.get (List.mem_append_right ps (.head _))
  have hT : s.TypeIs (.ref it) "reversed" := ⟨o, e, hc⟩
  unfold Builtin.SmallTypes.nextOf
  refine wpAny_bind (wpAny_callSpecial?_slot (name := Str.ofString "__next__") hT MF.slot_rv_next (wpAny_call_entry MF.slot_rv_next hT MF.entry_rv_next ?_ (MF.args_rv_next _)))
  unfold Builtin.«reversed.__next__»
  refine wpAny_bind (wpAny_of_eq (a := (Value.ref it, [])) rfl ?_)
  try dsimp only
  refine wpAny_bind (wpAny_field e hd (x := .ref t) rfl ?_)
  refine wpAny_bind (wpAny_field e hd (x := rawInt (-1)) rfl ?_)
  show wpAny _ _ (if (-1 : Int) < 0 then _ else _) _ _ s
  rw [if_pos (by decide)]
  refine wpAny_bind (wpAny_rule ?_)
  show wpAny _ _ ((do setField (.ref it) 1 (rawInt (-1)); setField (.ref it) 0 .none : Sem Unit) >>= _) _ _ _
  refine wpAny_bind (wpAny_bind (wpAny_setField e hd (by simp) ?_))
  have e1 := Heap.get?_update_self (Obj.mapFields (·.setIfInBounds 1 (rawInt (-1)))) e (Obj.isFreed_of_fields (Obj.data_mapFields hd _))
  have hd1 := Obj.data_mapFields hd (·.setIfInBounds 1 (rawInt (-1)))
  refine wpAny_setField (s := { s with heap := _ }) e1 hd1 (by simp) ?_
  have D1 : St r.heap ((s.heap.update it (Obj.mapFields (·.setIfInBounds 1 (rawInt (-1))))).update it (Obj.mapFields (·.setIfInBounds 0 .none))) ps fs :=
    D.st.lose ((fun b o hb x => (Heap.SameBut.update ..).extBut b o hb ((Heap.SameBut.update ..).extBut b o hb x)) : Heap.ExtBut it s.heap _)
  refine wpAny_bind (m := newExc (.type "StopIteration") [] >>= raiseNew) (wpAny_bind ?_)
  simp only [newExc, newTuple]
  refine wpAny_bind (wpAny_newObj_type ?_ (by size_fits))
  refine wpAny_bind (m := firstArgMember _ _) (wpAny_of_eq (a := Value.none) (by first | rfl | (simp only [firstArgMember]; rfl)) ?_)
  refine wpAny_newObj_type ?_ (by size_fits)
  simp only [raiseNew]
  refine wpAny_bind (wpAny_handled ?_)
  first | rw [show A.in1.handled = none from hh] | rw [hh]
  refine wpAny_bind (wpAny_pure (wpAny_throw ?_))
  exact h _ _ (D.with_heap (t := s.toks) (D1.keeps fun b o x => Heap.get?_push_of_some _ (Heap.get?_push_of_some _ x))) ⟨_, Heap.get?_push_size _ rfl, rfl⟩

theorem call_en {it t : Addr} {i : Int} {Q : Value → Shared → Prop} (D : On r s ps fs) (hI : (it, isRv t i) ∈ ps ++ fs)
    (h : ∀ a s', On r s' ps ((a, isEn it 0) :: fs) → Q (.ref a) s') : wpAny (model prog w) A (call (.type "enumerate") [.ref it]) Q E s := by
  refine callType_new F.called_enumerate (by decide) (F.typeCall_enumerate_1 _) (F.newCall_enumerate_1 _) (fun obj => F.args_object_init_2 obj _) F.entry_enumerate_new
    (meets_en_new it t i) ⟨D.st.get hI, ?_⟩
  exact ⟨⟨_, Heap.get?_push_size _ rfl, rfl⟩, h _ _ (D.with_heap (t := s.toks) (D.st.push ⟨_, rfl⟩))⟩
theorem iter_en {e it : Addr} {i : Nat} {Q : Value → Shared → Prop} (D : On r s ps fs) (hI : (e, isEn it i) ∈ ps ++ fs) (h : Q (.ref e) s) : wpAny (model prog w) A (pyIter (.ref e)) Q E s := by
  obtain ⟨o, ho, old, rfl⟩ := D.st.get hI
  have hT : s.TypeIs (.ref e) "enumerate" := ⟨_, ho, rfl⟩
  refine wpAny_pyIter_slot hT F.slot_enumerate_iter (wpAny_call_entry F.slot_enumerate_iter hT F.entry_enumerate_iter ?_ (F.args_enumerate_iter_1 _))
  show wpAny _ _ (ret (.ref e)) _ _ s
  exact wpAny_pure ⟨_, rfl, "enumerate", _, hT, F.slot_enumerate_next.lookup, h⟩

/-- a field of an enumerate is set -/
theorem set_en {e it : Addr} {P : Pr} {j k : Nat} {f old x : Value} {i : Int} {Q : Unit → Shared → Prop} (D : On r s ps fs) (hj : fs[j]? = some (e, is (enObj f it i old))) (hk : k < 6)
    (hP : P { cls := .type "enumerate", dict := none, data := .fields ((#[f, .bool false, .ref it, rawInt i, .none, old] : Array Value).setIfInBounds k x), slots := #[] })
    (h : ∀ s', On r s' ps (fs.set j (e, P)) → Q () s') : wpAny (model prog w) A (setField (.ref e) k x) Q E s := by
  obtain ⟨o, ho, d⟩ := D.st.get (List.mem_append_right ps (List.mem_of_getElem? hj))
  subst d
  exact wpAny_setField_rec ho hk fun h' he' hs' => h _ (D.with_heap (t := s.toks) (D.st.same hj hs'.extBut ⟨_, he', hP⟩))
theorem fld_en {e it : Addr} {k : Nat} {f old x : Value} {i : Int} {Q : Value → Shared → Prop} (D : On r s ps fs) (hj : (e, is (enObj f it i old)) ∈ ps ++ fs)
    (hx : (#[f, .bool false, .ref it, rawInt i, .none, old] : Array Value)[k]? = some x) (h : Q x s) : wpAny (model prog w) A (field (.ref e) k) Q E s := by
  obtain ⟨o, ho, d⟩ := D.st.get hj
  subst d
  exact wpAny_field ho rfl hx h

theorem next_en {e it t : Addr} {i j : Nat} {xs : List Value} {v : Value} {Q : Option Value → Shared → Prop} (D : On r s ps ((e, isEn it i) :: (it, isRv t (j : Int)) :: fs)) (ht : (t, isT xs) ∈ ps) (hv : xs[j]? = some v) (hsz : xs.length ≤ 1000)
    (h : ∀ a tk s', On r s' ps ((a, isT [.int i tk, v]) :: (e, isEnO it (i + 1) a) :: (it, isRv t ((j : Int) - 1)) :: fs) → Q (some (.ref a)) s') : wpAny (model prog w) A (pyNext (.ref e)) Q E s := by
  obtain ⟨o, ho, old, rfl⟩ := D.st.get (List.mem_append_right ps (.head _))
  have hT : s.TypeIs (.ref e) "enumerate" := ⟨_, ho, rfl⟩
  have D0 : On r s ps ((e, is (enObj .none it i old)) :: (it, isRv t (j : Int)) :: fs) := ⟨D.st.same (i := 0) rfl (Heap.ExtBut.refl _ _) ⟨_, ho, rfl⟩, D.gens, D.os⟩
  unfold pyNext
  refine wpAny_bind (wpAny_attempt (wpAny_callSpecial?_slot (name := Str.ofString "__next__") hT F.slot_enumerate_next
    (wpAny_call_entry F.slot_enumerate_next hT F.entry_enumerate_next ?_ (F.args_enumerate_next_1 _))))
  show wpAny _ _ (field (.ref e) 2 >>= _) _ _ _
  refine wpAny_bind (fld_en D0 (List.mem_append_right _ (.head _)) (x := .ref it) rfl ?_)
  refine wpAny_bind (next_rv D0 (j := 1) rfl (List.mem_append_left _ ht) hv hsz fun s D => ?_)
  have D1 : On r s ps ((e, is (enObj .none it i old)) :: (it, isRv t ((j : Int) - 1)) :: fs) := D
  show wpAny _ _ (field (.ref e) 3 >>= _) _ _ _
  refine wpAny_bind (fld_en D1 (List.mem_append_right _ (.head _)) (x := rawInt i) rfl ?_)
  show wpAny _ _ (field (.ref e) 4 >>= _) _ _ _
  refine wpAny_bind (fld_en D1 (List.mem_append_right _ (.head _)) (x := .none) rfl ?_)
  show wpAny _ _ (mkInt i >>= _) _ _ _
  refine wpAny_bind (wpAny_mkInt ?_)
  generalize s.toks = tk
  show wpAny _ _ (setField (.ref e) 3 (rawInt ((i : Int) + 1)) >>= _) _ _ _
  refine wpAny_bind (set_en (P := is (enObj .none it ((i : Int) + 1) old)) D1.tok (j := 0) rfl (by decide) rfl fun s D2 => ?_)
  show wpAny _ _ (setField (.ref e) 4 .none >>= _) _ _ _
  refine wpAny_bind (set_en (P := is (enObj .none it ((i : Int) + 1) old)) D2 (j := 0) rfl (by decide) rfl fun s D3 => ?_)
  show wpAny _ _ (newTuple [.int i tk, v] >>= _) _ _ _
  refine wpAny_bind (new_tup D3 (by rw [sizeLine_eq]; simp) fun a s D4 => ?_)
  show wpAny _ _ (Builtin.SmallTypes.ownedTupleIsFree (.ref e) >>= _) _ _ _
  refine wpAny_bind ?_
  unfold Builtin.SmallTypes.ownedTupleIsFree
  refine wpAny_bind (fld_en D4 (e := e) (List.mem_append_right _ (.tail _ (.head _))) (x := .none) rfl (wpAny_pure ?_))
  simp only [if_true]
  refine wpAny_bind (wpAny_rule ?_)
  refine wpAny_bind (fld_en D4 (e := e) (List.mem_append_right _ (.tail _ (.head _))) (x := old) rfl ?_)
  refine wpAny_bind (set_en (P := is (enObj .none it ((i : Int) + 1) v)) D4 (j := 1) rfl (by decide) rfl fun s D5 => ?_)
  show wpAny _ _ (Builtin.SmallTypes.ownedTupleHandOut (.ref e) (.ref a) >>= _) _ _ _
  refine wpAny_bind ?_
  unfold Builtin.SmallTypes.ownedTupleHandOut
  refine wpAny_bind (set_en (P := is (enObj (rawInt a) it ((i : Int) + 1) v)) D5 (j := 1) rfl (by decide) rfl fun s D6 => ?_)
  refine set_en (P := isEnO it (i + 1) a) D6 (j := 1) rfl (by decide) ⟨v, rfl⟩ fun s D7 => ?_
  exact wpAny_bind (wpAny_letGo (wpAny_pure ⟨_, rfl, wpAny_pure (h a tk s D7)⟩))

theorem next_en_end {e it t : Addr} {i : Nat} {Q : Option Value → Shared → Prop} (hh : A.handled = none) (D : On r s ps ((e, isEn it i) :: (it, isRv t (-1)) :: fs))
    (h : ∀ s', On r s' ps fs → Q none s') : wpAny (model prog w) A (pyNext (.ref e)) Q E s := by
  obtain ⟨o, ho, old, rfl⟩ := D.st.get (List.mem_append_right ps (.head _))
  have hT : s.TypeIs (.ref e) "enumerate" := ⟨_, ho, rfl⟩
  unfold pyNext
  refine wpAny_bind (wpAny_attempt (wpAny_callSpecial?_slot (name := Str.ofString "__next__") hT F.slot_enumerate_next
    (wpAny_call_entry F.slot_enumerate_next hT F.entry_enumerate_next ?_ (F.args_enumerate_next_1 _))))
  show wpAny _ _ (field (.ref e) 2 >>= _) _ _ _
  refine wpAny_bind (wpAny_field ho rfl (x := .ref it) rfl ?_)
  refine wpAny_bind (next_rv_end hh (D.sub (List.sublist_cons_self _ _)) fun s x D hx => ?_)
  refine wpAny_bind (wpAny_isInstance (T := "StopIteration") (b := true) hx isSubtype_stop ?_)
  exact wpAny_pure (h _ D)

theorem own_en {elts : List PySem.Expr} {x1} {pos : Pos} {e it a : Addr} {i : Nat} {P0 : Pr} {Q : Unit → Shared → Prop} (D : On r s ps ((a, P0) :: (e, isEnO it i a) :: fs))
    (h : ∀ s', On r s' ps ((a, P0) :: (e, isEn it i) :: fs) → Q () s') : wpAny (model prog w) A (letOwnedTupleGo (.Tuple elts x1 pos) (.ref e) (.ref a)) Q E s := by
  obtain ⟨o, ho, old, rfl⟩ := D.st.get (List.mem_append_right ps (.tail _ (.head _)))
  exact wpAny_letOwnedTupleGo_enum ho fun h' he' hs' => h _ (D.with_heap (t := s.toks) (D.st.same (i := 1) rfl hs'.extBut ⟨_, he', _, rfl⟩))
end
end Mine
/-! part M15 -/
set_option Elab.async false
set_option maxRecDepth 100000
set_option autoImplicit false
namespace Mine
open PySem PySem.Calls PySem.W PyProof.Rows Builtin

section
variable {prog : Program} {w : World} {A : Around} {E : Value → Shared → Prop} {r s : Shared} {ps fs : Fs} {env : Env}

/-! ## slices of a tuple -/
theorem adjust_to0 (n : Nat) : Builtin.Slice.sliceAdjust none (some (0 : Int)) 1 (n : Int) = (0, 0) := by
  unfold Builtin.Slice.sliceAdjust
  have h1 : ¬ ((1 : Int) < 0) := by omega
  have h2 : ¬ ((0 : Int) < 0) := by omega
  simp only [h1, h2, if_false]
  rw [Int.min_eq_left (by omega)]
theorem applied_to0 {sl : Addr} {n : Nat} {u : Tok} {Q : Int × Int × Nat → Shared → Prop} (hs : s.heap.IsSliceOf sl .none (.int 0 u) .none) (h : Q (0, 1, 0) s) :
    wpAny (model prog w) A (Builtin.Slice.sliceApplied (.ref sl) (pure (n : Int))) Q E s := by
  obtain ⟨os, hos, hcs, hds⟩ := id hs
  unfold Builtin.Slice.sliceApplied Builtin.Slice.sliceFields
  refine wpAny_bind (wpAny_bind (wpAny_field hos hds (x := .none) rfl (wpAny_bind (wpAny_field hos hds (x := .int 0 u) rfl (wpAny_bind (wpAny_field hos hds (x := .none) rfl (wpAny_pure ?_)))))))
  refine wpAny_bind (slicePart_none ?_)
  show wpAny _ _ (if ((1 : Int) == 0) = true then _ else _) _ _ s
  rw [if_neg (by decide)]
  refine wpAny_bind (slicePart_none (wpAny_bind (slicePart_int (wpAny_bind (wpAny_pure ?_)))))
  show wpAny _ _ (match Builtin.Slice.sliceAdjust none (some (0 : Int)) 1 (n : Int) with | (lo, hi) => pure (lo, (1 : Int), Builtin.Slice.slicePlaces lo hi 1)) _ _ s
  rw [adjust_to0 n]
  exact wpAny_pure h

theorem get_to0 {t sl : Addr} {xs : List Value} {u : Tok} {Q : Value → Shared → Prop} (D : On r s ps fs) (ht : (t, isT xs) ∈ ps ++ fs) (hs : s.heap.IsSliceOf sl .none (.int 0 u) .none) (hne : xs ≠ [])
    (h : ∀ a s', On r s' ps ((a, isT []) :: fs) → Q (.ref a) s') : wpAny (model prog w) A (getItem (.ref t) (.ref sl)) Q E s := by
  obtain ⟨o, e, n, d⟩ := D.st.get ht
  have hT : IsTup s.heap t xs.toArray := ⟨o, e, by rw [d], n, by rw [d]⟩
  obtain ⟨os, hos, hcs, hds⟩ := id hs
  have hTs : s.TypeIs (.ref sl) "slice" := ⟨os, hos, hcs⟩
  unfold getItem
  try with_reducible refine wpAny_holding ?_
  first | refine wpAny_bind (wpAny_pure ?_) | skip
  refine wpAny_bind (wpAny_sequenceKey hT.typeIs (by decide) ?_)
  refine wpAny_bind (wpAny_callSpecial?_slot (name := Str.ofString "__getitem__") hT.typeIs slot_tuple_getitem
    (wpAny_call_entry slot_tuple_getitem hT.typeIs entry_tuple_getitem ?_ (args_tuple_getitem _ _)))
  show wpAny _ _ (Builtin.Tuple.tupleItemsOf (.ref t) >>= _) _ _ s
  refine wpAny_bind (tupleItemsOf_ hT ?_)
  refine wpAny_bind (wpAny_typeOf hTs ?_)
  rw [if_pos (by decide)]
  refine wpAny_bind (applied_to0 hs ?_)
  have hno : ¬ (((0 : Int) == 0 && (1 : Int) == 1 && ((0 : Nat) == xs.toArray.size)) = true) := by
    cases xs with
    | nil => exact absurd rfl hne
    | cons _ _ => simp
  show wpAny _ _ (if ((0 : Int) == 0 && (1 : Int) == 1 && ((0 : Nat) == xs.toArray.size)) = true then _ else _) _ _ s
  rw [if_neg hno]
  show wpAny _ _ (do ret (← newObj (.type "tuple") (.seq #[]))) _ _ s
  exact wpAny_bind (wpAny_newObj_type (wpAny_pure ⟨_, rfl, wpAny_pure (h _ _ (D.with_heap (t := s.toks) (D.st.push ⟨0, rfl⟩)))⟩) (by size_fits))

theorem get_whole {t sl : Addr} {xs : List Value} {Q : Value → Shared → Prop} (D : On r s ps fs) (ht : (t, isT xs) ∈ ps ++ fs) (hTs : s.TypeIs (.ref sl) "slice")
    (hap : ∀ (A : Around) (E : Value → Shared → Prop) (Q : Int × Int × Nat → Shared → Prop), Q (0, 1, xs.toArray.size) s → wpAny (model prog w) A (Builtin.Slice.sliceApplied (.ref sl) (pure (xs.toArray.size : Int))) Q E s)
    (h : Q (.ref t) s) : wpAny (model prog w) A (getItem (.ref t) (.ref sl)) Q E s := by
  obtain ⟨o, e, n, d⟩ := D.st.get ht
  have hT : IsTup s.heap t xs.toArray := ⟨o, e, by rw [d], n, by rw [d]⟩
  unfold getItem
  try with_reducible refine wpAny_holding ?_
  first | refine wpAny_bind (wpAny_pure ?_) | skip
  refine wpAny_bind (wpAny_sequenceKey hT.typeIs (by decide) ?_)
  refine wpAny_bind (wpAny_callSpecial?_slot (name := Str.ofString "__getitem__") hT.typeIs slot_tuple_getitem
    (wpAny_call_entry slot_tuple_getitem hT.typeIs entry_tuple_getitem ?_ (args_tuple_getitem _ _)))
  show wpAny _ _ (Builtin.Tuple.tupleItemsOf (.ref t) >>= _) _ _ s
  refine wpAny_bind (tupleItemsOf_ hT ?_)
  refine wpAny_bind (wpAny_typeOf hTs ?_)
  rw [if_pos (by decide)]
  refine wpAny_bind (hap _ _ _ ?_)
  show wpAny _ _ (if ((0 : Int) == 0 && (1 : Int) == 1 && (xs.toArray.size == xs.toArray.size)) = true then _ else _) _ _ s
  rw [if_pos (by simp)]
  refine wpAny_bind (wpAny_bind (wpAny_typeOf hT.typeIs (wpAny_pure ?_)))
  rw [if_pos (by decide)]
  exact wpAny_bind (wpAny_rule (wpAny_pure ⟨_, rfl, wpAny_pure h⟩))

theorem list_of {t : Addr} {xs : List Value} {Q : Value → Shared → Prop} (D : On r s ps fs) (ht : (t, isT xs) ∈ ps ++ fs) (hsz : xs.length ≤ 1000)
    (h : ∀ a s', On r s' ps ((a, isL xs) :: fs) → Q (.ref a) s') : wpAny (model prog w) A (call (.type "list") [.ref t]) Q E s := by
  obtain ⟨o, e, n, d⟩ := D.st.get ht
  have hT : IsTup s.heap t xs.toArray := ⟨o, e, by rw [d], n, by rw [d]⟩
  refine call_list_seq t (o := o) (n := n) (items := xs.toArray) (.inr rfl) e (by rw [d]) (by rw [d]) (fun h' c' hk hn => h _ _ ?_) (by rw [List.size_toArray, sizeLine_eq]; omega)
  have Dk : St r.heap h' ps fs := D.st.keeps hk
  exact D.with_heap (t := s.toks) (D.st.add_new Dk (Nat.le_refl _) ⟨_, hn, _, rfl⟩)

/-! ## calls by name -/
def Mach (f : Value) : Prop := (∃ i, f = .builtin i) ∨ ∃ T, f = .type T
theorem c1 {x : Str} {p pos : Pos} {e : PySem.Expr} {f : Value} {Q : Value → Shared → Prop} (hm : Mach f)
    (hf : ∀ Q' : Value → Shared → Prop, Q' f s → wpAny (model prog w) A (eval (.Name x p) env) Q' E s)
    (h : wpAny (model prog w) A (eval e env) (fun v s' => wpAny (model prog w) A (call f [v]) Q E s') E s) (hs : starEach [e] env = [(false, eval e env)] := by rfl) :
    wpAny (model prog w) A (eval (.Call (.Name x p) [e] [] pos) env) Q E s := by
  refine Call_Name1 (hf _ ?_) hs
  rcases hm with ⟨i, rfl⟩ | ⟨T, rfl⟩
  · exact callWith_builtin1 h
  · exact callWith_type1 h
theorem c2 {x : Str} {p pos : Pos} {e e' : PySem.Expr} {i : String} {Q : Value → Shared → Prop}
    (hf : ∀ Q' : Value → Shared → Prop, Q' (.builtin i) s → wpAny (model prog w) A (eval (.Name x p) env) Q' E s)
    (h : wpAny (model prog w) A (eval e env) (fun v s' => wpAny (model prog w) A (eval e' env) (fun v' s'' => wpAny (model prog w) A (call (.builtin i) [v, v']) Q E s'') E s') E s)
    (hs : starEach [e, e'] env = [(false, eval e env), (false, eval e' env)] := by rfl) :
    wpAny (model prog w) A (eval (.Call (.Name x p) [e, e'] [] pos) env) Q E s := by
  refine Call_Name2 (hf _ ?_) hs
  exact Calls.callWith_builtin rfl (Calls.evalArgs_plain (Calls.spliced_cons (wpAny_mono h (fun v s' h' => Calls.spliced_cons (wpAny_mono h' (fun v' s'' h'' => Calls.spliced_nil h'') fun _ _ z => z)) fun _ _ z => z)))

/-! the program's own functions -/
def DefAt (s : Shared) (a : Addr) (o : Obj) : Prop := s.heap.get? a = some o ∧ ∃ fd, o.data = .func fd
theorem f0 {x : Str} {p pos : Pos} {a : Addr} {o : Obj} {Q : Value → Shared → Prop}
    (hf : ∀ Q' : Value → Shared → Prop, Q' (.ref a) s → wpAny (model prog w) A (eval (.Name x p) env) Q' E s)
    (hd : DefAt s a o) (h : wpAny (model prog w) A (call (.ref a) []) Q E s) : wpAny (model prog w) A (eval (.Call (.Name x p) [] [] pos) env) Q E s := by
  refine Call_Name0 (hf _ ?_)
  obtain ⟨hd, fd, e⟩ := hd
  exact Calls.callWith_function (o := o) (fd := fd) (evalArgs_nil3 ⟨⟨hd, e⟩, h⟩)
theorem f1 {x : Str} {p pos : Pos} {e : PySem.Expr} {a : Addr} {o : Obj} {Q : Value → Shared → Prop}
    (hf : ∀ Q' : Value → Shared → Prop, Q' (.ref a) s → wpAny (model prog w) A (eval (.Name x p) env) Q' E s) (hfd : ∃ fd, o.data = .func fd)
    (h : wpAny (model prog w) A (eval e env) (fun v s' => s'.heap.get? a = some o ∧ wpAny (model prog w) A (call (.ref a) [v]) Q E s') E s) (hs : starEach [e] env = [(false, eval e env)] := by rfl) :
    wpAny (model prog w) A (eval (.Call (.Name x p) [e] [] pos) env) Q E s := by
  refine Call_Name1 (hf _ ?_) hs
  obtain ⟨fd, e⟩ := hfd
  exact Calls.callWith_function (o := o) (fd := fd) (Calls.evalArgs_plain (Calls.spliced_cons (wpAny_mono h (fun v s' h' => Calls.spliced_nil ⟨⟨h'.1, e⟩, h'.2⟩) fun _ _ z => z)))
theorem f2 {x : Str} {p pos : Pos} {e e' : PySem.Expr} {a : Addr} {o : Obj} {Q : Value → Shared → Prop}
    (hf : ∀ Q' : Value → Shared → Prop, Q' (.ref a) s → wpAny (model prog w) A (eval (.Name x p) env) Q' E s) (hfd : ∃ fd, o.data = .func fd)
    (h : wpAny (model prog w) A (eval e env) (fun v s' => wpAny (model prog w) A (eval e' env) (fun v' s'' => s''.heap.get? a = some o ∧ wpAny (model prog w) A (call (.ref a) [v, v']) Q E s'') E s') E s)
    (hs : starEach [e, e'] env = [(false, eval e env), (false, eval e' env)] := by rfl) :
    wpAny (model prog w) A (eval (.Call (.Name x p) [e, e'] [] pos) env) Q E s := by
  refine Call_Name2 (hf _ ?_) hs
  obtain ⟨fd, e⟩ := hfd
  exact Calls.callWith_function (o := o) (fd := fd) (Calls.evalArgs_plain (Calls.spliced_cons (wpAny_mono h (fun v s' h' => Calls.spliced_cons (wpAny_mono h' (fun v' s'' h'' => Calls.spliced_nil ⟨⟨h''.1, e⟩, h''.2⟩) fun _ _ z => z)) fun _ _ z => z)))
theorem fk {x : Str} {p pos kp : Pos} {y : Str} {e e' : PySem.Expr} {a : Addr} {o : Obj} {Q : Value → Shared → Prop}
    (hf : ∀ Q' : Value → Shared → Prop, Q' (.ref a) s → wpAny (model prog w) A (eval (.Name x p) env) Q' E s) (hfd : ∃ fd, o.data = .func fd)
    (h : wpAny (model prog w) A (eval e env) (fun v s' => wpAny (model prog w) A (eval e' env) (fun v' s'' => s''.heap.get? a = some o ∧ wpAny (model prog w) A (call (.ref a) [v] [(y, v')]) Q E s'') E s') E s)
    (hs : starEach [e] env = [(false, eval e env)] := by rfl) :
    wpAny (model prog w) A (eval (.Call (.Name x p) [e] [⟨some y, e', kp⟩] pos) env) Q E s := by
  obtain ⟨fd, e0⟩ := hfd
  refine wpAny_Call_Name_kw (hf _ ?_)
  refine callWith_function_kw (o := o) (fd := fd) (evalArgs_kw2 rfl ?_ hs)
  refine wpAny_items_cons (wpAny_mono h (fun v s' h' => wpAny_items_nil (kwAll_cons (wpAny_mono h' (fun v' s'' h'' => kwAll_nil ⟨⟨h''.1, e0⟩, h''.2⟩) fun _ _ z => z))) fun _ _ z => z) hs

/-! ## calls of a def with cells -/
theorem St.cells {B : Heap} {h₀ : Shared} {s' : Shared} {ps fs : Fs} {L : Addr} {m cm : Str → Option Value} {cs : List (Str × Addr)} {l : List (Str × Value)} (D₀ : St B h₀.heap ps fs) (x : InCallC h₀ L m cs cm s') (hL : h₀.heap.objs.size ≤ L)
    (hn : (cs.map (·.1)).Nodup) (hl : ∀ p ∈ l, m p.1 = some p.2) : St B s'.heap ps ((L, loc l) :: (cs.map fun p => (p.2, isC (cm p.1))) ++ fs) := by
  have Dk : St B s'.heap ps fs := by
    obtain ⟨h', tk, e, hk'⟩ := x.done
    subst e
    exact D₀.keeps hk'
  have key : ∀ (ds : List (Str × Addr)), ds.Sublist cs → St B s'.heap ps ((ds.map fun p => (p.2, isC (cm p.1))) ++ fs) := by
    intro ds
    induction ds with
    | nil => intro _; exact Dk
    | cons d ds ih =>
      intro hs
      have hs' : ds.Sublist cs := (List.sublist_cons_self d ds).trans hs
      have D1 := ih hs'
      have hd : d ∈ cs := hs.subset (.head _)
      have hlk : cs.lookup d.1 = some d.2 := by
        clear D1 ih hs hs' hl x D₀ Dk
        induction cs with
        | nil => cases hd
        | cons c cs ih =>
          rw [List.map_cons, List.nodup_cons] at hn
          rw [List.lookup_cons]
          rcases List.mem_cons.mp hd with rfl | hd
          · simp
          · have : (d.1 == c.1) = false := beq_eq_false_iff_ne.mpr fun e => hn.1 (e ▸ List.mem_map.mpr ⟨d, hd, rfl⟩)
            rw [this]; exact ih hn.2 hd
      have hge : h₀.heap.objs.size ≤ d.2 := Nat.le_trans hL (Nat.le_of_lt (x.above d.1 d.2 hd))
      refine D1.add (fun p hp e => ?_) (Nat.le_trans D₀.base.size hge) (let ⟨o, e, d'⟩ := x.cell _ _ hlk; ⟨o, e, d'⟩)
      have hp' : p ∈ (ds.map fun p => (p.2, isC (cm p.1))) ∨ p ∈ ps ++ fs := by
        rcases List.mem_append.mp hp with q | q
        · exact .inr (List.mem_append_left _ q)
        · rcases List.mem_append.mp q with q | q
          · exact .inl q
          · exact .inr (List.mem_append_right _ q)
      rcases hp' with q | q
      · obtain ⟨c, hc, rfl⟩ := List.mem_map.mp q
        have pw : (d :: ds).Pairwise fun x y => x.2 ≠ y.2 := x.apart.sublist hs
        exact (List.pairwise_cons.mp pw).1 c hc e.symm
      · exact absurd (D₀.lt (a := p.1) (P := p.2) q) (Nat.not_lt.mpr (by rw [e]; exact hge))
  have D1 := key cs (.refl _)
  refine D1.add (fun p hp e => ?_) (Nat.le_trans D₀.base.size hL) (let ⟨o, es, ep, e, d, k, f⟩ := x.toInCall.ns; ⟨o, e, m, ⟨es, ep, d, k, f⟩, hl⟩)
  rcases List.mem_append.mp hp with q | q
  · exact absurd (D₀.lt (a := p.1) (P := p.2) (List.mem_append_left _ q)) (Nat.not_lt.mpr (by rw [e]; exact hL))
  · rcases List.mem_append.mp q with q | q
    · obtain ⟨c, hc, rfl⟩ := List.mem_map.mp q
      exact Nat.lt_irrefl L (Nat.lt_of_lt_of_eq (x.above c.1 c.2 hc) e)
    · exact absurd (D₀.lt (a := p.1) (P := p.2) (List.mem_append_right _ q)) (Nat.not_lt.mpr (by rw [e]; exact hL))

theorem call_fnK {a : Addr} {fd : FuncData} {body : List Stmt} {vals : List Value} {kw : List (Str × Value)} {binds : List (Str × Value)} {cs : Nat → List (Str × Addr)} {l : List (Str × Value)} {cm : Str → Option Value} {Q : Value → Shared → Prop}
    (D : On r s ps fs) (hroom : A.depth < recursionLimit) (hf : FnAt s.heap a fd) (hcd : s.heap.CodeRec fd.code fd.qualname) (hbody : fd.body = .stmts body) (hbind : BindsTo s fd ⟨vals, kw⟩ binds)
    (hglob : fd.globals = 3) (hblt : fd.builtins = 0) (hclo : fd.closure = []) (hcs : ∀ n, cellsFrom n fd.scope.names [] = cs n) (hn : ∀ n, ((cs n).map (·.1)).Nodup)
    (hkind : ∀ n, ∀ x ∈ binds, fd.scope.names.lookup x.1 = some .local ∨ (fd.scope.names.lookup x.1 = some .cell ∧ ((cellsFrom n fd.scope.names []).lookup x.1).isSome = true))
    (hl : ∀ p ∈ l, bindL (fun x => fd.scope.names.lookup x) binds (fun _ => none) p.1 = some p.2) (hcm : bindC (fun x => fd.scope.names.lookup x) binds (fun _ => none) = cm)
    (h : ∀ env L s', EnvIs env fd.scope L (cs (L + 1)) → env.code = fd.code → env.qual = fd.qualname ++ ".<locals>." → env.frame = some L → On r s' ps ((L, loc l) :: ((cs (L + 1)).map fun p => (p.2, isC (cm p.1))) ++ fs) →
      wpAny (model prog w) (A.deeper env) (execs body env) (fun f s'' => Q (match f with | .ret v => v | _ => .none) s'') (fun _ _ => False) s')
    (hco : fd.scope.isCoroutine = false) (hgen : fd.scope.isGenerator = false) (hk : fd.scope.kind = .function) :
    wpAny (model prog w) A (call (.ref a) vals kw) Q E s := by
  obtain ⟨o, ho, hd⟩ := hf
  refine wpAny_call (codeAny_call_function hroom ho hd hco hgen hbody hcd (hbind _ _ _ _ ?_))
  rw [hclo]
  refine wpAny_newFunctionEnv_cells hk (hkind _) fun env he s' x => ?_
  subst he
  have D1 : On r s' ps ((s.heap.objs.size, loc l) :: ((cs (s.heap.objs.size + 1)).map fun p => (p.2, isC (cm p.1))) ++ fs) := by
    have x' := x
    obtain ⟨h', tk, e, hk'⟩ := x.done
    subst hcm
    have := St.cells (l := l) D.st x' (Nat.le_refl _) (by show ((cellsFrom (s.heap.objs.size + 1) fd.scope.names []).map (·.1)).Nodup; rw [hcs]; exact hn _) hl
    refine ⟨?_, by rw [e]; exact D.gens, by rw [e]; exact D.os⟩
    have e2 : (callEnvC fd s.heap.objs.size a).cells = cs (s.heap.objs.size + 1) := hcs _
    rw [← e2]; exact this
  exact ⟨D1.st.nl, codeAny_func (wpAny_mono (h _ s.heap.objs.size s' ⟨rfl, rfl, hglob, hcs _, hblt⟩ rfl rfl rfl D1) (fun _ _ q => q) fun _ _ f => f.elim)⟩
end
end Mine
/-! part M16 -/
set_option Elab.async false
set_option maxRecDepth 100000
set_option autoImplicit false
namespace Mine
open PySem PySem.Calls PySem.W PyProof.Rows Builtin

theorem erase_perm {α : Type} : ∀ (l : List α) (i : Nat) (x : α), l[i]? = some x → (x :: l.eraseIdx i).Perm l
  | [], i, x, h => by simp at h
  | a :: l, 0, x, h => by simp at h; subst h; exact .refl _
  | a :: l, i + 1, x, h => by
    simp only [List.getElem?_cons_succ] at h
    rw [List.eraseIdx_cons_succ]
    exact (List.Perm.swap a x _).trans ((erase_perm l i x h).cons a)
section
variable {r s : Shared} {ps fs fs' : Fs}
theorem On.bring (D : On r s ps fs) (i : Nat) {p : Addr × Pr} (h : fs[i]? = some p) : On r s ps (p :: fs.eraseIdx i) := by
  exact D.perm (erase_perm fs i p h)
theorem On.rid (D : On r s ps fs) (i : Nat) : On r s ps (fs.eraseIdx i) := D.sub (List.eraseIdx_sublist _ _)
theorem On.ext_new (D : On r s ps fs) {h' : Heap} {t : Nat} (hx : Heap.ExtBut s.heap.objs.size s.heap h') : On r { s with heap := h', toks := t } ps fs :=
  D.with_heap (D.st.keeps fun b o e => hx b o (Nat.ne_of_lt (Heap.lt_size e)) e)
theorem On.def (_D : On r s ps fs) {a : Addr} {i : Nat} {dflt : Value} (x : IsFn r.heap a i dflt) : ∃ o, (∃ fd, o.data = .func fd) ∧ ∀ {s' : Shared} {ps' fs' : Fs}, On r s' ps' fs' → s'.heap.get? a = some o := by
  obtain ⟨mod, c, ⟨o, e, d⟩, y⟩ := x.ex
  exact ⟨o, ⟨_, d⟩, fun D' => D'.st.base.keep _ _ e x.low.1 x.low.2⟩
end

theorem relabel_keep {env : Env} {k0 : NameKind} (hk : k0 ≠ .free) : ∀ {names : List (Str × NameKind)} {x : Str}, names.lookup x = some k0 →
    (names.map fun (n, k) => if (k == NameKind.free && env.scope.kind == .function && env.kindOf n == some .cell) then (n, NameKind.cell) else (n, k)).lookup x = some k0
  | [], _, h => by simp at h
  | (n, k) :: r, x, h => by
    have ih := @relabel_keep env k0 hk r x
    show List.lookup x ((if (k == NameKind.free && env.scope.kind == .function && env.kindOf n == some .cell) = true then (n, NameKind.cell) else (n, k)) :: _) = _
    cases hx : x == n with
    | true =>
      simp only [List.lookup_cons, hx] at h
      cases h
      have : (k0 == NameKind.free) = false := beq_eq_false_iff_ne.mpr hk
      simp only [this, Bool.false_and, Bool.false_eq_true, if_false, List.lookup_cons, hx]
    | false =>
      simp only [List.lookup_cons, hx] at h
      split <;> simp only [List.lookup_cons, hx] <;> exact ih h
theorem relabel_cell {env : Env} {x : Str} (hf : env.scope.kind = .function) (hc : env.kindOf x = some .cell) : ∀ {names : List (Str × NameKind)}, names.lookup x = some .free →
    (names.map fun (n, k) => if (k == NameKind.free && env.scope.kind == .function && env.kindOf n == some .cell) then (n, NameKind.cell) else (n, k)).lookup x = some .cell
  | [], h => by simp at h
  | (n, k) :: r, h => by
    have ih := @relabel_cell env x hf hc r
    show List.lookup x ((if (k == NameKind.free && env.scope.kind == .function && env.kindOf n == some .cell) = true then (n, NameKind.cell) else (n, k)) :: _) = _
    cases hx : x == n with
    | true =>
      simp only [List.lookup_cons, hx] at h
      cases h
      have e : x = n := eq_of_beq hx
      subst e
      rw [hf, hc]
      simp
    | false =>
      simp only [List.lookup_cons, hx] at h
      split <;> simp only [List.lookup_cons, hx] <;> exact ih h

/-! ## the ground -/
structure Gnd (B : Heap) : Prop where
  merge : Glob B "_c3_merge" (.ref 29)
  mro : Glob B "_c3_mro" (.ref 35)
  compose : Glob B "_compose_mro" (.ref 40)
  find : Glob B "_find_impl" (.ref 47)
  classes : Glob B "_law_classes" (.ref 54)
  lway : Glob B "_law_way" (.ref 61)
  galias : Glob B "GenericAlias" (.type "types.GenericAlias")
  enumerate : Blt B "enumerate" (.type "enumerate")
  reversed : Blt B "reversed" (.type "reversed")
  hasattr : Blt B "hasattr" (.builtin "hasattr")
  list : Blt B "list" (.type "list")
  set : Blt B "set" (.type "set")
  isinstance : Blt B "isinstance" (.builtin "isinstance")
  issubclass : Blt B "issubclass" (.builtin "issubclass")
  cls : ∀ k, k < 15 → Blt B (nm k) (cl k)
  code40 : ∃ mod, FnAt B 40 (mkFn 5 .none mod 39) ∧ CodeHd B 39 37 ∧ CodeR B (.ref 39) "_compose_mro"
  bmod : ∃ mg, B.Ns 3 mg ∧ B.BuiltinsAt mg 37
  bmod2 : ∀ mg bm, B.Ns 3 mg → mg "__builtins__" = some (.ref bm) → bm ≠ 2
  d30 : ∃ o n, B.get? 30 = some o ∧ o.data = .seq #[.none] n
  f29 : IsFn B 29 3 .none
  f35 : IsFn B 35 4 (.ref 30)
  f40 : IsFn B 40 5 .none
  f47 : IsFn B 47 6 .none
  f54 : IsFn B 54 8 .none
  f61 : IsFn B 61 9 .none
  f66 : IsFn B 66 10 .none
end Mine
/-! part M17 -/
set_option Elab.async false
set_option maxRecDepth 100000
set_option autoImplicit false
namespace Mine
open PySem PySem.Calls PySem.W PyProof.Rows Builtin
local macro_rules | `(tactic| walk_at "mem") => `(tactic| first | exact List.Mem.head _ | (refine List.Mem.tail _ ?_; (walk_at "mem")))
local macro_rules | `(tactic| walk_at "sub") => `(tactic| first | exact List.forall_mem_nil _ | (refine List.forall_mem_cons.mpr ⟨?_, ?_⟩; (walk_at "mem"); (walk_at "sub")))

def scR : Scope := scopeOf (stOf 4)
def forBody : Stmt → List Stmt
  | .For _ _ b _ _ => b
  | _ => []
def forElse : Stmt → List Stmt
  | .For _ _ _ o _ => o
  | _ => []

section
variable {prog : Program} {w : World} {A : Around} {E : Value → Shared → Prop} {r s : Shared} {ps fs : Fs} {env : Env} {L cb ca : Addr} {k : Nat}

theorem mem_r {ps fs : Fs} {p : Addr × Pr} (h : p ∈ fs) : p ∈ ps ++ fs := List.mem_append_right _ h
theorem mem_l {ps fs : Fs} {p : Addr × Pr} (h : p ∈ ps) : p ∈ ps ++ fs := List.mem_append_left _ h

/-- the first loop -/
theorem mro_s0 (hA : A.handled = none) (hk : k < 15) (G : Gnd r.heap) (H : EnvIs env scR L [("base", cb), ("abcs", ca)]) {m : Value} {Q : Flow → Shared → Prop}
    (D : On r s ps ((L, loc [("cls", cl k)]) :: (cb, isC none) :: (ca, isC (some m)) :: fs))
    (h : ∀ s' ps' vb u, (∀ p ∈ ps, p ∈ ps') → On r s' ps' ((L, loc [("boundary", .int 0 u), ("cls", cl k)]) :: (cb, isC vb) :: (ca, isC (some m)) :: fs) → Q .next s') :
    wpAny (model prog w) A (exec (nth (bodyOf (stOf 4)) 0) env) Q E s := by
  refine wpAny_For ?_
  refine c1 (.inr ⟨_, rfl⟩) (fun Q' hq => ev_blt H D G.enumerate rfl rfl hq) ?_
  refine c1 (.inr ⟨_, rfl⟩) (fun Q' hq => ev_blt H D G.reversed rfl rfl hq) ?_
  refine Attribute_Name_ (ev_local H D (by walk_at "mem") (by walk_at "mem") rfl rfl (attr_bases hk D fun t s ps1 hps ht D => ?_))
  have hlen : ((up k).map cl).length ≤ 1000 := by rw [List.length_map]; have := (way_len k hk).2.2.2.1; omega
  refine call_rv D (mem_l ht) hlen fun R s D => ?_
  refine call_en D (mem_r (by walk_at "mem")) fun e s D => ?_
  refine iter_en D (mem_r (by walk_at "mem")) ?_
  refine codeAny_forLoop_any (fun n s => ∃ i ps' l vb, n = ((up k).map cl).length + 1 - i ∧ i ≤ ((up k).map cl).length ∧ ((("cls" : Str), cl k) : Str × Value) ∈ l ∧ (∀ p ∈ ps, p ∈ ps') ∧ (t, isT ((up k).map cl)) ∈ ps' ∧
    On r s ps' ((e, isEn R i) :: (R, isRv t ((((up k).map cl).length : Int) - 1 - (i : Int))) :: (L, loc l) :: (cb, isC vb) :: (ca, isC (some m)) :: fs)) ?_ (((up k).map cl).length + 1)
    ⟨0, ps1, [("cls", cl k)], none, rfl, Nat.zero_le _, List.Mem.head _, hps, ht, by simpa using D⟩
  rintro n s ⟨i, ps', l, vb, rfl, hi, hcl, hps', ht', D⟩
  generalize hxs : (up k).map cl = xs at *
  rcases Nat.lt_or_eq_of_le hi with hlt | rfl
  · have hj : (xs.length : Int) - 1 - (i : Int) = ((xs.length - 1 - i : Nat) : Int) := by omega
    rw [hj] at D
    have hv : xs[xs.length - 1 - i]? = some (xs[xs.length - 1 - i]'(by omega)) := List.getElem?_eq_getElem (by omega)
    obtain ⟨j, hj15, hjv⟩ : ∃ j, j < 15 ∧ xs[xs.length - 1 - i]'(by omega) = cl j := by
      have hm : xs[xs.length - 1 - i]'(by omega) ∈ (up k).map cl := by rw [hxs]; exact List.getElem_mem _
      obtain ⟨j, hju, e⟩ := List.mem_map.mp hm
      exact ⟨j, Nat.lt_trans ((way_len k hk).2.2.2.2 j hju) hk, e.symm⟩
    rw [hjv] at hv
    refine next_en D ht' hv hlen fun a tk s D => ?_
    refine own_en D fun s D => ?_
    refine wpAny_assign_Tuple hA (D.st.tup (mem_r (by walk_at "mem"))) rfl rfl fun h₃ hx₃ => ?_
    have D := D.ext_new (t := s.toks) hx₃
    generalize ({ s with heap := h₃, toks := s.toks } : Shared) = s3 at D
    show wpAny _ A (do holding [cl j] (assign (.Name "i" _) env (.int i tk)); do holding [] (assign (.Name "base" _) env (cl j)); pure ()) _ _ _
    refine wpAny_bind (wpAny_holding (wpAny_assign_Name (st_keep [("cls", cl k)] H (i := 3) D rfl rfl rfl (List.forall_mem_cons.mpr ⟨hcl, List.forall_mem_nil _⟩) rfl fun s D => ?_)))
    refine wpAny_bind (wpAny_holding (wpAny_assign_Name (st_cell (i := 4) H D rfl rfl rfl rfl fun s D => wpAny_pure ?_)))
    refine wpAny_execs_cons (wpAny_If (wpAny_isTrue_value ?_))
    refine c2 (fun Q' hq => ev_blt H D G.hasattr rfl rfl hq) ?_
    refine ev_cell H D rfl (by walk_at "mem") rfl rfl ?_
    refine wpAny_Constant_str ?_
    refine hasattr_abs hA hj15 D.tok fun s D => ?_
    refine wpAny_truthy_bool ?_
    simp only [Bool.false_eq_true, if_false]
    refine wpAny_execs_nil (wpAny_execs_nil ?_)
    refine ⟨xs.length + 1 - (i + 1), by omega, i + 1, ps', [("i", .int i tk), ("cls", cl k)], some (cl j), rfl, hlt, List.Mem.tail _ (List.Mem.head _), hps', ht', ?_⟩
    have D := D.rid 0
    have e2 : ((xs.length - 1 - i : Nat) : Int) - 1 = (xs.length : Int) - 1 - ((i + 1 : Nat) : Int) := by omega
    rw [← e2]
    exact D
  · have hj : (xs.length : Int) - 1 - (xs.length : Int) = -1 := by omega
    rw [hj] at D
    refine next_en_end hA D fun s D => ?_
    refine wpAny_execs_cons (wpAny_Assign_Name (wpAny_Constant_int ?_))
    refine st_keep [("cls", cl k)] (i := 0) H D.tok rfl rfl rfl (List.forall_mem_cons.mpr ⟨hcl, List.forall_mem_nil _⟩) rfl fun s D => ?_
    exact wpAny_execs_nil (h s ps' vb _ hps' D)
end
end Mine
/-! part M18 -/
set_option Elab.async false
set_option maxRecDepth 100000
set_option autoImplicit false
namespace Mine
open PySem PySem.Calls PySem.W PyProof.Rows Builtin
local macro_rules | `(tactic| walk_at "mem") => `(tactic| first | exact List.Mem.head _ | (refine List.Mem.tail _ ?_; (walk_at "mem")))
local macro_rules | `(tactic| walk_at "sub") => `(tactic| first | exact List.forall_mem_nil _ | (refine List.forall_mem_cons.mpr ⟨?_, ?_⟩; (walk_at "mem"); (walk_at "sub")))

section
variable {prog : Program} {w : World} {A : Around} {E : Value → Shared → Prop} {r s : Shared} {ps fs : Fs} {env : Env} {L cb ca : Addr} {k : Nat}

/-- a loop over an empty list -/
theorem for_none {x : Str} {px pos : Pos} {iter : PySem.Expr} {body : List Stmt} {a : Addr} {Q : Flow → Shared → Prop} (hA : A.handled = none) (D : On r s ps fs) (hm : (a, isL []) ∈ ps ++ fs)
    (hi : ∀ Q' : Value → Shared → Prop, Q' (.ref a) s → wpAny (model prog w) A (eval iter env) Q' E s) (h : ∀ s', On r s' ps fs → Q .next s')
    (hs : ∀ x, foldedSetIterable iter env x = pure x := by intro _; rfl) :
    wpAny (model prog w) A (exec (.For (.Name x px) iter body [] pos) env) Q E s := by
  refine wpAny_For (hi _ ?_) hs
  refine it_list D hm fun I s D => ?_
  refine for_loop (fun i ps' fs' => ps' = ps ∧ fs' = fs) (srcF_list (xs := []) hA) ?_ ?_ ?_ D ⟨rfl, rfl⟩ (fun _ => rfl)
  · rintro i ps' fs' ⟨rfl, rfl⟩; exact hm
  · intro i v s ps' fs' hv; simp at hv
  · rintro s ps' fs' ⟨rfl, rfl⟩ D
    exact wpAny_execs_nil (h s D)

theorem closure_abcs {sc : Scope} (H : EnvIs env scR L [("base", cb), ("abcs", ca)]) (hn : sc.names = [((".0" : Str), NameKind.local), (("base" : Str), NameKind.local), (("_c3_mro" : Str), NameKind.globalImplicit), (("abcs" : Str), NameKind.free)]) : closureFor sc env = pure [(("abcs" : Str), ca)] := by
  have e : cellOf env "abcs" = pure ca := by unfold cellOf; rw [H.cells]; rfl
  unfold closureFor
  rw [hn]
  show (do
    let cs ← forIn [((".0" : Str), NameKind.local), ("base", .local), ("_c3_mro", .globalImplicit), ("abcs", .free)] ([] : List (Str × Addr)) _
    pure cs) = _
  simp only [List.forIn_cons, List.forIn_nil, show (NameKind.local == NameKind.free) = false from rfl, show (NameKind.globalImplicit == NameKind.free) = false from rfl, show (NameKind.free == NameKind.free) = true from rfl, Bool.false_eq_true, if_false, if_true, e, pure_bind]

/-- a comprehension over an empty list, kept under a local name -/
theorem comp_none {elt iter : PySem.Expr} {x y : Str} {px py pos spos : Pos} {scope : Scope} {cells cl' : List (Str × Addr)} {sc : Scope} {l₀ l : List (Str × Value)} {a : Addr} {i : Nat} {Q : Flow → Shared → Prop} (hA : A.handled = none)
    (hsw : swapsWith (.ListComp elt [⟨.Name x px, iter, [], 0⟩] scope pos) (some (.Name y py)) spos.line env = pure true)
    (H : EnvIs env sc L cells) (hclos : closureFor scope env = pure cl') (hcell : ∀ y ∈ scope.names, y.2 ≠ .cell) (hkind : scope.kind = .function) (hnames : ∀ y ∈ scope.names, y.2 = .local → scope.names.lookup y.1 = some .local) (hx : scope.names.lookup x = some .local)
    (D : On r s ps fs) (hm : (a, isL []) ∈ ps ++ fs) (hL : fs[i]? = some (L, loc l))
    (hi : ∀ Q' : Value → Shared → Prop, Q' (.ref a) s → wpAny (model prog w) A (eval iter env) Q' E s)
    (hl : sc.names.lookup y = some .local) (hk : sc.kind = .function) (hsub : ∀ p ∈ l₀, p ∈ l) (hne : (l₀.all fun p => decide (p.1 ≠ y)) = true)
    (h : ∀ d s', On r s' ps ((d, isL []) :: fs.set i (L, loc ((y, .ref d) :: l₀))) → Q .next s')
    (hs : ∀ x, foldedSetIterable iter env x = pure x := by intro _; rfl) :
    wpAny (model prog w) A (exec (.Assign [.Name y py] (.ListComp elt [⟨.Name x px, iter, [], 0⟩] scope pos) spos) env) Q E s := by
  refine comp_assign (r := r) (cl := cl') hsw H hclos hcell hkind hnames hx ?_ hs
  refine hi _ ?_
  refine it_list D hm fun I s D => ?_
  refine ⟨I, isLI a, [], fun _ ps fs => (a, isL []) ∈ ps ++ fs, fun i ps' fs' acc => ps' = ps ∧ fs' = fs ∧ acc = [], ps, fs, rfl, src_list hA, ?_, by simp, ?_, D, ⟨rfl, rfl, rfl⟩, ?_⟩
  · rintro i ps' fs' acc ⟨rfl, rfl, rfl⟩; exact ⟨hm, Nat.zero_le _⟩
  · intro i v acc s ps' fs' cenv C D' _ hv; simp at hv
  · rintro acc s ps' fs' l' C D' ⟨rfl, rfl, rfl⟩ D
    refine st_keep l₀ H D (i := i + 2) (by simpa using hL) hl hk hsub hne fun s D => ?_
    exact ⟨ps', _, _, D, fun s D => h D' s D⟩

/-- the middle of _c3_mro: six statements -/
theorem mro_s1 (hA : A.handled = none) (hk : k < 15) (G : Gnd r.heap) (H : EnvIs env scR L [("base", cb), ("abcs", ca)]) {m : Addr} {vb : Option Value} {u : Tok} {Q : Flow → Shared → Prop} {rest : List Stmt}
    (D : On r s ps ((L, loc [("boundary", .int 0 u), ("cls", cl k)]) :: (cb, isC vb) :: (ca, isC (some (.ref m))) :: fs)) (hm : (m, isL []) ∈ ps ++ fs)
    (h : ∀ s' ps' vb' m' eb ab ob, (∀ p ∈ ps, p ∈ ps') → On r s' ps' ((L, loc [("other_bases", .ref ob), ("abstract_bases", .ref ab), ("explicit_bases", .ref eb), ("cls", cl k)]) :: (cb, isC vb') :: (ca, isC (some (.ref m'))) :: (m', isL []) :: (ob, isL ((up k).map cl)) :: (ab, isL []) :: (eb, isL []) :: fs) →
      wpAny (model prog w) A (execs rest env) Q E s') :
    wpAny (model prog w) A (execs (((bodyOf (stOf 4)).drop 1).take 6 ++ rest) env) Q E s := by
  have hlen : ((up k).map cl).length ≤ 1000 := by rw [List.length_map]; have := (way_len k hk).2.2.2.1; omega
  -- abcs = list(abcs) if abcs else []
  refine wpAny_execs_cons (wpAny_Assign_Name (wpAny_IfExp (wpAny_isTrue_value ?_)))
  refine ev_cell H D rfl (by walk_at "mem") rfl rfl ?_
  refine truth_list D (mem_app_cons (mem_app_cons (mem_app_cons hm))) (by simp) fun s D => ?_
  simp only [List.isEmpty_nil, Bool.not_true, Bool.false_eq_true, if_false]
  refine List_ (wpAny_items_nil ?_)
  refine new_list D (by decide) fun m' s D => ?_
  refine st_cell (i := 3) H D rfl rfl rfl rfl fun s D => ?_
  -- explicit_bases = list(cls.__bases__[:boundary])
  refine wpAny_execs_cons (wpAny_Assign_Name ?_)
  refine c1 (.inr ⟨_, rfl⟩) (fun Q' hq => ev_blt H D G.list rfl rfl hq) ?_
  refine Subscript_ (Attribute_Name_ (ev_local H D (by walk_at "mem") (by walk_at "mem") rfl rfl (attr_bases hk D fun t s ps1 hps ht D => ?_)))
  refine wpAny_Slice (wpAny_evalPart_none (wpAny_evalPart_some ?_))
  refine ev_local H D (by walk_at "mem") (by walk_at "mem") rfl rfl (wpAny_evalPart_none ?_)
  have hsl := Heap.IsSliceOf.new s.heap .none (.int 0 u) .none
  have hTs : ∃ o, (s.heap.push { cls := .type "slice", data := .fields #[.none, .int 0 u, .none] }).get? s.heap.objs.size = some o ∧ o.cls = .type "slice" := ⟨_, Heap.get?_push_size _ rfl, rfl⟩
  have D := D.with_heap (t := s.toks) (D.st.keeps (h' := s.heap.push { cls := .type "slice", data := .fields #[.none, .int 0 u, .none] }) fun b o e => Heap.get?_push_of_some _ e)
  refine tail_any (ops := [.ref s.heap.objs.size, .ref t]) (D.st.tup (mem_l ht)).typeIs slot_tuple_getitem.lookup ?_ (by with_unfolding_all rfl)
  have next : ∀ a s' fs', On r s' ps1 fs' → (a, isT []) ∈ ps1 ++ fs' → (∀ x s'', On r s'' ps1 ((x, isL []) :: fs') → wpAny (model prog w) A (storeName env "explicit_bases" (.ref x)) (fun _ s₁ => wpAny (model prog w) A (execs (((bodyOf (stOf 4)).drop 3).take 4 ++ rest) env) Q E s₁) E s'') →
      wpAny (model prog w) A (call (.type "list") [.ref a]) (fun v s'' => wpAny (model prog w) A (storeName env "explicit_bases" v) (fun _ s₁ => wpAny (model prog w) A (execs (((bodyOf (stOf 4)).drop 3).take 4 ++ rest) env) Q E s₁) E s'') E s' :=
    fun a s' fs' D' ha h' => list_of D' ha (by simp) h'
  have last : ∀ x s'', On r s'' ps1 ((x, isL []) :: (m', isL []) :: (L, loc [("boundary", .int 0 u), ("cls", cl k)]) :: (cb, isC vb) :: (ca, isC (some (.ref m'))) :: fs) → wpAny (model prog w) A (storeName env "explicit_bases" (.ref x)) (fun _ s₁ => wpAny (model prog w) A (execs (((bodyOf (stOf 4)).drop 3).take 4 ++ rest) env) Q E s₁) E s'' := by
    intro eb s D
    refine st_keep [("boundary", .int 0 u), ("cls", cl k)] (i := 2) H D rfl rfl rfl (by walk_at "sub") rfl fun s D => ?_
    -- abstract_bases = []
    refine wpAny_execs_cons (wpAny_Assign_Name (List_ (wpAny_items_nil ?_)))
    refine new_list D (by decide) fun ab s D => ?_
    refine st_keep [("explicit_bases", .ref eb), ("boundary", .int 0 u), ("cls", cl k)] (i := 3) H D rfl rfl rfl (by walk_at "sub") rfl fun s D => ?_
    -- other_bases = list(cls.__bases__[boundary:])
    refine wpAny_execs_cons (wpAny_Assign_Name ?_)
    refine c1 (.inr ⟨_, rfl⟩) (fun Q' hq => ev_blt H D G.list rfl rfl hq) ?_
    refine Subscript_ (Attribute_Name_ (ev_local H D (by walk_at "mem") (by walk_at "mem") rfl rfl (attr_bases hk D fun t s ps2 hps2 ht D => ?_)))
    refine wpAny_Slice (wpAny_evalPart_some ?_)
    refine ev_local H D (by walk_at "mem") (by walk_at "mem") rfl rfl (wpAny_evalPart_none (wpAny_evalPart_none ?_))
    have hsl := Heap.IsSliceOf.new s.heap (.int 0 u) .none .none
    have hTs : ∃ o, (s.heap.push { cls := .type "slice", data := .fields #[.int 0 u, .none, .none] }).get? s.heap.objs.size = some o ∧ o.cls = .type "slice" := ⟨_, Heap.get?_push_size _ rfl, rfl⟩
    have D := D.with_heap (t := s.toks) (D.st.keeps (h' := s.heap.push { cls := .type "slice", data := .fields #[.int 0 u, .none, .none] }) fun b o e => Heap.get?_push_of_some _ e)
    refine tail_any (ops := [.ref s.heap.objs.size, .ref t]) (D.st.tup (mem_l ht)).typeIs slot_tuple_getitem.lookup ?_ (by with_unfolding_all rfl)
    refine get_whole D (mem_l ht) hTs (fun A' E' Q' hq => sliceApplied_from (a := 0) hsl (Nat.zero_le _) (by simpa using hq)) ?_
    refine list_of D (mem_l ht) hlen fun ob s D => ?_
    refine st_keep [("abstract_bases", .ref ab), ("explicit_bases", .ref eb), ("cls", cl k)] (i := 4) H D rfl rfl rfl (by walk_at "sub") rfl fun s D => ?_
    -- the two loops over nothing
    refine wpAny_execs_cons ?_
    refine for_none hA D (mem_r (p := (m', isL [])) (by walk_at "mem")) (fun Q' hq => ev_cell H D rfl (by walk_at "mem") rfl rfl hq) fun s D => ?_
    refine wpAny_execs_cons ?_
    refine for_none hA D (mem_r (p := (ab, isL [])) (by walk_at "mem")) (fun Q' hq => ev_local H D (by walk_at "mem") (by walk_at "mem") rfl rfl hq) fun s D => ?_
    refine h s ps2 vb m' eb ab ob (fun p hp => hps2 p (hps p hp)) ?_
    exact (((D.bring 3 rfl).bring 6 rfl).bring 6 rfl).bring 6 rfl
  by_cases hx : (up k).map cl = []
  · refine get_whole D (mem_l ht) hTs (fun A' E' Q' hq => applied_to0 hsl (by rw [hx] at hq; simpa using hq)) ?_
    rw [hx] at ht
    exact next t _ _ D (mem_l ht) last
  · refine get_to0 D (mem_l ht) hsl hx fun a s D => ?_
    refine next a _ _ D (mem_r (.head _)) fun x s D => ?_
    exact last x s (D.rid 1)
end
end Mine
/-! part M19 -/
set_option Elab.async false
set_option maxRecDepth 100000
set_option autoImplicit false
namespace Mine
open PySem PySem.Calls PySem.W PyProof.Rows Builtin
local macro_rules | `(tactic| walk_at "mem") => `(tactic| first | exact List.Mem.head _ | (refine List.Mem.tail _ ?_; (walk_at "mem")))
local macro_rules | `(tactic| walk_at "sub") => `(tactic| first | exact List.forall_mem_nil _ | (refine List.forall_mem_cons.mpr ⟨?_, ?_⟩; (walk_at "mem"); (walk_at "sub")))

theorem seqE_append {as bs : List Addr} {xs ys : List (List Value)} (h : as.length = xs.length) : seqE (as ++ bs) (xs ++ ys) = seqE as xs ++ seqE bs ys := by
  unfold seqE; rw [List.zip_append h, List.map_append]
theorem seqE_one {a : Addr} {x : List Value} : seqE [a] [x] = [(a, isL x)] := rfl

/-- _c3_mro(cl k, abcs=[]) answers the way up -/
def MroOk (prog : Program) (w : World) (r : Shared) (k : Nat) : Prop :=
  ∀ {A : Around} {E : Value → Shared → Prop} {s : Shared} {ps fs : Fs} {m : Addr} {Q : Value → Shared → Prop}, AOk A (k + 2) → On r s ps fs → (m, isL []) ∈ ps ++ fs →
    (∀ R s' ps', (∀ p ∈ ps, p ∈ ps') → On r s' ps' ((R, isL ((way k).map cl)) :: fs) → Q (.ref R) s') → wpAny (model prog w) A (call (.ref 35) [cl k] [("abcs", .ref m)]) Q E s

def ws (l : List Nat) : List (List Value) := l.map fun j => (way j).map cl

section
variable {prog : Program} {w : World} {A : Around} {E : Value → Shared → Prop} {r s : Shared} {ps fs : Fs} {env : Env} {L cb ca : Addr} {k : Nat}

theorem mro_other (hA : AOk A (k + 1)) (hk : k < 15) (G : Gnd r.heap) (IH : ∀ j < k, MroOk prog w r j) (H : EnvIs env scR L [("base", cb), ("abcs", ca)]) {X : Fs} {m ob : Addr} {j : Nat} {l l₀ : List (Str × Value)} {Q : Flow → Shared → Prop}
    (D : On r s ps (X ++ fs)) (hca : (ca, isC (some (.ref m))) ∈ X) (hm : (m, isL []) ∈ X) (hob : (ob, isL ((up k).map cl)) ∈ X) (hL : X[j]? = some (L, loc l)) (hlob : ((("other_bases" : Str), Value.ref ob) : Str × Value) ∈ l)
    (hsub : ∀ p ∈ l₀, p ∈ l) (hne : (l₀.all fun p => decide (p.1 ≠ ("other_c3_mros" : Str))) = true)
    (h : ∀ s' ps' d as, as.length = (up k).length → (∀ p ∈ ps, p ∈ ps') → On r s' ps' ((d, isL (as.map .ref)) :: (X.set j (L, loc (("other_c3_mros", .ref d) :: l₀)) ++ (seqE as (ws (up k)) ++ fs))) → Q .next s') :
    wpAny (model prog w) A (exec (nth (bodyOf (stOf 4)) 9) env) Q E s := by
  have hjl : j < X.length := (List.getElem?_eq_some_iff.mp hL).1
  refine comp_assign (r := r) (cl := [("abcs", ca)]) (swaps_yes H rfl rfl rfl rfl) H (closure_abcs H rfl) (by decide) rfl (by decide) rfl ?_
  refine ev_local H D (List.mem_append_left _ (List.mem_of_getElem? hL)) hlob rfl rfl ?_
  refine it_list D (mem_r (List.mem_append_left _ hob)) fun I s D => ?_
  refine ⟨I, isLI ob, (up k).map cl, fun _ ps fs => (ob, isL ((up k).map cl)) ∈ ps ++ fs,
    fun i ps' fs' acc => (∀ p ∈ ps, p ∈ ps') ∧ ∃ as : List Addr, as.length = i ∧ i ≤ (up k).length ∧ acc = as.map .ref ∧ fs' = X ++ (seqE as (ws ((up k).take i)) ++ fs),
    ps, X ++ fs, rfl, src_list hA.handled, ?_, by rw [List.length_map]; have := (way_len k hk).2.2.2.1; omega, ?_, D, ⟨fun _ z => z, [], rfl, Nat.zero_le _, rfl, rfl⟩, ?_⟩
  · rintro i ps' fs' acc ⟨_, as, hlen, _, rfl, rfl⟩
    exact ⟨mem_r (List.mem_append_left _ hob), by rw [List.length_map, hlen]; exact Nat.le_refl _⟩
  · rintro i v acc s ps' fs' cenv C D' Hc hv ⟨hps, as, hlen, hi, rfl, rfl⟩ D
    rw [List.getElem?_map] at hv
    obtain ⟨b, hb, rfl⟩ := Option.map_eq_some_iff.mp hv
    have hil : i < (up k).length := (List.getElem?_eq_some_iff.mp hb).1
    have hbk : b < k := (way_len k hk).2.2.2.2 b (List.mem_of_getElem? hb)
    refine wpAny_tests_nil ?_
    simp only [if_true]
    obtain ⟨o, hfd, hdef⟩ := D.def G.f35
    refine fk (fun Q' hq => ev_glob Hc D G.mro (relabel_keep (by decide) rfl) rfl hq) hfd ?_
    refine ev_local Hc D (by walk_at "mem") (by walk_at "mem") (lookup_relabel_local rfl) rfl ?_
    refine ev_cell Hc D rfl (.tail _ (.tail _ (.tail _ (List.mem_append_left _ hca)))) (relabel_cell (by rw [H.scope]; rfl) (H.kind rfl) rfl) rfl ?_
    refine ⟨hdef D, IH b hbk (hA.less (by omega)) D (mem_r (.tail _ (.tail _ (.tail _ (List.mem_append_left _ hm))))) fun R s ps2 hps2 D => ?_⟩
    refine ⟨ps2, X ++ (seqE (as ++ [R]) (ws ((up k).take (i + 1))) ++ fs), [("base", cl b)], D.perm ?_, fun p hp => hps2 p (hps p hp), as ++ [R], by simp [hlen], hil, by simp, rfl⟩
    have e : ws ((up k).take (i + 1)) = ws ((up k).take i) ++ [(way b).map cl] := by
      unfold ws; rw [List.take_add_one, hb]; simp
    rw [e, seqE_append (by unfold ws; rw [List.length_map, List.length_take, hlen]; omega), seqE_one]
    have p1 : ((R, isL ((way b).map cl)) :: (X ++ (seqE as (ws ((up k).take i)) ++ fs))).Perm (X ++ (seqE as (ws ((up k).take i)) ++ [(R, isL ((way b).map cl))] ++ fs)) := by
      rw [← List.append_assoc, List.append_assoc _ [_] fs, ← List.append_assoc X]
      exact List.perm_middle.symm
    refine List.Perm.symm (List.Perm.trans ?_ ((List.Perm.cons _ (List.Perm.cons _ (List.Perm.cons _ p1)))))
    exact (List.perm_middle (l₁ := [_, _, _])).symm
  · rintro acc s ps' fs' l' C D' ⟨hps, as, hlen, hi, rfl, rfl⟩ D
    rw [List.length_map] at hlen
    rw [List.length_map, List.take_length] at D
    refine st_keep l₀ H D (i := j + 2) (by show (X ++ _)[j]? = _; rw [List.getElem?_append_left hjl]; exact hL) rfl rfl hsub hne fun s D => ?_
    refine ⟨ps', (D', isL (as.map Value.ref)) :: (X.set j (L, loc (("other_c3_mros", .ref D') :: l₀)) ++ (seqE as (ws (up k)) ++ fs)), l', ?_, fun s D => h s ps' D' as hlen hps D⟩
    have e : (X ++ (seqE as (ws (up k)) ++ fs)).set j (L, loc (("other_c3_mros", .ref D') :: l₀)) = X.set j (L, loc (("other_c3_mros", .ref D') :: l₀)) ++ (seqE as (ws (up k)) ++ fs) := List.set_append_left _ _ hjl
    rw [← e]
    exact D
end
end Mine
/-! part M20 -/
set_option Elab.async false
set_option maxRecDepth 100000
set_option autoImplicit false
namespace Mine
open PySem PySem.Calls PySem.W PyProof.Rows Builtin
local macro_rules | `(tactic| walk_at "mem") => `(tactic| first | exact List.Mem.head _ | (refine List.Mem.tail _ ?_; (walk_at "mem")))
local macro_rules | `(tactic| walk_at "sub") => `(tactic| first | exact List.forall_mem_nil _ | (refine List.forall_mem_cons.mpr ⟨?_, ?_⟩; (walk_at "mem"); (walk_at "sub")))

theorem lists_eq (k : Nat) : (lists k).map (fun l => l.map cl) = [[cl k]] ++ ws (up k) ++ [[], [], (up k).map cl] := by
  unfold lists ws; simp
theorem lists_ty (k : Nat) (hk : k < 15) : ∀ xs ∈ (lists k).map (fun l => l.map cl), ∀ x ∈ xs, Ty x := by
  have key : ∀ k, k < 15 → ∀ l ∈ lists k, ∀ j ∈ l, j < 15 := by decide +kernel
  intro xs hx x hxx
  obtain ⟨l, hl, rfl⟩ := List.mem_map.mp hx
  obtain ⟨j, hj, rfl⟩ := List.mem_map.mp hxx
  exact ⟨j, key k hk l hl j hj, rfl⟩
theorem lists_small (k : Nat) (hk : k < 15) : ((lists k).map (fun l => l.map cl)).length ≤ 1000 ∧ ∀ xs ∈ (lists k).map (fun l => l.map cl), xs.length ≤ 1000 := by
  have key : ∀ k, k < 15 → (lists k).length ≤ 10 ∧ ∀ l ∈ lists k, l.length ≤ 10 := by decide +kernel
  refine ⟨by rw [List.length_map]; have := (key k hk).1; omega, fun xs hx => ?_⟩
  obtain ⟨l, hl, rfl⟩ := List.mem_map.mp hx
  rw [List.length_map]; have := (key k hk).2 l hl; omega

section
variable {prog : Program} {w : World} {A : Around} {E : Value → Shared → Prop} {r s : Shared} {ps fs : Fs} {env : Env} {L cb ca : Addr} {k : Nat}

theorem mro_end (hA : AOk A (k + 1)) (hk : k < 15) (G : Gnd r.heap) (IH : ∀ j < k, MroOk prog w r j) (H : EnvIs env scR L [("base", cb), ("abcs", ca)]) {m ob ab eb : Addr} {vb : Option Value} {Q : Flow → Shared → Prop}
    (D : On r s ps ((L, loc [("other_bases", .ref ob), ("abstract_bases", .ref ab), ("explicit_bases", .ref eb), ("cls", cl k)]) :: (cb, isC vb) :: (ca, isC (some (.ref m))) :: (m, isL []) :: (ob, isL ((up k).map cl)) :: (ab, isL []) :: (eb, isL []) :: fs))
    (h : ∀ R s' ps', (∀ p ∈ ps, p ∈ ps') → On r s' ps' ((R, isL ((way k).map cl)) :: fs) → Q (.ret (.ref R)) s') :
    wpAny (model prog w) A (execs ((bodyOf (stOf 4)).drop 7) env) Q E s := by
  refine wpAny_execs_cons ?_
  refine comp_none (i := 0) (a := eb) (l₀ := [("other_bases", .ref ob), ("abstract_bases", .ref ab), ("explicit_bases", .ref eb), ("cls", cl k)]) hA.handled (swaps_yes H rfl rfl rfl rfl) H (closure_abcs H rfl) (by decide) rfl (by decide) rfl
    D (mem_r (by walk_at "mem")) rfl (fun Q' hq => ev_local H D (by walk_at "mem") (by walk_at "mem") rfl rfl hq) rfl rfl (by walk_at "sub") rfl fun d1 s D => ?_
  refine wpAny_execs_cons ?_
  refine comp_none (i := 1) (a := ab) (l₀ := [("explicit_c3_mros", .ref d1), ("other_bases", .ref ob), ("abstract_bases", .ref ab), ("explicit_bases", .ref eb), ("cls", cl k)]) hA.handled (swaps_yes H rfl rfl rfl rfl) H (closure_abcs H rfl) (by decide) rfl (by decide) rfl
    D (mem_r (by walk_at "mem")) rfl (fun Q' hq => ev_local H D (by walk_at "mem") (by walk_at "mem") rfl rfl hq) rfl rfl (by walk_at "sub") rfl fun d2 s D => ?_
  refine wpAny_execs_cons ?_
  refine mro_other hA hk G IH H (X := [(d2, isL []), (d1, isL []), (L, loc [("abstract_c3_mros", .ref d2), ("explicit_c3_mros", .ref d1), ("other_bases", .ref ob), ("abstract_bases", .ref ab), ("explicit_bases", .ref eb), ("cls", cl k)]), (cb, isC vb), (ca, isC (some (.ref m))), (m, isL []), (ob, isL ((up k).map cl)), (ab, isL []), (eb, isL [])])
    (l₀ := [("abstract_c3_mros", .ref d2), ("explicit_c3_mros", .ref d1), ("other_bases", .ref ob), ("abstract_bases", .ref ab), ("explicit_bases", .ref eb), ("cls", cl k)]) (j := 2) D (by walk_at "mem") (by walk_at "mem") (by walk_at "mem") rfl (by walk_at "mem") (by walk_at "sub") rfl fun s ps1 d as hlen hps D => ?_
  have hlen5 : as.length ≤ 2 := by rw [hlen]; exact (way_len k hk).2.2.2.1
  refine wpAny_execs_cons (wpAny_Return_some ?_)
  obtain ⟨o, hfd, hdef⟩ := D.def G.f29
  refine f1 (fun Q' hq => ev_glob H D G.merge rfl rfl hq) hfd ?_
  refine wpAny_BinOp ?_
  refine wpAny_BinOp ?_
  refine wpAny_BinOp ?_
  refine wpAny_BinOp ?_
  refine wpAny_BinOp ?_
  refine wpAny_BinOp ?_
  refine List_ ?_
  refine wpAny_items_cons ?_
  refine List_ ?_
  refine wpAny_items_cons ?_
  refine ev_local H D (by walk_at "mem") (by walk_at "mem") rfl rfl (wpAny_items_nil ?_)
  refine new_list D (by rw [sizeLine_eq]; simp) fun c0 s D => wpAny_items_nil ?_
  refine new_list D (by rw [sizeLine_eq]; simp) fun q0 s D => ?_
  refine ev_local H D (by walk_at "mem") (by walk_at "mem") rfl rfl ?_
  refine add_list D (mem_r (by walk_at "mem")) (mem_r (by walk_at "mem")) (by rw [sizeLine_eq]; simp) fun q1 s D => ?_
  refine ev_local H D (by walk_at "mem") (by walk_at "mem") rfl rfl ?_
  refine add_list D (mem_r (by walk_at "mem")) (mem_r (by walk_at "mem")) (by rw [sizeLine_eq]; simp) fun q2 s D => ?_
  refine ev_local H D (by walk_at "mem") (by walk_at "mem") rfl rfl ?_
  refine add_list D (mem_r (by walk_at "mem")) (mem_r (by walk_at "mem")) (by rw [sizeLine_eq]; simp; omega) fun q3 s D => ?_
  refine List_ ?_
  refine wpAny_items_cons ?_
  refine ev_local H D (by walk_at "mem") (by walk_at "mem") rfl rfl (wpAny_items_nil ?_)
  refine new_list D (by rw [sizeLine_eq]; simp) fun t1 s D => ?_
  refine add_list D (mem_r (by walk_at "mem")) (mem_r (by walk_at "mem")) (by rw [sizeLine_eq]; simp; omega) fun q4 s D => ?_
  refine List_ ?_
  refine wpAny_items_cons ?_
  refine ev_local H D (by walk_at "mem") (by walk_at "mem") rfl rfl (wpAny_items_nil ?_)
  refine new_list D (by rw [sizeLine_eq]; simp) fun t2 s D => ?_
  refine add_list D (mem_r (by walk_at "mem")) (mem_r (by walk_at "mem")) (by rw [sizeLine_eq]; simp; omega) fun q5 s D => ?_
  refine List_ ?_
  refine wpAny_items_cons ?_
  refine ev_local H D (by walk_at "mem") (by walk_at "mem") rfl rfl (wpAny_items_nil ?_)
  refine new_list D (by rw [sizeLine_eq]; simp) fun t3 s D => ?_
  refine add_list D (mem_r (by walk_at "mem")) (mem_r (by walk_at "mem")) (by rw [sizeLine_eq]; simp; omega) fun q6 s D => ?_
  refine ⟨hdef D, ?_⟩
  have D := (((((D.bring 18 rfl).bring 19 rfl).bring 20 rfl).bring 13 rfl).bring 4 rfl)
  have D : On r s ps1 ((q6, isL (((((([Value.ref c0] ++ []) ++ []) ++ as.map .ref) ++ [.ref eb]) ++ [.ref ab]) ++ [.ref ob])) :: (c0, isL [cl k]) :: (eb, isL []) :: (ab, isL []) :: (ob, isL ((up k).map cl)) :: (seqE as (ws (up k)) ++ fs)) := D.sub (.cons_cons _ (.cons_cons _ (.cons_cons _ (.cons_cons _ (.cons_cons _ (.cons _ (.cons _ (.cons _ (.cons _ (.cons _ (.cons _ (.cons _ (.cons _ (.cons _ (.cons _ (.cons _ (.cons _ (.cons _ (.cons _ (.cons _ (.cons _ (.refl _))))))))))))))))))))))
  have hl2 : as.length = (ws (up k)).length := by unfold ws; rw [List.length_map, hlen]
  have D : On r s ps1 ((q6, isL (([c0] ++ as ++ [eb, ab, ob]).map .ref)) :: (seqE ([c0] ++ as ++ [eb, ab, ob]) ((lists k).map (fun l => l.map cl)) ++ fs)) := by
    have e1 : ((((([Value.ref c0] ++ []) ++ []) ++ as.map .ref) ++ [.ref eb]) ++ [.ref ab]) ++ [.ref ob] = ([c0] ++ as ++ [eb, ab, ob]).map .ref := by simp
    rw [← e1]
    refine D.perm (List.Perm.cons _ ?_)
    rw [lists_eq, seqE_append (by simp [hl2]), seqE_append (by rfl)]
    show ([(c0, isL [cl k])] ++ seqE as (ws (up k)) ++ [(eb, isL []), (ab, isL []), (ob, isL ((up k).map cl))] ++ fs).Perm ((c0, isL [cl k]) :: ([(eb, isL []), (ab, isL []), (ob, isL ((up k).map cl))] ++ (seqE as (ws (up k)) ++ fs)))
    rw [List.append_assoc, List.append_assoc]
    refine List.Perm.cons _ ?_
    rw [← List.append_assoc, ← List.append_assoc]
    exact (List.perm_append_comm).append_right fs
  refine c3_merge (n := 8) (hA.less (by omega : 0 + 1 ≤ k + 1)) G.f29 D (by rw [lists_eq]; simp [hl2]) (lists_ty k hk) (lists_small k hk) (merge_way k hk) (by decide) fun R s D => ?_
  exact h R s ps1 hps D

theorem mro_ok (G : Gnd r.heap) : ∀ k, k < 15 → MroOk prog w r k := by
  intro k
  induction k using Nat.strongRecOn with
  | ind k IH =>
  intro hk A E s ps fs m Q hA D hm h
  obtain ⟨mod, c, hfn, hcd⟩ := G.f35.at D.st.base
  obtain ⟨o30, n30, hS30, hd30⟩ := G.d30
  have hS := D.st.base.keep _ _ hS30 (by decide) (by decide)
  refine call_fnK (binds := [("cls", cl k), ("abcs", .ref m)]) (cs := fun n => [("base", n + 1), ("abcs", n)]) (l := [("cls", cl k)]) (cm := fun y => if y = "abcs" then some (.ref m) else none)
    D hA.room hfn hcd rfl (BindsTo.of_defaults rfl hS hd30 rfl rfl) rfl rfl rfl (fun n => rfl) (fun n => by show List.Nodup [("base" : Str), "abcs"]; decide) ?_ ?_ ?_ (fun env L s H _ _ _ D => ?_) rfl rfl rfl
  · intro n x hx
    rcases List.mem_cons.mp hx with rfl | hx
    · exact .inl rfl
    · rw [List.mem_singleton.mp hx]; exact .inr ⟨rfl, rfl⟩
  · intro p hp; rw [List.mem_singleton.mp hp]; rfl
  · rfl
  · generalize hcb : L + 1 + 1 = cb at *
    generalize hca : L + 1 = ca at *
    have hA' := (hA : AOk A (k + 1 + 1)).deeper env
    have e : bodyOf (stOf 4) = nth (bodyOf (stOf 4)) 0 :: (((bodyOf (stOf 4)).drop 1).take 6 ++ (bodyOf (stOf 4)).drop 7) := rfl
    have go : ∀ Q' : Flow → Shared → Prop, (∀ R s' ps', (∀ p ∈ ps, p ∈ ps') → On r s' ps' ((R, isL ((way k).map cl)) :: fs) → Q' (.ret (.ref R)) s') → wpAny (model prog w) (A.deeper env) (execs (bodyOf (stOf 4)) env) Q' (fun _ _ => False) s := by
      intro Q' h'
      rw [e]
      refine wpAny_execs_cons (mro_s0 hA'.handled hk G H D fun s ps1 vb u h1 D => ?_)
      refine mro_s1 hA'.handled hk G H D ((List.mem_append.mp hm).elim (fun q => List.mem_append_left _ (h1 _ q)) (List.mem_append_right _)) fun s ps2 vb' m' eb ab ob h2 D => ?_
      exact mro_end hA' hk G (fun j hj => IH j hj (Nat.lt_trans hj hk)) H D fun R s ps3 h3 D => h' R s ps3 (fun p hp => h3 p (h2 p (h1 p hp))) D
    exact go _ fun R s ps' hps D => h R s ps' hps D
end
end Mine
/-! part M21 -/
set_option Elab.async false
set_option maxRecDepth 100000
set_option autoImplicit false
namespace Mine
open PySem PySem.SetTable

/-! ## tables of a set, in plain Lean -/
abbrev Ent := Nat × Int × Value
def placeOf (L : List Ent) : Array Nat := (L.map (·.1)).toArray
def entsOf (L : List Ent) : Array (Int × Value) := (L.map (·.2)).toArray
def Sorted (xs : List Nat) : Prop := xs.Pairwise (· < ·)

theorem below_go (xs : Array Nat) (j : Nat) (hs : ∀ a b, a < b → b < xs.size → xs.getD a 0 < xs.getD b 0) : ∀ (fuel lo hi : Nat), hi - lo ≤ fuel → lo ≤ hi → hi ≤ xs.size → (∀ i, i < lo → xs.getD i 0 < j) → (∀ i, hi ≤ i → i < xs.size → j ≤ xs.getD i 0) →
    (∀ i, i < below.go xs j fuel lo hi → xs.getD i 0 < j) ∧ (∀ i, below.go xs j fuel lo hi ≤ i → i < xs.size → j ≤ xs.getD i 0) ∧ below.go xs j fuel lo hi ≤ xs.size
  | 0, lo, hi, hf, hlh, hsz, h1, h2 => by
    have : lo = hi := by omega
    subst this
    exact ⟨h1, h2, hsz⟩
  | fuel + 1, lo, hi, hf, hlh, hsz, h1, h2 => by
    unfold below.go
    by_cases hlt : lo < hi
    · simp only [hlt, if_true]
      have hmid : (lo + hi) / 2 < hi := by omega
      have hmid2 : lo ≤ (lo + hi) / 2 := by omega
      have hg : xs.getD ((lo + hi) / 2) j = xs.getD ((lo + hi) / 2) 0 := by
        have : (lo + hi) / 2 < xs.size := by omega
        simp only [Array.getD, this, dif_pos]
      rw [hg]
      by_cases hm : xs.getD ((lo + hi) / 2) 0 < j
      · rw [if_pos hm]
        refine below_go xs j hs fuel _ _ (by omega) (by omega) hsz (fun i hi' => ?_) h2
        rcases Nat.lt_or_eq_of_le (Nat.le_of_lt_succ hi') with h | h
        · exact Nat.lt_trans (hs i _ h (by omega)) hm
        · subst h; exact hm
      · rw [if_neg hm]
        refine below_go xs j hs fuel _ _ (by omega) hmid2 (by omega) h1 (fun i hi' his => ?_)
        rcases Nat.lt_or_eq_of_le hi' with h | h
        · exact Nat.le_trans (Nat.le_of_not_lt hm) (Nat.le_of_lt (hs _ i h his))
        · subst h; exact Nat.le_of_not_lt hm
    · simp only [hlt, if_false]
      have : lo = hi := by omega
      subst this
      exact ⟨h1, h2, hsz⟩

theorem sorted_getD {l : List Nat} (hs : Sorted l) : ∀ a b, a < b → b < l.toArray.size → l.toArray.getD a 0 < l.toArray.getD b 0 := by
  intro a b hab hb
  rw [List.size_toArray] at hb
  have := List.pairwise_iff_getElem.mp hs a b (by omega) hb hab
  simp only [Array.getD, List.size_toArray, hb, dif_pos, show a < l.length by omega]
  simpa using this

/-- the place of a slot number among the occupied -/
theorem below_spec {l : List Nat} (hs : Sorted l) (j : Nat) : (∀ (i : Nat) (x : Nat), i < below l.toArray j → l[i]? = some x → x < j) ∧ (∀ (i : Nat) (x : Nat), below l.toArray j ≤ i → l[i]? = some x → j ≤ x) ∧ below l.toArray j ≤ l.length := by
  have := below_go l.toArray j (sorted_getD hs) l.toArray.size 0 l.toArray.size (by omega) (Nat.zero_le _) (Nat.le_refl _) (fun i hi => absurd hi (Nat.not_lt_zero i)) (fun i h1 h2 => absurd h1 (Nat.not_le.mpr h2))
  have gd : ∀ i x, l[i]? = some x → l.toArray.getD i 0 = x := fun i x h => by
    obtain ⟨hl, e⟩ := List.getElem?_eq_some_iff.mp h
    simp only [Array.getD, List.size_toArray, hl, dif_pos]
    simpa using e
  exact ⟨fun i x h1 h2 => gd i x h2 ▸ this.1 i h1, fun i x h1 h2 => gd i x h2 ▸ this.2.1 i h1 (by rw [List.size_toArray]; exact (List.getElem?_eq_some_iff.mp h2).1), this.2.2⟩

theorem below_of_mem {l : List Nat} (hs : Sorted l) {j : Nat} {i : Nat} (h : l[i]? = some j) : below l.toArray j = i := by
  obtain ⟨h1, h2, h3⟩ := below_spec hs j
  rcases Nat.lt_trichotomy (below l.toArray j) i with hc | hc | hc
  · obtain ⟨hl, e⟩ := List.getElem?_eq_some_iff.mp h
    have hb : below l.toArray j < l.length := by omega
    have e2 : l[below l.toArray j]? = some l[below l.toArray j] := List.getElem?_eq_getElem hb
    have ge := h2 _ _ (Nat.le_refl _) e2
    have lt := List.pairwise_iff_getElem.mp hs _ _ hb hl hc
    rw [e] at lt
    omega
  · exact hc
  · exact absurd (h1 i j hc h) (Nat.lt_irrefl _)

structure TabOk (t : SetTable) (es : Array (Int × Value)) (L : List Ent) : Prop where
  place : t.place = placeOf L
  ents : es = entsOf L
  dum : t.dummies = #[]
  sorted : Sorted (L.map (·.1))

theorem has_none (j : Nat) : has #[] j = false := by
  unfold has; simp
theorem slot_live {t : SetTable} {es : Array (Int × Value)} {L : List Ent} (T : TabOk t es L) {i j : Nat} {e : Int × Value} (h : L[i]? = some (j, e)) : t.slot j = .live i ∧ es[i]? = some e := by
  have hm : (L.map (·.1))[i]? = some j := by rw [List.getElem?_map, h]; rfl
  refine ⟨?_, by rw [T.ents]; unfold entsOf; simp [h]⟩
  unfold SetTable.slot
  rw [T.place]
  unfold placeOf
  rw [below_of_mem T.sorted hm]
  simp only [List.getElem?_toArray, hm]
  simp
theorem slot_empty {t : SetTable} {es : Array (Int × Value)} {L : List Ent} (T : TabOk t es L) {j : Nat} (h : j ∉ L.map (·.1)) : t.slot j = .empty := by
  unfold SetTable.slot
  rw [T.place, T.dum, has_none]
  have : ((placeOf L)[below (placeOf L) j]? == some j) = false := by
    rw [beq_eq_false_iff_ne]
    intro e
    unfold placeOf at e
    simp only [List.getElem?_toArray] at e
    exact h (List.mem_of_getElem? e)
  simp only [this]
  rfl

/-! ## the path of a probe -/
def it (t : SetTable) : Nat → Probe → Probe
  | 0, p => p
  | n + 1, p => it t n (t.advance p)
theorem it_add (t : SetTable) : ∀ (m n : Nat) (p : Probe), it t (m + n) p = it t n (it t m p)
  | 0, n, p => by rw [Nat.zero_add]; rfl
  | m + 1, n, p => by rw [Nat.succ_add]; exact it_add t m n (t.advance p)
theorem it_succ (t : SetTable) (n : Nat) (p : Probe) : it t (n + 1) p = t.advance (it t n p) := it_add t n 1 p
theorem advance_mask {t t' : SetTable} (h : t.mask = t'.mask) (p : Probe) : t.advance p = t'.advance p := by unfold SetTable.advance; rw [h]
theorem it_mask {t t' : SetTable} (h : t.mask = t'.mask) : ∀ (n : Nat) (p : Probe), it t n p = it t' n p
  | 0, _ => rfl
  | n + 1, p => by show it t n (t.advance p) = it t' n (t'.advance p); rw [advance_mask h, it_mask h n]
theorem start_mask {t t' : SetTable} (h : t.mask = t'.mask) (x : Int) : t.probeStart x = t'.probeStart x := by unfold SetTable.probeStart; rw [h]

def Wf (p : Probe) : Prop := p.more ≤ 9 ∧ p.perturb < 2 ^ 64
theorem runEnd_le (m i : Nat) : runEnd m i - i ≤ 9 := by unfold runEnd; split <;> omega
theorem wf_start (t : SetTable) (h : Int) : Wf (t.probeStart h) := by
  refine ⟨runEnd_le _ _, ?_⟩
  show bits h < 2 ^ 64
  unfold bits
  omega
theorem wf_adv {t : SetTable} {p : Probe} (h : Wf p) : Wf (t.advance p) := by
  unfold SetTable.advance
  split
  · exact ⟨by show p.more - 1 ≤ 9; have := h.1; omega, h.2⟩
  · refine ⟨runEnd_le _ _, ?_⟩
    show p.perturb / 32 < 2 ^ 64
    have := h.2; omega
theorem wf_it {t : SetTable} : ∀ (n : Nat) {p : Probe}, Wf p → Wf (it t n p)
  | 0, _, h => h
  | n + 1, _, h => wf_it n (wf_adv h)
theorem dummy_adv {t : SetTable} {p : Probe} : (t.advance p).dummy = p.dummy := by unfold SetTable.advance; split <;> rfl
theorem dummy_it {t : SetTable} : ∀ (n : Nat) {p : Probe}, (it t n p).dummy = p.dummy
  | 0, _ => rfl
  | n + 1, p => by show (it t n (t.advance p)).dummy = _; rw [dummy_it n, dummy_adv]

/-- the next leap comes within ten steps -/
theorem leap_soon (t : SetTable) : ∀ (k : Nat) (p : Probe), p.more = k → it t (k + 1) p = { j := (leap t.mask p.i p.perturb).1, more := runEnd t.mask (leap t.mask p.i p.perturb).1 - (leap t.mask p.i p.perturb).1, i := (leap t.mask p.i p.perturb).1, perturb := p.perturb / 32, dummy := p.dummy }
  | 0, p, h => by
    show t.advance p = _
    unfold SetTable.advance
    rw [if_neg (by omega)]
    rfl
  | k + 1, p, h => by
    show it t (k + 1) (t.advance p) = _
    have e : t.advance p = { p with j := p.j + 1, more := p.more - 1 } := by unfold SetTable.advance; rw [if_pos (by omega)]
    rw [leap_soon t k (t.advance p) (by rw [e]; show p.more - 1 = k; omega), e]

/-- the leaps alone -/
def lp (m : Nat) : Nat → Nat → Nat → Nat
  | 0, i, _ => i
  | n + 1, i, q => lp m n ((i * 5 + 1 + q / 32) % (m + 1)) (q / 32)
theorem lp_reached (t : SetTable) : ∀ (n : Nat) (p : Probe), Wf p → 1 ≤ n → ∃ s, s ≤ 10 * n ∧ (it t s p).j = lp t.mask n p.i p.perturb
  | 0, _, _, h => absurd h (by omega)
  | n + 1, p, hw, _ => by
    have e := leap_soon t p.more p rfl
    by_cases hn : n = 0
    · subst hn
      refine ⟨p.more + 1, by have := hw.1; omega, ?_⟩
      rw [e]; rfl
    · obtain ⟨s, hs, hj⟩ := lp_reached t n (it t (p.more + 1) p) (wf_it _ hw) (by omega)
      refine ⟨p.more + 1 + s, by have := hw.1; omega, ?_⟩
      rw [it_add, hj, e]
      rfl
theorem lp_add (m : Nat) : ∀ (a b i q : Nat), lp m (a + b) i q = lp m b (lp m a i q) (q / 32 ^ a)
  | 0, b, i, q => by simp [lp]
  | a + 1, b, i, q => by
    rw [Nat.succ_add]
    show lp m (a + b) _ _ = lp m b (lp m a _ _) _
    rw [lp_add m a b, Nat.div_div_eq_div_mul, Nat.pow_succ, Nat.mul_comm (32 ^ a) 32]
theorem lp_le (m : Nat) : ∀ (n i q : Nat), 1 ≤ n → lp m n i q ≤ m
  | 0, _, _, h => absurd h (by omega)
  | n + 1, i, q, _ => by
    by_cases hn : n = 0
    · subst hn
      show (i * 5 + 1 + q / 32) % (m + 1) ≤ m
      exact Nat.le_of_lt_succ (Nat.mod_lt _ (Nat.succ_pos m))
    · exact lp_le m n _ _ (by omega)
theorem lp_7 : ∀ i, i < 8 → ∀ j, j < 8 → ∃ n, n < 8 ∧ lp 7 n i 0 = j := by decide +kernel
theorem lp_31 : ∀ i, i < 32 → ∀ j, j < 32 → ∃ n, n < 32 ∧ lp 31 n i 0 = j := by decide +kernel

/-- every slot is met -/
theorem cover {t : SetTable} (hm : t.mask = 7 ∨ t.mask = 31) {p : Probe} (hw : Wf p) {j : Nat} (hj : j ≤ t.mask) : ∃ n, n < 10 * turns t.mask ∧ (it t n p).j = j := by
  have h0 : p.perturb / 32 ^ 13 = 0 := Nat.div_eq_of_lt (Nat.lt_of_lt_of_le hw.2 (by decide))
  have key : ∃ n, n < t.mask + 1 ∧ lp t.mask (13 + n) p.i p.perturb = j := by
    have hi := lp_le t.mask 13 p.i p.perturb (by omega)
    rcases hm with e | e
    · rw [e] at hi hj ⊢
      obtain ⟨n, hn, h⟩ := lp_7 (lp 7 13 p.i p.perturb) (by omega) j (by omega)
      exact ⟨n, hn, by rw [lp_add, h0]; exact h⟩
    · rw [e] at hi hj ⊢
      obtain ⟨n, hn, h⟩ := lp_31 (lp 31 13 p.i p.perturb) (by omega) j (by omega)
      exact ⟨n, hn, by rw [lp_add, h0]; exact h⟩
  obtain ⟨n, hn, h⟩ := key
  obtain ⟨s, hs, hj'⟩ := lp_reached t (13 + n) p hw (by omega)
  refine ⟨s, ?_, by rw [hj', h]⟩
  unfold turns
  omega

theorem pigeon : ∀ (n : Nat) (l : List Nat), (∀ j, j < n → j ∈ l) → n ≤ l.length
  | 0, _, _ => Nat.zero_le _
  | n + 1, l, h => by
    have := pigeon n (l.erase n) fun j hj => (List.mem_erase_of_ne (by omega)).mpr (h j (by omega))
    rw [List.length_erase_of_mem (h n (by omega))] at this
    have : 0 < l.length := List.length_pos_of_mem (h n (by omega))
    omega
theorem vacant {l : List Nat} {m : Nat} (h : l.length ≤ m) : ∃ j, j ≤ m ∧ j ∉ l := by
  apply Classical.byContradiction
  intro hn
  have := pigeon (m + 1) l fun j hj => Classical.byContradiction fun hc => hn ⟨j, by omega, hc⟩
  omega

/-- the first vacant slot of a path -/
theorem first_vacant {t : SetTable} (hm : t.mask = 7 ∨ t.mask = 31) {l : List Nat} (hl : l.length ≤ t.mask) {p : Probe} (hw : Wf p) :
    ∃ N, N < 10 * turns t.mask ∧ (it t N p).j ∉ l ∧ ∀ m, m < N → (it t m p).j ∈ l := by
  obtain ⟨j, hj, hjl⟩ := vacant hl
  obtain ⟨n, hn, e⟩ := cover hm hw hj
  have hex : ∃ n, (it t n p).j ∉ l := ⟨n, by rw [e]; exact hjl⟩
  have : ∀ n, (it t n p).j ∉ l → ∃ N, N ≤ n ∧ (it t N p).j ∉ l ∧ ∀ m, m < N → (it t m p).j ∈ l := by
    intro n
    induction n using Nat.strongRecOn with
    | ind n ih =>
      intro hn
      by_cases h : ∃ m, m < n ∧ (it t m p).j ∉ l
      · obtain ⟨m, hm, hml⟩ := h
        obtain ⟨N, h1, h2, h3⟩ := ih m hm hml
        exact ⟨N, by omega, h2, h3⟩
      · exact ⟨n, Nat.le_refl _, hn, fun m hm => Classical.byContradiction fun hc => h ⟨m, hm, hc⟩⟩
  obtain ⟨N, h1, h2, h3⟩ := this n (by rw [e]; exact hjl)
  exact ⟨N, by omega, h2, h3⟩
end Mine
/-! part M22 -/
set_option Elab.async false
set_option maxRecDepth 100000
set_option autoImplicit false
namespace Mine
open PySem PySem.SetTable

def slots (L : List Ent) : List Nat := L.map (·.1)

theorem go_spec {t : SetTable} {es : Array (Int × Value)} {L : List Ent} (T : TabOk t es L) (hashAt : Nat → Int) (h : Int) : ∀ (N fuel : Nat) (p : Probe), N < fuel → p.dummy = none → (it t N p).j ∉ slots L → (∀ m, m < N → (it t m p).j ∈ slots L) →
    (probe.go t hashAt h fuel p = some (.empty (it t N p).j none) ∧ ∀ m, m < N → ∀ i e, L[i]? = some ((it t m p).j, e) → (hashAt i == h) = false) ∨
    ∃ m i e, m < N ∧ L[i]? = some ((it t m p).j, e) ∧ (hashAt i == h) = true ∧ probe.go t hashAt h fuel p = some (.candidate (it t m p).j i (it t (m + 1) p)) ∧ ∀ m', m' < m → ∀ i e, L[i]? = some ((it t m' p).j, e) → (hashAt i == h) = false
  | 0, 0, _, hf, _, _, _ => absurd hf (by omega)
  | 0, fuel + 1, p, _, hd, hN, _ => by
    left
    refine ⟨?_, fun m hm => absurd hm (by omega)⟩
    show probe.go t hashAt h (fuel + 1) p = _
    unfold probe.go
    have : t.slot p.j = .empty := slot_empty T hN
    rw [this]
    show some (Met.empty p.j p.dummy) = _
    rw [hd]; rfl
  | N + 1, 0, _, hf, _, _, _ => absurd hf (by omega)
  | N + 1, fuel + 1, p, hf, hd, hN, hm => by
    have h0 : p.j ∈ slots L := hm 0 (by omega)
    obtain ⟨i, hi⟩ := List.getElem?_of_mem h0
    unfold slots at hi
    rw [List.getElem?_map] at hi
    obtain ⟨⟨j0, e⟩, hi, hje⟩ := Option.map_eq_some_iff.mp hi
    simp only at hje
    subst hje
    obtain ⟨hs, he⟩ := slot_live T hi
    have huniq : ∀ i' e', L[i']? = some (p.j, e') → i' = i := fun i' e' h' => by
      have h1 : (L.map (·.1))[i']? = some p.j := by rw [List.getElem?_map, h']; rfl
      have h2 : (L.map (·.1))[i]? = some p.j := by rw [List.getElem?_map, hi]; rfl
      have := below_of_mem T.sorted h1
      rw [below_of_mem T.sorted h2] at this; exact this.symm
    have hgo : probe.go t hashAt h (fuel + 1) p = if hashAt i == h then some (.candidate p.j i (t.advance p)) else probe.go t hashAt h fuel (t.advance p) := by
      conv => lhs; unfold probe.go
      rw [hs]
    by_cases hh : (hashAt i == h) = true
    · right
      refine ⟨0, i, e, by omega, hi, hh, ?_, fun m' hm' => absurd hm' (by omega)⟩
      rw [hgo, if_pos hh]; rfl
    · have hh' : (hashAt i == h) = false := by simpa using hh
      rw [hgo, if_neg hh]
      rcases go_spec T hashAt h N fuel (t.advance p) (by omega) (dummy_adv.trans hd) hN (fun m hm' => hm (m + 1) (by omega)) with ⟨h1, h2⟩ | ⟨m, i2, e2, h1, h2, h3, h4, h5⟩
      · left
        refine ⟨h1, fun m hm' i' e' hL => ?_⟩
        cases m with
        | zero => rw [huniq i' e' hL]; exact hh'
        | succ m => exact h2 m (by omega) i' e' hL
      · right
        refine ⟨m + 1, i2, e2, by omega, h2, h3, h4, fun m' hm' i' e' hL => ?_⟩
        cases m' with
        | zero => rw [huniq i' e' hL]; exact hh'
        | succ m' => exact h5 m' (by omega) i' e' hL

/-- every entry lies on the path of its hash -/
def PathOk (t : SetTable) (L : List Ent) : Prop := ∀ e ∈ L, ∃ n, (it t n (t.probeStart e.2.1)).j = e.1 ∧ ∀ m, m < n → (it t m (t.probeStart e.2.1)).j ∈ slots L

theorem path_meets {t : SetTable} {L : List Ent} (P : PathOk t L) {e : Ent} (he : e ∈ L) {N : Nat} (hN : (it t N (t.probeStart e.2.1)).j ∉ slots L) : ∃ m, m < N ∧ (it t m (t.probeStart e.2.1)).j = e.1 := by
  obtain ⟨n, h1, h2⟩ := P e he
  refine ⟨n, ?_, h1⟩
  rcases Nat.lt_or_ge n N with h | h
  · exact h
  · exfalso
    rcases Nat.lt_or_eq_of_le h with h | h
    · exact hN (h2 N h)
    · subst h; exact hN (by rw [h1]; exact List.mem_map.mpr ⟨e, he, rfl⟩)

def putL (L : List Ent) (j : Nat) (e : Int × Value) : List Ent := L.take (below (placeOf L) j) ++ (j, e) :: L.drop (below (placeOf L) j)
theorem mem_putL {L : List Ent} {j : Nat} {e : Int × Value} {x : Ent} : x ∈ putL L j e ↔ x = (j, e) ∨ x ∈ L := by
  unfold putL
  rw [List.mem_append, List.mem_cons]
  constructor
  · rintro (h | h | h)
    · exact .inr (List.mem_of_mem_take h)
    · exact .inl h
    · exact .inr (List.mem_of_mem_drop h)
  · rintro (h | h)
    · exact .inr (.inl h)
    · rw [← List.take_append_drop (below (placeOf L) j) L, List.mem_append] at h
      rcases h with h | h
      · exact .inl h
      · exact .inr (.inr h)
theorem len_putL {L : List Ent} {j : Nat} {e : Int × Value} : (putL L j e).length = L.length + 1 := by
  unfold putL
  rw [List.length_append, List.length_cons, List.length_take, List.length_drop]; omega
theorem insertAt_list {α : Type} (l : List α) (p : Nat) (x : α) (hp : p ≤ l.length) : insertAt l.toArray p x = (l.take p ++ x :: l.drop p).toArray := by
  unfold insertAt
  apply Array.ext'
  simp
  rw [List.take_of_length_le (by rw [List.length_drop]; omega)]

theorem put_ok' {t : SetTable} {es : Array (Int × Value)} {L : List Ent} (T : TabOk t es L) {j : Nat} (hj : j ∉ slots L) (e : Int × Value) :
    TabOk (t.put j).1 (insertAt es (t.put j).2 e) (putL L j e) := by
  have hb : below (placeOf L) j ≤ (L.map (·.1)).length := (below_spec T.sorted j).2.2
  rw [List.length_map] at hb
  have hp : (t.put j).2 = below (placeOf L) j := by unfold SetTable.put; rw [T.place]
  refine ⟨?_, ?_, ?_, ?_⟩
  · show (t.put j).1.place = _
    unfold SetTable.put
    show insertAt t.place (below t.place j) j = _
    rw [T.place]
    unfold placeOf at hb ⊢
    rw [insertAt_list _ _ _ (by rw [List.length_map]; exact hb)]
    unfold putL placeOf
    rw [List.map_append, List.map_cons, List.map_take, List.map_drop]
  · rw [hp, T.ents]
    unfold entsOf
    rw [insertAt_list _ _ _ (by rw [List.length_map]; exact hb)]
    unfold putL
    rw [List.map_append, List.map_cons, List.map_take, List.map_drop]
  · unfold SetTable.put
    rw [T.dum, has_none]
    rfl
  · unfold Sorted putL
    rw [List.map_append, List.map_cons, List.map_take, List.map_drop, List.pairwise_append, List.pairwise_cons]
    obtain ⟨s1, s2, s3⟩ := below_spec T.sorted j
    have lt1 : ∀ a ∈ (L.map (·.1)).take (below (placeOf L) j), a < j := fun a ha => by
      obtain ⟨i, hi⟩ := List.getElem?_of_mem ha
      rw [List.getElem?_take] at hi
      split at hi
      · exact s1 i a (by assumption) hi
      · cases hi
    have lt2 : ∀ a ∈ (L.map (·.1)).drop (below (placeOf L) j), j < a := fun a ha => by
      obtain ⟨i, hi⟩ := List.getElem?_of_mem ha
      rw [List.getElem?_drop] at hi
      rcases Nat.lt_or_eq_of_le (s2 _ a (Nat.le_add_right _ _) hi) with h | h
      · exact h
      · exact absurd (List.mem_of_getElem? hi) (by rw [← h]; exact hj)
    refine ⟨T.sorted.sublist (List.take_sublist _ _), ⟨lt2, T.sorted.sublist (List.drop_sublist _ _)⟩, fun a ha b hb => ?_⟩
    rcases List.mem_cons.mp hb with rfl | hb
    · exact lt1 a ha
    · exact Nat.lt_trans (lt1 a ha) (lt2 b hb)

theorem put_path {t : SetTable} {L : List Ent} (P : PathOk t L) {N : Nat} {h : Int} {x : Value} (h2 : ∀ m, m < N → (it t m (t.probeStart h)).j ∈ slots L) {t' : SetTable} (ht : t'.mask = t.mask) :
    PathOk t' (putL L (it t N (t.probeStart h)).j (h, x)) := by
  have hsub : ∀ j, j ∈ slots L → j ∈ slots (putL L (it t N (t.probeStart h)).j (h, x)) := fun j hj => by
    obtain ⟨e, he, rfl⟩ := List.mem_map.mp hj
    exact List.mem_map.mpr ⟨e, mem_putL.mpr (.inr he), rfl⟩
  intro e he
  rcases mem_putL.mp he with rfl | he
  · refine ⟨N, ?_, fun m hm => ?_⟩
    · show (it t' N (t'.probeStart h)).j = _
      rw [start_mask ht, it_mask ht]
    · show (it t' m (t'.probeStart h)).j ∈ _
      rw [start_mask ht, it_mask ht]; exact hsub _ (h2 m hm)
  · obtain ⟨n, a, b⟩ := P e he
    refine ⟨n, ?_, fun m hm => ?_⟩
    · rw [start_mask ht, it_mask ht]; exact a
    · rw [start_mask ht, it_mask ht]; exact hsub _ (b m hm)

/-! ## the new table of five -/
def st0 (m i q : Nat) : Probe := { j := i, more := runEnd m i - i, i := i, perturb := q, dummy := none }
theorem it_run (t : SetTable) (i q : Nat) : ∀ (k : Nat) (p : Probe), k ≤ p.more → (it t k p).j = p.j + k
  | 0, p, _ => rfl
  | k + 1, p, hk => by
    show (it t k (t.advance p)).j = _
    have e : t.advance p = { p with j := p.j + 1, more := p.more - 1 } := by unfold SetTable.advance; rw [if_pos (by omega)]
    rw [it_run t i q k _ (by rw [e]; show k ≤ p.more - 1; omega), e]
    show p.j + 1 + k = _
    omega

theorem free_spec {t : SetTable} (owner : Array (Option Nat)) : ∀ (fuel i q : Nat), (∃ n, n < fuel ∧ owner.getD (lp t.mask n i q) (some 0) = none) →
    ∃ N, layClean.free t.mask owner fuel i q = some (it t N (st0 t.mask i q)).j ∧ owner.getD (it t N (st0 t.mask i q)).j (some 0) = none ∧ ∀ m, m < N → owner.getD (it t m (st0 t.mask i q)).j (some 0) ≠ none
  | 0, _, _, h => absurd h (fun ⟨n, hn, _⟩ => absurd hn (by omega))
  | fuel + 1, i, q, h => by
    unfold layClean.free
    cases hf : (List.range (runEnd t.mask i + 1 - i)).find? fun k => (owner.getD (i + k) (some 0)).isNone with
    | some k =>
      obtain ⟨hk, as, bs, hab, hall⟩ := List.find?_eq_some_iff_append.mp hf
      have hkm : k ∈ List.range (runEnd t.mask i + 1 - i) := by rw [hab]; simp
      have hkr : k < runEnd t.mask i + 1 - i := List.mem_range.mp hkm
      have hie : i ≤ runEnd t.mask i := by unfold runEnd; split <;> omega
      have run : ∀ m, m ≤ k → (it t m (st0 t.mask i q)).j = i + m := fun m hm => it_run t i q m _ (by show m ≤ runEnd t.mask i - i; omega)
      refine ⟨k, by rw [run k (Nat.le_refl _)], ?_, fun m hm => ?_⟩
      · rw [run k (Nat.le_refl _)]; simpa [Option.isNone_iff_eq_none] using hk
      · rw [run m (Nat.le_of_lt hm)]
        have hma : m ∈ as := by
          have hl : as.length = k := by
            have h1 : (List.range (runEnd t.mask i + 1 - i))[as.length]? = some k := by rw [hab]; simp
            rw [List.getElem?_range (by have := congrArg List.length hab; simp at this; omega)] at h1
            exact Option.some.inj h1
          have h2 : (List.range (runEnd t.mask i + 1 - i))[m]? = as[m]? := by rw [hab, List.getElem?_append_left (by omega)]
          rw [List.getElem?_range (by omega)] at h2
          exact List.mem_of_getElem? h2.symm
        have := hall m hma
        intro e
        rw [e] at this
        simp at this
    | none =>
      have hall := List.find?_eq_none.mp hf
      have hie : i ≤ runEnd t.mask i := by unfold runEnd; split <;> omega
      have occ : ∀ m, m ≤ runEnd t.mask i - i → owner.getD (i + m) (some 0) ≠ none := fun m hm e => by
        have := hall m (List.mem_range.mpr (by omega))
        rw [e] at this; simp at this
      obtain ⟨n, hn, he⟩ := h
      cases n with
      | zero => exact absurd he (by have := occ 0 (Nat.zero_le _); simpa [lp] using this)
      | succ n =>
        obtain ⟨N, h1, h2, h3⟩ := free_spec owner fuel ((i * 5 + 1 + q / 32) % (t.mask + 1)) (q / 32) ⟨n, by omega, he⟩
        have hl : it t ((runEnd t.mask i - i) + 1) (st0 t.mask i q) = st0 t.mask ((i * 5 + 1 + q / 32) % (t.mask + 1)) (q / 32) := leap_soon t _ _ rfl
        refine ⟨(runEnd t.mask i - i) + 1 + N, ?_, ?_, fun m hm => ?_⟩
        · rw [it_add, hl]; exact h1
        · rw [it_add, hl]; exact h2
        · rcases Nat.lt_or_ge m ((runEnd t.mask i - i) + 1) with hc | hc
          · rw [it_run t i q m _ (by show m ≤ runEnd t.mask i - i; omega)]
            exact occ m (by omega)
          · obtain ⟨m', rfl⟩ : ∃ m', m = (runEnd t.mask i - i) + 1 + m' := ⟨m - ((runEnd t.mask i - i) + 1), by omega⟩
            rw [it_add, hl]
            exact h3 m' (by omega)
end Mine
/-! part M23 -/
set_option Elab.async false
set_option maxRecDepth 100000
set_option autoImplicit false
namespace Mine
open PySem PySem.SetTable

theorem lp_cover {m : Nat} (hm : m = 7 ∨ m = 31) {i q : Nat} (hq : q < 2 ^ 64) {j : Nat} (hj : j ≤ m) : ∃ n, n < m + 1 ∧ lp m (13 + n) i q = j := by
  have h0 : q / 32 ^ 13 = 0 := Nat.div_eq_of_lt (Nat.lt_of_lt_of_le hq (by decide))
  have hi := lp_le m 13 i q (by omega)
  rcases hm with e | e
  · subst e
    obtain ⟨n, hn, h⟩ := lp_7 (lp 7 13 i q) (by omega) j (by omega)
    exact ⟨n, hn, by rw [lp_add, h0]; exact h⟩
  · subst e
    obtain ⟨n, hn, h⟩ := lp_31 (lp 31 13 i q) (by omega) j (by omega)
    exact ⟨n, hn, by rw [lp_add, h0]; exact h⟩

theorem runEnd_bound {m i : Nat} (h : i ≤ m) : i + (runEnd m i - i) ≤ m := by unfold runEnd; split <;> omega
theorem bound_adv {t : SetTable} {p : Probe} (h : p.j + p.more ≤ t.mask) : (t.advance p).j + (t.advance p).more ≤ t.mask := by
  unfold SetTable.advance
  split
  · show p.j + 1 + (p.more - 1) ≤ t.mask; omega
  · exact runEnd_bound (Nat.le_of_lt_succ (Nat.mod_lt _ (Nat.succ_pos t.mask)))
theorem bound_it {t : SetTable} : ∀ (n : Nat) {p : Probe}, p.j + p.more ≤ t.mask → (it t n p).j + (it t n p).more ≤ t.mask
  | 0, _, h => h
  | n + 1, _, h => bound_it n (bound_adv h)
theorem bound_start (t : SetTable) (h : Int) : (t.probeStart h).j + (t.probeStart h).more ≤ t.mask :=
  runEnd_bound (Nat.le_of_lt_succ (Nat.mod_lt _ (Nat.succ_pos t.mask)))
theorem path_le (t : SetTable) (h : Int) (n : Nat) : (it t n (t.probeStart h)).j ≤ t.mask := Nat.le_trans (Nat.le_add_right _ _) (bound_it n (bound_start t h))

structure OwnOk (t : SetTable) (hs : List Int) (J : List Nat) (owner : Array (Option Nat)) : Prop where
  size : owner.size = t.mask + 1
  len : J.length = hs.length
  nd : J.Nodup
  le : ∀ j ∈ J, j ≤ t.mask
  own : ∀ (j a : Nat), j ≤ t.mask → (owner.getD j (some 0) = some a ↔ J[a]? = some j)
  path : ∀ (a : Nat) (h : Int), hs[a]? = some h → ∃ j N, J[a]? = some j ∧ (it t N (t.probeStart h)).j = j ∧ ∀ m, m < N → (it t m (t.probeStart h)).j ∈ J
theorem OwnOk.vac {t : SetTable} {hs : List Int} {J : List Nat} {owner : Array (Option Nat)} (x : OwnOk t hs J owner) {j : Nat} (hj : j ≤ t.mask) : owner.getD j (some 0) = none ↔ j ∉ J := by
  constructor
  · intro h hm
    obtain ⟨a, ha⟩ := List.getElem?_of_mem hm
    rw [(x.own j a hj).mpr ha] at h
    cases h
  · intro h
    cases e : owner.getD j (some 0) with
    | none => rfl
    | some a => exact absurd (List.mem_of_getElem? ((x.own j a hj).mp e)) h

theorem lay_one {t : SetTable} (hm : t.mask = 31) {hs : List Int} {J : List Nat} {owner : Array (Option Nat)} (x : OwnOk t hs J owner) (hl : J.length ≤ 31) (h : Int) :
    ∃ j, layClean.free t.mask owner (turns t.mask) (bits h % (t.mask + 1)) (bits h) = some j ∧ OwnOk t (hs ++ [h]) (J ++ [j]) (owner.setIfInBounds j (some hs.length)) := by
  have hq : bits h < 2 ^ 64 := (wf_start t h).2
  obtain ⟨j0, hj0, hj0J⟩ := vacant (l := J) (m := t.mask) (by omega)
  obtain ⟨n, hn, hlp⟩ := lp_cover (.inr hm) (i := bits h % (t.mask + 1)) hq hj0
  obtain ⟨N, h1, h2, h3⟩ := free_spec (t := t) owner (turns t.mask) (bits h % (t.mask + 1)) (bits h) ⟨13 + n, by unfold turns; omega, by rw [hlp]; exact (x.vac hj0).mpr hj0J⟩
  have hst : st0 t.mask (bits h % (t.mask + 1)) (bits h) = t.probeStart h := rfl
  rw [hst] at h1 h2 h3
  have hjm : (it t N (t.probeStart h)).j ≤ t.mask := path_le t h N
  have hjJ : (it t N (t.probeStart h)).j ∉ J := (x.vac hjm).mp h2
  refine ⟨_, h1, ?_, ?_, ?_, ?_, ?_, ?_⟩
  · rw [Array.size_setIfInBounds]; exact x.size
  · simp [x.len]
  · rw [List.nodup_append]
    exact ⟨x.nd, by simp, fun a ha b hb e => by rw [List.mem_singleton.mp hb] at e; exact hjJ (e ▸ ha)⟩
  · intro j hj
    rcases List.mem_append.mp hj with hj | hj
    · exact x.le j hj
    · rw [List.mem_singleton.mp hj]; exact hjm
  · intro j a hj
    have hjs : j < owner.size := by rw [x.size]; omega
    have hjs' : (it t N (t.probeStart h)).j < owner.size := by rw [x.size]; omega
    by_cases e : (it t N (t.probeStart h)).j = j
    · have g : (owner.setIfInBounds (it t N (t.probeStart h)).j (some hs.length)).getD j (some 0) = some hs.length := by
        simp only [Array.getD, Array.size_setIfInBounds, hjs, dif_pos]
        rw [show ((owner.setIfInBounds (it t N (t.probeStart h)).j (some hs.length)).getInternal j (by rw [Array.size_setIfInBounds]; exact hjs)) = (owner.setIfInBounds (it t N (t.probeStart h)).j (some hs.length))[j]'(by rw [Array.size_setIfInBounds]; exact hjs) from rfl]
        rw [Array.getElem_setIfInBounds]
        · rw [if_pos e]
        · exact hjs
      rw [g]
      constructor
      · intro h'
        have : hs.length = a := Option.some.inj h'
        rw [← this, ← x.len, List.getElem?_append_right (Nat.le_refl _), Nat.sub_self, e]; rfl
      · intro h'
        rcases Nat.lt_or_ge a J.length with hc | hc
        · rw [List.getElem?_append_left hc] at h'
          exact absurd (List.mem_of_getElem? h') (by rw [← e]; exact hjJ)
        · rw [List.getElem?_append_right hc] at h'
          have : a - J.length = 0 := by
            have := (List.getElem?_eq_some_iff.mp h').1
            simp at this; omega
          have : a = hs.length := by rw [← x.len]; omega
          rw [this]
    · have g : (owner.setIfInBounds (it t N (t.probeStart h)).j (some hs.length)).getD j (some 0) = owner.getD j (some 0) := by
        simp only [Array.getD, Array.size_setIfInBounds, hjs, dif_pos]
        rw [show ((owner.setIfInBounds (it t N (t.probeStart h)).j (some hs.length)).getInternal j (by rw [Array.size_setIfInBounds]; exact hjs)) = (owner.setIfInBounds (it t N (t.probeStart h)).j (some hs.length))[j]'(by rw [Array.size_setIfInBounds]; exact hjs) from rfl]
        rw [Array.getElem_setIfInBounds]
        · rw [if_neg e]; rfl
      rw [g, x.own j a hj]
      rcases Nat.lt_or_ge a J.length with hc | hc
      · rw [List.getElem?_append_left hc]
      · rw [List.getElem?_append_right hc, List.getElem?_eq_none hc]
        constructor
        · intro h'; cases h'
        · intro h'
          have := List.mem_singleton.mp (List.mem_of_getElem? h')
          exact absurd this.symm e
  · intro a h' ha
    rcases Nat.lt_or_ge a hs.length with hc | hc
    · rw [List.getElem?_append_left hc] at ha
      obtain ⟨j, N', e1, e2, e3⟩ := x.path a h' ha
      exact ⟨j, N', by rw [List.getElem?_append_left (by rw [x.len]; exact hc)]; exact e1, e2, fun m hm => List.mem_append_left _ (e3 m hm)⟩
    · rw [List.getElem?_append_right hc] at ha
      have h0 : a - hs.length = 0 := by
        have := (List.getElem?_eq_some_iff.mp ha).1
        simp at this; omega
      rw [h0] at ha
      have : h = h' := Option.some.inj ha
      subst this
      refine ⟨_, N, ?_, rfl, fun m hm => List.mem_append_left _ (Classical.byContradiction fun hc => h3 m hm ((x.vac (path_le t h m)).mpr hc))⟩
      rw [List.getElem?_append_right (by rw [x.len]; exact hc), x.len, h0]; rfl

theorem lay_all {t : SetTable} (hm : t.mask = 31) : ∀ (rest hs : List Int) (J : List Nat) (owner : Array (Option Nat)), OwnOk t hs J owner → hs.length + rest.length ≤ 31 →
    ∃ owner' J', rest.foldl (fun (acc : Option (Array (Option Nat) × Nat)) h => do
      let (owner, k) ← acc
      let j ← layClean.free t.mask owner (turns t.mask) (bits h % (t.mask + 1)) (bits h)
      pure (owner.setIfInBounds j (some k), k + 1)) (some (owner, hs.length)) = some (owner', (hs ++ rest).length) ∧ OwnOk t (hs ++ rest) J' owner'
  | [], hs, J, owner, x, _ => ⟨owner, J, by simp, by simpa using x⟩
  | h :: rest, hs, J, owner, x, hl => by
    simp only [List.length_cons] at hl
    obtain ⟨j, e, x'⟩ := lay_one hm x (by rw [x.len]; omega) h
    obtain ⟨owner', J', e2, x2⟩ := lay_all hm rest (hs ++ [h]) (J ++ [j]) _ x' (by simp; omega)
    refine ⟨owner', J', ?_, by simpa using x2⟩
    rw [List.foldl_cons]
    simp only [e, Option.bind_eq_bind, Option.bind_some, Option.pure_def]
    have : (hs ++ [h]).length = hs.length + 1 := by simp
    rw [this] at e2
    simp only [Option.bind_eq_bind, Option.pure_def] at e2
    rw [e2]
    simp

/-- the five are laid anew -/
theorem relaid_ok {t : SetTable} {E : List (Int × Value)} (hE : E.length ≤ 31) (hE5 : 16 ≤ SetTable.grown E.length ∧ SetTable.grown E.length < 32) :
    ∃ t' order L', t.relaid (E.toArray.map (·.1)) (SetTable.grown E.length) = some (t', order) ∧ t'.mask = 31 ∧ t'.led = t.led ∧ TabOk t' (order.filterMap (E.toArray[·]?)) L' ∧ PathOk t' L' ∧ L'.length = E.length ∧ (∀ e, (∃ j, (j, e) ∈ L') ↔ e ∈ E) := by
  have hsz : SetTable.sizeAbove (SetTable.grown E.length) - 1 = 31 := by
    have : ∀ n, n < 32 → 16 ≤ n → SetTable.sizeAbove n = 32 := by decide +kernel
    rw [this _ hE5.2 hE5.1]
  generalize hT : (⟨31, #[], #[], t.finger, t.led, t.movedTo 31, t.plain⟩ : SetTable) = T
  have hTm : T.mask = 31 := by rw [← hT]
  have x0 : OwnOk T [] [] (Array.replicate (T.mask + 1) none) := by
    refine ⟨by simp, rfl, List.nodup_nil, fun j hj => (List.not_mem_nil hj).elim, fun j a hj => ?_, fun a h ha => by simp at ha⟩
    constructor
    · intro h
      have : j < (Array.replicate (T.mask + 1) (none : Option Nat)).size := by simp; omega
      simp only [Array.getD, this, dif_pos] at h
      simp [Array.getInternal] at h
    · intro h; simp at h
  obtain ⟨owner, J, hfold, x⟩ := lay_all hTm (E.map (·.1)) [] [] _ x0 (by simpa using hE)
  rw [List.nil_append] at hfold x
  have hlay : SetTable.layClean 31 (E.toArray.map (·.1)) = some owner := by
    unfold SetTable.layClean
    rw [hTm] at hfold
    have e : (E.toArray.map (·.1)) = (E.map (·.1)).toArray := by simp
    rw [e, List.foldl_toArray]
    simp only [List.length_nil] at hfold
    rw [hfold]; rfl
  have hlen : J.length = E.length := by rw [x.len]; simp
  let live : List (Nat × Nat) := (List.range (31 + 1)).filterMap fun j => (owner.getD j none).map (j, ·)
  have mlive : ∀ j a, (j, a) ∈ live ↔ J[a]? = some j := by
    intro j a
    have gd : ∀ j, j ≤ 31 → owner.getD j none = owner.getD j (some 0) := fun j hj => by
      have : j < owner.size := by rw [x.size, hTm]; omega
      simp only [Array.getD, this, dif_pos]
    rw [List.mem_filterMap]
    constructor
    · rintro ⟨j', hj', e⟩
      have hj' : j' ≤ 31 := Nat.le_of_lt_succ (List.mem_range.mp hj')
      obtain ⟨a', ha', e2⟩ := Option.map_eq_some_iff.mp e
      cases e2
      rw [gd _ hj'] at ha'
      exact (x.own _ _ (by rw [hTm]; exact hj')).mp ha'
    · intro h
      have hj : j ≤ T.mask := x.le j (List.mem_of_getElem? h)
      refine ⟨j, List.mem_range.mpr (by rw [hTm] at hj; omega), ?_⟩
      rw [gd _ (by rw [hTm] at hj; exact hj), (x.own j a hj).mpr h]; rfl
  have hal : ∀ p ∈ live, p.2 < E.length := fun p hp => by
    have := (mlive p.1 p.2).mp hp
    rw [← hlen]; exact (List.getElem?_eq_some_iff.mp this).1
  have hsorted : (live.map (·.1)).Pairwise (· < ·) := by
    rw [List.pairwise_map]
    refine List.Pairwise.filterMap (R := fun a b => a < b) _ ?_ List.pairwise_lt_range
    intro a a' haa b hb b' hb'
    obtain ⟨_, _, e⟩ := Option.map_eq_some_iff.mp hb
    obtain ⟨_, _, e'⟩ := Option.map_eq_some_iff.mp hb'
    rw [← e, ← e']; exact haa
  have hnd : (live.map (·.1)).Nodup := hsorted.imp fun h => Nat.ne_of_lt h
  have hmJ : ∀ j, j ∈ live.map (·.1) ↔ j ∈ J := by
    intro j
    rw [List.mem_map]
    constructor
    · rintro ⟨⟨j', a⟩, hp, rfl⟩; exact List.mem_of_getElem? ((mlive _ _).mp hp)
    · intro h
      obtain ⟨a, ha⟩ := List.getElem?_of_mem h
      exact ⟨(j, a), (mlive _ _).mpr ha, rfl⟩
  have hllen : live.length = E.length := by
    have := ((List.perm_ext_iff_of_nodup hnd x.nd).mpr hmJ).length_eq
    rw [List.length_map] at this
    rw [this, hlen]
  refine ⟨⟨31, (live.map (·.1)).toArray, #[], t.finger, t.led, t.movedTo 31, t.plain⟩, (live.map (·.2)).toArray, live.map fun p => (p.1, E.getD p.2 default), ?_, rfl, rfl, ?_, ?_, by rw [List.length_map, hllen], ?_⟩
  · unfold SetTable.relaid
    rw [hsz]
    unfold SetTable.laid
    rw [hlay]
    rfl
  · refine ⟨?_, ?_, rfl, ?_⟩
    · unfold placeOf; rw [List.map_map]; rfl
    · unfold entsOf
      rw [List.map_map]
      have : ∀ l : List (Nat × Nat), (∀ p ∈ l, p.2 < E.length) → (l.map (·.2)).filterMap (fun a => E.toArray[a]?) = l.map fun p => E.getD p.2 default := by
        intro l
        induction l with
        | nil => intro _; rfl
        | cons p l ih =>
          intro h
          have hp := h p (.head _)
          rw [List.map_cons, List.filterMap_cons, ih fun q hq => h q (.tail _ hq)]
          simp [hp]
      have := this live hal
      rw [List.filterMap_toArray, this]
      rfl
    · rw [List.map_map]; exact hsorted
  · intro e he
    obtain ⟨p, hp, rfl⟩ := List.mem_map.mp he
    have hJa := (mlive p.1 p.2).mp hp
    have hpl := hal p hp
    have hgE : E.getD p.2 default = E[p.2] := by simp [hpl]
    obtain ⟨j, N, e1, e2, e3⟩ := x.path p.2 (E[p.2]).1 (by rw [List.getElem?_map]; simp [hpl])
    rw [hJa] at e1
    cases e1
    have hm2 : (⟨31, (live.map (·.1)).toArray, #[], t.finger, t.led, t.movedTo 31, t.plain⟩ : SetTable).mask = T.mask := by rw [hTm]
    refine ⟨N, ?_, fun m hm => ?_⟩
    · rw [it_mask hm2, start_mask hm2]
      show (it T N (T.probeStart (E.getD p.2 default).1)).j = p.1
      rw [hgE]; exact e2
    · rw [it_mask hm2, start_mask hm2]
      show (it T m (T.probeStart (E.getD p.2 default).1)).j ∈ _
      rw [hgE]
      have := (hmJ _).mpr (e3 m hm)
      unfold slots
      rw [List.map_map]
      exact this
  · intro e
    constructor
    · rintro ⟨j, h⟩
      obtain ⟨p, hp, e2⟩ := List.mem_map.mp h
      have hpl := hal p hp
      have : E.getD p.2 default = E[p.2] := by simp [hpl]
      rw [this] at e2
      cases e2
      exact List.getElem_mem _
    · intro he
      obtain ⟨a, ha⟩ := List.getElem?_of_mem he
      have hal' : a < E.length := (List.getElem?_eq_some_iff.mp ha).1
      have : a < J.length := by rw [hlen]; exact hal'
      refine ⟨J[a], List.mem_map.mpr ⟨(J[a], a), (mlive _ _).mpr (by simp [this]), ?_⟩⟩
      show (J[a], E.getD a default) = (J[a], e)
      rw [← (List.getElem?_eq_some_iff.mp ha).2]
      simp [hal']
end Mine
/-! part M24 -/
set_option Elab.async false
set_option maxRecDepth 100000
set_option autoImplicit false
namespace Mine
open PySem PySem.Calls PySem.W PyProof.Rows Builtin

/-! ## keys: the classes, ints, None -/
inductive Key where
  | ty (n : Nat)
  | int (i : Int)
  | non
  deriving DecidableEq

def Key.is : Key → Value → Bool
  | .ty n, v => decide (n < 15) && v == cl n
  | .int i, .int j _ => i == j
  | .int _, _ => false
  | .non, v => v == Value.none

theorem Key.is_ty {n : Nat} {v : Value} (h : (Key.ty n).is v = true) : n < 15 ∧ v = cl n := by
  simp only [Key.is, Bool.and_eq_true, decide_eq_true_eq, beq_iff_eq] at h; exact h
theorem Key.is_int {i : Int} {v : Value} (h : (Key.int i).is v = true) : ∃ t, v = .int i t := by
  cases v <;> simp [Key.is] at h
  subst h; exact ⟨_, rfl⟩
theorem Key.is_non {v : Value} (h : Key.non.is v = true) : v = .none := by
  simpa [Key.is] using h

def tyHash (w : World) (n : Nat) : Int :=
  reduceHash (let y : Nat := ((w.params.idOfImm (cl n)) % (2 ^ 64 : Int)).toNat
    let r : Nat := (y / 16 + (y % 16) * 2 ^ 60) % 2 ^ 64
    let h : Int := if r < 2 ^ 63 then (r : Int) else (r : Int) - 2 ^ 64
    if h == -1 then -2 else h)
def Key.hash (w : World) : Key → Int
  | .ty n => tyHash w n
  | .int i => hashInt i
  | .non => reduceHash 0xFCA86420

namespace MF
theorem slot_ty_hash : Slot "type" "__hash__" "object.__hash__" :=
  .of (owner := "object") (n := "__hash__") (by rw [typeLookup_type, builtinLookup_eq_fast]; kernel_rfl) (by decide +kernel) (by decide +kernel) (by decide +kernel)
    (by first | exact .inl (by decide +kernel) | exact .inr (by decide +kernel)) (by rw [isSubtype_type]; kernel_rfl)
theorem sub_int_type : isSubtype (.type "int") (.type "type") = pure false := by rw [isSubtype_type]; kernel_rfl
theorem sub_type_int : isSubtype (.type "type") (.type "int") = pure false := by rw [isSubtype_type]; kernel_rfl
theorem sub_none_type : isSubtype (.type "NoneType") (.type "type") = pure false := by rw [isSubtype_type]; kernel_rfl
theorem sub_type_none : isSubtype (.type "type") (.type "NoneType") = pure false := by rw [isSubtype_type]; kernel_rfl
end MF

section
variable {prog : Program} {w : World} {A : Around} {E : Value → Shared → Prop} {s : Shared}

theorem hash_ty {n : Nat} (hn : n < 15) {Q : Int → Shared → Prop} (h : Q (tyHash w n) { s with toks := s.toks + 1 }) : wpAny (model prog w) A (pyHash (cl n)) Q E s := by
  show wpAny _ _ (pyHashByItsType (cl n)) Q E s
  refine pyHash_slot (T := "type") (Ty.is ⟨n, hn, rfl⟩ s) MF.slot_ty_hash F.entry_object_hash (F.args_object_hash_1 _) (beq_builtin_none _) (.inl rfl) ?_
  unfold Builtin.«object.__hash__»
  refine wpAny_bind (wpAny_of_eq (a := (cl n, [])) rfl ?_)
  dsimp only
  refine wpAny_bind (m := idOf (cl n)) ?_
  unfold idOf
  refine wpAny_bind (wpAny_askSetting (wpAny_pure ?_))
  exact wpAny_bind (wpAny_mkInt (wpAny_pure ⟨_, _, rfl, h⟩))
theorem hash_non {Q : Int → Shared → Prop} (h : Q (reduceHash 0xFCA86420) { s with toks := s.toks + 1 }) : wpAny (model prog w) A (pyHash .none) Q E s := by
  show wpAny _ _ (pyHashByItsType .none) Q E s
  exact pyHash_slot (T := "NoneType") rfl F.slot_NoneType_hash F.entry_NoneType_hash (F.args_NoneType_hash_1 _) (beq_builtin_none _) (.inl rfl) (wpAny_bind (wpAny_pure (wpAny_bind (wpAny_mkInt (wpAny_pure ⟨_, _, rfl, h⟩)))))

theorem eqB {a b : Value} {Q : Bool → Shared → Prop} (hab : (a == b) = false) (hf : ∀ x y, (a, b) ≠ (.float x y, b)) (h : wpAny (model prog w) A (richCompare .Eq a b) (fun v s' => ∃ k, v = .bool k ∧ Q k s') E s) : wpAny (model prog w) A (eqBool a b) Q E s := by
  unfold eqBool
  refine wpAny_holding ?_
  rw [hab]
  simp only [Bool.false_eq_true, if_false]
  have hfl : ∀ x t, a ≠ .float x t := fun x t e => hf x t (by rw [e])
  have tail : wpAny (model prog w) A (richCompare .Eq a b >>= fun r => truthOfDropped r) Q E s := by
    refine wpAny_bind (wpAny_mono h (fun v s' hv => ?_) fun _ _ z => z)
    obtain ⟨k, rfl, hq⟩ := hv
    exact wpAny_truthy_bool hq
  cases a <;> first | exact tail | exact absurd rfl (hfl _ _)


theorem int_eq_ty (i : Int) (t : Tok) (n : String) : Gives (Builtin.«int.__eq__» ⟨[.int i t, .type n], []⟩) (.val (Value.notImplemented)) :=
  .of_wp fun M A E s Q h => by obtain ⟨hp, g, d, tk, os⟩ := s; wp_walk; exact ⟨_, rfl, h⟩
theorem non_eq_ty (n : String) : Gives (Builtin.«NoneType.__eq__» ⟨[.none, .type n], []⟩) (.val (Value.notImplemented)) :=
  .of_wp fun M A E s Q h => by obtain ⟨hp, g, d, tk, os⟩ := s; wp_walk; exact ⟨_, rfl, h⟩

theorem rc_ty_int {n : Nat} (hn : n < 15) {i : Int} {t : Tok} {Q : Value → Shared → Prop} (h : Q (.bool false) s) : wpAny (model prog w) A (richCompare .Eq (cl n) (.int i t)) Q E s :=
  EqNone.wpAny_richCompare_eq_decline (Ta := "type") (Tb := "int") (k := false) (fun s => Ty.is ⟨n, hn, rfl⟩ s) (fun _ => rfl) (by decide) MF.sub_int_type TypeEq.slot_type_eq F.slot_int_eq_refl (by rw [isSame_plain rfl]; rfl)
    (call_gives TypeEq.slot_type_eq (Ty.is ⟨n, hn, rfl⟩ s) F.entry_object_eq (F.args_object_eq_2 _ _) (TypeEq.object_eq_other rfl rfl) ⟨rfl, call_gives F.slot_int_eq_refl rfl F.entry_int_eq (F.args_int_eq_2 _ _) (int_eq_ty i t _) ⟨rfl, h⟩⟩)
theorem rc_int_ty {n : Nat} (hn : n < 15) {i : Int} {t : Tok} {Q : Value → Shared → Prop} (h : Q (.bool false) s) : wpAny (model prog w) A (richCompare .Eq (.int i t) (cl n)) Q E s :=
  EqNone.wpAny_richCompare_eq_decline (Ta := "int") (Tb := "type") (k := false) (fun _ => rfl) (fun s => Ty.is ⟨n, hn, rfl⟩ s) (by decide) MF.sub_type_int F.slot_int_eq TypeEq.slot_type_eq_refl (by rw [isSame_plain rfl]; rfl)
    (call_gives F.slot_int_eq rfl F.entry_int_eq (F.args_int_eq_2 _ _) (int_eq_ty i t _) ⟨rfl, call_gives TypeEq.slot_type_eq_refl (Ty.is ⟨n, hn, rfl⟩ s) F.entry_object_eq (F.args_object_eq_2 _ _) (TypeEq.object_eq_other rfl rfl) ⟨rfl, h⟩⟩)
theorem rc_ty_non {n : Nat} (hn : n < 15) {Q : Value → Shared → Prop} (h : Q (.bool false) s) : wpAny (model prog w) A (richCompare .Eq (cl n) .none) Q E s :=
  EqNone.wpAny_richCompare_eq_decline (Ta := "type") (Tb := "NoneType") (k := false) (fun s => Ty.is ⟨n, hn, rfl⟩ s) (fun _ => rfl) (by decide) MF.sub_none_type TypeEq.slot_type_eq F.slot_NoneType_eq_refl (by rw [isSame_plain rfl]; rfl)
    (call_gives TypeEq.slot_type_eq (Ty.is ⟨n, hn, rfl⟩ s) F.entry_object_eq (F.args_object_eq_2 _ _) (TypeEq.object_eq_other rfl rfl) ⟨rfl, call_gives F.slot_NoneType_eq_refl rfl F.entry_NoneType_eq (F.args_NoneType_eq_2 _ _) (non_eq_ty _) ⟨rfl, h⟩⟩)
theorem rc_non_ty {n : Nat} (hn : n < 15) {Q : Value → Shared → Prop} (h : Q (.bool false) s) : wpAny (model prog w) A (richCompare .Eq .none (cl n)) Q E s :=
  EqNone.wpAny_richCompare_eq_decline (Ta := "NoneType") (Tb := "type") (k := false) (fun _ => rfl) (fun s => Ty.is ⟨n, hn, rfl⟩ s) (by decide) MF.sub_type_none F.slot_NoneType_eq TypeEq.slot_type_eq_refl (by rw [isSame_plain rfl]; rfl)
    (call_gives F.slot_NoneType_eq rfl F.entry_NoneType_eq (F.args_NoneType_eq_2 _ _) (non_eq_ty _) ⟨rfl, call_gives TypeEq.slot_type_eq_refl (Ty.is ⟨n, hn, rfl⟩ s) F.entry_object_eq (F.args_object_eq_2 _ _) (TypeEq.object_eq_other rfl rfl) ⟨rfl, h⟩⟩)

theorem key_eq {a b : Key} {u v : Value} {Q : Bool → Shared → Prop} (ha : a.is u = true) (hb : b.is v = true) (h : Q (decide (a = b)) s) : wpAny (model prog w) A (eqBool u v) Q E s := by
  cases a with
  | ty n =>
    obtain ⟨hn, rfl⟩ := Key.is_ty ha
    cases b with
    | ty m =>
      obtain ⟨hm, rfl⟩ := Key.is_ty hb
      refine eqg_ty ⟨n, hn, rfl⟩ ⟨m, hm, rfl⟩ prog w A E s Q ?_
      have : (cl n == cl m) = decide (Key.ty n = Key.ty m) := by
        rw [Bool.eq_iff_iff, beq_iff_eq, decide_eq_true_iff]
        exact ⟨fun e => by rw [cl_inj hn hm e], fun e => by cases e; rfl⟩
      rw [this]; exact h
    | int i =>
      obtain ⟨t, rfl⟩ := Key.is_int hb
      exact eqB rfl (fun _ _ => nofun) (rc_ty_int hn ⟨false, rfl, by simpa using h⟩)
    | non =>
      obtain rfl := Key.is_non hb
      exact eqB rfl (fun _ _ => nofun) (rc_ty_non hn ⟨false, rfl, by simpa using h⟩)
  | int i =>
    obtain ⟨t, rfl⟩ := Key.is_int ha
    cases b with
    | ty m =>
      obtain ⟨hm, rfl⟩ := Key.is_ty hb
      exact eqB rfl (fun _ _ => nofun) (rc_int_ty hm ⟨false, rfl, by simpa using h⟩)
    | int j =>
      obtain ⟨u, rfl⟩ := Key.is_int hb
      refine wpAny_eqBool_int ?_
      have : (i == j) = decide (Key.int i = Key.int j) := by
        rw [Bool.eq_iff_iff, beq_iff_eq, decide_eq_true_iff]
        exact ⟨fun e => by rw [e], fun e => by cases e; rfl⟩
      rw [this]; exact h
    | non =>
      obtain rfl := Key.is_non hb
      exact eqB rfl (fun _ _ => nofun) (EqNone.eq_int_none ⟨false, rfl, by simpa using h⟩)
  | non =>
    obtain rfl := Key.is_non ha
    cases b with
    | ty m =>
      obtain ⟨hm, rfl⟩ := Key.is_ty hb
      exact eqB rfl (fun _ _ => nofun) (rc_non_ty hm ⟨false, rfl, by simpa using h⟩)
    | int j =>
      obtain ⟨u, rfl⟩ := Key.is_int hb
      exact eqB rfl (fun _ _ => nofun) (EqNone.eq_none_int ⟨false, rfl, by simpa using h⟩)
    | non =>
      obtain rfl := Key.is_non hb
      unfold eqBool
      refine wpAny_holding ?_
      rw [if_pos (show (Value.none == Value.none) = true from rfl)]
      exact wpAny_bind (wpAny_rule (wpAny_pure (by simpa using h)))
end

def keyKind (prog : Program) (w : World) : PySem.KeyKind prog w Key where
  is := Key.is
  hash := Key.hash w
  inj := fun v a b ha hb => by
    cases a with
    | ty n =>
      obtain ⟨hn, rfl⟩ := Key.is_ty ha
      cases b with
      | ty m => obtain ⟨hm, e⟩ := Key.is_ty hb; rw [cl_inj hn hm e]
      | int i => obtain ⟨t, e⟩ := Key.is_int hb; cases e
      | non => cases Key.is_non hb
    | int i =>
      obtain ⟨t, rfl⟩ := Key.is_int ha
      cases b with
      | ty m => obtain ⟨hm, e⟩ := Key.is_ty hb; cases e
      | int j => obtain ⟨u, e⟩ := Key.is_int hb; cases e; rfl
      | non => cases Key.is_non hb
    | non =>
      obtain rfl := Key.is_non ha
      cases b with
      | ty m => obtain ⟨hm, e⟩ := Key.is_ty hb; cases e
      | int j => obtain ⟨u, e⟩ := Key.is_int hb; cases e
      | non => rfl
  byValue := fun k v h => by
    cases k with
    | ty n => obtain ⟨hn, rfl⟩ := Key.is_ty h; rfl
    | int i => obtain ⟨t, rfl⟩ := Key.is_int h; rfl
    | non => obtain rfl := Key.is_non h; rfl
  pyHash := fun {A E s k v Q} hv h => by
    cases k with
    | ty n => obtain ⟨hn, rfl⟩ := Key.is_ty hv; exact hash_ty hn h
    | int i => obtain ⟨t, rfl⟩ := Key.is_int hv; exact wpAny_pyHash_int h
    | non => obtain rfl := Key.is_non hv; exact hash_non h
  eqBool := fun hu hv h => key_eq hu hv h
  «strs» := fun k x t v h => by
    cases k with
    | ty n => obtain ⟨hn, e⟩ := Key.is_ty h; cases e
    | int i => obtain ⟨t, e⟩ := Key.is_int h; cases e
    | non => cases Key.is_non h
end Mine
/-! part M25 -/
set_option Elab.async false
set_option maxRecDepth 100000
set_option autoImplicit false
namespace Mine
open PySem PySem.Calls PySem.W PyProof.Rows Builtin

theorem forIn_all_cont {α : Type} (f : α → MProd (Option Bool) PUnit → Sem (ForInStep (MProd (Option Bool) PUnit))) : ∀ (l : List α), (∀ y ∈ l, ∀ u, f y ⟨none, u⟩ = pure (.yield ⟨none, ⟨⟩⟩)) → forIn l (⟨none, ⟨⟩⟩ : MProd (Option Bool) PUnit) f = pure ⟨none, ⟨⟩⟩
  | [], _ => by rw [List.forIn_nil]
  | y :: l, h => by
    rw [List.forIn_cons, h y (.head _), pure_bind]
    exact forIn_all_cont f l fun z hz => h z (.tail _ hz)

theorem seen_none {x : Value} (hx : carriedByValue x = true) (l : List Value) (hl : ∀ y ∈ l, carriedByValue y = true) : searchCouldBeSeen x l = pure false := by
  unfold searchCouldBeSeen
  dsimp only
  induction l with
  | nil => rfl
  | cons y l ih =>
    have hy := hl y (.head _)
    rw [List.forIn_cons]
    have := ih fun z hz => hl z (.tail _ hz)
    simp only [hx, hy, Bool.and_self, Bool.or_true, if_true, pure_bind] at this ⊢
    exact this

def TyEnts (w : World) (L : List Ent) : Prop := ∀ e ∈ L, ∃ n, n < 15 ∧ e.2 = (tyHash w n, cl n)

section
variable {prog : Program} {w : World} {A : Around} {E : Value → Shared → Prop} {s : Shared}

theorem search {a : Addr} {o : Obj} {es : Array (Int × Value)} {ep : Nat} {t : SetTable} {L : List Ent} {x : Value} {kx : Key} {h : Int} {adding : Bool} {Q : SetFound → Shared → Prop}
    (ho : s.heap.get? a = some o) (hd : o.data = .set es ep t) (T : TabOk t es L) (hf : t.fits es.size = true) (hg : t.gaveWay = false) (hL : TyEnts w L) (hx : kx.is x = true) :
    ∀ (fuel N : Nat) (stand : Option SetTable.Probe) (p : SetTable.Probe), stand.getD (t.probeStart h) = p → p.dummy = none → (it t N p).j ∉ slots L → (∀ m, m < N → (it t m p).j ∈ slots L) → N < fuel → N < 10 * SetTable.turns t.mask →
    ((∀ (m i : Nat) (e : Int × Value), m < N → L[i]? = some ((it t m p).j, e) → ¬ (e.1 = h ∧ kx.is e.2 = true)) → Q (.free (it t N p).j false) s) →
    ((∃ (m i : Nat) (e : Int × Value), m < N ∧ L[i]? = some ((it t m p).j, e) ∧ e.1 = h ∧ kx.is e.2 = true) → ∀ r : Option Nat, (adding = true → r = none) → (adding = false → r.isSome = true) → Q (.there r) s) →
    wpAny (model prog w) A (setSearchFrom a x h adding fuel stand) Q E s
  | 0, _, _, _, _, _, _, _, hfu, _, _, _ => absurd hfu (by omega)
  | fuel + 1, N, stand, p, hst, hdu, hN, hm, hfu, hN10, hno, hyes => by
    unfold setSearchFrom
    refine wpAny_bind (wpAny_setState_of ho hd hf ?_)
    dsimp only
    rw [hg]
    simp only [Bool.false_eq_true, if_false]
    rw [hst]
    rcases go_spec T (fun i => (es[i]?.map (·.1)).getD 0) h N (10 * SetTable.turns t.mask) p hN10 hdu hN hm with ⟨h1, h2⟩ | ⟨m, i, e, h1, h2, h3, h4, h5⟩
    · have hp : t.probe (fun i => (es[i]?.map (·.1)).getD 0) h p = some (.empty (it t N p).j none) := h1
      show wpAny _ _ (match t.probe (fun i => (es[i]?.map (·.1)).getD 0) h p with | some met => _ | _ => _) _ _ _
      rw [hp]
      dsimp only
      refine wpAny_pure (hno fun m i e hm' hi hh => ?_)
      have := h2 m hm' i e hi
      rw [(slot_live T hi).2] at this
      rw [beq_eq_false_iff_ne] at this
      exact this hh.1
    · have hp : t.probe (fun i => (es[i]?.map (·.1)).getD 0) h p = some (.candidate (it t m p).j i (it t (m + 1) p)) := h4
      show wpAny _ _ (match t.probe (fun i => (es[i]?.map (·.1)).getD 0) h p with | some met => _ | _ => _) _ _ _
      rw [hp]
      dsimp only
      obtain ⟨hsl, hei⟩ := slot_live T h2
      rw [hei] at h3
      have he1 : e.1 = h := by simpa using h3
      obtain ⟨n, hn, hen⟩ := hL _ (List.mem_of_getElem? h2)
      have hen : e = (tyHash w n, cl n) := hen
      have hseen : searchCouldBeSeen x ((es.filter (·.1 == h)).toList.map (·.2)) = pure false := seen_none ((keyKind prog w).byValue kx x hx) _ fun y hy => by
        obtain ⟨q, hq, rfl⟩ := List.mem_map.mp hy
        have hq2 : q ∈ es ∧ q.1 = h := by simpa using hq
        have hq' : q ∈ es := hq2.1
        rw [T.ents] at hq'
        obtain ⟨z, hz, rfl⟩ := List.mem_map.mp (show q ∈ L.map (·.2) by simpa [entsOf] using hq')
        obtain ⟨n', hn', hz'⟩ := hL z hz
        rw [hz']; rfl
      have rest : wpAny (model prog w) A (do
          let some (_, y) := es[i]? | unsupported "internal:set-entry"
          let equal ← holding [y] (eqBool y x)
          let (es', _, t') ← setState a
          if adding && equal then return .there none
          let some same := t'.sameMemory t.moves t.mask | unsupported "set.changed-during-lookup:is-the-new-block-at-the-old-address"
          let still ← match (if same then t'.slot (it t m p).j else .empty) with
            | .live i' => match es'[i']? with
              | some (_, y') => do pure (if ← isSame y' y then some i' else none)
              | none => pure none
            | _ => pure none
          match still with
          | none => rule "set.search.anew"; setSearchFrom a x h adding fuel none
          | some i' => if equal then return .there (some i') else setSearchFrom a x h adding fuel (some (it t (m + 1) p)) : Sem SetFound) Q E s := by
        rw [hei, hen]
        dsimp only
        refine wpAny_bind (wpAny_holding ?_)
        refine (keyKind prog w).eqBool (a := .ty n) (b := kx) (by show (decide (n < 15) && (cl n == cl n)) = true; simp [hn]) hx ?_
        refine wpAny_bind (wpAny_setState_of ho hd hf ?_)
        dsimp only
        have hmem : t.sameMemory t.moves t.mask = some true := by unfold SetTable.sameMemory; simp
        by_cases heq : Key.ty n = kx
        · have hyes' := hyes ⟨m, i, e, h1, h2, he1, by rw [hen, ← heq]; show (decide (n < 15) && (cl n == cl n)) = true; simp [hn]⟩
          rw [decide_eq_true heq]
          cases hadd : adding with
          | true =>
            simp only [Bool.and_self, if_true]
            exact wpAny_pure (hyes' none (fun _ => rfl) (fun q => by rw [hadd] at q; cases q))
          | false =>
            simp only [Bool.false_and, Bool.false_eq_true, if_false]
            rw [hmem]
            dsimp only
            simp only [if_true]
            rw [hsl]
            dsimp only
            rw [hei, hen]
            dsimp only
            refine wpAny_bind (wpAny_bind (wpAny_of_eq (isSame_plain (a := cl n) (b := cl n) rfl) (wpAny_pure ?_)))
            rw [beq_self_eq_true]
            simp only [if_true]
            exact wpAny_pure (hyes' (some i) (fun q => by rw [hadd] at q; cases q) (fun _ => rfl))
        · rw [decide_eq_false heq]
          simp only [Bool.and_false, Bool.false_eq_true, if_false]
          rw [hmem]
          dsimp only
          simp only [if_true]
          rw [hsl]
          dsimp only
          rw [hei, hen]
          dsimp only
          refine wpAny_bind (wpAny_bind (wpAny_of_eq (isSame_plain (a := cl n) (b := cl n) rfl) (wpAny_pure ?_)))
          rw [beq_self_eq_true]
          simp only [if_true]
          have hsh : ∀ q, it t q (it t (m + 1) p) = it t (m + 1 + q) p := fun q => (it_add t (m + 1) q p).symm
          have hbad : ¬ kx.is e.2 = true := fun hc => by
            rw [hen] at hc
            exact heq ((keyKind prog w).inj (cl n) (.ty n) kx (by show (decide (n < 15) && (cl n == cl n)) = true; simp [hn]) hc)
          refine search ho hd T hf hg hL hx fuel (N - (m + 1)) (some (it t (m + 1) p)) (it t (m + 1) p) rfl ((dummy_it _).trans hdu) ?_ ?_ (by omega) (by omega) ?_ ?_
          · rw [hsh, show m + 1 + (N - (m + 1)) = N by omega]; exact hN
          · intro q hq; rw [hsh]; exact hm _ (by omega)
          · intro hall
            rw [hsh, show m + 1 + (N - (m + 1)) = N by omega]
            refine hno fun q i' e' hq hi' hh => ?_
            rcases Nat.lt_trichotomy q m with hc | hc | hc
            · have := h5 q hc i' e' hi'
              rw [(slot_live T hi').2, beq_eq_false_iff_ne] at this
              exact this hh.1
            · subst hc
              have : i' = i := by
                have g1 : (L.map (·.1))[i']? = some (it t q p).j := by rw [List.getElem?_map, hi']; rfl
                have g2 : (L.map (·.1))[i]? = some (it t q p).j := by rw [List.getElem?_map, h2]; rfl
                rw [← below_of_mem T.sorted g1, below_of_mem T.sorted g2]
              subst this
              rw [h2] at hi'; cases hi'
              exact hbad hh.2
            · exact hall (q - (m + 1)) i' e' (by omega) (by rw [hsh, show m + 1 + (q - (m + 1)) = q by omega]; exact hi') hh
          · rintro ⟨q, i', e', hq, hi', hh⟩
            rw [hsh] at hi'
            exact hyes ⟨m + 1 + q, i', e', by omega, hi', hh⟩
      cases hled : t.led with
      | true =>
        simp only [Bool.not_true, Bool.false_eq_true, if_false]
        exact rest
      | false =>
        simp only [Bool.not_false, if_true]
        rw [hseen]
        refine wpAny_bind (wpAny_pure ?_)
        simp only [Bool.false_eq_true, if_false]
        exact rest
end
end Mine
/-! part M26 -/
set_option Elab.async false
set_option maxRecDepth 100000
set_option autoImplicit false
namespace Mine
open PySem PySem.Calls PySem.W PyProof.Rows Builtin

/-- a set of classes -/
structure SetGood (w : World) (ns : List Nat) (es : Array (Int × Value)) (t : SetTable) (L : List Ent) : Prop where
  tab : TabOk t es L
  path : PathOk t L
  size : (t.mask = 7 ∧ L.length ≤ 4) ∨ (t.mask = 31 ∧ L.length = 5)
  ents : TyEnts w L
  mem : ∀ n, n < 15 → (n ∈ ns ↔ ∃ j, (j, (tyHash w n, cl n)) ∈ L)
  len : ns.length = L.length
def isS (w : World) (ns : List Nat) : Pr := fun o => o.ExactSet ∧ ∃ es ep t L, o.data = .set es ep t ∧ SetGood w ns es t L

section
variable {w : World} {ns : List Nat} {es : Array (Int × Value)} {t : SetTable} {L : List Ent}
theorem SetGood.mask (x : SetGood w ns es t L) : t.mask = 7 ∨ t.mask = 31 := x.size.imp (·.1) (·.1)
theorem SetGood.few (x : SetGood w ns es t L) : (slots L).length ≤ t.mask := by
  unfold slots; rw [List.length_map]; rcases x.size with ⟨h1, h2⟩ | ⟨h1, h2⟩ <;> omega
theorem SetGood.esize (x : SetGood w ns es t L) : es.size = L.length := by rw [x.tab.ents]; simp [entsOf]
theorem SetGood.fits (x : SetGood w ns es t L) : t.fits es.size = true := by
  unfold SetTable.fits SetTable.fill
  rw [x.esize, x.tab.place, x.tab.dum]
  have : (placeOf L).size = L.length := by simp [placeOf]
  rw [this]
  simp only [beq_self_eq_true, Bool.true_and, decide_eq_true_eq]
  show L.length + 0 ≤ t.mask
  rcases x.size with ⟨h1, h2⟩ | ⟨h1, h2⟩ <;> omega
theorem SetGood.noGave (x : SetGood w ns es t L) : t.gaveWay = false := by
  unfold SetTable.gaveWay
  rcases x.size with ⟨h1, h2⟩ | ⟨h1, h2⟩ <;> rw [h1] <;> rfl
end

section
variable {prog : Program} {w : World} {A : Around} {E : Value → Shared → Prop} {r s : Shared} {ps fs : Fs}

/-- search in a good set -/
theorem search_good {a : Addr} {o : Obj} {ns : List Nat} {es : Array (Int × Value)} {ep : Nat} {t : SetTable} {L : List Ent} {x : Value} {kx : Key} {adding : Bool} {Q : SetFound → Shared → Prop}
    (ho : s.heap.get? a = some o) (hd : o.data = .set es ep t) (X : SetGood w ns es t L) (hx : kx.is x = true)
    (hno : (∀ n, kx = .ty n → n ∉ ns) → ∀ N, (it t N (t.probeStart (kx.hash w))).j ∉ slots L → (∀ m, m < N → (it t m (t.probeStart (kx.hash w))).j ∈ slots L) → Q (.free (it t N (t.probeStart (kx.hash w))).j false) s)
    (hyes : (∃ n, kx = .ty n ∧ n ∈ ns) → ∀ rr : Option Nat, (adding = true → rr = none) → (adding = false → rr.isSome = true) → Q (.there rr) s) :
    wpAny (model prog w) A (setSearch a x (kx.hash w) adding) Q E s := by
  obtain ⟨N, hN, hNv, hNm⟩ := first_vacant X.mask X.few (wf_start t (kx.hash w))
  have hN460 : N < 100000 := by
    have : 10 * SetTable.turns t.mask ≤ 460 := by unfold SetTable.turns; rcases X.mask with h | h <;> rw [h] <;> decide
    omega
  refine search ho hd X.tab X.fits X.noGave X.ents hx 100000 N none (t.probeStart (kx.hash w)) rfl rfl hNv hNm hN460 hN (fun hall => hno (fun n hn hns => ?_) N hNv hNm) (fun hex rr h1 h2 => hyes ?_ rr h1 h2)
  · subst hn
    obtain ⟨hn15, rfl⟩ := Key.is_ty hx
    obtain ⟨j, hj⟩ := (X.mem n hn15).mp hns
    obtain ⟨m, hm, hmj⟩ := path_meets X.path hj (N := N) hNv
    obtain ⟨i, hi⟩ := List.getElem?_of_mem hj
    have hmj : (it t m (t.probeStart (tyHash w n))).j = j := hmj
    exact hall m i (tyHash w n, cl n) hm (by show L[i]? = some ((it t m (t.probeStart (tyHash w n))).j, _); rw [hmj]; exact hi) ⟨rfl, hx⟩
  · obtain ⟨m, i, e, hm, hi, he1, he2⟩ := hex
    obtain ⟨n, hn, hen⟩ := X.ents _ (List.mem_of_getElem? hi)
    have hen : e = (tyHash w n, cl n) := hen
    subst hen
    have hk : Key.ty n = kx := (keyKind prog w).inj (cl n) (.ty n) kx (by show (decide (n < 15) && (cl n == cl n)) = true; simp [hn]) he2
    exact ⟨n, hk.symm, (X.mem n hn).mpr ⟨_, List.mem_of_getElem? hi⟩⟩

theorem SetGood.add {ns : List Nat} {es : Array (Int × Value)} {t : SetTable} {L : List Ent} (X : SetGood w ns es t L) (h7 : t.mask = 7) {n : Nat} (hn : n < 15) (hns : n ∉ ns) {N : Nat}
    (hv : (it t N (t.probeStart (tyHash w n))).j ∉ slots L) (hm : ∀ m, m < N → (it t m (t.probeStart (tyHash w n))).j ∈ slots L) {t2 : SetTable}
    (e1 : t2.place = (t.put (it t N (t.probeStart (tyHash w n))).j).1.place) (e2 : t2.dummies = (t.put (it t N (t.probeStart (tyHash w n))).j).1.dummies) (e3 : t2.mask = t.mask) :
    ∃ L', TabOk t2 (SetTable.insertAt es (t.put (it t N (t.probeStart (tyHash w n))).j).2 (tyHash w n, cl n)) L' ∧ PathOk t2 L' ∧ L'.length = L.length + 1 ∧ TyEnts w L' ∧ (∀ m, m < 15 → (m ∈ ns ++ [n] ↔ ∃ j, (j, (tyHash w m, cl m)) ∈ L')) := by
  have T := put_ok' X.tab hv (tyHash w n, cl n)
  refine ⟨putL L (it t N (t.probeStart (tyHash w n))).j (tyHash w n, cl n), ⟨e1.trans T.place, T.ents, e2.trans T.dum, T.sorted⟩, put_path X.path hm e3, len_putL, fun e he => ?_, fun m hm15 => ?_⟩
  · rcases mem_putL.mp he with rfl | he
    · exact ⟨n, hn, rfl⟩
    · exact X.ents e he
  · rw [List.mem_append, List.mem_singleton, X.mem m hm15]
    constructor
    · rintro (⟨j, hj⟩ | rfl)
      · exact ⟨j, mem_putL.mpr (.inr hj)⟩
      · exact ⟨_, mem_putL.mpr (.inl rfl)⟩
    · rintro ⟨j, hj⟩
      rcases mem_putL.mp hj with h | h
      · right; injection h with _ h2; injection h2 with _ h3; exact cl_inj hm15 hn h3
      · exact .inl ⟨j, h⟩

/-- a new class is added -/
theorem set_add {a : Addr} {i : Nat} {ns : List Nat} {n : Nat} {Q : Bool → Shared → Prop} (D : On r s ps fs) (hi : fs[i]? = some (a, isS w ns)) (hn : n < 15) (hns : n ∉ ns) (hl : ns.length ≤ 4)
    (h : ∀ s', On r s' ps (fs.set i (a, isS w (ns ++ [n]))) → Q true s') : wpAny (model prog w) A (setAdd a (cl n)) Q E s := by
  obtain ⟨o, ho, hex, es, ep, t, L, hd, X⟩ := D.st.get (mem_r (List.mem_of_getElem? hi))
  unfold setAdd
  refine wpAny_holding ?_
  refine wpAny_bind (hash_ty hn ?_)
  have D1 := D.tok (t := s.toks + 1)
  have ho1 : ({ s with toks := s.toks + 1 } : Shared).heap.get? a = some o := ho
  generalize ({ s with toks := s.toks + 1 } : Shared) = s1 at D1 ho1
  unfold setAddHashed setAddHashedIn
  refine wpAny_holding (wpAny_bind (wpAny_setState_of ho1 hd X.fits ?_))
  dsimp only
  rw [show byScan (cl n) es = false from rfl]
  simp only [Bool.false_eq_true, if_false]
  refine wpAny_bind (search_good (kx := .ty n) (adding := true) ho1 hd X (by show (decide (n < 15) && (cl n == cl n)) = true; simp [hn]) (fun _ N hv hm => ?_) (fun hc => ?_))
  · have h7 : t.mask = 7 ∧ L.length ≤ 4 := by
      rcases X.size with h | ⟨h1, h2⟩
      · exact h
      · have := X.len; omega
    dsimp only
    refine wpAny_bind (wpAny_setState_of ho1 hd X.fits ?_)
    dsimp only
    have tail : ∀ t2 : SetTable, t2.place = (t.put (it t N (t.probeStart (tyHash w n))).j).1.place → t2.dummies = (t.put (it t N (t.probeStart (tyHash w n))).j).1.dummies → t2.mask = t.mask →
        wpAny (model prog w) A (do
          storeSet a (SetTable.insertAt es (t.put (it t N (t.probeStart (tyHash w n))).j).2 (tyHash w n, cl n)) t2
          if (!false && t2.tooFull) = true then setRelay a (SetTable.grown (es.size + 1))
          pure true : Sem Bool) Q E s1 := by
      intro t2 e1 e2 e3
      obtain ⟨L', T', P', len', ent', mem'⟩ := X.add h7.1 hn hns hv hm e1 e2 e3
      generalize hes : SetTable.insertAt es (t.put (it t N (t.probeStart (tyHash w n))).j).2 (tyHash w n, cl n) = es' at *
      have hsz : es'.size = L'.length := by rw [T'.ents]; simp [entsOf]
      have hfit : t2.fits es'.size = true := by
        unfold SetTable.fits SetTable.fill
        rw [hsz, T'.place, T'.dum, e3, h7.1]
        have : (placeOf L').size = L'.length := by simp [placeOf]
        rw [this]
        simp only [beq_self_eq_true, Bool.true_and, decide_eq_true_eq]
        show L'.length + 0 ≤ 7
        omega
      refine wpAny_bind (wpAny_storeSet_of ho1 hd ?_ (by rw [hsz, sizeLine_eq]; omega))
      have ho2 : (s1.heap.update a (Obj.putSet es' t2)).get? a = some { o with data := .set es' (ep + 1) t2 } := by
        have := Heap.get?_update_self (Obj.putSet es' t2) ho1 (by rw [putSet_of es' t2 hd]; rfl)
        rw [putSet_of es' t2 hd] at this; exact this
      have hsb := (Heap.SameBut.update s1.heap a (Obj.putSet es' t2)).extBut
      have htf : t2.tooFull = decide (L'.length = 5) := by
        unfold SetTable.tooFull SetTable.fill
        rw [T'.place, T'.dum, e3, h7.1]
        have : (placeOf L').size = L'.length := by simp [placeOf]
        rw [this]
        show decide ((L'.length + 0) * 5 ≥ 7 * 3) = _
        rw [Bool.eq_iff_iff, decide_eq_true_iff, decide_eq_true_iff]
        omega
      rw [htf]
      by_cases h5 : L'.length = 5
      · rw [decide_eq_true h5]
        simp only [Bool.not_false, Bool.and_self, if_true]
        unfold setRelay
        refine wpAny_bind (wpAny_bind (wpAny_setState_of (s := { s1 with heap := s1.heap.update a (Obj.putSet es' t2) }) ho2 rfl hfit ?_))
        dsimp only
        have hgr : SetTable.grown (es.size + 1) = 20 := by rw [X.esize, ← len', h5]; rfl
        rw [hgr]
        rw [if_neg (by rw [sizeLine_eq]; decide)]
        have hE : es' = (L'.map (·.2)).toArray := T'.ents
        have hEl : (L'.map (·.2)).length = 5 := by rw [List.length_map, h5]
        obtain ⟨t3, order, L3, er, m3, _, T3, P3, l3, mem3⟩ := relaid_ok (t := t2) (E := L'.map (·.2)) (by omega) (by rw [hEl]; decide)
        rw [hEl, ← hE] at er
        rw [← hE] at T3
        have hg5 : SetTable.grown 5 = 20 := rfl
        rw [hg5] at er
        show wpAny _ _ ((do
          let some (t, order) := t2.relaid (es'.map (·.1)) 20 | unsupported "internal:set-table-without-room"
          let es'' := order.filterMap (es'[·]?)
          if es''.size != es'.size then unsupported "internal:set-table-lost-an-element"
          pure (es'', t) : Sem (Array (Int × Value) × SetTable)) >>= _) _ _ _
        rw [er]
        dsimp only
        have hs3 : (order.filterMap (es'[·]?)).size = L3.length := by rw [T3.ents]; simp [entsOf]
        have hne : ((order.filterMap (es'[·]?)).size != es'.size) = false := by rw [hs3, l3, hEl, hsz, h5]; rfl
        rw [hne]
        simp only [Bool.false_eq_true, if_false]
        refine wpAny_bind (wpAny_pure ?_)
        dsimp only
        refine wpAny_storeSet_of (s := { s1 with heap := s1.heap.update a (Obj.putSet es' t2) }) ho2 rfl ?_ (by rw [hs3, l3, hEl, sizeLine_eq]; omega)
        have ho3 := Heap.get?_update_self (Obj.putSet (order.filterMap (es'[·]?)) t3) ho2 (by rw [putSet_of _ t3 rfl]; rfl)
        rw [putSet_of _ t3 rfl] at ho3
        have hsb3 : Heap.ExtBut a s1.heap ((s1.heap.update a (Obj.putSet es' t2)).update a (Obj.putSet (order.filterMap (es'[·]?)) t3)) := fun b ob hb x => (Heap.SameBut.update ..).extBut b ob hb (hsb b ob hb x)
        refine wpAny_pure (h _ (D1.with_heap (t := s1.toks) (D1.st.same hi hsb3 ⟨_, ho3, hex, _, _, t3, L3, rfl, T3, P3, .inr ⟨m3, by rw [l3, hEl]⟩, fun e he => ?_, fun m hm15 => ?_, ?_⟩)))
        · obtain ⟨e', he', e2⟩ := List.mem_map.mp ((mem3 e.2).mp ⟨e.1, he⟩)
          rw [← e2]; exact ent' e' he'
        · rw [mem' m hm15]
          constructor
          · rintro ⟨j, hj⟩; exact (mem3 _).mpr (List.mem_map.mpr ⟨_, hj, rfl⟩)
          · intro hx
            obtain ⟨e', he', e2⟩ := List.mem_map.mp ((mem3 _).mp hx)
            exact ⟨e'.1, by rw [← e2]; exact he'⟩
        · rw [List.length_append, X.len, l3, hEl]; show L.length + 1 = 5; omega
      · rw [decide_eq_false h5]
        simp only [Bool.not_false, Bool.and_false, Bool.false_eq_true, if_false]
        refine wpAny_pure (h _ (D1.with_heap (t := s1.toks) (D1.st.same hi hsb ⟨_, ho2, hex, es', ep + 1, t2, L', rfl, T', P', .inl ⟨by rw [e3]; exact h7.1, by omega⟩, ent', mem', ?_⟩)))
        rw [List.length_append, X.len, len']; rfl
    cases hpl : (t.put (it t N (t.probeStart (tyHash w n))).j).1.plain with
    | true =>
      have : (t.put (it t N (t.probeStart ((Key.ty n).hash w))).j).1.plain = true := hpl
      rw [this]
      simp only [if_true]
      refine wpAny_bind (wpAny_of_eq (a := false) rfl ?_)
      simp only [Bool.false_eq_true, if_false]
      exact tail { (t.put (it t N (t.probeStart (tyHash w n))).j).1 with plain := false } rfl rfl rfl
    | false =>
      have : (t.put (it t N (t.probeStart ((Key.ty n).hash w))).j).1.plain = false := hpl
      rw [this]
      simp only [Bool.false_eq_true, if_false]
      refine wpAny_bind (wpAny_pure ?_)
      simp only [if_true]
      exact tail (t.put (it t N (t.probeStart (tyHash w n))).j).1 rfl rfl rfl
  · obtain ⟨m, e, hm⟩ := hc
    cases e
    exact absurd hm hns
end
end Mine
/-! part M27 -/
set_option Elab.async false
set_option maxRecDepth 100000
set_option autoImplicit false
namespace Mine
open PySem PySem.Calls PySem.W PyProof.Rows Builtin
local macro_rules | `(tactic| walk_at "mem") => `(tactic| first | exact List.Mem.head _ | (refine List.Mem.tail _ ?_; (walk_at "mem")))

section
variable {prog : Program} {w : World} {A : Around} {E : Value → Shared → Prop} {r s : Shared} {ps fs : Fs}

theorem set_loop {R : Result → Shared → Prop} (hA : A.handled = none) {S I t : Addr} {ns : List Nat} (ht : (t, isT (ns.map cl)) ∈ ps) (h15 : ∀ n ∈ ns, n < 15) (hnd : ns.Nodup) (h5 : ns.length ≤ 5)
    (hR : ∀ s', On r s' ps ((S, isS w ns) :: fs) → R (.ok (.ret .none)) s') :
    ∀ (k i : Nat) (s : Shared), ns.length - i = k → i ≤ ns.length → On r s ps ((I, isTI t i) :: (S, isS w (ns.take i)) :: fs) →
      codeAny (model prog w) A (.builtin "set.update.loop" ⟨[.ref S, .ref I], []⟩) R s := by
  intro k
  induction k with
  | zero =>
    intro i s hk hi D
    have hin : i = ns.length := by omega
    subst hin
    refine codeAny_builtin F.entry_set_update_loop ?_
    rw [Around.under_plainId F.plain_set_update_loop _]
    show wpAny _ A.in1 (pyNext (.ref I) >>= _) _ _ s
    refine wpAny_bind (next_tup_end (A := A.in1) hA D (mem_l ht) (by simp) fun s' D' => ?_)
    show wpAny _ A.in1 (ret Value.none) _ _ s'
    rw [List.take_length] at D'
    exact wpAny_pure (hR s' D')
  | succ k ih =>
    intro i s hk hi D
    have hlt : i < ns.length := by omega
    refine codeAny_builtin F.entry_set_update_loop ?_
    rw [Around.under_plainId F.plain_set_update_loop _]
    show wpAny _ A.in1 (pyNext (.ref I) >>= _) _ _ s
    refine wpAny_bind (next_tup (v := cl ns[i]) D (j := 0) rfl (mem_l ht) (by simp [hlt]) fun s' D' => ?_)
    show wpAny _ A.in1 (holding [cl ns[i]] (setAdd S (cl ns[i])) >>= _) _ _ s'
    refine wpAny_bind (wpAny_holding ?_)
    have hnot : ns[i] ∉ ns.take i := by
      intro hm
      obtain ⟨j, hj, e⟩ := List.mem_take_iff_getElem.mp hm
      have hjl : j < ns.length := by omega
      exact List.pairwise_iff_getElem.mp hnd j i hjl hlt (by omega) e
    refine set_add (i := 1) D' rfl (h15 _ (List.getElem_mem hlt)) hnot (by rw [List.length_take]; omega) fun s' D' => ?_
    refine wpAny_pure ⟨plainId_quiet F.plain_set_update_loop _, ih (i + 1) s' (by omega) hlt ?_⟩
    have e : ns.take (i + 1) = ns.take i ++ [ns[i]] := by rw [List.take_add_one, List.getElem?_eq_getElem hlt]; rfl
    rw [e]
    exact D'

theorem set_fresh (w : World) (led : Bool) : isS w [] { cls := .type "set", dict := none, data := .set #[] 0 (.fresh 0 0 led) } :=
  ⟨⟨rfl, rfl, rfl⟩, #[], 0, _, [], rfl, ⟨rfl, rfl, rfl, List.Pairwise.nil⟩, fun e he => (List.not_mem_nil he).elim, .inl ⟨rfl, Nat.zero_le _⟩, fun e he => (List.not_mem_nil he).elim, fun n _ => ⟨fun h => (List.not_mem_nil h).elim, fun ⟨j, h⟩ => (List.not_mem_nil h).elim⟩, rfl⟩

namespace MF
theorem sub_tuple_set : isSubtype (.type "tuple") (.type "set") = pure false := by rw [isSubtype_type]; kernel_rfl
theorem sub_tuple_frozenset : isSubtype (.type "tuple") (.type "frozenset") = pure false := by rw [isSubtype_type]; kernel_rfl
end MF

set_option maxRecDepth 100000 in
set_option maxHeartbeats 3200000 in
theorem set_of {t : Addr} {ns : List Nat} {Q : Value → Shared → Prop} (hA : A.handled = none) (D : On r s ps fs) (ht : (t, isT (ns.map cl)) ∈ ps) (h15 : ∀ n ∈ ns, n < 15) (hnd : ns.Nodup) (h5 : ns.length ≤ 5)
    (h : ∀ S s', On r s' ps ((S, isS w ns) :: fs) → Q (.ref S) s') : wpAny (model prog w) A (call (.type "set") [.ref t]) Q E s := by
  obtain ⟨c, tl, hmro⟩ := F.called_set.mro
  have hmade := F.called_set.made
  have hsub := F.called_set.sub
  refine wpAny_call (codeAny_of_tree ?_)
  show wpAny _ _ (callAny (.type "set") _) _ _ _
  refine wpAny_pure ⟨Code.quiet_builtin _ (by decide +kernel), codeAny_builtin F.entry_type_call ?_⟩
  rw [Around.under_plain (weight_type_call_type "set" [.ref t] []) rfl]
  have h1 := F.called_set.notType
  have h2 := F.called_set.canCreate
  have hct := F.typeCall_set_1 (.ref t)
  repeat (any_goals (first | assumption | wp_step))
  refine codeAny_mono (code_set_new_1 (.ref t) (E := E) (Q₁ := fun obj s₁ => ∃ led : Bool, obj = .ref s.heap.objs.size ∧ s₁ = { s with heap := s.heap.push { cls := .type "set", dict := none, data := .set #[] 0 (.fresh 0 0 led) } }) fun led => ⟨led, rfl, rfl⟩) fun rr s₁ hr => ?_
  cases rr with
  | error e => exact hr
  | ok fl =>
    cases fl with
    | ret obj =>
      obtain ⟨led, rfl, rfl⟩ := hr
      have D1 : On r { s with heap := s.heap.push { cls := .type "set", dict := none, data := .set #[] 0 (.fresh 0 0 led) } } ps ((s.heap.objs.size, isS w []) :: fs) := D.with_heap (t := s.toks) (D.st.push (set_fresh w led))
      have hS : (s.heap.push { cls := .type "set", dict := none, data := .set #[] 0 (.fresh 0 0 led) }).get? s.heap.objs.size = some { cls := .type "set", dict := none, data := .set #[] 0 (.fresh 0 0 led) } := Heap.get?_push_size _ rfl
      have hT : Shared.TypeIs { s with heap := s.heap.push { cls := .type "set", dict := none, data := .set #[] 0 (.fresh 0 0 led) } } (.ref s.heap.objs.size) "set" := ⟨_, hS, rfl⟩
      have hli := F.called_set.init.lookup
      have hbi := F.called_set.init.bind (.ref s.heap.objs.size)
      repeat (any_goals (first | assumption | wp_step))
      refine codeAny_mono (codeAny_call_builtin (R := wants (fun rr s₂ => rr = .none ∧ On r s₂ ps ((s.heap.objs.size, isS w ns) :: fs)) E) F.called_set.init.plain F.entry_set_init (check_set_init_1 hT ?_)) fun r₂ s₂ hr₂ => ?_
      · obtain ⟨n, hob⟩ := D1.st.objT (mem_l ht)
        have hsls := MF.sub_tuple_set
        have hslf := MF.sub_tuple_frozenset
        have hne : (Value.type "tuple" == Value.type "dict") = false := by decide
        unfold Builtin.«set.__init__» noKeywords Builtin.Frozenset.updateFrom
        generalize hPI : pyIter = PI
        wp_walk
        subst hPI
        refine it_tup D1 (mem_l ht) fun I s' D2 => ?_
        refine wpAny_bind (wpAny_runValue ?_)
        refine set_loop (A := A.in1.in1) (by simp [hA]) ht h15 hnd h5 (fun s' D' => ?_) (ns.length - 0) 0 s' rfl (Nat.zero_le _) D2
        show wpAny _ _ _ _ _ _
        refine wpAny_pure ?_
        show wpAny _ _ (ret Value.none) _ _ _
        exact wpAny_pure ⟨rfl, D'⟩
      · cases r₂ with
        | error e => exact hr₂
        | ok fl₂ =>
          cases fl₂ with
          | ret rr =>
            obtain ⟨rfl, D'⟩ := hr₂
            have hT2 : s₂.TypeIs (.ref s.heap.objs.size) "set" := let ⟨o, e, x, _⟩ := D'.st.get (mem_r (.head _)); ⟨o, e, x.1⟩
            repeat (any_goals (first | assumption | wp_step))
            exact h _ _ D'
          | _ => exact hr₂.elim
    | _ => exact hr.elim

/-- set([]) -/
theorem set_none {l : Addr} {Q : Value → Shared → Prop} (hA : A.handled = none) (D : On r s ps fs) (hl : (l, isL []) ∈ ps ++ fs)
    (h : ∀ S s', On r s' ps ((S, anyO) :: fs) → Q (.ref S) s') : wpAny (model prog w) A (call (.type "set") [.ref l]) Q E s := by
  refine call_set_list (ns := []) hA (D.st.list hl) .nil (by decide) fun h' tk hS hk => h _ _ (D.with_heap (t := tk) ?_)
  have Dk : St r.heap h' ps fs := D.st.keeps fun b o e => hk b o (Heap.lt_size e) e
  obtain ⟨o, _, _, _, ho, _⟩ := hS
  exact D.st.add_new Dk (Nat.le_refl _) ⟨o, ho, trivial⟩

/-- x not in the set -/
theorem not_in_set {a : Addr} {ns : List Nat} {x : Value} {kx : Key} {Q : Value → Shared → Prop} (D : On r s ps fs) (hi : (a, isS w ns) ∈ ps ++ fs) (hx : kx.is x = true) (hsc : (∃ n, kx = .ty n) ∨ ns ≠ [])
    (h : ∀ s' b, On r s' ps fs → (b = false ↔ ∃ n, kx = .ty n ∧ n ∈ ns) → Q (.bool b) s') : wpAny (model prog w) A (compareOp .NotIn x (.ref a)) Q E s := by
  obtain ⟨o, ho, hex, es, ep, t, L, hd, X⟩ := D.st.get hi
  have hT : s.TypeIs (.ref a) "set" := ⟨o, ho, hex.1⟩
  have hscan : byScan x es = false := by
    rcases hsc with ⟨n, rfl⟩ | hne
    · obtain ⟨_, rfl⟩ := Key.is_ty hx; rfl
    · have hL : L ≠ [] := fun e => hne (List.eq_nil_of_length_eq_zero (by rw [X.len, e]; rfl))
      obtain ⟨e0, L0, rfl⟩ := List.exists_cons_of_ne_nil hL
      obtain ⟨n, hn, e⟩ := X.ents e0 (.head _)
      unfold byScan
      have : es.all (·.2.scannable) = false := by
        rw [X.tab.ents, Array.all_eq_false']
        refine ⟨e0.2, by simp [entsOf], ?_⟩
        rw [e]; simp [Value.scannable, cl]
      rw [this]; simp
  show wpAny _ _ (do return .bool (!(← contains (.ref a) x))) Q E s
  refine wpAny_bind ?_
  unfold contains
  try with_reducible refine wpAny_holding ?_
  refine wpAny_bind (wpAny_specialOf hT F.slot_set_contains.lookup ?_)
  show wpAny _ _ (if (some (Value.builtin "set.__contains__") == some Value.none) = true then _ else _) _ E s
  rw [if_neg (by rw [beq_builtin_none]; exact Bool.false_ne_true)]
  refine wpAny_bind (wpAny_callSpecialUnlessNone?_slot (name := Str.ofString "__contains__") hT F.slot_set_contains
    (wpAny_call_entry F.slot_set_contains hT entry_set_contains ?_ (F.args_set_contains_2 _ _)))
  unfold Builtin.«frozenset.__contains__» Builtin.Frozenset.oneOther
  simp only [List.isEmpty_nil, bind_assoc]
  unfold Builtin.Frozenset.addrOf Builtin.Frozenset.withSetAsKey setContains
  refine wpAny_bind (wpAny_pure ?_)
  try dsimp only
  refine wpAny_bind (wpAny_pure ?_)
  try dsimp only
  refine wpAny_bind (wpAny_tryCatch ?_)
  refine wpAny_holding ?_
  refine wpAny_bind ((keyKind prog w).pyHash hx ?_)
  have D1 := D.tok (t := s.toks + 1)
  have fin : ∀ b : Bool, (b = false ↔ ∃ n, kx = .ty n ∧ n ∈ ns) → ∀ (A' : Around) (E' : Value → Shared → Prop), wpAny (model prog w) A' (ret (Value.bool (!b))) (fun fin s' => ∃ v, fin = .done (.ret v) ∧ wpAny (model prog w) A (truthy v) (fun b s' => wpAny (model prog w) A (pure (Value.bool (!b))) Q E s') E s') E' { s with toks := s.toks + 1 } := by
    intro b hb A' E'
    refine wpAny_pure ⟨_, rfl, wpAny_truthy_bool (wpAny_pure ?_)⟩
    rw [Bool.not_not]
    exact h _ b D1 hb
  unfold setFind setFindIn
  refine wpAny_bind (wpAny_bind (wpAny_setState_of (s := { s with toks := s.toks + 1 }) ho hd X.fits ?_))
  dsimp only
  rw [hscan]
  simp only [Bool.false_eq_true, if_false]
  refine wpAny_bind (search_good (s := { s with toks := s.toks + 1 }) (kx := kx) (adding := false) ho hd X hx (fun hno N hv hm => ?_) (fun hyes rr _ h2 => ?_))
  · dsimp only
    refine wpAny_pure (wpAny_pure ?_)
    exact fin true ⟨fun h => (Bool.noConfusion h), fun ⟨n, e, hn⟩ => absurd hn (hno n e)⟩ _ _
  · dsimp only
    refine wpAny_pure (wpAny_pure ?_)
    rw [h2 rfl]
    exact fin false ⟨fun _ => hyes, fun _ => rfl⟩ _ _
end
end Mine
/-! part M28 -/
set_option Elab.async false
set_option maxRecDepth 100000
set_option autoImplicit false
namespace Mine
open PySem PySem.Calls PySem.W PyProof.Rows Builtin
local macro_rules | `(tactic| walk_at "mem") => `(tactic| first | exact List.Mem.head _ | (refine List.Mem.tail _ ?_; (walk_at "mem")))

def scC : Scope := scopeOf (stOf 5)
def isFnO (name qual : Str) (params : Arguments) (body : List Stmt) (scope : Scope) (clos : List (Str × Addr)) (cv : Value) : Pr :=
  fun o => ∃ doc pm ctv, o.data = .func (fnX name qual params body scope clos .none .none doc pm none cv ctv)

theorem among_app {pos : Pos} {c : Value} : ∀ {l more : List Value}, TriplesOk l → codeAmong pos l = some c → codeAmong pos (l ++ more) = some c := by
  intro l
  fun_induction TriplesOk l with
  | case1 => intro more _ h; simp [codeAmong] at h
  | case2 a t b u x rest ih =>
    intro more ht h
    simp only [List.cons_append, codeAmong] at h ⊢
    split
    · rename_i hc; rw [if_pos hc] at h; exact h
    · rename_i hc; rw [if_neg hc] at h; exact ih ht h
  | case3 => intro more ht; exact ht.elim
theorem among_none {pos : Pos} : ∀ {l more : List Value}, TriplesOk l → codeAmong pos l = none → codeAmong pos (l ++ more) = codeAmong pos more := by
  intro l
  fun_induction TriplesOk l with
  | case1 => intro more _ _; rfl
  | case2 a t b u x rest ih =>
    intro more ht h
    simp only [List.cons_append, codeAmong] at h ⊢
    split
    · rename_i hc; rw [if_pos hc] at h; cases h
    · rename_i hc; rw [if_neg hc] at h; exact ih ht h
  | case3 => intro more ht; exact ht.elim

section
variable {prog : Program} {w : World} {A : Around} {E : Value → Shared → Prop} {r s : Shared} {ps fs : Fs}

theorem St.code {B h h' : Heap} {qual : Str} {vs : Array Value} {c' : Addr} {pos : Pos} (D : St B h ps fs) (hx : Heap.ExtBut 37 h h') (hge : h.objs.size ≤ c') (hrec : h'.CodeRec (.ref c') qual)
    (hvs : h.get? 37 = some (X.tableObj vs)) (hT : TabV ps vs) (hnf : codeAmong pos vs.toList = none) (hpos : pos.line = 49 → pos.col = 4 → qual = ("_compose_mro.<locals>.is_related" : Str))
    (ht : h'.get? 37 = some (X.tableObj (vs ++ #[rawInt pos.line, rawInt pos.col, .ref c']))) : St B h' ((c', isCodeQ qual) :: ps) fs := by
  obtain ⟨c₂, oc, vc, t, e2, hoc, hd, hv⟩ := hrec
  cases e2
  have hne : ∀ p ∈ ps ++ fs, p.1 ≠ 37 := fun p hp => (D.ne_low (a := p.1) (P := p.2) hp).2
  refine ⟨⟨D.base.ok, fun b o e h1 h2 => hx b o h2 (D.base.keep b o e h1 h2), ?_, ?_⟩, fun p hp => ?_, fun p hp => ?_, ?_⟩
  · obtain ⟨o, m, e, hc, hn, hk⟩ := D.base.stat
    exact ⟨o, m, hx _ _ (by decide) e, hc, hn, fun key v hkv => (hk key v hkv).mono fun _ => List.mem_cons_of_mem _⟩
  · refine ⟨_, ht, ?_, fun cv hcv => ?_⟩
    · rw [Array.toList_append]; exact TriplesOk_snoc _ _ _ _ hT.1
    · rw [Array.toList_append] at hcv
      cases hold : codeAmong ⟨49, 4, 50, 124⟩ vs.toList with
      | some cv' =>
        rw [among_app hT.1 hold] at hcv
        cases hcv
        obtain ⟨a, e, m⟩ := hT.2 cv hold
        exact ⟨a, e, .tail _ m⟩
      | none =>
        rw [among_none hT.1 hold] at hcv
        simp only [rawInt, codeAmong] at hcv
        split at hcv
        · rename_i hc
          cases hcv
          simp only [Bool.and_eq_true, beq_iff_eq] at hc
          have h1 : pos.line = 49 := by have := hc.1; omega
          have h2 : pos.col = 4 := by have := hc.2; omega
          rw [hpos h1 h2]
          exact ⟨c', rfl, .head _⟩
        · cases hcv
  · rcases List.mem_cons.mp hp with rfl | hp
    · exact ⟨oc, hoc, vc, t, hd, hv⟩
    · obtain ⟨o, e, rr⟩ := D.at_ p hp
      exact ⟨o, hx _ _ (hne p hp) e, rr⟩
  · rcases List.mem_cons.mp hp with rfl | hp
    · exact Nat.le_trans D.base.size hge
    · exact D.new p hp
  · rw [List.cons_append, List.map_cons, List.nodup_cons]
    exact ⟨fun hm => let ⟨p, hp, e⟩ := List.mem_map.mp hm; absurd (D.lt (a := p.1) (P := p.2) hp) (Nat.not_lt.mpr (by rw [e]; exact hge)), D.nd⟩

/-- a def inside the composing function -/
theorem nest {env : Env} {L : Addr} {cells clos : List (Str × Addr)} {name qual : Str} {params : Arguments} {body : List Stmt} {scope : Scope} {pos : Pos} {firstLine : Nat} {Q : Value → Shared → Prop}
    (G : Gnd r.heap) (H : EnvIs env scC L cells) (hcode : env.code = .ref 39) (D : On r s ps fs) (hcl : closureFor scope env = pure clos)
    (hpos : pos.line = 49 → pos.col = 4 → qual = ("_compose_mro.<locals>.is_related" : Str)) (hP : pos.line = 49 → pos.col = 4 → pos = ⟨49, 4, 50, 124⟩)
    (h : ∀ f s' ps' cv, (∀ p ∈ ps, p ∈ ps') → (pos.line = 49 → pos.col = 4 → ∃ c', cv = .ref c' ∧ (c', isCodeQ qual) ∈ ps') → On r s' ps' ((f, isFnO name qual params body scope clos cv) :: fs) → Q (.ref f) s') :
    wpAny (model prog w) A (makeFunction name qual params (.stmts body) scope env [] [] [] pos firstLine) Q E s := by
  obtain ⟨mg, hmg, bm, ob, b1, b2, b3, b4, b5, b6, b7, b8⟩ := G.bmod
  have hg3 := ns_of_base D.st.base (by decide) (by decide) hmg
  obtain ⟨mod, _, hC0, _⟩ := G.code40
  have hC : CodeHd s.heap 39 37 := by
    obtain ⟨o, vs, file, tf, flags, tg, inF, text, tt, e, rr⟩ := hC0
    exact ⟨o, vs, file, tf, flags, tg, inF, text, tt, D.st.base.keep _ _ e (by decide) (by decide), rr⟩
  have hb : s.heap.BuiltinsAt mg 37 := ⟨bm, ob, b1, b2, b3, b4, D.st.base.keep _ _ b5 (G.bmod2 mg bm hmg b1) b4, b6, b7, b8⟩
  obtain ⟨vs, htab, hTV⟩ := D.st.base.tab
  cases hf : codeAmong pos vs.toList with
  | some cv =>
    refine makeFunction_hit hcl H.globals hg3 hcode hC htab hTV.1 hf hb fun ctv doc h' tk hk hsz => ?_
    refine h _ _ ps cv (fun _ z => z) (fun h1 h2 => ?_) (D.with_heap (t := tk) ((D.st.keeps hk).push ⟨doc, _, ctv, rfl⟩))
    rw [hP h1 h2] at hf
    obtain ⟨a, e, m⟩ := hTV.2 cv hf
    rw [hpos h1 h2]
    exact ⟨a, e, m⟩
  | none =>
    refine makeFunction_K hcl H.globals hg3 hcode hC htab hTV.1 hf (by decide) hb fun c' ctv doc h' tk hx hge hlt hrec htb => ?_
    have D' := D.st.code hx hge hrec htab hTV hf hpos htb
    exact h _ _ _ (.ref c') (fun _ => List.mem_cons_of_mem _) (fun _ _ => ⟨c', rfl, .head _⟩) (D.with_heap (t := tk) (D'.push ⟨doc, _, ctv, rfl⟩))
end
end Mine
/-! part MI -/
set_option Elab.async false
set_option maxRecDepth 100000
set_option autoImplicit false
namespace Mine
open PySem PySem.Calls PySem.W PyProof.Rows Builtin Builtin.ObjectAttr Builtin.Getset_descriptor

section
variable {prog : Program} {w : World} {A : Around} {E : Value → Shared → Prop} {s : Shared} {k : Nat}
theorem found_class : findCls [] (cl k) (.type "type") "__class__" = some (.get (.builtin "getset_descriptor.__get__") (.builtin "object.__class__") (cl k) (.type "type")) := by rfl
theorem owner_class : descrOwnerAndName "object.__class__" = ("object", "__class__") := by decide +kernel

theorem getset_road_o {id name : String} {B : Builtin} {tp : Value} {Q : Value → Shared → Prop} (hk : k < 15) (hty : typeOf (.builtin id) = pure (.type "getset_descriptor")) (howner : descrOwnerAndName id = ("object", name)) (hq : plainId id = true) (hen : entryFor table id = some B)
    (h : ∀ A', A'.handled = A.handled → wpAny (model prog w) A' (B ⟨[cl k], []⟩) (fun fin s' => ∃ v, fin = .done (.ret v) ∧ Q v s') E s) :
    wpAny (model prog w) A (call (.builtin "getset_descriptor.__get__") [.builtin id, cl k, tp]) Q E s := by
  refine wpAny_call ?_
  obtain ⟨hh, g, dr, t, os⟩ := s
  have L0 : Looks (model prog w) hh (typeOf (cl k)) (.type "type") := Looks.of_pure (meta_cl k hk)
  have L1 : Looks (model prog w) hh (isSubtype (.type "type") (.type "object")) true := Looks.of_pure (by rw [isSubtype_type]; kernel_rfl)
  refine codeAny_call_builtin KF.slot_gs.plain KF.entry_gs (KF.slot_gs.check _ _ _ _ _ _ _ _ hty (KF.args_gs _ _ _) ?_)
  unfold Builtin.«getset_descriptor.__get__» descrGet
  rw [show descrGetArgs ⟨[.builtin id, cl k, tp], []⟩ = pure (.builtin id, some (cl k), given tp) from dga_mro _ _ _]
  refine wpAny_bind (wpAny_pure ?_)
  unfold descrGetter descrCheckInstance descrNameAndClass isInstance
  simp only [howner]
  repeat lk
  refine ⟨plainId_quiet hq _, codeAny_builtin hen (wpAny_mono (h _ rfl) (fun fin s' hf => ?_) fun _ _ f => f)⟩
  obtain ⟨v, rfl, hv⟩ := hf
  exact hv

theorem ask_class {u : Tok} {Q : Option Value → Shared → Prop} (hk : k < 15) (h : Q (some (.type "type")) s) : wpAny (model prog w) A (getAttrBy? (cl k) (.str "__class__" u)) (fun x s' => x = some (.type "type") ∧ Q x s') E s := by
  unfold getAttrBy? getAttrBy
  refine wpAny_bind (wpAny_attempt (wpAny_holding (wpAny_bind (wpAny_typeOf (Ty.is ⟨k, hk, rfl⟩ s) (wpAny_bind (wpAny_of_eq KF.slot_tga.lookup ?_))))))
  dsimp only
  rw [show (onTheHeap (.type "type") && Value.builtin "type.__getattribute__" == .builtin "object.__getattribute__") = false from rfl, if_neg (by decide)]
  unfold getAttrByItsOwn hookBefore
  rw [if_neg (show ¬ onTheHeap (.type "type") = true from Bool.false_ne_true)]
  refine wpAny_bind (wpAny_pure (wpAny_bind (wpAny_attempt (wpAny_holding ?_))))
  unfold callGetattribute boundAndCalled
  rw [if_neg (show ¬ (false && onTheHeap (.builtin "type.__getattribute__")) = true from Bool.false_ne_true), KF.slot_tga.bind]
  refine wpAny_bind (wpAny_pure ?_)
  refine tga_call hk found_class fun A' _ => ?_
  show wpAny _ _ (do ret (← holding [Value.builtin "object.__class__"] (call (.builtin "getset_descriptor.__get__") [.builtin "object.__class__", cl k, .type "type"]))) _ _ _
  refine wpAny_bind (wpAny_holding (getset_road_o hk F.typeOf_object_class owner_class (by decide +kernel) F.entry_object_class fun A' _ => ?_))
  unfold Builtin.«object.__class__»
  dsimp only
  refine wpAny_bind (m := shownTypeOf (cl k)) ?_
  unfold shownTypeOf
  refine wpAny_bind (wpAny_typeOf (Ty.is ⟨k, hk, rfl⟩ s) ?_)
  rw [if_neg (by decide)]
  refine wpAny_pure (wpAny_pure ⟨_, rfl, ?_⟩)
  exact wpAny_pure (wpAny_pure (wpAny_pure ⟨rfl, h⟩))
theorem class_attr (hk : k < 15) {Q : Option Value → Shared → Prop} (hq : Q (some (.type "type")) { s with toks := s.toks + 1 }) : wpAny (model prog w) A (getAttr? (cl k) "__class__") Q E s := by
  unfold getAttr?
  refine wpAny_bind (wpAny_mkText ?_)
  exact wpAny_mono (ask_class hk hq) (fun _ _ z => z.2) fun _ _ z => z

namespace MF
theorem meta_alias : typeOf (.type "types.GenericAlias") = pure (.type "type") := by kernel_rfl
theorem sub_type_alias : isSubtype (.type "type") (.type "types.GenericAlias") = pure false := by rw [isSubtype_type]; kernel_rfl
theorem kind_issub : builtinKind "issubclass" = none := by decide +kernel
theorem plain_issub : plainId "issubclass" = true := by decide +kernel
theorem entry_issub : entryFor table "issubclass" = some Builtin.«issubclass» := entryFor_of_tree (by kernel_rfl)
theorem entry_issubn : entryFor table "issubclass.nested" = some Builtin.«issubclass.nested» := entryFor_of_tree (by kernel_rfl)
theorem args_issub (a b : Value) : argsOk "issubclass" ⟨[a, b], []⟩ := by unfold argsOk; kernel_rfl
end MF

/-- isinstance(class, GenericAlias) -/
theorem not_alias (hk : k < 15) {Q : Value → Shared → Prop} (h : ∀ s' : Shared, s'.heap = s.heap → s'.gens = s.gens → s'.os = s.os → Q (.bool false) s') : wpAny (model prog w) A (call (.builtin "isinstance") [cl k, .type "types.GenericAlias"]) Q E s := by
  refine call_isinstance (S := fun A R s' => ∀ t, R (.ok (.ret (.bool false))) { s' with toks := t }) (fun prog' w' A' R s' hs => ?_) (fun t => ?_)
  · refine isinstance_outer ?_
    have h1 : typeOf (cl k) = pure (.type "type") := meta_cl k hk
    have h2 : (Value.type "type" == Value.type "types.GenericAlias") = false := by decide
    have h3 := MF.meta_alias
    have h4 := MF.sub_type_alias
    obtain ⟨hp, g, d, t, os⟩ := s'
    have hs' := hs (t + 1)
    clear hs
    repeat (any_goals (first | assumption | (with_reducible refine class_attr hk ?_) | wp_step))
  · exact h _ rfl rfl rfl

theorem sub_no : ∀ k, k < 15 → ∀ j, j < 15 → j ∉ way k → isSubtype (cl k) (cl j) = pure false := by
  have key : ∀ k, k < 15 → ∀ j, j < 15 → j ∉ way k → ((way k).map cl).contains (cl j) = false := by
    intro k hk j hj hn
    rw [Bool.eq_false_iff]
    intro h
    rw [List.contains_iff_mem] at h
    obtain ⟨i, hi, e⟩ := List.mem_map.mp h
    exact hn (cl_inj ((way_len k hk).2.2.1 i hi) hj e ▸ hi)
  intro k hk j hj hn
  unfold isSubtype
  rw [mro_cl k hk]
  simp only [pure_bind]
  have := key k hk j hj hn
  show pure (((way k).map cl).contains (cl j)) = pure false
  rw [this]

/-- issubclass(class, another) when it is not on the way up -/
theorem not_sub {j : Nat} (hk : k < 15) (hj : j < 15) (hn : j ∉ way k) {Q : Value → Shared → Prop} (h : Q (.bool false) s) : wpAny (model prog w) A (call (.builtin "issubclass") [cl k, cl j]) Q E s := by
  refine call_function_meets MF.kind_issub MF.plain_issub MF.entry_issub (MF.args_issub _ _) (S := fun A R s' => R (.ok (.ret (.bool false))) s') (fun prog' w' A' R s' hs => ?_) h
  have h1 : typeOf (cl j) = pure (.type "type") := meta_cl j hj
  have h2 := sub_no k hk j hj hn
  unfold Builtin.«issubclass»
  refine wpAny_bind (m := someArgs "issubclass" 2 2 _) (wpAny_pure ?_)
  refine wpAny_pure ⟨Code.quiet_builtin _ (by decide +kernel), codeAny_builtin MF.entry_issubn ?_⟩
  rw [Around.under_plain (show (Code.builtin "issubclass.nested" ⟨[cl k, cl j, rawInt 0], []⟩).weight = 0 from rfl) rfl]
  unfold Builtin.«issubclass.nested»
  refine wpAny_bind (wpAny_of_eq h1 ?_)
  rw [if_pos (by decide)]
  refine wpAny_bind (wpAny_of_eq (a := false) h2 ?_)
  exact wpAny_pure hs
end
end Mine
/-! part M29 -/
set_option Elab.async false
set_option maxRecDepth 100000
set_option autoImplicit false
namespace Mine
open PySem PySem.Calls PySem.W PyProof.Rows Builtin
local macro_rules | `(tactic| walk_at "mem") => `(tactic| first | exact List.Mem.head _ | (refine List.Mem.tail _ ?_; (walk_at "mem")))

def sR : Stmt := nth (bodyOf (stOf 5)) 1
def qR : Str := "_compose_mro.<locals>.is_related"

theorem key_ty {n : Nat} (hn : n < 15) : (Key.ty n).is (cl n) = true := by show (decide (n < 15) && (cl n == cl n)) = true; simp [hn]
theorem key_int {i : Int} {t : Tok} : (Key.int i).is (.int i t) = true := by show (i == i) = true; simp

section
variable {prog : Program} {w : World} {A : Around} {E : Value → Shared → Prop} {r s : Shared} {ps fs : Fs} {k n : Nat}

theorem related (hA : AOk A (n + 1)) (G : Gnd r.heap) (hk : k < 15) {f c' cB cC S : Addr} {x : Value} {Q : Value → Shared → Prop} (D : On r s ps fs)
    (hf : (f, isFnO "is_related" qR (argsOf sR) (bodyOf sR) (scopeOf sR) [("cls", cC), ("bases", cB)] (.ref c')) ∈ fs) (hc : (c', isCodeQ qR) ∈ ps)
    (hB : (cB, isC (some (.ref S))) ∈ fs) (hC : (cC, isC (some (cl k))) ∈ fs) (hS : (S, isS w (way k)) ∈ fs) (hx : (∃ i t, x = .int i t) ∨ Ty x)
    (h : ∀ s' ps', (∀ p ∈ ps, p ∈ ps') → On r s' ps' fs → Q (.bool false) s') : wpAny (model prog w) A (call (.ref f) [x]) Q E s := by
  obtain ⟨o, ho, doc, pm, ctv, hd⟩ := D.st.get (mem_r hf)
  obtain ⟨oc, hoc, vs, t, hdc, hv⟩ := D.st.get (mem_l hc)
  refine call_fn (binds := [("typ", x)]) D hA.room ⟨o, ho, hd⟩ ⟨c', oc, vs, t, rfl, hoc, hdc, hv⟩ rfl (BindsTo.of_eq rfl) rfl rfl (by show ∀ x ∈ (scopeOf sR).names, _; decide) (by intro y hy; rw [List.mem_singleton.mp hy]; rfl) (by simp) (fun env L s H D => ?_) rfl rfl rfl
  have hA' := hA.deeper env
  have hne : way k ≠ [] := (way_len k hk).2.1
  have fin : ∀ {Q' : Flow → Shared → Prop} {E' : Value → Shared → Prop}, (∀ s' ps', (∀ p ∈ ps, p ∈ ps') → On r s' ps' fs → Q' (.ret (.bool false)) s') → wpAny (model prog w) (A.deeper env) (execs (bodyOf sR) env) Q' E' s := by
    intro Q' E' h'
    have done : ∀ {s' : Shared} {ps' : Fs} {l : List (Str × Value)}, (∀ p ∈ ps, p ∈ ps') → On r s' ps' ((L, loc l) :: fs) → Q' (.ret (.bool false)) s' := fun hps D => h' _ _ hps (D.rid 0)
    refine wpAny_execs_cons (wpAny_Return_some ?_)
    refine BoolOp_and (wpAny_Compare1 ?_)
    refine ev_local H D (by walk_at "mem") (by walk_at "mem") rfl rfl ?_
    refine ev_free H D rfl (.tail _ hB) rfl rfl ?_
    rcases hx with ⟨i, tk, rfl⟩ | ⟨j, hj, rfl⟩
    · refine not_in_set D (mem_r (.tail _ hS)) (kx := .int i) key_int (.inr hne) fun s b D hb => ?_
      cases b with
      | false => obtain ⟨n, e, _⟩ := hb.mp rfl; cases e
      | true =>
        refine wpAny_truthy_bool ?_
        simp only [if_true]
        refine BoolOp_and ?_
        refine c2 (fun Q' hq => ev_blt H D G.hasattr rfl rfl hq) ?_
        refine ev_local H D (by walk_at "mem") (by walk_at "mem") rfl rfl ?_
        refine wpAny_Constant_str ?_
        refine hasattr_int hA'.handled D.tok fun s D => ?_
        refine wpAny_truthy_bool ?_
        simp only [Bool.false_eq_true, if_false]
        exact done (fun _ z => z) D
    · refine not_in_set D (mem_r (.tail _ hS)) (kx := .ty j) (key_ty hj) (.inl ⟨j, rfl⟩) fun s b D hb => ?_
      cases b with
      | false =>
        refine wpAny_truthy_bool ?_
        simp only [Bool.false_eq_true, if_false]
        exact done (fun _ z => z) D
      | true =>
        have hjn : j ∉ way k := fun hm => Bool.noConfusion (hb.mpr ⟨j, rfl, hm⟩)
        refine wpAny_truthy_bool ?_
        simp only [if_true]
        refine BoolOp_and ?_
        refine c2 (fun Q' hq => ev_blt H D G.hasattr rfl rfl hq) ?_
        refine ev_local H D (by walk_at "mem") (by walk_at "mem") rfl rfl ?_
        refine wpAny_Constant_str ?_
        refine hasattr_mro hj D.tok fun s ps1 hps D => ?_
        refine wpAny_truthy_bool ?_
        simp only [if_true]
        refine BoolOp_and (wpAny_UnaryOp ?_)
        refine c2 (fun Q' hq => ev_blt H D G.isinstance rfl rfl hq) ?_
        refine ev_local H D (by walk_at "mem") (by walk_at "mem") rfl rfl ?_
        refine ev_glob H D G.galias rfl rfl ?_
        refine not_alias hj fun s' e1 e2 e3 => ?_
        have D : On r s' ps1 ((L, loc [("typ", cl j)]) :: fs) := ⟨by rw [e1]; exact D.st, by rw [e2]; exact D.gens, by rw [e3]; exact D.os⟩
        refine not_value (wpAny_truthy_bool ?_)
        refine wpAny_truthy_bool ?_
        simp only [Bool.not_false, if_true]
        refine BoolOp_one ?_
        refine c2 (fun Q' hq => ev_blt H D G.issubclass rfl rfl hq) ?_
        refine ev_free H D rfl (.tail _ hC) rfl rfl ?_
        refine ev_local H D (by walk_at "mem") (by walk_at "mem") rfl rfl ?_
        exact not_sub hk hj hjn (done hps D)
  exact fin fun s' ps' hps D => h s' ps' hps D
end
end Mine
/-! part M30 -/
set_option Elab.async false
set_option maxRecDepth 100000
set_option autoImplicit false
namespace Mine
open PySem PySem.Calls PySem.W PyProof.Rows Builtin
local macro_rules | `(tactic| walk_at "mem") => `(tactic| first | exact List.Mem.head _ | (refine List.Mem.tail _ ?_; (walk_at "mem")))
local macro_rules | `(tactic| walk_at "sub") => `(tactic| first | exact List.forall_mem_nil _ | (refine List.forall_mem_cons.mpr ⟨?_, ?_⟩; (walk_at "mem"); (walk_at "sub")))

def Has (need ps fs : Fs) : Prop := ∀ p ∈ need, p ∈ ps ++ fs
theorem Has.mono {need ps ps' fs fs' : Fs} (x : Has need ps fs) (h1 : ∀ p ∈ ps, p ∈ ps') (h2 : ∀ p ∈ fs, p ∈ fs') : Has need ps' fs' := fun p hp =>
  (List.mem_append.mp (x p hp)).elim (fun q => List.mem_append_left _ (h1 p q)) fun q => List.mem_append_right _ (h2 p q)
/-- what a comprehension can walk over -/
def Walkable (prog : Program) (w : World) (r : Shared) (tv : Value) (items : List Value) (need : Fs) : Prop :=
  ∀ {A : Around} {E : Value → Shared → Prop} {s : Shared} {ps fs : Fs} {Q : Value → Shared → Prop}, A.handled = none → On r s ps fs → Has need ps fs →
    (∀ I It J s', Src prog w A r I It items J → On r s' ps ((I, It 0) :: fs) → (∀ i ps' fs', Has need ps' fs' → J i ps' fs') → Q (.ref I) s') → wpAny (model prog w) A (pyIter tv) Q E s

section
variable {prog : Program} {w : World} {A : Around} {E : Value → Shared → Prop} {r s : Shared} {ps fs : Fs} {env : Env} {k n : Nat}

theorem walk_list {a : Addr} {xs : List Value} : Walkable prog w r (.ref a) xs [(a, isL xs)] := fun {A E s ps fs Q} hA D hn h =>
  it_list D (hn _ (.head _)) fun I s' D' => h I (isLI a) (fun _ ps fs => (a, isL xs) ∈ ps ++ fs) s' (src_list hA) D' fun _ _ _ hm => hm _ (.head _)

theorem qual_in {env : Env} {L : Addr} {cells : List (Str × Addr)} (H : EnvIs env scC L cells) (hq : env.qual = nameOf (stOf 5) ++ ".<locals>.") {x : Str} (hx : scC.names.lookup x = some .cell) : qualnameIn env x x = (nameOf (stOf 5) ++ ".<locals>.") ++ x := by
  unfold qualnameIn
  rw [H.kind hx, hq]
  rfl

theorem closure_one {env : Env} {sc : Scope} {cells : List (Str × Addr)} {L c : Addr} {sc0 : Scope} {x y : Str} (H : EnvIs env sc0 L cells) (hc : cells.lookup x = some c) (hn : sc.names = [((".0" : Str), NameKind.local), (y, NameKind.local), (x, NameKind.free)]) : closureFor sc env = pure [(x, c)] := by
  have e : cellOf env x = pure c := by unfold cellOf; rw [H.cells, hc]
  unfold closureFor
  rw [hn]
  simp only [List.forIn_cons, List.forIn_nil, show (NameKind.local == NameKind.free) = false from rfl, show (NameKind.free == NameKind.free) = true from rfl, Bool.false_eq_true, if_false, if_true, e, pure_bind]

theorem way_nodup : ∀ k, k < 15 → (way k).Nodup := by decide +kernel

variable {L cB cTS cSB cR cT cC : Addr}
abbrev cellsC (cB cTS cSB cR cT cC : Addr) : List (Str × Addr) := [("bases", cB), ("type_set", cTS), ("is_strict_base", cSB), ("is_related", cR), ("types", cT), ("cls", cC)]

/-- the first three statements: types is an empty list -/
theorem compose_s1 (hA : AOk A (n + 2)) (hk : k < 15) (G : Gnd r.heap) (H : EnvIs env scC L (cellsC cB cTS cSB cR cT cC)) (hcode : env.code = .ref 39) (hq : env.qual = nameOf (stOf 5) ++ ".<locals>.")
    {tv : Value} {items : List Value} {need : Fs} {Q : Flow → Shared → Prop} {rest : List Stmt} (W : Walkable prog w r tv items need) (hn : Has need ps fs) (hit : ∀ x ∈ items, (∃ i t, x = .int i t) ∨ Ty x) (hlen : items.length ≤ 100000)
    (D : On r s ps ((L, loc []) :: (cB, isC none) :: (cTS, isC none) :: (cSB, isC none) :: (cR, isC none) :: (cT, isC (some tv)) :: (cC, isC (some (cl k))) :: fs))
    (h : ∀ s' ps' T S f vR, (∀ p ∈ ps, p ∈ ps') → On r s' ps' ((T, isL []) :: (L, loc []) :: (cB, isC (some (.ref S))) :: (cTS, isC none) :: (cSB, isC none) :: (cR, isC (some (.ref f))) :: (cT, isC (some (.ref T))) :: (cC, isC (some (cl k))) :: (f, vR) :: (S, isS w (way k)) :: fs) →
      wpAny (model prog w) A (execs rest env) Q E s') :
    wpAny (model prog w) A (execs ((bodyOf (stOf 5)).take 3 ++ rest) env) Q E s := by
  -- bases = set(cls.__mro__)
  refine wpAny_execs_cons (wpAny_Assign_Name ?_)
  refine c1 (.inr ⟨_, rfl⟩) (fun Q' hq => ev_blt H D G.set rfl rfl hq) ?_
  refine Attribute_Name_ (ev_cell H D rfl (by walk_at "mem") rfl rfl (attr_mro hk D fun t s ps1 hps1 ht D => ?_))
  refine set_of hA.handled D ht (way_len k hk).2.2.1 (way_nodup k hk) (way_len k hk).1 fun S s D => ?_
  refine st_cell (i := 2) H D rfl rfl rfl rfl fun s D => ?_
  -- def is_related
  refine wpAny_execs_cons ?_
  refine nestDef_K rfl rfl rfl ?_
  rw [qual_in H hq rfl]
  refine nest (clos := [("cls", cC), ("bases", cB)]) G H hcode D ?hcl (fun _ _ => by decide) (fun _ _ => rfl) fun f s ps2 cv hps2 hcv D => ?_
  case hcl =>
    have e1 : cellOf env "bases" = pure cB := by unfold cellOf; rw [H.cells]; rfl
    have e2 : cellOf env "cls" = pure cC := by unfold cellOf; rw [H.cells]; rfl
    unfold closureFor
    show (do
      let cs ← forIn [(("typ" : Str), NameKind.local), (("bases" : Str), NameKind.free), (("cls" : Str), NameKind.free), (("hasattr" : Str), NameKind.globalImplicit), (("isinstance" : Str), NameKind.globalImplicit), (("GenericAlias" : Str), NameKind.globalImplicit), (("issubclass" : Str), NameKind.globalImplicit)] ([] : List (Str × Addr)) _
      pure cs) = _
    simp only [List.forIn_cons, List.forIn_nil, show (NameKind.local == NameKind.free) = false from rfl, show (NameKind.globalImplicit == NameKind.free) = false from rfl, show (NameKind.free == NameKind.free) = true from rfl, Bool.false_eq_true, if_false, if_true, e1, e2, pure_bind]
  obtain ⟨c', rfl, hc'⟩ := hcv rfl rfl
  have hc' : (c', isCodeQ qR) ∈ ps2 := hc'
  refine st_cell (i := 6) H D rfl rfl rfl rfl fun s D => ?_
  -- types = [n for n in types if is_related(n)]
  generalize hfC : (f, isFnO "is_related" qR (argsOf sR) (bodyOf sR) (scopeOf sR) [("cls", cC), ("bases", cB)] (.ref c')) = eF
  have D : On r s ps2 (eF :: (S, isS w (way k)) :: (L, loc []) :: (cB, isC (some (.ref S))) :: (cTS, isC none) :: (cSB, isC none) :: (cR, isC (some (.ref f))) :: (cT, isC (some tv)) :: (cC, isC (some (cl k))) :: fs) := by rw [← hfC]; exact D
  have hps : ∀ p ∈ ps, p ∈ ps2 := fun p hp => hps2 p (hps1 p hp)
  refine wpAny_execs_cons (wpAny_Assign_Name ?_ (swaps_listComp_no H rfl))
  refine comp_value (r := r) (cl := [("is_related", cR)]) H (closure_one H rfl rfl) (by decide) rfl (by decide) rfl ?_
  refine ev_cell H D rfl (by walk_at "mem") rfl rfl ?_
  have hsub : ∀ p ∈ fs, p ∈ eF :: (S, isS w (way k)) :: (L, loc []) :: (cB, isC (some (.ref S))) :: (cTS, isC none) :: (cSB, isC none) :: (cR, isC (some (.ref f))) :: (cT, isC (some tv)) :: (cC, isC (some (cl k))) :: fs :=
    fun p hp => .tail _ (.tail _ (.tail _ (.tail _ (.tail _ (.tail _ (.tail _ (.tail _ (.tail _ hp))))))))
  refine W hA.handled D (hn.mono hps hsub) fun I It J s Sc D hJ => ?_
  refine ⟨I, It, items, J, fun i ps' fs' acc => (∀ p ∈ ps2, p ∈ ps') ∧ fs' = eF :: (S, isS w (way k)) :: (L, loc []) :: (cB, isC (some (.ref S))) :: (cTS, isC none) :: (cSB, isC none) :: (cR, isC (some (.ref f))) :: (cT, isC (some tv)) :: (cC, isC (some (cl k))) :: fs ∧ acc = [],
    ps2, _, rfl, Sc, ?_, hlen, ?_, D, ⟨fun _ z => z, rfl, rfl⟩, ?_⟩
  · rintro i ps' fs' acc ⟨h1, rfl, rfl⟩
    exact ⟨hJ i _ _ (hn.mono (fun p hp => h1 p (hps p hp)) hsub), Nat.zero_le _⟩
  · rintro i v acc s ps' fs' cenv C D' Hc hv ⟨h1, rfl, rfl⟩ D
    refine wpAny_tests_one (wpAny_isTrue_value ?_)
    have hmemF : eF ∈ (C, loc [("n", v)]) :: (D', isL []) :: (I, It (i + 1)) :: eF :: (S, isS w (way k)) :: (L, loc []) :: (cB, isC (some (.ref S))) :: (cTS, isC none) :: (cSB, isC none) :: (cR, isC (some (.ref f))) :: (cT, isC (some tv)) :: (cC, isC (some (cl k))) :: fs := by walk_at "mem"
    have hmF : (f, isFnO "is_related" qR (argsOf sR) (bodyOf sR) (scopeOf sR) [("cls", cC), ("bases", cB)] (.ref c')) ∈ (C, loc [("n", v)]) :: (D', isL []) :: (I, It (i + 1)) :: eF :: (S, isS w (way k)) :: (L, loc []) :: (cB, isC (some (.ref S))) :: (cTS, isC none) :: (cSB, isC none) :: (cR, isC (some (.ref f))) :: (cT, isC (some tv)) :: (cC, isC (some (cl k))) :: fs := by rw [hfC]; exact hmemF
    obtain ⟨o, ho, doc, pm, ctv, hd⟩ := D.st.get (mem_r hmF)
    refine f1 (a := f) (o := o) (fun Q' hq => ev_cell Hc D rfl (by walk_at "mem") (relabel_cell (by rw [H.scope]; rfl) (H.kind rfl) rfl) rfl hq) ⟨_, hd⟩ ?_
    refine ev_local Hc D (by walk_at "mem") (by walk_at "mem") (lookup_relabel_local rfl) rfl ?_
    refine ⟨ho, ?_⟩
    refine related (n := n) (hA.less (by omega)) G hk D hmF (h1 _ hc') (by walk_at "mem") (by walk_at "mem") (by walk_at "mem") (hit v (List.mem_of_getElem? hv)) fun s' ps3 h3 D => ?_
    refine wpAny_truthy_bool ?_
    simp only [Bool.false_eq_true, if_false]
    exact ⟨ps3, _, _, D, fun p hp => h3 p (h1 p hp), rfl, trivial⟩
  · rintro acc s ps' fs' T ⟨h1, rfl, rfl⟩ D
    refine st_cell (i := 8) H D rfl rfl rfl rfl fun s D => ?_
    rw [← hfC] at D
    refine h s ps' T S f (isFnO "is_related" qR (argsOf sR) (bodyOf sR) (scopeOf sR) [("cls", cC), ("bases", cB)] (.ref c')) (fun p hp => h1 p (hps p hp)) ?_
    exact (((((((D.bring 9 rfl).bring 9 rfl).bring 9 rfl).bring 9 rfl).bring 9 rfl).bring 9 rfl).bring 9 rfl).bring 7 rfl
end
end Mine
/-! part M31 -/
set_option Elab.async false
set_option maxRecDepth 100000
set_option autoImplicit false
namespace Mine
open PySem PySem.Calls PySem.W PyProof.Rows Builtin
local macro_rules | `(tactic| walk_at "mem") => `(tactic| first | exact List.Mem.head _ | (refine List.Mem.tail _ ?_; (walk_at "mem")))
local macro_rules | `(tactic| walk_at "sub") => `(tactic| first | exact List.forall_mem_nil _ | (refine List.forall_mem_cons.mpr ⟨?_, ?_⟩; (walk_at "mem"); (walk_at "sub")))

section
variable {prog : Program} {w : World} {A : Around} {E : Value → Shared → Prop} {r s : Shared} {ps fs : Fs} {env : Env} {k n : Nat}
variable {L cB cTS cSB cR cT cC : Addr}

/-- a comprehension over an empty list, as a value -/
theorem comp_empty {elt iter : PySem.Expr} {x : Str} {px pos : Pos} {ifs : List PySem.Expr} {scope : Scope} {cells cl' : List (Str × Addr)} {sc : Scope} {a : Addr} {Q : Value → Shared → Prop} (hA : A.handled = none)
    (H : EnvIs env sc L cells) (hclos : closureFor scope env = pure cl') (hcell : ∀ y ∈ scope.names, y.2 ≠ .cell) (hkind : scope.kind = .function) (hnames : ∀ y ∈ scope.names, y.2 = .local → scope.names.lookup y.1 = some .local) (hx : scope.names.lookup x = some .local)
    (D : On r s ps fs) (hm : (a, isL []) ∈ ps ++ fs)
    (hi : ∀ Q' : Value → Shared → Prop, Q' (.ref a) s → wpAny (model prog w) A (eval iter env) Q' E s)
    (h : ∀ d s', On r s' ps ((d, isL []) :: fs) → Q (.ref d) s')
    (hs : ∀ x, foldedSetIterable iter env x = pure x := by intro _; rfl) :
    wpAny (model prog w) A (eval (.ListComp elt [⟨.Name x px, iter, ifs, 0⟩] scope pos) env) Q E s := by
  refine comp_value (r := r) (cl := cl') H hclos hcell hkind hnames hx ?_ hs
  refine hi _ ?_
  refine it_list D hm fun I s D => ?_
  refine ⟨I, isLI a, [], fun _ ps fs => (a, isL []) ∈ ps ++ fs, fun i ps' fs' acc => ps' = ps ∧ fs' = fs ∧ acc = [], ps, fs, rfl, src_list hA, ?_, by simp, ?_, D, ⟨rfl, rfl, rfl⟩, ?_⟩
  · rintro i ps' fs' acc ⟨rfl, rfl, rfl⟩; exact ⟨hm, Nat.zero_le _⟩
  · intro i v acc s ps' fs' cenv C D' _ hv; simp at hv
  · rintro acc s ps' fs' D' ⟨rfl, rfl, rfl⟩ D
    exact h D' s D

/-- the rest of the composing function -/
theorem compose_s2 (hA : AOk A (k + 2)) (hk : k < 15) (G : Gnd r.heap) (H : EnvIs env scC L (cellsC cB cTS cSB cR cT cC)) (hcode : env.code = .ref 39) (hq : env.qual = nameOf (stOf 5) ++ ".<locals>.")
    {T : Addr} {vB vR : Option Value} {Q : Flow → Shared → Prop}
    (D : On r s ps ((T, isL []) :: (L, loc []) :: (cB, isC vB) :: (cTS, isC none) :: (cSB, isC none) :: (cR, isC vR) :: (cT, isC (some (.ref T))) :: (cC, isC (some (cl k))) :: fs))
    (h : ∀ R s' ps', (∀ p ∈ ps, p ∈ ps') → On r s' ps' ((R, isL ((way k).map cl)) :: fs) → Q (.ret (.ref R)) s') :
    wpAny (model prog w) A (execs ((bodyOf (stOf 5)).drop 3) env) Q E s := by
  -- def is_strict_base
  refine wpAny_execs_cons ?_
  refine nestDef_K rfl rfl rfl ?_
  rw [qual_in H hq rfl]
  refine nest (clos := [("types", cT)]) G H hcode D ?hcl (fun h1 => absurd h1 (by decide)) (fun h1 => absurd h1 (by decide)) fun f s ps1 cv hps1 _ D => ?_
  case hcl =>
    have e1 : cellOf env "types" = pure cT := by unfold cellOf; rw [H.cells]; rfl
    unfold closureFor
    show (do
      let cs ← forIn [(("typ" : Str), NameKind.local), (("other" : Str), NameKind.local), (("types" : Str), NameKind.free)] ([] : List (Str × Addr)) _
      pure cs) = _
    simp only [List.forIn_cons, List.forIn_nil, show (NameKind.local == NameKind.free) = false from rfl, show (NameKind.free == NameKind.free) = true from rfl, Bool.false_eq_true, if_false, if_true, e1, pure_bind]
  have D := D.rid 0
  refine st_cell (i := 4) H D rfl rfl rfl rfl fun s D => ?_
  -- types = [n for n in types if not is_strict_base(n)]
  refine wpAny_execs_cons (wpAny_Assign_Name ?_ (swaps_listComp_no H rfl))
  refine comp_empty (a := T) hA.handled H (closure_one (x := "is_strict_base") H rfl rfl) (by decide) rfl (by decide) rfl D (mem_r (by walk_at "mem")) (fun Q' hq => ev_cell H D rfl (by walk_at "mem") rfl rfl hq) fun T2 s D => ?_
  refine st_cell (i := 7) H D rfl rfl rfl rfl fun s D => ?_
  -- type_set = set(types)
  refine wpAny_execs_cons (wpAny_Assign_Name ?_)
  refine c1 (.inr ⟨_, rfl⟩) (fun Q' hq => ev_blt H D G.set rfl rfl hq) ?_
  refine ev_cell H D rfl (by walk_at "mem") rfl rfl ?_
  refine set_none hA.handled D (mem_r (by walk_at "mem")) fun S2 s D => ?_
  refine st_cell (i := 5) H D rfl rfl rfl rfl fun s D => ?_
  -- mro = []
  refine wpAny_execs_cons (wpAny_Assign_Name (List_ (wpAny_items_nil ?_)))
  refine new_list D (by decide) fun M s D => ?_
  refine st_keep [] (i := 4) H D rfl rfl rfl (by walk_at "sub") rfl fun s D => ?_
  -- for typ in types
  refine wpAny_execs_cons ?_
  refine for_none hA.handled D (mem_r (p := (T2, isL [])) (by walk_at "mem")) (fun Q' hq => ev_cell H D rfl (by walk_at "mem") rfl rfl hq) fun s D => ?_
  -- return _c3_mro(cls, abcs=mro)
  refine wpAny_execs_cons (wpAny_Return_some ?_)
  obtain ⟨o, hfd, hdef⟩ := D.def G.f35
  refine fk (fun Q' hq => ev_glob H D G.mro rfl rfl hq) hfd ?_
  refine ev_cell H D rfl (by walk_at "mem") rfl rfl ?_
  refine ev_local H D (by walk_at "mem") (by walk_at "mem") rfl rfl ?_
  refine ⟨hdef D, mro_ok (prog := prog) (w := w) G k hk hA D (mem_r (.head _)) fun R s ps2 hps2 D => ?_⟩
  refine h R s ps2 (fun p hp => hps2 p (hps1 p hp)) ?_
  exact D.sub (.cons_cons _ (.cons _ (.cons _ (.cons _ (.cons _ (.cons _ (.cons _ (.cons _ (.cons _ (.cons _ (.cons _ (.cons _ (.refl _)))))))))))))

/-- _compose_mro(cl k, types) -/
theorem compose (hA : AOk A (k + 3)) (hk : k < 15) (G : Gnd r.heap) {tv : Value} {items : List Value} {need : Fs} {Q : Value → Shared → Prop} (W : Walkable prog w r tv items need) (hn : Has need ps fs)
    (hit : ∀ x ∈ items, (∃ i t, x = .int i t) ∨ Ty x) (hlen : items.length ≤ 100000) (D : On r s ps fs)
    (h : ∀ R s' ps', (∀ p ∈ ps, p ∈ ps') → On r s' ps' ((R, isL ((way k).map cl)) :: fs) → Q (.ref R) s') :
    wpAny (model prog w) A (call (.ref 40) [cl k, tv] []) Q E s := by
  obtain ⟨mod, hfn0, hC0, hcd0⟩ := G.code40
  have hfn : FnAt s.heap 40 (mkFn 5 .none mod 39) := let ⟨o, e, d⟩ := hfn0; ⟨o, D.st.base.keep _ _ e (by decide) (by decide), d⟩
  have hcd := hcd0.rec D.st.base
  refine call_fnK (binds := [("cls", cl k), ("types", tv)]) (cs := fun n => [("bases", n + 5), ("type_set", n + 4), ("is_strict_base", n + 3), ("is_related", n + 2), ("types", n + 1), ("cls", n)]) (l := [])
    (cm := fun y => if y = "types" then some tv else if y = "cls" then some (cl k) else none)
    D hA.room hfn hcd rfl (BindsTo.of_eq rfl) rfl rfl rfl (fun n => rfl) (fun n => by show List.Nodup [("bases" : Str), "type_set", "is_strict_base", "is_related", "types", "cls"]; decide) ?_ (fun p hp => nomatch hp) rfl (fun env L s H hcode hq _ D => ?_) rfl rfl rfl
  · intro n x hx
    rcases List.mem_cons.mp hx with rfl | hx
    · exact .inr ⟨rfl, rfl⟩
    · rw [List.mem_singleton.mp hx]; exact .inr ⟨rfl, rfl⟩
  · generalize hb : L + 1 + 5 = cB at *
    generalize hts : L + 1 + 4 = cTS at *
    generalize hsb : L + 1 + 3 = cSB at *
    generalize hr : L + 1 + 2 = cR at *
    generalize ht : L + 1 + 1 = cT at *
    generalize hc : L + 1 = cC at *
    have hA' : AOk (A.deeper env) (k + 2) := hA.deeper env
    have e : bodyOf (stOf 5) = (bodyOf (stOf 5)).take 3 ++ (bodyOf (stOf 5)).drop 3 := rfl
    have go : ∀ Q' : Flow → Shared → Prop, (∀ R s' ps', (∀ p ∈ ps, p ∈ ps') → On r s' ps' ((R, isL ((way k).map cl)) :: fs) → Q' (.ret (.ref R)) s') → wpAny (model prog w) (A.deeper env) (execs (bodyOf (stOf 5)) env) Q' (fun _ _ => False) s := by
      intro Q' h'
      rw [e]
      refine compose_s1 (n := k) hA' hk G H hcode hq W hn hit hlen D fun s ps1 T S f vR h1 D => ?_
      refine compose_s2 hA' hk G H hcode hq (fs := (f, vR) :: (S, isS w (way k)) :: fs) D fun R s ps2 h2 D => ?_
      exact h' R s ps2 (fun p hp => h2 p (h1 p hp)) (D.sub (.cons_cons _ (.cons _ (.cons _ (.refl _)))))
    exact go _ fun R s ps' hps D => h R s ps' hps D
end
end Mine
/-! part M32 -/
set_option Elab.async false
set_option maxRecDepth 100000
set_option autoImplicit false
namespace Mine
open PySem PySem.Calls PySem.W PyProof.Rows Builtin
local macro_rules | `(tactic| walk_at "mem") => `(tactic| first | exact List.Mem.head _ | (refine List.Mem.tail _ ?_; (walk_at "mem")))
local macro_rules | `(tactic| walk_at "sub") => `(tactic| first | exact List.forall_mem_nil _ | (refine List.forall_mem_cons.mpr ⟨?_, ?_⟩; (walk_at "mem"); (walk_at "sub")))

section
variable (prog : Program) (w : World)
def isD (kvs : List (Key × Value)) : Pr := fun o => o.IsDictOf (keyKind prog w) kvs
def isDE (kvs : List (Key × Value)) (ep : Nat) : Pr := fun o => ∃ es, o.ExactDict ∧ o.data = .dict es ep ∧ PySem.KeysOf (keyKind prog w) es ∧ Pairs (keyKind prog w) es.toList kvs ∧ (kvs.map (·.1)).Nodup
end
def isKV (d : Addr) : Pr := fun o => o.cls = .type "dict_keys" ∧ o.data = .fields #[.ref d]
def isKI (d : Addr) (n ep i : Nat) : Pr := fun o => o.cls = .type "dict_keyiterator" ∧ o.data = .fields #[.ref d, .int i 0, .int n 0, .int ep 0]

section
variable {prog : Program} {w : World} {A : Around} {E : Value → Shared → Prop} {r s : Shared} {ps fs : Fs} {env : Env} {k n : Nat} {d : Addr} {kvs : List (Key × Value)}

theorem St.dictOf {B h : Heap} (D : St B h ps fs) (hm : (d, isD prog w kvs) ∈ ps ++ fs) : h.DictOf (keyKind prog w) d kvs := Heap.dictOf_iff.mpr (D.get hm)
theorem St.dictAt {B h : Heap} {ep : Nat} (D : St B h ps fs) (hm : (d, isDE prog w kvs ep) ∈ ps ++ fs) : h.DictAt (keyKind prog w) d kvs ep := let ⟨o, e, es, rr⟩ := D.get hm; ⟨o, es, e, rr⟩
theorem isDE_D {ep : Nat} : ∀ o, isDE prog w kvs ep o → isD prog w kvs o := fun _ ⟨es, rr⟩ => ⟨es, ep, rr⟩
theorem On.epoch {i : Nat} (D : On r s ps fs) (hi : fs[i]? = some (d, isD prog w kvs)) : ∃ ep, On r s ps (fs.set i (d, isDE prog w kvs ep)) := by
  obtain ⟨o, e, es, ep, rr⟩ := D.st.get (mem_r (List.mem_of_getElem? hi))
  exact ⟨ep, D.st.same hi (Heap.ExtBut.refl _ _) ⟨o, e, es, rr⟩, D.gens, D.os⟩
theorem St.notSys {B h : Heap} {P : Pr} (D : St B h ps fs) (hm : (d, P) ∈ ps ++ fs) : (d == sysModules) = false := by
  have h1 := D.ge hm
  have h2 := D.base.ok.low
  rw [beq_eq_false_iff_ne]
  intro e
  rw [e] at h1
  exact absurd (Nat.le_trans h2 h1) (by rw [show sysModules = 1 from rfl]; decide)

theorem new_dict {pos : Pos} {Q : Value → Shared → Prop} (D : On r s ps fs) (h : ∀ d s', On r s' ps ((d, isD prog w []) :: fs) → Q (.ref d) s') : wpAny (model prog w) A (eval (.Dict [] [] pos) env) Q E s :=
  wpAny_Dict_empty (h _ _ (D.with_heap (t := s.toks) (D.st.push ⟨#[], 0, ⟨rfl, rfl, rfl⟩, rfl, fun e he => by simp at he, .nil, List.nodup_nil⟩)))

theorem set_dict {i : Nat} {key v : Value} {kk : Key} {Q : Unit → Shared → Prop} (D : On r s ps fs) (hi : fs[i]? = some (d, isD prog w kvs)) (hk : kk.is key = true) (hsz : kvs.length ≤ 100000)
    (h : ∀ s', On r s' ps (fs.set i (d, isD prog w (stored kvs kk v))) → Q () s') : wpAny (model prog w) A (setItem (.ref d) key v) Q E s :=
  wpAny_setItem_pairs (knd := keyKind prog w) (k := kk) hk (D.st.dictOf (mem_r (List.mem_of_getElem? hi))) (fun h' hm hs => h _ (D.with_heap (t := s.toks + 1) (D.st.same hi hs.extBut (Heap.dictOf_iff.mp hm)))) (by rw [sizeLine_eq]; omega)

theorem in_dict {key : Value} {kk : Key} {Q : Value → Shared → Prop} (D : On r s ps fs) (hm : (d, isD prog w kvs) ∈ ps ++ fs) (hk : kk.is key = true) (h : ∀ s', On r s' ps fs → Q (.bool (valueAt kvs kk).isSome) s') :
    wpAny (model prog w) A (compareOp .In key (.ref d)) Q E s :=
  wpAny_in_of (knd := keyKind prog w) (k := kk) hk (D.st.notSys hm) (D.st.dictOf hm).mapOf (h _ D.tok)
theorem item_dict {key v : Value} {kk : Key} {value slice : PySem.Expr} {Q : Value → Shared → Prop} (D : On r s ps fs) (hm : (d, isD prog w kvs) ∈ ps ++ fs) (hk : kk.is key = true) (hv : valueAt kvs kk = some v) (h : ∀ s', On r s' ps fs → Q v s')
    (hs : subscripted slice false (.ref d) key = operate [.ref d, key] (getItem (.ref d) key)) :
    wpAny (model prog w) A (subscriptTail value slice (.ref d) key) Q E s :=
  tail_any (D.st.dictOf hm).typeIs slot_dict_getitem.lookup (wpAny_getItem_of (knd := keyKind prog w) (k := kk) hk (D.st.dictOf hm).mapOf hv (h _ D.tok)) hs

/-- d.keys() -/
theorem keys_dict {pos : Pos} {Q : Value → Shared → Prop} (D : On r s ps fs) (hm : (d, isD prog w kvs) ∈ ps ++ fs) (h : ∀ v s', On r s' ps ((v, isKV d) :: fs) → Q (.ref v) s') :
    MethodOn prog w A "keys" pos (.ref d) [] Q E s :=
  ⟨"dict", "dict.keys", F.plainAttrs_dict, PySem.F.slot_dict_keys, PySem.F.type_dict_keys, (D.st.dictOf hm).typeIs, (D.st.dictOf hm).mapOf.noDict,
    method_meetsIn PySem.F.slot_dict_keys PySem.F.entry_dict_keys rfl (PySem.evalArgs_none ⟨rfl, (D.st.dictOf hm).typeIs, PySem.F.args_dict_keys_1 _, _, kdl_meets_keys (keyKind prog w) d (D.st.notSys hm), ⟨kvs, D.st.dictOf hm⟩,
      h _ _ (D.with_heap (t := s.toks) (D.st.push ⟨rfl, rfl⟩))⟩)⟩
theorem keys_dictE {ep : Nat} {pos : Pos} {Q : Value → Shared → Prop} (D : On r s ps fs) (hm : (d, isDE prog w kvs ep) ∈ ps ++ fs) (h : ∀ v s', On r s' ps ((v, isKV d) :: fs) → Q (.ref v) s') :
    MethodOn prog w A "keys" pos (.ref d) [] Q E s :=
  ⟨"dict", "dict.keys", F.plainAttrs_dict, PySem.F.slot_dict_keys, PySem.F.type_dict_keys, (D.st.dictAt hm).dictOf.typeIs, (D.st.dictAt hm).dictOf.mapOf.noDict,
    method_meetsIn PySem.F.slot_dict_keys PySem.F.entry_dict_keys rfl (PySem.evalArgs_none ⟨rfl, (D.st.dictAt hm).dictOf.typeIs, PySem.F.args_dict_keys_1 _, _, kdl_meets_keys (keyKind prog w) d (D.st.notSys hm), ⟨kvs, (D.st.dictAt hm).dictOf⟩,
      h _ _ (D.with_heap (t := s.toks) (D.st.push ⟨rfl, rfl⟩))⟩)⟩
/-- d.get(key) -/
theorem get_dict {pos : Pos} {t : Sem Value} {Q : Value → Shared → Prop} (D : On r s ps fs) (hm : (d, isD prog w kvs) ∈ ps ++ fs)
    (h : wpAny (model prog w) A t (fun key s₁ => ∃ kk : Key, kk.is key = true ∧ ∃ ps' fs', On r s₁ ps' fs' ∧ (d, isD prog w kvs) ∈ ps' ++ fs' ∧ ∀ s', On r s' ps' fs' → Q ((valueAt kvs kk).getD .none) s') E s) :
    MethodOn prog w A "get" pos (.ref d) [(false, t)] Q E s :=
  ⟨"dict", "dict.get", F.plainAttrs_dict, F.slot_dict_get, F.type_dict_get, (D.st.dictOf hm).typeIs, (D.st.dictOf hm).mapOf.noDict,
    wpAny_dict_get1 (knd := keyKind prog w) (D.st.notSys hm) (wpAny_mono h (fun _ _ ⟨kk, hk, _, _, D', hm', q⟩ => ⟨kk, _, hk, (D'.st.dictOf hm').mapOf, q _ D'.tok⟩) fun _ _ e => e)⟩

/-- the view of the keys is walked over -/
theorem walk_keys {v : Addr} {ep : Nat} {items : List Value} (hit : items.length = kvs.length ∧ ∀ (i : Nat) (x : Value), items[i]? = some x → ∃ (kk : Key) (u : Value), kvs[i]? = some (kk, u) ∧ ∀ y : Value, kk.is y = true → y = x) :
    Walkable prog w r (.ref v) items [(v, isKV d), (d, isDE prog w kvs ep)] := by
  intro A E s ps fs Q hA D hn h
  have hv := hn _ (.head _)
  have hd := hn _ (.tail _ (.head _))
  refine kdl_pyIter_keys (knd := keyKind prog w) (kvs := kvs) (ep := ep) (d := d) (let ⟨o, e, c, dd⟩ := D.st.get hv; ⟨o, e, c, dd⟩) (D.st.dictAt hd) ?_
  refine h _ (isKI d kvs.length ep) (fun _ ps fs => (d, isDE prog w kvs ep) ∈ ps ++ fs) _ ?_ (D.with_heap (t := s.toks) (D.st.push ⟨rfl, rfl⟩)) (fun _ _ _ hm => hm _ (.tail _ (.head _)))
  constructor
  · intro s ps fs j Q E hj D hq
    obtain ⟨o, e, hc, hd'⟩ := D.st.get (mem_r (List.mem_of_getElem? hj))
    have hT : s.TypeIs (.ref _) "dict_keyiterator" := ⟨o, e, hc⟩
    refine wpAny_pyIter_slot hT F.slot_dict_keyiterator_iter (wpAny_call_entry F.slot_dict_keyiterator_iter hT F.entry_dict_keyiterator_iter ?_ (F.args_dict_keyiterator_iter_1 _))
    show wpAny _ _ (ret (.ref _)) _ _ s
    exact wpAny_pure ⟨_, rfl, "dict_keyiterator", _, hT, F.slot_dict_keyiterator_next.lookup, hq⟩
  · intro i x s ps fs X Y Q E hx hm D hq
    obtain ⟨kk, u, hku, hy⟩ := hit.2 i x hx
    obtain ⟨o, e, hc, hd'⟩ := D.st.get (mem_r (.tail _ (.tail _ (.head _))))
    refine wpAny_pyNext_dict_item (knd := keyKind prog w) ⟨o, e, hc, hd'⟩ (D.st.dictAt ((List.mem_append.mp hm).elim mem_l fun q => mem_r (.tail _ (.tail _ (.tail _ q))))) hku fun key h' hk hi' hs => ?_
    rw [hy key hk]
    exact hq _ (D.with_heap (t := s.toks) (D.st.same (i := 2) rfl hs.extBut (let ⟨o, e, c, dd⟩ := hi'; ⟨o, e, c, dd⟩)))
  · intro s ps fs X Y Q E hm D hq
    obtain ⟨o, e, hc, hd'⟩ := D.st.get (mem_r (.tail _ (.tail _ (.head _))))
    have D' := D.bring 2 rfl
    refine wpAny_pyNext_dict_end (knd := keyKind prog w) (i := items.length) hA ⟨o, e, hc, hd'⟩ (D.st.dictAt ((List.mem_append.mp hm).elim mem_l fun q => mem_r (.tail _ (.tail _ (.tail _ q))))) (by rw [hit.1]; simp) fun h' hs => ?_
    exact hq _ (D.with_heap (t := s.toks) (D'.st.lose hs))

theorem extend_list {a b : Addr} {i : Nat} {xs ys : List Value} {Q : Value → Shared → Prop} (D : On r s ps fs) (hi : fs[i]? = some (a, isL xs)) (hb : (b, isL ys) ∈ ps ++ fs) (hsz : xs.length + ys.length ≤ 100000)
    (h : ∀ s', On r s' ps (fs.set i (a, isL (xs ++ ys))) → Q .none s') : wpAny (model prog w) A (call (.builtin "list.extend") [.ref a, .ref b]) Q E s := by
  obtain ⟨n, ha⟩ := D.st.objL (mem_r (List.mem_of_getElem? hi))
  obtain ⟨n2, hb'⟩ := D.st.objL hb
  have hsz' : xs.toArray.size + ys.toArray.size ≤ sizeLine := by rw [List.size_toArray, List.size_toArray, sizeLine_eq]; omega
  refine call_meets PySem.F.slot_list_extend ⟨_, ha, rfl⟩ PySem.F.entry_list_extend (PySem.F.args_list_extend_2 _ _) (AutoSeq1.list_extend_list_list_0 a xs.toArray n b ys.toArray n2 (extend_door hsz') (Nat.le_trans (Nat.le_add_right _ _) hsz') (by omega)) ⟨ha, hb', ?_⟩
  refine h _ (D.with_heap (t := s.toks) (D.st.same hi (Heap.SameBut.update ..).extBut ⟨_, Heap.get?_update_self _ ha (by rw [mapSeq_app]; rfl), (if (xs.toArray ++ ys.toArray).size == xs.toArray.size then n else n + 1), ?_⟩))
  rw [mapSeq_app]
  simp
end
end Mine
/-! part M33 -/
set_option Elab.async false
set_option maxRecDepth 100000
set_option autoImplicit false
namespace Mine
open PySem PySem.Calls PySem.W PyProof.Rows Builtin
local macro_rules | `(tactic| walk_at "mem") => `(tactic| first | exact List.Mem.head _ | (refine List.Mem.tail _ ?_; (walk_at "mem")))
local macro_rules | `(tactic| walk_at "sub") => `(tactic| first | exact List.forall_mem_nil _ | (refine List.forall_mem_cons.mpr ⟨?_, ?_⟩; (walk_at "mem"); (walk_at "sub")))

def scF : Scope := scopeOf (stOf 6)
/-- the first class of a list that the book tells of -/
def firstOf (kvs : List (Key × Value)) (l : List Nat) : Option Nat := l.find? fun j => (valueAt kvs (.ty j)).isSome
def mvOf : Option Nat → Value
  | some j => cl j
  | none => .none
theorem firstOf_more {kvs : List (Key × Value)} {l m : List Nat} {j : Nat} (h : firstOf kvs l = some j) : firstOf kvs (l ++ m) = some j := by
  unfold firstOf at *; rw [List.find?_append, h]; rfl

section
variable {prog : Program} {w : World} {A : Around} {E : Value → Shared → Prop} {r s : Shared} {ps fs : Fs} {env : Env} {k n : Nat} {d L R : Addr} {kvs : List (Key × Value)}

theorem not_in_tup {t : Addr} {xs : List Value} {x : Value} {Q : Value → Shared → Prop} (D : On r s ps fs) (ht : (t, isT xs) ∈ ps ++ fs) (hxs : ∀ y ∈ xs, Ty y) (hx : Ty x) (hin : x ∈ xs) (h : Q (.bool false) s) : wpAny (model prog w) A (compareOp .NotIn x (.ref t)) Q E s := by
  refine SeqAt.notIn_tupleAt (fun y => y == x) (D.st.tup ht) (fun y hy prog' w' E' Q' hq => eqg_ty (hxs y (by simpa using hy)) hx prog' w' _ E' _ Q' hq) ?_
  rw [List.any_toArray, any_beq, decide_eq_true hin]
  exact h

/-- the loop of _find_impl -/
theorem find_loop (hA : A.handled = none) (hk : k < 15) (H : EnvIs env scF L []) {Q : Flow → Shared → Prop}
    (D : On r s ps ((L, loc [("match", .none), ("mro", .ref R), ("cls", cl k), ("registry", .ref d)]) :: (R, isL ((way k).map cl)) :: fs)) (hd : (d, isD prog w kvs) ∈ ps ++ fs)
    (h : ∀ s' ps', (∀ p ∈ ps, p ∈ ps') → On r s' ps' ((L, loc [("match", mvOf (firstOf kvs (way k))), ("registry", .ref d)]) :: (R, isL ((way k).map cl)) :: fs) → Q .next s') :
    wpAny (model prog w) A (exec (nth (bodyOf (stOf 6)) 2) env) Q E s := by
  refine wpAny_For ?_
  refine ev_local H D (by walk_at "mem") (by walk_at "mem") rfl rfl ?_
  refine it_list D (mem_r (by walk_at "mem")) fun I s D => ?_
  have fin : ∀ {s' : Shared} {ps' : Fs} {l : List (Str × Value)} {mv : Value}, mv = mvOf (firstOf kvs (way k)) → (∀ p ∈ ps, p ∈ ps') → ((("match" : Str), mv) : Str × Value) ∈ l → ((("registry" : Str), Value.ref d) : Str × Value) ∈ l →
      On r s' ps' ((L, loc l) :: (R, isL ((way k).map cl)) :: fs) → Q .next s' := by
    intro s' ps' l mv hmv hps h1 h2 D
    refine h s' ps' hps (D.imp (i := 0) rfl (loc_sub fun p hp => ?_))
    rcases List.mem_cons.mp hp with rfl | hp
    · rw [← hmv]; exact h1
    · rw [List.mem_singleton.mp hp]; exact h2
  refine for_loop (fun i ps' fs' => (∀ p ∈ ps, p ∈ ps') ∧ ∃ l, ((("match" : Str), mvOf (firstOf kvs ((way k).take i))) : Str × Value) ∈ l ∧ ((("registry" : Str), Value.ref d) : Str × Value) ∈ l ∧ ((("cls" : Str), cl k) : Str × Value) ∈ l ∧ fs' = (L, loc l) :: (R, isL ((way k).map cl)) :: fs)
    (srcF_list (xs := (way k).map cl) hA) ?_ ?_ ?_ D ⟨fun _ z => z, _, List.Mem.head _, by walk_at "mem", by walk_at "mem", rfl⟩ (fun _ => rfl)
  · rintro i ps' fs' ⟨_, l, _, _, _, rfl⟩; exact mem_r (by walk_at "mem")
  · rintro i v s ps' fs' hv ⟨hps, l, hm, hr, hc, rfl⟩ D
    rw [List.getElem?_map] at hv
    obtain ⟨j, hj, rfl⟩ := Option.map_eq_some_iff.mp hv
    have hjm : j ∈ way k := List.mem_of_getElem? hj
    have hj15 : j < 15 := (way_len k hk).2.2.1 j hjm
    have hdm : ∀ {ps2 : Fs} {X Y Z : Addr × Pr}, (∀ p ∈ ps', p ∈ ps2) → (d, isD prog w kvs) ∈ ps2 ++ X :: Y :: Z :: fs := fun h2 => (List.mem_append.mp hd).elim (fun q => mem_l (h2 _ (hps _ q))) fun q => mem_r (.tail _ (.tail _ (.tail _ q)))
    have htake : (way k).take (i + 1) = (way k).take i ++ [j] := by rw [List.take_add_one, hj]; rfl
    refine wpAny_assign_Name (st_keep [("match", mvOf (firstOf kvs ((way k).take i))), ("registry", .ref d), ("cls", cl k)] H D (i := 1) rfl rfl rfl (List.forall_mem_cons.mpr ⟨hm, List.forall_mem_cons.mpr ⟨hr, List.forall_mem_cons.mpr ⟨hc, List.forall_mem_nil _⟩⟩⟩) rfl fun s D => ?_)
    refine wpAny_execs_cons (wpAny_If (wpAny_isTrue_Compare1 ?_))
    refine ev_local H D (by walk_at "mem") (by walk_at "mem") rfl rfl ?_
    refine wpAny_Constant_none (isNot_none (wpAny_truthy_bool ?_))
    cases hfm : firstOf kvs ((way k).take i) with
    | some j0 =>
      have hfull : mvOf (some j0) = mvOf (firstOf kvs (way k)) := by
        have := firstOf_more (m := (way k).drop i) hfm
        rw [List.take_append_drop] at this
        rw [this]
      rw [hfm] at D
      rw [show (!(mvOf (some j0) == Value.none)) = true from rfl]
      simp only [if_true]
      have brk : ∀ {s' : Shared} {ps2 : Fs}, (∀ p ∈ ps', p ∈ ps2) → On r s' ps2 ((I, isLI R (i + 1)) :: (L, loc [("t", cl j), ("match", mvOf (some j0)), ("registry", .ref d), ("cls", cl k)]) :: (R, isL ((way k).map cl)) :: fs) → Q .next s' :=
        fun h2 D => fin hfull (fun p hp => h2 p (hps p hp)) (by walk_at "mem") (by walk_at "mem") (D.rid 0)
      refine wpAny_execs_cons (wpAny_If (wpAny_isTrue_BoolOp (wpAny_allTrue_And_cons ?_)))
      refine wpAny_isTrue_Compare1 ?_
      refine ev_local H D (by walk_at "mem") (by walk_at "mem") rfl rfl ?_
      refine ev_local H D (by walk_at "mem") (by walk_at "mem") rfl rfl ?_
      refine in_dict D (hdm fun _ z => z) (key_ty hj15) fun s D => wpAny_truthy_bool ?_
      cases hb : (valueAt kvs (.ty j)).isSome with
      | false =>
        simp only [Bool.false_eq_true, if_false]
        refine wpAny_execs_nil (wpAny_execs_cons (wpAny_Break ?_))
        exact brk (fun _ z => z) D
      | true =>
        simp only [if_true]
        refine wpAny_allTrue_And_cons ?_
        refine wpAny_isTrue_Compare1 ?_
        refine ev_local H D (by walk_at "mem") (by walk_at "mem") rfl rfl ?_
        refine Attribute_Name_ (ev_local H D (by walk_at "mem") (by walk_at "mem") rfl rfl (attr_mro hk D fun t s ps2 h2 ht D => ?_))
        refine not_in_tup D (mem_l ht) (fun y hy => by obtain ⟨q, hq, rfl⟩ := List.mem_map.mp hy; exact ⟨q, (way_len k hk).2.2.1 q hq, rfl⟩) ⟨j, hj15, rfl⟩ (List.mem_map.mpr ⟨j, hjm, rfl⟩) (wpAny_truthy_bool ?_)
        simp only [Bool.false_eq_true, if_false]
        refine wpAny_execs_nil (wpAny_execs_cons (wpAny_Break ?_))
        exact brk h2 D
    | none =>
      rw [hfm] at D
      rw [show (!(mvOf none == Value.none)) = false from rfl]
      simp only [Bool.false_eq_true, if_false]
      refine wpAny_execs_nil (wpAny_execs_cons (wpAny_If (wpAny_isTrue_Compare1 ?_)))
      refine ev_local H D (by walk_at "mem") (by walk_at "mem") rfl rfl ?_
      refine ev_local H D (by walk_at "mem") (by walk_at "mem") rfl rfl ?_
      refine in_dict D (hdm fun _ z => z) (key_ty hj15) fun s D => wpAny_truthy_bool ?_
      have hnext : firstOf kvs ((way k).take (i + 1)) = if (valueAt kvs (.ty j)).isSome then some j else none := by
        rw [htake]
        unfold firstOf at *
        rw [List.find?_append, hfm]
        simp [List.find?_cons]
        cases (valueAt kvs (.ty j)).isSome <;> rfl
      cases hb : (valueAt kvs (.ty j)).isSome with
      | false =>
        rw [hb] at hnext
        simp only [Bool.false_eq_true, if_false] at hnext ⊢
        refine wpAny_execs_nil (wpAny_execs_nil ?_)
        refine ⟨ps', _, D, hps, _, ?_, ?_, ?_, rfl⟩
        · rw [hnext]; exact .tail _ (.head _)
        · walk_at "mem"
        · walk_at "mem"
      | true =>
        rw [hb] at hnext
        simp only [if_true] at hnext ⊢
        refine wpAny_execs_cons (wpAny_Assign_Name ?_)
        refine ev_local H D (by walk_at "mem") (by walk_at "mem") rfl rfl ?_
        refine st_keep [("t", cl j), ("registry", .ref d), ("cls", cl k)] H D (i := 1) rfl rfl rfl (by walk_at "sub") rfl fun s D => ?_
        refine wpAny_execs_nil (wpAny_execs_nil ?_)
        refine ⟨ps', _, D, hps, _, ?_, ?_, ?_, rfl⟩
        · rw [hnext]; exact .head _
        · walk_at "mem"
        · walk_at "mem"
  · rintro s ps' fs' ⟨hps, l, hm, hr, hc, rfl⟩ D
    rw [List.length_map, List.take_length] at hm
    exact wpAny_execs_nil (fin rfl hps hm hr D)
end
end Mine
/-! part M34 -/
set_option Elab.async false
set_option maxRecDepth 100000
set_option autoImplicit false
namespace Mine
open PySem PySem.Calls PySem.W PyProof.Rows Builtin
local macro_rules | `(tactic| walk_at "mem") => `(tactic| first | exact List.Mem.head _ | (refine List.Mem.tail _ ?_; (walk_at "mem")))
local macro_rules | `(tactic| walk_at "sub") => `(tactic| first | exact List.forall_mem_nil _ | (refine List.forall_mem_cons.mpr ⟨?_, ?_⟩; (walk_at "mem"); (walk_at "sub")))

section
variable {prog : Program} {w : World} {A : Around} {E : Value → Shared → Prop} {r s : Shared} {ps fs : Fs} {env : Env} {k n : Nat} {d L R : Addr} {kvs : List (Key × Value)}

/-- what _find_impl answers -/
def answer (kvs : List (Key × Value)) (k : Nat) : Value := match firstOf kvs (way k) with
  | some j => (valueAt kvs (.ty j)).getD .none
  | none => .none

theorem valueAt_non (h : ∀ p ∈ kvs, ∃ n, n < 15 ∧ p.1 = .ty n) : valueAt kvs .non = none := by
  unfold valueAt
  have : kvs.find? (fun kv => kv.1 = Key.non) = none := by
    rw [List.find?_eq_none]
    intro p hp
    obtain ⟨n, _, e⟩ := h p hp
    rw [e]; simp
  rw [this]; rfl

theorem find_impl (hA : AOk A (k + 4)) (hk : k < 15) (G : Gnd r.heap) {i : Nat} {Q : Value → Shared → Prop} (D : On r s ps fs) (hi : fs[i]? = some (d, isD prog w kvs)) (hkeys : ∀ p ∈ kvs, ∃ n, n < 15 ∧ p.1 = .ty n) (hlen : kvs.length ≤ 100000)
    (h : ∀ s' ps', (∀ p ∈ ps, p ∈ ps') → On r s' ps' fs → Q (answer kvs k) s') : wpAny (model prog w) A (call (.ref 47) [cl k, .ref d] []) Q E s := by
  obtain ⟨ep, D⟩ := D.epoch hi
  have hil : i < fs.length := (List.getElem?_eq_some_iff.mp hi).1
  have hi2 : (fs.set i (d, isDE prog w kvs ep))[i]? = some (d, isDE prog w kvs ep) := by rw [List.getElem?_set]; simp [hil]
  have hmE : (d, isDE prog w kvs ep) ∈ fs.set i (d, isDE prog w kvs ep) := List.mem_of_getElem? hi2
  have hset : (fs.set i (d, isDE prog w kvs ep)).set i (d, isD prog w kvs) = fs := by
    rw [List.set_set]; exact X.set_same hi
  generalize hfe : fs.set i (d, isDE prog w kvs ep) = fe at *
  obtain ⟨mod, c, hfn, hcd⟩ := G.f47.at D.st.base
  refine call_fn (binds := [("cls", cl k), ("registry", .ref d)]) D hA.room hfn hcd rfl (BindsTo.of_eq rfl) rfl rfl (by show ∀ x ∈ (scopeOf (stOf 6)).names, _; decide) (by
    intro x hx
    rcases List.mem_cons.mp hx with rfl | hx
    · rfl
    · rw [List.mem_singleton.mp hx]; rfl) (by show List.Nodup [("cls" : Str), "registry"]; decide) (fun env L s H D => ?_) rfl rfl rfl
  have hA' : AOk (A.deeper env) (k + 3) := hA.deeper env
  have fin : ∀ {Q' : Flow → Shared → Prop} {E' : Value → Shared → Prop}, (∀ s' ps', (∀ p ∈ ps, p ∈ ps') → On r s' ps' fs → Q' (.ret (answer kvs k)) s') → wpAny (model prog w) (A.deeper env) (execs (bodyOf (stOf 6)) env) Q' E' s := by
    intro Q' E' h'
    -- the entry as a plain dict, for the rules that want it so
    have asD : ∀ {s' : Shared} {ps' : Fs} {X : Fs}, On r s' ps' (X ++ fe) → On r s' ps' (X ++ fs) := by
      intro s' ps' X D
      have hX : (X ++ fe)[X.length + i]? = some (d, isDE prog w kvs ep) := by rw [List.getElem?_append_right (Nat.le_add_right ..), Nat.add_sub_cancel_left]; exact hi2
      have := D.imp (i := X.length + i) hX isDE_D
      rwa [List.set_append_right _ _ (Nat.le_add_right ..), Nat.add_sub_cancel_left, hset] at this
    have hmD : (d, isD prog w kvs) ∈ fs := List.mem_of_getElem? hi
    -- mro = _compose_mro(cls, registry.keys())
    refine wpAny_execs_cons (wpAny_Assign_Name ?_)
    obtain ⟨o, hfd, hdef⟩ := D.def G.f40
    refine f2 (fun Q' hq => ev_glob H D G.compose rfl rfl hq) hfd ?_
    refine ev_local H D (by walk_at "mem") (by walk_at "mem") rfl rfl ?_
    refine wpAny_Call_method0_late rfl rfl ?_
    refine ev_local H D (by walk_at "mem") (by walk_at "mem") rfl rfl ?_
    obtain ⟨oD, eD, hoD⟩ := D.st.get (mem_r (.tail _ hmE))
    refine keys_dictE D (mem_r (.tail _ hmE)) fun v s D => ?_
    refine ⟨hdef D, ?_⟩
    refine compose (items := kvs.map fun p => match p.1 with | .ty n => cl n | _ => .none) hA' hk G (walk_keys (kvs := kvs) (ep := ep) (d := d) ⟨by simp, fun i x hx => ?_⟩) (fun p hp => ?_) (fun x hx => ?_) (by rw [List.length_map]; exact hlen) D fun R s ps1 h1 D => ?_
    · rw [List.getElem?_map] at hx
      obtain ⟨p, hp, rfl⟩ := Option.map_eq_some_iff.mp hx
      obtain ⟨n, hn, e⟩ := hkeys p (List.mem_of_getElem? hp)
      refine ⟨p.1, p.2, hp, fun y hy => ?_⟩
      rw [e] at hy ⊢
      exact (Key.is_ty hy).2
    · rcases List.mem_cons.mp hp with rfl | hp
      · exact mem_r (.head _)
      · rw [List.mem_singleton.mp hp]; exact mem_r (.tail _ (.tail _ hmE))
    · obtain ⟨p, hp, rfl⟩ := List.mem_map.mp hx
      obtain ⟨n, hn, e⟩ := hkeys p hp
      rw [e]; exact .inr ⟨n, hn, rfl⟩
    have D : On r s ps1 ((R, isL ((way k).map cl)) :: (L, loc [("cls", cl k), ("registry", .ref d)]) :: fe) := D.rid 1
    refine st_keep [("cls", cl k), ("registry", .ref d)] H D (i := 1) rfl rfl rfl (by walk_at "sub") rfl fun s D => ?_
    -- match = None
    refine wpAny_execs_cons (wpAny_Assign_Name (wpAny_Constant_none ?_))
    refine st_keep [("mro", .ref R), ("cls", cl k), ("registry", .ref d)] H D (i := 1) rfl rfl rfl (by walk_at "sub") rfl fun s D => ?_
    have D := D.bring 1 rfl
    have D : On r s ps1 ([(L, loc [("match", .none), ("mro", .ref R), ("cls", cl k), ("registry", .ref d)]), (R, isL ((way k).map cl))] ++ fs) := asD (X := [(L, loc [("match", .none), ("mro", .ref R), ("cls", cl k), ("registry", .ref d)]), (R, isL ((way k).map cl))]) D
    refine wpAny_execs_cons (find_loop hA'.handled hk H D (mem_r hmD) fun s ps2 h2 D => ?_)
    -- return registry.get(match)
    refine wpAny_execs_cons (wpAny_Return_some ?_)
    refine wpAny_Call_method1_late rfl rfl rfl ?_
    refine ev_local H D (by walk_at "mem") (by walk_at "mem") rfl rfl ?_
    refine get_dict D (mem_r (.tail _ (.tail _ hmD))) ?_
    refine ev_local H D (by walk_at "mem") (by walk_at "mem") rfl rfl ?_
    have out : ∀ {s' : Shared}, On r s' ps2 ((L, loc [("match", mvOf (firstOf kvs (way k))), ("registry", .ref d)]) :: (R, isL ((way k).map cl)) :: fs) → Q' (.ret (answer kvs k)) s' := fun D => h' _ ps2 (fun p hp => h2 p (h1 p hp)) ((D.rid 0).rid 0)
    cases hfm : firstOf kvs (way k) with
    | some j =>
      have hj : j < 15 := (way_len k hk).2.2.1 j (List.mem_of_find?_eq_some hfm)
      refine ⟨.ty j, by show (Key.ty j).is (cl j) = true; exact key_ty hj, _, _, D, mem_r (.tail _ (.tail _ hmD)), fun s' D' => ?_⟩
      have := out D'
      unfold answer at this
      rw [hfm] at this
      exact this
    | none =>
      refine ⟨.non, rfl, _, _, D, mem_r (.tail _ (.tail _ hmD)), fun s' D' => ?_⟩
      have := out D'
      unfold answer at this
      rw [hfm] at this
      rw [valueAt_non hkeys]
      exact this
  exact fin fun s' ps' hps D => h s' ps' hps D
end
end Mine
/-! part M35 -/
set_option Elab.async false
set_option maxRecDepth 100000
set_option autoImplicit false
namespace Mine
open PySem PySem.Calls PySem.W PyProof.Rows Builtin
local macro_rules | `(tactic| walk_at "mem") => `(tactic| first | exact List.Mem.head _ | (refine List.Mem.tail _ ?_; (walk_at "mem")))
local macro_rules | `(tactic| walk_at "sub") => `(tactic| first | exact List.forall_mem_nil _ | (refine List.forall_mem_cons.mpr ⟨?_, ?_⟩; (walk_at "mem"); (walk_at "sub")))

/-- values that are these ints -/
inductive IntsOf : List Value → List Nat → Prop
  | nil : IntsOf [] []
  | cons {n : Nat} {t : Tok} {vs : List Value} {ns : List Nat} : IntsOf vs ns → IntsOf (.int n t :: vs) (n :: ns)
theorem IntsOf.length {vs : List Value} {ns : List Nat} (h : IntsOf vs ns) : vs.length = ns.length := by induction h with | nil => rfl | cons _ ih => simp [ih]
theorem IntsOf.get : ∀ {vs : List Value} {ns : List Nat}, IntsOf vs ns → ∀ {i : Nat} {v : Value}, vs[i]? = some v → ∃ n t, ns[i]? = some n ∧ v = .int (n : Int) t
  | _, _, .nil, i, v, h => by simp at h
  | _, _, .cons (n := n) (t := t) hr, 0, v, h => by simp at h; exact ⟨n, t, rfl, h.symm⟩
  | _, _, .cons hr, i + 1, v, h => by simp only [List.getElem?_cons_succ] at h ⊢; exact hr.get h

inductive Lits : List PySem.Expr → List Nat → Prop
  | nil : Lits [] []
  | cons {n : Nat} {k : Nat} {p : Pos} {es : List PySem.Expr} {ns : List Nat} : Lits es ns → Lits (.Constant (.int n) k p :: es) (n :: ns)
inductive Litss : List PySem.Expr → List (List Nat) → Prop
  | nil : Litss [] []
  | cons {es : List PySem.Expr} {ns : List Nat} {p : Pos} {ess : List PySem.Expr} {nss : List (List Nat)} : Lits es ns → Litss ess nss → Litss (.List es p :: ess) (ns :: nss)
inductive IntsOfs : List (List Value) → List (List Nat) → Prop
  | nil : IntsOfs [] []
  | cons {vs : List Value} {ns : List Nat} {vss : List (List Value)} {nss : List (List Nat)} : IntsOf vs ns → IntsOfs vss nss → IntsOfs (vs :: vss) (ns :: nss)
theorem IntsOfs.length {vss : List (List Value)} {nss : List (List Nat)} (h : IntsOfs vss nss) : vss.length = nss.length := by induction h with | nil => rfl | cons _ _ ih => simp [ih]
theorem IntsOfs.append : ∀ {a : List (List Value)} {a' : List (List Nat)} {b : List (List Value)} {b' : List (List Nat)}, IntsOfs a a' → IntsOfs b b' → IntsOfs (a ++ b) (a' ++ b')
  | _, _, _, _, .nil, h => h
  | _, _, _, _, .cons h1 h2, h => .cons h1 (h2.append h)
theorem IntsOfs.get : ∀ {vss : List (List Value)} {nss : List (List Nat)}, IntsOfs vss nss → ∀ {i : Nat} {ns : List Nat}, nss[i]? = some ns → ∃ vs, vss[i]? = some vs ∧ IntsOf vs ns
  | _, _, .nil, i, ns, h => by simp at h
  | _, _, .cons h1 _, 0, ns, h => by simp at h; subst h; exact ⟨_, rfl, h1⟩
  | _, _, .cons _ h2, i + 1, ns, h => by simp only [List.getElem?_cons_succ] at h ⊢; exact h2.get h

section
variable {prog : Program} {w : World} {A : Around} {E : Value → Shared → Prop} {r s : Shared} {ps fs X : Fs} {env : Env} {k n : Nat} {L : Addr}

theorem On.only {p : Addr × Pr} (D : On r s ps (X ++ fs)) (hp : p ∈ X) : On r s ps (p :: fs) := D.sub ((List.singleton_sublist.mpr hp).append (List.Sublist.refl fs))

theorem lits {pos : Pos} : ∀ {es : List PySem.Expr} {ns : List Nat} {s : Shared} {ps fs : Fs} {Q : List Value → Shared → Prop}, Lits es ns → On r s ps fs → (∀ vs s', IntsOf vs ns → On r s' ps fs → Q vs s') → wpAny (model prog w) A (spliced (backTo pos (starEach es env))) Q E s
  | _, _, s, ps, fs, Q, .nil, D, h => wpAny_items_nil (h [] s .nil D)
  | _, _, s, ps, fs, Q, .cons hl, D, h => by
    refine wpAny_items_cons ?_ (by rfl)
    refine wpAny_Constant_int ?_
    exact lits hl D.tok fun vs s' hv D' => h _ s' (.cons hv) D'
theorem Lits.length {es : List PySem.Expr} {ns : List Nat} (h : Lits es ns) : es.length = ns.length := by induction h with | nil => rfl | cons _ ih => simp [ih]

theorem litss {pos : Pos} : ∀ {ess : List PySem.Expr} {nss : List (List Nat)} {s : Shared} {ps fs : Fs} {Q : List Value → Shared → Prop}, Litss ess nss → (∀ ns ∈ nss, ns.length ≤ 100) → On r s ps fs →
    (∀ as vss s', as.length = vss.length → IntsOfs vss nss → On r s' ps (seqE as vss ++ fs) → Q (as.map .ref) s') → wpAny (model prog w) A (spliced (backTo pos (starEach ess env))) Q E s
  | _, _, s, ps, fs, Q, .nil, _, D, h => wpAny_items_nil (h [] [] s rfl .nil D)
  | _, _, s, ps, fs, Q, .cons (ns := ns) hl hr, hn, D, h => by
    refine wpAny_items_cons ?_ (by rfl)
    refine List_ ?_
    refine lits hl D fun vs s' hv D' => ?_
    refine new_list D' (by rw [hv.length, sizeLine_eq]; have := hn ns (.head _); omega) fun a s' D' => ?_
    refine litss hr (fun m hm => hn m (.tail _ hm)) D' fun as vss s' he hvs D' => ?_
    refine h (a :: as) (vs :: vss) s' (by simp [he]) (.cons hv hvs) (D'.perm ?_)
    show ((a, isL vs) :: (seqE as vss ++ fs)).Perm (seqE as vss ++ (a, isL vs) :: fs)
    exact List.perm_middle.symm

/-- _law_classes() -/
theorem law_classes (hA : AOk A (n + 1)) (G : Gnd r.heap) {Q : Value → Shared → Prop} (D : On r s ps fs) (h : ∀ a s', On r s' ps ((a, isL ((List.range 15).map cl)) :: fs) → Q (.ref a) s') :
    wpAny (model prog w) A (call (.ref 54) [] []) Q E s := by
  obtain ⟨mod, c, hfn, hcd⟩ := G.f54.at D.st.base
  refine call_fn (binds := []) D hA.room hfn hcd rfl (BindsTo.of_eq rfl) rfl rfl (by show ∀ x ∈ (scopeOf (stOf 8)).names, _; decide) (fun x hx => nomatch hx) List.nodup_nil (fun env L s H D => ?_) rfl rfl rfl
  have fin : ∀ {Q' : Flow → Shared → Prop} {E' : Value → Shared → Prop}, (∀ a s', On r s' ps ((a, isL ((List.range 15).map cl)) :: fs) → Q' (.ret (.ref a)) s') → wpAny (model prog w) (A.deeper env) (execs (bodyOf (stOf 8)) env) Q' E' s := by
    intro Q' E' h'
    refine wpAny_execs_cons (wpAny_Assign_Name (List_ ?_))
    refine wpAny_items_cons (ev_blt H D (G.cls 5 (by decide)) rfl rfl ?_)
    refine wpAny_items_cons (ev_blt H D (G.cls 6 (by decide)) rfl rfl ?_)
    refine wpAny_items_cons (ev_blt H D (G.cls 7 (by decide)) rfl rfl ?_)
    refine wpAny_items_cons (ev_blt H D (G.cls 8 (by decide)) rfl rfl ?_)
    refine wpAny_items_cons (ev_blt H D (G.cls 9 (by decide)) rfl rfl ?_)
    refine wpAny_items_cons (ev_blt H D (G.cls 10 (by decide)) rfl rfl ?_)
    refine wpAny_items_cons (ev_blt H D (G.cls 11 (by decide)) rfl rfl ?_)
    refine wpAny_items_cons (ev_blt H D (G.cls 12 (by decide)) rfl rfl ?_)
    refine wpAny_items_nil ?_
    refine new_list D (by rw [sizeLine_eq]; simp) fun e s D => ?_
    refine st_keep [] H D (i := 1) rfl rfl rfl (by walk_at "sub") rfl fun s D => ?_
    refine wpAny_execs_cons (wpAny_Return_some ?_)
    refine wpAny_BinOp ?_
    refine wpAny_BinOp ?_
    refine List_ ?_
    refine wpAny_items_cons (ev_blt H D (G.cls 0 (by decide)) rfl rfl ?_)
    refine wpAny_items_cons (ev_blt H D (G.cls 1 (by decide)) rfl rfl ?_)
    refine wpAny_items_cons (ev_blt H D (G.cls 2 (by decide)) rfl rfl ?_)
    refine wpAny_items_cons (ev_blt H D (G.cls 3 (by decide)) rfl rfl ?_)
    refine wpAny_items_cons (ev_blt H D (G.cls 4 (by decide)) rfl rfl ?_)
    refine wpAny_items_nil ?_
    refine new_list D (by rw [sizeLine_eq]; simp) fun a s D => ?_
    refine ev_local H D (by walk_at "mem") (by walk_at "mem") rfl rfl ?_
    refine add_list D (mem_r (by walk_at "mem")) (mem_r (by walk_at "mem")) (by rw [sizeLine_eq]; simp) fun b s D => ?_
    refine List_ ?_
    refine wpAny_items_cons (ev_blt H D (G.cls 13 (by decide)) rfl rfl ?_)
    refine wpAny_items_cons (ev_blt H D (G.cls 14 (by decide)) rfl rfl ?_)
    refine wpAny_items_nil ?_
    refine new_list D (by rw [sizeLine_eq]; simp) fun c s D => ?_
    refine add_list D (mem_r (by walk_at "mem")) (mem_r (by walk_at "mem")) (by rw [sizeLine_eq]; simp) fun q s D => ?_
    exact h' q s (D.only (X := [_, _, _, _, _, _]) (.head _))
  exact fin h

def eltsOf : PySem.Expr → List PySem.Expr
  | .List es _ => es
  | .BinOp _ _ r _ => match r with
    | .List es _ => es
    | _ => []
  | _ => []
def valOf : Stmt → PySem.Expr
  | .Assign _ v _ => v
  | _ => .Name "" default
theorem lits1 : Litss (eltsOf (valOf (nth (bodyOf (stOf 9)) 0))) [[0], [1, 0], [2, 1, 0], [3, 0], [4, 0], [5, 0], [6, 5, 0], [7, 6, 5, 0], [8, 7, 6, 5, 0], [9, 6, 5, 0]] := by
  show Litss [.List [_] _, .List [_, _] _, .List [_, _, _] _, .List [_, _] _, .List [_, _] _, .List [_, _] _, .List [_, _, _] _, .List [_, _, _, _] _, .List [_, _, _, _, _] _, .List [_, _, _, _] _] _
  repeat' constructor
theorem lits2 : Litss (eltsOf (valOf (nth (bodyOf (stOf 9)) 1))) [[10, 9, 6, 5, 0], [11, 6, 5, 0], [12, 11, 6, 5, 0], [13, 5, 0], [14, 13, 6, 5, 0]] := by
  show Litss [.List [_, _, _, _, _] _, .List [_, _, _, _] _, .List [_, _, _, _, _] _, .List [_, _, _] _, .List [_, _, _, _, _] _] _
  repeat' constructor

theorem body9 : ∃ (e1 e2 : List PySem.Expr) (p1 p2 p3 p4 p5 p6 p7 p8 p9 p10 p11 p12 : Pos), bodyOf (stOf 9) = [.Assign [.Name "ways" p1] (.List e1 p2) p3, .Assign [.Name "ways" p4] (.BinOp (.Name "ways" p5) .Add (.List e2 p6) p7) p8, .Return (some (.Subscript (.Name "ways" p9) (.Name "k" p10) p11)) p12] ∧
    Litss e1 [[0], [1, 0], [2, 1, 0], [3, 0], [4, 0], [5, 0], [6, 5, 0], [7, 6, 5, 0], [8, 7, 6, 5, 0], [9, 6, 5, 0]] ∧ Litss e2 [[10, 9, 6, 5, 0], [11, 6, 5, 0], [12, 11, 6, 5, 0], [13, 5, 0], [14, 13, 6, 5, 0]] :=
  ⟨eltsOf (valOf (nth (bodyOf (stOf 9)) 0)), eltsOf (valOf (nth (bodyOf (stOf 9)) 1)), _, _, _, _, _, _, _, _, _, _, _, _, rfl, lits1, lits2⟩

/-- _law_way(k) -/
theorem law_way (hA : AOk A (n + 1)) (G : Gnd r.heap) (hk : k < 15) {u : Tok} {Q : Value → Shared → Prop} (D : On r s ps fs) (h : ∀ a vs s', IntsOf vs (way k) → On r s' ps ((a, isL vs) :: fs) → Q (.ref a) s') :
    wpAny (model prog w) A (call (.ref 61) [.int k u] []) Q E s := by
  obtain ⟨mod, c, hfn, hcd⟩ := G.f61.at D.st.base
  refine call_fn (body := bodyOf (stOf 9)) (binds := [("k", .int k u)]) D hA.room hfn hcd rfl (BindsTo.of_eq rfl) rfl rfl (by show ∀ x ∈ (scopeOf (stOf 9)).names, _; decide) (by intro x hx; rw [List.mem_singleton.mp hx]; rfl) (by simp) (fun env L s H D => ?_) rfl rfl rfl
  obtain ⟨e1, e2, p1, p2, p3, p4, p5, p6, p7, p8, p9, p10, p11, p12, hb, hl1, hl2⟩ := body9
  rw [hb]
  refine wpAny_execs_cons (wpAny_Assign_Name (List_ ?_))
  refine litss (nss := [[0], [1, 0], [2, 1, 0], [3, 0], [4, 0], [5, 0], [6, 5, 0], [7, 6, 5, 0], [8, 7, 6, 5, 0], [9, 6, 5, 0]]) hl1 (by decide) D fun as1 vs1 s e1 i1 D => ?_
  have l1 : as1.length = 10 := by rw [e1, i1.length]; rfl
  refine new_list D (by rw [List.length_map, l1, sizeLine_eq]; decide) fun w1 s D => ?_
  have D : On r s ps ((w1, isL (as1.map .ref)) :: (seqE as1 vs1 ++ (L, loc [("k", .int k u)]) :: fs)) := D
  have D := D.perm (fs' := (L, loc [("k", .int k u)]) :: (w1, isL (as1.map .ref)) :: (seqE as1 vs1 ++ fs)) ((List.Perm.swap _ _ _).trans (List.Perm.cons _ List.perm_middle.symm))
  refine st_keep [("k", .int k u)] H D (i := 0) rfl rfl rfl (by walk_at "sub") rfl fun s D => ?_
  refine wpAny_execs_cons (wpAny_Assign_Name (wpAny_BinOp ?_))
  refine ev_local H D (by walk_at "mem") (by walk_at "mem") rfl rfl ?_
  refine List_ ?_
  refine litss (nss := [[10, 9, 6, 5, 0], [11, 6, 5, 0], [12, 11, 6, 5, 0], [13, 5, 0], [14, 13, 6, 5, 0]]) hl2 (by decide) D fun as2 vs2 s e2 i2 D => ?_
  have l2 : as2.length = 5 := by rw [e2, i2.length]; rfl
  refine new_list D (by rw [List.length_map, l2, sizeLine_eq]; decide) fun w2 s D => ?_
  refine add_list D (mem_r (.tail _ (List.mem_append_right _ (.tail _ (.head _))))) (mem_r (.head _)) (by rw [List.length_map, List.length_map, l1, l2, sizeLine_eq]; decide) fun w3 s D => ?_
  have D := D.perm (fs' := (L, loc [("ways", .ref w1), ("k", .int k u)]) :: (w3, isL (as1.map .ref ++ as2.map .ref)) :: (w2, isL (as2.map .ref)) :: (seqE as2 vs2 ++ (w1, isL (as1.map .ref)) :: (seqE as1 vs1 ++ fs))) (by
    exact (List.perm_middle (l₁ := (w3, isL (as1.map .ref ++ as2.map .ref)) :: (w2, isL (as2.map .ref)) :: seqE as2 vs2)).symm)
  refine st_keep [("k", .int k u)] H D (i := 0) rfl rfl rfl (by walk_at "sub") rfl fun s D => ?_
  refine wpAny_execs_cons (wpAny_Return_some (Subscript_ ?_))
  refine ev_local H D (by walk_at "mem") (by walk_at "mem") rfl rfl ?_
  refine ev_local H D (by walk_at "mem") (by walk_at "mem") rfl rfl ?_
  have iAll := i1.append i2
  have hw : ([[0], [1, 0], [2, 1, 0], [3, 0], [4, 0], [5, 0], [6, 5, 0], [7, 6, 5, 0], [8, 7, 6, 5, 0], [9, 6, 5, 0]] ++ [[10, 9, 6, 5, 0], [11, 6, 5, 0], [12, 11, 6, 5, 0], [13, 5, 0], [14, 13, 6, 5, 0]])[k]? = some (way k) := by
    have : ∀ k, k < 15 → ([[0], [1, 0], [2, 1, 0], [3, 0], [4, 0], [5, 0], [6, 5, 0], [7, 6, 5, 0], [8, 7, 6, 5, 0], [9, 6, 5, 0]] ++ [[10, 9, 6, 5, 0], [11, 6, 5, 0], [12, 11, 6, 5, 0], [13, 5, 0], [14, 13, 6, 5, 0]])[k]? = some (way k) := by decide +kernel
    exact this k hk
  obtain ⟨vs, hvs, hiv⟩ := iAll.get hw
  have hka : k < (as1 ++ as2).length := by rw [List.length_append, l1, l2]; exact hk
  have hak : (as1 ++ as2)[k]? = some (as1 ++ as2)[k] := List.getElem?_eq_getElem hka
  refine item_list (xs := as1.map .ref ++ as2.map .ref) (x := .ref (as1 ++ as2)[k]) D (mem_r (.tail _ (.head _))) (by omega) (by omega) (by
    rw [← List.map_append, List.getElem?_map, Int.toNat_natCast, hak]; rfl) ?_
  refine h _ vs s hiv ?_
  have hmem : ((as1 ++ as2)[k], isL vs) ∈ (L, loc [("ways", .ref w3), ("k", .int k u)]) :: (w3, isL (as1.map .ref ++ as2.map .ref)) :: (w2, isL (as2.map .ref)) :: (seqE as2 vs2 ++ (w1, isL (as1.map .ref)) :: seqE as1 vs1) := by
    have hm : ((as1 ++ as2)[k], isL vs) ∈ seqE (as1 ++ as2) (vs1 ++ vs2) := List.mem_of_getElem? (seqE_get hak hvs)
    rw [seqE_append e1] at hm
    refine .tail _ (.tail _ (.tail _ ?_))
    rcases List.mem_append.mp hm with q | q
    · exact List.mem_append_right _ (.tail _ q)
    · exact List.mem_append_left _ q
  refine On.only (X := (L, loc [("ways", .ref w3), ("k", .int k u)]) :: (w3, isL (as1.map .ref ++ as2.map .ref)) :: (w2, isL (as2.map .ref)) :: (seqE as2 vs2 ++ (w1, isL (as1.map .ref)) :: seqE as1 vs1)) (fs := fs) ?_ hmem
  have e : (L, loc [("ways", Value.ref w3), ("k", .int k u)]) :: (w3, isL (as1.map .ref ++ as2.map .ref)) :: (w2, isL (as2.map .ref)) :: (seqE as2 vs2 ++ (w1, isL (as1.map .ref)) :: seqE as1 vs1) ++ fs = (L, loc [("ways", Value.ref w3), ("k", .int k u)]) :: (w3, isL (as1.map .ref ++ as2.map .ref)) :: (w2, isL (as2.map .ref)) :: (seqE as2 vs2 ++ (w1, isL (as1.map .ref)) :: (seqE as1 vs1 ++ fs)) := by simp
  rw [e]
  exact D
end
end Mine
/-! part M36 -/
set_option Elab.async false
set_option maxRecDepth 100000
set_option autoImplicit false
namespace Mine
open PySem PySem.Calls PySem.W PyProof.Rows Builtin

/-! ## the plain law -/
def res (n : Int) : Nat := (n.fmod 15).toNat
theorem res_lt (n : Int) : res n < 15 := by
  unfold res
  have h1 := Int.fmod_nonneg_of_pos n (show (0 : Int) < 15 by decide)
  have h2 := Int.fmod_lt_of_pos n (show (0 : Int) < 15 by decide)
  omega
theorem res_cast (n : Int) : ((res n : Nat) : Int) = n.fmod 15 := by
  unfold res
  have h1 := Int.fmod_nonneg_of_pos n (show (0 : Int) < 15 by decide)
  omega
abbrev It := Int × Tok
def vOf (p : It) : Value := .int p.1 p.2
def book1 (kvs : List (Key × Value)) (p : It) : List (Key × Value) := stored kvs (.ty (res p.1)) (vOf p)
def told1 (kvs : List (Key × Value)) (p : It) : List (Key × Value) := stored kvs (.int (res p.1)) (vOf p)
def bookOf (xs : List It) : List (Key × Value) := xs.foldl book1 []
def toldOf (xs : List It) : List (Key × Value) := xs.foldl told1 []
def typesOf (xs : List It) : List Value := xs.flatMap fun p => [vOf p, cl (res p.1)]

theorem valueAt_cons (p : Key × Value) (kvs : List (Key × Value)) (k : Key) : valueAt (p :: kvs) k = if p.1 = k then some p.2 else valueAt kvs k := by
  unfold valueAt
  rw [List.find?_cons]
  by_cases h : p.1 = k
  · simp [h]
  · simp [h]
theorem valueAt_map (kvs : List (Key × Value)) (k k' : Key) (v : Value) : valueAt (kvs.map fun kv => if kv.1 = k then (kv.1, v) else kv) k' = if k' = k then (valueAt kvs k').map (fun _ => v) else valueAt kvs k' := by
  induction kvs with
  | nil => unfold valueAt; simp
  | cons p kvs ih =>
    rw [List.map_cons, valueAt_cons, valueAt_cons, ih]
    by_cases h1 : p.1 = k <;> by_cases h2 : k' = k <;> by_cases h3 : p.1 = k' <;> simp_all
theorem valueAt_app (kvs : List (Key × Value)) (k k' : Key) (v : Value) : valueAt (kvs ++ [(k, v)]) k' = (valueAt kvs k').or (if k = k' then some v else none) := by
  induction kvs with
  | nil => rw [List.nil_append, valueAt_cons]; simp [valueAt]
  | cons p kvs ih =>
    rw [List.cons_append, valueAt_cons, valueAt_cons, ih]
    by_cases h : p.1 = k' <;> simp [h]
theorem any_valueAt (kvs : List (Key × Value)) (k : Key) : kvs.any (fun kv => kv.1 = k) = (valueAt kvs k).isSome := by
  induction kvs with
  | nil => rfl
  | cons p kvs ih => rw [List.any_cons, valueAt_cons, ih]; by_cases h : p.1 = k <;> simp [h]
theorem valueAt_stored' (kvs : List (Key × Value)) (k k' : Key) (v : Value) : valueAt (stored kvs k v) k' = if k' = k then some v else valueAt kvs k' := by
  unfold stored
  rw [any_valueAt]
  cases h : (valueAt kvs k).isSome with
  | true =>
    simp only [if_true]
    rw [valueAt_map]
    by_cases e : k' = k
    · subst e
      obtain ⟨u, hu⟩ := Option.isSome_iff_exists.mp h
      simp [hu]
    · simp [e]
  | false =>
    simp only [Bool.false_eq_true, if_false]
    rw [valueAt_app]
    by_cases e : k' = k
    · subst e
      have : valueAt kvs k' = none := by simpa using h
      simp [this]
    · have : ¬ k = k' := fun q => e q.symm
      simp [e, this]
theorem stored_len (kvs : List (Key × Value)) (k : Key) (v : Value) : (stored kvs k v).length ≤ kvs.length + 1 := by
  unfold stored; split <;> simp
theorem stored_keys {P : Key → Prop} {kvs : List (Key × Value)} {k : Key} {v : Value} (h : ∀ p ∈ kvs, P p.1) (hk : P k) : ∀ p ∈ stored kvs k v, P p.1 := by
  intro p hp
  unfold stored at hp
  split at hp
  · obtain ⟨q, hq, rfl⟩ := List.mem_map.mp hp
    split <;> exact h q hq
  · rcases List.mem_append.mp hp with hp | hp
    · exact h p hp
    · rw [List.mem_singleton.mp hp]; exact hk

theorem bookOf_snoc (xs : List It) (p : It) : bookOf (xs ++ [p]) = book1 (bookOf xs) p := by unfold bookOf; rw [List.foldl_append]; rfl
theorem toldOf_snoc (xs : List It) (p : It) : toldOf (xs ++ [p]) = told1 (toldOf xs) p := by unfold toldOf; rw [List.foldl_append]; rfl
theorem typesOf_snoc (xs : List It) (p : It) : typesOf (xs ++ [p]) = typesOf xs ++ [vOf p, cl (res p.1)] := by unfold typesOf; simp
theorem fold_len (f : List (Key × Value) → It → List (Key × Value)) (hf : ∀ kvs p, (f kvs p).length ≤ kvs.length + 1) : ∀ (xs : List It) (kvs : List (Key × Value)), (xs.foldl f kvs).length ≤ kvs.length + xs.length
  | [], kvs => by simp
  | p :: xs, kvs => by rw [List.foldl_cons]; have h1 := fold_len f hf xs (f kvs p); have h2 := hf kvs p; rw [List.length_cons]; omega
theorem bookOf_len (xs : List It) : (bookOf xs).length ≤ xs.length := by have := fold_len book1 (fun _ _ => stored_len _ _ _) xs []; unfold bookOf; simpa using this
theorem toldOf_len (xs : List It) : (toldOf xs).length ≤ xs.length := by have := fold_len told1 (fun _ _ => stored_len _ _ _) xs []; unfold toldOf; simpa using this
theorem typesOf_len (xs : List It) : (typesOf xs).length = 2 * xs.length := by
  unfold typesOf
  induction xs with
  | nil => rfl
  | cons p xs ih => simp [List.flatMap_cons, ih]; omega
theorem typesOf_ok (xs : List It) : ∀ x ∈ typesOf xs, (∃ i t, x = .int i t) ∨ Ty x := by
  intro x hx
  unfold typesOf at hx
  obtain ⟨p, _, hp⟩ := List.mem_flatMap.mp hx
  rcases List.mem_cons.mp hp with rfl | hp
  · exact .inl ⟨_, _, rfl⟩
  · rw [List.mem_singleton.mp hp]; exact .inr ⟨_, res_lt _, rfl⟩
theorem bookOf_keys (xs : List It) : ∀ p ∈ bookOf xs, ∃ n, n < 15 ∧ p.1 = Key.ty n := by
  have : ∀ (xs : List It) (kvs : List (Key × Value)), (∀ p ∈ kvs, ∃ n, n < 15 ∧ p.1 = Key.ty n) → ∀ p ∈ xs.foldl book1 kvs, ∃ n, n < 15 ∧ p.1 = Key.ty n := by
    intro xs
    induction xs with
    | nil => intro kvs h; exact h
    | cons x xs ih => intro kvs h; exact ih _ (stored_keys (P := fun k => ∃ n, n < 15 ∧ k = Key.ty n) h ⟨_, res_lt _, rfl⟩)
  exact this xs [] fun p hp => (List.not_mem_nil hp).elim
theorem same_tell (xs : List It) : ∀ j : Nat, valueAt (toldOf xs) (.int j) = valueAt (bookOf xs) (.ty j) := by
  have : ∀ (xs : List It) (a b : List (Key × Value)), (∀ j : Nat, valueAt a (.int j) = valueAt b (.ty j)) → ∀ j : Nat, valueAt (xs.foldl told1 a) (.int j) = valueAt (xs.foldl book1 b) (.ty j) := by
    intro xs
    induction xs with
    | nil => intro a b h; exact h
    | cons x xs ih =>
      intro a b h
      refine ih _ _ fun j => ?_
      unfold told1 book1
      rw [valueAt_stored', valueAt_stored', h j]
      have : (Key.int (j : Int) = Key.int (res x.1 : Int)) ↔ (Key.ty j = Key.ty (res x.1)) := by
        constructor
        · intro e; injection e with e; have : j = res x.1 := by omega
          rw [this]
        · intro e; injection e with e; rw [e]
      by_cases e : Key.ty j = Key.ty (res x.1)
      · rw [if_pos e, if_pos (this.mpr e)]
      · rw [if_neg e, if_neg fun q => e (this.mp q)]
  exact this xs [] [] fun j => rfl
/-- what the law's second list begins with -/
def tells (xs : List It) (l : List Nat) : List Value := l.filterMap fun (j : Nat) => valueAt (toldOf xs) (.int (j : Int))
theorem tells_head (xs : List It) (k : Nat) : (tells xs (way k) ++ [Value.none])[0]? = some (answer (bookOf xs) k) := by
  unfold answer firstOf tells
  have : ∀ l : List Nat, ((l.filterMap fun (j : Nat) => valueAt (toldOf xs) (.int (j : Int))) ++ [Value.none])[0]? = some (match l.find? (fun j => (valueAt (bookOf xs) (.ty j)).isSome) with | some j => (valueAt (bookOf xs) (.ty j)).getD .none | none => .none) := by
    intro l
    induction l with
    | nil => rfl
    | cons j l ih =>
      rw [List.filterMap_cons, List.find?_cons, same_tell]
      cases h : valueAt (bookOf xs) (.ty j) with
      | none => simp only [Option.isSome_none]; exact ih
      | some v => simp [h]
  exact this (way k)
theorem answer_cases (xs : List It) (k : Nat) : (∃ n t, answer (bookOf xs) k = .int n t) ∨ answer (bookOf xs) k = .none := by
  have key : ∀ (xs : List It) (kvs : List (Key × Value)), (∀ p ∈ kvs, ∃ n t, p.2 = Value.int n t) → ∀ p ∈ xs.foldl book1 kvs, ∃ n t, p.2 = Value.int n t := by
    intro xs
    induction xs with
    | nil => intro kvs h; exact h
    | cons x xs ih =>
      intro kvs h
      refine ih _ fun p hp => ?_
      unfold book1 stored at hp
      split at hp
      · obtain ⟨q, hq, rfl⟩ := List.mem_map.mp hp
        split
        · exact ⟨_, _, rfl⟩
        · exact h q hq
      · rcases List.mem_append.mp hp with hp | hp
        · exact h p hp
        · rw [List.mem_singleton.mp hp]; exact ⟨_, _, rfl⟩
  have hk := key xs [] fun p hp => (List.not_mem_nil hp).elim
  unfold answer
  cases firstOf (bookOf xs) (way k) with
  | none => exact .inr rfl
  | some j =>
    cases h : valueAt (bookOf xs) (.ty j) with
    | none => exact .inr (by show (valueAt (bookOf xs) (.ty j)).getD .none = _; rw [h]; rfl)
    | some v =>
      have h0 := h
      unfold valueAt at h
      obtain ⟨p, hp, rfl⟩ := Option.map_eq_some_iff.mp h
      obtain ⟨n, t, e⟩ := hk p (List.mem_of_find?_eq_some hp)
      exact .inl ⟨n, t, by show (valueAt (bookOf xs) (.ty j)).getD .none = _; rw [h0]; exact e⟩
end Mine
/-! part M37 -/
set_option Elab.async false
set_option maxRecDepth 100000
set_option autoImplicit false
namespace Mine
open PySem PySem.Calls PySem.W PyProof.Rows Builtin
local macro_rules | `(tactic| walk_at "mem") => `(tactic| first | exact List.Mem.head _ | (refine List.Mem.tail _ ?_; (walk_at "mem")))
local macro_rules | `(tactic| walk_at "sub") => `(tactic| first | exact List.forall_mem_nil _ | (refine List.forall_mem_cons.mpr ⟨?_, ?_⟩; (walk_at "mem"); (walk_at "sub")))

def scLaw : Scope := scopeOf (stOf 10)
abbrev clsL : List Value := (List.range 15).map cl
theorem clsL_get {n : Nat} (h : n < 15) : clsL[n]? = some (cl n) := by
  unfold clsL; rw [List.getElem?_map, List.getElem?_range h]; rfl

section
variable {prog : Program} {w : World} {A : Around} {E : Value → Shared → Prop} {r s : Shared} {ps fs : Fs} {env : Env} {L cT cC td bk ty cs : Addr} {own : Nat}

theorem mod15 {n : Int} {t u : Tok} {Q : Value → Shared → Prop} (h : ∀ tk s', s'.heap = s.heap → s'.gens = s.gens → s'.os = s.os → Q (.int (n.fmod 15) tk) s') : wpAny (model prog w) A (binaryOp .Mod (.int n t) (.int 15 u)) Q E s :=
  AutoIntOps.mod_1 (by decide) (h _ { s with toks := s.toks + 1 } rfl rfl rfl)
theorem On.like (D : On r s ps fs) {s' : Shared} (h1 : s'.heap = s.heap) (h2 : s'.gens = s.gens) (h3 : s'.os = s.os) : On r s' ps fs := ⟨by rw [h1]; exact D.st, by rw [h2]; exact D.gens, by rw [h3]; exact D.os⟩

/-- classes[x % 15] -/
theorem class_of {x : Str} {xp p1 p2 p3 p4 : Pos} {n : Int} {t : Tok} {Q : Value → Shared → Prop} {l : List (Str × Value)} (H : EnvIs env scLaw L [("told", cT), ("classes", cC)]) (D : On r s ps fs) (hL : (L, loc l) ∈ fs) (hC : (cC, isC (some (.ref cs))) ∈ fs) (hcs : (cs, isL clsL) ∈ fs)
    (hx : ((x, Value.int n t) : Str × Value) ∈ l) (hxl : scLaw.names.lookup x = some .local) (hxd : (x == ("__debug__" : Str)) = false) (h : ∀ s', On r s' ps fs → Q (cl (res n)) s') :
    wpAny (model prog w) A (eval (.Subscript (.Name "classes" p1) (.BinOp (.Name x xp) .Mod (.Constant (.int 15) 0 p2) p3) p4) env) Q E s := by
  refine Subscript_ ?_
  refine ev_cell H D rfl hC rfl rfl ?_
  refine wpAny_BinOp ?_
  refine ev_local H D hL hx hxl rfl ?_ hxd
  refine wpAny_Constant_int ?_
  refine mod15 fun tk s' h1 h2 h3 => ?_
  have D := (D.tok (t := s.toks + 1)).like h1 h2 h3
  have hn := Int.fmod_nonneg_of_pos n (show (0 : Int) < 15 by decide)
  have hl := Int.fmod_lt_of_pos n (show (0 : Int) < 15 by decide)
  exact item_list (xs := clsL) D (mem_r hcs) hn (by omega) (clsL_get (res_lt n)) (h s' D)

/-- the loop of the law -/
theorem law_loop (hA : A.handled = none) (H : EnvIs env scLaw L [("told", cT), ("classes", cC)]) {xs : List It} {u0 : Tok} {Q : Flow → Shared → Prop} {pi pt : Pos} {iter : PySem.Expr}
    (hlen : xs.length ≤ 64)
    (hi : ∀ Q' : Value → Shared → Prop, (∀ sl s', On r s' ps ((sl, isL (xs.map vOf)) :: (L, loc [("types", .ref ty), ("book", .ref bk), ("own", .int own u0)]) :: (cT, isC (some (.ref td))) :: (cC, isC (some (.ref cs))) :: (bk, isD prog w []) :: (td, isD prog w []) :: (ty, isL []) :: (cs, isL clsL) :: fs) → Q' (.ref sl) s') → wpAny (model prog w) A (eval iter env) Q' E s) (hs : ∀ x, foldedSetIterable iter env x = pure x)
    (h : ∀ s', On r s' ps ((L, loc [("types", .ref ty), ("book", .ref bk), ("own", .int own u0)]) :: (cT, isC (some (.ref td))) :: (cC, isC (some (.ref cs))) :: (bk, isD prog w (bookOf xs)) :: (td, isD prog w (toldOf xs)) :: (ty, isL (typesOf xs)) :: (cs, isL clsL) :: fs) → Q .next s') :
    wpAny (model prog w) A (exec (.For (.Name "x" pi) iter (forBody (nth (bodyOf (stOf 10)) 5)) [] pt) env) Q E s := by
  refine wpAny_For (hi _ fun sl s D => ?_) hs
  refine it_list D (mem_r (.head _)) fun I s D => ?_
  refine for_loop (fun i ps' fs' => ps' = ps ∧ ∃ l, (∀ p ∈ ([("types", .ref ty), ("book", .ref bk), ("own", .int own u0)] : List (Str × Value)), p ∈ l) ∧
      fs' = (sl, isL (xs.map vOf)) :: (L, loc l) :: (cT, isC (some (.ref td))) :: (cC, isC (some (.ref cs))) :: (bk, isD prog w (bookOf (xs.take i))) :: (td, isD prog w (toldOf (xs.take i))) :: (ty, isL (typesOf (xs.take i))) :: (cs, isL clsL) :: fs)
    (srcF_list (xs := xs.map vOf) hA) ?_ ?_ ?_ D ⟨rfl, _, fun p hp => hp, rfl⟩ (fun _ => rfl)
  · rintro i ps' fs' ⟨rfl, l, _, rfl⟩; exact mem_r (.head _)
  · rintro i v s ps' fs' hv ⟨rfl, l, hl, rfl⟩ D
    rw [List.getElem?_map] at hv
    obtain ⟨⟨n, t⟩, hp, rfl⟩ := Option.map_eq_some_iff.mp hv
    have htake : xs.take (i + 1) = xs.take i ++ [(n, t)] := by rw [List.take_add_one, hp]; rfl
    have hti : (xs.take i).length ≤ 64 := by rw [List.length_take]; omega
    have hB := bookOf_len (xs.take i)
    have hT := toldOf_len (xs.take i)
    have hY := typesOf_len (xs.take i)
    refine wpAny_assign_Name (st_keep [("types", .ref ty), ("book", .ref bk), ("own", .int own u0)] H D (i := 2) rfl rfl rfl hl rfl fun s D => ?_)
    have D : On r s ps' ((I, isLI sl (i + 1)) :: (sl, isL (xs.map vOf)) :: (L, loc [("x", .int n t), ("types", .ref ty), ("book", .ref bk), ("own", .int own u0)]) :: (cT, isC (some (.ref td))) :: (cC, isC (some (.ref cs))) :: (bk, isD prog w (bookOf (xs.take i))) :: (td, isD prog w (toldOf (xs.take i))) :: (ty, isL (typesOf (xs.take i))) :: (cs, isL clsL) :: fs) := D
    -- book[classes[x % 15]] = x
    refine wpAny_execs_cons (wpAny_Assign_Subscript ?_)
    refine ev_local H D (by walk_at "mem") (by walk_at "mem") rfl rfl ?_
    refine ev_local H D (by walk_at "mem") (by walk_at "mem") rfl rfl ?_
    refine class_of H D (.tail _ (.tail _ (.head _))) (by walk_at "mem") (by walk_at "mem") (.head _) rfl (by decide) fun s D => ?_
    refine set_dict (i := 5) (kk := .ty (res n)) D rfl (key_ty (res_lt n)) (by omega) fun s D => ?_
    -- told[x % 15] = x
    refine wpAny_execs_cons (wpAny_Assign_Subscript ?_)
    refine ev_local H D (by walk_at "mem") (by walk_at "mem") rfl rfl ?_
    refine ev_cell H D rfl (by walk_at "mem") rfl rfl ?_
    refine wpAny_BinOp ?_
    refine ev_local H D (by walk_at "mem") (by walk_at "mem") rfl rfl ?_
    refine wpAny_Constant_int ?_
    refine mod15 fun tk s' h1 h2 h3 => ?_
    have D := (D.tok (t := s.toks + 1)).like h1 h2 h3
    refine set_dict (i := 6) (kk := .int (res n)) D rfl (by rw [res_cast]; exact key_int) (by omega) fun s D => ?_
    -- types.extend([x, classes[x % 15]])
    refine wpAny_execs_cons (wpAny_Expr (wpAny_Call_method1_late rfl rfl rfl ?_) (by unfold interactive; rw [H.scope]; rfl) rfl)
    refine ev_local H D (by walk_at "mem") (by walk_at "mem") rfl rfl ?_
    have hty := D.st.list (mem_r (ps := ps') (p := (ty, isL (typesOf (xs.take i)))) (by walk_at "mem"))
    refine ⟨"list", "list.extend", PySem.F.plainAttrs_list, PySem.F.slot_list_extend, PySem.F.type_list_extend, hty.typeIs, ?_, ?_⟩
    · intro a e
      cases e
      obtain ⟨m, ho⟩ := D.st.objL (mem_r (ps := ps') (p := (ty, isL (typesOf (xs.take i)))) (by walk_at "mem"))
      exact ⟨_, ho, rfl⟩
    refine Calls.callWith_builtin rfl (Calls.evalArgs_plain (Calls.spliced_cons ?_))
    refine List_ ?_
    refine wpAny_items_cons (ev_local H D (by walk_at "mem") (by walk_at "mem") rfl rfl ?_)
    refine wpAny_items_cons (class_of H D (.tail _ (.tail _ (.head _))) (by walk_at "mem") (by walk_at "mem") (.head _) rfl (by decide) fun s D => wpAny_items_nil ?_)
    refine new_list D (by rw [sizeLine_eq]; simp) fun b s D => Calls.spliced_nil ?_
    refine extend_list (i := 8) D rfl (mem_r (.head _)) (by rw [hY]; simp; omega) fun s D => ?_
    refine wpAny_execs_nil ⟨ps', _, D.rid 0, rfl, [("x", .int n t), ("types", .ref ty), ("book", .ref bk), ("own", .int own u0)], fun p hp => .tail _ hp, ?_⟩
    rw [htake, bookOf_snoc, toldOf_snoc, typesOf_snoc]
    rfl
  · rintro s ps' fs' ⟨rfl, l, hl, rfl⟩ D
    rw [List.length_map, List.take_length] at D
    refine wpAny_execs_nil (h s ((D.rid 0).imp (i := 0) rfl (loc_sub hl)))
end
end Mine
/-! part M38 -/
set_option Elab.async false
set_option maxRecDepth 100000
set_option autoImplicit false
namespace Mine
open PySem PySem.Calls PySem.W PyProof.Rows Builtin
local macro_rules | `(tactic| walk_at "mem") => `(tactic| first | exact List.Mem.head _ | (refine List.Mem.tail _ ?_; (walk_at "mem")))
local macro_rules | `(tactic| walk_at "sub") => `(tactic| first | exact List.forall_mem_nil _ | (refine List.forall_mem_cons.mpr ⟨?_, ?_⟩; (walk_at "mem"); (walk_at "sub")))

section
variable {prog : Program} {w : World} {A : Around} {E : Value → Shared → Prop} {r s : Shared} {ps fs : Fs} {env : Env} {L cT cC td bk ty cs : Addr} {own : Nat}

theorem AOk.roomC {A : Around} {n : Nat} (h : AOk A n) : A.units < cLine := by
  have := h.units
  have e : 5000 < cLine := by decide
  omega

theorem ne_same {a b : Addr} {vs : List Value} {Q : Value → Shared → Prop} (hu : A.units < cLine) (D : On r s ps fs) (ha : (a, isL vs) ∈ ps ++ fs) (hb : (b, isL vs) ∈ ps ++ fs) (hty : ∀ v ∈ vs, Ty v) (h : Q (.bool false) s) :
    wpAny (model prog w) A (compareOp .NotEq (.ref a) (.ref b)) Q E s := by
  show wpAny _ A (richCompare .NotEq (.ref a) (.ref b)) Q E s
  refine SeqAt.RcNeAt.lists (e := fun _ => true) (D.st.list ha) (D.st.list hb) rfl hu (fun j h1 h2 prog' w' E' Q' hq => ?_) prog w E Q ?_
  · have hm : vs.toArray[j] ∈ vs := by simp
    have := eqg_ty (hty _ hm) (hty _ hm) prog' w' A.in1 E' s Q'
    rw [beq_self_eq_true] at this
    exact this hq
  · have : (List.range vs.toArray.size).all (fun _ => true) = true := by simp
    rw [this]; exact h

/-- classes[own] -/
theorem own_class {p1 p2 p3 : Pos} {u0 : Tok} {Q : Value → Shared → Prop} {l : List (Str × Value)} (H : EnvIs env scLaw L [("told", cT), ("classes", cC)]) (D : On r s ps fs) (hL : (L, loc l) ∈ fs) (hC : (cC, isC (some (.ref cs))) ∈ fs) (hcs : (cs, isL clsL) ∈ fs)
    (hx : ((("own" : Str), Value.int own u0) : Str × Value) ∈ l) (ho : own < 15) (h : Q (cl own) s) : wpAny (model prog w) A (eval (.Subscript (.Name "classes" p1) (.Name "own" p2) p3) env) Q E s := by
  refine Subscript_ ?_
  refine ev_cell H D rfl hC rfl rfl ?_
  refine ev_local H D hL hx rfl rfl ?_
  exact item_list (xs := clsL) D (mem_r hcs) (by omega) (by omega) (by rw [Int.toNat_natCast]; exact clsL_get ho) h

theorem closure_law {sc : Scope} {x y : Str} {c : Addr} (H : EnvIs env scLaw L [("told", cT), ("classes", cC)]) (hc : ([(("told" : Str), cT), (("classes" : Str), cC)]).lookup x = some c) (hn : sc.names = [((".0" : Str), NameKind.local), (y, NameKind.local), (x, NameKind.free)]) : closureFor sc env = pure [(x, c)] := closure_one H hc hn

/-- [classes[k] for k in _law_way(own)] -/
theorem way_classes (hA : AOk A 2) (G : Gnd r.heap) (ho : own < 15) (H : EnvIs env scLaw L [("told", cT), ("classes", cC)]) {u0 : Tok} {Q : Value → Shared → Prop} {p1 p2 p3 p4 p5 p6 p7 p8 : Pos} {l : List (Str × Value)}
    (D : On r s ps fs) (hL : (L, loc l) ∈ fs) (hC : (cC, isC (some (.ref cs))) ∈ fs) (hcs : (cs, isL clsL) ∈ fs) (hx : ((("own" : Str), Value.int own u0) : Str × Value) ∈ l)
    (h : ∀ d s', On r s' ps ((d, isL ((way own).map cl)) :: fs) → Q (.ref d) s') :
    wpAny (model prog w) A (eval (.ListComp (.Subscript (.Name "classes" p1) (.Name "k" p2) p3) [⟨.Name "k" p4, .Call (.Name "_law_way" p5) [.Name "own" p6] [] p7, [], 0⟩]
      { kind := .function, names := [((".0" : Str), .local), (("k" : Str), .local), (("classes" : Str), .free)], isGenerator := false, isCoroutine := false, more := [] } p8) env) Q E s := by
  refine comp_value (r := r) (cl := [("classes", cC)]) H (closure_one (x := "classes") (y := "k") H rfl rfl) (by decide) rfl (by decide) rfl ?_
  obtain ⟨o, hfd, hdef⟩ := D.def G.f61
  refine f1 (fun Q' hq => ev_glob H D G.lway rfl rfl hq) hfd ?_
  refine ev_local H D hL hx rfl rfl ⟨hdef D, ?_⟩
  refine law_way (n := 1) hA G ho D fun a vs s hv D => ?_
  refine it_list D (mem_r (.head _)) fun I s D => ?_
  refine ⟨I, isLI a, vs, fun _ ps fs => (a, isL vs) ∈ ps ++ fs, fun i ps' fs' acc => ps' = ps ∧ fs' = (a, isL vs) :: fs ∧ acc = ((way own).take i).map cl, ps, _, rfl, src_list hA.handled, ?_, ?_, ?_, D, ⟨rfl, rfl, rfl⟩, ?_⟩
  · rintro i ps' fs' acc ⟨rfl, rfl, rfl⟩
    exact ⟨mem_r (.head _), by rw [List.length_map, List.length_take]; omega⟩
  · rw [hv.length]; have := (way_len own ho).1; omega
  · rintro i v acc s ps' fs' cenv C D' Hc hvi ⟨rfl, rfl, rfl⟩ D
    obtain ⟨n, t, hn, rfl⟩ := hv.get hvi
    have hn15 : n < 15 := (way_len own ho).2.2.1 n (List.mem_of_getElem? hn)
    refine wpAny_tests_nil ?_
    simp only [if_true]
    refine Subscript_ ?_
    refine ev_cell Hc D rfl (.tail _ (.tail _ (.tail _ (.tail _ hC)))) (relabel_cell (by rw [H.scope]; rfl) (H.kind rfl) rfl) rfl ?_
    refine ev_local Hc D (by walk_at "mem") (by walk_at "mem") (lookup_relabel_local rfl) rfl ?_
    refine item_list (xs := clsL) D (mem_r (.tail _ (.tail _ (.tail _ (.tail _ hcs))))) (by omega) (by omega) (by rw [Int.toNat_natCast]; exact clsL_get hn15) ?_
    refine ⟨ps', _, [("k", .int n t)], D, rfl, rfl, ?_⟩
    rw [List.take_add_one, hn]; simp
  · rintro acc s ps' fs' D' ⟨rfl, rfl, rfl⟩ D
    rw [hv.length, List.take_length] at D
    exact h D' s (D.rid 1)

/-- [told[k] for k in _law_way(own) if k in told] -/
theorem way_tells (hA : AOk A 2) (G : Gnd r.heap) (ho : own < 15) (H : EnvIs env scLaw L [("told", cT), ("classes", cC)]) {u0 : Tok} {Q : Value → Shared → Prop} {p1 p2 p3 p4 p5 p6 p7 p8 p9 p10 p11 : Pos} {l : List (Str × Value)} {xs : List It}
    (D : On r s ps fs) (hL : (L, loc l) ∈ fs) (hT : (cT, isC (some (.ref td))) ∈ fs) (htd : (td, isD prog w (toldOf xs)) ∈ fs) (hx : ((("own" : Str), Value.int own u0) : Str × Value) ∈ l)
    (h : ∀ d s', On r s' ps ((d, isL (tells xs (way own))) :: fs) → Q (.ref d) s') :
    wpAny (model prog w) A (eval (.ListComp (.Subscript (.Name "told" p1) (.Name "k" p2) p3) [⟨.Name "k" p4, .Call (.Name "_law_way" p5) [.Name "own" p6] [] p7, [.Compare (.Name "k" p9) [.In] [.Name "told" p10] p11], 0⟩]
      { kind := .function, names := [((".0" : Str), .local), (("k" : Str), .local), (("told" : Str), .free)], isGenerator := false, isCoroutine := false, more := [] } p8) env) Q E s := by
  refine comp_value (r := r) (cl := [("told", cT)]) H (closure_one (x := "told") (y := "k") H rfl rfl) (by decide) rfl (by decide) rfl ?_
  obtain ⟨o, hfd, hdef⟩ := D.def G.f61
  refine f1 (fun Q' hq => ev_glob H D G.lway rfl rfl hq) hfd ?_
  refine ev_local H D hL hx rfl rfl ⟨hdef D, ?_⟩
  refine law_way (n := 1) hA G ho D fun a vs s hv D => ?_
  refine it_list D (mem_r (.head _)) fun I s D => ?_
  refine ⟨I, isLI a, vs, fun _ ps fs => (a, isL vs) ∈ ps ++ fs, fun i ps' fs' acc => ps' = ps ∧ fs' = (a, isL vs) :: fs ∧ acc = tells xs ((way own).take i), ps, _, rfl, src_list hA.handled, ?_, ?_, ?_, D, ⟨rfl, rfl, rfl⟩, ?_⟩
  · rintro i ps' fs' acc ⟨rfl, rfl, rfl⟩
    refine ⟨mem_r (.head _), Nat.le_trans (List.length_filterMap_le _ _) ?_⟩
    rw [List.length_take]; omega
  · rw [hv.length]; have := (way_len own ho).1; omega
  · rintro i v acc s ps' fs' cenv C D' Hc hvi ⟨rfl, rfl, rfl⟩ D
    obtain ⟨n, t, hn, rfl⟩ := hv.get hvi
    have htake : tells xs ((way own).take (i + 1)) = tells xs ((way own).take i) ++ (valueAt (toldOf xs) (.int (n : Int))).toList := by
      unfold tells
      rw [List.take_add_one, hn, List.filterMap_append]
      cases h : valueAt (toldOf xs) (.int (n : Int)) <;> simp [List.filterMap_cons, h]
    refine wpAny_tests_one (wpAny_isTrue_Compare1 ?_)
    refine ev_local Hc D (by walk_at "mem") (by walk_at "mem") (lookup_relabel_local rfl) rfl ?_
    refine ev_cell Hc D rfl (.tail _ (.tail _ (.tail _ (.tail _ hT)))) (relabel_cell (by rw [H.scope]; rfl) (H.kind rfl) rfl) rfl ?_
    refine in_dict (kk := .int n) D (mem_r (.tail _ (.tail _ (.tail _ (.tail _ htd))))) key_int fun s D => wpAny_truthy_bool ?_
    cases hva : valueAt (toldOf xs) (.int (n : Int)) with
    | none =>
      simp only [Option.isSome_none, Bool.false_eq_true, if_false]
      refine ⟨ps', _, [("k", .int n t)], D, rfl, rfl, ?_⟩
      rw [htake, hva]; simp
    | some u =>
      simp only [Option.isSome_some, if_true]
      refine Subscript_ ?_
      refine ev_cell Hc D rfl (.tail _ (.tail _ (.tail _ (.tail _ hT)))) (relabel_cell (by rw [H.scope]; rfl) (H.kind rfl) rfl) rfl ?_
      refine ev_local Hc D (by walk_at "mem") (by walk_at "mem") (lookup_relabel_local rfl) rfl ?_
      refine item_dict (kk := .int n) D (mem_r (.tail _ (.tail _ (.tail _ (.tail _ htd))))) key_int hva (fun s D => ?_) (by with_unfolding_all rfl)
      refine ⟨ps', _, [("k", .int n t)], D, rfl, rfl, ?_⟩
      rw [htake, hva]; rfl
  · rintro acc s ps' fs' D' ⟨rfl, rfl, rfl⟩ D
    rw [hv.length, List.take_length] at D
    exact h D' s (D.rid 1)
end
end Mine
/-! part M39 -/
set_option Elab.async false
set_option maxRecDepth 100000
set_option autoImplicit false
namespace Mine
open PySem PySem.Calls PySem.W PyProof.Rows Builtin
local macro_rules | `(tactic| walk_at "mem") => `(tactic| first | exact List.Mem.head _ | (refine List.Mem.tail _ ?_; (walk_at "mem")))
local macro_rules | `(tactic| walk_at "sub") => `(tactic| first | exact List.forall_mem_nil _ | (refine List.forall_mem_cons.mpr ⟨?_, ?_⟩; (walk_at "mem"); (walk_at "sub")))

section
variable {prog : Program} {w : World} {A : Around} {E : Value → Shared → Prop} {r s : Shared} {ps fs : Fs} {env : Env} {L cT cC td bk ty cs l : Addr} {own : Nat}

/-- the script, an old list -/
structure Script (B : Heap) (l : Addr) (vs : List Value) : Prop where
  low : l ≠ 2 ∧ l ≠ 37
  at_ : ∃ o n, B.get? l = some o ∧ o.cls = .type "list" ∧ o.data = .seq vs.toArray n
theorem Script.list {vs : List Value} (x : Script r.heap l vs) (D : On r s ps fs) : s.heap.IsList l vs.toArray := let ⟨o, n, e, c, d⟩ := x.at_; ⟨o, D.st.base.keep _ _ e x.low.1 x.low.2, c, n, d⟩

theorem slice1_old {env : Env} {x : Str} {px : Pos} {k : Nat} {p1 p pos : Pos} {vs : List Value} {Q : Value → Shared → Prop} (D : On r s ps fs) (hs : Script r.heap l vs)
    (hv : ∀ Q' : Value → Shared → Prop, Q' (.ref l) s → wpAny (model prog w) A (eval (.Name x px) env) Q' E s) (hsz : vs.length ≤ 1000)
    (h : ∀ c s', On r s' ps ((c, isL (vs.drop 1)) :: fs) → Q (.ref c) s') :
    wpAny (model prog w) A (eval (.Subscript (.Name x px) (.Slice (some (.Constant (.int 1) k p1)) none none p) pos) env) Q E s := by
  refine wpAny_Subscript_list_slice (hv _ (wpAny_evalPart_some (wpAny_Constant_int (wpAny_evalPart_none ?_))))
  refine ⟨l, vs.toArray, some 1, none, rfl, hs.list (D.tok (t := s.toks + 1)), by rw [List.size_toArray, sizeLine_eq]; omega, .int _ _, .none, ?_⟩
  have D1 : On r { s with heap := s.heap.push { cls := .type "slice", data := .fields #[.int 1 s.toks, .none, .none] }, toks := s.toks + 1 } ps ((s.heap.objs.size, anyO) :: fs) := D.with_heap (D.st.push trivial)
  have D2 := D1.with_heap (t := s.toks + 1) (D1.st.push (o := { cls := .type "list", data := .seq (slicePick vs.toArray (some 1) none none) }) (P := isL (vs.drop 1)) ⟨0, by
    have := slicePick_from' vs.toArray 1
    rw [show (1 : Int) = ((1 : Nat) : Int) from rfl] at *
    rw [this]⟩)
  have D3 := D2.sub (fs' := (_, isL (vs.drop 1)) :: fs) (.cons_cons _ (List.sublist_cons_self _ _))
  rw [Heap.size_push] at D3
  exact h _ _ D3

/-- after the second statement -/
theorem law_rest (hA : AOk A 29) (G : Gnd r.heap) (H : EnvIs env scLaw L [("told", cT), ("classes", cC)]) (ho : own < 15) {u0 : Tok} {xs0 : List It} {Q : Flow → Shared → Prop} (hsc : Script r.heap l (xs0.map vOf)) (hlen : xs0.length ≤ 63)
    (D : On r s ps ((L, loc [("own", .int own u0), ("script", .ref l)]) :: (cT, isC none) :: (cC, isC (some (.ref cs))) :: (cs, isL clsL) :: fs))
    (h : ∀ s' ps' fs', On r s' ps' fs' → Q (.ret (.bool true)) s') : wpAny (model prog w) A (execs ((bodyOf (stOf 10)).drop 2) env) Q E s := by
  generalize hxs : xs0.drop 1 = xs
  have hxl : xs.length ≤ 63 := by rw [← hxs, List.length_drop]; omega
  have hdrop : (xs0.map vOf).drop 1 = xs.map vOf := by rw [← hxs, List.map_drop]
  -- book = {}
  refine wpAny_execs_cons (wpAny_Assign_Name ?_)
  refine new_dict (prog := prog) (w := w) D fun bk s D => ?_
  refine st_keep [("own", .int own u0), ("script", .ref l)] H D (i := 1) rfl rfl rfl (by walk_at "sub") rfl fun s D => ?_
  -- told = {}
  refine wpAny_execs_cons (wpAny_Assign_Name ?_)
  refine new_dict (prog := prog) (w := w) D fun td s D => ?_
  refine st_cell (i := 3) H D rfl rfl rfl rfl fun s D => ?_
  -- types = []
  refine wpAny_execs_cons (wpAny_Assign_Name (List_ (wpAny_items_nil ?_)))
  refine new_list D (by decide) fun ty s D => ?_
  refine st_keep [("book", .ref bk), ("own", .int own u0), ("script", .ref l)] H D (i := 3) rfl rfl rfl (by walk_at "sub") rfl fun s D => ?_
  have D : On r s ps ((ty, isL []) :: (td, isD prog w []) :: (bk, isD prog w []) :: (L, loc [("types", .ref ty), ("book", .ref bk), ("own", .int own u0), ("script", .ref l)]) :: (cT, isC (some (.ref td))) :: (cC, isC (some (.ref cs))) :: (cs, isL clsL) :: fs) := D
  -- for x in script[1:]
  refine wpAny_execs_cons ?_
  refine law_loop (prog := prog) (w := w) (r := r) (ps := ps) (own := own) (u0 := u0) (td := td) (bk := bk) (ty := ty) (cs := cs) (fs := fs) (xs := xs) hA.handled H (by omega) (fun Q' hq => ?_) (fun _ => rfl) fun s D => ?_
  · refine slice1_old D hsc (fun Q' hq => ev_local H D (by walk_at "mem") (by walk_at "mem") rfl rfl hq) (by rw [List.length_map]; omega) fun sl s D => ?_
    rw [hdrop] at D
    have D := D.imp (i := 4) (P' := loc [("types", .ref ty), ("book", .ref bk), ("own", .int own u0)]) rfl (loc_sub (by walk_at "sub"))
    -- sl ty td bk L cT cC cs  →  sl L cT cC bk td ty cs
    have D := (((((((D.bring 7 rfl).bring 2 rfl).bring 3 rfl).bring 4 rfl).bring 7 rfl).bring 7 rfl).bring 7 rfl).bring 7 rfl
    exact hq sl s D
  -- if _compose_mro(classes[own], types) != [...]
  have htl := typesOf_len xs
  refine wpAny_execs_cons (wpAny_If (wpAny_isTrue_Compare1 ?_))
  obtain ⟨o, hfd, hdef⟩ := D.def G.f40
  refine f2 (fun Q' hq => ev_glob H D G.compose rfl rfl hq) hfd ?_
  refine own_class H D (.head _) (by walk_at "mem") (by walk_at "mem") (by walk_at "mem") ho ?_
  refine ev_local H D (by walk_at "mem") (by walk_at "mem") rfl rfl ?_
  refine ⟨hdef D, compose (k := own) (hA.less (by omega)) ho G (walk_list (a := ty) (xs := typesOf xs)) (fun p hp => by rw [List.mem_singleton.mp hp]; exact mem_r (by walk_at "mem")) (typesOf_ok xs) (by omega) D fun R s ps1 h1 D => ?_⟩
  refine way_classes (own := own) (hA.less (by omega)) G ho H D (by walk_at "mem") (by walk_at "mem") (by walk_at "mem") (by walk_at "mem") fun d s D => ?_
  refine ne_same hA.roomC D (mem_r (.tail _ (.head _))) (mem_r (.head _)) (fun v hv => by obtain ⟨q, hq, rfl⟩ := List.mem_map.mp hv; exact ⟨q, (way_len own ho).2.2.1 q hq, rfl⟩) (wpAny_truthy_bool ?_)
  simp only [Bool.false_eq_true, if_false]
  have D := (D.rid 0).rid 0
  -- return _find_impl(...) == (...)[0]
  refine wpAny_execs_nil (wpAny_execs_cons (wpAny_Return_some (wpAny_Compare1 ?_)))
  obtain ⟨o2, hfd2, hdef2⟩ := D.def G.f47
  refine f2 (fun Q' hq => ev_glob H D G.find rfl rfl hq) hfd2 ?_
  refine own_class H D (.head _) (by walk_at "mem") (by walk_at "mem") (by walk_at "mem") ho ?_
  refine ev_local H D (by walk_at "mem") (by walk_at "mem") rfl rfl ?_
  have hbl := bookOf_len xs
  refine ⟨hdef2 D, find_impl (k := own) (hA.less (by omega)) ho G (i := 3) D rfl (bookOf_keys xs) (by omega) fun s ps2 h2 D => ?_⟩
  refine Subscript_ (wpAny_BinOp ?_)
  refine way_tells (own := own) (xs := xs) (hA.less (by omega)) G ho H D (by walk_at "mem") (by walk_at "mem") (by walk_at "mem") (by walk_at "mem") fun d s D => ?_
  refine List_ ?_
  refine wpAny_items_cons (wpAny_Constant_none (wpAny_items_nil ?_))
  refine new_list D (by decide) fun e s D => ?_
  have htl2 : (tells xs (way own)).length ≤ 5 := Nat.le_trans (List.length_filterMap_le _ _) (way_len own ho).1
  refine add_list D (mem_r (.tail _ (.head _))) (mem_r (.head _)) (by rw [sizeLine_eq]; simp; omega) fun q s D => ?_
  refine wpAny_Constant_int ?_
  refine item_list (xs := tells xs (way own) ++ [Value.none]) (x := answer (bookOf xs) own) D.tok (mem_r (.head _)) (by decide) (by decide) (tells_head xs own) ?_
  rcases answer_cases xs own with ⟨n, t, e⟩ | e
  · rw [e]
    refine eq_int ?_
    rw [beq_self_eq_true]
    exact h _ _ _ D.tok
  · rw [e]
    exact EqNone.eq_none_none (h _ _ _ D.tok)

/-- law(script) -/
theorem law_ok (hA : AOk A 30) (G : Gnd r.heap) {xs0 : List It} {Q : Value → Shared → Prop} (hsc : Script r.heap l (xs0.map vOf)) (hlen : xs0.length ≤ 63) (D : On r s ps fs)
    (h : ∀ s' ps' fs', On r s' ps' fs' → Q (.bool true) s') : wpAny (model prog w) A (call (.ref 66) [.ref l] []) Q E s := by
  obtain ⟨mod, c, hfn, hcd⟩ := G.f66.at D.st.base
  refine call_fnK (body := bodyOf (stOf 10)) (binds := [("script", .ref l)]) (cs := fun n => [("told", n + 1), ("classes", n)]) (l := [("script", .ref l)]) (cm := fun _ => none)
    D hA.room hfn hcd rfl (BindsTo.of_eq rfl) rfl rfl rfl (fun n => rfl) (fun n => by show List.Nodup [("told" : Str), "classes"]; decide) (by intro n x hx; rw [List.mem_singleton.mp hx]; exact .inl rfl) (by intro p hp; rw [List.mem_singleton.mp hp]; rfl) rfl (fun env L s H _ _ _ D => ?_) rfl rfl rfl
  generalize hct : L + 1 + 1 = cT at *
  generalize hcc : L + 1 = cC at *
  have hA' : AOk (A.deeper env) 29 := hA.deeper env
  have D : On r s ps ((L, loc [("script", .ref l)]) :: (cT, isC none) :: (cC, isC none) :: fs) := D
  have H : EnvIs env scLaw L [("told", cT), ("classes", cC)] := H
  have go : ∀ Q' : Flow → Shared → Prop, (∀ s' ps' fs', On r s' ps' fs' → Q' (.ret (.bool true)) s') → wpAny (model prog w) (A.deeper env) (execs (bodyOf (stOf 10)) env) Q' (fun _ _ => False) s := by
    intro Q' h'
    -- classes = _law_classes()
    refine wpAny_execs_cons (wpAny_Assign_Name ?_)
    obtain ⟨o, hfd, hdef⟩ := D.def G.f54
    refine f0 (fun Q' hq => ev_glob H D G.classes rfl rfl hq) ⟨hdef D, hfd⟩ ?_
    refine law_classes (n := 28) hA' G D fun cs s D => ?_
    refine st_cell (i := 3) H D rfl rfl rfl rfl fun s D => ?_
    have D : On r s ps ((cs, isL clsL) :: (L, loc [("script", .ref l)]) :: (cT, isC none) :: (cC, isC (some (.ref cs))) :: fs) := D
    have next : ∀ (own : Nat) (u0 : Tok) (s : Shared) (P : Addr × Pr), own < 15 → On r s ps (P :: (cs, isL clsL) :: (L, loc [("script", .ref l)]) :: (cT, isC none) :: (cC, isC (some (.ref cs))) :: fs) →
        wpAny (model prog w) (A.deeper env) (storeName env "own" (.int own u0)) (fun _ s₁ => wpAny (model prog w) (A.deeper env) (execs ((bodyOf (stOf 10)).drop 2) env) Q' (fun _ _ => False) s₁) (fun _ _ => False) s := by
      intro own u0 s P ho D
      have D := D.rid 0
      refine st_keep [("script", .ref l)] H D (i := 1) rfl rfl rfl (by walk_at "sub") rfl fun s D => ?_
      have D := ((D.bring 3 rfl).bring 3 rfl).bring 3 rfl
      exact law_rest (cs := cs) (own := own) (u0 := u0) hA' G H ho hsc hlen D h'
    -- own = script[0] % 15 if script != [] else 0
    refine wpAny_execs_cons (wpAny_Assign_Name (wpAny_IfExp (wpAny_isTrue_Compare1 ?_)))
    refine ev_local H D (by walk_at "mem") (by walk_at "mem") rfl rfl ?_
    refine List_ (wpAny_items_nil ?_)
    refine new_list D (by decide) fun e s D => ?_
    have hL := hsc.list D
    have hE := D.st.list (mem_r (ps := ps) (p := (e, isL [])) (.head _))
    show wpAny _ _ (richCompare .NotEq (.ref l) (.ref e)) _ _ _
    cases xs0 with
    | nil =>
      refine SeqAt.RcNeAt.lists (e := fun _ => true) hL hE rfl hA'.roomC (fun j h1 h2 => by simp at h1) prog w _ _ ?_
      refine wpAny_truthy_bool ?_
      simp only [List.map_nil, Bool.false_eq_true, if_false]
      refine wpAny_Constant_int ?_
      exact next 0 _ _ _ (by decide) D.tok
    | cons p xs1 =>
      refine SeqAt.RcNeAt.lists_lengths hL hE (by simp) hA'.roomC prog w _ _ ?_
      refine wpAny_truthy_bool ?_
      simp only [if_true]
      refine wpAny_BinOp (Subscript_ ?_)
      refine ev_local H D (by walk_at "mem") (by walk_at "mem") rfl rfl ?_
      refine wpAny_Constant_int ?_
      have D := D.tok (t := s.toks + 1)
      refine tail_any (ops := [.ref l, .int 0 s.toks]) (hsc.list D).typeIs slot_list_getitem.lookup (wpAny_getItem_list (x := vOf p) (hsc.list D) (by decide) (by decide) (by simp) ?_) (by with_unfolding_all rfl)
      refine wpAny_Constant_int ?_
      refine mod15 fun tk s' h1 h2 h3 => ?_
      have D := (D.tok (t := s.toks + 1 + 1)).like h1 h2 h3
      rw [← res_cast]
      exact next (res p.1) tk s' _ (res_lt _) D
  exact go _ fun s' ps' fs' D => h s' ps' fs' D
end
end Mine
/-! part M40 -/
set_option Elab.async false
set_option maxRecDepth 100000
set_option autoImplicit false
namespace Mine
open PySem PySem.Calls PySem.W PyProof.Rows Builtin

theorem items_of : ∀ {vs : List Value} {ns : List Int}, IntsAre vs ns → ∃ xs : List It, vs = xs.map vOf ∧ xs.length = ns.length
  | _, _, .nil => ⟨[], rfl, rfl⟩
  | _, _, .cons n t h => let ⟨xs, e, l⟩ := items_of h; ⟨(n, t) :: xs, by rw [e]; rfl, by simp [l]⟩

theorem use_keys : ∀ k, k < 15 → firstUseKey (mroKey (nm k)) = true ∧ firstUseKey (basesKey (nm k)) = true := by decide +kernel

theorem old_of {B h : Heap} {ps : Fs} {o2 : Obj} {ep : Nat} (x : Base B h ps) (h2 : B.get? 2 = some o2) (c2 : o2.cls = .none) (d2 : o2.data = .dict #[] ep) (h37 : B.get? 37 = some (X.tableObj #[])) (hct : isCodeTable B 37) : OldK B h := by
  obtain ⟨o', m, e, hc, ⟨es, n, d, hk, hf⟩, hkv⟩ := x.stat
  obtain ⟨vs, e37, _⟩ := x.tab
  refine ⟨fun b o hb => ?_, fun b o hb => ?_⟩
  · by_cases b2 : b = 2
    · subst b2
      rw [h2] at hb; cases hb
      refine .inr (.inr ⟨rfl, c2, ⟨o', es, n, e, hc, d, hk⟩, fun key => ?_⟩)
      have hB : staticOf B key = none := by
        unfold staticOf
        show (match B.get? 2 with | some o => _ | none => none) = none
        rw [h2]
        dsimp only
        rw [d2]
        simp
      have hH : staticOf h key = m key := by
        unfold staticOf
        show (match h.get? 2 with | some o => _ | none => none) = m key
        rw [e]
        dsimp only
        rw [d]
        exact hf key
      cases hm : m key with
      | none => left; rw [hB, hH, hm]
      | some v =>
        right
        refine ⟨?_, hB⟩
        rcases hkv key v hm with ⟨k, a, hk15, rfl, _⟩ | ⟨k, a, hk15, rfl, _⟩
        · exact (use_keys k hk15).1
        · exact (use_keys k hk15).2
    · by_cases b37 : b = 37
      · subst b37
        rw [h37] at hb; cases hb
        exact .inr (.inl ⟨hct, rfl, #[], vs, rfl, by rw [e37]; simp [X.tableObj]⟩)
      · exact .inl (x.keep b o hb b2 b37)
  · by_cases b2 : b = 2
    · subst b2; exact ⟨o', e⟩
    · by_cases b37 : b = 37
      · subst b37; exact ⟨_, e37⟩
      · exact ⟨o, x.keep b o hb b2 b37⟩

theorem aok_caller {A : Around} (h1 : A.handled = none) (h2 : A.depth + 30 ≤ 900) (h3 : A.units + 120 ≤ 5000) : AOk A 30 := ⟨h1, h2, by omega⟩

theorem law_done {prog : Program} {w : World} {s : Shared} {E : Value → Shared → Prop} {l : Addr} {vs : List Value} {ns : List Int} {o2 : Obj} {ep : Nat} {Q : Value → Shared → Prop} (G : Gnd s.heap) (ok : BOk s.heap) (hg : s.gens = #[])
    (hl : s.heap.IsList l vs.toArray) (hi : IntsAre vs ns) (hlen : ns.length ≤ 63)
    (h2 : s.heap.get? 2 = some o2) (c2 : o2.cls = .none) (d2 : o2.data = .dict #[] ep) (h37 : s.heap.get? 37 = some (X.tableObj #[])) (hct : isCodeTable s.heap 37)
    (h : ∀ s', OldK s.heap s'.heap → s'.os = s.os → s'.gens = #[] → Q (.bool true) s') : wpAny (model prog w) callerA (call (.ref 66) [.ref l]) Q E s := by
  obtain ⟨xs, rfl, hxl⟩ := items_of hi
  obtain ⟨ol, hol, hcl, nl, hdl⟩ := hl
  have hb : Base s.heap s.heap [] := ⟨ok, fun _ _ e _ _ => e, ⟨o2, fun _ => none, h2, c2, ⟨#[], ep, d2, fun e he => by simp at he, fun name => rfl⟩, fun _ _ e => nomatch e⟩, ⟨#[], h37, trivial, fun cv e => by simp [codeAmong] at e⟩⟩
  have D : On s s [] [] := ⟨⟨hb, fun p hp => (List.not_mem_nil hp).elim, fun p hp => (List.not_mem_nil hp).elim, List.nodup_nil⟩, rfl, rfl⟩
  refine law_ok (aok_caller rfl (by decide) (by decide)) G ⟨⟨fun e => ?_, fun e => ?_⟩, ol, nl, hol, hcl, hdl⟩ (by rw [hxl]; exact hlen) D fun s' ps' fs' D' => ?_
  · rw [e, h2] at hol; cases hol; rw [c2] at hcl; cases hcl
  · rw [e, h37] at hol; cases hol; cases hcl
  · exact h s' (old_of D'.st.base h2 c2 d2 h37 hct) D'.os (D'.gens.trans hg)
end Mine
/-! part M41 -/
set_option Elab.async false
set_option maxRecDepth 100000
set_option autoImplicit false
namespace Mine
open PySem PySem.Calls PySem.W PyProof.Rows Builtin

theorem mg_val {h : Heap} {a : Addr} {mg : Str → Option Value} {o : Obj} (N : h.Ns a mg) (e : h.get? a = some o) (x : Str) : mg x = (match o.data with | .dict es _ => nsFind es x | _ => none) := by
  obtain ⟨o', es, ep, e', d, _, hf⟩ := N
  rw [e] at e'; cases e'
  rw [d]; exact (hf x).symm
def nsAt (o : Obj) (x : Str) : Option Value := match o.data with | .dict es _ => nsFind es x | _ => none
def strIs (q : Str) : Option Value → Bool
  | some (.str x _) => x == q
  | _ => false
theorem strIs_of {q : Str} {v : Option Value} (h : strIs q v = true) : ∃ t, v = some (.str q t) := by
  unfold strIs at h
  split at h
  · exact ⟨_, by rw [eq_of_beq h]⟩
  · cases h
def isCodeB (q : Str) (o : Obj) : Bool := match o.data with
  | .fields vs => strIs q vs[1]?
  | _ => false
theorem codeR_of {B : Heap} {c : Addr} {q : Str} {o : Obj} (e : B.get? c = some o) (h2 : c ≠ 2) (h37 : c ≠ 37) (hv : isCodeB q o = true) : CodeR B (.ref c) q := by
  unfold isCodeB at hv
  split at hv
  · rename_i vs hd
    obtain ⟨t, ht⟩ := strIs_of hv
    exact ⟨c, o, vs, t, rfl, h2, h37, e, hd, ht⟩
  · cases hv
def isEmptyB (o : Obj) : Bool := match o.data with
  | .dict es _ => es.isEmpty && o.cls == Value.none
  | _ => false
theorem empty_of {o : Obj} (h : isEmptyB o = true) : o.cls = .none ∧ ∃ ep, o.data = .dict #[] ep := by
  unfold isEmptyB at h
  split at h
  · rename_i es ep hd
    simp only [Bool.and_eq_true, beq_iff_eq] at h
    refine ⟨h.2, ep, ?_⟩
    rw [hd]
    have : es = #[] := by simpa using h.1
    rw [this]
  · cases h
theorem eq_at {B : Heap} {a : Addr} {o o' : Obj} (e : B.get? a = some o) (h : o = o') : B.get? a = some o' := by rw [e, h]
theorem empty_at {B : Heap} {o : Obj} (e : B.get? 2 = some o) (h : isEmptyB o = true) : ∃ o ep, B.get? 2 = some o ∧ o.cls = .none ∧ o.data = .dict #[] ep := let ⟨c, ep, d⟩ := empty_of h; ⟨o, ep, e, c, d⟩
def isCodeHdB (P : Addr) (o : Obj) : Bool := match o.data with
  | .fields vs => o.cls == .type "code" && vs[11]? == some (.ref P) && (match vs.getD 18 .none with | .str _ _ => true | _ => false) && (match vs.getD 7 .none with | .int _ _ => true | _ => false) &&
      (match vs.getD 9 .none with | .bool _ => true | _ => false) && (match vs.getD 10 .none with | .int _ _ => true | _ => false)
  | _ => false
theorem codeHd_of {B : Heap} {c P : Addr} {o : Obj} (e : B.get? c = some o) (h : isCodeHdB P o = true) (hne : c ≠ P) : CodeHd B c P ∧ isCodeTable B P := by
  unfold isCodeHdB at h
  split at h
  · rename_i vs hd
    simp only [Bool.and_eq_true, beq_iff_eq] at h
    obtain ⟨⟨⟨⟨⟨h1, h2⟩, h3⟩, h4⟩, h5⟩, h6⟩ := h
    split at h3
    · rename_i f tf e3
      split at h4
      · rename_i fl tg e4
        split at h5
        · rename_i b e5
          split at h6
          · rename_i tx tt e6
            refine ⟨⟨o, vs, f, tf, fl, tg, b, tx, tt, e, h1, hd, h2, ?_, e3, e4, e5, e6, hne⟩, c, o, vs, e, h1, hd, h2⟩
            obtain ⟨hl, e11⟩ := Array.getElem?_eq_some_iff.mp h2
            simp [Array.getD, hl, e11]
          · cases h6
        · cases h5
      · cases h4
    · cases h3
  · cases h
def isSeqNone (o : Obj) : Bool := match o.data with
  | .seq xs _ => xs == #[Value.none]
  | _ => false
theorem seqNone_of {B : Heap} {a : Addr} {o : Obj} (e : B.get? a = some o) (h : isSeqNone o = true) : ∃ o n, B.get? a = some o ∧ o.data = .seq #[.none] n := by
  unfold isSeqNone at h
  split at h
  · rename_i xs n hd
    have : xs = #[.none] := by simpa using h
    exact ⟨o, n, e, by rw [hd, this]⟩
  · cases h
def pmOf (o : Obj) : Value := match o.data with | .func fd => fd.pyModule | _ => .none
theorem isFn_of {B : Heap} {a c : Addr} {i : Nat} {dflt : Value} {o oc : Obj} (h2 : a ≠ 2) (h37 : a ≠ 37) (e : B.get? a = some o) (hd : o.data = .func (mkFn i dflt (pmOf o) c)) (ec : B.get? c = some oc) (c2 : c ≠ 2) (c37 : c ≠ 37) (hq : isCodeB (nameOf (stOf i)) oc = true) : IsFn B a i dflt :=
  ⟨⟨h2, h37⟩, _, c, ⟨o, e, hd⟩, codeR_of ec c2 c37 hq⟩
theorem glob_of {B : Heap} {mg : Str → Option Value} {o : Obj} {x : Str} {v : Value} (N : B.Ns 3 mg) (e : B.get? 3 = some o) (h : nsAt o x = some v) : Glob B x v := ⟨mg, N, (mg_val N e x).trans h⟩
theorem blt_of {B : Heap} {mg mb : Str → Option Value} {o : Obj} {x : Str} {v : Value} (N : B.Ns 3 mg) (e : B.get? 3 = some o) (h : nsAt o x = none) (Nb : B.Ns 0 mb) (hb : ∀ x : Str, x ≠ "__name__" → mb x = bootBuiltins x) (hx : x ≠ "__name__") (hv : bootBuiltins x = some v) : Blt B x v :=
  ⟨⟨mg, N, (mg_val N e x).trans h⟩, mb, Nb, (hb x hx).trans hv⟩
theorem code40_of {B : Heap} {o : Obj} (e : B.get? 40 = some o) (hd : o.data = .func (mkFn 5 .none (pmOf o) 39)) (h1 : CodeHd B 39 37) (h2 : CodeR B (.ref 39) "_compose_mro") : ∃ mod, FnAt B 40 (mkFn 5 .none mod 39) ∧ CodeHd B 39 37 ∧ CodeR B (.ref 39) "_compose_mro" := ⟨_, ⟨o, e, hd⟩, h1, h2⟩
end Mine
open PySem PySem.W PySem.W.X PySem.W.ZRun PyProof.Rows
set_option Elab.async false
set_option maxRecDepth 100000 in
set_option maxHeartbeats 0 in
theorem PySem.Challenge.cw_dn0021_01_holds : PySem.Challenge.rw_dn0021_01.Holds := by
  w_on; o_law; z_head; (case hw => w_witness2)
  k_fill
  intro w s₀ s₁ mg mb G y fa o pm cd doc dV kV ho hd hcd hD hmg hg args vals as L hpre hlay hrd hwl hlo
  z_open y L KX ZH ZN ZT
  refine Ground.open G ?_
  intro T B D TE TW
  wrow_args hpre hlay hrd hwl hlo
  obtain ⟨hat, hsz⟩ := script_at L
  rw [ZN] at hat hsz
  subst hat
  x_fa T KX hmg
  all_lens
  have e2 := KX 2 _ (by with_unfolding_all rfl)
  have e3 := KX 3 _ (by with_unfolding_all rfl)
  have e28 := KX 28 _ (by with_unfolding_all rfl)
  have e29 := KX 29 _ (by with_unfolding_all rfl)
  have e30 := KX 30 _ (by with_unfolding_all rfl)
  have e34 := KX 34 _ (by with_unfolding_all rfl)
  have e35 := KX 35 _ (by with_unfolding_all rfl)
  have e37 := KX 37 _ (by with_unfolding_all rfl)
  have e39 := KX 39 _ (by with_unfolding_all rfl)
  have e40 := KX 40 _ (by with_unfolding_all rfl)
  have e46 := KX 46 _ (by with_unfolding_all rfl)
  have e47 := KX 47 _ (by with_unfolding_all rfl)
  have e53 := KX 53 _ (by with_unfolding_all rfl)
  have e54 := KX 54 _ (by with_unfolding_all rfl)
  have e60 := KX 60 _ (by with_unfolding_all rfl)
  have e61 := KX 61 _ (by with_unfolding_all rfl)
  have e65 := KX 65 _ (by with_unfolding_all rfl)
  have e66 := KX 66 _ (by with_unfolding_all rfl)
  clear KX ZH hd hD hmg ho hcd y
  have gl : ∀ {x : Str} {v : Value}, Mine.nsAt _ x = some v → Mine.Glob s₁.heap x v := fun h => Mine.glob_of T.g e3 h
  have bl : ∀ {x : Str} {v : Value}, Mine.nsAt _ x = none → x ≠ ("__name__" : Str) → bootBuiltins x = some v → Mine.Blt s₁.heap x v := fun h hx hv => Mine.blt_of T.g e3 h T.b T.builtins hx hv
  obtain ⟨o2, ep2, e2', c2, d2⟩ := Mine.empty_at e2 (by kernel_rfl)
  have e37' : s₁.heap.get? 37 = some (tableObj #[]) := Mine.eq_at e37 (by kernel_rfl)
  obtain ⟨hCH, hCT⟩ := Mine.codeHd_of (P := 37) e39 (by kernel_rfl) (by decide)
  have q39 : Mine.CodeR s₁.heap (.ref 39) "_compose_mro" := Mine.codeR_of e39 (by decide) (by decide) (by kernel_rfl)
  obtain ⟨bm, ob, bm1, bm2, bm3, bm4, bm5, bm6⟩ := T.bmain
  have hbm : bm ≠ 3 ∧ bm ≠ 37 ∧ bm ≠ 2 := by
    refine ⟨fun q => ?_, fun q => ?_, fun q => ?_⟩
    · rw [q] at bm3
      obtain ⟨o', es, epp, eo, dd, _⟩ := T.g
      have : s₁.heap.get? 3 = some o' := eo
      rw [this] at bm3; cases bm3; rw [dd] at bm6; cases bm6
    · rw [q, e37'] at bm3; cases bm3; cases bm4
    · rw [q, e2'] at bm3; cases bm3; rw [c2] at bm4; cases bm4
  have GG : Mine.Gnd s₁.heap := {
    merge := gl (by kernel_rfl), mro := gl (by kernel_rfl), compose := gl (by kernel_rfl), find := gl (by kernel_rfl), classes := gl (by kernel_rfl), lway := gl (by kernel_rfl), galias := gl (by kernel_rfl),
    enumerate := bl (by kernel_rfl) (by decide) (by kernel_rfl), reversed := bl (by kernel_rfl) (by decide) (by kernel_rfl), hasattr := bl (by kernel_rfl) (by decide) (by kernel_rfl), list := bl (by kernel_rfl) (by decide) (by kernel_rfl),
    set := bl (by kernel_rfl) (by decide) (by kernel_rfl), isinstance := bl (by kernel_rfl) (by decide) (by kernel_rfl), issubclass := bl (by kernel_rfl) (by decide) (by kernel_rfl),
    cls := Mine.upto15 (bl (by kernel_rfl) (by decide) (by kernel_rfl)) (bl (by kernel_rfl) (by decide) (by kernel_rfl)) (bl (by kernel_rfl) (by decide) (by kernel_rfl)) (bl (by kernel_rfl) (by decide) (by kernel_rfl)) (bl (by kernel_rfl) (by decide) (by kernel_rfl)) (bl (by kernel_rfl) (by decide) (by kernel_rfl)) (bl (by kernel_rfl) (by decide) (by kernel_rfl)) (bl (by kernel_rfl) (by decide) (by kernel_rfl)) (bl (by kernel_rfl) (by decide) (by kernel_rfl)) (bl (by kernel_rfl) (by decide) (by kernel_rfl)) (bl (by kernel_rfl) (by decide) (by kernel_rfl)) (bl (by kernel_rfl) (by decide) (by kernel_rfl)) (bl (by kernel_rfl) (by decide) (by kernel_rfl)) (bl (by kernel_rfl) (by decide) (by kernel_rfl)) (bl (by kernel_rfl) (by decide) (by kernel_rfl)),
    code40 := Mine.code40_of e40 (by kernel_rfl) hCH q39,
    bmod := ⟨mg, T.g, bm, ob, bm1, bm2, hbm.1, hbm.2.1, bm3, bm4, bm5, bm6⟩,
    bmod2 := fun mg' bm' N h => by
      have h1 := Mine.mg_val N e3 "__builtins__"
      have h2 := Mine.mg_val T.g e3 "__builtins__"
      rw [h, ← h2, bm1] at h1
      cases h1
      exact hbm.2.2,
    d30 := Mine.seqNone_of e30 (by kernel_rfl),
    f29 := Mine.isFn_of (by decide) (by decide) e29 (by kernel_rfl) e28 (by decide) (by decide) (by kernel_rfl),
    f35 := Mine.isFn_of (by decide) (by decide) e35 (by kernel_rfl) e34 (by decide) (by decide) (by kernel_rfl),
    f40 := Mine.isFn_of (by decide) (by decide) e40 (by kernel_rfl) e39 (by decide) (by decide) (by kernel_rfl),
    f47 := Mine.isFn_of (by decide) (by decide) e47 (by kernel_rfl) e46 (by decide) (by decide) (by kernel_rfl),
    f54 := Mine.isFn_of (by decide) (by decide) e54 (by kernel_rfl) e53 (by decide) (by decide) (by kernel_rfl),
    f61 := Mine.isFn_of (by decide) (by decide) e61 (by kernel_rfl) e60 (by decide) (by decide) (by kernel_rfl),
    f66 := Mine.isFn_of (by decide) (by decide) e66 (by kernel_rfl) e65 (by decide) (by decide) (by kernel_rfl) }
  rename s₁.heap.IsList 67 _ => hL
  rename IntsAre _ _ => hI
  have hok : Mine.BOk s₁.heap := by
    obtain ⟨o', e', _⟩ := id hL
    exact ⟨⟨67, o', e', hsz, by decide, by decide⟩, by rw [hsz]; decide, ⟨o2, e2'⟩⟩
  refine Mine.law_done GG hok hg hL hI (by omega) e2' c2 d2 e37' hCT fun s' hK hos hgn => ?_
  refine ⟨.inl ⟨_, ofPy (PyData.bool true), [], rfl, fun _ => ?_, ?_, ?_, fun _ => ⟨List.nodup_nil, fun a ha => (List.not_mem_nil ha).elim⟩⟩, hK, hos, .of_eq hgn⟩
  · with_unfolding_all rfl
  · constructor
  · with_unfolding_all rfl
