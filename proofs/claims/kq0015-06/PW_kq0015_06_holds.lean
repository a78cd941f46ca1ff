import PyProof.Rows.All
import Wide.All
import OpenK.AllK
import Wide.FinOn
import Lean
import PySem.Challenge.RW_kq0015_06
set_option Elab.async false
set_option linter.unusedVariables false
set_option linter.unusedSimpArgs false
set_option maxRecDepth 100000
set_option maxHeartbeats 8000000
namespace Mine
open PySem PySem.W PyProof.Rows PySem.Calls PySem.Spec
inductive D where
  | none
  | bool (b : Bool)
  | int (i : Int)
  | str (x : Str)
  | bytes (b : Array UInt8)
  | tup (l : List D)
  | lst (l : List D)
  | dct (l : List (Str × D))
abbrev Led := List (Addr × Obj)
abbrev Fz := Addr → Obj → Prop
abbrev tupObj (vs : List Value) (n : Nat) : Obj := { cls := .type "tuple", data := .seq vs.toArray n }
mutual
inductive DR (κ : Str → Int) (Z : Fz) : D → Value → Prop
  | none : DR κ Z .none .none
  | bool (b : Bool) : DR κ Z (.bool b) (.bool b)
  | int (i : Int) (t : Tok) : DR κ Z (.int i) (.int i t)
  | str (x : Str) (t : Tok) : DR κ Z (.str x) (.str x t)
  | bytes (b : Array UInt8) (t : Tok) : DR κ Z (.bytes b) (.bytes b t)
  | tup {a : Addr} {o : Obj} {vs : List Value} {n : Nat} {l : List D} : Z a o → o.cls = .type "tuple" → o.data = .seq vs.toArray n → DRs κ Z l vs → DR κ Z (.tup l) (.ref a)
  | lst {a : Addr} {o : Obj} {vs : List Value} {n : Nat} {l : List D} : Z a o → o.cls = .type "list" → o.data = .seq vs.toArray n → DRs κ Z l vs → DR κ Z (.lst l) (.ref a)
  | dct {a : Addr} {o : Obj} {es : List DictEntry} {n : Nat} {l : List (Str × D)} : Z a o → (a == sysModules) = false → o.ExactDict → o.data = .dict es.toArray n → (l.map (·.1)).Nodup → DRd κ Z l es → DR κ Z (.dct l) (.ref a)
inductive DRs (κ : Str → Int) (Z : Fz) : List D → List Value → Prop
  | nil : DRs κ Z [] []
  | cons {d : D} {v : Value} {l : List D} {vs : List Value} : DR κ Z d v → DRs κ Z l vs → DRs κ Z (d :: l) (v :: vs)
inductive DRd (κ : Str → Int) (Z : Fz) : List (Str × D) → List DictEntry → Prop
  | nil : DRd κ Z [] []
  | cons {k : Str} {t : Tok} {d : D} {v : Value} {l : List (Str × D)} {es : List DictEntry} : DR κ Z d v → DRd κ Z l es → DRd κ Z ((k, d) :: l) (⟨κ k, .str k t, v⟩ :: es)
end
mutual
theorem DR.mono {κ : Str → Int} {Z Z' : Fz} (hs : ∀ a o, Z a o → Z' a o) : ∀ {d : D} {v : Value}, DR κ Z d v → DR κ Z' d v
  | _, _, .none => .none
  | _, _, .bool b => .bool b
  | _, _, .int i t => .int i t
  | _, _, .str x t => .str x t
  | _, _, .bytes b t => .bytes b t
  | _, _, .tup h a b r => .tup (hs _ _ h) a b (DRs.mono hs r)
  | _, _, .lst h a b r => .lst (hs _ _ h) a b (DRs.mono hs r)
  | _, _, .dct h z a b c r => .dct (hs _ _ h) z a b c (DRd.mono hs r)
theorem DRs.mono {κ : Str → Int} {Z Z' : Fz} (hs : ∀ a o, Z a o → Z' a o) : ∀ {l : List D} {vs : List Value}, DRs κ Z l vs → DRs κ Z' l vs
  | _, _, .nil => .nil
  | _, _, .cons h r => .cons (DR.mono hs h) (DRs.mono hs r)
theorem DRd.mono {κ : Str → Int} {Z Z' : Fz} (hs : ∀ a o, Z a o → Z' a o) : ∀ {l : List (Str × D)} {es : List DictEntry}, DRd κ Z l es → DRd κ Z' l es
  | _, _, .nil => .nil
  | _, _, .cons h r => .cons (DR.mono hs h) (DRd.mono hs r)
end
section
variable {κ : Str → Int} {Z : Fz} {l m : List D} {vs ws : List Value} {d : D} {v : Value}
theorem DRs.length (h : DRs κ Z l vs) : vs.length = l.length := by
  induction l generalizing vs with
  | nil => cases h; rfl
  | cons d l ih => cases h with | cons h r => simp [ih r]
theorem DRs.append (h : DRs κ Z l vs) (k : DRs κ Z m ws) : DRs κ Z (l ++ m) (vs ++ ws) := by
  induction l generalizing vs with
  | nil => cases h; exact k
  | cons d l ih => cases h with | cons h r => exact .cons h (ih r)
theorem DRs.one (h : DR κ Z d v) : DRs κ Z [d] [v] := .cons h .nil
theorem DRs.get (h : DRs κ Z l vs) {i : Nat} {d : D} (hi : l[i]? = some d) : ∃ v, vs[i]? = some v ∧ DR κ Z d v := by
  induction l generalizing vs i with
  | nil => simp at hi
  | cons e l ih =>
    cases h with
    | cons h r =>
      cases i with
      | zero => simp at hi; subst hi; exact ⟨_, rfl, h⟩
      | succ i => simp at hi; simpa using ih r hi
theorem DRs.take (h : DRs κ Z l vs) (n : Nat) : DRs κ Z (l.take n) (vs.take n) := by
  induction l generalizing vs n with
  | nil => cases h; simp; exact .nil
  | cons d l ih => cases h with | cons h r => cases n with
    | zero => exact .nil
    | succ n => exact .cons h (ih r n)
theorem DRs.drop (h : DRs κ Z l vs) (n : Nat) : DRs κ Z (l.drop n) (vs.drop n) := by
  induction l generalizing vs n with
  | nil => cases h; simp; exact .nil
  | cons d l ih => cases h with | cons h r => cases n with
    | zero => exact .cons h r
    | succ n => exact ih r n
theorem DR.handed (h : DR κ Z d v) : handedIn v = true := by cases h <;> rfl
end
def getD? (k : Str) : List (Str × D) → Option D
  | [] => none
  | (a, d) :: l => if a = k then some d else getD? k l
def putD' (k : Str) (v : D) : List (Str × D) → List (Str × D)
  | [] => [(k, v)]
  | (a, d) :: l => if a = k then (a, v) :: l else (a, d) :: putD' k v l
theorem isStr_str (x k : Str) (t : Tok) : (Value.str x t).isStr k = (x == k) := rfl
theorem DRd.find {κ : Str → Int} {Z : Fz} {l : List (Str × D)} {es : List DictEntry} (h : DRd κ Z l es) (k : Str) :
    (∀ d, getD? k l = some d → ∃ e, es.find? (·.key.isStr k) = some e ∧ DR κ Z d e.val) ∧ (getD? k l = none → es.find? (·.key.isStr k) = none) := by
  induction l generalizing es with
  | nil => cases h; simp [getD?]
  | cons p l ih =>
    cases h with
    | @cons a t d v _ es' hd r =>
      unfold getD?
      by_cases e : a = k
      · subst e
        simp only [if_true]
        refine ⟨fun d' hd' => ?_, fun z => by cases z⟩
        cases hd'
        exact ⟨⟨κ a, .str a t, v⟩, by rw [List.find?_cons]; simp [isStr_str], hd⟩
      · rw [if_neg e]
        have ee : (a == k) = false := by simpa using e
        obtain ⟨h1, h2⟩ := ih r
        refine ⟨fun d' hd' => ?_, fun z => ?_⟩
        · obtain ⟨en, he, hv⟩ := h1 d' hd'
          exact ⟨en, by rw [List.find?_cons]; simp [isStr_str, ee, he], hv⟩
        · rw [List.find?_cons]; simp [isStr_str, ee, h2 z]
theorem DRd.noRef {κ : Str → Int} {Z : Fz} {l : List (Str × D)} {es : List DictEntry} (h : DRd κ Z l es) : es.any (·.refKey) = false := by
  induction l generalizing es with
  | nil => cases h; rfl
  | cons p l ih => cases h with | cons hd r => rw [List.any_cons, ih r]; rfl
theorem DRd.getL {κ : Str → Int} {Z : Fz} {l : List (Str × D)} {es : List DictEntry} (h : DRd κ Z l es) (k : Str) :
    (∀ d, getD? k l = some d → ∃ v, W.getL k es = some (some v) ∧ DR κ Z d v) ∧ (getD? k l = none → W.getL k es = some none) := by
  obtain ⟨h1, h2⟩ := h.find k
  refine ⟨fun d hd => ?_, fun hn => ?_⟩
  · obtain ⟨e, he, hv⟩ := h1 d hd
    exact ⟨e.val, by unfold W.getL; rw [he], hv⟩
  · unfold W.getL; rw [h2 hn]; simp [h.noRef]
theorem DRd.putL {κ : Str → Int} {Z : Fz} {l : List (Str × D)} {es : List DictEntry} (h : DRd κ Z l es) (k : Str) (t : Tok) {d : D} {v : Value} (hd : DR κ Z d v) :
    DRd κ Z (putD' k d l) (W.putL k (κ k) (.str k t) v es) := by
  induction l generalizing es with
  | nil => cases h; exact .cons hd .nil
  | cons p l ih =>
    cases h with
    | @cons a t' d' v' _ es' hd' r =>
      unfold putD' W.putL
      by_cases e : a = k
      · subst e; simp only [isStr_str, beq_self_eq_true, if_true]; exact .cons hd r
      · have ee : (a == k) = false := by simpa using e
        simp only [isStr_str, ee, if_neg e, Bool.false_eq_true, if_false]
        exact .cons hd' (ih r)
theorem DRd.length {κ : Str → Int} {Z : Fz} {l : List (Str × D)} {es : List DictEntry} (h : DRd κ Z l es) : es.length = l.length := by
  induction l generalizing es with
  | nil => cases h; rfl
  | cons p l ih => cases h with | cons hd r => simp [ih r]
end Mine
namespace Mine
open PySem PySem.W PyProof.Rows PySem.Calls PySem.Spec
inductive V where
  | d (x : D)
  | obj (i : Nat)
  | val (v : Value)
  | meth (i : Nat) (g : Addr)
  | exn (cls : Value) (args : List D) (attrs : List (Str × D))
inductive HO where
  | lst (l : List D)
  | dct (l : List (Str × D))
  | inst (C : Addr) (as : List (Str × D))
  | plst (a : Addr) (o : Obj) (l : List D)
  | pdct (a : Addr) (o : Obj) (l : List (Str × D))
def HO.pinned : HO → Option (Addr × Obj)
  | .plst a o _ => some (a, o)
  | .pdct a o _ => some (a, o)
  | _ => none
structure Om where
  ρ : Nat → Option Addr
  Z : Led
structure Cx where
  prog : Program
  w : World
  K : Frag
  base : Heap
  mg : Str → Option Value
  mb : Str → Option Value
  gens : Array GenState
  drawn : Drawn
  os : OsState
  calm : Bool
def Cx.hs (c : Cx) : Str → Int := fun x => PyData.keyHash c.w.params x
def fz (c : Cx) (ω : Om) : Fz := fun a o => (a, o) ∈ ω.Z ∨ c.base.get? a = some o
inductive VR (c : Cx) (n : Nat) (ω : Om) : V → Value → Prop
  | d {x : D} {v : Value} : DR c.hs (fz c ω) x v → VR c n ω (.d x) v
  | obj {i : Nat} {a : Addr} : i < (n + 1) * 1000 → ω.ρ i = some a → VR c n ω (.obj i) (.ref a)
  | val (v : Value) : VR c n ω (.val v) v
  | meth {i : Nat} {g q a : Addr} : i < (n + 1) * 1000 → ω.ρ i = some a → fz c ω q (methodObj (.ref g) (.ref a)) → VR c n ω (.meth i g) (.ref q)
  | exn {a T : Addr} {oe : Obj} {vs : Array Value} {ts : List Value} {k : Nat} {args : List D} {attrs : List (Str × D)} :
      fz c ω a oe → oe.data = .fields vs → vs[0]? = some (.ref T) → fz c ω T (tupObj ts k) → DRs c.hs (fz c ω) args ts →
      (match oe.dict with | some d => ∃ es n, fz c ω d (dictOf es n) ∧ DRd c.hs (fz c ω) attrs es | none => attrs = []) → VR c n ω (.exn oe.cls args attrs) (.ref a)
structure Ext (n : Nat) (ω ω' : Om) : Prop where
  ρ : ∀ i, i < n * 1000 → ω'.ρ i = ω.ρ i
  Z : ∃ more, ω'.Z = more ++ ω.Z
theorem Ext.refl (n : Nat) (ω : Om) : Ext n ω ω := ⟨fun _ _ => rfl, [], rfl⟩
theorem Ext.trans {n : Nat} {a b c : Om} (h : Ext n a b) (k : Ext n b c) : Ext n a c :=
  ⟨fun i hi => (k.ρ i hi).trans (h.ρ i hi), let ⟨m, e⟩ := h.Z; let ⟨m', e'⟩ := k.Z; ⟨m' ++ m, by rw [e', e, List.append_assoc]⟩⟩
theorem Ext.le {n k : Nat} {a b : Om} (h : Ext n a b) (hk : k ≤ n) : Ext k a b :=
  ⟨fun i hi => h.ρ i (Nat.lt_of_lt_of_le hi (Nat.mul_le_mul_right _ hk)), h.Z⟩
theorem Ext.fz {c : Cx} {n : Nat} {ω ω' : Om} (h : Ext n ω ω') : ∀ a o, fz c ω a o → fz c ω' a o := fun a o q => by
  obtain ⟨m, e⟩ := h.Z
  exact q.imp (fun q => by rw [e]; exact List.mem_append_right _ q) id
theorem VR.ext {c : Cx} {n : Nat} {ω ω' : Om} (h : Ext (n + 1) ω ω') {x : V} {v : Value} (q : VR c n ω x v) : VR c n ω' x v := by
  cases q with
  | d q => exact .d (q.mono h.fz)
  | obj hi q => exact .obj hi ((h.ρ _ hi).trans q)
  | val => exact .val _
  | meth hi q r => exact .meth hi ((h.ρ _ hi).trans q) (h.fz _ _ r)
  | exn h1 h2 h3 h4 h5 h6 =>
    refine .exn (h.fz _ _ h1) h2 h3 (h.fz _ _ h4) (h5.mono h.fz) ?_
    split at h6
    · obtain ⟨es, k, a, b⟩ := h6; exact ⟨es, k, h.fz _ _ a, b.mono h.fz⟩
    · exact h6
theorem VR.up {c : Cx} {n k : Nat} {ω : Om} {x : V} {v : Value} (q : VR c n ω x v) (hk : n ≤ k) : VR c k ω x v := by
  have hk' : (n + 1) * 1000 ≤ (k + 1) * 1000 := Nat.mul_le_mul_right _ (by omega)
  cases q with
  | d q => exact .d q
  | obj hi q => exact .obj (Nat.lt_of_lt_of_le hi hk') q
  | val => exact .val _
  | meth hi q r => exact .meth (Nat.lt_of_lt_of_le hi hk') q r
  | exn h1 h2 h3 h4 h5 h6 => exact .exn h1 h2 h3 h4 h5 h6
inductive HOR (κ : Str → Int) (Z : Fz) : HO → Addr → Led → Prop
  | lst {a : Addr} {l : List D} {vs : List Value} {k : Nat} : DRs κ Z l vs → HOR κ Z (.lst l) a [(a, listOf vs.toArray k)]
  | dct {a : Addr} {o : Obj} {l : List (Str × D)} {es : List DictEntry} {k : Nat} : (a == sysModules) = false → o.ExactDict → o.data = .dict es.toArray k → (l.map (·.1)).Nodup → DRd κ Z l es → HOR κ Z (.dct l) a [(a, o)]
  | inst {a d C : Addr} {as : List (Str × D)} {es : List DictEntry} {k : Nat} : DRd κ Z as es → HOR κ Z (.inst C as) a [(a, instObj C d), (d, dictOf es k)]
  | plst {a : Addr} {l : List D} {vs : List Value} {k : Nat} : DRs κ Z l vs → HOR κ Z (.plst a (listOf vs.toArray k) l) a [(a, listOf vs.toArray k)]
  | pdct {a : Addr} {o : Obj} {l : List (Str × D)} {es : List DictEntry} {k : Nat} : (a == sysModules) = false → o.ExactDict → o.data = .dict es.toArray k → (l.map (·.1)).Nodup → DRd κ Z l es → HOR κ Z (.pdct a o l) a [(a, o)]
inductive HR (κ : Str → Int) (Z : Fz) (ρ : Nat → Option Addr) : List (Nat × HO) → Led → Prop
  | nil : HR κ Z ρ [] []
  | cons {i : Nat} {o : HO} {a : Addr} {m M : Led} {H : List (Nat × HO)} : ρ i = some a → HOR κ Z o a m → HR κ Z ρ H M → HR κ Z ρ ((i, o) :: H) (m ++ M)
theorem HOR.mono {κ : Str → Int} {Z Z' : Fz} (hs : ∀ a o, Z a o → Z' a o) {o : HO} {a : Addr} {m : Led} (h : HOR κ Z o a m) : HOR κ Z' o a m := by
  cases h with
  | lst h => exact .lst (h.mono hs)
  | dct z a b c h => exact .dct z a b c (h.mono hs)
  | plst h => exact .plst (h.mono hs)
  | pdct z a b c h => exact .pdct z a b c (h.mono hs)
  | inst h => exact .inst (h.mono hs)
theorem HR.mono {κ : Str → Int} {Z Z' : Fz} {ρ ρ' : Nat → Option Addr} (hs : ∀ a o, Z a o → Z' a o) {H : List (Nat × HO)} {M : Led} (h : HR κ Z ρ H M) (hr : ∀ p ∈ H, ρ' p.1 = ρ p.1) : HR κ Z' ρ' H M := by
  induction h with
  | nil => exact .nil
  | cons e o r ih => exact .cons ((hr _ (.head _)).trans e) (o.mono hs) (ih fun p hp => hr p (.tail _ hp))
theorem HOR.pin {κ : Str → Int} {Z : Fz} {o : HO} {a : Addr} {m : Led} (h : HOR κ Z o a m) {p : Addr × Obj} (hp : o.pinned = some p) : p ∈ m := by
  cases h <;> first | cases hp; done | (cases hp; exact .head _)
def key (x : Str) : Nat := x.cps.toList.foldl (fun h c => h * 128 + c) 1
structure St where
  loc : List (Nat × V)
  heap : List (Nat × HO)
def lk {α : Type} (k : Nat) : List (Nat × α) → Option α
  | [] => none
  | (a, x) :: l => bif a == k then some x else lk k l
def PinsIn (pin : Led) (H : List (Nat × HO)) : Prop := ∀ p ∈ pin, ∃ i o, lk i H = some o ∧ o.pinned = some p
theorem HR.pin {κ : Str → Int} {Z : Fz} {ρ : Nat → Option Addr} {H : List (Nat × HO)} {M : Led} (h : HR κ Z ρ H M) {i : Nat} {o : HO} {p : Addr × Obj} (hi : lk i H = some o) (hp : o.pinned = some p) : p ∈ M := by
  induction h with
  | nil => cases hi
  | @cons k x a m M H e q r ih =>
    unfold lk at hi
    cases hk : (k == i) with
    | true => rw [hk] at hi; cases hi; exact List.mem_append_left _ (q.pin hp)
    | false => rw [hk] at hi; exact List.mem_append_right _ (ih hi)
structure Fm where
  A : Around
  env : Env
  fr : List (Addr × (Str → Option Value))
  keep : Led
inductive FrR : List (Addr × (Str → Option Value)) → Led → Prop
  | nil : FrR [] []
  | cons {L : Addr} {m : Str → Option Value} {o : Obj} {es : Array DictEntry} {ep : Nat} {l : List (Addr × (Str → Option Value))} {F : Led} :
      o.data = .dict es ep → StrKeys es → (∀ x, nsFind es x = m x) → FrR l F → FrR ((L, m) :: l) ((L, o) :: F)
inductive LocAt (c : Cx) (n : Nat) (f : Fm) (ω : Om) (m : Str → Option Value) (Mc : Led) (x : Str) (X : V) : Prop
  | loc {v : Value} : f.env.kindOf x = some .local → m x = some v → VR c n ω X v → LocAt c n f ω m Mc x X
  | cell {a : Addr} {o : Obj} {v : Value} : f.env.kindOf x = some .cell → f.env.cells.lookup x = some a → (a, o) ∈ Mc → o.data = .cell (some v) → VR c n ω X v → LocAt c n f ω m Mc x X
  | free {a : Addr} {o : Obj} {v : Value} : f.env.kindOf x = some .free → f.env.cells.lookup x = some a → (a, o) ∈ f.keep → o.data = .cell (some v) → VR c n ω X v → LocAt c n f ω m Mc x X
def isVar : Option NameKind → Bool
  | some .local | some .cell | some .free => true
  | _ => false
structure Rel (c : Cx) (n : Nat) (f : Fm) (ω : Om) (σ : St) (s : Shared) (m : Str → Option Value) (Mc Mh FR : Led) : Prop where
  fr : Fr c.base f.env.locals s.heap m
  nw : News c.base f.env.locals s.heap (Mc ++ (Mh ++ (ω.Z ++ (FR ++ f.keep))))
  nd : ((Mc ++ (Mh ++ (ω.Z ++ (FR ++ f.keep)))).map (·.1)).Nodup
  frs : FrR f.fr FR
  cells : ∀ x a, f.env.kindOf x = some .cell → f.env.cells.lookup x = some a → ∃ o v, (a, o) ∈ Mc ∧ o.data = .cell v
  cinj : ∀ x y a, f.env.kindOf x = some .cell → f.env.kindOf y = some .cell → f.env.cells.lookup x = some a → f.env.cells.lookup y = some a → x = y
  heap : HR c.hs (fz c ω) ω.ρ σ.heap Mh
  locs : ∀ x X, isVar (f.env.kindOf x) = true → lk (key x) σ.loc = some X → LocAt c n f ω m Mc x X
  gens : s.gens = c.gens
  drawn : s.drawn = c.drawn
  os : s.os = c.os
def RelE (c : Cx) (n : Nat) (f : Fm) (ω : Om) (σ : St) (s : Shared) : Prop := ∃ m Mc Mh FR, Rel c n f ω σ s m Mc Mh FR
structure CxOk (c : Cx) : Prop where
  kin : c.K.In c.base
  g : c.base.Ns mainGlobals c.mg
  b : c.base.Ns builtinsNs c.mb
  nolimit : c.base.NoLimit
  nodigits : ∃ mc, c.base.Ns cStatics mc ∧ mc "sys.int_max_str_digits" = none
  low : sysModules < c.base.objs.size
def dot0 : Str := ".0"
structure FmOk (c : Cx) (S : Scope) (n : Nat) (f : Fm) : Prop where
  scope : f.env.scope = S
  kind : S.kind = .function
  globals : f.env.globals = mainGlobals
  builtins : f.env.builtins = builtinsNs
  depth : f.A.depth ≤ 310 + n
  units : f.A.units ≤ 100 + 50 * n
  guards : f.A.guards = some []
  frames : ∃ l, f.A.frames = some l ∧ (∀ env ∈ l, env.scope.kind ≠ .module ∧ ∃ L, env.frame = some L ∧ (L = f.env.locals ∨ ∃ m, (L, m) ∈ f.fr)) ∧ (S.names.lookup dot0 = none → (∃ l', l = f.env :: l') ∧ f.env.frame = some f.env.locals)
  hand : c.calm = true → f.A.handled = none
  cellsOk : ∀ x, S.names.lookup x = some .cell → ∃ a, f.env.cells.lookup x = some a
  freeOk : ∀ x a, S.names.lookup x = some .free → f.env.cells.lookup x = some a → a ∈ f.keep.map (·.1)
  keys : ∀ x y, isVar (S.names.lookup x) = true → isVar (S.names.lookup y) = true → key x = key y → x = y
end Mine
namespace Mine
open PySem PySem.W PyProof.Rows PySem.Calls PySem.Spec
def updL (a : Addr) (o : Obj) (l : Led) : Led := l.map fun p => if p.1 = a then (a, o) else p
theorem updL_keys (a : Addr) (o : Obj) (l : Led) : (updL a o l).map (·.1) = l.map (·.1) := by
  unfold updL
  rw [List.map_map]
  refine List.map_congr_left fun p _ => ?_
  by_cases h : p.1 = a <;> simp [h]
theorem updL_append (a : Addr) (o : Obj) (l k : Led) : updL a o (l ++ k) = updL a o l ++ updL a o k := List.map_append ..
theorem updL_off {a : Addr} {o : Obj} {l : Led} (h : a ∉ l.map (·.1)) : updL a o l = l := by
  induction l with
  | nil => rfl
  | cons p l ih =>
    simp only [List.map_cons, List.mem_cons, not_or] at h
    show (if p.1 = a then (a, o) else p) :: updL a o l = p :: l
    rw [if_neg (Ne.symm h.1), ih h.2]
theorem mem_updL_ne {a b : Addr} {o o' : Obj} {l : Led} (h : (b, o') ∈ l) (e : b ≠ a) : (b, o') ∈ updL a o l :=
  List.mem_map.mpr ⟨(b, o'), h, by simp [e]⟩
theorem mem_updL_self {a : Addr} {o o' : Obj} {l : Led} (h : (a, o') ∈ l) : (a, o) ∈ updL a o l :=
  List.mem_map.mpr ⟨(a, o'), h, by simp⟩
theorem news_updL {base h h' : Heap} {L a : Addr} {o : Obj} {l : Led} (N : News base L h l) (hs : Heap.SameBut a h h') (ho : h'.get? a = some o) : News base L h' (updL a o l) := by
  intro p hp
  obtain ⟨q, hq, rfl⟩ := List.mem_map.mp hp
  have z := N q hq
  by_cases e : q.1 = a
  · rw [if_pos e]; exact ⟨ho, e ▸ z.2.1, e ▸ z.2.2⟩
  · rw [if_neg e]; exact ⟨(hs.2 _ e).trans z.1, z.2⟩
theorem fr_off {base h h' : Heap} {L a : Addr} {m : Str → Option Value} (F : Fr base L h m) (hs : Heap.SameBut a h h') (hL : a ≠ L) (hb : base.get? a = none) : Fr base L h' m :=
  ⟨F.ns.sameBut hs (Ne.symm hL), fun b o e => (hs.2 b fun q => by rw [q, hb] at e; cases e).trans (F.keep b o e), F.above⟩
theorem off_of_nodup {l1 l2 : Led} {a : Addr} (h : ((l1 ++ l2).map (·.1)).Nodup) (ha : a ∈ l1.map (·.1)) : a ∉ l2.map (·.1) := by
  rw [List.map_append] at h
  exact fun hb => (List.nodup_append.mp h).2.2 a ha a hb rfl
def setH (i : Nat) (o : HO) : List (Nat × HO) → List (Nat × HO)
  | [] => []
  | (k, x) :: l => bif k == i then (k, o) :: l else (k, x) :: setH i o l
theorem HR.split {κ : Str → Int} {Z : Fz} {ρ : Nat → Option Addr} {H : List (Nat × HO)} {M : Led} (h : HR κ Z ρ H M) {i : Nat} {o : HO} (hi : lk i H = some o) :
    ∃ M1 m M2 a, M = M1 ++ (m ++ M2) ∧ ρ i = some a ∧ HOR κ Z o a m ∧ ∀ o' m', HOR κ Z o' a m' → HR κ Z ρ (setH i o' H) (M1 ++ (m' ++ M2)) := by
  induction h with
  | nil => cases hi
  | @cons k x a m M H e q r ih =>
    unfold lk at hi
    cases hk : (k == i) with
    | true =>
      rw [hk] at hi
      cases hi
      have : k = i := by simpa using hk
      subst this
      refine ⟨[], m, M, a, rfl, e, q, fun o' m' q' => ?_⟩
      show HR κ Z ρ (bif k == k then (k, o') :: H else (k, o) :: setH k o' H) (m' ++ M)
      rw [hk]
      exact .cons e q' r
    | false =>
      rw [hk] at hi
      obtain ⟨M1, m0, M2, a0, rfl, h1, h2, h3⟩ := ih hi
      refine ⟨m ++ M1, m0, M2, a0, by simp only [List.append_assoc], h1, h2, fun o' m' q' => ?_⟩
      show HR κ Z ρ (bif k == i then _ else (k, x) :: setH i o' H) _
      rw [hk, List.append_assoc]
      exact .cons e q (h3 o' m' q')
section
variable {c : Cx} {n : Nat} {f : Fm} {ω ω' : Om} {σ σ' : St} {s : Shared}
theorem RelE.toks {k : Tok} (h : RelE c n f ω σ s) : RelE c n f ω σ { s with toks := k } := by
  obtain ⟨m, Mc, Mh, FR, r⟩ := h
  exact ⟨m, Mc, Mh, FR, ⟨r.fr, r.nw, r.nd, r.frs, r.cells, r.cinj, r.heap, r.locs, r.gens, r.drawn, r.os⟩⟩
theorem LocAt.ext {m : Str → Option Value} {Mc : Led} {x : Str} {X : V} (h : Ext (n + 1) ω ω') (q : LocAt c n f ω m Mc x X) : LocAt c n f ω' m Mc x X := by
  cases q with
  | loc a b d => exact .loc a b (d.ext h)
  | cell a b d e g => exact .cell a b d e (g.ext h)
  | free a b d e g => exact .free a b d e (g.ext h)
theorem Ext.frz (n : Nat) (ω : Om) (l : Led) : Ext n ω { ω with Z := l ++ ω.Z } := ⟨fun _ _ => rfl, l, rfl⟩
theorem Rel.frz {m : Str → Option Value} {Mc Mh FR : Led} {h' : Heap} {a : Addr} {o : Obj} {k : Tok} (r : Rel c n f ω σ s m Mc Mh FR)
    (F' : Fr c.base f.env.locals h' m) (N' : News c.base f.env.locals h' ((a, o) :: (Mc ++ (Mh ++ (ω.Z ++ (FR ++ f.keep)))))) (lt : ∀ p ∈ Mc ++ (Mh ++ (ω.Z ++ (FR ++ f.keep))), p.1 < a) :
    Rel c n f { ω with Z := (a, o) :: ω.Z } σ { s with heap := h', toks := k } m Mc Mh FR := by
  have X : Ext (n + 1) ω { ω with Z := (a, o) :: ω.Z } := Ext.frz _ ω [(a, o)]
  refine ⟨F', fun p hp => N' p ?_, ?_, r.frs, r.cells, r.cinj, r.heap.mono X.fz fun _ _ => rfl, fun x V hv hx => (r.locs x V hv hx).ext X, r.gens, r.drawn, r.os⟩
  · simp only [List.mem_append, List.mem_cons] at hp ⊢
    rcases hp with hp | hp | (hp | hp) | hp | hp
    · exact .inr (.inl hp)
    · exact .inr (.inr (.inl hp))
    · exact .inl hp
    · exact .inr (.inr (.inr (.inl hp)))
    · exact .inr (.inr (.inr (.inr (.inl hp))))
    · exact .inr (.inr (.inr (.inr (.inr hp))))
  · have nd := r.nd
    have hp : (Mc ++ (Mh ++ (((a, o) :: ω.Z) ++ (FR ++ f.keep)))).Perm ((a, o) :: (Mc ++ (Mh ++ (ω.Z ++ (FR ++ f.keep))))) := by
      rw [← List.append_assoc, ← List.append_assoc Mc]
      exact List.perm_middle
    rw [(hp.map (·.1)).nodup_iff, List.map_cons, List.nodup_cons]
    refine ⟨fun hm => ?_, nd⟩
    obtain ⟨p, hp, e⟩ := List.mem_map.mp hm
    exact absurd (e ▸ lt p hp) (Nat.lt_irrefl _)
theorem Rel.lt {m : Str → Option Value} {Mc Mh FR : Led} (r : Rel c n f ω σ s m Mc Mh FR) : ∀ p ∈ Mc ++ (Mh ++ (ω.Z ++ (FR ++ f.keep))), p.1 < s.heap.objs.size := fun p hp => Heap.lt_size (r.nw p hp).1
theorem RelE.keep (R : RelE c n f ω σ s) : ∀ b o, c.base.get? b = some o → s.heap.get? b = some o := by
  obtain ⟨m, Mc, Mh, FR, r⟩ := R
  exact r.fr.keep
theorem RelE.fz (R : RelE c n f ω σ s) {a : Addr} {o : Obj} (h : fz c ω a o) : s.heap.get? a = some o := by
  obtain ⟨m, Mc, Mh, FR, r⟩ := R
  rcases h with h | h
  · exact (r.nw _ (List.mem_append_right _ (List.mem_append_right _ (List.mem_append_left _ h)))).1
  · exact r.fr.keep _ _ h
theorem RelE.push {o : Obj} {k : Tok} (hf : o.isFreed = false) (R : RelE c n f ω σ s) : RelE c n f { ω with Z := (s.heap.objs.size, o) :: ω.Z } σ { s with heap := s.heap.push o, toks := k } := by
  obtain ⟨m, Mc, Mh, FR, r⟩ := R
  exact ⟨m, Mc, Mh, FR, r.frz (r.fr.push o) (r.nw.push r.fr o hf) r.lt⟩
theorem store_name {x : Str} {X : V} {v : Value} {E : Value → Shared → Prop} {Q : Unit → Shared → Prop} {S : Scope} (F : FmOk c S n f) (R : RelE c n f ω σ s) (hv : S.names.lookup x = some .local ∨ S.names.lookup x = some .cell) (hX : VR c n ω X v)
    (h : ∀ s', RelE c n f ω { σ with loc := (key x, X) :: σ.loc } s' → Q () s') (hc : S.names.lookup x = some .cell → ∃ a, f.env.cells.lookup x = some a) : wpAny (model c.prog c.w) f.A (storeName f.env x v) Q E s := by
  obtain ⟨m, Mc, Mh, FR, r⟩ := R
  have hk : f.env.scope.kind = .function := by rw [F.scope]; exact F.kind
  have kx : f.env.kindOf x = S.names.lookup x := by unfold Env.kindOf; rw [F.scope]
  have locs : ∀ (m' : Str → Option Value) (Mc' : Led), LocAt c n f ω m' Mc' x X → (∀ y Y, isVar (f.env.kindOf y) = true → y ≠ x → LocAt c n f ω m Mc y Y → LocAt c n f ω m' Mc' y Y) →
      ∀ y Y, isVar (f.env.kindOf y) = true → lk (key y) ((key x, X) :: σ.loc) = some Y → LocAt c n f ω m' Mc' y Y := by
    intro m' Mc' h1 h2 y Y hy hl
    unfold lk at hl
    cases q : (key x == key y) with
    | true =>
      rw [q] at hl
      cases hl
      have hxv : isVar (S.names.lookup x) = true := by rcases hv with e | e <;> rw [e] <;> rfl
      have e : x = y := F.keys x y hxv (by rw [← F.scope]; exact hy) (by simpa using q)
      subst e; exact h1
    | false =>
      rw [q] at hl
      have ne : y ≠ x := fun e => by subst e; simp at q
      exact h2 y Y hy ne (r.locs y Y hy hl)
  rcases hv with hv | hv
  · rw [hv] at kx
    refine wpAny_storeName_local kx r.fr.ns (fun h' hn hs => h _ ?_) (by show (f.env.scope.kind == .class || (f.env.scope.kind == .module && f.env.locals != f.env.globals)) = false; rw [hk]; rfl)
    refine ⟨_, Mc, Mh, FR, ⟨r.fr.set hn hs, r.nw.set hs, r.nd, r.frs, r.cells, r.cinj, r.heap, locs _ _ (.loc kx (by simp) hX) fun y Y _ ne q => ?_, r.gens, r.drawn, r.os⟩⟩
    cases q with
    | loc a b d => exact .loc a (by rw [if_neg ne]; exact b) d
    | cell a b d e g => exact .cell a b d e g
    | free a b d e g => exact .free a b d e g
  · obtain ⟨a, ha⟩ := hc hv
    rw [hv] at kx
    obtain ⟨o, v0, hm, hd⟩ := r.cells x a kx ha
    have hN := r.nw _ (List.mem_append_left _ hm)
    refine wpAny_storeName_cell hk kx ha ⟨o, hN.1, hd⟩ fun h' hv' hs => ?_
    obtain ⟨o', ho', hd'⟩ := hv'
    have hN' := news_updL r.nw hs ho'
    have hak : a ∈ Mc.map (·.1) := List.mem_map.mpr ⟨_, hm, rfl⟩
    rw [updL_append, updL_off (off_of_nodup r.nd hak)] at hN'
    have nd' : ((updL a o' Mc ++ (Mh ++ (ω.Z ++ (FR ++ f.keep)))).map (·.1)).Nodup := by rw [List.map_append, updL_keys, ← List.map_append]; exact r.nd
    refine h _ (RelE.toks (k := s.toks) (s := { s with heap := h' }) ⟨m, updL a o' Mc, Mh, FR, ⟨fr_off r.fr hs hN.2.1 hN.2.2, hN', nd', r.frs, fun y b hy hb => ?_, r.cinj, r.heap, locs _ _ (.cell kx ha (mem_updL_self hm) hd' hX) fun y Y _ ne q => ?_, r.gens, r.drawn, r.os⟩⟩)
    · obtain ⟨ob, vb, hmb, hdb⟩ := r.cells y b hy hb
      by_cases e : b = a
      · subst e; exact ⟨o', _, mem_updL_self hm, hd'⟩
      · exact ⟨ob, vb, mem_updL_ne hmb e, hdb⟩
    · cases q with
      | loc a' b d => exact .loc a' b d
      | cell a' b d e g =>
        rename_i ad ob vb
        exact .cell a' b (mem_updL_ne d fun e' => ne (r.cinj y x ad a' kx b (e' ▸ ha))) e g
      | free a' b d e g => exact .free a' b d e g
end
end Mine
namespace Mine
open PySem PySem.W PyProof.Rows PySem.Calls PySem.Spec
inductive VRs (c : Cx) (n : Nat) (ω : Om) : List V → List Value → Prop
  | nil : VRs c n ω [] []
  | cons {X : V} {v : Value} {Xs : List V} {vs : List Value} : VR c n ω X v → VRs c n ω Xs vs → VRs c n ω (X :: Xs) (v :: vs)
theorem VRs.ext {c : Cx} {n : Nat} {ω ω' : Om} (h : Ext (n + 1) ω ω') {Xs : List V} {vs : List Value} (q : VRs c n ω Xs vs) : VRs c n ω' Xs vs := by
  induction q with
  | nil => exact .nil
  | cons a _ ih => exact .cons (a.ext h) ih
def Ev (c : Cx) (S : Scope) (n : Nat) (e : Expr) (σ : St) (X : V) (σ' : St) : Prop :=
  ∀ f, FmOk c S n f → ∀ ω s Q E, RelE c n f ω σ s →
    (∀ ω' v s', Ext (n + 1) ω ω' → RelE c n f ω' σ' s' → VR c n ω' X v → Q v s') → wpAny (model c.prog c.w) f.A (eval e f.env) Q E s
def Evs (c : Cx) (S : Scope) (n : Nat) (es : List Expr) (σ : St) (Xs : List V) (σ' : St) : Prop :=
  ∀ pos f, FmOk c S n f → ∀ ω s Q E, RelE c n f ω σ s →
    (∀ ω' vs s', Ext (n + 1) ω ω' → RelE c n f ω' σ' s' → VRs c n ω' Xs vs → Q vs s') → wpAny (model c.prog c.w) f.A (spliced (backTo pos (starEach es f.env))) Q E s
def Ts (c : Cx) (S : Scope) (n : Nat) (e : Expr) (σ : St) (b : Bool) (σ' : St) : Prop :=
  ∀ f, FmOk c S n f → ∀ ω s Q E, RelE c n f ω σ s →
    (∀ ω' s', Ext (n + 1) ω ω' → RelE c n f ω' σ' s' → Q b s') → wpAny (model c.prog c.w) f.A (isTrue e f.env (eval e f.env)) Q E s
def OpN (c : Cx) (n : Nat) (t : List Value → Sem Value) (Xs : List V) (σ : St) (Z : V) (σ' : St) : Prop :=
  ∀ S f, FmOk c S n f → ∀ ω s Q E vs, RelE c n f ω σ s → VRs c n ω Xs vs →
    (∀ ω' v s', Ext (n + 1) ω ω' → RelE c n f ω' σ' s' → VR c n ω' Z v → Q v s') → wpAny (model c.prog c.w) f.A (t vs) Q E s
def Op2 (c : Cx) (n : Nat) (t : Value → Value → Sem Value) (X Y : V) (σ : St) (Z : V) (σ' : St) : Prop :=
  ∀ S f, FmOk c S n f → ∀ ω s Q E x y, RelE c n f ω σ s → VR c n ω X x → VR c n ω Y y →
    (∀ ω' v s', Ext (n + 1) ω ω' → RelE c n f ω' σ' s' → VR c n ω' Z v → Q v s') → wpAny (model c.prog c.w) f.A (t x y) Q E s
def Op1 (c : Cx) (n : Nat) (t : Value → Sem Value) (X : V) (σ : St) (Z : V) (σ' : St) : Prop :=
  ∀ S f, FmOk c S n f → ∀ ω s Q E x, RelE c n f ω σ s → VR c n ω X x →
    (∀ ω' v s', Ext (n + 1) ω ω' → RelE c n f ω' σ' s' → VR c n ω' Z v → Q v s') → wpAny (model c.prog c.w) f.A (t x) Q E s
def Tr (c : Cx) (n : Nat) (X : V) (σ : St) (b : Bool) : Prop :=
  ∀ S f, FmOk c S n f → ∀ ω s Q E x, RelE c n f ω σ s → VR c n ω X x →
    (∀ s', RelE c n f ω σ s' → Q b s') → wpAny (model c.prog c.w) f.A (truthy x) Q E s
def GetM (c : Cx) (n : Nat) (X : V) (name : Str) (σ : St) (g : Value) : Prop :=
  ∀ S f, FmOk c S n f → ∀ ω s Q E x pl, RelE c n f ω σ s → VR c n ω X x →
    (Q (g, [x]) s) → wpAny (model c.prog c.w) f.A (getMethod x name pl) Q E s
section
variable {c : Cx} {S : Scope} {n : Nat} {σ σ' σ₁ σ₂ σ₃ σ₄ : St} {X Y Z W : V} {e l r : Expr} {es : List Expr} {Xs : List V} {pos : Pos}
theorem ev_int {i : Int} {k : Nat} : Ev c S n (.Constant (.int i) k pos) σ (.d (.int i)) σ := fun f _ ω s Q E R h =>
  wpAny_Constant_int (h ω _ _ (.refl ..) R.toks (.d (.int _ _)))
theorem ev_str {x : Str} {k : Nat} : Ev c S n (.Constant (.str x) k pos) σ (.d (.str x)) σ := fun f _ ω s Q E R h =>
  fun _ _ _ => h ω (.str x s.toks) { s with toks := s.toks + 1 } (.refl ..) R.toks (.d (.str _ _))
theorem ev_bool {b : Bool} {k : Nat} : Ev c S n (.Constant (.bool b) k pos) σ (.d (.bool b)) σ := fun f _ ω s Q E R h =>
  fun _ _ _ => h ω (.bool b) s (.refl ..) R (.d (.bool _))
theorem ev_none {k : Nat} : Ev c S n (.Constant .none k pos) σ (.d .none) σ := fun f _ ω s Q E R h =>
  fun _ _ _ => h ω .none s (.refl ..) R (.d .none)
def plainNm (x : Str) : Bool := x != ("__debug__" : Str) && x != ("__classdict__" : Str)
theorem plainNm_1 {x : Str} (h : plainNm x = true) : (x == ("__debug__" : Str)) = false := by
  unfold plainNm at h; simp only [Bool.and_eq_true, bne_iff_ne, ne_eq] at h; simpa using h.1
theorem plainNm_2 {x : Str} (h : plainNm x = true) : (x == ("__classdict__" : Str)) = false := by
  unfold plainNm at h; simp only [Bool.and_eq_true, bne_iff_ne, ne_eq] at h; simpa using h.2
theorem ev_name {x : Str} (hv : isVar (S.names.lookup x) = true) (hd : plainNm x = true) (hx : lk (key x) σ.loc = some X) : Ev c S n (.Name x pos) σ X σ := fun f F ω s Q E R h => by
  obtain ⟨m, Mc, Mh, FR, r⟩ := id R
  have hk : f.env.scope.kind = .function := by rw [F.scope]; exact F.kind
  have hv' : isVar (f.env.kindOf x) = true := by unfold Env.kindOf; rw [F.scope]; exact hv
  refine wpAny_Name ?_ (plainNm_1 hd)
  cases r.locs x X hv' hx with
  | loc a b d => exact wpAny_loadName_local hk a r.fr.ns b (h ω _ s (.refl ..) R d)
  | cell a b d e g => exact wpAny_loadName_cell hk a b ⟨_, (r.nw _ (List.mem_append_left _ d)).1, e⟩ (h ω _ s (.refl ..) R g)
  | free a b d e g =>
    exact wpAny_loadName_free hk a b ⟨_, (r.nw _ (List.mem_append_right _ (List.mem_append_right _ (List.mem_append_right _ (List.mem_append_right _ d))))).1, e⟩ (h ω _ s (.refl ..) R g) (plainNm_2 hd)
def GlobIs (c : Cx) (x : Str) (v : Value) : Prop := c.mg x = some v ∨ (c.mg x = none ∧ c.mb x = some v)
theorem ev_glob {x : Str} {v : Value} (hC : CxOk c) (hv : S.names.lookup x = some .globalImplicit) (hd : plainNm x = true) (hx : GlobIs c x v) : Ev c S n (.Name x pos) σ (.val v) σ := fun f F ω s Q E R h => by
  have hk : f.env.scope.kind = .function := by rw [F.scope]; exact F.kind
  have kx : f.env.kindOf x = some .globalImplicit := by unfold Env.kindOf; rw [F.scope]; exact hv
  have hg : s.heap.Ns f.env.globals c.mg := by rw [F.globals]; exact hC.g.keeps R.keep
  have hb : s.heap.Ns f.env.builtins c.mb := by rw [F.builtins]; exact hC.b.keeps R.keep
  refine Name_function_global hk kx ?_ (plainNm_1 hd)
  rcases hx with hx | ⟨h1, h2⟩
  · exact loadGlobal_global hg hx (h ω v s (.refl ..) R (.val v))
  · exact loadGlobal_builtin hg h1 hb h2 (h ω v s (.refl ..) R (.val v))
def GlobD (c : Cx) (x : Str) (d : D) : Prop := ∃ v, GlobIs c x v ∧ ∀ ω, DR c.hs (fz c ω) d v
theorem ev_globd {x : Str} {d : D} (hC : CxOk c) (hv : S.names.lookup x = some .globalImplicit) (hd : plainNm x = true) (hx : GlobD c x d) : Ev c S n (.Name x pos) σ (.d d) σ := fun f F ω s Q E R h => by
  obtain ⟨v, h1, h2⟩ := hx
  exact ev_glob hC hv hd h1 f F ω s Q E R fun ω' v' s' e R' A => h ω' v' s' e R' (by cases A; exact .d (h2 ω'))
def notStar : Expr → Bool
  | .Starred .. => false
  | _ => true
theorem starEach_plain {e : Expr} {rest : List Expr} {env : Env} (h : notStar e = true) : starEach (e :: rest) env = (false, eval e env) :: starEach rest env := by
  cases e <;> first | rfl | cases h
theorem evs_nil : Evs c S n [] σ [] σ := fun p f F ω s Q E R h => spliced_none (h ω [] s (.refl ..) R .nil)
theorem evs_cons (h1 : Ev c S n e σ X σ₁) (h2 : Evs c S n es σ₁ Xs σ₂) (hs : notStar e = true := by rfl) : Evs c S n (e :: es) σ (X :: Xs) σ₂ := fun p f F ω s Q E R h =>
  spliced_more (h1 f F ω s _ _ R fun ω₁ v s₁ e₁ R₁ A₁ => h2 p f F ω₁ s₁ _ _ R₁ fun ω₂ vs s₂ e₂ R₂ B => h ω₂ (v :: vs) s₂ (e₁.trans e₂) R₂ (.cons (A₁.ext e₂) B)) (starEach_plain hs)
theorem ev_binop {op : Operator} (h1 : Ev c S n l σ X σ₁) (h2 : Ev c S n r σ₁ Y σ₂) (h3 : Op2 c n (binaryOp op) X Y σ₂ Z σ₃) : Ev c S n (.BinOp l op r pos) σ Z σ₃ := fun f F ω s Q E R h => by
  refine wpAny_BinOp (h1 f F ω s _ _ R fun ω₁ a s₁ e₁ R₁ A₁ => h2 f F ω₁ s₁ _ _ R₁ fun ω₂ b s₂ e₂ R₂ B₂ => ?_)
  exact h3 S f F ω₂ s₂ _ _ a b R₂ (A₁.ext e₂) B₂ fun ω₃ v s₃ e₃ R₃ C₃ => h ω₃ v s₃ (e₁.trans (e₂.trans e₃)) R₃ C₃
theorem ev_cmp {op : CmpOp} (h1 : Ev c S n l σ X σ₁) (h2 : Ev c S n r σ₁ Y σ₂) (h3 : Op2 c n (compareOp op) X Y σ₂ Z σ₃) (hm : behindInMarks op r = false := by rfl) : Ev c S n (.Compare l [op] [r] pos) σ Z σ₃ := fun f F ω s Q E R h => by
  refine wpAny_Compare1 (h1 f F ω s _ _ R fun ω₁ a s₁ e₁ R₁ A₁ => h2 f F ω₁ s₁ _ _ R₁ fun ω₂ b s₂ e₂ R₂ B₂ => ?_) hm
  exact h3 S f F ω₂ s₂ _ _ a b R₂ (A₁.ext e₂) B₂ fun ω₃ v s₃ e₃ R₃ C₃ => h ω₃ v s₃ (e₁.trans (e₂.trans e₃)) R₃ C₃
theorem ev_unop {op : UnaryOp} (h1 : Ev c S n e σ X σ₁) (h3 : Op1 c n (unaryOp op) X σ₁ Z σ₂) : Ev c S n (.UnaryOp op e pos) σ Z σ₂ := fun f F ω s Q E R h => by
  refine wpAny_bind (h1 f F ω s _ _ R fun ω₁ a s₁ e₁ R₁ A₁ => wpAny_bind (wpAny_standAt (wpAny_holding ?_)))
  exact h3 S f F ω₁ s₁ _ _ a R₁ A₁ fun ω₃ v s₃ e₃ R₃ C₃ => h ω₃ v s₃ (e₁.trans e₃) R₃ C₃
theorem ts_cmp {op : CmpOp} {b : Bool} (h1 : Ev c S n l σ X σ₁) (h2 : Ev c S n r σ₁ Y σ₂) (h3 : Op2 c n (compareOp op) X Y σ₂ (.d (.bool b)) σ₃) (hm : behindInMarks op r = false := by rfl) : Ts c S n (.Compare l [op] [r] pos) σ b σ₃ := fun f F ω s Q E R h => by
  refine wpAny_isTrue_Compare1 (h1 f F ω s _ _ R fun ω₁ a s₁ e₁ R₁ A₁ => h2 f F ω₁ s₁ _ _ R₁ fun ω₂ b s₂ e₂ R₂ B₂ => ?_) hm
  refine h3 S f F ω₂ s₂ _ _ a b R₂ (A₁.ext e₂) B₂ fun ω₃ v s₃ e₃ R₃ C₃ => ?_
  cases C₃ with | d q => cases q; exact wpAny_truthy_bool (h ω₃ s₃ (e₁.trans (e₂.trans e₃)) R₃)
theorem ts_not {b : Bool} (h1 : Ts c S n e σ b σ₁) : Ts c S n (.UnaryOp .Not e pos) σ (!b) σ₁ := fun f F ω s Q E R h =>
  wpAny_bind (m := isTrue e f.env (eval e f.env)) (h1 f F ω s _ _ R fun ω₁ s₁ e₁ R₁ => wpAny_pure (h ω₁ s₁ e₁ R₁))
def plainTest : Expr → Bool
  | .UnaryOp .Not .. | .BoolOp .. | .IfExp .. | .Compare .. => false
  | _ => true
theorem isTrue_plain' {e : Expr} {env : Env} {whole : Sem Value} (h : plainTest e = true) : isTrue e env whole = (do let v ← whole; standAt e.pos; holding [v] (truthy v)) := by
  cases e with
  | UnaryOp op _ _ => cases op <;> first | rfl | cases h
  | _ => first | rfl | cases h
theorem ts_plain {b : Bool} (h1 : Ev c S n e σ X σ₁) (h2 : Tr c n X σ₁ b) (hp : plainTest e = true := by rfl) : Ts c S n e σ b σ₁ := fun f F ω s Q E R h =>
  isTrue_plain (h1 f F ω s _ _ R fun ω₁ v s₁ e₁ R₁ A₁ => h2 S f F ω₁ s₁ _ _ v R₁ A₁ fun s₂ R₂ => h ω₁ s₂ e₁ R₂) (isTrue_plain' hp)
def Tss (c : Cx) (S : Scope) (n : Nat) (op : BoolOp) (es : List Expr) (σ : St) (b : Bool) (σ' : St) : Prop :=
  ∀ f, FmOk c S n f → ∀ ω s Q E, RelE c n f ω σ s →
    (∀ ω' s', Ext (n + 1) ω ω' → RelE c n f ω' σ' s' → Q b s') → wpAny (model c.prog c.w) f.A (allTrue op es f.env) Q E s
theorem tss_nil {op : BoolOp} : Tss c S n op [] σ (op == .And) σ := fun f F ω s Q E R h => by
  unfold allTrue; exact wpAny_pure (h ω s (.refl ..) R)
theorem tss_and_no (h1 : Ts c S n e σ false σ₁) : Tss c S n .And (e :: es) σ false σ₁ := fun f F ω s Q E R h => by
  unfold allTrue; exact wpAny_bind (h1 f F ω s _ _ R fun ω₁ s₁ e₁ R₁ => wpAny_pure (h ω₁ s₁ e₁ R₁))
theorem tss_and_yes {b : Bool} (h1 : Ts c S n e σ true σ₁) (h2 : Tss c S n .And es σ₁ b σ₂) : Tss c S n .And (e :: es) σ b σ₂ := fun f F ω s Q E R h => by
  unfold allTrue; exact wpAny_bind (h1 f F ω s _ _ R fun ω₁ s₁ e₁ R₁ => h2 f F ω₁ s₁ _ _ R₁ fun ω₂ s₂ e₂ R₂ => h ω₂ s₂ (e₁.trans e₂) R₂)
theorem tss_or_yes (h1 : Ts c S n e σ true σ₁) : Tss c S n .Or (e :: es) σ true σ₁ := fun f F ω s Q E R h => by
  unfold allTrue; exact wpAny_bind (h1 f F ω s _ _ R fun ω₁ s₁ e₁ R₁ => wpAny_pure (h ω₁ s₁ e₁ R₁))
theorem tss_or_no {b : Bool} (h1 : Ts c S n e σ false σ₁) (h2 : Tss c S n .Or es σ₁ b σ₂) : Tss c S n .Or (e :: es) σ b σ₂ := fun f F ω s Q E R h => by
  unfold allTrue; exact wpAny_bind (h1 f F ω s _ _ R fun ω₁ s₁ e₁ R₁ => h2 f F ω₁ s₁ _ _ R₁ fun ω₂ s₂ e₂ R₂ => h ω₂ s₂ (e₁.trans e₂) R₂)
theorem ts_bool {op : BoolOp} {b : Bool} (h1 : Tss c S n op es σ b σ₁) : Ts c S n (.BoolOp op es pos) σ b σ₁ := fun f F ω s Q E R h => by
  show wpAny _ _ (allTrue op es f.env) Q E s
  exact h1 f F ω s _ _ R h
theorem tss_and {b b' : Bool} (h1 : Ts c S n e σ b σ) (h2 : Tss c S n .And es σ b' σ) : Tss c S n .And (e :: es) σ (b && b') σ := by
  cases b with
  | false => exact tss_and_no h1
  | true => exact tss_and_yes h1 h2
theorem tss_or {b b' : Bool} (h1 : Ts c S n e σ b σ) (h2 : Tss c S n .Or es σ b' σ) : Tss c S n .Or (e :: es) σ (b || b') σ := by
  cases b with
  | true => exact tss_or_yes h1
  | false => exact tss_or_no h1 h2
theorem ev_ite {b : Bool} {t : Expr} (h0 : Ts c S n t σ b σ₁) (h1 : b = true → Ev c S n l σ₁ X σ₂) (h2 : b = false → Ev c S n r σ₁ X σ₂) : Ev c S n (.IfExp t l r pos) σ X σ₂ := fun f F ω s Q E R h => by
  refine wpAny_IfExp (h0 f F ω s _ _ R fun ω₁ s₁ e₁ R₁ => ?_)
  cases b with
  | true => exact h1 rfl f F ω₁ s₁ _ _ R₁ fun ω₂ v s₂ e₂ R₂ A => h ω₂ v s₂ (e₁.trans e₂) R₂ A
  | false => exact h2 rfl f F ω₁ s₁ _ _ R₁ fun ω₂ v s₂ e₂ R₂ A => h ω₂ v s₂ (e₁.trans e₂) R₂ A
theorem ev_or1 (h1 : Ev c S n e σ X σ₁) : Ev c S n (.BoolOp .Or [e] pos) σ X σ₁ := fun f F ω s Q E R h => BoolOp_one (h1 f F ω s _ _ R h)
theorem ev_or {b : Bool} {e' : Expr} (h1 : Ev c S n e σ X σ₁) (h2 : Tr c n X σ₁ b) (h3 : b = true → X = Z ∧ σ₁ = σ₂) (h4 : b = false → Ev c S n (.BoolOp .Or (e' :: es) pos) σ₁ Z σ₂) : Ev c S n (.BoolOp .Or (e :: e' :: es) pos) σ Z σ₂ := fun f F ω s Q E R h =>
  BoolOp_or (h1 f F ω s _ _ R fun ω₁ v s₁ e₁ R₁ A₁ => h2 S f F ω₁ s₁ _ _ v R₁ A₁ fun s₂ R₂ => by
    cases b with
    | true => obtain ⟨rfl, rfl⟩ := h3 rfl; exact h ω₁ v s₂ e₁ R₂ A₁
    | false => exact h4 rfl f F ω₁ s₂ _ _ R₂ fun ω₂ u s₃ e₂ R₃ A => h ω₂ u s₃ (e₁.trans e₂) R₃ A)
theorem ev_tuple {k : Nat} (h1 : Evs c S n es σ Xs σ₁) (h2 : OpN c n newTuple Xs σ₁ Z σ₂) : Ev c S n (.Tuple es k pos) σ Z σ₂ := fun f F ω s Q E R h =>
  Tuple_ (h1 pos f F ω s _ _ R fun ω₁ vs s₁ e₁ R₁ A₁ => h2 S f F ω₁ s₁ _ _ vs R₁ A₁ fun ω₂ v s₂ e₂ R₂ B => h ω₂ v s₂ (e₁.trans e₂) R₂ B)
theorem ev_list (h1 : Evs c S n es σ Xs σ₁) (h2 : OpN c n newList Xs σ₁ Z σ₂) : Ev c S n (.List es pos) σ Z σ₂ := fun f F ω s Q E R h =>
  List_ (h1 pos f F ω s _ _ R fun ω₁ vs s₁ e₁ R₁ A₁ => h2 S f F ω₁ s₁ _ _ vs R₁ A₁ fun ω₂ v s₂ e₂ R₂ B => h ω₂ v s₂ (e₁.trans e₂) R₂ B)
theorem ev_sub (h1 : Ev c S n l σ X σ₁) (h2 : Ev c S n r σ₁ Y σ₂) (h3 : Op2 c n (subscriptTail l r) X Y σ₂ Z σ₃) : Ev c S n (.Subscript l r pos) σ Z σ₃ := fun f F ω s Q E R h => by
  refine Subscript_ (h1 f F ω s _ _ R fun ω₁ a s₁ e₁ R₁ A₁ => h2 f F ω₁ s₁ _ _ R₁ fun ω₂ b s₂ e₂ R₂ B₂ => ?_)
  exact h3 S f F ω₂ s₂ _ _ a b R₂ (A₁.ext e₂) B₂ fun ω₃ v s₃ e₃ R₃ C₃ => h ω₃ v s₃ (e₁.trans (e₂.trans e₃)) R₃ C₃
theorem anyBack {es : List Expr} {env : Env} (h : es.all notStar = true) : ((backTo pos (starEach es env)).any fun x => x.1) = false := by
  induction es with
  | nil => rfl
  | cons e es ih =>
    rw [List.all_cons, Bool.and_eq_true] at h
    rw [starEach_plain h.1]
    show (false || (backTo pos (starEach es env)).any fun x => x.1) = false
    rw [ih h.2]; rfl
theorem ev_callb {id : String} (h1 : Ev c S n l σ (.val (.builtin id)) σ₁) (h2 : Evs c S n (e :: es) σ₁ Xs σ₂) (h3 : OpN c n (fun vs => call (.builtin id) vs) Xs σ₂ Z σ₃) (ha : notStar e = true := by rfl) (hs : es.all notStar = true := by rfl)
    (hc : ∀ env, eval (.Call l (e :: es) [] pos) env = (do callWith pos (← eval l env) [] (backTo pos (starEach (e :: es) env)) (backToKw pos (keywordEach [] env))) := by intro _; rfl) : Ev c S n (.Call l (e :: es) [] pos) σ Z σ₃ := fun f F ω s Q E R h => by
  refine Call_ (h1 f F ω s _ _ R fun ω₁ v s₁ e₁ R₁ A₁ => ?_) (hc _)
  cases A₁
  exact callWith_builtin1 (h2 pos f F ω₁ s₁ _ _ R₁ fun ω₂ vs s₂ e₂ R₂ B => h3 S f F ω₂ s₂ _ _ vs R₂ B fun ω₃ u s₃ e₃ R₃ C => h ω₃ u s₃ (e₁.trans (e₂.trans e₃)) R₃ C) (starEach_plain ha) (anyBack hs)
theorem ev_callt {T : String} (h1 : Ev c S n l σ (.val (.type T)) σ₁) (h2 : Evs c S n (e :: es) σ₁ Xs σ₂) (h3 : OpN c n (fun vs => call (.type T) vs) Xs σ₂ Z σ₃) (ha : notStar e = true := by rfl) (hs : es.all notStar = true := by rfl)
    (hc : ∀ env, eval (.Call l (e :: es) [] pos) env = (do callWith pos (← eval l env) [] (backTo pos (starEach (e :: es) env)) (backToKw pos (keywordEach [] env))) := by intro _; rfl) : Ev c S n (.Call l (e :: es) [] pos) σ Z σ₃ := fun f F ω s Q E R h => by
  refine Call_ (h1 f F ω s _ _ R fun ω₁ v s₁ e₁ R₁ A₁ => ?_) (hc _)
  cases A₁
  exact callWith_type1 (h2 pos f F ω₁ s₁ _ _ R₁ fun ω₂ vs s₂ e₂ R₂ B => h3 S f F ω₂ s₂ _ _ vs R₂ B fun ω₃ u s₃ e₃ R₃ C => h ω₃ u s₃ (e₁.trans (e₂.trans e₃)) R₃ C) (starEach_plain ha) (anyBack hs)
theorem ev_callf {a : Addr} (hC : CxOk c) (hk : keepIn c.K (.ref a) = true) (h1 : Ev c S n l σ (.val (.ref a)) σ₁) (h2 : Evs c S n (e :: es) σ₁ Xs σ₂) (h3 : OpN c n (fun vs => call (.ref a) vs) Xs σ₂ Z σ₃) (ha : notStar e = true := by rfl) (hs : es.all notStar = true := by rfl)
    (hc : ∀ env, eval (.Call l (e :: es) [] pos) env = (do callWith pos (← eval l env) [] (backTo pos (starEach (e :: es) env)) (backToKw pos (keywordEach [] env))) := by intro _; rfl) : Ev c S n (.Call l (e :: es) [] pos) σ Z σ₃ := fun f F ω s Q E R h => by
  refine Call_ (h1 f F ω s _ _ R fun ω₁ v s₁ e₁ R₁ A₁ => ?_) (hc _)
  cases A₁
  exact callWith_K (hC.kin.keeps R₁.keep) hk (h2 pos f F ω₁ s₁ _ _ R₁ fun ω₂ vs s₂ e₂ R₂ B => ⟨hC.kin.keeps R₂.keep, h3 S f F ω₂ s₂ _ _ vs R₂ B fun ω₃ u s₃ e₃ R₃ C => h ω₃ u s₃ (e₁.trans (e₂.trans e₃)) R₃ C⟩) (starEach_plain ha) (anyBack hs)
theorem ev_meth {id : String} {name : Str} {apos : Pos} (h1 : Ev c S n l σ X σ₁) (hg : GetM c n X name σ₁ (.builtin id)) (h2 : Evs c S n (e :: es) σ₁ Xs σ₂) (h3 : OpN c n (fun vs => call (.builtin id) vs) (X :: Xs) σ₂ Z σ₃) (ha : notStar e = true := by rfl) (hs : es.all notStar = true := by rfl)
    (hc : ∀ env, ∃ pl, eval (.Call (.Attribute l name apos) (e :: es) [] pos) env = (do
          let ov ← eval l env
          standAt apos.atName
          let __x ← holding [ov] (getMethod ov name pl)
          match __x with
            | (f, first) => callWith pos f first (backTo pos (starEach (e :: es) env)) []) := by intro _; exact ⟨_, rfl⟩) : Ev c S n (.Call (.Attribute l name apos) (e :: es) [] pos) σ Z σ₃ := fun f F ω s Q E R h => by
  obtain ⟨pl, hc⟩ := hc f.env
  refine MethodCall_ (h1 f F ω s _ _ R fun ω₁ v s₁ e₁ R₁ A₁ => hg S f F ω₁ s₁ _ _ v pl R₁ A₁ ?_) hc
  exact callWith_method1 (h2 pos f F ω₁ s₁ _ _ R₁ fun ω₂ vs s₂ e₂ R₂ B => h3 S f F ω₂ s₂ _ _ (v :: vs) R₂ (.cons (A₁.ext e₂) B) fun ω₃ u s₃ e₃ R₃ C => h ω₃ u s₃ (e₁.trans (e₂.trans e₃)) R₃ C) (starEach_plain ha) (anyBack hs)
theorem ev_methf0 {a : Addr} {name : Str} {apos : Pos} (hC : CxOk c) (hk : keepIn c.K (.ref a) = true) (h1 : Ev c S n l σ X σ₁) (hg : GetM c n X name σ₁ (.ref a)) (h3 : OpN c n (fun vs => call (.ref a) vs) [X] σ₁ Z σ₂)
    (hc : ∀ env, ∃ pl, eval (.Call (.Attribute l name apos) [] [] pos) env = (do
          let ov ← eval l env
          standAt apos.atName
          let __x ← holding [ov] (getMethod ov name pl)
          match __x with
            | (f, first) => callWith pos f first (backTo pos (starEach [] env)) []) := by intro _; exact ⟨_, rfl⟩) : Ev c S n (.Call (.Attribute l name apos) [] [] pos) σ Z σ₂ := fun f F ω s Q E R h => by
  obtain ⟨pl, hc⟩ := hc f.env
  refine MethodCall_ (h1 f F ω s _ _ R fun ω₁ v s₁ e₁ R₁ A₁ => hg S f F ω₁ s₁ _ _ v pl R₁ A₁ ?_) hc
  exact callWith_K0 (hC.kin.keeps R₁.keep) hk (h3 S f F ω₁ s₁ _ _ [v] R₁ (.cons A₁ .nil) fun ω₃ u s₃ e₃ R₃ C => h ω₃ u s₃ (e₁.trans e₃) R₃ C)
end
end Mine
namespace Mine
open PySem PySem.W PyProof.Rows PySem.Calls PySem.Spec
theorem vi {c : Cx} {n : Nat} {ω : Om} {i : Int} {v : Value} (h : VR c n ω (.d (.int i)) v) : ∃ t, v = .int i t := by cases h with | d h => cases h; exact ⟨_, rfl⟩
theorem vs {c : Cx} {n : Nat} {ω : Om} {x : Str} {v : Value} (h : VR c n ω (.d (.str x)) v) : ∃ t, v = .str x t := by cases h with | d h => cases h; exact ⟨_, rfl⟩
theorem vn {c : Cx} {n : Nat} {ω : Om} {v : Value} (h : VR c n ω (.d .none) v) : v = .none := by cases h with | d h => cases h; rfl
theorem vb {c : Cx} {n : Nat} {ω : Om} {b : Bool} {v : Value} (h : VR c n ω (.d (.bool b)) v) : v = .bool b := by cases h with | d h => cases h; rfl
section
variable {c : Cx} {S : Scope} {n : Nat} {σ σ' : St} {X Y Z : V}
theorem b_add {a b : Int}  : Op2 c n (binaryOp .Add) (.d (.int a)) (.d (.int b)) σ (.d (.int (a + b))) σ := fun S f F ω s Q E x y R hx hy h => by
  obtain ⟨_, rfl⟩ := vi hx; obtain ⟨_, rfl⟩ := vi hy; exact add_int (h ω _ _ (.refl ..) R.toks (.d ((.int _ _))))
theorem b_sub {a b : Int}  : Op2 c n (binaryOp .Sub) (.d (.int a)) (.d (.int b)) σ (.d (.int (a - b))) σ := fun S f F ω s Q E x y R hx hy h => by
  obtain ⟨_, rfl⟩ := vi hx; obtain ⟨_, rfl⟩ := vi hy; exact sub_int (h ω _ _ (.refl ..) R.toks (.d ((.int _ _))))
theorem b_and {a b : Int}  : Op2 c n (binaryOp .BitAnd) (.d (.int a)) (.d (.int b)) σ (.d (.int (Builtin.bitAnd a b))) σ := fun S f F ω s Q E x y R hx hy h => by
  obtain ⟨_, rfl⟩ := vi hx; obtain ⟨_, rfl⟩ := vi hy; exact and_int (h ω _ _ (.refl ..) R.toks (.d ((.int _ _))))
theorem b_or {a b : Int}  : Op2 c n (binaryOp .BitOr) (.d (.int a)) (.d (.int b)) σ (.d (.int (Builtin.bitOr a b))) σ := fun S f F ω s Q E x y R hx hy h => by
  obtain ⟨_, rfl⟩ := vi hx; obtain ⟨_, rfl⟩ := vi hy; exact or_int (h ω _ _ (.refl ..) R.toks (.d ((.int _ _))))
theorem i_and {a b : Int}  : Op2 c n (inplaceOp .BitAnd) (.d (.int a)) (.d (.int b)) σ (.d (.int (Builtin.bitAnd a b))) σ := fun S f F ω s Q E x y R hx hy h => by
  obtain ⟨_, rfl⟩ := vi hx; obtain ⟨_, rfl⟩ := vi hy; exact iand_int (h ω _ _ (.refl ..) R.toks (.d ((.int _ _))))
theorem i_or {a b : Int}  : Op2 c n (inplaceOp .BitOr) (.d (.int a)) (.d (.int b)) σ (.d (.int (Builtin.bitOr a b))) σ := fun S f F ω s Q E x y R hx hy h => by
  obtain ⟨_, rfl⟩ := vi hx; obtain ⟨_, rfl⟩ := vi hy; exact ior_int (h ω _ _ (.refl ..) R.toks (.d ((.int _ _))))
theorem i_add {a b : Int}  : Op2 c n (inplaceOp .Add) (.d (.int a)) (.d (.int b)) σ (.d (.int (a + b))) σ := fun S f F ω s Q E x y R hx hy h => by
  obtain ⟨_, rfl⟩ := vi hx; obtain ⟨_, rfl⟩ := vi hy; exact iadd_int (h ω _ _ (.refl ..) R.toks (.d ((.int _ _))))
theorem b_mod {a b : Int} (hb : b ≠ 0) : Op2 c n (binaryOp .Mod) (.d (.int a)) (.d (.int b)) σ (.d (.int (a.fmod b))) σ := fun S f F ω s Q E x y R hx hy h => by
  obtain ⟨_, rfl⟩ := vi hx; obtain ⟨_, rfl⟩ := vi hy; exact mod_int' hb (h ω _ _ (.refl ..) R.toks (.d ((.int _ _))))
theorem b_fdiv {a b : Int} (hb : b ≠ 0) (hp : Builtin.divisionGoesByPylong a b = false) : Op2 c n (binaryOp .FloorDiv) (.d (.int a)) (.d (.int b)) σ (.d (.int (a.fdiv b))) σ := fun S f F ω s Q E x y R hx hy h => by
  obtain ⟨_, rfl⟩ := vi hx; obtain ⟨_, rfl⟩ := vi hy; exact floordiv_int hb (h ω _ _ (.refl ..) R.toks (.d ((.int _ _)))) (.inl hp)
theorem b_adds {x y : Str} (hl : x.length + y.length ≤ sizeLine) : Op2 c n (binaryOp .Add) (.d (.str x)) (.d (.str y)) σ (.d (.str (x ++ y))) σ := fun S f F ω s Q E x y R hx hy h => by
  obtain ⟨_, rfl⟩ := vs hx; obtain ⟨_, rfl⟩ := vs hy; exact SBL.add (fun t k _ => h ω _ _ (.refl ..) R.toks (.d (.str _ _))) hl
theorem i_adds {x y : Str} (hl : x.length + y.length ≤ sizeLine) : Op2 c n (inplaceOp .Add) (.d (.str x)) (.d (.str y)) σ (.d (.str (x ++ y))) σ := fun S f F ω s Q E x y R hx hy h => by
  obtain ⟨_, rfl⟩ := vs hx; obtain ⟨_, rfl⟩ := vs hy; exact SBL.iadd (fun t k _ => h ω _ _ (.refl ..) R.toks (.d (.str _ _))) hl
theorem c_eq {a b : Int}  : Op2 c n (compareOp .Eq) (.d (.int a)) (.d (.int b)) σ (.d (.bool (a == b))) σ := fun S f F ω s Q E x y R hx hy h => by
  obtain ⟨_, rfl⟩ := vi hx; obtain ⟨_, rfl⟩ := vi hy; exact eq_int (h ω _ s (.refl ..) R (.d ((.bool _))))
theorem c_ne {a b : Int}  : Op2 c n (compareOp .NotEq) (.d (.int a)) (.d (.int b)) σ (.d (.bool (a != b))) σ := fun S f F ω s Q E x y R hx hy h => by
  obtain ⟨_, rfl⟩ := vi hx; obtain ⟨_, rfl⟩ := vi hy; exact ne_int (h ω _ s (.refl ..) R (.d ((.bool _))))
theorem c_eqs {x y : Str}  : Op2 c n (compareOp .Eq) (.d (.str x)) (.d (.str y)) σ (.d (.bool (x == y))) σ := fun S f F ω s Q E x y R hx hy h => by
  obtain ⟨_, rfl⟩ := vs hx; obtain ⟨_, rfl⟩ := vs hy; exact eq_str (h ω _ s (.refl ..) R (.d ((.bool _))))
theorem c_nes {x y : Str}  : Op2 c n (compareOp .NotEq) (.d (.str x)) (.d (.str y)) σ (.d (.bool (x != y))) σ := fun S f F ω s Q E x y R hx hy h => by
  obtain ⟨_, rfl⟩ := vs hx; obtain ⟨_, rfl⟩ := vs hy; exact ne_str (h ω _ s (.refl ..) R (.d ((.bool _))))
theorem c_ins {x y : Str}  : Op2 c n (compareOp .In) (.d (.str y)) (.d (.str x)) σ (.d (.bool (Txt.contains x y))) σ := fun S f F ω s Q E x y R hx hy h => by
  obtain ⟨_, rfl⟩ := vs hx; obtain ⟨_, rfl⟩ := vs hy; exact PySem.SB.contains (h ω _ s (.refl ..) R (.d ((.bool _))))
theorem c_nins {x y : Str}  : Op2 c n (compareOp .NotIn) (.d (.str y)) (.d (.str x)) σ (.d (.bool (!Txt.contains x y))) σ := fun S f F ω s Q E x y R hx hy h => by
  obtain ⟨_, rfl⟩ := vs hx; obtain ⟨_, rfl⟩ := vs hy; exact PySem.SB.notContains (h ω _ s (.refl ..) R (.d ((.bool _))))
theorem c_is_sn {x : Str}  : Op2 c n (compareOp .Is) (.d (.str x)) (.d (.none)) σ (.d (.bool false)) σ := fun S f F ω s Q E x y R hx hy h => by
  obtain ⟨_, rfl⟩ := vs hx; cases vn hy; exact is_str_none (h ω _ s (.refl ..) R (.d ((.bool _))))
theorem u_neg {a : Int}  : Op1 c n (unaryOp .USub) (.d (.int a)) σ (.d (.int (-a))) σ := fun S f F ω s Q E x R hx h => by
  obtain ⟨_, rfl⟩ := vi hx; exact neg_int (h ω _ _ (.refl ..) R.toks (.d ((.int _ _))))
theorem u_inv {a : Int}  : Op1 c n (unaryOp .Invert) (.d (.int a)) σ (.d (.int (Builtin.bitNot a))) σ := fun S f F ω s Q E x R hx h => by
  obtain ⟨_, rfl⟩ := vi hx; exact invert_int (h ω _ _ (.refl ..) R.toks (.d ((.int _ _))))
theorem t_bool {b : Bool}  : Tr c n (.d (.bool b)) σ (b) := fun S f F ω s Q E x R hx h => by
  cases vb hx; exact wpAny_truthy_bool (h s R)
theorem t_int {a : Int}  : Tr c n (.d (.int a)) σ (a != 0) := fun S f F ω s Q E x R hx h => by
  obtain ⟨_, rfl⟩ := vi hx; exact truthy_int (h s R)
theorem t_str {x : Str} (hl : x.length ≤ sizeLine) : Tr c n (.d (.str x)) σ (((x.length : Int) != 0)) := fun S f F ω s Q E x R hx h => by
  obtain ⟨_, rfl⟩ := vs hx; exact SBL.truthy (by rw [sizeLine_eq] at hl; omega) (h _ R.toks)
end
end Mine
namespace Mine
open PySem PySem.W PyProof.Rows PySem.Calls PySem.Spec
inductive Fl where
  | next | brk | cont
  | ret (X : V)
inductive FlR (c : Cx) (n : Nat) (ω : Om) : Fl → Flow → Prop
  | next : FlR c n ω .next .next
  | brk : FlR c n ω .brk .brk
  | cont : FlR c n ω .cont .cont
  | ret {X : V} {v : Value} : VR c n ω X v → FlR c n ω (.ret X) (.ret v)
def Ex (c : Cx) (S : Scope) (n : Nat) (st : Stmt) (σ : St) (fl : Fl) (σ' : St) : Prop :=
  ∀ f, FmOk c S n f → ∀ ω s Q E, RelE c n f ω σ s →
    (∀ ω' F s', Ext n ω ω' → RelE c n f ω' σ' s' → FlR c n ω' fl F → Q F s') → wpAny (model c.prog c.w) f.A (exec st f.env) Q E s
def Exs (c : Cx) (S : Scope) (n : Nat) (sts : List Stmt) (σ : St) (fl : Fl) (σ' : St) : Prop :=
  ∀ f, FmOk c S n f → ∀ ω s Q E, RelE c n f ω σ s →
    (∀ ω' F s', Ext n ω ω' → RelE c n f ω' σ' s' → FlR c n ω' fl F → Q F s') → wpAny (model c.prog c.w) f.A (execs sts f.env) Q E s
def As (c : Cx) (S : Scope) (n : Nat) (t : Expr) (X : V) (σ σ' : St) : Prop :=
  ∀ f, FmOk c S n f → ∀ ω s Q E v, RelE c n f ω σ s → VR c n ω X v →
    (∀ ω' s', Ext n ω ω' → RelE c n f ω' σ' s' → Q () s') → wpAny (model c.prog c.w) f.A (assign t f.env v) Q E s
section
variable {c : Cx} {S : Scope} {n : Nat} {σ σ' σ₁ σ₂ σ₃ σ₄ : St} {X Y Z W : V} {e l r t : Expr} {es : List Expr} {Xs : List V} {pos tpos : Pos} {st : Stmt} {sts : List Stmt} {fl : Fl} {x : Str} {body orelse : List Stmt}
theorem Ext.down {ω ω' : Om} (h : Ext (n + 1) ω ω') : Ext n ω ω' := h.le (Nat.le_succ n)
theorem exs_nil : Exs c S n [] σ .next σ := fun f F ω s Q E R h => wpAny_execs_nil (h ω _ s (.refl ..) R .next)
theorem exs_cons (h1 : Ex c S n st σ .next σ₁) (h2 : Exs c S n sts σ₁ fl σ₂) : Exs c S n (st :: sts) σ fl σ₂ := fun f F ω s Q E R h =>
  wpAny_execs_cons (h1 f F ω s _ _ R fun ω₁ G s₁ e₁ R₁ q => by
    cases q
    exact h2 f F ω₁ s₁ _ _ R₁ fun ω₂ G' s₂ e₂ R₂ q' => h ω₂ G' s₂ (e₁.trans e₂) R₂ q')
def Fl.stops : Fl → Bool
  | .next => false
  | _ => true
theorem exs_stop (h1 : Ex c S n st σ fl σ₁) (hf : fl.stops = true := by rfl) : Exs c S n (st :: sts) σ fl σ₁ := fun f F ω s Q E R h =>
  wpAny_execs_cons (h1 f F ω s _ _ R fun ω₁ G s₁ e₁ R₁ q => by
    have z := h ω₁ G s₁ e₁ R₁ q
    cases q with
    | next => cases hf
    | _ => exact z)
theorem ex_brk : Ex c S n (.Break pos) σ .brk σ := fun f F ω s Q E R h => fun _ _ _ => h ω .brk s (.refl ..) R .brk
theorem ex_ret (h1 : Ev c S n e σ X σ₁) : Ex c S n (.Return (some e) pos) σ (.ret X) σ₁ := fun f F ω s Q E R h =>
  wpAny_Return_some (h1 f F ω s _ _ R fun ω₁ v s₁ e₁ R₁ A => h ω₁ (.ret v) s₁ e₁.down R₁ (.ret A))
theorem ex_ret0 : Ex c S n (.Return none pos) σ (.ret (.d .none)) σ := fun f F ω s Q E R h =>
  wpAny_Return_none (h ω (.ret .none) s (.refl ..) R (.ret (.d .none)))
theorem ex_if {b : Bool} (h0 : Ts c S n t σ b σ₁) (h1 : b = true → Exs c S n body σ₁ fl σ₂) (h2 : b = false → Exs c S n orelse σ₁ fl σ₂) : Ex c S n (.If t body orelse pos) σ fl σ₂ := fun f F ω s Q E R h =>
  wpAny_If (h0 f F ω s _ _ R fun ω₁ s₁ e₁ R₁ => by
    cases b with
    | true => exact h1 rfl f F ω₁ s₁ _ _ R₁ fun ω₂ G s₂ e₂ R₂ q => h ω₂ G s₂ (e₁.down.trans e₂) R₂ q
    | false => exact h2 rfl f F ω₁ s₁ _ _ R₁ fun ω₂ G s₂ e₂ R₂ q => h ω₂ G s₂ (e₁.down.trans e₂) R₂ q)
def noComp : Expr → Bool
  | .ListComp .. | .SetComp .. | .DictComp .. => false
  | _ => true
theorem swaps_no {e : Expr} {o : Option Expr} {k : Nat} {env : Env} (h : noComp e = true) : swapsWith e o k env = pure false := by
  cases e <;> first | rfl | cases h
theorem ex_expr (h1 : Ev c S n e σ X σ₁) (hn : noComp e = true := by rfl) : Ex c S n (.Expr e pos) σ .next σ₁ := fun f F ω s Q E R h =>
  wpAny_Expr_any (h1 f F ω s _ _ R fun ω₁ v s₁ e₁ R₁ A => h ω₁ .next s₁ e₁.down R₁ .next) (by unfold interactive; rw [F.scope, F.kind]; rfl) (swaps_no hn)
def isOwnVar : Option NameKind → Bool
  | some .local | some .cell => true
  | _ => false
theorem isOwnVar_or {o : Option NameKind} (h : isOwnVar o = true) : o = some .local ∨ o = some .cell := by
  unfold isOwnVar at h; split at h <;> simp_all
def St.set (σ : St) (x : Str) (X : V) : St := { σ with loc := (key x, X) :: σ.loc }
theorem ex_asg (hv : isOwnVar (S.names.lookup x) = true) (h1 : Ev c S n e σ X σ₁) (hn : noComp e = true := by rfl) : Ex c S n (.Assign [.Name x tpos] e pos) σ .next (σ₁.set x X) := fun f F ω s Q E R h =>
  wpAny_Assign_Name (h1 f F ω s _ _ R fun ω₁ v s₁ e₁ R₁ A => store_name F R₁ (isOwnVar_or hv) A (fun s₂ R₂ => h ω₁ .next s₂ e₁.down R₂ .next) (F.cellsOk x)) (swaps_no hn)
theorem as_name (hv : isOwnVar (S.names.lookup x) = true) : As c S n (.Name x tpos) X σ (σ.set x X) := fun f F ω s Q E v R A h => by
  show wpAny _ _ (do standAt tpos; bindName f.env x v) Q E s
  exact wpAny_bind (wpAny_standAt (wpAny_bindName (store_name F R (isOwnVar_or hv) A (fun s₂ R₂ => h ω s₂ (.refl ..) R₂) (F.cellsOk x))))
theorem ex_aug {op : Operator} (hv : isOwnVar (S.names.lookup x) = true) (hd : plainNm x = true) (h0 : lk (key x) σ.loc = some X) (h1 : Ev c S n e σ Y σ₁) (h2 : Op2 c n (inplaceOp op) X Y σ₁ Z σ₂) : Ex c S n (.AugAssign (.Name x tpos) op e pos) σ .next (σ₂.set x Z) := fun f F ω s Q E R h => by
  have hk : f.env.scope.kind = .function := by rw [F.scope]; exact F.kind
  obtain ⟨m, Mc, Mh, FR, r⟩ := id R
  have hv' : isVar (f.env.kindOf x) = true := by
    unfold Env.kindOf; rw [F.scope]
    rcases isOwnVar_or hv with e | e <;> rw [e] <;> rfl
  have go : ∀ v, VR c n ω X v → wpAny (model c.prog c.w) f.A (eval e f.env) (fun v' s₂ => wpAny (model c.prog c.w) f.A (inplaceOp op v v') (fun r s₃ => wpAny (model c.prog c.w) f.A (storeName f.env x r) (fun _ => Q .next) E s₃) E s₂) E s := fun v A =>
    h1 f F ω s _ _ R fun ω₁ v' s₁ e₁ R₁ B => h2 S f F ω₁ s₁ _ _ v v' R₁ (A.ext e₁) B fun ω₂ z s₂ e₂ R₂ C =>
      store_name F R₂ (isOwnVar_or hv) C (fun s₃ R₃ => h ω₂ .next s₃ (e₁.down.trans e₂.down) R₃ .next) (F.cellsOk x)
  refine wpAny_AugAssign_Name ?_
  cases r.locs x X hv' h0 with
  | loc a b d => exact wpAny_loadName_local hk a r.fr.ns b (go _ d)
  | cell a b d e g => exact wpAny_loadName_cell hk a b ⟨_, (r.nw _ (List.mem_append_left _ d)).1, e⟩ (go _ g)
  | free a b d e g =>
    exact wpAny_loadName_free hk a b ⟨_, (r.nw _ (List.mem_append_right _ (List.mem_append_right _ (List.mem_append_right _ (List.mem_append_right _ d))))).1, e⟩ (go _ g) (plainNm_2 hd)
theorem ex_asgt {k : Nat} (h1 : Ev c S n e σ X σ₁) (h2 : As c S n (.Tuple es k tpos) X σ₁ σ₂) (hn : noComp e = true := by rfl) (hs : ∀ env, swappedStores [.Tuple es k tpos] e env = pure none := by intro _; rfl) : Ex c S n (.Assign [.Tuple es k tpos] e pos) σ .next σ₂ := fun f F ω s Q E R h =>
  Assign_Tuple (h1 f F ω s _ _ R fun ω₁ v s₁ e₁ R₁ A => h2 f F ω₁ s₁ _ _ v R₁ A fun ω₂ s₂ e₂ R₂ => h ω₂ .next s₂ (e₁.down.trans e₂) R₂ .next) (by unfold swapsWithSole; exact swaps_no hn) (hs _)
def Sub (σ σ' : St) : Prop := (∀ k X, lk k σ'.loc = some X → lk k σ.loc = some X) ∧ List.Sublist σ'.heap σ.heap
theorem HR.sub {κ : Str → Int} {Z : Fz} {ρ : Nat → Option Addr} {H H' : List (Nat × HO)} {M : Led} (h : HR κ Z ρ H M) (k : List.Sublist H' H) : ∃ M', List.Sublist M' M ∧ HR κ Z ρ H' M' := by
  induction k generalizing M with
  | slnil => exact ⟨M, .refl _, h⟩
  | cons p k ih =>
    cases h with
    | cons e q r =>
      obtain ⟨M', a, b⟩ := ih r
      exact ⟨M', a.trans (List.sublist_append_right ..), b⟩
  | cons_cons p k ih =>
    cases h with
    | cons e q r =>
      obtain ⟨M', a, b⟩ := ih r
      exact ⟨_ ++ M', (List.Sublist.refl _).append a, .cons e q b⟩
theorem RelE.sub {f : Fm} {ω : Om} {s : Shared} (h : Sub σ σ') (R : RelE c n f ω σ s) : RelE c n f ω σ' s := by
  obtain ⟨m, Mc, Mh, FR, r⟩ := R
  obtain ⟨M', a, b⟩ := r.heap.sub h.2
  have sl : List.Sublist (Mc ++ (M' ++ (ω.Z ++ (FR ++ f.keep)))) (Mc ++ (Mh ++ (ω.Z ++ (FR ++ f.keep)))) := (List.Sublist.refl _).append (a.append (.refl _))
  exact ⟨m, Mc, M', FR, ⟨r.fr, fun p hp => r.nw p (sl.subset hp), r.nd.sublist (sl.map _), r.frs, r.cells, r.cinj, b, fun x X hv hx => r.locs x X hv (h.1 _ _ hx), r.gens, r.drawn, r.os⟩⟩
theorem exs_sub (h : Exs c S n sts σ fl σ₁) (k : Sub σ₁ σ₂) : Exs c S n sts σ fl σ₂ := fun f F ω s Q E R h' => h f F ω s Q E R fun ω' G s' e R' q => h' ω' G s' e (R'.sub k) q
theorem exs_pre (k : Sub σ σ₁) (h : Exs c S n sts σ₁ fl σ₂) : Exs c S n sts σ fl σ₂ := fun f F ω s Q E R h' => h f F ω s Q E (R.sub k) h'
theorem ex_sub (h : Ex c S n st σ fl σ₁) (k : Sub σ₁ σ₂) : Ex c S n st σ fl σ₂ := fun f F ω s Q E R h' => h f F ω s Q E R fun ω' G s' e R' q => h' ω' G s' e (R'.sub k) q
end
end Mine
namespace Mine
open PySem PySem.W PyProof.Rows PySem.Calls PySem.Spec
section
variable {prog : Program} {w : World} {A : Around} {E : Value → Shared → Prop} {s : Shared} {env : Env} {R : Result → Shared → Prop}
theorem code_for {target : Expr} {it : Value} {body : List Stmt}
    (h : wpAny (model prog w) A (pyNext it) (fun r s₁ => match r with
      | none => R (.ok .next) s₁
      | some v => wpAny (model prog w) A (letOwnedTupleGo target it v) (fun _ s₁' => wpAny (model prog w) A (assign target env v) (fun _ s₂ => wpAny (model prog w) A (execs body env) (fun f s₃ => match f with
            | .next | .cont => codeAny (model prog w) A (.forLoop target it body [] env) R s₃
            | .brk => R (.ok .next) s₃
            | .ret v => R (.ok (.ret v)) s₃) (notedBy (model prog w) A env fun e s' => R (.error e) s') s₂) (notedBy (model prog w) A env fun e s' => R (.error e) s') s₁') (notedBy (model prog w) A env fun e s' => R (.error e) s') s₁)
      (notedBy (model prog w) A env fun e s' => R (.error e) s') s) : codeAny (model prog w) A (.forLoop target it body [] env) R s := by
  refine codeAny_of_tree ?_
  show wpAny _ A ((forTurn target it body [] env).onRaise (fun x => do noteFrame x env; theTreesLotGoes x)) _ _ s
  refine wpAny_noted ?_
  simp only [forTurn]
  refine wpAny_bind (wpAny_standAt (wpAny_bind (wpAny_onRaise (wpAny_mono h (fun r s₁ h₁ => ?_) fun _ _ h' => wpAny_standAt h'))))
  cases r with
  | none => exact wpAny_pure ⟨rfl, codeAny_block (wpAny_execs_nil h₁)⟩
  | some v =>
    refine wpAny_bind (wpAny_mono h₁ (fun _ s₁' h₁' => ?_) fun _ _ h' => h')
    refine wpAny_bind (wpAny_mono h₁' (fun _ s₂ h₂ => wpAny_bind (wpAny_mono h₂ (fun f s₃ h₃ => ?_) fun _ _ h' => h')) fun _ _ h' => h')
    cases f with
    | next => exact wpAny_pure ⟨rfl, h₃⟩
    | cont => exact wpAny_pure ⟨rfl, h₃⟩
    | brk => exact wpAny_pure h₃
    | ret v => exact wpAny_pure h₃
theorem code_while {test : Expr} {body : List Stmt}
    (h : wpAny (model prog w) A (isTrue test env (eval test env)) (fun b s₂ =>
        if b then wpAny (model prog w) A (execs body env) (fun f s₃ => match f with
            | .next | .cont => codeAny (model prog w) A (.whileLoop test body [] env) R s₃
            | .brk => R (.ok .next) s₃
            | .ret v => R (.ok (.ret v)) s₃) (notedBy (model prog w) A env fun e s' => R (.error e) s') s₂
        else R (.ok .next) s₂) (notedBy (model prog w) A env fun e s' => R (.error e) s') s) : codeAny (model prog w) A (.whileLoop test body [] env) R s := by
  refine codeAny_of_tree ?_
  show wpAny _ A ((whileTurn test body [] env).onRaise (fun x => do noteFrame x env; theTreesLotGoes x)) _ _ s
  refine wpAny_noted ?_
  simp only [whileTurn]
  refine wpAny_bind (wpAny_mono h (fun b s₂ h₂ => ?_) fun _ _ h' => h')
  cases b with
  | false =>
    simp only [Bool.false_eq_true, if_false] at h₂ ⊢
    exact wpAny_bind (wpAny_execs_nil (wpAny_pure h₂))
  | true =>
    simp only [if_true] at h₂ ⊢
    refine wpAny_bind (wpAny_mono h₂ (fun f s₃ h₃ => ?_) fun _ _ h' => h')
    cases f with
    | next => exact wpAny_pure ⟨rfl, h₃⟩
    | cont => exact wpAny_pure ⟨rfl, h₃⟩
    | brk => exact wpAny_pure h₃
    | ret v => exact wpAny_pure h₃
end
def WL (c : Cx) (S : Scope) (n : Nat) (test : Expr) (body : List Stmt) (σ : St) (fl : Fl) (σ' : St) : Prop :=
  ∀ f, FmOk c S n f → ∀ ω s R, RelE c n f ω σ s →
    (∀ ω' F s', Ext n ω ω' → RelE c n f ω' σ' s' → FlR c n ω' fl F → R (.ok F) s') → codeAny (model c.prog c.w) f.A (.whileLoop test body [] f.env) R s
section
variable {c : Cx} {S : Scope} {n : Nat} {σ σ' σ₁ σ₂ σ₃ σ₄ : St} {X Y Z W : V} {e l r t test target iter : Expr} {es : List Expr} {Xs : List V} {pos tpos : Pos} {st : Stmt} {sts : List Stmt} {fl fl' : Fl} {x : Str} {body orelse : List Stmt}
theorem ex_while (h : WL c S n test body σ fl σ₁) : Ex c S n (.While test body [] pos) σ fl σ₁ := fun f F ω s Q E R h' =>
  wpAny_While (h f F ω s _ R h')
def Fl.goes : Fl → Bool
  | .next | .cont => true
  | _ => false
theorem wl_turn (h : Ts c S n test σ true σ₁) (h1 : Exs c S n body σ₁ fl σ₂) (hf : fl.goes = true) (h2 : WL c S n test body σ₂ fl' σ₃) : WL c S n test body σ fl' σ₃ := fun f F ω s R r h' =>
  code_while (h f F ω s _ _ r fun ω₁ s₁ e₁ R₁ => by
    simp only [if_true]
    refine h1 f F ω₁ s₁ _ _ R₁ fun ω₂ G s₂ e₂ R₂ q => ?_
    have go : codeAny (model c.prog c.w) f.A (.whileLoop test body [] f.env) R s₂ := h2 f F ω₂ s₂ R R₂ fun ω₃ G s₃ e₃ R₃ q => h' ω₃ G s₃ (e₁.down.trans (e₂.trans e₃)) R₃ q
    cases q with
    | next => exact go
    | cont => exact go
    | brk => cases hf
    | ret => cases hf)
theorem wl_brk (h : Ts c S n test σ true σ₁) (h1 : Exs c S n body σ₁ .brk σ₂) : WL c S n test body σ .next σ₂ := fun f F ω s R r h' =>
  code_while (h f F ω s _ _ r fun ω₁ s₁ e₁ R₁ => by
    simp only [if_true]
    refine h1 f F ω₁ s₁ _ _ R₁ fun ω₂ G s₂ e₂ R₂ q => ?_
    cases q; exact h' ω₂ .next s₂ (e₁.down.trans e₂) R₂ .next)
def Fm.more (f : Fm) (kp : Led) : Fm := { f with keep := kp ++ f.keep }
theorem FmOk.more {f : Fm} (F : FmOk c S n f) (kp : Led) : FmOk c S n (f.more kp) := ⟨F.scope, F.kind, F.globals, F.builtins, F.depth, F.units, F.guards, F.frames, F.hand, F.cellsOk, fun x a h1 h2 => by have z := F.freeOk x a h1 h2; show a ∈ (kp ++ f.keep).map (·.1); rw [List.map_append]; exact List.mem_append_right _ z, F.keys⟩
structure Itr (c : Cx) (A : Around) (n : Nat) (I : Addr) (wr : List Addr) (pin : Led) (target : Expr) (N : Nat) (T : Nat → Om → Heap → Prop) (It : Nat → V) : Prop where
  frame : ∀ i k ω ω' h h', T i ω h → Ext k ω ω' → (∀ b o, b ∈ wr ∨ fz c ω b o ∨ (b, o) ∈ pin → h.get? b = some o → h'.get? b = some o) → T i ω' h'
  live : ∀ i ω h, T i ω h → ∀ b ∈ wr, ∃ o, h.get? b = some o
  step : ∀ i ω s (Q : Value → Shared → Prop) E, i < N → T i ω s.heap → (∀ l v h' tk, (∀ p ∈ l, h'.get? p.1 = some p.2 ∧ s.heap.get? p.1 = none) → (l.map (·.1)).Nodup → VR c n { ω with Z := l ++ ω.Z } (It i) v →
      T (i + 1) { ω with Z := l ++ ω.Z } h' → (∀ b o, b ∉ wr → s.heap.get? b = some o → h'.get? b = some o) → Q v { s with heap := h', toks := tk }) →
    wpAny (model c.prog c.w) A (pyNext (.ref I)) (fun r s₁ => match r with
      | none => False
      | some v => wpAny (model c.prog c.w) A (letOwnedTupleGo target (.ref I) v) (fun _ s₂ => Q v s₂) E s₁) E s
  done : ∀ ω s (Q : Shared → Prop) E, T N ω s.heap → (∀ h' tk, (∀ b o, b ∉ wr → s.heap.get? b = some o → h'.get? b = some o) → Q { s with heap := h', toks := tk }) →
    wpAny (model c.prog c.w) A (pyNext (.ref I)) (fun r s₁ => match r with
      | none => Q s₁
      | some _ => False) E s
  self : ∀ i ω s (Q : Value → Shared → Prop) E, T i ω s.heap → Q (.ref I) s → wpAny (model c.prog c.w) A (pyIter (.ref I)) Q E s
def Beside (c : Cx) (n : Nat) (f : Fm) (wr : List Addr) (ω : Om) (σ : St) (s : Shared) : Prop := ∃ kp : Led, kp.map (·.1) = wr ∧ RelE c n (f.more kp) ω σ s
theorem LocAt.keepIs {f : Fm} {kp kp' : Led} {ω : Om} {m : Str → Option Value} {Mc : Led} {X : V} (q : LocAt c n (f.more kp) ω m Mc x X)
    (hf : ∀ a o, f.env.kindOf x = some .free → f.env.cells.lookup x = some a → (a, o) ∈ kp ++ f.keep → (a, o) ∈ kp' ++ f.keep) : LocAt c n (f.more kp') ω m Mc x X := by
  cases q with
  | loc a b d => exact .loc a b d
  | cell a b d e g => exact .cell a b d e g
  | free a b d e g => exact .free a b (hf _ _ a b d) e g
theorem more_nil (f : Fm) : f.more [] = f := rfl
theorem RelE.turn {f : Fm} {kp kp' l : Led} {ω : Om} {s : Shared} {h' : Heap} {tk : Tok} (F : FmOk c S n f) (R : RelE c n (f.more kp) ω σ s)
    (hk : ∀ b o, b ∉ kp.map (·.1) → s.heap.get? b = some o → h'.get? b = some o) (ek : (kp'.map (·.1)).Sublist (kp.map (·.1))) (h1 : ∀ p ∈ kp', h'.get? p.1 = some p.2)
    (h2 : ∀ p ∈ l, h'.get? p.1 = some p.2 ∧ s.heap.get? p.1 = none) (h3 : (l.map (·.1)).Nodup) : RelE c n (f.more kp') { ω with Z := l ++ ω.Z } σ { s with heap := h', toks := tk } := by
  obtain ⟨m, Mc, Mh, FR, r⟩ := R
  have kpIn : ∀ p ∈ kp, p ∈ Mc ++ (Mh ++ (ω.Z ++ (FR ++ (f.more kp).keep))) := fun p hp =>
    List.mem_append_right _ (List.mem_append_right _ (List.mem_append_right _ (List.mem_append_right _ (List.mem_append_left _ hp))))
  have offL : f.env.locals ∉ kp.map (·.1) := fun h => by
    obtain ⟨p, hp, e⟩ := List.mem_map.mp h
    exact (r.nw p (kpIn p hp)).2.1 e
  have offB : ∀ b o, c.base.get? b = some o → b ∉ kp.map (·.1) := fun b o e h => by
    obtain ⟨p, hp, rfl⟩ := List.mem_map.mp h
    rw [(r.nw p (kpIn p hp)).2.2] at e; cases e
  have nd := r.nd
  have assoc : ∀ k : Led, Mc ++ (Mh ++ (ω.Z ++ (FR ++ (k ++ f.keep)))) = (Mc ++ (Mh ++ (ω.Z ++ FR))) ++ (k ++ f.keep) := fun k => by simp only [List.append_assoc]
  have nd1 : (((Mc ++ (Mh ++ (ω.Z ++ FR))) ++ (kp ++ f.keep)).map (·.1)).Nodup := assoc kp ▸ nd
  have offP : ∀ p ∈ Mc ++ (Mh ++ (ω.Z ++ FR)), p.1 ∉ kp.map (·.1) := fun p hp h => by
    rw [List.map_append] at nd1
    exact (List.nodup_append.mp nd1).2.2 p.1 (List.mem_map.mpr ⟨p, hp, rfl⟩) p.1 (by rw [List.map_append]; exact List.mem_append_left _ h) rfl
  have offK : ∀ p ∈ f.keep, p.1 ∉ kp.map (·.1) := fun p hp h => by
    have nd2 := nd1
    rw [List.map_append] at nd2
    have nd3 := (List.nodup_append.mp nd2).2.1
    rw [List.map_append] at nd3
    exact (List.nodup_append.mp nd3).2.2 p.1 h p.1 (List.mem_map.mpr ⟨p, hp, rfl⟩) rfl
  have offKp' : ∀ p ∈ kp', p.1 ≠ f.env.locals ∧ c.base.get? p.1 = none := fun p hp => by
    have : p.1 ∈ kp.map (·.1) := ek.subset (List.mem_map.mpr ⟨p, hp, rfl⟩)
    obtain ⟨q, hq, e⟩ := List.mem_map.mp this
    exact e ▸ (r.nw q (kpIn q hq)).2
  obtain ⟨oL, es, ep, hL, hLr⟩ := r.fr.ns
  have F' : Fr c.base f.env.locals h' m := ⟨⟨oL, es, ep, hk _ _ offL hL, hLr⟩, fun b o e => hk b o (offB b o e) (r.fr.keep b o e), r.fr.above⟩
  have X : Ext (n + 1) ω { ω with Z := l ++ ω.Z } := Ext.frz _ ω l
  have old : ∀ b, b ∈ (Mc ++ (Mh ++ (ω.Z ++ (FR ++ (kp ++ f.keep))))).map (·.1) → ∃ o, s.heap.get? b = some o := fun b hb => by
    obtain ⟨p, hp, rfl⟩ := List.mem_map.mp hb
    exact ⟨p.2, (r.nw p hp).1⟩
  refine ⟨m, Mc, Mh, FR, ⟨F', fun p hp => ?_, ?_, r.frs, r.cells, r.cinj, r.heap.mono X.fz fun _ _ => rfl, fun y Y hy hl => ?_, r.gens, r.drawn, r.os⟩⟩
  · have cases5 : p ∈ l ∨ p ∈ kp' ∨ p ∈ f.keep ∨ p ∈ Mc ++ (Mh ++ (ω.Z ++ FR)) := by
      simp only [List.mem_append, Fm.more] at hp ⊢
      rcases hp with h | h | (h | h) | h | h | h
      · exact .inr (.inr (.inr (.inl h)))
      · exact .inr (.inr (.inr (.inr (.inl h))))
      · exact .inl h
      · exact .inr (.inr (.inr (.inr (.inr (.inl h)))))
      · exact .inr (.inr (.inr (.inr (.inr (.inr h)))))
      · exact .inr (.inl h)
      · exact .inr (.inr (.inl h))
    rcases cases5 with h | h | h | h
    · refine ⟨(h2 p h).1, fun e => ?_, ?_⟩
      · have := (h2 p h).2
        have hL' : s.heap.get? f.env.locals = some oL := hL
        rw [show p.1 = f.env.locals from e] at this; rw [this] at hL'; cases hL'
      · cases q : c.base.get? p.1 with
        | none => rfl
        | some o => have := r.fr.keep _ _ q; rw [(h2 p h).2] at this; cases this
    · exact ⟨h1 p h, offKp' p h⟩
    · have z := r.nw p (List.mem_append_right _ (List.mem_append_right _ (List.mem_append_right _ (List.mem_append_right _ (List.mem_append_right _ h)))))
      exact ⟨hk _ _ (offK p h) z.1, z.2⟩
    · have z := r.nw p (by rw [show (f.more kp).keep = kp ++ f.keep from rfl, assoc]; exact List.mem_append_left _ h)
      exact ⟨hk _ _ (offP p h) z.1, z.2⟩
  · have perm : (Mc ++ (Mh ++ ((l ++ ω.Z) ++ (FR ++ (kp' ++ f.keep))))).Perm (l ++ (Mc ++ (Mh ++ (ω.Z ++ (FR ++ (kp' ++ f.keep)))))) := by
      have e1 : Mc ++ (Mh ++ ((l ++ ω.Z) ++ (FR ++ (kp' ++ f.keep)))) = (Mc ++ Mh) ++ (l ++ (ω.Z ++ (FR ++ (kp' ++ f.keep)))) := by simp only [List.append_assoc]
      have e2 : l ++ (Mc ++ (Mh ++ (ω.Z ++ (FR ++ (kp' ++ f.keep))))) = l ++ ((Mc ++ Mh) ++ (ω.Z ++ (FR ++ (kp' ++ f.keep)))) := by simp only [List.append_assoc]
      rw [e1, e2]
      exact List.perm_append_comm_assoc ..
    show ((Mc ++ (Mh ++ ((l ++ ω.Z) ++ (FR ++ (kp' ++ f.keep))))).map (·.1)).Nodup
    rw [(perm.map (·.1)).nodup_iff, List.map_append]
    have ekk : ((Mc ++ (Mh ++ (ω.Z ++ (FR ++ (kp' ++ f.keep))))).map (·.1)).Sublist ((Mc ++ (Mh ++ (ω.Z ++ (FR ++ (kp ++ f.keep))))).map (·.1)) := by
      simp only [List.map_append]
      exact (List.Sublist.refl _).append ((List.Sublist.refl _).append ((List.Sublist.refl _).append ((List.Sublist.refl _).append (ek.append (List.Sublist.refl _)))))
    refine List.nodup_append.mpr ⟨h3, nd.sublist ekk, fun a ha b hb e => ?_⟩
    subst e
    obtain ⟨p, hp, rfl⟩ := List.mem_map.mp ha
    obtain ⟨o, ho⟩ := old _ (ekk.subset hb)
    rw [(h2 p hp).2] at ho; cases ho
  · refine ((r.locs y Y hy hl).ext X).keepIs fun a o hf ha hm => ?_
    rcases List.mem_append.mp hm with h | h
    · exfalso
      have z := F.freeOk y a (by unfold Env.kindOf at hf; rw [F.scope] at hf; exact hf) ha
      obtain ⟨q, hq, e⟩ := List.mem_map.mp z
      exact offK q hq (e ▸ List.mem_map.mpr ⟨_, h, rfl⟩)
    · exact List.mem_append_right _ h
theorem Rel.unkeep {f : Fm} {kp : Led} {ω : Om} {s : Shared} {m : Str → Option Value} {Mc Mh FR : Led} (F : FmOk c S n f) (r : Rel c n (f.more kp) ω σ s m Mc Mh FR) : Rel c n f ω σ s m Mc Mh FR := by
  have assoc : ∀ k : Led, Mc ++ (Mh ++ (ω.Z ++ (FR ++ (k ++ f.keep)))) = (Mc ++ (Mh ++ (ω.Z ++ FR))) ++ (k ++ f.keep) := fun k => by simp only [List.append_assoc]
  have nd1 : (((Mc ++ (Mh ++ (ω.Z ++ FR))) ++ (kp ++ f.keep)).map (·.1)).Nodup := assoc kp ▸ r.nd
  have offK : ∀ p ∈ f.keep, p.1 ∉ kp.map (·.1) := fun p hp h => by
    have nd2 := nd1
    rw [List.map_append] at nd2
    have nd3 := (List.nodup_append.mp nd2).2.1
    rw [List.map_append] at nd3
    exact (List.nodup_append.mp nd3).2.2 p.1 h p.1 (List.mem_map.mpr ⟨p, hp, rfl⟩) rfl
  refine ⟨r.fr, fun p hp => r.nw p ?_, ?_, r.frs, r.cells, r.cinj, r.heap, fun y Y hy hl => ?_, r.gens, r.drawn, r.os⟩
  · simp only [List.mem_append, Fm.more] at hp ⊢
    rcases hp with h | h | h | h | h
    · exact .inl h
    · exact .inr (.inl h)
    · exact .inr (.inr (.inl h))
    · exact .inr (.inr (.inr (.inl h)))
    · exact .inr (.inr (.inr (.inr (.inr h))))
  · refine List.Nodup.sublist ?_ nd1
    have : Mc ++ (Mh ++ (ω.Z ++ (FR ++ f.keep))) = (Mc ++ (Mh ++ (ω.Z ++ FR))) ++ f.keep := by simp only [List.append_assoc]
    rw [this]
    exact List.Sublist.map _ (List.Sublist.append (List.Sublist.refl _) (List.sublist_append_right ..))
  · have q := LocAt.keepIs (kp' := []) (r.locs y Y hy hl) fun a o hf ha hm => by
      rcases List.mem_append.mp hm with h | h
      · exfalso
        have z := F.freeOk y a (by unfold Env.kindOf at hf; rw [F.scope] at hf; exact hf) ha
        obtain ⟨q, hq, e⟩ := List.mem_map.mp z
        exact offK q hq (e ▸ List.mem_map.mpr ⟨_, h, rfl⟩)
      · exact h
    rwa [more_nil] at q
theorem RelE.unkeep {f : Fm} {kp : Led} {ω : Om} {s : Shared} (F : FmOk c S n f) (R : RelE c n (f.more kp) ω σ s) : RelE c n f ω σ s := by
  obtain ⟨m, Mc, Mh, FR, r⟩ := R
  exact ⟨m, Mc, Mh, FR, r.unkeep F⟩
def FL (c : Cx) (S : Scope) (n : Nat) (target : Expr) (body : List Stmt) (pin : Led) (Xs : List V) (σ : St) (fl : Fl) (σ' : St) : Prop :=
  ∀ f, FmOk c S n f → ∀ I wr N T It, Itr c f.A n I wr pin target N T It → ∀ i, i + Xs.length = N → (∀ j X, Xs[j]? = some X → It (i + j) = X) → ∀ ω s R, Beside c n f wr ω σ s → T i ω s.heap →
    (∀ ω' F s', Ext n ω ω' → RelE c n f ω' σ' s' → FlR c n ω' fl F → R (.ok F) s') → codeAny (model c.prog c.w) f.A (.forLoop target (.ref I) body [] f.env) R s
theorem live_list {wr : List Addr} {h : Heap} (hl : ∀ b ∈ wr, ∃ o, h.get? b = some o) : ∃ kp : Led, kp.map (·.1) = wr ∧ ∀ p ∈ kp, h.get? p.1 = some p.2 := by
  induction wr with
  | nil => exact ⟨[], rfl, fun _ h => nomatch h⟩
  | cons a wr ih =>
    obtain ⟨kp, e, hk⟩ := ih fun b hb => hl b (.tail _ hb)
    obtain ⟨o, ho⟩ := hl a (.head _)
    refine ⟨(a, o) :: kp, by rw [List.map_cons, e], fun p hp => ?_⟩
    rcases List.mem_cons.mp hp with rfl | hp
    · exact ho
    · exact hk p hp
theorem fl_nil {pin : Led} : FL c S n target body pin [] σ .next σ := fun f F I wr N T It W i hi hX ω s R B t h => by
  obtain ⟨kp, ek, R0⟩ := B
  have e : i = N := by simpa using hi
  subst e
  refine code_for (wpAny_mono (W.done ω s (fun s' => R (.ok .next) s') _ t fun h' tk hk => ?_) (fun r s₁ q => ?_) fun _ _ x => x)
  · subst ek
    have R2 := RelE.turn (kp' := []) (l := []) (tk := tk) F R0 hk (List.nil_sublist _) (fun _ h => nomatch h) (fun _ h => nomatch h) List.nodup_nil
    exact h ω .next _ (.refl ..) (by rwa [more_nil] at R2) .next
  · cases r with
    | none => exact q
    | some v => exact q.elim
theorem pins_nil {H : List (Nat × HO)} : PinsIn [] H := fun _ h => nomatch h
theorem RelE.pin {f : Fm} {ω : Om} {s : Shared} {pin : Led} {b : Addr} {o : Obj} (R : RelE c n f ω σ s) (hp : PinsIn pin σ.heap) (hb : (b, o) ∈ pin) : s.heap.get? b = some o := by
  obtain ⟨m, Mc, Mh, FR, r⟩ := R
  obtain ⟨i, x, h1, h2⟩ := hp _ hb
  exact (r.nw (b, o) (List.mem_append_right _ (List.mem_append_left _ (r.heap.pin h1 h2)))).1
theorem fl_head {f : Fm} (F : FmOk c S n f) {pin : Led} {I : Addr} {wr : List Addr} {N : Nat} {T : Nat → Om → Heap → Prop} {It : Nat → V} (W : Itr c f.A n I wr pin target N T It) {i : Nat} {ω : Om} {s : Shared} {R : Result → Shared → Prop} (B : Beside c n f wr ω σ s) (t : T i ω s.heap) (hi : i < N)
    (h1 : As c S n target (It i) σ σ₁) (h2 : Exs c S n body σ₁ fl σ₂) (hpin : PinsIn pin σ₂.heap)
    (h : ∀ ω' G s', Ext n ω ω' → Beside c n f wr ω' σ₂ s' → T (i + 1) ω' s'.heap → FlR c n ω' fl G → match G with
      | .next | .cont => codeAny (model c.prog c.w) f.A (.forLoop target (.ref I) body [] f.env) R s'
      | .brk => R (.ok .next) s'
      | .ret v => R (.ok (.ret v)) s') : codeAny (model c.prog c.w) f.A (.forLoop target (.ref I) body [] f.env) R s := by
  obtain ⟨kp, ek, R0⟩ := B
  subst ek
  refine code_for (wpAny_mono (W.step i ω s (fun v s₂ => wpAny (model c.prog c.w) f.A (assign target f.env v) (fun _ s₂ => wpAny (model c.prog c.w) f.A (execs body f.env) (fun f' s₃ => match f' with
            | .next | .cont => codeAny (model c.prog c.w) f.A (.forLoop target (.ref I) body [] f.env) R s₃
            | .brk => R (.ok .next) s₃
            | .ret v => R (.ok (.ret v)) s₃) (notedBy (model c.prog c.w) f.A f.env fun e s' => R (.error e) s') s₂) (notedBy (model c.prog c.w) f.A f.env fun e s' => R (.error e) s') s₂) _ hi t fun l v h' tk g1 g2 gv gt gk => ?_) (fun r s₁ q => ?_) fun _ _ x => x)
  · obtain ⟨kp', ek', hk'⟩ := live_list (W.live _ _ _ gt)
    have R1 := RelE.turn (kp' := kp') (tk := tk) F R0 gk (by rw [ek']; exact List.Sublist.refl _) hk' g1 g2
    have X1 : Ext n ω { ω with Z := l ++ ω.Z } := Ext.frz _ ω l
    refine h1 (f.more kp') (F.more kp') _ _ _ _ v R1 gv fun ω₂ s₂ e₂ R₂ => h2 (f.more kp') (F.more kp') ω₂ s₂ _ _ R₂ fun ω₃ G s₃ e₃ R₃ q => ?_
    have X2 := e₂.trans e₃
    refine h ω₃ G s₃ (X1.trans X2) ⟨kp', ek', R₃⟩ (W.frame _ _ _ _ _ _ gt X2 fun b o hb hbo => ?_) q
    rcases hb with hb | hb | hb
    · obtain ⟨m, Mc, Mh, FR, r⟩ := R₃
      rw [← ek'] at hb
      obtain ⟨p, hp, rfl⟩ := List.mem_map.mp hb
      have z := r.nw p (List.mem_append_right _ (List.mem_append_right _ (List.mem_append_right _ (List.mem_append_right _ (List.mem_append_left _ hp)))))
      have y := hk' p hp
      have : some o = some p.2 := hbo.symm.trans y
      cases this; exact z.1
    · have y := R1.fz hb
      have z := R₃.fz (X2.fz _ _ hb)
      exact (hbo.symm.trans y) ▸ z
    · exact R₃.pin hpin hb
  · cases r with
    | none => exact q.elim
    | some v => exact q
theorem fl_cons {pin : Led} (h1 : As c S n target X σ σ₁) (h2 : Exs c S n body σ₁ fl σ₂) (hf : fl.goes = true) (h3 : FL c S n target body pin Xs σ₂ fl' σ₃) (hpin : PinsIn pin σ₂.heap := by exact pins_nil) : FL c S n target body pin (X :: Xs) σ fl' σ₃ := fun f F I wr N T It W i hi hX ω s R B t h => by
  have e0 : It i = X := hX 0 X rfl
  refine fl_head F W B t (by simp only [List.length_cons] at hi; omega) (e0 ▸ h1) h2 hpin fun ω₁ G s₁ e₁ B₁ t₁ q => ?_
  have go : codeAny (model c.prog c.w) f.A (.forLoop target (.ref I) body [] f.env) R s₁ :=
    h3 f F I wr N T It W (i + 1) (by simp only [List.length_cons] at hi; omega) (fun j Y hj => by rw [Nat.add_assoc, Nat.add_comm 1 j]; exact hX (j + 1) Y (by simpa using hj)) ω₁ s₁ R B₁ t₁ fun ω₂ F s₂ e₂ R₂ q => h ω₂ F s₂ (e₁.trans e₂) R₂ q
  cases q with
  | next => exact go
  | cont => exact go
  | brk => cases hf
  | ret => cases hf
def EvIt (c : Cx) (S : Scope) (n : Nat) (e target : Expr) (pin : Led) (σ : St) (Xs : List V) (σ' : St) : Prop :=
  ∀ f, FmOk c S n f → ∀ ω s (Q : Value → Shared → Prop) E, RelE c n f ω σ s →
    (∀ ω' I s' wr T It, Ext (n + 1) ω ω' → Beside c n f wr ω' σ' s' → Itr c f.A n I wr pin target Xs.length T It → (∀ j X, Xs[j]? = some X → It j = X) → T 0 ω' s'.heap → Q (.ref I) s') →
    wpAny (model c.prog c.w) f.A (eval e f.env) (fun x s₁ => wpAny (model c.prog c.w) f.A (pyIter x) Q E s₁) E s
def notSet : Expr → Bool
  | .Set .. => false
  | _ => true
theorem folded_no {e : Expr} {env : Env} {x : Value} (h : notSet e = true) : foldedSetIterable e env x = pure x := by
  cases e <;> first | rfl | cases h
theorem ex_for {pin : Led} (h1 : EvIt c S n iter target pin σ Xs σ₁) (h2 : FL c S n target body pin Xs σ₁ fl σ₂) (hs : notSet iter = true := by rfl) : Ex c S n (.For target iter body [] pos) σ fl σ₂ := fun f F ω s Q E R h => by
  show wpAny _ _ (do
    standAt pos
    let x ← foldedSetIterable iter f.env (← eval iter f.env)
    standAt iter.pos
    runOwn (.forLoop target (← holding [x] (pyIter x)) body [] f.env) f.env) Q E s
  refine wpAny_bind (wpAny_standAt (wpAny_bind ?_))
  refine wpAny_mono (h1 f F ω s (fun it s₁ => wpAny (model c.prog c.w) f.A (runOwn (.forLoop target it body [] f.env) f.env) Q E s₁) E R fun ω₁ I s₁ wr T It e₁ B W hI t => ?_) (fun x s₁ q => ?_) fun _ _ x => x
  · exact wpAny_runOwn (h2 f F I wr _ T It W 0 (Nat.zero_add _) (fun j X hj => by rw [Nat.zero_add]; exact hI j X hj) ω₁ s₁ _ B t fun ω₂ G s₂ e₂ R₂ q => h ω₂ G s₂ (e₁.down.trans e₂) R₂ q)
  · rw [folded_no hs]
    exact wpAny_bind (wpAny_pure (wpAny_bind (wpAny_standAt (wpAny_bind (wpAny_holding q)))))
end
end Mine
namespace Mine
open PySem PySem.W PyProof.Rows PySem.Calls PySem.Spec
section
variable {c : Cx} {S : Scope} {n : Nat} {σ σ' σ₁ σ₂ σ₃ σ₄ : St} {X Y Z W : V} {e l r t test target iter : Expr} {es : List Expr} {Xs : List V} {pos tpos : Pos} {st : Stmt} {sts : List Stmt} {fl fl' : Fl} {x : Str} {body orelse : List Stmt}
theorem RelE.pushKeep {f : Fm} {ω : Om} {s : Shared} {o : Obj} {k : Tok} (hf : o.isFreed = false) (R : RelE c n f ω σ s) : RelE c n (f.more [(s.heap.objs.size, o)]) ω σ { s with heap := s.heap.push o, toks := k } := by
  obtain ⟨m, Mc, Mh, FR, r⟩ := R
  have N := r.nw.push r.fr o hf
  refine ⟨m, Mc, Mh, FR, ⟨r.fr.push o, fun p hp => N p ?_, ?_, r.frs, r.cells, r.cinj, r.heap, fun y Y hy hl => ?_, r.gens, r.drawn, r.os⟩⟩
  · simp only [Fm.more, List.mem_append, List.mem_cons, List.not_mem_nil, or_false] at hp ⊢
    rcases hp with h | h | h | h | h | h
    · exact .inr (.inl h)
    · exact .inr (.inr (.inl h))
    · exact .inr (.inr (.inr (.inl h)))
    · exact .inr (.inr (.inr (.inr (.inl h))))
    · exact .inl h
    · exact .inr (.inr (.inr (.inr (.inr h))))
  · have perm : (Mc ++ (Mh ++ (ω.Z ++ (FR ++ ([(s.heap.objs.size, o)] ++ f.keep))))).Perm ((s.heap.objs.size, o) :: (Mc ++ (Mh ++ (ω.Z ++ (FR ++ f.keep))))) := by
      have e1 : Mc ++ (Mh ++ (ω.Z ++ (FR ++ ([(s.heap.objs.size, o)] ++ f.keep)))) = (Mc ++ (Mh ++ (ω.Z ++ FR))) ++ ((s.heap.objs.size, o) :: f.keep) := by simp only [List.append_assoc, List.singleton_append]
      have e2 : Mc ++ (Mh ++ (ω.Z ++ (FR ++ f.keep))) = (Mc ++ (Mh ++ (ω.Z ++ FR))) ++ f.keep := by simp only [List.append_assoc]
      rw [e1, e2]
      exact List.perm_middle
    show ((Mc ++ (Mh ++ (ω.Z ++ (FR ++ ([(s.heap.objs.size, o)] ++ f.keep))))).map (·.1)).Nodup
    rw [(perm.map (·.1)).nodup_iff, List.map_cons, List.nodup_cons]
    refine ⟨fun hm => ?_, r.nd⟩
    obtain ⟨p, hp, e⟩ := List.mem_map.mp hm
    exact absurd (e ▸ r.lt p hp) (Nat.lt_irrefl _)
  · have q := r.locs y Y hy hl
    rw [← more_nil f] at q
    exact q.keepIs fun a o' _ _ h => List.mem_append_right _ h
theorem Ext.zz {k : Nat} {ω ω' : Om} (h : Ext k ω ω') : ∃ l, ω'.Z = l ++ ω.Z := h.Z
theorem itr_of {pin : Led} {A : Around} {I : Addr} {fp : List Addr} {N : Nat} {P : Nat → Value → Prop} {T : Nat → Heap → Prop} {It : Nat → V} {ω₀ : Om} (W : Walks c.prog c.w A I fp [I] N P T)
    (hlive : ∀ i h, T i h → ∃ o, h.get? I = some o) (hgo : ∀ i v s (Q : Unit → Shared → Prop) E, T i s.heap → Q () s → wpAny (model c.prog c.w) A (letOwnedTupleGo target (.ref I) v) Q E s)
    (hit : ∀ i v (ω : Om), (∀ a o, fz c ω₀ a o → fz c ω a o) → i < N → P i v → VR c n ω (It i) v) :
    Itr c A n I [I] pin target N (fun i ω h => T i h ∧ (∀ a o, fz c ω₀ a o → fz c ω a o) ∧ ∀ b ∈ fp, b ≠ I → ∃ o, (fz c ω₀ b o ∨ (b, o) ∈ pin) ∧ h.get? b = some o) It where
  frame := fun i k ω ω' h h' ⟨t, e, q⟩ x hk => ⟨W.frame i h h' t fun b hb o ho => by
      by_cases hI : b = I
      · exact hk b o (.inl (hI ▸ .head _)) ho
      · obtain ⟨o', z, ho'⟩ := q b hb hI
        have : o' = o := Option.some.inj (ho'.symm.trans ho)
        subst this
        exact hk b _ (.inr (z.imp (e _ _) id)) ho, fun a o z => x.fz _ _ (e a o z), fun b hb hI => by
      obtain ⟨o', z, ho'⟩ := q b hb hI
      exact ⟨o', z, hk b o' (.inr (z.imp (e _ _) id)) ho'⟩⟩
  live := fun i ω h ⟨t, _⟩ b hb => by rw [List.mem_singleton.mp hb]; exact hlive i h t
  step := fun i ω s Q E hi ⟨t, e, q⟩ h => by
    refine W.item i s _ E hi t fun v h' tk hP t' hk => ?_
    exact hgo (i + 1) v { s with heap := h', toks := tk } _ _ t' (h [] v h' tk (fun _ h => nomatch h) List.nodup_nil (hit i v _ e hi hP) ⟨t', e, fun b hb hI => by
      obtain ⟨o', z, ho'⟩ := q b hb hI
      exact ⟨o', z, hk b o' (fun hm => hI (List.mem_singleton.mp hm)) ho'⟩⟩ hk)
  done := fun ω s Q E ⟨t, _⟩ h => W.done s _ E t fun h' tk hk => h h' tk hk
  self := fun i ω s Q E ⟨t, _⟩ h => W.self i s Q E t h
theorem go_name {A : Around} {x : Str} {p : Pos} {I : Value} {v : Value} {s : Shared} {Q : Unit → Shared → Prop} {E : Value → Shared → Prop} (h : Q () s) : wpAny (model c.prog c.w) A (letOwnedTupleGo (.Name x p) I v) Q E s := wpAny_pure h
def ownTypes : List String := ["enumerate", "zip", "dict_itemiterator", "dict_reverseitemiterator", "odict_iterator", "itertools.zip_longest", "itertools.pairwise"]
theorem go_list {A : Around} {target : Expr} {I : Addr} {v : Value} {s : Shared} {o : Obj} {T : String} {Q : Unit → Shared → Prop} {E : Value → Shared → Prop} (ho : s.heap.get? I = some o) (hc : o.cls = .type T) (hT : ownTypes.contains T = false) (h : Q () s) : wpAny (model c.prog c.w) A (letOwnedTupleGo target (.ref I) v) Q E s := by
  unfold letOwnedTupleGo
  have body : wpAny (model c.prog c.w) A (do
      let (.ref r, .ref a) := (Value.ref I, v) | return
      let o ← load r
      match o.cls, o.data with
      | .type n, .fields vs =>
        if ["enumerate", "zip", "dict_itemiterator", "dict_reverseitemiterator", "odict_iterator", "itertools.zip_longest", "itertools.pairwise"].contains n && vs[0]? == some (rawInt a) then
          rule "for.unpacks-the-owned-tuple"
          updateField r 0 .none
      | _, _ => pure ()) Q E s := by
    cases v <;> first | exact wpAny_pure h | skip
    refine wpAny_bind (wpAny_load ho ?_)
    rw [hc]
    cases o.data <;> first | exact wpAny_pure h | skip
    rename_i a vs
    have e : (["enumerate", "zip", "dict_itemiterator", "dict_reverseitemiterator", "odict_iterator", "itertools.zip_longest", "itertools.pairwise"].contains T && vs[0]? == some (rawInt a)) = false := by
      rw [show ["enumerate", "zip", "dict_itemiterator", "dict_reverseitemiterator", "odict_iterator", "itertools.zip_longest", "itertools.pairwise"].contains T = false from hT]; rfl
    simp only [e, Bool.false_eq_true, if_false]
    exact wpAny_pure h
  cases target <;> first | exact wpAny_pure h | exact body
theorem RelE.fresh {f : Fm} {ω : Om} {s : Shared} {kp : Led} {h' : Heap} {k : Tok} (R : RelE c n f ω σ s) (hk : ∀ b o, s.heap.get? b = some o → h'.get? b = some o)
    (h2 : ∀ p ∈ kp, h'.get? p.1 = some p.2 ∧ s.heap.get? p.1 = none) (h3 : (kp.map (·.1)).Nodup) : RelE c n (f.more kp) ω σ { s with heap := h', toks := k } := by
  obtain ⟨m, Mc, Mh, FR, r⟩ := R
  obtain ⟨oL, es, ep, hL, hLr⟩ := r.fr.ns
  have F' : Fr c.base f.env.locals h' m := ⟨⟨oL, es, ep, hk _ _ hL, hLr⟩, fun b o e => hk b o (r.fr.keep b o e), r.fr.above⟩
  have e1 : Mc ++ (Mh ++ (ω.Z ++ (FR ++ (kp ++ f.keep)))) = (Mc ++ (Mh ++ (ω.Z ++ FR))) ++ (kp ++ f.keep) := by simp only [List.append_assoc]
  have e2 : Mc ++ (Mh ++ (ω.Z ++ (FR ++ f.keep))) = (Mc ++ (Mh ++ (ω.Z ++ FR))) ++ f.keep := by simp only [List.append_assoc]
  have perm : (Mc ++ (Mh ++ (ω.Z ++ (FR ++ (kp ++ f.keep))))).Perm (kp ++ (Mc ++ (Mh ++ (ω.Z ++ (FR ++ f.keep))))) := by
    rw [e1, e2]
    exact List.perm_append_comm_assoc ..
  refine ⟨m, Mc, Mh, FR, ⟨F', fun p hp => ?_, ?_, r.frs, r.cells, r.cinj, r.heap, fun y Y hy hl => ?_, r.gens, r.drawn, r.os⟩⟩
  · rcases List.mem_append.mp (perm.subset hp) with h | h
    · refine ⟨(h2 p h).1, fun e => ?_, ?_⟩
      · have := (h2 p h).2
        have hL' : s.heap.get? f.env.locals = some oL := hL
        rw [show p.1 = f.env.locals from e] at this; rw [this] at hL'; cases hL'
      · cases q : c.base.get? p.1 with
        | none => rfl
        | some o => have := r.fr.keep _ _ q; rw [(h2 p h).2] at this; cases this
    · have z := r.nw p h
      exact ⟨hk _ _ z.1, z.2⟩
  · show ((Mc ++ (Mh ++ (ω.Z ++ (FR ++ (kp ++ f.keep))))).map (·.1)).Nodup
    rw [(perm.map (·.1)).nodup_iff, List.map_append]
    refine List.nodup_append.mpr ⟨h3, r.nd, fun a ha b hb e => ?_⟩
    subst e
    obtain ⟨p, hp, rfl⟩ := List.mem_map.mp ha
    obtain ⟨q, hq, e⟩ := List.mem_map.mp hb
    have y := (r.nw q hq).1
    rw [e, (h2 p hp).2] at y; cases y
  · have q := r.locs y Y hy hl
    rw [← more_nil f] at q
    exact q.keepIs fun a o' _ _ h => List.mem_append_right _ h
theorem get_size_none (h : Heap) : h.get? h.objs.size = none := by
  cases q : h.get? h.objs.size with
  | none => rfl
  | some o => exact absurd (Heap.lt_size q) (Nat.lt_irrefl _)
theorem get_above_none {h : Heap} {a : Addr} (ha : h.objs.size ≤ a) : h.get? a = none := by
  cases q : h.get? a with
  | none => rfl
  | some o => exact absurd (Nat.lt_of_lt_of_le (Heap.lt_size q) ha) (Nat.lt_irrefl _)
theorem itr_ofT {pin : Led} {A : Around} {I : Addr} {fp wr : List Addr} {N : Nat} {P : Nat → Array Value → Prop} {T : Nat → Heap → Prop} {Mid : Nat → Addr → Heap → Prop} {It : Nat → V} {ω₀ : Om} {k₀ : Nat} (W : WalksT c.prog c.w A I fp wr N P T Mid)
    (hlive : ∀ i h, T i h → ∀ b ∈ wr, ∃ o, h.get? b = some o)
    (hit : ∀ i vals (ω : Om), (∀ a o, fz c ω₀ a o → fz c ω a o) → i < N → P i vals → ∃ ds, It i = .d (.tup ds) ∧ DRs c.hs (fz c ω) ds vals.toList) :
    Itr c A n I wr pin (.Tuple es k₀ tpos) N (fun i ω h => T i h ∧ (∀ a o, fz c ω₀ a o → fz c ω a o) ∧ ∀ b ∈ fp, b ∉ wr → ∃ o, (fz c ω₀ b o ∨ (b, o) ∈ pin) ∧ h.get? b = some o) It where
  frame := fun i k ω ω' h h' ⟨t, e, q⟩ x hk => ⟨W.frame i h h' t fun b hb o ho => by
      by_cases hI : b ∈ wr
      · exact hk b o (.inl hI) ho
      · obtain ⟨o', z, ho'⟩ := q b hb hI
        have : o' = o := Option.some.inj (ho'.symm.trans ho)
        subst this
        exact hk b _ (.inr (z.imp (e _ _) id)) ho, fun a o z => x.fz _ _ (e a o z), fun b hb hI => by
      obtain ⟨o', z, ho'⟩ := q b hb hI
      exact ⟨o', z, hk b o' (.inr (z.imp (e _ _) id)) ho'⟩⟩
  live := fun i ω h ⟨t, _⟩ b hb => hlive i h t b hb
  step := fun i ω s Q E hi ⟨t, e, q⟩ h => by
    refine W.item i s _ E hi t fun a vals h' tk hP ha hT hm hk => ?_
    refine W.go es k₀ tpos i a { s with heap := h', toks := tk } _ E hm fun h'' t' hk' => ?_
    obtain ⟨o, ho, hoc, kk, hod⟩ := hT
    have hT' : h''.get? a = some o := hk' a o (W.apart _ _ _ hm) ho
    let ω' : Om := { ω with Z := [(a, o)] ++ ω.Z }
    have e' : ∀ b o, fz c ω₀ b o → fz c ω' b o := fun b o' z => (Ext.frz 0 ω [(a, o)]).fz _ _ (e b o' z)
    obtain ⟨ds, e1, e2⟩ := hit i vals ω' e' hi hP
    refine h [(a, o)] (.ref a) h'' tk (fun p hp => ?_) (by simp) ?_ ⟨t', e', fun b hb hI => ?_⟩ (fun b o' hb ho' => hk' b o' hb (hk b o' hb ho'))
    · rw [List.mem_singleton.mp hp]; exact ⟨hT', get_above_none ha⟩
    · rw [e1]
      exact .d (.tup (o := o) (vs := vals.toList) (n := kk) (.inl (.head _)) hoc (by rw [hod]) e2)
    · obtain ⟨o', z, ho'⟩ := q b hb hI
      exact ⟨o', z, hk' b o' hI (hk b o' hI ho')⟩
  done := fun ω s Q E ⟨t, _⟩ h => W.done s _ E t fun h' tk hk => h h' tk hk
  self := fun i ω s Q E ⟨t, _⟩ h => W.self i s Q E t h
def dAt (l : List D) (i : Nat) : V := match l[i]? with
  | some d => .d d
  | none => .d .none
theorem dAt_map {l : List D} {j : Nat} {X : V} (h : (l.map V.d)[j]? = some X) : dAt l j = X := by
  rw [List.getElem?_map] at h
  unfold dAt
  cases q : l[j]? with
  | none => rw [q] at h; cases h
  | some d => rw [q] at h; cases h; rfl
def signs (x : Str) : List D := x.cps.toList.map fun ch => .str ⟨#[ch]⟩
theorem signs_at {x : Str} {i : Nat} {v : Value} {ω : Om} (hi : i < x.cps.size) (h : SignAt x i v) : VR c n ω (dAt (signs x) i) v := by
  obtain ⟨ch, u, h1, rfl⟩ := h
  have : (signs x)[i]? = some (.str ⟨#[ch]⟩) := by
    unfold signs
    rw [List.getElem?_map, ← Array.getElem?_toList] at *
    rw [h1]; rfl
  unfold dAt
  rw [this]
  exact .d (.str _ _)
theorem signs_len (x : Str) : (signs x).length = x.cps.size := by unfold signs; simp
theorem evIt_str {x y : Str} {p : Pos} (hc : c.calm = true) (h1 : Ev c S n e σ (.d (.str x)) σ₁) : EvIt c S n e (.Name y p) [] σ ((signs x).map .d) σ₁ := fun f F ω s Q E R h => by
  refine h1 f F ω s _ _ R fun ω₁ v s₁ e₁ R₁ A₁ => ?_
  cases A₁ with
  | d A₁ =>
    cases A₁ with
    | str _ t =>
      have hlen : x.cps.size = ((signs x).map V.d).length := by rw [List.length_map, signs_len]
      refine wpAny_pyIter_strU ?_
      have go : ∀ T : String, strIterType x = T → Walks c.prog c.w f.A s₁.heap.objs.size [s₁.heap.objs.size] [s₁.heap.objs.size] x.cps.size (SignAt x) (fun i h => h.IsStrIter s₁.heap.objs.size T x t i) → Q (.ref s₁.heap.objs.size) { s₁ with heap := s₁.heap.push { cls := Value.type (strIterType x), data := Data.fields #[Value.str x t, Value.int 0 0] } } := by
        intro T eT W
        rw [hlen] at W
        rw [eT]
        refine h ω₁ _ _ [s₁.heap.objs.size] _ (dAt (signs x)) e₁ ⟨[(s₁.heap.objs.size, _)], rfl, RelE.pushKeep (k := s₁.toks) (by rfl) R₁⟩
          (itr_of (ω₀ := ω₁) W (fun i h ⟨o, q, _⟩ => ⟨o, q⟩) (fun i v s Q E _ hq => go_name hq) fun i v ω hω hi hP => signs_at (by rw [hlen]; exact hi) hP) (fun j X hj => dAt_map hj)
          ⟨⟨_, Heap.get?_push_size _ rfl, rfl, rfl⟩, fun _ _ z => z, fun b hb hI => absurd (List.mem_singleton.mp hb) hI⟩
      by_cases ha : x.cps.all (· < 128) = true
      · exact go "str_ascii_iterator" (by unfold strIterType; rw [if_pos ha]) (Walks.strAscii (F.hand hc) _ x t)
      · exact go "str_iterator" (by unfold strIterType; rw [if_neg ha]) (Walks.strWide (F.hand hc) _ x t)
end
end Mine
namespace Mine
open PySem PySem.W PyProof.Rows PySem.Calls PySem.Spec
section
variable {c : Cx} {S : Scope} {n : Nat} {σ σ' σ₁ σ₂ σ₃ σ₄ : St} {X Y Z W : V} {e l r t test target iter fn : Expr} {es : List Expr} {Xs : List V} {pos tpos : Pos} {st : Stmt} {sts : List Stmt} {fl fl' : Fl} {x : Str} {body orelse : List Stmt}
def numbered (i : Nat) : List D → List D
  | [] => []
  | d :: l => .tup [.int (i : Int), d] :: numbered (i + 1) l
theorem numbered_len (l : List D) (i : Nat) : (numbered i l).length = l.length := by
  induction l generalizing i with
  | nil => rfl
  | cons d l ih => simp [numbered, ih]
theorem numbered_get (l : List D) (i j : Nat) : (numbered i l)[j]? = (l[j]?).map fun d => .tup [.int ((i + j : Nat) : Int), d] := by
  induction l generalizing i j with
  | nil => simp [numbered]
  | cons d l ih =>
    cases j with
    | zero => simp [numbered]
    | succ j => simp only [numbered, List.getElem?_cons_succ, ih]; congr 1; funext d; congr 4; omega
theorem evIt_enum_list {l : List D} {k : Nat} (hc : c.calm = true) (h0 : Ev c S n fn σ (.val (.type "enumerate")) σ₁) (h1 : Ev c S n e σ₁ (.d (.lst l)) σ₂) (ha : notStar e = true := by rfl)
    (hcall : ∀ env, eval (.Call fn [e] [] pos) env = (do callWith pos (← eval fn env) [] (backTo pos (starEach [e] env)) (backToKw pos (keywordEach [] env))) := by intro _; rfl) :
    EvIt c S n (.Call fn [e] [] pos) (.Tuple es k tpos) [] σ ((numbered 0 l).map .d) σ₂ := fun f F ω s Q E R h => by
  refine Call_ (h0 f F ω s _ _ R fun ω₁ v s₁ e₁ R₁ A₁ => ?_) (hcall _)
  cases A₁
  refine callWith_type1 (spliced_more (h1 f F ω₁ s₁ _ _ R₁ fun ω₂ v s₂ e₂ R₂ A₂ => spliced_none ?_) (starEach_plain ha)) (starEach_plain ha) (anyBack rfl)
  cases A₂ with
  | d A₂ =>
    cases A₂ with
    | @lst a o vs kk _ hz hoc hod hds =>
      have ho := R₂.fz hz
      have hL : s₂.heap.IsList a vs.toArray := ⟨o, ho, hoc, kk, hod⟩
      have hlen : vs.toArray.size = ((numbered 0 l).map V.d).length := by rw [List.size_toArray, hds.length, List.length_map, numbered_len]
      refine call_enumerate_list hL fun h' he hli hsz hk => ?_
      refine wpAny_pyIter_enum he ?_
      have ha2 : a < s₂.heap.objs.size := Heap.lt_size ho
      have W := WalksT.enumerate (prog := c.prog) (w := c.w) (A := f.A) (F.hand hc) (s₂.heap.objs.size + 1) s₂.heap.objs.size a (Nat.succ_ne_self _) (Nat.ne_of_lt (Nat.lt_succ_of_lt ha2)) (Nat.ne_of_lt ha2) vs.toArray
      rw [hlen] at W
      obtain ⟨oit, hoit, hoit'⟩ := id hli
      have R₃ := RelE.fresh (kp := [(s₂.heap.objs.size + 1, _), (s₂.heap.objs.size, oit)]) (k := s₂.toks) R₂ hk (fun p hp => by
        rcases List.mem_cons.mp hp with rfl | hp
        · exact ⟨he, get_above_none (Nat.le_succ _)⟩
        · rw [List.mem_singleton.mp hp]; exact ⟨hoit, get_size_none _⟩) (by simp)
      refine h ω₂ _ _ [s₂.heap.objs.size + 1, s₂.heap.objs.size] _ (dAt (numbered 0 l)) (e₁.trans e₂) ⟨_, rfl, R₃⟩
        (itr_ofT (ω₀ := ω₂) W (fun i h ⟨⟨old, q⟩, ⟨o', q', _⟩, _⟩ b hb => ?_) fun i vals ω hω hi hP => ?_) (fun j X hj => dAt_map hj)
        ⟨⟨⟨_, he⟩, hli, hL.at fun o e => hk _ _ e⟩, fun _ _ z => z, fun b hb hI => ?_⟩
      · rcases List.mem_cons.mp hb with rfl | hb
        · exact ⟨_, q⟩
        · rw [List.mem_singleton.mp hb]; exact ⟨o', q'⟩
      · obtain ⟨t, x, hx, rfl⟩ := hP
        have hi' : i < l.length := by simpa [numbered_len] using hi
        obtain ⟨v', q1, q2⟩ := hds.get (i := i) (d := l[i]) (by simp [hi'])
        have : v' = x := by
          have hP' : vs[i]? = some x := by simpa using hx
          rw [hP'] at q1; exact (Option.some.inj q1).symm
        subst this
        refine ⟨[.int (i : Int), l[i]], ?_, .cons (.int _ _) (.cons (q2.mono hω) .nil)⟩
        unfold dAt
        rw [numbered_get, List.getElem?_eq_getElem hi']
        simp
      · have hb3 : b = a := by
          simp only [List.mem_cons, List.not_mem_nil, or_false, not_or] at hb hI
          rcases hb with h | h | h
          · exact absurd h hI.1
          · exact absurd h hI.2
          · exact h
        subst hb3
        exact ⟨o, .inl hz, hk _ _ ho⟩
end
end Mine
namespace Mine
open PySem PySem.W PyProof.Rows PySem.Calls PySem.Spec
theorem lookup_rev {l : List (Str × Value)} (h : (l.map (·.1)).Nodup) (x : Str) : l.reverse.lookup x = l.lookup x := by
  induction l with
  | nil => rfl
  | cons p l ih =>
    rw [List.map_cons, List.nodup_cons] at h
    rw [List.reverse_cons, List.lookup_append, ih h.2]
    obtain ⟨k, v⟩ := p
    rw [List.lookup_cons, List.lookup_cons]
    cases q : (x == k) with
    | false => simp
    | true =>
      have e : x = k := by simpa using q
      subst e
      have : l.lookup x = none := by
        rw [List.lookup_eq_none_iff]
        intro p hp
        simp only [beq_iff_eq, ne_eq, bne_iff_ne]
        intro e
        exact h.1 (List.mem_map.mpr ⟨p, hp, e.symm⟩)
      rw [this]; rfl
def loc0 : List Str → List V → List (Nat × V)
  | p :: ps, X :: Xs => (key p, X) :: loc0 ps Xs
  | _, _ => []
theorem loc0_at {c : Cx} {n : Nat} {ω : Om} {ps : List Str} {Xs : List V} {vs : List Value} (h : VRs c n ω Xs vs) (hl : ps.length = Xs.length) {x : Str} {X : V}
    (hk : ∀ p ∈ ps, key p = key x → p = x) (hx : lk (key x) (loc0 ps Xs) = some X) : ∃ v, (ps.zip vs).lookup x = some v ∧ VR c n ω X v := by
  induction ps generalizing Xs vs with
  | nil => cases Xs <;> cases hx
  | cons p ps ih =>
    cases h with
    | nil => cases hl
    | @cons Y v Ys ws a b =>
      unfold loc0 lk at hx
      rw [List.zip_cons_cons, List.lookup_cons]
      cases q : (key p == key x) with
      | true =>
        rw [q] at hx
        cases hx
        have e := hk p (.head _) (by simpa using q)
        subst e
        exact ⟨v, by simp, a⟩
      | false =>
        rw [q] at hx
        have ne : (x == p) = false := by
          cases z : (x == p) with
          | false => rfl
          | true => have : x = p := by simpa using z
                    subst this; simp at q
        rw [ne]
        exact ih b (by simpa using hl) (fun p hp => hk p (.tail _ hp)) hx
theorem HR.drop {κ : Str → Int} {Z : Fz} {ρ : Nat → Option Addr} {T H : List (Nat × HO)} {M : Led} (h : HR κ Z ρ (T ++ H) M) : ∃ M1 M2, M = M1 ++ M2 ∧ HR κ Z ρ H M2 := by
  induction T generalizing M with
  | nil => exact ⟨[], M, rfl, h⟩
  | cons p T ih =>
    cases h with
    | cons e q r =>
      obtain ⟨M1, M2, rfl, hr⟩ := ih r
      exact ⟨_ ++ M1, M2, (List.append_assoc ..).symm, hr⟩
section
variable {c : Cx} {S : Scope} {n : Nat} {σ σ' σ₁ σ₂ σ₃ σ₄ : St} {X Y Z W : V} {e l r t test target iter fn : Expr} {es : List Expr} {Xs : List V} {pos tpos : Pos} {st : Stmt} {sts : List Stmt} {fl fl' : Fl} {x : Str} {body orelse : List Stmt}
def Fm.sub (f : Fm) (env' : Env) (m : Str → Option Value) (Mc : Led) : Fm := { A := f.A.deeper env', env := env', fr := (f.env.locals, m) :: f.fr, keep := Mc ++ f.keep }
inductive Gives : Fl → D → Prop
  | ret {d : D} : Gives (.ret (.d d)) d
  | none : Gives .next .none
def KeysOk (S : Scope) : Prop := ∀ x y, isVar (S.names.lookup x) = true → isVar (S.names.lookup y) = true → key x = key y → x = y
theorem frames_sub {f : Fm} {S₀ : Scope} {m : Str → Option Value} {Mc : Led} {fd : FuncData} {L a : Addr} (F : FmOk c S₀ n f) (hk : fd.scope.kind = .function) :
    ∃ l, (f.sub (callEnv fd L a) m Mc).A.frames = some l ∧ (∀ env ∈ l, env.scope.kind ≠ .module ∧ ∃ L', env.frame = some L' ∧ (L' = (f.sub (callEnv fd L a) m Mc).env.locals ∨ ∃ m', (L', m') ∈ (f.sub (callEnv fd L a) m Mc).fr)) ∧
      (fd.scope.names.lookup dot0 = none → (∃ l', l = (f.sub (callEnv fd L a) m Mc).env :: l') ∧ (f.sub (callEnv fd L a) m Mc).env.frame = some (f.sub (callEnv fd L a) m Mc).env.locals) := by
  obtain ⟨l, h1, h2, _⟩ := F.frames
  refine ⟨callEnv fd L a :: l, ?_, fun env he => ?_, fun _ => ⟨⟨l, rfl⟩, rfl⟩⟩
  · show f.A.frames.map (callEnv fd L a :: ·) = _
    rw [h1]; rfl
  · rcases List.mem_cons.mp he with rfl | he
    · exact ⟨by show fd.scope.kind ≠ .module; rw [hk]; decide, L, rfl, .inl rfl⟩
    · obtain ⟨a1, L', a2, a3⟩ := h2 env he
      refine ⟨a1, L', a2, .inr ?_⟩
      rcases a3 with rfl | ⟨m', a3⟩
      · exact ⟨m, .head _⟩
      · exact ⟨m', .tail _ a3⟩
def FnN (c : Cx) (n : Nat) (a : Addr) (Xs : List V) (σ : St) (Z : V) (σ' : St) : Prop :=
  ∀ S f, FmOk c S n f → ∀ ω s R vs, RelE c n f ω σ s → VRs c n ω Xs vs →
    (∀ ω' v s', Ext (n + 1) ω ω' → RelE c n f ω' σ' s' → VR c n ω' Z v → R (.ok (.ret v)) s') → codeAny (model c.prog c.w) f.A (.call (.ref a) ⟨vs, []⟩) R s
theorem opn_fn {a : Addr} (h : FnN c n a Xs σ Z σ') : OpN c n (fun vs => call (.ref a) vs) Xs σ Z σ' := fun S f F ω s Q E vs R A h' =>
  wpAny_call (h S f F ω s _ vs R A fun ω' v s' e R' B => h' ω' v s' e R' B)
theorem fn_call {a : Addr} {oc : Value} {od : Option Addr} {osl : Array (Option Value)} {fd : FuncData} {ps : List Str} {d : D} {H T : List (Nat × HO)} {loc : List (Nat × V)}
    (hC : CxOk c) (hn : n ≤ 100) (ho : c.K.lookup a = some ⟨oc, od, .func fd, osl⟩) (hcd : codeIn c.K fd.code fd.qualname = true)
    (h1 : fd.scope = S) (h2 : fd.body = .stmts body) (h3 : fd.globals = mainGlobals) (h4 : fd.builtins = builtinsNs) (h5 : fd.closure = [])
    (hbind : ∀ vs : List Value, vs.length = ps.length → bindArgs fd ⟨vs, []⟩ = pure (ps.zip vs)) (hlen : ps.length = Xs.length) (hps : ps.Nodup)
    (hloc : ∀ x ∈ ps, S.names.lookup x = some .local) (hcell : ∀ x ∈ S.names, x.2 ≠ .cell) (hfree : ∀ x, S.names.lookup x ≠ some .cell) (hkey : KeysOk S)
    (hbody : Exs c S (n + 1) body ⟨loc0 ps Xs, σ.heap⟩ fl ⟨loc, T ++ H⟩) (hg : Gives fl d)
    (hco : S.isCoroutine = false := by rfl) (hgen : S.isGenerator = false := by rfl) (hk : S.kind = .function := by rfl) : FnN c n a Xs σ (.d d) ⟨σ.loc, H⟩ := fun S₀ f F ω s Q vs R A h => by
  subst h1
  obtain ⟨m, Mc, Mh, FR, r⟩ := R
  have hvl : vs.length = ps.length := by
    rw [hlen]
    clear hbody hlen
    induction A with
    | nil => rfl
    | cons _ _ ih => simp [ih]
  refine (codeAny_call_def (fd := fd) (body := body) (binds := ps.zip vs) ?_ (r.fr.keep _ _ (hC.kin _ _ ho)) rfl (hC.nolimit.keeps r.fr.keep) (codeRec_of (hC.kin.keeps r.fr.keep) hcd) h2 (.of_eq (hbind vs hvl)) hcell ?_ (fun h₀ hns hk₀ => ?_) hco hgen hk)
  · have := F.depth
    show f.A.depth < 1000
    omega
  · intro x hx
    obtain ⟨p, v⟩ := x
    exact hloc p (List.of_mem_zip hx).1
  · have hkL : (ps.zip vs).map (·.1) = ps := by rw [List.map_fst_zip]; omega
    have hns' : h₀.Ns s.heap.objs.size (fun x => (ps.zip vs).lookup x) := by
      have : (fun x => (ps.zip vs).reverse.lookup x) = fun x => (ps.zip vs).lookup x := by funext x; exact lookup_rev (by rw [hkL]; exact hps) x
      rwa [this] at hns
    obtain ⟨oL, es, ep, hL, hLd, hLs, hLf⟩ := r.fr.ns
    let env' := callEnv fd s.heap.objs.size a
    let f' := f.sub env' m Mc
    have scope' : f'.env.scope = fd.scope := rfl
    have hcl : f'.env.cells = [] := h5
    have F' : FmOk c fd.scope (n + 1) f' := by
      refine ⟨rfl, hk, h3, h4, ?_, ?_, F.guards, ?_, F.hand, fun x hx => absurd hx (hfree x), fun x b _ hb => ?_, hkey⟩
      · have := F.depth; show f.A.depth + 1 ≤ _; omega
      · have := F.units; show f.A.units + 3 ≤ _; omega
      · exact frames_sub F hk
      · rw [hcl] at hb; cases hb
    have old := r.lt
    have perm : (([] : Led) ++ (Mh ++ (ω.Z ++ (((f.env.locals, oL) :: FR) ++ (Mc ++ f.keep))))).Perm ((f.env.locals, oL) :: (Mc ++ (Mh ++ (ω.Z ++ (FR ++ f.keep))))) := by
      have e1 : ([] : Led) ++ (Mh ++ (ω.Z ++ (((f.env.locals, oL) :: FR) ++ (Mc ++ f.keep)))) = (Mh ++ ω.Z) ++ ((f.env.locals, oL) :: (FR ++ (Mc ++ f.keep))) := by simp only [List.append_assoc, List.nil_append, List.cons_append]
      rw [e1]
      refine List.perm_middle.trans (.cons _ ?_)
      have e2 : (Mh ++ ω.Z) ++ (FR ++ (Mc ++ f.keep)) = (Mh ++ (ω.Z ++ FR)) ++ (Mc ++ f.keep) := by simp only [List.append_assoc]
      have e3 : Mc ++ (Mh ++ (ω.Z ++ (FR ++ f.keep))) = Mc ++ ((Mh ++ (ω.Z ++ FR)) ++ f.keep) := by simp only [List.append_assoc]
      rw [e2, e3]
      exact List.perm_append_comm_assoc ..
    have R' : RelE c (n + 1) f' ω ⟨loc0 ps Xs, σ.heap⟩ { s with heap := h₀, toks := s.toks + (ps.zip vs).length } := by
      refine ⟨_, [], Mh, (f.env.locals, oL) :: FR, ⟨⟨hns', fun b o e => hk₀ b o (r.fr.keep b o e), Nat.le_of_lt (Nat.lt_of_le_of_lt r.fr.above r.fr.ns.lt)⟩, fun p hp => ?_, ?_, .cons hLd hLs hLf r.frs, fun x b hb _ => absurd hb (hfree x), fun x y b hb => absurd hb (hfree x), r.heap, fun x X hv hx => ?_, r.gens, r.drawn, r.os⟩⟩
      · rcases List.mem_cons.mp (perm.subset hp) with rfl | h
        · refine ⟨hk₀ _ _ hL, Nat.ne_of_lt (Heap.lt_size hL), ?_⟩
          cases q : c.base.get? f.env.locals with
          | none => rfl
          | some o => exact absurd (Nat.lt_of_lt_of_le (Heap.lt_size q) r.fr.above) (Nat.lt_irrefl _)
        · have z := r.nw p h
          exact ⟨hk₀ _ _ z.1, Nat.ne_of_lt (old p h), z.2.2⟩
      · show ((([] : Led) ++ (Mh ++ (ω.Z ++ (((f.env.locals, oL) :: FR) ++ (Mc ++ f.keep))))).map (·.1)).Nodup
        rw [(perm.map (·.1)).nodup_iff, List.map_cons, List.nodup_cons]
        refine ⟨fun hm => ?_, r.nd⟩
        obtain ⟨p, hp, e⟩ := List.mem_map.mp hm
        exact (r.nw p hp).2.1 e
      · have hin : ∀ p ∈ ps, key p = key x → p = x := fun p hp e => hkey p x (by rw [hloc p hp]; rfl) hv e
        obtain ⟨v, h1, h2⟩ := loc0_at A hlen hin hx
        refine .loc ?_ h1 (h2.up (Nat.le_succ n))
        have : x ∈ ps := by
          have z := List.of_mem_zip (a := x) (b := v) (l₁ := ps) (l₂ := vs) ?_
          · exact z.1
          · obtain ⟨l₁, l₂, e, _⟩ := List.lookup_eq_some_iff.mp h1
            rw [e]; simp
        exact hloc x this
    refine hbody f' F' ω _ _ _ R' fun ω' G s' e' R₂ q => ?_
    have fin : RelE c n f ω' ⟨σ.loc, H⟩ s' := by
      obtain ⟨m', Mc', Mh', FR', r'⟩ := R₂
      obtain ⟨M1, M2, hM, hH⟩ := r'.heap.drop
      have fr0 := r'.frs
      cases fr0 with
      | @cons _ _ o' es' ep' _ FR'' d1 d2 d3 d4 =>
        have N' := r'.nw
        have inn : ∀ p ∈ Mc ++ (M2 ++ (ω'.Z ++ (FR'' ++ f.keep))), p ∈ Mc' ++ (Mh' ++ (ω'.Z ++ (((f.env.locals, o') :: FR'') ++ (Mc ++ f.keep)))) := fun p hp => by
          simp only [List.mem_append, List.mem_cons, hM] at hp ⊢
          rcases hp with h | h | h | h | h
          · exact .inr (.inr (.inr (.inr (.inl h))))
          · exact .inr (.inl (.inr h))
          · exact .inr (.inr (.inl h))
          · exact .inr (.inr (.inr (.inl (.inr h))))
          · exact .inr (.inr (.inr (.inr (.inr h))))
        have hLo : s'.heap.get? f.env.locals = some o' := (N' (f.env.locals, o') (List.mem_append_right _ (List.mem_append_right _ (List.mem_append_right _ (List.mem_append_left _ (.head _)))))).1
        have nd' : ((Mc' ++ (Mh' ++ (ω'.Z ++ (((f.env.locals, o') :: FR'') ++ (Mc ++ f.keep))))).map (·.1)).Nodup := r'.nd
        have nd2 : (((f.env.locals, o') :: (Mc ++ (M2 ++ (ω'.Z ++ (FR'' ++ f.keep))))).map (·.1)).Nodup := by
          have sub : List.Sublist (M2 ++ (ω'.Z ++ (((f.env.locals, o') :: FR'') ++ (Mc ++ f.keep)))) (Mc' ++ (Mh' ++ (ω'.Z ++ (((f.env.locals, o') :: FR'') ++ (Mc ++ f.keep))))) := by
            rw [hM, List.append_assoc]
            exact (List.sublist_append_right ..).trans (List.sublist_append_right ..)
          have nd3 := nd'.sublist (sub.map (·.1))
          have perm2 : (M2 ++ (ω'.Z ++ (((f.env.locals, o') :: FR'') ++ (Mc ++ f.keep)))).Perm ((f.env.locals, o') :: (Mc ++ (M2 ++ (ω'.Z ++ (FR'' ++ f.keep))))) := by
            have e1 : M2 ++ (ω'.Z ++ (((f.env.locals, o') :: FR'') ++ (Mc ++ f.keep))) = (M2 ++ ω'.Z) ++ ((f.env.locals, o') :: (FR'' ++ (Mc ++ f.keep))) := by simp only [List.append_assoc, List.cons_append]
            rw [e1]
            refine List.perm_middle.trans (.cons _ ?_)
            have e2 : (M2 ++ ω'.Z) ++ (FR'' ++ (Mc ++ f.keep)) = (M2 ++ (ω'.Z ++ FR'')) ++ (Mc ++ f.keep) := by simp only [List.append_assoc]
            have e3 : Mc ++ (M2 ++ (ω'.Z ++ (FR'' ++ f.keep))) = Mc ++ ((M2 ++ (ω'.Z ++ FR'')) ++ f.keep) := by simp only [List.append_assoc]
            rw [e2, e3]
            exact List.perm_append_comm_assoc ..
          exact ((perm2.map (·.1)).nodup_iff).mp nd3
        rw [List.map_cons, List.nodup_cons] at nd2
        refine ⟨m, Mc, M2, FR'', ⟨⟨⟨o', es', ep', hLo, d1, d2, d3⟩, r'.fr.keep, r.fr.above⟩, fun p hp => ?_, nd2.2, d4, r.cells, r.cinj, hH, fun x X hv hx => ?_, r'.gens, r'.drawn, r'.os⟩⟩
        · have z := N' p (inn p hp)
          exact ⟨z.1, fun e => nd2.1 (e ▸ List.mem_map.mpr ⟨p, hp, rfl⟩), z.2.2⟩
        · exact (r.locs x X hv hx).ext e'
    cases hg with
    | ret => cases q with | ret q => exact h ω' _ s' e' fin (by cases q with | d q => exact .d q)
    | none => cases q; exact h ω' _ s' e' fin (.d .none)
end
end Mine
namespace Mine
open PySem PySem.W PyProof.Rows PySem.Calls PySem.Spec
structure AttrOk (K : Frag) (C : Addr) (name : Str) : Prop where
  get : plainGet K C name = true
  has : hasDictIn K C = true
  cls : ∃ attr, findIn K (.ref C) name = some attr ∧ noGet K attr = true
structure SetOk (K : Frag) (C : Addr) (name : Str) : Prop where
  set : findIn K (.ref C) "__setattr__" = some (some (.builtin "object.__setattr__"))
  over : plainOver K C = true
  taker : takerIn K C name = some none
  has : hasDictIn K C = true
structure MethOk (K : Frag) (C : Addr) (name : Str) (g : Addr) : Prop where
  get : plainGet K C name = true
  find : findIn K (.ref C) name = some (some (.ref g))
  fn : isFn K (.ref g) = true
structure NewOk (K : Frag) (C g : Addr) : Prop where
  makes : makesIn K C = true
  init : findIn K (.ref C) "__init__" = some (some (.ref g))
  fn : isFn K (.ref g) = true
  keep : keepIn K (.ref C) = true
section
variable {c : Cx} {S : Scope} {n : Nat} {σ σ' σ₁ σ₂ σ₃ σ₄ : St} {X Y Z : V} {e l r t test target iter fn : Expr} {es : List Expr} {Xs : List V} {pos tpos apos : Pos} {st : Stmt} {sts : List Stmt} {fl fl' : Fl} {x : Str} {body orelse : List Stmt} {C : Addr} {as : List (Str × D)} {i : Nat} {name : Str} {d : D}
theorem inst_at {f : Fm} {ω : Om} {s : Shared} {m : Str → Option Value} {Mc Mh FR : Led} {a : Addr} (r : Rel c n f ω σ s m Mc Mh FR) (hi : lk i σ.heap = some (.inst C as)) (ha : ω.ρ i = some a) :
    ∃ dx es k M1 M2, Mh = M1 ++ ([(a, instObj C dx), (dx, dictOf es k)] ++ M2) ∧ DRd c.hs (fz c ω) as es ∧ W.InstAt s.heap a (instObj C dx) C (some (dictOf es k)) ∧ ∀ o' m', HOR c.hs (fz c ω) o' a m' → HR c.hs (fz c ω) ω.ρ (setH i o' σ.heap) (M1 ++ (m' ++ M2)) := by
  obtain ⟨M1, m1, M2, a', e, h1, h2, h3⟩ := r.heap.split hi
  have : a' = a := Option.some.inj (h1.symm.trans ha)
  subst this
  cases h2 with
  | @inst _ dx _ _ es k hd =>
    refine ⟨dx, es, k, M1, M2, e, hd, ?_, h3⟩
    have in1 : (a', instObj C dx) ∈ Mc ++ (Mh ++ (ω.Z ++ (FR ++ f.keep))) := by rw [e]; simp
    have in2 : (dx, dictOf es k) ∈ Mc ++ (Mh ++ (ω.Z ++ (FR ++ f.keep))) := by rw [e]; simp
    exact ⟨(r.nw _ in1).1, rfl, rfl, (r.nw _ in2).1⟩
theorem ev_attr {y : Str} {p : Pos} (hC : CxOk c) (hk : AttrOk c.K C name) (h1 : Ev c S n (.Name y p) σ (.obj i) σ₁) (hi : lk i σ₁.heap = some (.inst C as)) (hd : getD? name as = some d) : Ev c S n (.Attribute (.Name y p) name pos) σ (.d d) σ₁ := fun f F ω s Q E R h => by
  refine Attribute_Name_ (h1 f F ω s _ _ R fun ω₁ v s₁ e₁ R₁ A₁ => ?_)
  cases A₁ with
  | obj hb ha =>
    obtain ⟨m, Mc, Mh, FR, r⟩ := id R₁
    obtain ⟨dx, es, k, M1, M2, _, q, I, _⟩ := inst_at r hi ha
    obtain ⟨v, hv, dv⟩ := (q.getL name).1 d hd
    obtain ⟨attr, g1, g2⟩ := hk.cls
    exact get_own r.fr hC.kin I hk.get hk.has g1 g2 hv dv.handed (h ω₁ v _ e₁ R₁.toks (.d dv))
theorem getm_inst {g : Addr} (hC : CxOk c) (hk : MethOk c.K C name g) (hi : lk i σ.heap = some (.inst C as)) (hd : getD? name as = none) : GetM c n (.obj i) name σ (.ref g) := fun S f F ω s Q E x pl R A h => by
  cases A with
  | obj hb ha =>
    obtain ⟨m, Mc, Mh, FR, r⟩ := id R
    obtain ⟨dx, es, k, M1, M2, _, q, I, _⟩ := inst_at r hi ha
    exact method_inst r.fr hC.kin I hk.get hk.find hk.fn ((q.getL name).2 hd) h
theorem upd_of {d : Addr} {o o' : Obj} {pre post : Led} (h1 : ∀ p ∈ pre, p.1 ≠ d) (h2 : ∀ p ∈ post, p.1 ≠ d) : W.Upd d o o' (pre ++ (d, o) :: post) (pre ++ (d, o') :: post) := by
  induction pre with
  | nil => exact .head h2
  | cons p pre ih => exact .tail (h1 p (.head _)) (ih fun q hq => h1 q (.tail _ hq))
theorem off_pre {d : Addr} {o : Obj} {pre post : Led} (h : ((pre ++ (d, o) :: post).map (·.1)).Nodup) : (∀ p ∈ pre, p.1 ≠ d) ∧ ∀ p ∈ post, p.1 ≠ d := by
  rw [List.map_append, List.map_cons] at h
  have z := List.nodup_append.mp h
  refine ⟨fun p hp e => z.2.2 p.1 (List.mem_map.mpr ⟨p, hp, rfl⟩) d (.head _) e, fun p hp e => ?_⟩
  exact (List.nodup_cons.mp z.2.1).1 (e ▸ List.mem_map.mpr ⟨p, hp, rfl⟩)
theorem len_putL {nm : Str} {hs : Int} {kv v : Value} {es : List DictEntry} : (W.putL nm hs kv v es).length ≤ es.length + 1 := by
  induction es with
  | nil => simp [W.putL]
  | cons e es ih => unfold W.putL; split <;> simp_all <;> omega
theorem Rel.swap {f : Fm} {ω : Om} {s : Shared} {m : Str → Option Value} {Mc Mh FR pre post : Led} {H' : List (Nat × HO)} {Mh' : Led} {h' : Heap} {tk : Tok} {a : Addr} {o o' : Obj} (r : Rel c n f ω σ s m Mc Mh FR)
    (hM : Mh = pre ++ (a, o) :: post) (hM' : Mh' = pre ++ (a, o') :: post) (F' : Fr c.base f.env.locals h' m) (N' : News c.base f.env.locals h' (Mc ++ (Mh' ++ (ω.Z ++ (FR ++ f.keep))))) (hH : HR c.hs (fz c ω) ω.ρ H' Mh') :
    Rel c n f ω { σ with heap := H' } { s with heap := h', toks := tk } m Mc Mh' FR := by
  refine ⟨F', N', ?_, r.frs, r.cells, r.cinj, hH, r.locs, r.gens, r.drawn, r.os⟩
  have e : (Mc ++ (Mh' ++ (ω.Z ++ (FR ++ f.keep)))).map (·.1) = (Mc ++ (Mh ++ (ω.Z ++ (FR ++ f.keep)))).map (·.1) := by
    rw [hM, hM']; simp only [List.map_append, List.map_cons]
  rw [e]; exact r.nd
theorem set_attr {f : Fm} {ω : Om} {s : Shared} {Q : Unit → Shared → Prop} {E : Value → Shared → Prop} {v : Value} {a : Addr} (F : FmOk c S n f) (hC : CxOk c) (hk : SetOk c.K C name) (R : RelE c n f ω σ s) (hi : lk i σ.heap = some (.inst C as)) (ha : ω.ρ i = some a) (hl : as.length ≤ 900)
    (A : DR c.hs (fz c ω) d v) (h : ∀ s', RelE c n f ω { σ with heap := setH i (.inst C (putD' name d as)) σ.heap } s' → Q () s') : wpAny (model c.prog c.w) f.A (setAttr (.ref a) name v) Q E s := by
  obtain ⟨m, Mc, Mh, FR, r⟩ := R
  obtain ⟨dx, es, k, M1, M2, e, q, I, hset⟩ := inst_at r hi ha
  have eL : Mc ++ (Mh ++ (ω.Z ++ (FR ++ f.keep))) = (Mc ++ (M1 ++ [(a, instObj C dx)])) ++ (dx, dictOf es k) :: (M2 ++ (ω.Z ++ (FR ++ f.keep))) := by rw [e]; simp only [List.append_assoc, List.cons_append, List.nil_append]
  obtain ⟨o1, o2⟩ := off_pre (eL ▸ r.nd)
  have hsome : (W.getL name es).isSome = true := by
    obtain ⟨g1, g2⟩ := q.getL name
    cases z : getD? name as with
    | none => rw [g2 z]; rfl
    | some d' => obtain ⟨v', hv', _⟩ := g1 d' z; rw [hv']; rfl
  have q' := q.putL name (s.toks + 1) A
  refine set_dict r.fr hC.kin (eL ▸ r.nw) I rfl hk.set hk.over hk.taker hk.has hsome rfl (upd_of o1 o2) ?_ fun h' F' N' => ?_
  · have := len_putL (nm := name) (hs := PyData.keyHash c.w.params name) (kv := .str name (s.toks + 1)) (v := v) (es := es)
    rw [q.length] at this; omega
  · have eL' : (Mc ++ (M1 ++ [(a, instObj C dx)])) ++ (dx, dictOf (W.putL name (PyData.keyHash c.w.params name) (.str name (s.toks + 1)) v es) (putN name es k)) :: (M2 ++ (ω.Z ++ (FR ++ f.keep))) =
        Mc ++ ((M1 ++ ([(a, instObj C dx), (dx, dictOf (W.putL name (PyData.keyHash c.w.params name) (.str name (s.toks + 1)) v es) (putN name es k))] ++ M2)) ++ (ω.Z ++ (FR ++ f.keep))) := by simp only [List.append_assoc, List.cons_append, List.nil_append]
    rw [eL'] at N'
    refine h _ ⟨m, Mc, _, FR, r.swap (tk := s.toks + 2) (a := dx) (o := dictOf es k) (o' := dictOf (W.putL name (PyData.keyHash c.w.params name) (.str name (s.toks + 1)) v es) (putN name es k)) (pre := M1 ++ [(a, instObj C dx)]) (post := M2) ?_ ?_ F' N' (hset _ _ (.inst q'))⟩
    · rw [e]; simp only [List.append_assoc, List.cons_append, List.nil_append]
    · simp only [List.append_assoc, List.cons_append, List.nil_append]
theorem ex_setattr {o : Expr} (hC : CxOk c) (hk : SetOk c.K C name) (h1 : Ev c S n e σ (.d d) σ₁) (h2 : Ev c S n o σ₁ (.obj i) σ₂) (hi : lk i σ₂.heap = some (.inst C as)) (hl : as.length ≤ 900) (hn : noComp e = true := by rfl) :
    Ex c S n (.Assign [.Attribute o name tpos] e pos) σ .next { σ₂ with heap := setH i (.inst C (putD' name d as)) σ₂.heap } := fun f F ω s Q E R h =>
  plainObj_wpAny_Assign_Attribute (h1 f F ω s _ _ R fun ω₁ v s₁ e₁ R₁ A₁ => h2 f F ω₁ s₁ _ _ R₁ fun ω₂ u s₂ e₂ R₂ A₂ => by
    have A₁' := A₁.ext e₂
    cases A₁' with
    | d A₁' =>
      cases A₂ with
      | obj hb ha => exact set_attr F hC hk R₂ hi ha hl A₁' fun s₃ R₃ => h ω₂ .next s₃ (e₁.down.trans e₂.down) R₃ .next) (swaps_no hn)
theorem ex_augattr {y : Str} {p : Pos} {op : Operator} {d' d'' : D} (hC : CxOk c) (hg : AttrOk c.K C name) (hk : SetOk c.K C name) (h1 : Ev c S n (.Name y p) σ (.obj i) σ₁) (hi : lk i σ₁.heap = some (.inst C as)) (hd : getD? name as = some d)
    (h2 : Ev c S n e σ₁ (.d d') σ₂) (h3 : Op2 c n (inplaceOp op) (.d d) (.d d') σ₂ (.d d'') σ₃) {as' : List (Str × D)} (hi3 : lk i σ₃.heap = some (.inst C as')) (hl : as'.length ≤ 900) :
    Ex c S n (.AugAssign (.Attribute (.Name y p) name tpos) op e pos) σ .next { σ₃ with heap := setH i (.inst C (putD' name d'' as')) σ₃.heap } := fun f F ω s Q E R h => by
  refine wpAny_AugAssign_AttributeAny (h1 f F ω s _ _ R fun ω₁ v s₁ e₁ R₁ A₁ => ?_)
  cases A₁ with
  | @obj _ a hb ha =>
    obtain ⟨m, Mc, Mh, FR, r⟩ := id R₁
    obtain ⟨dx, es, k, M1, M2, _, q, I, _⟩ := inst_at r hi ha
    obtain ⟨v, hv, dv⟩ := (q.getL name).1 d hd
    obtain ⟨attr, g1, g2⟩ := hg.cls
    refine get_own r.fr hC.kin I hg.get hg.has g1 g2 hv dv.handed ?_
    refine h2 f F ω₁ _ _ _ (RelE.toks (k := s₁.toks + 1) R₁) fun ω₂ u s₂ e₂ R₂ A₂ => h3 S f F ω₂ s₂ _ _ v u R₂ ((VR.d dv).ext e₂) A₂ fun ω₃ z s₃ e₃ R₃ A₃ => ?_
    have ha3 : ω₃.ρ i = some a := (e₃.ρ i hb).trans ((e₂.ρ i hb).trans ha)
    cases A₃ with
    | d A₃ => exact set_attr F hC hk R₃ hi3 ha3 hl A₃ fun s₄ R₄ => h ω₃ .next s₄ (e₁.down.trans (e₂.down.trans e₃.down)) R₄ .next
def V.ok (n : Nat) : V → Prop
  | .obj i => i < (n + 1) * 1000
  | .meth i _ => i < (n + 1) * 1000
  | _ => True
def V.avoids (i : Nat) : V → Bool
  | .obj k => !(k == i)
  | .meth k _ => !(k == i)
  | _ => true
theorem VR.isOk {ω : Om} {v : Value} (h : VR c n ω X v) : X.ok n := by cases h <;> first | assumption | trivial
theorem VR.down {k : Nat} {ω : Om} {v : Value} (h : VR c k ω X v) (hx : X.ok n) : VR c n ω X v := by
  cases h with
  | d q => exact .d q
  | obj _ q => exact .obj hx q
  | val => exact .val _
  | meth _ q r => exact .meth hx q r
  | exn h1 h2 h3 h4 h5 h6 => exact .exn h1 h2 h3 h4 h5 h6
def Om.put (ω : Om) (i : Nat) (a : Addr) : Om := { ω with ρ := fun k => if k = i then some a else ω.ρ k }
theorem Om.put_self {ω : Om} {i : Nat} {a : Addr} : (ω.put i a).ρ i = some a := by show (if i = i then some a else ω.ρ i) = some a; rw [if_pos rfl]
theorem VR.put {ω : Om} {v : Value} {i : Nat} {a : Addr} (h : VR c n ω X v) (hx : X.avoids i = true) : VR c n (ω.put i a) X v := by
  cases h with
  | d q => exact .d q
  | @obj k b hb q =>
    have : k ≠ i := by simpa [V.avoids] using hx
    exact .obj hb (by show (if k = i then _ else _) = _; rw [if_neg this]; exact q)
  | val => exact .val _
  | @meth k g q' b hb q r =>
    have : k ≠ i := by simpa [V.avoids] using hx
    exact .meth hb (by show (if k = i then _ else _) = _; rw [if_neg this]; exact q) r
  | exn h1 h2 h3 h4 h5 h6 => exact .exn h1 h2 h3 h4 h5 h6
theorem HR.put {κ : Str → Int} {Z : Fz} {ρ : Nat → Option Addr} {H : List (Nat × HO)} {M : Led} {i : Nat} {a : Addr} (h : HR κ Z ρ H M) (hi : lk i H = none) : HR κ Z (fun k => if k = i then some a else ρ k) H M := by
  induction h with
  | nil => exact .nil
  | @cons k o b m M H e q r ih =>
    unfold lk at hi
    cases z : (k == i) with
    | true => rw [z] at hi; cases hi
    | false =>
      rw [z] at hi
      have : k ≠ i := by simpa using z
      exact .cons (by rw [if_neg this]; exact e) q (ih hi)
theorem VRs.put {ω : Om} {Xs : List V} {vs : List Value} {i : Nat} {a : Addr} (h : VRs c n ω Xs vs) (hx : ∀ X ∈ Xs, X.avoids i = true) : VRs c (n + 1) (ω.put i a) Xs vs := by
  induction h with
  | nil => exact .nil
  | cons q _ ih => exact .cons ((q.put (hx _ (.head _))).up (Nat.le_succ n)) (ih fun X hX => hx X (.tail _ hX))
theorem ex_new {g : Addr} {H : List (Nat × HO)} {fnp : Str} {fp : Pos} {loc : List (Nat × V)} (hC : CxOk c) (hk : NewOk c.K C g) (hv : isOwnVar (S.names.lookup x) = true)
    (h0 : Ev c S n (.Name fnp fp) σ (.val (.ref C)) σ) (h1 : Evs c S n (e :: es) σ Xs σ₁) (hi1 : n * 1000 ≤ i) (hi2 : i < (n + 1) * 1000) (hfree : lk i σ₁.heap = none) (hav : ∀ k X, lk k σ₁.loc = some X → X.avoids i = true) (hXs : ∀ X ∈ Xs, X.avoids i = true)
    (h2 : FnN c (n + 1) g (.obj i :: Xs) ⟨σ₁.loc, (i, .inst C []) :: σ₁.heap⟩ (.d .none) ⟨σ₁.loc, H⟩) (ha : notStar e = true := by rfl) (hs : es.all notStar = true := by rfl)
    (hc : ∀ env, eval (.Call (.Name fnp fp) (e :: es) [] pos) env = (do callWith pos (← eval (.Name fnp fp) env) [] (backTo pos (starEach (e :: es) env)) (backToKw pos (keywordEach [] env))) := by intro _; rfl) :
    Ex c S n (.Assign [.Name x tpos] (.Call (.Name fnp fp) (e :: es) [] pos) apos) σ .next (St.set ⟨σ₁.loc, H⟩ x (.obj i)) := fun f F ω s Q E R h => by
  refine wpAny_Assign_Name (Call_ (h0 f F ω s _ _ R fun ω₁ v s₁ e₁ R₁ A₁ => ?_) (hc _)) (swaps_no rfl)
  cases A₁
  refine callWith_K (hC.kin.keeps R₁.keep) hk.keep (h1 pos f F ω₁ s₁ _ _ R₁ fun ω₂ vs s₂ e₂ R₂ B => ⟨hC.kin.keeps R₂.keep, ?_⟩) (starEach_plain ha) (anyBack hs)
  obtain ⟨m, Mc, Mh, FR, r⟩ := id R₂
  refine call_cls r.fr hC.kin r.nw hk.makes hk.init hk.fn fun xa dx h' F' N' l1 l2 => ?_
  let A' : Around := f.A.under (.builtin "type.__call__" ⟨.ref C :: ([] ++ vs), []⟩)
  let f' : Fm := { f with A := A' }
  have hw : (Code.builtin "type.__call__" ⟨.ref C :: ([] ++ vs), []⟩).weight = 1 := by kernel_rfl
  have hu : (Code.builtin "type.__call__" ⟨.ref C :: ([] ++ vs), []⟩).cUnits ≤ 5 := by
    have : (Code.builtin "type.__call__" ⟨.ref C :: ([] ++ vs), []⟩).cUnits = 1 := by kernel_rfl
    omega
  have hA : A'.depth = f.A.depth + 1 ∧ A'.units ≤ f.A.units + 5 ∧ A'.handled = f.A.handled := by
    refine ⟨?_, ?_, rfl⟩
    · show f.A.depth + (Code.builtin "type.__call__" ⟨.ref C :: ([] ++ vs), []⟩).weight = _
      rw [hw]
    · show f.A.units + (Code.builtin "type.__call__" ⟨.ref C :: ([] ++ vs), []⟩).cUnits ≤ _
      omega
  have hFr : ∃ l, f'.A.frames = some l ∧ (∀ env ∈ l, env.scope.kind ≠ .module ∧ ∃ L, env.frame = some L ∧ (L = f'.env.locals ∨ ∃ m, (L, m) ∈ f'.fr)) ∧ (S.names.lookup dot0 = none → (∃ l', l = f'.env :: l') ∧ f'.env.frame = some f'.env.locals) := by
    obtain ⟨l, h1, h2, h3⟩ := F.frames
    refine ⟨l, ?_, h2, h3⟩
    show pushEnvs (Code.envs (.builtin "type.__call__" ⟨.ref C :: ([] ++ vs), []⟩)) f.A.frames = _
    rw [h1, show Code.envs (.builtin "type.__call__" ⟨.ref C :: ([] ++ vs), []⟩) = [] by kernel_rfl]
    rfl
  have hG : A'.guards = some [] := by
    show pushGuards (Code.guards (.builtin "type.__call__" ⟨.ref C :: ([] ++ vs), []⟩)) f.A.guards = some []
    rw [F.guards, show Code.guards (.builtin "type.__call__" ⟨.ref C :: ([] ++ vs), []⟩) = [] by kernel_rfl]
    rfl
  have FF : FmOk c S (n + 1) f' := ⟨F.scope, F.kind, F.globals, F.builtins, by have := F.depth; show A'.depth ≤ _; omega, by have := F.units; show A'.units ≤ _; omega, hG, hFr, F.hand, F.cellsOk, F.freeOk, F.keys⟩
  let ω₃ : Om := ω₂.put i xa
  have X3 : Ext n ω₂ ω₃ := ⟨fun k hk => by show (if k = i then _ else _) = _; rw [if_neg (by omega)], [], rfl⟩
  have perm : (Mc ++ (([(xa, instObj C dx), (dx, dictOf [] 0)] ++ Mh) ++ (ω₂.Z ++ (FR ++ f.keep)))).Perm ((xa, instObj C dx) :: (dx, dictOf [] 0) :: (Mc ++ (Mh ++ (ω₂.Z ++ (FR ++ f.keep))))) := by
    have e1 : Mc ++ (([(xa, instObj C dx), (dx, dictOf [] 0)] ++ Mh) ++ (ω₂.Z ++ (FR ++ f.keep))) = Mc ++ ((xa, instObj C dx) :: (dx, dictOf [] 0) :: (Mh ++ (ω₂.Z ++ (FR ++ f.keep)))) := by simp only [List.append_assoc, List.cons_append, List.nil_append]
    rw [e1]
    exact List.perm_middle.trans (.cons _ List.perm_middle)
  have R₃ : RelE c (n + 1) f' ω₃ ⟨σ₁.loc, (i, .inst C []) :: σ₁.heap⟩ { s₂ with heap := h' } := by
    refine ⟨m, Mc, [(xa, instObj C dx), (dx, dictOf [] 0)] ++ Mh, FR, ⟨F', fun p hp => N' p (perm.subset hp), ?_, r.frs, r.cells, r.cinj, .cons (by show (if i = i then _ else _) = _; rw [if_pos rfl]) (.inst .nil) (r.heap.put hfree), fun y Y hy hl => ?_, r.gens, r.drawn, r.os⟩⟩
    · show ((Mc ++ (([(xa, instObj C dx), (dx, dictOf [] 0)] ++ Mh) ++ (ω₂.Z ++ (FR ++ f.keep)))).map (·.1)).Nodup
      rw [(perm.map (·.1)).nodup_iff, List.map_cons, List.map_cons, List.nodup_cons, List.nodup_cons]
      refine ⟨fun hm => ?_, fun hm => ?_, r.nd⟩
      · rcases List.mem_cons.mp hm with e | hm
        · exact absurd l2 (by rw [show xa = dx from e]; exact Nat.lt_irrefl _)
        · obtain ⟨p, hp, e⟩ := List.mem_map.mp hm
          have e' : p.1 = xa := e
          exact absurd (Nat.lt_trans l2 (e' ▸ l1 p hp)) (Nat.lt_irrefl _)
      · obtain ⟨p, hp, e⟩ := List.mem_map.mp hm
        have e' : p.1 = dx := e
        exact absurd (e' ▸ l1 p hp) (Nat.lt_irrefl _)
    · have q := r.locs y Y hy hl
      have av := hav _ _ hl
      cases q with
      | loc a b d => exact .loc a b ((d.put av).up (Nat.le_succ n))
      | cell a b d e g => exact .cell a b d e ((g.put av).up (Nat.le_succ n))
      | free a b d e g => exact .free a b d e ((g.put av).up (Nat.le_succ n))
  have VX : VRs c (n + 1) ω₃ Xs vs := VRs.put B hXs
  have hi3 : i < (n + 1 + 1) * 1000 := Nat.lt_of_lt_of_le hi2 (Nat.mul_le_mul_right 1000 (Nat.le_succ (n + 1)))
  have hp3 : ω₃.ρ i = some xa := Om.put_self
  have VO : VR c (n + 1) ω₃ (.obj i) (.ref xa) := .obj hi3 hp3
  refine h2 S f' FF ω₃ { s₂ with heap := h' } _ _ R₃ (.cons VO VX) fun ω₄ v s₄ e₄ R₄ Av => ?_
  cases Av with
  | d Av =>
    cases Av
    refine ⟨rfl, ?_⟩
    have R₅ : RelE c n f ω₄ ⟨σ₁.loc, H⟩ s₄ := by
      obtain ⟨m', Mc', Mh', FR', r'⟩ := R₄
      refine ⟨m', Mc', Mh', FR', ⟨r'.fr, r'.nw, r'.nd, r'.frs, r'.cells, r'.cinj, r'.heap, fun y Y hy hl => ?_, r'.gens, r'.drawn, r'.os⟩⟩
      have ok : Y.ok n := by
        cases r.locs y Y hy hl with
        | loc a b d => exact d.isOk
        | cell a b d e g => exact g.isOk
        | free a b d e g => exact g.isOk
      cases r'.locs y Y hy hl with
      | loc a b d => exact .loc a b (d.down ok)
      | cell a b d e g => exact .cell a b d e (g.down ok)
      | free a b d e g => exact .free a b d e (g.down ok)
    have hρ : ω₄.ρ i = some xa := (e₄.ρ i hi3).trans hp3
    exact store_name F R₅ (isOwnVar_or hv) (.obj hi2 hρ) (fun s₆ R₆ => h ω₄ .next s₆ (e₁.down.trans (e₂.down.trans (X3.trans (e₄.le (Nat.le_add_right n 2))))) R₆ .next) (F.cellsOk x)
end
end Mine
namespace Mine
open PySem PySem.W PyProof.Rows PySem.Calls PySem.Spec
theorem led_count {l : Led} {q : Addr × Obj → Bool} (a : Addr) : List.count a ((l.filter q).map (·.1)) + List.count a ((l.filter fun p => !q p).map (·.1)) = List.count a (l.map (·.1)) := by
  induction l with
  | nil => rfl
  | cons p l ih =>
    cases h : q p <;> simp [h, List.count_cons] <;> omega
def relS (scope S : Scope) : Scope :=
  { scope with names := scope.names.map fun (n, k) => if (k == .free && S.kind == .function && S.names.lookup n == some .cell) then (n, .cell) else (n, k) }
theorem relabel_eq {scope S : Scope} {env : Env} (h : env.scope = S) : relabel scope env = relS scope S := by
  unfold relabel relS Env.kindOf; rw [h]
def keysOkB (S : Scope) : Bool := S.names.all fun p => S.names.all fun q => !(key p.1 == key q.1) || p.1 == q.1
theorem lookup_mem {α : Type} {l : List (Str × α)} {x : Str} {v : α} (h : l.lookup x = some v) : (x, v) ∈ l := by
  obtain ⟨l₁, l₂, e, _⟩ := List.lookup_eq_some_iff.mp h
  rw [e]; simp
theorem isVar_mem {S : Scope} {x : Str} (h : isVar (S.names.lookup x) = true) : ∃ k, (x, k) ∈ S.names := by
  cases q : S.names.lookup x with
  | none => rw [q] at h; cases h
  | some k => exact ⟨k, lookup_mem q⟩
theorem keysOk_of {S : Scope} (h : keysOkB S = true) : KeysOk S := fun x y hx hy e => by
  obtain ⟨k1, m1⟩ := isVar_mem hx
  obtain ⟨k2, m2⟩ := isVar_mem hy
  have z := List.all_eq_true.mp (List.all_eq_true.mp h _ m1) _ m2
  simpa [e] using z
def compOk (S scope : Scope) (x : Str) : Bool :=
  (match scope.kind with | .function => true | _ => false) &&
  scope.names.all (fun p => match p.2 with
    | .cell => false
    | .local => (match scope.names.lookup p.1 with | some .local => true | _ => false) && (p.1 == x || p.1 == dot0)
    | .free => (match S.names.lookup p.1 with | some .cell => true | _ => false) && (match scope.names.lookup p.1 with | some .free => true | _ => false)
    | _ => true) && (match scope.names.lookup x with | some .local => true | _ => false) && (scope.names.lookup dot0).isSome && keysOkB (relS scope S)
structure CompOk (S scope : Scope) (x : Str) : Prop where
  kind : scope.kind = .function
  nocell : ∀ p ∈ scope.names, p.2 ≠ .cell
  loc : ∀ p ∈ scope.names, p.2 = .local → scope.names.lookup p.1 = some .local ∧ (p.1 = x ∨ p.1 = dot0)
  free : ∀ p ∈ scope.names, p.2 = .free → S.names.lookup p.1 = some .cell ∧ scope.names.lookup p.1 = some .free
  x : scope.names.lookup x = some .local
  dot : (scope.names.lookup dot0).isSome = true
  keys : KeysOk (relS scope S)
theorem comp_ok {S scope : Scope} {x : Str} (h : compOk S scope x = true) : CompOk S scope x := by
  unfold compOk at h
  simp only [Bool.and_eq_true] at h
  obtain ⟨⟨⟨⟨h1, h2⟩, h3⟩, h5⟩, h4⟩ := h
  refine ⟨(by split at h1 <;> first | assumption | exact (Bool.noConfusion h1)), fun p hp e => ?_, fun p hp e => ?_, fun p hp e => ?_, (by split at h3 <;> first | assumption | exact (Bool.noConfusion h3)), h5, keysOk_of h4⟩
  · have z := List.all_eq_true.mp h2 p hp
    rw [e] at z; cases z
  · have z := List.all_eq_true.mp h2 p hp
    rw [e] at z
    simp only [Bool.and_eq_true, Bool.or_eq_true, beq_iff_eq] at z
    refine ⟨?_, z.2⟩
    have y := z.1
    split at y <;> first | assumption | cases y
  · have z := List.all_eq_true.mp h2 p hp
    rw [e] at z
    simp only [Bool.and_eq_true] at z
    refine ⟨?_, ?_⟩
    · have y := z.1
      split at y <;> first | assumption | cases y
    · have y := z.2
      split at y <;> first | assumption | cases y
theorem relS_lookup {scope S : Scope} {y : Str} : (relS scope S).names.lookup y = (scope.names.lookup y).map fun k => if (k == .free && S.kind == .function && S.names.lookup y == some .cell) then .cell else k := by
  unfold relS
  dsimp only
  induction scope.names with
  | nil => rfl
  | cons p l ih =>
    obtain ⟨n, k⟩ := p
    have key : ∀ k', (if (k == NameKind.free && S.kind == .function && S.names.lookup n == some .cell) = true then (n, NameKind.cell) else (n, k)) = (n, k') → 
        List.lookup y ((n, k') :: l.map fun (n, k) => if (k == .free && S.kind == .function && S.names.lookup n == some .cell) then (n, .cell) else (n, k)) = (((n, k) :: l).lookup y).map fun k => if (k == .free && S.kind == .function && S.names.lookup y == some .cell) then .cell else k := by
      intro k' hk'
      rw [List.lookup_cons, List.lookup_cons]
      cases q : (y == n) with
      | true =>
        have e : y = n := by simpa using q
        subst e
        dsimp only [Option.map_some]
        by_cases hc : (k == NameKind.free && S.kind == .function && S.names.lookup y == some .cell) = true
        · rw [if_pos hc] at hk' ⊢; cases hk'; rfl
        · rw [if_neg hc] at hk' ⊢; cases hk'; rfl
      | false => exact ih
    rw [List.map_cons]
    by_cases hc : (k == NameKind.free && S.kind == .function && S.names.lookup n == some .cell) = true
    · have z := key .cell (if_pos hc)
      dsimp only
      rw [if_pos hc]; exact z
    · have z := key k (if_neg hc)
      dsimp only
      rw [if_neg hc]; exact z
def closL (cells : List (Str × Addr)) : List (Str × NameKind) → List (Str × Addr) → List (Str × Addr)
  | [], acc => acc
  | (n, k) :: l, acc => closL cells l (if k == .free then (n, (cells.lookup n).getD 0) :: acc else acc)
theorem closL_go {env : Env} {l : List (Str × NameKind)} {acc : List (Str × Addr)} (h : ∀ p ∈ l, p.2 = .free → ∃ a, env.cells.lookup p.1 = some a) :
    (forIn l acc fun x r => do
      let (name, kind) := x
      if kind == .free then let a ← cellOf env name; pure (ForInStep.yield ((name, a) :: r)) else pure (ForInStep.yield r) : Sem _) = pure (closL env.cells l acc) := by
  induction l generalizing acc with
  | nil => rfl
  | cons p l ih =>
    obtain ⟨n, k⟩ := p
    rw [List.forIn_cons]
    unfold closL
    by_cases hk : k = .free
    · subst hk
      obtain ⟨a, ha⟩ := h _ (.head _) rfl
      have e : cellOf env n = pure a := by unfold cellOf; rw [show env.cells.lookup n = some a from ha]
      have ih' := ih (acc := (n, a) :: acc) fun p hp => h p (.tail _ hp)
      rw [show env.cells.lookup n = some a from ha]
      simp only [beq_self_eq_true, if_true, e, pure_bind, Option.getD_some] at ih' ⊢
      exact ih'
    · have ih' := ih (acc := acc) fun p hp => h p (.tail _ hp)
      have : (k == NameKind.free) = false := by simpa using hk
      simp only [this, Bool.false_eq_true, if_false, pure_bind] at ih' ⊢
      exact ih'
theorem closure_eq {scope : Scope} {env : Env} (h : ∀ p ∈ scope.names, p.2 = .free → ∃ a, env.cells.lookup p.1 = some a) : closureFor scope env = pure (closL env.cells scope.names []) := by
  unfold closureFor
  have z := closL_go (acc := []) h
  simp only [bind_pure_comp, pure_bind] at z ⊢
  first | exact z | (rw [z]; rfl) | simpa using z
theorem closL_mem {cells : List (Str × Addr)} {l : List (Str × NameKind)} {acc : List (Str × Addr)} : ∀ q, q ∈ closL cells l acc ↔ q ∈ acc ∨ ∃ p ∈ l, p.2 = .free ∧ q = (p.1, (cells.lookup p.1).getD 0) := by
  induction l generalizing acc with
  | nil => intro q; simp [closL]
  | cons p l ih =>
    intro q
    obtain ⟨n, k⟩ := p
    unfold closL
    rw [ih q]
    by_cases hk : k = .free
    · subst hk; simp only [beq_self_eq_true, if_true]
      refine ⟨fun h => ?_, fun h => ?_⟩
      · rcases h with h | ⟨p, hp, e, e'⟩
        · rcases List.mem_cons.mp h with rfl | h
          · exact .inr ⟨_, .head _, rfl, rfl⟩
          · exact .inl h
        · exact .inr ⟨p, .tail _ hp, e, e'⟩
      · rcases h with h | ⟨p, hp, e, e'⟩
        · exact .inl (.tail _ h)
        · rcases List.mem_cons.mp hp with rfl | hp
          · exact .inl (e' ▸ .head _)
          · exact .inr ⟨p, hp, e, e'⟩
    · have : (k == NameKind.free) = false := by simpa using hk
      simp only [this, Bool.false_eq_true, if_false]
      refine ⟨fun h => ?_, fun h => ?_⟩
      · rcases h with h | ⟨p, hp, e, e'⟩
        · exact .inl h
        · exact .inr ⟨p, .tail _ hp, e, e'⟩
      · rcases h with h | ⟨p, hp, e, e'⟩
        · exact .inl h
        · rcases List.mem_cons.mp hp with rfl | hp
          · exact absurd e hk
          · exact .inr ⟨p, hp, e, e'⟩
theorem lookup_of_const {l : List (Str × Addr)} {y : Str} {a : Addr} (h1 : (y, a) ∈ l) (h2 : ∀ b, (y, b) ∈ l → b = a) : l.lookup y = some a := by
  cases q : l.lookup y with
  | none => rw [List.lookup_eq_none_iff] at q; have := q _ h1; simp at this
  | some b => rw [h2 b (lookup_mem q)]
theorem closL_lookup {cells : List (Str × Addr)} {l : List (Str × NameKind)} {y : Str} {a : Addr} (h : (y, .free) ∈ l) (ha : cells.lookup y = some a) : (closL cells l []).lookup y = some a := by
  refine lookup_of_const ((closL_mem _).mpr (.inr ⟨_, h, rfl, by simp [ha]⟩)) fun b hb => ?_
  rcases (closL_mem _).mp hb with h | ⟨p, _, _, e⟩
  · cases h
  · cases e; rw [ha]; rfl
end Mine
namespace Mine
open PySem PySem.W PyProof.Rows PySem.Calls PySem.Spec
def Cap (scope : Scope) (y : Str) : Prop := (y, NameKind.free) ∈ scope.names
theorem relS_cap {S scope : Scope} {x y : Str} (hS : S.kind = .function) (ok : CompOk S scope x) (h : Cap scope y) : (relS scope S).names.lookup y = some .cell ∧ S.names.lookup y = some .cell := by
  obtain ⟨h1, h2⟩ := ok.free _ h rfl
  refine ⟨?_, h1⟩
  rw [relS_lookup, h2, hS, h1]; rfl
theorem relS_var {S scope : Scope} {x y : Str} (hS : S.kind = .function) (ok : CompOk S scope x) (h : isVar ((relS scope S).names.lookup y) = true) :
    ((relS scope S).names.lookup y = some .local ∧ (y = x ∨ y = dot0)) ∨ Cap scope y := by
  rw [relS_lookup] at h ⊢
  cases q : scope.names.lookup y with
  | none => rw [q] at h; cases h
  | some k =>
    rw [q] at h
    have hm := lookup_mem q
    cases k with
    | «local» => exact .inl ⟨rfl, (ok.loc _ hm rfl).2⟩
    | free => exact .inr hm
    | cell => exact absurd rfl (ok.nocell _ hm)
    | _ => cases h
def capB (cl : List (Str × Addr)) (p : Addr × Obj) : Bool := cl.any fun q => q.2 == p.1
def Fm.comp (f : Fm) (scope : Scope) (C : Addr) (m : Str → Option Value) (D : Addr) (acc : Obj) (M2 : Led) : Fm :=
  { A := f.A, env := compEnvC scope (closL f.env.cells scope.names []) C f.env, fr := (f.env.locals, m) :: f.fr, keep := (D, acc) :: (M2 ++ f.keep) }
def capL (scope : Scope) (loc : List (Nat × V)) : List (Nat × V) := loc.filter fun p => scope.names.any fun q => (match q.2 with | .free => true | _ => false) && (key q.1 == p.1)
theorem lk_filter {α : Type} {q : Nat → Bool} {k : Nat} {l : List (Nat × α)} : lk k (l.filter fun p => q p.1) = bif q k then lk k l else none := by
  induction l with
  | nil => cases q k <;> rfl
  | cons p l ih =>
    obtain ⟨a, x⟩ := p
    rw [List.filter_cons]
    cases ha : q a with
    | true =>
      simp only [ha, if_true]
      unfold lk
      rw [ih]
      cases e : (a == k) with
      | true => have : a = k := by simpa using e
                subst this; rw [ha]; rfl
      | false => rfl
    | false =>
      simp only [ha, Bool.false_eq_true, if_false]
      rw [ih]
      cases e : (a == k) with
      | true => have : a = k := by simpa using e
                subst this; rw [ha]; rfl
      | false => show _ = bif q k then (bif a == k then some x else lk k l) else none; rw [e]; rfl
theorem capL_some {scope : Scope} {loc : List (Nat × V)} {k : Nat} {X : V} (h : lk k (capL scope loc) = some X) : lk k loc = some X ∧ ∃ z, Cap scope z ∧ key z = k := by
  unfold capL at h
  rw [lk_filter (q := fun k => scope.names.any fun q => (match q.2 with | .free => true | _ => false) && (key q.1 == k))] at h
  cases e : (scope.names.any fun q => (match q.2 with | .free => true | _ => false) && (key q.1 == k)) with
  | false => rw [e] at h; cases h
  | true =>
    rw [e] at h
    refine ⟨h, ?_⟩
    obtain ⟨⟨z, kz⟩, hz, hq⟩ := List.any_eq_true.mp e
    simp only [Bool.and_eq_true, beq_iff_eq] at hq
    refine ⟨z, ?_, hq.2⟩
    have y := hq.1
    cases kz <;> first | exact hz | cases y
theorem capL_cap {scope : Scope} {loc : List (Nat × V)} {y : Str} (h : Cap scope y) : lk (key y) (capL scope loc) = lk (key y) loc := by
  unfold capL
  rw [lk_filter (q := fun k => scope.names.any fun q => (match q.2 with | .free => true | _ => false) && (key q.1 == k))]
  have : (scope.names.any fun q => (match q.2 with | .free => true | _ => false) && (key q.1 == key y)) = true := List.any_eq_true.mpr ⟨_, h, by simp⟩
  rw [this]; rfl
section
variable {c : Cx} {S scope : Scope} {n : Nat} {σ σ' σ₁ σ₂ σ₃ σ₄ : St} {X Y Z : V} {e l r t test target iter fn : Expr} {es : List Expr} {Xs : List V} {pos tpos : Pos} {x y : Str} {C D : Addr} {f : Fm} {ω : Om} {s : Shared}
theorem cap_at (F : FmOk c S n f) (ok : CompOk S scope x) (h : Cap scope y) : ∃ a, f.env.cells.lookup y = some a ∧ (closL f.env.cells scope.names []).lookup y = some a := by
  obtain ⟨a, ha⟩ := F.cellsOk y (ok.free _ h rfl).1
  exact ⟨a, ha, closL_lookup h ha⟩
theorem cap_in {a : Addr} {o : Obj} (h : (closL f.env.cells scope.names []).lookup y = some a) : capB (closL f.env.cells scope.names []) (a, o) = true :=
  List.any_eq_true.mpr ⟨_, lookup_mem h, by simp⟩
theorem cap_out {m : Str → Option Value} {Mc Mh FR : Led} {kp : Led} {a : Addr} {o : Obj} (F : FmOk c S n f) (ok : CompOk S scope x) (r : Rel c n (f.more kp) ω σ s m Mc Mh FR) (hk : f.env.kindOf y = some .cell) (ha : f.env.cells.lookup y = some a) (hy : ¬Cap scope y) : capB (closL f.env.cells scope.names []) (a, o) = false := by
  cases q : capB (closL f.env.cells scope.names []) (a, o) with
  | false => rfl
  | true =>
    obtain ⟨⟨z, b⟩, hz, hb⟩ := List.any_eq_true.mp q
    have hb' : b = a := by simpa using hb
    subst hb'
    rcases (closL_mem _).mp hz with h | ⟨p, hp, e1, e2⟩
    · cases h
    · cases e2
      obtain ⟨n0, k0⟩ := p
      cases e1
      have hc : Cap scope n0 := hp
      obtain ⟨a', h1, _⟩ := cap_at F ok hc
      have ea : f.env.cells.lookup n0 = some ((List.lookup n0 f.env.cells).getD 0) := by rw [h1]; rfl
      have hkz : f.env.kindOf n0 = some .cell := by unfold Env.kindOf; rw [F.scope]; exact (ok.free _ hc rfl).1
      exact absurd (r.cinj y n0 _ hk hkz ha ea ▸ hc) hy
theorem comp_enter {m : Str → Option Value} {Mc Mh FR : Led} {kp : Led} {h₁ : Heap} {tk : Tok} {acc ob : Obj} (hS : S.kind = .function) (F : FmOk c S n f) (ok : CompOk S scope x) (r : Rel c n (f.more kp) ω σ s m Mc Mh FR) (hacc : acc.isFreed = false)
    (hns : h₁.Ns (s.heap.push acc).objs.size (fun _ => none)) (hsb : Heap.SameBut (s.heap.push acc).objs.size ((s.heap.push acc).push ob) h₁) :
    RelE c n ((f.comp scope (s.heap.push acc).objs.size m s.heap.objs.size acc (Mc.filter fun p => !capB (closL f.env.cells scope.names []) p)).more kp) ω ⟨capL scope σ.loc, σ.heap⟩ { s with heap := h₁, toks := tk } := by
  obtain ⟨oL, es, ep, hL, hLd, hLs, hLf⟩ := r.fr.ns
  have hL : s.heap.get? f.env.locals = some oL := hL
  have hCs : (s.heap.push acc).objs.size = s.heap.objs.size + 1 := Heap.size_push ..
  have ltC : ∀ b o, (s.heap.push acc).get? b = some o → b ≠ (s.heap.push acc).objs.size := fun b o e => Nat.ne_of_lt (Heap.lt_size e)
  have up2 : ∀ b o, (s.heap.push acc).get? b = some o → h₁.get? b = some o := fun b o e => hsb.extBut b o (ltC b o e) (Heap.get?_push_of_some _ e)
  have up : ∀ b o, s.heap.get? b = some o → h₁.get? b = some o := fun b o e => up2 b o (Heap.get?_push_of_some _ e)
  have ne : ∀ b o, s.heap.get? b = some o → b ≠ (s.heap.push acc).objs.size := fun b o e => ltC b o (Heap.get?_push_of_some _ e)
  have hD : (s.heap.push acc).get? s.heap.objs.size = some acc := Heap.get?_push_size _ hacc
  have above : c.base.objs.size ≤ s.heap.objs.size := Nat.le_of_lt (Nat.lt_of_le_of_lt r.fr.above r.fr.ns.lt)
  have bnone : ∀ b, c.base.objs.size ≤ b → c.base.get? b = none := fun b hb => get_above_none hb
  refine ⟨fun _ => none, Mc.filter (capB (closL f.env.cells scope.names [])), Mh, (f.env.locals, oL) :: FR, ⟨⟨hns, fun b o e => up b o (r.fr.keep b o e), by show c.base.objs.size ≤ (s.heap.push acc).objs.size; omega⟩, fun p hp => ?_, ?_, .cons hLd hLs hLf r.frs, fun y a hk ha => ?_, fun y z a hy hz h1 h2 => ?_, r.heap, fun y Y hy hl => ?_, r.gens, r.drawn, r.os⟩⟩
  · have hp' : p = (f.env.locals, oL) ∨ p = (s.heap.objs.size, acc) ∨ p ∈ Mc ++ (Mh ++ (ω.Z ++ (FR ++ (kp ++ f.keep)))) := by
      simp only [Fm.more, Fm.comp, List.mem_append, List.mem_cons, List.mem_filter] at hp ⊢
      rcases hp with ⟨h, _⟩ | h | h | (h | h) | h | h | ⟨h, _⟩ | h
      · exact .inr (.inr (.inl h))
      · exact .inr (.inr (.inr (.inl h)))
      · exact .inr (.inr (.inr (.inr (.inl h))))
      · exact .inl h
      · exact .inr (.inr (.inr (.inr (.inr (.inl h)))))
      · exact .inr (.inr (.inr (.inr (.inr (.inr (.inl h))))))
      · exact .inr (.inl h)
      · exact .inr (.inr (.inl h))
      · exact .inr (.inr (.inr (.inr (.inr (.inr (.inr h))))))
    rcases hp' with rfl | rfl | h
    · exact ⟨up _ _ hL, ne _ _ hL, bnone _ r.fr.above⟩
    · exact ⟨up2 _ _ hD, ltC _ _ hD, bnone _ above⟩
    · have z := r.nw p h
      exact ⟨up _ _ z.1, ne _ _ z.1, z.2.2⟩
  · have perm : (((Mc.filter (capB (closL f.env.cells scope.names []))) ++ (Mh ++ (ω.Z ++ (((f.env.locals, oL) :: FR) ++ (kp ++ ((s.heap.objs.size, acc) :: ((Mc.filter fun p => !capB (closL f.env.cells scope.names []) p) ++ f.keep))))))).map (·.1)).Perm
        (f.env.locals :: s.heap.objs.size :: (Mc ++ (Mh ++ (ω.Z ++ (FR ++ (kp ++ f.keep))))).map (·.1)) := by
      rw [List.perm_iff_count]
      intro a
      have z := led_count (l := Mc) (q := capB (closL f.env.cells scope.names [])) a
      simp only [List.map_append, List.map_cons, List.count_append, List.count_cons] at z ⊢
      omega
    refine (perm.nodup_iff).mpr ?_
    rw [List.nodup_cons, List.nodup_cons]
    refine ⟨fun hm => ?_, fun hm => ?_, r.nd⟩
    · rcases List.mem_cons.mp hm with e | hm
      · exact absurd (Heap.lt_size hL) (by rw [e]; exact Nat.lt_irrefl _)
      · obtain ⟨p, hp, e⟩ := List.mem_map.mp hm
        exact (r.nw p hp).2.1 e
    · obtain ⟨p, hp, e⟩ := List.mem_map.mp hm
      exact absurd (Heap.lt_size (r.nw p hp).1) (by rw [e]; exact Nat.lt_irrefl _)
  · have hk' : (relS scope S).names.lookup y = some .cell := by rw [← relabel_eq F.scope]; exact hk
    have ha' : (closL f.env.cells scope.names []).lookup y = some a := ha
    have hc : Cap scope y := by
      rcases relS_var hS ok (y := y) (by rw [hk']; rfl) with ⟨h, _⟩ | h
      · rw [h] at hk'; cases hk'
      · exact h
    obtain ⟨a', h1, h2⟩ := cap_at F ok hc
    have : a' = a := Option.some.inj (h2.symm.trans ha')
    subst this
    obtain ⟨o, v, hm, hd⟩ := r.cells y a' (by show f.env.kindOf y = _; unfold Env.kindOf; rw [F.scope]; exact (ok.free _ hc rfl).1) h1
    exact ⟨o, v, List.mem_filter.mpr ⟨hm, cap_in ha'⟩, hd⟩
  · have cap : ∀ y a, (f.comp scope (s.heap.push acc).objs.size m s.heap.objs.size acc (Mc.filter fun p => !capB (closL f.env.cells scope.names []) p)).env.kindOf y = some .cell → (closL f.env.cells scope.names []).lookup y = some a → f.env.kindOf y = some .cell ∧ f.env.cells.lookup y = some a := by
      intro y a hk ha
      have hk' : (relS scope S).names.lookup y = some .cell := by rw [← relabel_eq F.scope]; exact hk
      have hc : Cap scope y := by
        rcases relS_var hS ok (y := y) (by rw [hk']; rfl) with ⟨h, _⟩ | h
        · rw [h] at hk'; cases hk'
        · exact h
      obtain ⟨a', h1, h2⟩ := cap_at F ok hc
      have : a' = a := Option.some.inj (h2.symm.trans ha)
      subst this
      exact ⟨by unfold Env.kindOf; rw [F.scope]; exact (ok.free _ hc rfl).1, h1⟩
    obtain ⟨a1, a2⟩ := cap y a hy h1
    obtain ⟨b1, b2⟩ := cap z a hz h2
    exact r.cinj y z a a1 b1 a2 b2
  · have hy' : isVar ((relS scope S).names.lookup y) = true := by rw [← relabel_eq F.scope]; exact hy
    obtain ⟨hl1, z, hz, ez⟩ := capL_some hl
    have hzv : isVar ((relS scope S).names.lookup z) = true := by rw [(relS_cap hS ok hz).1]; rfl
    have e : z = y := ok.keys z y hzv hy' ez
    subst e
    have hk : f.env.kindOf z = some .cell := by unfold Env.kindOf; rw [F.scope]; exact (relS_cap hS ok hz).2
    have q := r.locs z Y (by show isVar (f.env.kindOf z) = true; rw [hk]; rfl) hl1
    obtain ⟨a', h1, h2⟩ := cap_at F ok hz
    cases q with
    | loc a b d => have a : f.env.kindOf z = _ := a; rw [hk] at a; cases a
    | free a b d e g => have a : f.env.kindOf z = _ := a; rw [hk] at a; cases a
    | @cell a1 o v a b d e g =>
      have b : f.env.cells.lookup z = some a1 := b
      have : a' = a1 := Option.some.inj (h1.symm.trans b)
      subst this
      exact .cell (by show (relabel scope f.env).names.lookup z = _; rw [relabel_eq F.scope]; exact (relS_cap hS ok hz).1) h2 (List.mem_filter.mpr ⟨d, cap_in h2⟩) e g
end
end Mine
namespace Mine
open PySem PySem.W PyProof.Rows PySem.Calls PySem.Spec
def IfsB (c : Cx) (S : Scope) (n : Nat) : List Expr → St → Bool → Prop
  | [], _, b => b = true
  | [e], σ, b => Ts c S n e σ b σ
  | _, _, _ => False
inductive CompIs (c : Cx) (S : Scope) (n : Nat) (ifs : List Expr) (elt : Expr) (x : Str) (σ : St) : List V → List D → Prop
  | nil : CompIs c S n ifs elt x σ [] []
  | skip {X : V} {Xs : List V} {ds : List D} : IfsB c S n ifs ⟨(key x, X) :: σ.loc, σ.heap⟩ false → CompIs c S n ifs elt x σ Xs ds → CompIs c S n ifs elt x σ (X :: Xs) ds
  | take {X : V} {d : D} {Xs : List V} {ds : List D} : IfsB c S n ifs ⟨(key x, X) :: σ.loc, σ.heap⟩ true → Ev c S n elt ⟨(key x, X) :: σ.loc, σ.heap⟩ (.d d) ⟨(key x, X) :: σ.loc, σ.heap⟩ → CompIs c S n ifs elt x σ Xs ds → CompIs c S n ifs elt x σ (X :: Xs) (d :: ds)
section
variable {c : Cx} {S scope : Scope} {n : Nat} {σ σ' σ₁ σ₂ σ₃ σ₄ : St} {X Y Z : V} {e l r t test target iter fn elt : Expr} {es ifs : List Expr} {Xs : List V} {pos tpos : Pos} {x y : Str} {C D : Addr} {f : Fm} {ω : Om} {s : Shared}
theorem RelE.keepFrz {a : Addr} {o : Obj} {f : Fm} {ω : Om} {s : Shared} (F : FmOk c S n f) (R : RelE c n (f.more [(a, o)]) ω σ s) : RelE c n f { ω with Z := (a, o) :: ω.Z } σ s := by
  obtain ⟨m, Mc, Mh, FR, r⟩ := R
  have r0 := r.unkeep F
  have X1 : Ext (n + 1) ω { ω with Z := (a, o) :: ω.Z } := Ext.frz (n + 1) ω [(a, o)]
  have perm : (Mc ++ (Mh ++ (((a, o) :: ω.Z) ++ (FR ++ f.keep)))).Perm (Mc ++ (Mh ++ (ω.Z ++ (FR ++ ([(a, o)] ++ f.keep))))) := by
    refine List.Perm.append_left _ (List.Perm.append_left _ ?_)
    have e1 : ω.Z ++ (FR ++ ([(a, o)] ++ f.keep)) = (ω.Z ++ FR) ++ (a, o) :: f.keep := by simp only [List.append_assoc, List.cons_append, List.nil_append]
    have e2 : ((a, o) :: ω.Z) ++ (FR ++ f.keep) = (a, o) :: ((ω.Z ++ FR) ++ f.keep) := by simp only [List.append_assoc, List.cons_append]
    rw [e1, e2]
    exact List.perm_middle.symm
  exact ⟨m, Mc, Mh, FR, ⟨r0.fr, fun p hp => r.nw p (perm.subset hp), ((perm.map (·.1)).nodup_iff).mpr r.nd, r0.frs, r0.cells, r0.cinj, r0.heap.mono X1.fz fun _ _ => rfl, fun y Y hy hl => (r0.locs y Y hy hl).ext X1, r0.gens, r0.drawn, r0.os⟩⟩
theorem comp_leaveK {m : Str → Option Value} {Mc Mh FR : Led} {kp kp' : Led} {s₀ : Shared} {ω₀ : Om} {h'' : Heap} {tk : Tok} {acc : Obj} {loc : List (Nat × V)} {H : List (Nat × HO)} (hS : S.kind = .function) (F : FmOk c S n f) (ok : CompOk S scope x) (r : Rel c n (f.more kp) ω₀ σ s₀ m Mc Mh FR)
    (R : RelE c n ((f.comp scope C m D acc (Mc.filter fun p => !capB (closL f.env.cells scope.names []) p)).more kp') ω ⟨loc, H⟩ s) (e : Ext (n + 1) ω₀ ω) (hloc : ∀ y, Cap scope y → lk (key y) loc = lk (key y) σ.loc) (hsb : Heap.SameBut C s.heap h'') :
    RelE c n (f.more [(D, acc)]) ω ⟨σ.loc, H⟩ { s with heap := h'', toks := tk } := by
  obtain ⟨m', Mc', Mh', FRa, r'⟩ := R
  have r0 := r.unkeep F
  have fr0 := r'.frs
  cases fr0 with
  | @cons _ _ o' es' ep' _ FR' d1 d2 d3 d4 =>
    have N' := r'.nw
    have nC : ∀ p ∈ Mc' ++ (Mh' ++ (ω.Z ++ (((f.env.locals, o') :: FR') ++ (kp' ++ ((D, acc) :: ((Mc.filter fun p => !capB (closL f.env.cells scope.names []) p) ++ f.keep)))))), p.1 ≠ C ∧ h''.get? p.1 = some p.2 ∧ c.base.get? p.1 = none := fun p hp => by
      have z := N' p hp
      exact ⟨z.2.1, (hsb.2 _ z.2.1).trans z.1, z.2.2⟩
    have nd' : ((Mc' ++ (Mh' ++ (ω.Z ++ (((f.env.locals, o') :: FR') ++ (kp' ++ ((D, acc) :: ((Mc.filter fun p => !capB (closL f.env.cells scope.names []) p) ++ f.keep))))))).map (·.1)).Nodup := r'.nd
    have perm : ((Mc' ++ (Mh' ++ (ω.Z ++ (((f.env.locals, o') :: FR') ++ (kp' ++ ((D, acc) :: ((Mc.filter fun p => !capB (closL f.env.cells scope.names []) p) ++ f.keep))))))).map (·.1)).Perm
        ((f.env.locals :: ((Mc' ++ Mc.filter fun p => !capB (closL f.env.cells scope.names []) p) ++ (Mh' ++ (ω.Z ++ (FR' ++ ([(D, acc)] ++ f.keep))))).map (·.1)) ++ kp'.map (·.1)) := by
      rw [List.perm_iff_count]
      intro a
      simp only [List.map_append, List.map_cons, List.map_nil, List.count_append, List.count_cons, List.count_nil]
      omega
    have nd2 := ((perm.nodup_iff).mp nd').sublist (List.sublist_append_left ..)
    rw [List.nodup_cons] at nd2
    have inn : ∀ p ∈ (Mc' ++ Mc.filter fun p => !capB (closL f.env.cells scope.names []) p) ++ (Mh' ++ (ω.Z ++ (FR' ++ ([(D, acc)] ++ f.keep)))), p ∈ Mc' ++ (Mh' ++ (ω.Z ++ (((f.env.locals, o') :: FR') ++ (kp' ++ ((D, acc) :: ((Mc.filter fun p => !capB (closL f.env.cells scope.names []) p) ++ f.keep)))))) := fun p hp => by
      simp only [List.mem_append, List.mem_cons, List.not_mem_nil, or_false] at hp ⊢
      rcases hp with (h | h) | h | h | h | h | h
      · exact .inl h
      · exact .inr (.inr (.inr (.inr (.inr (.inr (.inl h))))))
      · exact .inr (.inl h)
      · exact .inr (.inr (.inl h))
      · exact .inr (.inr (.inr (.inl (.inr h))))
      · exact .inr (.inr (.inr (.inr (.inr (.inl h)))))
      · exact .inr (.inr (.inr (.inr (.inr (.inr (.inr h))))))
    have hL := nC (f.env.locals, o') (by simp)
    have capc : ∀ y, Cap scope y → ∃ a, f.env.cells.lookup y = some a ∧ (closL f.env.cells scope.names []).lookup y = some a := fun y hy => cap_at F ok hy
    refine ⟨m, Mc' ++ Mc.filter fun p => !capB (closL f.env.cells scope.names []) p, Mh', FR', ⟨⟨⟨o', es', ep', hL.2.1, d1, d2, d3⟩, fun b o e => ?_, r0.fr.above⟩, fun p hp => ?_, nd2.2, d4, fun y a hk ha => ?_, r0.cinj, r'.heap, fun y Y hy hl => ?_, r'.gens, r'.drawn, r'.os⟩⟩
    · have z := r'.fr.keep b o e
      have : b ≠ C := fun h => by
        have q := Heap.lt_size e
        have q2 : c.base.objs.size ≤ C := r'.fr.above
        rw [h] at q; exact absurd (Nat.lt_of_lt_of_le q q2) (Nat.lt_irrefl _)
      exact (hsb.2 _ this).trans z
    · have z := nC p (inn p hp)
      refine ⟨z.2.1, fun h => nd2.1 ?_, z.2.2⟩
      have hp' : p ∈ (Mc' ++ Mc.filter fun p => !capB (closL f.env.cells scope.names []) p) ++ (Mh' ++ (ω.Z ++ (FR' ++ ([(D, acc)] ++ f.keep)))) := hp
      exact h ▸ List.mem_map.mpr ⟨p, hp', rfl⟩
    · by_cases hc : Cap scope y
      · obtain ⟨a', h1, h2⟩ := capc y hc
        have : a' = a := Option.some.inj (h1.symm.trans ha)
        subst this
        obtain ⟨o, v, hm, hd⟩ := r'.cells y a' (by show (relabel scope f.env).names.lookup y = _; rw [relabel_eq F.scope]; exact (relS_cap hS ok hc).1) h2
        exact ⟨o, v, List.mem_append_left _ hm, hd⟩
      · obtain ⟨o, v, hm, hd⟩ := r.cells y a hk ha
        refine ⟨o, v, List.mem_append_right _ (List.mem_filter.mpr ⟨hm, ?_⟩), hd⟩
        rw [cap_out F ok r hk ha hc]; rfl
    · have q0 := r0.locs y Y hy hl
      cases q0 with
      | loc a b d => exact .loc a b (d.ext e)
      | free a b d e1 g => exact .free a b (List.mem_append_right _ d) e1 (g.ext e)
      | @cell a1 o v a b d e1 g =>
        by_cases hc : Cap scope y
        · obtain ⟨a', h1, h2⟩ := capc y hc
          have : a' = a1 := Option.some.inj (h1.symm.trans b)
          subst this
          have hk' : ((f.comp scope C m D acc (Mc.filter fun p => !capB (closL f.env.cells scope.names []) p)).more kp').env.kindOf y = some .cell := by show (relabel scope f.env).names.lookup y = _; rw [relabel_eq F.scope]; exact (relS_cap hS ok hc).1
          have q := r'.locs y Y (by rw [hk']; rfl) (by rw [show lk (key y) loc = lk (key y) σ.loc from hloc y hc]; exact hl)
          cases q with
          | loc a2 _ _ => rw [hk'] at a2; cases a2
          | free a2 _ _ _ _ => rw [hk'] at a2; cases a2
          | @cell a3 o3 v3 x1 x2 x3 x4 x5 =>
            have x2' : (closL f.env.cells scope.names []).lookup y = some a3 := x2
            have : a' = a3 := Option.some.inj (h2.symm.trans x2')
            subst this
            exact .cell a b (List.mem_append_left _ x3) x4 x5
        · refine .cell a b (List.mem_append_right _ (List.mem_filter.mpr ⟨d, ?_⟩)) e1 (g.ext e)
          rw [cap_out F ok r a b hc]; rfl
theorem comp_leave {m : Str → Option Value} {Mc Mh FR : Led} {kp kp' : Led} {s₀ : Shared} {ω₀ : Om} {h'' : Heap} {tk : Tok} {acc : Obj} {loc : List (Nat × V)} {H : List (Nat × HO)} (hS : S.kind = .function) (F : FmOk c S n f) (ok : CompOk S scope x) (r : Rel c n (f.more kp) ω₀ σ s₀ m Mc Mh FR)
    (R : RelE c n ((f.comp scope C m D acc (Mc.filter fun p => !capB (closL f.env.cells scope.names []) p)).more kp') ω ⟨loc, H⟩ s) (e : Ext (n + 1) ω₀ ω) (hloc : ∀ y, Cap scope y → lk (key y) loc = lk (key y) σ.loc) (hsb : Heap.SameBut C s.heap h'') :
    RelE c n f { ω with Z := (D, acc) :: ω.Z } ⟨σ.loc, H⟩ { s with heap := h'', toks := tk } := (comp_leaveK hS F ok r R e hloc hsb).keepFrz F
theorem FmOk.comp {m : Str → Option Value} {acc : Obj} {M2 : Led} (hS : S.kind = .function) (F : FmOk c S n f) (ok : CompOk S scope x) : FmOk c (relS scope S) n (f.comp scope C m D acc M2) := by
  have cap : ∀ y k, (relS scope S).names.lookup y = some k → isVar (some k) = true → k ≠ .local → Cap scope y ∧ k = .cell := fun y k h hk hn => by
    rcases relS_var hS ok (y := y) (by rw [h]; exact hk) with ⟨h', _⟩ | h'
    · rw [h] at h'; cases h'; exact absurd rfl hn
    · have z := (relS_cap hS ok h').1
      rw [h] at z; cases z; exact ⟨h', rfl⟩
  refine ⟨relabel_eq F.scope, ok.kind, F.globals, F.builtins, F.depth, F.units, F.guards, ?_, F.hand, fun y h => ?_, fun y a h _ => ?_, ok.keys⟩
  · obtain ⟨l, h1, h2, h3⟩ := F.frames
    refine ⟨l, h1, fun env he => ?_, fun hd => ?_⟩
    · obtain ⟨a1, L', a2, a3⟩ := h2 env he
      refine ⟨a1, L', a2, .inr ?_⟩
      rcases a3 with rfl | ⟨m', a3⟩
      · exact ⟨m, .head _⟩
      · exact ⟨m', .tail _ a3⟩
    · exfalso
      have z := ok.dot
      rw [relS_lookup] at hd
      cases q : scope.names.lookup dot0 with
      | none => rw [q] at z; cases z
      | some k => rw [q] at hd; cases hd
  · obtain ⟨hc, _⟩ := cap y _ h rfl (by simp)
    obtain ⟨a, _, h2⟩ := cap_at F ok hc
    exact ⟨a, h2⟩
  · obtain ⟨_, h2⟩ := cap y _ h rfl (by simp)
    cases h2
theorem RelE.reloc {loc loc' : List (Nat × V)} {H : List (Nat × HO)} (R : RelE c n f ω ⟨loc, H⟩ s) (h : ∀ y Y, isVar (f.env.kindOf y) = true → lk (key y) loc' = some Y → lk (key y) loc = some Y) : RelE c n f ω ⟨loc', H⟩ s := by
  obtain ⟨m, Mc, Mh, FR, r⟩ := R
  exact ⟨m, Mc, Mh, FR, ⟨r.fr, r.nw, r.nd, r.frs, r.cells, r.cinj, r.heap, fun y Y hy hl => r.locs y Y hy (h y Y hy hl), r.gens, r.drawn, r.os⟩⟩
end
end Mine
namespace Mine
open PySem PySem.W PyProof.Rows PySem.Calls PySem.Spec
section
variable {prog : Program} {w : World} {A : Around} {E : Value → Shared → Prop} {s : Shared} {env : Env} {R : Result → Shared → Prop}
abbrev testsM (ifs : List Expr) (env : Env) : Sem Bool := forIn ifs true fun c r => if r = true then do let ok ← isTrue c env (eval c env); pure (ForInStep.yield ok) else pure (ForInStep.yield r)
theorem code_comp {elt target iter : Expr} {ifs : List Expr} {scope : Scope} {pos : Pos} {it acc : Value}
    (h : wpAny (model prog w) A (pyNext it) (fun r s₁ => match r with
      | none => R (.ok .next) s₁
      | some v => wpAny (model prog w) A (letOwnedTupleGo target it v) (fun _ s₁' => wpAny (model prog w) A (assign target env v) (fun _ s₂ =>
          wpAny (model prog w) A (testsM ifs env) (fun ok s₃ =>
            if ok = true then wpAny (model prog w) A (eval elt env) (fun x s₄ =>
              wpAny (model prog w) A (call (.builtin "list.append") [acc, x]) (fun _ s₅ => codeAny (model prog w) A (.compLoop (.ListComp elt [⟨target, iter, ifs, 0⟩] scope pos) 0 it acc env) R s₅) (notedBy (model prog w) A env fun e s' => R (.error e) s') s₄) (notedBy (model prog w) A env fun e s' => R (.error e) s') s₃
            else codeAny (model prog w) A (.compLoop (.ListComp elt [⟨target, iter, ifs, 0⟩] scope pos) 0 it acc env) R s₃) (notedBy (model prog w) A env fun e s' => R (.error e) s') s₂) (notedBy (model prog w) A env fun e s' => R (.error e) s') s₁') (notedBy (model prog w) A env fun e s' => R (.error e) s') s₁) (notedBy (model prog w) A env fun e s' => R (.error e) s') s) :
    codeAny (model prog w) A (.compLoop (.ListComp elt [⟨target, iter, ifs, 0⟩] scope pos) 0 it acc env) R s := by
  refine codeAny_of_tree ?_
  show wpAny _ A ((compTurn (.ListComp elt [⟨target, iter, ifs, 0⟩] scope pos) 0 it acc env).onRaise (fun x => do noteFrame x env; theTreesLotGoes x)) _ _ s
  refine wpAny_noted ?_
  rw [compTurn_list]
  refine wpAny_bind (wpAny_standAt (wpAny_bind (wpAny_mono h (fun r s₁ h₁ => ?_) fun _ _ h' => h')))
  cases r with
  | none => exact wpAny_pure h₁
  | some v =>
    refine wpAny_bind (wpAny_mono h₁ (fun _ s₁' h₁' => ?_) fun _ _ h' => h')
    refine wpAny_bind (wpAny_mono h₁' (fun _ s₂ h₂ => wpAny_bind (wpAny_mono h₂ (fun ok s₃ h₃ => ?_) fun _ _ h' => h')) fun _ _ h' => h')
    cases ok with
    | false => exact wpAny_pure ⟨rfl, h₃⟩
    | true =>
      exact wpAny_bind (wpAny_bind (wpAny_mono h₃ (fun x s₄ h₄ => wpAny_bind (wpAny_mono h₄ (fun _ s₅ h₅ => wpAny_pure (wpAny_pure ⟨rfl, h₅⟩)) fun _ _ h' => h')) fun _ _ h' => h'))
end
section
variable {c : Cx} {S scope : Scope} {n : Nat} {σ σ' σ₁ σ₂ σ₃ σ₄ : St} {X Y Z : V} {e l r t test target iter fn elt : Expr} {es ifs : List Expr} {Xs : List V} {pos tpos : Pos} {x y : Str} {f : Fm} {ω : Om} {s : Shared}
theorem ifs_run {σ : St} {b : Bool} {Q : Bool → Shared → Prop} {E : Value → Shared → Prop} (h : IfsB c S n ifs σ b) (F : FmOk c S n f) (R : RelE c n f ω σ s) (k : ∀ ω' s', Ext (n + 1) ω ω' → RelE c n f ω' σ s' → Q b s') : wpAny (model c.prog c.w) f.A (testsM ifs f.env) Q E s := by
  match ifs, h with
  | [], h => cases h; exact wpAny_tests_nil (k ω s (.refl ..) R)
  | [e], h => exact wpAny_tests_one (h f F ω s _ _ R k)
theorem acc_append {C Da : Addr} {m : Str → Option Value} {M2 kp : Led} {vs : List Value} {k : Nat} {v : Value} {Q : Value → Shared → Prop} {E : Value → Shared → Prop} (hS : S.kind = .function) (F : FmOk c S n f) (ok : CompOk S scope x)
    (R : RelE c n ((f.comp scope C m Da (listOf vs.toArray k) M2).more kp) ω σ s) (hsz : vs.length ≤ 10000)
    (h : ∀ s', RelE c n ((f.comp scope C m Da (listOf (vs ++ [v]).toArray (k + 1)) M2).more kp) ω σ s' → Q .none s') : wpAny (model c.prog c.w) f.A (call (.builtin "list.append") [.ref Da, v]) Q E s := by
  obtain ⟨m', Mc, Mh, FR, r⟩ := R
  have eL : ∀ o, Mc ++ (Mh ++ (ω.Z ++ (FR ++ ((f.comp scope C m Da o M2).more kp).keep))) = (Mc ++ (Mh ++ (ω.Z ++ (FR ++ kp)))) ++ (Da, o) :: (M2 ++ f.keep) := fun o => by simp only [Fm.more, Fm.comp, List.append_assoc, List.cons_append]
  obtain ⟨o1, o2⟩ := off_pre (eL _ ▸ r.nd)
  refine append_K r.fr (eL _ ▸ r.nw) (upd_of o1 o2) (fun h' F' N' => ?_) (by rw [List.size_toArray]; exact Nat.le_trans hsz (by decide))
  have e3 : vs.toArray.push v = (vs ++ [v]).toArray := by simp
  rw [e3] at N'
  refine h _ ⟨m', Mc, Mh, FR, ⟨F', ?_, ?_, r.frs, r.cells, r.cinj, r.heap, fun y Y hy hl => ?_, r.gens, r.drawn, r.os⟩⟩
  · have := eL (listOf (vs ++ [v]).toArray (k + 1))
    rw [this]; exact N'
  · have z := r.nd
    rw [eL] at z ⊢
    simp only [List.map_append, List.map_cons] at z ⊢
    exact z
  · cases r.locs y Y hy hl with
    | loc a b d => exact .loc a b d
    | cell a b d e g => exact .cell a b d e g
    | free a b d e g =>
      exfalso
      have a' : (relS scope S).names.lookup y = some .free := by rw [← relabel_eq F.scope]; exact a
      rcases relS_var hS ok (y := y) (by rw [a']; rfl) with ⟨h', _⟩ | h'
      · rw [h'] at a'; cases a'
      · rw [(relS_cap hS ok h').1] at a'; cases a'
theorem comp_head {pin : Led} {C Da I : Addr} {m : Str → Option Value} {M2 : Led} {wr : List Addr} {N : Nat} {T : Nat → Om → Heap → Prop} {It : Nat → V} {p : Pos} {b : Bool} {i : Nat} {R : Result → Shared → Prop} {acc : Obj} {loc : List (Nat × V)} (hS : S.kind = .function) (F : FmOk c S n f) (ok : CompOk S scope x) (hd : lk (key dot0) σ.loc = none) (hpin : PinsIn pin σ.heap)
    (W : Itr c f.A n I wr pin (.Name x p) N T It) (hi : i < N) (e0 : It i = X) (h1 : IfsB c (relS scope S) n ifs ⟨(key x, X) :: σ.loc, σ.heap⟩ b)
    (B : Beside c n (f.comp scope C m Da acc M2) wr ω ⟨loc, σ.heap⟩ s) (t : T i ω s.heap) (hloc : ∀ y, Cap scope y → lk (key y) loc = lk (key y) σ.loc)
    (h : ∀ ω' s' kp', kp'.map (·.1) = wr → Ext (n + 1) ω ω' → RelE c n ((f.comp scope C m Da acc M2).more kp') ω' ⟨(key x, X) :: σ.loc, σ.heap⟩ s' →
      (∀ ω'' s'' acc', Ext (n + 1) ω' ω'' → RelE c n ((f.comp scope C m Da acc' M2).more kp') ω'' ⟨(key x, X) :: σ.loc, σ.heap⟩ s'' → T (i + 1) ω'' s''.heap) →
      if b = true then wpAny (model c.prog c.w) f.A (eval elt (compEnvC scope (closL f.env.cells scope.names []) C f.env)) (fun xv s₄ =>
              wpAny (model c.prog c.w) f.A (call (.builtin "list.append") [.ref Da, xv]) (fun _ s₅ => codeAny (model c.prog c.w) f.A (.compLoop (.ListComp elt [⟨.Name x p, iter, ifs, 0⟩] scope pos) 0 (.ref I) (.ref Da) (compEnvC scope (closL f.env.cells scope.names []) C f.env)) R s₅) (notedBy (model c.prog c.w) f.A (compEnvC scope (closL f.env.cells scope.names []) C f.env) fun e s' => R (.error e) s') s₄) (notedBy (model c.prog c.w) f.A (compEnvC scope (closL f.env.cells scope.names []) C f.env) fun e s' => R (.error e) s') s'
      else codeAny (model c.prog c.w) f.A (.compLoop (.ListComp elt [⟨.Name x p, iter, ifs, 0⟩] scope pos) 0 (.ref I) (.ref Da) (compEnvC scope (closL f.env.cells scope.names []) C f.env)) R s') :
    codeAny (model c.prog c.w) f.A (.compLoop (.ListComp elt [⟨.Name x p, iter, ifs, 0⟩] scope pos) 0 (.ref I) (.ref Da) (compEnvC scope (closL f.env.cells scope.names []) C f.env)) R s := by
  have xl : (relS scope S).names.lookup x = some .local := by rw [relS_lookup, ok.x]; rfl
  obtain ⟨kp, ek, R0⟩ := B
  subst ek
  have FC := F.comp (C := C) (m := m) (D := Da) (acc := acc) (M2 := M2) hS ok
  refine code_comp (wpAny_mono (W.step i ω s (fun v s₂ => wpAny (model c.prog c.w) f.A (assign (.Name x p) (compEnvC scope (closL f.env.cells scope.names []) C f.env) v) (fun _ s₂ =>
          wpAny (model c.prog c.w) f.A (testsM ifs (compEnvC scope (closL f.env.cells scope.names []) C f.env)) (fun ok s₃ =>
            if ok = true then wpAny (model c.prog c.w) f.A (eval elt (compEnvC scope (closL f.env.cells scope.names []) C f.env)) (fun xv s₄ =>
              wpAny (model c.prog c.w) f.A (call (.builtin "list.append") [.ref Da, xv]) (fun _ s₅ => codeAny (model c.prog c.w) f.A (.compLoop (.ListComp elt [⟨.Name x p, iter, ifs, 0⟩] scope pos) 0 (.ref I) (.ref Da) (compEnvC scope (closL f.env.cells scope.names []) C f.env)) R s₅) (notedBy (model c.prog c.w) f.A (compEnvC scope (closL f.env.cells scope.names []) C f.env) fun e s' => R (.error e) s') s₄) (notedBy (model c.prog c.w) f.A (compEnvC scope (closL f.env.cells scope.names []) C f.env) fun e s' => R (.error e) s') s₃
            else codeAny (model c.prog c.w) f.A (.compLoop (.ListComp elt [⟨.Name x p, iter, ifs, 0⟩] scope pos) 0 (.ref I) (.ref Da) (compEnvC scope (closL f.env.cells scope.names []) C f.env)) R s₃) (notedBy (model c.prog c.w) f.A (compEnvC scope (closL f.env.cells scope.names []) C f.env) fun e s' => R (.error e) s') s₂) (notedBy (model c.prog c.w) f.A (compEnvC scope (closL f.env.cells scope.names []) C f.env) fun e s' => R (.error e) s') s₂) _ hi t fun l v h' tk g1 g2 gv gt gk => ?_) (fun r s₁ q => ?_) fun _ _ x => x)
  · obtain ⟨kp', ek', hk'⟩ := live_list (W.live _ _ _ gt)
    have R1 := RelE.turn (kp' := kp') (tk := tk) FC R0 gk (by rw [ek']; exact List.Sublist.refl _) hk' g1 g2
    have X1 : Ext (n + 1) ω { ω with Z := l ++ ω.Z } := Ext.frz _ ω l
    refine wpAny_assign_Name (store_name (FC.more kp') R1 (.inl xl) (e0 ▸ gv) (fun s₂ R₂ => ?_) (FC.cellsOk x))
    have R3 := R₂.reloc (loc' := (key x, X) :: σ.loc) fun y Y hy hl => by
      have hy' : isVar ((relS scope S).names.lookup y) = true := by rw [← relabel_eq F.scope]; exact hy
      have hl' : (bif key x == key y then some X else lk (key y) σ.loc) = some Y := hl
      show (bif key x == key y then some X else lk (key y) loc) = some Y
      cases q : (key x == key y) with
      | true => rw [q] at hl'; exact hl'
      | false =>
        rw [q] at hl'
        rcases relS_var hS ok hy' with ⟨_, rfl | rfl⟩ | hc
        · simp at q
        · have hl' : lk (key dot0) σ.loc = some Y := hl'
          rw [hd] at hl'; cases hl'
        · exact (hloc y hc).trans hl'
    refine ifs_run h1 (FC.more kp') R3 fun ω₄ s₄ e₄ R₄ => h ω₄ s₄ kp' ek' (X1.trans e₄) R₄ fun ω₅ s₅ acc' e₅ R₅ => ?_
    refine W.frame _ _ _ _ _ _ gt (e₄.trans e₅) fun b o hb hbo => ?_
    rcases hb with hb | hb | hb
    · obtain ⟨m, Mc, Mh, FR, r⟩ := R₅
      rw [← ek'] at hb
      obtain ⟨p, hp, rfl⟩ := List.mem_map.mp hb
      have z := r.nw p (List.mem_append_right _ (List.mem_append_right _ (List.mem_append_right _ (List.mem_append_right _ (List.mem_append_left _ hp)))))
      have y := hk' p hp
      have : some o = some p.2 := hbo.symm.trans y
      cases this; exact z.1
    · have y := R1.fz hb
      have z := R₅.fz ((e₄.trans e₅).fz _ _ hb)
      exact (hbo.symm.trans y) ▸ z
    · exact R₅.pin hpin hb
  · cases r with
    | none => exact q.elim
    | some v => exact q
theorem comp_loop {pin : Led} {C Da I : Addr} {m : Str → Option Value} {M2 : Led} {wr : List Addr} {N : Nat} {T : Nat → Om → Heap → Prop} {It : Nat → V} {p : Pos} {ds : List D} (hS : S.kind = .function) (F : FmOk c S n f) (ok : CompOk S scope x) (hd : lk (key dot0) σ.loc = none) (hpin : PinsIn pin σ.heap)
    (W : Itr c f.A n I wr pin (.Name x p) N T It) (hC : CompIs c (relS scope S) n ifs elt x σ Xs ds) : ∀ i, i + Xs.length = N → (∀ j X, Xs[j]? = some X → It (i + j) = X) → ∀ (ω : Om) s R (loc : List (Nat × V)) (done : List D) (vs : List Value) (k : Nat), done.length + Xs.length ≤ 10000 →
    DRs c.hs (fz c ω) done vs → Beside c n (f.comp scope C m Da (listOf vs.toArray k) M2) wr ω ⟨loc, σ.heap⟩ s → T i ω s.heap → (∀ y, Cap scope y → lk (key y) loc = lk (key y) σ.loc) →
    (∀ ω' s' loc' vs' k' kp', Ext (n + 1) ω ω' → RelE c n ((f.comp scope C m Da (listOf vs'.toArray k') M2).more kp') ω' ⟨loc', σ.heap⟩ s' → (∀ y, Cap scope y → lk (key y) loc' = lk (key y) σ.loc) → DRs c.hs (fz c ω') (done ++ ds) vs' → R (.ok .next) s') →
    codeAny (model c.prog c.w) f.A (.compLoop (.ListComp elt [⟨.Name x p, iter, ifs, 0⟩] scope pos) 0 (.ref I) (.ref Da) (compEnvC scope (closL f.env.cells scope.names []) C f.env)) R s := by
  have xl : (relS scope S).names.lookup x = some .local := by rw [relS_lookup, ok.x]; rfl
  have nokey : ∀ y, Cap scope y → key y ≠ key x := fun y hy e => by
    have e := ok.keys y x (by rw [(relS_cap hS ok hy).1]; rfl) (by rw [xl]; rfl) e
    subst e
    rw [(relS_cap hS ok hy).1] at xl; cases xl
  have inv2 : ∀ X y, Cap scope y → lk (key y) ((key x, X) :: σ.loc) = lk (key y) σ.loc := fun X y hy => by
    show (bif key x == key y then some X else lk (key y) σ.loc) = _
    rw [show (key x == key y) = false by simpa using fun e => nokey y hy e.symm]; rfl
  induction hC with
  | nil =>
    intro i hi hX ω s R loc done vs k hlen hds B t hloc h
    obtain ⟨kp, ek, R0⟩ := B
    have e : i = N := by simpa using hi
    subst e
    refine code_comp (wpAny_mono (W.done ω s (fun s' => R (.ok .next) s') _ t fun h' tk hk => ?_) (fun r s₁ q => ?_) fun _ _ x => x)
    · subst ek
      have R2 := RelE.turn (kp' := []) (l := []) (tk := tk) (F.comp (C := C) (m := m) (D := Da) (acc := listOf vs.toArray k) (M2 := M2) hS ok) R0 hk (List.nil_sublist _) (fun _ h => nomatch h) (fun _ h => nomatch h) List.nodup_nil
      refine h ω _ loc vs k _ (.refl ..) R2 hloc (by rw [List.append_nil]; exact hds)
    · cases r with
      | none => exact q
      | some v => exact q.elim
  | @skip X Xs ds h1 h2 ih =>
    intro i hi hX ω s R loc done vs k hlen hds B t hloc h
    have e0 : It i = X := hX 0 X rfl
    rw [List.length_cons] at hi hlen
    refine comp_head hS F ok hd hpin W (by omega) e0 h1 B t hloc fun ω₁ s₁ kp₁ ek₁ e₁ R₁ ht => ?_
    simp only [Bool.false_eq_true, if_false]
    exact ih (i + 1) (by omega) (fun j Y hj => by rw [Nat.add_assoc, Nat.add_comm 1 j]; exact hX (j + 1) Y (by simpa using hj)) ω₁ s₁ R _ done vs k (by omega) (hds.mono e₁.fz) ⟨kp₁, ek₁, R₁⟩ (ht ω₁ s₁ _ (.refl ..) R₁) (inv2 X) fun ω' s' loc' vs' k' kp' e' => h ω' s' loc' vs' k' kp' (e₁.trans e')
  | @take X d Xs ds h1 h2 h3 ih =>
    intro i hi hX ω s R loc done vs k hlen hds B t hloc h
    have e0 : It i = X := hX 0 X rfl
    rw [List.length_cons] at hi hlen
    refine comp_head hS F ok hd hpin W (by omega) e0 h1 B t hloc fun ω₁ s₁ kp₁ ek₁ e₁ R₁ ht => ?_
    simp only [if_true]
    have FC := F.comp (C := C) (m := m) (D := Da) (acc := listOf vs.toArray k) (M2 := M2) hS ok
    refine h2 _ (FC.more kp₁) ω₁ s₁ _ _ R₁ fun ω₂ v s₂ e₂ R₂ A₂ => ?_
    cases A₂ with
    | d A₂ =>
      refine acc_append hS F ok R₂ (by rw [hds.length]; omega) fun s₃ R₃ => ?_
      have hds' : DRs c.hs (fz c ω₂) (done ++ [d]) (vs ++ [v]) := (hds.mono (e₁.trans e₂).fz).append (.cons A₂ .nil)
      refine ih (i + 1) (by omega) (fun j Y hj => by rw [Nat.add_assoc, Nat.add_comm 1 j]; exact hX (j + 1) Y (by simpa using hj)) ω₂ s₃ R _ (done ++ [d]) (vs ++ [v]) (k + 1) (by rw [List.length_append, List.length_singleton]; omega) hds' ⟨kp₁, ek₁, R₃⟩ (ht ω₂ s₃ _ e₂ R₃) (inv2 X) fun ω' s' loc' vs' k' kp' e' R' hl' hd' => h ω' s' loc' vs' k' kp' ((e₁.trans e₂).trans e') R' hl' (by rw [List.append_assoc] at hd'; exact hd')
end
end Mine
namespace Mine
open PySem PySem.W PyProof.Rows PySem.Calls PySem.Spec
section
variable {c : Cx} {S scope : Scope} {n : Nat} {σ σ' σ₁ σ₂ σ₃ σ₄ : St} {X Y Z : V} {e l r t test target iter fn elt : Expr} {es ifs : List Expr} {Xs : List V} {pos tpos : Pos} {x y : Str} {f : Fm} {ω : Om} {s : Shared} {ds : List D} {p : Pos}
theorem ev_comp {pin : Led} (h1 : EvIt c S n iter (.Name x p) pin σ Xs σ₁) (h2 : CompIs c (relS scope S) n ifs elt x σ₁ Xs ds) (hok : compOk S scope x = true) (hd : lk (key dot0) σ₁.loc = none) (hlen : Xs.length ≤ 10000) (hs : notSet iter = true := by rfl) (hpin : PinsIn pin σ₁.heap := by exact pins_nil) :
    Ev c S n (.ListComp elt [⟨.Name x p, iter, ifs, 0⟩] scope pos) σ (.d (.lst ds)) σ₁ := fun f F ω s Q E R h => by
  have ok := comp_ok hok
  rw [eval_ListComp]
  refine wpAny_comprehension_free (use := none) rfl (fun x => folded_no hs) (closure_eq fun p hp hf => ?_) ok.kind (fun p hp hl => (ok.loc p hp hl).1) (h1 f F ω s _ _ R fun ω₁ I s₁ wr T It e₁ B W hI t => ?_)
  · obtain ⟨a, ha⟩ := F.cellsOk p.1 (ok.free p hp hf).1
    exact ⟨a, ha⟩
  · obtain ⟨kp, ek, R₁⟩ := B
    obtain ⟨m, Mc, Mh, FR, r⟩ := id R₁
    refine wpAny_newObj_type (wpAny_newFunctionEnv ok.nocell (by intro y hy; simp at hy) (fun h₁ hns₁ hsb₁ => ?_) ok.kind)
    have R₂ := comp_enter (tk := s₁.toks + ([] : List (Str × Value)).length) F.kind F ok r (acc := listOf (#[] : Array Value) 0) rfl hns₁ hsb₁
    have tI : T 0 ω₁ h₁ := W.frame 0 0 ω₁ ω₁ s₁.heap h₁ t (.refl ..) fun b o hb e => by
      have e2 : (s₁.heap.push (listOf (#[] : Array Value) 0)).get? b = some o := Heap.get?_push_of_some _ e
      exact hsb₁.extBut b o (Nat.ne_of_lt (Heap.lt_size e2)) (Heap.get?_push_of_some _ e2)
    have run : ∀ s₂ : Shared, s₂ = { s₁ with heap := h₁, toks := s₁.toks + ([] : List (Str × Value)).length } → codeAny (model c.prog c.w) f.A (.compLoop (.ListComp elt [⟨.Name x p, iter, ifs, 0⟩] scope pos) 0 (.ref I) (.ref s₁.heap.objs.size) (compEnvC scope (closL f.env.cells scope.names []) (s₁.heap.push (listOf (#[] : Array Value) 0)).objs.size f.env))
        (compPost (model c.prog c.w) f.A E none Q (.ref s₁.heap.objs.size) (s₁.heap.push (listOf (#[] : Array Value) 0)).objs.size) s₂ := by
      rintro s₂ rfl
      refine comp_loop F.kind F ok hd hpin W h2 0 (Nat.zero_add _) (fun j X hj => by rw [Nat.zero_add]; exact hI j X hj) ω₁ _ _ (capL scope σ₁.loc) [] [] 0 (by simpa using hlen) .nil ⟨kp, ek, R₂⟩ tI (fun y hy => capL_cap hy) fun ω' s' loc' vs' k' kp' e' R' hl' hd' => ?_
      have e2 : Ext (n + 1) ω₁ ω' := e'
      obtain ⟨m', _, _, _, r'⟩ := id R'
      refine ⟨m', r'.fr.ns, fun h'' hs'' => ?_⟩
      have R₃ := comp_leave (tk := s'.toks) F.kind F ok r R' e' hl' hs''
      refine h { ω' with Z := (s₁.heap.objs.size, listOf vs'.toArray k') :: ω'.Z } _ _ (e₁.trans (e'.trans (Ext.frz _ ω' [_]))) R₃ (.d ?_)
      exact .lst (o := listOf vs'.toArray k') (n := k') (.inl (.head _)) rfl rfl (hd'.mono (Ext.frz 0 ω' [_]).fz)
    exact codeAny_compStart_list (run _ rfl) (W.self 0 ω₁ _ _ _ tI (run _ rfl))
end
end Mine
namespace Mine
open PySem PySem.W PyProof.Rows PySem.Calls PySem.Spec
def toDs : List V → Option (List D)
  | [] => some []
  | .d d :: Xs => match toDs Xs with
    | some ds => some (d :: ds)
    | none => none
  | _ :: _ => none
theorem toDs_map {Xs : List V} {ds : List D} (h : toDs Xs = some ds) : Xs = ds.map V.d := by
  induction Xs generalizing ds with
  | nil => cases h; rfl
  | cons X Xs ih =>
    cases X with
    | d d =>
      unfold toDs at h
      cases q : toDs Xs with
      | none => rw [q] at h; cases h
      | some l => rw [q] at h; cases h; rw [ih q]; rfl
    | _ => cases h
theorem VRs.toD {c : Cx} {n : Nat} {ω : Om} {ds : List D} {vs : List Value} (h : VRs c n ω (ds.map V.d) vs) : DRs c.hs (fz c ω) ds vs := by
  induction ds generalizing vs with
  | nil => cases h; exact .nil
  | cons d ds ih => cases h with | cons a b => cases a with | d a => exact .cons a (ih b)
section
variable {c : Cx} {S : Scope} {n : Nat} {σ σ' σ₁ σ₂ σ₃ σ₄ : St} {X Y Z : V} {e l r t test target iter fn : Expr} {es : List Expr} {Xs : List V} {pos tpos : Pos} {st : Stmt} {sts : List Stmt} {fl fl' : Fl} {x y : Str} {body orelse : List Stmt} {i : Nat} {ds ds' : List D} {d d' : D}
theorem sz {k : Nat} (h : k ≤ 10000) : k ≤ sizeLine := Nat.le_trans h (by decide)
theorem op_tuple (hd : toDs Xs = some ds := by rfl) (hl : ds.length ≤ 10000 := by exact Nat.le_of_ble_eq_true rfl) : OpN c n newTuple Xs σ (.d (.tup ds)) σ := fun S f F ω s Q E vs R A h => by
  obtain ⟨m, Mc, Mh, FR, r⟩ := R
  rw [toDs_map hd] at A
  have A' := A.toD
  refine newTuple_N r.fr r.nw (fun h' F' N' => ?_) (sz (by rw [A'.length]; exact hl))
  have e := Ext.frz (n + 1) ω [(s.heap.objs.size, ({ cls := .type "tuple", data := .seq vs.toArray } : Obj))]
  refine h _ _ _ e ⟨m, Mc, Mh, FR, r.frz (k := s.toks) F' N' r.lt⟩ (.d ?_)
  exact .tup (n := 0) (.inl (.head _)) rfl rfl (A'.mono e.fz)
theorem op_list (hd : toDs Xs = some ds := by rfl) (hl : ds.length ≤ 10000 := by exact Nat.le_of_ble_eq_true rfl) : OpN c n newList Xs σ (.d (.lst ds)) σ := fun S f F ω s Q E vs R A h => by
  obtain ⟨m, Mc, Mh, FR, r⟩ := R
  rw [toDs_map hd] at A
  have A' := A.toD
  refine newList_N r.fr r.nw (fun h' F' N' => ?_) (sz (by rw [A'.length]; exact hl))
  have e := Ext.frz (n + 1) ω [(s.heap.objs.size, ({ cls := .type "list", data := .seq vs.toArray } : Obj))]
  refine h _ _ _ e ⟨m, Mc, Mh, FR, r.frz (k := s.toks) F' N' r.lt⟩ (.d ?_)
  exact .lst (n := 0) (.inl (.head _)) rfl rfl (A'.mono e.fz)
theorem RelE.grow {f : Fm} {ω : Om} {s : Shared} {h' : Heap} {k : Tok} (R : RelE c n f ω σ s) (hk : ∀ b o, s.heap.get? b = some o → h'.get? b = some o) : RelE c n f ω σ { s with heap := h', toks := k } := by
  have z := RelE.fresh (kp := []) (k := k) R hk (fun _ h => nomatch h) List.nodup_nil
  rwa [more_nil] at z
inductive Ass (c : Cx) (S : Scope) (n : Nat) : List Expr → List D → St → St → Prop
  | nil {σ : St} : Ass c S n [] [] σ σ
  | cons {t : Expr} {ts : List Expr} {d : D} {ds : List D} {σ σ₁ σ₂ : St} : notStar t = true → As c S n t (.d d) σ σ₁ → Ass c S n ts ds σ₁ σ₂ → Ass c S n (t :: ts) (d :: ds) σ σ₂
theorem assignEach_plain {t : Expr} {ts : List Expr} {env : Env} (h : notStar t = true) : assignEach (t :: ts) env = (false, assign t env) :: assignEach ts env := by
  cases t <;> first | rfl | cases h
theorem ass_shape {ts : List Expr} (h : Ass c S n ts ds σ σ') (env : Env) : (assignEach ts env).length = ds.length ∧ (assignEach ts env).findIdx? (·.1) = none := by
  induction h with
  | nil => exact ⟨rfl, rfl⟩
  | cons hs _ _ ih => rw [assignEach_plain hs]; simp [ih.1, List.findIdx?_cons, ih.2]
theorem ass_run {ts : List Expr} (h : Ass c S n ts ds σ σ') : ∀ f, FmOk c S n f → ∀ ω s (Q : Unit → Shared → Prop) E vs, RelE c n f ω σ s → DRs c.hs (fz c ω) ds vs →
    (∀ ω' s', Ext n ω ω' → RelE c n f ω' σ' s' → Q () s') → wpAny (model c.prog c.w) f.A (assignInOrder ((assignEach ts f.env).map (·.2)) vs) Q E s := by
  induction h with
  | nil =>
    intro f F ω s Q E vs R A h
    cases A
    exact wpAny_pure (h ω s (.refl ..) R)
  | @cons t ts d ds σ σ₁ σ₂ hs h1 h2 ih =>
    intro f F ω s Q E vs R A h
    cases A with
    | @cons _ v _ vs a b =>
      rw [assignEach_plain hs]
      show wpAny _ _ (do holding vs (assign t f.env v); assignInOrder ((assignEach ts f.env).map (·.2)) vs) Q E s
      exact wpAny_bind (wpAny_holding (h1 f F ω s _ _ v R (.d a) fun ω₁ s₁ e₁ R₁ => ih f F ω₁ s₁ Q E vs R₁ (b.mono e₁.fz) fun ω₂ s₂ e₂ R₂ => h ω₂ s₂ (e₁.trans e₂) R₂))
theorem as_tup {k : Nat} {ts : List Expr} (hc : c.calm = true) (h : Ass c S n ts ds σ σ') : As c S n (.Tuple ts k pos) (.d (.tup ds)) σ σ' := fun f F ω s Q E v R A h' => by
  cases A with
  | d A =>
    cases A with
    | @tup a o vs k' _ hz hoc hod hds =>
      have ho := R.fz hz
      obtain ⟨s1, s2⟩ := ass_shape h f.env
      refine assign_Tuple_tuple (F.hand hc) (items := vs.toArray) ⟨o, ho, hoc, k', hod⟩ (by rw [s1, List.size_toArray, hds.length]) s2 fun h₁ he => ?_
      refine ass_run h f F ω _ Q E vs (R.grow (h' := h₁) (k := s.toks) fun b o e => he b o (Nat.ne_of_lt (Heap.lt_size e)) e) hds h'
end
end Mine
namespace Mine
open PySem PySem.W PyProof.Rows PySem.Calls PySem.Spec
def EvP (c : Cx) (S : Scope) (n : Nat) : Option Expr → St → Option Int → St → Prop
  | none, σ, p, σ' => p = none ∧ σ' = σ
  | some e, σ, p, σ' => ∃ i, p = some i ∧ Ev c S n e σ (.d (.int i)) σ'
def sliceS (x : Str) (l u st : Option Int) : Str :=
  if (st.getD 1 == 1 && (PySem.Builtin.Str.strSliceIndices l u (st.getD 1) x.length).length == x.length) = true then x else ⟨((PySem.Builtin.Str.strSliceIndices l u (st.getD 1) x.length).filterMap (x.cps[·]?)).toArray⟩
def sliceD (l : List D) (lo hi st : Option Int) : List D :=
  (sliceRange (sliceBounds lo hi st l.length).1 (sliceBounds lo hi st l.length).2.1 (sliceBounds lo hi st l.length).2.2).filterMap (l[·]?)
theorem DRs.none {κ : Str → Int} {Z : Fz} {l : List D} {vs : List Value} (h : DRs κ Z l vs) {i : Nat} (hi : l[i]? = none) : vs[i]? = none := by
  have e := h.length
  simp only [List.getElem?_eq_none_iff] at hi ⊢
  omega
theorem DRs.pick {κ : Str → Int} {Z : Fz} {l : List D} {vs : List Value} (h : DRs κ Z l vs) (is : List Nat) : DRs κ Z (is.filterMap (l[·]?)) (is.filterMap (vs[·]?)) := by
  induction is with
  | nil => exact .nil
  | cons i is ih =>
    cases q : l[i]? with
    | none => rw [List.filterMap_cons, List.filterMap_cons, q, h.none q]; exact ih
    | some d =>
      obtain ⟨v, h1, h2⟩ := h.get q
      rw [List.filterMap_cons, List.filterMap_cons, q, h1]; exact .cons h2 ih
section
variable {c : Cx} {S : Scope} {n : Nat} {σ σ' σ₁ σ₂ σ₃ σ₄ : St} {X Y Z : V} {e l r t test target iter fn : Expr} {es : List Expr} {Xs : List V} {pos tpos : Pos} {st : Stmt} {sts : List Stmt} {fl fl' : Fl} {x y : Str} {body orelse : List Stmt} {ds ds' : List D} {d d' : D} {i k : Int} {j : Nat}
theorem evp_run {o : Option Expr} {p : Option Int} (h : EvP c S n o σ p σ') : ∀ f, FmOk c S n f → ∀ ω s (Q : Value → Shared → Prop) E, RelE c n f ω σ s →
    (∀ ω' v s', Ext (n + 1) ω ω' → RelE c n f ω' σ' s' → (∃ u : Option (Int × Tok), u.map (·.1) = p ∧ v = partValue u) → Q v s') → wpAny (model c.prog c.w) f.A (evalPart o f.env) Q E s := by
  intro f F ω s Q E R k
  cases o with
  | none =>
    obtain ⟨rfl, rfl⟩ := h
    rw [evalPart_none]
    exact wpAny_pure (k ω _ s (.refl ..) R ⟨none, rfl, rfl⟩)
  | some e =>
    obtain ⟨i, rfl, h⟩ := h
    rw [evalPart_some]
    refine h f F ω s _ _ R fun ω' v s' e' R' A => k ω' v s' e' R' ?_
    cases A with | d A => cases A with | int _ t => exact ⟨some (i, t), rfl, rfl⟩
theorem ev_slice {lo hi st : Option Expr} {p q u : Option Int} {sp : Pos} (h1 : Ev c S n l σ X σ₁) (h2 : EvP c S n lo σ₁ p σ₂) (h3 : EvP c S n hi σ₂ q σ₃) (h4 : EvP c S n st σ₃ u σ₄)
    (h5 : ∀ S f, FmOk c S n f → ∀ ω s (Q : Value → Shared → Prop) E x a (p' q' u' : Option (Int × Tok)), p'.map (·.1) = p → q'.map (·.1) = q → u'.map (·.1) = u → RelE c n f ω σ₄ s → VR c n ω X x → s.heap.IsSliceOf a (partValue p') (partValue q') (partValue u') →
      (∀ ω' v s', Ext (n + 1) ω ω' → RelE c n f ω' σ₄ s' → VR c n ω' Z v → Q v s') → wpAny (model c.prog c.w) f.A (subscriptTail l (.Slice lo hi st sp) x (.ref a)) Q E s) : Ev c S n (.Subscript l (.Slice lo hi st sp) pos) σ Z σ₄ := fun f F ω s Q E R h => by
  refine Subscript_ (h1 f F ω s _ _ R fun ω₁ x s₁ e₁ R₁ A₁ => wpAny_Slice (evp_run h2 f F ω₁ s₁ _ _ R₁ fun ω₂ v₂ s₂ e₂ R₂ A₂ => evp_run h3 f F ω₂ s₂ _ _ R₂ fun ω₃ v₃ s₃ e₃ R₃ A₃ => evp_run h4 f F ω₃ s₃ _ _ R₃ fun ω₄ v₄ s₄ e₄ R₄ A₄ => ?_))
  obtain ⟨p', g1, rfl⟩ := A₂
  obtain ⟨q', g2, rfl⟩ := A₃
  obtain ⟨u', g3, rfl⟩ := A₄
  have e1 := e₁.trans (e₂.trans (e₃.trans e₄))
  have R5 := R₄.push (o := { cls := .type "slice", data := .fields #[partValue p', partValue q', partValue u'] }) (k := s₄.toks) (by rfl)
  have X5 : Ext (n + 1) ω₄ _ := Ext.frz (n + 1) ω₄ [(s₄.heap.objs.size, ({ cls := .type "slice", data := .fields #[partValue p', partValue q', partValue u'] } : Obj))]
  refine h5 S f F _ _ _ _ x _ p' q' u' g1 g2 g3 R5 ((A₁.ext (e₂.trans (e₃.trans e₄))).ext X5) ⟨_, Heap.get?_push_size _ rfl, rfl, rfl⟩ fun ω' v s' e' R' B => h ω' v s' (e1.trans (X5.trans e')) R' B
theorem ev_slice_str {lo hi st : Option Expr} {p q u : Option Int} {sp : Pos} (h1 : Ev c S n l σ (.d (.str x)) σ₁) (h2 : EvP c S n lo σ₁ p σ₂) (h3 : EvP c S n hi σ₂ q σ₃) (h4 : EvP c S n st σ₃ u σ₄) (h0 : u ≠ some 0) (hlen : (sliceS x p q u).length ≤ 10000)
    (hs : ∀ o i, ∃ ops, subscripted (.Slice lo hi st sp) false o i = operate ops (getItem o i) := by intro o i; exact ⟨_, rfl⟩) : Ev c S n (.Subscript l (.Slice lo hi st sp) pos) σ (.d (.str (sliceS x p q u))) σ₄ := by
  refine ev_slice h1 h2 h3 h4 fun S f F ω s Q E xv a p' q' u' g1 g2 g3 R A hsl h => ?_
  cases A with | d A => cases A with | str _ t =>
  obtain ⟨ops, hs⟩ := hs (.str x t) (.ref a)
  refine tail_any (typeIs_str _ x t) PySem.F.slot_str_getitem.lookup (wpAny_getItem_str_slice (l := p') (u := q') (st := u') hsl ?_ ?_) hs
  · rw [g3]
    cases u with
    | none => rfl
    | some z =>
      have : z ≠ 0 := fun e => h0 (by rw [e])
      simpa using this
  · have e0 : slicePicked x p' q' u' = PySem.Builtin.Str.strSliceIndices p q (u.getD 1) x.length := by unfold slicePicked; rw [g1, g2, g3]
    have fin : ∀ t' k, Q (.str (sliceS x p q u) t') { s with toks := k } := fun t' k => h ω _ _ (.refl ..) R.toks (.d (.str _ _))
    unfold sliceMade
    rw [e0, g3]
    have e2 := fin
    unfold sliceS at e2 hlen
    split
    · rename_i hc; rw [if_pos hc] at e2; exact e2 t s.toks
    · rename_i hc; rw [if_neg hc] at e2 hlen; exact ⟨sz hlen, e2 s.toks (s.toks + 1)⟩
theorem part_is {u : Option (Int × Tok)} {p : Option Int} (h : u.map (·.1) = p) : IsPart (partValue u) p := by
  subst h
  cases u with
  | none => exact .none
  | some z => exact .int z.1 z.2
theorem ev_slice_list {lo hi st : Option Expr} {p q u : Option Int} {sp : Pos} (h1 : Ev c S n l σ (.d (.lst ds)) σ₁) (h2 : EvP c S n lo σ₁ p σ₂) (h3 : EvP c S n hi σ₂ q σ₃) (h4 : EvP c S n st σ₃ u σ₄) (h0 : u ≠ some 0) (hlen : ds.length ≤ 10000)
    (hs : ∀ o i, ∃ ops, subscripted (.Slice lo hi st sp) false o i = operate ops (getItem o i) := by intro o i; exact ⟨_, rfl⟩) : Ev c S n (.Subscript l (.Slice lo hi st sp) pos) σ (.d (.lst (sliceD ds p q u))) σ₄ := by
  refine ev_slice h1 h2 h3 h4 fun S f F ω s Q E xv a p' q' u' g1 g2 g3 R A hsl h => ?_
  cases A with | d A => cases A with | @lst b o vs k _ hz hoc hod hds =>
  obtain ⟨ops, hs⟩ := hs (.ref b) (.ref a)
  have hL : s.heap.IsList b vs.toArray := ⟨o, R.fz hz, hoc, k, hod⟩
  refine tail_any hL.typeIs slot_list_getitem.lookup (wpAny_getItem_list_slice hL hsl (part_is g1) (part_is g2) (part_is g3) h0 ?_ (sz (by rw [List.size_toArray, hds.length]; exact hlen))) hs
  have R5 := R.push (o := { cls := .type "list", data := .seq (slicePick vs.toArray p q u) }) (k := s.toks) (by rfl)
  have X5 : Ext (n + 1) ω _ := Ext.frz (n + 1) ω [(s.heap.objs.size, ({ cls := .type "list", data := .seq (slicePick vs.toArray p q u) } : Obj))]
  refine h _ _ _ X5 R5 (.d ?_)
  have e : slicePick vs.toArray p q u = ((sliceRange (sliceBounds p q u ds.length).1 (sliceBounds p q u ds.length).2.1 (sliceBounds p q u ds.length).2.2).filterMap (vs[·]?)).toArray := by
    unfold slicePick
    rw [List.size_toArray, hds.length]
    simp
  exact .lst (o := { cls := .type "list", data := .seq (slicePick vs.toArray p q u) }) (n := 0) (.inl (.head _)) rfl (by rw [e]) ((hds.pick _).mono X5.fz)
theorem op_item_list (hj : seqIndex? k ds.length = some j) (hd : ds[j]? = some d) (hk : -1000000 ≤ k ∧ k < 1000000) (hs : ∀ o i, ∃ ops, subscripted r false o i = operate ops (getItem o i) := by intro o i; exact ⟨_, rfl⟩) :
    Op2 c n (subscriptTail l r) (.d (.lst ds)) (.d (.int k)) σ (.d d) σ := fun S f F ω s Q E xv yv R A B h => by
  cases A with | d A => cases A with | @lst b o vs kk _ hz hoc hod hds =>
  cases B with | d B => cases B with | int _ t =>
  obtain ⟨ops, hs⟩ := hs (.ref b) (.int k t)
  obtain ⟨v, hv, dv⟩ := hds.get hd
  have hL : s.heap.IsList b vs.toArray := ⟨o, R.fz hz, hoc, kk, hod⟩
  refine tail_any hL.typeIs slot_list_getitem.lookup ?_ hs
  have hsz : vs.toArray.size = ds.length := by rw [List.size_toArray, hds.length]
  unfold seqIndex? at hj
  by_cases hneg : k < 0
  · simp only [hneg, if_true] at hj
    split at hj
    · rename_i hc
      simp only [Bool.and_eq_true, decide_eq_true_eq] at hc
      have e : (k + ds.length).toNat = j := Option.some.inj hj
      exact wpAny_getItem_list_neg hL hneg (by rw [hsz]; omega) (by omega) (by rw [hsz, e]; simpa using hv) (h ω v s (.refl ..) R (.d dv))
    · cases hj
  · simp only [hneg, if_false] at hj
    split at hj
    · have e : k.toNat = j := Option.some.inj hj
      exact wpAny_getItem_list hL (by omega) (by omega) (by rw [e]; simpa using hv) (h ω v s (.refl ..) R (.d dv))
    · cases hj
theorem op_item_str {ch : Nat} (hc : (seqIndex? k x.length).bind (x.cps[·]?) = some ch) (hk : -1000000 ≤ k ∧ k < 1000000) (hs : ∀ o i, ∃ ops, subscripted r false o i = operate ops (getItem o i) := by intro o i; exact ⟨_, rfl⟩) :
    Op2 c n (subscriptTail l r) (.d (.str x)) (.d (.int k)) σ (.d (.str ⟨#[ch]⟩)) σ := fun S f F ω s Q E xv yv R A B h => by
  cases A with | d A => cases A with | str _ t =>
  cases B with | d B => cases B with | int _ u =>
  obtain ⟨ops, hs⟩ := hs (.str x t) (.int k u)
  exact tail_any (typeIs_str _ x t) PySem.F.slot_str_getitem.lookup (getItem_str (by simp only [Bool.or_eq_false_iff, decide_eq_false_iff_not]; omega) hc (h ω _ _ (.refl ..) R.toks (.d (.str _ _)))) hs
end
end Mine
namespace Mine
open PySem PySem.W PyProof.Rows PySem.Calls PySem.Spec
def delH (i : Nat) : List (Nat × HO) → List (Nat × HO)
  | [] => []
  | (k, x) :: l => bif k == i then l else (k, x) :: delH i l
section
variable {c : Cx} {S : Scope} {n : Nat} {σ σ' σ₁ σ₂ σ₃ σ₄ : St} {X Y Z : V} {e l r t test target iter fn : Expr} {es : List Expr} {Xs : List V} {pos tpos apos : Pos} {st : Stmt} {sts : List Stmt} {fl fl' : Fl} {x y : Str} {body orelse : List Stmt} {ds ds' : List D} {d d' : D} {i : Nat} {ho : HO}
theorem VRs.two {ω : Om} {vs : List Value} (h : VRs c n ω [X, Y] vs) : ∃ x y, vs = [x, y] ∧ VR c n ω X x ∧ VR c n ω Y y := by
  cases h with | cons a b => cases b with | cons b c => cases c; exact ⟨_, _, rfl, a, b⟩
theorem VRs.one {ω : Om} {vs : List Value} (h : VRs c n ω [X] vs) : ∃ x, vs = [x] ∧ VR c n ω X x := by
  cases h with | cons a b => cases b; exact ⟨_, rfl, a⟩
theorem VR.toObj {ω : Om} {v : Value} (h : VR c n ω (.obj i) v) : ∃ a, v = .ref a ∧ i < (n + 1) * 1000 ∧ ω.ρ i = some a := by
  cases h with | obj a b => exact ⟨_, rfl, a, b⟩
theorem VR.toD {ω : Om} {v : Value} (h : VR c n ω (.d d) v) : DR c.hs (fz c ω) d v := by
  cases h with | d a => exact a
def Fresh (i n : Nat) (σ : St) : Prop := n * 1000 ≤ i ∧ i < (n + 1) * 1000 ∧ lk i σ.heap = none ∧ ∀ k X, lk k σ.loc = some X → X.avoids i = true
theorem RelE.alloc {f : Fm} {ω : Om} {s : Shared} {o : Obj} {tk : Tok} (R : RelE c n f ω σ s) (hf : o.isFreed = false) (hi : Fresh i n σ)
    (hH : HOR c.hs (Mine.fz c ω) ho s.heap.objs.size [(s.heap.objs.size, o)]) : RelE c n f (ω.put i s.heap.objs.size) ⟨σ.loc, (i, ho) :: σ.heap⟩ { s with heap := s.heap.push o, toks := tk } := by
  obtain ⟨m, Mc, Mh, FR, r⟩ := R
  have N := r.nw.push r.fr o hf
  have perm : (Mc ++ (([(s.heap.objs.size, o)] ++ Mh) ++ (ω.Z ++ (FR ++ f.keep)))).Perm ((s.heap.objs.size, o) :: (Mc ++ (Mh ++ (ω.Z ++ (FR ++ f.keep))))) := by
    have e1 : Mc ++ (([(s.heap.objs.size, o)] ++ Mh) ++ (ω.Z ++ (FR ++ f.keep))) = Mc ++ ((s.heap.objs.size, o) :: (Mh ++ (ω.Z ++ (FR ++ f.keep)))) := by simp only [List.append_assoc, List.cons_append, List.nil_append]
    rw [e1]; exact List.perm_middle
  refine ⟨m, Mc, [(s.heap.objs.size, o)] ++ Mh, FR, ⟨r.fr.push o, fun p hp => N p (perm.subset hp), ?_, r.frs, r.cells, r.cinj, .cons Om.put_self hH (r.heap.put hi.2.2.1), fun y Y hy hl => ?_, r.gens, r.drawn, r.os⟩⟩
  · show ((Mc ++ (([(s.heap.objs.size, o)] ++ Mh) ++ (ω.Z ++ (FR ++ f.keep)))).map (·.1)).Nodup
    rw [(perm.map (·.1)).nodup_iff, List.map_cons, List.nodup_cons]
    refine ⟨fun hm => ?_, r.nd⟩
    obtain ⟨p, hp, e⟩ := List.mem_map.mp hm
    exact absurd (e ▸ r.lt p hp) (Nat.lt_irrefl _)
  · have av := hi.2.2.2 _ _ hl
    cases r.locs y Y hy hl with
    | loc a b d => exact .loc a b (d.put av)
    | cell a b d e g => exact .cell a b d e (g.put av)
    | free a b d e g => exact .free a b d e (g.put av)
theorem Ext.put {k : Nat} {ω : Om} {a : Addr} (h : k * 1000 ≤ i) : Ext k ω (ω.put i a) := ⟨fun j hj => by show (if j = i then _ else _) = _; rw [if_neg (by omega)], [], rfl⟩
theorem RelE.above {f : Fm} {ω : Om} {s : Shared} (R : RelE c n f ω σ s) (hC : CxOk c) : (s.heap.objs.size == sysModules) = false := by
  obtain ⟨m, Mc, Mh, FR, r⟩ := R
  have h1 := hC.low
  have h2 : c.base.objs.size ≤ s.heap.objs.size := Nat.le_of_lt (Nat.lt_of_le_of_lt r.fr.above r.fr.ns.lt)
  exact beq_eq_false_iff_ne.mpr (Nat.ne_of_gt (Nat.lt_of_lt_of_le h1 h2))
theorem ex_newlist (hv : isOwnVar (S.names.lookup x) = true) (h1 : Evs c S n es σ Xs σ₁) (hi : Fresh i n σ₁) (hd : toDs Xs = some ds := by rfl) (hl : ds.length ≤ 10000 := by exact Nat.le_of_ble_eq_true rfl) :
    Ex c S n (.Assign [.Name x tpos] (.List es pos) apos) σ .next (St.set ⟨σ₁.loc, (i, .lst ds) :: σ₁.heap⟩ x (.obj i)) := fun f F ω s Q E R h => by
  refine wpAny_Assign_Name (List_ (h1 pos f F ω s _ _ R fun ω₁ vs s₁ e₁ R₁ A₁ => ?_)) (swaps_no rfl)
  rw [toDs_map hd] at A₁
  have A' := A₁.toD
  refine wpAny_newObj_type ?_ (by show vs.toArray.size ≤ sizeLine; exact sz (by rw [List.size_toArray, A'.length]; exact hl))
  have R₂ := R₁.alloc (o := { cls := .type "list", data := .seq vs.toArray }) (tk := s₁.toks) (by rfl) hi (.lst (k := 0) A')
  have e₂ : Ext n ω₁ (ω₁.put i s₁.heap.objs.size) := Ext.put hi.1
  exact store_name F R₂ (isOwnVar_or hv) (.obj hi.2.1 Om.put_self) (fun s₃ R₃ => h _ .next s₃ (e₁.down.trans e₂) R₃ .next) (F.cellsOk x)
theorem ex_newdict (hC : CxOk c) (hv : isOwnVar (S.names.lookup x) = true) (hi : Fresh i n σ) :
    Ex c S n (.Assign [.Name x tpos] (.Dict [] [] pos) apos) σ .next (St.set ⟨σ.loc, (i, .dct []) :: σ.heap⟩ x (.obj i)) := fun f F ω s Q E R h => by
  refine wpAny_Assign_Name ?_ (swaps_no rfl)
  rw [eval_Dict_empty]
  refine wpAny_bind (wpAny_standAt (wpAny_newObj_type ?_ (Nat.zero_le _)))
  have R₂ := R.alloc (o := { cls := .type "dict", data := .dict #[] }) (ho := .dct []) (tk := s.toks) (by rfl) hi (.dct (es := []) (k := 0) (R.above hC) ⟨rfl, rfl, rfl⟩ rfl List.nodup_nil .nil)
  have e₂ : Ext n ω (ω.put i s.heap.objs.size) := Ext.put hi.1
  exact store_name F R₂ (isOwnVar_or hv) (.obj hi.2.1 Om.put_self) (fun s₃ R₃ => h _ .next s₃ e₂ R₃ .next) (F.cellsOk x)
theorem lst_at {f : Fm} {ω : Om} {s : Shared} {m : Str → Option Value} {Mc Mh FR : Led} {a : Addr} (r : Rel c n f ω σ s m Mc Mh FR) (hi : lk i σ.heap = some (.lst ds)) (ha : ω.ρ i = some a) :
    ∃ vs k M1 M2, Mh = M1 ++ ([(a, listOf vs.toArray k)] ++ M2) ∧ DRs c.hs (fz c ω) ds vs ∧ s.heap.get? a = some (listOf vs.toArray k) ∧ ∀ o' m', HOR c.hs (fz c ω) o' a m' → HR c.hs (fz c ω) ω.ρ (setH i o' σ.heap) (M1 ++ (m' ++ M2)) := by
  obtain ⟨M1, m1, M2, a', e, h1, h2, h3⟩ := r.heap.split hi
  have : a' = a := Option.some.inj (h1.symm.trans ha)
  subst this
  cases h2 with
  | @lst _ _ vs k hd =>
    refine ⟨vs, k, M1, M2, e, hd, ?_, h3⟩
    exact (r.nw (a', listOf vs.toArray k) (by rw [e]; simp)).1
theorem getm_lst {name : Str} {nm : String} (hs : Slot "list" name nm) (ht : typeOf (.builtin nm) = pure (.type "method_descriptor")) (hi : lk i σ.heap = some (.lst ds)) : GetM c n (.obj i) name σ (.builtin nm) := fun S f F ω s Q E x pl R A h => by
  cases A with
  | obj hb ha =>
    obtain ⟨m, Mc, Mh, FR, r⟩ := id R
    obtain ⟨vs, k, M1, M2, _, _, ho, _⟩ := lst_at r hi ha
    exact getMethod_list_of hs ht ⟨_, ho, rfl, k, rfl⟩ ⟨_, ho, rfl⟩ h
theorem op_append (hi : lk i σ.heap = some (.lst ds)) (hl : ds.length ≤ 9999) : OpN c n (fun vs => call (.builtin "list.append") vs) [.obj i, .d d] σ (.d .none) { σ with heap := setH i (.lst (ds ++ [d])) σ.heap } := fun S f F ω s Q E vs R A h => by
  obtain ⟨x, v, rfl, A, B⟩ := A.two
  obtain ⟨a, rfl, hb, ha⟩ := A.toObj
  have B := B.toD
  obtain ⟨m, Mc, Mh, FR, r⟩ := id R
  obtain ⟨ws, k, M1, M2, e, q, ho, hset⟩ := lst_at r hi ha
  have eL : ∀ o, Mc ++ ((M1 ++ ([(a, o)] ++ M2)) ++ (ω.Z ++ (FR ++ f.keep))) = (Mc ++ M1) ++ (a, o) :: (M2 ++ (ω.Z ++ (FR ++ f.keep))) := fun o => by simp only [List.append_assoc, List.cons_append, List.nil_append]
  obtain ⟨o1, o2⟩ := off_pre (by have := r.nd; rw [e, eL] at this; exact this)
  refine append_K r.fr (by have := r.nw; rw [e, eL] at this; exact this) (upd_of o1 o2) (fun h' F' N' => ?_) (sz (by rw [List.size_toArray, q.length]; omega))
  have e3 : ws.toArray.push v = (ws ++ [v]).toArray := by simp
  rw [e3] at N'
  refine h ω .none _ (.refl ..) ⟨m, Mc, _, FR, r.swap (tk := s.toks) (pre := M1) (post := M2) (a := a) (o := listOf ws.toArray k) (o' := listOf (ws ++ [v]).toArray (k + 1)) (by rw [e]; rfl) rfl F' ?_ ?_⟩ (.d .none)
  · rw [show M1 ++ (a, listOf (ws ++ [v]).toArray (k + 1)) :: M2 = M1 ++ ([(a, listOf (ws ++ [v]).toArray (k + 1))] ++ M2) from rfl, eL]; exact N'
  · exact hset _ _ (.lst (q.append (.one B)))
theorem t_lst (hl : ds.length ≤ 10000) : Tr c n (.d (.lst ds)) σ (!ds.isEmpty) := fun S f F ω s Q E x R A h => by
  cases A with | d A => cases A with | @lst a o vs k _ hz hoc hod hds =>
  have hL : s.heap.IsList a vs.toArray := ⟨o, R.fz hz, hoc, k, hod⟩
  have e2 : vs.toArray.isEmpty = ds.isEmpty := by cases hds <;> rfl
  exact wpAny_truthy_list hL (by rw [List.size_toArray, hds.length]; omega) (e2 ▸ h _ R.toks)
end
end Mine
namespace Mine
open PySem PySem.W PyProof.Rows PySem.Calls PySem.Spec
section
variable {c : Cx} {S : Scope} {n : Nat} {σ σ' σ₁ σ₂ σ₃ σ₄ : St} {X Y Z : V} {e l r t test target iter fn : Expr} {es : List Expr} {Xs : List V} {pos tpos : Pos} {st : Stmt} {sts : List Stmt} {fl fl' : Fl} {x y : Str} {body orelse : List Stmt} {ds ds' : List D} {d d' : D} {i : Nat} {ho : HO} {kv : List (Str × D)} {a : Addr} {o : Obj}
theorem RelE.setHO {f : Fm} {ω : Om} {s : Shared} {p : HO} (R : RelE c n f ω σ s) (hi : lk i σ.heap = some p) (hp : ∀ a m, HOR c.hs (Mine.fz c ω) p a m → HOR c.hs (Mine.fz c ω) ho a m) : RelE c n f ω { σ with heap := setH i ho σ.heap } s := by
  obtain ⟨m, Mc, Mh, FR, r⟩ := R
  obtain ⟨M1, m1, M2, a, e, h1, h2, h3⟩ := r.heap.split hi
  refine ⟨m, Mc, Mh, FR, ⟨r.fr, r.nw, r.nd, r.frs, r.cells, r.cinj, ?_, r.locs, r.gens, r.drawn, r.os⟩⟩
  rw [e]; exact h3 _ _ (hp a m1 h2)
theorem exs_pin (hi : lk i σ.heap = some (.lst ds)) (h : ∀ a o, Exs c S n sts { σ with heap := setH i (.plst a o ds) σ.heap } fl σ₁) : Exs c S n sts σ fl σ₁ := fun f F ω s Q E R k => by
  obtain ⟨m, Mc, Mh, FR, r⟩ := id R
  obtain ⟨M1, m1, M2, a, e, h1, h2, h3⟩ := r.heap.split hi
  cases h2 with
  | @lst _ _ vs kk hd =>
    refine h a (listOf vs.toArray kk) f F ω s Q E ⟨m, Mc, Mh, FR, ⟨r.fr, r.nw, r.nd, r.frs, r.cells, r.cinj, ?_, r.locs, r.gens, r.drawn, r.os⟩⟩ k
    rw [e]; exact h3 _ _ (.plst hd)
theorem ev_pind (hi : lk i σ.heap = some (.dct kv)) (h : ∀ a o, Ev c S n e { σ with heap := setH i (.pdct a o kv) σ.heap } X σ₁) : Ev c S n e σ X σ₁ := fun f F ω s Q E R k => by
  obtain ⟨m, Mc, Mh, FR, r⟩ := id R
  obtain ⟨M1, m1, M2, a, e, h1, h2, h3⟩ := r.heap.split hi
  cases h2 with
  | @dct _ o _ es kk b0 b1 b2 b3 hd =>
    refine h a o f F ω s Q E ⟨m, Mc, Mh, FR, ⟨r.fr, r.nw, r.nd, r.frs, r.cells, r.cinj, ?_, r.locs, r.gens, r.drawn, r.os⟩⟩ k
    rw [e]; exact h3 _ _ (.pdct b0 b1 b2 b3 hd)
theorem hor_unpin {κ : Str → Int} {Z : Fz} {b : Addr} {m : Led} (h : HOR κ Z (.plst a o ds) b m) : HOR κ Z (.lst ds) b m := by
  cases h with | plst h => exact .lst h
theorem hor_unpind {κ : Str → Int} {Z : Fz} {b : Addr} {m : Led} (h : HOR κ Z (.pdct a o kv) b m) : HOR κ Z (.dct kv) b m := by
  cases h with | pdct h0 h1 h2 h3 h4 => exact .dct h0 h1 h2 h3 h4
theorem exs_unpin (hi : lk i σ.heap = some (.plst a o ds)) (h : Exs c S n sts { σ with heap := setH i (.lst ds) σ.heap } fl σ₁) : Exs c S n sts σ fl σ₁ := fun f F ω s Q E R k =>
  h f F ω s Q E (R.setHO hi fun _ _ => hor_unpin) k
theorem ev_unpind (h : Ev c S n e σ X σ₁) (hi : lk i σ₁.heap = some (.pdct a o kv)) : Ev c S n e σ X { σ₁ with heap := setH i (.dct kv) σ₁.heap } := fun f F ω s Q E R k =>
  h f F ω s Q E R fun ω' v s' e' R' A => k ω' v s' e' (R'.setHO hi fun _ _ => hor_unpind) A
theorem plst_at {f : Fm} {ω : Om} {s : Shared} {b : Addr} (R : RelE c n f ω σ s) (hi : lk i σ.heap = some (.plst a o ds)) (ha : ω.ρ i = some b) :
    b = a ∧ s.heap.get? a = some o ∧ ∃ vs k, o = listOf vs.toArray k ∧ DRs c.hs (Mine.fz c ω) ds vs := by
  obtain ⟨m, Mc, Mh, FR, r⟩ := R
  obtain ⟨M1, m1, M2, a', e, h1, h2, h3⟩ := r.heap.split hi
  have : a' = b := Option.some.inj (h1.symm.trans ha)
  subst this
  cases h2 with
  | @plst _ _ vs k hd => exact ⟨rfl, (r.nw (a, listOf vs.toArray k) (List.mem_append_right _ (List.mem_append_left _ (by rw [e]; exact List.mem_append_right _ (.head _))))).1, vs, k, rfl, hd⟩
theorem evIt_plst (hc : c.calm = true) (h1 : Ev c S n e σ (.obj i) σ₁) (hi : lk i σ₁.heap = some (.plst a o ds)) : EvIt c S n e target [(a, o)] σ (ds.map .d) σ₁ := fun f F ω s Q E R h => by
  refine h1 f F ω s _ _ R fun ω₁ v s₁ e₁ R₁ A₁ => ?_
  obtain ⟨b, rfl, hb, ha⟩ := A₁.toObj
  obtain ⟨rfl, ho, vs, k, rfl, hds⟩ := plst_at R₁ hi ha
  have hL : s₁.heap.IsList b vs.toArray := ⟨_, ho, rfl, k, rfl⟩
  have hne : b ≠ s₁.heap.objs.size := Nat.ne_of_lt (Heap.lt_size ho)
  have hlen : vs.toArray.size = (ds.map V.d).length := by rw [List.size_toArray, hds.length, List.length_map]
  refine wpAny_pyIter_list hL ?_
  have W := Walks.list (prog := c.prog) (w := c.w) (A := f.A) (F.hand hc) s₁.heap.objs.size b hne vs.toArray
  rw [hlen] at W
  refine h ω₁ _ _ [s₁.heap.objs.size] _ (dAt ds) e₁ ⟨[(s₁.heap.objs.size, _)], rfl, RelE.pushKeep (k := s₁.toks) (by rfl) R₁⟩
    (itr_of (ω₀ := ω₁) W (fun i h ⟨⟨o, q, _⟩, _⟩ => ⟨o, q⟩) (fun i v s Q E ⟨⟨o, q1, q2, _⟩, _⟩ hq => go_list q1 q2 (by decide) hq) fun i v ω hω hi hP => ?_) (fun j X hj => dAt_map hj)
    ⟨⟨⟨_, Heap.get?_push_size _ rfl, rfl, rfl⟩, hL.at fun o e => Heap.get?_push_of_some _ e⟩, fun _ _ z => z, fun b' hb' hI => ?_⟩
  · have hi' : i < ds.length := by simpa using hi
    obtain ⟨v', q1, q2⟩ := hds.get (i := i) (d := ds[i]) (by simp [hi'])
    have : v' = v := by
      have hP' : vs[i]? = some v := by simpa using hP
      rw [hP'] at q1; exact (Option.some.inj q1).symm
    subst this
    show VR c n ω (dAt ds i) v'
    unfold dAt
    rw [List.getElem?_eq_getElem hi']
    exact .d (q2.mono hω)
  · rcases List.mem_cons.mp hb' with rfl | hb'
    · exact absurd rfl hI
    · rw [List.mem_singleton.mp hb']
      exact ⟨_, .inr (.head _), Heap.get?_push_of_some _ ho⟩
theorem pins_one (hi : lk i σ.heap = some (.plst a o ds)) : PinsIn [(a, o)] σ.heap := fun p hp => by
  rw [List.mem_singleton.mp hp]; exact ⟨i, _, hi, rfl⟩
theorem pins_oned (hi : lk i σ.heap = some (.pdct a o kv)) : PinsIn [(a, o)] σ.heap := fun p hp => by
  rw [List.mem_singleton.mp hp]; exact ⟨i, _, hi, rfl⟩
theorem HR.del {κ : Str → Int} {Z : Fz} {ρ : Nat → Option Addr} {H : List (Nat × HO)} {M : Led} (h : HR κ Z ρ H M) (hi : lk i H = some ho) :
    ∃ M1 m M2 a, M = M1 ++ (m ++ M2) ∧ ρ i = some a ∧ HOR κ Z ho a m ∧ HR κ Z ρ (delH i H) (M1 ++ M2) := by
  induction h with
  | nil => cases hi
  | @cons k x a m M H e q r ih =>
    unfold lk at hi
    cases hk : (k == i) with
    | true =>
      rw [hk] at hi; cases hi
      have : k = i := by simpa using hk
      subst this
      refine ⟨[], m, M, a, rfl, e, q, ?_⟩
      show HR κ Z ρ (bif k == k then H else _) M
      rw [hk]; exact r
    | false =>
      rw [hk] at hi
      obtain ⟨M1, m0, M2, a0, rfl, h1, h2, h3⟩ := ih hi
      refine ⟨m ++ M1, m0, M2, a0, by simp only [List.append_assoc], h1, h2, ?_⟩
      show HR κ Z ρ (bif k == i then _ else (k, x) :: delH i H) _
      rw [hk, List.append_assoc]
      exact .cons e q h3
end
end Mine
namespace Mine
open PySem PySem.W PyProof.Rows PySem.Calls PySem.Spec
inductive KV (κ : Str → Int) (Z : Fz) : List (Str × D) → List (Str × Value) → Prop
  | nil : KV κ Z [] []
  | cons {k : Str} {d : D} {v : Value} {l : List (Str × D)} {kvs : List (Str × Value)} : DR κ Z d v → KV κ Z l kvs → KV κ Z ((k, d) :: l) ((k, v) :: kvs)
section
variable {κ : Str → Int} {Z : Fz} {l : List (Str × D)} {kvs : List (Str × Value)} {es : List DictEntry} {k : Str} {d : D} {v : Value}
theorem KV.keys (h : KV κ Z l kvs) : kvs.map (·.1) = l.map (·.1) := by
  induction h with
  | nil => rfl
  | cons _ _ ih => rw [List.map_cons, List.map_cons, ih]
theorem KV.length (h : KV κ Z l kvs) : kvs.length = l.length := by
  have := congrArg List.length h.keys; simpa using this
theorem KV.mono {Z' : Fz} (hs : ∀ a o, Z a o → Z' a o) (h : KV κ Z l kvs) : KV κ Z' l kvs := by
  induction h with
  | nil => exact .nil
  | cons a _ ih => exact .cons (a.mono hs) ih
theorem KV.at (h : KV κ Z l kvs) (k : Str) : (∀ d, getD? k l = some d → ∃ v, valueAt kvs k = some v ∧ DR κ Z d v) ∧ (getD? k l = none → valueAt kvs k = none) := by
  induction h with
  | nil => exact ⟨(fun d h => nomatch h), fun _ => rfl⟩
  | @cons a d v l kvs hd _ ih =>
    unfold getD? valueAt
    rw [List.find?_cons]
    by_cases e : a = k
    · subst e
      simp only [if_true, decide_true]
      exact ⟨fun d' h => by cases h; exact ⟨v, rfl, hd⟩, fun h => nomatch h⟩
    · simp only [if_neg e, decide_eq_false e]
      exact ih
theorem KV.put (h : KV κ Z l kvs) (hn : (l.map (·.1)).Nodup) (hd : DR κ Z d v) : KV κ Z (putD' k d l) (stored kvs k v) := by
  have hk := h.keys
  unfold stored
  by_cases hc : k ∈ l.map (·.1)
  · rw [if_pos]
    · clear hk
      induction h with
      | nil => cases hc
      | @cons a d' v' l kvs hd' hr ih =>
        unfold putD'
        rw [List.map_cons]
        rw [List.map_cons, List.nodup_cons] at hn
        by_cases e : a = k
        · subst e
          simp only [if_true]
          have : kvs.map (fun kv => if kv.1 = a then (kv.1, v) else kv) = kvs := map_store_of_not_mem kvs a v (by rw [hr.keys]; exact hn.1)
          rw [this]; exact .cons hd hr
        · simp only [if_neg e]
          refine .cons hd' (ih hn.2 ?_)
          rcases List.mem_cons.mp hc with h | h
          · exact absurd h.symm e
          · exact h
    · obtain ⟨p, hp, e⟩ := List.mem_map.mp (show k ∈ kvs.map (·.1) by rw [hk]; exact hc)
      exact List.any_eq_true.mpr ⟨p, hp, by simpa using e⟩
  · rw [if_neg]
    · clear hk
      induction h with
      | nil => exact .cons hd .nil
      | @cons a d' v' l kvs hd' hr ih =>
        rw [List.map_cons, List.mem_cons, not_or] at hc
        rw [List.map_cons, List.nodup_cons] at hn
        unfold putD'
        rw [if_neg (Ne.symm hc.1)]
        exact .cons hd' (ih hn.2 hc.2)
    · intro h
      obtain ⟨p, hp, e⟩ := List.any_eq_true.mp h
      exact hc (by rw [← hk]; exact List.mem_map.mpr ⟨p, hp, by simpa using e⟩)
end
section
variable {c : Cx} {S : Scope} {n : Nat} {σ σ' σ₁ σ₂ σ₃ σ₄ : St} {X Y Z : V} {e l r t test target iter fn : Expr} {es : List Expr} {Xs : List V} {pos tpos : Pos} {st : Stmt} {sts : List Stmt} {fl fl' : Fl} {x y : Str} {body orelse : List Stmt} {ds ds' : List D} {d d' : D} {i : Nat} {ho : HO} {kv : List (Str × D)} {a : Addr} {o : Obj} {k : Str} {Zf : Fz}
theorem dict_is {es : List DictEntry} {ep : Nat} (h1 : o.ExactDict) (h2 : o.data = .dict es.toArray ep) (h3 : (kv.map (·.1)).Nodup) (h4 : DRd c.hs Zf kv es) : ∃ kvs, o.IsDictOf (PySem.strKind c.prog c.w) kvs ∧ KV c.hs Zf kv kvs := by
  have : ∃ kvs : List (Str × Value), (∀ en ∈ es, ∃ k, (PySem.strKind c.prog c.w).is k en.key = true ∧ en.hash = (PySem.strKind c.prog c.w).hash k) ∧ Pairs (PySem.strKind c.prog c.w) es kvs ∧ KV c.hs Zf kv kvs := by
    clear h1 h2 h3
    induction kv generalizing es with
    | nil => cases h4; exact ⟨[], (fun _ h => nomatch h), .nil, .nil⟩
    | cons p kv ih =>
      cases h4 with
      | @cons k t d v _ es hd hr =>
        obtain ⟨kvs, a1, a2, a3⟩ := ih hr
        refine ⟨(k, v) :: kvs, fun en hen => ?_, .cons (by show Value.isStrOf k (.str k t) = true; unfold Value.isStrOf; simp) rfl a2, .cons hd a3⟩
        rcases List.mem_cons.mp hen with rfl | hen
        · exact ⟨k, by show Value.isStrOf k (.str k t) = true; unfold Value.isStrOf; simp, rfl⟩
        · exact a1 en hen
  obtain ⟨kvs, a1, a2, a3⟩ := this
  refine ⟨kvs, ⟨es.toArray, ep, h1, h2, fun en hen => a1 en (by simpa using hen), by simpa using a2, ?_⟩, a3⟩
  rw [a3.keys]; exact h3
theorem dict_of {kvs : List (Str × Value)} (h : o.IsDictOf (PySem.strKind c.prog c.w) kvs) (hk : KV c.hs Zf kv kvs) : ∃ es ep, o.ExactDict ∧ o.data = .dict (List.toArray es) ep ∧ (kv.map (·.1)).Nodup ∧ DRd c.hs Zf kv es := by
  obtain ⟨es, ep, h1, h2, h3, h4, h5⟩ := h
  refine ⟨es.toList, ep, h1, by simpa using h2, by rw [← hk.keys]; exact h5, ?_⟩
  have h3' : ∀ en ∈ es.toList, ∃ k, (PySem.strKind c.prog c.w).is k en.key = true ∧ en.hash = (PySem.strKind c.prog c.w).hash k := fun en hen => h3 en (by simpa using hen)
  clear h1 h2 h3 h5
  generalize es.toList = es' at h3' h4
  induction h4 generalizing kv with
  | nil => cases hk; exact .nil
  | @cons en p es' kvs b1 b2 b3 ih =>
    cases hk with
    | @cons k d v l _ hd hr =>
      obtain ⟨k', c1, c2⟩ := h3' en (.head _)
      obtain ⟨t, ht⟩ := Value.isStrOf_shape b1
      have : k' = k := Value.isStrOf_inj en.key k' k c1 b1
      subst this
      obtain ⟨hh, kk, vv⟩ := en
      cases ht
      cases b2
      cases c2
      exact .cons hd (ih hr fun en hen => h3' en (.tail _ hen))
theorem is_str {t : Tok} : (PySem.strKind c.prog c.w).is k (.str k t) = true := by show Value.isStrOf k (.str k t) = true; unfold Value.isStrOf; simp
theorem dct_at {f : Fm} {ω : Om} {s : Shared} {v : Value} (R : RelE c n f ω σ s) (A : VR c n ω (.d (.dct kv)) v) : ∃ a o kvs, v = .ref a ∧ (a == sysModules) = false ∧ s.heap.get? a = some o ∧ o.IsDictOf (PySem.strKind c.prog c.w) kvs ∧ KV c.hs (Mine.fz c ω) kv kvs := by
  cases A.toD with
  | @dct a o es ep _ hz h0 h1 h2 h3 h4 =>
    obtain ⟨kvs, b1, b2⟩ := dict_is h1 h2 h3 h4
    exact ⟨a, o, kvs, rfl, h0, R.fz hz, b1, b2⟩
theorem obj_dct_at {f : Fm} {ω : Om} {s : Shared} {v : Value} (R : RelE c n f ω σ s) (A : VR c n ω (.obj i) v) (hi : lk i σ.heap = some (.dct kv) ∨ ∃ a o, lk i σ.heap = some (.pdct a o kv)) : ∃ a o kvs, v = .ref a ∧ (a == sysModules) = false ∧ s.heap.get? a = some o ∧ o.IsDictOf (PySem.strKind c.prog c.w) kvs ∧ KV c.hs (Mine.fz c ω) kv kvs := by
  obtain ⟨a, rfl, _, ha⟩ := A.toObj
  obtain ⟨m, Mc, Mh, FR, r⟩ := R
  rcases hi with hi | ⟨a0, o0, hi⟩
  · obtain ⟨M1, m1, M2, a', e, h1, h2, h3⟩ := r.heap.split hi
    have : a' = a := Option.some.inj (h1.symm.trans ha)
    subst this
    cases h2 with
    | @dct _ o _ es kk b0 b1 b2 b3 hd =>
      obtain ⟨kvs, c1, c2⟩ := dict_is b1 b2 b3 hd
      exact ⟨a', o, kvs, rfl, b0, (r.nw (a', o) (List.mem_append_right _ (List.mem_append_left _ (by rw [e]; exact List.mem_append_right _ (.head _))))).1, c1, c2⟩
  · obtain ⟨M1, m1, M2, a', e, h1, h2, h3⟩ := r.heap.split hi
    have : a' = a := Option.some.inj (h1.symm.trans ha)
    subst this
    cases h2 with
    | @pdct _ _ _ es kk b0 b1 b2 b3 hd =>
      obtain ⟨kvs, c1, c2⟩ := dict_is b1 b2 b3 hd
      exact ⟨_, o0, kvs, rfl, b0, (r.nw (_, o0) (List.mem_append_right _ (List.mem_append_left _ (by rw [e]; exact List.mem_append_right _ (.head _))))).1, c1, c2⟩
def IsTab (c : Cx) (n : Nat) (σ : St) (X : V) (kv : List (Str × D)) : Prop :=
  X = .d (.dct kv) ∨ ∃ i, X = .obj i ∧ (lk i σ.heap = some (.dct kv) ∨ ∃ a o, lk i σ.heap = some (.pdct a o kv))
theorem tab_d : IsTab c n σ (.d (.dct kv)) kv := .inl rfl
theorem tab_p (h : lk i σ.heap = some (.pdct a o kv)) : IsTab c n σ (.obj i) kv := .inr ⟨i, rfl, .inr ⟨a, o, h⟩⟩
theorem tab_at {f : Fm} {ω : Om} {s : Shared} {v : Value} (T : IsTab c n σ X kv) (R : RelE c n f ω σ s) (A : VR c n ω X v) : ∃ a o kvs, v = .ref a ∧ (a == sysModules) = false ∧ s.heap.get? a = some o ∧ o.IsDictOf (PySem.strKind c.prog c.w) kvs ∧ KV c.hs (Mine.fz c ω) kv kvs := by
  rcases T with rfl | ⟨i, rfl, h⟩
  · exact dct_at R A
  · exact obj_dct_at R A h
theorem some_at {kvs : List (Str × Value)} (h : KV c.hs Zf kv kvs) : (valueAt kvs k).isSome = (getD? k kv).isSome := by
  obtain ⟨h1, h2⟩ := h.at k
  cases q : getD? k kv with
  | none => rw [h2 q]; rfl
  | some d => obtain ⟨v, hv, _⟩ := h1 d q; rw [hv]; rfl
theorem c_nin_tab (T : IsTab c n σ Y kv) : Op2 c n (compareOp .NotIn) (.d (.str k)) Y σ (.d (.bool (!(getD? k kv).isSome))) σ := fun S f F ω s Q E xv yv R A B h => by
  obtain ⟨a, o, kvs, rfl, lo, ho, hd, hk⟩ := tab_at T R B
  cases A with | d A => cases A with | str _ t =>
  have N : News ({} : Heap) (a + 1) s.heap [(a, o)] := fun p hp => by
    rw [List.mem_singleton.mp hp]; exact ⟨ho, Nat.ne_of_lt (Nat.lt_succ_self a), rfl⟩
  exact kdg_notin N (.head _) hd lo is_str _ (some_at hk) (h ω _ _ (.refl ..) R.toks (.d (.bool _)))
theorem op_get_tab (T : IsTab c n σ X kv) (hd : getD? k kv = some d) (hs : ∀ o i, ∃ ops, subscripted r false o i = operate ops (getItem o i) := by intro o i; exact ⟨_, rfl⟩) :
    Op2 c n (subscriptTail l r) X (.d (.str k)) σ (.d d) σ := fun S f F ω s Q E xv yv R A B h => by
  obtain ⟨a, o, kvs, rfl, lo, ho, hdd, hk⟩ := tab_at T R A
  cases B with | d B => cases B with | str _ t =>
  obtain ⟨ops, hs⟩ := hs (.ref a) (.str k t)
  obtain ⟨v, hv, dv⟩ := (hk.at k).1 d hd
  have hD : s.heap.DictOf (PySem.strKind c.prog c.w) a kvs := Heap.dictOf_iff.mpr ⟨o, ho, hdd⟩
  obtain ⟨_, _, hx, _⟩ := hdd
  exact tail_any ⟨o, ho, hx.1⟩ slot_dict_getitem.lookup (wpAny_getItem_of is_str hD.mapOf hv (h ω v _ (.refl ..) R.toks (.d dv))) hs
end
end Mine
namespace Mine
open PySem PySem.W PyProof.Rows PySem.Calls PySem.Spec
section
variable {c : Cx} {S : Scope} {n : Nat} {σ σ' σ₁ σ₂ σ₃ σ₄ : St} {X Y Z : V} {e l r t test target iter fn : Expr} {es : List Expr} {Xs : List V} {pos tpos : Pos} {st : Stmt} {sts : List Stmt} {fl fl' : Fl} {x y : Str} {body orelse : List Stmt} {ds ds' : List D} {d d' : D} {i : Nat} {ho : HO} {kv : List (Str × D)} {a : Addr} {o : Obj} {k : Str}
inductive EvD (c : Cx) (S : Scope) (n : Nat) : List (Option Expr) → List Expr → St → List (Str × Mine.D) → St → Prop
  | nil {σ : St} : EvD c S n [] [] σ [] σ
  | cons {ke ve : Expr} {ks : List (Option Expr)} {vs : List Expr} {k : Str} {d : Mine.D} {l : List (Str × Mine.D)} {σ σ₁ σ₂ σ₃ : St} : Ev c S n ke σ (.d (.str k)) σ₁ → Ev c S n ve σ₁ (.d d) σ₂ → EvD c S n ks vs σ₂ l σ₃ → EvD c S n (some ke :: ks) (ve :: vs) σ ((k, d) :: l) σ₃
theorem evd_shape {ks : List (Option Expr)} {vs : List Expr} (h : EvD c S n ks vs σ kv σ') : ks.all (·.isSome) = true ∧ ks.length = vs.length ∧ ks.length = kv.length := by
  induction h with
  | nil => exact ⟨rfl, rfl, rfl⟩
  | cons _ _ _ ih => simp [ih.1, ih.2.1, ← ih.2.2]
theorem evd_run {ks : List (Option Expr)} {vs : List Expr} (h : EvD c S n ks vs σ kv σ') : ∀ pos f, FmOk c S n f → ∀ ω s (Q : List (Value × Value) → Shared → Prop) E, RelE c n f ω σ s →
    (∀ ω' ws kvs s', Ext (n + 1) ω ω' → RelE c n f ω' σ' s' → Carries (PySem.strKind c.prog c.w) ws kvs → KV c.hs (Mine.fz c ω') kv kvs → Q ws s') → wpAny (model c.prog c.w) f.A (evalPairs (pairTrees ks vs f.env pos)) Q E s := by
  induction h with
  | nil => intro pos f F ω s Q E R h; exact evalPairs_nil (h ω [] [] s (.refl ..) R trivial .nil)
  | cons h1 h2 h3 ih =>
    intro pos f F ω s Q E R h
    unfold pairTrees
    refine evalPairs_cons (h1 f F ω s _ _ R fun ω₁ v₁ s₁ e₁ R₁ A₁ => wpAny_bind (h2 f F ω₁ s₁ _ _ R₁ fun ω₂ v₂ s₂ e₂ R₂ A₂ => wpAny_bind (wpAny_standAt (wpAny_pure ?_))))
    refine ih pos f F ω₂ s₂ _ _ R₂ fun ω₃ ws kvs s₃ e₃ R₃ C K => ?_
    cases A₁.toD with
    | str _ t => exact h ω₃ _ ((_, v₂) :: kvs) s₃ (e₁.trans (e₂.trans e₃)) R₃ ⟨is_str, rfl, C⟩ (.cons (A₂.toD.mono e₃.fz) K)
theorem merged_new {kvs acc : List (Str × Value)} (h : ((acc ++ kvs).map (·.1)).Nodup) : merged acc kvs = acc ++ kvs := by
  induction kvs generalizing acc with
  | nil => simp [merged]
  | cons p kvs ih =>
    have e : stored acc p.1 p.2 = acc ++ [p] := by
      unfold stored
      rw [if_neg]
      intro hc
      obtain ⟨q, hq, e⟩ := List.any_eq_true.mp hc
      rw [List.map_append, List.nodup_append] at h
      exact h.2.2 q.1 (List.mem_map.mpr ⟨q, hq, rfl⟩) p.1 (by simp) (by simpa using e)
    have e2 : merged acc (p :: kvs) = merged (stored acc p.1 p.2) kvs := by simp [merged]
    rw [e2, e, ih (by simpa using h)]
    simp
theorem ev_dict {ks : List (Option Expr)} {vs : List Expr} (hC : CxOk c) (h : EvD c S n ks vs σ kv σ') (hn : (kv.map (·.1)).Nodup) (h0 : ks ≠ []) (hl : ks.length ≤ 15) : Ev c S n (.Dict ks vs pos) σ (.d (.dct kv)) σ' := fun f F ω s Q E R h' => by
  obtain ⟨s1, s2, s3⟩ := evd_shape h
  refine wpAny_Dict_any s1 s2 h0 hl ?_
  have R1 := R.pushKeep (o := { cls := .type "dict", data := .dict #[] }) (k := s.toks) (by rfl)
  refine evd_run h pos (f.more [(s.heap.objs.size, { cls := .type "dict", data := .dict #[] })]) (F.more _) ω _ _ _ R1 fun ω₁ ws kvs s₁ e₁ R₁ C K => ?_
  have hD : s₁.heap.get? s.heap.objs.size = some { cls := .type "dict", data := .dict #[] } := by
    obtain ⟨m, Mc, Mh, FR, r⟩ := R₁
    exact (r.nw (s.heap.objs.size, { cls := .type "dict", data := .dict #[] }) (by simp [Fm.more])).1
  have hD0 : s₁.heap.DictOf (PySem.strKind c.prog c.w) s.heap.objs.size [] := ⟨_, #[], 0, hD, ⟨rfl, rfl, rfl⟩, rfl, fun _ h => by simp at h, .nil, List.nodup_nil⟩
  have kn : (kvs.map (·.1)).Nodup := by rw [K.keys]; exact hn
  refine wpAny_storeAll ws kvs [] s₁ _ C hD0 (by have := K.length; simp only [List.length_nil, Nat.zero_add]; rw [this, ← s3]; exact Nat.le_trans hl (by decide)) fun h₂ hd₂ hs₂ => ?_
  rw [merged_new (by simpa using kn), List.nil_append] at hd₂
  obtain ⟨o', ho', hdo⟩ := Heap.dictOf_iff.mp hd₂
  obtain ⟨es, ep, b1, b2, b3, b4⟩ := dict_of hdo K
  have R2 := RelE.turn (kp' := [(s.heap.objs.size, o')]) (l := []) (tk := s₁.toks + ws.length) F R₁ (fun b o hb e => (hs₂.2 b (fun q => hb (by rw [q]; exact .head _))).trans e) (List.Sublist.refl _) (fun p hp => by rw [List.mem_singleton.mp hp]; exact ho') (fun _ h => nomatch h) List.nodup_nil
  have R3 := RelE.keepFrz F R2
  have X1 : Ext (n + 1) ω₁ { ω₁ with Z := (s.heap.objs.size, o') :: ω₁.Z } := Ext.frz (n + 1) ω₁ [(s.heap.objs.size, o')]
  exact h' _ _ _ (e₁.trans X1) R3 (.d (.dct (.inl (.head _)) (R.above hC) b1 b2 b3 (b4.mono X1.fz)))
theorem ex_setitem {oe ie : Expr} (h1 : Ev c S n e σ (.d d) σ₁) (h2 : Ev c S n oe σ₁ (.obj i) σ₂) (h3 : Ev c S n ie σ₂ (.d (.str k)) σ₃) (hi : lk i σ₃.heap = some (.dct kv)) (hl : kv.length ≤ 10000) (hn : noComp e = true := by rfl) :
    Ex c S n (.Assign [.Subscript oe ie tpos] e pos) σ .next { σ₃ with heap := setH i (.dct (putD' k d kv)) σ₃.heap } := fun f F ω s Q E R h => by
  refine wpAny_Assign_Subscript (h1 f F ω s _ _ R fun ω₁ v s₁ e₁ R₁ A₁ => h2 f F ω₁ s₁ _ _ R₁ fun ω₂ u s₂ e₂ R₂ A₂ => h3 f F ω₂ s₂ _ _ R₂ fun ω₃ kk s₃ e₃ R₃ A₃ => ?_) (swaps_no hn)
  have A₁ := (A₁.ext (e₂.trans e₃)).toD
  obtain ⟨a, rfl, hb, ha⟩ := (A₂.ext e₃).toObj
  cases A₃.toD with
  | str _ t =>
    obtain ⟨m, Mc, Mh, FR, r⟩ := id R₃
    obtain ⟨M1, m1, M2, a', e, g1, g2, g3⟩ := r.heap.split hi
    have : a' = a := Option.some.inj (g1.symm.trans ha)
    subst this
    cases g2 with
    | @dct _ o _ es kk b0 b1 b2 b3 hd =>
      obtain ⟨kvs, c1, c2⟩ := dict_is b1 b2 b3 hd
      have ho : s₃.heap.get? a' = some o := (r.nw (a', o) (List.mem_append_right _ (List.mem_append_left _ (by rw [e]; exact List.mem_append_right _ (.head _))))).1
      refine wpAny_setItem_pairs is_str (Heap.dictOf_iff.mpr ⟨o, ho, c1⟩) (fun h' hd' hs' => ?_) (sz (by rw [c2.length]; exact hl))
      obtain ⟨o', ho', hdo⟩ := Heap.dictOf_iff.mp hd'
      have c3 := c2.put (k := k) b3 A₁
      obtain ⟨es', ep', q1, q2, q3, q4⟩ := dict_of hdo c3
      have eL : ∀ o, Mc ++ ((M1 ++ ([(a', o)] ++ M2)) ++ (ω₃.Z ++ (FR ++ f.keep))) = (Mc ++ M1) ++ (a', o) :: (M2 ++ (ω₃.Z ++ (FR ++ f.keep))) := fun o => by simp only [List.append_assoc, List.cons_append, List.nil_append]
      obtain ⟨o1, o2⟩ := off_pre (by have := r.nd; rw [e, eL] at this; exact this)
      have N := r.nw
      rw [e, eL] at N
      have zz := N (a', o) (List.mem_append_right _ (.head _))
      have N' := news_set N o1 o2 hs' ho'
      have F' := r.fr.change hs' zz.2.1 zz.2.2
      refine h ω₃ .next _ ((e₁.trans (e₂.trans e₃)).down) ⟨m, Mc, _, FR, r.swap (tk := s₃.toks + 1) (pre := M1) (post := M2) (a := a') (o := o) (o' := o') (by rw [e]; rfl) rfl F' ?_ ?_⟩ .next
      · rw [show M1 ++ (a', o') :: M2 = M1 ++ ([(a', o')] ++ M2) from rfl, eL]; exact N'
      · exact g3 _ _ (.dct b0 q1 q2 q3 q4)
theorem evIt_tab {p : Pos} {pin : Led} (hc : c.calm = true) (h1 : Ev c S n e σ X σ₁) (T : X = .d (.dct kv) ∧ pin = [] ∨ ∃ i a o, X = .obj i ∧ lk i σ₁.heap = some (.pdct a o kv) ∧ pin = [(a, o)]) : EvIt c S n e (.Name y p) pin σ (kv.map fun q => .d (.str q.1)) σ₁ := fun f F ω s Q E R h => by
  refine h1 f F ω s _ _ R fun ω₁ v s₁ e₁ R₁ A₁ => ?_
  have T' : ∃ a o kvs, v = .ref a ∧ (a == sysModules) = false ∧ s₁.heap.get? a = some o ∧ o.IsDictOf (PySem.strKind c.prog c.w) kvs ∧ KV c.hs (Mine.fz c ω₁) kv kvs ∧ (Mine.fz c ω₁ a o ∨ (a, o) ∈ pin) := by
    rcases T with ⟨rfl, rfl⟩ | ⟨i, a0, o0, rfl, hi, rfl⟩
    · cases A₁.toD with
      | @dct a o es ep _ hz h0 h1 h2 h3 h4 =>
        obtain ⟨kvs, b1, b2⟩ := dict_is h1 h2 h3 h4
        exact ⟨a, o, kvs, rfl, h0, R₁.fz hz, b1, b2, .inl hz⟩
    · obtain ⟨a, rfl, _, ha⟩ := A₁.toObj
      obtain ⟨m, Mc, Mh, FR, r⟩ := R₁
      obtain ⟨M1, m1, M2, a', e, h1, h2, h3⟩ := r.heap.split hi
      have : a' = a := Option.some.inj (h1.symm.trans ha)
      subst this
      cases h2 with
      | @pdct _ _ _ es kk b0 b1 b2 b3 hd =>
        obtain ⟨kvs, c1, c2⟩ := dict_is b1 b2 b3 hd
        exact ⟨_, o0, kvs, rfl, b0, (r.nw (_, o0) (List.mem_append_right _ (List.mem_append_left _ (by rw [e]; exact List.mem_append_right _ (.head _))))).1, c1, c2, .inr (.head _)⟩
  obtain ⟨a, o, kvs, rfl, lo, ho, hdo, hk, hz⟩ := T'
  have hne : a ≠ s₁.heap.objs.size := Nat.ne_of_lt (Heap.lt_size ho)
  have hlen : kvs.length = (kv.map fun q => V.d (.str q.1)).length := by rw [List.length_map, hk.length]
  obtain ⟨ep, hD⟩ := (Heap.dictOf_iff.mpr ⟨o, ho, hdo⟩ : s₁.heap.DictOf (PySem.strKind c.prog c.w) a kvs).dictAt
  refine wpAny_pyIter_dict lo hD ?_
  have W := Walks.dictKeys (knd := PySem.strKind c.prog c.w) (A := f.A) (F.hand hc) s₁.heap.objs.size a hne kvs ep
  have gk : ∀ i X, (kv.map fun q => V.d (.str q.1))[i]? = some X → dAt (kv.map fun q => .str q.1) i = X := fun i X hi => dAt_map (by rw [List.map_map]; exact hi)
  have W2 := W
  rw [hlen] at W2
  refine h ω₁ _ _ [s₁.heap.objs.size] _ (dAt (kv.map fun q => .str q.1)) e₁ ⟨[(s₁.heap.objs.size, _)], rfl, RelE.pushKeep (k := s₁.toks) (by rfl) R₁⟩
    (itr_of (ω₀ := ω₁) W2 (fun i h ⟨⟨o, q, _⟩, _⟩ => ⟨o, q⟩) (fun i v s Q E _ hq => go_name hq) fun i v ω hω hi hP => ?_) gk
    ⟨⟨⟨_, Heap.get?_push_size _ rfl, rfl, by rw [← hlen]; rfl⟩, hD.push _⟩, fun _ _ z => z, fun b' hb' hI => ?_⟩
  · obtain ⟨k, x, hx, hv⟩ := hP
    obtain ⟨t, rfl⟩ := Value.isStrOf_shape hv
    have e1 : (kvs.map (·.1))[i]? = some k := by rw [List.getElem?_map, hx]; rfl
    rw [hk.keys] at e1
    have e2 : (kv.map fun q => D.str q.1)[i]? = some (.str k) := by
      rw [List.getElem?_map] at e1 ⊢
      cases z : kv[i]? with
      | none => rw [z] at e1; cases e1
      | some q => rw [z] at e1; cases e1; rfl
    show VR c n ω (dAt (kv.map fun q => D.str q.1) i) _
    unfold dAt
    rw [e2]
    exact .d (.str _ _)
  · rcases List.mem_cons.mp hb' with rfl | hb'
    · exact absurd rfl hI
    · rw [List.mem_singleton.mp hb']
      exact ⟨o, hz, Heap.get?_push_of_some _ ho⟩
end
end Mine
namespace Mine
open PySem PySem.W PyProof.Rows PySem.Calls PySem.Spec
section
variable {c : Cx} {S : Scope} {n : Nat} {σ σ' σ₁ σ₂ σ₃ σ₄ : St} {X Y Z : V} {e l r t test target iter fn : Expr} {es : List Expr} {Xs : List V} {pos tpos : Pos} {st : Stmt} {sts : List Stmt} {fl fl' : Fl} {x y : Str} {body orelse : List Stmt} {ds ds' : List D} {d d' : D} {i : Nat} {ho : HO} {kv : List (Str × D)} {a : Addr} {o : Obj} {k : Str}
theorem VRs.oneD {ω : Om} {vs : List Value} (h : VRs c n ω [.d d] vs) : ∃ v, vs = [v] ∧ DR c.hs (fz c ω) d v := by
  obtain ⟨v, e, A⟩ := h.one
  exact ⟨v, e, A.toD⟩
theorem VRs.twoD {ω : Om} {vs : List Value} (h : VRs c n ω [.d d, .d d'] vs) : ∃ v w, vs = [v, w] ∧ DR c.hs (fz c ω) d v ∧ DR c.hs (fz c ω) d' w := by
  obtain ⟨v, w, e, A, B⟩ := h.two
  exact ⟨v, w, e, A.toD, B.toD⟩
theorem ints_are {κ : Str → Int} {Zf : Fz} {ns : List Int} {vs : List Value} (h : DRs κ Zf (ns.map .int) vs) : IntsAre vs ns := by
  induction ns generalizing vs with
  | nil => cases h; exact .nil
  | cons a ns ih => cases h with | cons p q => cases p; exact .cons _ _ (ih q)
theorem strs_are {κ : Str → Int} {Zf : Fz} {xs : List Str} {vs : List Value} (h : DRs κ Zf (xs.map .str) vs) : StrsAre vs xs := by
  induction xs generalizing vs with
  | nil => cases h; exact .nil
  | cons a ns ih => cases h with | cons p q => cases p; exact .cons _ _ (ih q)
theorem f_sum {ns : List Int} (hc : c.calm = true) (hd : ds = ns.map .int) : OpN c n (fun vs => call (.builtin "sum") vs) [.d (.lst ds)] σ (.d (.int ns.sum)) σ := fun S f F ω s Q E vs R A h => by
  obtain ⟨v, rfl, A1⟩ := A.oneD
  have A := A1
  cases A with
  | @lst a o ws k _ hz hoc hod hds =>
    subst hd
    obtain ⟨m, Mc, Mh, FR, r⟩ := id R
    refine LSm.sum_ints r.fr r.nw (F.hand hc) ⟨o, R.fz hz, hoc, k, hod⟩ (ints_are hds) fun h' tk t' F' N' => ?_
    exact h ω _ _ (.refl ..) ⟨m, Mc, Mh, FR, ⟨F', N', r.nd, r.frs, r.cells, r.cinj, r.heap, r.locs, r.gens, r.drawn, r.os⟩⟩ (.d (.int _ _))
theorem f_ord {ch : Nat} : OpN c n (fun vs => call (.builtin "ord") vs) [.d (.str ⟨#[ch]⟩)] σ (.d (.int ch)) σ := fun S f F ω s Q E vs R A h => by
  obtain ⟨v, rfl, A1⟩ := A.oneD
  have A := A1
  cases A with | str _ t => exact PySem.P.ord_of_char (h ω _ _ (.refl ..) R.toks (.d (.int _ _)))
theorem f_divmod {p q : Int} (hq : q ≠ 0) (hs : Builtin.divisionGoesByPylong p q = false) : OpN c n (fun vs => call (.builtin "divmod") vs) [.d (.int p), .d (.int q)] σ (.d (.tup [.int (p.fdiv q), .int (p.fmod q)])) σ := fun S f F ω s Q E vs R A h => by
  obtain ⟨v, w, rfl, A1, B⟩ := A.twoD
  have A := A1
  cases A with
  | int _ t => cases B with
    | int _ u =>
      refine divmod_int hq ?_ (.inl hs)
      have X1 : Ext (n + 1) ω { ω with Z := (s.heap.objs.size, { cls := .type "tuple", data := .seq #[Value.int (p.fdiv q) s.toks, Value.int (p.fmod q) (s.toks + 1)] }) :: ω.Z } := Ext.frz (n + 1) ω [_]
      refine h _ _ _ X1 (R.push (o := { cls := .type "tuple", data := .seq #[Value.int (p.fdiv q) s.toks, Value.int (p.fmod q) (s.toks + 1)] }) (k := s.toks + 1 + 1) (by rfl)) (.d ?_)
      exact .tup (vs := [Value.int (p.fdiv q) s.toks, Value.int (p.fmod q) (s.toks + 1)]) (n := 0) (.inl (.head _)) rfl rfl (.cons (.int _ _) (.cons (.int _ _) .nil))
theorem f_bytes {ns : List Int} (hc : c.calm = true) (hd : ds = ns.map .int) (hr : ∀ n ∈ ns, 0 ≤ n ∧ n < 256) (hl : ns.length ≤ 1000000) : OpN c n (fun vs => call (.type "bytes") vs) [.d (.lst ds)] σ (.d (.bytes (byteArr ns))) σ := fun S f F ω s Q E vs R A h => by
  obtain ⟨v, rfl, A1⟩ := A.oneD
  have A := A1
  cases A with
  | @lst a o ws k _ hz hoc hod hds =>
    subst hd
    have hlen : ws.length = ns.length := by rw [hds.length, List.length_map]
    refine call_bytes_ints ⟨o, R.fz hz, hoc, k, hod⟩ (ints_are hds) hr (by rw [hlen, sizeLine_eq]; omega) (F.hand hc) fun h' t k hk => ?_
    exact h ω _ _ (.refl ..) (R.grow hk) (.d (.bytes _ _))
theorem f_isstr : OpN c n (fun vs => call (.builtin "isinstance") vs) [.d (.str x), .val (.type "str")] σ (.d (.bool true)) σ := fun S f F ω s Q E vs R A h => by
  obtain ⟨v, w, rfl, A1, B⟩ := A.two
  have A := A1
  cases B
  cases A1.toD with | str _ t => exact PySem.IsiPair.str_str (h ω _ _ (.refl ..) R (.d (.bool _)))
theorem sub_bytes_str : isSubtype (.type "bytes") (.type "str") = pure false := by rw [isSubtype_type]; kernel_rfl
theorem f_isbytes {b : Array UInt8} : OpN c n (fun vs => call (.builtin "isinstance") vs) [.d (.bytes b), .val (.type "str")] σ (.d (.bool false)) σ := fun S f F ω s Q E vs R A h => by
  obtain ⟨v, w, rfl, A1, B⟩ := A.two
  have A := A1
  cases B
  cases A1.toD with
  | bytes _ t =>
    refine call_isinstance_of ?_ (by intro e; cases e)
    exact isinstance_nested_false_bytes (by decide +kernel) PySem.F.isi_meta_str sub_bytes_str (h ω _ _ (.refl ..) R.toks (.d (.bool _)))
theorem gm_join : GetM c n (.d (.str x)) "join" σ (.builtin "str.join") := fun S f F ω s Q E v pl R A h => by
  cases A.toD with | str _ t => exact PySem.GM.join h
theorem f_join {xs : List Str} (hd : ds = xs.map .str) (hl : (xs.map (·.length)).sum + xs.length * x.length ≤ 16777216) : OpN c n (fun vs => call (.builtin "str.join") vs) [.d (.str x), .d (.lst ds)] σ (.d (.str (Txt.join x xs))) σ := fun S f F ω s Q E vs R A h => by
  obtain ⟨v, w, rfl, A1, B⟩ := A.twoD
  have A := A1
  cases A with
  | str _ t => cases B with
    | @lst a o ws k _ hz hoc hod hds =>
      subst hd
      exact join_list ⟨o, R.fz hz, hoc, k, hod⟩ (by simpa using strs_are hds) hl fun t' k => h ω _ _ (.refl ..) R.toks (.d (.str _ _))
end
end Mine
namespace Mine
open PySem PySem.W PyProof.Rows PySem.Calls PySem.Spec
def latin (b : Array UInt8) : Str := ⟨b.map (·.toNat)⟩
theorem lat_loop {α : Type} {b : Array UInt8} {body : Nat → Nat × Array Nat × α → Sem (ForInStep (Nat × Array Nat × α))} (hb : ∀ x p st, p < b.size → body x (p, (b.take p).map (·.toNat), st) = pure (.yield (p + 1, (b.take (p + 1)).map (·.toNat), st))) :
    ∀ k p st, p + k = b.size → forIn (List.range' p k) (p, (b.take p).map (·.toNat), st) body = pure (b.size, b.map (·.toNat), st) := by
  intro k
  induction k with
  | zero => intro p st hp; simp at hp; subst hp; simp
  | succ k ih =>
    intro p st hp
    rw [List.range'_succ, List.forIn_cons, hb _ p st (by omega)]
    exact ih (p + 1) st (by omega)
open Builtin in
theorem lat_run {id : String} {b : Array UInt8} (hb : b.size ≤ sizeLine) : _codecs.runDecoder id _codecs.latin1Decoder none true b 0 [] = pure (b.map (·.toNat), b.size) := by
  unfold _codecs.runDecoder
  simp only [Std.Legacy.Range.forIn_eq_forIn_range', Std.Legacy.Range.size]
  have e0 : (#[] : Array Nat) = (b.take 0).map (·.toNat) := by simp
  have e1 : (b.size - 0 + 1 - 1) / 1 = b.size := by omega
  rw [e0, e1]
  refine (congrArg (fun m => m >>= _) (lat_loop (fun x p st hp => ?_) b.size 0 _ (by omega))).trans rfl
  have h1 : ¬ ((b.take p).map (·.toNat)).size > sizeLine := by simp; omega
  have h2 : ¬ p ≥ b.size := by omega
  have h3 : _codecs.latin1Decoder.find true b p = .text [(b.getD p 0).toNat] (p + 1) := rfl
  have h4 : (b.take p).map (·.toNat) ++ [(b.getD p 0).toNat].toArray = (b.take (p + 1)).map (·.toNat) := by
    apply Array.toList_inj.mp
    simp [List.take_add_one, hp]
  simp only [h1, h2, h3, h4, if_false, pure_bind]
open Builtin in
theorem lat_road {id : String} {b : Array UInt8} (hb : b.size ≤ sizeLine) : _codecs.decodeRoad id b (PySem.Str.ofString "latin1") none [] = mkStr (latin b) := by
  have e : _codecs.decodeRoad id b (PySem.Str.ofString "latin1") none [] = (_codecs.runDecoder id _codecs.latin1Decoder none true b 0 [] >>= fun r => mkStr ⟨r.1⟩) := by kernel_rfl
  rw [e, lat_run hb]; rfl
open Builtin in
theorem lat_text {b : Array UInt8} {t t1 t2 : Tok} {d : PySem.Str} (hb : b.size ≤ sizeLine) :
    Meets («_codecs.decode.text» ⟨[.bytes b t, .str (PySem.Str.ofString "latin1") t1, .none, .str d t2], []⟩) (fun _ R s => R (.ok (.ret (.str (latin b) s.toks))) { s with toks := s.toks + 1 }) := by
  refine .of_wp fun prog w A R s h => ?_
  show wpAny _ _ (Bytes.bytesLike _ (.bytes b t) >>= fun r => _) _ _ s
  refine wpAny_bind (wpAny_of_eq KBd.like_eq ?_)
  refine wpAny_bind (wpAny_of_eq KBd.held_eq ?_)
  show wpAny _ _ (_codecs.decodeRoad _ b (PySem.Str.ofString "latin1") none [] >>= fun v => _) _ _ s
  rw [lat_road hb]
  exact wpAny_bind (wpAny_mkStr (wpAny_pure ⟨_, rfl, h⟩) (by show (b.map (·.toNat)).size ≤ _; simpa using hb))
open Builtin in
theorem lat_entry {c : UInt8} {cs : List UInt8} {t u : Tok} : «bytes.decode» ⟨[.bytes (c :: cs).toArray t], [("encoding", .str (PySem.Str.ofString "latin1") u)]⟩ = (mkStr (PySem.Str.ofString "utf-8") >>= fun _ => mkStr (PySem.Str.ofString "latin1") >>= fun e => mkStr (PySem.Str.ofString "bytes.decode") >>= fun d =>
    call (.builtin "_codecs.decode.text") [.bytes (c :: cs).toArray t, e, .none, d] >>= fun v => ret v) := by kernel_rfl
theorem lat_args {b : Array UInt8} {e : Value} {t : Tok} : argsOk "bytes.decode" ⟨[.bytes b t], [("encoding", e)]⟩ := by unfold argsOk; kernel_rfl
section
variable {prog : Program} {w : World} {A : Around} {E : Value → Shared → Prop} {s : Shared}
theorem lat_decode {b : Array UInt8} {t u : Tok} {Q : Value → Shared → Prop} (h0 : 0 < b.size) (hb : b.size ≤ sizeLine) (h : ∀ t' k, Q (.str (latin b) t') { s with toks := k }) :
    wpAny (model prog w) A (call (.builtin "bytes.decode") [.bytes b t] [("encoding", .str (PySem.Str.ofString "latin1") u)]) Q E s := by
  obtain ⟨c, cs, rfl⟩ : ∃ c cs, b = List.toArray (c :: cs) := by
    cases e : b.toList with
    | nil => have : b.size = 0 := by rw [← Array.length_toList, e]; rfl
             omega
    | cons c cs => exact ⟨c, cs, by rw [← e]⟩
  refine wpAny_call_entry_kw FB.slot_bytes_decode (typeIs_bytes _ _ _) FB.entry_bytes_decode ?_ lat_args
  rw [lat_entry]
  refine wpAny_bind (wpAny_mkStr ?_ (by decide))
  refine wpAny_bind (wpAny_mkStr ?_ (by decide))
  refine wpAny_bind (wpAny_mkStr ?_ (by decide))
  exact wpAny_bind (call_function_meets KBd.kind_text KBd.plain_text KBd.entry_text (KBd.args_text _ _ _ _) (lat_text hb) (wpAny_pure ⟨_, rfl, h _ _⟩))
end
theorem sub_bytes_bytes' : isSubtype (.type "bytes") (.type "bytes") = pure true := by rw [isSubtype_type]; kernel_rfl
open Builtin in
theorem lat_new {b : Array UInt8} {t u : Tok} (h0 : 0 < b.size) (hb : b.size ≤ sizeLine) : Meets («str.__new__» ⟨[.type "str", .bytes b t, .str (PySem.Str.ofString "latin1") u], []⟩) (fun _ R s => ∀ t' k, R (.ok (.ret (.str (latin b) t'))) { s with toks := k }) := by
  refine .of_wp fun prog w A R s h => ?_
  unfold «str.__new__»
  refine wpAny_bind (wpAny_pure ?_)
  refine wpAny_bind (wpAny_of_eq isSubtype_str_str ?_)
  refine wpAny_bind (wpAny_of_eq (a := [some (.bytes b t), some (.str (PySem.Str.ofString "latin1") u), none]) (by kernel_rfl) ?_)
  refine wpAny_bind (wpAny_of_eq (a := some (PySem.Str.ofString "latin1")) (by kernel_rfl) ?_)
  refine wpAny_bind (wpAny_of_eq (a := none) (by kernel_rfl) ?_)
  refine wpAny_bind ?_
  refine wpAny_bind (wpAny_bind (wpAny_mkStr (wpAny_pure ?_) (by decide)))
  refine wpAny_bind (wpAny_pure ?_)
  refine wpAny_bind (wpAny_isInstance (typeIs_bytes _ _ _) sub_bytes_bytes' ?_)
  refine wpAny_bind (wpAny_rule ?_)
  refine lat_decode h0 hb fun t' k => ?_
  exact wpAny_pure ⟨_, rfl, h t' k⟩
theorem lat_init {o b e : Value} : argsOk "object.__init__" ⟨[o, b, e], []⟩ := by unfold argsOk; kernel_rfl
section
variable {prog : Program} {w : World} {A : Around} {E : Value → Shared → Prop} {s : Shared}
theorem str_latin {b : Array UInt8} {t u : Tok} {Q : Value → Shared → Prop} (h0 : 0 < b.size) (hb : b.size ≤ sizeLine) (h : ∀ t' k, Q (.str (latin b) t') { s with toks := k }) :
    wpAny (model prog w) A (call (.type "str") [.bytes b t, .str (PySem.Str.ofString "latin1") u]) Q E s :=
  callType_new PySem.F.called_str (by decide) (by kernel_rfl) (by kernel_rfl) (fun obj => lat_init) PySem.F.entry_str_new (lat_new h0 hb) fun t' k => ⟨typeIs_str _ _ _, h t' k⟩
end
theorem f_latin {c : Cx} {n : Nat} {σ : St} {b : Array UInt8} (h0 : 0 < b.size) (hb : b.size ≤ 10000) : OpN c n (fun vs => call (.type "str") vs) [.d (.bytes b), .d (.str (PySem.Str.ofString "latin1"))] σ (.d (.str (latin b))) σ := fun S f F ω s Q E vs R A h => by
  obtain ⟨v, w, rfl, A1, B⟩ := A.twoD
  have A := A1
  cases A with
  | bytes _ t => cases B with
    | str _ u => exact str_latin h0 (sz hb) fun t' k => h ω _ _ (.refl ..) R.toks (.d (.str _ _))
end Mine
namespace Mine
open PySem PySem.W PyProof.Rows PySem.Calls PySem.Spec
def ExcAt (h : Heap) (e : Addr) (cls a0 : Value) (dx : Option Addr) (tb : Option (Addr × Value)) : Prop :=
  ∃ oe vs, h.get? e = some oe ∧ oe.cls = cls ∧ oe.dict = dx ∧ oe.data = .fields vs ∧ vs[0]? = some a0 ∧ match tb with
    | none => vs[1]? = some .none
    | some (T, fl) => vs[1]? = some (.ref T) ∧ T ≠ e ∧ ∃ oT ts, h.get? T = some oT ∧ oT.data = .fields ts ∧ ts[3]? = some fl
def frs (l : List Env) : List Addr := l.filterMap (·.frame)
theorem not_frs {base h : Heap} {l : List Env} {b : Addr} {o : Obj} {vs : Array Value} (hl : h.FunFrames base l) (hb : h.get? b = some o) (hd : o.data = .fields vs) : b ∉ frs l := fun hm => by
  obtain ⟨_, o', ho', hnf⟩ := hl.mem hm
  rw [hb] at ho'; cases ho'; exact hnf vs hd
section
variable {M : Model} {A : Around} {E : Value → Shared → Prop} {s : Shared}
theorem note_any {base : Heap} {env : Env} {outer : List Env} {L e : Addr} {cls a0 : Value} {dx : Option Addr} {tb : Option (Addr × Value)} {Q : Unit → Shared → Prop}
    (hfr : A.frames = some (env :: outer)) (hl : s.heap.FunFrames base (env :: outer)) (hf : env.frame = some L) (X : ExcAt s.heap e cls a0 dx tb) (htb : tb = none ∨ ∃ T, tb = some (T, .none))
    (h : ∀ h' T', (∀ b o, b ∉ frs (env :: outer) → b ≠ e → (∀ T v, tb = some (T, v) → b ≠ T) → s.heap.get? b = some o → h'.get? b = some o) →
      (∀ b o, b ∈ frs (env :: outer) → s.heap.get? b = some o → ∃ sl, h'.get? b = some { o with slots := sl }) → ExcAt h' e cls a0 dx (some (T', rawInt L)) → s.heap.get? T' = none → Q () { s with heap := h' }) :
    wpAny M A (noteFrame (.ref e) env) Q E s := by
  obtain ⟨oe, vs, he, hc, hdx, hd, h0, htb'⟩ := X
  -- the common end: a new entry behind the head
  have tail : ∀ (s₁ : Shared) (head : Value) (had : Bool), s₁.heap.FunFrames base (env :: outer) → s₁.heap.get? e = some oe → 1 < vs.size → s₁.heap.objs.size = s.heap.objs.size → s₁.gens = s.gens → s₁.drawn = s.drawn → s₁.toks = s.toks → s₁.os = s.os →
      (∀ b o, b ∉ frs (env :: outer) → b ≠ e → (∀ T v, tb = some (T, v) → b ≠ T) → s.heap.get? b = some o → s₁.heap.get? b = some o) → (∀ b o, b ∈ frs (env :: outer) → s.heap.get? b = some o → s₁.heap.get? b = some o) →
      wpAny M A (do setField (.ref e) 1 (← EntryCells.newEntry head (← frameOf env) .none (rawInt L) .none (← entryPlaceOf L had))) Q E s₁ := by
    intro s₁ head had hl₁ he₁ hsz hss eg ed et eo hk hfk
    refine wpAny_bind (wpAny_frameOf_fun hfr hl₁ hf fun h₁ hs₁ => ?_)
    refine wpAny_bind (wpAny_entryPlaceOf fun pl hpl => ?_)
    unfold EntryCells.newEntry newFields
    refine wpAny_bind (wpAny_newObj_type ?_ (hpl.sizeOk5 _ _ _ _ _))
    have hen : e ∉ frs (env :: outer) := not_frs hl₁ he₁ hd
    have he₂ : h₁.get? e = some oe := (hs₁.2.1 e hen).trans he₁
    have hTe : h₁.objs.size ≠ e := Nat.ne_of_gt (Heap.lt_size he₂)
    refine wpAny_setField (Heap.get?_push_of_some _ he₂) hd hsz ?_
    have hd₃ := Obj.data_mapFields hd (·.setIfInBounds 1 (Value.ref h₁.objs.size))
    have keep : ∀ b o, b ≠ e → h₁.get? b = some o → ((h₁.push { cls := .type "traceback", dict := none, data := .fields ([head, .ref L, .none, rawInt L, .none] ++ (if pl.isEmpty then List.replicate 6 Value.none else pl)).toArray }).update e (Obj.mapFields (·.setIfInBounds 1 (Value.ref h₁.objs.size)))).get? b = some o := fun b o hbe hb => by
      rw [Heap.get?_update_other _ _ (Ne.symm hbe)]
      exact Heap.get?_push_of_some _ hb
    have fin := h ((h₁.push { cls := .type "traceback", dict := none, data := .fields ([head, .ref L, .none, rawInt L, .none] ++ (if pl.isEmpty then List.replicate 6 Value.none else pl)).toArray }).update e (Obj.mapFields (·.setIfInBounds 1 (Value.ref h₁.objs.size)))) h₁.objs.size
      (fun b o hb hbe hbT e1 => keep b o hbe ((hs₁.2.1 b hb).trans (hk b o hb hbe hbT e1)))
      (fun b o hb e1 => by
        obtain ⟨sl, hsl⟩ := hs₁.2.2 b o (hfk b o hb e1)
        exact ⟨sl, keep b _ (fun q => hen (q ▸ hb)) hsl⟩)
      ⟨_, _, Heap.get?_update_self _ (Heap.get?_push_of_some _ he₂) (Obj.isFreed_of_fields hd₃), (Obj.cls_mapFields _ _).trans hc, by obtain ⟨c, d, dt, sl⟩ := oe; cases hd; exact hdx, hd₃, by rw [Array.getElem?_setIfInBounds_ne (by decide)]; exact h0, by simp [hsz], hTe,
        _, _, by rw [Heap.get?_update_other _ _ (Ne.symm hTe)]; exact Heap.get?_push_size h₁ rfl, rfl, by simp⟩
      (Heap.get?_none_of_le (by rw [hs₁.1, hss]; exact Nat.le_refl _))
    obtain ⟨hp1, g1, d1, t1, o1⟩ := s₁
    cases eg; cases ed; cases et; cases eo
    exact fin
  have hsz : 1 < vs.size := by
    rcases htb with rfl | ⟨T, rfl⟩
    · exact (Array.getElem?_eq_some_iff.mp htb').1
    · exact (Array.getElem?_eq_some_iff.mp htb'.1).1
  unfold noteFrame
  simp only [hf]
  rcases htb with rfl | ⟨T, rfl⟩
  · refine wpAny_bind (wpAny_field he hd htb' ?_)
    rw [if_neg (by decide)]
    exact tail s _ _ hl he hsz rfl rfl rfl rfl rfl (fun _ _ _ _ _ e => e) fun _ _ _ e => e
  · obtain ⟨h1, hTe, oT, ts, hT, hdT, h3⟩ := htb'
    refine wpAny_bind (wpAny_field he hd h1 ?_)
    rw [if_pos (show (Value.ref T != Value.none) = true from by simp)]
    refine wpAny_bind (wpAny_field hT hdT h3 ?_)
    rw [if_neg (show ¬ ((Value.none == rawInt L) = true) from by simp [rawInt])]
    refine wpAny_bind (wpAny_setField hT hdT (Array.getElem?_eq_some_iff.mp h3).1 ?_)
    have hTn : T ∉ frs (env :: outer) := not_frs hl hT hdT
    have other : ∀ b, b ≠ T → (s.heap.update T (Obj.mapFields (·.setIfInBounds 3 Value.none))).get? b = s.heap.get? b := fun b hb => Heap.get?_update_other _ _ (Ne.symm hb)
    refine tail { s with heap := s.heap.update T (Obj.mapFields (·.setIfInBounds 3 Value.none)) } _ _ (hl.of_keeps fun b o hb hnf => ⟨o, (other b fun q => by rw [q, hT] at hb; cases hb; exact hnf ts hdT).trans hb, rfl⟩) ((other e (Ne.symm hTe)).trans he) hsz (Heap.size_after_update ..) rfl rfl rfl rfl
      (fun b o hb hbe hbT e1 => (other b (hbT T _ rfl)).trans e1) fun b o hb e1 => (other b fun q => hTn (q ▸ hb)).trans e1
theorem flight_any {e T : Addr} {cls a0 fl : Value} {dx : Option Addr} {fr : Option Addr} {Q : Unit → Shared → Prop} (X : ExcAt s.heap e cls a0 dx (some (T, fl)))
    (h : ∀ h', (∀ b o, b ≠ T → s.heap.get? b = some o → h'.get? b = some o) → ExcAt h' e cls a0 dx (some (T, fr.elim .none fun f => rawInt f)) → Q () { s with heap := h' }) : wpAny M A (setFlight (.ref e) fr) Q E s := by
  obtain ⟨oe, vs, he, hc, hdx, hd, h0, h1, hTe, oT, ts, hT, hdT, h3⟩ := X
  unfold setFlight
  refine wpAny_bind (wpAny_field he hd h1 ?_)
  rw [if_pos (show (Value.ref T != Value.none) = true from by simp)]
  have h3' := (Array.getElem?_eq_some_iff.mp h3).1
  refine wpAny_setField hT hdT h3' (h _ (fun b o hb e1 => (Heap.get?_update_other _ _ (Ne.symm hb)).trans e1) ?_)
  have hd₃ := Obj.data_mapFields hdT (·.setIfInBounds 3 (fr.elim Value.none fun f => rawInt f))
  exact ⟨oe, vs, (Heap.get?_update_other _ _ hTe).trans he, hc, hdx, hd, h0, h1, hTe, _, _, Heap.get?_update_self _ hT (Obj.isFreed_of_fields hd₃), hd₃, by simp [h3']⟩
end
end Mine
namespace Mine
open PySem PySem.W PyProof.Rows PySem.Calls PySem.Spec
def Cx.loud (c : Cx) : Cx := { c with calm := false }
def Fm.mark (f : Fm) (e : Value) : Fm := { f with A := f.A.mark (some e) }
theorem VR.loud {c : Cx} {n : Nat} {ω : Om} {X : V} {v : Value} (h : VR c n ω X v) : VR c.loud n ω X v := by
  cases h with
  | d q => exact .d q
  | obj a b => exact .obj a b
  | val => exact .val _
  | meth a b q => exact .meth a b q
  | exn h1 h2 h3 h4 h5 h6 => exact .exn h1 h2 h3 h4 h5 h6
theorem VR.unloud {c : Cx} {n : Nat} {ω : Om} {X : V} {v : Value} (h : VR c.loud n ω X v) : VR c n ω X v := by
  cases h with
  | d q => exact .d q
  | obj a b => exact .obj a b
  | val => exact .val _
  | meth a b q => exact .meth a b q
  | exn h1 h2 h3 h4 h5 h6 => exact .exn h1 h2 h3 h4 h5 h6
theorem RelE.loud {c : Cx} {n : Nat} {f : Fm} {ω : Om} {σ : St} {s : Shared} {e : Value} (R : RelE c n f ω σ s) : RelE c.loud n (f.mark e) ω σ s := by
  obtain ⟨m, Mc, Mh, FR, r⟩ := R
  refine ⟨m, Mc, Mh, FR, ⟨r.fr, r.nw, r.nd, r.frs, r.cells, r.cinj, r.heap, fun x X hx hl => ?_, r.gens, r.drawn, r.os⟩⟩
  cases r.locs x X hx hl with
  | loc a b d => exact .loc a b d.loud
  | cell a b d e g => exact .cell a b d e g.loud
  | free a b d e g => exact .free a b d e g.loud
theorem RelE.unloud {c : Cx} {n : Nat} {f : Fm} {ω : Om} {σ : St} {s : Shared} {e : Value} (R : RelE c.loud n (f.mark e) ω σ s) : RelE c n f ω σ s := by
  obtain ⟨m, Mc, Mh, FR, r⟩ := R
  refine ⟨m, Mc, Mh, FR, ⟨r.fr, r.nw, r.nd, r.frs, r.cells, r.cinj, r.heap, fun x X hx hl => ?_, r.gens, r.drawn, r.os⟩⟩
  cases r.locs x X hx hl with
  | loc a b d => exact .loc a b d.unloud
  | cell a b d e g => exact .cell a b d e g.unloud
  | free a b d e g => exact .free a b d e g.unloud
theorem FmOk.loud {c : Cx} {S : Scope} {n : Nat} {f : Fm} {e : Value} (F : FmOk c S n f) : FmOk c.loud S n (f.mark e) :=
  ⟨F.scope, F.kind, F.globals, F.builtins, F.depth, F.units, F.guards, F.frames, (fun h => Bool.noConfusion h), F.cellsOk, F.freeOk, F.keys⟩
theorem CxOk.loud {c : Cx} (h : CxOk c) : CxOk c.loud := ⟨h.kin, h.g, h.b, h.nolimit, h.nodigits, h.low⟩
theorem FlR.unloud {c : Cx} {n : Nat} {ω : Om} {fl : Fl} {F : Flow} (h : FlR c.loud n ω fl F) : FlR c n ω fl F := by
  cases h with
  | next => exact .next
  | brk => exact .brk
  | cont => exact .cont
  | ret q => exact .ret q.unloud
section
variable {c : Cx} {S : Scope} {n : Nat} {σ σ' σ₁ σ₂ σ₃ σ₄ : St} {X Y Z : V} {e l r t test target iter fn : Expr} {es : List Expr} {Xs : List V} {pos tpos : Pos} {st : Stmt} {sts : List Stmt} {fl fl' : Fl} {x y : Str} {body orelse : List Stmt} {f : Fm} {ω : Om} {s : Shared}
theorem FrR.slots {fr : List (Addr × (Str → Option Value))} {FR : Led} {h h' : Heap} (F : FrR fr FR) (hin : ∀ p ∈ FR, h.get? p.1 = some p.2) (hk : ∀ p ∈ FR, ∃ sl, h'.get? p.1 = some { p.2 with slots := sl }) :
    ∃ FR', FrR fr FR' ∧ FR'.map (·.1) = FR.map (·.1) ∧ ∀ p ∈ FR', h'.get? p.1 = some p.2 := by
  induction F with
  | nil => exact ⟨[], .nil, rfl, fun _ h => nomatch h⟩
  | @cons L m o es ep l F h1 h2 h3 h4 ih =>
    obtain ⟨FR', a, b, d⟩ := ih (fun p hp => hin p (.tail _ hp)) fun p hp => hk p (.tail _ hp)
    obtain ⟨sl, hs⟩ := hk _ (.head _)
    exact ⟨(L, { o with slots := sl }) :: FR', .cons h1 h2 h3 a, by rw [List.map_cons, List.map_cons, b], fun p hp => by
      rcases List.mem_cons.mp hp with rfl | hp
      · exact hs
      · exact d p hp⟩
theorem FrR.mem {fr : List (Addr × (Str → Option Value))} {FR : Led} (F : FrR fr FR) : FR.map (·.1) = fr.map (·.1) := by
  induction F with
  | nil => rfl
  | cons _ _ _ _ ih => rw [List.map_cons, List.map_cons, ih]
theorem FrR.dict {fr : List (Addr × (Str → Option Value))} {FR : Led} (F : FrR fr FR) {p : Addr × Obj} (hp : p ∈ FR) : ∃ es ep, p.2.data = .dict es ep := by
  induction F with
  | nil => cases hp
  | cons h1 _ _ _ ih =>
    rcases List.mem_cons.mp hp with rfl | hp
    · exact ⟨_, _, h1⟩
    · exact ih hp
theorem RelE.slots {Fs : List Addr} {h' : Heap} {tk : Tok} (R : RelE c n f ω σ s) (hF : ∀ b ∈ Fs, b = f.env.locals ∨ ∃ m, (b, m) ∈ f.fr) (hk : ∀ b o, b ∉ Fs → s.heap.get? b = some o → h'.get? b = some o)
    (hs : ∀ b o, b ∈ Fs → s.heap.get? b = some o → ∃ sl, h'.get? b = some { o with slots := sl }) : RelE c n f ω σ { s with heap := h', toks := tk } := by
  obtain ⟨m, Mc, Mh, FR, r⟩ := R
  have any : ∀ b o, s.heap.get? b = some o → ∃ sl, h'.get? b = some { o with slots := sl } := fun b o hb => by
    by_cases hm : b ∈ Fs
    · exact hs b o hm hb
    · exact ⟨o.slots, hk b o hm hb⟩
  have inFR : ∀ b ∈ Fs, b = f.env.locals ∨ b ∈ FR.map (·.1) := fun b hb => by
    rcases hF b hb with h | ⟨m, h⟩
    · exact .inl h
    · rw [r.frs.mem]; exact .inr (List.mem_map.mpr ⟨_, h, rfl⟩)
  have nwFR : ∀ p ∈ FR, p ∈ Mc ++ (Mh ++ (ω.Z ++ (FR ++ f.keep))) := fun p hp => List.mem_append_right _ (List.mem_append_right _ (List.mem_append_right _ (List.mem_append_left _ hp)))
  obtain ⟨FR', a1, a2, a3⟩ := r.frs.slots (h' := h') (fun p hp => (r.nw p (nwFR p hp)).1) fun p hp => any _ _ (r.nw p (nwFR p hp)).1
  have keysEq : (Mc ++ (Mh ++ (ω.Z ++ (FR' ++ f.keep)))).map (·.1) = (Mc ++ (Mh ++ (ω.Z ++ (FR ++ f.keep)))).map (·.1) := by simp only [List.map_append, a2]
  have off : ∀ p, p ∈ Mc ∨ p ∈ Mh ∨ p ∈ ω.Z ∨ p ∈ f.keep → p.1 ∉ Fs := fun p hp hb => by
    have hp' : p ∈ Mc ++ (Mh ++ (ω.Z ++ (FR ++ f.keep))) := by
      simp only [List.mem_append]
      rcases hp with h | h | h | h
      · exact .inl h
      · exact .inr (.inl h)
      · exact .inr (.inr (.inl h))
      · exact .inr (.inr (.inr (.inr h)))
    rcases inFR _ hb with h | h
    · exact (r.nw p hp').2.1 h
    · have perm : (((Mc ++ (Mh ++ ω.Z)) ++ f.keep ++ FR).map (·.1)).Nodup := by
        have pp : ((Mc ++ (Mh ++ ω.Z)) ++ f.keep ++ FR).Perm (Mc ++ (Mh ++ (ω.Z ++ (FR ++ f.keep)))) := by
          have e1 : Mc ++ (Mh ++ (ω.Z ++ (FR ++ f.keep))) = (Mc ++ (Mh ++ ω.Z)) ++ (FR ++ f.keep) := by simp only [List.append_assoc]
          rw [e1, List.append_assoc]
          exact List.Perm.append_left _ List.perm_append_comm
        exact ((pp.map (·.1)).nodup_iff).mpr r.nd
      rw [List.map_append] at perm
      refine (List.nodup_append.mp perm).2.2 p.1 (List.mem_map.mpr ⟨p, ?_, rfl⟩) p.1 h rfl
      simp only [List.mem_append]
      rcases hp with h | h | h | h
      · exact .inl (.inl h)
      · exact .inl (.inr (.inl h))
      · exact .inl (.inr (.inr h))
      · exact .inr h
  have offB : ∀ b o, c.base.get? b = some o → b ∉ Fs := fun b o hb hm => by
    rcases inFR b hm with h | h
    · have q := Heap.lt_size hb
      have := r.fr.above
      rw [h] at q; exact absurd (Nat.lt_of_lt_of_le q this) (Nat.lt_irrefl _)
    · obtain ⟨p, hp, e⟩ := List.mem_map.mp h
      have := (r.nw p (nwFR p hp)).2.2
      have e' : p.1 = b := e
      rw [e', hb] at this; cases this
  obtain ⟨oL, es, ep, hL, hd, hsk, hf⟩ := r.fr.ns
  obtain ⟨sl, hL'⟩ := any _ _ hL
  refine ⟨m, Mc, Mh, FR', ⟨⟨⟨_, es, ep, hL', hd, hsk, hf⟩, fun b o hb => hk b o (offB b o hb) (r.fr.keep b o hb), r.fr.above⟩, fun p hp => ?_, keysEq ▸ r.nd, a1, r.cells, r.cinj, r.heap, r.locs, r.gens, r.drawn, r.os⟩⟩
  have hp4 : p ∈ FR' ∨ (p ∈ Mc ∨ p ∈ Mh ∨ p ∈ ω.Z ∨ p ∈ f.keep) := by
    simp only [List.mem_append] at hp
    rcases hp with h | h | h | h | h
    · exact .inr (.inl h)
    · exact .inr (.inr (.inl h))
    · exact .inr (.inr (.inr (.inl h)))
    · exact .inl h
    · exact .inr (.inr (.inr (.inr h)))
  rcases hp4 with h | h
  · have hm : p.1 ∈ FR.map (·.1) := by rw [← a2]; exact List.mem_map.mpr ⟨p, h, rfl⟩
    obtain ⟨q, hq, e⟩ := List.mem_map.mp hm
    have z := (r.nw q (nwFR q hq)).2
    exact ⟨a3 p h, by have e' : q.1 = p.1 := e; rw [← e']; exact z.1, by have e' : q.1 = p.1 := e; rw [← e']; exact z.2⟩
  · have hp' : p ∈ Mc ++ (Mh ++ (ω.Z ++ (FR ++ f.keep))) := by
      simp only [List.mem_append]
      rcases h with h | h | h | h
      · exact .inl h
      · exact .inr (.inl h)
      · exact .inr (.inr (.inl h))
      · exact .inr (.inr (.inr (.inr h)))
    have z := r.nw p hp'
    exact ⟨hk _ _ (off p h) z.1, z.2⟩
theorem fun_frames {h : Heap} {l : List Env} (R : RelE c n f ω σ s) (hk : ∀ b o, s.heap.get? b = some o → h.get? b = some o) (hl : ∀ env ∈ l, env.scope.kind ≠ .module ∧ ∃ L, env.frame = some L ∧ (L = f.env.locals ∨ ∃ m, (L, m) ∈ f.fr)) : h.FunFrames c.base l := by
  obtain ⟨m, Mc, Mh, FR, r⟩ := R
  induction l with
  | nil => trivial
  | cons env l ih =>
    obtain ⟨a1, L, a2, a3⟩ := hl env (.head _)
    refine ⟨a1, ?_, ih fun env he => hl env (.tail _ he)⟩
    rcases a3 with rfl | ⟨m', hm⟩
    · obtain ⟨oL, es, ep, hL, hd, _⟩ := r.fr.ns
      exact ⟨_, oL, a2, get_above_none r.fr.above, hk _ _ hL, fun vs q => by rw [hd] at q; cases q⟩
    · have : L ∈ FR.map (·.1) := by rw [r.frs.mem]; exact List.mem_map.mpr ⟨_, hm, rfl⟩
      obtain ⟨p, hp, e⟩ := List.mem_map.mp this
      have e' : p.1 = L := e
      subst e'
      have z := r.nw p (List.mem_append_right _ (List.mem_append_right _ (List.mem_append_right _ (List.mem_append_left _ hp))))
      obtain ⟨es, ep, hd⟩ := r.frs.dict hp
      exact ⟨p.1, p.2, a2, z.2.2, hk _ _ z.1, fun vs q => by rw [hd] at q; cases q⟩
theorem frs_ok {l : List Env} (hl : ∀ env ∈ l, env.scope.kind ≠ .module ∧ ∃ L, env.frame = some L ∧ (L = f.env.locals ∨ ∃ m, (L, m) ∈ f.fr)) : ∀ b ∈ frs l, b = f.env.locals ∨ ∃ m, (b, m) ∈ f.fr := fun b hb => by
  obtain ⟨env, he, hf⟩ := List.mem_filterMap.mp hb
  obtain ⟨_, L, a2, a3⟩ := hl env he
  rw [a2] at hf; cases hf; exact a3
theorem ex_try_ok {h₀ : ExceptHandler} {hs : List ExceptHandler} (h : Exs c S n body σ fl σ₁) : Ex c S n (.Try body (h₀ :: hs) [] [] pos) σ fl σ₁ := fun f F ω s Q E R k => by
  refine wpAny_Try_except (h f F ω s _ _ R fun ω₁ G s₁ e₁ R₁ q => ?_)
  have z := k ω₁ G s₁ e₁ R₁ q
  cases q with
  | next => exact wpAny_execs_nil z
  | _ => exact z
end
end Mine
namespace Mine
open PySem PySem.W PyProof.Rows PySem.Calls PySem.Spec
section
variable {c : Cx} {S : Scope} {n : Nat} {σ σ' σ₁ σ₂ σ₃ σ₄ : St} {X Y Z : V} {e l r t test target iter fn : Expr} {es : List Expr} {Xs : List V} {pos tpos : Pos} {st : Stmt} {sts : List Stmt} {fl fl' : Fl} {x y : Str} {body orelse : List Stmt} {f : Fm} {ω : Om} {s : Shared}
theorem caught {s₀ : Shared} {h₁ : Heap} {tk : Tok} {e : Addr} {cls a0 : Value} {dx : Option Addr} {Q : Unit → Shared → Prop} {E : Value → Shared → Prop} (hdot : S.names.lookup dot0 = none) (F : FmOk c S n f) (R : RelE c n f ω σ s₀) (hk : ∀ b o, s₀.heap.get? b = some o → h₁.get? b = some o) (hn : s₀.heap.get? e = none)
    (X : ExcAt h₁ e cls a0 dx none) (k : ∀ h' T, (∀ h'', (∀ b o, b ≠ T → h'.get? b = some o → h''.get? b = some o) → RelE c n f ω σ { s₀ with heap := h'', toks := tk }) → ExcAt h' e cls a0 dx (some (T, .none)) → s₀.heap.get? T = none → Q () { s₀ with heap := h', toks := tk }) :
    wpAny (model c.prog c.w) f.A (noteFrame (.ref e) f.env) (fun _ s₂ => wpAny (model c.prog c.w) f.A (setFlight (.ref e) none) Q E s₂) E { s₀ with heap := h₁, toks := tk } := by
  obtain ⟨l, h1, h2, h3⟩ := F.frames
  obtain ⟨⟨l', rfl⟩, hf⟩ := h3 hdot
  have hl := fun_frames R hk h2
  refine note_any (A := f.A) (s := { s₀ with heap := h₁, toks := tk }) (base := c.base) (outer := l') h1 hl hf X (.inl rfl) fun h₂ T k1 k2 X2 hT => ?_
  refine flight_any (s := { s₀ with heap := h₂, toks := tk }) X2 fun h₃ k3 X3 => ?_
  have hT0 : s₀.heap.get? T = none := by
    cases q : s₀.heap.get? T with
    | none => rfl
    | some o =>
      have z := hk T o q
      have hT' : h₁.get? T = none := hT
      rw [hT'] at z; cases z
  refine k h₃ T (fun h₄ k4 => R.slots (Fs := frs (f.env :: l')) (frs_ok h2) (fun b o hb e1 => ?_) fun b o hb e1 => ?_) X3 hT0
  · have hbe : b ≠ e := fun q => by rw [q, hn] at e1; cases e1
    have hbT : b ≠ T := fun q => by rw [q, hT0] at e1; cases e1
    exact k4 b o hbT (k3 b o hbT (k1 b o hb hbe (fun _ _ q => nomatch q) (hk b o e1)))
  · obtain ⟨sl, hsl⟩ := k2 b o hb (hk b o e1)
    exact ⟨sl, k4 b _ (fun q => by rw [q, hT0] at e1; cases e1) (k3 b _ (fun q => by rw [q, hT0] at e1; cases e1) hsl)⟩
theorem ie1 : isSubtype (.type "IndexError") (.type "BaseException") = pure true := by rw [isSubtype_type]; kernel_rfl
theorem ie2 : isSubtype (.type ((Manifest.find? "IndexError").elim "type" fun x => x.metatype)) (.type "tuple") = pure false := by
  have : ((Manifest.find? "IndexError").elim "type" fun x => x.metatype) = "type" := by decide +kernel
  rw [this, isSubtype_type]; kernel_rfl
theorem ie3 : isSubtype (.type "IndexError") (.type "IndexError") = pure true := by rw [isSubtype_type]; kernel_rfl
theorem ex_try_index {tx : Str} {k : Int} {tp sp ap ip hp : Pos} {b₀ : Stmt} {suite : List Stmt} (hC : CxOk c) (hdot : S.names.lookup dot0 = none) (hc : c.calm = true)
    (h1 : Ev c S n l σ (.d (.str tx)) σ₁) (h2 : Ev c S n r σ₁ (.d (.int k)) σ₂) (hout : (seqIndex? k tx.length).bind (tx.cps[·]?) = none) (hk : -1000000 ≤ k ∧ k < 1000000)
    (hx : S.names.lookup ("IndexError" : Str) = some .globalImplicit) (hg : GlobIs c ("IndexError" : Str) (.type "IndexError")) (h3 : Exs c.loud S n (b₀ :: suite) σ₂ fl σ₃)
    (hs : ∀ o i, ∃ ops, subscripted r false o i = operate ops (getItem o i) := by intro o i; exact ⟨_, rfl⟩) :
    Ex c S n (.Try [.Assign [.Name x tp] (.Subscript l r sp) ap] [.ExceptHandler (some (.Name ("IndexError" : Str) ip)) none (b₀ :: suite) hp] [] [] pos) σ fl σ₃ := fun f F ω s Q E R kk => by
  refine wpAny_Try_except (wpAny_execs_cons (wpAny_Assign_Name (Subscript_ ?_) (swaps_no rfl)))
  refine h1 f F ω s _ _ R fun ω₁ v₁ s₁ e₁ R₁ A₁ => h2 f F ω₁ s₁ _ _ R₁ fun ω₂ v₂ s₂ e₂ R₂ A₂ => ?_
  have A₁ := (A₁.ext e₂).toD
  cases A₁ with
  | str _ t => cases A₂.toD with
    | int _ u =>
      obtain ⟨ops, hs⟩ := hs (.str tx t) (.int k u)
      refine tail_any (typeIs_str _ tx t) PySem.F.slot_str_getitem.lookup ?_ hs
      refine getItem_meets (typeIs_str _ tx t) (by decide) PySem.F.slot_str_getitem PySem.F.entry_str_getitem (PySem.F.args_str_getitem_2 _ _) (raises_str_getitem tx k t u (by simp only [Bool.or_eq_false_iff, decide_eq_false_iff_not]; omega) hout) ⟨F.hand hc, fun h₁ tk e NE => ?_⟩
      obtain ⟨ob, tt, ho, hcl, hd⟩ := NE.there
      show wpAny _ _ (noteFrame (.ref e) f.env) _ _ _
      refine caught (s₀ := s₂) hdot F R₂ NE.keeps NE.new (cls := .type "IndexError") (a0 := tt) (dx := ob.dict) ⟨ob, _, ho, hcl, rfl, hd, rfl, rfl⟩ fun h₂ T RR X₃ hT => ?_
      have R₃ := RR h₂ fun _ _ _ e => e
      refine wpAny_handleBy_builtin (X := "IndexError") (T := "IndexError") (b := true) ie1 ie2 ie3 ?_
      have FL := F.loud (e := .ref e)
      have RL : RelE c.loud n (f.mark (.ref e)) ω₂ σ₂ { s₂ with heap := h₂, toks := tk } := R₃.loud
      have mt := ev_glob (c := c.loud) (S := S) (n := n) (σ := σ₂) (pos := ip) hC.loud hx (by decide +kernel) hg
      obtain ⟨g1, g2⟩ : True ∧ True := ⟨trivial, trivial⟩
      have hkm : f.env.scope.kind = .function := by rw [F.scope]; exact F.kind
      have kx : f.env.kindOf ("IndexError" : Str) = some .globalImplicit := by unfold Env.kindOf; rw [F.scope]; exact hx
      have hgl : h₂.Ns f.env.globals c.mg := by rw [F.globals]; exact hC.g.keeps R₃.keep
      have hbl : h₂.Ns f.env.builtins c.mb := by rw [F.builtins]; exact hC.b.keeps R₃.keep
      have fin : ∀ (v : Value), v = .type "IndexError" → v = .type "IndexError" ∧ ({ s₂ with heap := h₂, toks := tk } : Shared).TypeIs (.ref e) "IndexError" ∧
          (if true = true then wpAny (model c.prog c.w) (f.A.mark (some (.ref e))) (setFlight (.ref e) none) (fun x s₃ => wpAny (model c.prog c.w) (f.A.mark (some (.ref e))) (execs (b₀ :: suite) f.env) Q (notedBy (model c.prog c.w) (f.A.mark (some (.ref e))) f.env (cameBackBy (model c.prog c.w) f.A f.env E)) s₃) (notedBy (model c.prog c.w) (f.A.mark (some (.ref e))) f.env (cameBackBy (model c.prog c.w) f.A f.env E)) { s₂ with heap := h₂, toks := tk }
            else wpAny (model c.prog c.w) f.A (handleBy (.ref e) f.env []) Q E { s₂ with heap := h₂, toks := tk }) := fun v hv => by
        refine ⟨hv, ?_, ?_⟩
        · obtain ⟨oe, vs, he, hc', _⟩ := X₃
          exact ⟨oe, he, hc'⟩
        · simp only [if_true]
          refine flight_any (s := { s₂ with heap := h₂, toks := tk }) X₃ fun h₃ k3 X4 => ?_
          have R₄ : RelE c n f ω₂ σ₂ { s₂ with heap := h₃, toks := tk } := RR h₃ k3
          refine h3 (f.mark (.ref e)) FL ω₂ { s₂ with heap := h₃, toks := tk } _ _ R₄.loud fun ω₃ G s₃ e₃ R₅ q => ?_
          exact kk ω₃ G s₃ ((e₁.trans e₂).down.trans e₃) R₅.unloud q.unloud
      refine Name_function_global hkm kx ?_ (by decide +kernel)
      rcases hg with hg | ⟨hg1, hg2⟩
      · exact loadGlobal_global hgl hg (fin _ rfl)
      · exact loadGlobal_builtin hgl hg1 hbl hg2 (fin _ rfl)
end
end Mine
namespace Mine
open PySem PySem.W PyProof.Rows PySem.Calls PySem.Spec
def fdAt (K : Frag) (a : Addr) : FuncData := match K.lookup a with
  | some ⟨_, _, .func fd, _⟩ => fd
  | _ => default
def scAt (K : Frag) (a : Addr) : Scope := (fdAt K a).scope
def bodyAt (K : Frag) (a : Addr) : List Stmt := match (fdAt K a).body with
  | .stmts b => b
  | _ => []
theorem lk_setH {i : Nat} {o o' : HO} {H : List (Nat × HO)} (h : lk i H = some o) : lk i (setH i o' H) = some o' := by
  induction H with
  | nil => cases h
  | cons p H ih =>
    obtain ⟨k, x⟩ := p
    unfold lk at h
    unfold setH
    cases q : (k == i) with
    | true => unfold lk; rw [show (bif true then (k, o') :: H else (k, x) :: setH i o' H) = (k, o') :: H from rfl]; show (bif k == i then some o' else lk i H) = _; rw [q]; rfl
    | false => rw [q] at h; show (bif k == i then some x else lk i (setH i o' H)) = _; rw [q]; exact ih h
theorem setH_setH {i : Nat} {o o' : HO} {H : List (Nat × HO)} : setH i o' (setH i o H) = setH i o' H := by
  induction H with
  | nil => rfl
  | cons p H ih =>
    obtain ⟨k, x⟩ := p
    cases q : (k == i) with
    | true =>
      have e1 : setH i o ((k, x) :: H) = (k, o) :: H := by unfold setH; rw [q]; rfl
      rw [e1]; unfold setH; rw [q]; rfl
    | false =>
      have e1 : setH i o ((k, x) :: H) = (k, x) :: setH i o H := by show (bif k == i then _ else _) = _; rw [q]; rfl
      rw [e1]; show (bif k == i then _ else (k, x) :: setH i o' (setH i o H)) = (bif k == i then _ else (k, x) :: setH i o' H)
      rw [q, ih]; rfl
theorem lk_setH_ne {i j : Nat} {o' : HO} {H : List (Nat × HO)} (h : j ≠ i) : lk j (setH i o' H) = lk j H := by
  induction H with
  | nil => rfl
  | cons p H ih =>
    obtain ⟨k, x⟩ := p
    cases q : (k == i) with
    | true =>
      have e : k = i := by simpa using q
      have e1 : setH i o' ((k, x) :: H) = (k, o') :: H := by unfold setH; rw [q]; rfl
      rw [e1]
      have q2 : (k == j) = false := by simpa [e] using fun z => h z.symm
      show (bif k == j then some o' else lk j H) = (bif k == j then some x else lk j H)
      rw [q2]; rfl
    | false =>
      have e1 : setH i o' ((k, x) :: H) = (k, x) :: setH i o' H := by show (bif k == i then _ else _) = _; rw [q]; rfl
      rw [e1]
      show (bif k == j then some x else lk j (setH i o' H)) = (bif k == j then some x else lk j H)
      rw [ih]
section
variable {c : Cx} {S : Scope} {n : Nat} {σ σ' σ₁ σ₂ σ₃ σ₄ : St} {X Y Z : V} {e l r t test target iter fn : Expr} {es : List Expr} {Xs : List V} {pos tpos : Pos} {st : Stmt} {sts : List Stmt} {fl fl' : Fl} {x y : Str} {body orelse : List Stmt}
theorem lk1 {H : List (Nat × HO)} {l : List (Nat × V)} : lk (key x) (St.mk ((key x, X) :: l) H).loc = some X := by show (bif key x == key x then some X else _) = _; simp
theorem lk2 {H : List (Nat × HO)} {l : List (Nat × V)} {a : Nat} {r : Option V} (h : (a == key x) = false) (k : lk (key x) (St.mk l H).loc = r) : lk (key x) (St.mk ((a, Y) :: l) H).loc = r := by show (bif a == key x then some Y else lk (key x) l) = _; rw [h]; exact k
theorem lk3 : lk (key x) (St.set σ x X).loc = some X := lk1 (H := σ.heap)
theorem lk4 {r : Option V} (h : (key y == key x) = false) (k : lk (key x) σ.loc = r) : lk (key x) (St.set σ y Y).loc = r := lk2 (H := σ.heap) h k
theorem lk5 {H : List (Nat × HO)} {r : Option V} (k : lk (key x) σ.loc = r) : lk (key x) (St.mk σ.loc H).loc = r := k
theorem lk6 {H : List (Nat × HO)} {ps : List Str} {l : List V} : lk (key x) (St.mk (loc0 (x :: ps) (X :: l)) H).loc = some X := lk1
theorem lk7 {H : List (Nat × HO)} {ps : List Str} {l : List V} {r : Option V} (h : (key y == key x) = false) (k : lk (key x) (St.mk (loc0 ps l) H).loc = r) : lk (key x) (St.mk (loc0 (y :: ps) (Y :: l)) H).loc = r := lk2 h k
theorem nm (hv : isVar (S.names.lookup x) = true := by kernel_rfl) (hd : plainNm x = true := by kernel_rfl)
    (hx : lk (key x) σ.loc = some X := by repeat (first | with_reducible exact lk1 | with_reducible exact lk3 | with_reducible exact lk6 | with_reducible refine lk4 (by kernel_rfl) ?_ | with_reducible refine lk2 (by kernel_rfl) ?_ | with_reducible refine lk7 (by kernel_rfl) ?_ | with_reducible refine lk5 ?_)) : Ev c S n (.Name x pos) σ X σ := ev_name hv hd hx
theorem gl {v : Value} (hC : CxOk c) (hx : GlobIs c x v) (hv : S.names.lookup x = some .globalImplicit := by kernel_rfl) (hd : plainNm x = true := by kernel_rfl) : Ev c S n (.Name x pos) σ (.val v) σ := ev_glob hC hv hd hx
theorem gd {d : D} (hC : CxOk c) (hx : GlobD c x d) (hv : S.names.lookup x = some .globalImplicit := by kernel_rfl) (hd : plainNm x = true := by kernel_rfl) : Ev c S n (.Name x pos) σ (.d d) σ := ev_globd hC hv hd hx
theorem asg (h1 : Ev c S n e σ X σ₁) (hv : isOwnVar (S.names.lookup x) = true := by kernel_rfl) (hn : noComp e = true := by rfl) : Ex c S n (.Assign [.Name x tpos] e pos) σ .next (σ₁.set x X) := ex_asg hv h1 hn
theorem aug {op : Operator} (h1 : Ev c S n e σ Y σ₁) (h2 : Op2 c n (inplaceOp op) X Y σ₁ Z σ₂) (hv : isOwnVar (S.names.lookup x) = true := by kernel_rfl) (hd : plainNm x = true := by kernel_rfl)
    (hx : lk (key x) σ.loc = some X := by repeat (first | with_reducible exact lk1 | with_reducible exact lk3 | with_reducible exact lk6 | with_reducible refine lk4 (by kernel_rfl) ?_ | with_reducible refine lk2 (by kernel_rfl) ?_ | with_reducible refine lk7 (by kernel_rfl) ?_ | with_reducible refine lk5 ?_)) :
    Ex c S n (.AugAssign (.Name x tpos) op e pos) σ .next (σ₂.set x Z) := ex_aug hv hd hx h1 h2
theorem sattr {C : Addr} {as : List (Str × D)} {i : Nat} {name : Str} {d : D} {o : Expr} {H : List (Nat × HO)} (as' : List (Str × D)) (hC : CxOk c) (hk : SetOk c.K C name) (h1 : Ev c S n e σ (.d d) σ₁) (h2 : Ev c S n o σ₁ (.obj i) σ₂) (hh : σ₂.heap = setH i (.inst C as) H) {o' : HO} (hi : lk i H = some o') (hp : putD' name d as = as') (hl : as.length ≤ 900) (hn : noComp e = true := by rfl) :
    Ex c S n (.Assign [.Attribute o name tpos] e pos) σ .next ⟨σ₂.loc, setH i (.inst C as') H⟩ := by
  have z := ex_setattr (pos := pos) (tpos := tpos) hC hk h1 h2 (by rw [hh]; exact lk_setH hi) hl hn
  rw [hp, hh, setH_setH] at z
  exact z
theorem if_t (h0 : Ts c S n t σ true σ₁) (h1 : Exs c S n body σ₁ fl σ₂) : Ex c S n (.If t body orelse pos) σ fl σ₂ := ex_if h0 (fun _ => h1) (fun h => nomatch h)
theorem if_f (h0 : Ts c S n t σ false σ₁) (h1 : Exs c S n orelse σ₁ fl σ₂) : Ex c S n (.If t body orelse pos) σ fl σ₂ := ex_if h0 (fun h => nomatch h) (fun _ => h1)
def allLoc (S : Scope) (ps : List Str) : Bool := ps.all fun x => match S.names.lookup x with | some .local => true | _ => false
def noCell (S : Scope) : Bool := S.names.all fun x => match x.2 with | .cell => false | _ => true
def fnOk (K : Frag) (a : Addr) (ps : List Str) : Bool :=
  (match K.lookup a with | some ⟨_, _, .func _, _⟩ => true | _ => false) && codeIn K (fdAt K a).code (fdAt K a).qualname && (match (fdAt K a).body with | .stmts _ => true | _ => false) && (fdAt K a).globals == mainGlobals && (fdAt K a).builtins == builtinsNs && (fdAt K a).closure.isEmpty &&
  allLoc (scAt K a) ps && noCell (scAt K a) && keysOkB (scAt K a) && !(scAt K a).isCoroutine && !(scAt K a).isGenerator && (match (scAt K a).kind with | .function => true | _ => false)
theorem fn_at {K : Frag} {a : Addr} {ps : List Str} {d : D} {H T : List (Nat × HO)} {loc : List (Nat × V)} (hC : CxOk c) (hK : c.K = K) (hn : n ≤ 100) (hok : fnOk K a ps = true) (hps : ps.Nodup)
    (hbind : ∀ vs : List Value, vs.length = ps.length → bindArgs (fdAt K a) ⟨vs, []⟩ = pure (ps.zip vs)) (hlen : ps.length = Xs.length) (hS : S = scAt K a)
    (hbody : Exs c S (n + 1) (bodyAt K a) ⟨loc0 ps Xs, σ.heap⟩ fl ⟨loc, T ++ H⟩) (hg : Gives fl d) : FnN c n a Xs σ (.d d) ⟨σ.loc, H⟩ := by
  subst hK
  subst hS
  unfold fnOk at hok
  simp only [Bool.and_eq_true] at hok
  obtain ⟨⟨⟨⟨⟨⟨⟨⟨⟨⟨⟨h1, h2⟩, h3⟩, h4⟩, h5⟩, h6⟩, h7⟩, h8⟩, h9⟩, h10⟩, h11⟩, h12⟩ := hok
  have e1 : ∃ oc od osl, c.K.lookup a = some ⟨oc, od, .func (fdAt c.K a), osl⟩ := by
    split at h1
    · rename_i oc od fd osl q
      exact ⟨oc, od, osl, by unfold fdAt; rw [q]⟩
    · cases h1
  obtain ⟨oc, od, osl, ho⟩ := e1
  have e3 : (fdAt c.K a).body = .stmts (bodyAt c.K a) := by
    split at h3
    · rename_i b q; unfold bodyAt; rw [q]
    · cases h3
  have e12 : (scAt c.K a).kind = .function := by
    split at h12
    · assumption
    · cases h12
  refine fn_call hC hn ho h2 rfl e3 (by simpa using h4) (by simpa using h5) (by simpa using h6) hbind hlen hps (fun x hx => ?_) (fun x hx => ?_) (fun x h => ?_) (keysOk_of h9) hbody hg (show (scAt c.K a).isCoroutine = false by simpa using h10) (show (scAt c.K a).isGenerator = false by simpa using h11) e12
  · have z := List.all_eq_true.mp h7 x hx
    split at z
    · assumption
    · cases z
  · have z := List.all_eq_true.mp h8 x hx
    intro e
    rw [e] at z; cases z
  · have z := List.all_eq_true.mp h8 _ (lookup_mem h)
    cases z
end
end Mine
namespace Mine
open PySem PySem.W PyProof.Rows PySem.Calls PySem.Spec
structure BoundOk (K : Frag) (C : Addr) (name : Str) (g : Addr) : Prop where
  get : plainGet K C name = true
  has : hasDictIn K C = true
  find : findIn K (.ref C) name = some (some (.ref g))
  fn : isFn K (.ref g) = true
  gf : specialIn K (.ref g) "__get__" = some (some (.builtin "function.__get__"))
  ft : takesIn K (.ref g) = some false
  cp : copiedNames.contains name = false
section
variable {c : Cx} {S : Scope} {n : Nat} {σ σ' σ₁ σ₂ σ₃ σ₄ : St} {X Y Z : V} {e l r t test target iter fn : Expr} {es : List Expr} {Xs : List V} {pos tpos : Pos} {st : Stmt} {sts : List Stmt} {fl fl' : Fl} {x y : Str} {body orelse : List Stmt} {C g : Addr} {as : List (Str × D)} {i : Nat} {name : Str}
theorem ev_bound {p : Pos} (hC : CxOk c) (hk : BoundOk c.K C name g) (h1 : Ev c S n (.Name y p) σ (.obj i) σ₁) (hi : lk i σ₁.heap = some (.inst C as)) (hd : getD? name as = none) : Ev c S n (.Attribute (.Name y p) name pos) σ (.meth i g) σ₁ := fun f F ω s Q E R h => by
  refine Attribute_Name_ (h1 f F ω s _ _ R fun ω₁ v s₁ e₁ R₁ A₁ => ?_)
  cases A₁ with
  | @obj _ a hb ha =>
    obtain ⟨m, Mc, Mh, FR, r⟩ := id R₁
    obtain ⟨dx, es, k, M1, M2, _, q, I, _⟩ := inst_at r hi ha
    refine kbm_bound r.fr hC.kin r.nw I hk.get hk.has hk.find hk.fn hk.gf hk.ft hk.cp ((q.getL name).2 hd) fun q' h' F' N' lt => ?_
    have X1 : Ext (n + 1) ω₁ { ω₁ with Z := (q', methodObj (.ref g) (.ref a)) :: ω₁.Z } := Ext.frz (n + 1) ω₁ [(q', methodObj (.ref g) (.ref a))]
    exact h _ (.ref q') _ (e₁.trans X1) ⟨m, Mc, Mh, FR, r.frz (k := s₁.toks + 1) F' N' lt⟩ (.meth hb ha (.inl (.head _)))
theorem ev_callm0 (hC : CxOk c) (hf : fnIn c.K g = true) (h1 : Ev c S n l σ (.meth i g) σ₁) (h3 : FnN c n g [.obj i] σ₁ Z σ₂)
    (hc : ∀ env, eval (.Call l [] [] pos) env = (do callWith pos (← eval l env) [] (backTo pos (starEach [] env)) (backToKw pos (keywordEach [] env))) := by intro _; rfl) : Ev c S n (.Call l [] [] pos) σ Z σ₂ := fun f F ω s Q E R h => by
  refine Call_ (h1 f F ω s _ _ R fun ω₁ v s₁ e₁ R₁ A₁ => ?_) (hc _)
  cases A₁ with
  | @meth _ _ q a hb ha hz =>
    have hq := R₁.fz hz
    refine callWith_M0 (K := c.K) ⟨hq, hC.kin.keeps R₁.keep⟩ hf (wpAny_call (method_call hq ?_))
    exact h3 S f F ω₁ s₁ _ [.ref a] R₁ (.cons (.obj hb ha) .nil) fun ω' v s' e' R' B => h ω' v s' (e₁.trans e') R' B
inductive SubL (σ : St) : List (Nat × V) → Prop
  | nil : SubL σ []
  | cons {x : Str} {X : V} {l : List (Nat × V)} : lk (key x) σ.loc = some X → SubL σ l → SubL σ ((key x, X) :: l)
theorem sub_list {l : List (Nat × V)} (h : SubL σ l) : Sub σ ⟨l, σ.heap⟩ := by
  refine ⟨fun k X hk => ?_, List.Sublist.refl _⟩
  induction h with
  | nil => cases hk
  | @cons x Y l h1 _ ih =>
    have hk' : (bif key x == k then some Y else lk k l) = some X := hk
    cases q : (key x == k) with
    | true => rw [q] at hk'; cases hk'; have e : key x = k := by simpa using q
              rw [← e]; exact h1
    | false => rw [q] at hk'; exact ih hk'
theorem ex_assert {test : Expr} (hc : c.calm = true) (h : Ts c S n test σ true σ₁) : Ex c S n (.Assert test none pos) σ .next σ₁ := fun f F ω s Q E R k =>
  wpAny_Assert (F.hand hc) (h f F ω s _ _ R fun ω₁ s₁ e₁ R₁ => by simp only [if_true]; exact k ω₁ .next s₁ e₁.down R₁ .next)
theorem ts_is {b b' : Bool} (h : Ts c S n e σ b σ₁) (q : b = b') : Ts c S n e σ b' σ₁ := q ▸ h
end
def lenL (L : List Str) : Nat := (L.map (·.length)).sum
def kOf (t : Str) (L : List Str) : Nat := t.length - lenL L.tail
def nxOf : List Str → D
  | [] => .none
  | s :: _ => .str s
def tokNext (t : Str) (k : Nat) : Option (Nat × D) := match t.cps[k]? with
  | none => some (k, .none)
  | some ch => if ch = 92 then (match t.cps[k + 1]? with
    | none => none
    | some d => some (k + 2, .str ⟨#[ch, d]⟩)) else some (k + 1, .str ⟨#[ch]⟩)
def TokOk (t : Str) : List Str → Prop
  | [] => True
  | s :: L => tokNext t (kOf t (s :: L)) = some (kOf t L, nxOf L) ∧ TokOk t L
def flagsD : List (Str × D) := [("i", .int 2), ("L", .int 4), ("m", .int 8), ("s", .int 16), ("x", .int 64), ("a", .int 256), ("u", .int 32)]
def flagOf (x : Str) : Option Int := match getD? x flagsD with
  | some (.int i) => some i
  | _ => none
theorem flag_get {x : Str} {i : Int} (h : flagOf x = some i) : getD? x flagsD = some (.int i) := by
  unfold flagOf at h
  split at h
  · cases h; assumption
  · cases h
theorem flag_some {x : Str} : (getD? x flagsD).isSome = (flagOf x).isSome := by
  have : ∀ (l : List (Str × D)), (∀ p ∈ l, ∃ i, p.2 = .int i) → (getD? x l).isSome = (match getD? x l with | some (.int i) => some i | _ => none).isSome := by
    intro l hl
    induction l with
    | nil => rfl
    | cons p l ih =>
      obtain ⟨a, d⟩ := p
      obtain ⟨i, hi⟩ := hl _ (.head _)
      dsimp only at hi
      subst hi
      unfold getD?
      by_cases e : a = x
      · simp [e]
      · simp only [if_neg e]; exact ih fun p hp => hl p (.tail _ hp)
  exact this flagsD (by intro p hp; simp only [flagsD, List.mem_cons, List.not_mem_nil, or_false] at hp; rcases hp with rfl | rfl | rfl | rfl | rfl | rfl | rfl <;> exact ⟨_, rfl⟩)
def onLoop (b : Bool) : List Str → Str → Int → Option (Str × Int × List Str)
  | [], _, _ => none
  | c2 :: L, c, acc => match flagOf c with
    | none => none
    | some fl =>
      if (b && c == "L") || (!b && c == "u") then none else
      if (Builtin.bitAnd fl 292 != 0) && (Builtin.bitAnd (Builtin.bitOr acc fl) 292 != fl) then none else
      if Txt.contains ")-:" c2 then some (c2, Builtin.bitOr acc fl, L) else
      if (flagOf c2).isSome then onLoop b L c2 (Builtin.bitOr acc fl) else none
def offLoop : List Str → Str → Int → Option (Int × List Str)
  | [], _, _ => none
  | c2 :: L, c, acc => match flagOf c with
    | none => none
    | some fl =>
      if Builtin.bitAnd fl 292 != 0 then none else
      if c2 == ":" then some (Builtin.bitOr acc fl, L) else
      if (flagOf c2).isSome then offLoop L c2 (Builtin.bitOr acc fl) else none
end Mine
namespace Mine
open PySem PySem.W PyProof.Rows PySem.Calls PySem.Spec
theorem ints_drs {κ : Str → Int} {Zf : Fz} {ns : List Int} {vs : List Value} (h : IntsAre vs ns) : DRs κ Zf (ns.map .int) vs := by
  induction h with
  | nil => exact .nil
  | cons _ _ _ ih => exact .cons (.int _ _) ih
def defScope (p : Program) (nm : Str) : Scope := p.main.body.foldl (fun acc st => match st with
  | .FunctionDef n _ _ _ _ _ sc _ _ _ => bif n == nm then sc else acc
  | _ => acc) { kind := .function, names := [], isGenerator := false, isCoroutine := false }
end Mine
namespace Mine
open PySem PySem.W PyProof.Rows PySem.Calls PySem.Spec
def nthBody (p : Program) (k : Nat) : List Stmt := match p.main.body.drop k with
  | .FunctionDef _ _ b _ _ _ _ _ _ _ :: _ => b
  | _ => []
def forBody (l : List Stmt) (k : Nat) : List Stmt := match l.drop k with
  | .For _ _ b _ _ :: _ => b
  | .While _ b _ _ :: _ => b
  | _ => []
def ifBody (l : List Stmt) (k : Nat) : List Stmt := match l.drop k with
  | .If _ b _ _ :: _ => b
  | _ => []
section
variable {c : Cx} {S : Scope} {n : Nat} {σ σ' σ₁ σ₂ σ₃ σ₄ : St} {X Y Z : V} {e l r t test target iter fn : Expr} {es : List Expr} {Xs : List V} {pos tpos : Pos} {st : Stmt} {sts : List Stmt} {fl fl' : Fl} {x y : Str} {body body' orelse : List Stmt}
theorem fl_body {pin : Led} (h : FL c S n target body' pin Xs σ fl σ') (e : body = body') : FL c S n target body pin Xs σ fl σ' := e ▸ h
theorem fl_fold {α : Type} {st : α → St} {g : α → D → α} {P : Nat → α → Prop} {items : List D} {pin : Led}
    (h : ∀ m a d, P m a → items[m]? = some d → P (m + 1) (g a d) ∧ ∃ fl σ₁, Fl.goes fl = true ∧ As c S n target (.d d) (st a) σ₁ ∧ Exs c S n body σ₁ fl (st (g a d))) (hpin : ∀ a, PinsIn pin (st a).heap) :
    ∀ a, P 0 a → FL c S n target body pin (items.map .d) (st a) .next (st (items.foldl g a)) := by
  have aux : ∀ (rest : List D) (m : Nat) a, (∀ j, rest[j]? = items[m + j]?) → P m a → FL c S n target body pin (rest.map .d) (st a) .next (st (rest.foldl g a)) := by
    intro rest
    induction rest with
    | nil => intro m a _ _; exact fl_nil
    | cons d rest ih =>
      intro m a hr hp
      have hd : items[m]? = some d := (hr 0).symm
      obtain ⟨hp', fl, σ₁, hf, h1, h2⟩ := h m a d hp hd
      exact fl_cons h1 h2 hf (ih (m + 1) (g a d) (fun j => by have z := hr (j + 1); rw [Nat.add_assoc, Nat.add_comm 1 j]; simpa using z) hp') (hpin _)
  exact fun a hp => aux items 0 a (fun j => by rw [Nat.zero_add]) hp
theorem fold_P {α : Type} {g : α → D → α} {P : Nat → α → Prop} {items : List D} (h : ∀ m a d, P m a → items[m]? = some d → P (m + 1) (g a d)) : ∀ a, P 0 a → P items.length (items.foldl g a) := by
  have aux : ∀ (rest : List D) (m : Nat) a, (∀ j, rest[j]? = items[m + j]?) → P m a → P (m + rest.length) (rest.foldl g a) := by
    intro rest
    induction rest with
    | nil => intro m a _ hp; exact hp
    | cons d rest ih =>
      intro m a hr hp
      have z := ih (m + 1) (g a d) (fun j => by have z := hr (j + 1); rw [Nat.add_assoc, Nat.add_comm 1 j]; simpa using z) (h m a d hp (hr 0).symm)
      rw [List.length_cons, List.foldl_cons]
      rwa [Nat.add_assoc, Nat.add_comm 1] at z
  intro a hp
  have z := aux items 0 a (fun j => by rw [Nat.zero_add]) hp
  rwa [Nat.zero_add] at z
theorem if_any {b : Bool} (h0 : Ts c S n t σ b σ₁) (h1 : b = true → Exs c S n body σ₁ fl σ₂) (h2 : b = false → Exs c S n orelse σ₁ fl σ₂) : Ex c S n (.If t body orelse pos) σ fl σ₂ := ex_if h0 h1 h2
end
end Mine
namespace Mine
open PySem PySem.W PyProof.Rows PySem.Calls PySem.Spec
def flatK : Nat → D → Bool
  | 0, .tup _ => false
  | 0, .lst _ => false
  | _, .dct _ => false
  | k + 1, .tup l => l.all (flatK k)
  | k + 1, .lst l => l.all (flatK k)
  | _, _ => true
section
variable {κ : Str → Int} {Z : Fz} {A : Around} {s : Shared}
theorem range_all {n : Nat} {e : Nat → Bool} (h : ∀ j, j < n → e j = true) : (List.range n).all e = true := List.all_eq_true.mpr fun j hj => h j (List.mem_range.mp hj)
theorem eq_same : ∀ (k : Nat) (d : D), flatK k d = true → ∀ (A : Around), A.units + k < 9900 → ∀ v w, DR κ Z d v → DR κ Z d w → (∀ a o, Z a o → s.heap.get? a = some o) → SeqAt.EqAt A s v w true := by
  intro k
  induction k with
  | zero =>
    intro d hd A hu v w h1 h2 hz
    cases h1 with
    | none => cases h2; exact SeqAt.EqAt.same _
    | bool b => cases h2; exact SeqAt.EqAt.same _
    | int i t => cases h2 with | int _ u => have z := SeqAt.EqAt.int_int (A := A) (s := s) i t i u; rwa [beq_self_eq_true] at z
    | str x t => cases h2 with | str _ u => have z := SeqAt.EqAt.str_str (A := A) (s := s) x t x u; rwa [beq_self_eq_true] at z
    | bytes b t => cases h2 with
      | bytes _ u =>
        intro prog w E Q hq
        unfold eqBool
        refine wpAny_holding ?_
        have z : ∀ Q : Value → Shared → Prop, Q (.bool true) s → wpAny (model prog w) A (compareOp .Eq (.bytes b t) (.bytes b u)) Q E s := fun Q hQ => eq_bytes (by rw [beq_self_eq_true]; exact hQ)
        exact wpAny_ite_split (fun _ => wpAny_bind (wpAny_rule (wpAny_pure hq))) (fun _ => wpAny_bind (z _ (wpAny_truthy_bool hq)))
    | tup _ _ _ _ => cases hd
    | lst _ _ _ _ => cases hd
    | dct _ _ _ _ _ _ => cases hd
  | succ k ih =>
    intro d hd A hu v w h1 h2 hz
    have sub : ∀ l : List D, l.all (flatK k) = true → ∀ vs ws, DRs κ Z l vs → DRs κ Z l ws → ∀ j (q1 : j < vs.toArray.size) (q2 : j < ws.toArray.size), SeqAt.EqAt A.in1 s vs.toArray[j] ws.toArray[j] true := by
      intro l hl vs ws g1 g2 j q1 q2
      have hj : j < l.length := by rw [List.size_toArray, g1.length] at q1; exact q1
      obtain ⟨x, hx1, hx2⟩ := g1.get (List.getElem?_eq_getElem hj)
      obtain ⟨y, hy1, hy2⟩ := g2.get (List.getElem?_eq_getElem hj)
      have e1 : vs.toArray[j] = x := by rw [List.getElem_toArray]; rw [List.size_toArray] at q1; rw [List.getElem?_eq_getElem q1] at hx1; exact Option.some.inj hx1
      have e2 : ws.toArray[j] = y := by rw [List.getElem_toArray]; rw [List.size_toArray] at q2; rw [List.getElem?_eq_getElem q2] at hy1; exact Option.some.inj hy1
      rw [e1, e2]
      exact ih l[j] (List.all_eq_true.mp hl _ (List.getElem_mem hj)) A.in1 (by show A.units + 1 + k < 9900; omega) x y hx2 hy2 hz
    have hcl : A.units < cLine := by show A.units < 9900; omega
    cases h1 with
    | none => cases h2; exact SeqAt.EqAt.same _
    | bool b => cases h2; exact SeqAt.EqAt.same _
    | int i t => cases h2 with | int _ u => have z := SeqAt.EqAt.int_int (A := A) (s := s) i t i u; rwa [beq_self_eq_true] at z
    | str x t => cases h2 with | str _ u => have z := SeqAt.EqAt.str_str (A := A) (s := s) x t x u; rwa [beq_self_eq_true] at z
    | bytes b t => exact ih _ (by cases k <;> rfl) A (by omega) _ _ (.bytes b t) h2 hz
    | @tup a o vs m l z1 c1 d1 g1 => cases h2 with
      | @tup b o2 ws m2 _ z2 c2 d2 g2 =>
        by_cases hab : a = b
        · subst hab; exact SeqAt.EqAt.same _
        · refine SeqAt.EqAt.of_refs hab ?_
          have z := SeqAt.RcAt.tuples (A := A) (s := s) (e := fun _ => true) ⟨o, hz _ _ z1, c1, m, d1⟩ ⟨o2, hz _ _ z2, c2, m2, d2⟩ hcl (sub l hd vs ws g1 g2)
          have e : vs.toArray.size = ws.toArray.size := by rw [List.size_toArray, List.size_toArray, g1.length, g2.length]
          rw [range_all (fun _ _ => rfl), e, beq_self_eq_true] at z
          exact z
    | @lst a o vs m l z1 c1 d1 g1 => cases h2 with
      | @lst b o2 ws m2 _ z2 c2 d2 g2 =>
        by_cases hab : a = b
        · subst hab; exact SeqAt.EqAt.same _
        · refine SeqAt.EqAt.of_refs hab ?_
          have e : vs.toArray.size = ws.toArray.size := by rw [List.size_toArray, List.size_toArray, g1.length, g2.length]
          have z := SeqAt.RcAt.lists (A := A) (s := s) (e := fun _ => true) ⟨o, hz _ _ z1, c1, m, d1⟩ ⟨o2, hz _ _ z2, c2, m2, d2⟩ e hcl (sub l hd vs ws g1 g2)
          rw [range_all (fun _ _ => rfl)] at z
          exact z
    | dct _ _ _ _ _ _ => cases hd
theorem items_same {l : List D} {k : Nat} (hl : l.all (flatK k) = true) (hu : A.units + k + 1 < 9900) {vs ws : List Value} (g1 : DRs κ Z l vs) (g2 : DRs κ Z l ws) (hz : ∀ a o, Z a o → s.heap.get? a = some o) :
    vs.toArray.size = ws.toArray.size ∧ ∀ j (q1 : j < vs.toArray.size) (q2 : j < ws.toArray.size), SeqAt.EqAt A.in1 s vs.toArray[j] ws.toArray[j] true := by
  refine ⟨by rw [List.size_toArray, List.size_toArray, g1.length, g2.length], fun j q1 q2 => ?_⟩
  have hj : j < l.length := by rw [List.size_toArray, g1.length] at q1; exact q1
  obtain ⟨x, hx1, hx2⟩ := g1.get (List.getElem?_eq_getElem hj)
  obtain ⟨y, hy1, hy2⟩ := g2.get (List.getElem?_eq_getElem hj)
  have e1 : vs.toArray[j] = x := by rw [List.getElem_toArray]; rw [List.size_toArray] at q1; rw [List.getElem?_eq_getElem q1] at hx1; exact Option.some.inj hx1
  have e2 : ws.toArray[j] = y := by rw [List.getElem_toArray]; rw [List.size_toArray] at q2; rw [List.getElem?_eq_getElem q2] at hy1; exact Option.some.inj hy1
  rw [e1, e2]
  exact eq_same k l[j] (List.all_eq_true.mp hl _ (List.getElem_mem hj)) A.in1 (by show A.units + 1 + k < 9900; omega) x y hx2 hy2 hz
end
section
variable {c : Cx} {n : Nat} {σ : St} {i j : Nat}
theorem c_ne_tup {ds : List D} {k : Nat} (hn : n ≤ 100) (hk : k ≤ 100) (hf : ds.all (flatK k) = true) : Op2 c n (compareOp .NotEq) (.d (.tup ds)) (.d (.tup ds)) σ (.d (.bool false)) σ := fun S f F ω s Q E x y R hx hy h => by
  cases hx.toD with
  | @tup a o vs m l z1 c1 d1 g1 => cases hy.toD with
    | @tup b o2 ws m2 _ z2 c2 d2 g2 =>
      have hu := F.units
      obtain ⟨e, ee⟩ := items_same (A := f.A) (s := s) hf (by have := Nat.mul_le_mul_left 50 hn; omega) g1 g2 (fun a o => R.fz)
      have z := SeqAt.RcNeAt.tuples (A := f.A) (s := s) (e := fun _ => true) ⟨o, R.fz z1, c1, m, d1⟩ ⟨o2, R.fz z2, c2, m2, d2⟩ (by show f.A.units < 9900; have := Nat.mul_le_mul_left 50 hn; omega) ee
      rw [range_all (fun _ _ => rfl), e, beq_self_eq_true] at z
      exact z c.prog c.w E Q (h ω _ s (.refl ..) R (.d (.bool _)))
end
end Mine
namespace Mine
open PySem PySem.W PyProof.Rows PySem.Calls PySem.Spec
theorem form1 {e : Expr} {pos : Pos} {env : Env} (h : notStar e = true) : methodCallForm 1 (backTo pos (starEach [e] env)) [] = true := by
  rw [starEach_plain h]; rfl
theorem mc1 {y name : Str} {p apos pos : Pos} {e : Expr} (h : notStar e = true) (hl : (apos.endLine == pos.line) = true) : ∀ env, ∃ pl, eval (.Call (.Attribute (.Name y p) name apos) [e] [] pos) env = (do
          let ov ← eval (.Name y p) env
          standAt apos.atName
          let __x ← holding [ov] (getMethod ov name pl)
          match __x with
            | (f, first) => callWith pos f first (backTo pos (starEach [e] env)) []) := by
  intro env
  refine ⟨do return (← importBound (.Name y p) env).getD true, ?_⟩
  show (do let ov ← attributeBase (.Name y p) name env (eval (.Name y p) env); standAt apos.atName; methodCall (.Name y p) name apos pos env ov 1 (backTo pos (starEach [e] env)) []) = _
  unfold methodCall
  rw [form1 h]
  unfold methodCallPos
  rw [hl]
  rfl
theorem mc0 {y name : Str} {p apos pos : Pos} (hl : (apos.endLine == pos.line) = true) : ∀ env, ∃ pl, eval (.Call (.Attribute (.Name y p) name apos) [] [] pos) env = (do
          let ov ← eval (.Name y p) env
          standAt apos.atName
          let __x ← holding [ov] (getMethod ov name pl)
          match __x with
            | (f, first) => callWith pos f first (backTo pos (starEach [] env)) []) := by
  intro env
  refine ⟨do return (← importBound (.Name y p) env).getD true, ?_⟩
  show (do let ov ← attributeBase (.Name y p) name env (eval (.Name y p) env); standAt apos.atName; methodCall (.Name y p) name apos pos env ov 0 [] []) = _
  unfold methodCall methodCallPos
  rw [hl]
  rfl
end Mine
namespace Mine
open PySem PySem.W PyProof.Rows PySem.Calls PySem.Spec
def noPrm : Arguments := ⟨[], [], none, [], [], none, []⟩
def noScp : Scope := { kind := .function, names := [], isGenerator := false, isCoroutine := false }
def fPrm (p : Program) (i : Nat) : Arguments := match p.main.body.drop i with
  | .FunctionDef _ a _ _ _ _ _ _ _ _ :: _ => a
  | _ => noPrm
def fBdy (p : Program) (i : Nat) : List Stmt := match p.main.body.drop i with
  | .FunctionDef _ _ b _ _ _ _ _ _ _ :: _ => b
  | _ => []
def fScp (p : Program) (i : Nat) : Scope := match p.main.body.drop i with
  | .FunctionDef _ _ _ _ _ _ s _ _ _ :: _ => s
  | _ => noScp
def cBdy (p : Program) (i : Nat) : List Stmt := match p.main.body.drop i with
  | .ClassDef _ _ _ b _ _ _ _ _ _ _ :: _ => b
  | _ => []
def mPrm (p : Program) (i j : Nat) : Arguments := match (cBdy p i).drop j with
  | .FunctionDef _ a _ _ _ _ _ _ _ _ :: _ => a
  | _ => noPrm
def mBdy (p : Program) (i j : Nat) : List Stmt := match (cBdy p i).drop j with
  | .FunctionDef _ _ b _ _ _ _ _ _ _ :: _ => b
  | _ => []
def mScp (p : Program) (i j : Nat) : Scope := match (cBdy p i).drop j with
  | .FunctionDef _ _ _ _ _ _ s _ _ _ :: _ => s
  | _ => noScp
def isNameAsg : Stmt → Bool
  | .Assign [.Name x _] _ _ => x == "__name__"
  | _ => false
def viewOf (p : Program) : Program := { p with main := { p.main with body := p.main.body.filter fun s => !isNameAsg s } }
def rowS : String := "special-get-raises"
theorem left_boot {p q : Program} {loose : List Str} {Xt : Shared → Bool} {α : Type} {Yf : Shared → α} {Ya : World → α} {N : Nat} (e : opening p = plainProg p.main.scope.names) (hN : Nat.ble 600 N = true) (f : ∀ s, fenceModules? p s = some s)
    (h : ∀ (w : World) (os : OsState) (b : Bool), (topFrom treeTable p (w.withFollow rowS b) N ⟨boot_heap (w.withFollow rowS b).params, #[], boot_drawn, boot_toks, os⟩).map (fun s => (openSeen q loose (importedModules p.main.body) Xt true s, Yf s)) = some (openGood q loose, Ya (w.withFollow rowS b))) : LeftO p q loose Xt Yf Ya N := fun w => by
  obtain ⟨⟨h0, gs, d, k, os⟩, e1, e2⟩ := Option.map_eq_some_iff.mp (boot_open e hN f w)
  obtain ⟨rfl, rfl, rfl, rfl⟩ : h0 = boot_heap w.params ∧ gs = #[] ∧ d = boot_drawn ∧ k = boot_toks := by simpa using e2
  unfold openEnds
  rw [e1]
  have z := h w os (w.params.followText rowS)
  rw [World.withFollow_self] at z
  exact z
section
variable {c : Cx}
theorem exs_body {S : Scope} {n : Nat} {σ σ' : St} {fl : Fl} {body body' : List Stmt} (h : Exs c S n body' σ fl σ') (e : body = body') : Exs c S n body σ fl σ' := e ▸ h
end
end Mine
namespace Mine
open PySem PySem.W PyProof.Rows PySem.Calls
noncomputable def HK : Params → Frag := fun P => [
  (2, { cls := Value.none, data := Data.dict #[{ hash := PyData.keyHash P (Str.ofString "type.__subclasses__.Exception.0"), key := Value.str (Str.ofString "type.__subclasses__.Exception.0") 232, val := Value.int 41 0 }, { hash := PyData.keyHash P (Str.ofString "type.__subclasses__.Exception.n"), key := Value.str (Str.ofString "type.__subclasses__.Exception.n") 233, val := Value.int 1 0 }] 2 }),
  (3, { cls := Value.type "dict", data := Data.dict #[{ hash := PyData.keyHash P (Str.ofString "__name__"), key := Value.str (Str.ofString "__name__") 165, val := Value.str (Str.ofString "law_kq0015_06") 406 }, { hash := PyData.keyHash P (Str.ofString "__doc__"), key := Value.str (Str.ofString "__doc__") 166, val := Value.none }, { hash := PyData.keyHash P (Str.ofString "__package__"), key := Value.str (Str.ofString "__package__") 167, val := Value.none }, { hash := PyData.keyHash P (Str.ofString "__loader__"), key := Value.str (Str.ofString "__loader__") 168, val := Value.builtin "__main__.__loader__#opaque" }, { hash := PyData.keyHash P (Str.ofString "__spec__"), key := Value.str (Str.ofString "__spec__") 169, val := Value.none }, { hash := PyData.keyHash P (Str.ofString "__annotations__"), key := Value.str (Str.ofString "__annotations__") 170, val := Value.ref 6 }, { hash := PyData.keyHash P (Str.ofString "__builtins__"), key := Value.str (Str.ofString "__builtins__") 171, val := Value.ref 4 }, { hash := PyData.keyHash P (Str.ofString "__file__"), key := Value.str (Str.ofString "__file__") 173, val := Value.str (Str.ofString "/claim/cut.py") 172 }, { hash := PyData.keyHash P (Str.ofString "__cached__"), key := Value.str (Str.ofString "__cached__") 174, val := Value.none }, { hash := PyData.keyHash P (Str.ofString "_wall"), key := Value.str (Str.ofString "_wall") 193, val := Value.ref 21 }, { hash := PyData.keyHash P (Str.ofString "PatternError"), key := Value.str (Str.ofString "PatternError") 235, val := Value.ref 41 }, { hash := PyData.keyHash P (Str.ofString "error_constants"), key := Value.str (Str.ofString "error_constants") 236, val := Value.ref 41 }, { hash := PyData.keyHash P (Str.ofString "SRE_FLAG_IGNORECASE"), key := Value.str (Str.ofString "SRE_FLAG_IGNORECASE") 238, val := Value.int 2 237 }, { hash := PyData.keyHash P (Str.ofString "SRE_FLAG_LOCALE"), key := Value.str (Str.ofString "SRE_FLAG_LOCALE") 240, val := Value.int 4 239 }, { hash := PyData.keyHash P (Str.ofString "SRE_FLAG_MULTILINE"), key := Value.str (Str.ofString "SRE_FLAG_MULTILINE") 242, val := Value.int 8 241 }, { hash := PyData.keyHash P (Str.ofString "SRE_FLAG_DOTALL"), key := Value.str (Str.ofString "SRE_FLAG_DOTALL") 244, val := Value.int 16 243 }, { hash := PyData.keyHash P (Str.ofString "SRE_FLAG_UNICODE"), key := Value.str (Str.ofString "SRE_FLAG_UNICODE") 246, val := Value.int 32 245 }, { hash := PyData.keyHash P (Str.ofString "SRE_FLAG_VERBOSE"), key := Value.str (Str.ofString "SRE_FLAG_VERBOSE") 248, val := Value.int 64 247 }, { hash := PyData.keyHash P (Str.ofString "SRE_FLAG_DEBUG"), key := Value.str (Str.ofString "SRE_FLAG_DEBUG") 250, val := Value.int 128 249 }, { hash := PyData.keyHash P (Str.ofString "SRE_FLAG_ASCII"), key := Value.str (Str.ofString "SRE_FLAG_ASCII") 252, val := Value.int 256 251 }, { hash := PyData.keyHash P (Str.ofString "FLAGS"), key := Value.str (Str.ofString "FLAGS") 269, val := Value.ref 45 }, { hash := PyData.keyHash P (Str.ofString "TYPE_FLAGS"), key := Value.str (Str.ofString "TYPE_FLAGS") 272, val := Value.int 292 271 }, { hash := PyData.keyHash P (Str.ofString "GLOBAL_FLAGS"), key := Value.str (Str.ofString "GLOBAL_FLAGS") 273, val := Value.int 128 249 }, { hash := PyData.keyHash P (Str.ofString "Tokenizer"), key := Value.str (Str.ofString "Tokenizer") 391, val := Value.ref 134 }, { hash := PyData.keyHash P (Str.ofString "_parse_flags"), key := Value.str (Str.ofString "_parse_flags") 405, val := Value.ref 145 }, { hash := PyData.keyHash P (Str.ofString "_law_given"), key := Value.str (Str.ofString "_law_given") 413, val := Value.ref 150 }, { hash := PyData.keyHash P (Str.ofString "law"), key := Value.str (Str.ofString "law") 419, val := Value.ref 155 }] 27 }),
  (15, { cls := Value.type "tuple", data := Data.seq #[] }),
  (17, { cls := Value.type "tuple", data := Data.seq #[Value.str (Str.ofString "k") 190] }),
  (18, { cls := Value.type "tuple", data := Data.seq #[] }),
  (20, { cls := Value.type "code", data := Data.fields #[Value.str (Str.ofString "_wall") 187, Value.str (Str.ofString "_wall") 188, Value.str (Str.ofString "/claim/cut.py") 189, Value.int 1 0, Value.int 1 0, Value.int 0 0, Value.int 0 0, Value.int 3 0, Value.ref 15, Value.bool Bool.true, Value.int 181 0, Value.ref 16, Value.none, Value.ref 17, Value.ref 18, Value.ref 19, Value.int 191 0, Value.int 1 0, Value.str (Str.ofString "/claim/cut.py") 192] }),
  (21, { cls := Value.type "function", data := Data.func { name := Str.ofString "_wall", qualname := Str.ofString "_wall", params := fPrm PySem.Challenge.pw_kq0015_06 0, body := .stmts (fBdy PySem.Challenge.pw_kq0015_06 0), scope := fScp PySem.Challenge.pw_kq0015_06 0, globals := 3, closure := [], defaults := Value.none, kwdefaults := Value.none, pyModule := Value.str (Str.ofString "__main__") 164, code := Value.ref 20 } }),
  (22, { cls := Value.type "tuple", data := Data.seq #[Value.type "Exception"] }),
  (25, { cls := Value.type "cell", data := Data.cell (Option.some (Value.ref 41)) }),
  (30, { cls := Value.type "tuple", data := Data.seq #[Value.none, Value.none] }),
  (31, { cls := Value.type "tuple", data := Data.seq #[Value.ref 25] }),
  (32, { cls := Value.type "tuple", data := Data.seq #[Value.str (Str.ofString "__class__") 213] }),
  (34, { cls := Value.type "tuple", data := Data.seq #[Value.str (Str.ofString "self") 214, Value.str (Str.ofString "msg") 215, Value.str (Str.ofString "pattern") 216, Value.str (Str.ofString "pos") 217, Value.str (Str.ofString "newline") 218] }),
  (35, { cls := Value.type "tuple", data := Data.seq #[] }),
  (37, { cls := Value.type "code", data := Data.fields #[Value.str (Str.ofString "__init__") 210, Value.str (Str.ofString "PatternError.__init__") 211, Value.str (Str.ofString "/claim/cut.py") 212, Value.int 8 0, Value.int 4 0, Value.int 0 0, Value.int 0 0, Value.int 3 0, Value.ref 32, Value.bool Bool.true, Value.int 181 0, Value.ref 33, Value.none, Value.ref 34, Value.ref 35, Value.ref 36, Value.int 219 0, Value.int 8 0, Value.str (Str.ofString "/claim/cut.py") 220] }),
  (38, { cls := Value.type "function", data := Data.func { name := Str.ofString "__init__", qualname := Str.ofString "PatternError.__init__", params := mPrm PySem.Challenge.pw_kq0015_06 2 1, body := .stmts (mBdy PySem.Challenge.pw_kq0015_06 2 1), scope := mScp PySem.Challenge.pw_kq0015_06 2 1, globals := 3, closure := [(Str.ofString "__class__", 25)], defaults := Value.ref 30, kwdefaults := Value.none, pyModule := Value.str (Str.ofString "cpy313.re._constants") 194, code := Value.ref 37, closureTuple := Value.ref 31 } }),
  (39, { cls := Value.type "tuple", data := Data.seq #[Value.str (Str.ofString "colno") 222, Value.str (Str.ofString "lineno") 223, Value.str (Str.ofString "msg") 224, Value.str (Str.ofString "pattern") 225, Value.str (Str.ofString "pos") 226] }),
  (40, { cls := Value.type "dict", data := Data.dict #[{ hash := PyData.keyHash P (Str.ofString "__module__"), key := Value.str (Str.ofString "__module__") 203, val := Value.str (Str.ofString "re") 208 }, { hash := PyData.keyHash P (Str.ofString "__firstlineno__"), key := Value.str (Str.ofString "__firstlineno__") 207, val := Value.int 5 206 }, { hash := PyData.keyHash P (Str.ofString "__init__"), key := Value.str (Str.ofString "__init__") 221, val := Value.ref 38 }, { hash := PyData.keyHash P (Str.ofString "__static_attributes__"), key := Value.str (Str.ofString "__static_attributes__") 227, val := Value.ref 39 }, { hash := PyData.keyHash P (Str.ofString "__weakref__"), key := Value.str (Str.ofString "__weakref__") 230, val := Value.ref 42 }, { hash := PyData.keyHash P (Str.ofString "__doc__"), key := Value.str (Str.ofString "__doc__") 231, val := Value.none }] 4 }),
  (41, { cls := Value.type "type", data := Data.cls { name := Str.ofString "PatternError", bases := [Value.type "Exception"], mro := [Value.ref 41, Value.type "Exception", Value.type "BaseException", Value.type "object"], ns := 40, qualname := Str.ofString "PatternError" }, slots := #[Option.some (Value.ref 22), Option.none, Option.some (Value.str (Str.ofString "PatternError") 196), Option.some (Value.str (Str.ofString "PatternError") 204), Option.some (Value.builtin "Exception.__new__"), Option.some (Value.bool Bool.true)] }),
  (42, { cls := Value.type "getset_descriptor", data := Data.fields #[Value.str (Str.ofString "__weakref__") 229, Value.ref 41, Value.builtin "ExceptionGroup.__weakref__", Value.none] }),
  (45, { cls := Value.type "dict", data := Data.dict #[{ hash := PyData.keyHash P (Str.ofString "i"), key := Value.str (Str.ofString "i") 255, val := Value.int 2 237 }, { hash := PyData.keyHash P (Str.ofString "L"), key := Value.str (Str.ofString "L") 256, val := Value.int 4 239 }, { hash := PyData.keyHash P (Str.ofString "m"), key := Value.str (Str.ofString "m") 257, val := Value.int 8 241 }, { hash := PyData.keyHash P (Str.ofString "s"), key := Value.str (Str.ofString "s") 258, val := Value.int 16 243 }, { hash := PyData.keyHash P (Str.ofString "x"), key := Value.str (Str.ofString "x") 259, val := Value.int 64 247 }, { hash := PyData.keyHash P (Str.ofString "a"), key := Value.str (Str.ofString "a") 260, val := Value.int 256 251 }, { hash := PyData.keyHash P (Str.ofString "u"), key := Value.str (Str.ofString "u") 261, val := Value.int 32 245 }] 7 }),
  (53, { cls := Value.type "tuple", data := Data.seq #[] }),
  (55, { cls := Value.type "tuple", data := Data.seq #[Value.str (Str.ofString "self") 289, Value.str (Str.ofString "string") 290] }),
  (56, { cls := Value.type "tuple", data := Data.seq #[] }),
  (58, { cls := Value.type "code", data := Data.fields #[Value.str (Str.ofString "__init__") 286, Value.str (Str.ofString "Tokenizer.__init__") 287, Value.str (Str.ofString "/claim/cut.py") 288, Value.int 40 0, Value.int 2 0, Value.int 0 0, Value.int 0 0, Value.int 3 0, Value.ref 53, Value.bool Bool.true, Value.int 181 0, Value.ref 54, Value.none, Value.ref 55, Value.ref 56, Value.ref 57, Value.int 291 0, Value.int 40 0, Value.str (Str.ofString "/claim/cut.py") 292] }),
  (59, { cls := Value.type "function", data := Data.func { name := Str.ofString "__init__", qualname := Str.ofString "Tokenizer.__init__", params := mPrm PySem.Challenge.pw_kq0015_06 16 0, body := .stmts (mBdy PySem.Challenge.pw_kq0015_06 16 0), scope := mScp PySem.Challenge.pw_kq0015_06 16 0, globals := 3, closure := [], defaults := Value.none, kwdefaults := Value.none, pyModule := Value.str (Str.ofString "cpy313.re._parser") 253, code := Value.ref 58 } }),
  (60, { cls := Value.type "tuple", data := Data.seq #[] }),
  (62, { cls := Value.type "tuple", data := Data.seq #[Value.str (Str.ofString "self") 297, Value.str (Str.ofString "index") 298, Value.str (Str.ofString "char") 299] }),
  (63, { cls := Value.type "tuple", data := Data.seq #[] }),
  (65, { cls := Value.type "code", data := Data.fields #[Value.str (Str.ofString "__next") 294, Value.str (Str.ofString "Tokenizer.__next") 295, Value.str (Str.ofString "/claim/cut.py") 296, Value.int 50 0, Value.int 1 0, Value.int 0 0, Value.int 0 0, Value.int 3 0, Value.ref 60, Value.bool Bool.true, Value.int 181 0, Value.ref 61, Value.none, Value.ref 62, Value.ref 63, Value.ref 64, Value.int 300 0, Value.int 50 0, Value.str (Str.ofString "/claim/cut.py") 301] }),
  (66, { cls := Value.type "function", data := Data.func { name := Str.ofString "__next", qualname := Str.ofString "Tokenizer.__next", params := mPrm PySem.Challenge.pw_kq0015_06 16 1, body := .stmts (mBdy PySem.Challenge.pw_kq0015_06 16 1), scope := mScp PySem.Challenge.pw_kq0015_06 16 1, globals := 3, closure := [], defaults := Value.none, kwdefaults := Value.none, pyModule := Value.str (Str.ofString "cpy313.re._parser") 253, code := Value.ref 65 } }),
  (67, { cls := Value.type "tuple", data := Data.seq #[] }),
  (69, { cls := Value.type "tuple", data := Data.seq #[Value.str (Str.ofString "self") 306, Value.str (Str.ofString "char") 307] }),
  (70, { cls := Value.type "tuple", data := Data.seq #[] }),
  (72, { cls := Value.type "code", data := Data.fields #[Value.str (Str.ofString "match") 303, Value.str (Str.ofString "Tokenizer.match") 304, Value.str (Str.ofString "/claim/cut.py") 305, Value.int 66 0, Value.int 2 0, Value.int 0 0, Value.int 0 0, Value.int 3 0, Value.ref 67, Value.bool Bool.true, Value.int 181 0, Value.ref 68, Value.none, Value.ref 69, Value.ref 70, Value.ref 71, Value.int 308 0, Value.int 66 0, Value.str (Str.ofString "/claim/cut.py") 309] }),
  (73, { cls := Value.type "function", data := Data.func { name := Str.ofString "match", qualname := Str.ofString "Tokenizer.match", params := mPrm PySem.Challenge.pw_kq0015_06 16 2, body := .stmts (mBdy PySem.Challenge.pw_kq0015_06 16 2), scope := mScp PySem.Challenge.pw_kq0015_06 16 2, globals := 3, closure := [], defaults := Value.none, kwdefaults := Value.none, pyModule := Value.str (Str.ofString "cpy313.re._parser") 253, code := Value.ref 72 } }),
  (74, { cls := Value.type "tuple", data := Data.seq #[] }),
  (76, { cls := Value.type "tuple", data := Data.seq #[Value.str (Str.ofString "self") 314, Value.str (Str.ofString "this") 315] }),
  (77, { cls := Value.type "tuple", data := Data.seq #[] }),
  (79, { cls := Value.type "code", data := Data.fields #[Value.str (Str.ofString "get") 311, Value.str (Str.ofString "Tokenizer.get") 312, Value.str (Str.ofString "/claim/cut.py") 313, Value.int 69 0, Value.int 1 0, Value.int 0 0, Value.int 0 0, Value.int 3 0, Value.ref 74, Value.bool Bool.true, Value.int 181 0, Value.ref 75, Value.none, Value.ref 76, Value.ref 77, Value.ref 78, Value.int 316 0, Value.int 69 0, Value.str (Str.ofString "/claim/cut.py") 317] }),
  (80, { cls := Value.type "function", data := Data.func { name := Str.ofString "get", qualname := Str.ofString "Tokenizer.get", params := mPrm PySem.Challenge.pw_kq0015_06 16 3, body := .stmts (mBdy PySem.Challenge.pw_kq0015_06 16 3), scope := mScp PySem.Challenge.pw_kq0015_06 16 3, globals := 3, closure := [], defaults := Value.none, kwdefaults := Value.none, pyModule := Value.str (Str.ofString "cpy313.re._parser") 253, code := Value.ref 79 } }),
  (81, { cls := Value.type "tuple", data := Data.seq #[] }),
  (83, { cls := Value.type "tuple", data := Data.seq #[Value.str (Str.ofString "self") 322, Value.str (Str.ofString "n") 323, Value.str (Str.ofString "charset") 324] }),
  (84, { cls := Value.type "tuple", data := Data.seq #[] }),
  (86, { cls := Value.type "code", data := Data.fields #[Value.str (Str.ofString "getwhile") 319, Value.str (Str.ofString "Tokenizer.getwhile") 320, Value.str (Str.ofString "/claim/cut.py") 321, Value.int 74 0, Value.int 3 0, Value.int 0 0, Value.int 0 0, Value.int 3 0, Value.ref 81, Value.bool Bool.true, Value.int 181 0, Value.ref 82, Value.none, Value.ref 83, Value.ref 84, Value.ref 85, Value.int 325 0, Value.int 74 0, Value.str (Str.ofString "/claim/cut.py") 326] }),
  (87, { cls := Value.type "function", data := Data.func { name := Str.ofString "getwhile", qualname := Str.ofString "Tokenizer.getwhile", params := mPrm PySem.Challenge.pw_kq0015_06 16 4, body := .stmts (mBdy PySem.Challenge.pw_kq0015_06 16 4), scope := mScp PySem.Challenge.pw_kq0015_06 16 4, globals := 3, closure := [], defaults := Value.none, kwdefaults := Value.none, pyModule := Value.str (Str.ofString "cpy313.re._parser") 253, code := Value.ref 86 } }),
  (88, { cls := Value.type "tuple", data := Data.seq #[] }),
  (90, { cls := Value.type "tuple", data := Data.seq #[Value.str (Str.ofString "self") 331, Value.str (Str.ofString "terminator") 332, Value.str (Str.ofString "name") 333] }),
  (91, { cls := Value.type "tuple", data := Data.seq #[] }),
  (93, { cls := Value.type "code", data := Data.fields #[Value.str (Str.ofString "getuntil") 328, Value.str (Str.ofString "Tokenizer.getuntil") 329, Value.str (Str.ofString "/claim/cut.py") 330, Value.int 77 0, Value.int 3 0, Value.int 0 0, Value.int 0 0, Value.int 3 0, Value.ref 88, Value.bool Bool.true, Value.int 181 0, Value.ref 89, Value.none, Value.ref 90, Value.ref 91, Value.ref 92, Value.int 334 0, Value.int 77 0, Value.str (Str.ofString "/claim/cut.py") 335] }),
  (94, { cls := Value.type "function", data := Data.func { name := Str.ofString "getuntil", qualname := Str.ofString "Tokenizer.getuntil", params := mPrm PySem.Challenge.pw_kq0015_06 16 5, body := .stmts (mBdy PySem.Challenge.pw_kq0015_06 16 5), scope := mScp PySem.Challenge.pw_kq0015_06 16 5, globals := 3, closure := [], defaults := Value.none, kwdefaults := Value.none, pyModule := Value.str (Str.ofString "cpy313.re._parser") 253, code := Value.ref 93 } }),
  (95, { cls := Value.type "tuple", data := Data.seq #[] }),
  (97, { cls := Value.type "tuple", data := Data.seq #[Value.str (Str.ofString "self") 340] }),
  (98, { cls := Value.type "tuple", data := Data.seq #[] }),
  (100, { cls := Value.type "code", data := Data.fields #[Value.str (Str.ofString "pos") 337, Value.str (Str.ofString "Tokenizer.pos") 338, Value.str (Str.ofString "/claim/cut.py") 339, Value.int 80 0, Value.int 1 0, Value.int 0 0, Value.int 0 0, Value.int 3 0, Value.ref 95, Value.bool Bool.true, Value.int 181 0, Value.ref 96, Value.none, Value.ref 97, Value.ref 98, Value.ref 99, Value.int 341 0, Value.int 80 0, Value.str (Str.ofString "/claim/cut.py") 342] }),
  (101, { cls := Value.type "function", data := Data.func { name := Str.ofString "pos", qualname := Str.ofString "Tokenizer.pos", params := mPrm PySem.Challenge.pw_kq0015_06 16 6, body := .stmts (mBdy PySem.Challenge.pw_kq0015_06 16 6), scope := mScp PySem.Challenge.pw_kq0015_06 16 6, globals := 3, closure := [], defaults := Value.none, kwdefaults := Value.none, pyModule := Value.str (Str.ofString "cpy313.re._parser") 253, code := Value.ref 100 } }),
  (102, { cls := Value.type "property", data := Data.fields #[Value.ref 101, Value.none, Value.none, Value.none, Value.str (Str.ofString "pos") 344, Value.bool Bool.false] }),
  (103, { cls := Value.type "tuple", data := Data.seq #[] }),
  (105, { cls := Value.type "tuple", data := Data.seq #[Value.str (Str.ofString "self") 348] }),
  (106, { cls := Value.type "tuple", data := Data.seq #[] }),
  (108, { cls := Value.type "code", data := Data.fields #[Value.str (Str.ofString "tell") 345, Value.str (Str.ofString "Tokenizer.tell") 346, Value.str (Str.ofString "/claim/cut.py") 347, Value.int 84 0, Value.int 1 0, Value.int 0 0, Value.int 0 0, Value.int 3 0, Value.ref 103, Value.bool Bool.true, Value.int 181 0, Value.ref 104, Value.none, Value.ref 105, Value.ref 106, Value.ref 107, Value.int 349 0, Value.int 84 0, Value.str (Str.ofString "/claim/cut.py") 350] }),
  (109, { cls := Value.type "function", data := Data.func { name := Str.ofString "tell", qualname := Str.ofString "Tokenizer.tell", params := mPrm PySem.Challenge.pw_kq0015_06 16 7, body := .stmts (mBdy PySem.Challenge.pw_kq0015_06 16 7), scope := mScp PySem.Challenge.pw_kq0015_06 16 7, globals := 3, closure := [], defaults := Value.none, kwdefaults := Value.none, pyModule := Value.str (Str.ofString "cpy313.re._parser") 253, code := Value.ref 108 } }),
  (110, { cls := Value.type "tuple", data := Data.seq #[] }),
  (112, { cls := Value.type "tuple", data := Data.seq #[Value.str (Str.ofString "self") 355, Value.str (Str.ofString "index") 356] }),
  (113, { cls := Value.type "tuple", data := Data.seq #[] }),
  (115, { cls := Value.type "code", data := Data.fields #[Value.str (Str.ofString "seek") 352, Value.str (Str.ofString "Tokenizer.seek") 353, Value.str (Str.ofString "/claim/cut.py") 354, Value.int 87 0, Value.int 2 0, Value.int 0 0, Value.int 0 0, Value.int 3 0, Value.ref 110, Value.bool Bool.true, Value.int 181 0, Value.ref 111, Value.none, Value.ref 112, Value.ref 113, Value.ref 114, Value.int 357 0, Value.int 87 0, Value.str (Str.ofString "/claim/cut.py") 358] }),
  (116, { cls := Value.type "function", data := Data.func { name := Str.ofString "seek", qualname := Str.ofString "Tokenizer.seek", params := mPrm PySem.Challenge.pw_kq0015_06 16 8, body := .stmts (mBdy PySem.Challenge.pw_kq0015_06 16 8), scope := mScp PySem.Challenge.pw_kq0015_06 16 8, globals := 3, closure := [], defaults := Value.none, kwdefaults := Value.none, pyModule := Value.str (Str.ofString "cpy313.re._parser") 253, code := Value.ref 115 } }),
  (117, { cls := Value.type "tuple", data := Data.seq #[Value.int 0 360] }),
  (118, { cls := Value.type "tuple", data := Data.seq #[] }),
  (120, { cls := Value.type "tuple", data := Data.seq #[Value.str (Str.ofString "self") 364, Value.str (Str.ofString "msg") 365, Value.str (Str.ofString "offset") 366] }),
  (121, { cls := Value.type "tuple", data := Data.seq #[] }),
  (123, { cls := Value.type "code", data := Data.fields #[Value.str (Str.ofString "error") 361, Value.str (Str.ofString "Tokenizer.error") 362, Value.str (Str.ofString "/claim/cut.py") 363, Value.int 91 0, Value.int 3 0, Value.int 0 0, Value.int 0 0, Value.int 3 0, Value.ref 118, Value.bool Bool.true, Value.int 181 0, Value.ref 119, Value.none, Value.ref 120, Value.ref 121, Value.ref 122, Value.int 367 0, Value.int 91 0, Value.str (Str.ofString "/claim/cut.py") 368] }),
  (124, { cls := Value.type "function", data := Data.func { name := Str.ofString "error", qualname := Str.ofString "Tokenizer.error", params := mPrm PySem.Challenge.pw_kq0015_06 16 9, body := .stmts (mBdy PySem.Challenge.pw_kq0015_06 16 9), scope := mScp PySem.Challenge.pw_kq0015_06 16 9, globals := 3, closure := [], defaults := Value.ref 117, kwdefaults := Value.none, pyModule := Value.str (Str.ofString "cpy313.re._parser") 253, code := Value.ref 123 } }),
  (125, { cls := Value.type "tuple", data := Data.seq #[] }),
  (127, { cls := Value.type "tuple", data := Data.seq #[Value.str (Str.ofString "self") 373, Value.str (Str.ofString "name") 374, Value.str (Str.ofString "offset") 375] }),
  (128, { cls := Value.type "tuple", data := Data.seq #[] }),
  (130, { cls := Value.type "code", data := Data.fields #[Value.str (Str.ofString "checkgroupname") 370, Value.str (Str.ofString "Tokenizer.checkgroupname") 371, Value.str (Str.ofString "/claim/cut.py") 372, Value.int 96 0, Value.int 3 0, Value.int 0 0, Value.int 0 0, Value.int 3 0, Value.ref 125, Value.bool Bool.true, Value.int 181 0, Value.ref 126, Value.none, Value.ref 127, Value.ref 128, Value.ref 129, Value.int 376 0, Value.int 96 0, Value.str (Str.ofString "/claim/cut.py") 377] }),
  (131, { cls := Value.type "function", data := Data.func { name := Str.ofString "checkgroupname", qualname := Str.ofString "Tokenizer.checkgroupname", params := mPrm PySem.Challenge.pw_kq0015_06 16 10, body := .stmts (mBdy PySem.Challenge.pw_kq0015_06 16 10), scope := mScp PySem.Challenge.pw_kq0015_06 16 10, globals := 3, closure := [], defaults := Value.none, kwdefaults := Value.none, pyModule := Value.str (Str.ofString "cpy313.re._parser") 253, code := Value.ref 130 } }),
  (132, { cls := Value.type "tuple", data := Data.seq #[Value.str (Str.ofString "decoded_string") 379, Value.str (Str.ofString "index") 380, Value.str (Str.ofString "istext") 381, Value.str (Str.ofString "next") 382, Value.str (Str.ofString "string") 383] }),
  (133, { cls := Value.type "dict", data := Data.dict #[{ hash := PyData.keyHash P (Str.ofString "__module__"), key := Value.str (Str.ofString "__module__") 281, val := Value.str (Str.ofString "cpy313.re._parser") 253 }, { hash := PyData.keyHash P (Str.ofString "__firstlineno__"), key := Value.str (Str.ofString "__firstlineno__") 285, val := Value.int 38 284 }, { hash := PyData.keyHash P (Str.ofString "__init__"), key := Value.str (Str.ofString "__init__") 293, val := Value.ref 59 }, { hash := PyData.keyHash P (Str.ofString "_Tokenizer__next"), key := Value.str (Str.ofString "_Tokenizer__next") 302, val := Value.ref 66 }, { hash := PyData.keyHash P (Str.ofString "match"), key := Value.str (Str.ofString "match") 310, val := Value.ref 73 }, { hash := PyData.keyHash P (Str.ofString "get"), key := Value.str (Str.ofString "get") 318, val := Value.ref 80 }, { hash := PyData.keyHash P (Str.ofString "getwhile"), key := Value.str (Str.ofString "getwhile") 327, val := Value.ref 87 }, { hash := PyData.keyHash P (Str.ofString "getuntil"), key := Value.str (Str.ofString "getuntil") 336, val := Value.ref 94 }, { hash := PyData.keyHash P (Str.ofString "pos"), key := Value.str (Str.ofString "pos") 344, val := Value.ref 102 }, { hash := PyData.keyHash P (Str.ofString "tell"), key := Value.str (Str.ofString "tell") 351, val := Value.ref 109 }, { hash := PyData.keyHash P (Str.ofString "seek"), key := Value.str (Str.ofString "seek") 359, val := Value.ref 116 }, { hash := PyData.keyHash P (Str.ofString "error"), key := Value.str (Str.ofString "error") 369, val := Value.ref 124 }, { hash := PyData.keyHash P (Str.ofString "checkgroupname"), key := Value.str (Str.ofString "checkgroupname") 378, val := Value.ref 131 }, { hash := PyData.keyHash P (Str.ofString "__static_attributes__"), key := Value.str (Str.ofString "__static_attributes__") 384, val := Value.ref 132 }, { hash := PyData.keyHash P (Str.ofString "__dict__"), key := Value.str (Str.ofString "__dict__") 386, val := Value.ref 135 }, { hash := PyData.keyHash P (Str.ofString "__weakref__"), key := Value.str (Str.ofString "__weakref__") 388, val := Value.ref 136 }, { hash := PyData.keyHash P (Str.ofString "__doc__"), key := Value.str (Str.ofString "__doc__") 389, val := Value.none }] 4 }),
  (134, { cls := Value.type "type", data := Data.cls { name := Str.ofString "Tokenizer", bases := [Value.type "object"], mro := [Value.ref 134, Value.type "object"], ns := 133, qualname := Str.ofString "Tokenizer" }, slots := #[Option.none, Option.none, Option.some (Value.str (Str.ofString "Tokenizer") 274), Option.some (Value.str (Str.ofString "Tokenizer") 282), Option.some (Value.builtin "object.__new__"), Option.some (Value.bool Bool.true)] }),
  (135, { cls := Value.type "getset_descriptor", data := Data.fields #[Value.str (Str.ofString "__dict__") 385, Value.ref 134, Value.builtin "function.__dict__", Value.builtin "function.__dict__#set"] }),
  (136, { cls := Value.type "getset_descriptor", data := Data.fields #[Value.str (Str.ofString "__weakref__") 387, Value.ref 134, Value.builtin "ExceptionGroup.__weakref__", Value.none] }),
  (139, { cls := Value.type "tuple", data := Data.seq #[] }),
  (141, { cls := Value.type "tuple", data := Data.seq #[Value.str (Str.ofString "source") 395, Value.str (Str.ofString "state") 396, Value.str (Str.ofString "char") 397, Value.str (Str.ofString "sourceget") 398, Value.str (Str.ofString "add_flags") 399, Value.str (Str.ofString "del_flags") 400, Value.str (Str.ofString "flag") 401, Value.str (Str.ofString "msg") 402] }),
  (142, { cls := Value.type "tuple", data := Data.seq #[] }),
  (144, { cls := Value.type "code", data := Data.fields #[Value.str (Str.ofString "_parse_flags") 392, Value.str (Str.ofString "_parse_flags") 393, Value.str (Str.ofString "/claim/cut.py") 394, Value.int 98 0, Value.int 3 0, Value.int 0 0, Value.int 0 0, Value.int 3 0, Value.ref 139, Value.bool Bool.true, Value.int 181 0, Value.ref 140, Value.none, Value.ref 141, Value.ref 142, Value.ref 143, Value.int 403 0, Value.int 98 0, Value.str (Str.ofString "/claim/cut.py") 404] }),
  (145, { cls := Value.type "function", data := Data.func { name := Str.ofString "_parse_flags", qualname := Str.ofString "_parse_flags", params := fPrm PySem.Challenge.pw_kq0015_06 17, body := .stmts (fBdy PySem.Challenge.pw_kq0015_06 17), scope := fScp PySem.Challenge.pw_kq0015_06 17, globals := 3, closure := [], defaults := Value.none, kwdefaults := Value.none, pyModule := Value.str (Str.ofString "cpy313.re._parser") 253, code := Value.ref 144 } }),
  (146, { cls := Value.type "tuple", data := Data.seq #[] }),
  (149, { cls := Value.type "code", data := Data.fields #[Value.str (Str.ofString "_law_given") 408, Value.str (Str.ofString "_law_given") 409, Value.str (Str.ofString "/claim/cut.py") 410, Value.int 157 0, Value.int 2 0, Value.int 0 0, Value.int 0 0, Value.int 3 0, Value.ref 146, Value.bool Bool.true, Value.int 181 0, Value.ref 147, Value.none, Value.none, Value.none, Value.ref 148, Value.int 411 0, Value.int 157 0, Value.str (Str.ofString "/claim/cut.py") 412] }),
  (150, { cls := Value.type "function", data := Data.func { name := Str.ofString "_law_given", qualname := Str.ofString "_law_given", params := fPrm PySem.Challenge.pw_kq0015_06 19, body := .stmts (fBdy PySem.Challenge.pw_kq0015_06 19), scope := fScp PySem.Challenge.pw_kq0015_06 19, globals := 3, closure := [], defaults := Value.none, kwdefaults := Value.none, pyModule := Value.str (Str.ofString "law_kq0015_06") 406, code := Value.ref 149 } }),
  (151, { cls := Value.type "tuple", data := Data.seq #[] }),
  (154, { cls := Value.type "code", data := Data.fields #[Value.str (Str.ofString "law") 414, Value.str (Str.ofString "law") 415, Value.str (Str.ofString "/claim/cut.py") 416, Value.int 159 0, Value.int 1 0, Value.int 0 0, Value.int 0 0, Value.int 3 0, Value.ref 151, Value.bool Bool.true, Value.int 181 0, Value.ref 152, Value.none, Value.none, Value.none, Value.ref 153, Value.int 417 0, Value.int 159 0, Value.str (Str.ofString "/claim/cut.py") 418] }),
  (155, { cls := Value.type "function", data := Data.func { name := Str.ofString "law", qualname := Str.ofString "law", params := fPrm PySem.Challenge.pw_kq0015_06 20, body := .stmts (fBdy PySem.Challenge.pw_kq0015_06 20), scope := fScp PySem.Challenge.pw_kq0015_06 20, globals := 3, closure := [], defaults := Value.none, kwdefaults := Value.none, pyModule := Value.str (Str.ofString "law_kq0015_06") 406, code := Value.ref 154 } })]
def HA : List Addr := [2, 3, 15, 17, 18, 20, 21, 22, 25, 30, 31, 32, 34, 35, 37, 38, 39, 40, 41, 42, 45, 53, 55, 56, 58, 59, 60, 62, 63, 65, 66, 67, 69, 70, 72, 73, 74, 76, 77, 79, 80, 81, 83, 84, 86, 87, 88, 90, 91, 93, 94, 95, 97, 98, 100, 101, 102, 103, 105, 106, 108, 109, 110, 112, 113, 115, 116, 117, 118, 120, 121, 123, 124, 125, 127, 128, 130, 131, 132, 133, 134, 135, 136, 139, 141, 142, 144, 145, 146, 149, 150, 151, 154, 155]
theorem hA (P : Params) : HA = (HK P).map (·.1) := by kernel_rfl
noncomputable def HV : Program := viewOf PySem.Challenge.pw_kq0015_06
def HL : List Str := ["PatternError", "error_constants", "FLAGS", "TYPE_FLAGS", "GLOBAL_FLAGS", "Tokenizer"]
def HLV : List (Str × WData) := [("TYPE_FLAGS", .int 292), ("GLOBAL_FLAGS", .int 128)]
theorem hlaw (h : PySem.Challenge.rw_kq0015_06.row.wellSaid = true → PySem.Challenge.rw_kq0015_06.row.Holds) : PySem.Challenge.rw_kq0015_06.Holds := by
  o_law
  exact h (by assumption)
theorem hopen : opening PySem.Challenge.rw_kq0015_06.row.toRowW.1 = plainProg PySem.Challenge.rw_kq0015_06.row.toRowW.1.main.scope.names := by kernel_rfl
theorem hfence : ∀ s, fenceModules? PySem.Challenge.rw_kq0015_06.row.toRowW.1 s = some s := fun s => by kernel_rfl
noncomputable def HXt (s : Shared) : Bool := xlAt HV HLV s && recOk PySem.Challenge.rw_kq0015_06.row.records s
theorem hrun0 (w : World) (os : OsState) : (topFrom treeTable PySem.Challenge.rw_kq0015_06.row.toRowW.1 (w.withFollow rowS false) 3000 ⟨boot_heap (w.withFollow rowS false).params, #[], boot_drawn, boot_toks, os⟩).map (fun s => (openSeen HV HL (importedModules PySem.Challenge.rw_kq0015_06.row.toRowW.1.main.body) HXt true s, (kHook HK HA hA).obs s)) = some (openGood HV HL, (kHook HK HA hA).val (w.withFollow rowS false)) := by kernel_rfl
theorem hrun1 (w : World) (os : OsState) : (topFrom treeTable PySem.Challenge.rw_kq0015_06.row.toRowW.1 (w.withFollow rowS true) 3000 ⟨boot_heap (w.withFollow rowS true).params, #[], boot_drawn, boot_toks, os⟩).map (fun s => (openSeen HV HL (importedModules PySem.Challenge.rw_kq0015_06.row.toRowW.1.main.body) HXt true s, (kHook HK HA hA).obs s)) = some (openGood HV HL, (kHook HK HA hA).val (w.withFollow rowS true)) := by kernel_rfl
theorem hleft : LeftO PySem.Challenge.rw_kq0015_06.row.toRowW.1 HV HL HXt (kHook HK HA hA).obs (kHook HK HA hA).val 3000 := left_boot hopen (by rfl) hfence fun w os b => by
  cases b with
  | false => exact hrun0 w os
  | true => exact hrun1 w os
end Mine
namespace Mine
open PySem PySem.W PyProof.Rows PySem.Calls PySem.Spec
noncomputable abbrev KK (c : Cx) : Frag := HK c.w.params
noncomputable def Sc (c : Cx) (a : Addr) : Scope := scAt (KK c) a
abbrev cT : Addr := 134
theorem k_attr {c : Cx} (hK : c.K = KK c) {nm : Str} (h : nm ∈ [("istext" : Str), "string", "decoded_string", "index", "next", "flags"]) : AttrOk c.K cT nm := by
  rw [hK]
  simp only [List.mem_cons, List.not_mem_nil, or_false] at h
  rcases h with rfl | rfl | rfl | rfl | rfl | rfl <;> exact ⟨by kernel_rfl, by kernel_rfl, none, by kernel_rfl, by kernel_rfl⟩
theorem k_set {c : Cx} (hK : c.K = KK c) {nm : Str} (h : nm ∈ [("istext" : Str), "string", "decoded_string", "index", "next", "flags"]) : SetOk c.K cT nm := by
  rw [hK]
  simp only [List.mem_cons, List.not_mem_nil, or_false] at h
  rcases h with rfl | rfl | rfl | rfl | rfl | rfl <;> exact ⟨by kernel_rfl, by kernel_rfl, by kernel_rfl, by kernel_rfl⟩
theorem k_next {c : Cx} (hK : c.K = KK c) : MethOk c.K cT "_Tokenizer__next" 66 := by rw [hK]; exact ⟨by kernel_rfl, by kernel_rfl, by kernel_rfl⟩
theorem k_get {c : Cx} (hK : c.K = KK c) : MethOk c.K cT "get" 80 := by rw [hK]; exact ⟨by kernel_rfl, by kernel_rfl, by kernel_rfl⟩
theorem k_new {c : Cx} (hK : c.K = KK c) : NewOk c.K cT 59 := by rw [hK]; exact ⟨by kernel_rfl, by kernel_rfl, by kernel_rfl, by kernel_rfl⟩
def tokAs (b : Bool) (src : D) (t : Str) (k : Nat) (nx : D) : List (Str × D) := [("istext", .bool b), ("string", src), ("decoded_string", .str t), ("index", .int k), ("next", nx)]
structure G1 (c : Cx) : Prop where
  ie : GlobIs c "IndexError" (.type "IndexError")
theorem seq_nat {k len : Nat} : seqIndex? (k : Int) len = if k < len then some k else none := by
  unfold seqIndex?
  have h1 : ¬ ((k : Int) < 0) := by omega
  simp only [h1, if_false]
  by_cases h : k < len
  · have h2 : ((0 : Int) ≤ k && (k : Int) < len) = true := by simp; omega
    rw [if_pos (by simpa using h2), if_pos h]; rfl
  · have h2 : ((0 : Int) ≤ k && (k : Int) < len) = false := by simp; omega
    rw [if_neg (by simpa using h2), if_neg h]
theorem item_some {t : Str} {k ch : Nat} (h : t.cps[k]? = some ch) : (seqIndex? (k : Int) t.length).bind (t.cps[·]?) = some ch := by
  have : k < t.length := (Array.getElem?_eq_some_iff.mp h).1
  rw [seq_nat, if_pos this]; exact h
theorem item_succ {t : Str} {k ch : Nat} (h : t.cps[k + 1]? = some ch) : (seqIndex? ((k : Int) + 1) t.length).bind (t.cps[·]?) = some ch := item_some (k := k + 1) h
theorem item_none {t : Str} {k : Nat} (h : t.cps[k]? = none) : (seqIndex? (k : Int) t.length).bind (t.cps[·]?) = none := by
  have : ¬ k < t.length := by
    intro hlt
    have : t.cps[k]? = some t.cps[k] := Array.getElem?_eq_getElem hlt
    rw [h] at this; cases this
  rw [seq_nat, if_neg this]; rfl
section
variable {c : Cx} {n : Nat} {i : Nat} {H : List (Nat × HO)} {loc : List (Nat × V)} {b : Bool} {src : D} {t : Str} {k k' : Nat} {nx nx' : D}
theorem next_ok (hC : CxOk c) (hK : c.K = KK c) (G : G1 c) (hc : c.calm = true) (hn : n ≤ 90) (hi : lk i H = some (.inst cT (tokAs b src t k nx))) (hk : k ≤ 100000) (hs : tokNext t k = some (k', nx')) :
    FnN c n 66 [.obj i] ⟨loc, H⟩ (.d .none) ⟨loc, setH i (.inst cT (tokAs b src t k' nx')) H⟩ := by
  have at1 : ∀ {d : D} (nm : Str) {p q : Pos} {σ : St} {b src t k nx}, nm ∈ [("istext" : Str), "string", "decoded_string", "index", "next", "flags"] → lk i σ.heap = some (.inst cT (tokAs b src t k nx)) → getD? nm (tokAs b src t k nx) = some d → lk (key "self") σ.loc = some (.obj i) →
      Ev c (Sc c 66) (n + 1) (.Attribute (.Name "self" p) nm q) σ (.d d) σ := by
    intro d nm p q σ b src t k nx h h2 h3 h1
    exact ev_attr hC (k_attr hK h) (Mine.nm (by kernel_rfl) (by kernel_rfl) h1) h2 h3
  have put : ∀ {k1 : Nat} {nx1 : D} (d : D), putD' "next" d (tokAs b src t k1 nx1) = tokAs b src t k1 d := fun d => by kernel_rfl
  have puti : ∀ {k1 k2 : Nat} {nx1 : D}, putD' "index" (.int k2) (tokAs b src t k1 nx1) = tokAs b src t k2 nx1 := by intros; kernel_rfl
  have fin : ∀ {loc' : List (Nat × V)} {fl : Fl}, Gives fl .none → Exs c (Sc c 66) (n + 1) (bodyAt (KK c) 66) ⟨loc0 ["self"] [.obj i], H⟩ fl ⟨loc', setH i (.inst cT (tokAs b src t k' nx')) H⟩ → FnN c n 66 [.obj i] ⟨loc, H⟩ (.d .none) ⟨loc, setH i (.inst cT (tokAs b src t k' nx')) H⟩ := fun g h =>
    fn_at (ps := ["self"]) (T := []) (σ := ⟨loc, H⟩) hC hK (by omega) (by kernel_rfl) (by decide) (fun vs hv => by match vs, hv with | [a], _ => kernel_rfl) rfl rfl h g
  unfold tokNext at hs
  cases q : t.cps[k]? with
  | none =>
    rw [q] at hs
    cases hs
    refine fin (loc' := (key "index", .d (.int k)) :: loc0 ["self"] [.obj i]) (.ret (d := .none)) ?m
    case m =>
    refine exs_body (body' := mBdy PySem.Challenge.pw_kq0015_06 16 1) ?_ (by kernel_rfl)
    dsimp only [mBdy, fBdy, cBdy, PySem.Challenge.pw_kq0015_06, List.drop]
    refine exs_cons (asg (at1 (d := .int k) "index" (by decide) hi (by kernel_rfl) lk6)) ?_
    refine exs_stop (fl := .ret (.d .none)) (ex_try_index (tx := t) (k := k) hC (by kernel_rfl) hc (at1 (d := .str t) "decoded_string" (by decide) hi (by kernel_rfl) (lk4 (by kernel_rfl) lk6)) nm (item_none q) (by omega) (by kernel_rfl) G.ie ?_)
    refine exs_cons (ex_setattr hC.loud (k_set (c := c.loud) hK (by decide)) ev_none nm hi (by show (5 : Nat) ≤ 900; decide)) ?_
    rw [put]
    exact exs_stop ex_ret0
  | some ch =>
    rw [q] at hs
    by_cases h92 : ch = 92
    · subst h92
      simp only [if_true] at hs
      cases q2 : t.cps[k + 1]? with
      | none => rw [q2] at hs; cases hs
      | some d2 =>
        rw [q2] at hs
        cases hs
        refine fin (loc' := ?l) .none ?m
        case m =>
        refine exs_body (body' := mBdy PySem.Challenge.pw_kq0015_06 16 1) ?_ (by kernel_rfl)
        dsimp only [mBdy, fBdy, cBdy, PySem.Challenge.pw_kq0015_06, List.drop]
        refine exs_cons (asg (at1 (d := .int k) "index" (by decide) hi (by kernel_rfl) lk6)) ?_
        refine exs_cons (ex_try_ok (exs_cons (asg (ev_sub (at1 (d := .str t) "decoded_string" (by decide) hi (by kernel_rfl) (lk4 (by kernel_rfl) lk6)) nm (op_item_str (item_some q) (by omega)))) exs_nil)) ?_
        refine exs_cons (if_t (σ₂ := ?s2) (ts_cmp nm ev_str (c_eqs (x := ⟨#[92]⟩))) ?m1) ?m2
        case m1 =>
          refine exs_cons (aug ev_int i_add) ?_
          refine exs_cons (ex_try_ok (exs_cons (aug (ev_sub (at1 (d := .str t) "decoded_string" (by decide) hi (by kernel_rfl) (lk4 (by kernel_rfl) (lk4 (by kernel_rfl) (lk4 (by kernel_rfl) lk6)))) nm (op_item_str (k := (k : Int) + 1) (item_succ q2) (by omega))) (i_adds (x := ⟨#[92]⟩) (y := ⟨#[d2]⟩) (by show (2 : Nat) ≤ sizeLine; decide))) exs_nil)) ?_
          exact exs_nil
        case m2 =>
          refine exs_cons (ex_setattr hC (k_set hK (by decide)) (ev_binop nm ev_int b_add) nm hi (by show (5 : Nat) ≤ 900; decide)) ?_
          refine exs_cons (ex_setattr hC (k_set hK (by decide)) nm nm (lk_setH hi) (by show (5 : Nat) ≤ 900; decide)) ?_
          rw [setH_setH]
          exact exs_nil
    · dsimp only at hs
      rw [if_neg h92] at hs
      cases hs
      refine fin (loc' := ?l9) .none ?m9
      case m9 =>
      refine exs_body (body' := mBdy PySem.Challenge.pw_kq0015_06 16 1) ?_ (by kernel_rfl)
      dsimp only [mBdy, fBdy, cBdy, PySem.Challenge.pw_kq0015_06, List.drop]
      refine exs_cons (asg (at1 (d := .int k) "index" (by decide) hi (by kernel_rfl) lk6)) ?_
      refine exs_cons (ex_try_ok (exs_cons (asg (ev_sub (at1 (d := .str t) "decoded_string" (by decide) hi (by kernel_rfl) (lk4 (by kernel_rfl) lk6)) nm (op_item_str (item_some q) (by omega)))) exs_nil)) ?_
      have ne : ((⟨#[ch]⟩ : Str) == ⟨#[92]⟩) = false := by simpa using h92
      refine exs_cons (if_f (ne ▸ ts_cmp nm ev_str (c_eqs (x := ⟨#[ch]⟩))) exs_nil) ?_
      refine exs_cons (ex_setattr hC (k_set hK (by decide)) (ev_binop nm ev_int b_add) nm hi (by show (5 : Nat) ≤ 900; decide)) ?_
      refine exs_cons (ex_setattr hC (k_set hK (by decide)) nm nm (lk_setH hi) (by show (5 : Nat) ≤ 900; decide)) ?_
      rw [setH_setH]
      exact exs_nil
theorem kp {a : Addr} (hK : c.K = KK c) (h : keepIn (KK c) (.ref a) = true) : keepIn c.K (.ref a) = true := by rw [hK]; exact h
theorem get_ok (hC : CxOk c) (hK : c.K = KK c) (G : G1 c) (hc : c.calm = true) (hn : n ≤ 80) (hi : lk i H = some (.inst cT (tokAs b src t k nx))) (hk : k ≤ 100000) (hs : tokNext t k = some (k', nx')) :
    FnN c n 80 [.obj i] ⟨loc, H⟩ (.d nx) ⟨loc, setH i (.inst cT (tokAs b src t k' nx')) H⟩ := by
  refine fn_at (S := Sc c 80) (ps := ["self"]) (T := []) (fl := .ret (.d nx)) (loc := (key "this", .d nx) :: loc0 ["self"] [.obj i]) (σ := ⟨loc, H⟩) hC hK (by omega) (by kernel_rfl) (by decide) (fun vs hv => by match vs, hv with | [a], _ => kernel_rfl) rfl rfl ?b .ret
  case b =>
  refine exs_body (body' := mBdy PySem.Challenge.pw_kq0015_06 16 3) ?_ (by kernel_rfl)
  dsimp only [mBdy, fBdy, cBdy, PySem.Challenge.pw_kq0015_06, List.drop]
  refine exs_cons (asg (ev_attr hC (k_attr hK (by decide)) nm hi (d := nx) (by kernel_rfl))) ?_
  refine exs_cons (ex_expr (ev_methf0 hC (kp hK (by kernel_rfl)) nm (getm_inst hC (k_next hK) hi (by kernel_rfl)) (opn_fn (next_ok (loc := (key "this", .d nx) :: loc0 ["self"] [.obj i]) hC hK G hc (by omega) hi hk hs)))) ?_
  exact exs_stop (ex_ret nm)
structure G2 (c : Cx) : Prop extends G1 c where
  isi : GlobIs c "isinstance" (.builtin "isinstance")
  str : GlobIs c "str" (.type "str")
theorem init_str (hC : CxOk c) (hK : c.K = KK c) (G : G2 c) (hc : c.calm = true) (hn : n ≤ 80) {o : HO} (hi : lk i H = some o) (hi' : setH i (.inst cT []) H = H) (hs : tokNext t 0 = some (k', nx')) :
    FnN c n 59 [.obj i, .d (.str t)] ⟨loc, H⟩ (.d .none) ⟨loc, setH i (.inst cT (tokAs true (.str t) t k' nx')) H⟩ := by
  refine fn_at (S := Sc c 59) (ps := ["self", "string"]) (T := []) (fl := .next) (loc := loc0 ["self", "string"] [.obj i, .d (.str t)]) (σ := ⟨loc, H⟩) hC hK (by omega) (by kernel_rfl) (by decide) (fun vs hv => by match vs, hv with | [a, b], _ => kernel_rfl) rfl rfl ?b .none
  case b =>
  refine exs_body (body' := mBdy PySem.Challenge.pw_kq0015_06 16 0) ?_ (by kernel_rfl)
  dsimp only [mBdy, fBdy, cBdy, PySem.Challenge.pw_kq0015_06, List.drop]
  refine exs_cons (sattr [("istext", .bool true)] hC (k_set hK (by decide)) (ev_callb (gl hC G.isi) (evs_cons nm (evs_cons (gl hC G.str) evs_nil)) f_isstr) nm (as := []) hi'.symm hi (by kernel_rfl) (by decide)) ?_
  refine exs_cons (sattr [("istext", .bool true), ("string", .str t)] hC (k_set hK (by decide)) nm nm rfl hi (by kernel_rfl) (by show (1 : Nat) ≤ 900; decide)) ?_
  refine exs_cons (if_f (ts_not (b := true) (ts_plain (ev_attr hC (k_attr hK (by decide)) nm (lk_setH hi) (d := .bool true) (by kernel_rfl)) t_bool)) exs_nil) ?_
  refine exs_cons (sattr [("istext", .bool true), ("string", .str t), ("decoded_string", .str t)] hC (k_set hK (by decide)) nm nm rfl hi (by kernel_rfl) (by show (2 : Nat) ≤ 900; decide)) ?_
  refine exs_cons (sattr [("istext", .bool true), ("string", .str t), ("decoded_string", .str t), ("index", .int 0)] hC (k_set hK (by decide)) ev_int nm rfl hi (by kernel_rfl) (by show (3 : Nat) ≤ 900; decide)) ?_
  refine exs_cons (sattr (tokAs true (.str t) t 0 .none) hC (k_set hK (by decide)) ev_none nm rfl hi (by kernel_rfl) (by show (4 : Nat) ≤ 900; decide)) ?_
  refine exs_cons (ex_expr (ev_methf0 hC (kp hK (by kernel_rfl)) nm (getm_inst hC (k_next hK) (lk_setH hi) (by kernel_rfl)) (opn_fn (next_ok (loc := loc0 ["self", "string"] [.obj i, .d (.str t)]) hC hK G.toG1 hc (by omega) (lk_setH hi) (by omega) hs)))) ?_
  rw [setH_setH]
  exact exs_nil
end
end Mine
namespace Mine
open PySem PySem.W PyProof.Rows PySem.Calls PySem.Spec
def tokL (b : Bool) (src : D) (t : Str) (L : List Str) : List (Str × D) := tokAs b src t (kOf t L) (nxOf L)
def Hs (i : Nat) (b : Bool) (src : D) (t : Str) (H0 : List (Nat × HO)) (L : List Str) : List (Nat × HO) := setH i (.inst cT (tokL b src t L)) H0
theorem tok_end {t : Str} : tokNext t t.length = some (t.length, .none) := by
  unfold tokNext
  have : t.cps[t.length]? = none := by rw [Array.getElem?_eq_none_iff]; exact Nat.le_refl _
  rw [this]
theorem kOf_le {t : Str} {L : List Str} : kOf t L ≤ t.length := Nat.sub_le ..
section
variable {c : Cx} {n : Nat} {i j : Nat} {H0 : List (Nat × HO)} {loc : List (Nat × V)} {b : Bool} {src : D} {t : Str} {L L' : List Str} {s : Str} {o : HO}
theorem get_more (hC : CxOk c) (hK : c.K = KK c) (G : G1 c) (hc : c.calm = true) (hn : n ≤ 80) (ht : t.length ≤ 100000) (hi : lk i H0 = some o) (hT : TokOk t (s :: L)) :
    FnN c n 80 [.obj i] ⟨loc, Hs i b src t H0 (s :: L)⟩ (.d (.str s)) ⟨loc, Hs i b src t H0 L⟩ := by
  have z := get_ok (loc := loc) (b := b) (src := src) hC hK G hc hn (lk_setH (o' := .inst cT (tokAs b src t (kOf t (s :: L)) (.str s))) hi) (Nat.le_trans kOf_le ht) hT.1
  rw [setH_setH] at z
  exact z
structure G3 (c : Cx) : Prop extends G2 c where
  flags : GlobD c "FLAGS" (.dct flagsD)
  types : GlobD c "TYPE_FLAGS" (.int 292)
  globs : GlobD c "GLOBAL_FLAGS" (.int 128)
theorem k_bget {c : Cx} (hK : c.K = KK c) : BoundOk c.K cT "get" 80 := by rw [hK]; exact ⟨by kernel_rfl, by kernel_rfl, by kernel_rfl, by kernel_rfl, by kernel_rfl, by kernel_rfl, by kernel_rfl⟩
inductive PfEnd : Str → Int → List Str → D → Option Int → List Str → Prop
  | close {acc : Int} {L : List Str} : PfEnd ")" acc L .none (some acc) L
  | colon {acc : Int} {L : List Str} : Builtin.bitAnd acc 128 = 0 → Builtin.bitAnd acc 0 = 0 → PfEnd ":" acc L (.tup [.int acc, .int 0]) none L
  | off {acc del : Int} {c2 : Str} {L L' : List Str} : Builtin.bitAnd acc 128 = 0 → (flagOf c2).isSome = true → offLoop L c2 0 = some (del, L') → Builtin.bitAnd del 128 = 0 → Builtin.bitAnd acc del = 0 → PfEnd "-" acc (c2 :: L) (.tup [.int acc, .int del]) none L'
def pfOn (b : Bool) (ch : Str) (L : List Str) : Option (Str × Int × List Str) := if ch == "-" then some (ch, 0, L) else onLoop b L ch 0
abbrev pfLoc (i j : Nat) (ch : Str) (acc del : Int) : List (Nat × V) := [(key "char", .d (.str ch)), (key "sourceget", .meth i 80), (key "add_flags", .d (.int acc)), (key "del_flags", .d (.int del)), (key "source", .obj i), (key "state", .obj j)]
def pfHeap (j : Nat) (asj : List (Str × D)) (fl : Int) (add : Option Int) (H : List (Nat × HO)) : List (Nat × HO) := match add with
  | none => H
  | some a => setH j (.inst cT (putD' "flags" (.int (Builtin.bitOr fl a)) asj)) H
theorem tok_on {ch c1 : Str} {acc a0 : Int} {L1 : List Str} (hT : TokOk t L) (h : onLoop b L ch a0 = some (c1, acc, L1)) : TokOk t L1 := by
  induction L generalizing ch a0 with
  | nil => cases h
  | cons c2 L ih =>
    unfold onLoop at h
    cases hfl : flagOf ch with
    | none => rw [hfl] at h; cases h
    | some flg =>
      rw [hfl] at h
      dsimp only at h
      split at h
      · cases h
      split at h
      · cases h
      split at h
      · cases h; exact hT.2
      · split at h
        · exact ih hT.2 h
        · cases h
theorem tok_pf {ch c1 : Str} {acc : Int} {L1 : List Str} (hT : TokOk t L) (h : pfOn b ch L = some (c1, acc, L1)) : TokOk t L1 := by
  unfold pfOn at h
  split at h
  · cases h; exact hT
  · exact tok_on hT h
theorem pf_ok {ch c1 : Str} {acc fl : Int} {L1 L2 : List Str} {res : D} {add : Option Int} {asj : List (Str × D)} (hC : CxOk c) (hK : c.K = KK c) (G : G3 c) (hc : c.calm = true) (hn : n ≤ 70) (ht : t.length ≤ 100000) (hi : lk i H0 = some o) (hij : j ≠ i) (hj : lk j H0 = some (.inst cT asj)) (hjl : asj.length ≤ 800)
    (hf : getD? "flags" asj = some (.int fl)) (hT : TokOk t L) (h1 : pfOn b ch L = some (c1, acc, L1)) (h2 : PfEnd c1 acc L1 res add L2) :
    FnN c n 145 [.obj i, .obj j, .d (.str ch)] ⟨loc, Hs i b src t H0 L⟩ (.d res) ⟨loc, pfHeap j asj fl add (Hs i b src t H0 L2)⟩ := by
  refine fn_at (S := Sc c 145) (ps := ["source", "state", "char"]) (T := []) (fl := .ret (.d res)) (loc := []) (σ := ⟨loc, Hs i b src t H0 L⟩) hC hK (by omega) (by kernel_rfl) (by decide) (fun vs hv => by match vs, hv with | [a, b, c], _ => kernel_rfl) rfl rfl ?b .ret
  case b =>
  refine exs_body (body' := fBdy PySem.Challenge.pw_kq0015_06 17) ?_ (by kernel_rfl)
  dsimp only [mBdy, fBdy, cBdy, PySem.Challenge.pw_kq0015_06, List.drop]
  refine exs_cons (asg (ev_bound hC (k_bget hK) nm (lk_setH hi) (by kernel_rfl))) ?_
  refine exs_cons (asg ev_int) ?_
  refine exs_cons (asg ev_int) ?_
  refine exs_pre (σ₁ := ⟨pfLoc i j ch 0 0, Hs i b src t H0 L⟩) (sub_list (by
    unfold pfLoc
    repeat (first | exact .nil | refine .cons (by repeat (first | with_reducible exact lk1 | with_reducible exact lk3 | with_reducible exact lk6 | with_reducible refine lk4 (by kernel_rfl) ?_ | with_reducible refine lk2 (by kernel_rfl) ?_ | with_reducible refine lk7 (by kernel_rfl) ?_ | with_reducible refine lk5 ?_)) ?_))) ?_
  refine exs_cons (σ₁ := ⟨pfLoc i j c1 acc 0, Hs i b src t H0 L1⟩) ?w ?r
  case w =>
    unfold pfOn at h1
    by_cases hd : (ch == "-") = true
    · rw [if_pos hd] at h1; cases h1
      exact if_f (ts_is (ts_cmp nm ev_str c_nes) (by rw [bne, hd]; rfl)) exs_nil
    · rw [if_neg hd] at h1
      refine if_t (ts_is (ts_cmp nm ev_str c_nes) (by simp only [bne, hd]; rfl)) (exs_cons (ex_while ?wl) exs_nil)
      case wl =>
      obtain ⟨a0, ha0⟩ : ∃ a : Int, a = 0 := ⟨0, rfl⟩
      rw [← ha0] at h1
      rw [show pfLoc i j ch 0 0 = pfLoc i j ch a0 0 by rw [ha0]]
      clear ha0 hd h2
      induction L generalizing ch a0 with
      | nil => cases h1
      | cons c2 L ih =>
        unfold onLoop at h1
        cases hfl : flagOf ch with
        | none => rw [hfl] at h1; cases h1
        | some flg =>
          rw [hfl] at h1
          dsimp only at h1
          split at h1
          · cases h1
          rename_i q1
          split at h1
          · cases h1
          rename_i q2
          split at h1
          · rename_i q3
            cases h1
            refine wl_brk (ts_plain ev_bool t_bool) ?bb
            case bb =>
              refine exs_cons (asg (ev_sub (gd hC G.flags) nm (op_get_tab tab_d (flag_get hfl)))) ?_
              refine exs_cons (σ₁ := ((⟨pfLoc i j ch a0 0, Hs i b src t H0 (c1 :: L1)⟩ : St).set "flag" (.d (.int flg)))) (by
                cases b with
                | true => exact if_t (ts_plain (ev_attr hC (k_attr hK (by decide)) nm (lk_setH hi) (d := .bool true) (by kernel_rfl)) t_bool) (exs_cons (if_f (ts_is (ts_cmp nm ev_str c_eqs) (by simpa using q1)) exs_nil) exs_nil)
                | false => exact if_f (ts_plain (ev_attr hC (k_attr hK (by decide)) nm (lk_setH hi) (d := .bool false) (by kernel_rfl)) t_bool) (exs_cons (if_f (ts_is (ts_cmp nm ev_str c_eqs) (by simpa using q1)) exs_nil) exs_nil)) ?_
              refine exs_cons (aug nm i_or) ?_
              refine exs_cons (if_f (ts_is (ts_bool (tss_and (ts_plain (ev_binop nm (gd hC G.types) b_and) t_int) (tss_and (ts_cmp (ev_binop nm (gd hC G.types) b_and) nm c_ne) tss_nil))) (by simpa using q2)) exs_nil) ?_
              refine exs_cons (asg (ev_callm0 hC (by rw [hK]; kernel_rfl) nm (get_more hC hK G.toG1 hc (by omega) ht hi hT))) ?_
              refine exs_cons (if_f (ts_cmp nm ev_none c_is_sn) exs_nil) ?_
              exact exs_stop (ex_sub (if_t (ts_is (ts_cmp nm ev_str c_ins) q3) (exs_stop ex_brk)) (sub_list (by repeat (first | exact .nil | refine .cons (by repeat (first | with_reducible exact lk1 | with_reducible exact lk3 | with_reducible exact lk6 | with_reducible refine lk4 (by kernel_rfl) ?_ | with_reducible refine lk2 (by kernel_rfl) ?_ | with_reducible refine lk7 (by kernel_rfl) ?_ | with_reducible refine lk5 ?_)) ?_))))
          · rename_i q3
            split at h1
            · rename_i q4
              refine wl_turn (fl := .next) (σ₂ := ⟨pfLoc i j c2 (Builtin.bitOr a0 flg) 0, Hs i b src t H0 L⟩) (ts_plain ev_bool t_bool) ?bc rfl (ih hT.2 _ h1)
              case bc =>
                refine exs_cons (asg (ev_sub (gd hC G.flags) nm (op_get_tab tab_d (flag_get hfl)))) ?_
                refine exs_cons (σ₁ := ((⟨pfLoc i j ch a0 0, Hs i b src t H0 (c2 :: L)⟩ : St).set "flag" (.d (.int flg)))) (by
                  cases b with
                  | true => exact if_t (ts_plain (ev_attr hC (k_attr hK (by decide)) nm (lk_setH hi) (d := .bool true) (by kernel_rfl)) t_bool) (exs_cons (if_f (ts_is (ts_cmp nm ev_str c_eqs) (by simpa using q1)) exs_nil) exs_nil)
                  | false => exact if_f (ts_plain (ev_attr hC (k_attr hK (by decide)) nm (lk_setH hi) (d := .bool false) (by kernel_rfl)) t_bool) (exs_cons (if_f (ts_is (ts_cmp nm ev_str c_eqs) (by simpa using q1)) exs_nil) exs_nil)) ?_
                refine exs_cons (aug nm i_or) ?_
                refine exs_cons (if_f (ts_is (ts_bool (tss_and (ts_plain (ev_binop nm (gd hC G.types) b_and) t_int) (tss_and (ts_cmp (ev_binop nm (gd hC G.types) b_and) nm c_ne) tss_nil))) (by simpa using q2)) exs_nil) ?_
                refine exs_cons (asg (ev_callm0 hC (by rw [hK]; kernel_rfl) nm (get_more hC hK G.toG1 hc (by omega) ht hi hT))) ?_
                refine exs_cons (if_f (ts_cmp nm ev_none c_is_sn) exs_nil) ?_
                refine exs_cons (if_f (ts_is (ts_cmp nm ev_str c_ins) (by simpa using q3)) exs_nil) ?_
                exact exs_cons (ex_sub (if_f (ts_is (ts_cmp nm (gd hC G.flags) (c_nin_tab tab_d)) (by rw [flag_some, q4]; rfl)) exs_nil) (sub_list (by repeat (first | exact .nil | refine .cons (by repeat (first | with_reducible exact lk1 | with_reducible exact lk3 | with_reducible exact lk6 | with_reducible refine lk4 (by kernel_rfl) ?_ | with_reducible refine lk2 (by kernel_rfl) ?_ | with_reducible refine lk7 (by kernel_rfl) ?_ | with_reducible refine lk5 ?_)) ?_)))) exs_nil
            · cases h1
  case r =>
    have hj' : ∀ L, lk j (Hs i b src t H0 L) = some (.inst cT asj) := fun L => (lk_setH_ne hij).trans hj
    have fin : ∀ {st : Stmt} {sts : List Stmt} {σ σ' : St} {fl}, fl.stops = true → Ex c (Sc c 145) (n + 1) st σ fl σ' → Exs c (Sc c 145) (n + 1) (st :: sts) σ fl ⟨[], σ'.heap⟩ := fun hs h => exs_sub (exs_stop h hs) (sub_list .nil)
    cases h2 with
    | close =>
      exact exs_sub (exs_stop (if_t (ts_is (ts_cmp nm ev_str c_eqs) (by kernel_rfl)) (exs_cons (ex_augattr hC (k_attr hK (by decide)) (k_set hK (by decide)) nm (hj' _) hf nm i_or (hj' _) (Nat.le_trans hjl (by decide))) (exs_stop (ex_ret ev_none))))) (sub_list .nil)
    | colon q1 q2 =>
      refine exs_cons (if_f (ts_is (ts_cmp nm ev_str c_eqs) (by kernel_rfl)) exs_nil) ?_
      refine exs_cons (if_f (ts_is (ts_plain (ev_binop nm (gd hC G.globs) b_and) t_int) (by rw [q1]; rfl)) exs_nil) ?_
      refine exs_cons (if_f (ts_is (ts_cmp nm ev_str c_eqs) (by kernel_rfl)) exs_nil) ?_
      refine exs_cons (ex_assert hc (ts_is (ts_cmp nm ev_str c_eqs) (by kernel_rfl))) ?_
      refine exs_cons (if_f (ts_is (ts_plain (ev_binop nm (gd hC G.globs) b_and) t_int) (by kernel_rfl)) exs_nil) ?_
      refine exs_cons (if_f (ts_is (ts_plain (ev_binop nm nm b_and) t_int) (by rw [q2]; rfl)) exs_nil) ?_
      exact exs_sub (exs_stop (ex_ret (ev_tuple (evs_cons nm (evs_cons nm evs_nil)) op_tuple))) (sub_list .nil)
    | @off _ del c2 L _ q1 q2 q3 q4 q5 =>
      have hT1 : TokOk t (c2 :: L) := tok_pf hT h1
      refine exs_cons (if_f (ts_is (ts_cmp nm ev_str c_eqs) (by kernel_rfl)) exs_nil) ?_
      refine exs_cons (if_f (ts_is (ts_plain (ev_binop nm (gd hC G.globs) b_and) t_int) (by rw [q1]; rfl)) exs_nil) ?_
      refine exs_cons (σ₁ := ⟨pfLoc i j ":" acc del, Hs i b src t H0 L2⟩) ?w2 ?r2
      case w2 =>
        refine if_t (ts_is (ts_cmp nm ev_str c_eqs) (by kernel_rfl)) ?_
        refine exs_cons (asg (ev_callm0 hC (by rw [hK]; kernel_rfl) nm (get_more hC hK G.toG1 hc (by omega) ht hi hT1))) ?_
        refine exs_cons (if_f (ts_cmp nm ev_none c_is_sn) exs_nil) ?_
        refine exs_cons (if_f (ts_is (ts_cmp nm (gd hC G.flags) (c_nin_tab tab_d)) (by rw [flag_some, q2]; rfl)) exs_nil) ?_
        refine exs_pre (σ₁ := ⟨pfLoc i j c2 acc 0, Hs i b src t H0 L⟩) (sub_list (by repeat (first | exact .nil | refine .cons (by repeat (first | with_reducible exact lk1 | with_reducible exact lk3 | with_reducible exact lk6 | with_reducible refine lk4 (by kernel_rfl) ?_ | with_reducible refine lk2 (by kernel_rfl) ?_ | with_reducible refine lk7 (by kernel_rfl) ?_ | with_reducible refine lk5 ?_)) ?_))) ?_
        refine exs_cons (ex_while ?wl) exs_nil
        case wl =>
          have hT2 := hT1.2
          obtain ⟨a0, ha0⟩ : ∃ a : Int, a = 0 := ⟨0, rfl⟩
          rw [← ha0] at q3
          rw [show pfLoc i j c2 acc 0 = pfLoc i j c2 acc a0 by rw [ha0]]
          clear ha0 q2 hT1 h1 hT
          induction L generalizing c2 a0 with
          | nil => cases q3
          | cons c3 L ih =>
            unfold offLoop at q3
            cases hfl : flagOf c2 with
            | none => rw [hfl] at q3; cases q3
            | some flg =>
              rw [hfl] at q3
              dsimp only at q3
              split at q3
              · cases q3
              rename_i p1
              split at q3
              · rename_i p2
                cases q3
                refine wl_brk (ts_plain ev_bool t_bool) ?bb
                case bb =>
                  refine exs_cons (asg (ev_sub (gd hC G.flags) nm (op_get_tab tab_d (flag_get hfl)))) ?_
                  refine exs_cons (if_f (ts_is (ts_plain (ev_binop nm (gd hC G.types) b_and) t_int) (by simpa using p1)) exs_nil) ?_
                  refine exs_cons (aug nm i_or) ?_
                  refine exs_cons (asg (ev_callm0 hC (by rw [hK]; kernel_rfl) nm (get_more hC hK G.toG1 hc (by omega) ht hi hT2))) ?_
                  refine exs_cons (if_f (ts_cmp nm ev_none c_is_sn) exs_nil) ?_
                  have e3 : c3 = ":" := by simpa using p2
                  subst e3
                  exact exs_stop (ex_sub (if_t (ts_is (ts_cmp nm ev_str c_eqs) p2) (exs_stop ex_brk)) (sub_list (by repeat (first | exact .nil | refine .cons (by repeat (first | with_reducible exact lk1 | with_reducible exact lk3 | with_reducible exact lk6 | with_reducible refine lk4 (by kernel_rfl) ?_ | with_reducible refine lk2 (by kernel_rfl) ?_ | with_reducible refine lk7 (by kernel_rfl) ?_ | with_reducible refine lk5 ?_)) ?_))))
              · rename_i p2
                split at q3
                · rename_i p3
                  refine wl_turn (fl := .next) (σ₂ := ⟨pfLoc i j c3 acc (Builtin.bitOr a0 flg), Hs i b src t H0 L⟩) (ts_plain ev_bool t_bool) ?bc rfl (ih hT2.2 _ q3)
                  case bc =>
                    refine exs_cons (asg (ev_sub (gd hC G.flags) nm (op_get_tab tab_d (flag_get hfl)))) ?_
                    refine exs_cons (if_f (ts_is (ts_plain (ev_binop nm (gd hC G.types) b_and) t_int) (by simpa using p1)) exs_nil) ?_
                    refine exs_cons (aug nm i_or) ?_
                    refine exs_cons (asg (ev_callm0 hC (by rw [hK]; kernel_rfl) nm (get_more hC hK G.toG1 hc (by omega) ht hi hT2))) ?_
                    refine exs_cons (if_f (ts_cmp nm ev_none c_is_sn) exs_nil) ?_
                    refine exs_cons (if_f (ts_is (ts_cmp nm ev_str c_eqs) (by simpa using p2)) exs_nil) ?_
                    exact exs_cons (ex_sub (if_f (ts_is (ts_cmp nm (gd hC G.flags) (c_nin_tab tab_d)) (by rw [flag_some, p3]; rfl)) exs_nil) (sub_list (by repeat (first | exact .nil | refine .cons (by repeat (first | with_reducible exact lk1 | with_reducible exact lk3 | with_reducible exact lk6 | with_reducible refine lk4 (by kernel_rfl) ?_ | with_reducible refine lk2 (by kernel_rfl) ?_ | with_reducible refine lk7 (by kernel_rfl) ?_ | with_reducible refine lk5 ?_)) ?_)))) exs_nil
                · cases q3
      case r2 =>
        refine exs_cons (ex_assert hc (ts_is (ts_cmp nm ev_str c_eqs) (by kernel_rfl))) ?_
        refine exs_cons (if_f (ts_is (ts_plain (ev_binop nm (gd hC G.globs) b_and) t_int) (by rw [q4]; rfl)) exs_nil) ?_
        refine exs_cons (if_f (ts_is (ts_plain (ev_binop nm nm b_and) t_int) (by rw [q5]; rfl)) exs_nil) ?_
        exact exs_sub (exs_stop (ex_ret (ev_tuple (evs_cons nm (evs_cons nm evs_nil)) op_tuple))) (sub_list .nil)
end
end Mine
namespace Mine
open PySem PySem.W PyProof.Rows PySem.Calls PySem.Spec
section
variable {c : Cx} {n : Nat} {i j : Nat} {H : List (Nat × HO)} {loc : List (Nat × V)} {bs : Array UInt8} {L : List Str} {t : Str} {o : HO}
theorem init_bytes (hC : CxOk c) (hK : c.K = KK c) (G : G2 c) (hc : c.calm = true) (hn : n ≤ 80) (hi : lk i H = some o) (hi' : setH i (.inst cT []) H = H) (h0 : 0 < bs.size) (hb : bs.size ≤ 10000) {k' : Nat} {nx' : D} (hs : tokNext (latin bs) 0 = some (k', nx')) :
    FnN c n 59 [.obj i, .d (.bytes bs)] ⟨loc, H⟩ (.d .none) ⟨loc, setH i (.inst cT (tokAs false (.bytes bs) (latin bs) k' nx')) H⟩ := by
  refine fn_at (S := Sc c 59) (ps := ["self", "string"]) (T := []) (fl := .next) (loc := []) (σ := ⟨loc, H⟩) hC hK (by omega) (by kernel_rfl) (by decide) (fun vs hv => by match vs, hv with | [a, b], _ => kernel_rfl) rfl rfl ?b .none
  case b =>
  refine exs_body (body' := mBdy PySem.Challenge.pw_kq0015_06 16 0) ?_ (by kernel_rfl)
  dsimp only [mBdy, fBdy, cBdy, PySem.Challenge.pw_kq0015_06, List.drop]
  refine exs_cons (sattr [("istext", .bool false)] hC (k_set hK (by decide)) (ev_callb (gl hC G.isi) (evs_cons nm (evs_cons (gl hC G.str) evs_nil)) f_isbytes) nm (as := []) hi'.symm hi (by kernel_rfl) (by decide)) ?_
  refine exs_cons (sattr [("istext", .bool false), ("string", .bytes bs)] hC (k_set hK (by decide)) nm nm rfl hi (by kernel_rfl) (by show (1 : Nat) ≤ 900; decide)) ?_
  refine exs_cons (if_t (ts_not (b := false) (ts_plain (ev_attr hC (k_attr hK (by decide)) nm (lk_setH hi) (d := .bool false) (by kernel_rfl)) t_bool)) (exs_cons (asg (ev_callt (gl hC G.str) (evs_cons nm (evs_cons ev_str evs_nil)) (f_latin h0 hb))) exs_nil)) ?_
  refine exs_cons (sattr [("istext", .bool false), ("string", .bytes bs), ("decoded_string", .str (latin bs))] hC (k_set hK (by decide)) nm nm rfl hi (by kernel_rfl) (by show (2 : Nat) ≤ 900; decide)) ?_
  refine exs_cons (sattr [("istext", .bool false), ("string", .bytes bs), ("decoded_string", .str (latin bs)), ("index", .int 0)] hC (k_set hK (by decide)) ev_int nm rfl hi (by kernel_rfl) (by show (3 : Nat) ≤ 900; decide)) ?_
  refine exs_cons (sattr (tokAs false (.bytes bs) (latin bs) 0 .none) hC (k_set hK (by decide)) ev_none nm rfl hi (by kernel_rfl) (by show (4 : Nat) ≤ 900; decide)) ?_
  refine exs_cons (ex_expr (ev_methf0 hC (kp hK (by kernel_rfl)) nm (getm_inst hC (k_next hK) (lk_setH hi) (by kernel_rfl)) (opn_fn (next_ok hC hK G.toG1 hc (by omega) (lk_setH hi) (by omega) hs)))) ?_
  rw [setH_setH]
  exact exs_sub exs_nil (sub_list .nil)
def srcD (b : Bool) (t : Str) (bs : Array UInt8) : D := if b then .str t else .bytes bs
theorem init_any {b : Bool} (hC : CxOk c) (hK : c.K = KK c) (G : G2 c) (hc : c.calm = true) (hn : n ≤ 80) (hi : lk i H = none) (h0 : 0 < bs.size) (hb : bs.size ≤ 10000) (hlat : latin bs = t) (hT : tokNext t 0 = some (kOf t L, nxOf L)) :
    FnN c n 59 [.obj i, .d (srcD b t bs)] ⟨loc, (i, .inst cT []) :: H⟩ (.d .none) ⟨loc, (i, .inst cT (tokL b (srcD b t bs) t L)) :: H⟩ := by
  have e1 : lk i ((i, HO.inst cT []) :: H) = some (.inst cT []) := by show (bif i == i then _ else _) = _; simp
  have e2 : ∀ as, setH i (.inst cT as) ((i, HO.inst cT []) :: H) = (i, .inst cT as) :: H := fun as => by show (bif i == i then _ else _) = _; simp
  cases b with
  | true =>
    have z := init_str (loc := loc) hC hK G hc hn e1 (e2 []) hT
    rw [e2] at z; exact z
  | false =>
    subst hlat
    have z := init_bytes (loc := loc) (bs := bs) hC hK G hc hn e1 (e2 []) h0 hb hT
    rw [e2] at z; exact z
end
theorem ns_some_of {K : Frag} {h : Heap} {N : Addr} {mg : Str → Option Value} {x : Str} {v : Value} (X : K.In h) (G : h.Ns N mg) (e : nsIn K N x = some (some v)) : mg x = some v := by
  obtain ⟨o, es, ep, ho, hd, _, hf⟩ := G
  unfold nsIn at e
  split at e
  · rename_i c d es' n' sl q
    have := X _ _ q
    rw [this] at ho
    cases ho
    cases hd
    rw [← hf]
    split at e
    · rename_i en hen
      cases e
      have hen' : es.find? (·.key.isStr x) = some en := by rw [← hen]; simp
      first
        | (unfold nsFind findBy; rw [hen']; rfl)
        | (show (es.find? (·.key.isStr x)).map (·.val) = _; rw [hen']; rfl)
    · split at e <;> cases e
  · cases e
def entsOf (K : Frag) (a : Addr) : List DictEntry := match K.lookup a with
  | some ⟨_, _, .dict es _, _⟩ => es.toList
  | _ => []
def epOf (K : Frag) (a : Addr) : Nat := match K.lookup a with
  | some ⟨_, _, .dict _ n, _⟩ => n
  | _ => 0
def tkOf : Value → Tok
  | .str _ t => t
  | .int _ t => t
  | _ => 0
def mkEs (κ : Str → Int) : List (Str × Int) → List (Tok × Tok) → List DictEntry
  | (k, i) :: l, (t, u) :: ts => ⟨κ k, .str k t, .int i u⟩ :: mkEs κ l ts
  | _, _ => []
theorem mkEs_drd {κ : Str → Int} {Zf : Fz} : ∀ {l : List (Str × Int)} {ts : List (Tok × Tok)}, l.length = ts.length → DRd κ Zf (l.map fun p => (p.1, .int p.2)) (mkEs κ l ts)
  | [], [], _ => .nil
  | (k, i) :: l, (t, u) :: ts, h => .cons (.int _ _) (mkEs_drd (by simpa using h))
  | [], _ :: _, h => by cases h
  | _ :: _, [], h => by cases h
theorem globDct {c : Cx} {x : Str} {a : Addr} {l : List (Str × Int)} (hC : CxOk c) (h1 : GlobIs c x (.ref a)) (hlo : (a == sysModules) = false) (h2 : c.K.lookup a = some { cls := .type "dict", data := .dict (entsOf c.K a).toArray (epOf c.K a) })
    (h3 : entsOf c.K a = mkEs c.hs l ((entsOf c.K a).map fun e => (tkOf e.key, tkOf e.val))) (h4 : l.length = ((entsOf c.K a).map fun e => (tkOf e.key, tkOf e.val)).length) (h5 : (l.map (·.1)).Nodup) : GlobD c x (.dct (l.map fun p => (p.1, .int p.2))) := by
  refine ⟨_, h1, fun ω => .dct (es := entsOf c.K a) (.inr (hC.kin _ _ h2)) hlo ⟨rfl, rfl, rfl⟩ rfl ?_ ?_⟩
  · rw [List.map_map]; exact h5
  · rw [h3]; exact mkEs_drd (by simpa using h4)
theorem globB {c : Cx} {x : Str} {v : Value} (hC : CxOk c) (h1 : nsIn c.K mainGlobals x = some none) (h2 : c.mb x = some v) : GlobIs c x v := .inr ⟨ns_none_of hC.kin hC.g h1, h2⟩
theorem globG {c : Cx} {x : Str} {v : Value} (hC : CxOk c) (h1 : nsIn c.K mainGlobals x = some (some v)) : GlobIs c x v := .inl (ns_some_of hC.kin hC.g h1)
structure GL9 (c : Cx) : Prop extends G3 c where
  sum : GlobIs c "sum" (.builtin "sum")
  enum : GlobIs c "enumerate" (.type "enumerate")
  divmod : GlobIs c "divmod" (.builtin "divmod")
  ord : GlobIs c "ord" (.builtin "ord")
  bytes : GlobIs c "bytes" (.type "bytes")
  tok : GlobIs c "Tokenizer" (.ref cT)
  pf : GlobIs c "_parse_flags" (.ref 145)
theorem gl9 {c : Cx} (hC : CxOk c) (hK : c.K = KK c) (hb : ∀ x : Str, x ≠ "__name__" → c.mb x = bootBuiltins x) : GL9 c where
  ie := globB hC (by rw [hK]; kernel_rfl) ((hb _ (by decide)).trans (by kernel_rfl))
  isi := globB hC (by rw [hK]; kernel_rfl) ((hb _ (by decide)).trans (by kernel_rfl))
  str := globB hC (by rw [hK]; kernel_rfl) ((hb _ (by decide)).trans (by kernel_rfl))
  sum := globB hC (by rw [hK]; kernel_rfl) ((hb _ (by decide)).trans (by kernel_rfl))
  enum := globB hC (by rw [hK]; kernel_rfl) ((hb _ (by decide)).trans (by kernel_rfl))
  divmod := globB hC (by rw [hK]; kernel_rfl) ((hb _ (by decide)).trans (by kernel_rfl))
  ord := globB hC (by rw [hK]; kernel_rfl) ((hb _ (by decide)).trans (by kernel_rfl))
  bytes := globB hC (by rw [hK]; kernel_rfl) ((hb _ (by decide)).trans (by kernel_rfl))
  tok := globG hC (by rw [hK]; kernel_rfl)
  pf := globG hC (by rw [hK]; kernel_rfl)
  flags := globDct (l := [("i", 2), ("L", 4), ("m", 8), ("s", 16), ("x", 64), ("a", 256), ("u", 32)]) hC (globG (v := .ref 45) hC (by rw [hK]; kernel_rfl)) (by decide) (by rw [hK]; kernel_rfl) (by rw [hK]; kernel_rfl) (by rw [hK]; kernel_rfl) (by decide)
  types := by
    obtain ⟨t, ht⟩ : ∃ t, nsIn (KK c) mainGlobals "TYPE_FLAGS" = some (some (.int 292 t)) := ⟨tkOf ((nsIn (KK c) mainGlobals "TYPE_FLAGS").getD none |>.getD .none), by kernel_rfl⟩
    exact ⟨_, globG hC (by rw [hK]; exact ht), fun ω => .int _ _⟩
  globs := by
    obtain ⟨t, ht⟩ : ∃ t, nsIn (KK c) mainGlobals "GLOBAL_FLAGS" = some (some (.int 128 t)) := ⟨tkOf ((nsIn (KK c) mainGlobals "GLOBAL_FLAGS").getD none |>.getD .none), by kernel_rfl⟩
    exact ⟨_, globG hC (by rw [hK]; exact ht), fun ω => .int _ _⟩
end Mine
namespace Mine
open PySem PySem.W PyProof.Rows PySem.Calls PySem.Spec
section
variable {prog : Program} {w : World} {A : Around} {E : Value → Shared → Prop} {s : Shared} {env : Env} {R : Result → Shared → Prop}
theorem code_dcomp {kx vx target iter : Expr} {ifs : List Expr} {scope : Scope} {pos : Pos} {it : Value} {Da : Addr}
    (h : wpAny (model prog w) A (pyNext it) (fun r s₁ => match r with
      | none => R (.ok .next) s₁
      | some v => wpAny (model prog w) A (letOwnedTupleGo target it v) (fun _ s₁' => wpAny (model prog w) A (assign target env v) (fun _ s₂ =>
          wpAny (model prog w) A (testsM ifs env) (fun ok s₃ =>
            if ok = true then wpAny (model prog w) A (eval kx env) (fun kv s₄ => wpAny (model prog w) A (eval vx env) (fun vv s₅ =>
              wpAny (model prog w) A (dictSet Da kv vv) (fun _ s₆ => codeAny (model prog w) A (.compLoop (.DictComp kx vx [⟨target, iter, ifs, 0⟩] scope pos) 0 it (.ref Da) env) R s₆) (notedBy (model prog w) A env fun e s' => R (.error e) s') s₅) (notedBy (model prog w) A env fun e s' => R (.error e) s') s₄) (notedBy (model prog w) A env fun e s' => R (.error e) s') s₃
            else codeAny (model prog w) A (.compLoop (.DictComp kx vx [⟨target, iter, ifs, 0⟩] scope pos) 0 it (.ref Da) env) R s₃) (notedBy (model prog w) A env fun e s' => R (.error e) s') s₂) (notedBy (model prog w) A env fun e s' => R (.error e) s') s₁') (notedBy (model prog w) A env fun e s' => R (.error e) s') s₁) (notedBy (model prog w) A env fun e s' => R (.error e) s') s) :
    codeAny (model prog w) A (.compLoop (.DictComp kx vx [⟨target, iter, ifs, 0⟩] scope pos) 0 it (.ref Da) env) R s := by
  refine codeAny_of_tree ?_
  show wpAny _ A ((compTurn (.DictComp kx vx [⟨target, iter, ifs, 0⟩] scope pos) 0 it (.ref Da) env).onRaise (fun x => do noteFrame x env; theTreesLotGoes x)) _ _ s
  refine wpAny_noted ?_
  rw [compTurn_dict]
  refine wpAny_bind (wpAny_standAt (wpAny_bind (wpAny_mono h (fun r s₁ h₁ => ?_) fun _ _ h' => h')))
  cases r with
  | none => exact wpAny_pure h₁
  | some v =>
    refine wpAny_bind (wpAny_mono h₁ (fun _ s₁' h₁' => ?_) fun _ _ h' => h')
    refine wpAny_bind (wpAny_mono h₁' (fun _ s₂ h₂ => wpAny_bind (wpAny_mono h₂ (fun ok s₃ h₃ => ?_) fun _ _ h' => h')) fun _ _ h' => h')
    cases ok with
    | false => exact wpAny_pure ⟨rfl, h₃⟩
    | true =>
      exact wpAny_bind (wpAny_bind (wpAny_mono h₃ (fun kv s₄ h₄ => wpAny_bind (wpAny_holding (wpAny_mono h₄ (fun vv s₅ h₅ => wpAny_bind (wpAny_standAt (wpAny_holding (wpAny_mono h₅ (fun _ s₆ h₆ => wpAny_pure ⟨rfl, h₆⟩) fun _ _ h' => h')))) fun _ _ h' => h'))) fun _ _ h' => h'))
end
section
variable {c : Cx} {S scope : Scope} {n : Nat} {σ σ' σ₁ σ₂ σ₃ σ₄ : St} {X Y Z : V} {e l r t test target iter fn kx vx : Expr} {es ifs : List Expr} {Xs : List V} {pos tpos : Pos} {x y : Str} {f : Fm} {ω : Om} {s : Shared}
theorem RelE.keepHeap {a : Addr} {o : Obj} {i : Nat} {ho : HO} {f : Fm} {ω : Om} {s : Shared} (F : FmOk c S n f) (R : RelE c n (f.more [(a, o)]) ω σ s) (h1 : lk i σ.heap = none) (h2 : ∀ k X, lk k σ.loc = some X → X.avoids i = true)
    (hH : HOR c.hs (Mine.fz c ω) ho a [(a, o)]) : RelE c n f (ω.put i a) ⟨σ.loc, (i, ho) :: σ.heap⟩ s := by
  obtain ⟨m, Mc, Mh, FR, r⟩ := R
  have r0 := r.unkeep F
  have perm : (Mc ++ (([(a, o)] ++ Mh) ++ (ω.Z ++ (FR ++ f.keep)))).Perm (Mc ++ (Mh ++ (ω.Z ++ (FR ++ ([(a, o)] ++ f.keep))))) := by
    refine List.Perm.append_left _ ?_
    have e1 : Mh ++ (ω.Z ++ (FR ++ ([(a, o)] ++ f.keep))) = (Mh ++ (ω.Z ++ FR)) ++ (a, o) :: f.keep := by simp only [List.append_assoc, List.cons_append, List.nil_append]
    have e2 : ([(a, o)] ++ Mh) ++ (ω.Z ++ (FR ++ f.keep)) = (a, o) :: ((Mh ++ (ω.Z ++ FR)) ++ f.keep) := by simp only [List.append_assoc, List.cons_append, List.nil_append]
    rw [e1, e2]
    exact List.perm_middle.symm
  refine ⟨m, Mc, [(a, o)] ++ Mh, FR, ⟨r0.fr, fun p hp => r.nw p (perm.subset hp), ((perm.map (·.1)).nodup_iff).mpr r.nd, r0.frs, r0.cells, r0.cinj, .cons Om.put_self hH (r0.heap.put h1), fun y Y hy hl => ?_, r0.gens, r0.drawn, r0.os⟩⟩
  have av := h2 _ _ hl
  cases r0.locs y Y hy hl with
  | loc a b d => exact .loc a b (d.put av)
  | cell a b d e g => exact .cell a b d e (g.put av)
  | free a b d e g => exact .free a b d e (g.put av)
structure DctObj (c : Cx) (Z : Fz) (kv : List (Str × D)) (o : Obj) : Prop where
  ex : o.ExactDict
  mem : ∃ es ep, o.data = .dict (List.toArray es) ep ∧ DRd c.hs Z kv es
  nd : (kv.map (·.1)).Nodup
theorem DctObj.mono {Z Z' : Fz} {kv : List (Str × D)} {o : Obj} (h : DctObj c Z kv o) (hs : ∀ a o, Z a o → Z' a o) : DctObj c Z' kv o := by
  obtain ⟨a, ⟨es, ep, b, d⟩, e⟩ := h
  exact ⟨a, ⟨es, ep, b, d.mono hs⟩, e⟩
theorem acc_store {C Da : Addr} {m : Str → Option Value} {M2 kp : Led} {oD : Obj} {kv : List (Str × D)} {k : Str} {tk : Tok} {d : D} {v : Value} {Q : Unit → Shared → Prop} {E : Value → Shared → Prop} (hS : S.kind = .function) (F : FmOk c S n f) (ok : CompOk S scope x)
    (R : RelE c n ((f.comp scope C m Da oD M2).more kp) ω σ s) (hD : DctObj c (fz c ω) kv oD) (hd : DR c.hs (fz c ω) d v) (hsz : kv.length ≤ 10000)
    (h : ∀ s' oD', DctObj c (fz c ω) (putD' k d kv) oD' → RelE c n ((f.comp scope C m Da oD' M2).more kp) ω σ s' → Q () s') : wpAny (model c.prog c.w) f.A (dictSet Da (.str k tk) v) Q E s := by
  obtain ⟨m', Mc, Mh, FR, r⟩ := R
  have eL : ∀ o, Mc ++ (Mh ++ (ω.Z ++ (FR ++ ((f.comp scope C m Da o M2).more kp).keep))) = (Mc ++ (Mh ++ (ω.Z ++ (FR ++ kp)))) ++ (Da, o) :: (M2 ++ f.keep) := fun o => by simp only [Fm.more, Fm.comp, List.append_assoc, List.cons_append]
  obtain ⟨o1, o2⟩ := off_pre (eL _ ▸ r.nd)
  have N := r.nw
  rw [eL] at N
  have ho := (N (Da, oD) (List.mem_append_right _ (.head _)))
  obtain ⟨es, ep, b2, hdr⟩ := hD.mem
  obtain ⟨kvs, c1, c2⟩ := dict_is hD.ex b2 hD.nd hdr
  refine wpAny_dictSet_pairs (knd := strKind c.prog c.w) is_str (Heap.dictOf_iff.mpr ⟨oD, ho.1, c1⟩) (fun h' hd' hs' => ?_) (sz (by rw [c2.length]; exact hsz))
  obtain ⟨o', ho', hdo⟩ := Heap.dictOf_iff.mp hd'
  have c3 := c2.put (k := k) hD.nd hd
  obtain ⟨es', ep', q1, q2, q3, q4⟩ := dict_of hdo c3
  have N' := news_set N o1 o2 hs' ho'
  have F' := r.fr.change hs' ho.2.1 ho.2.2
  refine h _ o' ⟨q1, ⟨es', ep', q2, q4⟩, q3⟩ ⟨m', Mc, Mh, FR, ⟨F', ?_, ?_, r.frs, r.cells, r.cinj, r.heap, fun y Y hy hl => ?_, r.gens, r.drawn, r.os⟩⟩
  · rw [eL]; exact N'
  · have z := r.nd
    rw [eL] at z ⊢
    simp only [List.map_append, List.map_cons] at z ⊢
    exact z
  · cases r.locs y Y hy hl with
    | loc a b d => exact .loc a b d
    | cell a b d e g => exact .cell a b d e g
    | free a b d e g =>
      exfalso
      have a' : (relS scope S).names.lookup y = some .free := by rw [← relabel_eq F.scope]; exact a
      rcases relS_var hS ok (y := y) (by rw [a']; rfl) with ⟨h', _⟩ | h'
      · rw [h'] at a'; cases a'
      · rw [(relS_cap hS ok h').1] at a'; cases a'
end
end Mine
namespace Mine
open PySem PySem.W PyProof.Rows PySem.Calls PySem.Spec
section
variable {c : Cx} {S scope : Scope} {n : Nat} {σ σ' σ₁ σ₂ σ₃ σ₄ : St} {X Y Z : V} {e l r t test target iter fn kx vx : Expr} {es ifs : List Expr} {Xs : List V} {pos tpos : Pos} {x y : Str} {f : Fm} {ω : Om} {s : Shared}
theorem dcomp_head {pin : Led} {C Da I : Addr} {m : Str → Option Value} {M2 : Led} {wr : List Addr} {N : Nat} {T : Nat → Om → Heap → Prop} {It : Nat → V} {p : Pos} {b : Bool} {i : Nat} {R : Result → Shared → Prop} {acc : Obj} {loc : List (Nat × V)} (hS : S.kind = .function) (F : FmOk c S n f) (ok : CompOk S scope x) (hd : lk (key dot0) σ.loc = none) (hpin : PinsIn pin σ.heap)
    (W : Itr c f.A n I wr pin (.Name x p) N T It) (hi : i < N) (e0 : It i = X) (h1 : IfsB c (relS scope S) n ifs ⟨(key x, X) :: σ.loc, σ.heap⟩ b)
    (B : Beside c n (f.comp scope C m Da acc M2) wr ω ⟨loc, σ.heap⟩ s) (t : T i ω s.heap) (hloc : ∀ y, Cap scope y → lk (key y) loc = lk (key y) σ.loc)
    (h : ∀ ω' s' kp', kp'.map (·.1) = wr → Ext (n + 1) ω ω' → RelE c n ((f.comp scope C m Da acc M2).more kp') ω' ⟨(key x, X) :: σ.loc, σ.heap⟩ s' →
      (∀ ω'' s'' acc', Ext (n + 1) ω' ω'' → RelE c n ((f.comp scope C m Da acc' M2).more kp') ω'' ⟨(key x, X) :: σ.loc, σ.heap⟩ s'' → T (i + 1) ω'' s''.heap) →
      if b = true then wpAny (model c.prog c.w) f.A (eval kx (compEnvC scope (closL f.env.cells scope.names []) C f.env)) (fun kv s₄ => wpAny (model c.prog c.w) f.A (eval vx (compEnvC scope (closL f.env.cells scope.names []) C f.env)) (fun vv s₅ =>
              wpAny (model c.prog c.w) f.A (dictSet Da kv vv) (fun _ s₆ => codeAny (model c.prog c.w) f.A (.compLoop (.DictComp kx vx [⟨.Name x p, iter, ifs, 0⟩] scope pos) 0 (.ref I) (.ref Da) (compEnvC scope (closL f.env.cells scope.names []) C f.env)) R s₆) (notedBy (model c.prog c.w) f.A (compEnvC scope (closL f.env.cells scope.names []) C f.env) fun e s' => R (.error e) s') s₅) (notedBy (model c.prog c.w) f.A (compEnvC scope (closL f.env.cells scope.names []) C f.env) fun e s' => R (.error e) s') s₄) (notedBy (model c.prog c.w) f.A (compEnvC scope (closL f.env.cells scope.names []) C f.env) fun e s' => R (.error e) s') s'
      else codeAny (model c.prog c.w) f.A (.compLoop (.DictComp kx vx [⟨.Name x p, iter, ifs, 0⟩] scope pos) 0 (.ref I) (.ref Da) (compEnvC scope (closL f.env.cells scope.names []) C f.env)) R s') :
    codeAny (model c.prog c.w) f.A (.compLoop (.DictComp kx vx [⟨.Name x p, iter, ifs, 0⟩] scope pos) 0 (.ref I) (.ref Da) (compEnvC scope (closL f.env.cells scope.names []) C f.env)) R s := by
  have xl : (relS scope S).names.lookup x = some .local := by rw [relS_lookup, ok.x]; rfl
  obtain ⟨kp, ek, R0⟩ := B
  subst ek
  have FC := F.comp (C := C) (m := m) (D := Da) (acc := acc) (M2 := M2) hS ok
  refine code_dcomp (wpAny_mono (W.step i ω s (fun v s₂ => wpAny (model c.prog c.w) f.A (assign (.Name x p) (compEnvC scope (closL f.env.cells scope.names []) C f.env) v) (fun _ s₂ =>
          wpAny (model c.prog c.w) f.A (testsM ifs (compEnvC scope (closL f.env.cells scope.names []) C f.env)) (fun ok s₃ =>
            if ok = true then wpAny (model c.prog c.w) f.A (eval kx (compEnvC scope (closL f.env.cells scope.names []) C f.env)) (fun kv s₄ => wpAny (model c.prog c.w) f.A (eval vx (compEnvC scope (closL f.env.cells scope.names []) C f.env)) (fun vv s₅ =>
              wpAny (model c.prog c.w) f.A (dictSet Da kv vv) (fun _ s₆ => codeAny (model c.prog c.w) f.A (.compLoop (.DictComp kx vx [⟨.Name x p, iter, ifs, 0⟩] scope pos) 0 (.ref I) (.ref Da) (compEnvC scope (closL f.env.cells scope.names []) C f.env)) R s₆) (notedBy (model c.prog c.w) f.A (compEnvC scope (closL f.env.cells scope.names []) C f.env) fun e s' => R (.error e) s') s₅) (notedBy (model c.prog c.w) f.A (compEnvC scope (closL f.env.cells scope.names []) C f.env) fun e s' => R (.error e) s') s₄) (notedBy (model c.prog c.w) f.A (compEnvC scope (closL f.env.cells scope.names []) C f.env) fun e s' => R (.error e) s') s₃
            else codeAny (model c.prog c.w) f.A (.compLoop (.DictComp kx vx [⟨.Name x p, iter, ifs, 0⟩] scope pos) 0 (.ref I) (.ref Da) (compEnvC scope (closL f.env.cells scope.names []) C f.env)) R s₃) (notedBy (model c.prog c.w) f.A (compEnvC scope (closL f.env.cells scope.names []) C f.env) fun e s' => R (.error e) s') s₂) (notedBy (model c.prog c.w) f.A (compEnvC scope (closL f.env.cells scope.names []) C f.env) fun e s' => R (.error e) s') s₂) _ hi t fun l v h' tk g1 g2 gv gt gk => ?_) (fun r s₁ q => ?_) fun _ _ x => x)
  · obtain ⟨kp', ek', hk'⟩ := live_list (W.live _ _ _ gt)
    have R1 := RelE.turn (kp' := kp') (tk := tk) FC R0 gk (by rw [ek']; exact List.Sublist.refl _) hk' g1 g2
    have X1 : Ext (n + 1) ω { ω with Z := l ++ ω.Z } := Ext.frz _ ω l
    refine wpAny_assign_Name (store_name (FC.more kp') R1 (.inl xl) (e0 ▸ gv) (fun s₂ R₂ => ?_) (FC.cellsOk x))
    have R3 := R₂.reloc (loc' := (key x, X) :: σ.loc) fun y Y hy hl => by
      have hy' : isVar ((relS scope S).names.lookup y) = true := by rw [← relabel_eq F.scope]; exact hy
      have hl' : (bif key x == key y then some X else lk (key y) σ.loc) = some Y := hl
      show (bif key x == key y then some X else lk (key y) loc) = some Y
      cases q : (key x == key y) with
      | true => rw [q] at hl'; exact hl'
      | false =>
        rw [q] at hl'
        rcases relS_var hS ok hy' with ⟨_, rfl | rfl⟩ | hc
        · simp at q
        · have hl' : lk (key dot0) σ.loc = some Y := hl'
          rw [hd] at hl'; cases hl'
        · exact (hloc y hc).trans hl'
    refine ifs_run h1 (FC.more kp') R3 fun ω₄ s₄ e₄ R₄ => h ω₄ s₄ kp' ek' (X1.trans e₄) R₄ fun ω₅ s₅ acc' e₅ R₅ => ?_
    refine W.frame _ _ _ _ _ _ gt (e₄.trans e₅) fun b o hb hbo => ?_
    rcases hb with hb | hb | hb
    · obtain ⟨m, Mc, Mh, FR, r⟩ := R₅
      rw [← ek'] at hb
      obtain ⟨p, hp, rfl⟩ := List.mem_map.mp hb
      have z := r.nw p (List.mem_append_right _ (List.mem_append_right _ (List.mem_append_right _ (List.mem_append_right _ (List.mem_append_left _ hp)))))
      have y := hk' p hp
      have : some o = some p.2 := hbo.symm.trans y
      cases this; exact z.1
    · have y := R1.fz hb
      have z := R₅.fz ((e₄.trans e₅).fz _ _ hb)
      exact (hbo.symm.trans y) ▸ z
    · exact R₅.pin hpin hb
  · cases r with
    | none => exact q.elim
    | some v => exact q
inductive DCompIs (c : Cx) (S : Scope) (n : Nat) (ifs : List Expr) (kx vx : Expr) (x : Str) (σ : St) : List V → List (Str × D) → Prop
  | nil : DCompIs c S n ifs kx vx x σ [] []
  | skip {X : V} {Xs : List V} {ds : List (Str × D)} : IfsB c S n ifs ⟨(key x, X) :: σ.loc, σ.heap⟩ false → DCompIs c S n ifs kx vx x σ Xs ds → DCompIs c S n ifs kx vx x σ (X :: Xs) ds
  | take {X : V} {k : Str} {d : D} {Xs : List V} {ds : List (Str × D)} : IfsB c S n ifs ⟨(key x, X) :: σ.loc, σ.heap⟩ true → Ev c S n kx ⟨(key x, X) :: σ.loc, σ.heap⟩ (.d (.str k)) ⟨(key x, X) :: σ.loc, σ.heap⟩ → Ev c S n vx ⟨(key x, X) :: σ.loc, σ.heap⟩ (.d d) ⟨(key x, X) :: σ.loc, σ.heap⟩ → DCompIs c S n ifs kx vx x σ Xs ds → DCompIs c S n ifs kx vx x σ (X :: Xs) ((k, d) :: ds)
def putsD (m : List (Str × D)) : List (Str × D) → List (Str × D)
  | [] => m
  | (k, d) :: l => putsD (putD' k d m) l
theorem putD'_len {k : Str} {d : D} : ∀ m : List (Str × D), (putD' k d m).length ≤ m.length + 1
  | [] => Nat.le_refl _
  | (a, b) :: m => by
    unfold putD'
    split
    · exact Nat.le_succ _
    · exact Nat.succ_le_succ (putD'_len m)
theorem dcomp_loop {pin : Led} {C Da I : Addr} {m : Str → Option Value} {M2 : Led} {wr : List Addr} {N : Nat} {T : Nat → Om → Heap → Prop} {It : Nat → V} {p : Pos} {ds : List (Str × D)} (hS : S.kind = .function) (F : FmOk c S n f) (ok : CompOk S scope x) (hd : lk (key dot0) σ.loc = none) (hpin : PinsIn pin σ.heap)
    (W : Itr c f.A n I wr pin (.Name x p) N T It) (hC : DCompIs c (relS scope S) n ifs kx vx x σ Xs ds) : ∀ i, i + Xs.length = N → (∀ j X, Xs[j]? = some X → It (i + j) = X) → ∀ (ω : Om) s R (loc : List (Nat × V)) (done : List (Str × D)) (oD : Obj), done.length + Xs.length ≤ 10000 →
    DctObj c (fz c ω) done oD → Beside c n (f.comp scope C m Da oD M2) wr ω ⟨loc, σ.heap⟩ s → T i ω s.heap → (∀ y, Cap scope y → lk (key y) loc = lk (key y) σ.loc) →
    (∀ ω' s' loc' oD' kp', Ext (n + 1) ω ω' → RelE c n ((f.comp scope C m Da oD' M2).more kp') ω' ⟨loc', σ.heap⟩ s' → (∀ y, Cap scope y → lk (key y) loc' = lk (key y) σ.loc) → DctObj c (fz c ω') (putsD done ds) oD' → R (.ok .next) s') →
    codeAny (model c.prog c.w) f.A (.compLoop (.DictComp kx vx [⟨.Name x p, iter, ifs, 0⟩] scope pos) 0 (.ref I) (.ref Da) (compEnvC scope (closL f.env.cells scope.names []) C f.env)) R s := by
  have xl : (relS scope S).names.lookup x = some .local := by rw [relS_lookup, ok.x]; rfl
  have nokey : ∀ y, Cap scope y → key y ≠ key x := fun y hy e => by
    have e := ok.keys y x (by rw [(relS_cap hS ok hy).1]; rfl) (by rw [xl]; rfl) e
    subst e
    rw [(relS_cap hS ok hy).1] at xl; cases xl
  have inv2 : ∀ X y, Cap scope y → lk (key y) ((key x, X) :: σ.loc) = lk (key y) σ.loc := fun X y hy => by
    show (bif key x == key y then some X else lk (key y) σ.loc) = _
    rw [show (key x == key y) = false by simpa using fun e => nokey y hy e.symm]; rfl
  induction hC with
  | nil =>
    intro i hi hX ω s R loc done oD hlen hds B t hloc h
    obtain ⟨kp, ek, R0⟩ := B
    have e : i = N := by simpa using hi
    subst e
    refine code_dcomp (wpAny_mono (W.done ω s (fun s' => R (.ok .next) s') _ t fun h' tk hk => ?_) (fun r s₁ q => ?_) fun _ _ x => x)
    · subst ek
      have R2 := RelE.turn (kp' := []) (l := []) (tk := tk) (F.comp (C := C) (m := m) (D := Da) (acc := oD) (M2 := M2) hS ok) R0 hk (List.nil_sublist _) (fun _ h => nomatch h) (fun _ h => nomatch h) List.nodup_nil
      exact h ω _ loc oD _ (.refl ..) R2 hloc hds
    · cases r with
      | none => exact q
      | some v => exact q.elim
  | @skip X Xs ds h1 h2 ih =>
    intro i hi hX ω s R loc done oD hlen hds B t hloc h
    have e0 : It i = X := hX 0 X rfl
    rw [List.length_cons] at hi hlen
    refine dcomp_head hS F ok hd hpin W (by omega) e0 h1 B t hloc fun ω₁ s₁ kp₁ ek₁ e₁ R₁ ht => ?_
    simp only [Bool.false_eq_true, if_false]
    exact ih (i + 1) (by omega) (fun j Y hj => by rw [Nat.add_assoc, Nat.add_comm 1 j]; exact hX (j + 1) Y (by simpa using hj)) ω₁ s₁ R _ done oD (by omega) (hds.mono e₁.fz) ⟨kp₁, ek₁, R₁⟩ (ht ω₁ s₁ _ (.refl ..) R₁) (inv2 X) fun ω' s' loc' oD' kp' e' => h ω' s' loc' oD' kp' (e₁.trans e')
  | @take X k d Xs ds h1 h2 h2b h3 ih =>
    intro i hi hX ω s R loc done oD hlen hds B t hloc h
    have e0 : It i = X := hX 0 X rfl
    rw [List.length_cons] at hi hlen
    refine dcomp_head hS F ok hd hpin W (by omega) e0 h1 B t hloc fun ω₁ s₁ kp₁ ek₁ e₁ R₁ ht => ?_
    simp only [if_true]
    have FC := F.comp (C := C) (m := m) (D := Da) (acc := oD) (M2 := M2) hS ok
    refine h2 _ (FC.more kp₁) ω₁ s₁ _ _ R₁ fun ω₂ kv s₂ e₂ R₂ A₂ => h2b _ (FC.more kp₁) ω₂ s₂ _ _ R₂ fun ω₃ v s₃ e₃ R₃ A₃ => ?_
    obtain ⟨tk, rfl⟩ : ∃ tk, kv = .str k tk := by
      cases A₂.toD with
      | str => exact ⟨_, rfl⟩
    refine acc_store hS F ok R₃ (hds.mono (e₁.trans (e₂.trans e₃)).fz) A₃.toD (by omega) fun s₄ oD' hd' R₄ => ?_
    have := putD'_len (k := k) (d := d) done
    exact ih (i + 1) (by omega) (fun j Y hj => by rw [Nat.add_assoc, Nat.add_comm 1 j]; exact hX (j + 1) Y (by simpa using hj)) ω₃ s₄ R _ (putD' k d done) oD' (by omega) hd' ⟨kp₁, ek₁, R₄⟩ (ht ω₃ s₄ _ (e₂.trans e₃) R₄) (inv2 X) fun ω' s' loc' oD'' kp' e' R' hl' hd'' => h ω' s' loc' oD'' kp' ((e₁.trans (e₂.trans e₃)).trans e') R' hl' hd''
theorem swaps_cell {env : Env} {gens : List Comprehension} {k : Nat} (h : env.kindOf y = some .cell) : swapsWith (.DictComp kx vx gens scope pos) (some (.Name y tpos)) k env = pure false := by
  have e : (env.kindOf y == some NameKind.local) = false := by rw [h]; rfl
  show (pure (env.blockKind == .function && env.kindOf y == some .local && tpos.line == pos.line && !(scope.names.any fun (n, k) => n == y && (k == .local || k == .cell))) : Sem Bool) = pure false
  rw [e, Bool.and_false, Bool.false_and, Bool.false_and]
theorem ex_dcomp {pin : Led} {p apos : Pos} {i : Nat} {ds : List (Str × D)} (hc : CxOk c) (h1 : EvIt c S n iter (.Name x p) pin σ Xs σ₁) (h2 : DCompIs c (relS scope S) n ifs kx vx x σ₁ Xs ds) (hy : S.names.lookup y = some .cell) (hok : compOk S scope x = true) (hd : lk (key dot0) σ₁.loc = none) (hi : Fresh i n σ₁) (hlen : Xs.length ≤ 10000) (hs : notSet iter = true) (hpin : PinsIn pin σ₁.heap) :
    Ex c S n (.Assign [.Name y tpos] (.DictComp kx vx [⟨.Name x p, iter, ifs, 0⟩] scope pos) apos) σ .next (St.set ⟨σ₁.loc, (i, .dct (putsD [] ds)) :: σ₁.heap⟩ y (.obj i)) := fun f F ω s Q E R h => by
  have ok := comp_ok hok
  refine wpAny_Assign_Name ?_ (swaps_cell (by show f.env.scope.names.lookup y = _; rw [F.scope]; exact hy))
  rw [arm_eval_DictComp]
  refine wpAny_comprehension_free (use := none) rfl (fun x => folded_no hs) (closure_eq fun p hp hf => ?_) ok.kind (fun p hp hl => (ok.loc p hp hl).1) (h1 f F ω s _ _ R fun ω₁ I s₁ wr T It e₁ B W hI t => ?_)
  · obtain ⟨a, ha⟩ := F.cellsOk p.1 (ok.free p hp hf).1
    exact ⟨a, ha⟩
  · obtain ⟨kp, ek, R₁⟩ := B
    have ab := R₁.above hc
    obtain ⟨m, Mc, Mh, FR, r⟩ := id R₁
    have d0 : ∀ Z, DctObj c Z [] ({ cls := .type "dict", data := .dict #[] } : Obj) := fun Z => ⟨⟨rfl, rfl, rfl⟩, ⟨[], _, rfl, .nil⟩, List.nodup_nil⟩
    refine wpAny_newObj_type (wpAny_newFunctionEnv ok.nocell (by intro y hy; simp at hy) (fun h₁ hns₁ hsb₁ => ?_) ok.kind) (Nat.zero_le _)
    have R₂ := comp_enter (tk := s₁.toks + ([] : List (Str × Value)).length) F.kind F ok r (acc := ({ cls := .type "dict", data := .dict #[] } : Obj)) rfl hns₁ hsb₁
    have tI : T 0 ω₁ h₁ := W.frame 0 0 ω₁ ω₁ s₁.heap h₁ t (.refl ..) fun b o hb e => by
      have e2 : (s₁.heap.push ({ cls := .type "dict", data := .dict #[] } : Obj)).get? b = some o := Heap.get?_push_of_some _ e
      exact hsb₁.extBut b o (Nat.ne_of_lt (Heap.lt_size e2)) (Heap.get?_push_of_some _ e2)
    have run : ∀ s₂ : Shared, s₂ = { s₁ with heap := h₁, toks := s₁.toks + ([] : List (Str × Value)).length } → codeAny (model c.prog c.w) f.A (.compLoop (.DictComp kx vx [⟨.Name x p, iter, ifs, 0⟩] scope pos) 0 (.ref I) (.ref s₁.heap.objs.size) (compEnvC scope (closL f.env.cells scope.names []) (s₁.heap.push ({ cls := .type "dict", data := .dict #[] } : Obj)).objs.size f.env))
        (compPost (model c.prog c.w) f.A E none (fun v s' => wpAny (model c.prog c.w) f.A (storeName f.env y v) (fun _ => Q .next) E s') (.ref s₁.heap.objs.size) (s₁.heap.push ({ cls := .type "dict", data := .dict #[] } : Obj)).objs.size) s₂ := by
      rintro s₂ rfl
      refine dcomp_loop F.kind F ok hd hpin W h2 0 (Nat.zero_add _) (fun j X hj => by rw [Nat.zero_add]; exact hI j X hj) ω₁ _ _ (capL scope σ₁.loc) [] _ (by simpa using hlen) (d0 _) ⟨kp, ek, R₂⟩ tI (fun y hy => capL_cap hy) fun ω' s' loc' oD' kp' e' R' hl' hd' => ?_
      obtain ⟨m', _, _, _, r'⟩ := id R'
      refine ⟨m', r'.fr.ns, fun h'' hs'' => ?_⟩
      have R₃ := comp_leaveK (tk := s'.toks) F.kind F ok r R' e' hl' hs''
      obtain ⟨es, ep, q1, q2⟩ := hd'.mem
      have R₄ := R₃.keepHeap F hi.2.2.1 hi.2.2.2 (.dct ab hd'.ex q1 hd'.nd q2)
      exact store_name F R₄ (.inr hy) (.obj hi.2.1 Om.put_self) (fun s₃ R₅ => h _ .next s₃ ((e₁.down.trans e'.down).trans (Ext.put hi.1)) R₅ .next) (F.cellsOk y)
    exact codeAny_compStart_dict (run _ rfl) (W.self 0 ω₁ _ _ _ tI (run _ rfl))
end
end Mine
namespace Mine
open PySem PySem.W PyProof.Rows PySem.Calls PySem.Spec
noncomputable def SL : Scope := defScope PySem.Challenge.pw_kq0015_06 "law"
noncomputable def LB : List Stmt := nthBody PySem.Challenge.pw_kq0015_06 20
noncomputable def B1 : List Stmt := forBody LB 7
noncomputable def DG : List Stmt := forBody B1 3
def bits6 : List (Str × D) := [("i", .int 2), ("L", .int 4), ("m", .int 8), ("s", .int 16), ("u", .int 32), ("x", .int 64), ("a", .int 256)]
abbrev base6 (own : Str) (numbers : List D) (total : Int) (oct : Bool) : List (Nat × V) :=
  [(key "own", .d (.str own)), (key "bits", .d (.dct bits6)), (key "numbers", .d (.lst numbers)), (key "total", .d (.int total)), (key "octets", .d (.bool oct)), (key "groups", .obj 0)]
abbrev l1 (own : Str) (numbers : List D) (total : Int) (oct : Bool) (text : Str) : List (Nat × V) := (key "text", .d (.str text)) :: base6 own numbers total oct
abbrev l2 (own : Str) (numbers : List D) (total : Int) (oct : Bool) (text : Str) (b : Int) : List (Nat × V) := (key "beside", .d (.int b)) :: l1 own numbers total oct text
structure Dg where
  d : Int
  on : Str
  off : Str
def digStep (a : Dg) (ch : Str) : Dg := ⟨a.d.fdiv 3, if a.d.fmod 3 == 1 then a.on ++ ch else a.on, if a.d.fmod 3 == 2 then a.off ++ ch else a.off⟩
def unS : D → Str
  | .str x => x
  | _ => ⟨#[]⟩
theorem len_app (x y : Str) : (x ++ y).length = x.length + y.length := by
  show (x.cps ++ y.cps).size = _
  exact Array.size_append ..
theorem signs_get {x : Str} {m : Nat} {d : D} (h : (signs x)[m]? = some d) : ∃ ch, d = .str ⟨#[ch]⟩ := by
  unfold signs at h
  rw [List.getElem?_map] at h
  cases q : x.cps.toList[m]? with
  | none => rw [q] at h; cases h
  | some ch => rw [q] at h; cases h; exact ⟨ch, rfl⟩
section
variable {c : Cx} {own text : Str} {total v b : Int} {numbers : List D} {oct : Bool} {k : Nat} {H : List (Nat × HO)}
theorem asname {S : Scope} {n : Nat} {x : Str} {X : V} {σ : St} {tpos : Pos} (hv : isOwnVar (S.names.lookup x) = true := by kernel_rfl) : As c S n (.Name x tpos) X σ (σ.set x X) := as_name hv
abbrev lD (own : Str) (numbers : List D) (total : Int) (oct : Bool) (text : Str) (b : Int) (a : Dg) : List (Nat × V) :=
  (key "v", .d (.int a.d)) :: (key "on", .d (.str a.on)) :: (key "off", .d (.str a.off)) :: l2 own numbers total oct text b
theorem dig_body (hC : CxOk c) (G : GL9 c) (hc : c.calm = true) (a : Dg) (ch : Str) (h1 : a.on.length + ch.length ≤ 1000) (h2 : a.off.length + ch.length ≤ 1000) :
    Exs c SL 0 DG (St.set ⟨lD own numbers total oct text b a, H⟩ "c" (.d (.str ch))) .next ⟨lD own numbers total oct text b (digStep a ch), H⟩ := by
  have sl : (1000 : Nat) ≤ sizeLine := by decide
  dsimp only [DG, B1, LB, nthBody, PySem.Challenge.pw_kq0015_06, forBody, ifBody, List.drop]
  refine exs_cons (ex_asgt (ev_callb (gl hC G.divmod) (evs_cons nm (evs_cons ev_int evs_nil)) (f_divmod (by decide) (PyProof.noPylong_small (by decide)))) (as_tup hc (.cons rfl asname (.cons rfl asname .nil)))) ?_
  refine exs_cons (if_any (σ₂ := ⟨(key "v", .d (.int (a.d.fdiv 3))) :: (key "digit", .d (.int (a.d.fmod 3))) :: (key "c", .d (.str ch)) :: (key "on", .d (.str (digStep a ch).on)) :: (key "off", .d (.str a.off)) :: l2 own numbers total oct text b, H⟩) (ts_cmp nm ev_int c_eq) (fun q => ?t1) (fun q => ?f1)) ?_
  case t1 =>
    have e : (digStep a ch).on = a.on ++ ch := by unfold digStep; rw [q]; rfl
    rw [e]
    exact exs_sub (exs_cons (aug nm (i_adds (x := a.on) (y := ch) (by omega))) exs_nil) (sub_list (by repeat (first | exact .nil | refine .cons (by repeat (first | with_reducible exact lk1 | with_reducible exact lk3 | with_reducible exact lk6 | with_reducible refine lk4 (by kernel_rfl) ?_ | with_reducible refine lk2 (by kernel_rfl) ?_ | with_reducible refine lk7 (by kernel_rfl) ?_ | with_reducible refine lk5 ?_)) ?_)))
  case f1 =>
    have e : (digStep a ch).on = a.on := by unfold digStep; rw [q]; rfl
    rw [e]
    exact exs_sub exs_nil (sub_list (by repeat (first | exact .nil | refine .cons (by repeat (first | with_reducible exact lk1 | with_reducible exact lk3 | with_reducible exact lk6 | with_reducible refine lk4 (by kernel_rfl) ?_ | with_reducible refine lk2 (by kernel_rfl) ?_ | with_reducible refine lk7 (by kernel_rfl) ?_ | with_reducible refine lk5 ?_)) ?_)))
  refine exs_cons (if_any (σ₂ := ⟨lD own numbers total oct text b (digStep a ch), H⟩) (ts_cmp nm ev_int c_eq) (fun q => ?t2) (fun q => ?f2)) exs_nil
  case t2 =>
    have e : (digStep a ch).off = a.off ++ ch := by unfold digStep; rw [q]; rfl
    show Exs c SL 0 _ _ _ ⟨(key "v", .d (.int (digStep a ch).d)) :: (key "on", .d (.str (digStep a ch).on)) :: (key "off", .d (.str (digStep a ch).off)) :: l2 own numbers total oct text b, H⟩
    rw [e, show (digStep a ch).d = a.d.fdiv 3 from rfl]
    exact exs_sub (exs_cons (aug nm (i_adds (x := a.off) (y := ch) (by omega))) exs_nil) (sub_list (by repeat (first | exact .nil | refine .cons (by repeat (first | with_reducible exact lk1 | with_reducible exact lk3 | with_reducible exact lk6 | with_reducible refine lk4 (by kernel_rfl) ?_ | with_reducible refine lk2 (by kernel_rfl) ?_ | with_reducible refine lk7 (by kernel_rfl) ?_ | with_reducible refine lk5 ?_)) ?_)))
  case f2 =>
    have e : (digStep a ch).off = a.off := by unfold digStep; rw [q]; rfl
    show Exs c SL 0 _ _ _ ⟨(key "v", .d (.int (digStep a ch).d)) :: (key "on", .d (.str (digStep a ch).on)) :: (key "off", .d (.str (digStep a ch).off)) :: l2 own numbers total oct text b, H⟩
    rw [e, show (digStep a ch).d = a.d.fdiv 3 from rfl]
    exact exs_sub exs_nil (sub_list (by repeat (first | exact .nil | refine .cons (by repeat (first | with_reducible exact lk1 | with_reducible exact lk3 | with_reducible exact lk6 | with_reducible refine lk4 (by kernel_rfl) ?_ | with_reducible refine lk2 (by kernel_rfl) ?_ | with_reducible refine lk7 (by kernel_rfl) ?_ | with_reducible refine lk5 ?_)) ?_)))
def dgOf (d : Int) : Dg := (signs "imsx").foldl (fun a d => digStep a (unS d)) ⟨d, "", ""⟩
theorem dig_loop {tp : Pos} (hC : CxOk c) (G : GL9 c) (hc : c.calm = true) (d0 : Int) :
    FL c SL 0 (.Name "c" tp) DG [] ((signs "imsx").map .d) ⟨lD own numbers total oct text b ⟨d0, "", ""⟩, H⟩ .next ⟨lD own numbers total oct text b (dgOf d0), H⟩ := by
  refine fl_fold (α := Dg) (st := fun a => ⟨lD own numbers total oct text b a, H⟩) (g := fun a d => digStep a (unS d)) (P := fun m a => m ≤ 4 ∧ a.on.length ≤ m ∧ a.off.length ≤ m) (fun m a d hp hd => ?_) (fun _ => pins_nil) ⟨d0, "", ""⟩ ⟨by decide, Nat.le_refl 0, Nat.le_refl 0⟩
  obtain ⟨ch, rfl⟩ := signs_get hd
  have hm : m < 4 := by
    have z := (List.getElem?_eq_some_iff.mp hd).1
    have e : (signs "imsx").length = 4 := by kernel_rfl
    rwa [e] at z
  have l1 : (⟨#[ch]⟩ : Str).length = 1 := rfl
  refine ⟨⟨by omega, ?_, ?_⟩, .next, _, rfl, asname, dig_body hC G hc a ⟨#[ch]⟩ (by omega) (by omega)⟩
  · show (digStep a ⟨#[ch]⟩).on.length ≤ m + 1
    unfold digStep
    dsimp only
    split
    · rw [len_app]; omega
    · omega
  · show (digStep a ⟨#[ch]⟩).off.length ≤ m + 1
    unfold digStep
    dsimp only
    split
    · rw [len_app]; omega
    · omega
theorem dg_len (d : Int) : (dgOf d).on.length ≤ 4 ∧ (dgOf d).off.length ≤ 4 := by
  have z := fold_P (g := fun a d => digStep a (unS d)) (P := fun m a => a.on.length ≤ m ∧ a.off.length ≤ m) (items := signs "imsx") (fun m a d hp hd => by
    obtain ⟨ch, rfl⟩ := signs_get hd
    have l1 : (⟨#[ch]⟩ : Str).length = 1 := rfl
    constructor
    · show (digStep a ⟨#[ch]⟩).on.length ≤ m + 1
      unfold digStep; dsimp only; split
      · rw [len_app]; omega
      · omega
    · show (digStep a ⟨#[ch]⟩).off.length ≤ m + 1
      unfold digStep; dsimp only; split
      · rw [len_app]; omega
      · omega) ⟨d, "", ""⟩ ⟨Nat.le_refl 0, Nat.le_refl 0⟩
  have e : (signs "imsx").length = 4 := by kernel_rfl
  rw [e] at z
  exact z
end
end Mine
namespace Mine
open PySem PySem.W PyProof.Rows PySem.Calls PySem.Spec
def revS (x : Str) : Str := sliceS x none none (some (-1))
theorem rev_len (x : Str) : (revS x).length ≤ x.length := by
  unfold revS sliceS
  rw [if_neg (by simp)]
  have h1 : ∀ l : List Nat, (l.filterMap (x.cps[·]?)).toArray.size ≤ l.length := fun l => by
    rw [List.size_toArray]; exact List.length_filterMap_le ..
  refine Nat.le_trans (h1 _) ?_
  unfold Builtin.Str.strSliceIndices sliceRange
  simp only [List.length_map, List.length_range, Option.getD_some]
  have e1 : ¬ ((-1 : Int) > 0) := by decide
  simp only [e1, if_false, Int.neg_neg, Int.ediv_one]
  split <;> omega
def pick4 (own : Str) (j : Int) : Str := match j.toNat with
  | 0 => ""
  | 1 => ""
  | 2 => "a"
  | _ => own
theorem fmod_pos {a b : Int} (hb : 0 < b) : 0 ≤ a.fmod b ∧ a.fmod b < b := by
  rw [Int.fmod_eq_emod_of_nonneg _ (by omega)]
  exact ⟨Int.emod_nonneg _ (by omega), Int.emod_lt_of_pos _ hb⟩
theorem pick4_at {own : Str} {j : Int} (h : 0 ≤ j ∧ j < 4) : seqIndex? j 4 = some j.toNat ∧ [D.str "", .str "", .str "a", .str own][j.toNat]? = some (.str (pick4 own j)) := by
  obtain ⟨n, rfl⟩ := Int.eq_ofNat_of_zero_le h.1
  have hn : n < 4 := by omega
  refine ⟨by rw [seq_nat, if_pos hn]; rfl, ?_⟩
  match n, hn with
  | 0, _ => rfl
  | 1, _ => rfl
  | 2, _ => rfl
  | 3, _ => rfl
structure Gp where
  on : Str
  off : Str
def prevOf (nums : List Int) (k : Nat) : Int := nums.getD (if k = 0 then nums.length - 1 else k - 1) 0
def gp2 (own : Str) (p v : Int) : Gp := if (p.fdiv 4).fmod 2 != 0 then ⟨(pick4 own (p.fmod 4) ++ revS (dgOf v).on) ++ pick4 own (p.fmod 4), revS (dgOf v).off ++ (dgOf v).off⟩ else ⟨(dgOf v).on ++ pick4 own (p.fmod 4), (dgOf v).off⟩
def isE (x : Str) : Bool := !((x.length : Int) != 0)
def gp3 (g : Gp) : Gp := if isE g.on && isE g.off then ⟨g.on, "x"⟩ else g
def gpOf (own : Str) (nums : List Int) (k : Nat) (v : Int) : Gp := gp3 (gp2 own (prevOf nums k) v)
def gpOff (g : Gp) : Str := if isE g.off then ("" : Str) else ("-" : Str) ++ g.off
def gpText (g : Gp) : Str := ((("(?" : Str) ++ g.on) ++ gpOff g) ++ (":b" : Str)
theorem gpOff_len {g : Gp} : (gpOff g).length ≤ 1 + g.off.length := by
  unfold gpOff
  split
  · exact Nat.zero_le _
  · rw [len_app]; exact Nat.le_refl _
theorem gpText_len {g : Gp} (h : g.on.length ≤ 6 ∧ g.off.length ≤ 8) : (gpText g).length ≤ 22 := by
  unfold gpText
  rw [len_app, len_app, len_app]
  have z := gpOff_len (g := g)
  have k1 : (":b" : Str).length = 2 := rfl
  have k2 : ("(?" : Str).length = 2 := rfl
  omega
theorem pick_len {own : Str} {j : Int} (ho : own.length ≤ 1) : (pick4 own j).length ≤ 1 := by unfold pick4; split <;> first | exact ho | exact Nat.zero_le _ | exact Nat.le_refl _
theorem gp2_len {own : Str} {p v : Int} (ho : own.length ≤ 1) : (gp2 own p v).on.length ≤ 6 ∧ (gp2 own p v).off.length ≤ 8 := by
  have z := dg_len v
  have y := pick_len (own := own) (j := p.fmod 4) ho
  have r1 := rev_len (dgOf v).on
  have r2 := rev_len (dgOf v).off
  unfold gp2
  split
  · dsimp only; rw [len_app, len_app, len_app]; omega
  · dsimp only; rw [len_app]; omega
theorem gp3_len {g : Gp} (h : g.on.length ≤ 6 ∧ g.off.length ≤ 8) : (gp3 g).on.length ≤ 6 ∧ (gp3 g).off.length ≤ 8 := by
  unfold gp3
  split
  · exact ⟨h.1, by show (1 : Nat) ≤ 8; decide⟩
  · exact h
def arD (ar : List (Str × Str)) : List D := ar.map fun p => .tup [.str p.1, .str p.2]
def heap6 (ar : List (Str × Str)) : List (Nat × HO) := [(0, .lst (arD ar))]
section
variable {c : Cx} {own text : Str} {total v : Int} {nums : List Int} {oct : Bool} {k : Nat} {ar : List (Str × Str)}
theorem arD_app {p : Str × Str} : heap6 (ar ++ [p]) = [(0, .lst (arD ar ++ [.tup [.str p.1, .str p.2]]))] := by unfold heap6 arD; rw [List.map_append]; rfl
theorem prev_at (hk : k < nums.length) : ∃ j, seqIndex? ((k : Int) - 1) (nums.map D.int).length = some j ∧ (nums.map D.int)[j]? = some (.int (prevOf nums k)) := by
  rw [List.length_map]
  unfold prevOf
  by_cases h : k = 0
  · subst h
    refine ⟨nums.length - 1, ?_, ?_⟩
    · unfold seqIndex?
      simp only [if_true, show ((0 : Nat) : Int) - 1 < 0 by decide]
      rw [if_pos (by simp; omega)]
      congr 1; omega
    · rw [List.getElem?_map, if_pos rfl, List.getD_eq_getElem?_getD, List.getElem?_eq_getElem (by omega)]; rfl
  · refine ⟨k - 1, ?_, ?_⟩
    · have e : ((k : Int) - 1) = ((k - 1 : Nat) : Int) := by omega
      rw [e, seq_nat, if_pos (by omega)]
    · rw [List.getElem?_map, if_neg h, List.getD_eq_getElem?_getD, List.getElem?_eq_getElem (by omega)]; rfl
abbrev l6 (own : Str) (numbers : List D) (total : Int) (oct : Bool) (text : Str) (b : Int) (on off : Str) : List (Nat × V) :=
  (key "on", .d (.str on)) :: (key "off", .d (.str off)) :: l2 own numbers total oct text b
theorem group_ok (hC : CxOk c) (G : GL9 c) (hc : c.calm = true) (htx : text.length ≤ 5000) (har : ar.length ≤ 1000) (ho : own.length ≤ 1) (hk : k < nums.length) (hkk : nums.length ≤ 1000) :
    Exs c SL 0 B1 (St.set (St.set ⟨l1 own (nums.map .int) total oct text, heap6 ar⟩ "k" (.d (.int k))) "v" (.d (.int v))) .next ⟨l1 own (nums.map .int) total oct (text ++ gpText (gpOf own nums k v)), heap6 (ar ++ [((gpOf own nums k v).on, (gpOf own nums k v).off)])⟩ := by
  have sl : (6000 : Nat) ≤ sizeLine := by decide
  have z2 := gp2_len (own := own) (p := prevOf nums k) (v := v) ho
  have z3 := gp3_len z2
  rw [arD_app]
  obtain ⟨j, j1, j2⟩ := prev_at hk
  dsimp only [B1, LB, nthBody, PySem.Challenge.pw_kq0015_06, forBody, ifBody, List.drop]
  refine exs_cons (asg (ev_sub nm (ev_binop nm ev_int b_sub) (op_item_list j1 j2 (by omega)))) ?_
  refine exs_cons (asg ev_str) ?_
  refine exs_cons (asg ev_str) ?_
  refine exs_pre (σ₁ := ⟨lD own (nums.map .int) total oct text (prevOf nums k) ⟨v, "", ""⟩, heap6 ar⟩) (sub_list (by repeat (first | exact .nil | refine .cons (by repeat (first | with_reducible exact lk1 | with_reducible exact lk3 | with_reducible exact lk6 | with_reducible refine lk4 (by kernel_rfl) ?_ | with_reducible refine lk2 (by kernel_rfl) ?_ | with_reducible refine lk7 (by kernel_rfl) ?_ | with_reducible refine lk5 ?_)) ?_))) ?_
  refine exs_cons (ex_for (evIt_str hc ev_str) (fl_body (dig_loop hC G hc _) (by kernel_rfl))) ?_
  obtain ⟨p1, p2⟩ := pick4_at (own := own) (fmod_pos (a := prevOf nums k) (b := 4) (by decide))
  have zd := dg_len v
  have zp := pick_len (own := own) (j := (prevOf nums k).fmod 4) ho
  have bd := fmod_pos (a := prevOf nums k) (b := 4) (by decide)
  refine exs_cons (asg (ev_sub (ev_list (evs_cons ev_str (evs_cons ev_str (evs_cons ev_str (evs_cons nm evs_nil)))) op_list) (ev_binop nm ev_int (b_mod (by decide))) (op_item_list (ds := [D.str "", .str "", .str "a", .str own]) p1 p2 (by omega)))) ?_
  have r1 := rev_len (dgOf v).on
  have r2 := rev_len (dgOf v).off
  have a1 : (pick4 own ((prevOf nums k).fmod 4) ++ revS (dgOf v).on).length = (pick4 own ((prevOf nums k).fmod 4)).length + (revS (dgOf v).on).length := len_app _ _
  refine exs_cons (if_any (σ₂ := ⟨l6 own (nums.map .int) total oct text (prevOf nums k) (gp2 own (prevOf nums k) v).on (gp2 own (prevOf nums k) v).off, heap6 ar⟩) (ts_plain (ev_binop (ev_binop nm ev_int (b_fdiv (by decide) (PyProof.noPylong_small (by decide)))) ev_int (b_mod (by decide))) t_int) (fun q => ?t1) (fun q => ?f1)) ?_
  case t1 =>
    have e : gp2 own (prevOf nums k) v = ⟨(pick4 own ((prevOf nums k).fmod 4) ++ revS (dgOf v).on) ++ pick4 own ((prevOf nums k).fmod 4), revS (dgOf v).off ++ (dgOf v).off⟩ := by unfold gp2; rw [if_pos q]
    rw [e]
    refine exs_cons (asg (ev_binop (ev_binop nm (ev_slice_str nm ⟨rfl, rfl⟩ ⟨rfl, rfl⟩ ⟨-1, rfl, ev_unop ev_int u_neg⟩ (by decide) (by show (revS _).length ≤ 10000; omega)) (b_adds (x := pick4 own ((prevOf nums k).fmod 4)) (y := revS (dgOf v).on) (by omega))) nm (b_adds (x := pick4 own ((prevOf nums k).fmod 4) ++ revS (dgOf v).on) (y := pick4 own ((prevOf nums k).fmod 4)) (by omega)))) ?_
    exact exs_sub (exs_cons (asg (ev_binop (ev_slice_str nm ⟨rfl, rfl⟩ ⟨rfl, rfl⟩ ⟨-1, rfl, ev_unop ev_int u_neg⟩ (by decide) (by show (revS _).length ≤ 10000; omega)) nm (b_adds (x := revS (dgOf v).off) (y := (dgOf v).off) (by omega)))) exs_nil) (sub_list (by repeat (first | exact .nil | refine .cons (by repeat (first | with_reducible exact lk1 | with_reducible exact lk3 | with_reducible exact lk6 | with_reducible refine lk4 (by kernel_rfl) ?_ | with_reducible refine lk2 (by kernel_rfl) ?_ | with_reducible refine lk7 (by kernel_rfl) ?_ | with_reducible refine lk5 ?_)) ?_)))
  case f1 =>
    have e : gp2 own (prevOf nums k) v = ⟨(dgOf v).on ++ pick4 own ((prevOf nums k).fmod 4), (dgOf v).off⟩ := by unfold gp2; rw [if_neg (by rw [q]; decide)]
    rw [e]
    exact exs_sub (exs_cons (asg (ev_binop nm nm (b_adds (x := (dgOf v).on) (y := pick4 own ((prevOf nums k).fmod 4)) (by omega)))) exs_nil) (sub_list (by repeat (first | exact .nil | refine .cons (by repeat (first | with_reducible exact lk1 | with_reducible exact lk3 | with_reducible exact lk6 | with_reducible refine lk4 (by kernel_rfl) ?_ | with_reducible refine lk2 (by kernel_rfl) ?_ | with_reducible refine lk7 (by kernel_rfl) ?_ | with_reducible refine lk5 ?_)) ?_)))
  generalize hg2 : gp2 own (prevOf nums k) v = g2 at z2
  have hgo : gpOf own nums k v = gp3 g2 := by unfold gpOf; rw [hg2]
  rw [hgo]
  rw [hg2] at z3
  refine exs_cons (if_any (σ₂ := ⟨l6 own (nums.map .int) total oct text (prevOf nums k) (gp3 g2).on (gp3 g2).off, heap6 ar⟩) (ts_is (ts_bool (tss_and (ts_not (ts_plain nm (t_str (by omega)))) (tss_and (ts_not (ts_plain nm (t_str (by omega)))) tss_nil))) (show _ = (isE g2.on && isE g2.off) by unfold isE; simp)) (fun q => ?t2) (fun q => ?f2)) ?_
  case t2 =>
    have e : gp3 g2 = ⟨g2.on, "x"⟩ := by unfold gp3; rw [if_pos q]
    rw [e]
    exact exs_sub (exs_cons (asg ev_str) exs_nil) (sub_list (by repeat (first | exact .nil | refine .cons (by repeat (first | with_reducible exact lk1 | with_reducible exact lk3 | with_reducible exact lk6 | with_reducible refine lk4 (by kernel_rfl) ?_ | with_reducible refine lk2 (by kernel_rfl) ?_ | with_reducible refine lk7 (by kernel_rfl) ?_ | with_reducible refine lk5 ?_)) ?_)))
  case f2 =>
    have e : gp3 g2 = g2 := by unfold gp3; rw [if_neg (by rw [q]; decide)]
    rw [e]
    exact exs_nil
  generalize gp3 g2 = g3 at z3
  refine exs_cons (ex_expr (ev_meth nm (getm_lst (i := 0) PySem.F.slot_list_append PySem.F.type_list_append rfl) (evs_cons (ev_tuple (evs_cons nm (evs_cons nm evs_nil)) op_tuple) evs_nil) (op_append rfl (by show (arD ar).length ≤ 9999; unfold arD; rw [List.length_map]; omega)))) ?_
  have tl := gpText_len z3
  have m1 : (("(?" : Str) ++ g3.on).length = 2 + g3.on.length := len_app _ _
  have m2 := gpOff_len (g := g3)
  have m3 : ((("(?" : Str) ++ g3.on) ++ gpOff g3).length = 2 + g3.on.length + (gpOff g3).length := by rw [len_app, m1]
  have m4 : (("-" : Str) ++ g3.off).length = 1 + g3.off.length := len_app _ _
  have k1 : (":b" : Str).length = 2 := rfl
  have k2 : ("(?" : Str).length = 2 := rfl
  have k3 : ("-" : Str).length = 1 := rfl
  exact exs_sub (exs_cons (aug (Y := .d (.str (gpText g3))) (ev_binop (ev_binop (ev_binop ev_str nm (b_adds (x := "(?") (y := g3.on) (by omega))) (ev_ite (σ₂ := ⟨l6 own (nums.map .int) total oct text (prevOf nums k) g3.on g3.off, setH 0 (.lst (arD ar ++ [.tup [.str g3.on, .str g3.off]])) (heap6 ar)⟩) (X := .d (.str (gpOff g3))) (ts_plain nm (t_str (by omega))) (fun q => by rw [show gpOff g3 = ("-" : Str) ++ g3.off by unfold gpOff isE; rw [q]; rfl]; exact ev_binop ev_str nm (b_adds (x := "-") (y := g3.off) (by omega))) (fun q => by rw [show gpOff g3 = "" by unfold gpOff isE; rw [q]; rfl]; exact ev_str)) (b_adds (x := ("(?" : Str) ++ g3.on) (y := gpOff g3) (by omega))) ev_str (b_adds (x := (("(?" : Str) ++ g3.on) ++ gpOff g3) (y := ":b") (by omega))) (i_adds (x := text) (y := gpText g3) (by omega))) exs_nil) (sub_list (by repeat (first | exact .nil | refine .cons (by repeat (first | with_reducible exact lk1 | with_reducible exact lk3 | with_reducible exact lk6 | with_reducible refine lk4 (by kernel_rfl) ?_ | with_reducible refine lk2 (by kernel_rfl) ?_ | with_reducible refine lk7 (by kernel_rfl) ?_ | with_reducible refine lk5 ?_)) ?_)))
structure A6 where
  text : Str
  ar : List (Str × Str)
def step6 (own : Str) (nums : List Int) (a : A6) (k : Nat) (v : Int) : A6 := ⟨a.text ++ gpText (gpOf own nums k v), a.ar ++ [((gpOf own nums k v).on, (gpOf own nums k v).off)]⟩
def unKV : D → Nat × Int
  | .tup [.int k, .int v] => (k.toNat, v)
  | _ => (0, 0)
def run6 (own : Str) (nums : List Int) : A6 := (numbered 0 (nums.map .int)).foldl (fun a d => step6 own nums a (unKV d).1 (unKV d).2) ⟨"", []⟩
theorem step6_len {a : A6} {m : Nat} (ho : own.length ≤ 1) (h : a.text.length ≤ 22 * m ∧ a.ar.length ≤ m) : (step6 own nums a k v).text.length ≤ 22 * (m + 1) ∧ (step6 own nums a k v).ar.length ≤ m + 1 := by
  have tlen := gpText_len (gp3_len (gp2_len (p := prevOf nums k) (v := v) ho))
  unfold step6
  dsimp only; rw [len_app, List.length_append]; unfold gpOf; simp only [List.length_singleton]; omega
theorem loop6 {tp tp1 tp2 : Pos} {kk : Nat} (hC : CxOk c) (G : GL9 c) (hc : c.calm = true) (ho : own.length ≤ 1) (hkk : nums.length ≤ 100) :
    FL c SL 0 (.Tuple [.Name "k" tp1, .Name "v" tp2] kk tp) B1 [] ((numbered 0 (nums.map .int)).map .d) ⟨l1 own (nums.map .int) total oct "", heap6 []⟩ .next
      ⟨l1 own (nums.map .int) total oct (run6 own nums).text, heap6 (run6 own nums).ar⟩ := by
  refine fl_fold (α := A6) (st := fun a => ⟨l1 own (nums.map .int) total oct a.text, heap6 a.ar⟩) (g := fun a d => step6 own nums a (unKV d).1 (unKV d).2) (P := fun m a => a.text.length ≤ 22 * m ∧ a.ar.length ≤ m) (fun m a d hp hd => ?_) (fun _ => pins_nil) ⟨"", []⟩ ⟨Nat.le_refl 0, Nat.le_refl 0⟩
  have hm : m < nums.length := by
    have z := (List.getElem?_eq_some_iff.mp hd).1
    rw [numbered_len, List.length_map] at z; exact z
  rw [numbered_get, List.getElem?_map, List.getElem?_eq_getElem hm] at hd
  simp only [Option.map_some, Option.some.injEq] at hd
  subst hd
  have e1 : unKV (.tup [.int ((0 + m : Nat) : Int), .int nums[m]]) = (m, nums[m]) := by unfold unKV; simp
  rw [e1, Nat.zero_add]
  exact ⟨step6_len ho hp, .next, _, rfl, as_tup hc (.cons rfl asname (.cons rfl asname .nil)), group_ok (k := m) (v := nums[m]) (total := total) (oct := oct) (text := a.text) (ar := a.ar) hC G hc (by omega) (by omega) ho hm (by omega)⟩
end
end Mine
namespace Mine
open PySem PySem.W PyProof.Rows PySem.Calls PySem.Spec
def Plain (t : Str) : Prop := ∀ ch ∈ t.cps.toList, ch < 128 ∧ ch ≠ 92
def ordsOf (t : Str) : List Int := t.cps.toList.map fun (ch : Nat) => (ch : Int)
def octetsOf (t : Str) : Array UInt8 := byteArr (ordsOf t)
theorem latin_octets {t : Str} (h : Plain t) : latin (octetsOf t) = t := by
  unfold latin octetsOf byteArr ordsOf
  obtain ⟨⟨l⟩⟩ := t
  congr 1
  apply Array.toList_inj.mp
  simp only [List.map_map, Array.toList_map]
  have : ∀ ch ∈ l, ((ch : Int).toNat.toUInt8).toNat = ch := fun ch hc => by
    have z := (h ch hc).1
    simp
    omega
  have e : ∀ l' : List Nat, (∀ ch ∈ l', ((ch : Int).toNat.toUInt8).toNat = ch) → l'.map (fun ch : Nat => ((ch : Int).toNat.toUInt8).toNat) = l' := by
    intro l' hl
    induction l' with
    | nil => rfl
    | cons a l' ih => rw [List.map_cons, hl a (.head _), ih fun ch hc => hl ch (.tail _ hc)]
  simpa [Function.comp_def] using e l this
theorem octets_size {t : Str} : (octetsOf t).size = t.length := by
  unfold octetsOf
  rw [byteArr_size]; unfold ordsOf; rw [List.length_map]; exact Array.length_toList
def singles (t : Str) : List Str := t.cps.toList.map fun ch => ⟨#[ch]⟩
theorem lenL_singles (l : List Nat) : lenL (l.map fun ch => (⟨#[ch]⟩ : Str)) = l.length := by
  unfold lenL
  induction l with
  | nil => rfl
  | cons a l ih => simp only [List.map_cons, List.sum_cons, List.length_cons]; rw [ih]; show 1 + _ = _; omega
theorem tok_singles_aux {t : Str} (h : Plain t) : ∀ (l : List Nat) (pre : List Nat), t.cps.toList = pre ++ l → TokOk t (l.map fun ch => (⟨#[ch]⟩ : Str)) ∧ tokNext t pre.length = some (kOf t (l.map fun ch => (⟨#[ch]⟩ : Str)), nxOf (l.map fun ch => (⟨#[ch]⟩ : Str))) := by
  intro l
  induction l with
  | nil =>
    intro pre hp
    have e : pre.length = t.length := by
      have := congrArg List.length hp
      rw [List.append_nil] at this
      rw [← this]; exact (Array.length_toList ..).symm ▸ rfl
    exact ⟨trivial, by rw [e]; exact tok_end⟩
  | cons a l ih =>
    intro pre hp
    have len : t.length = pre.length + (l.length + 1) := by
      have := congrArg List.length hp
      rw [List.length_append, List.length_cons] at this
      rw [← this]; exact (Array.length_toList ..).symm ▸ rfl
    obtain ⟨h1, h2⟩ := ih (pre ++ [a]) (by rw [hp]; simp)
    rw [List.length_append] at h2
    have ha : a < 128 ∧ a ≠ 92 := h a (by rw [hp]; simp)
    have hk : kOf t ((a :: l).map fun ch => (⟨#[ch]⟩ : Str)) = pre.length + 1 := by
      unfold kOf
      rw [List.map_cons, List.tail_cons, lenL_singles]; omega
    have get : t.cps[pre.length]? = some a := by
      rw [← Array.getElem?_toList, hp]; simp
    refine ⟨⟨?_, h1⟩, ?_⟩
    · have z : kOf t ((⟨#[a]⟩ : Str) :: l.map fun ch => (⟨#[ch]⟩ : Str)) = pre.length + 1 := hk
      rw [z]; exact h2
    · rw [hk]
      unfold tokNext
      rw [get]
      dsimp only
      rw [if_neg ha.2]; rfl
theorem tok_singles {t : Str} (h : Plain t) : TokOk t (singles t) ∧ tokNext t 0 = some (kOf t (singles t), nxOf (singles t)) := tok_singles_aux h t.cps.toList [] rfl
theorem comp_chars {c : Cx} {S : Scope} {n : Nat} {elt : Expr} {x : Str} {σ : St} (h : ∀ ch : Nat, Ev c S n elt ⟨(key x, .d (.str ⟨#[ch]⟩)) :: σ.loc, σ.heap⟩ (.d (.int ch)) ⟨(key x, .d (.str ⟨#[ch]⟩)) :: σ.loc, σ.heap⟩) (l : List Nat) :
    CompIs c S n [] elt x σ ((l.map fun (ch : Nat) => D.str ⟨#[ch]⟩).map .d) ((l.map fun (ch : Nat) => (ch : Int)).map .int) := by
  induction l with
  | nil => exact .nil
  | cons a l ih => exact .take (show true = true from rfl) (h a) ih
end Mine
namespace Mine
open PySem PySem.W PyProof.Rows PySem.Calls PySem.Spec
structure GL6 (c : Cx) : Prop extends GL9 c where
  repr : GlobIs c "repr" (.builtin "repr")
  given : GlobIs c "_law_given" (.ref 150)
theorem gl6 {c : Cx} (hC : CxOk c) (hK : c.K = KK c) (hb : ∀ x : Str, x ≠ "__name__" → c.mb x = bootBuiltins x) : GL6 c where
  toGL9 := gl9 hC hK hb
  repr := globB hC (by rw [hK]; kernel_rfl) ((hb _ (by decide)).trans (by kernel_rfl))
  given := globG hC (by rw [hK]; kernel_rfl)
section
variable {c : Cx} {n : Nat} {H : List (Nat × HO)} {loc : List (Nat × V)}
theorem giv6 (hC : CxOk c) (hK : c.K = KK c) (G : GL9 c) (hc : c.calm = true) (hn : n ≤ 80) {text : Str} {oct : Bool} (hp : Plain text) (hl : text.length ≤ 4000) :
    FnN c n 150 [.d (.str text), .d (.bool oct)] ⟨loc, H⟩ (.d (srcD (!oct) text (octetsOf text))) ⟨loc, H⟩ := by
  refine fn_at (S := Sc c 150) (ps := ["text", "octets"]) (T := []) (fl := .ret (.d (srcD (!oct) text (octetsOf text)))) (loc := loc0 ["text", "octets"] [.d (.str text), .d (.bool oct)]) (σ := ⟨loc, H⟩) hC hK (by omega) (by kernel_rfl) (by decide) (fun vs hv => by match vs, hv with | [a, b], _ => kernel_rfl) rfl rfl ?b .ret
  case b =>
  refine exs_body (body' := fBdy PySem.Challenge.pw_kq0015_06 19) ?_ (by kernel_rfl)
  dsimp only [mBdy, fBdy, cBdy, PySem.Challenge.pw_kq0015_06, List.drop]
  refine exs_stop (ex_ret ?_)
  refine ev_ite (b := oct) (σ₁ := ⟨loc0 ["text", "octets"] [.d (.str text), .d (.bool oct)], H⟩) (σ₂ := ⟨loc0 ["text", "octets"] [.d (.str text), .d (.bool oct)], H⟩) ?a ?b ?c
  case a => exact ts_plain nm t_bool
  case b =>
    intro q; subst q
    refine ev_callt (gl hC G.bytes) (evs_cons ?d evs_nil ?e) (f_bytes (ns := ordsOf text) (ds := (ordsOf text).map .int) hc rfl ?f ?g) ?e' rfl ?h
    case d =>
      refine ev_comp (evIt_str hc nm) (comp_chars (fun ch => ?x) text.cps.toList) (by kernel_rfl) (by kernel_rfl) ?y rfl pins_nil
      case x => exact ev_callb (gl hC G.ord) (evs_cons (ev_name (by kernel_rfl) (by kernel_rfl) lk1) evs_nil) f_ord
      case y => rw [List.length_map, signs_len]; show text.length ≤ _; omega
    case e => rfl
    case e' => rfl
    case f =>
      intro m hm
      unfold ordsOf at hm
      obtain ⟨ch, hch, rfl⟩ := List.mem_map.mp hm
      have := (hp ch hch).1
      omega
    case g => unfold ordsOf; rw [List.length_map]; exact Nat.le_trans (Nat.le_of_eq Array.length_toList) (by show text.length ≤ _; omega)
    case h => intro _; rfl
  case c =>
    intro q; subst q
    show Ev c _ _ _ _ (.d (.str text)) _
    exact nm
theorem take_range {α : Type} (l : List α) : ∀ b, b ≤ l.length → (List.range b).filterMap (l[·]?) = l.take b := by
  intro b
  induction b with
  | zero => intro _; rfl
  | succ b ih =>
    intro h
    rw [List.range_succ, List.filterMap_append, ih (by omega), List.take_add_one]
    simp [List.getElem?_eq_getElem (show b < l.length by omega)]
theorem slice_take (l : List D) (m : Nat) : sliceD l none (some (m : Int)) none = l.take m := by
  unfold sliceD sliceBounds sliceRange
  simp only [Option.getD_none]
  have e1 : ((1 : Int) > 0) := by decide
  have e2 : ¬ ((m : Int) < 0) := by omega
  simp only [e1, e2, if_true, if_false]
  have key : ∀ cnt : Nat, cnt = min m l.length → ((List.range cnt).map fun k : Nat => ((0 : Int) + 1 * (k : Int)).toNat).filterMap (l[·]?) = l.take m := by
    intro cnt hc
    have e3 : ((List.range cnt).map fun k : Nat => ((0 : Int) + 1 * (k : Int)).toNat) = List.range cnt := by
      have : (fun k : Nat => ((0 : Int) + 1 * (k : Int)).toNat) = id := by funext k; simp
      rw [this, List.map_id]
    rw [e3, take_range l cnt (by omega), hc]
    exact List.take_eq_take_iff.mpr (by omega)
  refine key _ ?_
  split <;> omega
def ownOf (oct : Bool) : Str := if oct then "L" else "u"
def numsOf (ns : List Int) : List Int := if (ns.take 20).isEmpty then [7] else ns.take 20
theorem fresh_of {i n : Nat} {σ : St} (h1 : n * 1000 ≤ i) (h2 : i < (n + 1) * 1000) (h3 : lk i σ.heap = none) (h4 : σ.loc.all (fun p => p.2.avoids i) = true) : Fresh i n σ := by
  refine ⟨h1, h2, h3, ?_⟩
  generalize σ.loc = l at h4
  induction l with
  | nil => intro k X h; cases h
  | cons p l ih =>
    intro k X h
    rw [List.all_cons, Bool.and_eq_true] at h4
    have h' : (bif p.1 == k then some p.2 else lk k l) = some X := h
    cases q : (p.1 == k) with
    | true => rw [q] at h'; cases h'; exact h4.1
    | false => rw [q] at h'; exact ih h4.2 k X h'
noncomputable def PB : List Stmt := LB.drop 8
theorem ev_is {S : Scope} {n : Nat} {e : Expr} {σ σ₁ : St} {X Y : V} (h : Ev c S n e σ X σ₁) (q : X = Y) : Ev c S n e σ Y σ₁ := q ▸ h
theorem as1 {S : Scope} {n : Nat} {x : Str} {e : Expr} {σ σ' : St} {X : V} {rest : List Stmt} {fl : Fl} {p q : Pos} (h : Ev c S n e σ X σ) (h2 : Exs c S n rest (St.set σ x X) fl σ') (hv : isOwnVar (S.names.lookup x) = true := by kernel_rfl) (hn : noComp e = true := by rfl) : Exs c S n (.Assign [.Name x p] e q :: rest) σ fl σ' := exs_cons (asg h hv hn) h2
theorem pre6 (hC : CxOk c) (G : GL6 c) (hc : c.calm = true) (ns : List Int) (oct : Bool) (own : Str) (nums : List Int) (ho : (ns.sum.fmod 2 == 1) = oct) (hw : ownOf oct = own) (hnu : numsOf ns = nums) (hl : ns.length ≤ 63) {σ' : St}
    (h : Exs c SL 0 PB ⟨l1 own (nums.map .int) ns.sum oct (run6 own nums).text, heap6 (run6 own nums).ar⟩ (.ret (.d (.bool true))) σ') :
    Exs c SL 0 LB ⟨[(key "script", .d (.lst (ns.map .int)))], []⟩ (.ret (.d (.bool true))) σ' := by
  have nl : nums.length ≤ 100 := by
    rw [← hnu]
    unfold numsOf
    split
    · decide
    · rw [List.length_take]; omega
  have ol : own.length ≤ 1 := by rw [← hw]; unfold ownOf; split <;> exact Nat.le_refl 1
  have tk : sliceD (ns.map D.int) none (some 20) none = (ns.take 20).map .int := by rw [show (20 : Int) = ((20 : Nat) : Int) from rfl, slice_take, List.map_take]
  have se : ((ns.take 20).map D.int).isEmpty = (ns.take 20).isEmpty := by cases ns.take 20 <;> rfl
  dsimp only [LB, nthBody, PySem.Challenge.pw_kq0015_06, forBody, ifBody, List.drop]
  refine exs_cons (asg (ev_callb (gl hC G.sum) (evs_cons nm evs_nil) (f_sum hc rfl))) ?_
  refine exs_cons (asg (X := .d (.bool oct)) (ev_is (ev_cmp (ev_binop nm ev_int (b_mod (by decide))) ev_int c_eq) (by rw [ho]))) ?_
  refine exs_pre (σ₁ := ⟨[(key "octets", .d (.bool oct)), (key "total", .d (.int ns.sum)), (key "script", .d (.lst (ns.map .int)))], []⟩) (sub_list (by repeat (first | exact .nil | refine .cons (by repeat (first | with_reducible exact lk1 | with_reducible exact lk3 | with_reducible exact lk6 | with_reducible refine lk4 (by kernel_rfl) ?_ | with_reducible refine lk2 (by kernel_rfl) ?_ | with_reducible refine lk7 (by kernel_rfl) ?_ | with_reducible refine lk5 ?_)) ?_))) ?_
  refine exs_cons (asg (X := .d (.str own)) (ev_ite (σ₂ := ⟨[(key "octets", .d (.bool oct)), (key "total", .d (.int ns.sum)), (key "script", .d (.lst (ns.map .int)))], []⟩) (ts_plain nm t_bool) (fun q => by rw [← hw, q]; exact ev_str) (fun q => by rw [← hw, q]; exact ev_str))) ?_
  refine as1 (X := .d (.dct bits6)) ?ev1 ?_
  case ev1 =>
    with_reducible refine ev_dict hC ?h1 ?a1 ?b1 ?c1
    case h1 => exact (.cons ev_str ev_int (.cons ev_str ev_int (.cons ev_str ev_int (.cons ev_str ev_int (.cons ev_str ev_int (.cons ev_str ev_int (.cons ev_str ev_int .nil)))))))
    case a1 => decide +kernel
    case b1 => simp
    case c1 => exact (Nat.le_of_ble_eq_true rfl)
  refine exs_pre (σ₁ := ⟨[(key "bits", .d (.dct bits6)), (key "own", .d (.str own)), (key "octets", .d (.bool oct)), (key "total", .d (.int ns.sum)), (key "script", .d (.lst (ns.map .int)))], []⟩) (sub_list (by repeat (first | exact .nil | refine .cons (by repeat (first | with_reducible exact lk1 | with_reducible exact lk3 | with_reducible exact lk6 | with_reducible refine lk4 (by kernel_rfl) ?_ | with_reducible refine lk2 (by kernel_rfl) ?_ | with_reducible refine lk7 (by kernel_rfl) ?_ | with_reducible refine lk5 ?_)) ?_))) ?_
  refine as1 (X := .d (.lst (nums.map .int))) (ev_or (b := !(ns.take 20).isEmpty) (σ₁ := ⟨[(key "bits", .d (.dct bits6)), (key "own", .d (.str own)), (key "octets", .d (.bool oct)), (key "total", .d (.int ns.sum)), (key "script", .d (.lst (ns.map .int)))], []⟩) (X := .d (.lst ((ns.take 20).map .int))) ?n1 ?n2 ?n3 ?n4) ?_
  case n1 => exact ev_is (ev_slice_list nm ⟨rfl, rfl⟩ ⟨20, rfl, ev_int⟩ ⟨rfl, rfl⟩ (by decide) (by rw [List.length_map]; omega)) (by rw [tk])
  case n2 => rw [← se]; exact t_lst (by rw [List.length_map, List.length_take]; omega)
  case n3 =>
    intro q
    refine ⟨?_, rfl⟩
    rw [← hnu]; unfold numsOf; rw [if_neg (by simpa using q)]
  case n4 =>
    intro q
    have q' : (ns.take 20).isEmpty = true := by simpa using q
    have e : nums = [7] := by rw [← hnu]; unfold numsOf; rw [if_pos q']
    subst e
    exact ev_or1 (ev_list (evs_cons ev_int evs_nil) op_list)
  refine exs_cons (ex_newlist (i := 0) (ds := []) (by kernel_rfl) evs_nil (fresh_of (by decide) (by decide) rfl (by rfl))) ?_
  refine as1 (X := .d (.str "")) ev_str ?_
  refine exs_pre (σ₁ := ⟨l1 own (nums.map .int) ns.sum oct "", heap6 []⟩) (sub_list (by repeat (first | exact .nil | refine .cons (by repeat (first | with_reducible exact lk1 | with_reducible exact lk3 | with_reducible exact lk6 | with_reducible refine lk4 (by kernel_rfl) ?_ | with_reducible refine lk2 (by kernel_rfl) ?_ | with_reducible refine lk7 (by kernel_rfl) ?_ | with_reducible refine lk5 ?_)) ?_))) ?_
  refine exs_cons (ex_for (evIt_enum_list hc (gl hC G.enum) nm) (fl_body (loop6 hC G.toGL9 hc ol nl) (by kernel_rfl))) ?_
  exact exs_body h (by kernel_rfl)
end
end Mine
namespace Mine
open PySem PySem.W PyProof.Rows PySem.Calls PySem.Spec
noncomputable def PC : List Stmt := LB.drop 14
def srcH (oct : Bool) (text : Str) (L : List Str) : HO := .inst cT (tokL (!oct) (srcD (!oct) text (octetsOf text)) text L)
def asN : List (Str × D) := tokL true (.str "") "" []
def asS (fl : Int) : List (Str × D) := tokL true (.str "") "" [] ++ ([("flags", D.int fl)] : List (Str × D))
def hp6 (q : Nat) (kv : List (Str × D)) (oct : Bool) (text : Str) (L : List Str) (fl : Int) (g : HO) : List (Nat × HO) :=
  [(q, .dct kv), (2, .inst cT (asS fl)), (1, srcH oct text L), (0, g)]
abbrev lc6 (total : Int) (oct : Bool) (q : Nat) (add drop : Int) : List (Nat × V) :=
  [(key "last", .obj q), (key "add", .d (.int add)), (key "drop", .d (.int drop)), (key "state", .obj 2), (key "source", .obj 1), (key "total", .d (.int total)), (key "octets", .d (.bool oct)), (key "bits", .d (.dct bits6)), (key "groups", .obj 0)]
abbrev lcA (total : Int) (oct : Bool) : List (Nat × V) :=
  [(key "state", .obj 2), (key "source", .obj 1), (key "total", .d (.int total)), (key "octets", .d (.bool oct)), (key "bits", .d (.dct bits6)), (key "groups", .obj 0)]
section
variable {c : Cx}
theorem ex_newF {S : Scope} {n i : Nat} {x : Str} {e : Expr} {es : List Expr} {C : Addr} {σ σ₁ : St} {Xs : List V} {pos tpos apos : Pos} {g : Addr} {H : List (Nat × HO)} {fnp : Str} {fp : Pos} (hC : CxOk c) (hk : NewOk c.K C g)
    (h0 : Ev c S n (.Name fnp fp) σ (.val (.ref C)) σ) (h1 : Evs c S n (e :: es) σ Xs σ₁) (hi : Fresh i n σ₁) (hXs : ∀ X ∈ Xs, X.avoids i = true)
    (h2 : FnN c (n + 1) g (.obj i :: Xs) ⟨σ₁.loc, (i, .inst C []) :: σ₁.heap⟩ (.d .none) ⟨σ₁.loc, H⟩) (hv : isOwnVar (S.names.lookup x) = true := by kernel_rfl) (ha : notStar e = true := by rfl) (hs : es.all notStar = true := by rfl)
    (hc : ∀ env, eval (.Call (.Name fnp fp) (e :: es) [] pos) env = (do callWith pos (← eval (.Name fnp fp) env) [] (backTo pos (starEach (e :: es) env)) (backToKw pos (keywordEach [] env))) := by intro _; rfl) :
    Ex c S n (.Assign [.Name x tpos] (.Call (.Name fnp fp) (e :: es) [] pos) apos) σ .next (St.set ⟨σ₁.loc, H⟩ x (.obj i)) := ex_new (loc := []) hC hk hv h0 h1 hi.1 hi.2.1 hi.2.2.1 hi.2.2.2 hXs h2 ha hs hc
theorem mid6 (hC : CxOk c) (hK : c.K = KK c) (G : GL6 c) (hc : c.calm = true) {own text : Str} {total : Int} {nums : List Int} {oct : Bool} {ar : List (Str × Str)} (hp : Plain text) (h0 : 0 < text.length) (hl : text.length ≤ 4000) {σ' : St}
    (h : Exs c SL 0 PC ⟨lc6 total oct 3 0 0, hp6 3 [] oct text (singles text) (total.fmod 512) (.lst (arD ar))⟩ (.ret (.d (.bool true))) σ') :
    Exs c SL 0 PB ⟨l1 own (nums.map .int) total oct text, heap6 ar⟩ (.ret (.d (.bool true))) σ' := by
  have ts := tok_singles hp
  have os : (octetsOf text).size = text.length := octets_size
  dsimp only [PB, LB, nthBody, PySem.Challenge.pw_kq0015_06, forBody, ifBody, List.drop]
  with_reducible refine exs_cons (ex_newF (i := 1) (C := cT) (g := 59) (H := (1, srcH oct text (singles text)) :: heap6 ar) (σ := ⟨l1 own (nums.map .int) total oct text, heap6 ar⟩) (σ₁ := ⟨l1 own (nums.map .int) total oct text, heap6 ar⟩) (Xs := [.d (srcD (!oct) text (octetsOf text))]) hC (k_new hK) ?s0 ?s1 ?s2 ?s3 ?s4 ?s5 ?s6 ?s7 ?s8) ?_
  case s0 => exact gl hC G.tok
  case s1 => exact evs_cons (ev_callf (a := 150) hC (kp hK (by kernel_rfl)) (gl hC G.given) (evs_cons nm (evs_cons nm evs_nil)) (opn_fn (giv6 hC hK G.toGL9 hc (by decide) hp hl))) evs_nil
  case s2 => exact fresh_of (by decide) (by decide) rfl (by rfl)
  case s3 => intro X hX; rw [List.mem_singleton] at hX; subst hX; rfl
  case s4 => exact init_any hC hK G.toG2 hc (by decide) rfl (by omega) (by omega) (latin_octets hp) ts.2
  case s5 => kernel_rfl
  case s6 => rfl
  case s7 => rfl
  case s8 => intro _; rfl
  with_reducible refine exs_cons (ex_newF (i := 2) (C := cT) (g := 59) (H := (2, .inst cT asN) :: (1, srcH oct text (singles text)) :: heap6 ar) (σ := St.set ⟨l1 own (nums.map .int) total oct text, (1, srcH oct text (singles text)) :: heap6 ar⟩ "source" (.obj 1)) (σ₁ := St.set ⟨l1 own (nums.map .int) total oct text, (1, srcH oct text (singles text)) :: heap6 ar⟩ "source" (.obj 1)) (Xs := [.d (.str "")]) hC (k_new hK) ?u0 ?u1 ?u2 ?u3 ?u4 ?u5 ?u6 ?u7 ?u8) ?_
  case u0 => exact gl hC G.tok
  case u1 => exact evs_cons ev_str evs_nil
  case u2 => exact fresh_of (by decide) (by decide) rfl (by rfl)
  case u3 => intro X hX; rw [List.mem_singleton] at hX; subst hX; rfl
  case u4 => exact init_str (c := c) (n := 1) (i := 2) (H := (2, .inst cT []) :: (1, srcH oct text (singles text)) :: heap6 ar) (t := "") (k' := 0) (nx' := .none) (loc := (St.set ⟨l1 own (nums.map .int) total oct text, (1, srcH oct text (singles text)) :: heap6 ar⟩ "source" (.obj 1)).loc) hC hK G.toG2 hc (by decide) (o := .inst cT []) rfl rfl (by kernel_rfl)
  case u5 => kernel_rfl
  case u6 => rfl
  case u7 => rfl
  case u8 => intro _; rfl
  refine exs_pre (σ₁ := ⟨lcA total oct, [(2, .inst cT asN), (1, srcH oct text (singles text)), (0, .lst (arD ar))]⟩) (sub_list (by repeat (first | exact .nil | refine .cons (by repeat (first | with_reducible exact lk1 | with_reducible exact lk3 | with_reducible exact lk6 | with_reducible refine lk4 (by kernel_rfl) ?_ | with_reducible refine lk2 (by kernel_rfl) ?_ | with_reducible refine lk7 (by kernel_rfl) ?_ | with_reducible refine lk5 ?_)) ?_))) ?_
  refine exs_cons (ex_setattr (i := 2) (C := cT) (as := asN) hC (k_set hK (by decide)) (ev_binop nm ev_int (b_mod (by decide))) nm rfl (by show (5 : Nat) ≤ 900; decide)) ?_
  refine exs_cons (ex_newdict (i := 3) hC (by kernel_rfl) (fresh_of (by decide) (by decide) rfl (by rfl))) ?_
  refine exs_cons (asg ev_int) ?_
  refine exs_cons (asg ev_int) ?_
  refine exs_pre (σ₁ := ⟨lc6 total oct 3 0 0, hp6 3 [] oct text (singles text) (total.fmod 512) (.lst (arD ar))⟩) (sub_list (by repeat (first | exact .nil | refine .cons (by repeat (first | with_reducible exact lk1 | with_reducible exact lk3 | with_reducible exact lk6 | with_reducible refine lk4 (by kernel_rfl) ?_ | with_reducible refine lk2 (by kernel_rfl) ?_ | with_reducible refine lk7 (by kernel_rfl) ?_ | with_reducible refine lk5 ?_)) ?_))) ?_
  exact exs_body h (by kernel_rfl)
theorem ex_pind {S : Scope} {n i : Nat} {kv : List (Str × D)} {σ σ₁ : St} {st : Stmt} {fl : Fl} (hi : lk i σ.heap = some (.dct kv)) (h : ∀ a o, Ex c S n st { σ with heap := setH i (.pdct a o kv) σ.heap } fl σ₁) : Ex c S n st σ fl σ₁ := fun f F ω s Q E R k => by
  obtain ⟨m, Mc, Mh, FR, r⟩ := id R
  obtain ⟨M1, m1, M2, a, e, h1, h2, h3⟩ := r.heap.split hi
  cases h2 with
  | @dct _ o _ es kk b0 b1 b2 b3 hd =>
    refine h a o f F ω s Q E ⟨m, Mc, Mh, FR, ⟨r.fr, r.nw, r.nd, r.frs, r.cells, r.cinj, ?_, r.locs, r.gens, r.drawn, r.os⟩⟩ k
    rw [e]; exact h3 _ _ (.pdct b0 b1 b2 b3 hd)
end
end Mine
namespace Mine
open PySem PySem.W PyProof.Rows PySem.Calls PySem.Spec
noncomputable def B3 : List Stmt := forBody LB 14
noncomputable def ONB : List Stmt := forBody B3 6
noncomputable def OFB : List Stmt := forBody B3 7
abbrev Last := List (Str × Int)
def dl (kv : Last) : List (Str × D) := kv.map fun p => (p.1, .int p.2)
def putI (k : Str) (v : Int) : Last → Last
  | [] => [(k, v)]
  | (a, d) :: l => if a = k then (a, v) :: l else (a, d) :: putI k v l
theorem dl_put {k : Str} {v : Int} : ∀ kv : Last, putD' k (.int v) (dl kv) = dl (putI k v kv)
  | [] => rfl
  | (a, d) :: l => by
    show putD' k (.int v) ((a, .int d) :: dl l) = _
    unfold putI putD'
    by_cases h : a = k
    · rw [if_pos h, if_pos h]; rfl
    · rw [if_neg h, if_neg h, dl_put l]; rfl
def isK (x : Str) : Bool := Txt.contains "auL" x
def stripI (kv : Last) : Last := kv.filter fun p => !isK p.1
theorem dl_strip {kv : Last} : (dl kv).filter (fun p => !isK p.1) = dl (stripI kv) := by
  unfold dl stripI
  rw [List.filter_map]; rfl
theorem putD'_new {k : Str} {d : D} : ∀ {m : List (Str × D)}, k ∉ m.map (·.1) → putD' k d m = m ++ [(k, d)]
  | [], _ => rfl
  | (a, b) :: m, h => by
    rw [List.map_cons, List.mem_cons, not_or] at h
    unfold putD'
    rw [if_neg (fun e => h.1 e.symm), putD'_new h.2]; rfl
theorem putsD_new : ∀ {l m : List (Str × D)}, ((m ++ l).map (·.1)).Nodup → putsD m l = m ++ l
  | [], m, _ => by rw [List.append_nil]; rfl
  | (k, d) :: l, m, h => by
    have hk : k ∉ m.map (·.1) := by
      rw [List.map_append, List.nodup_append] at h
      exact fun hm => h.2.2 k hm k (by simp) rfl
    show putsD (putD' k d m) l = _
    rw [putD'_new hk, putsD_new (by rw [List.append_assoc]; exact h), List.append_assoc]; rfl
theorem putI_keys {k : Str} {v : Int} : ∀ {kv : Last}, (kv.map (·.1)).Nodup → ((putI k v kv).map (·.1)).Nodup ∧ ∀ x ∈ (putI k v kv).map (·.1), x = k ∨ x ∈ kv.map (·.1)
  | [], _ => ⟨by unfold putI; simp, by unfold putI; simp⟩
  | (a, d) :: l, h => by
    rw [List.map_cons, List.nodup_cons] at h
    obtain ⟨z1, z2⟩ := putI_keys (k := k) (v := v) h.2
    unfold putI
    by_cases e : a = k
    · rw [if_pos e]
      exact ⟨by rw [List.map_cons, List.nodup_cons]; exact h, fun x hx => .inr hx⟩
    · rw [if_neg e]
      refine ⟨?_, fun x hx => ?_⟩
      · rw [List.map_cons, List.nodup_cons]
        exact ⟨fun hm => (z2 a hm).elim e h.1, z1⟩
      · rw [List.map_cons, List.mem_cons] at hx ⊢
        rcases hx with rfl | hx
        · exact .inr (.inl rfl)
        · exact (z2 x hx).imp id .inr
theorem strip_keys {kv : Last} (h : (kv.map (·.1)).Nodup) : ((stripI kv).map (·.1)).Nodup := (List.Sublist.map _ List.filter_sublist).nodup h
theorem dl_keys {kv : Last} : (dl kv).map (·.1) = kv.map (·.1) := by unfold dl; rw [List.map_map]; rfl
theorem puts_strip {kv : Last} (h : (kv.map (·.1)).Nodup) : putsD [] ((dl kv).filter fun p => !isK p.1) = dl (stripI kv) := by
  rw [dl_strip, putsD_new (by rw [List.nil_append, dl_keys]; exact strip_keys h)]; rfl
theorem getD_mem {kv : List (Str × D)} (h : (kv.map (·.1)).Nodup) {p : Str × D} (hp : p ∈ kv) : getD? p.1 kv = some p.2 := by
  induction kv with
  | nil => cases hp
  | cons a l ih =>
    rw [List.map_cons, List.nodup_cons] at h
    unfold getD?
    rcases List.mem_cons.mp hp with rfl | hp
    · simp
    · have : a.1 ≠ p.1 := fun e => h.1 (e ▸ List.mem_map.mpr ⟨p, hp, rfl⟩)
      have z := ih h.2 hp
      simp [this, z]
theorem dc_filter {c : Cx} {S : Scope} {n : Nat} {ifs : List Expr} {kx vx : Expr} {x : Str} {σ : St} {P : Str → Bool} : ∀ {l : List (Str × D)}, (∀ k, IfsB c S n ifs ⟨(key x, .d (.str k)) :: σ.loc, σ.heap⟩ (P k)) → (∀ k, Ev c S n kx ⟨(key x, .d (.str k)) :: σ.loc, σ.heap⟩ (.d (.str k)) ⟨(key x, .d (.str k)) :: σ.loc, σ.heap⟩) →
    (∀ p ∈ l, Ev c S n vx ⟨(key x, .d (.str p.1)) :: σ.loc, σ.heap⟩ (.d p.2) ⟨(key x, .d (.str p.1)) :: σ.loc, σ.heap⟩) → DCompIs c S n ifs kx vx x σ (l.map fun p => .d (.str p.1)) (l.filter fun p => P p.1)
  | [], _, _, _ => .nil
  | p :: l, h1, h2, h3 => by
    have ih := dc_filter (l := l) h1 h2 fun q hq => h3 q (.tail _ hq)
    have z := h1 p.1
    rw [List.map_cons]
    cases q : P p.1 with
    | true => rw [q] at z; rw [List.filter_cons_of_pos (by simpa using q)]; exact .take z (h2 p.1) (h3 p (.head _)) ih
    | false => rw [q] at z; rw [List.filter_cons_of_neg (by simp [q])]; exact .skip z ih
theorem dl_len {kv : Last} : (dl kv).length = kv.length := by unfold dl; rw [List.length_map]
theorem putI_len {k : Str} {v : Int} : ∀ kv : Last, (putI k v kv).length ≤ kv.length + 1
  | [] => Nat.le_refl _
  | (a, b) :: m => by
    unfold putI
    split
    · exact Nat.le_succ _
    · exact Nat.succ_le_succ (putI_len m)
abbrev Ls := Nat × Last
def onStep (a : Ls) (ch : Str) : Ls := if isK ch then (7 - a.1, putI ch 1 (stripI a.2)) else (a.1, putI ch 1 a.2)
def offStep (a : Ls) (ch : Str) : Ls := (a.1, putI ch 0 a.2)
structure LsOk (m : Nat) (a : Ls) : Prop where
  id : a.1 = 3 ∨ a.1 = 4
  nd : (a.2.map (·.1)).Nodup
  len : a.2.length ≤ m
theorem on_ok {m : Nat} {a : Ls} {ch : Str} (h : LsOk m a) : LsOk (m + 1) (onStep a ch) := by
  unfold onStep
  split
  · have z := putI_len (k := ch) (v := 1) (stripI a.2)
    have y : (stripI a.2).length ≤ a.2.length := List.length_filter_le ..
    refine ⟨?_, (putI_keys (strip_keys h.nd)).1, by have := h.len; show (putI ch 1 (stripI a.2)).length ≤ m + 1; omega⟩
    have := h.id
    show 7 - a.1 = 3 ∨ 7 - a.1 = 4
    omega
  · have z := putI_len (k := ch) (v := 1) a.2
    exact ⟨h.id, (putI_keys h.nd).1, by have := h.len; show (putI ch 1 a.2).length ≤ m + 1; omega⟩
theorem off_ok {m : Nat} {a : Ls} {ch : Str} (h : LsOk m a) : LsOk (m + 1) (offStep a ch) := by
  have z := putI_len (k := ch) (v := 0) a.2
  exact ⟨h.id, (putI_keys h.nd).1, by have := h.len; show (putI ch 0 a.2).length ≤ m + 1; omega⟩
section
variable {c : Cx} {text : Str} {total fl add drop : Int} {oct : Bool} {L : List Str} {g : HO}
abbrev lO (total : Int) (oct : Bool) (q : Nat) (add drop : Int) (off : Str) : List (Nat × V) := (key "off", .d (.str off)) :: lc6 total oct q add drop
theorem sub_both {σ : St} {l : List (Nat × V)} {H : List (Nat × HO)} (h : SubL σ l) (k : List.Sublist H σ.heap) : Sub σ ⟨l, H⟩ := ⟨(sub_list h).1, k⟩
theorem on_body (hC : CxOk c) (hK : c.K = KK c) (G : GL9 c) (hc : c.calm = true) {off : Str} {m : Nat} (a : Ls) (ch : Str) (h : LsOk m a) (hm : m ≤ 900) :
    Exs c SL 0 ONB (St.set ⟨lO total oct a.1 add drop off, hp6 a.1 (dl a.2) oct text L fl g⟩ "c" (.d (.str ch))) .next
      ⟨lO total oct (onStep a ch).1 add drop off, hp6 (onStep a ch).1 (dl (onStep a ch).2) oct text L fl g⟩ := by
  obtain ⟨q, kv⟩ := a
  obtain ⟨hid, nd, len⟩ := h
  dsimp only at hid nd len
  have hl : (dl kv).length ≤ 10000 := by rw [dl_len]; exact Nat.le_trans len (by omega)
  have key2 : ∀ q', (q' = 3 ∨ q' = 4) → ∀ kv' : Last, kv'.length ≤ 10000 → Exs c SL 0 (ONB.drop 1) (St.set ⟨lO total oct q' add drop off, hp6 q' (dl kv') oct text L fl g⟩ "c" (.d (.str ch))) .next ⟨lO total oct q' add drop off, hp6 q' (dl (putI ch 1 kv')) oct text L fl g⟩ := by
    intro q' hq kv' hl'
    rw [← dl_put]
    dsimp only [ONB, B3, LB, nthBody, PySem.Challenge.pw_kq0015_06, forBody, ifBody, List.drop]
    rcases hq with rfl | rfl
    · exact exs_sub (exs_cons (ex_setitem (i := 3) (k := ch) (d := .int 1) (kv := dl kv') ev_int nm nm rfl (by rw [dl_len]; exact hl')) exs_nil) (sub_list (by repeat (first | exact .nil | refine .cons (by repeat (first | with_reducible exact lk1 | with_reducible exact lk3 | with_reducible exact lk6 | with_reducible refine lk4 (by kernel_rfl) ?_ | with_reducible refine lk2 (by kernel_rfl) ?_ | with_reducible refine lk7 (by kernel_rfl) ?_ | with_reducible refine lk5 ?_)) ?_)))
    · exact exs_sub (exs_cons (ex_setitem (i := 4) (k := ch) (d := .int 1) (kv := dl kv') ev_int nm nm rfl (by rw [dl_len]; exact hl')) exs_nil) (sub_list (by repeat (first | exact .nil | refine .cons (by repeat (first | with_reducible exact lk1 | with_reducible exact lk3 | with_reducible exact lk6 | with_reducible refine lk4 (by kernel_rfl) ?_ | with_reducible refine lk2 (by kernel_rfl) ?_ | with_reducible refine lk7 (by kernel_rfl) ?_ | with_reducible refine lk5 ?_)) ?_)))
  unfold onStep
  cases hk : isK ch with
  | false =>
    rw [if_neg (by decide)]
    dsimp only [ONB, B3, LB, nthBody, PySem.Challenge.pw_kq0015_06, forBody, ifBody, List.drop] at key2 ⊢
    refine exs_cons (if_f (ts_is (ts_cmp nm ev_str c_ins) hk) exs_nil) ?_
    exact exs_body (key2 q hid kv (by omega)) (by rfl)
  | true =>
    rw [if_pos rfl]
    have nd' : ((dl kv).map (·.1)).Nodup := by rw [dl_keys]; exact nd
    have sl : (stripI kv).length ≤ kv.length := List.length_filter_le ..
    have k2 := fun q' hq => key2 q' hq (stripI kv) (by omega)
    dsimp only [ONB, B3, LB, nthBody, PySem.Challenge.pw_kq0015_06, forBody, ifBody, List.drop] at k2 ⊢
    rcases hid with hq | hq
    · subst hq
      refine exs_cons (if_t (ts_is (ts_cmp nm ev_str c_ins) hk) (exs_cons (ex_pind (i := 3) rfl fun pa po => ?dc) exs_nil)) (σ₁ := ⟨(key "c", .d (.str ch)) :: lO total oct 4 add drop off, (4, .dct (dl (stripI kv))) :: [(2, .inst cT (asS fl)), (1, srcH oct text L), (0, g)]⟩) ?_
      case dc =>
        refine ex_sub (ex_dcomp (i := 4) (pin := [(pa, po)]) (σ := St.set ⟨lO total oct 3 add drop off, setH 3 (.pdct pa po (dl kv)) (hp6 3 (dl kv) oct text L fl g)⟩ "c" (.d (.str ch))) (σ₁ := St.set ⟨lO total oct 3 add drop off, setH 3 (.pdct pa po (dl kv)) (hp6 3 (dl kv) oct text L fl g)⟩ "c" (.d (.str ch))) hC (evIt_tab (X := .obj 3) hc nm (.inr ⟨3, pa, po, rfl, rfl, rfl⟩)) (dc_filter (P := fun k => !isK k) (fun k => ts_cmp nm ev_str c_nins) (fun k => nm) (fun p hp => ev_sub nm nm (op_get_tab (tab_p (i := 3) rfl) (getD_mem nd' hp)))) (by kernel_rfl) (by kernel_rfl) (by kernel_rfl) (fresh_of (by decide) (by decide) rfl (by rfl)) (by rw [List.length_map]; exact hl) rfl (pins_oned (i := 3) rfl)) ?_
        rw [puts_strip nd]
        exact sub_both (by repeat (first | exact .nil | refine .cons (by repeat (first | with_reducible exact lk1 | with_reducible exact lk3 | with_reducible exact lk6 | with_reducible refine lk4 (by kernel_rfl) ?_ | with_reducible refine lk2 (by kernel_rfl) ?_ | with_reducible refine lk7 (by kernel_rfl) ?_ | with_reducible refine lk5 ?_)) ?_)) (List.Sublist.cons_cons _ (.cons _ (.refl _)))
      exact exs_body (k2 4 (by decide)) (by rfl)
    · subst hq
      refine exs_cons (if_t (ts_is (ts_cmp nm ev_str c_ins) hk) (exs_cons (ex_pind (i := 4) rfl fun pa po => ?dc) exs_nil)) (σ₁ := ⟨(key "c", .d (.str ch)) :: lO total oct 3 add drop off, (3, .dct (dl (stripI kv))) :: [(2, .inst cT (asS fl)), (1, srcH oct text L), (0, g)]⟩) ?_
      case dc =>
        refine ex_sub (ex_dcomp (i := 3) (pin := [(pa, po)]) (σ := St.set ⟨lO total oct 4 add drop off, setH 4 (.pdct pa po (dl kv)) (hp6 4 (dl kv) oct text L fl g)⟩ "c" (.d (.str ch))) (σ₁ := St.set ⟨lO total oct 4 add drop off, setH 4 (.pdct pa po (dl kv)) (hp6 4 (dl kv) oct text L fl g)⟩ "c" (.d (.str ch))) hC (evIt_tab (X := .obj 4) hc nm (.inr ⟨4, pa, po, rfl, rfl, rfl⟩)) (dc_filter (P := fun k => !isK k) (fun k => ts_cmp nm ev_str c_nins) (fun k => nm) (fun p hp => ev_sub nm nm (op_get_tab (tab_p (i := 4) rfl) (getD_mem nd' hp)))) (by kernel_rfl) (by kernel_rfl) (by kernel_rfl) (fresh_of (by decide) (by decide) rfl (by rfl)) (by rw [List.length_map]; exact hl) rfl (pins_oned (i := 4) rfl)) ?_
        rw [puts_strip nd]
        exact sub_both (by repeat (first | exact .nil | refine .cons (by repeat (first | with_reducible exact lk1 | with_reducible exact lk3 | with_reducible exact lk6 | with_reducible refine lk4 (by kernel_rfl) ?_ | with_reducible refine lk2 (by kernel_rfl) ?_ | with_reducible refine lk7 (by kernel_rfl) ?_ | with_reducible refine lk5 ?_)) ?_)) (List.Sublist.cons_cons _ (.cons _ (.refl _)))
      exact exs_body (k2 3 (by decide)) (by rfl)
end
end Mine
namespace Mine
open PySem PySem.W PyProof.Rows PySem.Calls PySem.Spec
section
variable {c : Cx} {n : Nat} {σ : St}
def two (a b : Int) : PyData := .tuple [.int a, .int b]
theorem f_repr2 {a b : Int} (hn : n ≤ 100) (hs : (two a b).showable = true) (hl : (two a b).shown.length ≤ sizeLine) : OpN c n (fun vs => call (.builtin "repr") vs) [.d (.tup [.int a, .int b])] σ (.d (.str (two a b).shown)) σ := fun S f F ω s Q E vs R A h => by
  obtain ⟨v, rfl, A1⟩ := A.oneD
  have A := A1
  cases A with
  | @tup ad o ws m _ hz hoc hod hds =>
    cases hds with
    | cons h1 hds => cases hds with
      | cons h2 hds => cases hds
                       cases h1 with
                       | int _ t => cases h2 with
                         | int _ u =>
                           have r : Reads s.heap (.ref ad) (two a b) ([] ++ ([] ++ [])) := .tuple (R.fz hz) hoc hod (.cons (.int a t) (.cons (.int b u) .nil))
                           have hu := F.units
                           have hd : (two a b).depth ≤ 10 := by show (PyData.tuple [.int a, .int b]).depth ≤ 10; simp [PyData.depth, PyData.depthAll]
                           refine repr_of_reads' r hs (fun _ h => nomatch h) F.guards (by show f.A.units + ((two a b).depth + 1) < 9900; have := Nat.mul_le_mul_left 50 hn; omega) (fun _ _ e => e) (fun h' u' tk hk => ?_) hl
                           exact h ω _ _ (.refl ..) (R.grow hk) (.d (.str _ _))
end
end Mine
namespace Mine
open PySem PySem.W PyProof.Rows PySem.Calls PySem.Spec
def rhsOf (l : List Stmt) (k : Nat) : Expr := match l.drop k with
  | .Assign _ e _ :: _ => e
  | .Expr e _ :: _ => e
  | .Return (some e) _ :: _ => e
  | _ => default
def onAll (on : Str) (a : Ls) : Ls := (signs on).foldl (fun a d => onStep a (unS d)) a
def offAll (off : Str) (a : Ls) : Ls := (signs off).foldl (fun a d => offStep a (unS d)) a
section
variable {c : Cx} {text : Str} {total fl add drop : Int} {oct : Bool} {L : List Str} {g : HO}
theorem on_loop {tp : Pos} (hC : CxOk c) (hK : c.K = KK c) (G : GL9 c) (hc : c.calm = true) {on off : Str} {m : Nat} {a : Ls} (h : LsOk m a) (hm : m + on.length ≤ 800) :
    FL c SL 0 (.Name "c" tp) ONB [] ((signs on).map .d) ⟨lO total oct a.1 add drop off, hp6 a.1 (dl a.2) oct text L fl g⟩ .next ⟨lO total oct (onAll on a).1 add drop off, hp6 (onAll on a).1 (dl (onAll on a).2) oct text L fl g⟩ := by
  refine fl_fold (α := Ls) (st := fun a => ⟨lO total oct a.1 add drop off, hp6 a.1 (dl a.2) oct text L fl g⟩) (g := fun a d => onStep a (unS d)) (P := fun k a => LsOk (m + k) a) (fun k a d hp hd => ?_) (fun _ => pins_nil) a h
  have hk : k < on.length := by
    have z := (List.getElem?_eq_some_iff.mp hd).1
    rwa [signs_len] at z
  obtain ⟨ch, rfl⟩ := signs_get hd
  exact ⟨on_ok hp, .next, _, rfl, asname, on_body hC hK G hc a ⟨#[ch]⟩ hp (by omega)⟩
theorem on_all {on : Str} {m : Nat} {a : Ls} (h : LsOk m a) : LsOk (m + on.length) (onAll on a) := by
  have z := fold_P (g := fun a d => onStep a (unS d)) (P := fun k a => LsOk (m + k) a) (items := signs on) (fun k a d hp hd => on_ok hp) a h
  rwa [signs_len] at z
theorem off_all {off : Str} {m : Nat} {a : Ls} (h : LsOk m a) : LsOk (m + off.length) (offAll off a) := by
  have z := fold_P (g := fun a d => offStep a (unS d)) (P := fun k a => LsOk (m + k) a) (items := signs off) (fun k a d hp hd => off_ok hp) a h
  rwa [signs_len] at z
theorem off_loop {tp : Pos} (hC : CxOk c) (hK : c.K = KK c) (G : GL9 c) (hc : c.calm = true) {off : Str} {m : Nat} {a : Ls} (h : LsOk m a) (hm : m + off.length ≤ 800) :
    FL c SL 0 (.Name "c" tp) OFB [] ((signs off).map .d) ⟨lc6 total oct a.1 add drop, hp6 a.1 (dl a.2) oct text L fl g⟩ .next ⟨lc6 total oct (offAll off a).1 add drop, hp6 (offAll off a).1 (dl (offAll off a).2) oct text L fl g⟩ := by
  refine fl_fold (α := Ls) (st := fun a => ⟨lc6 total oct a.1 add drop, hp6 a.1 (dl a.2) oct text L fl g⟩) (g := fun a d => offStep a (unS d)) (P := fun k a => LsOk (m + k) a) (fun k a d hp hd => ?_) (fun _ => pins_nil) a h
  have hk : k < off.length := by
    have z := (List.getElem?_eq_some_iff.mp hd).1
    rwa [signs_len] at z
  obtain ⟨ch, rfl⟩ := signs_get hd
  refine ⟨off_ok hp, .next, _, rfl, asname, ?_⟩
  obtain ⟨q', kv'⟩ := a
  obtain ⟨hq, nd, len⟩ := hp
  dsimp only at hq nd len
  show Exs c SL 0 OFB (St.set ⟨lc6 total oct q' add drop, hp6 q' (dl kv') oct text L fl g⟩ "c" (.d (.str ⟨#[ch]⟩))) .next ⟨lc6 total oct q' add drop, hp6 q' (dl (putI ⟨#[ch]⟩ 0 kv')) oct text L fl g⟩
  rw [← dl_put]
  dsimp only [OFB, B3, LB, nthBody, PySem.Challenge.pw_kq0015_06, forBody, ifBody, List.drop]
  rcases hq with rfl | rfl
  · exact exs_sub (exs_cons (ex_setitem (i := 3) (k := ⟨#[ch]⟩) (d := .int 0) (kv := dl kv') ev_int nm nm rfl (by rw [dl_len]; omega)) exs_nil) (sub_list (by repeat (first | exact .nil | refine .cons (by repeat (first | with_reducible exact lk1 | with_reducible exact lk3 | with_reducible exact lk6 | with_reducible refine lk4 (by kernel_rfl) ?_ | with_reducible refine lk2 (by kernel_rfl) ?_ | with_reducible refine lk7 (by kernel_rfl) ?_ | with_reducible refine lk5 ?_)) ?_)))
  · exact exs_sub (exs_cons (ex_setitem (i := 4) (k := ⟨#[ch]⟩) (d := .int 0) (kv := dl kv') ev_int nm nm rfl (by rw [dl_len]; omega)) exs_nil) (sub_list (by repeat (first | exact .nil | refine .cons (by repeat (first | with_reducible exact lk1 | with_reducible exact lk3 | with_reducible exact lk6 | with_reducible refine lk4 (by kernel_rfl) ?_ | with_reducible refine lk2 (by kernel_rfl) ?_ | with_reducible refine lk7 (by kernel_rfl) ?_ | with_reducible refine lk5 ?_)) ?_)))
def letsOf (v : Int) (kv : Last) : List Str := (kv.filter fun p => p.2 == v).map (·.1)
theorem ci_filter {c : Cx} {S : Scope} {n : Nat} {ifs : List Expr} {elt : Expr} {x : Str} {σ : St} {v : Int} : ∀ {l : Last}, (∀ p ∈ l, IfsB c S n ifs ⟨(key x, .d (.str p.1)) :: σ.loc, σ.heap⟩ (p.2 == v)) → (∀ k, Ev c S n elt ⟨(key x, .d (.str k)) :: σ.loc, σ.heap⟩ (.d (.str k)) ⟨(key x, .d (.str k)) :: σ.loc, σ.heap⟩) →
    CompIs c S n ifs elt x σ ((dl l).map fun p => .d (.str p.1)) ((letsOf v l).map .str)
  | [], _, _ => .nil
  | p :: l, h1, h2 => by
    have ih := ci_filter (l := l) (fun q hq => h1 q (.tail _ hq)) h2
    have z := h1 p (.head _)
    show CompIs _ _ _ _ _ _ _ (.d (.str p.1) :: (dl l).map fun p => .d (.str p.1)) _
    unfold letsOf at ih ⊢
    cases q : (p.2 == v) with
    | true => rw [q] at z; rw [List.filter_cons_of_pos (by simpa using q)]; exact .take z (h2 p.1) ih
    | false => rw [q] at z; rw [List.filter_cons_of_neg (by simp [q])]; exact .skip z ih
noncomputable def UPS : Expr := rhsOf B3 8
noncomputable def DOWNS : Expr := rhsOf B3 9
end
end Mine
namespace Mine
open PySem PySem.W PyProof.Rows PySem.Calls PySem.Spec
section
variable {c : Cx} {text : Str} {total fl add drop : Int} {oct : Bool} {L : List Str} {g : HO}
theorem mem_dl {kv : Last} {p : Str × Int} (h : p ∈ kv) : ((p.1, D.int p.2) : Str × D) ∈ dl kv := List.mem_map.mpr ⟨p, h, rfl⟩
theorem ev_is2 {S : Scope} {n : Nat} {e : Expr} {σ σ₁ σ₂ : St} {X : V} (h : Ev c S n e σ X σ₁) (q : σ₁ = σ₂) : Ev c S n e σ X σ₂ := q ▸ h
theorem ev_ups (hc : c.calm = true) {q : Nat} {kv : Last} {loc : List (Nat × V)} (hq : q = 3 ∨ q = 4) (nd : (kv.map (·.1)).Nodup) (hl : kv.length ≤ 9000) (h1 : lk (key "last") loc = some (.obj q)) (h2 : lk (key dot0) loc = none)
    (hj : ((letsOf 1 kv).map (·.length)).sum + (letsOf 1 kv).length * ("" : Str).length ≤ 16777216) :
    Ev c SL 0 UPS ⟨loc, hp6 q (dl kv) oct text L fl g⟩ (.d (.str (Txt.join "" (letsOf 1 kv)))) ⟨loc, hp6 q (dl kv) oct text L fl g⟩ := by
  have nd' : ((dl kv).map (·.1)).Nodup := by rw [dl_keys]; exact nd
  dsimp only [UPS, rhsOf, B3, LB, nthBody, PySem.Challenge.pw_kq0015_06, forBody, ifBody, List.drop]
  rcases hq with rfl | rfl
  · refine ev_pind (i := 3) (kv := dl kv) rfl fun pa po => ?_
    refine ev_is2 (ev_unpind (i := 3) (a := pa) (o := po) (kv := dl kv) (σ₁ := ⟨loc, setH 3 (.pdct pa po (dl kv)) (hp6 3 (dl kv) oct text L fl g)⟩) (ev_meth ev_str gm_join (evs_cons (ev_comp (evIt_tab (X := .obj 3) hc (ev_name (by kernel_rfl) (by kernel_rfl) h1) (.inr ⟨3, pa, po, rfl, rfl, rfl⟩)) (ci_filter (v := 1) (fun p hp => ts_cmp (ev_sub (ev_name (by kernel_rfl) (by kernel_rfl) (lk2 (by kernel_rfl) h1)) nm (op_get_tab (tab_p (i := 3) rfl) (getD_mem nd' (mem_dl hp)))) ev_int c_eq) (fun k => nm)) (by kernel_rfl) h2 (by rw [List.length_map, dl_len]; omega) rfl (pins_oned (i := 3) rfl)) evs_nil) (f_join rfl hj)) rfl) rfl
  · refine ev_pind (i := 4) (kv := dl kv) rfl fun pa po => ?_
    refine ev_is2 (ev_unpind (i := 4) (a := pa) (o := po) (kv := dl kv) (σ₁ := ⟨loc, setH 4 (.pdct pa po (dl kv)) (hp6 4 (dl kv) oct text L fl g)⟩) (ev_meth ev_str gm_join (evs_cons (ev_comp (evIt_tab (X := .obj 4) hc (ev_name (by kernel_rfl) (by kernel_rfl) h1) (.inr ⟨4, pa, po, rfl, rfl, rfl⟩)) (ci_filter (v := 1) (fun p hp => ts_cmp (ev_sub (ev_name (by kernel_rfl) (by kernel_rfl) (lk2 (by kernel_rfl) h1)) nm (op_get_tab (tab_p (i := 4) rfl) (getD_mem nd' (mem_dl hp)))) ev_int c_eq) (fun k => nm)) (by kernel_rfl) h2 (by rw [List.length_map, dl_len]; omega) rfl (pins_oned (i := 4) rfl)) evs_nil) (f_join rfl hj)) rfl) rfl
theorem ev_downs (hc : c.calm = true) {q : Nat} {kv : Last} {loc : List (Nat × V)} (hq : q = 3 ∨ q = 4) (nd : (kv.map (·.1)).Nodup) (hl : kv.length ≤ 9000) (h1 : lk (key "last") loc = some (.obj q)) (h2 : lk (key dot0) loc = none)
    (hj : ((letsOf 0 kv).map (·.length)).sum + (letsOf 0 kv).length * ("" : Str).length ≤ 16777216) :
    Ev c SL 0 DOWNS ⟨loc, hp6 q (dl kv) oct text L fl g⟩ (.d (.str (Txt.join "" (letsOf 0 kv)))) ⟨loc, hp6 q (dl kv) oct text L fl g⟩ := by
  have nd' : ((dl kv).map (·.1)).Nodup := by rw [dl_keys]; exact nd
  dsimp only [DOWNS, rhsOf, B3, LB, nthBody, PySem.Challenge.pw_kq0015_06, forBody, ifBody, List.drop]
  rcases hq with rfl | rfl
  · refine ev_pind (i := 3) (kv := dl kv) rfl fun pa po => ?_
    refine ev_is2 (ev_unpind (i := 3) (a := pa) (o := po) (kv := dl kv) (σ₁ := ⟨loc, setH 3 (.pdct pa po (dl kv)) (hp6 3 (dl kv) oct text L fl g)⟩) (ev_meth ev_str gm_join (evs_cons (ev_comp (evIt_tab (X := .obj 3) hc (ev_name (by kernel_rfl) (by kernel_rfl) h1) (.inr ⟨3, pa, po, rfl, rfl, rfl⟩)) (ci_filter (v := 0) (fun p hp => ts_cmp (ev_sub (ev_name (by kernel_rfl) (by kernel_rfl) (lk2 (by kernel_rfl) h1)) nm (op_get_tab (tab_p (i := 3) rfl) (getD_mem nd' (mem_dl hp)))) ev_int c_eq) (fun k => nm)) (by kernel_rfl) h2 (by rw [List.length_map, dl_len]; omega) rfl (pins_oned (i := 3) rfl)) evs_nil) (f_join rfl hj)) rfl) rfl
  · refine ev_pind (i := 4) (kv := dl kv) rfl fun pa po => ?_
    refine ev_is2 (ev_unpind (i := 4) (a := pa) (o := po) (kv := dl kv) (σ₁ := ⟨loc, setH 4 (.pdct pa po (dl kv)) (hp6 4 (dl kv) oct text L fl g)⟩) (ev_meth ev_str gm_join (evs_cons (ev_comp (evIt_tab (X := .obj 4) hc (ev_name (by kernel_rfl) (by kernel_rfl) h1) (.inr ⟨4, pa, po, rfl, rfl, rfl⟩)) (ci_filter (v := 0) (fun p hp => ts_cmp (ev_sub (ev_name (by kernel_rfl) (by kernel_rfl) (lk2 (by kernel_rfl) h1)) nm (op_get_tab (tab_p (i := 4) rfl) (getD_mem nd' (mem_dl hp)))) ev_int c_eq) (fun k => nm)) (by kernel_rfl) h2 (by rw [List.length_map, dl_len]; omega) rfl (pins_oned (i := 4) rfl)) evs_nil) (f_join rfl hj)) rfl) rfl
end
end Mine
namespace Mine
open PySem PySem.W PyProof.Rows PySem.Calls PySem.Spec
section
variable {c : Cx} {text t1 : Str} {fl p m acc : Int} {oct : Bool} {L L1 L2 L3 : List Str} {g : HO} {s ch c1 : Str} {loc : List (Nat × V)} {n q : Nat} {kv : List (Str × D)}
theorem get6 (hC : CxOk c) (hK : c.K = KK c) (G : GL9 c) (hc : c.calm = true) (hq : q = 3 ∨ q = 4) (hn : n ≤ 80) (hl : text.length ≤ 4000) (hT : TokOk text (s :: L)) :
    FnN c n 80 [.obj 1] ⟨loc, hp6 q kv oct text (s :: L) fl g⟩ (.d (.str s)) ⟨loc, hp6 q kv oct text L fl g⟩ := by
  rcases hq with rfl | rfl
  · exact get_more (c := c) (n := n) (i := 1) (H0 := hp6 3 kv oct text [] fl g) (b := !oct) (src := srcD (!oct) text (octetsOf text)) (loc := loc) (o := srcH oct text []) hC hK G.toG1 hc hn (by omega) rfl hT
  · exact get_more (c := c) (n := n) (i := 1) (H0 := hp6 4 kv oct text [] fl g) (b := !oct) (src := srcD (!oct) text (octetsOf text)) (loc := loc) (o := srcH oct text []) hC hK G.toG1 hc hn (by omega) rfl hT
theorem lk_src (hq : q = 3 ∨ q = 4) : lk 1 (hp6 q kv oct text L fl g) = some (srcH oct text L) := by rcases hq with rfl | rfl <;> rfl
theorem ev_get6 {S : Scope} {p q1 r : Pos} (hC : CxOk c) (hK : c.K = KK c) (G : GL9 c) (hc : c.calm = true) (hq : q = 3 ∨ q = 4) (hl : text.length ≤ 4000) (hT : TokOk text (s :: L)) (h1 : Ev c S 0 (.Name "source" p) ⟨loc, hp6 q kv oct text (s :: L) fl g⟩ (.obj 1) ⟨loc, hp6 q kv oct text (s :: L) fl g⟩) (hp : (q1.endLine == r.line) = true := by kernel_rfl) :
    Ev c S 0 (.Call (.Attribute (.Name "source" p) "get" q1) [] [] r) ⟨loc, hp6 q kv oct text (s :: L) fl g⟩ (.d (.str s)) ⟨loc, hp6 q kv oct text L fl g⟩ :=
  ev_methf0 (a := 80) hC (kp hK (by kernel_rfl)) h1 (getm_inst (C := cT) (as := tokL (!oct) (srcD (!oct) text (octetsOf text)) text (s :: L)) hC (k_get hK) (lk_src hq) (by kernel_rfl)) (opn_fn (get6 hC hK G hc hq (by decide) hl hT)) (mc0 hp)
theorem pf6 (hC : CxOk c) (hK : c.K = KK c) (G : GL9 c) (hc : c.calm = true) (hq : q = 3 ∨ q = 4) (hl : text.length ≤ 4000) (hT : TokOk text L) (h1 : pfOn (!oct) ch L = some (c1, acc, L2)) (h2 : PfEnd c1 acc L2 (.tup [.int p, .int m]) none L3) :
    FnN c 0 145 [.obj 1, .obj 2, .d (.str ch)] ⟨loc, hp6 q kv oct text L fl g⟩ (.d (.tup [.int p, .int m])) ⟨loc, hp6 q kv oct text L3 fl g⟩ := by
  rcases hq with rfl | rfl
  · exact pf_ok (c := c) (n := 0) (i := 1) (j := 2) (H0 := hp6 3 kv oct text [] fl g) (b := !oct) (src := srcD (!oct) text (octetsOf text)) (t := text) (o := srcH oct text []) (asj := asS fl) (fl := fl) (loc := loc) hC hK G.toG3 hc (by decide) (by omega) rfl (by decide) rfl (by show (6 : Nat) ≤ 800; decide) (by kernel_rfl) hT h1 h2
  · exact pf_ok (c := c) (n := 0) (i := 1) (j := 2) (H0 := hp6 4 kv oct text [] fl g) (b := !oct) (src := srcD (!oct) text (octetsOf text)) (t := text) (o := srcH oct text []) (asj := asS fl) (fl := fl) (loc := loc) hC hK G.toG3 hc (by decide) (by omega) rfl (by decide) rfl (by show (6 : Nat) ≤ 800; decide) (by kernel_rfl) hT h1 h2
def hpO (t1 : Str) (L1 : List Str) (q : Nat) (kv : List (Str × D)) (oct : Bool) (text : Str) (L : List Str) (fl : Int) (g : HO) : List (Nat × HO) := (5, srcH oct t1 L1) :: hp6 q kv oct text L fl g
theorem get6b (hC : CxOk c) (hK : c.K = KK c) (G : GL9 c) (hc : c.calm = true) (hn : n ≤ 80) (hl : t1.length ≤ 4000) (hT : TokOk t1 (s :: L1)) :
    FnN c n 80 [.obj 5] ⟨loc, hpO t1 (s :: L1) q kv oct text L fl g⟩ (.d (.str s)) ⟨loc, hpO t1 L1 q kv oct text L fl g⟩ :=
  get_more (c := c) (n := n) (i := 5) (H0 := hpO t1 [] q kv oct text L fl g) (b := !oct) (src := srcD (!oct) t1 (octetsOf t1)) (loc := loc) (o := srcH oct t1 []) hC hK G.toG1 hc hn (by omega) rfl hT
theorem ev_get6b {S : Scope} {p q1 r : Pos} (hC : CxOk c) (hK : c.K = KK c) (G : GL9 c) (hc : c.calm = true) (hl : t1.length ≤ 4000) (hT : TokOk t1 (s :: L1)) (h1 : Ev c S 0 (.Name "one" p) ⟨loc, hpO t1 (s :: L1) q kv oct text L fl g⟩ (.obj 5) ⟨loc, hpO t1 (s :: L1) q kv oct text L fl g⟩) (hp : (q1.endLine == r.line) = true := by kernel_rfl) :
    Ev c S 0 (.Call (.Attribute (.Name "one" p) "get" q1) [] [] r) ⟨loc, hpO t1 (s :: L1) q kv oct text L fl g⟩ (.d (.str s)) ⟨loc, hpO t1 L1 q kv oct text L fl g⟩ :=
  ev_methf0 (a := 80) hC (kp hK (by kernel_rfl)) h1 (getm_inst (C := cT) (as := tokL (!oct) (srcD (!oct) t1 (octetsOf t1)) t1 (s :: L1)) hC (k_get hK) rfl (by kernel_rfl)) (opn_fn (get6b hC hK G hc (by decide) hl hT)) (mc0 hp)
theorem pf6b (hC : CxOk c) (hK : c.K = KK c) (G : GL9 c) (hc : c.calm = true) (hq : q = 3 ∨ q = 4) (hl : t1.length ≤ 4000) (hT : TokOk t1 L1) (h1 : pfOn (!oct) ch L1 = some (c1, acc, L2)) (h2 : PfEnd c1 acc L2 (.tup [.int p, .int m]) none L3) :
    FnN c 0 145 [.obj 5, .obj 2, .d (.str ch)] ⟨loc, hpO t1 L1 q kv oct text L fl g⟩ (.d (.tup [.int p, .int m])) ⟨loc, hpO t1 L3 q kv oct text L fl g⟩ := by
  rcases hq with rfl | rfl
  · exact pf_ok (c := c) (n := 0) (i := 5) (j := 2) (H0 := hpO t1 [] 3 kv oct text L fl g) (b := !oct) (src := srcD (!oct) t1 (octetsOf t1)) (t := t1) (o := srcH oct t1 []) (asj := asS fl) (fl := fl) (loc := loc) hC hK G.toG3 hc (by decide) (by omega) rfl (by decide) rfl (by show (6 : Nat) ≤ 800; decide) (by kernel_rfl) hT h1 h2
  · exact pf_ok (c := c) (n := 0) (i := 5) (j := 2) (H0 := hpO t1 [] 4 kv oct text L fl g) (b := !oct) (src := srcD (!oct) t1 (octetsOf t1)) (t := t1) (o := srcH oct t1 []) (asj := asS fl) (fl := fl) (loc := loc) hC hK G.toG3 hc (by decide) (by omega) rfl (by decide) rfl (by show (6 : Nat) ≤ 800; decide) (by kernel_rfl) hT h1 h2
end
end Mine
namespace Mine
open PySem PySem.W PyProof.Rows PySem.Calls PySem.Spec
noncomputable def B4 : List Stmt := B3.drop 8
abbrev newAdd (add a d : Int) : Int := Builtin.bitOr (Builtin.bitAnd (bif (Builtin.bitAnd a 292 != 0) then Builtin.bitAnd add (Builtin.bitNot 292) else add) (Builtin.bitNot d)) a
abbrev newDrop (drop a d : Int) : Int := Builtin.bitOr (Builtin.bitAnd drop (Builtin.bitNot a)) d
section
variable {c : Cx} {text : Str} {total fl add drop p m acc : Int} {oct : Bool} {L L2 L3 : List Str} {g : HO} {ch c1 on off : Str} {k : Nat}
theorem fl_pre {S : Scope} {n : Nat} {target : Expr} {body : List Stmt} {pin : Led} {Xs : List V} {σ σ₁ σ' : St} {fl : Fl} (k : Sub σ σ₁) (h : FL c S n target body pin Xs σ₁ fl σ') : FL c S n target body pin Xs σ fl σ' := fun f F I wr N T It W i hi hX ω s R B t hh => h f F I wr N T It W i hi hX ω s R (by obtain ⟨kp, ek, R0⟩ := B; exact ⟨kp, ek, R0.sub k⟩) t hh
theorem turnA (hC : CxOk c) (hK : c.K = KK c) (G : GL6 c) (hc : c.calm = true) (hl : text.length ≤ 4000) {a : Ls} (ha : LsOk k a) (hk : k + on.length + off.length ≤ 800) (hT : TokOk text ("(" :: "?" :: ch :: L))
    (h1 : pfOn (!oct) ch L = some (c1, acc, L2)) (h2 : PfEnd c1 acc L2 (.tup [.int p, .int m]) none L3) {σ' : St}
    (h : Exs c SL 0 B4 ⟨lc6 total oct (offAll off (onAll on a)).1 (newAdd add p m) (newDrop drop p m), hp6 (offAll off (onAll on a)).1 (dl (offAll off (onAll on a)).2) oct text L3 fl g⟩ .next σ') :
    Exs c SL 0 B3 (St.set (St.set ⟨lc6 total oct a.1 add drop, hp6 a.1 (dl a.2) oct text ("(" :: "?" :: ch :: L) fl g⟩ "on" (.d (.str on))) "off" (.d (.str off))) .next σ' := by
  have hq := ha.id
  have ha2 := on_all (on := on) ha
  have lA := on_loop (c := c) (text := text) (total := total) (fl := fl) (add := newAdd add p m) (drop := newDrop drop p m) (oct := oct) (L := L3) (g := g) (on := on) (off := off) (tp := ⟨201, 12, 201, 13⟩) hC hK G.toGL9 hc ha (by omega)
  have lB := off_loop (c := c) (text := text) (total := total) (fl := fl) (add := newAdd add p m) (drop := newDrop drop p m) (oct := oct) (L := L3) (g := g) (off := off) (tp := ⟨205, 12, 205, 13⟩) hC hK G.toGL9 hc ha2 (by omega)
  dsimp only [B4, ONB, OFB, B3, LB, nthBody, PySem.Challenge.pw_kq0015_06, forBody, ifBody, List.drop] at h lA lB ⊢
  refine exs_cons (ex_expr (ev_get6 hC hK G.toGL9 hc hq hl hT nm)) ?_
  refine exs_cons (ex_expr (ev_get6 hC hK G.toGL9 hc hq hl hT.2 nm)) ?_
  refine exs_cons (ex_asgt (ev_callf (a := 145) hC (kp hK (by kernel_rfl)) (gl hC G.pf) (evs_cons nm (evs_cons nm (evs_cons (ev_get6 hC hK G.toGL9 hc hq hl hT.2.2 nm) evs_nil))) (opn_fn (pf6 hC hK G.toGL9 hc hq hl hT.2.2.2 h1 h2))) (as_tup hc (.cons rfl asname (.cons rfl asname .nil)))) ?_
  refine exs_cons (if_any (σ₂ := ⟨(key "a", .d (.int p)) :: (key "d", .d (.int m)) :: (key "on", .d (.str on)) :: (key "off", .d (.str off)) :: lc6 total oct a.1 (bif (Builtin.bitAnd p 292 != 0) then Builtin.bitAnd add (Builtin.bitNot 292) else add) drop, hp6 a.1 (dl a.2) oct text L3 fl g⟩) (ts_plain (ev_binop nm ev_int b_and) t_int) (fun q => ?t) (fun q => ?f)) ?_
  case t =>
    rw [q, cond_true]
    exact exs_sub (exs_cons (aug (ev_unop ev_int u_inv) i_and) exs_nil) (sub_list (by repeat (first | exact .nil | refine .cons (by repeat (first | with_reducible exact lk1 | with_reducible exact lk3 | with_reducible exact lk6 | with_reducible refine lk4 (by kernel_rfl) ?_ | with_reducible refine lk2 (by kernel_rfl) ?_ | with_reducible refine lk7 (by kernel_rfl) ?_ | with_reducible refine lk5 ?_)) ?_)))
  case f =>
    rw [q, cond_false]
    exact exs_sub exs_nil (sub_list (by repeat (first | exact .nil | refine .cons (by repeat (first | with_reducible exact lk1 | with_reducible exact lk3 | with_reducible exact lk6 | with_reducible refine lk4 (by kernel_rfl) ?_ | with_reducible refine lk2 (by kernel_rfl) ?_ | with_reducible refine lk7 (by kernel_rfl) ?_ | with_reducible refine lk5 ?_)) ?_)))
  refine exs_cons (asg (ev_binop (ev_binop nm (ev_unop nm u_inv) b_and) nm b_or)) ?_
  refine exs_cons (asg (ev_binop (ev_binop nm (ev_unop nm u_inv) b_and) nm b_or)) ?_
  refine exs_pre (σ₁ := ⟨(key "on", .d (.str on)) :: lO total oct a.1 (newAdd add p m) (newDrop drop p m) off, hp6 a.1 (dl a.2) oct text L3 fl g⟩) (sub_list (by repeat (first | exact .nil | refine .cons (by repeat (first | with_reducible exact lk1 | with_reducible exact lk3 | with_reducible exact lk6 | with_reducible refine lk4 (by kernel_rfl) ?_ | with_reducible refine lk2 (by kernel_rfl) ?_ | with_reducible refine lk7 (by kernel_rfl) ?_ | with_reducible refine lk5 ?_)) ?_))) ?_
  refine exs_cons (ex_for (evIt_str hc nm) (fl_pre (sub_list (by repeat (first | exact .nil | refine .cons (by repeat (first | with_reducible exact lk1 | with_reducible exact lk3 | with_reducible exact lk6 | with_reducible refine lk4 (by kernel_rfl) ?_ | with_reducible refine lk2 (by kernel_rfl) ?_ | with_reducible refine lk7 (by kernel_rfl) ?_ | with_reducible refine lk5 ?_)) ?_))) lA)) ?_
  refine exs_cons (ex_for (evIt_str hc nm) (fl_pre (sub_list (by repeat (first | exact .nil | refine .cons (by repeat (first | with_reducible exact lk1 | with_reducible exact lk3 | with_reducible exact lk6 | with_reducible refine lk4 (by kernel_rfl) ?_ | with_reducible refine lk2 (by kernel_rfl) ?_ | with_reducible refine lk7 (by kernel_rfl) ?_ | with_reducible refine lk5 ?_)) ?_))) lB)) ?_
  exact h
end
end Mine
namespace Mine
open PySem PySem.W PyProof.Rows PySem.Calls PySem.Spec
def arg0 : Expr → Expr
  | .Call _ (e :: _) _ _ => e
  | e => e
def bitOf (ch : Str) : Int := match getD? ch bits6 with
  | some (.int i) => i
  | _ => 0
def bitsOf (x : Str) : List Int := (signs x).map fun d => bitOf (unS d)
def dashOf (downs : Str) : Str := if isE downs then ("" : Str) else ("-" : Str) ++ downs
def oneText (ups downs : Str) : Str := (ups ++ dashOf downs) ++ (":" : Str)
section
variable {c : Cx} {text : Str} {total fl add drop p m acc : Int} {oct : Bool} {L L1 L2 : List Str} {g : HO} {ch c1 ups downs : Str} {k q : Nat} {kv : Last}
theorem lk5n (hq : q = 3 ∨ q = 4) {kvd : List (Str × D)} : lk 5 (hp6 q kvd oct text L fl g) = none := by rcases hq with rfl | rfl <;> rfl
abbrev lU (ups downs : Str) (total : Int) (oct : Bool) (q : Nat) (add drop : Int) : List (Nat × V) := (key "ups", .d (.str ups)) :: (key "downs", .d (.str downs)) :: lc6 total oct q add drop
theorem fresh6 (hq : q = 3 ∨ q = 4) {kvd : List (Str × D)} : Fresh 5 0 ⟨lU ups downs total oct q add drop, hp6 q kvd oct text L fl g⟩ := by
  refine fresh_of (by decide) (by decide) (lk5n hq) ?_
  rcases hq with rfl | rfl <;> rfl
theorem ci_bits {S : Scope} {n : Nat} {elt : Expr} {x : Str} {σ : St} : ∀ {l : List D}, (∀ d ∈ l, Ev c S n elt ⟨(key x, .d d) :: σ.loc, σ.heap⟩ (.d (.int (bitOf (unS d)))) ⟨(key x, .d d) :: σ.loc, σ.heap⟩) →
    CompIs c S n [] elt x σ (l.map .d) ((l.map fun d => bitOf (unS d)).map .int)
  | [], _ => .nil
  | d :: l, h => .take (show true = true from rfl) (h d (.head _)) (ci_bits fun d' hd => h d' (.tail _ hd))
def LetsOk (x : Str) : Prop := ∀ d ∈ signs x, ∃ ch, d = .str ch ∧ getD? ch bits6 = some (.int (bitOf ch))
theorem turnB (hC : CxOk c) (hK : c.K = KK c) (G : GL6 c) (hc : c.calm = true) (hl : text.length ≤ 4000) (ha : LsOk k (q, kv)) (hk : k ≤ 900) (hT : TokOk text ("b" :: L))
    (hu : Txt.join "" (letsOf 1 kv) = ups) (hd : Txt.join "" (letsOf 0 kv) = downs) (hj1 : ((letsOf 1 kv).map (·.length)).sum + (letsOf 1 kv).length * ("" : Str).length ≤ 16777216) (hj0 : ((letsOf 0 kv).map (·.length)).sum + (letsOf 0 kv).length * ("" : Str).length ≤ 16777216)
    (l1 : ups.length ≤ 1000) (l0 : downs.length ≤ 1000) (o1 : LetsOk ups) (o0 : LetsOk downs) (hp : Plain (oneText ups downs)) (hs : singles (oneText ups downs) = ch :: L1)
    (h1 : pfOn (!oct) ch L1 = some (c1, acc, L2)) (h2 : PfEnd c1 acc L2 (.tup [.int p, .int m]) none []) (s1 : (bitsOf ups).sum = p) (s0 : (bitsOf downs).sum = m) (ea : add = p) (ed : drop = m) (hr : (two p m).showable = true ∧ (two p m).shown.length ≤ sizeLine) :
    Exs c SL 0 B4 ⟨lc6 total oct q add drop, hp6 q (dl kv) oct text ("b" :: L) fl g⟩ .next ⟨lc6 total oct q add drop, hp6 q (dl kv) oct text L fl g⟩ := by
  have hq : q = 3 ∨ q = 4 := ha.id
  have nd : (kv.map (·.1)).Nodup := ha.nd
  have len : kv.length ≤ k := ha.len
  have sl : (6000 : Nat) ≤ sizeLine := by decide
  have u1 := ev_ups (c := c) (text := text) (fl := fl) (oct := oct) (L := "b" :: L) (g := g) (kv := kv) (loc := lc6 total oct q add drop) hc hq nd (by omega) (by kernel_rfl) (by kernel_rfl) hj1
  have u0 := ev_downs (c := c) (text := text) (fl := fl) (oct := oct) (L := "b" :: L) (g := g) (kv := kv) (loc := (key "ups", .d (.str ups)) :: lc6 total oct q add drop) hc hq nd (by omega) (by kernel_rfl) (by kernel_rfl) hj0
  rw [hu] at u1
  rw [hd] at u0
  have e1 : (ups ++ dashOf downs).length = ups.length + (dashOf downs).length := len_app _ _
  have e2 : (("-" : Str) ++ downs).length = 1 + downs.length := len_app _ _
  have e3 : (dashOf downs).length ≤ 1 + downs.length := by unfold dashOf; split; exact Nat.zero_le _; rw [e2]; exact Nat.le_refl _
  have e4 : (oneText ups downs).length = (ups ++ dashOf downs).length + 1 := len_app _ _
  have k1 : (":" : Str).length = 1 := rfl
  have k3 : ("-" : Str).length = 1 := rfl
  have ts := tok_singles hp
  have os : (octetsOf (oneText ups downs)).size = (oneText ups downs).length := octets_size
  have tx : Ev c SL 0 (arg0 (arg0 (rhsOf B3 10))) ⟨lU ups downs total oct q add drop, hp6 q (dl kv) oct text ("b" :: L) fl g⟩ (.d (.str (oneText ups downs))) ⟨lU ups downs total oct q add drop, hp6 q (dl kv) oct text ("b" :: L) fl g⟩ := by
    dsimp only [arg0, rhsOf, B3, LB, nthBody, PySem.Challenge.pw_kq0015_06, forBody, ifBody, List.drop]
    exact ev_binop (ev_binop nm (ev_ite (σ₂ := ⟨lU ups downs total oct q add drop, hp6 q (dl kv) oct text ("b" :: L) fl g⟩) (X := .d (.str (dashOf downs))) (ts_plain nm (t_str (by omega))) (fun q => by rw [show dashOf downs = ("-" : Str) ++ downs by unfold dashOf isE; rw [q]; rfl]; exact ev_binop ev_str nm (b_adds (x := "-") (y := downs) (by omega))) (fun q => by rw [show dashOf downs = "" by unfold dashOf isE; rw [q]; rfl]; exact ev_str)) (b_adds (x := ups) (y := dashOf downs) (by omega))) ev_str (b_adds (x := ups ++ dashOf downs) (y := ":") (by omega))
  dsimp only [B4, UPS, DOWNS, arg0, rhsOf, B3, LB, nthBody, PySem.Challenge.pw_kq0015_06, forBody, ifBody, List.drop] at u1 u0 tx ⊢
  refine exs_cons (asg u1) ?_
  refine exs_cons (asg u0) ?_
  refine exs_pre (σ₁ := ⟨lU ups downs total oct q add drop, hp6 q (dl kv) oct text ("b" :: L) fl g⟩) (sub_list (by repeat (first | exact .nil | refine .cons (by repeat (first | with_reducible exact lk1 | with_reducible exact lk3 | with_reducible exact lk6 | with_reducible refine lk4 (by kernel_rfl) ?_ | with_reducible refine lk2 (by kernel_rfl) ?_ | with_reducible refine lk7 (by kernel_rfl) ?_ | with_reducible refine lk5 ?_)) ?_))) ?_
  with_reducible refine exs_cons (ex_newF (i := 5) (C := cT) (g := 59) (H := hpO (oneText ups downs) (singles (oneText ups downs)) q (dl kv) oct text ("b" :: L) fl g) (σ := ⟨lU ups downs total oct q add drop, hp6 q (dl kv) oct text ("b" :: L) fl g⟩) (σ₁ := ⟨lU ups downs total oct q add drop, hp6 q (dl kv) oct text ("b" :: L) fl g⟩) (Xs := [.d (srcD (!oct) (oneText ups downs) (octetsOf (oneText ups downs)))]) hC (k_new hK) ?s0 ?s1 ?s2 ?s3 ?s4 ?s5 ?s6 ?s7 ?s8) ?_
  case s0 => exact gl hC G.tok
  case s1 => exact evs_cons (ev_callf (a := 150) hC (kp hK (by kernel_rfl)) (gl hC G.given) (evs_cons tx (evs_cons nm evs_nil)) (opn_fn (giv6 hC hK G.toGL9 hc (by decide) hp (by omega)))) evs_nil
  case s2 => exact fresh6 hq
  case s3 => intro X hX; rw [List.mem_singleton] at hX; subst hX; rfl
  case s4 => exact init_any hC hK G.toG2 hc (by decide) (lk5n hq) (by omega) (by omega) (latin_octets hp) ts.2
  case s5 => kernel_rfl
  case s6 => rfl
  case s7 => rfl
  case s8 => intro _; rfl
  have tk := ts.1
  rw [hs] at tk ⊢
  refine exs_cons (asg (ev_callf (a := 145) hC (kp hK (by kernel_rfl)) (gl hC G.pf) (evs_cons nm (evs_cons nm (evs_cons (ev_get6b hC hK G.toGL9 hc (by omega) tk nm) evs_nil))) (opn_fn (pf6b hC hK G.toGL9 hc hq (by omega) tk.2 h1 h2)))) ?_
  refine exs_pre (σ₁ := ⟨(key "answer", .d (.tup [.int p, .int m])) :: lU ups downs total oct q add drop, hp6 q (dl kv) oct text ("b" :: L) fl g⟩) (sub_both (by repeat (first | exact .nil | refine .cons (by repeat (first | with_reducible exact lk1 | with_reducible exact lk3 | with_reducible exact lk6 | with_reducible refine lk4 (by kernel_rfl) ?_ | with_reducible refine lk2 (by kernel_rfl) ?_ | with_reducible refine lk7 (by kernel_rfl) ?_ | with_reducible refine lk5 ?_)) ?_)) (.cons _ (.refl _))) ?_
  subst s1 s0
  have bs : ∀ (x : Str), LetsOk x → x.length ≤ 1000 → ∀ d ∈ signs x, ∃ ch, d = .str ch ∧ getD? ch bits6 = some (.int (bitOf ch)) := fun x h _ => h
  refine exs_cons (asg (X := .d (.tup [.int (bitsOf ups).sum, .int (bitsOf downs).sum])) (ev_tuple (evs_cons (ev_callb (gl hC G.sum) (evs_cons (ev_comp (evIt_str hc nm) (ci_bits fun d hd => ?c1) (by kernel_rfl) (by kernel_rfl) (by rw [List.length_map, signs_len]; exact Nat.le_trans l1 (by decide)) rfl pins_nil) evs_nil) (f_sum hc rfl)) (evs_cons (ev_callb (gl hC G.sum) (evs_cons (ev_comp (evIt_str hc nm) (ci_bits fun d hd => ?c2) (by kernel_rfl) (by kernel_rfl) (by rw [List.length_map, signs_len]; exact Nat.le_trans l0 (by decide)) rfl pins_nil) evs_nil) (f_sum hc rfl)) evs_nil)) op_tuple)) ?_
  case c1 =>
    obtain ⟨ch, rfl, hb⟩ := o1 d hd
    exact ev_sub nm nm (op_get_tab tab_d hb)
  case c2 =>
    obtain ⟨ch, rfl, hb⟩ := o0 d hd
    exact ev_sub nm nm (op_get_tab tab_d hb)
  refine exs_cons (if_f (ts_is (ts_bool (tss_or (ts_cmp (ev_callb (gl hC G.repr) (evs_cons nm evs_nil) (f_repr2 (by decide) hr.1 hr.2)) (ev_callb (gl hC G.repr) (evs_cons nm evs_nil) (f_repr2 (by decide) hr.1 hr.2)) c_nes) (tss_or (ts_cmp nm (ev_tuple (evs_cons nm (evs_cons nm evs_nil)) op_tuple) (by subst ea ed; exact c_ne_tup (k := 0) (by decide) (by decide) rfl)) tss_nil))) (by simp)) exs_nil) ?_
  refine exs_cons (if_f (ts_is (ts_cmp (ev_get6 hC hK G.toGL9 hc hq hl hT nm) ev_str c_nes) (by kernel_rfl)) exs_nil) ?_
  exact exs_sub exs_nil (sub_list (by repeat (first | exact .nil | refine .cons (by repeat (first | with_reducible exact lk1 | with_reducible exact lk3 | with_reducible exact lk6 | with_reducible refine lk4 (by kernel_rfl) ?_ | with_reducible refine lk2 (by kernel_rfl) ?_ | with_reducible refine lk7 (by kernel_rfl) ?_ | with_reducible refine lk5 ?_)) ?_)))
end
end Mine
namespace Mine
open PySem PySem.W PyProof.Rows PySem.Calls PySem.Spec
theorem off_tok {t ch : Str} {a0 d : Int} {L L1 : List Str} (hT : TokOk t L) (h : offLoop L ch a0 = some (d, L1)) : TokOk t L1 := by
  induction L generalizing ch a0 with
  | nil => cases h
  | cons c2 L ih =>
    unfold offLoop at h
    cases hfl : flagOf ch with
    | none => rw [hfl] at h; cases h
    | some flg =>
      rw [hfl] at h
      dsimp only at h
      split at h
      · cases h
      split at h
      · cases h; exact hT.2
      · split at h
        · exact ih hT.2 h
        · cases h
theorem end_tok {t c1 : Str} {acc : Int} {L L' : List Str} {r : D} {o : Option Int} (hT : TokOk t L) (h : PfEnd c1 acc L r o L') : TokOk t L' := by
  cases h with
  | close => exact hT
  | colon => exact hT
  | off _ _ h3 _ _ => exact off_tok hT.2 h3
structure Turn6 (b : Bool) (on off : Str) (a : Ls) (add drop : Int) (L : List Str) (a' : Ls) (add' drop' : Int) (L' : List Str) : Prop where
  len : on.length + off.length ≤ 20
  read : ∃ (ch c1 : Str) (acc : Int) (Lr L2 : List Str) (p m : Int), L = ("(" : Str) :: ("?" : Str) :: ch :: Lr ∧ pfOn b ch Lr = some (c1, acc, L2) ∧ PfEnd c1 acc L2 (.tup [.int p, .int m]) none (("b" : Str) :: L') ∧ add' = newAdd add p m ∧ drop' = newDrop drop p m
  next : a' = offAll off (onAll on a)
  lets : ∀ v, ((letsOf v a'.2).map (·.length)).sum + (letsOf v a'.2).length * ("" : Str).length ≤ 1000 ∧ (Txt.join "" (letsOf v a'.2)).length ≤ 1000 ∧ LetsOk (Txt.join "" (letsOf v a'.2))
  pl : Plain (oneText (Txt.join "" (letsOf 1 a'.2)) (Txt.join "" (letsOf 0 a'.2)))
  one : ∃ (ch c1 : Str) (acc : Int) (L1 L2 : List Str) (p m : Int), singles (oneText (Txt.join "" (letsOf 1 a'.2)) (Txt.join "" (letsOf 0 a'.2))) = ch :: L1 ∧ pfOn b ch L1 = some (c1, acc, L2) ∧ PfEnd c1 acc L2 (.tup [.int p, .int m]) none [] ∧ (bitsOf (Txt.join "" (letsOf 1 a'.2))).sum = p ∧ (bitsOf (Txt.join "" (letsOf 0 a'.2))).sum = m ∧ add' = p ∧ drop' = m ∧ (two p m).showable = true ∧ (two p m).shown.length ≤ sizeLine
inductive Walk6 (b : Bool) : List (Str × Str) → Ls → Int → Int → List Str → Ls → Int → Int → List Str → Prop
  | done {a : Ls} {add drop : Int} {L : List Str} : Walk6 b [] a add drop L a add drop L
  | turn {on off : Str} {ar : List (Str × Str)} {a a' a'' : Ls} {add drop add' drop' add'' drop'' : Int} {L L' L'' : List Str} : Turn6 b on off a add drop L a' add' drop' L' → Walk6 b ar a' add' drop' L' a'' add'' drop'' L'' → Walk6 b ((on, off) :: ar) a add drop L a'' add'' drop'' L''
section
variable {c : Cx} {text : Str} {total fl : Int} {oct : Bool}
theorem loopG {tp tp1 tp2 : Pos} {kk : Nat} {pa : Addr} {po : Obj} {ds : List D} (hC : CxOk c) (hK : c.K = KK c) (G : GL6 c) (hc : c.calm = true) (hl : text.length ≤ 4000) {ar : List (Str × Str)} {a a' : Ls} {add drop add' drop' : Int} {L L' : List Str} (w : Walk6 (!oct) ar a add drop L a' add' drop' L') :
    ∀ k, LsOk k a → k + 20 * ar.length ≤ 780 → TokOk text L →
    FL c SL 0 (.Tuple [.Name "on" tp1, .Name "off" tp2] kk tp) B3 [(pa, po)] ((arD ar).map .d) ⟨lc6 total oct a.1 add drop, hp6 a.1 (dl a.2) oct text L fl (.plst pa po ds)⟩ .next ⟨lc6 total oct a'.1 add' drop', hp6 a'.1 (dl a'.2) oct text L' fl (.plst pa po ds)⟩ := by
  induction w with
  | done => intro k ha hk hT; exact fl_nil
  | @turn on off ar a a1 a2 add drop add1 drop1 add2 drop2 L L1 L2 t w ih =>
    intro k ha hk hT
    rw [List.length_cons] at hk
    obtain ⟨len, ⟨ch, c1, acc, Lr, Lx, p, m, rfl, r1, r2, rfl, rfl⟩, rfl, lets, pl, ⟨ch', c1', acc', L1', L2', p', m', o1, o2, o3, o4, o5, o6, o7, o8, o9⟩⟩ := t
    have h1 := on_all (on := on) ha
    have h2 := off_all (off := off) h1
    have l1 := lets 1
    have l0 := lets 0
    have hT' : TokOk text ("b" :: L1) := end_tok (tok_pf hT.2.2.2 r1) r2
    have h3 : LsOk (k + 20) (offAll off (onAll on a)) := ⟨h2.id, h2.nd, by have := h2.len; omega⟩
    have tB := turnB (c := c) (text := text) (total := total) (fl := fl) (add := newAdd add p m) (drop := newDrop drop p m) (oct := oct) (L := L1) (g := .plst pa po ds) (q := (offAll off (onAll on a)).1) (kv := (offAll off (onAll on a)).2) (k := k + 20) hC hK G hc hl h3 (by omega) hT' rfl rfl (by omega) (by omega) l1.2.1 l0.2.1 l1.2.2 l0.2.2 pl o1 o2 o3 o4 o5 o6 o7 ⟨o8, o9⟩
    have tA := turnA (c := c) (g := .plst pa po ds) (total := total) (fl := fl) (on := on) (off := off) (add := add) (drop := drop) hC hK G hc hl ha (by omega) hT r1 r2 tB
    refine fl_cons (as_tup hc (.cons rfl asname (.cons rfl asname .nil))) tA rfl (ih (k + 20) h3 (by omega) hT'.2) ?_
    rcases h3.id with e | e <;> rw [e] <;> exact pins_one (i := 0) rfl
theorem walk_ok {b : Bool} {ar : List (Str × Str)} {a a' : Ls} {add drop add' drop' : Int} {L L' : List Str} (w : Walk6 b ar a add drop L a' add' drop' L') : ∀ k, LsOk k a → ∃ k', LsOk k' a' := by
  induction w with
  | done => exact fun k h => ⟨k, h⟩
  | turn t w ih =>
    intro k h
    rw [t.next] at ih
    exact ih _ (off_all (on_all h))
theorem post6 (hC : CxOk c) (hK : c.K = KK c) (G : GL6 c) (hc : c.calm = true) (hp : Plain text) (hl : text.length ≤ 4000) {ar : List (Str × Str)} (hn : ar.length ≤ 30) {a' : Ls} {add' drop' : Int} {L' : List Str} (w : Walk6 (!oct) ar (3, []) 0 0 (singles text) a' add' drop' L') :
    ∃ σ', Exs c SL 0 PC ⟨lc6 total oct 3 0 0, hp6 3 [] oct text (singles text) (total.fmod 512) (.lst (arD ar))⟩ (.ret (.d (.bool true))) σ' := by
  have h0 : LsOk 0 ((3, []) : Ls) := ⟨.inl rfl, List.nodup_nil, Nat.le_refl 0⟩
  obtain ⟨k', hk'⟩ := walk_ok w 0 h0
  have hq := hk'.id
  dsimp only [PC, LB, nthBody, PySem.Challenge.pw_kq0015_06, forBody, ifBody, List.drop]
  refine ⟨⟨lc6 total oct a'.1 add' drop', hp6 a'.1 (dl a'.2) oct text L' (total.fmod 512) (.lst (arD ar))⟩, ?_⟩
  refine exs_pin (i := 0) (ds := arD ar) rfl fun pa po => ?_
  have lw := fun tp tp1 tp2 kk => loopG (c := c) (text := text) (total := total) (fl := total.fmod 512) (pa := pa) (po := po) (ds := arD ar) (tp := tp) (tp1 := tp1) (tp2 := tp2) (kk := kk) hC hK G hc hl w 0 h0 (by omega) (tok_singles hp).1
  refine exs_cons (ex_for (evIt_plst hc nm rfl) (fl_body (lw _ _ _ _) (by kernel_rfl))) ?_
  have un : setH 0 (.lst (arD ar)) (hp6 a'.1 (dl a'.2) oct text L' (total.fmod 512) (.plst pa po (arD ar))) = hp6 a'.1 (dl a'.2) oct text L' (total.fmod 512) (.lst (arD ar)) := by
    rcases hq with e | e <;> rw [e] <;> rfl
  have l0 : lk 0 (hp6 a'.1 (dl a'.2) oct text L' (total.fmod 512) (.plst pa po (arD ar))) = some (.plst pa po (arD ar)) := by rcases hq with e | e <;> rw [e] <;> rfl
  have l2 : lk 2 (hp6 a'.1 (dl a'.2) oct text L' (total.fmod 512) (.lst (arD ar))) = some (.inst cT (asS (total.fmod 512))) := by rcases hq with e | e <;> rw [e] <;> rfl
  refine exs_unpin (i := 0) (ds := arD ar) l0 ?_
  dsimp only
  rw [un]
  refine exs_stop (ex_ret ?_)
  refine ev_is (ev_cmp (ev_attr (i := 2) (C := cT) (as := asS (total.fmod 512)) (d := .int (total.fmod 512)) hC (k_attr hK (by decide)) nm l2 (by kernel_rfl)) (ev_binop nm ev_int (b_mod (by decide))) c_eq) ?_
  rw [beq_self_eq_true]
end
end Mine
namespace Mine
open PySem PySem.W PyProof.Rows
theorem nat_sub_and : ∀ (j x n : Nat), (x - (x &&& n)).testBit j = (x.testBit j && !n.testBit j) := by
  intro j
  induction j with
  | zero =>
    intro x n
    have h1 : (x &&& n) ≤ x := Nat.and_le_left
    have h2 := Nat.testBit_and x n 0
    simp only [Nat.testBit_zero] at h2 ⊢
    have hx := Nat.mod_two_eq_zero_or_one x
    have hn := Nat.mod_two_eq_zero_or_one n
    have hm := Nat.mod_two_eq_zero_or_one (x &&& n)
    rcases hx with hx | hx <;> rcases hn with hn | hn <;> rcases hm with hm | hm <;> simp [hx, hn, hm] at h2 ⊢ <;> omega
  | succ j ih =>
    intro x n
    rw [Nat.testBit_succ, Nat.testBit_succ, Nat.testBit_succ, ← ih]
    congr 1
    have h1 : (x &&& n) ≤ x := Nat.and_le_left
    have h2 := Nat.testBit_and x n 0
    have h3 : (x &&& n) / 2 = x / 2 &&& n / 2 := Nat.and_div_two
    simp only [Nat.testBit_zero] at h2
    have hx := Nat.mod_two_eq_zero_or_one x
    have hm := Nat.mod_two_eq_zero_or_one (x &&& n)
    rw [← h3]
    rcases hx with hx | hx <;> rcases hm with hm | hm <;> first | omega | (exfalso; simp [hx, hm] at h2)
def tb (x : Int) (j : Nat) : Bool := match decide (0 ≤ x) with
  | true => x.toNat.testBit j
  | false => !(Builtin.bitNot x).toNat.testBit j
theorem tb_pos {x : Int} {j : Nat} (h : 0 ≤ x) : tb x j = x.toNat.testBit j := by unfold tb; rw [decide_eq_true h]
theorem tb_neg {x : Int} {j : Nat} (h : ¬ 0 ≤ x) : tb x j = !(Builtin.bitNot x).toNat.testBit j := by unfold tb; rw [decide_eq_false h]
theorem tb_nat {n j : Nat} : tb (n : Int) j = n.testBit j := by rw [tb_pos (by omega)]; rfl
theorem tb_not {x : Int} {j : Nat} : tb (Builtin.bitNot x) j = !tb x j := by
  by_cases h : 0 ≤ x
  · rw [tb_pos h, tb_neg (by unfold Builtin.bitNot; omega)]
    rw [show Builtin.bitNot (Builtin.bitNot x) = x by unfold Builtin.bitNot; omega]
  · rw [tb_neg h, tb_pos (by unfold Builtin.bitNot; omega), Bool.not_not]
theorem tb_and {x y : Int} {j : Nat} : tb (Builtin.bitAnd x y) j = (tb x j && tb y j) := by
  have sub : ∀ (a b : Nat), tb ((a : Int) - ((a &&& b : Nat) : Int)) j = (a.testBit j && !b.testBit j) := fun a b => by
    have h1 : (a &&& b) ≤ a := Nat.and_le_left
    rw [show (a : Int) - ((a &&& b : Nat) : Int) = ((a - (a &&& b) : Nat) : Int) by omega, tb_nat, nat_sub_and]
  unfold Builtin.bitAnd
  by_cases hx : 0 ≤ x <;> by_cases hy : 0 ≤ y
  · rw [decide_eq_true hx, decide_eq_true hy, tb_pos hx, tb_pos hy]
    dsimp only
    rw [tb_nat, Nat.testBit_and]
  · rw [decide_eq_true hx, decide_eq_false hy, tb_pos hx, tb_neg hy]
    dsimp only
    have e : x = (x.toNat : Int) := by omega
    rw [show x - ((x.toNat &&& (Builtin.bitNot y).toNat : Nat) : Int) = (x.toNat : Int) - ((x.toNat &&& (Builtin.bitNot y).toNat : Nat) : Int) by omega, sub]
  · rw [decide_eq_false hx, decide_eq_true hy, tb_neg hx, tb_pos hy]
    dsimp only
    rw [show y - ((y.toNat &&& (Builtin.bitNot x).toNat : Nat) : Int) = (y.toNat : Int) - ((y.toNat &&& (Builtin.bitNot x).toNat : Nat) : Int) by omega, sub, Bool.and_comm]
  · rw [decide_eq_false hx, decide_eq_false hy, tb_neg hx, tb_neg hy]
    dsimp only
    rw [tb_not, tb_nat, Nat.testBit_or, Bool.not_or]
theorem bitOr_def {x y : Int} : Builtin.bitOr x y = Builtin.bitNot (Builtin.bitAnd (Builtin.bitNot x) (Builtin.bitNot y)) := by
  rfl
theorem tb_or {x y : Int} {j : Nat} : tb (Builtin.bitOr x y) j = (tb x j || tb y j) := by
  rw [bitOr_def, tb_not, tb_and, tb_not, tb_not]; cases tb x j <;> cases tb y j <;> rfl
theorem tb_ext {x y : Int} (h : ∀ j, tb x j = tb y j) : x = y := by
  have big : ∀ a b : Nat, ∃ j, a.testBit j = false ∧ b.testBit j = false := fun a b =>
    ⟨max a b, Nat.testBit_lt_two_pow (Nat.lt_of_le_of_lt (Nat.le_max_left ..) Nat.lt_two_pow_self), Nat.testBit_lt_two_pow (Nat.lt_of_le_of_lt (Nat.le_max_right ..) Nat.lt_two_pow_self)⟩
  by_cases hx : 0 ≤ x <;> by_cases hy : 0 ≤ y
  · have : x.toNat = y.toNat := Nat.eq_of_testBit_eq fun j => by rw [← tb_pos hx, ← tb_pos hy]; exact h j
    omega
  · obtain ⟨j, h1, h2⟩ := big x.toNat (Builtin.bitNot y).toNat
    have := h j
    rw [tb_pos hx, tb_neg hy, h1, h2] at this; cases this
  · obtain ⟨j, h1, h2⟩ := big (Builtin.bitNot x).toNat y.toNat
    have := h j
    rw [tb_neg hx, tb_pos hy, h1, h2] at this; cases this
  · have : (Builtin.bitNot x).toNat = (Builtin.bitNot y).toNat := Nat.eq_of_testBit_eq fun j => by
      have := h j
      rw [tb_neg hx, tb_neg hy] at this
      simpa using this
    unfold Builtin.bitNot at this
    omega
theorem tb_zero {j : Nat} : tb 0 j = false := by rw [show (0 : Int) = ((0 : Nat) : Int) from rfl, tb_nat]; simp
theorem tb_lt {x : Int} {j : Nat} (h0 : 0 ≤ x) (h : x < 512) (hj : 9 ≤ j) : tb x j = false := by
  rw [tb_pos h0]
  exact Nat.testBit_lt_two_pow (Nat.lt_of_lt_of_le (show x.toNat < 2 ^ 9 by omega) (Nat.pow_le_pow_right (by decide) hj))
end Mine
namespace Mine
open PySem PySem.W PyProof.Rows PySem.Calls PySem.Spec
abbrev ch1 (c : Nat) : Str := ⟨#[c]⟩
def flg (x : Nat) : Int := if x = 105 then 2 else if x = 76 then 4 else if x = 109 then 8 else if x = 115 then 16 else if x = 117 then 32 else if x = 120 then 64 else if x = 97 then 256 else 0
def imsx : List Nat := [105, 109, 115, 120]
def ownN (b : Bool) : Nat := if b then 117 else 76
structure LetOk (b : Bool) (kc : Option Nat) (x : Nat) : Prop where
  fl : flagOf (ch1 x) = some (flg x)
  own : ((b && ch1 x == "L") || (!b && ch1 x == "u")) = false
  clo : Txt.contains ")-:" (ch1 x) = false
  col : (ch1 x == ":") = false
  dash : (ch1 x == "-") = false
  kd : Builtin.bitAnd (flg x) 292 = 0 ∨ (Builtin.bitAnd (flg x) 292 = flg x ∧ kc = some x)
  small : 0 ≤ flg x ∧ flg x < 512 ∧ flg x ≠ 128
def kcOk (b : Bool) (kc : Option Nat) : Prop := kc = none ∨ kc = some 97 ∨ kc = some (ownN b)
theorem let_imsx {b : Bool} {kc : Option Nat} {x : Nat} (h : x ∈ imsx) : LetOk b kc x ∧ Builtin.bitAnd (flg x) 292 = 0 := by
  simp only [imsx, List.mem_cons, List.not_mem_nil, or_false] at h
  rcases h with rfl | rfl | rfl | rfl <;> exact ⟨⟨by kernel_rfl, by cases b <;> kernel_rfl, by kernel_rfl, by kernel_rfl, by kernel_rfl, .inl (by kernel_rfl), by decide⟩, by kernel_rfl⟩
theorem let_kc {b : Bool} {kc : Option Nat} {x : Nat} (h : kcOk b kc) (hx : some x = kc) : LetOk b kc x := by
  subst hx
  rcases h with h | h | h
  · cases h
  · cases h; exact ⟨by kernel_rfl, by cases b <;> kernel_rfl, by kernel_rfl, by kernel_rfl, by kernel_rfl, .inr ⟨by kernel_rfl, rfl⟩, by decide⟩
  · cases h
    cases b with
    | true => exact ⟨by kernel_rfl, by kernel_rfl, by kernel_rfl, by kernel_rfl, by kernel_rfl, .inr ⟨by kernel_rfl, rfl⟩, by decide⟩
    | false => exact ⟨by kernel_rfl, by kernel_rfl, by kernel_rfl, by kernel_rfl, by kernel_rfl, .inr ⟨by kernel_rfl, rfl⟩, by decide⟩
def orB (w : List Nat) (a : Int) : Int := w.foldl (fun a x => Builtin.bitOr a (flg x)) a
theorem orB_cons {x : Nat} {w : List Nat} {a : Int} : orB (x :: w) a = orB w (Builtin.bitOr a (flg x)) := rfl
theorem tb_orB {w : List Nat} {a : Int} {j : Nat} : tb (orB w a) j = (tb a j || w.any fun x => tb (flg x) j) := by
  induction w generalizing a with
  | nil => show tb a j = (tb a j || false); rw [Bool.or_false]
  | cons x w ih => rw [orB_cons, ih, tb_or, List.any_cons, Bool.or_assoc]
theorem tb292 {j : Nat} : tb 292 j = (j == 2 || j == 5 || j == 8) := by
  by_cases h : j < 9
  · match j, h with
    | 0, _ => decide
    | 1, _ => decide
    | 2, _ => decide
    | 3, _ => decide
    | 4, _ => decide
    | 5, _ => decide
    | 6, _ => decide
    | 7, _ => decide
    | 8, _ => decide
  · rw [tb_lt (by decide) (by decide) (by omega)]
    simp; omega
theorem and_or_dist {a b m : Int} : Builtin.bitAnd (Builtin.bitOr a b) m = Builtin.bitOr (Builtin.bitAnd a m) (Builtin.bitAnd b m) := tb_ext fun j => by
  rw [tb_and, tb_or, tb_or, tb_and, tb_and]; cases tb a j <;> cases tb b j <;> cases tb m j <;> rfl
theorem or_self {a : Int} : Builtin.bitOr a a = a := tb_ext fun j => by rw [tb_or]; cases tb a j <;> rfl
theorem or_zero {a : Int} : Builtin.bitOr a 0 = a := tb_ext fun j => by rw [tb_or, tb_zero, Bool.or_false]
theorem zero_or {a : Int} : Builtin.bitOr 0 a = a := tb_ext fun j => by rw [tb_or, tb_zero, Bool.false_or]
theorem and_zero {a : Int} : Builtin.bitAnd a 0 = 0 := tb_ext fun j => by rw [tb_and, tb_zero, Bool.and_false]
theorem zero_and {a : Int} : Builtin.bitAnd 0 a = 0 := tb_ext fun j => by rw [tb_and, tb_zero, Bool.false_and]
def KdIs (kc : Option Nat) (a : Int) : Prop := Builtin.bitAnd a 292 = 0 ∨ ∃ k, kc = some k ∧ Builtin.bitAnd a 292 = flg k
theorem check_ok {b : Bool} {kc : Option Nat} {x : Nat} {a : Int} (h : LetOk b kc x) (ha : KdIs kc a) : (Builtin.bitAnd (flg x) 292 != 0 && Builtin.bitAnd (Builtin.bitOr a (flg x)) 292 != flg x) = false ∧ KdIs kc (Builtin.bitOr a (flg x)) := by
  rcases h.kd with hk | ⟨hk, e⟩
  · refine ⟨by rw [hk]; rfl, ?_⟩
    unfold KdIs
    rw [and_or_dist, hk, or_zero]; exact ha
  · have e1 : Builtin.bitAnd (Builtin.bitOr a (flg x)) 292 = flg x := by
      rw [and_or_dist, hk]
      rcases ha with ha | ⟨k, e2, ha⟩
      · rw [ha, zero_or]
      · rw [ha]
        have : k = x := by rw [e] at e2; exact (Option.some.inj e2).symm
        rw [this, or_self]
    refine ⟨by rw [e1, bne_self_eq_false, Bool.and_false], .inr ⟨x, e, e1⟩⟩
theorem on_run {b : Bool} {kc : Option Nat} {c2 : Str} {L : List Str} (h2 : Txt.contains ")-:" c2 = true) : ∀ (w : List Nat) (c : Nat) (a : Int), (∀ x ∈ c :: w, LetOk b kc x) → KdIs kc a → onLoop b (w.map ch1 ++ c2 :: L) (ch1 c) a = some (c2, orB (c :: w) a, L) := by
  intro w
  induction w with
  | nil =>
    intro c a h ha
    have hc := h c (.head _)
    obtain ⟨k1, k2⟩ := check_ok hc ha
    show onLoop b (c2 :: L) (ch1 c) a = _
    unfold onLoop
    rw [hc.fl]
    dsimp only
    rw [hc.own, k1, h2]
    rfl
  | cons x w ih =>
    intro c a h ha
    have hc := h c (.head _)
    have hx := h x (.tail _ (.head _))
    obtain ⟨k1, k2⟩ := check_ok hc ha
    show onLoop b (ch1 x :: (w.map ch1 ++ c2 :: L)) (ch1 c) a = _
    unfold onLoop
    rw [hc.fl]
    dsimp only
    rw [hc.own, k1, hx.clo, hx.fl]
    simp only [Bool.false_eq_true, if_false, Option.isSome_some, if_true]
    rw [ih x _ (fun y hy => h y (.tail _ hy)) k2]
    rfl
theorem off_run {L : List Str} : ∀ (w : List Nat) (c : Nat) (a : Int), (∀ x ∈ c :: w, x ∈ imsx) → offLoop (w.map ch1 ++ (":" : Str) :: L) (ch1 c) a = some (orB (c :: w) a, L) := by
  intro w
  induction w with
  | nil =>
    intro c a h
    obtain ⟨hc, k1⟩ := let_imsx (b := true) (kc := none) (h c (.head _))
    show offLoop ((":" : Str) :: L) (ch1 c) a = _
    unfold offLoop
    rw [hc.fl]
    dsimp only
    rw [k1]
    simp
    rfl
  | cons x w ih =>
    intro c a h
    obtain ⟨hc, k1⟩ := let_imsx (b := true) (kc := none) (h c (.head _))
    obtain ⟨hx, _⟩ := let_imsx (b := true) (kc := none) (h x (.tail _ (.head _)))
    show offLoop (ch1 x :: (w.map ch1 ++ (":" : Str) :: L)) (ch1 c) a = _
    unfold offLoop
    rw [hc.fl]
    dsimp only
    rw [k1, hx.col, hx.fl]
    simp only [bne_self_eq_false, Bool.false_eq_true, if_false, Option.isSome_some, if_true]
    rw [ih x _ (fun y hy => h y (.tail _ hy))]
    rfl
theorem con1 {x : Str} {c : Nat} : Txt.contains x (ch1 c) = decide (c ∈ x.cps.toList) := PySem.StrLaws.found_one x c
end Mine
namespace Mine
open PySem PySem.W PyProof.Rows PySem.Calls PySem.Spec
structure GpOk (b : Bool) (on off : List Nat) : Prop where
  onK : ∃ kc, kcOk b kc ∧ ∀ x ∈ on, x ∈ imsx ∨ some x = kc
  offK : ∀ x ∈ off, x ∈ imsx
  dis : ∀ x ∈ on, x ∉ off
  ne : on ≠ [] ∨ off ≠ []
theorem gp_let {b : Bool} {on off : List Nat} (h : GpOk b on off) : ∃ kc, kcOk b kc ∧ ∀ x ∈ on, LetOk b kc x := by
  obtain ⟨kc, h1, h2⟩ := h.onK
  exact ⟨kc, h1, fun x hx => (h2 x hx).elim (fun q => (let_imsx q).1) (let_kc h1)⟩
theorem flg_bit {x : Nat} (j : Nat) (hx : flg x ≠ 128) (h : 0 ≤ flg x ∧ flg x < 512) : tb (flg x) 7 = false ∧ (9 ≤ j → tb (flg x) j = false) := by
  refine ⟨?_, fun hj => tb_lt h.1 h.2 hj⟩
  unfold flg at hx ⊢
  repeat' split
  all_goals first | decide | (exfalso; simp_all)
theorem orB_128 {w : List Nat} (h : ∀ x ∈ w, 0 ≤ flg x ∧ flg x < 512 ∧ flg x ≠ 128) : Builtin.bitAnd (orB w 0) 128 = 0 := tb_ext fun j => by
  rw [tb_and, tb_orB, tb_zero, Bool.false_or]
  by_cases hj : j = 7
  · subst hj
    have : (w.any fun x => tb (flg x) 7) = false := List.any_eq_false.mpr fun x hx => by
      have z := h x hx
      rw [(flg_bit 0 z.2.2 ⟨z.1, z.2.1⟩).1]; decide
    rw [this]; rfl
  · have e : tb 128 j = false := by
      by_cases h9 : j < 9
      · match j, h9, hj with
        | 0, _, _ => decide
        | 1, _, _ => decide
        | 2, _, _ => decide
        | 3, _, _ => decide
        | 4, _, _ => decide
        | 5, _, _ => decide
        | 6, _, _ => decide
        | 8, _, _ => decide
        | 7, _, hj => exact absurd rfl hj
      · exact tb_lt (by decide) (by decide) (by omega)
    rw [e, Bool.and_false]
theorem flg_apart {x y j : Nat} (hx : x ∈ [105, 76, 109, 115, 117, 120, 97]) (hy : y ∈ [105, 76, 109, 115, 117, 120, 97]) (h : x ≠ y) : (tb (flg x) j && tb (flg y) j) = false := by
  by_cases hj : j < 9
  · have key : ∀ x ∈ [105, 76, 109, 115, 117, 120, 97], ∀ y ∈ [105, 76, 109, 115, 117, 120, 97], x ≠ y → ∀ j : Fin 9, (tb (flg x) j && tb (flg y) j) = false := by decide +kernel
    exact key x hx y hy h ⟨j, hj⟩
  · have key : ∀ x ∈ [105, 76, 109, 115, 117, 120, 97], 0 ≤ flg x ∧ flg x < 512 := by decide
    obtain ⟨k1, k2⟩ := key x hx
    rw [tb_lt k1 k2 (by omega)]; rfl
theorem on_let {b : Bool} {on off : List Nat} (h : GpOk b on off) {x : Nat} (hx : x ∈ on) : x ∈ [105, 76, 109, 115, 117, 120, 97] := by
  obtain ⟨kc, h1, h2⟩ := h.onK
  rcases h2 x hx with q | q
  · simp only [imsx, List.mem_cons, List.not_mem_nil, or_false] at q ⊢; omega
  · rcases h1 with h1 | h1 | h1
    · rw [h1] at q; cases q
    · rw [h1] at q; cases q; decide
    · rw [h1] at q; cases q; cases b <;> decide
theorem off_let {b : Bool} {on off : List Nat} (h : GpOk b on off) {x : Nat} (hx : x ∈ off) : x ∈ [105, 76, 109, 115, 117, 120, 97] := by
  have q := h.offK x hx
  simp only [imsx, List.mem_cons, List.not_mem_nil, or_false] at q ⊢; omega
theorem on_off_apart {b : Bool} {on off : List Nat} (h : GpOk b on off) : Builtin.bitAnd (orB on 0) (orB off 0) = 0 := tb_ext fun j => by
  rw [tb_and, tb_orB, tb_orB, tb_zero, Bool.false_or, Bool.false_or]
  cases q1 : (on.any fun x => tb (flg x) j) with
  | false => rfl
  | true =>
    cases q2 : (off.any fun x => tb (flg x) j) with
    | false => rfl
    | true =>
      obtain ⟨x, hx, hx2⟩ := List.any_eq_true.mp q1
      obtain ⟨y, hy, hy2⟩ := List.any_eq_true.mp q2
      have z := flg_apart (j := j) (on_let h hx) (off_let h hy) (fun e => h.dis x hx (e ▸ hy))
      rw [hx2, hy2] at z; cases z
def grpToks (on off : List Nat) : List Str := on.map ch1 ++ (if off = [] then [] else ("-" : Str) :: off.map ch1) ++ [(":" : Str)]
theorem grp_read {b : Bool} {on off : List Nat} (h : GpOk b on off) (L : List Str) : ∃ ch L1 c1 acc L2, grpToks on off ++ L = ch :: L1 ∧ pfOn b ch L1 = some (c1, acc, L2) ∧ PfEnd c1 acc L2 (.tup [.int (orB on 0), .int (orB off 0)]) none L := by
  obtain ⟨kc, hk, hl⟩ := gp_let h
  have hon128 : Builtin.bitAnd (orB on 0) 128 = 0 := orB_128 fun x hx => (hl x hx).small
  have hoff128 : Builtin.bitAnd (orB off 0) 128 = 0 := orB_128 fun x hx => (let_imsx (b := b) (kc := none) (h.offK x hx)).1.small
  have offEnd : ∀ (o : Nat) (os : List Nat), off = o :: os → ∀ acc, acc = orB on 0 → PfEnd "-" acc (ch1 o :: (os.map ch1 ++ (":" : Str) :: L)) (.tup [.int acc, .int (orB off 0)]) none L := by
    intro o os e acc ha
    subst ha
    refine .off hon128 ?_ ?_ hoff128 (on_off_apart h)
    · rw [(let_imsx (b := b) (kc := none) (h.offK o (by rw [e]; exact .head _))).1.fl]; rfl
    · rw [off_run os o 0 (fun x hx => h.offK x (by rw [e]; exact hx)), e]
  cases on with
  | nil =>
    cases off with
    | nil => exact absurd h.ne (by simp)
    | cons o os =>
      refine ⟨"-", ch1 o :: (os.map ch1 ++ (":" : Str) :: L), "-", 0, ch1 o :: (os.map ch1 ++ (":" : Str) :: L), ?_, ?_, offEnd o os rfl 0 rfl⟩
      · unfold grpToks
        simp
      · unfold pfOn; rw [if_pos (by rfl)]
  | cons c w =>
    have hc := hl c (.head _)
    have hd : ¬ ((ch1 c == ("-" : Str)) = true) := by rw [hc.dash]; decide
    cases off with
    | nil =>
      refine ⟨ch1 c, w.map ch1 ++ (":" : Str) :: L, ":", orB (c :: w) 0, L, ?_, ?_, ?_⟩
      · unfold grpToks; simp
      · unfold pfOn
        rw [if_neg hd]
        exact on_run (by kernel_rfl) w c 0 hl (.inl zero_and)
      · exact .colon hon128 and_zero
    | cons o os =>
      refine ⟨ch1 c, w.map ch1 ++ (("-" : Str) :: (ch1 o :: (os.map ch1 ++ (":" : Str) :: L))), "-", orB (c :: w) 0, ch1 o :: (os.map ch1 ++ (":" : Str) :: L), ?_, ?_, ?_⟩
      · unfold grpToks; simp
      · unfold pfOn
        rw [if_neg hd]
        exact on_run (by kernel_rfl) w c 0 hl (.inl zero_and)
      · exact offEnd o os rfl _ rfl
end Mine
namespace Mine
open PySem PySem.W PyProof.Rows PySem.Calls PySem.Spec
abbrev ls (x : Str) : List Nat := x.cps.toList
theorem ls_app {x y : Str} : ls (x ++ y) = ls x ++ ls y := by show (x.cps ++ y.cps).toList = _; exact Array.toList_append ..
theorem singles_app {x y : Str} : singles (x ++ y) = singles x ++ singles y := by unfold singles; rw [show (x ++ y).cps.toList = ls x ++ ls y from ls_app, List.map_append]
theorem isE_iff {x : Str} : isE x = true ↔ ls x = [] := by
  have e : (ls x).length = x.length := Array.length_toList
  unfold isE
  rw [Bool.not_eq_true', bne_eq_false_iff_eq, ← List.length_eq_zero_iff, e]
  omega
theorem any_bit {w : List Nat} {c j : Nat} (hw : ∀ x ∈ w, x ∈ [105, 76, 109, 115, 117, 120, 97]) (hc : c ∈ [105, 76, 109, 115, 117, 120, 97]) (h : tb (flg c) j = true) : (w.any fun x => tb (flg x) j) = decide (c ∈ w) := by
  by_cases hm : c ∈ w
  · rw [decide_eq_true hm]; exact List.any_eq_true.mpr ⟨c, hm, h⟩
  · rw [decide_eq_false hm]
    refine List.any_eq_false.mpr fun x hx hxt => ?_
    have z := flg_apart (j := j) (hw x hx) hc (fun e => hm (e ▸ hx))
    rw [hxt, h] at z; cases z
theorem any_none {w : List Nat} {j : Nat} (hw : ∀ x ∈ w, x ∈ [105, 76, 109, 115, 117, 120, 97]) (h : ∀ c ∈ [105, 76, 109, 115, 117, 120, 97], tb (flg c) j = false) : (w.any fun x => tb (flg x) j) = false :=
  List.any_eq_false.mpr fun x hx => by rw [h x (hw x hx)]; decide
theorem kind_test {b : Bool} {on off : List Nat} (h : GpOk b on off) : (Builtin.bitAnd (orB on 0) 292 != 0) = (decide (76 ∈ on) || decide (117 ∈ on) || decide (97 ∈ on)) := by
  have hw : ∀ x ∈ on, x ∈ [105, 76, 109, 115, 117, 120, 97] := fun x => on_let h
  have t2 : tb (Builtin.bitAnd (orB on 0) 292) 2 = decide (76 ∈ on) := by rw [tb_and, tb_orB, tb_zero, Bool.false_or, any_bit hw (c := 76) (by decide) (by decide +kernel), tb292]; simp
  have t5 : tb (Builtin.bitAnd (orB on 0) 292) 5 = decide (117 ∈ on) := by rw [tb_and, tb_orB, tb_zero, Bool.false_or, any_bit hw (c := 117) (by decide) (by decide +kernel), tb292]; simp
  have t8 : tb (Builtin.bitAnd (orB on 0) 292) 8 = decide (97 ∈ on) := by rw [tb_and, tb_orB, tb_zero, Bool.false_or, any_bit hw (c := 97) (by decide) (by decide +kernel), tb292]; simp
  cases q : (Builtin.bitAnd (orB on 0) 292 != 0) with
  | false =>
    have e : Builtin.bitAnd (orB on 0) 292 = 0 := by simpa using q
    rw [e, tb_zero] at t2 t5 t8
    rw [← t2, ← t5, ← t8]; rfl
  | true =>
    have ne : Builtin.bitAnd (orB on 0) 292 ≠ 0 := by simpa using q
    symm
    apply Classical.byContradiction
    intro hc
    have hc' : (decide (76 ∈ on) || decide (117 ∈ on) || decide (97 ∈ on)) = false := by simpa using hc
    simp only [Bool.or_eq_false_iff] at hc'
    apply ne
    refine tb_ext fun j => ?_
    rw [tb_zero]
    by_cases h2 : j = 2
    · subst h2; rw [t2]; exact hc'.1.1
    by_cases h5 : j = 5
    · subst h5; rw [t5]; exact hc'.1.2
    by_cases h8 : j = 8
    · subst h8; rw [t8]; exact hc'.2
    rw [tb_and, tb292]
    simp [h2, h5, h8]
end Mine
namespace Mine
open PySem PySem.W PyProof.Rows PySem.Calls PySem.Spec
structure DgOk (a : Dg) (dn : List Nat) : Prop where
  on : ∀ x ∈ ls a.on, x ∈ dn
  off : ∀ x ∈ ls a.off, x ∈ dn
  dis : ∀ x ∈ ls a.on, x ∉ ls a.off
theorem ls_ch {c : Nat} : ls (ch1 c) = [c] := rfl
theorem dig_ok {a : Dg} {dn : List Nat} {c : Nat} (h : DgOk a dn) (hc : c ∉ dn) : DgOk (digStep a (ch1 c)) (dn ++ [c]) := by
  unfold digStep
  cases q1 : (a.d.fmod 3 == 1) with
  | true =>
    have q2 : (a.d.fmod 3 == 2) = false := by
      have e : a.d.fmod 3 = 1 := by simpa using q1
      rw [e]; rfl
    refine ⟨?_, ?_, ?_⟩
    · intro x hx
      simp only [q1, if_true] at hx
      rw [ls_app, ls_ch, List.mem_append] at hx
      rcases hx with hx | hx
      · exact List.mem_append_left _ (h.on x hx)
      · exact List.mem_append_right _ hx
    · intro x hx
      simp only [q2, Bool.false_eq_true, if_false] at hx
      exact List.mem_append_left _ (h.off x hx)
    · intro x hx hx2
      simp only [q1, if_true] at hx
      simp only [q2, Bool.false_eq_true, if_false] at hx2
      rw [ls_app, ls_ch, List.mem_append, List.mem_singleton] at hx
      rcases hx with hx | rfl
      · exact h.dis x hx hx2
      · exact hc (h.off _ hx2)
  | false =>
    cases q2 : (a.d.fmod 3 == 2) with
    | true =>
      refine ⟨?_, ?_, ?_⟩
      · intro x hx
        simp only [q1, Bool.false_eq_true, if_false] at hx
        exact List.mem_append_left _ (h.on x hx)
      · intro x hx
        simp only [q2, if_true] at hx
        rw [ls_app, ls_ch, List.mem_append] at hx
        rcases hx with hx | hx
        · exact List.mem_append_left _ (h.off x hx)
        · exact List.mem_append_right _ hx
      · intro x hx hx2
        simp only [q1, Bool.false_eq_true, if_false] at hx
        simp only [q2, if_true] at hx2
        rw [ls_app, ls_ch, List.mem_append, List.mem_singleton] at hx2
        rcases hx2 with hx2 | rfl
        · exact h.dis x hx hx2
        · exact hc (h.on _ hx)
    | false =>
      refine ⟨?_, ?_, ?_⟩
      · intro x hx
        simp only [q1, Bool.false_eq_true, if_false] at hx
        exact List.mem_append_left _ (h.on x hx)
      · intro x hx
        simp only [q2, Bool.false_eq_true, if_false] at hx
        exact List.mem_append_left _ (h.off x hx)
      · intro x hx hx2
        simp only [q1, Bool.false_eq_true, if_false] at hx
        simp only [q2, Bool.false_eq_true, if_false] at hx2
        exact h.dis x hx hx2
theorem dg_ok (d : Int) : DgOk (dgOf d) [105, 109, 115, 120] := by
  have : signs "imsx" = [.str (ch1 105), .str (ch1 109), .str (ch1 115), .str (ch1 120)] := by kernel_rfl
  unfold dgOf
  rw [this]
  simp only [List.foldl_cons, List.foldl_nil, unS]
  have h0 : DgOk ⟨d, "", ""⟩ [] := ⟨(fun x hx => nomatch hx), (fun x hx => nomatch hx), (fun x hx => nomatch hx)⟩
  exact dig_ok (dig_ok (dig_ok (dig_ok h0 (c := 105) (by decide)) (c := 109) (by decide)) (c := 115) (by decide)) (c := 120) (by decide)
theorem rev_mem {x : Str} {c : Nat} (h : c ∈ ls (revS x)) : c ∈ ls x := by
  unfold revS sliceS at h
  rw [if_neg (by simp)] at h
  have h' : c ∈ List.filterMap (fun k => x.cps[k]?) _ := h
  obtain ⟨k, _, hk⟩ := List.mem_filterMap.mp h'
  obtain ⟨h1, h2⟩ := Array.getElem?_eq_some_iff.mp hk
  rw [← h2]
  exact Array.mem_toList_iff.mpr (Array.getElem_mem h1)
structure Gr1 (b : Bool) (on off : List Nat) : Prop where
  onK : ∃ kc, kcOk b kc ∧ ∀ x ∈ on, x ∈ imsx ∨ some x = kc
  offK : ∀ x ∈ off, x ∈ imsx
  dis : ∀ x ∈ on, x ∉ off
theorem g1_mono {b : Bool} {on off on' off' : List Nat} (h : Gr1 b on off) (h1 : ∀ x ∈ on', x ∈ on) (h2 : ∀ x ∈ off', x ∈ off) : Gr1 b on' off' := by
  obtain ⟨kc, a, k⟩ := h.onK
  exact ⟨⟨kc, a, fun x hx => k x (h1 x hx)⟩, fun x hx => h.offK x (h2 x hx), fun x hx hy => h.dis x (h1 x hx) (h2 x hy)⟩
def ownT (b : Bool) : Str := ch1 (ownN b)
theorem gp2_ok {b : Bool} {p v : Int} : Gr1 b (ls (gp2 (ownT b) p v).on) (ls (gp2 (ownT b) p v).off) := by
  have h := dg_ok v
  have sub : ∀ x ∈ [105, 109, 115, 120], x ∈ imsx := by decide
  have hp : ∃ kc, kcOk b kc ∧ ∀ x ∈ ls (pick4 (ownT b) (p.fmod 4)), some x = kc := by
    unfold pick4
    split
    · exact ⟨none, .inl rfl, (fun x hx => nomatch hx)⟩
    · exact ⟨none, .inl rfl, (fun x hx => nomatch hx)⟩
    · exact ⟨some 97, .inr (.inl rfl), fun x hx => by have : x ∈ [97] := hx; rw [List.mem_singleton.mp this]⟩
    · exact ⟨some (ownN b), .inr (.inr rfl), fun x hx => by have : x ∈ [ownN b] := hx; rw [List.mem_singleton.mp this]⟩
  obtain ⟨kc, a, hk⟩ := hp
  have base : Gr1 b (ls (dgOf v).on ++ ls (pick4 (ownT b) (p.fmod 4))) (ls (dgOf v).off) := by
    refine ⟨⟨kc, a, fun x hx => ?_⟩, fun x hx => sub x (h.off x hx), fun x hx hy => ?_⟩
    · rcases List.mem_append.mp hx with hx | hx
      · exact .inl (sub x (h.on x hx))
      · exact .inr (hk x hx)
    · rcases List.mem_append.mp hx with hx | hx
      · exact h.dis x hx hy
      · have hi := sub x (h.off x hy)
        have e := hk x hx
        subst e
        rcases a with a | a | a
        · cases a
        · cases a; exact absurd hi (by decide)
        · cases a; cases b <;> exact absurd hi (by decide)
  unfold gp2
  split
  · refine g1_mono base (fun x hx => ?_) (fun x hx => ?_)
    · dsimp only at hx
      rw [ls_app, ls_app] at hx
      rcases List.mem_append.mp hx with hx | hx
      · rcases List.mem_append.mp hx with hx | hx
        · exact List.mem_append_right _ hx
        · exact List.mem_append_left _ (rev_mem hx)
      · exact List.mem_append_right _ hx
    · dsimp only at hx
      rw [ls_app] at hx
      exact (List.mem_append.mp hx).elim rev_mem id
  · dsimp only
    rw [ls_app]; exact base
theorem gp3_ok {b : Bool} {g : Gp} (h : Gr1 b (ls g.on) (ls g.off)) : GpOk b (ls (gp3 g).on) (ls (gp3 g).off) := by
  unfold gp3
  cases q : (isE g.on && isE g.off) with
  | true =>
    rw [Bool.and_eq_true] at q
    have e := isE_iff.mp q.1
    simp only [if_true]
    rw [e]
    exact ⟨⟨none, .inl rfl, fun x hx => nomatch hx⟩, (fun x hx => by have : x ∈ [120] := hx; rw [List.mem_singleton.mp this]; decide), (fun x hx _ => nomatch hx), .inr (by show [120] ≠ []; decide)⟩
  | false =>
    simp only [Bool.false_eq_true, if_false]
    refine ⟨h.onK, h.offK, h.dis, ?_⟩
    rw [Bool.and_eq_false_iff] at q
    rcases q with q | q
    · exact .inl fun e => by rw [isE_iff.mpr e] at q; cases q
    · exact .inr fun e => by rw [isE_iff.mpr e] at q; cases q
theorem gp_ok {b : Bool} {nums : List Int} {k : Nat} {v : Int} : GpOk b (ls (gpOf (ownT b) nums k v).on) (ls (gpOf (ownT b) nums k v).off) := gp3_ok gp2_ok
theorem gpText_toks {g : Gp} : singles (gpText g) = ("(" : Str) :: ("?" : Str) :: (grpToks (ls g.on) (ls g.off) ++ [("b" : Str)]) := by
  unfold gpText
  rw [singles_app, singles_app, singles_app]
  have e1 : singles ("(?" : Str) = [("(" : Str), ("?" : Str)] := by kernel_rfl
  have e2 : singles (":b" : Str) = [(":" : Str), ("b" : Str)] := by kernel_rfl
  rw [e1, e2]
  unfold grpToks gpOff
  have e3 : singles g.on = (ls g.on).map ch1 := rfl
  rw [e3]
  cases q : isE g.off with
  | true =>
    rw [isE_iff.mp q]
    simp only [if_true]
    have : singles ("" : Str) = [] := by kernel_rfl
    rw [this]; simp
  | false =>
    have ne : ls g.off ≠ [] := fun e => by rw [isE_iff.mpr e] at q; cases q
    simp only [Bool.false_eq_true, if_false]
    rw [if_neg ne, singles_app]
    have : singles ("-" : Str) = [("-" : Str)] := by kernel_rfl
    rw [this]
    have e4 : singles g.off = (ls g.off).map ch1 := rfl
    rw [e4]; simp
theorem one_toks {ups downs : Str} : singles (oneText ups downs) = grpToks (ls ups) (ls downs) := by
  unfold oneText
  rw [singles_app, singles_app]
  have e2 : singles (":" : Str) = [(":" : Str)] := by kernel_rfl
  rw [e2]
  unfold grpToks dashOf
  have e3 : singles ups = (ls ups).map ch1 := rfl
  rw [e3]
  cases q : isE downs with
  | true =>
    rw [isE_iff.mp q]
    simp only [if_true]
    have : singles ("" : Str) = [] := by kernel_rfl
    rw [this]
  | false =>
    have ne : ls downs ≠ [] := fun e => by rw [isE_iff.mpr e] at q; cases q
    simp only [Bool.false_eq_true, if_false]
    rw [if_neg ne, singles_app]
    have : singles ("-" : Str) = [("-" : Str)] := by kernel_rfl
    rw [this]; rfl
end Mine
namespace Mine
open PySem PySem.W PyProof.Rows PySem.Calls PySem.Spec
theorem ch1_inj {a b : Nat} (h : ch1 a = ch1 b) : a = b := by
  have : (ch1 a).cps = (ch1 b).cps := by rw [h]
  simpa using this
theorem mem_putI {k : Str} {v : Int} {p : Str × Int} : ∀ {kv : Last}, (kv.map (·.1)).Nodup → (p ∈ putI k v kv ↔ p = (k, v) ∨ (p ∈ kv ∧ p.1 ≠ k))
  | [], _ => by unfold putI; simp
  | (a, d) :: l, h => by
    rw [List.map_cons, List.nodup_cons] at h
    unfold putI
    by_cases e : a = k
    · rw [if_pos e]
      subst e
      rw [List.mem_cons, List.mem_cons]
      constructor
      · rintro (rfl | hp)
        · exact .inl rfl
        · exact .inr ⟨.inr hp, fun e => h.1 (e ▸ List.mem_map.mpr ⟨p, hp, rfl⟩)⟩
      · rintro (rfl | ⟨rfl | hp, hne⟩)
        · exact .inl rfl
        · exact absurd rfl hne
        · exact .inr hp
    · rw [if_neg e, List.mem_cons, mem_putI h.2, List.mem_cons]
      constructor
      · rintro (rfl | rfl | ⟨hp, hne⟩)
        · exact .inr ⟨.inl rfl, e⟩
        · exact .inl rfl
        · exact .inr ⟨.inr hp, hne⟩
      · rintro (rfl | ⟨rfl | hp, hne⟩)
        · exact .inr (.inl rfl)
        · exact .inl rfl
        · exact .inr (.inr ⟨hp, hne⟩)
theorem mem_strip {p : Str × Int} {kv : Last} : p ∈ stripI kv ↔ p ∈ kv ∧ isK p.1 = false := by
  unfold stripI
  rw [List.mem_filter]
  constructor
  · rintro ⟨a, b⟩; exact ⟨a, by simpa using b⟩
  · rintro ⟨a, b⟩; exact ⟨a, by simp [b]⟩
abbrev kn (x : Nat) : Bool := isK (ch1 x)
theorem on_step {a : Ls} {c x : Nat} {v : Int} (h : (a.2.map (·.1)).Nodup) : (ch1 x, v) ∈ (onStep a (ch1 c)).2 ↔ (x = c ∧ v = 1) ∨ (x ≠ c ∧ (ch1 x, v) ∈ a.2 ∧ ¬ (kn c = true ∧ kn x = true)) := by
  have inj : ((ch1 x, v) = (ch1 c, (1 : Int))) ↔ x = c ∧ v = 1 := by
    constructor
    · intro e; rw [Prod.mk.injEq] at e; exact ⟨ch1_inj e.1, e.2⟩
    · rintro ⟨rfl, rfl⟩; rfl
  have ne : (ch1 x ≠ ch1 c) ↔ x ≠ c := ⟨fun h e => h (by rw [e]), fun h e => h (ch1_inj e)⟩
  unfold onStep
  cases q : isK (ch1 c) with
  | true =>
    rw [if_pos rfl, mem_putI (strip_keys h), inj, mem_strip]
    dsimp only
    rw [ne]
    have : kn c = true := q
    constructor
    · rintro (h1 | ⟨⟨h1, h2⟩, h3⟩)
      · exact .inl h1
      · exact .inr ⟨h3, h1, fun e => by have := e.2; rw [show kn x = false from h2] at this; cases this⟩
    · rintro (h1 | ⟨h1, h2, h3⟩)
      · exact .inl h1
      · exact .inr ⟨⟨h2, by cases r : isK (ch1 x) with | false => rfl | true => exact absurd ⟨this, r⟩ h3⟩, h1⟩
  | false =>
    rw [if_neg (by decide), mem_putI h, inj]
    dsimp only
    rw [ne]
    have : kn c = false := q
    constructor
    · rintro (h1 | ⟨h1, h2⟩)
      · exact .inl h1
      · exact .inr ⟨h2, h1, fun e => by rw [this] at e; cases e.1⟩
    · rintro (h1 | ⟨h1, h2, h3⟩)
      · exact .inl h1
      · exact .inr ⟨h2, h1⟩
theorem on_nd {a : Ls} {ch : Str} (h : (a.2.map (·.1)).Nodup) : ((onStep a ch).2.map (·.1)).Nodup := by
  unfold onStep
  split
  · exact (putI_keys (strip_keys h)).1
  · exact (putI_keys h).1
theorem on_mem {kc : Option Nat} : ∀ (w : List Nat) (a : Ls), (a.2.map (·.1)).Nodup → (∀ y ∈ w, kn y = true → some y = kc) → ∀ (x : Nat) (v : Int),
    (ch1 x, v) ∈ (w.foldl (fun a y => onStep a (ch1 y)) a).2 ↔ (x ∈ w ∧ v = 1) ∨ (x ∉ w ∧ (ch1 x, v) ∈ a.2 ∧ ¬ (kn x = true ∧ ∃ y ∈ w, kn y = true))
  | [], a, _, _, x, v => by simp
  | c :: w, a, h, hk, x, v => by
    rw [List.foldl_cons, on_mem w _ (on_nd h) (fun y hy => hk y (.tail _ hy)), on_step h]
    constructor
    · rintro (⟨h1, h2⟩ | ⟨h1, ⟨rfl, h2⟩ | ⟨h2, h3, h4⟩, h5⟩)
      · exact .inl ⟨.tail _ h1, h2⟩
      · exact .inl ⟨.head _, h2⟩
      · refine .inr ⟨fun hm => (List.mem_cons.mp hm).elim h2 h1, h3, fun ⟨e1, y, hy, e2⟩ => ?_⟩
        rcases List.mem_cons.mp hy with rfl | hy
        · exact h4 ⟨e2, e1⟩
        · exact h5 ⟨e1, y, hy, e2⟩
    · rintro (⟨h1, h2⟩ | ⟨h1, h2, h3⟩)
      · by_cases hm : x ∈ w
        · exact .inl ⟨hm, h2⟩
        · rcases List.mem_cons.mp h1 with rfl | h1
          · refine .inr ⟨hm, .inl ⟨rfl, h2⟩, fun ⟨e1, y, hy, e2⟩ => hm ?_⟩
            have z1 := hk x (.head _) e1
            have z2 := hk y (.tail _ hy) e2
            have : x = y := Option.some.inj (z1.trans z2.symm)
            rw [this]; exact hy
          · exact absurd h1 hm
      · have hx : x ≠ c := fun e => h1 (e ▸ .head _)
        refine .inr ⟨fun hm => h1 (.tail _ hm), .inr ⟨hx, h2, fun ⟨e1, e2⟩ => h3 ⟨e2, c, .head _, e1⟩⟩, fun ⟨e1, y, hy, e2⟩ => h3 ⟨e1, y, .tail _ hy, e2⟩⟩
theorem off_nd {a : Ls} {ch : Str} (h : (a.2.map (·.1)).Nodup) : ((offStep a ch).2.map (·.1)).Nodup := (putI_keys h).1
theorem off_mem : ∀ (w : List Nat) (a : Ls), (a.2.map (·.1)).Nodup → ∀ (x : Nat) (v : Int),
    (ch1 x, v) ∈ (w.foldl (fun a y => offStep a (ch1 y)) a).2 ↔ (x ∈ w ∧ v = 0) ∨ (x ∉ w ∧ (ch1 x, v) ∈ a.2)
  | [], a, _, x, v => by simp
  | c :: w, a, h, x, v => by
    have inj : ((ch1 x, v) = (ch1 c, (0 : Int))) ↔ x = c ∧ v = 0 := by
      constructor
      · intro e; rw [Prod.mk.injEq] at e; exact ⟨ch1_inj e.1, e.2⟩
      · rintro ⟨rfl, rfl⟩; rfl
    have ne : (ch1 x ≠ ch1 c) ↔ x ≠ c := ⟨fun h e => h (by rw [e]), fun h e => h (ch1_inj e)⟩
    have st : (ch1 x, v) ∈ (offStep a (ch1 c)).2 ↔ (x = c ∧ v = 0) ∨ ((ch1 x, v) ∈ a.2 ∧ x ≠ c) := by
      show (ch1 x, v) ∈ putI (ch1 c) 0 a.2 ↔ _
      rw [mem_putI h, inj]
      dsimp only
      rw [ne]
    rw [List.foldl_cons, off_mem w _ (off_nd h), st]
    constructor
    · rintro (⟨h1, h2⟩ | ⟨h1, ⟨rfl, h2⟩ | ⟨h2, h3⟩⟩)
      · exact .inl ⟨.tail _ h1, h2⟩
      · exact .inl ⟨.head _, h2⟩
      · exact .inr ⟨fun hm => (List.mem_cons.mp hm).elim h3 h1, h2⟩
    · rintro (⟨h1, h2⟩ | ⟨h1, h2⟩)
      · by_cases hm : x ∈ w
        · exact .inl ⟨hm, h2⟩
        · rcases List.mem_cons.mp h1 with rfl | h1
          · exact .inr ⟨hm, .inl ⟨rfl, h2⟩⟩
          · exact absurd h1 hm
      · exact .inr ⟨fun hm => h1 (.tail _ hm), .inr ⟨h2, fun e => h1 (e ▸ .head _)⟩⟩
theorem signs_ls {x : Str} : signs x = (ls x).map fun c => D.str (ch1 c) := rfl
theorem onAll_ls {on : Str} {a : Ls} : onAll on a = (ls on).foldl (fun a y => onStep a (ch1 y)) a := by unfold onAll; rw [signs_ls, List.foldl_map]; rfl
theorem offAll_ls {off : Str} {a : Ls} : offAll off a = (ls off).foldl (fun a y => offStep a (ch1 y)) a := by unfold offAll; rw [signs_ls, List.foldl_map]; rfl
end Mine
namespace Mine
open PySem PySem.W PyProof.Rows PySem.Calls PySem.Spec
theorem lets_single {v : Int} : ∀ {kv : Last}, (∀ p ∈ kv, ∃ x, p.1 = ch1 x) → (kv.map (·.1)).Nodup → ∃ w : List Nat, letsOf v kv = w.map ch1 ∧ (∀ x, x ∈ w ↔ (ch1 x, v) ∈ kv) ∧ w.Nodup
  | [], _, _ => ⟨[], rfl, fun x => by simp, List.nodup_nil⟩
  | (k, d) :: kv, hs, nd => by
    rw [List.map_cons, List.nodup_cons] at nd
    obtain ⟨w, e, hm, hn⟩ := lets_single (v := v) (kv := kv) (fun p hp => hs p (.tail _ hp)) nd.2
    obtain ⟨y, rfl⟩ : ∃ y, k = ch1 y := hs (k, d) (.head _)
    have hy : y ∉ w := fun h => nd.1 (List.mem_map.mpr ⟨(ch1 y, v), (hm y).mp h, rfl⟩)
    unfold letsOf at e ⊢
    by_cases q : d = v
    · subst q
      refine ⟨y :: w, ?_, fun x => ?_, List.nodup_cons.mpr ⟨hy, hn⟩⟩
      · rw [List.filter_cons_of_pos (by simp), List.map_cons, e]; rfl
      · rw [List.mem_cons, List.mem_cons, hm, Prod.mk.injEq]
        constructor
        · rintro (rfl | h)
          · exact .inl ⟨rfl, rfl⟩
          · exact .inr h
        · rintro (⟨h, _⟩ | h)
          · exact .inl (ch1_inj h)
          · exact .inr h
    · refine ⟨w, ?_, fun x => ?_, hn⟩
      · rw [List.filter_cons_of_neg (by simpa using q), e]
      · rw [List.mem_cons, hm, Prod.mk.injEq]
        constructor
        · exact .inr
        · rintro (⟨_, h⟩ | h)
          · exact absurd h.symm q
          · exact h
theorem bit_ch {c : Nat} (h : c ∈ [105, 76, 109, 115, 117, 120, 97]) : getD? (ch1 c) bits6 = some (.int (bitOf (ch1 c))) ∧ bitOf (ch1 c) = flg c := by
  simp only [List.mem_cons, List.not_mem_nil, or_false] at h
  rcases h with rfl | rfl | rfl | rfl | rfl | rfl | rfl <;> exact ⟨by kernel_rfl, by kernel_rfl⟩
theorem lets_okS {x : Str} (h : ∀ c ∈ ls x, c ∈ [105, 76, 109, 115, 117, 120, 97]) : LetsOk x ∧ bitsOf x = (ls x).map flg := by
  refine ⟨fun d hd => ?_, ?_⟩
  · rw [signs_ls] at hd
    obtain ⟨c, hc, rfl⟩ := List.mem_map.mp hd
    exact ⟨ch1 c, rfl, (bit_ch (h c hc)).1⟩
  · unfold bitsOf
    rw [signs_ls, List.map_map]
    exact List.map_congr_left fun c hc => (bit_ch (h c hc)).2
end Mine
namespace Mine
open PySem PySem.W PyProof.Rows PySem.Calls PySem.Spec
theorem or_add_all : ∀ a : Fin 512, ∀ x ∈ [105, 76, 109, 115, 117, 120, 97], Builtin.bitAnd ((a.val : Nat) : Int) (flg x) = 0 → Builtin.bitOr ((a.val : Nat) : Int) (flg x) = ((a.val : Nat) : Int) + flg x ∧ Builtin.bitOr ((a.val : Nat) : Int) (flg x) < 512 := by decide +kernel
theorem or_add {a : Int} {x : Nat} (h0 : 0 ≤ a) (h1 : a < 512) (hx : x ∈ [105, 76, 109, 115, 117, 120, 97]) (h : Builtin.bitAnd a (flg x) = 0) : Builtin.bitOr a (flg x) = a + flg x ∧ Builtin.bitOr a (flg x) < 512 := by
  obtain ⟨n, rfl⟩ := Int.eq_ofNat_of_zero_le h0
  exact or_add_all ⟨n, by omega⟩ x hx h
theorem flg_pos : ∀ x ∈ [105, 76, 109, 115, 117, 120, 97], 0 ≤ flg x := by decide
theorem orB_sum : ∀ (w : List Nat) (a : Int), 0 ≤ a → a < 512 → (∀ x ∈ w, x ∈ [105, 76, 109, 115, 117, 120, 97]) → w.Nodup → (∀ x ∈ w, Builtin.bitAnd a (flg x) = 0) → orB w a = a + (w.map flg).sum ∧ 0 ≤ orB w a ∧ orB w a < 512
  | [], a, h0, h1, _, _, _ => ⟨by show a = a + 0; omega, h0, h1⟩
  | x :: w, a, h0, h1, hw, nd, hd => by
    have hx := hw x (.head _)
    obtain ⟨e, l⟩ := or_add h0 h1 hx (hd x (.head _))
    have fp := flg_pos x hx
    rw [List.nodup_cons] at nd
    have z := orB_sum w (Builtin.bitOr a (flg x)) (by rw [e]; omega) l (fun y hy => hw y (.tail _ hy)) nd.2 (fun y hy => by
      refine tb_ext fun j => ?_
      have q1 : tb (Builtin.bitAnd a (flg y)) j = false := by rw [hd y (.tail _ hy), tb_zero]
      have q2 := flg_apart (j := j) hx (hw y (.tail _ hy)) (fun e => nd.1 (e ▸ hy))
      rw [tb_and] at q1
      rw [tb_and, tb_or, tb_zero]
      revert q1 q2
      cases tb a j <;> cases tb (flg x) j <;> cases tb (flg y) j <;> simp)
    rw [orB_cons, List.map_cons, List.sum_cons]
    refine ⟨?_, z.2⟩
    rw [z.1, e]; omega
theorem sum_orB {w : List Nat} (hw : ∀ x ∈ w, x ∈ [105, 76, 109, 115, 117, 120, 97]) (nd : w.Nodup) : (w.map flg).sum = orB w 0 ∧ 0 ≤ orB w 0 ∧ orB w 0 < 512 := by
  have z := orB_sum w 0 (by decide) (by decide) hw nd (fun x _ => zero_and)
  exact ⟨by rw [z.1]; omega, z.2⟩
theorem shown_all : ∀ a : Fin 512, (PyData.int ((a.val : Nat) : Int)).showable = true := by decide +kernel
theorem two_ok {p m : Int} (h0 : 0 ≤ p) (h1 : p < 512) (g0 : 0 ≤ m) (g1 : m < 512) : (two p m).showable = true ∧ (two p m).shown.length ≤ sizeLine := by
  obtain ⟨a, rfl⟩ := Int.eq_ofNat_of_zero_le h0
  obtain ⟨b, rfl⟩ := Int.eq_ofNat_of_zero_le g0
  have z1 := shown_all ⟨a, by omega⟩
  have z2 := shown_all ⟨b, by omega⟩
  refine ⟨?_, ?_⟩
  · show PyData.showableAll [.int a, .int b] = true
    simp only [PyData.showableAll]
    dsimp only at z1 z2
    rw [z1, z2]; rfl
  · have l1 := toString_length_le (v := (a : Int)) (k := 3) (by omega) (by decide) (by omega)
    have l2 := toString_length_le (v := (b : Int)) (k := 3) (by omega) (by decide) (by omega)
    have e : (two a b).shown = ((("(" : Str) ++ ((Str.ofString (toString (a : Int)) ++ (", " : Str)) ++ Str.ofString (toString (b : Int)))) ++ (")" : Str)) := by
      unfold two
      simp only [PyData.shown, PyData.shownAll]
      rfl
    rw [e]
    rw [len_app, len_app, len_app, len_app]
    have k1 : ("(" : Str).length = 1 := rfl
    have k2 : (")" : Str).length = 1 := rfl
    have k3 : (", " : Str).length = 2 := rfl
    have sl : (6000 : Nat) ≤ sizeLine := by decide
    omega
end Mine
namespace Mine
open PySem PySem.W PyProof.Rows PySem.Calls PySem.Spec
theorem bit_cases (j : Nat) : (∃ x ∈ [105, 76, 109, 115, 117, 120, 97], tb (flg x) j = true ∧ tb 292 j = kn x) ∨ (∀ x ∈ [105, 76, 109, 115, 117, 120, 97], tb (flg x) j = false) := by
  by_cases hj : j < 9
  · match j, hj with
    | 0, _ => exact .inr (by decide +kernel)
    | 1, _ => exact .inl ⟨105, by decide, by decide +kernel, by kernel_rfl⟩
    | 2, _ => exact .inl ⟨76, by decide, by decide +kernel, by kernel_rfl⟩
    | 3, _ => exact .inl ⟨109, by decide, by decide +kernel, by kernel_rfl⟩
    | 4, _ => exact .inl ⟨115, by decide, by decide +kernel, by kernel_rfl⟩
    | 5, _ => exact .inl ⟨117, by decide, by decide +kernel, by kernel_rfl⟩
    | 6, _ => exact .inl ⟨120, by decide, by decide +kernel, by kernel_rfl⟩
    | 7, _ => exact .inr (by decide +kernel)
    | 8, _ => exact .inl ⟨97, by decide, by decide +kernel, by kernel_rfl⟩
  · refine .inr fun x hx => ?_
    have key : ∀ x ∈ [105, 76, 109, 115, 117, 120, 97], 0 ≤ flg x ∧ flg x < 512 := by decide
    exact tb_lt (key x hx).1 (key x hx).2 (by omega)
theorem kn_mem {x : Nat} : kn x = (decide (76 = x) || decide (117 = x) || decide (97 = x)) := by
  have z := con1 (x := "auL") (c := x)
  have e : ("auL" : Str).cps.toList = [97, 117, 76] := by kernel_rfl
  rw [e] at z
  show Txt.contains "auL" (ch1 x) = _
  rw [z]
  clear z e
  rw [Bool.eq_iff_iff]
  simp only [List.mem_cons, List.not_mem_nil, or_false, decide_eq_true_eq, Bool.or_eq_true]
  omega
theorem any_kn {on : List Nat} : (decide (76 ∈ on) || decide (117 ∈ on) || decide (97 ∈ on)) = decide (∃ y ∈ on, kn y = true) := by
  rw [Bool.eq_iff_iff]
  simp only [Bool.or_eq_true, decide_eq_true_eq, kn_mem]
  constructor
  · rintro ((h | h) | h)
    · exact ⟨76, h, by decide⟩
    · exact ⟨117, h, by decide⟩
    · exact ⟨97, h, by decide⟩
  · rintro ⟨y, hy, (rfl | rfl) | rfl⟩
    · exact .inl (.inl hy)
    · exact .inl (.inr hy)
    · exact .inr hy
theorem orB_ext {w w1 on off : List Nat} {b : Bool} (h : GpOk b on off) (h1 : ∀ x ∈ w1, x ∈ [105, 76, 109, 115, 117, 120, 97]) (hw : ∀ x ∈ w, x ∈ [105, 76, 109, 115, 117, 120, 97])
    (hm : ∀ x, x ∈ w ↔ x ∉ off ∧ (x ∈ on ∨ (x ∉ on ∧ x ∈ w1 ∧ ¬ (kn x = true ∧ ∃ y ∈ on, kn y = true)))) : newAdd (orB w1 0) (orB on 0) (orB off 0) = orB w 0 := by
  refine tb_ext fun j => ?_
  have hon : ∀ x ∈ on, x ∈ [105, 76, 109, 115, 117, 120, 97] := fun x => on_let h
  have hoff : ∀ x ∈ off, x ∈ [105, 76, 109, 115, 117, 120, 97] := fun x => off_let h
  have e : tb (newAdd (orB w1 0) (orB on 0) (orB off 0)) j = (((bif (Builtin.bitAnd (orB on 0) 292 != 0) then tb (orB w1 0) j && !tb 292 j else tb (orB w1 0) j) && !tb (orB off 0) j) || tb (orB on 0) j) := by
    unfold newAdd
    rw [tb_or, tb_and, tb_not]
    cases (Builtin.bitAnd (orB on 0) 292 != 0) with
    | true => simp only [cond_true]; rw [tb_and, tb_not]
    | false => simp only [cond_false]
  rw [e, kind_test h, any_kn]
  simp only [tb_orB, tb_zero, Bool.false_or]
  rcases bit_cases j with ⟨x, hx, t1, t2⟩ | t
  · rw [any_bit h1 hx t1, any_bit hon hx t1, any_bit hoff hx t1, any_bit hw hx t1, t2]
    have d := h.dis x
    have z := hm x
    by_cases a1 : x ∈ w1 <;> by_cases a2 : x ∈ on <;> by_cases a3 : x ∈ off <;> by_cases a4 : x ∈ w <;> cases a5 : kn x <;> by_cases a6 : (∃ y ∈ on, kn y = true) <;> simp_all
  · rw [any_none h1 t, any_none hon t, any_none hoff t, any_none hw t]
    simp
theorem orB_ext0 {w w0 on off : List Nat} {b : Bool} (h : GpOk b on off) (h1 : ∀ x ∈ w0, x ∈ [105, 76, 109, 115, 117, 120, 97]) (hw : ∀ x ∈ w, x ∈ [105, 76, 109, 115, 117, 120, 97])
    (hm : ∀ x, x ∈ w ↔ x ∈ off ∨ (x ∉ on ∧ x ∈ w0)) : newDrop (orB w0 0) (orB on 0) (orB off 0) = orB w 0 := by
  refine tb_ext fun j => ?_
  have hon : ∀ x ∈ on, x ∈ [105, 76, 109, 115, 117, 120, 97] := fun x => on_let h
  have hoff : ∀ x ∈ off, x ∈ [105, 76, 109, 115, 117, 120, 97] := fun x => off_let h
  unfold newDrop
  rw [tb_or, tb_and, tb_not]
  simp only [tb_orB, tb_zero, Bool.false_or]
  rcases bit_cases j with ⟨x, hx, t1, t2⟩ | t
  · rw [any_bit h1 hx t1, any_bit hon hx t1, any_bit hoff hx t1, any_bit hw hx t1]
    have z := hm x
    by_cases a1 : x ∈ w0 <;> by_cases a2 : x ∈ on <;> by_cases a3 : x ∈ off <;> by_cases a4 : x ∈ w <;> simp_all
  · rw [any_none h1 t, any_none hon t, any_none hoff t, any_none hw t]
    simp
theorem strjoin_ls : ∀ w : List Nat, ls (Str.join "" (w.map ch1)) = w
  | [] => by kernel_rfl
  | [x] => rfl
  | x :: y :: w => by
    have ih := strjoin_ls (y :: w)
    show ls ((ch1 x ++ ("" : Str)) ++ Str.join "" ((y :: w).map ch1)) = _
    rw [ls_app, ls_app, ih]; rfl
theorem join_ls {w : List Nat} : ls (Txt.join "" (w.map ch1)) = w := by
  have e : Txt.join "" (w.map ch1) = Str.join "" (w.map ch1) := by
    show Builtin.Str.glued _ _ = _
    exact PySem.StrLaws.glued_eq_join _ _
  rw [e]; exact strjoin_ls w
end Mine
namespace Mine
open PySem PySem.W PyProof.Rows PySem.Calls PySem.Spec
def SingK (kv : Last) : Prop := ∀ p ∈ kv, ∃ x, p.1 = ch1 x
theorem put_sing {kv : Last} {c : Nat} {v : Int} (nd : (kv.map (·.1)).Nodup) (h : SingK kv) : SingK (putI (ch1 c) v kv) := fun p hp => by
  rcases (mem_putI nd).mp hp with rfl | ⟨h1, _⟩
  · exact ⟨c, rfl⟩
  · exact h p h1
theorem on_sing : ∀ (w : List Nat) (a : Ls), (a.2.map (·.1)).Nodup → SingK a.2 → SingK (w.foldl (fun a y => onStep a (ch1 y)) a).2 ∧ ((w.foldl (fun a y => onStep a (ch1 y)) a).2.map (·.1)).Nodup
  | [], a, h, k => ⟨k, h⟩
  | c :: w, a, h, k => by
    rw [List.foldl_cons]
    refine on_sing w _ (on_nd h) ?_
    unfold onStep
    split
    · exact put_sing (strip_keys h) fun p hp => k p (mem_strip.mp hp).1
    · exact put_sing h k
theorem off_sing : ∀ (w : List Nat) (a : Ls), (a.2.map (·.1)).Nodup → SingK a.2 → SingK (w.foldl (fun a y => offStep a (ch1 y)) a).2 ∧ ((w.foldl (fun a y => offStep a (ch1 y)) a).2.map (·.1)).Nodup
  | [], a, h, k => ⟨k, h⟩
  | c :: w, a, h, k => by
    rw [List.foldl_cons]
    exact off_sing w _ (off_nd h) (put_sing h k)
theorem both_mem {b : Bool} {on off : Str} {a : Ls} (h : GpOk b (ls on) (ls off)) (nd : (a.2.map (·.1)).Nodup) (x : Nat) (v : Int) :
    (ch1 x, v) ∈ (offAll off (onAll on a)).2 ↔ (x ∈ ls off ∧ v = 0) ∨ (x ∉ ls off ∧ ((x ∈ ls on ∧ v = 1) ∨ (x ∉ ls on ∧ (ch1 x, v) ∈ a.2 ∧ ¬ (kn x = true ∧ ∃ y ∈ ls on, kn y = true)))) := by
  obtain ⟨kc, _, hk⟩ := h.onK
  have hkc : ∀ y ∈ ls on, kn y = true → some y = kc := fun y hy e => by
    rcases hk y hy with hi | hi
    · exfalso
      have : ∀ y ∈ imsx, kn y = false := by decide +kernel
      rw [this y hi] at e; cases e
    · exact hi
  rw [offAll_ls, onAll_ls, off_mem _ _ (by
    have : ∀ (w : List Nat) (a : Ls), (a.2.map (·.1)).Nodup → ((w.foldl (fun a y => onStep a (ch1 y)) a).2.map (·.1)).Nodup := by
      intro w
      induction w with
      | nil => exact fun a h => h
      | cons c w ih => exact fun a h => ih _ (on_nd h)
    exact this _ a nd), on_mem _ _ nd hkc]
end Mine
namespace Mine
open PySem PySem.W PyProof.Rows PySem.Calls PySem.Spec
structure Inv6 (b : Bool) (a : Ls) (add drop : Int) : Prop where
  keys : SingK a.2
  nd : (a.2.map (·.1)).Nodup
  kc : ∃ kc, kcOk b kc ∧ ∀ x, (ch1 x, (1 : Int)) ∈ a.2 → x ∈ imsx ∨ some x = kc
  val : ∀ x v, (ch1 x, v) ∈ a.2 → v = 1 ∨ (v = 0 ∧ x ∈ imsx)
  sums : ∀ w1 w0 : List Nat, (∀ x, x ∈ w1 ↔ (ch1 x, (1 : Int)) ∈ a.2) → (∀ x, x ∈ w0 ↔ (ch1 x, (0 : Int)) ∈ a.2) → add = orB w1 0 ∧ drop = orB w0 0
theorem getKey {kv : Last} {k : Str} {v w : Int} : (kv.map (·.1)).Nodup → (k, v) ∈ kv → (k, w) ∈ kv → v = w := by
  induction kv with
  | nil => intro _ h; cases h
  | cons p l ih =>
    intro nd h1 h2
    rw [List.map_cons, List.nodup_cons] at nd
    rcases List.mem_cons.mp h1 with rfl | g1 <;> rcases List.mem_cons.mp h2 with e | g2
    · exact (Prod.mk.inj e).2.symm
    · exact absurd (List.mem_map.mpr ⟨(k, w), g2, rfl⟩) nd.1
    · subst e; exact absurd (List.mem_map.mpr ⟨(k, v), g1, rfl⟩ : k ∈ l.map (·.1)) nd.1
    · exact ih nd.2 g1 g2
theorem kn_imsx : ∀ y ∈ imsx, kn y = false := by decide +kernel
theorem inv6_step {b : Bool} {on off : Str} {a : Ls} {add drop : Int} (h : GpOk b (ls on) (ls off)) (I : Inv6 b a add drop) :
    Inv6 b (offAll off (onAll on a)) (newAdd add (orB (ls on) 0) (orB (ls off) 0)) (newDrop drop (orB (ls on) 0) (orB (ls off) 0)) ∧
    ∀ w1 w0 : List Nat, (∀ x, x ∈ w1 ↔ (ch1 x, (1 : Int)) ∈ (offAll off (onAll on a)).2) → (∀ x, x ∈ w0 ↔ (ch1 x, (0 : Int)) ∈ (offAll off (onAll on a)).2) → GpOk b w1 w0 := by
  have B := fun x v => both_mem (a := a) h I.nd x v
  obtain ⟨k1, k2⟩ := on_sing (ls on) a I.nd I.keys
  obtain ⟨k3, k4⟩ := off_sing (ls off) _ k2 k1
  rw [← onAll_ls, ← offAll_ls] at k3 k4
  have val' : ∀ x v, (ch1 x, v) ∈ (offAll off (onAll on a)).2 → v = 1 ∨ (v = 0 ∧ x ∈ imsx) := fun x v hm => by
    rcases (B x v).mp hm with ⟨h1, h2⟩ | ⟨_, ⟨_, h2⟩ | ⟨_, h2, _⟩⟩
    · exact .inr ⟨h2, h.offK x h1⟩
    · exact .inl h2
    · exact I.val x v h2
  obtain ⟨kc, a1, a2⟩ := I.kc
  obtain ⟨kn', b1, b2⟩ := h.onK
  have kc' : ∃ kc, kcOk b kc ∧ ∀ x, (ch1 x, (1 : Int)) ∈ (offAll off (onAll on a)).2 → x ∈ imsx ∨ some x = kc := by
    by_cases hk : ∃ y ∈ ls on, kn y = true
    · refine ⟨kn', b1, fun x hm => ?_⟩
      rcases (B x 1).mp hm with ⟨_, h2⟩ | ⟨_, ⟨h1, _⟩ | ⟨_, h2, h3⟩⟩
      · cases h2
      · exact b2 x h1
      · rcases a2 x h2 with hi | hi
        · exact .inl hi
        · by_cases hx : x ∈ imsx
          · exact .inl hx
          · exfalso
            refine h3 ⟨?_, hk⟩
            subst hi
            rcases a1 with e | e | e
            · cases e
            · cases e; decide +kernel
            · cases e; cases b <;> decide +kernel
    · refine ⟨kc, a1, fun x hm => ?_⟩
      rcases (B x 1).mp hm with ⟨_, h2⟩ | ⟨_, ⟨h1, _⟩ | ⟨_, h2, h3⟩⟩
      · cases h2
      · rcases b2 x h1 with hi | hi
        · exact .inl hi
        · exfalso
          refine hk ⟨x, h1, ?_⟩
          subst hi
          rcases b1 with e | e | e
          · cases e
          · cases e; decide +kernel
          · cases e; cases b <;> decide +kernel
      · exact a2 x h2
  have gp : ∀ w1 w0 : List Nat, (∀ x, x ∈ w1 ↔ (ch1 x, (1 : Int)) ∈ (offAll off (onAll on a)).2) → (∀ x, x ∈ w0 ↔ (ch1 x, (0 : Int)) ∈ (offAll off (onAll on a)).2) → GpOk b w1 w0 := fun w1 w0 m1 m0 => by
    obtain ⟨q, q1, q2⟩ := kc'
    refine ⟨⟨q, q1, fun x hx => q2 x ((m1 x).mp hx)⟩, fun x hx => ?_, fun x hx hy => ?_, ?_⟩
    · rcases val' x 0 ((m0 x).mp hx) with e | e
      · cases e
      · exact e.2
    · have z1 := (m1 x).mp hx
      have z0 := (m0 x).mp hy
      have := getKey k4 z1 z0
      cases this
    · rcases h.ne with e | e
      · obtain ⟨y, hy⟩ := List.exists_mem_of_ne_nil _ e
        exact .inl fun e2 => by
          have : y ∈ w1 := (m1 y).mpr ((B y 1).mpr (.inr ⟨h.dis y hy, .inl ⟨hy, rfl⟩⟩))
          rw [e2] at this; cases this
      · obtain ⟨y, hy⟩ := List.exists_mem_of_ne_nil _ e
        exact .inr fun e2 => by
          have : y ∈ w0 := (m0 y).mpr ((B y 0).mpr (.inl ⟨hy, rfl⟩))
          rw [e2] at this; cases this
  refine ⟨⟨k3, k4, kc', val', fun w1 w0 m1 m0 => ?_⟩, gp⟩
  have g := gp w1 w0 m1 m0
  obtain ⟨v1, _, n1, _⟩ := lets_single (v := 1) I.keys I.nd
  obtain ⟨v0, _, n0, _⟩ := lets_single (v := 0) I.keys I.nd
  obtain ⟨s1, s0⟩ := I.sums v1 v0 n1 n0
  have sv : ∀ x ∈ imsx, x ∈ [105, 76, 109, 115, 117, 120, 97] := by decide
  have i0 : ∀ x ∈ v0, x ∈ imsx := fun x hx => by
    rcases I.val x 0 ((n0 x).mp hx) with e | e
    · cases e
    · exact e.2
  have i1 : ∀ x ∈ v1, x ∈ [105, 76, 109, 115, 117, 120, 97] := fun x hx => by
    rcases a2 x ((n1 x).mp hx) with hi | hi
    · exact sv x hi
    · subst hi
      rcases a1 with e | e | e
      · cases e
      · cases e; decide
      · cases e; cases b <;> decide
  rw [s1, s0]
  refine ⟨orB_ext h i1 (fun x => on_let g) fun x => ?_, orB_ext0 h (fun x hx => sv x (i0 x hx)) (fun x => off_let g) fun x => ?_⟩
  · rw [m1, B x 1, n1]
    simp
  · rw [m0, B x 0, ← n0]
    constructor
    · rintro (⟨q, _⟩ | ⟨q, ⟨_, q2⟩ | ⟨q2, q3, _⟩⟩)
      · exact .inl q
      · cases q2
      · exact .inr ⟨q2, q3⟩
    · rintro (q | ⟨q, q2⟩)
      · exact .inl ⟨q, rfl⟩
      · by_cases hx : x ∈ ls off
        · exact .inl ⟨hx, rfl⟩
        · exact .inr ⟨hx, .inr ⟨q, q2, fun e => by rw [kn_imsx x (i0 x q2)] at e; cases e.1⟩⟩
end Mine
namespace Mine
open PySem PySem.W PyProof.Rows PySem.Calls PySem.Spec
theorem len_sum : ∀ (w : List Nat), (∀ x ∈ w, x ∈ [105, 76, 109, 115, 117, 120, 97]) → (w.length : Int) ≤ (w.map flg).sum
  | [], _ => by simp
  | x :: w, h => by
    have z := len_sum w fun y hy => h y (.tail _ hy)
    have k : ∀ x ∈ [105, 76, 109, 115, 117, 120, 97], 1 ≤ flg x := by decide
    have y := k x (h x (.head _))
    rw [List.length_cons, List.map_cons, List.sum_cons]
    omega
theorem ch_lens : ∀ w : List Nat, ((w.map ch1).map (·.length)).sum = w.length
  | [] => rfl
  | x :: w => by rw [List.map_cons, List.map_cons, List.sum_cons, ch_lens w, List.length_cons]; show 1 + _ = _; omega
theorem lets_all {b : Bool} {a : Ls} {add drop : Int} (I : Inv6 b a add drop) (v : Int) : ∃ w : List Nat, letsOf v a.2 = w.map ch1 ∧ (∀ x, x ∈ w ↔ (ch1 x, v) ∈ a.2) ∧ w.Nodup ∧ (∀ x ∈ w, x ∈ [105, 76, 109, 115, 117, 120, 97]) ∧ w.length ≤ 512 := by
  obtain ⟨w, e, m, nd⟩ := lets_single (v := v) I.keys I.nd
  have sv : ∀ x ∈ imsx, x ∈ [105, 76, 109, 115, 117, 120, 97] := by decide
  have hw : ∀ x ∈ w, x ∈ [105, 76, 109, 115, 117, 120, 97] := fun x hx => by
    have hm := (m x).mp hx
    rcases I.val x v hm with e | e
    · subst e
      obtain ⟨kc, a1, a2⟩ := I.kc
      rcases a2 x hm with hi | hi
      · exact sv x hi
      · subst hi
        rcases a1 with e | e | e
        · cases e
        · cases e; decide
        · cases e; cases b <;> decide
    · exact sv x e.2
  have z := sum_orB hw nd
  have y := len_sum w hw
  exact ⟨w, e, m, nd, hw, by omega⟩
end Mine
namespace Mine
open PySem PySem.W PyProof.Rows PySem.Calls PySem.Spec
theorem plain_ls {x : Str} (h : ∀ c ∈ ls x, c ∈ [40, 63, 45, 58, 41, 98, 10, 105, 76, 109, 115, 117, 120, 97]) : Plain x := fun c hc => by
  have k : ∀ c ∈ [40, 63, 45, 58, 41, 98, 10, 105, 76, 109, 115, 117, 120, 97], c < 128 ∧ c ≠ 92 := by decide
  exact k c (h c hc)
theorem lets_in {c : Nat} (h : c ∈ [105, 76, 109, 115, 117, 120, 97]) : c ∈ [40, 63, 45, 58, 41, 98, 10, 105, 76, 109, 115, 117, 120, 97] := by
  have k : ∀ c ∈ [105, 76, 109, 115, 117, 120, 97], c ∈ [40, 63, 45, 58, 41, 98, 10, 105, 76, 109, 115, 117, 120, 97] := by decide
  exact k c h
theorem plain_app {x y : Str} (hx : Plain x) (hy : Plain y) : Plain (x ++ y) := fun c hc => by
  rw [show (x ++ y).cps.toList = ls x ++ ls y from ls_app, List.mem_append] at hc
  exact hc.elim (hx c) (hy c)
theorem plain_one {u d : Str} (hu : ∀ c ∈ ls u, c ∈ [105, 76, 109, 115, 117, 120, 97]) (hd : ∀ c ∈ ls d, c ∈ [105, 76, 109, 115, 117, 120, 97]) : Plain (oneText u d) := by
  unfold oneText dashOf
  refine plain_app (plain_app (plain_ls fun c hc => lets_in (hu c hc)) ?_) (plain_ls (by decide))
  split
  · exact fun c hc => nomatch hc
  · exact plain_app (plain_ls (by decide)) (plain_ls fun c hc => lets_in (hd c hc))
theorem turn_ok {b : Bool} {g : Gp} {a : Ls} {add drop : Int} {L : List Str} (h : GpOk b (ls g.on) (ls g.off)) (I : Inv6 b a add drop) (hl : g.on.length + g.off.length ≤ 20) :
    Turn6 b g.on g.off a add drop (singles (gpText g) ++ L) (offAll g.off (onAll g.on a)) (newAdd add (orB (ls g.on) 0) (orB (ls g.off) 0)) (newDrop drop (orB (ls g.on) 0) (orB (ls g.off) 0)) L := by
  obtain ⟨I', gp⟩ := inv6_step h I
  obtain ⟨w1, e1, m1, n1, s1, l1⟩ := lets_all I' 1
  obtain ⟨w0, e0, m0, n0, s0, l0⟩ := lets_all I' 0
  have G := gp w1 w0 m1 m0
  obtain ⟨q1, q0⟩ := I'.sums w1 w0 m1 m0
  obtain ⟨ch, Lr, c1, acc, L2, r1, r2, r3⟩ := grp_read h (("b" : Str) :: L)
  obtain ⟨ch', Lr', c1', acc', L2', t1, t2, t3⟩ := grp_read G []
  have z1 := sum_orB s1 n1
  have z0 := sum_orB s0 n0
  refine ⟨hl, ⟨ch, c1, acc, Lr, L2, _, _, ?_, r2, r3, rfl, rfl⟩, rfl, fun v => ?_, ?_, ⟨ch', c1', acc', Lr', L2', orB w1 0, orB w0 0, ?_, t2, t3, ?_, ?_, q1, q0, (two_ok z1.2.1 z1.2.2 z0.2.1 z0.2.2).1, (two_ok z1.2.1 z1.2.2 z0.2.1 z0.2.2).2⟩⟩
  · rw [gpText_toks, List.cons_append, List.cons_append, List.append_assoc, List.singleton_append, r1]
  · obtain ⟨w, e, m, n, s, l⟩ := lets_all I' v
    rw [e]
    have k : (Txt.join "" (w.map ch1)).length = w.length := by
      show (Txt.join "" (w.map ch1)).cps.size = _
      rw [← Array.length_toList]
      show (ls _).length = _
      rw [join_ls]
    refine ⟨?_, by omega, (lets_okS fun c hc => s c (by rw [join_ls] at hc; exact hc)).1⟩
    rw [ch_lens]
    have : ("" : Str).length = 0 := rfl
    rw [this]; omega
  · rw [e1, e0]
    exact plain_one (fun c hc => s1 c (by rw [join_ls] at hc; exact hc)) (fun c hc => s0 c (by rw [join_ls] at hc; exact hc))
  · rw [e1, e0, one_toks, join_ls, join_ls, ← t1, List.append_nil]
  · rw [e1, (lets_okS fun c hc => s1 c (by rw [join_ls] at hc; exact hc)).2, join_ls]; exact z1.1
  · rw [e0, (lets_okS fun c hc => s0 c (by rw [join_ls] at hc; exact hc)).2, join_ls]; exact z0.1
end Mine
namespace Mine
open PySem PySem.W PyProof.Rows PySem.Calls PySem.Spec
def prs (gs : List Gp) : List (Str × Str) := gs.map fun g => (g.on, g.off)
def tks (gs : List Gp) : List Str := gs.flatMap fun g => singles (gpText g)
theorem inv6_start {b : Bool} : Inv6 b ((3, []) : Ls) 0 0 := ⟨(fun p hp => nomatch hp), List.nodup_nil, ⟨none, .inl rfl, fun x hx => nomatch hx⟩, (fun x v hx => nomatch hx), fun w1 w0 m1 m0 => by
  have e1 : w1 = [] := List.eq_nil_iff_forall_not_mem.mpr fun x hx => nomatch (m1 x).mp hx
  have e0 : w0 = [] := List.eq_nil_iff_forall_not_mem.mpr fun x hx => nomatch (m0 x).mp hx
  subst e1 e0; exact ⟨rfl, rfl⟩⟩
theorem walk_all {b : Bool} : ∀ (gs : List Gp), (∀ g ∈ gs, GpOk b (ls g.on) (ls g.off) ∧ g.on.length + g.off.length ≤ 20) → ∀ (a : Ls) (add drop : Int), Inv6 b a add drop → ∃ a' add' drop', Walk6 b (prs gs) a add drop (tks gs) a' add' drop' []
  | [], _, a, add, drop, _ => ⟨a, add, drop, .done⟩
  | g :: gs, h, a, add, drop, I => by
    obtain ⟨h1, h2⟩ := h g (.head _)
    obtain ⟨a', add', drop', w⟩ := walk_all gs (fun g hg => h g (.tail _ hg)) _ _ _ (inv6_step h1 I).1
    exact ⟨a', add', drop', .turn (turn_ok h1 I h2) w⟩
theorem plain_gp {b : Bool} {g : Gp} (h : GpOk b (ls g.on) (ls g.off)) : Plain (gpText g) := by
  unfold gpText gpOff
  refine plain_app (plain_app (plain_app (plain_ls (by decide)) (plain_ls fun c hc => lets_in (on_let h hc))) ?_) (plain_ls (by decide))
  split
  · exact fun c hc => nomatch hc
  · exact plain_app (plain_ls (by decide)) (plain_ls fun c hc => lets_in (off_let h hc))
structure Run6 (b : Bool) (m : Nat) (a : A6) (gs : List Gp) : Prop where
  ar : a.ar = prs gs
  tx : singles a.text = tks gs
  ok : ∀ g ∈ gs, GpOk b (ls g.on) (ls g.off) ∧ g.on.length + g.off.length ≤ 20
  pl : Plain a.text
  ne : 0 < m → 0 < a.text.length
theorem run_ok {b : Bool} {nums : List Int} : ∃ gs, Run6 b nums.length (run6 (ownT b) nums) gs := by
  have z := fold_P (g := fun a d => step6 (ownT b) nums a (unKV d).1 (unKV d).2) (P := fun m a => ∃ gs, Run6 b m a gs) (items := numbered 0 (nums.map .int)) (fun m a d hp hd => by
    obtain ⟨gs, r⟩ := hp
    have hg := gp_ok (b := b) (nums := nums) (k := (unKV d).1) (v := (unKV d).2)
    have hlen := gp3_len (gp2_len (own := ownT b) (p := prevOf nums (unKV d).1) (v := (unKV d).2) (by show (1 : Nat) ≤ 1; decide))
    refine ⟨gs ++ [gpOf (ownT b) nums (unKV d).1 (unKV d).2], ⟨?_, ?_, fun g hg' => ?_, plain_app r.pl (plain_gp hg), fun _ => ?_⟩⟩
    · show a.ar ++ _ = _
      rw [r.ar]; unfold prs; rw [List.map_append]; rfl
    · show singles (a.text ++ gpText _) = _
      rw [singles_app, r.tx]; unfold tks; rw [List.flatMap_append]; simp
    · rcases List.mem_append.mp hg' with h1 | h1
      · exact r.ok g h1
      · rw [List.mem_singleton.mp h1]
        refine ⟨hg, ?_⟩
        unfold gpOf; omega
    · show 0 < (a.text ++ gpText _).length
      rw [len_app]
      have : 2 ≤ (gpText (gpOf (ownT b) nums (unKV d).1 (unKV d).2)).length := by
        unfold gpText
        rw [len_app, len_app, len_app]
        have : ("(?" : Str).length = 2 := rfl
        omega
      omega) ⟨"", []⟩ ⟨[], ⟨rfl, by kernel_rfl, (fun g hg => nomatch hg), (fun c hc => nomatch hc), fun h => absurd h (Nat.lt_irrefl 0)⟩⟩
  rw [numbered_len, List.length_map] at z
  exact z
end Mine
namespace Mine
open PySem PySem.W PyProof.Rows PySem.Calls PySem.Spec
theorem law06 {c : Cx} (hC : CxOk c) (hK : c.K = KK c) (hb : ∀ x : Str, x ≠ "__name__" → c.mb x = bootBuiltins x) (hc : c.calm = true) (ns : List Int) (hl : ns.length ≤ 63) : ∃ σ', Exs c SL 0 LB ⟨[(key "script", .d (.lst (ns.map .int)))], []⟩ (.ret (.d (.bool true))) σ' := by
  have G := gl6 hC hK hb
  obtain ⟨oct, ho⟩ : ∃ o, (ns.sum.fmod 2 == 1) = o := ⟨_, rfl⟩
  have hown : ownOf oct = ownT (!oct) := by cases oct <;> kernel_rfl
  have nl : (numsOf ns).length ≤ 20 ∧ 0 < (numsOf ns).length := by
    unfold numsOf
    split
    · exact ⟨by decide, by decide⟩
    · rename_i h
      refine ⟨by rw [List.length_take]; omega, ?_⟩
      cases q : ns.take 20 with
      | nil => rw [q] at h; exact absurd rfl h
      | cons => exact Nat.succ_pos _
  obtain ⟨gs, r⟩ := run_ok (b := !oct) (nums := numsOf ns)
  have len := fold_P (g := fun a d => step6 (ownT (!oct)) (numsOf ns) a (unKV d).1 (unKV d).2) (P := fun m a => a.text.length ≤ 22 * m ∧ a.ar.length ≤ m) (items := numbered 0 ((numsOf ns).map .int)) (fun m a d hp hd => step6_len (by show (1 : Nat) ≤ 1; decide) hp) ⟨"", []⟩ ⟨Nat.le_refl 0, Nat.le_refl 0⟩
  rw [numbered_len, List.length_map] at len
  have len1 : (run6 (ownT (!oct)) (numsOf ns)).text.length ≤ 4000 := Nat.le_trans len.1 (by omega)
  have len2 : (run6 (ownT (!oct)) (numsOf ns)).ar.length ≤ 30 := Nat.le_trans len.2 (by omega)
  obtain ⟨a', add', drop', w⟩ := walk_all gs r.ok (3, []) 0 0 inv6_start
  rw [← r.tx, ← r.ar] at w
  obtain ⟨σ', post⟩ := post6 (total := ns.sum) hC hK G hc r.pl len1 len2 w
  exact ⟨σ', pre6 hC G hc ns oct (ownT (!oct)) (numsOf ns) ho hown rfl hl (mid6 hC hK G hc r.pl (r.ne nl.2) len1 post)⟩
end Mine
namespace Mine
open PySem PySem.W PyProof.Rows PySem.Calls PySem.Spec
theorem cf_apart : ∀ {names : List (Str × NameKind)} {k : Nat} {acc : List (Str × Addr)}, (acc.Pairwise fun x y => x.2 ≠ y.2) → (∀ p ∈ acc, p.2 < k) → (cellsFrom k names acc).Pairwise fun x y => x.2 ≠ y.2
  | [], _, _, h, _ => h
  | (n, kd) :: r, k, acc, h, hk => by
    unfold cellsFrom
    split
    · refine cf_apart (List.pairwise_cons.mpr ⟨fun p hp => Nat.ne_of_gt (hk p hp), h⟩) (fun p hp => ?_)
      rcases List.mem_cons.mp hp with rfl | hp
      · exact Nat.lt_succ_self k
      · exact Nat.lt_succ_of_lt (hk p hp)
    · exact cf_apart h hk
theorem cf_keep : ∀ {names : List (Str × NameKind)} {k : Nat} {acc : List (Str × Addr)} {x : Str}, (x ∈ acc.map (·.1) ∨ (x, NameKind.cell) ∈ names) → x ∈ (cellsFrom k names acc).map (·.1)
  | [], _, _, _, h => h.elim id fun h => nomatch h
  | (n, kd) :: r, k, acc, x, h => by
    unfold cellsFrom
    split
    · refine cf_keep ?_
      rcases h with h | h
      · exact .inl (List.mem_cons_of_mem _ h)
      · rcases List.mem_cons.mp h with e | h
        · cases e; exact .inl List.mem_cons_self
        · exact .inr h
    · rename_i hq
      refine cf_keep ?_
      rcases h with h | h
      · exact .inl h
      · rcases List.mem_cons.mp h with e | h
        · cases e; exact absurd rfl hq
        · exact .inr h
theorem lookup_some {α : Type} : ∀ {l : List (Str × α)} {x : Str}, x ∈ l.map (·.1) → ∃ a, l.lookup x = some a
  | (n, a) :: l, x, h => by
    rw [List.lookup_cons]
    cases q : x == n with
    | true => exact ⟨a, rfl⟩
    | false =>
      rcases List.mem_cons.mp h with rfl | h
      · rw [beq_self_eq_true] at q; cases q
      · exact lookup_some h
theorem ca_fst {cm : Str → Option Value} : ∀ {cs : List (Str × Addr)} {cells : Led}, CellsAre cm cs cells → cells.map (·.1) = cs.map (·.2)
  | _, _, .nil => rfl
  | _, _, .cons _ h => by rw [List.map_cons, List.map_cons, ca_fst h]
theorem ca_mem {cm : Str → Option Value} {x : Str} {a : Addr} : ∀ {cs : List (Str × Addr)} {cells : Led}, CellsAre cm cs cells → (x, a) ∈ cs → ∃ o v, (a, o) ∈ cells ∧ o.data = .cell v
  | _, _, .nil, h => nomatch h
  | _, _, .cons hd h, hm => by
    rcases List.mem_cons.mp hm with e | hm
    · cases e; exact ⟨_, _, List.mem_cons_self, hd⟩
    · obtain ⟨o, v, h1, h2⟩ := ca_mem h hm
      exact ⟨o, v, List.mem_cons_of_mem _ h1, h2⟩
theorem law_headC {prog : Program} {w : World} {K : Frag} {s₁ : Shared} {h₁ : Heap} {tk : Tok} {fa : Addr} {name : Str} {scope : Scope} {cd : Value} {body : List Stmt} {mg mb : Str → Option Value} {p : Program} {loose : List Str} {mean : ExcName → Option Value} (pn : Str) {a : Addr} {vs : List Value} {ns : List Int} {Q : Flow → Shared → Prop} {E : Value → Shared → Prop} {m0 cm : Str → Option Value} {cells : Led}
    (KX : K.In s₁.heap) (T : Top p loose mean mg mb s₁.heap) (F : Fr s₁.heap s₁.heap.objs.size h₁ m0) (hL : s₁.heap.IsList a vs.toArray) (hI : IntsAre vs ns)
    (N0 : News s₁.heap s₁.heap.objs.size h₁ cells) (S : Scope) (hS : scope = S) (X0 : CellsAre cm (cellsFrom (s₁.heap.objs.size + 1) scope.names []) cells) (hm0 : m0 pn = some (.ref a)) (hk : S.kind = .function) (hkeys : keysOkB S = true) (hpn : S.names.lookup pn = some .local) (hfree : S.names.all (fun x => match x.2 with | .free => false | _ => true) = true)
    (h : ∀ c : Cx, c.prog = prog → c.w = w → c.K = K → c.base = s₁.heap → c.mg = mg → c.mb = mb → c.calm = true → CxOk c → ∃ σ', Exs c S 0 body ⟨[(key pn, .d (.lst (ns.map .int)))], []⟩ (.ret (.d (.bool true))) σ')
    (hQ : ∀ s', (∀ b o, s₁.heap.get? b = some o → s'.heap.get? b = some o) → s'.os = s₁.os → s'.gens = s₁.gens → Q (.ret (.bool true)) s') :
    wpAny (model prog w) (callerA.deeper (envOfC name scope s₁.heap.objs.size fa cd)) (execs body (envOfC name scope s₁.heap.objs.size fa cd)) Q E { heap := h₁, gens := s₁.gens, drawn := s₁.drawn, toks := tk, os := s₁.os } := by
  subst hS
  let c : Cx := { prog := prog, w := w, K := K, base := s₁.heap, mg := mg, mb := mb, gens := s₁.gens, drawn := s₁.drawn, os := s₁.os, calm := true }
  have hC : CxOk c := ⟨KX, T.g, T.b, T.nolimit, T.nodigits, modules_low T.nolimit⟩
  obtain ⟨σ', hb⟩ := h c rfl rfl rfl rfl rfl rfl rfl hC
  have nf : ∀ x, scope.names.lookup x ≠ some .free := fun x hx => by
    have z := List.all_eq_true.mp hfree _ (lookup_mem hx)
    cases z
  let f : Fm := { A := callerA.deeper (envOfC name scope s₁.heap.objs.size fa cd), env := envOfC name scope s₁.heap.objs.size fa cd, fr := [], keep := [] }
  have FF : FmOk c scope 0 f := by
    refine ⟨rfl, hk, rfl, rfl, (by show 301 + 1 ≤ 310; decide), (by show 4 + 3 ≤ 100; decide), rfl, ⟨[f.env], rfl, fun env he => ?_, fun _ => ⟨⟨[], rfl⟩, rfl⟩⟩, fun _ => rfl, fun x hx => lookup_some (cf_keep (.inr (lookup_mem hx))), fun x a hx => absurd hx (nf x), keysOk_of hkeys⟩
    rw [List.mem_singleton.mp he]
    exact ⟨by show scope.kind ≠ .module; rw [hk]; decide, _, rfl, .inl rfl⟩
  have ap : (cellsFrom (s₁.heap.objs.size + 1) scope.names []).Pairwise fun x y => x.2 ≠ y.2 := cf_apart .nil (fun _ h => nomatch h)
  have R : RelE c 0 f ⟨fun _ => none, []⟩ ⟨[(key pn, .d (.lst (ns.map .int)))], []⟩ { heap := h₁, gens := s₁.gens, drawn := s₁.drawn, toks := tk, os := s₁.os } := by
    refine ⟨_, cells, [], [], ⟨F, (by show News _ _ _ (cells ++ []); rw [List.append_nil]; exact N0), (by show ((cells ++ []).map _).Nodup; rw [List.append_nil, ca_fst X0]; exact List.pairwise_map.mpr ap), .nil, fun x b hx hl => ca_mem X0 (lookup_mem hl), fun x y b hx hy h1 h2 => name_of_addr ap (lookup_mem h1) (lookup_mem h2), .nil, fun x X hx hl => ?_, rfl, rfl, rfl⟩⟩
    have hl' : (bif key pn == key x then some (V.d (.lst (ns.map .int))) else none) = some X := hl
    cases q : (key pn == key x) with
    | false => rw [q] at hl'; cases hl'
    | true =>
      rw [q] at hl'; cases hl'
      have e : pn = x := keysOk_of hkeys pn x (by rw [hpn]; rfl) hx (by simpa using q)
      subst e
      obtain ⟨o, ho, hoc, k, hod⟩ := hL
      exact .loc hpn hm0 (.d (.lst (.inr ho) hoc hod (ints_drs hI)))
  refine hb f FF _ _ _ _ R fun ω' G s' e' R' q => ?_
  have keep := R'.keep
  obtain ⟨m, Mc, Mh, FR, r⟩ := R'
  cases q with
  | ret q => cases q with
    | d q => cases q; exact hQ s' keep r.os r.gens
end Mine
namespace Mine
open PySem PySem.W PyProof.Rows PySem.Calls PySem.Spec
theorem top_b {p : Program} {loose : List Str} {mean : ExcName → Option Value} {mg mb : Str → Option Value} {h : Heap} (T : Top p loose mean mg mb h) : ∀ x : Str, x ≠ "__name__" → mb x = bootBuiltins x := T.builtins
theorem goodTrue {c : ClaimW} {cl : Str → Option Addr} {mean : ExcName → Option Value} {args : List WData} {s₁ s' : Shared} (hr : ∀ cls, c.raises args cls = false) (hp : c.post args (.bool true) args = true)
    (hk : ∀ b o, s₁.heap.get? b = some o → s'.heap.get? b = some o) (ho : s'.os = s₁.os) (hg : s'.gens = #[]) : GoodW c cl mean args s₁ (.ok (.ret (.bool true))) s' :=
  ⟨.inl ⟨_, .bool true, [], rfl, hr, .bool true, hp, fun _ => ⟨List.nodup_nil, fun _ h => nomatch h⟩⟩, hk, ho, hg⟩
end Mine
open PySem PySem.W PyProof.Rows
set_option maxHeartbeats 8000000 in
theorem PySem.Challenge.cw_kq0015_06_holds : PySem.Challenge.rw_kq0015_06.Holds := by
  w_on
  refine Mine.hlaw fun said => holds_open (r := PySem.Challenge.rw_kq0015_06.row) (q := Mine.HV) (loose := Mine.HL) (Xt := Mine.HXt) (XP := XL Mine.HV Mine.HLV) (Yf := (kHook Mine.HK Mine.HA Mine.hA).obs) (Ya := (kHook Mine.HK Mine.HA Mine.hA).val) (YP := (kHook Mine.HK Mine.HA Mine.hA).says) (N := 3000) Mine.hleft (kHook Mine.HK Mine.HA Mine.hA).of (kHook Mine.HK Mine.HA Mine.hA).keeps (fun s e => xl_of s (Bool.and_eq_true_iff.mp e).1) XL.keeps rfl rfl rfl (fun s e => recFacts_of (Bool.and_eq_true_iff.mp e).2) rfl said (by kernel_rfl) ⟨rfl, rfl, rfl, rfl, rfl, by kernel_rfl⟩ ⟨[.list []], by kernel_rfl, by kernel_rfl⟩ ?_
  k_go0
  refine Mine.law_headC "script" (by assumption) (by assumption) (by assumption) (by assumption) (by assumption) (by assumption) Mine.SL (by kernel_rfl) (by assumption) (by kernel_rfl) (by kernel_rfl) (by kernel_rfl) (by kernel_rfl) (by kernel_rfl) (fun c e1 e2 e3 e4 e5 e6 e7 hC => ?_) (fun s' k1 k2 k3 => ?_)
  · refine Mine.law06 hC (by rw [e3]; show _ = Mine.HK c.w.params; rw [e2]) (fun x hx => ?_) e7 _ (by omega)
    rw [e6]
    exact Mine.top_b (by assumption) x hx
  · exact Mine.goodTrue (fun _ => rfl) (by kernel_rfl) k1 k2 (k3.trans (by assumption))
