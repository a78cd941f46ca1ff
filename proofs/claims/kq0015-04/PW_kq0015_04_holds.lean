import PyProof.Rows.All
import Wide.All
import OpenK.AllK
import Wide.FinOn
import Lean
import PySem.Challenge.RW_kq0015_04
set_option Elab.async false
set_option linter.unusedVariables false
set_option linter.unusedSimpArgs false
set_option maxRecDepth 100000
set_option maxHeartbeats 8000000
set_option genInjectivity false
set_option genSizeOf false
namespace Mine
open PySem PySem.W PyProof.Rows PySem.Calls PySem.Spec
inductive D where
  | none
  | bool (b : Bool)
  | int (i : Int)
  | str (x : Str)
  | bytes (b : Array UInt8)
  | tup (l : List D)
  | lst (l : List D)
  | dct (l : List (Str × D))
noncomputable abbrev Led := List (Addr × Obj)
noncomputable abbrev Fz := Addr → Obj → Prop
noncomputable abbrev tupObj (vs : List Value) (n : Nat) : Obj := { cls := .type "tuple", data := .seq vs.toArray n }
mutual
inductive DR (κ : Str → Int) (Z : Fz) : D → Value → Prop
  | none : DR κ Z .none .none
  | bool (b : Bool) : DR κ Z (.bool b) (.bool b)
  | int (i : Int) (t : Tok) : DR κ Z (.int i) (.int i t)
  | str (x : Str) (t : Tok) : DR κ Z (.str x) (.str x t)
  | bytes (b : Array UInt8) (t : Tok) : DR κ Z (.bytes b) (.bytes b t)
  | tup {a : Addr} {o : Obj} {vs : List Value} {n : Nat} {l : List D} : Z a o → o.cls = .type "tuple" → o.data = .seq vs.toArray n → DRs κ Z l vs → DR κ Z (.tup l) (.ref a)
  | lst {a : Addr} {o : Obj} {vs : List Value} {n : Nat} {l : List D} : Z a o → o.cls = .type "list" → o.data = .seq vs.toArray n → DRs κ Z l vs → DR κ Z (.lst l) (.ref a)
  | dct {a : Addr} {o : Obj} {es : List DictEntry} {n : Nat} {l : List (Str × D)} : Z a o → (a == sysModules) = false → o.ExactDict → o.data = .dict es.toArray n → (l.map (·.1)).Nodup → DRd κ Z l es → DR κ Z (.dct l) (.ref a)
inductive DRs (κ : Str → Int) (Z : Fz) : List D → List Value → Prop
  | nil : DRs κ Z [] []
  | cons {d : D} {v : Value} {l : List D} {vs : List Value} : DR κ Z d v → DRs κ Z l vs → DRs κ Z (d :: l) (v :: vs)
inductive DRd (κ : Str → Int) (Z : Fz) : List (Str × D) → List DictEntry → Prop
  | nil : DRd κ Z [] []
  | cons {k : Str} {t : Tok} {d : D} {v : Value} {l : List (Str × D)} {es : List DictEntry} : DR κ Z d v → DRd κ Z l es → DRd κ Z ((k, d) :: l) (⟨κ k, .str k t, v⟩ :: es)
end
mutual
theorem DR.mono {κ : Str → Int} {Z Z' : Fz} (hs : ∀ a o, Z a o → Z' a o) : ∀ {d : D} {v : Value}, DR κ Z d v → DR κ Z' d v
  | _, _, .none => .none
  | _, _, .bool b => .bool b
  | _, _, .int i t => .int i t
  | _, _, .str x t => .str x t
  | _, _, .bytes b t => .bytes b t
  | _, _, .tup h a b r => .tup (hs _ _ h) a b (DRs.mono hs r)
  | _, _, .lst h a b r => .lst (hs _ _ h) a b (DRs.mono hs r)
  | _, _, .dct h z a b c r => .dct (hs _ _ h) z a b c (DRd.mono hs r)
theorem DRs.mono {κ : Str → Int} {Z Z' : Fz} (hs : ∀ a o, Z a o → Z' a o) : ∀ {l : List D} {vs : List Value}, DRs κ Z l vs → DRs κ Z' l vs
  | _, _, .nil => .nil
  | _, _, .cons h r => .cons (DR.mono hs h) (DRs.mono hs r)
theorem DRd.mono {κ : Str → Int} {Z Z' : Fz} (hs : ∀ a o, Z a o → Z' a o) : ∀ {l : List (Str × D)} {es : List DictEntry}, DRd κ Z l es → DRd κ Z' l es
  | _, _, .nil => .nil
  | _, _, .cons h r => .cons (DR.mono hs h) (DRd.mono hs r)
end
section
variable {κ : Str → Int} {Z : Fz} {l m : List D} {vs ws : List Value} {d : D} {v : Value}
theorem DRs.length (h : DRs κ Z l vs) : vs.length = l.length := by
  induction l generalizing vs with
  | nil => cases h; rfl
  | cons d l ih => cases h with | cons h r => simp [ih r]
theorem DRs.append (h : DRs κ Z l vs) (k : DRs κ Z m ws) : DRs κ Z (l ++ m) (vs ++ ws) := by
  induction l generalizing vs with
  | nil => cases h; exact k
  | cons d l ih => cases h with | cons h r => exact .cons h (ih r)
theorem DRs.one (h : DR κ Z d v) : DRs κ Z [d] [v] := .cons h .nil
theorem DRs.get (h : DRs κ Z l vs) {i : Nat} {d : D} (hi : l[i]? = some d) : ∃ v, vs[i]? = some v ∧ DR κ Z d v := by
  induction l generalizing vs i with
  | nil => simp at hi
  | cons e l ih =>
    cases h with
    | cons h r =>
      cases i with
      | zero => simp at hi; subst hi; exact ⟨_, rfl, h⟩
      | succ i => simp at hi; simpa using ih r hi
theorem DRs.take (h : DRs κ Z l vs) (n : Nat) : DRs κ Z (l.take n) (vs.take n) := by
  induction l generalizing vs n with
  | nil => cases h; simp; exact .nil
  | cons d l ih => cases h with | cons h r => cases n with
    | zero => exact .nil
    | succ n => exact .cons h (ih r n)
theorem DRs.drop (h : DRs κ Z l vs) (n : Nat) : DRs κ Z (l.drop n) (vs.drop n) := by
  induction l generalizing vs n with
  | nil => cases h; simp; exact .nil
  | cons d l ih => cases h with | cons h r => cases n with
    | zero => exact .cons h r
    | succ n => exact ih r n
theorem DR.handed (h : DR κ Z d v) : handedIn v = true := by cases h <;> rfl
end
noncomputable def getD? (k : Str) : List (Str × D) → Option D
  | [] => none
  | (a, d) :: l => if a = k then some d else getD? k l
noncomputable def putD' (k : Str) (v : D) : List (Str × D) → List (Str × D)
  | [] => [(k, v)]
  | (a, d) :: l => if a = k then (a, v) :: l else (a, d) :: putD' k v l
theorem isStr_str (x k : Str) (t : Tok) : (Value.str x t).isStr k = (x == k) := rfl
theorem DRd.find {κ : Str → Int} {Z : Fz} {l : List (Str × D)} {es : List DictEntry} (h : DRd κ Z l es) (k : Str) :
    (∀ d, getD? k l = some d → ∃ e, es.find? (·.key.isStr k) = some e ∧ DR κ Z d e.val) ∧ (getD? k l = none → es.find? (·.key.isStr k) = none) := by
  induction l generalizing es with
  | nil => cases h; simp [getD?]
  | cons p l ih =>
    cases h with
    | @cons a t d v _ es' hd r =>
      unfold getD?
      by_cases e : a = k
      · subst e
        simp only [if_true]
        refine ⟨fun d' hd' => ?_, fun z => by cases z⟩
        cases hd'
        exact ⟨⟨κ a, .str a t, v⟩, by rw [List.find?_cons]; simp [isStr_str], hd⟩
      · rw [if_neg e]
        have ee : (a == k) = false := by simpa using e
        obtain ⟨h1, h2⟩ := ih r
        refine ⟨fun d' hd' => ?_, fun z => ?_⟩
        · obtain ⟨en, he, hv⟩ := h1 d' hd'
          exact ⟨en, by rw [List.find?_cons]; simp [isStr_str, ee, he], hv⟩
        · rw [List.find?_cons]; simp [isStr_str, ee, h2 z]
theorem DRd.noRef {κ : Str → Int} {Z : Fz} {l : List (Str × D)} {es : List DictEntry} (h : DRd κ Z l es) : es.any (·.refKey) = false := by
  induction l generalizing es with
  | nil => cases h; rfl
  | cons p l ih => cases h with | cons hd r => rw [List.any_cons, ih r]; rfl
theorem DRd.getL {κ : Str → Int} {Z : Fz} {l : List (Str × D)} {es : List DictEntry} (h : DRd κ Z l es) (k : Str) :
    (∀ d, getD? k l = some d → ∃ v, W.getL k es = some (some v) ∧ DR κ Z d v) ∧ (getD? k l = none → W.getL k es = some none) := by
  obtain ⟨h1, h2⟩ := h.find k
  refine ⟨fun d hd => ?_, fun hn => ?_⟩
  · obtain ⟨e, he, hv⟩ := h1 d hd
    exact ⟨e.val, by unfold W.getL; rw [he], hv⟩
  · unfold W.getL; rw [h2 hn]; simp [h.noRef]
theorem DRd.putL {κ : Str → Int} {Z : Fz} {l : List (Str × D)} {es : List DictEntry} (h : DRd κ Z l es) (k : Str) (t : Tok) {d : D} {v : Value} (hd : DR κ Z d v) :
    DRd κ Z (putD' k d l) (W.putL k (κ k) (.str k t) v es) := by
  induction l generalizing es with
  | nil => cases h; exact .cons hd .nil
  | cons p l ih =>
    cases h with
    | @cons a t' d' v' _ es' hd' r =>
      unfold putD' W.putL
      by_cases e : a = k
      · subst e; simp only [isStr_str, beq_self_eq_true, if_true]; exact .cons hd r
      · have ee : (a == k) = false := by simpa using e
        simp only [isStr_str, ee, if_neg e, Bool.false_eq_true, if_false]
        exact .cons hd' (ih r)
theorem DRd.length {κ : Str → Int} {Z : Fz} {l : List (Str × D)} {es : List DictEntry} (h : DRd κ Z l es) : es.length = l.length := by
  induction l generalizing es with
  | nil => cases h; rfl
  | cons p l ih => cases h with | cons hd r => simp [ih r]
end Mine
namespace Mine
open PySem PySem.W PyProof.Rows PySem.Calls PySem.Spec
inductive V where
  | d (x : D)
  | obj (i : Nat)
  | val (v : Value)
  | meth (i : Nat) (g : Addr)
  | exn (cls : Value) (args : List D) (as : Option (List (Str × D)))
inductive HO where
  | lst (l : List D)
  | dct (l : List (Str × D))
  | inst (C : Addr) (as : List (Str × D))
  | plst (a : Addr) (o : Obj) (l : List D)
  | pdct (a : Addr) (o : Obj) (l : List (Str × D))
  | exc (cls : Value) (args : List D) (as : Option (List (Str × D))) (tb : Option (Option Addr))
noncomputable def HO.pinned : HO → Option (Addr × Obj)
  | .plst a o _ => some (a, o)
  | .pdct a o _ => some (a, o)
  | _ => none
structure Om where
  ρ : Nat → Option Addr
  Z : Led
structure Cx where
  prog : Program
  w : World
  K : Frag
  base : Heap
  mg : Str → Option Value
  mb : Str → Option Value
  gens : Array GenState
  drawn : Drawn
  os : OsState
  calm : Bool
noncomputable def Cx.hs (c : Cx) : Str → Int := fun x => PyData.keyHash c.w.params x
noncomputable def fz (c : Cx) (ω : Om) : Fz := fun a o => (a, o) ∈ ω.Z ∨ c.base.get? a = some o
noncomputable def XD (κ : Str → Int) (Z : Fz) : Option Addr → Option (List (Str × D)) → Prop
  | some d, some l => ∃ es k, Z d (dictOf es k) ∧ DRd κ Z l es
  | none, none => True
  | _, _ => False
theorem XD.mono {κ : Str → Int} {Z Z' : Fz} (hs : ∀ a o, Z a o → Z' a o) : ∀ {d : Option Addr} {as : Option (List (Str × D))}, XD κ Z d as → XD κ Z' d as
  | some _, some _, ⟨es, k, a, b⟩ => ⟨es, k, hs _ _ a, b.mono hs⟩
  | none, none, h => h
noncomputable def XM (κ : Str → Int) (Z : Fz) : Option Addr → Option (List (Str × D)) → Led → Prop
  | some d, some l, m => ∃ es k, m = [(d, dictOf es k)] ∧ DRd κ Z l es
  | none, none, m => m = []
  | _, _, _ => False
theorem XM.mono {κ : Str → Int} {Z Z' : Fz} (hs : ∀ a o, Z a o → Z' a o) : ∀ {d : Option Addr} {as : Option (List (Str × D))} {m : Led}, XM κ Z d as m → XM κ Z' d as m
  | some _, some _, _, ⟨es, k, a, b⟩ => ⟨es, k, a, b.mono hs⟩
  | none, none, _, h => h
noncomputable def TB (vs : Array Value) (tb : Option (Option Addr)) (m : Led) : Prop := (match tb with
  | none => vs[1]? = some .none ∧ m = []
  | some fl => ∃ T oT ts, m = [(T, oT)] ∧ vs[1]? = some (.ref T) ∧ oT.data = .fields ts ∧ ts[3]? = some (fl.elim .none fun f => rawInt f)) ∧ vs[2]? = some .none
inductive VR (c : Cx) (n : Nat) (ω : Om) : V → Value → Prop
  | d {x : D} {v : Value} : DR c.hs (fz c ω) x v → VR c n ω (.d x) v
  | obj {i : Nat} {a : Addr} : i < (n + 1) * 1000 → ω.ρ i = some a → VR c n ω (.obj i) (.ref a)
  | val (v : Value) : VR c n ω (.val v) v
  | meth {i : Nat} {g q a : Addr} : i < (n + 1) * 1000 → ω.ρ i = some a → fz c ω q (methodObj (.ref g) (.ref a)) → VR c n ω (.meth i g) (.ref q)
  | exn {a T : Addr} {oe : Obj} {vs : Array Value} {ts : List Value} {k : Nat} {args : List D} {as : Option (List (Str × D))} :
      fz c ω a oe → oe.data = .fields vs → vs[0]? = some (.ref T) → fz c ω T (tupObj ts k) → DRs c.hs (fz c ω) args ts → XD c.hs (fz c ω) oe.dict as → VR c n ω (.exn oe.cls args as) (.ref a)
structure Ext (n : Nat) (ω ω' : Om) : Prop where
  ρ : ∀ i, i < n * 1000 → ω'.ρ i = ω.ρ i
  Z : ∃ more, ω'.Z = more ++ ω.Z
theorem Ext.refl (n : Nat) (ω : Om) : Ext n ω ω := ⟨fun _ _ => rfl, [], rfl⟩
theorem Ext.trans {n : Nat} {a b c : Om} (h : Ext n a b) (k : Ext n b c) : Ext n a c :=
  ⟨fun i hi => (k.ρ i hi).trans (h.ρ i hi), let ⟨m, e⟩ := h.Z; let ⟨m', e'⟩ := k.Z; ⟨m' ++ m, by rw [e', e, List.append_assoc]⟩⟩
theorem Ext.le {n k : Nat} {a b : Om} (h : Ext n a b) (hk : k ≤ n) : Ext k a b :=
  ⟨fun i hi => h.ρ i (Nat.lt_of_lt_of_le hi (Nat.mul_le_mul_right _ hk)), h.Z⟩
theorem Ext.fz {c : Cx} {n : Nat} {ω ω' : Om} (h : Ext n ω ω') : ∀ a o, fz c ω a o → fz c ω' a o := fun a o q => by
  obtain ⟨m, e⟩ := h.Z
  exact q.imp (fun q => by rw [e]; exact List.mem_append_right _ q) id
theorem VR.ext {c : Cx} {n : Nat} {ω ω' : Om} (h : Ext (n + 1) ω ω') {x : V} {v : Value} (q : VR c n ω x v) : VR c n ω' x v := by
  cases q with
  | d q => exact .d (q.mono h.fz)
  | obj hi q => exact .obj hi ((h.ρ _ hi).trans q)
  | val => exact .val _
  | meth hi q r => exact .meth hi ((h.ρ _ hi).trans q) (h.fz _ _ r)
  | exn h1 h2 h3 h4 h5 h6 =>
    exact .exn (h.fz _ _ h1) h2 h3 (h.fz _ _ h4) (h5.mono h.fz) (h6.mono h.fz)
theorem VR.up {c : Cx} {n k : Nat} {ω : Om} {x : V} {v : Value} (q : VR c n ω x v) (hk : n ≤ k) : VR c k ω x v := by
  have hk' : (n + 1) * 1000 ≤ (k + 1) * 1000 := Nat.mul_le_mul_right _ (by lia)
  cases q with
  | d q => exact .d q
  | obj hi q => exact .obj (Nat.lt_of_lt_of_le hi hk') q
  | val => exact .val _
  | meth hi q r => exact .meth (Nat.lt_of_lt_of_le hi hk') q r
  | exn h1 h2 h3 h4 h5 h6 => exact .exn h1 h2 h3 h4 h5 h6
inductive HOR (κ : Str → Int) (Z : Fz) : HO → Addr → Led → Prop
  | lst {a : Addr} {l : List D} {vs : List Value} {k : Nat} : DRs κ Z l vs → HOR κ Z (.lst l) a [(a, listOf vs.toArray k)]
  | dct {a : Addr} {o : Obj} {l : List (Str × D)} {es : List DictEntry} {k : Nat} : (a == sysModules) = false → o.ExactDict → o.data = .dict es.toArray k → (l.map (·.1)).Nodup → DRd κ Z l es → HOR κ Z (.dct l) a [(a, o)]
  | inst {a d C : Addr} {as : List (Str × D)} {es : List DictEntry} {k : Nat} : DRd κ Z as es → HOR κ Z (.inst C as) a [(a, instObj C d), (d, dictOf es k)]
  | plst {a : Addr} {l : List D} {vs : List Value} {k : Nat} : DRs κ Z l vs → HOR κ Z (.plst a (listOf vs.toArray k) l) a [(a, listOf vs.toArray k)]
  | pdct {a : Addr} {o : Obj} {l : List (Str × D)} {es : List DictEntry} {k : Nat} : (a == sysModules) = false → o.ExactDict → o.data = .dict es.toArray k → (l.map (·.1)).Nodup → DRd κ Z l es → HOR κ Z (.pdct a o l) a [(a, o)]
  | exc {a T : Addr} {oe : Obj} {vs : Array Value} {ts : List Value} {k : Nat} {args : List D} {as : Option (List (Str × D))} {tb : Option (Option Addr)} {md mt : Led} :
      oe.data = .fields vs → vs[0]? = some (.ref T) → Z T (tupObj ts k) → DRs κ Z args ts → XM κ Z oe.dict as md → TB vs tb mt → HOR κ Z (.exc oe.cls args as tb) a ((a, oe) :: (md ++ mt))
inductive HR (κ : Str → Int) (Z : Fz) (ρ : Nat → Option Addr) : List (Nat × HO) → Led → Prop
  | nil : HR κ Z ρ [] []
  | cons {i : Nat} {o : HO} {a : Addr} {m M : Led} {H : List (Nat × HO)} : ρ i = some a → HOR κ Z o a m → HR κ Z ρ H M → HR κ Z ρ ((i, o) :: H) (m ++ M)
theorem HOR.mono {κ : Str → Int} {Z Z' : Fz} (hs : ∀ a o, Z a o → Z' a o) {o : HO} {a : Addr} {m : Led} (h : HOR κ Z o a m) : HOR κ Z' o a m := by
  cases h with
  | lst h => exact .lst (h.mono hs)
  | dct z a b c h => exact .dct z a b c (h.mono hs)
  | plst h => exact .plst (h.mono hs)
  | pdct z a b c h => exact .pdct z a b c (h.mono hs)
  | inst h => exact .inst (h.mono hs)
  | exc h1 h2 h3 h4 h5 h6 => exact .exc h1 h2 (hs _ _ h3) (h4.mono hs) (h5.mono hs) h6
theorem HR.mono {κ : Str → Int} {Z Z' : Fz} {ρ ρ' : Nat → Option Addr} (hs : ∀ a o, Z a o → Z' a o) {H : List (Nat × HO)} {M : Led} (h : HR κ Z ρ H M) (hr : ∀ p ∈ H, ρ' p.1 = ρ p.1) : HR κ Z' ρ' H M := by
  induction h with
  | nil => exact .nil
  | cons e o r ih => exact .cons ((hr _ (.head _)).trans e) (o.mono hs) (ih fun p hp => hr p (.tail _ hp))
theorem HOR.pin {κ : Str → Int} {Z : Fz} {o : HO} {a : Addr} {m : Led} (h : HOR κ Z o a m) {p : Addr × Obj} (hp : o.pinned = some p) : p ∈ m := by
  cases h <;> first | cases hp; done | (cases hp; exact .head _)
noncomputable def key (x : Str) : Nat := x.cps.toList.foldl (fun h c => h * 128 + c) 1
structure St where
  loc : List (Nat × V)
  heap : List (Nat × HO)
noncomputable def lk {α : Type} (k : Nat) : List (Nat × α) → Option α
  | [] => none
  | (a, x) :: l => bif a == k then some x else lk k l
noncomputable def PinsIn (pin : Led) (H : List (Nat × HO)) : Prop := ∀ p ∈ pin, ∃ i o, lk i H = some o ∧ o.pinned = some p
theorem HR.pin {κ : Str → Int} {Z : Fz} {ρ : Nat → Option Addr} {H : List (Nat × HO)} {M : Led} (h : HR κ Z ρ H M) {i : Nat} {o : HO} {p : Addr × Obj} (hi : lk i H = some o) (hp : o.pinned = some p) : p ∈ M := by
  induction h with
  | nil => cases hi
  | @cons k x a m M H e q r ih =>
    unfold lk at hi
    cases hk : (k == i) with
    | true => rw [hk] at hi; cases hi; exact List.mem_append_left _ (q.pin hp)
    | false => rw [hk] at hi; exact List.mem_append_right _ (ih hi)
structure Fm where
  A : Around
  env : Env
  fr : List (Addr × (Str → Option Value))
  keep : Led
inductive FrR : List (Addr × (Str → Option Value)) → Led → Prop
  | nil : FrR [] []
  | cons {L : Addr} {m : Str → Option Value} {o : Obj} {es : Array DictEntry} {ep : Nat} {l : List (Addr × (Str → Option Value))} {F : Led} :
      o.data = .dict es ep → StrKeys es → (∀ x, nsFind es x = m x) → FrR l F → FrR ((L, m) :: l) ((L, o) :: F)
inductive LocAt (c : Cx) (n : Nat) (f : Fm) (ω : Om) (m : Str → Option Value) (Mc : Led) (x : Str) (X : V) : Prop
  | loc {v : Value} : f.env.kindOf x = some .local → m x = some v → VR c n ω X v → LocAt c n f ω m Mc x X
  | cell {a : Addr} {o : Obj} {v : Value} : f.env.kindOf x = some .cell → f.env.cells.lookup x = some a → (a, o) ∈ Mc → o.data = .cell (some v) → VR c n ω X v → LocAt c n f ω m Mc x X
  | free {a : Addr} {o : Obj} {v : Value} : f.env.kindOf x = some .free → f.env.cells.lookup x = some a → (a, o) ∈ f.keep → o.data = .cell (some v) → VR c n ω X v → LocAt c n f ω m Mc x X
noncomputable def isVar : Option NameKind → Bool
  | some .local | some .cell | some .free => true
  | _ => false
structure Rel (c : Cx) (n : Nat) (f : Fm) (ω : Om) (σ : St) (s : Shared) (m : Str → Option Value) (Mc Mh FR : Led) : Prop where
  fr : Fr c.base f.env.locals s.heap m
  nw : News c.base f.env.locals s.heap (Mc ++ (Mh ++ (ω.Z ++ (FR ++ f.keep))))
  nd : ((Mc ++ (Mh ++ (ω.Z ++ (FR ++ f.keep)))).map (·.1)).Nodup
  frs : FrR f.fr FR
  cells : ∀ x a, f.env.kindOf x = some .cell → f.env.cells.lookup x = some a → ∃ o v, (a, o) ∈ Mc ∧ o.data = .cell v
  cinj : ∀ x y a, f.env.kindOf x = some .cell → f.env.kindOf y = some .cell → f.env.cells.lookup x = some a → f.env.cells.lookup y = some a → x = y
  heap : HR c.hs (fz c ω) ω.ρ σ.heap Mh
  locs : ∀ x X, isVar (f.env.kindOf x) = true → lk (key x) σ.loc = some X → LocAt c n f ω m Mc x X
  gens : s.gens = c.gens
  drawn : s.drawn = c.drawn
  os : s.os = c.os
noncomputable def RelE (c : Cx) (n : Nat) (f : Fm) (ω : Om) (σ : St) (s : Shared) : Prop := ∃ m Mc Mh FR, Rel c n f ω σ s m Mc Mh FR
structure CxOk (c : Cx) : Prop where
  kin : c.K.In c.base
  g : c.base.Ns mainGlobals c.mg
  b : c.base.Ns builtinsNs c.mb
  nolimit : c.base.NoLimit
  nodigits : ∃ mc, c.base.Ns cStatics mc ∧ mc "sys.int_max_str_digits" = none
  low : sysModules < c.base.objs.size
noncomputable def dot0 : Str := ".0"
structure FmOk (c : Cx) (S : Scope) (n : Nat) (f : Fm) : Prop where
  scope : f.env.scope = S
  kind : S.kind = .function
  globals : f.env.globals = mainGlobals
  builtins : f.env.builtins = builtinsNs
  depth : f.A.depth ≤ 310 + n
  units : f.A.units ≤ 100 + 50 * n
  guards : f.A.guards = some []
  frames : ∃ l, f.A.frames = some l ∧ (∀ env ∈ l, env.scope.kind ≠ .module ∧ ∃ L, env.frame = some L ∧ (L = f.env.locals ∨ ∃ m, (L, m) ∈ f.fr)) ∧ (S.names.lookup dot0 = none → (∃ l', l = f.env :: l') ∧ f.env.frame = some f.env.locals)
  hand : c.calm = true → f.A.handled = none
  cellsOk : ∀ x, S.names.lookup x = some .cell → ∃ a, f.env.cells.lookup x = some a
  freeOk : ∀ x a, S.names.lookup x = some .free → f.env.cells.lookup x = some a → a ∈ f.keep.map (·.1) ∨ ∃ o, c.base.get? a = some o
  keys : ∀ x y, isVar (S.names.lookup x) = true → isVar (S.names.lookup y) = true → key x = key y → x = y
end Mine
namespace Mine
open PySem PySem.W PyProof.Rows PySem.Calls PySem.Spec
noncomputable def updL (a : Addr) (o : Obj) (l : Led) : Led := l.map fun p => if p.1 = a then (a, o) else p
theorem updL_keys (a : Addr) (o : Obj) (l : Led) : (updL a o l).map (·.1) = l.map (·.1) := by
  unfold updL
  rw [List.map_map]
  refine List.map_congr_left fun p _ => ?_
  by_cases h : p.1 = a <;> simp [h]
theorem updL_append (a : Addr) (o : Obj) (l k : Led) : updL a o (l ++ k) = updL a o l ++ updL a o k := List.map_append ..
theorem updL_off {a : Addr} {o : Obj} {l : Led} (h : a ∉ l.map (·.1)) : updL a o l = l := by
  induction l with
  | nil => rfl
  | cons p l ih =>
    simp only [List.map_cons, List.mem_cons, not_or] at h
    show (if p.1 = a then (a, o) else p) :: updL a o l = p :: l
    rw [if_neg (Ne.symm h.1), ih h.2]
theorem mem_updL_ne {a b : Addr} {o o' : Obj} {l : Led} (h : (b, o') ∈ l) (e : b ≠ a) : (b, o') ∈ updL a o l :=
  List.mem_map.mpr ⟨(b, o'), h, by simp [e]⟩
theorem mem_updL_self {a : Addr} {o o' : Obj} {l : Led} (h : (a, o') ∈ l) : (a, o) ∈ updL a o l :=
  List.mem_map.mpr ⟨(a, o'), h, by simp⟩
theorem news_updL {base h h' : Heap} {L a : Addr} {o : Obj} {l : Led} (N : News base L h l) (hs : Heap.SameBut a h h') (ho : h'.get? a = some o) : News base L h' (updL a o l) := by
  intro p hp
  obtain ⟨q, hq, rfl⟩ := List.mem_map.mp hp
  have z := N q hq
  by_cases e : q.1 = a
  · rw [if_pos e]; exact ⟨ho, e ▸ z.2.1, e ▸ z.2.2⟩
  · rw [if_neg e]; exact ⟨(hs.2 _ e).trans z.1, z.2⟩
theorem fr_off {base h h' : Heap} {L a : Addr} {m : Str → Option Value} (F : Fr base L h m) (hs : Heap.SameBut a h h') (hL : a ≠ L) (hb : base.get? a = none) : Fr base L h' m :=
  ⟨F.ns.sameBut hs (Ne.symm hL), fun b o e => (hs.2 b fun q => by rw [q, hb] at e; cases e).trans (F.keep b o e), F.above⟩
theorem off_of_nodup {l1 l2 : Led} {a : Addr} (h : ((l1 ++ l2).map (·.1)).Nodup) (ha : a ∈ l1.map (·.1)) : a ∉ l2.map (·.1) := by
  rw [List.map_append] at h
  exact fun hb => (List.nodup_append.mp h).2.2 a ha a hb rfl
noncomputable def setH (i : Nat) (o : HO) : List (Nat × HO) → List (Nat × HO)
  | [] => []
  | (k, x) :: l => bif k == i then (k, o) :: l else (k, x) :: setH i o l
theorem HR.split {κ : Str → Int} {Z : Fz} {ρ : Nat → Option Addr} {H : List (Nat × HO)} {M : Led} (h : HR κ Z ρ H M) {i : Nat} {o : HO} (hi : lk i H = some o) :
    ∃ M1 m M2 a, M = M1 ++ (m ++ M2) ∧ ρ i = some a ∧ HOR κ Z o a m ∧ ∀ o' m', HOR κ Z o' a m' → HR κ Z ρ (setH i o' H) (M1 ++ (m' ++ M2)) := by
  induction h with
  | nil => cases hi
  | @cons k x a m M H e q r ih =>
    unfold lk at hi
    cases hk : (k == i) with
    | true =>
      rw [hk] at hi
      cases hi
      have : k = i := by simpa using hk
      subst this
      refine ⟨[], m, M, a, rfl, e, q, fun o' m' q' => ?_⟩
      show HR κ Z ρ (bif k == k then (k, o') :: H else (k, o) :: setH k o' H) (m' ++ M)
      rw [hk]
      exact .cons e q' r
    | false =>
      rw [hk] at hi
      obtain ⟨M1, m0, M2, a0, rfl, h1, h2, h3⟩ := ih hi
      refine ⟨m ++ M1, m0, M2, a0, by simp only [List.append_assoc], h1, h2, fun o' m' q' => ?_⟩
      show HR κ Z ρ (bif k == i then _ else (k, x) :: setH i o' H) _
      rw [hk, List.append_assoc]
      exact .cons e q (h3 o' m' q')
section
variable {c : Cx} {n : Nat} {f : Fm} {ω ω' : Om} {σ σ' : St} {s : Shared}
theorem RelE.toks {k : Tok} (h : RelE c n f ω σ s) : RelE c n f ω σ { s with toks := k } := by
  obtain ⟨m, Mc, Mh, FR, r⟩ := h
  exact ⟨m, Mc, Mh, FR, ⟨r.fr, r.nw, r.nd, r.frs, r.cells, r.cinj, r.heap, r.locs, r.gens, r.drawn, r.os⟩⟩
theorem LocAt.ext {m : Str → Option Value} {Mc : Led} {x : Str} {X : V} (h : Ext (n + 1) ω ω') (q : LocAt c n f ω m Mc x X) : LocAt c n f ω' m Mc x X := by
  cases q with
  | loc a b d => exact .loc a b (d.ext h)
  | cell a b d e g => exact .cell a b d e (g.ext h)
  | free a b d e g => exact .free a b d e (g.ext h)
theorem Ext.frz (n : Nat) (ω : Om) (l : Led) : Ext n ω { ω with Z := l ++ ω.Z } := ⟨fun _ _ => rfl, l, rfl⟩
theorem Rel.frz {m : Str → Option Value} {Mc Mh FR : Led} {h' : Heap} {a : Addr} {o : Obj} {k : Tok} (r : Rel c n f ω σ s m Mc Mh FR)
    (F' : Fr c.base f.env.locals h' m) (N' : News c.base f.env.locals h' ((a, o) :: (Mc ++ (Mh ++ (ω.Z ++ (FR ++ f.keep)))))) (lt : ∀ p ∈ Mc ++ (Mh ++ (ω.Z ++ (FR ++ f.keep))), p.1 < a) :
    Rel c n f { ω with Z := (a, o) :: ω.Z } σ { s with heap := h', toks := k } m Mc Mh FR := by
  have X : Ext (n + 1) ω { ω with Z := (a, o) :: ω.Z } := Ext.frz _ ω [(a, o)]
  refine ⟨F', fun p hp => N' p ?_, ?_, r.frs, r.cells, r.cinj, r.heap.mono X.fz fun _ _ => rfl, fun x V hv hx => (r.locs x V hv hx).ext X, r.gens, r.drawn, r.os⟩
  · simp only [List.mem_append, List.mem_cons] at hp ⊢
    rcases hp with hp | hp | (hp | hp) | hp | hp
    · exact .inr (.inl hp)
    · exact .inr (.inr (.inl hp))
    · exact .inl hp
    · exact .inr (.inr (.inr (.inl hp)))
    · exact .inr (.inr (.inr (.inr (.inl hp))))
    · exact .inr (.inr (.inr (.inr (.inr hp))))
  · have nd := r.nd
    have hp : (Mc ++ (Mh ++ (((a, o) :: ω.Z) ++ (FR ++ f.keep)))).Perm ((a, o) :: (Mc ++ (Mh ++ (ω.Z ++ (FR ++ f.keep))))) := by
      rw [← List.append_assoc, ← List.append_assoc Mc]
      exact List.perm_middle
    rw [(hp.map (·.1)).nodup_iff, List.map_cons, List.nodup_cons]
    refine ⟨fun hm => ?_, nd⟩
    obtain ⟨p, hp, e⟩ := List.mem_map.mp hm
    exact absurd (e ▸ lt p hp) (Nat.lt_irrefl _)
theorem Rel.lt {m : Str → Option Value} {Mc Mh FR : Led} (r : Rel c n f ω σ s m Mc Mh FR) : ∀ p ∈ Mc ++ (Mh ++ (ω.Z ++ (FR ++ f.keep))), p.1 < s.heap.objs.size := fun p hp => Heap.lt_size (r.nw p hp).1
theorem RelE.keep (R : RelE c n f ω σ s) : ∀ b o, c.base.get? b = some o → s.heap.get? b = some o := by
  obtain ⟨m, Mc, Mh, FR, r⟩ := R
  exact r.fr.keep
theorem RelE.fz (R : RelE c n f ω σ s) {a : Addr} {o : Obj} (h : fz c ω a o) : s.heap.get? a = some o := by
  obtain ⟨m, Mc, Mh, FR, r⟩ := R
  rcases h with h | h
  · exact (r.nw _ (List.mem_append_right _ (List.mem_append_right _ (List.mem_append_left _ h)))).1
  · exact r.fr.keep _ _ h
theorem RelE.push {o : Obj} {k : Tok} (hf : o.isFreed = false) (R : RelE c n f ω σ s) : RelE c n f { ω with Z := (s.heap.objs.size, o) :: ω.Z } σ { s with heap := s.heap.push o, toks := k } := by
  obtain ⟨m, Mc, Mh, FR, r⟩ := R
  exact ⟨m, Mc, Mh, FR, r.frz (r.fr.push o) (r.nw.push r.fr o hf) r.lt⟩
theorem store_name {x : Str} {X : V} {v : Value} {E : Value → Shared → Prop} {Q : Unit → Shared → Prop} {S : Scope} (F : FmOk c S n f) (R : RelE c n f ω σ s) (hv : S.names.lookup x = some .local ∨ S.names.lookup x = some .cell) (hX : VR c n ω X v)
    (h : ∀ s', RelE c n f ω { σ with loc := (key x, X) :: σ.loc } s' → Q () s') (hc : S.names.lookup x = some .cell → ∃ a, f.env.cells.lookup x = some a) : wpAny (model c.prog c.w) f.A (storeName f.env x v) Q E s := by
  obtain ⟨m, Mc, Mh, FR, r⟩ := R
  have hk : f.env.scope.kind = .function := by rw [F.scope]; exact F.kind
  have kx : f.env.kindOf x = S.names.lookup x := by unfold Env.kindOf; rw [F.scope]
  have locs : ∀ (m' : Str → Option Value) (Mc' : Led), LocAt c n f ω m' Mc' x X → (∀ y Y, isVar (f.env.kindOf y) = true → y ≠ x → LocAt c n f ω m Mc y Y → LocAt c n f ω m' Mc' y Y) →
      ∀ y Y, isVar (f.env.kindOf y) = true → lk (key y) ((key x, X) :: σ.loc) = some Y → LocAt c n f ω m' Mc' y Y := by
    intro m' Mc' h1 h2 y Y hy hl
    unfold lk at hl
    cases q : (key x == key y) with
    | true =>
      rw [q] at hl
      cases hl
      have hxv : isVar (S.names.lookup x) = true := by rcases hv with e | e <;> rw [e] <;> rfl
      have e : x = y := F.keys x y hxv (by rw [← F.scope]; exact hy) (by simpa using q)
      subst e; exact h1
    | false =>
      rw [q] at hl
      have ne : y ≠ x := fun e => by subst e; simp at q
      exact h2 y Y hy ne (r.locs y Y hy hl)
  rcases hv with hv | hv
  · rw [hv] at kx
    refine wpAny_storeName_local kx r.fr.ns (fun h' hn hs => h _ ?_) (by show (f.env.scope.kind == .class || (f.env.scope.kind == .module && f.env.locals != f.env.globals)) = false; rw [hk]; rfl)
    refine ⟨_, Mc, Mh, FR, ⟨r.fr.set hn hs, r.nw.set hs, r.nd, r.frs, r.cells, r.cinj, r.heap, locs _ _ (.loc kx (by simp) hX) fun y Y _ ne q => ?_, r.gens, r.drawn, r.os⟩⟩
    cases q with
    | loc a b d => exact .loc a (by rw [if_neg ne]; exact b) d
    | cell a b d e g => exact .cell a b d e g
    | free a b d e g => exact .free a b d e g
  · obtain ⟨a, ha⟩ := hc hv
    rw [hv] at kx
    obtain ⟨o, v0, hm, hd⟩ := r.cells x a kx ha
    have hN := r.nw _ (List.mem_append_left _ hm)
    refine wpAny_storeName_cell hk kx ha ⟨o, hN.1, hd⟩ fun h' hv' hs => ?_
    obtain ⟨o', ho', hd'⟩ := hv'
    have hN' := news_updL r.nw hs ho'
    have hak : a ∈ Mc.map (·.1) := List.mem_map.mpr ⟨_, hm, rfl⟩
    rw [updL_append, updL_off (off_of_nodup r.nd hak)] at hN'
    have nd' : ((updL a o' Mc ++ (Mh ++ (ω.Z ++ (FR ++ f.keep)))).map (·.1)).Nodup := by rw [List.map_append, updL_keys, ← List.map_append]; exact r.nd
    refine h _ (RelE.toks (k := s.toks) (s := { s with heap := h' }) ⟨m, updL a o' Mc, Mh, FR, ⟨fr_off r.fr hs hN.2.1 hN.2.2, hN', nd', r.frs, fun y b hy hb => ?_, r.cinj, r.heap, locs _ _ (.cell kx ha (mem_updL_self hm) hd' hX) fun y Y _ ne q => ?_, r.gens, r.drawn, r.os⟩⟩)
    · obtain ⟨ob, vb, hmb, hdb⟩ := r.cells y b hy hb
      by_cases e : b = a
      · subst e; exact ⟨o', _, mem_updL_self hm, hd'⟩
      · exact ⟨ob, vb, mem_updL_ne hmb e, hdb⟩
    · cases q with
      | loc a' b d => exact .loc a' b d
      | cell a' b d e g =>
        rename_i ad ob vb
        exact .cell a' b (mem_updL_ne d fun e' => ne (r.cinj y x ad a' kx b (e' ▸ ha))) e g
      | free a' b d e g => exact .free a' b d e g
end
end Mine
namespace Mine
open PySem PySem.W PyProof.Rows PySem.Calls PySem.Spec
inductive VRs (c : Cx) (n : Nat) (ω : Om) : List V → List Value → Prop
  | nil : VRs c n ω [] []
  | cons {X : V} {v : Value} {Xs : List V} {vs : List Value} : VR c n ω X v → VRs c n ω Xs vs → VRs c n ω (X :: Xs) (v :: vs)
theorem VRs.ext {c : Cx} {n : Nat} {ω ω' : Om} (h : Ext (n + 1) ω ω') {Xs : List V} {vs : List Value} (q : VRs c n ω Xs vs) : VRs c n ω' Xs vs := by
  induction q with
  | nil => exact .nil
  | cons a _ ih => exact .cons (a.ext h) ih
noncomputable def Ev (c : Cx) (S : Scope) (n : Nat) (e : Expr) (σ : St) (X : V) (σ' : St) : Prop :=
  ∀ f, FmOk c S n f → ∀ ω s Q E, RelE c n f ω σ s →
    (∀ ω' v s', Ext (n + 1) ω ω' → RelE c n f ω' σ' s' → VR c n ω' X v → Q v s') → wpAny (model c.prog c.w) f.A (eval e f.env) Q E s
noncomputable def Evs (c : Cx) (S : Scope) (n : Nat) (es : List Expr) (σ : St) (Xs : List V) (σ' : St) : Prop :=
  ∀ pos f, FmOk c S n f → ∀ ω s Q E, RelE c n f ω σ s →
    (∀ ω' vs s', Ext (n + 1) ω ω' → RelE c n f ω' σ' s' → VRs c n ω' Xs vs → Q vs s') → wpAny (model c.prog c.w) f.A (spliced (backTo pos (starEach es f.env))) Q E s
noncomputable def Ts (c : Cx) (S : Scope) (n : Nat) (e : Expr) (σ : St) (b : Bool) (σ' : St) : Prop :=
  ∀ f, FmOk c S n f → ∀ ω s Q E, RelE c n f ω σ s →
    (∀ ω' s', Ext (n + 1) ω ω' → RelE c n f ω' σ' s' → Q b s') → wpAny (model c.prog c.w) f.A (isTrue e f.env (eval e f.env)) Q E s
noncomputable def OpN (c : Cx) (n : Nat) (t : List Value → Sem Value) (Xs : List V) (σ : St) (Z : V) (σ' : St) : Prop :=
  ∀ S f, FmOk c S n f → ∀ ω s Q E vs, RelE c n f ω σ s → VRs c n ω Xs vs →
    (∀ ω' v s', Ext (n + 1) ω ω' → RelE c n f ω' σ' s' → VR c n ω' Z v → Q v s') → wpAny (model c.prog c.w) f.A (t vs) Q E s
noncomputable def Op2 (c : Cx) (n : Nat) (t : Value → Value → Sem Value) (X Y : V) (σ : St) (Z : V) (σ' : St) : Prop :=
  ∀ S f, FmOk c S n f → ∀ ω s Q E x y, RelE c n f ω σ s → VR c n ω X x → VR c n ω Y y →
    (∀ ω' v s', Ext (n + 1) ω ω' → RelE c n f ω' σ' s' → VR c n ω' Z v → Q v s') → wpAny (model c.prog c.w) f.A (t x y) Q E s
noncomputable def Op1 (c : Cx) (n : Nat) (t : Value → Sem Value) (X : V) (σ : St) (Z : V) (σ' : St) : Prop :=
  ∀ S f, FmOk c S n f → ∀ ω s Q E x, RelE c n f ω σ s → VR c n ω X x →
    (∀ ω' v s', Ext (n + 1) ω ω' → RelE c n f ω' σ' s' → VR c n ω' Z v → Q v s') → wpAny (model c.prog c.w) f.A (t x) Q E s
noncomputable def Tr (c : Cx) (n : Nat) (X : V) (σ : St) (b : Bool) : Prop :=
  ∀ S f, FmOk c S n f → ∀ ω s Q E x, RelE c n f ω σ s → VR c n ω X x →
    (∀ s', RelE c n f ω σ s' → Q b s') → wpAny (model c.prog c.w) f.A (truthy x) Q E s
noncomputable def GetM (c : Cx) (n : Nat) (X : V) (name : Str) (σ : St) (g : Value) : Prop :=
  ∀ S f, FmOk c S n f → ∀ ω s Q E x pl, RelE c n f ω σ s → VR c n ω X x →
    (Q (g, [x]) s) → wpAny (model c.prog c.w) f.A (getMethod x name pl) Q E s
section
variable {c : Cx} {S : Scope} {n : Nat} {σ σ' σ₁ σ₂ σ₃ σ₄ : St} {X Y Z W : V} {e l r : Expr} {es : List Expr} {Xs : List V} {pos : Pos}
theorem ev_int {i : Int} {k : Nat} : Ev c S n (.Constant (.int i) k pos) σ (.d (.int i)) σ := fun f _ ω s Q E R h =>
  wpAny_Constant_int (h ω _ _ (.refl ..) R.toks (.d (.int _ _)))
theorem ev_str {x : Str} {k : Nat} : Ev c S n (.Constant (.str x) k pos) σ (.d (.str x)) σ := fun f _ ω s Q E R h =>
  fun _ _ _ => h ω (.str x s.toks) { s with toks := s.toks + 1 } (.refl ..) R.toks (.d (.str _ _))
theorem ev_bytes {x : List UInt8} {k : Nat} : Ev c S n (.Constant (.bytes x) k pos) σ (.d (.bytes x.toArray)) σ := fun f _ ω s Q E R h =>
  fun _ _ _ => h ω (.bytes x.toArray s.toks) { s with toks := s.toks + 1 } (.refl ..) R.toks (.d (.bytes _ _))
theorem ev_bool {b : Bool} {k : Nat} : Ev c S n (.Constant (.bool b) k pos) σ (.d (.bool b)) σ := fun f _ ω s Q E R h =>
  fun _ _ _ => h ω (.bool b) s (.refl ..) R (.d (.bool _))
theorem ev_none {k : Nat} : Ev c S n (.Constant .none k pos) σ (.d .none) σ := fun f _ ω s Q E R h =>
  fun _ _ _ => h ω .none s (.refl ..) R (.d .none)
noncomputable def plainNm (x : Str) : Bool := x != ("__debug__" : Str) && x != ("__classdict__" : Str)
theorem plainNm_1 {x : Str} (h : plainNm x = true) : (x == ("__debug__" : Str)) = false := by
  unfold plainNm at h; simp only [Bool.and_eq_true, bne_iff_ne, ne_eq] at h; simpa using h.1
theorem plainNm_2 {x : Str} (h : plainNm x = true) : (x == ("__classdict__" : Str)) = false := by
  unfold plainNm at h; simp only [Bool.and_eq_true, bne_iff_ne, ne_eq] at h; simpa using h.2
theorem ev_name {x : Str} (hv : isVar (S.names.lookup x) = true) (hd : plainNm x = true) (hx : lk (key x) σ.loc = some X) : Ev c S n (.Name x pos) σ X σ := fun f F ω s Q E R h => by
  obtain ⟨m, Mc, Mh, FR, r⟩ := id R
  have hk : f.env.scope.kind = .function := by rw [F.scope]; exact F.kind
  have hv' : isVar (f.env.kindOf x) = true := by unfold Env.kindOf; rw [F.scope]; exact hv
  refine wpAny_Name ?_ (plainNm_1 hd)
  cases r.locs x X hv' hx with
  | loc a b d => exact wpAny_loadName_local hk a r.fr.ns b (h ω _ s (.refl ..) R d)
  | cell a b d e g => exact wpAny_loadName_cell hk a b ⟨_, (r.nw _ (List.mem_append_left _ d)).1, e⟩ (h ω _ s (.refl ..) R g)
  | free a b d e g =>
    exact wpAny_loadName_free hk a b ⟨_, (r.nw _ (List.mem_append_right _ (List.mem_append_right _ (List.mem_append_right _ (List.mem_append_right _ d))))).1, e⟩ (h ω _ s (.refl ..) R g) (plainNm_2 hd)
noncomputable def GlobIs (c : Cx) (x : Str) (v : Value) : Prop := c.mg x = some v ∨ (c.mg x = none ∧ c.mb x = some v)
theorem ev_glob {x : Str} {v : Value} (hC : CxOk c) (hv : S.names.lookup x = some .globalImplicit) (hd : plainNm x = true) (hx : GlobIs c x v) : Ev c S n (.Name x pos) σ (.val v) σ := fun f F ω s Q E R h => by
  have hk : f.env.scope.kind = .function := by rw [F.scope]; exact F.kind
  have kx : f.env.kindOf x = some .globalImplicit := by unfold Env.kindOf; rw [F.scope]; exact hv
  have hg : s.heap.Ns f.env.globals c.mg := by rw [F.globals]; exact hC.g.keeps R.keep
  have hb : s.heap.Ns f.env.builtins c.mb := by rw [F.builtins]; exact hC.b.keeps R.keep
  refine Name_function_global hk kx ?_ (plainNm_1 hd)
  rcases hx with hx | ⟨h1, h2⟩
  · exact loadGlobal_global hg hx (h ω v s (.refl ..) R (.val v))
  · exact loadGlobal_builtin hg h1 hb h2 (h ω v s (.refl ..) R (.val v))
noncomputable def GlobD (c : Cx) (x : Str) (d : D) : Prop := ∃ v, GlobIs c x v ∧ ∀ ω, DR c.hs (fz c ω) d v
theorem ev_globd {x : Str} {d : D} (hC : CxOk c) (hv : S.names.lookup x = some .globalImplicit) (hd : plainNm x = true) (hx : GlobD c x d) : Ev c S n (.Name x pos) σ (.d d) σ := fun f F ω s Q E R h => by
  obtain ⟨v, h1, h2⟩ := hx
  exact ev_glob hC hv hd h1 f F ω s Q E R fun ω' v' s' e R' A => h ω' v' s' e R' (by cases A; exact .d (h2 ω'))
noncomputable def notStar : Expr → Bool
  | .Starred .. => false
  | _ => true
theorem starEach_plain {e : Expr} {rest : List Expr} {env : Env} (h : notStar e = true) : starEach (e :: rest) env = (false, eval e env) :: starEach rest env := by
  cases e <;> first | rfl | cases h
theorem evs_nil : Evs c S n [] σ [] σ := fun p f F ω s Q E R h => spliced_none (h ω [] s (.refl ..) R .nil)
theorem evs_cons (h1 : Ev c S n e σ X σ₁) (h2 : Evs c S n es σ₁ Xs σ₂) (hs : notStar e = true := by rfl) : Evs c S n (e :: es) σ (X :: Xs) σ₂ := fun p f F ω s Q E R h =>
  spliced_more (h1 f F ω s _ _ R fun ω₁ v s₁ e₁ R₁ A₁ => h2 p f F ω₁ s₁ _ _ R₁ fun ω₂ vs s₂ e₂ R₂ B => h ω₂ (v :: vs) s₂ (e₁.trans e₂) R₂ (.cons (A₁.ext e₂) B)) (starEach_plain hs)
theorem ev_binop {op : Operator} (h1 : Ev c S n l σ X σ₁) (h2 : Ev c S n r σ₁ Y σ₂) (h3 : Op2 c n (binaryOp op) X Y σ₂ Z σ₃) : Ev c S n (.BinOp l op r pos) σ Z σ₃ := fun f F ω s Q E R h => by
  refine wpAny_BinOp (h1 f F ω s _ _ R fun ω₁ a s₁ e₁ R₁ A₁ => h2 f F ω₁ s₁ _ _ R₁ fun ω₂ b s₂ e₂ R₂ B₂ => ?_)
  exact h3 S f F ω₂ s₂ _ _ a b R₂ (A₁.ext e₂) B₂ fun ω₃ v s₃ e₃ R₃ C₃ => h ω₃ v s₃ (e₁.trans (e₂.trans e₃)) R₃ C₃
theorem ev_cmp {op : CmpOp} (h1 : Ev c S n l σ X σ₁) (h2 : Ev c S n r σ₁ Y σ₂) (h3 : Op2 c n (compareOp op) X Y σ₂ Z σ₃) (hm : behindInMarks op r = false := by rfl) : Ev c S n (.Compare l [op] [r] pos) σ Z σ₃ := fun f F ω s Q E R h => by
  refine wpAny_Compare1 (h1 f F ω s _ _ R fun ω₁ a s₁ e₁ R₁ A₁ => h2 f F ω₁ s₁ _ _ R₁ fun ω₂ b s₂ e₂ R₂ B₂ => ?_) hm
  exact h3 S f F ω₂ s₂ _ _ a b R₂ (A₁.ext e₂) B₂ fun ω₃ v s₃ e₃ R₃ C₃ => h ω₃ v s₃ (e₁.trans (e₂.trans e₃)) R₃ C₃
theorem ev_unop {op : UnaryOp} (h1 : Ev c S n e σ X σ₁) (h3 : Op1 c n (unaryOp op) X σ₁ Z σ₂) : Ev c S n (.UnaryOp op e pos) σ Z σ₂ := fun f F ω s Q E R h => by
  refine wpAny_bind (h1 f F ω s _ _ R fun ω₁ a s₁ e₁ R₁ A₁ => wpAny_bind (wpAny_standAt (wpAny_holding ?_)))
  exact h3 S f F ω₁ s₁ _ _ a R₁ A₁ fun ω₃ v s₃ e₃ R₃ C₃ => h ω₃ v s₃ (e₁.trans e₃) R₃ C₃
theorem ts_cmp {op : CmpOp} {b : Bool} (h1 : Ev c S n l σ X σ₁) (h2 : Ev c S n r σ₁ Y σ₂) (h3 : Op2 c n (compareOp op) X Y σ₂ (.d (.bool b)) σ₃) (hm : behindInMarks op r = false := by rfl) : Ts c S n (.Compare l [op] [r] pos) σ b σ₃ := fun f F ω s Q E R h => by
  refine wpAny_isTrue_Compare1 (h1 f F ω s _ _ R fun ω₁ a s₁ e₁ R₁ A₁ => h2 f F ω₁ s₁ _ _ R₁ fun ω₂ b s₂ e₂ R₂ B₂ => ?_) hm
  refine h3 S f F ω₂ s₂ _ _ a b R₂ (A₁.ext e₂) B₂ fun ω₃ v s₃ e₃ R₃ C₃ => ?_
  cases C₃ with | d q => cases q; exact wpAny_truthy_bool (h ω₃ s₃ (e₁.trans (e₂.trans e₃)) R₃)
theorem ts_not {b : Bool} (h1 : Ts c S n e σ b σ₁) : Ts c S n (.UnaryOp .Not e pos) σ (!b) σ₁ := fun f F ω s Q E R h =>
  wpAny_bind (m := isTrue e f.env (eval e f.env)) (h1 f F ω s _ _ R fun ω₁ s₁ e₁ R₁ => wpAny_pure (h ω₁ s₁ e₁ R₁))
noncomputable def plainTest : Expr → Bool
  | .UnaryOp .Not .. | .BoolOp .. | .IfExp .. | .Compare .. => false
  | _ => true
theorem isTrue_plain' {e : Expr} {env : Env} {whole : Sem Value} (h : plainTest e = true) : isTrue e env whole = (do let v ← whole; standAt e.pos; holding [v] (truthy v)) := by
  cases e with
  | UnaryOp op _ _ => cases op <;> first | rfl | cases h
  | _ => first | rfl | cases h
theorem ts_plain {b : Bool} (h1 : Ev c S n e σ X σ₁) (h2 : Tr c n X σ₁ b) (hp : plainTest e = true := by rfl) : Ts c S n e σ b σ₁ := fun f F ω s Q E R h =>
  isTrue_plain (h1 f F ω s _ _ R fun ω₁ v s₁ e₁ R₁ A₁ => h2 S f F ω₁ s₁ _ _ v R₁ A₁ fun s₂ R₂ => h ω₁ s₂ e₁ R₂) (isTrue_plain' hp)
noncomputable def Tss (c : Cx) (S : Scope) (n : Nat) (op : BoolOp) (es : List Expr) (σ : St) (b : Bool) (σ' : St) : Prop :=
  ∀ f, FmOk c S n f → ∀ ω s Q E, RelE c n f ω σ s →
    (∀ ω' s', Ext (n + 1) ω ω' → RelE c n f ω' σ' s' → Q b s') → wpAny (model c.prog c.w) f.A (allTrue op es f.env) Q E s
theorem tss_nil {op : BoolOp} : Tss c S n op [] σ (op == .And) σ := fun f F ω s Q E R h => by
  unfold allTrue; exact wpAny_pure (h ω s (.refl ..) R)
theorem tss_and_no (h1 : Ts c S n e σ false σ₁) : Tss c S n .And (e :: es) σ false σ₁ := fun f F ω s Q E R h => by
  unfold allTrue; exact wpAny_bind (h1 f F ω s _ _ R fun ω₁ s₁ e₁ R₁ => wpAny_pure (h ω₁ s₁ e₁ R₁))
theorem tss_and_yes {b : Bool} (h1 : Ts c S n e σ true σ₁) (h2 : Tss c S n .And es σ₁ b σ₂) : Tss c S n .And (e :: es) σ b σ₂ := fun f F ω s Q E R h => by
  unfold allTrue; exact wpAny_bind (h1 f F ω s _ _ R fun ω₁ s₁ e₁ R₁ => h2 f F ω₁ s₁ _ _ R₁ fun ω₂ s₂ e₂ R₂ => h ω₂ s₂ (e₁.trans e₂) R₂)
theorem ts_bool {op : BoolOp} {b : Bool} (h1 : Tss c S n op es σ b σ₁) : Ts c S n (.BoolOp op es pos) σ b σ₁ := fun f F ω s Q E R h => by
  show wpAny _ _ (allTrue op es f.env) Q E s
  exact h1 f F ω s _ _ R h
theorem tss_and {b b' : Bool} (h1 : Ts c S n e σ b σ) (h2 : Tss c S n .And es σ b' σ) : Tss c S n .And (e :: es) σ (b && b') σ := by
  cases b with
  | false => exact tss_and_no h1
  | true => exact tss_and_yes h1 h2
theorem ev_ite {b : Bool} {t : Expr} (h0 : Ts c S n t σ b σ₁) (h1 : b = true → Ev c S n l σ₁ X σ₂) (h2 : b = false → Ev c S n r σ₁ X σ₂) : Ev c S n (.IfExp t l r pos) σ X σ₂ := fun f F ω s Q E R h => by
  refine wpAny_IfExp (h0 f F ω s _ _ R fun ω₁ s₁ e₁ R₁ => ?_)
  cases b with
  | true => exact h1 rfl f F ω₁ s₁ _ _ R₁ fun ω₂ v s₂ e₂ R₂ A => h ω₂ v s₂ (e₁.trans e₂) R₂ A
  | false => exact h2 rfl f F ω₁ s₁ _ _ R₁ fun ω₂ v s₂ e₂ R₂ A => h ω₂ v s₂ (e₁.trans e₂) R₂ A
theorem ev_or1 (h1 : Ev c S n e σ X σ₁) : Ev c S n (.BoolOp .Or [e] pos) σ X σ₁ := fun f F ω s Q E R h => BoolOp_one (h1 f F ω s _ _ R h)
theorem ev_or {b : Bool} {e' : Expr} (h1 : Ev c S n e σ X σ₁) (h2 : Tr c n X σ₁ b) (h3 : b = true → X = Z ∧ σ₁ = σ₂) (h4 : b = false → Ev c S n (.BoolOp .Or (e' :: es) pos) σ₁ Z σ₂) : Ev c S n (.BoolOp .Or (e :: e' :: es) pos) σ Z σ₂ := fun f F ω s Q E R h =>
  BoolOp_or (h1 f F ω s _ _ R fun ω₁ v s₁ e₁ R₁ A₁ => h2 S f F ω₁ s₁ _ _ v R₁ A₁ fun s₂ R₂ => by
    cases b with
    | true => obtain ⟨rfl, rfl⟩ := h3 rfl; exact h ω₁ v s₂ e₁ R₂ A₁
    | false => exact h4 rfl f F ω₁ s₂ _ _ R₂ fun ω₂ u s₃ e₂ R₃ A => h ω₂ u s₃ (e₁.trans e₂) R₃ A)
theorem ev_tuple {k : Nat} (h1 : Evs c S n es σ Xs σ₁) (h2 : OpN c n newTuple Xs σ₁ Z σ₂) : Ev c S n (.Tuple es k pos) σ Z σ₂ := fun f F ω s Q E R h =>
  Tuple_ (h1 pos f F ω s _ _ R fun ω₁ vs s₁ e₁ R₁ A₁ => h2 S f F ω₁ s₁ _ _ vs R₁ A₁ fun ω₂ v s₂ e₂ R₂ B => h ω₂ v s₂ (e₁.trans e₂) R₂ B)
theorem ev_list (h1 : Evs c S n es σ Xs σ₁) (h2 : OpN c n newList Xs σ₁ Z σ₂) : Ev c S n (.List es pos) σ Z σ₂ := fun f F ω s Q E R h =>
  List_ (h1 pos f F ω s _ _ R fun ω₁ vs s₁ e₁ R₁ A₁ => h2 S f F ω₁ s₁ _ _ vs R₁ A₁ fun ω₂ v s₂ e₂ R₂ B => h ω₂ v s₂ (e₁.trans e₂) R₂ B)
theorem ev_sub (h1 : Ev c S n l σ X σ₁) (h2 : Ev c S n r σ₁ Y σ₂) (h3 : Op2 c n (subscriptTail l r) X Y σ₂ Z σ₃) : Ev c S n (.Subscript l r pos) σ Z σ₃ := fun f F ω s Q E R h => by
  refine Subscript_ (h1 f F ω s _ _ R fun ω₁ a s₁ e₁ R₁ A₁ => h2 f F ω₁ s₁ _ _ R₁ fun ω₂ b s₂ e₂ R₂ B₂ => ?_)
  exact h3 S f F ω₂ s₂ _ _ a b R₂ (A₁.ext e₂) B₂ fun ω₃ v s₃ e₃ R₃ C₃ => h ω₃ v s₃ (e₁.trans (e₂.trans e₃)) R₃ C₃
theorem anyBack {es : List Expr} {env : Env} (h : es.all notStar = true) : ((backTo pos (starEach es env)).any fun x => x.1) = false := by
  induction es with
  | nil => rfl
  | cons e es ih =>
    rw [List.all_cons, Bool.and_eq_true] at h
    rw [starEach_plain h.1]
    show (false || (backTo pos (starEach es env)).any fun x => x.1) = false
    rw [ih h.2]; rfl
theorem ev_callb {id : String} (h1 : Ev c S n l σ (.val (.builtin id)) σ₁) (h2 : Evs c S n (e :: es) σ₁ Xs σ₂) (h3 : OpN c n (fun vs => call (.builtin id) vs) Xs σ₂ Z σ₃) (ha : notStar e = true := by rfl) (hs : es.all notStar = true := by rfl)
    (hc : ∀ env, eval (.Call l (e :: es) [] pos) env = (do callWith pos (← eval l env) [] (backTo pos (starEach (e :: es) env)) (backToKw pos (keywordEach [] env))) := by intro _; rfl) : Ev c S n (.Call l (e :: es) [] pos) σ Z σ₃ := fun f F ω s Q E R h => by
  refine Call_ (h1 f F ω s _ _ R fun ω₁ v s₁ e₁ R₁ A₁ => ?_) (hc _)
  cases A₁
  exact callWith_builtin1 (h2 pos f F ω₁ s₁ _ _ R₁ fun ω₂ vs s₂ e₂ R₂ B => h3 S f F ω₂ s₂ _ _ vs R₂ B fun ω₃ u s₃ e₃ R₃ C => h ω₃ u s₃ (e₁.trans (e₂.trans e₃)) R₃ C) (starEach_plain ha) (anyBack hs)
theorem ev_callt {T : String} (h1 : Ev c S n l σ (.val (.type T)) σ₁) (h2 : Evs c S n (e :: es) σ₁ Xs σ₂) (h3 : OpN c n (fun vs => call (.type T) vs) Xs σ₂ Z σ₃) (ha : notStar e = true := by rfl) (hs : es.all notStar = true := by rfl)
    (hc : ∀ env, eval (.Call l (e :: es) [] pos) env = (do callWith pos (← eval l env) [] (backTo pos (starEach (e :: es) env)) (backToKw pos (keywordEach [] env))) := by intro _; rfl) : Ev c S n (.Call l (e :: es) [] pos) σ Z σ₃ := fun f F ω s Q E R h => by
  refine Call_ (h1 f F ω s _ _ R fun ω₁ v s₁ e₁ R₁ A₁ => ?_) (hc _)
  cases A₁
  exact callWith_type1 (h2 pos f F ω₁ s₁ _ _ R₁ fun ω₂ vs s₂ e₂ R₂ B => h3 S f F ω₂ s₂ _ _ vs R₂ B fun ω₃ u s₃ e₃ R₃ C => h ω₃ u s₃ (e₁.trans (e₂.trans e₃)) R₃ C) (starEach_plain ha) (anyBack hs)
theorem ev_callf {a : Addr} (hC : CxOk c) (hk : keepIn c.K (.ref a) = true) (h1 : Ev c S n l σ (.val (.ref a)) σ₁) (h2 : Evs c S n (e :: es) σ₁ Xs σ₂) (h3 : OpN c n (fun vs => call (.ref a) vs) Xs σ₂ Z σ₃) (ha : notStar e = true := by rfl) (hs : es.all notStar = true := by rfl)
    (hc : ∀ env, eval (.Call l (e :: es) [] pos) env = (do callWith pos (← eval l env) [] (backTo pos (starEach (e :: es) env)) (backToKw pos (keywordEach [] env))) := by intro _; rfl) : Ev c S n (.Call l (e :: es) [] pos) σ Z σ₃ := fun f F ω s Q E R h => by
  refine Call_ (h1 f F ω s _ _ R fun ω₁ v s₁ e₁ R₁ A₁ => ?_) (hc _)
  cases A₁
  exact callWith_K (hC.kin.keeps R₁.keep) hk (h2 pos f F ω₁ s₁ _ _ R₁ fun ω₂ vs s₂ e₂ R₂ B => ⟨hC.kin.keeps R₂.keep, h3 S f F ω₂ s₂ _ _ vs R₂ B fun ω₃ u s₃ e₃ R₃ C => h ω₃ u s₃ (e₁.trans (e₂.trans e₃)) R₃ C⟩) (starEach_plain ha) (anyBack hs)
theorem ev_meth {id : String} {name : Str} {apos : Pos} (h1 : Ev c S n l σ X σ₁) (hg : GetM c n X name σ₁ (.builtin id)) (h2 : Evs c S n (e :: es) σ₁ Xs σ₂) (h3 : OpN c n (fun vs => call (.builtin id) vs) (X :: Xs) σ₂ Z σ₃) (ha : notStar e = true := by rfl) (hs : es.all notStar = true := by rfl)
    (hc : ∀ env, ∃ pl, eval (.Call (.Attribute l name apos) (e :: es) [] pos) env = (do
          let ov ← eval l env
          standAt apos.atName
          let __x ← holding [ov] (getMethod ov name pl)
          match __x with
            | (f, first) => callWith pos f first (backTo pos (starEach (e :: es) env)) []) := by intro _; exact ⟨_, rfl⟩) : Ev c S n (.Call (.Attribute l name apos) (e :: es) [] pos) σ Z σ₃ := fun f F ω s Q E R h => by
  obtain ⟨pl, hc⟩ := hc f.env
  refine MethodCall_ (h1 f F ω s _ _ R fun ω₁ v s₁ e₁ R₁ A₁ => hg S f F ω₁ s₁ _ _ v pl R₁ A₁ ?_) hc
  exact callWith_method1 (h2 pos f F ω₁ s₁ _ _ R₁ fun ω₂ vs s₂ e₂ R₂ B => h3 S f F ω₂ s₂ _ _ (v :: vs) R₂ (.cons (A₁.ext e₂) B) fun ω₃ u s₃ e₃ R₃ C => h ω₃ u s₃ (e₁.trans (e₂.trans e₃)) R₃ C) (starEach_plain ha) (anyBack hs)
theorem ev_meth0 {id : String} {name : Str} {apos : Pos} (h1 : Ev c S n l σ X σ₁) (hg : GetM c n X name σ₁ (.builtin id)) (h3 : OpN c n (fun vs => call (.builtin id) vs) [X] σ₁ Z σ₂)
    (hc : ∀ env, ∃ pl, eval (.Call (.Attribute l name apos) [] [] pos) env = (do
          let ov ← eval l env
          standAt apos.atName
          let __x ← holding [ov] (getMethod ov name pl)
          match __x with
            | (f, first) => callWith pos f first (backTo pos (starEach [] env)) []) := by intro _; exact ⟨_, rfl⟩) : Ev c S n (.Call (.Attribute l name apos) [] [] pos) σ Z σ₂ := fun f F ω s Q E R h => by
  obtain ⟨pl, hc⟩ := hc f.env
  refine MethodCall_ (h1 f F ω s _ _ R fun ω₁ v s₁ e₁ R₁ A₁ => hg S f F ω₁ s₁ _ _ v pl R₁ A₁ ?_) hc
  exact callWith_method0 (h3 S f F ω₁ s₁ _ _ [v] R₁ (.cons A₁ .nil) fun ω₃ u s₃ e₃ R₃ C => h ω₃ u s₃ (e₁.trans e₃) R₃ C)
theorem ev_methf {a : Addr} {name : Str} {apos : Pos} (hC : CxOk c) (hk : keepIn c.K (.ref a) = true) (h1 : Ev c S n l σ X σ₁) (hg : GetM c n X name σ₁ (.ref a)) (h2 : Evs c S n (e :: es) σ₁ Xs σ₂) (h3 : OpN c n (fun vs => call (.ref a) vs) (X :: Xs) σ₂ Z σ₃) (ha : notStar e = true := by rfl) (hs : es.all notStar = true := by rfl)
    (hc : ∀ env, ∃ pl, eval (.Call (.Attribute l name apos) (e :: es) [] pos) env = (do
          let ov ← eval l env
          standAt apos.atName
          let __x ← holding [ov] (getMethod ov name pl)
          match __x with
            | (f, first) => callWith pos f first (backTo pos (starEach (e :: es) env)) []) := by intro _; exact ⟨_, rfl⟩) : Ev c S n (.Call (.Attribute l name apos) (e :: es) [] pos) σ Z σ₃ := fun f F ω s Q E R h => by
  obtain ⟨pl, hc⟩ := hc f.env
  refine MethodCall_ (h1 f F ω s _ _ R fun ω₁ v s₁ e₁ R₁ A₁ => hg S f F ω₁ s₁ _ _ v pl R₁ A₁ ?_) hc
  exact callWith_K (hC.kin.keeps R₁.keep) hk (h2 pos f F ω₁ s₁ _ _ R₁ fun ω₂ vs s₂ e₂ R₂ B => ⟨hC.kin.keeps R₂.keep, h3 S f F ω₂ s₂ _ _ (v :: vs) R₂ (.cons (A₁.ext e₂) B) fun ω₃ u s₃ e₃ R₃ C => h ω₃ u s₃ (e₁.trans (e₂.trans e₃)) R₃ C⟩) (starEach_plain ha) (anyBack hs)
theorem ev_methf0 {a : Addr} {name : Str} {apos : Pos} (hC : CxOk c) (hk : keepIn c.K (.ref a) = true) (h1 : Ev c S n l σ X σ₁) (hg : GetM c n X name σ₁ (.ref a)) (h3 : OpN c n (fun vs => call (.ref a) vs) [X] σ₁ Z σ₂)
    (hc : ∀ env, ∃ pl, eval (.Call (.Attribute l name apos) [] [] pos) env = (do
          let ov ← eval l env
          standAt apos.atName
          let __x ← holding [ov] (getMethod ov name pl)
          match __x with
            | (f, first) => callWith pos f first (backTo pos (starEach [] env)) []) := by intro _; exact ⟨_, rfl⟩) : Ev c S n (.Call (.Attribute l name apos) [] [] pos) σ Z σ₂ := fun f F ω s Q E R h => by
  obtain ⟨pl, hc⟩ := hc f.env
  refine MethodCall_ (h1 f F ω s _ _ R fun ω₁ v s₁ e₁ R₁ A₁ => hg S f F ω₁ s₁ _ _ v pl R₁ A₁ ?_) hc
  exact callWith_K0 (hC.kin.keeps R₁.keep) hk (h3 S f F ω₁ s₁ _ _ [v] R₁ (.cons A₁ .nil) fun ω₃ u s₃ e₃ R₃ C => h ω₃ u s₃ (e₁.trans e₃) R₃ C)
end
end Mine
namespace Mine
open PySem PySem.W PyProof.Rows PySem.Calls PySem.Spec
theorem vi {c : Cx} {n : Nat} {ω : Om} {i : Int} {v : Value} (h : VR c n ω (.d (.int i)) v) : ∃ t, v = .int i t := by cases h with | d h => cases h; exact ⟨_, rfl⟩
theorem vs {c : Cx} {n : Nat} {ω : Om} {x : Str} {v : Value} (h : VR c n ω (.d (.str x)) v) : ∃ t, v = .str x t := by cases h with | d h => cases h; exact ⟨_, rfl⟩
theorem vn {c : Cx} {n : Nat} {ω : Om} {v : Value} (h : VR c n ω (.d .none) v) : v = .none := by cases h with | d h => cases h; rfl
theorem vb {c : Cx} {n : Nat} {ω : Om} {b : Bool} {v : Value} (h : VR c n ω (.d (.bool b)) v) : v = .bool b := by cases h with | d h => cases h; rfl
section
variable {c : Cx} {S : Scope} {n : Nat} {σ σ' : St} {X Y Z : V}
theorem b_add {a b : Int}  : Op2 c n (binaryOp .Add) (.d (.int a)) (.d (.int b)) σ (.d (.int (a + b))) σ := fun S f F ω s Q E x y R hx hy h => by
  obtain ⟨_, rfl⟩ := vi hx; obtain ⟨_, rfl⟩ := vi hy; exact add_int (h ω _ _ (.refl ..) R.toks (.d ((.int _ _))))
theorem b_sub {a b : Int}  : Op2 c n (binaryOp .Sub) (.d (.int a)) (.d (.int b)) σ (.d (.int (a - b))) σ := fun S f F ω s Q E x y R hx hy h => by
  obtain ⟨_, rfl⟩ := vi hx; obtain ⟨_, rfl⟩ := vi hy; exact sub_int (h ω _ _ (.refl ..) R.toks (.d ((.int _ _))))
theorem b_and {a b : Int}  : Op2 c n (binaryOp .BitAnd) (.d (.int a)) (.d (.int b)) σ (.d (.int (Builtin.bitAnd a b))) σ := fun S f F ω s Q E x y R hx hy h => by
  obtain ⟨_, rfl⟩ := vi hx; obtain ⟨_, rfl⟩ := vi hy; exact and_int (h ω _ _ (.refl ..) R.toks (.d ((.int _ _))))
theorem i_or {a b : Int}  : Op2 c n (inplaceOp .BitOr) (.d (.int a)) (.d (.int b)) σ (.d (.int (Builtin.bitOr a b))) σ := fun S f F ω s Q E x y R hx hy h => by
  obtain ⟨_, rfl⟩ := vi hx; obtain ⟨_, rfl⟩ := vi hy; exact ior_int (h ω _ _ (.refl ..) R.toks (.d ((.int _ _))))
theorem i_add {a b : Int}  : Op2 c n (inplaceOp .Add) (.d (.int a)) (.d (.int b)) σ (.d (.int (a + b))) σ := fun S f F ω s Q E x y R hx hy h => by
  obtain ⟨_, rfl⟩ := vi hx; obtain ⟨_, rfl⟩ := vi hy; exact iadd_int (h ω _ _ (.refl ..) R.toks (.d ((.int _ _))))
theorem b_mod {a b : Int} (hb : b ≠ 0) : Op2 c n (binaryOp .Mod) (.d (.int a)) (.d (.int b)) σ (.d (.int (a.fmod b))) σ := fun S f F ω s Q E x y R hx hy h => by
  obtain ⟨_, rfl⟩ := vi hx; obtain ⟨_, rfl⟩ := vi hy; exact mod_int' hb (h ω _ _ (.refl ..) R.toks (.d ((.int _ _))))
theorem b_fdiv {a b : Int} (hb : b ≠ 0) (hp : Builtin.divisionGoesByPylong a b = false) : Op2 c n (binaryOp .FloorDiv) (.d (.int a)) (.d (.int b)) σ (.d (.int (a.fdiv b))) σ := fun S f F ω s Q E x y R hx hy h => by
  obtain ⟨_, rfl⟩ := vi hx; obtain ⟨_, rfl⟩ := vi hy; exact floordiv_int hb (h ω _ _ (.refl ..) R.toks (.d ((.int _ _)))) (.inl hp)
theorem b_adds {x y : Str} (hl : x.length + y.length ≤ sizeLine) : Op2 c n (binaryOp .Add) (.d (.str x)) (.d (.str y)) σ (.d (.str (x ++ y))) σ := fun S f F ω s Q E x y R hx hy h => by
  obtain ⟨_, rfl⟩ := vs hx; obtain ⟨_, rfl⟩ := vs hy; exact SBL.add (fun t k _ => h ω _ _ (.refl ..) R.toks (.d (.str _ _))) hl
theorem i_adds {x y : Str} (hl : x.length + y.length ≤ sizeLine) : Op2 c n (inplaceOp .Add) (.d (.str x)) (.d (.str y)) σ (.d (.str (x ++ y))) σ := fun S f F ω s Q E x y R hx hy h => by
  obtain ⟨_, rfl⟩ := vs hx; obtain ⟨_, rfl⟩ := vs hy; exact SBL.iadd (fun t k _ => h ω _ _ (.refl ..) R.toks (.d (.str _ _))) hl
theorem c_eq {a b : Int}  : Op2 c n (compareOp .Eq) (.d (.int a)) (.d (.int b)) σ (.d (.bool (a == b))) σ := fun S f F ω s Q E x y R hx hy h => by
  obtain ⟨_, rfl⟩ := vi hx; obtain ⟨_, rfl⟩ := vi hy; exact eq_int (h ω _ s (.refl ..) R (.d ((.bool _))))
theorem c_ne {a b : Int}  : Op2 c n (compareOp .NotEq) (.d (.int a)) (.d (.int b)) σ (.d (.bool (a != b))) σ := fun S f F ω s Q E x y R hx hy h => by
  obtain ⟨_, rfl⟩ := vi hx; obtain ⟨_, rfl⟩ := vi hy; exact ne_int (h ω _ s (.refl ..) R (.d ((.bool _))))
theorem c_eqs {x y : Str}  : Op2 c n (compareOp .Eq) (.d (.str x)) (.d (.str y)) σ (.d (.bool (x == y))) σ := fun S f F ω s Q E x y R hx hy h => by
  obtain ⟨_, rfl⟩ := vs hx; obtain ⟨_, rfl⟩ := vs hy; exact eq_str (h ω _ s (.refl ..) R (.d ((.bool _))))
theorem c_nes {x y : Str}  : Op2 c n (compareOp .NotEq) (.d (.str x)) (.d (.str y)) σ (.d (.bool (x != y))) σ := fun S f F ω s Q E x y R hx hy h => by
  obtain ⟨_, rfl⟩ := vs hx; obtain ⟨_, rfl⟩ := vs hy; exact ne_str (h ω _ s (.refl ..) R (.d ((.bool _))))
theorem c_ins {x y : Str}  : Op2 c n (compareOp .In) (.d (.str y)) (.d (.str x)) σ (.d (.bool (Txt.contains x y))) σ := fun S f F ω s Q E x y R hx hy h => by
  obtain ⟨_, rfl⟩ := vs hx; obtain ⟨_, rfl⟩ := vs hy; exact PySem.SB.contains (h ω _ s (.refl ..) R (.d ((.bool _))))
theorem c_is_sn {x : Str}  : Op2 c n (compareOp .Is) (.d (.str x)) (.d (.none)) σ (.d (.bool false)) σ := fun S f F ω s Q E x y R hx hy h => by
  obtain ⟨_, rfl⟩ := vs hx; cases vn hy; exact is_str_none (h ω _ s (.refl ..) R (.d ((.bool _))))
theorem c_is_nn   : Op2 c n (compareOp .Is) (.d (.none)) (.d (.none)) σ (.d (.bool true)) σ := fun S f F ω s Q E x y R hx hy h => by
  cases vn hx; cases vn hy; exact is_none_none (h ω _ s (.refl ..) R (.d ((.bool _))))
theorem c_isn_sn {x : Str}  : Op2 c n (compareOp .IsNot) (.d (.str x)) (.d (.none)) σ (.d (.bool true)) σ := fun S f F ω s Q E x y R hx hy h => by
  obtain ⟨_, rfl⟩ := vs hx; cases vn hy; exact isnot_str_none (h ω _ s (.refl ..) R (.d ((.bool _))))
theorem c_isn_nn   : Op2 c n (compareOp .IsNot) (.d (.none)) (.d (.none)) σ (.d (.bool false)) σ := fun S f F ω s Q E x y R hx hy h => by
  cases vn hx; cases vn hy; exact isnot_none_none (h ω _ s (.refl ..) R (.d ((.bool _))))
theorem c_isn_in {a : Int}  : Op2 c n (compareOp .IsNot) (.d (.int a)) (.d (.none)) σ (.d (.bool true)) σ := fun S f F ω s Q E x y R hx hy h => by
  obtain ⟨_, rfl⟩ := vi hx; cases vn hy; exact isnot_int_none (h ω _ s (.refl ..) R (.d ((.bool _))))
theorem u_neg {a : Int}  : Op1 c n (unaryOp .USub) (.d (.int a)) σ (.d (.int (-a))) σ := fun S f F ω s Q E x R hx h => by
  obtain ⟨_, rfl⟩ := vi hx; exact neg_int (h ω _ _ (.refl ..) R.toks (.d ((.int _ _))))
theorem t_bool {b : Bool}  : Tr c n (.d (.bool b)) σ (b) := fun S f F ω s Q E x R hx h => by
  cases vb hx; exact wpAny_truthy_bool (h s R)
theorem t_int {a : Int}  : Tr c n (.d (.int a)) σ (a != 0) := fun S f F ω s Q E x R hx h => by
  obtain ⟨_, rfl⟩ := vi hx; exact truthy_int (h s R)
theorem t_none   : Tr c n (.d (.none)) σ (false) := fun S f F ω s Q E x R hx h => by
  cases vn hx; exact truthy_none (h s R)
theorem t_str {x : Str} (hl : x.length ≤ sizeLine) : Tr c n (.d (.str x)) σ (((x.length : Int) != 0)) := fun S f F ω s Q E x R hx h => by
  obtain ⟨_, rfl⟩ := vs hx; exact SBL.truthy (by rw [sizeLine_eq] at hl; lia) (h _ R.toks)
end
end Mine
namespace Mine
open PySem PySem.W PyProof.Rows PySem.Calls PySem.Spec
inductive Fl where
  | next | brk | cont
  | ret (X : V)
inductive FlR (c : Cx) (n : Nat) (ω : Om) : Fl → Flow → Prop
  | next : FlR c n ω .next .next
  | brk : FlR c n ω .brk .brk
  | cont : FlR c n ω .cont .cont
  | ret {X : V} {v : Value} : VR c n ω X v → FlR c n ω (.ret X) (.ret v)
noncomputable def Ex (c : Cx) (S : Scope) (n : Nat) (st : Stmt) (σ : St) (fl : Fl) (σ' : St) : Prop :=
  ∀ f, FmOk c S n f → ∀ ω s Q E, RelE c n f ω σ s →
    (∀ ω' F s', Ext n ω ω' → RelE c n f ω' σ' s' → FlR c n ω' fl F → Q F s') → wpAny (model c.prog c.w) f.A (exec st f.env) Q E s
noncomputable def Exs (c : Cx) (S : Scope) (n : Nat) (sts : List Stmt) (σ : St) (fl : Fl) (σ' : St) : Prop :=
  ∀ f, FmOk c S n f → ∀ ω s Q E, RelE c n f ω σ s →
    (∀ ω' F s', Ext n ω ω' → RelE c n f ω' σ' s' → FlR c n ω' fl F → Q F s') → wpAny (model c.prog c.w) f.A (execs sts f.env) Q E s
noncomputable def As (c : Cx) (S : Scope) (n : Nat) (t : Expr) (X : V) (σ σ' : St) : Prop :=
  ∀ f, FmOk c S n f → ∀ ω s Q E v, RelE c n f ω σ s → VR c n ω X v →
    (∀ ω' s', Ext n ω ω' → RelE c n f ω' σ' s' → Q () s') → wpAny (model c.prog c.w) f.A (assign t f.env v) Q E s
section
variable {c : Cx} {S : Scope} {n : Nat} {σ σ' σ₁ σ₂ σ₃ σ₄ : St} {X Y Z W : V} {e l r t : Expr} {es : List Expr} {Xs : List V} {pos tpos : Pos} {st : Stmt} {sts : List Stmt} {fl : Fl} {x : Str} {body orelse : List Stmt}
theorem Ext.down {ω ω' : Om} (h : Ext (n + 1) ω ω') : Ext n ω ω' := h.le (Nat.le_succ n)
theorem exs_nil : Exs c S n [] σ .next σ := fun f F ω s Q E R h => wpAny_execs_nil (h ω _ s (.refl ..) R .next)
theorem exs_cons (h1 : Ex c S n st σ .next σ₁) (h2 : Exs c S n sts σ₁ fl σ₂) : Exs c S n (st :: sts) σ fl σ₂ := fun f F ω s Q E R h =>
  wpAny_execs_cons (h1 f F ω s _ _ R fun ω₁ G s₁ e₁ R₁ q => by
    cases q
    exact h2 f F ω₁ s₁ _ _ R₁ fun ω₂ G' s₂ e₂ R₂ q' => h ω₂ G' s₂ (e₁.trans e₂) R₂ q')
noncomputable def Fl.stops : Fl → Bool
  | .next => false
  | _ => true
theorem exs_stop (h1 : Ex c S n st σ fl σ₁) (hf : fl.stops = true := by rfl) : Exs c S n (st :: sts) σ fl σ₁ := fun f F ω s Q E R h =>
  wpAny_execs_cons (h1 f F ω s _ _ R fun ω₁ G s₁ e₁ R₁ q => by
    have z := h ω₁ G s₁ e₁ R₁ q
    cases q with
    | next => cases hf
    | _ => exact z)
theorem ex_brk : Ex c S n (.Break pos) σ .brk σ := fun f F ω s Q E R h => fun _ _ _ => h ω .brk s (.refl ..) R .brk
theorem ex_cont : Ex c S n (.Continue pos) σ .cont σ := fun f F ω s Q E R h => fun _ _ _ => h ω .cont s (.refl ..) R .cont
theorem ex_ret (h1 : Ev c S n e σ X σ₁) : Ex c S n (.Return (some e) pos) σ (.ret X) σ₁ := fun f F ω s Q E R h =>
  wpAny_Return_some (h1 f F ω s _ _ R fun ω₁ v s₁ e₁ R₁ A => h ω₁ (.ret v) s₁ e₁.down R₁ (.ret A))
theorem ex_ret0 : Ex c S n (.Return none pos) σ (.ret (.d .none)) σ := fun f F ω s Q E R h =>
  wpAny_Return_none (h ω (.ret .none) s (.refl ..) R (.ret (.d .none)))
theorem ex_if {b : Bool} (h0 : Ts c S n t σ b σ₁) (h1 : b = true → Exs c S n body σ₁ fl σ₂) (h2 : b = false → Exs c S n orelse σ₁ fl σ₂) : Ex c S n (.If t body orelse pos) σ fl σ₂ := fun f F ω s Q E R h =>
  wpAny_If (h0 f F ω s _ _ R fun ω₁ s₁ e₁ R₁ => by
    cases b with
    | true => exact h1 rfl f F ω₁ s₁ _ _ R₁ fun ω₂ G s₂ e₂ R₂ q => h ω₂ G s₂ (e₁.down.trans e₂) R₂ q
    | false => exact h2 rfl f F ω₁ s₁ _ _ R₁ fun ω₂ G s₂ e₂ R₂ q => h ω₂ G s₂ (e₁.down.trans e₂) R₂ q)
noncomputable def noComp : Expr → Bool
  | .ListComp .. | .SetComp .. | .DictComp .. => false
  | _ => true
theorem swaps_no {e : Expr} {o : Option Expr} {k : Nat} {env : Env} (h : noComp e = true) : swapsWith e o k env = pure false := by
  cases e <;> first | rfl | cases h
theorem ex_expr (h1 : Ev c S n e σ X σ₁) (hn : noComp e = true := by rfl) : Ex c S n (.Expr e pos) σ .next σ₁ := fun f F ω s Q E R h =>
  wpAny_Expr_any (h1 f F ω s _ _ R fun ω₁ v s₁ e₁ R₁ A => h ω₁ .next s₁ e₁.down R₁ .next) (by unfold interactive; rw [F.scope, F.kind]; rfl) (swaps_no hn)
noncomputable def isOwnVar : Option NameKind → Bool
  | some .local | some .cell => true
  | _ => false
theorem isOwnVar_or {o : Option NameKind} (h : isOwnVar o = true) : o = some .local ∨ o = some .cell := by
  unfold isOwnVar at h; split at h <;> simp_all
noncomputable def St.set (σ : St) (x : Str) (X : V) : St := { σ with loc := (key x, X) :: σ.loc }
theorem ex_asg (hv : isOwnVar (S.names.lookup x) = true) (h1 : Ev c S n e σ X σ₁) (hn : noComp e = true := by rfl) : Ex c S n (.Assign [.Name x tpos] e pos) σ .next (σ₁.set x X) := fun f F ω s Q E R h =>
  wpAny_Assign_Name (h1 f F ω s _ _ R fun ω₁ v s₁ e₁ R₁ A => store_name F R₁ (isOwnVar_or hv) A (fun s₂ R₂ => h ω₁ .next s₂ e₁.down R₂ .next) (F.cellsOk x)) (swaps_no hn)
theorem as_name (hv : isOwnVar (S.names.lookup x) = true) : As c S n (.Name x tpos) X σ (σ.set x X) := fun f F ω s Q E v R A h => by
  show wpAny _ _ (do standAt tpos; bindName f.env x v) Q E s
  exact wpAny_bind (wpAny_standAt (wpAny_bindName (store_name F R (isOwnVar_or hv) A (fun s₂ R₂ => h ω s₂ (.refl ..) R₂) (F.cellsOk x))))
theorem ex_aug {op : Operator} (hv : isOwnVar (S.names.lookup x) = true) (hd : plainNm x = true) (h0 : lk (key x) σ.loc = some X) (h1 : Ev c S n e σ Y σ₁) (h2 : Op2 c n (inplaceOp op) X Y σ₁ Z σ₂) : Ex c S n (.AugAssign (.Name x tpos) op e pos) σ .next (σ₂.set x Z) := fun f F ω s Q E R h => by
  have hk : f.env.scope.kind = .function := by rw [F.scope]; exact F.kind
  obtain ⟨m, Mc, Mh, FR, r⟩ := id R
  have hv' : isVar (f.env.kindOf x) = true := by
    unfold Env.kindOf; rw [F.scope]
    rcases isOwnVar_or hv with e | e <;> rw [e] <;> rfl
  have go : ∀ v, VR c n ω X v → wpAny (model c.prog c.w) f.A (eval e f.env) (fun v' s₂ => wpAny (model c.prog c.w) f.A (inplaceOp op v v') (fun r s₃ => wpAny (model c.prog c.w) f.A (storeName f.env x r) (fun _ => Q .next) E s₃) E s₂) E s := fun v A =>
    h1 f F ω s _ _ R fun ω₁ v' s₁ e₁ R₁ B => h2 S f F ω₁ s₁ _ _ v v' R₁ (A.ext e₁) B fun ω₂ z s₂ e₂ R₂ C =>
      store_name F R₂ (isOwnVar_or hv) C (fun s₃ R₃ => h ω₂ .next s₃ (e₁.down.trans e₂.down) R₃ .next) (F.cellsOk x)
  refine wpAny_AugAssign_Name ?_
  cases r.locs x X hv' h0 with
  | loc a b d => exact wpAny_loadName_local hk a r.fr.ns b (go _ d)
  | cell a b d e g => exact wpAny_loadName_cell hk a b ⟨_, (r.nw _ (List.mem_append_left _ d)).1, e⟩ (go _ g)
  | free a b d e g =>
    exact wpAny_loadName_free hk a b ⟨_, (r.nw _ (List.mem_append_right _ (List.mem_append_right _ (List.mem_append_right _ (List.mem_append_right _ d))))).1, e⟩ (go _ g) (plainNm_2 hd)
theorem ex_asgt {k : Nat} (h1 : Ev c S n e σ X σ₁) (h2 : As c S n (.Tuple es k tpos) X σ₁ σ₂) (hn : noComp e = true := by rfl) (hs : ∀ env, swappedStores [.Tuple es k tpos] e env = pure none := by intro _; rfl) : Ex c S n (.Assign [.Tuple es k tpos] e pos) σ .next σ₂ := fun f F ω s Q E R h =>
  Assign_Tuple (h1 f F ω s _ _ R fun ω₁ v s₁ e₁ R₁ A => h2 f F ω₁ s₁ _ _ v R₁ A fun ω₂ s₂ e₂ R₂ => h ω₂ .next s₂ (e₁.down.trans e₂) R₂ .next) (by unfold swapsWithSole; exact swaps_no hn) (hs _)
noncomputable def Sub (σ σ' : St) : Prop := (∀ k X, lk k σ'.loc = some X → lk k σ.loc = some X) ∧ List.Sublist σ'.heap σ.heap
theorem HR.sub {κ : Str → Int} {Z : Fz} {ρ : Nat → Option Addr} {H H' : List (Nat × HO)} {M : Led} (h : HR κ Z ρ H M) (k : List.Sublist H' H) : ∃ M', List.Sublist M' M ∧ HR κ Z ρ H' M' := by
  induction k generalizing M with
  | slnil => exact ⟨M, .refl _, h⟩
  | cons p k ih =>
    cases h with
    | cons e q r =>
      obtain ⟨M', a, b⟩ := ih r
      exact ⟨M', a.trans (List.sublist_append_right ..), b⟩
  | cons_cons p k ih =>
    cases h with
    | cons e q r =>
      obtain ⟨M', a, b⟩ := ih r
      exact ⟨_ ++ M', (List.Sublist.refl _).append a, .cons e q b⟩
theorem RelE.sub {f : Fm} {ω : Om} {s : Shared} (h : Sub σ σ') (R : RelE c n f ω σ s) : RelE c n f ω σ' s := by
  obtain ⟨m, Mc, Mh, FR, r⟩ := R
  obtain ⟨M', a, b⟩ := r.heap.sub h.2
  have sl : List.Sublist (Mc ++ (M' ++ (ω.Z ++ (FR ++ f.keep)))) (Mc ++ (Mh ++ (ω.Z ++ (FR ++ f.keep)))) := (List.Sublist.refl _).append (a.append (.refl _))
  exact ⟨m, Mc, M', FR, ⟨r.fr, fun p hp => r.nw p (sl.subset hp), r.nd.sublist (sl.map _), r.frs, r.cells, r.cinj, b, fun x X hv hx => r.locs x X hv (h.1 _ _ hx), r.gens, r.drawn, r.os⟩⟩
theorem exs_sub (h : Exs c S n sts σ fl σ₁) (k : Sub σ₁ σ₂) : Exs c S n sts σ fl σ₂ := fun f F ω s Q E R h' => h f F ω s Q E R fun ω' G s' e R' q => h' ω' G s' e (R'.sub k) q
theorem exs_pre (k : Sub σ σ₁) (h : Exs c S n sts σ₁ fl σ₂) : Exs c S n sts σ fl σ₂ := fun f F ω s Q E R h' => h f F ω s Q E (R.sub k) h'
theorem ex_sub (h : Ex c S n st σ fl σ₁) (k : Sub σ₁ σ₂) : Ex c S n st σ fl σ₂ := fun f F ω s Q E R h' => h f F ω s Q E R fun ω' G s' e R' q => h' ω' G s' e (R'.sub k) q
end
end Mine
namespace Mine
open PySem PySem.W PyProof.Rows PySem.Calls PySem.Spec
section
variable {prog : Program} {w : World} {A : Around} {E : Value → Shared → Prop} {s : Shared} {env : Env} {R : Result → Shared → Prop}
theorem code_for {target : Expr} {it : Value} {body : List Stmt}
    (h : wpAny (model prog w) A (pyNext it) (fun r s₁ => match r with
      | none => R (.ok .next) s₁
      | some v => wpAny (model prog w) A (letOwnedTupleGo target it v) (fun _ s₁' => wpAny (model prog w) A (assign target env v) (fun _ s₂ => wpAny (model prog w) A (execs body env) (fun f s₃ => match f with
            | .next | .cont => codeAny (model prog w) A (.forLoop target it body [] env) R s₃
            | .brk => R (.ok .next) s₃
            | .ret v => R (.ok (.ret v)) s₃) (notedBy (model prog w) A env fun e s' => R (.error e) s') s₂) (notedBy (model prog w) A env fun e s' => R (.error e) s') s₁') (notedBy (model prog w) A env fun e s' => R (.error e) s') s₁)
      (notedBy (model prog w) A env fun e s' => R (.error e) s') s) : codeAny (model prog w) A (.forLoop target it body [] env) R s := by
  refine codeAny_of_tree ?_
  show wpAny _ A ((forTurn target it body [] env).onRaise (fun x => do noteFrame x env; theTreesLotGoes x)) _ _ s
  refine wpAny_noted ?_
  simp only [forTurn]
  refine wpAny_bind (wpAny_standAt (wpAny_bind (wpAny_onRaise (wpAny_mono h (fun r s₁ h₁ => ?_) fun _ _ h' => wpAny_standAt h'))))
  cases r with
  | none => exact wpAny_pure ⟨rfl, codeAny_block (wpAny_execs_nil h₁)⟩
  | some v =>
    refine wpAny_bind (wpAny_mono h₁ (fun _ s₁' h₁' => ?_) fun _ _ h' => h')
    refine wpAny_bind (wpAny_mono h₁' (fun _ s₂ h₂ => wpAny_bind (wpAny_mono h₂ (fun f s₃ h₃ => ?_) fun _ _ h' => h')) fun _ _ h' => h')
    cases f with
    | next => exact wpAny_pure ⟨rfl, h₃⟩
    | cont => exact wpAny_pure ⟨rfl, h₃⟩
    | brk => exact wpAny_pure h₃
    | ret v => exact wpAny_pure h₃
theorem code_while {test : Expr} {body : List Stmt}
    (h : wpAny (model prog w) A (isTrue test env (eval test env)) (fun b s₂ =>
        if b then wpAny (model prog w) A (execs body env) (fun f s₃ => match f with
            | .next | .cont => codeAny (model prog w) A (.whileLoop test body [] env) R s₃
            | .brk => R (.ok .next) s₃
            | .ret v => R (.ok (.ret v)) s₃) (notedBy (model prog w) A env fun e s' => R (.error e) s') s₂
        else R (.ok .next) s₂) (notedBy (model prog w) A env fun e s' => R (.error e) s') s) : codeAny (model prog w) A (.whileLoop test body [] env) R s := by
  refine codeAny_of_tree ?_
  show wpAny _ A ((whileTurn test body [] env).onRaise (fun x => do noteFrame x env; theTreesLotGoes x)) _ _ s
  refine wpAny_noted ?_
  simp only [whileTurn]
  refine wpAny_bind (wpAny_mono h (fun b s₂ h₂ => ?_) fun _ _ h' => h')
  cases b with
  | false =>
    simp only [Bool.false_eq_true, if_false] at h₂ ⊢
    exact wpAny_bind (wpAny_execs_nil (wpAny_pure h₂))
  | true =>
    simp only [if_true] at h₂ ⊢
    refine wpAny_bind (wpAny_mono h₂ (fun f s₃ h₃ => ?_) fun _ _ h' => h')
    cases f with
    | next => exact wpAny_pure ⟨rfl, h₃⟩
    | cont => exact wpAny_pure ⟨rfl, h₃⟩
    | brk => exact wpAny_pure h₃
    | ret v => exact wpAny_pure h₃
end
noncomputable def WL (c : Cx) (S : Scope) (n : Nat) (test : Expr) (body : List Stmt) (σ : St) (fl : Fl) (σ' : St) : Prop :=
  ∀ f, FmOk c S n f → ∀ ω s R, RelE c n f ω σ s →
    (∀ ω' F s', Ext n ω ω' → RelE c n f ω' σ' s' → FlR c n ω' fl F → R (.ok F) s') → codeAny (model c.prog c.w) f.A (.whileLoop test body [] f.env) R s
section
variable {c : Cx} {S : Scope} {n : Nat} {σ σ' σ₁ σ₂ σ₃ σ₄ : St} {X Y Z W : V} {e l r t test target iter : Expr} {es : List Expr} {Xs : List V} {pos tpos : Pos} {st : Stmt} {sts : List Stmt} {fl fl' : Fl} {x : Str} {body orelse : List Stmt}
theorem ex_while (h : WL c S n test body σ fl σ₁) : Ex c S n (.While test body [] pos) σ fl σ₁ := fun f F ω s Q E R h' =>
  wpAny_While (h f F ω s _ R h')
theorem wl_stop (h : Ts c S n test σ false σ₁) : WL c S n test body σ .next σ₁ := fun f F ω s R r h' =>
  code_while (h f F ω s _ _ r fun ω₁ s₁ e₁ R₁ => by simpa using h' ω₁ .next s₁ e₁.down R₁ .next)
noncomputable def Fl.goes : Fl → Bool
  | .next | .cont => true
  | _ => false
theorem wl_turn (h : Ts c S n test σ true σ₁) (h1 : Exs c S n body σ₁ fl σ₂) (hf : fl.goes = true) (h2 : WL c S n test body σ₂ fl' σ₃) : WL c S n test body σ fl' σ₃ := fun f F ω s R r h' =>
  code_while (h f F ω s _ _ r fun ω₁ s₁ e₁ R₁ => by
    simp only [if_true]
    refine h1 f F ω₁ s₁ _ _ R₁ fun ω₂ G s₂ e₂ R₂ q => ?_
    have go : codeAny (model c.prog c.w) f.A (.whileLoop test body [] f.env) R s₂ := h2 f F ω₂ s₂ R R₂ fun ω₃ G s₃ e₃ R₃ q => h' ω₃ G s₃ (e₁.down.trans (e₂.trans e₃)) R₃ q
    cases q with
    | next => exact go
    | cont => exact go
    | brk => cases hf
    | ret => cases hf)
theorem wl_brk (h : Ts c S n test σ true σ₁) (h1 : Exs c S n body σ₁ .brk σ₂) : WL c S n test body σ .next σ₂ := fun f F ω s R r h' =>
  code_while (h f F ω s _ _ r fun ω₁ s₁ e₁ R₁ => by
    simp only [if_true]
    refine h1 f F ω₁ s₁ _ _ R₁ fun ω₂ G s₂ e₂ R₂ q => ?_
    cases q; exact h' ω₂ .next s₂ (e₁.down.trans e₂) R₂ .next)
noncomputable def Fm.more (f : Fm) (kp : Led) : Fm := { f with keep := kp ++ f.keep }
theorem FmOk.more {f : Fm} (F : FmOk c S n f) (kp : Led) : FmOk c S n (f.more kp) := ⟨F.scope, F.kind, F.globals, F.builtins, F.depth, F.units, F.guards, F.frames, F.hand, F.cellsOk, fun x a h1 h2 => by exact (F.freeOk x a h1 h2).imp (fun z => by show a ∈ (kp ++ f.keep).map (·.1); rw [List.map_append]; exact List.mem_append_right _ z) id, F.keys⟩
structure Itr (c : Cx) (A : Around) (n : Nat) (I : Addr) (wr : List Addr) (pin : Led) (target : Expr) (N : Nat) (T : Nat → Om → Heap → Prop) (It : Nat → V) : Prop where
  frame : ∀ i k ω ω' h h', T i ω h → Ext k ω ω' → (∀ b o, b ∈ wr ∨ fz c ω b o ∨ (b, o) ∈ pin → h.get? b = some o → h'.get? b = some o) → T i ω' h'
  live : ∀ i ω h, T i ω h → ∀ b ∈ wr, ∃ o, h.get? b = some o
  step : ∀ i ω s (Q : Value → Shared → Prop) E, i < N → T i ω s.heap → (∀ l v h' tk, (∀ p ∈ l, h'.get? p.1 = some p.2 ∧ s.heap.get? p.1 = none) → (l.map (·.1)).Nodup → VR c n { ω with Z := l ++ ω.Z } (It i) v →
      T (i + 1) { ω with Z := l ++ ω.Z } h' → (∀ b o, b ∉ wr → s.heap.get? b = some o → h'.get? b = some o) → Q v { s with heap := h', toks := tk }) →
    wpAny (model c.prog c.w) A (pyNext (.ref I)) (fun r s₁ => match r with
      | none => False
      | some v => wpAny (model c.prog c.w) A (letOwnedTupleGo target (.ref I) v) (fun _ s₂ => Q v s₂) E s₁) E s
  done : ∀ ω s (Q : Shared → Prop) E, T N ω s.heap → (∀ h' tk, (∀ b o, b ∉ wr → s.heap.get? b = some o → h'.get? b = some o) → Q { s with heap := h', toks := tk }) →
    wpAny (model c.prog c.w) A (pyNext (.ref I)) (fun r s₁ => match r with
      | none => Q s₁
      | some _ => False) E s
  self : ∀ i ω s (Q : Value → Shared → Prop) E, T i ω s.heap → Q (.ref I) s → wpAny (model c.prog c.w) A (pyIter (.ref I)) Q E s
noncomputable def Beside (c : Cx) (n : Nat) (f : Fm) (wr : List Addr) (ω : Om) (σ : St) (s : Shared) : Prop := ∃ kp : Led, kp.map (·.1) = wr ∧ RelE c n (f.more kp) ω σ s
theorem LocAt.keepIs {f : Fm} {kp kp' : Led} {ω : Om} {m : Str → Option Value} {Mc : Led} {X : V} (q : LocAt c n (f.more kp) ω m Mc x X)
    (hf : ∀ a o, f.env.kindOf x = some .free → f.env.cells.lookup x = some a → (a, o) ∈ kp ++ f.keep → (a, o) ∈ kp' ++ f.keep) : LocAt c n (f.more kp') ω m Mc x X := by
  cases q with
  | loc a b d => exact .loc a b d
  | cell a b d e g => exact .cell a b d e g
  | free a b d e g => exact .free a b (hf _ _ a b d) e g
theorem more_nil (f : Fm) : f.more [] = f := rfl
theorem RelE.turn {f : Fm} {kp kp' l : Led} {ω : Om} {s : Shared} {h' : Heap} {tk : Tok} (F : FmOk c S n f) (R : RelE c n (f.more kp) ω σ s)
    (hk : ∀ b o, b ∉ kp.map (·.1) → s.heap.get? b = some o → h'.get? b = some o) (ek : (kp'.map (·.1)).Sublist (kp.map (·.1))) (h1 : ∀ p ∈ kp', h'.get? p.1 = some p.2)
    (h2 : ∀ p ∈ l, h'.get? p.1 = some p.2 ∧ s.heap.get? p.1 = none) (h3 : (l.map (·.1)).Nodup) : RelE c n (f.more kp') { ω with Z := l ++ ω.Z } σ { s with heap := h', toks := tk } := by
  obtain ⟨m, Mc, Mh, FR, r⟩ := R
  have kpIn : ∀ p ∈ kp, p ∈ Mc ++ (Mh ++ (ω.Z ++ (FR ++ (f.more kp).keep))) := fun p hp =>
    List.mem_append_right _ (List.mem_append_right _ (List.mem_append_right _ (List.mem_append_right _ (List.mem_append_left _ hp))))
  have offL : f.env.locals ∉ kp.map (·.1) := fun h => by
    obtain ⟨p, hp, e⟩ := List.mem_map.mp h
    exact (r.nw p (kpIn p hp)).2.1 e
  have offB : ∀ b o, c.base.get? b = some o → b ∉ kp.map (·.1) := fun b o e h => by
    obtain ⟨p, hp, rfl⟩ := List.mem_map.mp h
    rw [(r.nw p (kpIn p hp)).2.2] at e; cases e
  have nd := r.nd
  have assoc : ∀ k : Led, Mc ++ (Mh ++ (ω.Z ++ (FR ++ (k ++ f.keep)))) = (Mc ++ (Mh ++ (ω.Z ++ FR))) ++ (k ++ f.keep) := fun k => by simp only [List.append_assoc]
  have nd1 : (((Mc ++ (Mh ++ (ω.Z ++ FR))) ++ (kp ++ f.keep)).map (·.1)).Nodup := assoc kp ▸ nd
  have offP : ∀ p ∈ Mc ++ (Mh ++ (ω.Z ++ FR)), p.1 ∉ kp.map (·.1) := fun p hp h => by
    rw [List.map_append] at nd1
    exact (List.nodup_append.mp nd1).2.2 p.1 (List.mem_map.mpr ⟨p, hp, rfl⟩) p.1 (by rw [List.map_append]; exact List.mem_append_left _ h) rfl
  have offK : ∀ p ∈ f.keep, p.1 ∉ kp.map (·.1) := fun p hp h => by
    have nd2 := nd1
    rw [List.map_append] at nd2
    have nd3 := (List.nodup_append.mp nd2).2.1
    rw [List.map_append] at nd3
    exact (List.nodup_append.mp nd3).2.2 p.1 h p.1 (List.mem_map.mpr ⟨p, hp, rfl⟩) rfl
  have offKp' : ∀ p ∈ kp', p.1 ≠ f.env.locals ∧ c.base.get? p.1 = none := fun p hp => by
    have : p.1 ∈ kp.map (·.1) := ek.subset (List.mem_map.mpr ⟨p, hp, rfl⟩)
    obtain ⟨q, hq, e⟩ := List.mem_map.mp this
    exact e ▸ (r.nw q (kpIn q hq)).2
  obtain ⟨oL, es, ep, hL, hLr⟩ := r.fr.ns
  have F' : Fr c.base f.env.locals h' m := ⟨⟨oL, es, ep, hk _ _ offL hL, hLr⟩, fun b o e => hk b o (offB b o e) (r.fr.keep b o e), r.fr.above⟩
  have X : Ext (n + 1) ω { ω with Z := l ++ ω.Z } := Ext.frz _ ω l
  have old : ∀ b, b ∈ (Mc ++ (Mh ++ (ω.Z ++ (FR ++ (kp ++ f.keep))))).map (·.1) → ∃ o, s.heap.get? b = some o := fun b hb => by
    obtain ⟨p, hp, rfl⟩ := List.mem_map.mp hb
    exact ⟨p.2, (r.nw p hp).1⟩
  refine ⟨m, Mc, Mh, FR, ⟨F', fun p hp => ?_, ?_, r.frs, r.cells, r.cinj, r.heap.mono X.fz fun _ _ => rfl, fun y Y hy hl => ?_, r.gens, r.drawn, r.os⟩⟩
  · have cases5 : p ∈ l ∨ p ∈ kp' ∨ p ∈ f.keep ∨ p ∈ Mc ++ (Mh ++ (ω.Z ++ FR)) := by
      simp only [List.mem_append, Fm.more] at hp ⊢
      rcases hp with h | h | (h | h) | h | h | h
      · exact .inr (.inr (.inr (.inl h)))
      · exact .inr (.inr (.inr (.inr (.inl h))))
      · exact .inl h
      · exact .inr (.inr (.inr (.inr (.inr (.inl h)))))
      · exact .inr (.inr (.inr (.inr (.inr (.inr h)))))
      · exact .inr (.inl h)
      · exact .inr (.inr (.inl h))
    rcases cases5 with h | h | h | h
    · refine ⟨(h2 p h).1, fun e => ?_, ?_⟩
      · have := (h2 p h).2
        have hL' : s.heap.get? f.env.locals = some oL := hL
        rw [show p.1 = f.env.locals from e] at this; rw [this] at hL'; cases hL'
      · cases q : c.base.get? p.1 with
        | none => rfl
        | some o => have := r.fr.keep _ _ q; rw [(h2 p h).2] at this; cases this
    · exact ⟨h1 p h, offKp' p h⟩
    · have z := r.nw p (List.mem_append_right _ (List.mem_append_right _ (List.mem_append_right _ (List.mem_append_right _ (List.mem_append_right _ h)))))
      exact ⟨hk _ _ (offK p h) z.1, z.2⟩
    · have z := r.nw p (by rw [show (f.more kp).keep = kp ++ f.keep from rfl, assoc]; exact List.mem_append_left _ h)
      exact ⟨hk _ _ (offP p h) z.1, z.2⟩
  · have perm : (Mc ++ (Mh ++ ((l ++ ω.Z) ++ (FR ++ (kp' ++ f.keep))))).Perm (l ++ (Mc ++ (Mh ++ (ω.Z ++ (FR ++ (kp' ++ f.keep)))))) := by
      have e1 : Mc ++ (Mh ++ ((l ++ ω.Z) ++ (FR ++ (kp' ++ f.keep)))) = (Mc ++ Mh) ++ (l ++ (ω.Z ++ (FR ++ (kp' ++ f.keep)))) := by simp only [List.append_assoc]
      have e2 : l ++ (Mc ++ (Mh ++ (ω.Z ++ (FR ++ (kp' ++ f.keep))))) = l ++ ((Mc ++ Mh) ++ (ω.Z ++ (FR ++ (kp' ++ f.keep)))) := by simp only [List.append_assoc]
      rw [e1, e2]
      exact List.perm_append_comm_assoc ..
    show ((Mc ++ (Mh ++ ((l ++ ω.Z) ++ (FR ++ (kp' ++ f.keep))))).map (·.1)).Nodup
    rw [(perm.map (·.1)).nodup_iff, List.map_append]
    have ekk : ((Mc ++ (Mh ++ (ω.Z ++ (FR ++ (kp' ++ f.keep))))).map (·.1)).Sublist ((Mc ++ (Mh ++ (ω.Z ++ (FR ++ (kp ++ f.keep))))).map (·.1)) := by
      simp only [List.map_append]
      exact (List.Sublist.refl _).append ((List.Sublist.refl _).append ((List.Sublist.refl _).append ((List.Sublist.refl _).append (ek.append (List.Sublist.refl _)))))
    refine List.nodup_append.mpr ⟨h3, nd.sublist ekk, fun a ha b hb e => ?_⟩
    subst e
    obtain ⟨p, hp, rfl⟩ := List.mem_map.mp ha
    obtain ⟨o, ho⟩ := old _ (ekk.subset hb)
    rw [(h2 p hp).2] at ho; cases ho
  · refine ((r.locs y Y hy hl).ext X).keepIs fun a o hf ha hm => ?_
    rcases List.mem_append.mp hm with h | h
    · exfalso
      rcases F.freeOk y a (by unfold Env.kindOf at hf; rw [F.scope] at hf; exact hf) ha with z | ⟨o', z⟩
      · obtain ⟨q, hq, e⟩ := List.mem_map.mp z
        exact offK q hq (e ▸ List.mem_map.mpr ⟨_, h, rfl⟩)
      · have z2 := (r.nw _ (kpIn _ h)).2.2
        rw [z] at z2; cases z2
    · exact List.mem_append_right _ h
theorem Rel.unkeep {f : Fm} {kp : Led} {ω : Om} {s : Shared} {m : Str → Option Value} {Mc Mh FR : Led} (F : FmOk c S n f) (r : Rel c n (f.more kp) ω σ s m Mc Mh FR) : Rel c n f ω σ s m Mc Mh FR := by
  have assoc : ∀ k : Led, Mc ++ (Mh ++ (ω.Z ++ (FR ++ (k ++ f.keep)))) = (Mc ++ (Mh ++ (ω.Z ++ FR))) ++ (k ++ f.keep) := fun k => by simp only [List.append_assoc]
  have nd1 : (((Mc ++ (Mh ++ (ω.Z ++ FR))) ++ (kp ++ f.keep)).map (·.1)).Nodup := assoc kp ▸ r.nd
  have offK : ∀ p ∈ f.keep, p.1 ∉ kp.map (·.1) := fun p hp h => by
    have nd2 := nd1
    rw [List.map_append] at nd2
    have nd3 := (List.nodup_append.mp nd2).2.1
    rw [List.map_append] at nd3
    exact (List.nodup_append.mp nd3).2.2 p.1 h p.1 (List.mem_map.mpr ⟨p, hp, rfl⟩) rfl
  refine ⟨r.fr, fun p hp => r.nw p ?_, ?_, r.frs, r.cells, r.cinj, r.heap, fun y Y hy hl => ?_, r.gens, r.drawn, r.os⟩
  · simp only [List.mem_append, Fm.more] at hp ⊢
    rcases hp with h | h | h | h | h
    · exact .inl h
    · exact .inr (.inl h)
    · exact .inr (.inr (.inl h))
    · exact .inr (.inr (.inr (.inl h)))
    · exact .inr (.inr (.inr (.inr (.inr h))))
  · refine List.Nodup.sublist ?_ nd1
    have : Mc ++ (Mh ++ (ω.Z ++ (FR ++ f.keep))) = (Mc ++ (Mh ++ (ω.Z ++ FR))) ++ f.keep := by simp only [List.append_assoc]
    rw [this]
    exact List.Sublist.map _ (List.Sublist.append (List.Sublist.refl _) (List.sublist_append_right ..))
  · have q := LocAt.keepIs (kp' := []) (r.locs y Y hy hl) fun a o hf ha hm => by
      rcases List.mem_append.mp hm with h | h
      · exfalso
        rcases F.freeOk y a (by unfold Env.kindOf at hf; rw [F.scope] at hf; exact hf) ha with z | ⟨o', z⟩
        · obtain ⟨q, hq, e⟩ := List.mem_map.mp z
          exact offK q hq (e ▸ List.mem_map.mpr ⟨_, h, rfl⟩)
        · have z2 := (r.nw (a, o) (List.mem_append_right _ (List.mem_append_right _ (List.mem_append_right _ (List.mem_append_right _ (List.mem_append_left _ h)))))).2.2
          rw [z] at z2; cases z2
      · exact h
    rwa [more_nil] at q
theorem RelE.unkeep {f : Fm} {kp : Led} {ω : Om} {s : Shared} (F : FmOk c S n f) (R : RelE c n (f.more kp) ω σ s) : RelE c n f ω σ s := by
  obtain ⟨m, Mc, Mh, FR, r⟩ := R
  exact ⟨m, Mc, Mh, FR, r.unkeep F⟩
noncomputable def FL (c : Cx) (S : Scope) (n : Nat) (target : Expr) (body : List Stmt) (pin : Led) (Xs : List V) (σ : St) (fl : Fl) (σ' : St) : Prop :=
  ∀ f, FmOk c S n f → ∀ I wr N T It, Itr c f.A n I wr pin target N T It → ∀ i, i + Xs.length = N → (∀ j X, Xs[j]? = some X → It (i + j) = X) → ∀ ω s R, Beside c n f wr ω σ s → T i ω s.heap →
    (∀ ω' F s', Ext n ω ω' → RelE c n f ω' σ' s' → FlR c n ω' fl F → R (.ok F) s') → codeAny (model c.prog c.w) f.A (.forLoop target (.ref I) body [] f.env) R s
theorem live_list {wr : List Addr} {h : Heap} (hl : ∀ b ∈ wr, ∃ o, h.get? b = some o) : ∃ kp : Led, kp.map (·.1) = wr ∧ ∀ p ∈ kp, h.get? p.1 = some p.2 := by
  induction wr with
  | nil => exact ⟨[], rfl, fun _ h => nomatch h⟩
  | cons a wr ih =>
    obtain ⟨kp, e, hk⟩ := ih fun b hb => hl b (.tail _ hb)
    obtain ⟨o, ho⟩ := hl a (.head _)
    refine ⟨(a, o) :: kp, by rw [List.map_cons, e], fun p hp => ?_⟩
    rcases List.mem_cons.mp hp with rfl | hp
    · exact ho
    · exact hk p hp
theorem fl_nil {pin : Led} : FL c S n target body pin [] σ .next σ := fun f F I wr N T It W i hi hX ω s R B t h => by
  obtain ⟨kp, ek, R0⟩ := B
  have e : i = N := by simpa using hi
  subst e
  refine code_for (wpAny_mono (W.done ω s (fun s' => R (.ok .next) s') _ t fun h' tk hk => ?_) (fun r s₁ q => ?_) fun _ _ x => x)
  · subst ek
    have R2 := RelE.turn (kp' := []) (l := []) (tk := tk) F R0 hk (List.nil_sublist _) (fun _ h => nomatch h) (fun _ h => nomatch h) List.nodup_nil
    exact h ω .next _ (.refl ..) (by rwa [more_nil] at R2) .next
  · cases r with
    | none => exact q
    | some v => exact q.elim
theorem pins_nil {H : List (Nat × HO)} : PinsIn [] H := fun _ h => nomatch h
theorem RelE.pin {f : Fm} {ω : Om} {s : Shared} {pin : Led} {b : Addr} {o : Obj} (R : RelE c n f ω σ s) (hp : PinsIn pin σ.heap) (hb : (b, o) ∈ pin) : s.heap.get? b = some o := by
  obtain ⟨m, Mc, Mh, FR, r⟩ := R
  obtain ⟨i, x, h1, h2⟩ := hp _ hb
  exact (r.nw (b, o) (List.mem_append_right _ (List.mem_append_left _ (r.heap.pin h1 h2)))).1
theorem fl_head {f : Fm} (F : FmOk c S n f) {pin : Led} {I : Addr} {wr : List Addr} {N : Nat} {T : Nat → Om → Heap → Prop} {It : Nat → V} (W : Itr c f.A n I wr pin target N T It) {i : Nat} {ω : Om} {s : Shared} {R : Result → Shared → Prop} (B : Beside c n f wr ω σ s) (t : T i ω s.heap) (hi : i < N)
    (h1 : As c S n target (It i) σ σ₁) (h2 : Exs c S n body σ₁ fl σ₂) (hpin : PinsIn pin σ₂.heap)
    (h : ∀ ω' G s', Ext n ω ω' → Beside c n f wr ω' σ₂ s' → T (i + 1) ω' s'.heap → FlR c n ω' fl G → match G with
      | .next | .cont => codeAny (model c.prog c.w) f.A (.forLoop target (.ref I) body [] f.env) R s'
      | .brk => R (.ok .next) s'
      | .ret v => R (.ok (.ret v)) s') : codeAny (model c.prog c.w) f.A (.forLoop target (.ref I) body [] f.env) R s := by
  obtain ⟨kp, ek, R0⟩ := B
  subst ek
  refine code_for (wpAny_mono (W.step i ω s (fun v s₂ => wpAny (model c.prog c.w) f.A (assign target f.env v) (fun _ s₂ => wpAny (model c.prog c.w) f.A (execs body f.env) (fun f' s₃ => match f' with
            | .next | .cont => codeAny (model c.prog c.w) f.A (.forLoop target (.ref I) body [] f.env) R s₃
            | .brk => R (.ok .next) s₃
            | .ret v => R (.ok (.ret v)) s₃) (notedBy (model c.prog c.w) f.A f.env fun e s' => R (.error e) s') s₂) (notedBy (model c.prog c.w) f.A f.env fun e s' => R (.error e) s') s₂) _ hi t fun l v h' tk g1 g2 gv gt gk => ?_) (fun r s₁ q => ?_) fun _ _ x => x)
  · obtain ⟨kp', ek', hk'⟩ := live_list (W.live _ _ _ gt)
    have R1 := RelE.turn (kp' := kp') (tk := tk) F R0 gk (by rw [ek']; exact List.Sublist.refl _) hk' g1 g2
    have X1 : Ext n ω { ω with Z := l ++ ω.Z } := Ext.frz _ ω l
    refine h1 (f.more kp') (F.more kp') _ _ _ _ v R1 gv fun ω₂ s₂ e₂ R₂ => h2 (f.more kp') (F.more kp') ω₂ s₂ _ _ R₂ fun ω₃ G s₃ e₃ R₃ q => ?_
    have X2 := e₂.trans e₃
    refine h ω₃ G s₃ (X1.trans X2) ⟨kp', ek', R₃⟩ (W.frame _ _ _ _ _ _ gt X2 fun b o hb hbo => ?_) q
    rcases hb with hb | hb | hb
    · obtain ⟨m, Mc, Mh, FR, r⟩ := R₃
      rw [← ek'] at hb
      obtain ⟨p, hp, rfl⟩ := List.mem_map.mp hb
      have z := r.nw p (List.mem_append_right _ (List.mem_append_right _ (List.mem_append_right _ (List.mem_append_right _ (List.mem_append_left _ hp)))))
      have y := hk' p hp
      have : some o = some p.2 := hbo.symm.trans y
      cases this; exact z.1
    · have y := R1.fz hb
      have z := R₃.fz (X2.fz _ _ hb)
      exact (hbo.symm.trans y) ▸ z
    · exact R₃.pin hpin hb
  · cases r with
    | none => exact q.elim
    | some v => exact q
theorem fl_cons {pin : Led} (h1 : As c S n target X σ σ₁) (h2 : Exs c S n body σ₁ fl σ₂) (hf : fl.goes = true) (h3 : FL c S n target body pin Xs σ₂ fl' σ₃) (hpin : PinsIn pin σ₂.heap := by exact pins_nil) : FL c S n target body pin (X :: Xs) σ fl' σ₃ := fun f F I wr N T It W i hi hX ω s R B t h => by
  have e0 : It i = X := hX 0 X rfl
  refine fl_head F W B t (by simp only [List.length_cons] at hi; lia) (e0 ▸ h1) h2 hpin fun ω₁ G s₁ e₁ B₁ t₁ q => ?_
  have go : codeAny (model c.prog c.w) f.A (.forLoop target (.ref I) body [] f.env) R s₁ :=
    h3 f F I wr N T It W (i + 1) (by simp only [List.length_cons] at hi; lia) (fun j Y hj => by rw [Nat.add_assoc, Nat.add_comm 1 j]; exact hX (j + 1) Y (by simpa using hj)) ω₁ s₁ R B₁ t₁ fun ω₂ F s₂ e₂ R₂ q => h ω₂ F s₂ (e₁.trans e₂) R₂ q
  cases q with
  | next => exact go
  | cont => exact go
  | brk => cases hf
  | ret => cases hf
noncomputable def EvIt (c : Cx) (S : Scope) (n : Nat) (e target : Expr) (pin : Led) (σ : St) (Xs : List V) (σ' : St) : Prop :=
  ∀ f, FmOk c S n f → ∀ ω s (Q : Value → Shared → Prop) E, RelE c n f ω σ s →
    (∀ ω' I s' wr T It, Ext (n + 1) ω ω' → Beside c n f wr ω' σ' s' → Itr c f.A n I wr pin target Xs.length T It → (∀ j X, Xs[j]? = some X → It j = X) → T 0 ω' s'.heap → Q (.ref I) s') →
    wpAny (model c.prog c.w) f.A (eval e f.env) (fun x s₁ => wpAny (model c.prog c.w) f.A (pyIter x) Q E s₁) E s
noncomputable def notSet : Expr → Bool
  | .Set .. => false
  | _ => true
theorem folded_no {e : Expr} {env : Env} {x : Value} (h : notSet e = true) : foldedSetIterable e env x = pure x := by
  cases e <;> first | rfl | cases h
theorem ex_for {pin : Led} (h1 : EvIt c S n iter target pin σ Xs σ₁) (h2 : FL c S n target body pin Xs σ₁ fl σ₂) (hs : notSet iter = true := by rfl) : Ex c S n (.For target iter body [] pos) σ fl σ₂ := fun f F ω s Q E R h => by
  show wpAny _ _ (do
    standAt pos
    let x ← foldedSetIterable iter f.env (← eval iter f.env)
    standAt iter.pos
    runOwn (.forLoop target (← holding [x] (pyIter x)) body [] f.env) f.env) Q E s
  refine wpAny_bind (wpAny_standAt (wpAny_bind ?_))
  refine wpAny_mono (h1 f F ω s (fun it s₁ => wpAny (model c.prog c.w) f.A (runOwn (.forLoop target it body [] f.env) f.env) Q E s₁) E R fun ω₁ I s₁ wr T It e₁ B W hI t => ?_) (fun x s₁ q => ?_) fun _ _ x => x
  · exact wpAny_runOwn (h2 f F I wr _ T It W 0 (Nat.zero_add _) (fun j X hj => by rw [Nat.zero_add]; exact hI j X hj) ω₁ s₁ _ B t fun ω₂ G s₂ e₂ R₂ q => h ω₂ G s₂ (e₁.down.trans e₂) R₂ q)
  · rw [folded_no hs]
    exact wpAny_bind (wpAny_pure (wpAny_bind (wpAny_standAt (wpAny_bind (wpAny_holding q)))))
end
end Mine
namespace Mine
open PySem PySem.W PyProof.Rows PySem.Calls PySem.Spec
section
variable {c : Cx} {S : Scope} {n : Nat} {σ σ' σ₁ σ₂ σ₃ σ₄ : St} {X Y Z W : V} {e l r t test target iter : Expr} {es : List Expr} {Xs : List V} {pos tpos : Pos} {st : Stmt} {sts : List Stmt} {fl fl' : Fl} {x : Str} {body orelse : List Stmt}
theorem RelE.pushKeep {f : Fm} {ω : Om} {s : Shared} {o : Obj} {k : Tok} (hf : o.isFreed = false) (R : RelE c n f ω σ s) : RelE c n (f.more [(s.heap.objs.size, o)]) ω σ { s with heap := s.heap.push o, toks := k } := by
  obtain ⟨m, Mc, Mh, FR, r⟩ := R
  have N := r.nw.push r.fr o hf
  refine ⟨m, Mc, Mh, FR, ⟨r.fr.push o, fun p hp => N p ?_, ?_, r.frs, r.cells, r.cinj, r.heap, fun y Y hy hl => ?_, r.gens, r.drawn, r.os⟩⟩
  · simp only [Fm.more, List.mem_append, List.mem_cons, List.not_mem_nil, or_false] at hp ⊢
    rcases hp with h | h | h | h | h | h
    · exact .inr (.inl h)
    · exact .inr (.inr (.inl h))
    · exact .inr (.inr (.inr (.inl h)))
    · exact .inr (.inr (.inr (.inr (.inl h))))
    · exact .inl h
    · exact .inr (.inr (.inr (.inr (.inr h))))
  · have perm : (Mc ++ (Mh ++ (ω.Z ++ (FR ++ ([(s.heap.objs.size, o)] ++ f.keep))))).Perm ((s.heap.objs.size, o) :: (Mc ++ (Mh ++ (ω.Z ++ (FR ++ f.keep))))) := by
      have e1 : Mc ++ (Mh ++ (ω.Z ++ (FR ++ ([(s.heap.objs.size, o)] ++ f.keep)))) = (Mc ++ (Mh ++ (ω.Z ++ FR))) ++ ((s.heap.objs.size, o) :: f.keep) := by simp only [List.append_assoc, List.singleton_append]
      have e2 : Mc ++ (Mh ++ (ω.Z ++ (FR ++ f.keep))) = (Mc ++ (Mh ++ (ω.Z ++ FR))) ++ f.keep := by simp only [List.append_assoc]
      rw [e1, e2]
      exact List.perm_middle
    show ((Mc ++ (Mh ++ (ω.Z ++ (FR ++ ([(s.heap.objs.size, o)] ++ f.keep))))).map (·.1)).Nodup
    rw [(perm.map (·.1)).nodup_iff, List.map_cons, List.nodup_cons]
    refine ⟨fun hm => ?_, r.nd⟩
    obtain ⟨p, hp, e⟩ := List.mem_map.mp hm
    exact absurd (e ▸ r.lt p hp) (Nat.lt_irrefl _)
  · have q := r.locs y Y hy hl
    rw [← more_nil f] at q
    exact q.keepIs fun a o' _ _ h => List.mem_append_right _ h
theorem itr_of {pin : Led} {A : Around} {I : Addr} {fp : List Addr} {N : Nat} {P : Nat → Value → Prop} {T : Nat → Heap → Prop} {It : Nat → V} {ω₀ : Om} (W : Walks c.prog c.w A I fp [I] N P T)
    (hlive : ∀ i h, T i h → ∃ o, h.get? I = some o) (hgo : ∀ i v s (Q : Unit → Shared → Prop) E, T i s.heap → Q () s → wpAny (model c.prog c.w) A (letOwnedTupleGo target (.ref I) v) Q E s)
    (hit : ∀ i v (ω : Om), (∀ a o, fz c ω₀ a o → fz c ω a o) → i < N → P i v → VR c n ω (It i) v) :
    Itr c A n I [I] pin target N (fun i ω h => T i h ∧ (∀ a o, fz c ω₀ a o → fz c ω a o) ∧ ∀ b ∈ fp, b ≠ I → ∃ o, (fz c ω₀ b o ∨ (b, o) ∈ pin) ∧ h.get? b = some o) It where
  frame := fun i k ω ω' h h' ⟨t, e, q⟩ x hk => ⟨W.frame i h h' t fun b hb o ho => by
      by_cases hI : b = I
      · exact hk b o (.inl (hI ▸ .head _)) ho
      · obtain ⟨o', z, ho'⟩ := q b hb hI
        have : o' = o := Option.some.inj (ho'.symm.trans ho)
        subst this
        exact hk b _ (.inr (z.imp (e _ _) id)) ho, fun a o z => x.fz _ _ (e a o z), fun b hb hI => by
      obtain ⟨o', z, ho'⟩ := q b hb hI
      exact ⟨o', z, hk b o' (.inr (z.imp (e _ _) id)) ho'⟩⟩
  live := fun i ω h ⟨t, _⟩ b hb => by rw [List.mem_singleton.mp hb]; exact hlive i h t
  step := fun i ω s Q E hi ⟨t, e, q⟩ h => by
    refine W.item i s _ E hi t fun v h' tk hP t' hk => ?_
    exact hgo (i + 1) v { s with heap := h', toks := tk } _ _ t' (h [] v h' tk (fun _ h => nomatch h) List.nodup_nil (hit i v _ e hi hP) ⟨t', e, fun b hb hI => by
      obtain ⟨o', z, ho'⟩ := q b hb hI
      exact ⟨o', z, hk b o' (fun hm => hI (List.mem_singleton.mp hm)) ho'⟩⟩ hk)
  done := fun ω s Q E ⟨t, _⟩ h => W.done s _ E t fun h' tk hk => h h' tk hk
  self := fun i ω s Q E ⟨t, _⟩ h => W.self i s Q E t h
theorem go_name {A : Around} {x : Str} {p : Pos} {I : Value} {v : Value} {s : Shared} {Q : Unit → Shared → Prop} {E : Value → Shared → Prop} (h : Q () s) : wpAny (model c.prog c.w) A (letOwnedTupleGo (.Name x p) I v) Q E s := wpAny_pure h
noncomputable def ownTypes : List String := ["enumerate", "zip", "dict_itemiterator", "dict_reverseitemiterator", "odict_iterator", "itertools.zip_longest", "itertools.pairwise"]
theorem go_list {A : Around} {target : Expr} {I : Addr} {v : Value} {s : Shared} {o : Obj} {T : String} {Q : Unit → Shared → Prop} {E : Value → Shared → Prop} (ho : s.heap.get? I = some o) (hc : o.cls = .type T) (hT : ownTypes.contains T = false) (h : Q () s) : wpAny (model c.prog c.w) A (letOwnedTupleGo target (.ref I) v) Q E s := by
  unfold letOwnedTupleGo
  have body : wpAny (model c.prog c.w) A (do
      let (.ref r, .ref a) := (Value.ref I, v) | return
      let o ← load r
      match o.cls, o.data with
      | .type n, .fields vs =>
        if ["enumerate", "zip", "dict_itemiterator", "dict_reverseitemiterator", "odict_iterator", "itertools.zip_longest", "itertools.pairwise"].contains n && vs[0]? == some (rawInt a) then
          rule "for.unpacks-the-owned-tuple"
          updateField r 0 .none
      | _, _ => pure ()) Q E s := by
    cases v <;> first | exact wpAny_pure h | skip
    refine wpAny_bind (wpAny_load ho ?_)
    rw [hc]
    cases o.data <;> first | exact wpAny_pure h | skip
    rename_i a vs
    have e : (["enumerate", "zip", "dict_itemiterator", "dict_reverseitemiterator", "odict_iterator", "itertools.zip_longest", "itertools.pairwise"].contains T && vs[0]? == some (rawInt a)) = false := by
      rw [show ["enumerate", "zip", "dict_itemiterator", "dict_reverseitemiterator", "odict_iterator", "itertools.zip_longest", "itertools.pairwise"].contains T = false from hT]; rfl
    simp only [e, Bool.false_eq_true, if_false]
    exact wpAny_pure h
  cases target <;> first | exact wpAny_pure h | exact body
theorem RelE.fresh {f : Fm} {ω : Om} {s : Shared} {kp : Led} {h' : Heap} {k : Tok} (R : RelE c n f ω σ s) (hk : ∀ b o, s.heap.get? b = some o → h'.get? b = some o)
    (h2 : ∀ p ∈ kp, h'.get? p.1 = some p.2 ∧ s.heap.get? p.1 = none) (h3 : (kp.map (·.1)).Nodup) : RelE c n (f.more kp) ω σ { s with heap := h', toks := k } := by
  obtain ⟨m, Mc, Mh, FR, r⟩ := R
  obtain ⟨oL, es, ep, hL, hLr⟩ := r.fr.ns
  have F' : Fr c.base f.env.locals h' m := ⟨⟨oL, es, ep, hk _ _ hL, hLr⟩, fun b o e => hk b o (r.fr.keep b o e), r.fr.above⟩
  have e1 : Mc ++ (Mh ++ (ω.Z ++ (FR ++ (kp ++ f.keep)))) = (Mc ++ (Mh ++ (ω.Z ++ FR))) ++ (kp ++ f.keep) := by simp only [List.append_assoc]
  have e2 : Mc ++ (Mh ++ (ω.Z ++ (FR ++ f.keep))) = (Mc ++ (Mh ++ (ω.Z ++ FR))) ++ f.keep := by simp only [List.append_assoc]
  have perm : (Mc ++ (Mh ++ (ω.Z ++ (FR ++ (kp ++ f.keep))))).Perm (kp ++ (Mc ++ (Mh ++ (ω.Z ++ (FR ++ f.keep))))) := by
    rw [e1, e2]
    exact List.perm_append_comm_assoc ..
  refine ⟨m, Mc, Mh, FR, ⟨F', fun p hp => ?_, ?_, r.frs, r.cells, r.cinj, r.heap, fun y Y hy hl => ?_, r.gens, r.drawn, r.os⟩⟩
  · rcases List.mem_append.mp (perm.subset hp) with h | h
    · refine ⟨(h2 p h).1, fun e => ?_, ?_⟩
      · have := (h2 p h).2
        have hL' : s.heap.get? f.env.locals = some oL := hL
        rw [show p.1 = f.env.locals from e] at this; rw [this] at hL'; cases hL'
      · cases q : c.base.get? p.1 with
        | none => rfl
        | some o => have := r.fr.keep _ _ q; rw [(h2 p h).2] at this; cases this
    · have z := r.nw p h
      exact ⟨hk _ _ z.1, z.2⟩
  · show ((Mc ++ (Mh ++ (ω.Z ++ (FR ++ (kp ++ f.keep))))).map (·.1)).Nodup
    rw [(perm.map (·.1)).nodup_iff, List.map_append]
    refine List.nodup_append.mpr ⟨h3, r.nd, fun a ha b hb e => ?_⟩
    subst e
    obtain ⟨p, hp, rfl⟩ := List.mem_map.mp ha
    obtain ⟨q, hq, e⟩ := List.mem_map.mp hb
    have y := (r.nw q hq).1
    rw [e, (h2 p hp).2] at y; cases y
  · have q := r.locs y Y hy hl
    rw [← more_nil f] at q
    exact q.keepIs fun a o' _ _ h => List.mem_append_right _ h
theorem get_size_none (h : Heap) : h.get? h.objs.size = none := by
  cases q : h.get? h.objs.size with
  | none => rfl
  | some o => exact absurd (Heap.lt_size q) (Nat.lt_irrefl _)
theorem get_above_none {h : Heap} {a : Addr} (ha : h.objs.size ≤ a) : h.get? a = none := by
  cases q : h.get? a with
  | none => rfl
  | some o => exact absurd (Nat.lt_of_lt_of_le (Heap.lt_size q) ha) (Nat.lt_irrefl _)
theorem itr_ofT {pin : Led} {A : Around} {I : Addr} {fp wr : List Addr} {N : Nat} {P : Nat → Array Value → Prop} {T : Nat → Heap → Prop} {Mid : Nat → Addr → Heap → Prop} {It : Nat → V} {ω₀ : Om} {k₀ : Nat} (W : WalksT c.prog c.w A I fp wr N P T Mid)
    (hlive : ∀ i h, T i h → ∀ b ∈ wr, ∃ o, h.get? b = some o)
    (hit : ∀ i vals (ω : Om), (∀ a o, fz c ω₀ a o → fz c ω a o) → i < N → P i vals → ∃ ds, It i = .d (.tup ds) ∧ DRs c.hs (fz c ω) ds vals.toList) :
    Itr c A n I wr pin (.Tuple es k₀ tpos) N (fun i ω h => T i h ∧ (∀ a o, fz c ω₀ a o → fz c ω a o) ∧ ∀ b ∈ fp, b ∉ wr → ∃ o, (fz c ω₀ b o ∨ (b, o) ∈ pin) ∧ h.get? b = some o) It where
  frame := fun i k ω ω' h h' ⟨t, e, q⟩ x hk => ⟨W.frame i h h' t fun b hb o ho => by
      by_cases hI : b ∈ wr
      · exact hk b o (.inl hI) ho
      · obtain ⟨o', z, ho'⟩ := q b hb hI
        have : o' = o := Option.some.inj (ho'.symm.trans ho)
        subst this
        exact hk b _ (.inr (z.imp (e _ _) id)) ho, fun a o z => x.fz _ _ (e a o z), fun b hb hI => by
      obtain ⟨o', z, ho'⟩ := q b hb hI
      exact ⟨o', z, hk b o' (.inr (z.imp (e _ _) id)) ho'⟩⟩
  live := fun i ω h ⟨t, _⟩ b hb => hlive i h t b hb
  step := fun i ω s Q E hi ⟨t, e, q⟩ h => by
    refine W.item i s _ E hi t fun a vals h' tk hP ha hT hm hk => ?_
    refine W.go es k₀ tpos i a { s with heap := h', toks := tk } _ E hm fun h'' t' hk' => ?_
    obtain ⟨o, ho, hoc, kk, hod⟩ := hT
    have hT' : h''.get? a = some o := hk' a o (W.apart _ _ _ hm) ho
    let ω' : Om := { ω with Z := [(a, o)] ++ ω.Z }
    have e' : ∀ b o, fz c ω₀ b o → fz c ω' b o := fun b o' z => (Ext.frz 0 ω [(a, o)]).fz _ _ (e b o' z)
    obtain ⟨ds, e1, e2⟩ := hit i vals ω' e' hi hP
    refine h [(a, o)] (.ref a) h'' tk (fun p hp => ?_) (by simp) ?_ ⟨t', e', fun b hb hI => ?_⟩ (fun b o' hb ho' => hk' b o' hb (hk b o' hb ho'))
    · rw [List.mem_singleton.mp hp]; exact ⟨hT', get_above_none ha⟩
    · rw [e1]
      exact .d (.tup (o := o) (vs := vals.toList) (n := kk) (.inl (.head _)) hoc (by rw [hod]) e2)
    · obtain ⟨o', z, ho'⟩ := q b hb hI
      exact ⟨o', z, hk' b o' hI (hk b o' hI ho')⟩
  done := fun ω s Q E ⟨t, _⟩ h => W.done s _ E t fun h' tk hk => h h' tk hk
  self := fun i ω s Q E ⟨t, _⟩ h => W.self i s Q E t h
noncomputable def dAt (l : List D) (i : Nat) : V := match l[i]? with
  | some d => .d d
  | none => .d .none
theorem dAt_map {l : List D} {j : Nat} {X : V} (h : (l.map V.d)[j]? = some X) : dAt l j = X := by
  rw [List.getElem?_map] at h
  unfold dAt
  cases q : l[j]? with
  | none => rw [q] at h; cases h
  | some d => rw [q] at h; cases h; rfl
theorem evIt_list {l : List D} (hc : c.calm = true) (h1 : Ev c S n e σ (.d (.lst l)) σ₁) : EvIt c S n e target [] σ (l.map .d) σ₁ := fun f F ω s Q E R h => by
  refine h1 f F ω s _ _ R fun ω₁ v s₁ e₁ R₁ A₁ => ?_
  cases A₁ with
  | d A₁ =>
    cases A₁ with
    | @lst a o vs k _ hz hoc hod hds =>
      have ho := R₁.fz hz
      have hL : s₁.heap.IsList a vs.toArray := ⟨o, ho, hoc, k, hod⟩
      have hne : a ≠ s₁.heap.objs.size := Nat.ne_of_lt (Heap.lt_size ho)
      have hlen : vs.toArray.size = (l.map V.d).length := by rw [List.size_toArray, hds.length, List.length_map]
      refine wpAny_pyIter_list hL ?_
      have W := Walks.list (prog := c.prog) (w := c.w) (A := f.A) (F.hand hc) s₁.heap.objs.size a hne vs.toArray
      rw [hlen] at W
      refine h ω₁ _ _ [s₁.heap.objs.size] _ (dAt l) e₁ ⟨[(s₁.heap.objs.size, _)], rfl, RelE.pushKeep (k := s₁.toks) (by rfl) R₁⟩
        (itr_of (ω₀ := ω₁) W (fun i h ⟨⟨o, q, _⟩, _⟩ => ⟨o, q⟩) (fun i v s Q E ⟨⟨o, q1, q2, _⟩, _⟩ hq => go_list q1 q2 (by decide) hq) fun i v ω hω hi hP => ?_) (fun j X hj => dAt_map hj)
        ⟨⟨⟨_, Heap.get?_push_size _ rfl, rfl, rfl⟩, hL.at fun o e => Heap.get?_push_of_some _ e⟩, fun _ _ z => z, fun b hb hI => ?_⟩
      · have hi' : i < l.length := by simpa using hi
        obtain ⟨v', q1, q2⟩ := hds.get (i := i) (d := l[i]) (by simp [hi'])
        have : v' = v := by
          have hP' : vs[i]? = some v := by simpa using hP
          rw [hP'] at q1; exact (Option.some.inj q1).symm
        subst this
        show VR c n ω (dAt l i) v'
        unfold dAt
        rw [List.getElem?_eq_getElem hi']
        exact .d (q2.mono hω)
      · rcases List.mem_cons.mp hb with rfl | hb
        · exact absurd rfl hI
        · rw [List.mem_singleton.mp hb]
          exact ⟨o, .inl hz, Heap.get?_push_of_some _ ho⟩
noncomputable def signs (x : Str) : List D := x.cps.toList.map fun ch => .str ⟨#[ch]⟩
theorem signs_at {x : Str} {i : Nat} {v : Value} {ω : Om} (hi : i < x.cps.size) (h : SignAt x i v) : VR c n ω (dAt (signs x) i) v := by
  obtain ⟨ch, u, h1, rfl⟩ := h
  have : (signs x)[i]? = some (.str ⟨#[ch]⟩) := by
    unfold signs
    rw [List.getElem?_map, ← Array.getElem?_toList] at *
    rw [h1]; rfl
  unfold dAt
  rw [this]
  exact .d (.str _ _)
theorem signs_len (x : Str) : (signs x).length = x.cps.size := by unfold signs; simp
theorem evIt_str {x y : Str} {p : Pos} (hc : c.calm = true) (h1 : Ev c S n e σ (.d (.str x)) σ₁) : EvIt c S n e (.Name y p) [] σ ((signs x).map .d) σ₁ := fun f F ω s Q E R h => by
  refine h1 f F ω s _ _ R fun ω₁ v s₁ e₁ R₁ A₁ => ?_
  cases A₁ with
  | d A₁ =>
    cases A₁ with
    | str _ t =>
      have hlen : x.cps.size = ((signs x).map V.d).length := by rw [List.length_map, signs_len]
      refine wpAny_pyIter_strU ?_
      have go : ∀ T : String, strIterType x = T → Walks c.prog c.w f.A s₁.heap.objs.size [s₁.heap.objs.size] [s₁.heap.objs.size] x.cps.size (SignAt x) (fun i h => h.IsStrIter s₁.heap.objs.size T x t i) → Q (.ref s₁.heap.objs.size) { s₁ with heap := s₁.heap.push { cls := Value.type (strIterType x), data := Data.fields #[Value.str x t, Value.int 0 0] } } := by
        intro T eT W
        rw [hlen] at W
        rw [eT]
        refine h ω₁ _ _ [s₁.heap.objs.size] _ (dAt (signs x)) e₁ ⟨[(s₁.heap.objs.size, _)], rfl, RelE.pushKeep (k := s₁.toks) (by rfl) R₁⟩
          (itr_of (ω₀ := ω₁) W (fun i h ⟨o, q, _⟩ => ⟨o, q⟩) (fun i v s Q E _ hq => go_name hq) fun i v ω hω hi hP => signs_at (by rw [hlen]; exact hi) hP) (fun j X hj => dAt_map hj)
          ⟨⟨_, Heap.get?_push_size _ rfl, rfl, rfl⟩, fun _ _ z => z, fun b hb hI => absurd (List.mem_singleton.mp hb) hI⟩
      by_cases ha : x.cps.all (· < 128) = true
      · exact go "str_ascii_iterator" (by unfold strIterType; rw [if_pos ha]) (Walks.strAscii (F.hand hc) _ x t)
      · exact go "str_iterator" (by unfold strIterType; rw [if_neg ha]) (Walks.strWide (F.hand hc) _ x t)
end
end Mine
namespace Mine
open PySem PySem.W PyProof.Rows PySem.Calls PySem.Spec
section
variable {c : Cx} {S : Scope} {n : Nat} {σ σ' σ₁ σ₂ σ₃ σ₄ : St} {X Y Z W : V} {e l r t test target iter fn : Expr} {es : List Expr} {Xs : List V} {pos tpos : Pos} {st : Stmt} {sts : List Stmt} {fl fl' : Fl} {x : Str} {body orelse : List Stmt}
noncomputable def numbered (i : Nat) : List D → List D
  | [] => []
  | d :: l => .tup [.int (i : Int), d] :: numbered (i + 1) l
theorem numbered_len (l : List D) (i : Nat) : (numbered i l).length = l.length := by
  induction l generalizing i with
  | nil => rfl
  | cons d l ih => simp [numbered, ih]
theorem numbered_get (l : List D) (i j : Nat) : (numbered i l)[j]? = (l[j]?).map fun d => .tup [.int ((i + j : Nat) : Int), d] := by
  induction l generalizing i j with
  | nil => simp [numbered]
  | cons d l ih =>
    cases j with
    | zero => simp [numbered]
    | succ j => simp only [numbered, List.getElem?_cons_succ, ih]; congr 1; funext d; congr 4; lia
theorem evIt_enum_list {l : List D} {k : Nat} (hc : c.calm = true) (h0 : Ev c S n fn σ (.val (.type "enumerate")) σ₁) (h1 : Ev c S n e σ₁ (.d (.lst l)) σ₂) (ha : notStar e = true := by rfl)
    (hcall : ∀ env, eval (.Call fn [e] [] pos) env = (do callWith pos (← eval fn env) [] (backTo pos (starEach [e] env)) (backToKw pos (keywordEach [] env))) := by intro _; rfl) :
    EvIt c S n (.Call fn [e] [] pos) (.Tuple es k tpos) [] σ ((numbered 0 l).map .d) σ₂ := fun f F ω s Q E R h => by
  refine Call_ (h0 f F ω s _ _ R fun ω₁ v s₁ e₁ R₁ A₁ => ?_) (hcall _)
  cases A₁
  refine callWith_type1 (spliced_more (h1 f F ω₁ s₁ _ _ R₁ fun ω₂ v s₂ e₂ R₂ A₂ => spliced_none ?_) (starEach_plain ha)) (starEach_plain ha) (anyBack rfl)
  cases A₂ with
  | d A₂ =>
    cases A₂ with
    | @lst a o vs kk _ hz hoc hod hds =>
      have ho := R₂.fz hz
      have hL : s₂.heap.IsList a vs.toArray := ⟨o, ho, hoc, kk, hod⟩
      have hlen : vs.toArray.size = ((numbered 0 l).map V.d).length := by rw [List.size_toArray, hds.length, List.length_map, numbered_len]
      refine call_enumerate_list hL fun h' he hli hsz hk => ?_
      refine wpAny_pyIter_enum he ?_
      have ha2 : a < s₂.heap.objs.size := Heap.lt_size ho
      have W := WalksT.enumerate (prog := c.prog) (w := c.w) (A := f.A) (F.hand hc) (s₂.heap.objs.size + 1) s₂.heap.objs.size a (Nat.succ_ne_self _) (Nat.ne_of_lt (Nat.lt_succ_of_lt ha2)) (Nat.ne_of_lt ha2) vs.toArray
      rw [hlen] at W
      obtain ⟨oit, hoit, hoit'⟩ := id hli
      have R₃ := RelE.fresh (kp := [(s₂.heap.objs.size + 1, _), (s₂.heap.objs.size, oit)]) (k := s₂.toks) R₂ hk (fun p hp => by
        rcases List.mem_cons.mp hp with rfl | hp
        · exact ⟨he, get_above_none (Nat.le_succ _)⟩
        · rw [List.mem_singleton.mp hp]; exact ⟨hoit, get_size_none _⟩) (by simp)
      refine h ω₂ _ _ [s₂.heap.objs.size + 1, s₂.heap.objs.size] _ (dAt (numbered 0 l)) (e₁.trans e₂) ⟨_, rfl, R₃⟩
        (itr_ofT (ω₀ := ω₂) W (fun i h ⟨⟨old, q⟩, ⟨o', q', _⟩, _⟩ b hb => ?_) fun i vals ω hω hi hP => ?_) (fun j X hj => dAt_map hj)
        ⟨⟨⟨_, he⟩, hli, hL.at fun o e => hk _ _ e⟩, fun _ _ z => z, fun b hb hI => ?_⟩
      · rcases List.mem_cons.mp hb with rfl | hb
        · exact ⟨_, q⟩
        · rw [List.mem_singleton.mp hb]; exact ⟨o', q'⟩
      · obtain ⟨t, x, hx, rfl⟩ := hP
        have hi' : i < l.length := by simpa [numbered_len] using hi
        obtain ⟨v', q1, q2⟩ := hds.get (i := i) (d := l[i]) (by simp [hi'])
        have : v' = x := by
          have hP' : vs[i]? = some x := by simpa using hx
          rw [hP'] at q1; exact (Option.some.inj q1).symm
        subst this
        refine ⟨[.int (i : Int), l[i]], ?_, .cons (.int _ _) (.cons (q2.mono hω) .nil)⟩
        unfold dAt
        rw [numbered_get, List.getElem?_eq_getElem hi']
        simp
      · have hb3 : b = a := by
          simp only [List.mem_cons, List.not_mem_nil, or_false, not_or] at hb hI
          rcases hb with h | h | h
          · exact absurd h hI.1
          · exact absurd h hI.2
          · exact h
        subst hb3
        exact ⟨o, .inl hz, hk _ _ ho⟩
end
end Mine
namespace Mine
open PySem PySem.W PyProof.Rows PySem.Calls PySem.Spec
theorem lookup_rev {l : List (Str × Value)} (h : (l.map (·.1)).Nodup) (x : Str) : l.reverse.lookup x = l.lookup x := by
  induction l with
  | nil => rfl
  | cons p l ih =>
    rw [List.map_cons, List.nodup_cons] at h
    rw [List.reverse_cons, List.lookup_append, ih h.2]
    obtain ⟨k, v⟩ := p
    rw [List.lookup_cons, List.lookup_cons]
    cases q : (x == k) with
    | false => simp
    | true =>
      have e : x = k := by simpa using q
      subst e
      have : l.lookup x = none := by
        rw [List.lookup_eq_none_iff]
        intro p hp
        simp only [beq_iff_eq, ne_eq, bne_iff_ne]
        intro e
        exact h.1 (List.mem_map.mpr ⟨p, hp, e.symm⟩)
      rw [this]; rfl
noncomputable def loc0 : List Str → List V → List (Nat × V)
  | p :: ps, X :: Xs => (key p, X) :: loc0 ps Xs
  | _, _ => []
theorem loc0_at {c : Cx} {n : Nat} {ω : Om} {ps : List Str} {Xs : List V} {vs : List Value} (h : VRs c n ω Xs vs) (hl : ps.length = Xs.length) {x : Str} {X : V}
    (hk : ∀ p ∈ ps, key p = key x → p = x) (hx : lk (key x) (loc0 ps Xs) = some X) : ∃ v, (ps.zip vs).lookup x = some v ∧ VR c n ω X v := by
  induction ps generalizing Xs vs with
  | nil => cases Xs <;> cases hx
  | cons p ps ih =>
    cases h with
    | nil => cases hl
    | @cons Y v Ys ws a b =>
      unfold loc0 lk at hx
      rw [List.zip_cons_cons, List.lookup_cons]
      cases q : (key p == key x) with
      | true =>
        rw [q] at hx
        cases hx
        have e := hk p (.head _) (by simpa using q)
        subst e
        exact ⟨v, by simp, a⟩
      | false =>
        rw [q] at hx
        have ne : (x == p) = false := by
          cases z : (x == p) with
          | false => rfl
          | true => have : x = p := by simpa using z
                    subst this; simp at q
        rw [ne]
        exact ih b (by simpa using hl) (fun p hp => hk p (.tail _ hp)) hx
theorem HR.drop {κ : Str → Int} {Z : Fz} {ρ : Nat → Option Addr} {T H : List (Nat × HO)} {M : Led} (h : HR κ Z ρ (T ++ H) M) : ∃ M1 M2, M = M1 ++ M2 ∧ HR κ Z ρ H M2 := by
  induction T generalizing M with
  | nil => exact ⟨[], M, rfl, h⟩
  | cons p T ih =>
    cases h with
    | cons e q r =>
      obtain ⟨M1, M2, rfl, hr⟩ := ih r
      exact ⟨_ ++ M1, M2, (List.append_assoc ..).symm, hr⟩
section
variable {c : Cx} {S : Scope} {n : Nat} {σ σ' σ₁ σ₂ σ₃ σ₄ : St} {X Y Z W : V} {e l r t test target iter fn : Expr} {es : List Expr} {Xs : List V} {pos tpos : Pos} {st : Stmt} {sts : List Stmt} {fl fl' : Fl} {x : Str} {body orelse : List Stmt}
noncomputable def Fm.sub (f : Fm) (env' : Env) (m : Str → Option Value) (Mc : Led) : Fm := { A := f.A.deeper env', env := env', fr := (f.env.locals, m) :: f.fr, keep := Mc ++ f.keep }
inductive Gives : Fl → D → Prop
  | ret {d : D} : Gives (.ret (.d d)) d
  | none : Gives .next .none
noncomputable def KeysOk (S : Scope) : Prop := ∀ x y, isVar (S.names.lookup x) = true → isVar (S.names.lookup y) = true → key x = key y → x = y
theorem frames_sub {f : Fm} {S₀ : Scope} {m : Str → Option Value} {Mc : Led} {fd : FuncData} {L a : Addr} (F : FmOk c S₀ n f) (hk : fd.scope.kind = .function) :
    ∃ l, (f.sub (callEnv fd L a) m Mc).A.frames = some l ∧ (∀ env ∈ l, env.scope.kind ≠ .module ∧ ∃ L', env.frame = some L' ∧ (L' = (f.sub (callEnv fd L a) m Mc).env.locals ∨ ∃ m', (L', m') ∈ (f.sub (callEnv fd L a) m Mc).fr)) ∧
      (fd.scope.names.lookup dot0 = none → (∃ l', l = (f.sub (callEnv fd L a) m Mc).env :: l') ∧ (f.sub (callEnv fd L a) m Mc).env.frame = some (f.sub (callEnv fd L a) m Mc).env.locals) := by
  obtain ⟨l, h1, h2, _⟩ := F.frames
  refine ⟨callEnv fd L a :: l, ?_, fun env he => ?_, fun _ => ⟨⟨l, rfl⟩, rfl⟩⟩
  · show f.A.frames.map (callEnv fd L a :: ·) = _
    rw [h1]; rfl
  · rcases List.mem_cons.mp he with rfl | he
    · exact ⟨by show fd.scope.kind ≠ .module; rw [hk]; decide, L, rfl, .inl rfl⟩
    · obtain ⟨a1, L', a2, a3⟩ := h2 env he
      refine ⟨a1, L', a2, .inr ?_⟩
      rcases a3 with rfl | ⟨m', a3⟩
      · exact ⟨m, .head _⟩
      · exact ⟨m', .tail _ a3⟩
noncomputable def FnN (c : Cx) (n : Nat) (a : Addr) (Xs : List V) (σ : St) (Z : V) (σ' : St) : Prop :=
  ∀ S f, FmOk c S n f → ∀ ω s R vs, RelE c n f ω σ s → VRs c n ω Xs vs →
    (∀ ω' v s', Ext (n + 1) ω ω' → RelE c n f ω' σ' s' → VR c n ω' Z v → R (.ok (.ret v)) s') → codeAny (model c.prog c.w) f.A (.call (.ref a) ⟨vs, []⟩) R s
theorem opn_fn {a : Addr} (h : FnN c n a Xs σ Z σ') : OpN c n (fun vs => call (.ref a) vs) Xs σ Z σ' := fun S f F ω s Q E vs R A h' =>
  wpAny_call (h S f F ω s _ vs R A fun ω' v s' e R' B => h' ω' v s' e R' B)
theorem push_fr {S₀ : Scope} {f : Fm} {ω : Om} {s : Shared} {m : Str → Option Value} {Mc Mh FR : Led} {fd : FuncData} {a : Addr} {ps : List Str} {vs : List Value} {h₀ : Heap} {tk : Tok} (hC : CxOk c) (hn : n ≤ 100) (F : FmOk c S₀ n f) (r : Rel c n f ω σ s m Mc Mh FR) (A : VRs c n ω Xs vs)
    (h3 : fd.globals = mainGlobals) (h4 : fd.builtins = builtinsNs) (h5 : ∀ x b, fd.closure.lookup x = some b → ∃ o, c.base.get? b = some o) (hlen : ps.length = Xs.length) (hvl : vs.length = ps.length) (hps : ps.Nodup)
    (hloc : ∀ x ∈ ps, fd.scope.names.lookup x = some .local) (hfree : ∀ x, fd.scope.names.lookup x ≠ some .cell) (hkey : KeysOk fd.scope) (hk : fd.scope.kind = .function)
    (hns : h₀.Ns s.heap.objs.size (fun x => (ps.zip vs).reverse.lookup x)) (hk₀ : ∀ b o, s.heap.get? b = some o → h₀.get? b = some o) :
    FmOk c fd.scope (n + 1) (f.sub (callEnv fd s.heap.objs.size a) m Mc) ∧ RelE c (n + 1) (f.sub (callEnv fd s.heap.objs.size a) m Mc) ω ⟨loc0 ps Xs, σ.heap⟩ { s with heap := h₀, toks := tk } := by
  have hkL : (ps.zip vs).map (·.1) = ps := by rw [List.map_fst_zip]; lia
  have hns' : h₀.Ns s.heap.objs.size (fun x => (ps.zip vs).lookup x) := by
    have : (fun x => (ps.zip vs).reverse.lookup x) = fun x => (ps.zip vs).lookup x := by funext x; exact lookup_rev (by rw [hkL]; exact hps) x
    rwa [this] at hns
  obtain ⟨oL, es, ep, hL, hLd, hLs, hLf⟩ := r.fr.ns
  refine ⟨⟨rfl, hk, h3, h4, ?_, ?_, F.guards, frames_sub F hk, F.hand, fun x hx => absurd hx (hfree x), fun x b _ hb => .inr (h5 x b hb), hkey⟩, ?_⟩
  · have := F.depth; show f.A.depth + 1 ≤ _; lia
  · have := F.units; show f.A.units + 3 ≤ _; lia
  have old := r.lt
  have perm : (([] : Led) ++ (Mh ++ (ω.Z ++ (((f.env.locals, oL) :: FR) ++ (Mc ++ f.keep))))).Perm ((f.env.locals, oL) :: (Mc ++ (Mh ++ (ω.Z ++ (FR ++ f.keep))))) := by
    have e1 : ([] : Led) ++ (Mh ++ (ω.Z ++ (((f.env.locals, oL) :: FR) ++ (Mc ++ f.keep)))) = (Mh ++ ω.Z) ++ ((f.env.locals, oL) :: (FR ++ (Mc ++ f.keep))) := by simp only [List.append_assoc, List.nil_append, List.cons_append]
    rw [e1]
    refine List.perm_middle.trans (.cons _ ?_)
    have e2 : (Mh ++ ω.Z) ++ (FR ++ (Mc ++ f.keep)) = (Mh ++ (ω.Z ++ FR)) ++ (Mc ++ f.keep) := by simp only [List.append_assoc]
    have e3 : Mc ++ (Mh ++ (ω.Z ++ (FR ++ f.keep))) = Mc ++ ((Mh ++ (ω.Z ++ FR)) ++ f.keep) := by simp only [List.append_assoc]
    rw [e2, e3]
    exact List.perm_append_comm_assoc ..
  refine ⟨_, [], Mh, (f.env.locals, oL) :: FR, ⟨⟨hns', fun b o e => hk₀ b o (r.fr.keep b o e), Nat.le_of_lt (Nat.lt_of_le_of_lt r.fr.above r.fr.ns.lt)⟩, fun p hp => ?_, ?_, .cons hLd hLs hLf r.frs, fun x b hb _ => absurd hb (hfree x), fun x y b hb => absurd hb (hfree x), r.heap, fun x X hv hx => ?_, r.gens, r.drawn, r.os⟩⟩
  · rcases List.mem_cons.mp (perm.subset hp) with rfl | h
    · refine ⟨hk₀ _ _ hL, Nat.ne_of_lt (Heap.lt_size hL), ?_⟩
      cases q : c.base.get? f.env.locals with
      | none => rfl
      | some o => exact absurd (Nat.lt_of_lt_of_le (Heap.lt_size q) r.fr.above) (Nat.lt_irrefl _)
    · have z := r.nw p h
      exact ⟨hk₀ _ _ z.1, Nat.ne_of_lt (old p h), z.2.2⟩
  · show ((([] : Led) ++ (Mh ++ (ω.Z ++ (((f.env.locals, oL) :: FR) ++ (Mc ++ f.keep))))).map (·.1)).Nodup
    rw [(perm.map (·.1)).nodup_iff, List.map_cons, List.nodup_cons]
    refine ⟨fun hm => ?_, r.nd⟩
    obtain ⟨p, hp, e⟩ := List.mem_map.mp hm
    exact (r.nw p hp).2.1 e
  · have hin : ∀ p ∈ ps, key p = key x → p = x := fun p hp e => hkey p x (by rw [hloc p hp]; rfl) hv e
    obtain ⟨v, h1, h2⟩ := loc0_at A hlen hin hx
    refine .loc ?_ h1 (h2.up (Nat.le_succ n))
    have : x ∈ ps := by
      have z := List.of_mem_zip (a := x) (b := v) (l₁ := ps) (l₂ := vs) ?_
      · exact z.1
      · obtain ⟨l₁, l₂, e, _⟩ := List.lookup_eq_some_iff.mp h1
        rw [e]; simp
    exact hloc x this
theorem pop_fr {f : Fm} {env' : Env} {ω ω' : Om} {s s' : Shared} {m : Str → Option Value} {Mc Mh FR : Led} {H H₀ : List (Nat × HO)} {loc : List (Nat × V)} (r : Rel c n f ω σ s m Mc Mh FR) (e' : Ext (n + 1) ω ω') (R₂ : RelE c (n + 1) (f.sub env' m Mc) ω' ⟨loc, H₀⟩ s') (hs : List.Sublist H H₀) : RelE c n f ω' ⟨σ.loc, H⟩ s' := by
  obtain ⟨m', Mc', Mh', FR', r'⟩ := R₂
  obtain ⟨M2, sM, hH⟩ := r'.heap.sub hs
  have fr0 := r'.frs
  cases fr0 with
  | @cons _ _ o' es' ep' _ FR'' d1 d2 d3 d4 =>
    have N' := r'.nw
    have inn : ∀ p ∈ Mc ++ (M2 ++ (ω'.Z ++ (FR'' ++ f.keep))), p ∈ Mc' ++ (Mh' ++ (ω'.Z ++ (((f.env.locals, o') :: FR'') ++ (Mc ++ f.keep)))) := fun p hp => by
      simp only [List.mem_append, List.mem_cons] at hp ⊢
      rcases hp with h | h | h | h | h
      · exact .inr (.inr (.inr (.inr (.inl h))))
      · exact .inr (.inl (sM.subset h))
      · exact .inr (.inr (.inl h))
      · exact .inr (.inr (.inr (.inl (.inr h))))
      · exact .inr (.inr (.inr (.inr (.inr h))))
    have hLo : s'.heap.get? f.env.locals = some o' := (N' (f.env.locals, o') (List.mem_append_right _ (List.mem_append_right _ (List.mem_append_right _ (List.mem_append_left _ (.head _)))))).1
    have nd' : ((Mc' ++ (Mh' ++ (ω'.Z ++ (((f.env.locals, o') :: FR'') ++ (Mc ++ f.keep))))).map (·.1)).Nodup := r'.nd
    have nd2 : (((f.env.locals, o') :: (Mc ++ (M2 ++ (ω'.Z ++ (FR'' ++ f.keep))))).map (·.1)).Nodup := by
      have nd3 := nd'.sublist (((sM.append (List.Sublist.refl (ω'.Z ++ (((f.env.locals, o') :: FR'') ++ (Mc ++ f.keep))))).trans (List.sublist_append_right Mc' _)).map (·.1))
      have perm2 : (M2 ++ (ω'.Z ++ (((f.env.locals, o') :: FR'') ++ (Mc ++ f.keep)))).Perm ((f.env.locals, o') :: (Mc ++ (M2 ++ (ω'.Z ++ (FR'' ++ f.keep))))) := by
        have e1 : M2 ++ (ω'.Z ++ (((f.env.locals, o') :: FR'') ++ (Mc ++ f.keep))) = (M2 ++ ω'.Z) ++ ((f.env.locals, o') :: (FR'' ++ (Mc ++ f.keep))) := by simp only [List.append_assoc, List.cons_append]
        rw [e1]
        refine List.perm_middle.trans (.cons _ ?_)
        have e2 : (M2 ++ ω'.Z) ++ (FR'' ++ (Mc ++ f.keep)) = (M2 ++ (ω'.Z ++ FR'')) ++ (Mc ++ f.keep) := by simp only [List.append_assoc]
        have e3 : Mc ++ (M2 ++ (ω'.Z ++ (FR'' ++ f.keep))) = Mc ++ ((M2 ++ (ω'.Z ++ FR'')) ++ f.keep) := by simp only [List.append_assoc]
        rw [e2, e3]
        exact List.perm_append_comm_assoc ..
      exact ((perm2.map (·.1)).nodup_iff).mp nd3
    rw [List.map_cons, List.nodup_cons] at nd2
    refine ⟨m, Mc, M2, FR'', ⟨⟨⟨o', es', ep', hLo, d1, d2, d3⟩, r'.fr.keep, r.fr.above⟩, fun p hp => ?_, nd2.2, d4, r.cells, r.cinj, hH, fun x X hv hx => ?_, r'.gens, r'.drawn, r'.os⟩⟩
    · have z := N' p (inn p hp)
      exact ⟨z.1, fun e => nd2.1 (e ▸ List.mem_map.mpr ⟨p, hp, rfl⟩), z.2.2⟩
    · exact (r.locs x X hv hx).ext e'
theorem fn_core {S₀ : Scope} {f : Fm} {ω : Om} {s : Shared} {R' : Result → Shared → Prop} {a : Addr} {oc : Value} {od : Option Addr} {osl : Array (Option Value)} {fd : FuncData} {ps : List Str} {us vs : List Value}
    (hC : CxOk c) (hn : n ≤ 100) (ho : c.K.lookup a = some ⟨oc, od, .func fd, osl⟩) (hcd : codeIn c.K fd.code fd.qualname = true)
    (h2 : fd.body = .stmts body) (h3 : fd.globals = mainGlobals) (h4 : fd.builtins = builtinsNs) (h5 : ∀ x b, fd.closure.lookup x = some b → ∃ o, c.base.get? b = some o)
    (hlen : ps.length = Xs.length) (hps : ps.Nodup) (hloc : ∀ x ∈ ps, fd.scope.names.lookup x = some .local) (hcell : ∀ x ∈ fd.scope.names, x.2 ≠ .cell) (hfree : ∀ x, fd.scope.names.lookup x ≠ some .cell) (hkey : KeysOk fd.scope)
    (F : FmOk c S₀ n f) (R : RelE c n f ω σ s) (A : VRs c n ω Xs vs) (hbind : BindsTo s fd ⟨us, []⟩ (ps.zip vs))
    (hbody : ∀ f' s₀ m Mc, f' = f.sub (callEnv fd s.heap.objs.size a) m Mc → FmOk c fd.scope (n + 1) f' → RelE c (n + 1) f' ω ⟨loc0 ps Xs, σ.heap⟩ s₀ →
      (∀ {ω' : Om} {s' : Shared} {H H₀ : List (Nat × HO)} {loc : List (Nat × V)}, Ext (n + 1) ω ω' → RelE c (n + 1) f' ω' ⟨loc, H₀⟩ s' → List.Sublist H H₀ → RelE c n f ω' ⟨σ.loc, H⟩ s') →
      _root_.PySem.wpAt (model c.prog c.w) f'.A (.func body f'.env) (execs body f'.env) (fun G s' => R' (.ok (.ret (match G with | .ret v => v | _ => .none))) s')
        (fun e s' => wpAny (model c.prog c.w) f'.A (leaving f'.env e) (fun _ s'' => R' (.error e) s'') (fun e' s'' => R' (.error e') s'') s') s₀)
    (hco : fd.scope.isCoroutine = false) (hgen : fd.scope.isGenerator = false) (hk : fd.scope.kind = .function) : codeAny (model c.prog c.w) f.A (.call (.ref a) ⟨us, []⟩) R' s := by
  obtain ⟨m, Mc, Mh, FR, r⟩ := R
  have hvl : vs.length = ps.length := by
    rw [hlen]
    clear hbody hlen hbind
    induction A with
    | nil => rfl
    | cons _ _ ih => simp [ih]
  refine ks_codeAny_call_defAt (fd := fd) (body := body) (binds := ps.zip vs) ?_ (r.fr.keep _ _ (hC.kin _ _ ho)) rfl (hC.nolimit.keeps r.fr.keep) (codeRec_of (hC.kin.keeps r.fr.keep) hcd) h2 hbind hcell ?_ (fun h₀ hns hk₀ => ?_) hco hgen hk
  · have := F.depth
    show f.A.depth < 1000
    lia
  · intro x hx
    obtain ⟨p, v⟩ := x
    exact hloc p (List.of_mem_zip hx).1
  · obtain ⟨F', R''⟩ := push_fr (a := a) (tk := s.toks + (ps.zip vs).length) hC hn F r A h3 h4 h5 hlen hvl hps hloc hfree hkey hk hns hk₀
    exact hbody _ _ m Mc rfl F' R'' fun e' R₂ hs => pop_fr r e' R₂ hs
theorem fn_call {a : Addr} {oc : Value} {od : Option Addr} {osl : Array (Option Value)} {fd : FuncData} {ps : List Str} {d : D} {H T : List (Nat × HO)} {loc : List (Nat × V)}
    (hC : CxOk c) (hn : n ≤ 100) (ho : c.K.lookup a = some ⟨oc, od, .func fd, osl⟩) (hcd : codeIn c.K fd.code fd.qualname = true)
    (h1 : fd.scope = S) (h2 : fd.body = .stmts body) (h3 : fd.globals = mainGlobals) (h4 : fd.builtins = builtinsNs) (h5 : fd.closure = [])
    (hbind : ∀ vs : List Value, vs.length = ps.length → bindArgs fd ⟨vs, []⟩ = pure (ps.zip vs)) (hlen : ps.length = Xs.length) (hps : ps.Nodup)
    (hloc : ∀ x ∈ ps, S.names.lookup x = some .local) (hcell : ∀ x ∈ S.names, x.2 ≠ .cell) (hfree : ∀ x, S.names.lookup x ≠ some .cell) (hkey : KeysOk S)
    (hbody : Exs c S (n + 1) body ⟨loc0 ps Xs, σ.heap⟩ fl ⟨loc, T ++ H⟩) (hg : Gives fl d)
    (hco : S.isCoroutine = false := by rfl) (hgen : S.isGenerator = false := by rfl) (hk : S.kind = .function := by rfl) : FnN c n a Xs σ (.d d) ⟨σ.loc, H⟩ := fun S₀ f F ω s Q vs R A h => by
  subst h1
  have hvl : vs.length = ps.length := by
    rw [hlen]
    clear hbody hlen hbind
    induction A with
    | nil => rfl
    | cons _ _ ih => simp [ih]
  refine fn_core (vs := vs) hC hn ho hcd h2 h3 h4 (by rw [h5]; intro x b hx; cases hx) hlen hps hloc hcell hfree hkey F R A (.of_eq (hbind vs hvl)) (fun f' s₀ m Mc _ F' R' pop => ?_) hco hgen hk
  refine wpAt_of_wpAny (hbody f' F' ω _ _ _ R' fun ω' G s' e' R₂ q => ?_)
  have fin := pop (H := H) e' R₂ (List.sublist_append_right T H)
  cases hg with
  | ret => cases q with | ret q => exact h ω' _ s' e' fin (by cases q with | d q => exact .d q)
  | none => cases q; exact h ω' _ s' e' fin (.d .none)
end
end Mine
namespace Mine
open PySem PySem.W PyProof.Rows PySem.Calls PySem.Spec
structure AttrOk (K : Frag) (C : Addr) (name : Str) : Prop where
  get : plainGet K C name = true
  has : hasDictIn K C = true
  cls : ∃ attr, findIn K (.ref C) name = some attr ∧ noGet K attr = true
structure SetOk (K : Frag) (C : Addr) (name : Str) : Prop where
  set : findIn K (.ref C) "__setattr__" = some (some (.builtin "object.__setattr__"))
  over : plainOver K C = true
  taker : takerIn K C name = some none
  has : hasDictIn K C = true
structure MethOk (K : Frag) (C : Addr) (name : Str) (g : Addr) : Prop where
  get : plainGet K C name = true
  find : findIn K (.ref C) name = some (some (.ref g))
  fn : isFn K (.ref g) = true
structure NewOk (K : Frag) (C g : Addr) : Prop where
  makes : makesIn K C = true
  init : findIn K (.ref C) "__init__" = some (some (.ref g))
  fn : isFn K (.ref g) = true
  keep : keepIn K (.ref C) = true
section
variable {c : Cx} {S : Scope} {n : Nat} {σ σ' σ₁ σ₂ σ₃ σ₄ : St} {X Y Z : V} {e l r t test target iter fn : Expr} {es : List Expr} {Xs : List V} {pos tpos apos : Pos} {st : Stmt} {sts : List Stmt} {fl fl' : Fl} {x : Str} {body orelse : List Stmt} {C : Addr} {as : List (Str × D)} {i : Nat} {name : Str} {d : D}
theorem inst_at {f : Fm} {ω : Om} {s : Shared} {m : Str → Option Value} {Mc Mh FR : Led} {a : Addr} (r : Rel c n f ω σ s m Mc Mh FR) (hi : lk i σ.heap = some (.inst C as)) (ha : ω.ρ i = some a) :
    ∃ dx es k M1 M2, Mh = M1 ++ ([(a, instObj C dx), (dx, dictOf es k)] ++ M2) ∧ DRd c.hs (fz c ω) as es ∧ W.InstAt s.heap a (instObj C dx) C (some (dictOf es k)) ∧ ∀ o' m', HOR c.hs (fz c ω) o' a m' → HR c.hs (fz c ω) ω.ρ (setH i o' σ.heap) (M1 ++ (m' ++ M2)) := by
  obtain ⟨M1, m1, M2, a', e, h1, h2, h3⟩ := r.heap.split hi
  have : a' = a := Option.some.inj (h1.symm.trans ha)
  subst this
  cases h2 with
  | @inst _ dx _ _ es k hd =>
    refine ⟨dx, es, k, M1, M2, e, hd, ?_, h3⟩
    have in1 : (a', instObj C dx) ∈ Mc ++ (Mh ++ (ω.Z ++ (FR ++ f.keep))) := by rw [e]; simp
    have in2 : (dx, dictOf es k) ∈ Mc ++ (Mh ++ (ω.Z ++ (FR ++ f.keep))) := by rw [e]; simp
    exact ⟨(r.nw _ in1).1, rfl, rfl, (r.nw _ in2).1⟩
theorem ev_attr {y : Str} {p : Pos} (hC : CxOk c) (hk : AttrOk c.K C name) (h1 : Ev c S n (.Name y p) σ (.obj i) σ₁) (hi : lk i σ₁.heap = some (.inst C as)) (hd : getD? name as = some d) : Ev c S n (.Attribute (.Name y p) name pos) σ (.d d) σ₁ := fun f F ω s Q E R h => by
  refine Attribute_Name_ (h1 f F ω s _ _ R fun ω₁ v s₁ e₁ R₁ A₁ => ?_)
  cases A₁ with
  | obj hb ha =>
    obtain ⟨m, Mc, Mh, FR, r⟩ := id R₁
    obtain ⟨dx, es, k, M1, M2, _, q, I, _⟩ := inst_at r hi ha
    obtain ⟨v, hv, dv⟩ := (q.getL name).1 d hd
    obtain ⟨attr, g1, g2⟩ := hk.cls
    exact get_own r.fr hC.kin I hk.get hk.has g1 g2 hv dv.handed (h ω₁ v _ e₁ R₁.toks (.d dv))
theorem getm_inst {g : Addr} (hC : CxOk c) (hk : MethOk c.K C name g) (hi : lk i σ.heap = some (.inst C as)) (hd : getD? name as = none) : GetM c n (.obj i) name σ (.ref g) := fun S f F ω s Q E x pl R A h => by
  cases A with
  | obj hb ha =>
    obtain ⟨m, Mc, Mh, FR, r⟩ := id R
    obtain ⟨dx, es, k, M1, M2, _, q, I, _⟩ := inst_at r hi ha
    exact method_inst r.fr hC.kin I hk.get hk.find hk.fn ((q.getL name).2 hd) h
theorem upd_of {d : Addr} {o o' : Obj} {pre post : Led} (h1 : ∀ p ∈ pre, p.1 ≠ d) (h2 : ∀ p ∈ post, p.1 ≠ d) : W.Upd d o o' (pre ++ (d, o) :: post) (pre ++ (d, o') :: post) := by
  induction pre with
  | nil => exact .head h2
  | cons p pre ih => exact .tail (h1 p (.head _)) (ih fun q hq => h1 q (.tail _ hq))
theorem off_pre {d : Addr} {o : Obj} {pre post : Led} (h : ((pre ++ (d, o) :: post).map (·.1)).Nodup) : (∀ p ∈ pre, p.1 ≠ d) ∧ ∀ p ∈ post, p.1 ≠ d := by
  rw [List.map_append, List.map_cons] at h
  have z := List.nodup_append.mp h
  refine ⟨fun p hp e => z.2.2 p.1 (List.mem_map.mpr ⟨p, hp, rfl⟩) d (.head _) e, fun p hp e => ?_⟩
  exact (List.nodup_cons.mp z.2.1).1 (e ▸ List.mem_map.mpr ⟨p, hp, rfl⟩)
theorem len_putL {nm : Str} {hs : Int} {kv v : Value} {es : List DictEntry} : (W.putL nm hs kv v es).length ≤ es.length + 1 := by
  induction es with
  | nil => simp [W.putL]
  | cons e es ih => unfold W.putL; split <;> simp_all <;> lia
theorem Rel.swap {f : Fm} {ω : Om} {s : Shared} {m : Str → Option Value} {Mc Mh FR pre post : Led} {H' : List (Nat × HO)} {Mh' : Led} {h' : Heap} {tk : Tok} {a : Addr} {o o' : Obj} (r : Rel c n f ω σ s m Mc Mh FR)
    (hM : Mh = pre ++ (a, o) :: post) (hM' : Mh' = pre ++ (a, o') :: post) (F' : Fr c.base f.env.locals h' m) (N' : News c.base f.env.locals h' (Mc ++ (Mh' ++ (ω.Z ++ (FR ++ f.keep))))) (hH : HR c.hs (fz c ω) ω.ρ H' Mh') :
    Rel c n f ω { σ with heap := H' } { s with heap := h', toks := tk } m Mc Mh' FR := by
  refine ⟨F', N', ?_, r.frs, r.cells, r.cinj, hH, r.locs, r.gens, r.drawn, r.os⟩
  have e : (Mc ++ (Mh' ++ (ω.Z ++ (FR ++ f.keep)))).map (·.1) = (Mc ++ (Mh ++ (ω.Z ++ (FR ++ f.keep)))).map (·.1) := by
    rw [hM, hM']; simp only [List.map_append, List.map_cons]
  rw [e]; exact r.nd
theorem set_attr {f : Fm} {ω : Om} {s : Shared} {Q : Unit → Shared → Prop} {E : Value → Shared → Prop} {v : Value} {a : Addr} (F : FmOk c S n f) (hC : CxOk c) (hk : SetOk c.K C name) (R : RelE c n f ω σ s) (hi : lk i σ.heap = some (.inst C as)) (ha : ω.ρ i = some a) (hl : as.length ≤ 900)
    (A : DR c.hs (fz c ω) d v) (h : ∀ s', RelE c n f ω { σ with heap := setH i (.inst C (putD' name d as)) σ.heap } s' → Q () s') : wpAny (model c.prog c.w) f.A (setAttr (.ref a) name v) Q E s := by
  obtain ⟨m, Mc, Mh, FR, r⟩ := R
  obtain ⟨dx, es, k, M1, M2, e, q, I, hset⟩ := inst_at r hi ha
  have eL : Mc ++ (Mh ++ (ω.Z ++ (FR ++ f.keep))) = (Mc ++ (M1 ++ [(a, instObj C dx)])) ++ (dx, dictOf es k) :: (M2 ++ (ω.Z ++ (FR ++ f.keep))) := by rw [e]; simp only [List.append_assoc, List.cons_append, List.nil_append]
  obtain ⟨o1, o2⟩ := off_pre (eL ▸ r.nd)
  have hsome : (W.getL name es).isSome = true := by
    obtain ⟨g1, g2⟩ := q.getL name
    cases z : getD? name as with
    | none => rw [g2 z]; rfl
    | some d' => obtain ⟨v', hv', _⟩ := g1 d' z; rw [hv']; rfl
  have q' := q.putL name (s.toks + 1) A
  refine set_dict r.fr hC.kin (eL ▸ r.nw) I rfl hk.set hk.over hk.taker hk.has hsome rfl (upd_of o1 o2) ?_ fun h' F' N' => ?_
  · have := len_putL (nm := name) (hs := PyData.keyHash c.w.params name) (kv := .str name (s.toks + 1)) (v := v) (es := es)
    rw [q.length] at this; lia
  · have eL' : (Mc ++ (M1 ++ [(a, instObj C dx)])) ++ (dx, dictOf (W.putL name (PyData.keyHash c.w.params name) (.str name (s.toks + 1)) v es) (putN name es k)) :: (M2 ++ (ω.Z ++ (FR ++ f.keep))) =
        Mc ++ ((M1 ++ ([(a, instObj C dx), (dx, dictOf (W.putL name (PyData.keyHash c.w.params name) (.str name (s.toks + 1)) v es) (putN name es k))] ++ M2)) ++ (ω.Z ++ (FR ++ f.keep))) := by simp only [List.append_assoc, List.cons_append, List.nil_append]
    rw [eL'] at N'
    refine h _ ⟨m, Mc, _, FR, r.swap (tk := s.toks + 2) (a := dx) (o := dictOf es k) (o' := dictOf (W.putL name (PyData.keyHash c.w.params name) (.str name (s.toks + 1)) v es) (putN name es k)) (pre := M1 ++ [(a, instObj C dx)]) (post := M2) ?_ ?_ F' N' (hset _ _ (.inst q'))⟩
    · rw [e]; simp only [List.append_assoc, List.cons_append, List.nil_append]
    · simp only [List.append_assoc, List.cons_append, List.nil_append]
theorem ex_setattr {o : Expr} (hC : CxOk c) (hk : SetOk c.K C name) (h1 : Ev c S n e σ (.d d) σ₁) (h2 : Ev c S n o σ₁ (.obj i) σ₂) (hi : lk i σ₂.heap = some (.inst C as)) (hl : as.length ≤ 900) (hn : noComp e = true := by rfl) :
    Ex c S n (.Assign [.Attribute o name tpos] e pos) σ .next { σ₂ with heap := setH i (.inst C (putD' name d as)) σ₂.heap } := fun f F ω s Q E R h =>
  plainObj_wpAny_Assign_Attribute (h1 f F ω s _ _ R fun ω₁ v s₁ e₁ R₁ A₁ => h2 f F ω₁ s₁ _ _ R₁ fun ω₂ u s₂ e₂ R₂ A₂ => by
    have A₁' := A₁.ext e₂
    cases A₁' with
    | d A₁' =>
      cases A₂ with
      | obj hb ha => exact set_attr F hC hk R₂ hi ha hl A₁' fun s₃ R₃ => h ω₂ .next s₃ (e₁.down.trans e₂.down) R₃ .next) (swaps_no hn)
theorem ex_augattr {y : Str} {p : Pos} {op : Operator} {d' d'' : D} (hC : CxOk c) (hg : AttrOk c.K C name) (hk : SetOk c.K C name) (h1 : Ev c S n (.Name y p) σ (.obj i) σ₁) (hi : lk i σ₁.heap = some (.inst C as)) (hd : getD? name as = some d)
    (h2 : Ev c S n e σ₁ (.d d') σ₂) (h3 : Op2 c n (inplaceOp op) (.d d) (.d d') σ₂ (.d d'') σ₃) {as' : List (Str × D)} (hi3 : lk i σ₃.heap = some (.inst C as')) (hl : as'.length ≤ 900) :
    Ex c S n (.AugAssign (.Attribute (.Name y p) name tpos) op e pos) σ .next { σ₃ with heap := setH i (.inst C (putD' name d'' as')) σ₃.heap } := fun f F ω s Q E R h => by
  refine wpAny_AugAssign_AttributeAny (h1 f F ω s _ _ R fun ω₁ v s₁ e₁ R₁ A₁ => ?_)
  cases A₁ with
  | @obj _ a hb ha =>
    obtain ⟨m, Mc, Mh, FR, r⟩ := id R₁
    obtain ⟨dx, es, k, M1, M2, _, q, I, _⟩ := inst_at r hi ha
    obtain ⟨v, hv, dv⟩ := (q.getL name).1 d hd
    obtain ⟨attr, g1, g2⟩ := hg.cls
    refine get_own r.fr hC.kin I hg.get hg.has g1 g2 hv dv.handed ?_
    refine h2 f F ω₁ _ _ _ (RelE.toks (k := s₁.toks + 1) R₁) fun ω₂ u s₂ e₂ R₂ A₂ => h3 S f F ω₂ s₂ _ _ v u R₂ ((VR.d dv).ext e₂) A₂ fun ω₃ z s₃ e₃ R₃ A₃ => ?_
    have ha3 : ω₃.ρ i = some a := (e₃.ρ i hb).trans ((e₂.ρ i hb).trans ha)
    cases A₃ with
    | d A₃ => exact set_attr F hC hk R₃ hi3 ha3 hl A₃ fun s₄ R₄ => h ω₃ .next s₄ (e₁.down.trans (e₂.down.trans e₃.down)) R₄ .next
noncomputable def V.ok (n : Nat) : V → Prop
  | .obj i => i < (n + 1) * 1000
  | .meth i _ => i < (n + 1) * 1000
  | _ => True
noncomputable def V.avoids (i : Nat) : V → Bool
  | .obj k => !(k == i)
  | .meth k _ => !(k == i)
  | _ => true
theorem VR.isOk {ω : Om} {v : Value} (h : VR c n ω X v) : X.ok n := by cases h <;> first | assumption | trivial
theorem VR.down {k : Nat} {ω : Om} {v : Value} (h : VR c k ω X v) (hx : X.ok n) : VR c n ω X v := by
  cases h with
  | d q => exact .d q
  | obj _ q => exact .obj hx q
  | val => exact .val _
  | meth _ q r => exact .meth hx q r
  | exn h1 h2 h3 h4 h5 h6 => exact .exn h1 h2 h3 h4 h5 h6
noncomputable def Om.put (ω : Om) (i : Nat) (a : Addr) : Om := { ω with ρ := fun k => if k = i then some a else ω.ρ k }
theorem Om.put_self {ω : Om} {i : Nat} {a : Addr} : (ω.put i a).ρ i = some a := by show (if i = i then some a else ω.ρ i) = some a; rw [if_pos rfl]
theorem VR.put {ω : Om} {v : Value} {i : Nat} {a : Addr} (h : VR c n ω X v) (hx : X.avoids i = true) : VR c n (ω.put i a) X v := by
  cases h with
  | d q => exact .d q
  | @obj k b hb q =>
    have : k ≠ i := by simpa [V.avoids] using hx
    exact .obj hb (by show (if k = i then _ else _) = _; rw [if_neg this]; exact q)
  | val => exact .val _
  | @meth k g q' b hb q r =>
    have : k ≠ i := by simpa [V.avoids] using hx
    exact .meth hb (by show (if k = i then _ else _) = _; rw [if_neg this]; exact q) r
  | exn h1 h2 h3 h4 h5 h6 => exact .exn h1 h2 h3 h4 h5 h6
theorem HR.put {κ : Str → Int} {Z : Fz} {ρ : Nat → Option Addr} {H : List (Nat × HO)} {M : Led} {i : Nat} {a : Addr} (h : HR κ Z ρ H M) (hi : lk i H = none) : HR κ Z (fun k => if k = i then some a else ρ k) H M := by
  induction h with
  | nil => exact .nil
  | @cons k o b m M H e q r ih =>
    unfold lk at hi
    cases z : (k == i) with
    | true => rw [z] at hi; cases hi
    | false =>
      rw [z] at hi
      have : k ≠ i := by simpa using z
      exact .cons (by rw [if_neg this]; exact e) q (ih hi)
theorem VRs.put {ω : Om} {Xs : List V} {vs : List Value} {i : Nat} {a : Addr} (h : VRs c n ω Xs vs) (hx : ∀ X ∈ Xs, X.avoids i = true) : VRs c (n + 1) (ω.put i a) Xs vs := by
  induction h with
  | nil => exact .nil
  | cons q _ ih => exact .cons ((q.put (hx _ (.head _))).up (Nat.le_succ n)) (ih fun X hX => hx X (.tail _ hX))
theorem ex_new {g : Addr} {H : List (Nat × HO)} {fnp : Str} {fp : Pos} {loc : List (Nat × V)} (hC : CxOk c) (hk : NewOk c.K C g) (hv : isOwnVar (S.names.lookup x) = true)
    (h0 : Ev c S n (.Name fnp fp) σ (.val (.ref C)) σ) (h1 : Evs c S n (e :: es) σ Xs σ₁) (hi1 : n * 1000 ≤ i) (hi2 : i < (n + 1) * 1000) (hfree : lk i σ₁.heap = none) (hav : ∀ k X, lk k σ₁.loc = some X → X.avoids i = true) (hXs : ∀ X ∈ Xs, X.avoids i = true)
    (h2 : FnN c (n + 1) g (.obj i :: Xs) ⟨σ₁.loc, (i, .inst C []) :: σ₁.heap⟩ (.d .none) ⟨σ₁.loc, H⟩) (ha : notStar e = true := by rfl) (hs : es.all notStar = true := by rfl)
    (hc : ∀ env, eval (.Call (.Name fnp fp) (e :: es) [] pos) env = (do callWith pos (← eval (.Name fnp fp) env) [] (backTo pos (starEach (e :: es) env)) (backToKw pos (keywordEach [] env))) := by intro _; rfl) :
    Ex c S n (.Assign [.Name x tpos] (.Call (.Name fnp fp) (e :: es) [] pos) apos) σ .next (St.set ⟨σ₁.loc, H⟩ x (.obj i)) := fun f F ω s Q E R h => by
  refine wpAny_Assign_Name (Call_ (h0 f F ω s _ _ R fun ω₁ v s₁ e₁ R₁ A₁ => ?_) (hc _)) (swaps_no rfl)
  cases A₁
  refine callWith_K (hC.kin.keeps R₁.keep) hk.keep (h1 pos f F ω₁ s₁ _ _ R₁ fun ω₂ vs s₂ e₂ R₂ B => ⟨hC.kin.keeps R₂.keep, ?_⟩) (starEach_plain ha) (anyBack hs)
  obtain ⟨m, Mc, Mh, FR, r⟩ := id R₂
  refine call_cls r.fr hC.kin r.nw hk.makes hk.init hk.fn fun xa dx h' F' N' l1 l2 => ?_
  let A' : Around := f.A.under (.builtin "type.__call__" ⟨.ref C :: ([] ++ vs), []⟩)
  let f' : Fm := { f with A := A' }
  have hw : (Code.builtin "type.__call__" ⟨.ref C :: ([] ++ vs), []⟩).weight = 1 := by kernel_rfl
  have hu : (Code.builtin "type.__call__" ⟨.ref C :: ([] ++ vs), []⟩).cUnits ≤ 5 := by
    have : (Code.builtin "type.__call__" ⟨.ref C :: ([] ++ vs), []⟩).cUnits = 1 := by kernel_rfl
    lia
  have hA : A'.depth = f.A.depth + 1 ∧ A'.units ≤ f.A.units + 5 ∧ A'.handled = f.A.handled := by
    refine ⟨?_, ?_, rfl⟩
    · show f.A.depth + (Code.builtin "type.__call__" ⟨.ref C :: ([] ++ vs), []⟩).weight = _
      rw [hw]
    · show f.A.units + (Code.builtin "type.__call__" ⟨.ref C :: ([] ++ vs), []⟩).cUnits ≤ _
      lia
  have hFr : ∃ l, f'.A.frames = some l ∧ (∀ env ∈ l, env.scope.kind ≠ .module ∧ ∃ L, env.frame = some L ∧ (L = f'.env.locals ∨ ∃ m, (L, m) ∈ f'.fr)) ∧ (S.names.lookup dot0 = none → (∃ l', l = f'.env :: l') ∧ f'.env.frame = some f'.env.locals) := by
    obtain ⟨l, h1, h2, h3⟩ := F.frames
    refine ⟨l, ?_, h2, h3⟩
    show pushEnvs (Code.envs (.builtin "type.__call__" ⟨.ref C :: ([] ++ vs), []⟩)) f.A.frames = _
    rw [h1, show Code.envs (.builtin "type.__call__" ⟨.ref C :: ([] ++ vs), []⟩) = [] by kernel_rfl]
    rfl
  have hG : A'.guards = some [] := by
    show pushGuards (Code.guards (.builtin "type.__call__" ⟨.ref C :: ([] ++ vs), []⟩)) f.A.guards = some []
    rw [F.guards, show Code.guards (.builtin "type.__call__" ⟨.ref C :: ([] ++ vs), []⟩) = [] by kernel_rfl]
    rfl
  have FF : FmOk c S (n + 1) f' := ⟨F.scope, F.kind, F.globals, F.builtins, by have := F.depth; show A'.depth ≤ _; lia, by have := F.units; show A'.units ≤ _; lia, hG, hFr, F.hand, F.cellsOk, F.freeOk, F.keys⟩
  let ω₃ : Om := ω₂.put i xa
  have X3 : Ext n ω₂ ω₃ := ⟨fun k hk => by show (if k = i then _ else _) = _; rw [if_neg (by lia)], [], rfl⟩
  have perm : (Mc ++ (([(xa, instObj C dx), (dx, dictOf [] 0)] ++ Mh) ++ (ω₂.Z ++ (FR ++ f.keep)))).Perm ((xa, instObj C dx) :: (dx, dictOf [] 0) :: (Mc ++ (Mh ++ (ω₂.Z ++ (FR ++ f.keep))))) := by
    have e1 : Mc ++ (([(xa, instObj C dx), (dx, dictOf [] 0)] ++ Mh) ++ (ω₂.Z ++ (FR ++ f.keep))) = Mc ++ ((xa, instObj C dx) :: (dx, dictOf [] 0) :: (Mh ++ (ω₂.Z ++ (FR ++ f.keep)))) := by simp only [List.append_assoc, List.cons_append, List.nil_append]
    rw [e1]
    exact List.perm_middle.trans (.cons _ List.perm_middle)
  have R₃ : RelE c (n + 1) f' ω₃ ⟨σ₁.loc, (i, .inst C []) :: σ₁.heap⟩ { s₂ with heap := h' } := by
    refine ⟨m, Mc, [(xa, instObj C dx), (dx, dictOf [] 0)] ++ Mh, FR, ⟨F', fun p hp => N' p (perm.subset hp), ?_, r.frs, r.cells, r.cinj, .cons (by show (if i = i then _ else _) = _; rw [if_pos rfl]) (.inst .nil) (r.heap.put hfree), fun y Y hy hl => ?_, r.gens, r.drawn, r.os⟩⟩
    · show ((Mc ++ (([(xa, instObj C dx), (dx, dictOf [] 0)] ++ Mh) ++ (ω₂.Z ++ (FR ++ f.keep)))).map (·.1)).Nodup
      rw [(perm.map (·.1)).nodup_iff, List.map_cons, List.map_cons, List.nodup_cons, List.nodup_cons]
      refine ⟨fun hm => ?_, fun hm => ?_, r.nd⟩
      · rcases List.mem_cons.mp hm with e | hm
        · exact absurd l2 (by rw [show xa = dx from e]; exact Nat.lt_irrefl _)
        · obtain ⟨p, hp, e⟩ := List.mem_map.mp hm
          have e' : p.1 = xa := e
          exact absurd (Nat.lt_trans l2 (e' ▸ l1 p hp)) (Nat.lt_irrefl _)
      · obtain ⟨p, hp, e⟩ := List.mem_map.mp hm
        have e' : p.1 = dx := e
        exact absurd (e' ▸ l1 p hp) (Nat.lt_irrefl _)
    · have q := r.locs y Y hy hl
      have av := hav _ _ hl
      cases q with
      | loc a b d => exact .loc a b ((d.put av).up (Nat.le_succ n))
      | cell a b d e g => exact .cell a b d e ((g.put av).up (Nat.le_succ n))
      | free a b d e g => exact .free a b d e ((g.put av).up (Nat.le_succ n))
  have VX : VRs c (n + 1) ω₃ Xs vs := VRs.put B hXs
  have hi3 : i < (n + 1 + 1) * 1000 := Nat.lt_of_lt_of_le hi2 (Nat.mul_le_mul_right 1000 (Nat.le_succ (n + 1)))
  have hp3 : ω₃.ρ i = some xa := Om.put_self
  have VO : VR c (n + 1) ω₃ (.obj i) (.ref xa) := .obj hi3 hp3
  refine h2 S f' FF ω₃ { s₂ with heap := h' } _ _ R₃ (.cons VO VX) fun ω₄ v s₄ e₄ R₄ Av => ?_
  cases Av with
  | d Av =>
    cases Av
    refine ⟨rfl, ?_⟩
    have R₅ : RelE c n f ω₄ ⟨σ₁.loc, H⟩ s₄ := by
      obtain ⟨m', Mc', Mh', FR', r'⟩ := R₄
      refine ⟨m', Mc', Mh', FR', ⟨r'.fr, r'.nw, r'.nd, r'.frs, r'.cells, r'.cinj, r'.heap, fun y Y hy hl => ?_, r'.gens, r'.drawn, r'.os⟩⟩
      have ok : Y.ok n := by
        cases r.locs y Y hy hl with
        | loc a b d => exact d.isOk
        | cell a b d e g => exact g.isOk
        | free a b d e g => exact g.isOk
      cases r'.locs y Y hy hl with
      | loc a b d => exact .loc a b (d.down ok)
      | cell a b d e g => exact .cell a b d e (g.down ok)
      | free a b d e g => exact .free a b d e (g.down ok)
    have hρ : ω₄.ρ i = some xa := (e₄.ρ i hi3).trans hp3
    exact store_name F R₅ (isOwnVar_or hv) (.obj hi2 hρ) (fun s₆ R₆ => h ω₄ .next s₆ (e₁.down.trans (e₂.down.trans (X3.trans (e₄.le (Nat.le_add_right n 2))))) R₆ .next) (F.cellsOk x)
end
end Mine
namespace Mine
open PySem PySem.W PyProof.Rows PySem.Calls PySem.Spec
noncomputable def relS (scope S : Scope) : Scope :=
  { scope with names := scope.names.map fun (n, k) => if (k == .free && S.kind == .function && S.names.lookup n == some .cell) then (n, .cell) else (n, k) }
theorem relabel_eq {scope S : Scope} {env : Env} (h : env.scope = S) : relabel scope env = relS scope S := by
  unfold relabel relS Env.kindOf; rw [h]
noncomputable def keysOkB (S : Scope) : Bool := S.names.all fun p => S.names.all fun q => !(key p.1 == key q.1) || p.1 == q.1
theorem lookup_mem {α : Type} {l : List (Str × α)} {x : Str} {v : α} (h : l.lookup x = some v) : (x, v) ∈ l := by
  obtain ⟨l₁, l₂, e, _⟩ := List.lookup_eq_some_iff.mp h
  rw [e]; simp
theorem isVar_mem {S : Scope} {x : Str} (h : isVar (S.names.lookup x) = true) : ∃ k, (x, k) ∈ S.names := by
  cases q : S.names.lookup x with
  | none => rw [q] at h; cases h
  | some k => exact ⟨k, lookup_mem q⟩
theorem keysOk_of {S : Scope} (h : keysOkB S = true) : KeysOk S := fun x y hx hy e => by
  obtain ⟨k1, m1⟩ := isVar_mem hx
  obtain ⟨k2, m2⟩ := isVar_mem hy
  have z := List.all_eq_true.mp (List.all_eq_true.mp h _ m1) _ m2
  simpa [e] using z
noncomputable def compOk (S scope : Scope) (x : Str) : Bool :=
  (match scope.kind with | .function => true | _ => false) &&
  scope.names.all (fun p => match p.2 with
    | .cell => false
    | .local => (match scope.names.lookup p.1 with | some .local => true | _ => false) && (p.1 == x || p.1 == dot0)
    | .free => (match S.names.lookup p.1 with | some .cell => true | _ => false) && (match scope.names.lookup p.1 with | some .free => true | _ => false)
    | _ => true) && (match scope.names.lookup x with | some .local => true | _ => false) && (scope.names.lookup dot0).isSome && keysOkB (relS scope S)
structure CompOk (S scope : Scope) (x : Str) : Prop where
  kind : scope.kind = .function
  nocell : ∀ p ∈ scope.names, p.2 ≠ .cell
  loc : ∀ p ∈ scope.names, p.2 = .local → scope.names.lookup p.1 = some .local ∧ (p.1 = x ∨ p.1 = dot0)
  free : ∀ p ∈ scope.names, p.2 = .free → S.names.lookup p.1 = some .cell ∧ scope.names.lookup p.1 = some .free
  x : scope.names.lookup x = some .local
  dot : (scope.names.lookup dot0).isSome = true
  keys : KeysOk (relS scope S)
theorem comp_ok {S scope : Scope} {x : Str} (h : compOk S scope x = true) : CompOk S scope x := by
  unfold compOk at h
  simp only [Bool.and_eq_true] at h
  obtain ⟨⟨⟨⟨h1, h2⟩, h3⟩, h5⟩, h4⟩ := h
  refine ⟨(by split at h1 <;> first | assumption | exact (Bool.noConfusion h1)), fun p hp e => ?_, fun p hp e => ?_, fun p hp e => ?_, (by split at h3 <;> first | assumption | exact (Bool.noConfusion h3)), h5, keysOk_of h4⟩
  · have z := List.all_eq_true.mp h2 p hp
    rw [e] at z; cases z
  · have z := List.all_eq_true.mp h2 p hp
    rw [e] at z
    simp only [Bool.and_eq_true, Bool.or_eq_true, beq_iff_eq] at z
    refine ⟨?_, z.2⟩
    have y := z.1
    split at y <;> first | assumption | cases y
  · have z := List.all_eq_true.mp h2 p hp
    rw [e] at z
    simp only [Bool.and_eq_true] at z
    refine ⟨?_, ?_⟩
    · have y := z.1
      split at y <;> first | assumption | cases y
    · have y := z.2
      split at y <;> first | assumption | cases y
theorem relS_lookup {scope S : Scope} {y : Str} : (relS scope S).names.lookup y = (scope.names.lookup y).map fun k => if (k == .free && S.kind == .function && S.names.lookup y == some .cell) then .cell else k := by
  unfold relS
  dsimp only
  induction scope.names with
  | nil => rfl
  | cons p l ih =>
    obtain ⟨n, k⟩ := p
    have key : ∀ k', (if (k == NameKind.free && S.kind == .function && S.names.lookup n == some .cell) = true then (n, NameKind.cell) else (n, k)) = (n, k') → 
        List.lookup y ((n, k') :: l.map fun (n, k) => if (k == .free && S.kind == .function && S.names.lookup n == some .cell) then (n, .cell) else (n, k)) = (((n, k) :: l).lookup y).map fun k => if (k == .free && S.kind == .function && S.names.lookup y == some .cell) then .cell else k := by
      intro k' hk'
      rw [List.lookup_cons, List.lookup_cons]
      cases q : (y == n) with
      | true =>
        have e : y = n := by simpa using q
        subst e
        dsimp only [Option.map_some]
        by_cases hc : (k == NameKind.free && S.kind == .function && S.names.lookup y == some .cell) = true
        · rw [if_pos hc] at hk' ⊢; cases hk'; rfl
        · rw [if_neg hc] at hk' ⊢; cases hk'; rfl
      | false => exact ih
    rw [List.map_cons]
    by_cases hc : (k == NameKind.free && S.kind == .function && S.names.lookup n == some .cell) = true
    · have z := key .cell (if_pos hc)
      dsimp only
      rw [if_pos hc]; exact z
    · have z := key k (if_neg hc)
      dsimp only
      rw [if_neg hc]; exact z
noncomputable def closL (cells : List (Str × Addr)) : List (Str × NameKind) → List (Str × Addr) → List (Str × Addr)
  | [], acc => acc
  | (n, k) :: l, acc => closL cells l (if k == .free then (n, (cells.lookup n).getD 0) :: acc else acc)
theorem closL_go {env : Env} {l : List (Str × NameKind)} {acc : List (Str × Addr)} (h : ∀ p ∈ l, p.2 = .free → ∃ a, env.cells.lookup p.1 = some a) :
    (forIn l acc fun x r => do
      let (name, kind) := x
      if kind == .free then let a ← cellOf env name; pure (ForInStep.yield ((name, a) :: r)) else pure (ForInStep.yield r) : Sem _) = pure (closL env.cells l acc) := by
  induction l generalizing acc with
  | nil => rfl
  | cons p l ih =>
    obtain ⟨n, k⟩ := p
    rw [List.forIn_cons]
    unfold closL
    by_cases hk : k = .free
    · subst hk
      obtain ⟨a, ha⟩ := h _ (.head _) rfl
      have e : cellOf env n = pure a := by unfold cellOf; rw [show env.cells.lookup n = some a from ha]
      have ih' := ih (acc := (n, a) :: acc) fun p hp => h p (.tail _ hp)
      rw [show env.cells.lookup n = some a from ha]
      simp only [beq_self_eq_true, if_true, e, pure_bind, Option.getD_some] at ih' ⊢
      exact ih'
    · have ih' := ih (acc := acc) fun p hp => h p (.tail _ hp)
      have : (k == NameKind.free) = false := by simpa using hk
      simp only [this, Bool.false_eq_true, if_false, pure_bind] at ih' ⊢
      exact ih'
theorem closure_eq {scope : Scope} {env : Env} (h : ∀ p ∈ scope.names, p.2 = .free → ∃ a, env.cells.lookup p.1 = some a) : closureFor scope env = pure (closL env.cells scope.names []) := by
  unfold closureFor
  have z := closL_go (acc := []) h
  simp only [bind_pure_comp, pure_bind] at z ⊢
  first | exact z | (rw [z]; rfl) | simpa using z
theorem closL_mem {cells : List (Str × Addr)} {l : List (Str × NameKind)} {acc : List (Str × Addr)} : ∀ q, q ∈ closL cells l acc ↔ q ∈ acc ∨ ∃ p ∈ l, p.2 = .free ∧ q = (p.1, (cells.lookup p.1).getD 0) := by
  induction l generalizing acc with
  | nil => intro q; simp [closL]
  | cons p l ih =>
    intro q
    obtain ⟨n, k⟩ := p
    unfold closL
    rw [ih q]
    by_cases hk : k = .free
    · subst hk; simp only [beq_self_eq_true, if_true]
      refine ⟨fun h => ?_, fun h => ?_⟩
      · rcases h with h | ⟨p, hp, e, e'⟩
        · rcases List.mem_cons.mp h with rfl | h
          · exact .inr ⟨_, .head _, rfl, rfl⟩
          · exact .inl h
        · exact .inr ⟨p, .tail _ hp, e, e'⟩
      · rcases h with h | ⟨p, hp, e, e'⟩
        · exact .inl (.tail _ h)
        · rcases List.mem_cons.mp hp with rfl | hp
          · exact .inl (e' ▸ .head _)
          · exact .inr ⟨p, hp, e, e'⟩
    · have : (k == NameKind.free) = false := by simpa using hk
      simp only [this, Bool.false_eq_true, if_false]
      refine ⟨fun h => ?_, fun h => ?_⟩
      · rcases h with h | ⟨p, hp, e, e'⟩
        · exact .inl h
        · exact .inr ⟨p, .tail _ hp, e, e'⟩
      · rcases h with h | ⟨p, hp, e, e'⟩
        · exact .inl h
        · rcases List.mem_cons.mp hp with rfl | hp
          · exact absurd e hk
          · exact .inr ⟨p, hp, e, e'⟩
theorem lookup_of_const {l : List (Str × Addr)} {y : Str} {a : Addr} (h1 : (y, a) ∈ l) (h2 : ∀ b, (y, b) ∈ l → b = a) : l.lookup y = some a := by
  cases q : l.lookup y with
  | none => rw [List.lookup_eq_none_iff] at q; have := q _ h1; simp at this
  | some b => rw [h2 b (lookup_mem q)]
theorem closL_lookup {cells : List (Str × Addr)} {l : List (Str × NameKind)} {y : Str} {a : Addr} (h : (y, .free) ∈ l) (ha : cells.lookup y = some a) : (closL cells l []).lookup y = some a := by
  refine lookup_of_const ((closL_mem _).mpr (.inr ⟨_, h, rfl, by simp [ha]⟩)) fun b hb => ?_
  rcases (closL_mem _).mp hb with h | ⟨p, _, _, e⟩
  · cases h
  · cases e; rw [ha]; rfl
end Mine
namespace Mine
open PySem PySem.W PyProof.Rows PySem.Calls PySem.Spec
noncomputable def Cap (scope : Scope) (y : Str) : Prop := (y, NameKind.free) ∈ scope.names
theorem relS_cap {S scope : Scope} {x y : Str} (hS : S.kind = .function) (ok : CompOk S scope x) (h : Cap scope y) : (relS scope S).names.lookup y = some .cell ∧ S.names.lookup y = some .cell := by
  obtain ⟨h1, h2⟩ := ok.free _ h rfl
  refine ⟨?_, h1⟩
  rw [relS_lookup, h2, hS, h1]; rfl
theorem relS_var {S scope : Scope} {x y : Str} (hS : S.kind = .function) (ok : CompOk S scope x) (h : isVar ((relS scope S).names.lookup y) = true) :
    ((relS scope S).names.lookup y = some .local ∧ (y = x ∨ y = dot0)) ∨ Cap scope y := by
  rw [relS_lookup] at h ⊢
  cases q : scope.names.lookup y with
  | none => rw [q] at h; cases h
  | some k =>
    rw [q] at h
    have hm := lookup_mem q
    cases k with
    | «local» => exact .inl ⟨rfl, (ok.loc _ hm rfl).2⟩
    | free => exact .inr hm
    | cell => exact absurd rfl (ok.nocell _ hm)
    | _ => cases h
noncomputable def capB (cl : List (Str × Addr)) (p : Addr × Obj) : Bool := cl.any fun q => q.2 == p.1
noncomputable def Fm.comp (f : Fm) (scope : Scope) (C : Addr) (m : Str → Option Value) (D : Addr) (acc : Obj) (M2 : Led) : Fm :=
  { A := f.A, env := compEnvC scope (closL f.env.cells scope.names []) C f.env, fr := (f.env.locals, m) :: f.fr, keep := (D, acc) :: (M2 ++ f.keep) }
noncomputable def capL (scope : Scope) (loc : List (Nat × V)) : List (Nat × V) := loc.filter fun p => scope.names.any fun q => (match q.2 with | .free => true | _ => false) && (key q.1 == p.1)
theorem lk_filter {α : Type} {q : Nat → Bool} {k : Nat} {l : List (Nat × α)} : lk k (l.filter fun p => q p.1) = bif q k then lk k l else none := by
  induction l with
  | nil => cases q k <;> rfl
  | cons p l ih =>
    obtain ⟨a, x⟩ := p
    rw [List.filter_cons]
    cases ha : q a with
    | true =>
      simp only [ha, if_true]
      unfold lk
      rw [ih]
      cases e : (a == k) with
      | true => have : a = k := by simpa using e
                subst this; rw [ha]; rfl
      | false => rfl
    | false =>
      simp only [ha, Bool.false_eq_true, if_false]
      rw [ih]
      cases e : (a == k) with
      | true => have : a = k := by simpa using e
                subst this; rw [ha]; rfl
      | false => show _ = bif q k then (bif a == k then some x else lk k l) else none; rw [e]; rfl
theorem capL_some {scope : Scope} {loc : List (Nat × V)} {k : Nat} {X : V} (h : lk k (capL scope loc) = some X) : lk k loc = some X ∧ ∃ z, Cap scope z ∧ key z = k := by
  unfold capL at h
  rw [lk_filter (q := fun k => scope.names.any fun q => (match q.2 with | .free => true | _ => false) && (key q.1 == k))] at h
  cases e : (scope.names.any fun q => (match q.2 with | .free => true | _ => false) && (key q.1 == k)) with
  | false => rw [e] at h; cases h
  | true =>
    rw [e] at h
    refine ⟨h, ?_⟩
    obtain ⟨⟨z, kz⟩, hz, hq⟩ := List.any_eq_true.mp e
    simp only [Bool.and_eq_true, beq_iff_eq] at hq
    refine ⟨z, ?_, hq.2⟩
    have y := hq.1
    cases kz <;> first | exact hz | cases y
theorem capL_cap {scope : Scope} {loc : List (Nat × V)} {y : Str} (h : Cap scope y) : lk (key y) (capL scope loc) = lk (key y) loc := by
  unfold capL
  rw [lk_filter (q := fun k => scope.names.any fun q => (match q.2 with | .free => true | _ => false) && (key q.1 == k))]
  have : (scope.names.any fun q => (match q.2 with | .free => true | _ => false) && (key q.1 == key y)) = true := List.any_eq_true.mpr ⟨_, h, by simp⟩
  rw [this]; rfl
section
variable {c : Cx} {S scope : Scope} {n : Nat} {σ σ' σ₁ σ₂ σ₃ σ₄ : St} {X Y Z : V} {e l r t test target iter fn : Expr} {es : List Expr} {Xs : List V} {pos tpos : Pos} {x y : Str} {C D : Addr} {f : Fm} {ω : Om} {s : Shared}
theorem cap_at (F : FmOk c S n f) (ok : CompOk S scope x) (h : Cap scope y) : ∃ a, f.env.cells.lookup y = some a ∧ (closL f.env.cells scope.names []).lookup y = some a := by
  obtain ⟨a, ha⟩ := F.cellsOk y (ok.free _ h rfl).1
  exact ⟨a, ha, closL_lookup h ha⟩
theorem cap_in {a : Addr} {o : Obj} (h : (closL f.env.cells scope.names []).lookup y = some a) : capB (closL f.env.cells scope.names []) (a, o) = true :=
  List.any_eq_true.mpr ⟨_, lookup_mem h, by simp⟩
theorem cap_out {m : Str → Option Value} {Mc Mh FR : Led} {kp : Led} {a : Addr} {o : Obj} (F : FmOk c S n f) (ok : CompOk S scope x) (r : Rel c n (f.more kp) ω σ s m Mc Mh FR) (hk : f.env.kindOf y = some .cell) (ha : f.env.cells.lookup y = some a) (hy : ¬Cap scope y) : capB (closL f.env.cells scope.names []) (a, o) = false := by
  cases q : capB (closL f.env.cells scope.names []) (a, o) with
  | false => rfl
  | true =>
    obtain ⟨⟨z, b⟩, hz, hb⟩ := List.any_eq_true.mp q
    have hb' : b = a := by simpa using hb
    subst hb'
    rcases (closL_mem _).mp hz with h | ⟨p, hp, e1, e2⟩
    · cases h
    · cases e2
      obtain ⟨n0, k0⟩ := p
      cases e1
      have hc : Cap scope n0 := hp
      obtain ⟨a', h1, _⟩ := cap_at F ok hc
      have ea : f.env.cells.lookup n0 = some ((List.lookup n0 f.env.cells).getD 0) := by rw [h1]; rfl
      have hkz : f.env.kindOf n0 = some .cell := by unfold Env.kindOf; rw [F.scope]; exact (ok.free _ hc rfl).1
      exact absurd (r.cinj y n0 _ hk hkz ha ea ▸ hc) hy
theorem perm_enter {α : Type} {M1 M2 M B Z F K k : List α} {x d : α} (h : (M1 ++ M2).Perm M) : (M1 ++ (B ++ (Z ++ ((x :: F) ++ (K ++ (d :: (M2 ++ k))))))).Perm (x :: d :: (M ++ (B ++ (Z ++ (F ++ (K ++ k)))))) := by
  classical
  rw [List.perm_iff_count]
  intro a
  have z := (List.perm_iff_count.mp h) a
  simp only [List.count_append, List.count_cons] at z ⊢
  generalize (if x == a then 1 else 0 : Nat) = u
  generalize (if d == a then 1 else 0 : Nat) = v
  rw [← z]
  ac_rfl
theorem perm_leave {α : Type} {A B Z F K C k : List α} {x d : α} : (A ++ (B ++ (Z ++ ((x :: F) ++ (K ++ (d :: (C ++ k))))))).Perm ((x :: ((A ++ C) ++ (B ++ (Z ++ (F ++ ([d] ++ k)))))) ++ K) := by
  classical
  rw [List.perm_iff_count]
  intro a
  simp only [List.count_append, List.count_cons, List.count_nil]
  generalize (if x == a then 1 else 0 : Nat) = u
  generalize (if d == a then 1 else 0 : Nat) = v
  rw [Nat.zero_add]
  ac_rfl
theorem comp_enter {m : Str → Option Value} {Mc Mh FR : Led} {kp : Led} {h₁ : Heap} {tk : Tok} {acc ob : Obj} (hS : S.kind = .function) (F : FmOk c S n f) (ok : CompOk S scope x) (r : Rel c n (f.more kp) ω σ s m Mc Mh FR) (hacc : acc.isFreed = false)
    (hns : h₁.Ns (s.heap.push acc).objs.size (fun _ => none)) (hsb : Heap.SameBut (s.heap.push acc).objs.size ((s.heap.push acc).push ob) h₁) :
    RelE c n ((f.comp scope (s.heap.push acc).objs.size m s.heap.objs.size acc (Mc.filter fun p => !capB (closL f.env.cells scope.names []) p)).more kp) ω ⟨capL scope σ.loc, σ.heap⟩ { s with heap := h₁, toks := tk } := by
  obtain ⟨oL, es, ep, hL, hLd, hLs, hLf⟩ := r.fr.ns
  have hL : s.heap.get? f.env.locals = some oL := hL
  have hCs : (s.heap.push acc).objs.size = s.heap.objs.size + 1 := Heap.size_push ..
  have ltC : ∀ b o, (s.heap.push acc).get? b = some o → b ≠ (s.heap.push acc).objs.size := fun b o e => Nat.ne_of_lt (Heap.lt_size e)
  have up2 : ∀ b o, (s.heap.push acc).get? b = some o → h₁.get? b = some o := fun b o e => hsb.extBut b o (ltC b o e) (Heap.get?_push_of_some _ e)
  have up : ∀ b o, s.heap.get? b = some o → h₁.get? b = some o := fun b o e => up2 b o (Heap.get?_push_of_some _ e)
  have ne : ∀ b o, s.heap.get? b = some o → b ≠ (s.heap.push acc).objs.size := fun b o e => ltC b o (Heap.get?_push_of_some _ e)
  have hD : (s.heap.push acc).get? s.heap.objs.size = some acc := Heap.get?_push_size _ hacc
  have above : c.base.objs.size ≤ s.heap.objs.size := Nat.le_of_lt (Nat.lt_of_le_of_lt r.fr.above r.fr.ns.lt)
  have bnone : ∀ b, c.base.objs.size ≤ b → c.base.get? b = none := fun b hb => get_above_none hb
  have perm0 := perm_enter (B := Mh) (Z := ω.Z) (F := FR) (K := kp) (k := f.keep) (x := (f.env.locals, oL)) (d := (s.heap.objs.size, acc)) (List.filter_append_perm (capB (closL f.env.cells scope.names [])) Mc)
  refine ⟨fun _ => none, Mc.filter (capB (closL f.env.cells scope.names [])), Mh, (f.env.locals, oL) :: FR, ⟨⟨hns, fun b o e => up b o (r.fr.keep b o e), by show c.base.objs.size ≤ (s.heap.push acc).objs.size; lia⟩, fun p hp => ?_, ?_, .cons hLd hLs hLf r.frs, fun y a hk ha => ?_, fun y z a hy hz h1 h2 => ?_, r.heap, fun y Y hy hl => ?_, r.gens, r.drawn, r.os⟩⟩
  · have hp' : p = (f.env.locals, oL) ∨ p = (s.heap.objs.size, acc) ∨ p ∈ Mc ++ (Mh ++ (ω.Z ++ (FR ++ (kp ++ f.keep)))) := by
      rcases List.mem_cons.mp ((perm0.mem_iff).mp hp) with h | h
      · exact .inl h
      · exact .inr (List.mem_cons.mp h)
    rcases hp' with rfl | rfl | h
    · exact ⟨up _ _ hL, ne _ _ hL, bnone _ r.fr.above⟩
    · exact ⟨up2 _ _ hD, ltC _ _ hD, bnone _ above⟩
    · have z := r.nw p h
      exact ⟨up _ _ z.1, ne _ _ z.1, z.2.2⟩
  · have perm := perm0.map (·.1)
    refine (perm.nodup_iff).mpr ?_
    rw [List.map_cons, List.map_cons, List.nodup_cons, List.nodup_cons]
    refine ⟨fun hm => ?_, fun hm => ?_, r.nd⟩
    · rcases List.mem_cons.mp hm with e | hm
      · exact absurd (Heap.lt_size hL) (by rw [show f.env.locals = s.heap.objs.size from e]; exact Nat.lt_irrefl _)
      · obtain ⟨p, hp, e⟩ := List.mem_map.mp hm
        exact (r.nw p hp).2.1 e
    · obtain ⟨p, hp, e⟩ := List.mem_map.mp hm
      exact absurd (Heap.lt_size (r.nw p hp).1) (by rw [e]; exact Nat.lt_irrefl _)
  · have hk' : (relS scope S).names.lookup y = some .cell := by rw [← relabel_eq F.scope]; exact hk
    have ha' : (closL f.env.cells scope.names []).lookup y = some a := ha
    have hc : Cap scope y := by
      rcases relS_var hS ok (y := y) (by rw [hk']; rfl) with ⟨h, _⟩ | h
      · rw [h] at hk'; cases hk'
      · exact h
    obtain ⟨a', h1, h2⟩ := cap_at F ok hc
    have : a' = a := Option.some.inj (h2.symm.trans ha')
    subst this
    obtain ⟨o, v, hm, hd⟩ := r.cells y a' (by show f.env.kindOf y = _; unfold Env.kindOf; rw [F.scope]; exact (ok.free _ hc rfl).1) h1
    exact ⟨o, v, List.mem_filter.mpr ⟨hm, cap_in ha'⟩, hd⟩
  · have cap : ∀ y a, (f.comp scope (s.heap.push acc).objs.size m s.heap.objs.size acc (Mc.filter fun p => !capB (closL f.env.cells scope.names []) p)).env.kindOf y = some .cell → (closL f.env.cells scope.names []).lookup y = some a → f.env.kindOf y = some .cell ∧ f.env.cells.lookup y = some a := by
      intro y a hk ha
      have hk' : (relS scope S).names.lookup y = some .cell := by rw [← relabel_eq F.scope]; exact hk
      have hc : Cap scope y := by
        rcases relS_var hS ok (y := y) (by rw [hk']; rfl) with ⟨h, _⟩ | h
        · rw [h] at hk'; cases hk'
        · exact h
      obtain ⟨a', h1, h2⟩ := cap_at F ok hc
      have : a' = a := Option.some.inj (h2.symm.trans ha)
      subst this
      exact ⟨by unfold Env.kindOf; rw [F.scope]; exact (ok.free _ hc rfl).1, h1⟩
    obtain ⟨a1, a2⟩ := cap y a hy h1
    obtain ⟨b1, b2⟩ := cap z a hz h2
    exact r.cinj y z a a1 b1 a2 b2
  · have hy' : isVar ((relS scope S).names.lookup y) = true := by rw [← relabel_eq F.scope]; exact hy
    obtain ⟨hl1, z, hz, ez⟩ := capL_some hl
    have hzv : isVar ((relS scope S).names.lookup z) = true := by rw [(relS_cap hS ok hz).1]; rfl
    have e : z = y := ok.keys z y hzv hy' ez
    subst e
    have hk : f.env.kindOf z = some .cell := by unfold Env.kindOf; rw [F.scope]; exact (relS_cap hS ok hz).2
    have q := r.locs z Y (by show isVar (f.env.kindOf z) = true; rw [hk]; rfl) hl1
    obtain ⟨a', h1, h2⟩ := cap_at F ok hz
    cases q with
    | loc a b d => have a : f.env.kindOf z = _ := a; rw [hk] at a; cases a
    | free a b d e g => have a : f.env.kindOf z = _ := a; rw [hk] at a; cases a
    | @cell a1 o v a b d e g =>
      have b : f.env.cells.lookup z = some a1 := b
      have : a' = a1 := Option.some.inj (h1.symm.trans b)
      subst this
      exact .cell (by show (relabel scope f.env).names.lookup z = _; rw [relabel_eq F.scope]; exact (relS_cap hS ok hz).1) h2 (List.mem_filter.mpr ⟨d, cap_in h2⟩) e g
end
end Mine
namespace Mine
open PySem PySem.W PyProof.Rows PySem.Calls PySem.Spec
noncomputable def IfsB (c : Cx) (S : Scope) (n : Nat) : List Expr → St → Bool → Prop
  | [], _, b => b = true
  | [e], σ, b => Ts c S n e σ b σ
  | _, _, _ => False
inductive CompIs (c : Cx) (S : Scope) (n : Nat) (ifs : List Expr) (elt : Expr) (x : Str) (σ : St) : List V → List D → Prop
  | nil : CompIs c S n ifs elt x σ [] []
  | skip {X : V} {Xs : List V} {ds : List D} : IfsB c S n ifs ⟨(key x, X) :: σ.loc, σ.heap⟩ false → CompIs c S n ifs elt x σ Xs ds → CompIs c S n ifs elt x σ (X :: Xs) ds
  | take {X : V} {d : D} {Xs : List V} {ds : List D} : IfsB c S n ifs ⟨(key x, X) :: σ.loc, σ.heap⟩ true → Ev c S n elt ⟨(key x, X) :: σ.loc, σ.heap⟩ (.d d) ⟨(key x, X) :: σ.loc, σ.heap⟩ → CompIs c S n ifs elt x σ Xs ds → CompIs c S n ifs elt x σ (X :: Xs) (d :: ds)
section
variable {c : Cx} {S scope : Scope} {n : Nat} {σ σ' σ₁ σ₂ σ₃ σ₄ : St} {X Y Z : V} {e l r t test target iter fn elt : Expr} {es ifs : List Expr} {Xs : List V} {pos tpos : Pos} {x y : Str} {C D : Addr} {f : Fm} {ω : Om} {s : Shared}
theorem RelE.keepFrz {a : Addr} {o : Obj} {f : Fm} {ω : Om} {s : Shared} (F : FmOk c S n f) (R : RelE c n (f.more [(a, o)]) ω σ s) : RelE c n f { ω with Z := (a, o) :: ω.Z } σ s := by
  obtain ⟨m, Mc, Mh, FR, r⟩ := R
  have r0 := r.unkeep F
  have X1 : Ext (n + 1) ω { ω with Z := (a, o) :: ω.Z } := Ext.frz (n + 1) ω [(a, o)]
  have perm : (Mc ++ (Mh ++ (((a, o) :: ω.Z) ++ (FR ++ f.keep)))).Perm (Mc ++ (Mh ++ (ω.Z ++ (FR ++ ([(a, o)] ++ f.keep))))) := by
    refine List.Perm.append_left _ (List.Perm.append_left _ ?_)
    have e1 : ω.Z ++ (FR ++ ([(a, o)] ++ f.keep)) = (ω.Z ++ FR) ++ (a, o) :: f.keep := by simp only [List.append_assoc, List.cons_append, List.nil_append]
    have e2 : ((a, o) :: ω.Z) ++ (FR ++ f.keep) = (a, o) :: ((ω.Z ++ FR) ++ f.keep) := by simp only [List.append_assoc, List.cons_append]
    rw [e1, e2]
    exact List.perm_middle.symm
  exact ⟨m, Mc, Mh, FR, ⟨r0.fr, fun p hp => r.nw p (perm.subset hp), ((perm.map (·.1)).nodup_iff).mpr r.nd, r0.frs, r0.cells, r0.cinj, r0.heap.mono X1.fz fun _ _ => rfl, fun y Y hy hl => (r0.locs y Y hy hl).ext X1, r0.gens, r0.drawn, r0.os⟩⟩
theorem comp_leaveC {m : Str → Option Value} {Mc Mh FR : Led} {kp kp' : Led} {s₀ : Shared} {ω₀ : Om} {h'' : Heap} {tk : Tok} {acc : Obj} {loc : List (Nat × V)} {H : List (Nat × HO)} (hS : S.kind = .function) (F : FmOk c S n f) (ok : CompOk S scope x) (r : Rel c n (f.more kp) ω₀ σ s₀ m Mc Mh FR)
    (R : RelE c n ((f.comp scope C m D acc (Mc.filter fun p => !capB (closL f.env.cells scope.names []) p)).more kp') ω ⟨loc, H⟩ s) (e : Ext (n + 1) ω₀ ω) (hloc : ∀ y, Cap scope y → lk (key y) loc = lk (key y) σ.loc) (hsb : Heap.SameBut C s.heap h'') :
    (∃ m Mc Mh FR, Rel c n (f.more [(D, acc)]) ω ⟨σ.loc, H⟩ { s with heap := h'', toks := tk } m Mc Mh FR ∧ ∀ p ∈ Mc ++ (Mh ++ (ω.Z ++ (FR ++ ([(D, acc)] ++ f.keep)))), p.1 ≠ C) ∧ f.env.locals ≠ C := by
  obtain ⟨m', Mc', Mh', FRa, r'⟩ := R
  have r0 := r.unkeep F
  have fr0 := r'.frs
  cases fr0 with
  | @cons _ _ o' es' ep' _ FR' d1 d2 d3 d4 =>
    have N' := r'.nw
    have nC : ∀ p ∈ Mc' ++ (Mh' ++ (ω.Z ++ (((f.env.locals, o') :: FR') ++ (kp' ++ ((D, acc) :: ((Mc.filter fun p => !capB (closL f.env.cells scope.names []) p) ++ f.keep)))))), p.1 ≠ C ∧ h''.get? p.1 = some p.2 ∧ c.base.get? p.1 = none := fun p hp => by
      have z := N' p hp
      exact ⟨z.2.1, (hsb.2 _ z.2.1).trans z.1, z.2.2⟩
    have nd' : ((Mc' ++ (Mh' ++ (ω.Z ++ (((f.env.locals, o') :: FR') ++ (kp' ++ ((D, acc) :: ((Mc.filter fun p => !capB (closL f.env.cells scope.names []) p) ++ f.keep))))))).map (·.1)).Nodup := r'.nd
    have perm := perm_leave (A := Mc') (B := Mh') (Z := ω.Z) (F := FR') (K := kp') (C := Mc.filter fun p => !capB (closL f.env.cells scope.names []) p) (k := f.keep) (x := (f.env.locals, o')) (d := (D, acc))
    have nd2 := ((perm.map (·.1)).nodup_iff).mp nd'
    rw [List.map_append] at nd2
    have nd2 := nd2.sublist (List.sublist_append_left ..)
    rw [List.map_cons, List.nodup_cons] at nd2
    have inn : ∀ p ∈ (Mc' ++ Mc.filter fun p => !capB (closL f.env.cells scope.names []) p) ++ (Mh' ++ (ω.Z ++ (FR' ++ ([(D, acc)] ++ f.keep)))), p ∈ Mc' ++ (Mh' ++ (ω.Z ++ (((f.env.locals, o') :: FR') ++ (kp' ++ ((D, acc) :: ((Mc.filter fun p => !capB (closL f.env.cells scope.names []) p) ++ f.keep)))))) := fun p hp => (perm.mem_iff).mpr (List.mem_append_left _ (.tail _ hp))
    have hL := nC (f.env.locals, o') ((perm.mem_iff).mpr (List.mem_append_left _ (.head _)))
    have capc : ∀ y, Cap scope y → ∃ a, f.env.cells.lookup y = some a ∧ (closL f.env.cells scope.names []).lookup y = some a := fun y hy => cap_at F ok hy
    refine ⟨⟨m, Mc' ++ Mc.filter fun p => !capB (closL f.env.cells scope.names []) p, Mh', FR', ⟨⟨⟨o', es', ep', hL.2.1, d1, d2, d3⟩, fun b o e => ?_, r0.fr.above⟩, fun p hp => ?_, nd2.2, d4, fun y a hk ha => ?_, r0.cinj, r'.heap, fun y Y hy hl => ?_, r'.gens, r'.drawn, r'.os⟩, fun p hp => (nC p (inn p hp)).1⟩, hL.1⟩
    · have z := r'.fr.keep b o e
      have : b ≠ C := fun h => by
        have q := Heap.lt_size e
        have q2 : c.base.objs.size ≤ C := r'.fr.above
        rw [h] at q; exact absurd (Nat.lt_of_lt_of_le q q2) (Nat.lt_irrefl _)
      exact (hsb.2 _ this).trans z
    · have z := nC p (inn p hp)
      refine ⟨z.2.1, fun h => nd2.1 ?_, z.2.2⟩
      have hp' : p ∈ (Mc' ++ Mc.filter fun p => !capB (closL f.env.cells scope.names []) p) ++ (Mh' ++ (ω.Z ++ (FR' ++ ([(D, acc)] ++ f.keep)))) := hp
      exact h ▸ List.mem_map.mpr ⟨p, hp', rfl⟩
    · by_cases hc : Cap scope y
      · obtain ⟨a', h1, h2⟩ := capc y hc
        have : a' = a := Option.some.inj (h1.symm.trans ha)
        subst this
        obtain ⟨o, v, hm, hd⟩ := r'.cells y a' (by show (relabel scope f.env).names.lookup y = _; rw [relabel_eq F.scope]; exact (relS_cap hS ok hc).1) h2
        exact ⟨o, v, List.mem_append_left _ hm, hd⟩
      · obtain ⟨o, v, hm, hd⟩ := r.cells y a hk ha
        refine ⟨o, v, List.mem_append_right _ (List.mem_filter.mpr ⟨hm, ?_⟩), hd⟩
        rw [cap_out F ok r hk ha hc]; rfl
    · have q0 := r0.locs y Y hy hl
      cases q0 with
      | loc a b d => exact .loc a b (d.ext e)
      | free a b d e1 g => exact .free a b (List.mem_append_right _ d) e1 (g.ext e)
      | @cell a1 o v a b d e1 g =>
        by_cases hc : Cap scope y
        · obtain ⟨a', h1, h2⟩ := capc y hc
          have : a' = a1 := Option.some.inj (h1.symm.trans b)
          subst this
          have hk' : ((f.comp scope C m D acc (Mc.filter fun p => !capB (closL f.env.cells scope.names []) p)).more kp').env.kindOf y = some .cell := by show (relabel scope f.env).names.lookup y = _; rw [relabel_eq F.scope]; exact (relS_cap hS ok hc).1
          have q := r'.locs y Y (by rw [hk']; rfl) (by rw [show lk (key y) loc = lk (key y) σ.loc from hloc y hc]; exact hl)
          cases q with
          | loc a2 _ _ => rw [hk'] at a2; cases a2
          | free a2 _ _ _ _ => rw [hk'] at a2; cases a2
          | @cell a3 o3 v3 x1 x2 x3 x4 x5 =>
            have x2' : (closL f.env.cells scope.names []).lookup y = some a3 := x2
            have : a' = a3 := Option.some.inj (h2.symm.trans x2')
            subst this
            exact .cell a b (List.mem_append_left _ x3) x4 x5
        · refine .cell a b (List.mem_append_right _ (List.mem_filter.mpr ⟨d, ?_⟩)) e1 (g.ext e)
          rw [cap_out F ok r a b hc]; rfl
theorem comp_leaveK {m : Str → Option Value} {Mc Mh FR : Led} {kp kp' : Led} {s₀ : Shared} {ω₀ : Om} {h'' : Heap} {tk : Tok} {acc : Obj} {loc : List (Nat × V)} {H : List (Nat × HO)} (hS : S.kind = .function) (F : FmOk c S n f) (ok : CompOk S scope x) (r : Rel c n (f.more kp) ω₀ σ s₀ m Mc Mh FR)
    (R : RelE c n ((f.comp scope C m D acc (Mc.filter fun p => !capB (closL f.env.cells scope.names []) p)).more kp') ω ⟨loc, H⟩ s) (e : Ext (n + 1) ω₀ ω) (hloc : ∀ y, Cap scope y → lk (key y) loc = lk (key y) σ.loc) (hsb : Heap.SameBut C s.heap h'') :
    RelE c n (f.more [(D, acc)]) ω ⟨σ.loc, H⟩ { s with heap := h'', toks := tk } := by
  obtain ⟨⟨m, Mc, Mh, FR, r, _⟩, _⟩ := comp_leaveC hS F ok r R e hloc (tk := tk) hsb
  exact ⟨m, Mc, Mh, FR, r⟩
theorem comp_leave {m : Str → Option Value} {Mc Mh FR : Led} {kp kp' : Led} {s₀ : Shared} {ω₀ : Om} {h'' : Heap} {tk : Tok} {acc : Obj} {loc : List (Nat × V)} {H : List (Nat × HO)} (hS : S.kind = .function) (F : FmOk c S n f) (ok : CompOk S scope x) (r : Rel c n (f.more kp) ω₀ σ s₀ m Mc Mh FR)
    (R : RelE c n ((f.comp scope C m D acc (Mc.filter fun p => !capB (closL f.env.cells scope.names []) p)).more kp') ω ⟨loc, H⟩ s) (e : Ext (n + 1) ω₀ ω) (hloc : ∀ y, Cap scope y → lk (key y) loc = lk (key y) σ.loc) (hsb : Heap.SameBut C s.heap h'') :
    RelE c n f { ω with Z := (D, acc) :: ω.Z } ⟨σ.loc, H⟩ { s with heap := h'', toks := tk } := (comp_leaveK hS F ok r R e hloc hsb).keepFrz F
theorem FmOk.comp {m : Str → Option Value} {acc : Obj} {M2 : Led} (hS : S.kind = .function) (F : FmOk c S n f) (ok : CompOk S scope x) : FmOk c (relS scope S) n (f.comp scope C m D acc M2) := by
  have cap : ∀ y k, (relS scope S).names.lookup y = some k → isVar (some k) = true → k ≠ .local → Cap scope y ∧ k = .cell := fun y k h hk hn => by
    rcases relS_var hS ok (y := y) (by rw [h]; exact hk) with ⟨h', _⟩ | h'
    · rw [h] at h'; cases h'; exact absurd rfl hn
    · have z := (relS_cap hS ok h').1
      rw [h] at z; cases z; exact ⟨h', rfl⟩
  refine ⟨relabel_eq F.scope, ok.kind, F.globals, F.builtins, F.depth, F.units, F.guards, ?_, F.hand, fun y h => ?_, fun y a h _ => ?_, ok.keys⟩
  · obtain ⟨l, h1, h2, h3⟩ := F.frames
    refine ⟨l, h1, fun env he => ?_, fun hd => ?_⟩
    · obtain ⟨a1, L', a2, a3⟩ := h2 env he
      refine ⟨a1, L', a2, .inr ?_⟩
      rcases a3 with rfl | ⟨m', a3⟩
      · exact ⟨m, .head _⟩
      · exact ⟨m', .tail _ a3⟩
    · exfalso
      have z := ok.dot
      rw [relS_lookup] at hd
      cases q : scope.names.lookup dot0 with
      | none => rw [q] at z; cases z
      | some k => rw [q] at hd; cases hd
  · obtain ⟨hc, _⟩ := cap y _ h rfl (by simp)
    obtain ⟨a, _, h2⟩ := cap_at F ok hc
    exact ⟨a, h2⟩
  · obtain ⟨_, h2⟩ := cap y _ h rfl (by simp)
    cases h2
theorem RelE.reloc {loc loc' : List (Nat × V)} {H : List (Nat × HO)} (R : RelE c n f ω ⟨loc, H⟩ s) (h : ∀ y Y, isVar (f.env.kindOf y) = true → lk (key y) loc' = some Y → lk (key y) loc = some Y) : RelE c n f ω ⟨loc', H⟩ s := by
  obtain ⟨m, Mc, Mh, FR, r⟩ := R
  exact ⟨m, Mc, Mh, FR, ⟨r.fr, r.nw, r.nd, r.frs, r.cells, r.cinj, r.heap, fun y Y hy hl => r.locs y Y hy (h y Y hy hl), r.gens, r.drawn, r.os⟩⟩
end
end Mine
namespace Mine
open PySem PySem.W PyProof.Rows PySem.Calls PySem.Spec
section
variable {prog : Program} {w : World} {A : Around} {E : Value → Shared → Prop} {s : Shared} {env : Env} {R : Result → Shared → Prop}
noncomputable abbrev testsM (ifs : List Expr) (env : Env) : Sem Bool := forIn ifs true fun c r => if r = true then do let ok ← isTrue c env (eval c env); pure (ForInStep.yield ok) else pure (ForInStep.yield r)
theorem code_comp {elt target iter : Expr} {ifs : List Expr} {scope : Scope} {pos : Pos} {it acc : Value}
    (h : wpAny (model prog w) A (pyNext it) (fun r s₁ => match r with
      | none => R (.ok .next) s₁
      | some v => wpAny (model prog w) A (letOwnedTupleGo target it v) (fun _ s₁' => wpAny (model prog w) A (assign target env v) (fun _ s₂ =>
          wpAny (model prog w) A (testsM ifs env) (fun ok s₃ =>
            if ok = true then wpAny (model prog w) A (eval elt env) (fun x s₄ =>
              wpAny (model prog w) A (call (.builtin "list.append") [acc, x]) (fun _ s₅ => codeAny (model prog w) A (.compLoop (.ListComp elt [⟨target, iter, ifs, 0⟩] scope pos) 0 it acc env) R s₅) (notedBy (model prog w) A env fun e s' => R (.error e) s') s₄) (notedBy (model prog w) A env fun e s' => R (.error e) s') s₃
            else codeAny (model prog w) A (.compLoop (.ListComp elt [⟨target, iter, ifs, 0⟩] scope pos) 0 it acc env) R s₃) (notedBy (model prog w) A env fun e s' => R (.error e) s') s₂) (notedBy (model prog w) A env fun e s' => R (.error e) s') s₁') (notedBy (model prog w) A env fun e s' => R (.error e) s') s₁) (notedBy (model prog w) A env fun e s' => R (.error e) s') s) :
    codeAny (model prog w) A (.compLoop (.ListComp elt [⟨target, iter, ifs, 0⟩] scope pos) 0 it acc env) R s := by
  refine codeAny_of_tree ?_
  show wpAny _ A ((compTurn (.ListComp elt [⟨target, iter, ifs, 0⟩] scope pos) 0 it acc env).onRaise (fun x => do noteFrame x env; theTreesLotGoes x)) _ _ s
  refine wpAny_noted ?_
  rw [compTurn_list]
  refine wpAny_bind (wpAny_standAt (wpAny_bind (wpAny_mono h (fun r s₁ h₁ => ?_) fun _ _ h' => h')))
  cases r with
  | none => exact wpAny_pure h₁
  | some v =>
    refine wpAny_bind (wpAny_mono h₁ (fun _ s₁' h₁' => ?_) fun _ _ h' => h')
    refine wpAny_bind (wpAny_mono h₁' (fun _ s₂ h₂ => wpAny_bind (wpAny_mono h₂ (fun ok s₃ h₃ => ?_) fun _ _ h' => h')) fun _ _ h' => h')
    cases ok with
    | false => exact wpAny_pure ⟨rfl, h₃⟩
    | true =>
      exact wpAny_bind (wpAny_bind (wpAny_mono h₃ (fun x s₄ h₄ => wpAny_bind (wpAny_mono h₄ (fun _ s₅ h₅ => wpAny_pure (wpAny_pure ⟨rfl, h₅⟩)) fun _ _ h' => h')) fun _ _ h' => h'))
end
section
variable {c : Cx} {S scope : Scope} {n : Nat} {σ σ' σ₁ σ₂ σ₃ σ₄ : St} {X Y Z : V} {e l r t test target iter fn elt : Expr} {es ifs : List Expr} {Xs : List V} {pos tpos : Pos} {x y : Str} {f : Fm} {ω : Om} {s : Shared}
theorem ifs_run {σ : St} {b : Bool} {Q : Bool → Shared → Prop} {E : Value → Shared → Prop} (h : IfsB c S n ifs σ b) (F : FmOk c S n f) (R : RelE c n f ω σ s) (k : ∀ ω' s', Ext (n + 1) ω ω' → RelE c n f ω' σ s' → Q b s') : wpAny (model c.prog c.w) f.A (testsM ifs f.env) Q E s := by
  match ifs, h with
  | [], h => cases h; exact wpAny_tests_nil (k ω s (.refl ..) R)
  | [e], h => exact wpAny_tests_one (h f F ω s _ _ R k)
theorem acc_append {C Da : Addr} {m : Str → Option Value} {M2 kp : Led} {vs : List Value} {k : Nat} {v : Value} {Q : Value → Shared → Prop} {E : Value → Shared → Prop} (hS : S.kind = .function) (F : FmOk c S n f) (ok : CompOk S scope x)
    (R : RelE c n ((f.comp scope C m Da (listOf vs.toArray k) M2).more kp) ω σ s) (hsz : vs.length ≤ 10000)
    (h : ∀ s', RelE c n ((f.comp scope C m Da (listOf (vs ++ [v]).toArray (k + 1)) M2).more kp) ω σ s' → Q .none s') : wpAny (model c.prog c.w) f.A (call (.builtin "list.append") [.ref Da, v]) Q E s := by
  obtain ⟨m', Mc, Mh, FR, r⟩ := R
  have eL : ∀ o, Mc ++ (Mh ++ (ω.Z ++ (FR ++ ((f.comp scope C m Da o M2).more kp).keep))) = (Mc ++ (Mh ++ (ω.Z ++ (FR ++ kp)))) ++ (Da, o) :: (M2 ++ f.keep) := fun o => by simp only [Fm.more, Fm.comp, List.append_assoc, List.cons_append]
  obtain ⟨o1, o2⟩ := off_pre (eL _ ▸ r.nd)
  refine append_K r.fr (eL _ ▸ r.nw) (upd_of o1 o2) (fun h' F' N' => ?_) (by rw [List.size_toArray]; exact Nat.le_trans hsz (by decide))
  have e3 : vs.toArray.push v = (vs ++ [v]).toArray := by simp
  rw [e3] at N'
  refine h _ ⟨m', Mc, Mh, FR, ⟨F', ?_, ?_, r.frs, r.cells, r.cinj, r.heap, fun y Y hy hl => ?_, r.gens, r.drawn, r.os⟩⟩
  · have := eL (listOf (vs ++ [v]).toArray (k + 1))
    rw [this]; exact N'
  · have z := r.nd
    rw [eL] at z ⊢
    simp only [List.map_append, List.map_cons] at z ⊢
    exact z
  · cases r.locs y Y hy hl with
    | loc a b d => exact .loc a b d
    | cell a b d e g => exact .cell a b d e g
    | free a b d e g =>
      exfalso
      have a' : (relS scope S).names.lookup y = some .free := by rw [← relabel_eq F.scope]; exact a
      rcases relS_var hS ok (y := y) (by rw [a']; rfl) with ⟨h', _⟩ | h'
      · rw [h'] at a'; cases a'
      · rw [(relS_cap hS ok h').1] at a'; cases a'
theorem comp_head {pin : Led} {C Da I : Addr} {m : Str → Option Value} {M2 : Led} {wr : List Addr} {N : Nat} {T : Nat → Om → Heap → Prop} {It : Nat → V} {p : Pos} {b : Bool} {i : Nat} {R : Result → Shared → Prop} {acc : Obj} {loc : List (Nat × V)} (hS : S.kind = .function) (F : FmOk c S n f) (ok : CompOk S scope x) (hd : lk (key dot0) σ.loc = none) (hpin : PinsIn pin σ.heap)
    (W : Itr c f.A n I wr pin (.Name x p) N T It) (hi : i < N) (e0 : It i = X) (h1 : IfsB c (relS scope S) n ifs ⟨(key x, X) :: σ.loc, σ.heap⟩ b)
    (B : Beside c n (f.comp scope C m Da acc M2) wr ω ⟨loc, σ.heap⟩ s) (t : T i ω s.heap) (hloc : ∀ y, Cap scope y → lk (key y) loc = lk (key y) σ.loc)
    (h : ∀ ω' s' kp', kp'.map (·.1) = wr → Ext (n + 1) ω ω' → RelE c n ((f.comp scope C m Da acc M2).more kp') ω' ⟨(key x, X) :: σ.loc, σ.heap⟩ s' →
      (∀ ω'' s'' acc', Ext (n + 1) ω' ω'' → RelE c n ((f.comp scope C m Da acc' M2).more kp') ω'' ⟨(key x, X) :: σ.loc, σ.heap⟩ s'' → T (i + 1) ω'' s''.heap) →
      if b = true then wpAny (model c.prog c.w) f.A (eval elt (compEnvC scope (closL f.env.cells scope.names []) C f.env)) (fun xv s₄ =>
              wpAny (model c.prog c.w) f.A (call (.builtin "list.append") [.ref Da, xv]) (fun _ s₅ => codeAny (model c.prog c.w) f.A (.compLoop (.ListComp elt [⟨.Name x p, iter, ifs, 0⟩] scope pos) 0 (.ref I) (.ref Da) (compEnvC scope (closL f.env.cells scope.names []) C f.env)) R s₅) (notedBy (model c.prog c.w) f.A (compEnvC scope (closL f.env.cells scope.names []) C f.env) fun e s' => R (.error e) s') s₄) (notedBy (model c.prog c.w) f.A (compEnvC scope (closL f.env.cells scope.names []) C f.env) fun e s' => R (.error e) s') s'
      else codeAny (model c.prog c.w) f.A (.compLoop (.ListComp elt [⟨.Name x p, iter, ifs, 0⟩] scope pos) 0 (.ref I) (.ref Da) (compEnvC scope (closL f.env.cells scope.names []) C f.env)) R s') :
    codeAny (model c.prog c.w) f.A (.compLoop (.ListComp elt [⟨.Name x p, iter, ifs, 0⟩] scope pos) 0 (.ref I) (.ref Da) (compEnvC scope (closL f.env.cells scope.names []) C f.env)) R s := by
  have xl : (relS scope S).names.lookup x = some .local := by rw [relS_lookup, ok.x]; rfl
  obtain ⟨kp, ek, R0⟩ := B
  subst ek
  have FC := F.comp (C := C) (m := m) (D := Da) (acc := acc) (M2 := M2) hS ok
  refine code_comp (wpAny_mono (W.step i ω s (fun v s₂ => wpAny (model c.prog c.w) f.A (assign (.Name x p) (compEnvC scope (closL f.env.cells scope.names []) C f.env) v) (fun _ s₂ =>
          wpAny (model c.prog c.w) f.A (testsM ifs (compEnvC scope (closL f.env.cells scope.names []) C f.env)) (fun ok s₃ =>
            if ok = true then wpAny (model c.prog c.w) f.A (eval elt (compEnvC scope (closL f.env.cells scope.names []) C f.env)) (fun xv s₄ =>
              wpAny (model c.prog c.w) f.A (call (.builtin "list.append") [.ref Da, xv]) (fun _ s₅ => codeAny (model c.prog c.w) f.A (.compLoop (.ListComp elt [⟨.Name x p, iter, ifs, 0⟩] scope pos) 0 (.ref I) (.ref Da) (compEnvC scope (closL f.env.cells scope.names []) C f.env)) R s₅) (notedBy (model c.prog c.w) f.A (compEnvC scope (closL f.env.cells scope.names []) C f.env) fun e s' => R (.error e) s') s₄) (notedBy (model c.prog c.w) f.A (compEnvC scope (closL f.env.cells scope.names []) C f.env) fun e s' => R (.error e) s') s₃
            else codeAny (model c.prog c.w) f.A (.compLoop (.ListComp elt [⟨.Name x p, iter, ifs, 0⟩] scope pos) 0 (.ref I) (.ref Da) (compEnvC scope (closL f.env.cells scope.names []) C f.env)) R s₃) (notedBy (model c.prog c.w) f.A (compEnvC scope (closL f.env.cells scope.names []) C f.env) fun e s' => R (.error e) s') s₂) (notedBy (model c.prog c.w) f.A (compEnvC scope (closL f.env.cells scope.names []) C f.env) fun e s' => R (.error e) s') s₂) _ hi t fun l v h' tk g1 g2 gv gt gk => ?_) (fun r s₁ q => ?_) fun _ _ x => x)
  · obtain ⟨kp', ek', hk'⟩ := live_list (W.live _ _ _ gt)
    have R1 := RelE.turn (kp' := kp') (tk := tk) FC R0 gk (by rw [ek']; exact List.Sublist.refl _) hk' g1 g2
    have X1 : Ext (n + 1) ω { ω with Z := l ++ ω.Z } := Ext.frz _ ω l
    refine wpAny_assign_Name (store_name (FC.more kp') R1 (.inl xl) (e0 ▸ gv) (fun s₂ R₂ => ?_) (FC.cellsOk x))
    have R3 := R₂.reloc (loc' := (key x, X) :: σ.loc) fun y Y hy hl => by
      have hy' : isVar ((relS scope S).names.lookup y) = true := by rw [← relabel_eq F.scope]; exact hy
      have hl' : (bif key x == key y then some X else lk (key y) σ.loc) = some Y := hl
      show (bif key x == key y then some X else lk (key y) loc) = some Y
      cases q : (key x == key y) with
      | true => rw [q] at hl'; exact hl'
      | false =>
        rw [q] at hl'
        rcases relS_var hS ok hy' with ⟨_, rfl | rfl⟩ | hc
        · simp at q
        · have hl' : lk (key dot0) σ.loc = some Y := hl'
          rw [hd] at hl'; cases hl'
        · exact (hloc y hc).trans hl'
    refine ifs_run h1 (FC.more kp') R3 fun ω₄ s₄ e₄ R₄ => h ω₄ s₄ kp' ek' (X1.trans e₄) R₄ fun ω₅ s₅ acc' e₅ R₅ => ?_
    refine W.frame _ _ _ _ _ _ gt (e₄.trans e₅) fun b o hb hbo => ?_
    rcases hb with hb | hb | hb
    · obtain ⟨m, Mc, Mh, FR, r⟩ := R₅
      rw [← ek'] at hb
      obtain ⟨p, hp, rfl⟩ := List.mem_map.mp hb
      have z := r.nw p (List.mem_append_right _ (List.mem_append_right _ (List.mem_append_right _ (List.mem_append_right _ (List.mem_append_left _ hp)))))
      have y := hk' p hp
      have : some o = some p.2 := hbo.symm.trans y
      cases this; exact z.1
    · have y := R1.fz hb
      have z := R₅.fz ((e₄.trans e₅).fz _ _ hb)
      exact (hbo.symm.trans y) ▸ z
    · exact R₅.pin hpin hb
  · cases r with
    | none => exact q.elim
    | some v => exact q
theorem comp_loop {pin : Led} {C Da I : Addr} {m : Str → Option Value} {M2 : Led} {wr : List Addr} {N : Nat} {T : Nat → Om → Heap → Prop} {It : Nat → V} {p : Pos} {ds : List D} (hS : S.kind = .function) (F : FmOk c S n f) (ok : CompOk S scope x) (hd : lk (key dot0) σ.loc = none) (hpin : PinsIn pin σ.heap)
    (W : Itr c f.A n I wr pin (.Name x p) N T It) (hC : CompIs c (relS scope S) n ifs elt x σ Xs ds) : ∀ i, i + Xs.length = N → (∀ j X, Xs[j]? = some X → It (i + j) = X) → ∀ (ω : Om) s R (loc : List (Nat × V)) (done : List D) (vs : List Value) (k : Nat), done.length + Xs.length ≤ 10000 →
    DRs c.hs (fz c ω) done vs → Beside c n (f.comp scope C m Da (listOf vs.toArray k) M2) wr ω ⟨loc, σ.heap⟩ s → T i ω s.heap → (∀ y, Cap scope y → lk (key y) loc = lk (key y) σ.loc) →
    (∀ ω' s' loc' vs' k' kp', Ext (n + 1) ω ω' → RelE c n ((f.comp scope C m Da (listOf vs'.toArray k') M2).more kp') ω' ⟨loc', σ.heap⟩ s' → (∀ y, Cap scope y → lk (key y) loc' = lk (key y) σ.loc) → DRs c.hs (fz c ω') (done ++ ds) vs' → R (.ok .next) s') →
    codeAny (model c.prog c.w) f.A (.compLoop (.ListComp elt [⟨.Name x p, iter, ifs, 0⟩] scope pos) 0 (.ref I) (.ref Da) (compEnvC scope (closL f.env.cells scope.names []) C f.env)) R s := by
  have xl : (relS scope S).names.lookup x = some .local := by rw [relS_lookup, ok.x]; rfl
  have nokey : ∀ y, Cap scope y → key y ≠ key x := fun y hy e => by
    have e := ok.keys y x (by rw [(relS_cap hS ok hy).1]; rfl) (by rw [xl]; rfl) e
    subst e
    rw [(relS_cap hS ok hy).1] at xl; cases xl
  have inv2 : ∀ X y, Cap scope y → lk (key y) ((key x, X) :: σ.loc) = lk (key y) σ.loc := fun X y hy => by
    show (bif key x == key y then some X else lk (key y) σ.loc) = _
    rw [show (key x == key y) = false by simpa using fun e => nokey y hy e.symm]; rfl
  induction hC with
  | nil =>
    intro i hi hX ω s R loc done vs k hlen hds B t hloc h
    obtain ⟨kp, ek, R0⟩ := B
    have e : i = N := by simpa using hi
    subst e
    refine code_comp (wpAny_mono (W.done ω s (fun s' => R (.ok .next) s') _ t fun h' tk hk => ?_) (fun r s₁ q => ?_) fun _ _ x => x)
    · subst ek
      have R2 := RelE.turn (kp' := []) (l := []) (tk := tk) (F.comp (C := C) (m := m) (D := Da) (acc := listOf vs.toArray k) (M2 := M2) hS ok) R0 hk (List.nil_sublist _) (fun _ h => nomatch h) (fun _ h => nomatch h) List.nodup_nil
      refine h ω _ loc vs k _ (.refl ..) R2 hloc (by rw [List.append_nil]; exact hds)
    · cases r with
      | none => exact q
      | some v => exact q.elim
  | @skip X Xs ds h1 h2 ih =>
    intro i hi hX ω s R loc done vs k hlen hds B t hloc h
    have e0 : It i = X := hX 0 X rfl
    rw [List.length_cons] at hi hlen
    refine comp_head hS F ok hd hpin W (by lia) e0 h1 B t hloc fun ω₁ s₁ kp₁ ek₁ e₁ R₁ ht => ?_
    simp only [Bool.false_eq_true, if_false]
    exact ih (i + 1) (by lia) (fun j Y hj => by rw [Nat.add_assoc, Nat.add_comm 1 j]; exact hX (j + 1) Y (by simpa using hj)) ω₁ s₁ R _ done vs k (by lia) (hds.mono e₁.fz) ⟨kp₁, ek₁, R₁⟩ (ht ω₁ s₁ _ (.refl ..) R₁) (inv2 X) fun ω' s' loc' vs' k' kp' e' => h ω' s' loc' vs' k' kp' (e₁.trans e')
  | @take X d Xs ds h1 h2 h3 ih =>
    intro i hi hX ω s R loc done vs k hlen hds B t hloc h
    have e0 : It i = X := hX 0 X rfl
    rw [List.length_cons] at hi hlen
    refine comp_head hS F ok hd hpin W (by lia) e0 h1 B t hloc fun ω₁ s₁ kp₁ ek₁ e₁ R₁ ht => ?_
    simp only [if_true]
    have FC := F.comp (C := C) (m := m) (D := Da) (acc := listOf vs.toArray k) (M2 := M2) hS ok
    refine h2 _ (FC.more kp₁) ω₁ s₁ _ _ R₁ fun ω₂ v s₂ e₂ R₂ A₂ => ?_
    cases A₂ with
    | d A₂ =>
      refine acc_append hS F ok R₂ (by rw [hds.length]; lia) fun s₃ R₃ => ?_
      have hds' : DRs c.hs (fz c ω₂) (done ++ [d]) (vs ++ [v]) := (hds.mono (e₁.trans e₂).fz).append (.cons A₂ .nil)
      refine ih (i + 1) (by lia) (fun j Y hj => by rw [Nat.add_assoc, Nat.add_comm 1 j]; exact hX (j + 1) Y (by simpa using hj)) ω₂ s₃ R _ (done ++ [d]) (vs ++ [v]) (k + 1) (by rw [List.length_append, List.length_singleton]; lia) hds' ⟨kp₁, ek₁, R₃⟩ (ht ω₂ s₃ _ e₂ R₃) (inv2 X) fun ω' s' loc' vs' k' kp' e' R' hl' hd' => h ω' s' loc' vs' k' kp' ((e₁.trans e₂).trans e') R' hl' (by rw [List.append_assoc] at hd'; exact hd')
end
end Mine
namespace Mine
open PySem PySem.W PyProof.Rows PySem.Calls PySem.Spec
section
variable {c : Cx} {S scope : Scope} {n : Nat} {σ σ' σ₁ σ₂ σ₃ σ₄ : St} {X Y Z : V} {e l r t test target iter fn elt : Expr} {es ifs : List Expr} {Xs : List V} {pos tpos : Pos} {x y : Str} {f : Fm} {ω : Om} {s : Shared} {ds : List D} {p : Pos}
theorem comp_at {pin : Led} {Q : Value → Shared → Prop} {E : Value → Shared → Prop} (F : FmOk c S n f) (h1 : ∀ (Q : Value → Shared → Prop) E, (∀ ω' I s' wr T It, Ext (n + 1) ω ω' → Beside c n f wr ω' σ₁ s' → Itr c f.A n I wr pin (.Name x p) Xs.length T It → (∀ j X, Xs[j]? = some X → It j = X) → T 0 ω' s'.heap → Q (.ref I) s') →
      wpAny (model c.prog c.w) f.A (eval iter f.env) (fun x s₁ => wpAny (model c.prog c.w) f.A (pyIter x) Q E s₁) E s)
    (h2 : CompIs c (relS scope S) n ifs elt x σ₁ Xs ds) (hok : compOk S scope x = true) (hd : lk (key dot0) σ₁.loc = none) (hlen : Xs.length ≤ 10000) (hs : notSet iter = true) (hpin : PinsIn pin σ₁.heap)
    (h : ∀ ω' v s', Ext (n + 1) ω ω' → RelE c n f ω' σ₁ s' → VR c n ω' (.d (.lst ds)) v → Q v s') : wpAny (model c.prog c.w) f.A (eval (.ListComp elt [⟨.Name x p, iter, ifs, 0⟩] scope pos) f.env) Q E s := by
  have ok := comp_ok hok
  rw [eval_ListComp]
  refine wpAny_comprehension_free (use := none) rfl (fun x => folded_no hs) (closure_eq fun p hp hf => ?_) ok.kind (fun p hp hl => (ok.loc p hp hl).1) (h1 _ _ fun ω₁ I s₁ wr T It e₁ B W hI t => ?_)
  · obtain ⟨a, ha⟩ := F.cellsOk p.1 (ok.free p hp hf).1
    exact ⟨a, ha⟩
  · obtain ⟨kp, ek, R₁⟩ := B
    obtain ⟨m, Mc, Mh, FR, r⟩ := id R₁
    refine wpAny_newObj_type (wpAny_newFunctionEnv ok.nocell (by intro y hy; simp at hy) (fun h₁ hns₁ hsb₁ => ?_) ok.kind)
    have R₂ := comp_enter (tk := s₁.toks + ([] : List (Str × Value)).length) F.kind F ok r (acc := listOf (#[] : Array Value) 0) rfl hns₁ hsb₁
    have tI : T 0 ω₁ h₁ := W.frame 0 0 ω₁ ω₁ s₁.heap h₁ t (.refl ..) fun b o hb e => by
      have e2 : (s₁.heap.push (listOf (#[] : Array Value) 0)).get? b = some o := Heap.get?_push_of_some _ e
      exact hsb₁.extBut b o (Nat.ne_of_lt (Heap.lt_size e2)) (Heap.get?_push_of_some _ e2)
    have run : ∀ s₂ : Shared, s₂ = { s₁ with heap := h₁, toks := s₁.toks + ([] : List (Str × Value)).length } → codeAny (model c.prog c.w) f.A (.compLoop (.ListComp elt [⟨.Name x p, iter, ifs, 0⟩] scope pos) 0 (.ref I) (.ref s₁.heap.objs.size) (compEnvC scope (closL f.env.cells scope.names []) (s₁.heap.push (listOf (#[] : Array Value) 0)).objs.size f.env))
        (compPost (model c.prog c.w) f.A E none Q (.ref s₁.heap.objs.size) (s₁.heap.push (listOf (#[] : Array Value) 0)).objs.size) s₂ := by
      rintro s₂ rfl
      refine comp_loop F.kind F ok hd hpin W h2 0 (Nat.zero_add _) (fun j X hj => by rw [Nat.zero_add]; exact hI j X hj) ω₁ _ _ (capL scope σ₁.loc) [] [] 0 (by simpa using hlen) .nil ⟨kp, ek, R₂⟩ tI (fun y hy => capL_cap hy) fun ω' s' loc' vs' k' kp' e' R' hl' hd' => ?_
      have e2 : Ext (n + 1) ω₁ ω' := e'
      obtain ⟨m', _, _, _, r'⟩ := id R'
      refine ⟨m', r'.fr.ns, fun h'' hs'' => ?_⟩
      have R₃ := comp_leave (tk := s'.toks) F.kind F ok r R' e' hl' hs''
      refine h { ω' with Z := (s₁.heap.objs.size, listOf vs'.toArray k') :: ω'.Z } _ _ (e₁.trans (e'.trans (Ext.frz _ ω' [_]))) R₃ (.d ?_)
      exact .lst (o := listOf vs'.toArray k') (n := k') (.inl (.head _)) rfl rfl (hd'.mono (Ext.frz 0 ω' [_]).fz)
    exact codeAny_compStart_list (run _ rfl) (W.self 0 ω₁ _ _ _ tI (run _ rfl))
theorem ev_comp {pin : Led} (h1 : EvIt c S n iter (.Name x p) pin σ Xs σ₁) (h2 : CompIs c (relS scope S) n ifs elt x σ₁ Xs ds) (hok : compOk S scope x = true) (hd : lk (key dot0) σ₁.loc = none) (hlen : Xs.length ≤ 10000) (hs : notSet iter = true := by rfl) (hpin : PinsIn pin σ₁.heap := by exact pins_nil) :
    Ev c S n (.ListComp elt [⟨.Name x p, iter, ifs, 0⟩] scope pos) σ (.d (.lst ds)) σ₁ := fun f F ω s Q E R h =>
  comp_at F (fun Q E k => h1 f F ω s Q E R k) h2 hok hd hlen hs hpin h
end
end Mine
namespace Mine
open PySem PySem.W PyProof.Rows PySem.Calls PySem.Spec
noncomputable def toDs : List V → Option (List D)
  | [] => some []
  | .d d :: Xs => match toDs Xs with
    | some ds => some (d :: ds)
    | none => none
  | _ :: _ => none
theorem toDs_map {Xs : List V} {ds : List D} (h : toDs Xs = some ds) : Xs = ds.map V.d := by
  induction Xs generalizing ds with
  | nil => cases h; rfl
  | cons X Xs ih =>
    cases X with
    | d d =>
      unfold toDs at h
      cases q : toDs Xs with
      | none => rw [q] at h; cases h
      | some l => rw [q] at h; cases h; rw [ih q]; rfl
    | _ => cases h
theorem VRs.toD {c : Cx} {n : Nat} {ω : Om} {ds : List D} {vs : List Value} (h : VRs c n ω (ds.map V.d) vs) : DRs c.hs (fz c ω) ds vs := by
  induction ds generalizing vs with
  | nil => cases h; exact .nil
  | cons d ds ih => cases h with | cons a b => cases a with | d a => exact .cons a (ih b)
section
variable {c : Cx} {S : Scope} {n : Nat} {σ σ' σ₁ σ₂ σ₃ σ₄ : St} {X Y Z : V} {e l r t test target iter fn : Expr} {es : List Expr} {Xs : List V} {pos tpos : Pos} {st : Stmt} {sts : List Stmt} {fl fl' : Fl} {x y : Str} {body orelse : List Stmt} {i : Nat} {ds ds' : List D} {d d' : D}
theorem sz {k : Nat} (h : k ≤ 10000) : k ≤ sizeLine := Nat.le_trans h (by decide)
theorem op_tuple (hd : toDs Xs = some ds := by rfl) (hl : ds.length ≤ 10000 := by exact Nat.le_of_ble_eq_true rfl) : OpN c n newTuple Xs σ (.d (.tup ds)) σ := fun S f F ω s Q E vs R A h => by
  obtain ⟨m, Mc, Mh, FR, r⟩ := R
  rw [toDs_map hd] at A
  have A' := A.toD
  refine newTuple_N r.fr r.nw (fun h' F' N' => ?_) (sz (by rw [A'.length]; exact hl))
  have e := Ext.frz (n + 1) ω [(s.heap.objs.size, ({ cls := .type "tuple", data := .seq vs.toArray } : Obj))]
  refine h _ _ _ e ⟨m, Mc, Mh, FR, r.frz (k := s.toks) F' N' r.lt⟩ (.d ?_)
  exact .tup (n := 0) (.inl (.head _)) rfl rfl (A'.mono e.fz)
theorem op_list (hd : toDs Xs = some ds := by rfl) (hl : ds.length ≤ 10000 := by exact Nat.le_of_ble_eq_true rfl) : OpN c n newList Xs σ (.d (.lst ds)) σ := fun S f F ω s Q E vs R A h => by
  obtain ⟨m, Mc, Mh, FR, r⟩ := R
  rw [toDs_map hd] at A
  have A' := A.toD
  refine newList_N r.fr r.nw (fun h' F' N' => ?_) (sz (by rw [A'.length]; exact hl))
  have e := Ext.frz (n + 1) ω [(s.heap.objs.size, ({ cls := .type "list", data := .seq vs.toArray } : Obj))]
  refine h _ _ _ e ⟨m, Mc, Mh, FR, r.frz (k := s.toks) F' N' r.lt⟩ (.d ?_)
  exact .lst (n := 0) (.inl (.head _)) rfl rfl (A'.mono e.fz)
theorem RelE.grow {f : Fm} {ω : Om} {s : Shared} {h' : Heap} {k : Tok} (R : RelE c n f ω σ s) (hk : ∀ b o, s.heap.get? b = some o → h'.get? b = some o) : RelE c n f ω σ { s with heap := h', toks := k } := by
  have z := RelE.fresh (kp := []) (k := k) R hk (fun _ h => nomatch h) List.nodup_nil
  rwa [more_nil] at z
inductive Ass (c : Cx) (S : Scope) (n : Nat) : List Expr → List D → St → St → Prop
  | nil {σ : St} : Ass c S n [] [] σ σ
  | cons {t : Expr} {ts : List Expr} {d : D} {ds : List D} {σ σ₁ σ₂ : St} : notStar t = true → As c S n t (.d d) σ σ₁ → Ass c S n ts ds σ₁ σ₂ → Ass c S n (t :: ts) (d :: ds) σ σ₂
theorem assignEach_plain {t : Expr} {ts : List Expr} {env : Env} (h : notStar t = true) : assignEach (t :: ts) env = (false, assign t env) :: assignEach ts env := by
  cases t <;> first | rfl | cases h
theorem ass_shape {ts : List Expr} (h : Ass c S n ts ds σ σ') (env : Env) : (assignEach ts env).length = ds.length ∧ (assignEach ts env).findIdx? (·.1) = none := by
  induction h with
  | nil => exact ⟨rfl, rfl⟩
  | cons hs _ _ ih => rw [assignEach_plain hs]; simp [ih.1, List.findIdx?_cons, ih.2]
theorem ass_run {ts : List Expr} (h : Ass c S n ts ds σ σ') : ∀ f, FmOk c S n f → ∀ ω s (Q : Unit → Shared → Prop) E vs, RelE c n f ω σ s → DRs c.hs (fz c ω) ds vs →
    (∀ ω' s', Ext n ω ω' → RelE c n f ω' σ' s' → Q () s') → wpAny (model c.prog c.w) f.A (assignInOrder ((assignEach ts f.env).map (·.2)) vs) Q E s := by
  induction h with
  | nil =>
    intro f F ω s Q E vs R A h
    cases A
    exact wpAny_pure (h ω s (.refl ..) R)
  | @cons t ts d ds σ σ₁ σ₂ hs h1 h2 ih =>
    intro f F ω s Q E vs R A h
    cases A with
    | @cons _ v _ vs a b =>
      rw [assignEach_plain hs]
      show wpAny _ _ (do holding vs (assign t f.env v); assignInOrder ((assignEach ts f.env).map (·.2)) vs) Q E s
      exact wpAny_bind (wpAny_holding (h1 f F ω s _ _ v R (.d a) fun ω₁ s₁ e₁ R₁ => ih f F ω₁ s₁ Q E vs R₁ (b.mono e₁.fz) fun ω₂ s₂ e₂ R₂ => h ω₂ s₂ (e₁.trans e₂) R₂))
theorem as_tup {k : Nat} {ts : List Expr} (hc : c.calm = true) (h : Ass c S n ts ds σ σ') : As c S n (.Tuple ts k pos) (.d (.tup ds)) σ σ' := fun f F ω s Q E v R A h' => by
  cases A with
  | d A =>
    cases A with
    | @tup a o vs k' _ hz hoc hod hds =>
      have ho := R.fz hz
      obtain ⟨s1, s2⟩ := ass_shape h f.env
      refine assign_Tuple_tuple (F.hand hc) (items := vs.toArray) ⟨o, ho, hoc, k', hod⟩ (by rw [s1, List.size_toArray, hds.length]) s2 fun h₁ he => ?_
      refine ass_run h f F ω _ Q E vs (R.grow (h' := h₁) (k := s.toks) fun b o e => he b o (Nat.ne_of_lt (Heap.lt_size e)) e) hds h'
end
end Mine
namespace Mine
open PySem PySem.W PyProof.Rows PySem.Calls PySem.Spec
noncomputable def EvP (c : Cx) (S : Scope) (n : Nat) : Option Expr → St → Option Int → St → Prop
  | none, σ, p, σ' => p = none ∧ σ' = σ
  | some e, σ, p, σ' => ∃ i, p = some i ∧ Ev c S n e σ (.d (.int i)) σ'
noncomputable def sliceS (x : Str) (l u st : Option Int) : Str :=
  if (st.getD 1 == 1 && (PySem.Builtin.Str.strSliceIndices l u (st.getD 1) x.length).length == x.length) = true then x else ⟨((PySem.Builtin.Str.strSliceIndices l u (st.getD 1) x.length).filterMap (x.cps[·]?)).toArray⟩
noncomputable def sliceD (l : List D) (lo hi st : Option Int) : List D :=
  (sliceRange (sliceBounds lo hi st l.length).1 (sliceBounds lo hi st l.length).2.1 (sliceBounds lo hi st l.length).2.2).filterMap (l[·]?)
theorem DRs.none {κ : Str → Int} {Z : Fz} {l : List D} {vs : List Value} (h : DRs κ Z l vs) {i : Nat} (hi : l[i]? = none) : vs[i]? = none := by
  have e := h.length
  simp only [List.getElem?_eq_none_iff] at hi ⊢
  lia
theorem DRs.pick {κ : Str → Int} {Z : Fz} {l : List D} {vs : List Value} (h : DRs κ Z l vs) (is : List Nat) : DRs κ Z (is.filterMap (l[·]?)) (is.filterMap (vs[·]?)) := by
  induction is with
  | nil => exact .nil
  | cons i is ih =>
    cases q : l[i]? with
    | none => rw [List.filterMap_cons, List.filterMap_cons, q, h.none q]; exact ih
    | some d =>
      obtain ⟨v, h1, h2⟩ := h.get q
      rw [List.filterMap_cons, List.filterMap_cons, q, h1]; exact .cons h2 ih
section
variable {c : Cx} {S : Scope} {n : Nat} {σ σ' σ₁ σ₂ σ₃ σ₄ : St} {X Y Z : V} {e l r t test target iter fn : Expr} {es : List Expr} {Xs : List V} {pos tpos : Pos} {st : Stmt} {sts : List Stmt} {fl fl' : Fl} {x y : Str} {body orelse : List Stmt} {ds ds' : List D} {d d' : D} {i k : Int} {j : Nat}
theorem evp_run {o : Option Expr} {p : Option Int} (h : EvP c S n o σ p σ') : ∀ f, FmOk c S n f → ∀ ω s (Q : Value → Shared → Prop) E, RelE c n f ω σ s →
    (∀ ω' v s', Ext (n + 1) ω ω' → RelE c n f ω' σ' s' → (∃ u : Option (Int × Tok), u.map (·.1) = p ∧ v = partValue u) → Q v s') → wpAny (model c.prog c.w) f.A (evalPart o f.env) Q E s := by
  intro f F ω s Q E R k
  cases o with
  | none =>
    obtain ⟨rfl, rfl⟩ := h
    rw [evalPart_none]
    exact wpAny_pure (k ω _ s (.refl ..) R ⟨none, rfl, rfl⟩)
  | some e =>
    obtain ⟨i, rfl, h⟩ := h
    rw [evalPart_some]
    refine h f F ω s _ _ R fun ω' v s' e' R' A => k ω' v s' e' R' ?_
    cases A with | d A => cases A with | int _ t => exact ⟨some (i, t), rfl, rfl⟩
theorem ev_slice {lo hi st : Option Expr} {p q u : Option Int} {sp : Pos} (h1 : Ev c S n l σ X σ₁) (h2 : EvP c S n lo σ₁ p σ₂) (h3 : EvP c S n hi σ₂ q σ₃) (h4 : EvP c S n st σ₃ u σ₄)
    (h5 : ∀ S f, FmOk c S n f → ∀ ω s (Q : Value → Shared → Prop) E x a (p' q' u' : Option (Int × Tok)), p'.map (·.1) = p → q'.map (·.1) = q → u'.map (·.1) = u → RelE c n f ω σ₄ s → VR c n ω X x → s.heap.IsSliceOf a (partValue p') (partValue q') (partValue u') →
      (∀ ω' v s', Ext (n + 1) ω ω' → RelE c n f ω' σ₄ s' → VR c n ω' Z v → Q v s') → wpAny (model c.prog c.w) f.A (subscriptTail l (.Slice lo hi st sp) x (.ref a)) Q E s) : Ev c S n (.Subscript l (.Slice lo hi st sp) pos) σ Z σ₄ := fun f F ω s Q E R h => by
  refine Subscript_ (h1 f F ω s _ _ R fun ω₁ x s₁ e₁ R₁ A₁ => wpAny_Slice (evp_run h2 f F ω₁ s₁ _ _ R₁ fun ω₂ v₂ s₂ e₂ R₂ A₂ => evp_run h3 f F ω₂ s₂ _ _ R₂ fun ω₃ v₃ s₃ e₃ R₃ A₃ => evp_run h4 f F ω₃ s₃ _ _ R₃ fun ω₄ v₄ s₄ e₄ R₄ A₄ => ?_))
  obtain ⟨p', g1, rfl⟩ := A₂
  obtain ⟨q', g2, rfl⟩ := A₃
  obtain ⟨u', g3, rfl⟩ := A₄
  have e1 := e₁.trans (e₂.trans (e₃.trans e₄))
  have R5 := R₄.push (o := { cls := .type "slice", data := .fields #[partValue p', partValue q', partValue u'] }) (k := s₄.toks) (by rfl)
  have X5 : Ext (n + 1) ω₄ _ := Ext.frz (n + 1) ω₄ [(s₄.heap.objs.size, ({ cls := .type "slice", data := .fields #[partValue p', partValue q', partValue u'] } : Obj))]
  refine h5 S f F _ _ _ _ x _ p' q' u' g1 g2 g3 R5 ((A₁.ext (e₂.trans (e₃.trans e₄))).ext X5) ⟨_, Heap.get?_push_size _ rfl, rfl, rfl⟩ fun ω' v s' e' R' B => h ω' v s' (e1.trans (X5.trans e')) R' B
theorem ev_slice_str {lo hi st : Option Expr} {p q u : Option Int} {sp : Pos} (h1 : Ev c S n l σ (.d (.str x)) σ₁) (h2 : EvP c S n lo σ₁ p σ₂) (h3 : EvP c S n hi σ₂ q σ₃) (h4 : EvP c S n st σ₃ u σ₄) (h0 : u ≠ some 0) (hlen : (sliceS x p q u).length ≤ 10000)
    (hs : ∀ o i, ∃ ops, subscripted (.Slice lo hi st sp) false o i = operate ops (getItem o i) := by intro o i; exact ⟨_, rfl⟩) : Ev c S n (.Subscript l (.Slice lo hi st sp) pos) σ (.d (.str (sliceS x p q u))) σ₄ := by
  refine ev_slice h1 h2 h3 h4 fun S f F ω s Q E xv a p' q' u' g1 g2 g3 R A hsl h => ?_
  cases A with | d A => cases A with | str _ t =>
  obtain ⟨ops, hs⟩ := hs (.str x t) (.ref a)
  refine tail_any (typeIs_str _ x t) PySem.F.slot_str_getitem.lookup (wpAny_getItem_str_slice (l := p') (u := q') (st := u') hsl ?_ ?_) hs
  · rw [g3]
    cases u with
    | none => rfl
    | some z =>
      have : z ≠ 0 := fun e => h0 (by rw [e])
      simpa using this
  · have e0 : slicePicked x p' q' u' = PySem.Builtin.Str.strSliceIndices p q (u.getD 1) x.length := by unfold slicePicked; rw [g1, g2, g3]
    have fin : ∀ t' k, Q (.str (sliceS x p q u) t') { s with toks := k } := fun t' k => h ω _ _ (.refl ..) R.toks (.d (.str _ _))
    unfold sliceMade
    rw [e0, g3]
    have e2 := fin
    unfold sliceS at e2 hlen
    split
    · rename_i hc; rw [if_pos hc] at e2; exact e2 t s.toks
    · rename_i hc; rw [if_neg hc] at e2 hlen; exact ⟨sz hlen, e2 s.toks (s.toks + 1)⟩
theorem part_is {u : Option (Int × Tok)} {p : Option Int} (h : u.map (·.1) = p) : IsPart (partValue u) p := by
  subst h
  cases u with
  | none => exact .none
  | some z => exact .int z.1 z.2
theorem ev_slice_list {lo hi st : Option Expr} {p q u : Option Int} {sp : Pos} (h1 : Ev c S n l σ (.d (.lst ds)) σ₁) (h2 : EvP c S n lo σ₁ p σ₂) (h3 : EvP c S n hi σ₂ q σ₃) (h4 : EvP c S n st σ₃ u σ₄) (h0 : u ≠ some 0) (hlen : ds.length ≤ 10000)
    (hs : ∀ o i, ∃ ops, subscripted (.Slice lo hi st sp) false o i = operate ops (getItem o i) := by intro o i; exact ⟨_, rfl⟩) : Ev c S n (.Subscript l (.Slice lo hi st sp) pos) σ (.d (.lst (sliceD ds p q u))) σ₄ := by
  refine ev_slice h1 h2 h3 h4 fun S f F ω s Q E xv a p' q' u' g1 g2 g3 R A hsl h => ?_
  cases A with | d A => cases A with | @lst b o vs k _ hz hoc hod hds =>
  obtain ⟨ops, hs⟩ := hs (.ref b) (.ref a)
  have hL : s.heap.IsList b vs.toArray := ⟨o, R.fz hz, hoc, k, hod⟩
  refine tail_any hL.typeIs slot_list_getitem.lookup (wpAny_getItem_list_slice hL hsl (part_is g1) (part_is g2) (part_is g3) h0 ?_ (sz (by rw [List.size_toArray, hds.length]; exact hlen))) hs
  have R5 := R.push (o := { cls := .type "list", data := .seq (slicePick vs.toArray p q u) }) (k := s.toks) (by rfl)
  have X5 : Ext (n + 1) ω _ := Ext.frz (n + 1) ω [(s.heap.objs.size, ({ cls := .type "list", data := .seq (slicePick vs.toArray p q u) } : Obj))]
  refine h _ _ _ X5 R5 (.d ?_)
  have e : slicePick vs.toArray p q u = ((sliceRange (sliceBounds p q u ds.length).1 (sliceBounds p q u ds.length).2.1 (sliceBounds p q u ds.length).2.2).filterMap (vs[·]?)).toArray := by
    unfold slicePick
    rw [List.size_toArray, hds.length]
    simp
  exact .lst (o := { cls := .type "list", data := .seq (slicePick vs.toArray p q u) }) (n := 0) (.inl (.head _)) rfl (by rw [e]) ((hds.pick _).mono X5.fz)
theorem op_item_list (hj : seqIndex? k ds.length = some j) (hd : ds[j]? = some d) (hk : -1000000 ≤ k ∧ k < 1000000) (hs : ∀ o i, ∃ ops, subscripted r false o i = operate ops (getItem o i) := by intro o i; exact ⟨_, rfl⟩) :
    Op2 c n (subscriptTail l r) (.d (.lst ds)) (.d (.int k)) σ (.d d) σ := fun S f F ω s Q E xv yv R A B h => by
  cases A with | d A => cases A with | @lst b o vs kk _ hz hoc hod hds =>
  cases B with | d B => cases B with | int _ t =>
  obtain ⟨ops, hs⟩ := hs (.ref b) (.int k t)
  obtain ⟨v, hv, dv⟩ := hds.get hd
  have hL : s.heap.IsList b vs.toArray := ⟨o, R.fz hz, hoc, kk, hod⟩
  refine tail_any hL.typeIs slot_list_getitem.lookup ?_ hs
  have hsz : vs.toArray.size = ds.length := by rw [List.size_toArray, hds.length]
  unfold seqIndex? at hj
  by_cases hneg : k < 0
  · simp only [hneg, if_true] at hj
    split at hj
    · rename_i hc
      simp only [Bool.and_eq_true, decide_eq_true_eq] at hc
      have e : (k + ds.length).toNat = j := Option.some.inj hj
      exact wpAny_getItem_list_neg hL hneg (by rw [hsz]; lia) (by lia) (by rw [hsz, e]; simpa using hv) (h ω v s (.refl ..) R (.d dv))
    · cases hj
  · simp only [hneg, if_false] at hj
    split at hj
    · have e : k.toNat = j := Option.some.inj hj
      exact wpAny_getItem_list hL (by lia) (by lia) (by rw [e]; simpa using hv) (h ω v s (.refl ..) R (.d dv))
    · cases hj
theorem op_item_tup (hj : seqIndex? k ds.length = some j) (hd : ds[j]? = some d) (hk : -1000000 ≤ k ∧ k < 1000000) (hs : ∀ o i, subscripted r false o i = operate [o, i] (getItem o i) := by intro o i; rfl) :
    Op2 c n (subscriptTail l r) (.d (.tup ds)) (.d (.int k)) σ (.d d) σ := fun S f F ω s Q E xv yv R A B h => by
  cases A with | d A => cases A with | @tup b o vs kk _ hz hoc hod hds =>
  cases B with | d B => cases B with | int _ t =>
  obtain ⟨v, hv, dv⟩ := hds.get hd
  exact item_tupleT ⟨o, R.fz hz, hoc, kk, hod⟩ (by lia) (by lia) (by rw [hds.length]; exact hj) hv (h ω v s (.refl ..) R (.d dv)) (hs _ _)
theorem op_item_str {ch : Nat} (hc : (seqIndex? k x.length).bind (x.cps[·]?) = some ch) (hk : -1000000 ≤ k ∧ k < 1000000) (hs : ∀ o i, ∃ ops, subscripted r false o i = operate ops (getItem o i) := by intro o i; exact ⟨_, rfl⟩) :
    Op2 c n (subscriptTail l r) (.d (.str x)) (.d (.int k)) σ (.d (.str ⟨#[ch]⟩)) σ := fun S f F ω s Q E xv yv R A B h => by
  cases A with | d A => cases A with | str _ t =>
  cases B with | d B => cases B with | int _ u =>
  obtain ⟨ops, hs⟩ := hs (.str x t) (.int k u)
  exact tail_any (typeIs_str _ x t) PySem.F.slot_str_getitem.lookup (getItem_str (by simp only [Bool.or_eq_false_iff, decide_eq_false_iff_not]; lia) hc (h ω _ _ (.refl ..) R.toks (.d (.str _ _)))) hs
end
end Mine
namespace Mine
open PySem PySem.W PyProof.Rows PySem.Calls PySem.Spec
noncomputable def delH (i : Nat) : List (Nat × HO) → List (Nat × HO)
  | [] => []
  | (k, x) :: l => bif k == i then l else (k, x) :: delH i l
section
variable {c : Cx} {S : Scope} {n : Nat} {σ σ' σ₁ σ₂ σ₃ σ₄ : St} {X Y Z : V} {e l r t test target iter fn : Expr} {es : List Expr} {Xs : List V} {pos tpos apos : Pos} {st : Stmt} {sts : List Stmt} {fl fl' : Fl} {x y : Str} {body orelse : List Stmt} {ds ds' : List D} {d d' : D} {i : Nat} {ho : HO}
theorem VRs.two {ω : Om} {vs : List Value} (h : VRs c n ω [X, Y] vs) : ∃ x y, vs = [x, y] ∧ VR c n ω X x ∧ VR c n ω Y y := by
  cases h with | cons a b => cases b with | cons b c => cases c; exact ⟨_, _, rfl, a, b⟩
theorem VRs.one {ω : Om} {vs : List Value} (h : VRs c n ω [X] vs) : ∃ x, vs = [x] ∧ VR c n ω X x := by
  cases h with | cons a b => cases b; exact ⟨_, rfl, a⟩
theorem VR.toObj {ω : Om} {v : Value} (h : VR c n ω (.obj i) v) : ∃ a, v = .ref a ∧ i < (n + 1) * 1000 ∧ ω.ρ i = some a := by
  cases h with | obj a b => exact ⟨_, rfl, a, b⟩
theorem VR.toD {ω : Om} {v : Value} (h : VR c n ω (.d d) v) : DR c.hs (fz c ω) d v := by
  cases h with | d a => exact a
noncomputable def Fresh (i n : Nat) (σ : St) : Prop := n * 1000 ≤ i ∧ i < (n + 1) * 1000 ∧ lk i σ.heap = none ∧ ∀ k X, lk k σ.loc = some X → X.avoids i = true
theorem RelE.alloc {f : Fm} {ω : Om} {s : Shared} {o : Obj} {tk : Tok} (R : RelE c n f ω σ s) (hf : o.isFreed = false) (hi : Fresh i n σ)
    (hH : HOR c.hs (Mine.fz c ω) ho s.heap.objs.size [(s.heap.objs.size, o)]) : RelE c n f (ω.put i s.heap.objs.size) ⟨σ.loc, (i, ho) :: σ.heap⟩ { s with heap := s.heap.push o, toks := tk } := by
  obtain ⟨m, Mc, Mh, FR, r⟩ := R
  have N := r.nw.push r.fr o hf
  have perm : (Mc ++ (([(s.heap.objs.size, o)] ++ Mh) ++ (ω.Z ++ (FR ++ f.keep)))).Perm ((s.heap.objs.size, o) :: (Mc ++ (Mh ++ (ω.Z ++ (FR ++ f.keep))))) := by
    have e1 : Mc ++ (([(s.heap.objs.size, o)] ++ Mh) ++ (ω.Z ++ (FR ++ f.keep))) = Mc ++ ((s.heap.objs.size, o) :: (Mh ++ (ω.Z ++ (FR ++ f.keep)))) := by simp only [List.append_assoc, List.cons_append, List.nil_append]
    rw [e1]; exact List.perm_middle
  refine ⟨m, Mc, [(s.heap.objs.size, o)] ++ Mh, FR, ⟨r.fr.push o, fun p hp => N p (perm.subset hp), ?_, r.frs, r.cells, r.cinj, .cons Om.put_self hH (r.heap.put hi.2.2.1), fun y Y hy hl => ?_, r.gens, r.drawn, r.os⟩⟩
  · show ((Mc ++ (([(s.heap.objs.size, o)] ++ Mh) ++ (ω.Z ++ (FR ++ f.keep)))).map (·.1)).Nodup
    rw [(perm.map (·.1)).nodup_iff, List.map_cons, List.nodup_cons]
    refine ⟨fun hm => ?_, r.nd⟩
    obtain ⟨p, hp, e⟩ := List.mem_map.mp hm
    exact absurd (e ▸ r.lt p hp) (Nat.lt_irrefl _)
  · have av := hi.2.2.2 _ _ hl
    cases r.locs y Y hy hl with
    | loc a b d => exact .loc a b (d.put av)
    | cell a b d e g => exact .cell a b d e (g.put av)
    | free a b d e g => exact .free a b d e (g.put av)
theorem Ext.put {k : Nat} {ω : Om} {a : Addr} (h : k * 1000 ≤ i) : Ext k ω (ω.put i a) := ⟨fun j hj => by show (if j = i then _ else _) = _; rw [if_neg (by lia)], [], rfl⟩
theorem RelE.above {f : Fm} {ω : Om} {s : Shared} (R : RelE c n f ω σ s) (hC : CxOk c) : (s.heap.objs.size == sysModules) = false := by
  obtain ⟨m, Mc, Mh, FR, r⟩ := R
  have h1 := hC.low
  have h2 : c.base.objs.size ≤ s.heap.objs.size := Nat.le_of_lt (Nat.lt_of_le_of_lt r.fr.above r.fr.ns.lt)
  exact beq_eq_false_iff_ne.mpr (Nat.ne_of_gt (Nat.lt_of_lt_of_le h1 h2))
theorem ex_newlist (hv : isOwnVar (S.names.lookup x) = true) (h1 : Evs c S n es σ Xs σ₁) (hi : Fresh i n σ₁) (hd : toDs Xs = some ds := by rfl) (hl : ds.length ≤ 10000 := by exact Nat.le_of_ble_eq_true rfl) :
    Ex c S n (.Assign [.Name x tpos] (.List es pos) apos) σ .next (St.set ⟨σ₁.loc, (i, .lst ds) :: σ₁.heap⟩ x (.obj i)) := fun f F ω s Q E R h => by
  refine wpAny_Assign_Name (List_ (h1 pos f F ω s _ _ R fun ω₁ vs s₁ e₁ R₁ A₁ => ?_)) (swaps_no rfl)
  rw [toDs_map hd] at A₁
  have A' := A₁.toD
  refine wpAny_newObj_type ?_ (by show vs.toArray.size ≤ sizeLine; exact sz (by rw [List.size_toArray, A'.length]; exact hl))
  have R₂ := R₁.alloc (o := { cls := .type "list", data := .seq vs.toArray }) (tk := s₁.toks) (by rfl) hi (.lst (k := 0) A')
  have e₂ : Ext n ω₁ (ω₁.put i s₁.heap.objs.size) := Ext.put hi.1
  exact store_name F R₂ (isOwnVar_or hv) (.obj hi.2.1 Om.put_self) (fun s₃ R₃ => h _ .next s₃ (e₁.down.trans e₂) R₃ .next) (F.cellsOk x)
theorem lst_at {f : Fm} {ω : Om} {s : Shared} {m : Str → Option Value} {Mc Mh FR : Led} {a : Addr} (r : Rel c n f ω σ s m Mc Mh FR) (hi : lk i σ.heap = some (.lst ds)) (ha : ω.ρ i = some a) :
    ∃ vs k M1 M2, Mh = M1 ++ ([(a, listOf vs.toArray k)] ++ M2) ∧ DRs c.hs (fz c ω) ds vs ∧ s.heap.get? a = some (listOf vs.toArray k) ∧ ∀ o' m', HOR c.hs (fz c ω) o' a m' → HR c.hs (fz c ω) ω.ρ (setH i o' σ.heap) (M1 ++ (m' ++ M2)) := by
  obtain ⟨M1, m1, M2, a', e, h1, h2, h3⟩ := r.heap.split hi
  have : a' = a := Option.some.inj (h1.symm.trans ha)
  subst this
  cases h2 with
  | @lst _ _ vs k hd =>
    refine ⟨vs, k, M1, M2, e, hd, ?_, h3⟩
    exact (r.nw (a', listOf vs.toArray k) (by rw [e]; simp)).1
theorem getm_lst {name : Str} {nm : String} (hs : Slot "list" name nm) (ht : typeOf (.builtin nm) = pure (.type "method_descriptor")) (hi : lk i σ.heap = some (.lst ds)) : GetM c n (.obj i) name σ (.builtin nm) := fun S f F ω s Q E x pl R A h => by
  cases A with
  | obj hb ha =>
    obtain ⟨m, Mc, Mh, FR, r⟩ := id R
    obtain ⟨vs, k, M1, M2, _, _, ho, _⟩ := lst_at r hi ha
    exact getMethod_list_of hs ht ⟨_, ho, rfl, k, rfl⟩ ⟨_, ho, rfl⟩ h
theorem op_append (hi : lk i σ.heap = some (.lst ds)) (hl : ds.length ≤ 9999) : OpN c n (fun vs => call (.builtin "list.append") vs) [.obj i, .d d] σ (.d .none) { σ with heap := setH i (.lst (ds ++ [d])) σ.heap } := fun S f F ω s Q E vs R A h => by
  obtain ⟨x, v, rfl, A, B⟩ := A.two
  obtain ⟨a, rfl, hb, ha⟩ := A.toObj
  have B := B.toD
  obtain ⟨m, Mc, Mh, FR, r⟩ := id R
  obtain ⟨ws, k, M1, M2, e, q, ho, hset⟩ := lst_at r hi ha
  have eL : ∀ o, Mc ++ ((M1 ++ ([(a, o)] ++ M2)) ++ (ω.Z ++ (FR ++ f.keep))) = (Mc ++ M1) ++ (a, o) :: (M2 ++ (ω.Z ++ (FR ++ f.keep))) := fun o => by simp only [List.append_assoc, List.cons_append, List.nil_append]
  obtain ⟨o1, o2⟩ := off_pre (by have := r.nd; rw [e, eL] at this; exact this)
  refine append_K r.fr (by have := r.nw; rw [e, eL] at this; exact this) (upd_of o1 o2) (fun h' F' N' => ?_) (sz (by rw [List.size_toArray, q.length]; lia))
  have e3 : ws.toArray.push v = (ws ++ [v]).toArray := by simp
  rw [e3] at N'
  refine h ω .none _ (.refl ..) ⟨m, Mc, _, FR, r.swap (tk := s.toks) (pre := M1) (post := M2) (a := a) (o := listOf ws.toArray k) (o' := listOf (ws ++ [v]).toArray (k + 1)) (by rw [e]; rfl) rfl F' ?_ ?_⟩ (.d .none)
  · rw [show M1 ++ (a, listOf (ws ++ [v]).toArray (k + 1)) :: M2 = M1 ++ ([(a, listOf (ws ++ [v]).toArray (k + 1))] ++ M2) from rfl, eL]; exact N'
  · exact hset _ _ (.lst (q.append (.one B)))
theorem DRs.snoc {κ : Str → Int} {Z : Fz} {l : List D} {vs : List Value} (h : DRs κ Z (l ++ [d]) vs) : ∃ ws w, vs = ws ++ [w] ∧ DRs κ Z l ws ∧ DR κ Z d w := by
  induction l generalizing vs with
  | nil => cases h with | cons a b => cases b; exact ⟨[], _, rfl, .nil, a⟩
  | cons p l ih =>
    cases h with
    | cons a b =>
      obtain ⟨ws, w, rfl, h1, h2⟩ := ih b
      exact ⟨_ :: ws, w, rfl, .cons a h1, h2⟩
theorem t_objlst (hi : lk i σ.heap = some (.lst ds)) (hl : ds.length ≤ 10000) : Tr c n (.obj i) σ (!ds.isEmpty) := fun S f F ω s Q E x R A h => by
  cases A with | @obj _ a hb ha =>
  obtain ⟨m, Mc, Mh, FR, rr⟩ := id R
  obtain ⟨vs, kk, M1, M2, e, hds, ho, hset⟩ := lst_at rr hi ha
  have hL : s.heap.IsList a vs.toArray := ⟨_, ho, rfl, kk, rfl⟩
  have e2 : vs.toArray.isEmpty = ds.isEmpty := by cases hds <;> rfl
  exact wpAny_truthy_list hL (by rw [List.size_toArray, hds.length]; lia) (e2 ▸ h _ R.toks)
theorem t_lst (hl : ds.length ≤ 10000) : Tr c n (.d (.lst ds)) σ (!ds.isEmpty) := fun S f F ω s Q E x R A h => by
  cases A with | d A => cases A with | @lst a o vs k _ hz hoc hod hds =>
  have hL : s.heap.IsList a vs.toArray := ⟨o, R.fz hz, hoc, k, hod⟩
  have e2 : vs.toArray.isEmpty = ds.isEmpty := by cases hds <;> rfl
  exact wpAny_truthy_list hL (by rw [List.size_toArray, hds.length]; lia) (e2 ▸ h _ R.toks)
end
end Mine
namespace Mine
open PySem PySem.W PyProof.Rows PySem.Calls PySem.Spec
section
variable {c : Cx} {S : Scope} {n : Nat} {σ σ' σ₁ σ₂ σ₃ σ₄ : St} {X Y Z : V} {e l r t test target iter fn : Expr} {es : List Expr} {Xs : List V} {pos tpos : Pos} {st : Stmt} {sts : List Stmt} {fl fl' : Fl} {x y : Str} {body orelse : List Stmt} {ds ds' : List D} {d d' : D} {i : Nat} {ho : HO} {kv : List (Str × D)} {a : Addr} {o : Obj}
theorem RelE.setHO {f : Fm} {ω : Om} {s : Shared} {p : HO} (R : RelE c n f ω σ s) (hi : lk i σ.heap = some p) (hp : ∀ a m, HOR c.hs (Mine.fz c ω) p a m → HOR c.hs (Mine.fz c ω) ho a m) : RelE c n f ω { σ with heap := setH i ho σ.heap } s := by
  obtain ⟨m, Mc, Mh, FR, r⟩ := R
  obtain ⟨M1, m1, M2, a, e, h1, h2, h3⟩ := r.heap.split hi
  refine ⟨m, Mc, Mh, FR, ⟨r.fr, r.nw, r.nd, r.frs, r.cells, r.cinj, ?_, r.locs, r.gens, r.drawn, r.os⟩⟩
  rw [e]; exact h3 _ _ (hp a m1 h2)
theorem exs_pin (hi : lk i σ.heap = some (.lst ds)) (h : ∀ a o, Exs c S n sts { σ with heap := setH i (.plst a o ds) σ.heap } fl σ₁) : Exs c S n sts σ fl σ₁ := fun f F ω s Q E R k => by
  obtain ⟨m, Mc, Mh, FR, r⟩ := id R
  obtain ⟨M1, m1, M2, a, e, h1, h2, h3⟩ := r.heap.split hi
  cases h2 with
  | @lst _ _ vs kk hd =>
    refine h a (listOf vs.toArray kk) f F ω s Q E ⟨m, Mc, Mh, FR, ⟨r.fr, r.nw, r.nd, r.frs, r.cells, r.cinj, ?_, r.locs, r.gens, r.drawn, r.os⟩⟩ k
    rw [e]; exact h3 _ _ (.plst hd)
theorem hor_unpin {κ : Str → Int} {Z : Fz} {b : Addr} {m : Led} (h : HOR κ Z (.plst a o ds) b m) : HOR κ Z (.lst ds) b m := by
  cases h with | plst h => exact .lst h
theorem exs_unpin (hi : lk i σ.heap = some (.plst a o ds)) (h : Exs c S n sts { σ with heap := setH i (.lst ds) σ.heap } fl σ₁) : Exs c S n sts σ fl σ₁ := fun f F ω s Q E R k =>
  h f F ω s Q E (R.setHO hi fun _ _ => hor_unpin) k
theorem plst_at {f : Fm} {ω : Om} {s : Shared} {b : Addr} (R : RelE c n f ω σ s) (hi : lk i σ.heap = some (.plst a o ds)) (ha : ω.ρ i = some b) :
    b = a ∧ s.heap.get? a = some o ∧ ∃ vs k, o = listOf vs.toArray k ∧ DRs c.hs (Mine.fz c ω) ds vs := by
  obtain ⟨m, Mc, Mh, FR, r⟩ := R
  obtain ⟨M1, m1, M2, a', e, h1, h2, h3⟩ := r.heap.split hi
  have : a' = b := Option.some.inj (h1.symm.trans ha)
  subst this
  cases h2 with
  | @plst _ _ vs k hd => exact ⟨rfl, (r.nw (a, listOf vs.toArray k) (List.mem_append_right _ (List.mem_append_left _ (by rw [e]; exact List.mem_append_right _ (.head _))))).1, vs, k, rfl, hd⟩
theorem evIt_plst (hc : c.calm = true) (h1 : Ev c S n e σ (.obj i) σ₁) (hi : lk i σ₁.heap = some (.plst a o ds)) : EvIt c S n e target [(a, o)] σ (ds.map .d) σ₁ := fun f F ω s Q E R h => by
  refine h1 f F ω s _ _ R fun ω₁ v s₁ e₁ R₁ A₁ => ?_
  obtain ⟨b, rfl, hb, ha⟩ := A₁.toObj
  obtain ⟨rfl, ho, vs, k, rfl, hds⟩ := plst_at R₁ hi ha
  have hL : s₁.heap.IsList b vs.toArray := ⟨_, ho, rfl, k, rfl⟩
  have hne : b ≠ s₁.heap.objs.size := Nat.ne_of_lt (Heap.lt_size ho)
  have hlen : vs.toArray.size = (ds.map V.d).length := by rw [List.size_toArray, hds.length, List.length_map]
  refine wpAny_pyIter_list hL ?_
  have W := Walks.list (prog := c.prog) (w := c.w) (A := f.A) (F.hand hc) s₁.heap.objs.size b hne vs.toArray
  rw [hlen] at W
  refine h ω₁ _ _ [s₁.heap.objs.size] _ (dAt ds) e₁ ⟨[(s₁.heap.objs.size, _)], rfl, RelE.pushKeep (k := s₁.toks) (by rfl) R₁⟩
    (itr_of (ω₀ := ω₁) W (fun i h ⟨⟨o, q, _⟩, _⟩ => ⟨o, q⟩) (fun i v s Q E ⟨⟨o, q1, q2, _⟩, _⟩ hq => go_list q1 q2 (by decide) hq) fun i v ω hω hi hP => ?_) (fun j X hj => dAt_map hj)
    ⟨⟨⟨_, Heap.get?_push_size _ rfl, rfl, rfl⟩, hL.at fun o e => Heap.get?_push_of_some _ e⟩, fun _ _ z => z, fun b' hb' hI => ?_⟩
  · have hi' : i < ds.length := by simpa using hi
    obtain ⟨v', q1, q2⟩ := hds.get (i := i) (d := ds[i]) (by simp [hi'])
    have : v' = v := by
      have hP' : vs[i]? = some v := by simpa using hP
      rw [hP'] at q1; exact (Option.some.inj q1).symm
    subst this
    show VR c n ω (dAt ds i) v'
    unfold dAt
    rw [List.getElem?_eq_getElem hi']
    exact .d (q2.mono hω)
  · rcases List.mem_cons.mp hb' with rfl | hb'
    · exact absurd rfl hI
    · rw [List.mem_singleton.mp hb']
      exact ⟨_, .inr (.head _), Heap.get?_push_of_some _ ho⟩
theorem pins_one (hi : lk i σ.heap = some (.plst a o ds)) : PinsIn [(a, o)] σ.heap := fun p hp => by
  rw [List.mem_singleton.mp hp]; exact ⟨i, _, hi, rfl⟩
theorem HR.del {κ : Str → Int} {Z : Fz} {ρ : Nat → Option Addr} {H : List (Nat × HO)} {M : Led} (h : HR κ Z ρ H M) (hi : lk i H = some ho) :
    ∃ M1 m M2 a, M = M1 ++ (m ++ M2) ∧ ρ i = some a ∧ HOR κ Z ho a m ∧ HR κ Z ρ (delH i H) (M1 ++ M2) := by
  induction h with
  | nil => cases hi
  | @cons k x a m M H e q r ih =>
    unfold lk at hi
    cases hk : (k == i) with
    | true =>
      rw [hk] at hi; cases hi
      have : k = i := by simpa using hk
      subst this
      refine ⟨[], m, M, a, rfl, e, q, ?_⟩
      show HR κ Z ρ (bif k == k then H else _) M
      rw [hk]; exact r
    | false =>
      rw [hk] at hi
      obtain ⟨M1, m0, M2, a0, rfl, h1, h2, h3⟩ := ih hi
      refine ⟨m ++ M1, m0, M2, a0, by simp only [List.append_assoc], h1, h2, ?_⟩
      show HR κ Z ρ (bif k == i then _ else (k, x) :: delH i H) _
      rw [hk, List.append_assoc]
      exact .cons e q h3
theorem exs_freeze (hx : lk (key x) σ.loc = some (.obj i)) (hi : lk i σ.heap = some (.lst ds)) (h : Exs c S n sts ⟨(key x, .d (.lst ds)) :: σ.loc, delH i σ.heap⟩ fl σ₁) : Exs c S n sts σ fl σ₁ := fun f F ω s Q E R k => by
  obtain ⟨m, Mc, Mh, FR, r⟩ := R
  obtain ⟨M1, m1, M2, a, e, h1, h2, h3⟩ := r.heap.del hi
  cases h2 with
  | @lst _ _ vs kk hd =>
    have X1 : Ext n ω { ω with Z := (a, listOf vs.toArray kk) :: ω.Z } := Ext.frz n ω [(a, listOf vs.toArray kk)]
    have X2 : Ext (n + 1) ω { ω with Z := (a, listOf vs.toArray kk) :: ω.Z } := Ext.frz (n + 1) ω [(a, listOf vs.toArray kk)]
    have perm : (Mc ++ ((M1 ++ M2) ++ (((a, listOf vs.toArray kk) :: ω.Z) ++ (FR ++ f.keep)))).Perm (Mc ++ (Mh ++ (ω.Z ++ (FR ++ f.keep)))) := by
      rw [e]
      refine List.Perm.append_left _ ?_
      have e1 : M1 ++ ([(a, listOf vs.toArray kk)] ++ M2) ++ (ω.Z ++ (FR ++ f.keep)) = M1 ++ ((a, listOf vs.toArray kk) :: (M2 ++ (ω.Z ++ (FR ++ f.keep)))) := by simp only [List.append_assoc, List.cons_append, List.nil_append]
      have e2 : M1 ++ M2 ++ (((a, listOf vs.toArray kk) :: ω.Z) ++ (FR ++ f.keep)) = M1 ++ (M2 ++ ((a, listOf vs.toArray kk) :: (ω.Z ++ (FR ++ f.keep)))) := by simp only [List.append_assoc, List.cons_append]
      rw [e1, e2]
      exact List.Perm.append_left _ List.perm_middle
    have R' : RelE c n f { ω with Z := (a, listOf vs.toArray kk) :: ω.Z } ⟨(key x, .d (.lst ds)) :: σ.loc, delH i σ.heap⟩ s := by
      refine ⟨m, Mc, M1 ++ M2, FR, ⟨r.fr, fun p hp => r.nw p (perm.subset hp), ((perm.map (·.1)).nodup_iff).mpr r.nd, r.frs, r.cells, r.cinj, h3.mono X2.fz fun _ _ => rfl, fun y Y hy hl => ?_, r.gens, r.drawn, r.os⟩⟩
      have hl' : (bif key x == key y then some (V.d (.lst ds)) else lk (key y) σ.loc) = some Y := hl
      cases q : (key x == key y) with
      | false => rw [q] at hl'; exact (r.locs y Y hy hl').ext X2
      | true =>
        rw [q] at hl'; cases hl'
        have q' : key x = key y := by simpa using q
        have z := r.locs y (.obj i) hy (q' ▸ hx)
        have conv : ∀ v, VR c n ω (.obj i) v → VR c n { ω with Z := (a, listOf vs.toArray kk) :: ω.Z } (.d (.lst ds)) v := fun v hv => by
          obtain ⟨a', rfl, _, ha'⟩ := hv.toObj
          have : a' = a := Option.some.inj (ha'.symm.trans h1)
          subst this
          exact .d (.lst (o := listOf vs.toArray kk) (n := kk) (.inl (.head _)) rfl rfl (hd.mono X2.fz))
        cases z with
        | loc a b d => exact .loc a b (conv _ d)
        | cell a b d e g => exact .cell a b d e (conv _ g)
        | free a b d e g => exact .free a b d e (conv _ g)
    exact h f F _ s Q E R' fun ω' G s' e' => k ω' G s' (X1.trans e')
end
end Mine
namespace Mine
open PySem PySem.W PyProof.Rows PySem.Calls PySem.Spec
inductive KV (κ : Str → Int) (Z : Fz) : List (Str × D) → List (Str × Value) → Prop
  | nil : KV κ Z [] []
  | cons {k : Str} {d : D} {v : Value} {l : List (Str × D)} {kvs : List (Str × Value)} : DR κ Z d v → KV κ Z l kvs → KV κ Z ((k, d) :: l) ((k, v) :: kvs)
section
variable {κ : Str → Int} {Z : Fz} {l : List (Str × D)} {kvs : List (Str × Value)} {es : List DictEntry} {k : Str} {d : D} {v : Value}
theorem KV.keys (h : KV κ Z l kvs) : kvs.map (·.1) = l.map (·.1) := by
  induction h with
  | nil => rfl
  | cons _ _ ih => rw [List.map_cons, List.map_cons, ih]
theorem KV.length (h : KV κ Z l kvs) : kvs.length = l.length := by
  have := congrArg List.length h.keys; simpa using this
theorem KV.mono {Z' : Fz} (hs : ∀ a o, Z a o → Z' a o) (h : KV κ Z l kvs) : KV κ Z' l kvs := by
  induction h with
  | nil => exact .nil
  | cons a _ ih => exact .cons (a.mono hs) ih
theorem KV.at (h : KV κ Z l kvs) (k : Str) : (∀ d, getD? k l = some d → ∃ v, valueAt kvs k = some v ∧ DR κ Z d v) ∧ (getD? k l = none → valueAt kvs k = none) := by
  induction h with
  | nil => exact ⟨(fun d h => nomatch h), fun _ => rfl⟩
  | @cons a d v l kvs hd _ ih =>
    unfold getD? valueAt
    rw [List.find?_cons]
    by_cases e : a = k
    · subst e
      simp only [if_true, decide_true]
      exact ⟨fun d' h => by cases h; exact ⟨v, rfl, hd⟩, fun h => nomatch h⟩
    · simp only [if_neg e, decide_eq_false e]
      exact ih
theorem KV.put (h : KV κ Z l kvs) (hn : (l.map (·.1)).Nodup) (hd : DR κ Z d v) : KV κ Z (putD' k d l) (stored kvs k v) := by
  have hk := h.keys
  unfold stored
  by_cases hc : k ∈ l.map (·.1)
  · rw [if_pos]
    · clear hk
      induction h with
      | nil => cases hc
      | @cons a d' v' l kvs hd' hr ih =>
        unfold putD'
        rw [List.map_cons]
        rw [List.map_cons, List.nodup_cons] at hn
        by_cases e : a = k
        · subst e
          simp only [if_true]
          have : kvs.map (fun kv => if kv.1 = a then (kv.1, v) else kv) = kvs := map_store_of_not_mem kvs a v (by rw [hr.keys]; exact hn.1)
          rw [this]; exact .cons hd hr
        · simp only [if_neg e]
          refine .cons hd' (ih hn.2 ?_)
          rcases List.mem_cons.mp hc with h | h
          · exact absurd h.symm e
          · exact h
    · obtain ⟨p, hp, e⟩ := List.mem_map.mp (show k ∈ kvs.map (·.1) by rw [hk]; exact hc)
      exact List.any_eq_true.mpr ⟨p, hp, by simpa using e⟩
  · rw [if_neg]
    · clear hk
      induction h with
      | nil => exact .cons hd .nil
      | @cons a d' v' l kvs hd' hr ih =>
        rw [List.map_cons, List.mem_cons, not_or] at hc
        rw [List.map_cons, List.nodup_cons] at hn
        unfold putD'
        rw [if_neg (Ne.symm hc.1)]
        exact .cons hd' (ih hn.2 hc.2)
    · intro h
      obtain ⟨p, hp, e⟩ := List.any_eq_true.mp h
      exact hc (by rw [← hk]; exact List.mem_map.mpr ⟨p, hp, by simpa using e⟩)
end
section
variable {c : Cx} {S : Scope} {n : Nat} {σ σ' σ₁ σ₂ σ₃ σ₄ : St} {X Y Z : V} {e l r t test target iter fn : Expr} {es : List Expr} {Xs : List V} {pos tpos : Pos} {st : Stmt} {sts : List Stmt} {fl fl' : Fl} {x y : Str} {body orelse : List Stmt} {ds ds' : List D} {d d' : D} {i : Nat} {ho : HO} {kv : List (Str × D)} {a : Addr} {o : Obj} {k : Str} {Zf : Fz}
theorem dict_is {es : List DictEntry} {ep : Nat} (h1 : o.ExactDict) (h2 : o.data = .dict es.toArray ep) (h3 : (kv.map (·.1)).Nodup) (h4 : DRd c.hs Zf kv es) : ∃ kvs, o.IsDictOf (PySem.strKind c.prog c.w) kvs ∧ KV c.hs Zf kv kvs := by
  have : ∃ kvs : List (Str × Value), (∀ en ∈ es, ∃ k, (PySem.strKind c.prog c.w).is k en.key = true ∧ en.hash = (PySem.strKind c.prog c.w).hash k) ∧ Pairs (PySem.strKind c.prog c.w) es kvs ∧ KV c.hs Zf kv kvs := by
    clear h1 h2 h3
    induction kv generalizing es with
    | nil => cases h4; exact ⟨[], (fun _ h => nomatch h), .nil, .nil⟩
    | cons p kv ih =>
      cases h4 with
      | @cons k t d v _ es hd hr =>
        obtain ⟨kvs, a1, a2, a3⟩ := ih hr
        refine ⟨(k, v) :: kvs, fun en hen => ?_, .cons (by show Value.isStrOf k (.str k t) = true; unfold Value.isStrOf; simp) rfl a2, .cons hd a3⟩
        rcases List.mem_cons.mp hen with rfl | hen
        · exact ⟨k, by show Value.isStrOf k (.str k t) = true; unfold Value.isStrOf; simp, rfl⟩
        · exact a1 en hen
  obtain ⟨kvs, a1, a2, a3⟩ := this
  refine ⟨kvs, ⟨es.toArray, ep, h1, h2, fun en hen => a1 en (by simpa using hen), by simpa using a2, ?_⟩, a3⟩
  rw [a3.keys]; exact h3
theorem dict_of {kvs : List (Str × Value)} (h : o.IsDictOf (PySem.strKind c.prog c.w) kvs) (hk : KV c.hs Zf kv kvs) : ∃ es ep, o.ExactDict ∧ o.data = .dict (List.toArray es) ep ∧ (kv.map (·.1)).Nodup ∧ DRd c.hs Zf kv es := by
  obtain ⟨es, ep, h1, h2, h3, h4, h5⟩ := h
  refine ⟨es.toList, ep, h1, by simpa using h2, by rw [← hk.keys]; exact h5, ?_⟩
  have h3' : ∀ en ∈ es.toList, ∃ k, (PySem.strKind c.prog c.w).is k en.key = true ∧ en.hash = (PySem.strKind c.prog c.w).hash k := fun en hen => h3 en (by simpa using hen)
  clear h1 h2 h3 h5
  generalize es.toList = es' at h3' h4
  induction h4 generalizing kv with
  | nil => cases hk; exact .nil
  | @cons en p es' kvs b1 b2 b3 ih =>
    cases hk with
    | @cons k d v l _ hd hr =>
      obtain ⟨k', c1, c2⟩ := h3' en (.head _)
      obtain ⟨t, ht⟩ := Value.isStrOf_shape b1
      have : k' = k := Value.isStrOf_inj en.key k' k c1 b1
      subst this
      obtain ⟨hh, kk, vv⟩ := en
      cases ht
      cases b2
      cases c2
      exact .cons hd (ih hr fun en hen => h3' en (.tail _ hen))
theorem is_str {t : Tok} : (PySem.strKind c.prog c.w).is k (.str k t) = true := by show Value.isStrOf k (.str k t) = true; unfold Value.isStrOf; simp
theorem dct_at {f : Fm} {ω : Om} {s : Shared} {v : Value} (R : RelE c n f ω σ s) (A : VR c n ω (.d (.dct kv)) v) : ∃ a o kvs, v = .ref a ∧ (a == sysModules) = false ∧ s.heap.get? a = some o ∧ o.IsDictOf (PySem.strKind c.prog c.w) kvs ∧ KV c.hs (Mine.fz c ω) kv kvs := by
  cases A.toD with
  | @dct a o es ep _ hz h0 h1 h2 h3 h4 =>
    obtain ⟨kvs, b1, b2⟩ := dict_is h1 h2 h3 h4
    exact ⟨a, o, kvs, rfl, h0, R.fz hz, b1, b2⟩
theorem obj_dct_at {f : Fm} {ω : Om} {s : Shared} {v : Value} (R : RelE c n f ω σ s) (A : VR c n ω (.obj i) v) (hi : lk i σ.heap = some (.dct kv) ∨ ∃ a o, lk i σ.heap = some (.pdct a o kv)) : ∃ a o kvs, v = .ref a ∧ (a == sysModules) = false ∧ s.heap.get? a = some o ∧ o.IsDictOf (PySem.strKind c.prog c.w) kvs ∧ KV c.hs (Mine.fz c ω) kv kvs := by
  obtain ⟨a, rfl, _, ha⟩ := A.toObj
  obtain ⟨m, Mc, Mh, FR, r⟩ := R
  rcases hi with hi | ⟨a0, o0, hi⟩
  · obtain ⟨M1, m1, M2, a', e, h1, h2, h3⟩ := r.heap.split hi
    have : a' = a := Option.some.inj (h1.symm.trans ha)
    subst this
    cases h2 with
    | @dct _ o _ es kk b0 b1 b2 b3 hd =>
      obtain ⟨kvs, c1, c2⟩ := dict_is b1 b2 b3 hd
      exact ⟨a', o, kvs, rfl, b0, (r.nw (a', o) (List.mem_append_right _ (List.mem_append_left _ (by rw [e]; exact List.mem_append_right _ (.head _))))).1, c1, c2⟩
  · obtain ⟨M1, m1, M2, a', e, h1, h2, h3⟩ := r.heap.split hi
    have : a' = a := Option.some.inj (h1.symm.trans ha)
    subst this
    cases h2 with
    | @pdct _ _ _ es kk b0 b1 b2 b3 hd =>
      obtain ⟨kvs, c1, c2⟩ := dict_is b1 b2 b3 hd
      exact ⟨_, o0, kvs, rfl, b0, (r.nw (_, o0) (List.mem_append_right _ (List.mem_append_left _ (by rw [e]; exact List.mem_append_right _ (.head _))))).1, c1, c2⟩
noncomputable def IsTab (c : Cx) (n : Nat) (σ : St) (X : V) (kv : List (Str × D)) : Prop :=
  X = .d (.dct kv) ∨ ∃ i, X = .obj i ∧ (lk i σ.heap = some (.dct kv) ∨ ∃ a o, lk i σ.heap = some (.pdct a o kv))
theorem tab_d : IsTab c n σ (.d (.dct kv)) kv := .inl rfl
theorem tab_at {f : Fm} {ω : Om} {s : Shared} {v : Value} (T : IsTab c n σ X kv) (R : RelE c n f ω σ s) (A : VR c n ω X v) : ∃ a o kvs, v = .ref a ∧ (a == sysModules) = false ∧ s.heap.get? a = some o ∧ o.IsDictOf (PySem.strKind c.prog c.w) kvs ∧ KV c.hs (Mine.fz c ω) kv kvs := by
  rcases T with rfl | ⟨i, rfl, h⟩
  · exact dct_at R A
  · exact obj_dct_at R A h
theorem some_at {kvs : List (Str × Value)} (h : KV c.hs Zf kv kvs) : (valueAt kvs k).isSome = (getD? k kv).isSome := by
  obtain ⟨h1, h2⟩ := h.at k
  cases q : getD? k kv with
  | none => rw [h2 q]; rfl
  | some d => obtain ⟨v, hv, _⟩ := h1 d q; rw [hv]; rfl
theorem c_nin_tab (T : IsTab c n σ Y kv) : Op2 c n (compareOp .NotIn) (.d (.str k)) Y σ (.d (.bool (!(getD? k kv).isSome))) σ := fun S f F ω s Q E xv yv R A B h => by
  obtain ⟨a, o, kvs, rfl, lo, ho, hd, hk⟩ := tab_at T R B
  cases A with | d A => cases A with | str _ t =>
  have N : News ({} : Heap) (a + 1) s.heap [(a, o)] := fun p hp => by
    rw [List.mem_singleton.mp hp]; exact ⟨ho, Nat.ne_of_lt (Nat.lt_succ_self a), rfl⟩
  exact kdg_notin N (.head _) hd lo is_str _ (some_at hk) (h ω _ _ (.refl ..) R.toks (.d (.bool _)))
theorem op_get_tab (T : IsTab c n σ X kv) (hd : getD? k kv = some d) (hs : ∀ o i, ∃ ops, subscripted r false o i = operate ops (getItem o i) := by intro o i; exact ⟨_, rfl⟩) :
    Op2 c n (subscriptTail l r) X (.d (.str k)) σ (.d d) σ := fun S f F ω s Q E xv yv R A B h => by
  obtain ⟨a, o, kvs, rfl, lo, ho, hdd, hk⟩ := tab_at T R A
  cases B with | d B => cases B with | str _ t =>
  obtain ⟨ops, hs⟩ := hs (.ref a) (.str k t)
  obtain ⟨v, hv, dv⟩ := (hk.at k).1 d hd
  have hD : s.heap.DictOf (PySem.strKind c.prog c.w) a kvs := Heap.dictOf_iff.mpr ⟨o, ho, hdd⟩
  obtain ⟨_, _, hx, _⟩ := hdd
  exact tail_any ⟨o, ho, hx.1⟩ slot_dict_getitem.lookup (wpAny_getItem_of is_str hD.mapOf hv (h ω v _ (.refl ..) R.toks (.d dv))) hs
end
end Mine
namespace Mine
open PySem PySem.W PyProof.Rows PySem.Calls PySem.Spec
section
variable {c : Cx} {S : Scope} {n : Nat} {σ σ' σ₁ σ₂ σ₃ σ₄ : St} {X Y Z : V} {e l r t test target iter fn : Expr} {es : List Expr} {Xs : List V} {pos tpos : Pos} {st : Stmt} {sts : List Stmt} {fl fl' : Fl} {x y : Str} {body orelse : List Stmt} {ds ds' : List D} {d d' : D} {i : Nat} {ho : HO} {kv : List (Str × D)} {a : Addr} {o : Obj} {k : Str}
inductive EvD (c : Cx) (S : Scope) (n : Nat) : List (Option Expr) → List Expr → St → List (Str × Mine.D) → St → Prop
  | nil {σ : St} : EvD c S n [] [] σ [] σ
  | cons {ke ve : Expr} {ks : List (Option Expr)} {vs : List Expr} {k : Str} {d : Mine.D} {l : List (Str × Mine.D)} {σ σ₁ σ₂ σ₃ : St} : Ev c S n ke σ (.d (.str k)) σ₁ → Ev c S n ve σ₁ (.d d) σ₂ → EvD c S n ks vs σ₂ l σ₃ → EvD c S n (some ke :: ks) (ve :: vs) σ ((k, d) :: l) σ₃
theorem evd_shape {ks : List (Option Expr)} {vs : List Expr} (h : EvD c S n ks vs σ kv σ') : ks.all (·.isSome) = true ∧ ks.length = vs.length ∧ ks.length = kv.length := by
  induction h with
  | nil => exact ⟨rfl, rfl, rfl⟩
  | cons _ _ _ ih => simp [ih.1, ih.2.1, ← ih.2.2]
theorem evd_run {ks : List (Option Expr)} {vs : List Expr} (h : EvD c S n ks vs σ kv σ') : ∀ pos f, FmOk c S n f → ∀ ω s (Q : List (Value × Value) → Shared → Prop) E, RelE c n f ω σ s →
    (∀ ω' ws kvs s', Ext (n + 1) ω ω' → RelE c n f ω' σ' s' → Carries (PySem.strKind c.prog c.w) ws kvs → KV c.hs (Mine.fz c ω') kv kvs → Q ws s') → wpAny (model c.prog c.w) f.A (evalPairs (pairTrees ks vs f.env pos)) Q E s := by
  induction h with
  | nil => intro pos f F ω s Q E R h; exact evalPairs_nil (h ω [] [] s (.refl ..) R trivial .nil)
  | cons h1 h2 h3 ih =>
    intro pos f F ω s Q E R h
    unfold pairTrees
    refine evalPairs_cons (h1 f F ω s _ _ R fun ω₁ v₁ s₁ e₁ R₁ A₁ => wpAny_bind (h2 f F ω₁ s₁ _ _ R₁ fun ω₂ v₂ s₂ e₂ R₂ A₂ => wpAny_bind (wpAny_standAt (wpAny_pure ?_))))
    refine ih pos f F ω₂ s₂ _ _ R₂ fun ω₃ ws kvs s₃ e₃ R₃ C K => ?_
    cases A₁.toD with
    | str _ t => exact h ω₃ _ ((_, v₂) :: kvs) s₃ (e₁.trans (e₂.trans e₃)) R₃ ⟨is_str, rfl, C⟩ (.cons (A₂.toD.mono e₃.fz) K)
theorem merged_new {kvs acc : List (Str × Value)} (h : ((acc ++ kvs).map (·.1)).Nodup) : merged acc kvs = acc ++ kvs := by
  induction kvs generalizing acc with
  | nil => simp [merged]
  | cons p kvs ih =>
    have e : stored acc p.1 p.2 = acc ++ [p] := by
      unfold stored
      rw [if_neg]
      intro hc
      obtain ⟨q, hq, e⟩ := List.any_eq_true.mp hc
      rw [List.map_append, List.nodup_append] at h
      exact h.2.2 q.1 (List.mem_map.mpr ⟨q, hq, rfl⟩) p.1 (by simp) (by simpa using e)
    have e2 : merged acc (p :: kvs) = merged (stored acc p.1 p.2) kvs := by simp [merged]
    rw [e2, e, ih (by simpa using h)]
    simp
theorem ev_dict {ks : List (Option Expr)} {vs : List Expr} (hC : CxOk c) (h : EvD c S n ks vs σ kv σ') (hn : (kv.map (·.1)).Nodup) (h0 : ks ≠ []) (hl : ks.length ≤ 15) : Ev c S n (.Dict ks vs pos) σ (.d (.dct kv)) σ' := fun f F ω s Q E R h' => by
  obtain ⟨s1, s2, s3⟩ := evd_shape h
  refine wpAny_Dict_any s1 s2 h0 hl ?_
  have R1 := R.pushKeep (o := { cls := .type "dict", data := .dict #[] }) (k := s.toks) (by rfl)
  refine evd_run h pos (f.more [(s.heap.objs.size, { cls := .type "dict", data := .dict #[] })]) (F.more _) ω _ _ _ R1 fun ω₁ ws kvs s₁ e₁ R₁ C K => ?_
  have hD : s₁.heap.get? s.heap.objs.size = some { cls := .type "dict", data := .dict #[] } := by
    obtain ⟨m, Mc, Mh, FR, r⟩ := R₁
    exact (r.nw (s.heap.objs.size, { cls := .type "dict", data := .dict #[] }) (by simp [Fm.more])).1
  have hD0 : s₁.heap.DictOf (PySem.strKind c.prog c.w) s.heap.objs.size [] := ⟨_, #[], 0, hD, ⟨rfl, rfl, rfl⟩, rfl, fun _ h => by simp at h, .nil, List.nodup_nil⟩
  have kn : (kvs.map (·.1)).Nodup := by rw [K.keys]; exact hn
  refine wpAny_storeAll ws kvs [] s₁ _ C hD0 (by have := K.length; simp only [List.length_nil, Nat.zero_add]; rw [this, ← s3]; exact Nat.le_trans hl (by decide)) fun h₂ hd₂ hs₂ => ?_
  rw [merged_new (by simpa using kn), List.nil_append] at hd₂
  obtain ⟨o', ho', hdo⟩ := Heap.dictOf_iff.mp hd₂
  obtain ⟨es, ep, b1, b2, b3, b4⟩ := dict_of hdo K
  have R2 := RelE.turn (kp' := [(s.heap.objs.size, o')]) (l := []) (tk := s₁.toks + ws.length) F R₁ (fun b o hb e => (hs₂.2 b (fun q => hb (by rw [q]; exact .head _))).trans e) (List.Sublist.refl _) (fun p hp => by rw [List.mem_singleton.mp hp]; exact ho') (fun _ h => nomatch h) List.nodup_nil
  have R3 := RelE.keepFrz F R2
  have X1 : Ext (n + 1) ω₁ { ω₁ with Z := (s.heap.objs.size, o') :: ω₁.Z } := Ext.frz (n + 1) ω₁ [(s.heap.objs.size, o')]
  exact h' _ _ _ (e₁.trans X1) R3 (.d (.dct (.inl (.head _)) (R.above hC) b1 b2 b3 (b4.mono X1.fz)))
end
end Mine
namespace Mine
open PySem PySem.W PyProof.Rows PySem.Calls PySem.Spec
section
variable {c : Cx} {S : Scope} {n : Nat} {σ σ' σ₁ σ₂ σ₃ σ₄ : St} {X Y Z : V} {e l r t test target iter fn : Expr} {es : List Expr} {Xs : List V} {pos tpos : Pos} {st : Stmt} {sts : List Stmt} {fl fl' : Fl} {x y : Str} {body orelse : List Stmt} {ds ds' : List D} {d d' : D} {i : Nat} {ho : HO} {kv : List (Str × D)} {a : Addr} {o : Obj} {k : Str}
theorem VRs.oneD {ω : Om} {vs : List Value} (h : VRs c n ω [.d d] vs) : ∃ v, vs = [v] ∧ DR c.hs (fz c ω) d v := by
  obtain ⟨v, e, A⟩ := h.one
  exact ⟨v, e, A.toD⟩
theorem VRs.twoD {ω : Om} {vs : List Value} (h : VRs c n ω [.d d, .d d'] vs) : ∃ v w, vs = [v, w] ∧ DR c.hs (fz c ω) d v ∧ DR c.hs (fz c ω) d' w := by
  obtain ⟨v, w, e, A, B⟩ := h.two
  exact ⟨v, w, e, A.toD, B.toD⟩
theorem ints_are {κ : Str → Int} {Zf : Fz} {ns : List Int} {vs : List Value} (h : DRs κ Zf (ns.map .int) vs) : IntsAre vs ns := by
  induction ns generalizing vs with
  | nil => cases h; exact .nil
  | cons a ns ih => cases h with | cons p q => cases p; exact .cons _ _ (ih q)
theorem f_sum {ns : List Int} (hc : c.calm = true) (hd : ds = ns.map .int) : OpN c n (fun vs => call (.builtin "sum") vs) [.d (.lst ds)] σ (.d (.int ns.sum)) σ := fun S f F ω s Q E vs R A h => by
  obtain ⟨v, rfl, A1⟩ := A.oneD
  have A := A1
  cases A with
  | @lst a o ws k _ hz hoc hod hds =>
    subst hd
    obtain ⟨m, Mc, Mh, FR, r⟩ := id R
    refine LSm.sum_ints r.fr r.nw (F.hand hc) ⟨o, R.fz hz, hoc, k, hod⟩ (ints_are hds) fun h' tk t' F' N' => ?_
    exact h ω _ _ (.refl ..) ⟨m, Mc, Mh, FR, ⟨F', N', r.nd, r.frs, r.cells, r.cinj, r.heap, r.locs, r.gens, r.drawn, r.os⟩⟩ (.d (.int _ _))
theorem f_len_str (hl : x.length ≤ 1000000) : OpN c n (fun vs => call (.builtin "len") vs) [.d (.str x)] σ (.d (.int x.length)) σ := fun S f F ω s Q E vs R A h => by
  obtain ⟨v, rfl, A1⟩ := A.oneD
  have A := A1
  cases A with | str _ t => exact PyProof.Rows.len_str (by lia) (h ω _ _ (.refl ..) R.toks (.d (.int _ _)))
theorem f_len_lst (hl : ds.length ≤ 1000000) : OpN c n (fun vs => call (.builtin "len") vs) [.d (.lst ds)] σ (.d (.int ds.length)) σ := fun S f F ω s Q E vs R A h => by
  obtain ⟨v, rfl, A1⟩ := A.oneD
  have A := A1
  cases A with
  | @lst a o ws k _ hz hoc hod hds =>
    have e : (ws.toArray.size : Int) = ds.length := by rw [List.size_toArray, hds.length]
    exact PyProof.Rows.len_list ⟨o, R.fz hz, hoc, k, hod⟩ (by lia) (by rw [e]; exact h ω _ _ (.refl ..) R.toks (.d (.int _ _)))
theorem f_ord {ch : Nat} : OpN c n (fun vs => call (.builtin "ord") vs) [.d (.str ⟨#[ch]⟩)] σ (.d (.int ch)) σ := fun S f F ω s Q E vs R A h => by
  obtain ⟨v, rfl, A1⟩ := A.oneD
  have A := A1
  cases A with | str _ t => exact PySem.P.ord_of_char (h ω _ _ (.refl ..) R.toks (.d (.int _ _)))
theorem f_bytes {ns : List Int} (hc : c.calm = true) (hd : ds = ns.map .int) (hr : ∀ n ∈ ns, 0 ≤ n ∧ n < 256) (hl : ns.length ≤ 1000000) : OpN c n (fun vs => call (.type "bytes") vs) [.d (.lst ds)] σ (.d (.bytes (byteArr ns))) σ := fun S f F ω s Q E vs R A h => by
  obtain ⟨v, rfl, A1⟩ := A.oneD
  have A := A1
  cases A with
  | @lst a o ws k _ hz hoc hod hds =>
    subst hd
    have hlen : ws.length = ns.length := by rw [hds.length, List.length_map]
    refine call_bytes_ints ⟨o, R.fz hz, hoc, k, hod⟩ (ints_are hds) hr (by rw [hlen, sizeLine_eq]; lia) (F.hand hc) fun h' t k hk => ?_
    exact h ω _ _ (.refl ..) (R.grow hk) (.d (.bytes _ _))
theorem f_isstr : OpN c n (fun vs => call (.builtin "isinstance") vs) [.d (.str x), .val (.type "str")] σ (.d (.bool true)) σ := fun S f F ω s Q E vs R A h => by
  obtain ⟨v, w, rfl, A1, B⟩ := A.two
  have A := A1
  cases B
  cases A1.toD with | str _ t => exact PySem.IsiPair.str_str (h ω _ _ (.refl ..) R (.d (.bool _)))
theorem sub_bytes_str : isSubtype (.type "bytes") (.type "str") = pure false := by rw [isSubtype_type]; kernel_rfl
theorem f_isbytes {b : Array UInt8} : OpN c n (fun vs => call (.builtin "isinstance") vs) [.d (.bytes b), .val (.type "str")] σ (.d (.bool false)) σ := fun S f F ω s Q E vs R A h => by
  obtain ⟨v, w, rfl, A1, B⟩ := A.two
  have A := A1
  cases B
  cases A1.toD with
  | bytes _ t =>
    refine call_isinstance_of ?_ (by intro e; cases e)
    exact isinstance_nested_false_bytes (by decide +kernel) PySem.F.isi_meta_str sub_bytes_str (h ω _ _ (.refl ..) R.toks (.d (.bool _)))
theorem gm_isalpha : GetM c n (.d (.str x)) "isalpha" σ (.builtin "str.isalpha") := fun S f F ω s Q E v pl R A h => by
  cases A.toD with | str _ t => exact PySem.GM.isalpha h
theorem f_isalpha : OpN c n (fun vs => call (.builtin "str.isalpha") vs) [.d (.str x)] σ (.d (.bool (Txt.isalpha x))) σ := fun S f F ω s Q E vs R A h => by
  obtain ⟨v, rfl, A1⟩ := A.oneD
  have A := A1
  cases A with | str _ t => exact PySem.SC.isalpha (h ω _ _ (.refl ..) R (.d (.bool _)))
end
end Mine
namespace Mine
open PySem PySem.W PyProof.Rows PySem.Calls PySem.Spec
noncomputable def latin (b : Array UInt8) : Str := ⟨b.map (·.toNat)⟩
theorem lat_loop {α : Type} {b : Array UInt8} {body : Nat → Nat × Array Nat × α → Sem (ForInStep (Nat × Array Nat × α))} (hb : ∀ x p st, p < b.size → body x (p, (b.take p).map (·.toNat), st) = pure (.yield (p + 1, (b.take (p + 1)).map (·.toNat), st))) :
    ∀ k p st, p + k = b.size → forIn (List.range' p k) (p, (b.take p).map (·.toNat), st) body = pure (b.size, b.map (·.toNat), st) := by
  intro k
  induction k with
  | zero => intro p st hp; simp at hp; subst hp; simp
  | succ k ih =>
    intro p st hp
    rw [List.range'_succ, List.forIn_cons, hb _ p st (by lia)]
    exact ih (p + 1) st (by lia)
open Builtin in
theorem lat_run {id : String} {b : Array UInt8} (hb : b.size ≤ sizeLine) : _codecs.runDecoder id _codecs.latin1Decoder none true b 0 [] = pure (b.map (·.toNat), b.size) := by
  unfold _codecs.runDecoder
  simp only [Std.Legacy.Range.forIn_eq_forIn_range', Std.Legacy.Range.size]
  have e0 : (#[] : Array Nat) = (b.take 0).map (·.toNat) := by simp
  have e1 : (b.size - 0 + 1 - 1) / 1 = b.size := by lia
  rw [e0, e1]
  refine (congrArg (fun m => m >>= _) (lat_loop (fun x p st hp => ?_) b.size 0 _ (by lia))).trans rfl
  have h1 : ¬ ((b.take p).map (·.toNat)).size > sizeLine := by simp; lia
  have h2 : ¬ p ≥ b.size := by lia
  have h3 : _codecs.latin1Decoder.find true b p = .text [(b.getD p 0).toNat] (p + 1) := rfl
  have h4 : (b.take p).map (·.toNat) ++ [(b.getD p 0).toNat].toArray = (b.take (p + 1)).map (·.toNat) := by
    apply Array.toList_inj.mp
    simp [List.take_add_one, hp]
  simp only [h1, h2, h3, h4, if_false, pure_bind]
open Builtin in
theorem lat_road {id : String} {b : Array UInt8} (hb : b.size ≤ sizeLine) : _codecs.decodeRoad id b (PySem.Str.ofString "latin1") none [] = mkStr (latin b) := by
  have e : _codecs.decodeRoad id b (PySem.Str.ofString "latin1") none [] = (_codecs.runDecoder id _codecs.latin1Decoder none true b 0 [] >>= fun r => mkStr ⟨r.1⟩) := by kernel_rfl
  rw [e, lat_run hb]; rfl
open Builtin in
theorem lat_text {b : Array UInt8} {t t1 t2 : Tok} {d : PySem.Str} (hb : b.size ≤ sizeLine) :
    Meets («_codecs.decode.text» ⟨[.bytes b t, .str (PySem.Str.ofString "latin1") t1, .none, .str d t2], []⟩) (fun _ R s => R (.ok (.ret (.str (latin b) s.toks))) { s with toks := s.toks + 1 }) := by
  refine .of_wp fun prog w A R s h => ?_
  show wpAny _ _ (Bytes.bytesLike _ (.bytes b t) >>= fun r => _) _ _ s
  refine wpAny_bind (wpAny_of_eq KBd.like_eq ?_)
  refine wpAny_bind (wpAny_of_eq KBd.held_eq ?_)
  show wpAny _ _ (_codecs.decodeRoad _ b (PySem.Str.ofString "latin1") none [] >>= fun v => _) _ _ s
  rw [lat_road hb]
  exact wpAny_bind (wpAny_mkStr (wpAny_pure ⟨_, rfl, h⟩) (by show (b.map (·.toNat)).size ≤ _; simpa using hb))
open Builtin in
theorem lat_entry {c : UInt8} {cs : List UInt8} {t u : Tok} : «bytes.decode» ⟨[.bytes (c :: cs).toArray t], [("encoding", .str (PySem.Str.ofString "latin1") u)]⟩ = (mkStr (PySem.Str.ofString "utf-8") >>= fun _ => mkStr (PySem.Str.ofString "latin1") >>= fun e => mkStr (PySem.Str.ofString "bytes.decode") >>= fun d =>
    call (.builtin "_codecs.decode.text") [.bytes (c :: cs).toArray t, e, .none, d] >>= fun v => ret v) := by kernel_rfl
theorem lat_args {b : Array UInt8} {e : Value} {t : Tok} : argsOk "bytes.decode" ⟨[.bytes b t], [("encoding", e)]⟩ := by unfold argsOk; kernel_rfl
section
variable {prog : Program} {w : World} {A : Around} {E : Value → Shared → Prop} {s : Shared}
theorem lat_decode {b : Array UInt8} {t u : Tok} {Q : Value → Shared → Prop} (h0 : 0 < b.size) (hb : b.size ≤ sizeLine) (h : ∀ t' k, Q (.str (latin b) t') { s with toks := k }) :
    wpAny (model prog w) A (call (.builtin "bytes.decode") [.bytes b t] [("encoding", .str (PySem.Str.ofString "latin1") u)]) Q E s := by
  obtain ⟨c, cs, rfl⟩ : ∃ c cs, b = List.toArray (c :: cs) := by
    cases e : b.toList with
    | nil => have : b.size = 0 := by rw [← Array.length_toList, e]; rfl
             lia
    | cons c cs => exact ⟨c, cs, by rw [← e]⟩
  refine wpAny_call_entry_kw FB.slot_bytes_decode (typeIs_bytes _ _ _) FB.entry_bytes_decode ?_ lat_args
  rw [lat_entry]
  refine wpAny_bind (wpAny_mkStr ?_ (by decide))
  refine wpAny_bind (wpAny_mkStr ?_ (by decide))
  refine wpAny_bind (wpAny_mkStr ?_ (by decide))
  exact wpAny_bind (call_function_meets KBd.kind_text KBd.plain_text KBd.entry_text (KBd.args_text _ _ _ _) (lat_text hb) (wpAny_pure ⟨_, rfl, h _ _⟩))
end
theorem sub_bytes_bytes' : isSubtype (.type "bytes") (.type "bytes") = pure true := by rw [isSubtype_type]; kernel_rfl
open Builtin in
theorem lat_new {b : Array UInt8} {t u : Tok} (h0 : 0 < b.size) (hb : b.size ≤ sizeLine) : Meets («str.__new__» ⟨[.type "str", .bytes b t, .str (PySem.Str.ofString "latin1") u], []⟩) (fun _ R s => ∀ t' k, R (.ok (.ret (.str (latin b) t'))) { s with toks := k }) := by
  refine .of_wp fun prog w A R s h => ?_
  unfold «str.__new__»
  refine wpAny_bind (wpAny_pure ?_)
  refine wpAny_bind (wpAny_of_eq isSubtype_str_str ?_)
  refine wpAny_bind (wpAny_of_eq (a := [some (.bytes b t), some (.str (PySem.Str.ofString "latin1") u), none]) (by kernel_rfl) ?_)
  refine wpAny_bind (wpAny_of_eq (a := some (PySem.Str.ofString "latin1")) (by kernel_rfl) ?_)
  refine wpAny_bind (wpAny_of_eq (a := none) (by kernel_rfl) ?_)
  refine wpAny_bind ?_
  refine wpAny_bind (wpAny_bind (wpAny_mkStr (wpAny_pure ?_) (by decide)))
  refine wpAny_bind (wpAny_pure ?_)
  refine wpAny_bind (wpAny_isInstance (typeIs_bytes _ _ _) sub_bytes_bytes' ?_)
  refine wpAny_bind (wpAny_rule ?_)
  refine lat_decode h0 hb fun t' k => ?_
  exact wpAny_pure ⟨_, rfl, h t' k⟩
theorem lat_init {o b e : Value} : argsOk "object.__init__" ⟨[o, b, e], []⟩ := by unfold argsOk; kernel_rfl
section
variable {prog : Program} {w : World} {A : Around} {E : Value → Shared → Prop} {s : Shared}
theorem str_latin {b : Array UInt8} {t u : Tok} {Q : Value → Shared → Prop} (h0 : 0 < b.size) (hb : b.size ≤ sizeLine) (h : ∀ t' k, Q (.str (latin b) t') { s with toks := k }) :
    wpAny (model prog w) A (call (.type "str") [.bytes b t, .str (PySem.Str.ofString "latin1") u]) Q E s :=
  callType_new PySem.F.called_str (by decide) (by kernel_rfl) (by kernel_rfl) (fun obj => lat_init) PySem.F.entry_str_new (lat_new h0 hb) fun t' k => ⟨typeIs_str _ _ _, h t' k⟩
end
theorem f_latin {c : Cx} {n : Nat} {σ : St} {b : Array UInt8} (h0 : 0 < b.size) (hb : b.size ≤ 10000) : OpN c n (fun vs => call (.type "str") vs) [.d (.bytes b), .d (.str (PySem.Str.ofString "latin1"))] σ (.d (.str (latin b))) σ := fun S f F ω s Q E vs R A h => by
  obtain ⟨v, w, rfl, A1, B⟩ := A.twoD
  have A := A1
  cases A with
  | bytes _ t => cases B with
    | str _ u => exact str_latin h0 (sz hb) fun t' k => h ω _ _ (.refl ..) R.toks (.d (.str _ _))
end Mine
namespace Mine
open PySem PySem.W PyProof.Rows PySem.Calls PySem.Spec
noncomputable def ExcAt (h : Heap) (e : Addr) (cls a0 : Value) (dx : Option Addr) (tb : Option (Addr × Value)) : Prop :=
  ∃ oe vs, h.get? e = some oe ∧ oe.cls = cls ∧ oe.dict = dx ∧ oe.data = .fields vs ∧ vs[0]? = some a0 ∧ vs[2]? = some .none ∧ match tb with
    | none => vs[1]? = some .none
    | some (T, fl) => vs[1]? = some (.ref T) ∧ T ≠ e ∧ ∃ oT ts, h.get? T = some oT ∧ oT.data = .fields ts ∧ ts[3]? = some fl
noncomputable def frs (l : List Env) : List Addr := l.filterMap (·.frame)
theorem not_frs {base h : Heap} {l : List Env} {b : Addr} {o : Obj} {vs : Array Value} (hl : h.FunFrames base l) (hb : h.get? b = some o) (hd : o.data = .fields vs) : b ∉ frs l := fun hm => by
  obtain ⟨_, o', ho', hnf⟩ := hl.mem hm
  rw [hb] at ho'; cases ho'; exact hnf vs hd
section
variable {M : Model} {A : Around} {E : Value → Shared → Prop} {s : Shared}
theorem note_any {base : Heap} {env : Env} {outer : List Env} {L e : Addr} {cls a0 : Value} {dx : Option Addr} {tb : Option (Addr × Value)} {Q : Unit → Shared → Prop}
    (hfr : A.frames = some (env :: outer)) (hl : s.heap.FunFrames base (env :: outer)) (hf : env.frame = some L) (X : ExcAt s.heap e cls a0 dx tb) (htb : tb = none ∨ ∃ T, tb = some (T, .none))
    (h : ∀ h' T', (∀ b o, b ∉ frs (env :: outer) → b ≠ e → (∀ T v, tb = some (T, v) → b ≠ T) → s.heap.get? b = some o → h'.get? b = some o) →
      (∀ b o, b ∈ frs (env :: outer) → s.heap.get? b = some o → ∃ sl, h'.get? b = some { o with slots := sl }) → ExcAt h' e cls a0 dx (some (T', rawInt L)) → s.heap.get? T' = none → Q () { s with heap := h' }) :
    wpAny M A (noteFrame (.ref e) env) Q E s := by
  obtain ⟨oe, vs, he, hc, hdx, hd, h0, h2c, htb'⟩ := X
  -- the common end: a new entry behind the head
  have tail : ∀ (s₁ : Shared) (head : Value) (had : Bool), s₁.heap.FunFrames base (env :: outer) → s₁.heap.get? e = some oe → 1 < vs.size → s₁.heap.objs.size = s.heap.objs.size → s₁.gens = s.gens → s₁.drawn = s.drawn → s₁.toks = s.toks → s₁.os = s.os →
      (∀ b o, b ∉ frs (env :: outer) → b ≠ e → (∀ T v, tb = some (T, v) → b ≠ T) → s.heap.get? b = some o → s₁.heap.get? b = some o) → (∀ b o, b ∈ frs (env :: outer) → s.heap.get? b = some o → s₁.heap.get? b = some o) →
      wpAny M A (do setField (.ref e) 1 (← EntryCells.newEntry head (← frameOf env) .none (rawInt L) .none (← entryPlaceOf L had))) Q E s₁ := by
    intro s₁ head had hl₁ he₁ hsz hss eg ed et eo hk hfk
    refine wpAny_bind (wpAny_frameOf_fun hfr hl₁ hf fun h₁ hs₁ => ?_)
    refine wpAny_bind (wpAny_entryPlaceOf fun pl hpl => ?_)
    unfold EntryCells.newEntry newFields
    refine wpAny_bind (wpAny_newObj_type ?_ (hpl.sizeOk5 _ _ _ _ _))
    have hen : e ∉ frs (env :: outer) := not_frs hl₁ he₁ hd
    have he₂ : h₁.get? e = some oe := (hs₁.2.1 e hen).trans he₁
    have hTe : h₁.objs.size ≠ e := Nat.ne_of_gt (Heap.lt_size he₂)
    refine wpAny_setField (Heap.get?_push_of_some _ he₂) hd hsz ?_
    have hd₃ := Obj.data_mapFields hd (·.setIfInBounds 1 (Value.ref h₁.objs.size))
    have keep : ∀ b o, b ≠ e → h₁.get? b = some o → ((h₁.push { cls := .type "traceback", dict := none, data := .fields ([head, .ref L, .none, rawInt L, .none] ++ (if pl.isEmpty then List.replicate 6 Value.none else pl)).toArray }).update e (Obj.mapFields (·.setIfInBounds 1 (Value.ref h₁.objs.size)))).get? b = some o := fun b o hbe hb => by
      rw [Heap.get?_update_other _ _ (Ne.symm hbe)]
      exact Heap.get?_push_of_some _ hb
    have fin := h ((h₁.push { cls := .type "traceback", dict := none, data := .fields ([head, .ref L, .none, rawInt L, .none] ++ (if pl.isEmpty then List.replicate 6 Value.none else pl)).toArray }).update e (Obj.mapFields (·.setIfInBounds 1 (Value.ref h₁.objs.size)))) h₁.objs.size
      (fun b o hb hbe hbT e1 => keep b o hbe ((hs₁.2.1 b hb).trans (hk b o hb hbe hbT e1)))
      (fun b o hb e1 => by
        obtain ⟨sl, hsl⟩ := hs₁.2.2 b o (hfk b o hb e1)
        exact ⟨sl, keep b _ (fun q => hen (q ▸ hb)) hsl⟩)
      ⟨_, _, Heap.get?_update_self _ (Heap.get?_push_of_some _ he₂) (Obj.isFreed_of_fields hd₃), (Obj.cls_mapFields _ _).trans hc, by obtain ⟨c, d, dt, sl⟩ := oe; cases hd; exact hdx, hd₃, by rw [Array.getElem?_setIfInBounds_ne (by decide)]; exact h0, by rw [Array.getElem?_setIfInBounds_ne (by decide)]; exact h2c, by simp [hsz], hTe,
        _, _, by rw [Heap.get?_update_other _ _ (Ne.symm hTe)]; exact Heap.get?_push_size h₁ rfl, rfl, by simp⟩
      (Heap.get?_none_of_le (by rw [hs₁.1, hss]; exact Nat.le_refl _))
    obtain ⟨hp1, g1, d1, t1, o1⟩ := s₁
    cases eg; cases ed; cases et; cases eo
    exact fin
  have hsz : 1 < vs.size := by
    rcases htb with rfl | ⟨T, rfl⟩
    · exact (Array.getElem?_eq_some_iff.mp htb').1
    · exact (Array.getElem?_eq_some_iff.mp htb'.1).1
  unfold noteFrame
  simp only [hf]
  rcases htb with rfl | ⟨T, rfl⟩
  · refine wpAny_bind (wpAny_field he hd htb' ?_)
    rw [if_neg (by decide)]
    exact tail s _ _ hl he hsz rfl rfl rfl rfl rfl (fun _ _ _ _ _ e => e) fun _ _ _ e => e
  · obtain ⟨h1, hTe, oT, ts, hT, hdT, h3⟩ := htb'
    refine wpAny_bind (wpAny_field he hd h1 ?_)
    rw [if_pos (show (Value.ref T != Value.none) = true from by simp)]
    refine wpAny_bind (wpAny_field hT hdT h3 ?_)
    rw [if_neg (show ¬ ((Value.none == rawInt L) = true) from by simp [rawInt])]
    refine wpAny_bind (wpAny_setField hT hdT (Array.getElem?_eq_some_iff.mp h3).1 ?_)
    have hTn : T ∉ frs (env :: outer) := not_frs hl hT hdT
    have other : ∀ b, b ≠ T → (s.heap.update T (Obj.mapFields (·.setIfInBounds 3 Value.none))).get? b = s.heap.get? b := fun b hb => Heap.get?_update_other _ _ (Ne.symm hb)
    refine tail { s with heap := s.heap.update T (Obj.mapFields (·.setIfInBounds 3 Value.none)) } _ _ (hl.of_keeps fun b o hb hnf => ⟨o, (other b fun q => by rw [q, hT] at hb; cases hb; exact hnf ts hdT).trans hb, rfl⟩) ((other e (Ne.symm hTe)).trans he) hsz (Heap.size_after_update ..) rfl rfl rfl rfl
      (fun b o hb hbe hbT e1 => (other b (hbT T _ rfl)).trans e1) fun b o hb e1 => (other b fun q => hTn (q ▸ hb)).trans e1
theorem flight_any {e T : Addr} {cls a0 fl : Value} {dx : Option Addr} {fr : Option Addr} {Q : Unit → Shared → Prop} (X : ExcAt s.heap e cls a0 dx (some (T, fl)))
    (h : ∀ h', (∀ b o, b ≠ T → s.heap.get? b = some o → h'.get? b = some o) → ExcAt h' e cls a0 dx (some (T, fr.elim .none fun f => rawInt f)) → Q () { s with heap := h' }) : wpAny M A (setFlight (.ref e) fr) Q E s := by
  obtain ⟨oe, vs, he, hc, hdx, hd, h0, h2c, h1, hTe, oT, ts, hT, hdT, h3⟩ := X
  unfold setFlight
  refine wpAny_bind (wpAny_field he hd h1 ?_)
  rw [if_pos (show (Value.ref T != Value.none) = true from by simp)]
  have h3' := (Array.getElem?_eq_some_iff.mp h3).1
  refine wpAny_setField hT hdT h3' (h _ (fun b o hb e1 => (Heap.get?_update_other _ _ (Ne.symm hb)).trans e1) ?_)
  have hd₃ := Obj.data_mapFields hdT (·.setIfInBounds 3 (fr.elim Value.none fun f => rawInt f))
  exact ⟨oe, vs, (Heap.get?_update_other _ _ hTe).trans he, hc, hdx, hd, h0, h2c, h1, hTe, _, _, Heap.get?_update_self _ hT (Obj.isFreed_of_fields hd₃), hd₃, by simp [h3']⟩
end
end Mine
namespace Mine
open PySem PySem.W PyProof.Rows PySem.Calls PySem.Spec
noncomputable def Cx.loud (c : Cx) : Cx := { c with calm := false }
noncomputable def Fm.mark (f : Fm) (e : Value) : Fm := { f with A := f.A.mark (some e) }
theorem VR.loud {c : Cx} {n : Nat} {ω : Om} {X : V} {v : Value} (h : VR c n ω X v) : VR c.loud n ω X v := by
  cases h with
  | d q => exact .d q
  | obj a b => exact .obj a b
  | val => exact .val _
  | meth a b q => exact .meth a b q
  | exn h1 h2 h3 h4 h5 h6 => exact .exn h1 h2 h3 h4 h5 h6
theorem VR.unloud {c : Cx} {n : Nat} {ω : Om} {X : V} {v : Value} (h : VR c.loud n ω X v) : VR c n ω X v := by
  cases h with
  | d q => exact .d q
  | obj a b => exact .obj a b
  | val => exact .val _
  | meth a b q => exact .meth a b q
  | exn h1 h2 h3 h4 h5 h6 => exact .exn h1 h2 h3 h4 h5 h6
theorem RelE.loud {c : Cx} {n : Nat} {f : Fm} {ω : Om} {σ : St} {s : Shared} {e : Value} (R : RelE c n f ω σ s) : RelE c.loud n (f.mark e) ω σ s := by
  obtain ⟨m, Mc, Mh, FR, r⟩ := R
  refine ⟨m, Mc, Mh, FR, ⟨r.fr, r.nw, r.nd, r.frs, r.cells, r.cinj, r.heap, fun x X hx hl => ?_, r.gens, r.drawn, r.os⟩⟩
  cases r.locs x X hx hl with
  | loc a b d => exact .loc a b d.loud
  | cell a b d e g => exact .cell a b d e g.loud
  | free a b d e g => exact .free a b d e g.loud
theorem RelE.unloud {c : Cx} {n : Nat} {f : Fm} {ω : Om} {σ : St} {s : Shared} {e : Value} (R : RelE c.loud n (f.mark e) ω σ s) : RelE c n f ω σ s := by
  obtain ⟨m, Mc, Mh, FR, r⟩ := R
  refine ⟨m, Mc, Mh, FR, ⟨r.fr, r.nw, r.nd, r.frs, r.cells, r.cinj, r.heap, fun x X hx hl => ?_, r.gens, r.drawn, r.os⟩⟩
  cases r.locs x X hx hl with
  | loc a b d => exact .loc a b d.unloud
  | cell a b d e g => exact .cell a b d e g.unloud
  | free a b d e g => exact .free a b d e g.unloud
theorem FmOk.loud {c : Cx} {S : Scope} {n : Nat} {f : Fm} {e : Value} (F : FmOk c S n f) : FmOk c.loud S n (f.mark e) :=
  ⟨F.scope, F.kind, F.globals, F.builtins, F.depth, F.units, F.guards, F.frames, (fun h => Bool.noConfusion h), F.cellsOk, F.freeOk, F.keys⟩
theorem CxOk.loud {c : Cx} (h : CxOk c) : CxOk c.loud := ⟨h.kin, h.g, h.b, h.nolimit, h.nodigits, h.low⟩
theorem FlR.unloud {c : Cx} {n : Nat} {ω : Om} {fl : Fl} {F : Flow} (h : FlR c.loud n ω fl F) : FlR c n ω fl F := by
  cases h with
  | next => exact .next
  | brk => exact .brk
  | cont => exact .cont
  | ret q => exact .ret q.unloud
section
variable {c : Cx} {S : Scope} {n : Nat} {σ σ' σ₁ σ₂ σ₃ σ₄ : St} {X Y Z : V} {e l r t test target iter fn : Expr} {es : List Expr} {Xs : List V} {pos tpos : Pos} {st : Stmt} {sts : List Stmt} {fl fl' : Fl} {x y : Str} {body orelse : List Stmt} {f : Fm} {ω : Om} {s : Shared}
theorem FrR.slots {fr : List (Addr × (Str → Option Value))} {FR : Led} {h h' : Heap} (F : FrR fr FR) (hin : ∀ p ∈ FR, h.get? p.1 = some p.2) (hk : ∀ p ∈ FR, ∃ sl, h'.get? p.1 = some { p.2 with slots := sl }) :
    ∃ FR', FrR fr FR' ∧ FR'.map (·.1) = FR.map (·.1) ∧ ∀ p ∈ FR', h'.get? p.1 = some p.2 := by
  induction F with
  | nil => exact ⟨[], .nil, rfl, fun _ h => nomatch h⟩
  | @cons L m o es ep l F h1 h2 h3 h4 ih =>
    obtain ⟨FR', a, b, d⟩ := ih (fun p hp => hin p (.tail _ hp)) fun p hp => hk p (.tail _ hp)
    obtain ⟨sl, hs⟩ := hk _ (.head _)
    exact ⟨(L, { o with slots := sl }) :: FR', .cons h1 h2 h3 a, by rw [List.map_cons, List.map_cons, b], fun p hp => by
      rcases List.mem_cons.mp hp with rfl | hp
      · exact hs
      · exact d p hp⟩
theorem FrR.mem {fr : List (Addr × (Str → Option Value))} {FR : Led} (F : FrR fr FR) : FR.map (·.1) = fr.map (·.1) := by
  induction F with
  | nil => rfl
  | cons _ _ _ _ ih => rw [List.map_cons, List.map_cons, ih]
theorem FrR.dict {fr : List (Addr × (Str → Option Value))} {FR : Led} (F : FrR fr FR) {p : Addr × Obj} (hp : p ∈ FR) : ∃ es ep, p.2.data = .dict es ep := by
  induction F with
  | nil => cases hp
  | cons h1 _ _ _ ih =>
    rcases List.mem_cons.mp hp with rfl | hp
    · exact ⟨_, _, h1⟩
    · exact ih hp
theorem Rel.slotsX {Fs Xs : List Addr} {h' : Heap} {tk : Tok} {m : Str → Option Value} {Mc Mh FR : Led} (r : Rel c n f ω σ s m Mc Mh FR) (hX : ∀ p ∈ Mc ++ (Mh ++ (ω.Z ++ (FR ++ f.keep))), p.1 ∉ Xs) (hXb : ∀ b o, c.base.get? b = some o → b ∉ Xs) (hXL : f.env.locals ∉ Xs)
    (hF : ∀ b ∈ Fs, b = f.env.locals ∨ ∃ m, (b, m) ∈ f.fr) (hk : ∀ b o, b ∉ Fs → b ∉ Xs → s.heap.get? b = some o → h'.get? b = some o)
    (hs : ∀ b o, b ∈ Fs → s.heap.get? b = some o → ∃ sl, h'.get? b = some { o with slots := sl }) : ∃ FR', Rel c n f ω σ { s with heap := h', toks := tk } m Mc Mh FR' ∧ FR'.map (·.1) = FR.map (·.1) := by
  have any : ∀ b o, b ∉ Xs → s.heap.get? b = some o → ∃ sl, h'.get? b = some { o with slots := sl } := fun b o hx hb => by
    by_cases hm : b ∈ Fs
    · exact hs b o hm hb
    · exact ⟨o.slots, hk b o hm hx hb⟩
  have inFR : ∀ b ∈ Fs, b = f.env.locals ∨ b ∈ FR.map (·.1) := fun b hb => by
    rcases hF b hb with h | ⟨m, h⟩
    · exact .inl h
    · rw [r.frs.mem]; exact .inr (List.mem_map.mpr ⟨_, h, rfl⟩)
  have nwFR : ∀ p ∈ FR, p ∈ Mc ++ (Mh ++ (ω.Z ++ (FR ++ f.keep))) := fun p hp => List.mem_append_right _ (List.mem_append_right _ (List.mem_append_right _ (List.mem_append_left _ hp)))
  obtain ⟨FR', a1, a2, a3⟩ := r.frs.slots (h' := h') (fun p hp => (r.nw p (nwFR p hp)).1) fun p hp => any _ _ (hX p (nwFR p hp)) (r.nw p (nwFR p hp)).1
  have keysEq : (Mc ++ (Mh ++ (ω.Z ++ (FR' ++ f.keep)))).map (·.1) = (Mc ++ (Mh ++ (ω.Z ++ (FR ++ f.keep)))).map (·.1) := by simp only [List.map_append, a2]
  have off : ∀ p, p ∈ Mc ∨ p ∈ Mh ∨ p ∈ ω.Z ∨ p ∈ f.keep → p.1 ∉ Fs := fun p hp hb => by
    have hp' : p ∈ Mc ++ (Mh ++ (ω.Z ++ (FR ++ f.keep))) := by
      simp only [List.mem_append]
      rcases hp with h | h | h | h
      · exact .inl h
      · exact .inr (.inl h)
      · exact .inr (.inr (.inl h))
      · exact .inr (.inr (.inr (.inr h)))
    rcases inFR _ hb with h | h
    · exact (r.nw p hp').2.1 h
    · have perm : (((Mc ++ (Mh ++ ω.Z)) ++ f.keep ++ FR).map (·.1)).Nodup := by
        have pp : ((Mc ++ (Mh ++ ω.Z)) ++ f.keep ++ FR).Perm (Mc ++ (Mh ++ (ω.Z ++ (FR ++ f.keep)))) := by
          have e1 : Mc ++ (Mh ++ (ω.Z ++ (FR ++ f.keep))) = (Mc ++ (Mh ++ ω.Z)) ++ (FR ++ f.keep) := by simp only [List.append_assoc]
          rw [e1, List.append_assoc]
          exact List.Perm.append_left _ List.perm_append_comm
        exact ((pp.map (·.1)).nodup_iff).mpr r.nd
      rw [List.map_append] at perm
      refine (List.nodup_append.mp perm).2.2 p.1 (List.mem_map.mpr ⟨p, ?_, rfl⟩) p.1 h rfl
      simp only [List.mem_append]
      rcases hp with h | h | h | h
      · exact .inl (.inl h)
      · exact .inl (.inr (.inl h))
      · exact .inl (.inr (.inr h))
      · exact .inr h
  have offB : ∀ b o, c.base.get? b = some o → b ∉ Fs := fun b o hb hm => by
    rcases inFR b hm with h | h
    · have q := Heap.lt_size hb
      have := r.fr.above
      rw [h] at q; exact absurd (Nat.lt_of_lt_of_le q this) (Nat.lt_irrefl _)
    · obtain ⟨p, hp, e⟩ := List.mem_map.mp h
      have := (r.nw p (nwFR p hp)).2.2
      have e' : p.1 = b := e
      rw [e', hb] at this; cases this
  obtain ⟨oL, es, ep, hL, hd, hsk, hf⟩ := r.fr.ns
  obtain ⟨sl, hL'⟩ := any _ _ hXL hL
  refine ⟨FR', ⟨⟨⟨_, es, ep, hL', hd, hsk, hf⟩, fun b o hb => hk b o (offB b o hb) (hXb b o hb) (r.fr.keep b o hb), r.fr.above⟩, fun p hp => ?_, keysEq ▸ r.nd, a1, r.cells, r.cinj, r.heap, r.locs, r.gens, r.drawn, r.os⟩, a2⟩
  have hp4 : p ∈ FR' ∨ (p ∈ Mc ∨ p ∈ Mh ∨ p ∈ ω.Z ∨ p ∈ f.keep) := by
    simp only [List.mem_append] at hp
    rcases hp with h | h | h | h | h
    · exact .inr (.inl h)
    · exact .inr (.inr (.inl h))
    · exact .inr (.inr (.inr (.inl h)))
    · exact .inl h
    · exact .inr (.inr (.inr (.inr h)))
  rcases hp4 with h | h
  · have hm : p.1 ∈ FR.map (·.1) := by rw [← a2]; exact List.mem_map.mpr ⟨p, h, rfl⟩
    obtain ⟨q, hq, e⟩ := List.mem_map.mp hm
    have z := (r.nw q (nwFR q hq)).2
    exact ⟨a3 p h, by have e' : q.1 = p.1 := e; rw [← e']; exact z.1, by have e' : q.1 = p.1 := e; rw [← e']; exact z.2⟩
  · have hp' : p ∈ Mc ++ (Mh ++ (ω.Z ++ (FR ++ f.keep))) := by
      simp only [List.mem_append]
      rcases h with h | h | h | h
      · exact .inl h
      · exact .inr (.inl h)
      · exact .inr (.inr (.inl h))
      · exact .inr (.inr (.inr (.inr h)))
    have z := r.nw p hp'
    exact ⟨hk _ _ (off p h) (hX p hp') z.1, z.2⟩
theorem RelE.slots {Fs : List Addr} {h' : Heap} {tk : Tok} (R : RelE c n f ω σ s) (hF : ∀ b ∈ Fs, b = f.env.locals ∨ ∃ m, (b, m) ∈ f.fr) (hk : ∀ b o, b ∉ Fs → s.heap.get? b = some o → h'.get? b = some o)
    (hs : ∀ b o, b ∈ Fs → s.heap.get? b = some o → ∃ sl, h'.get? b = some { o with slots := sl }) : RelE c n f ω σ { s with heap := h', toks := tk } := by
  obtain ⟨m, Mc, Mh, FR, r⟩ := R
  obtain ⟨FR', r', -⟩ := r.slotsX (Xs := []) (tk := tk) (fun _ _ h => nomatch h) (fun _ _ _ h => nomatch h) (fun h => nomatch h) hF (fun b o h1 _ h2 => hk b o h1 h2) hs
  exact ⟨m, Mc, Mh, FR', r'⟩
theorem Rel.addH {m : Str → Option Value} {Mc Mh FR m1 : Led} {i : Nat} {o : HO} {a : Addr} (r : Rel c n f ω σ s m Mc Mh FR) (ha : ω.ρ i = some a) (ho : HOR c.hs (fz c ω) o a m1)
    (h1 : News c.base f.env.locals s.heap m1) (nd1 : (m1.map (·.1)).Nodup) (off : ∀ p ∈ m1, p.1 ∉ (Mc ++ (Mh ++ (ω.Z ++ (FR ++ f.keep)))).map (·.1)) : Rel c n f ω ⟨σ.loc, (i, o) :: σ.heap⟩ s m Mc (m1 ++ Mh) FR := by
  have perm : (Mc ++ ((m1 ++ Mh) ++ (ω.Z ++ (FR ++ f.keep)))).Perm (m1 ++ (Mc ++ (Mh ++ (ω.Z ++ (FR ++ f.keep))))) := by
    rw [List.append_assoc]
    exact List.perm_append_comm_assoc ..
  refine ⟨r.fr, fun p hp => ?_, ?_, r.frs, r.cells, r.cinj, .cons ha ho r.heap, r.locs, r.gens, r.drawn, r.os⟩
  · rcases List.mem_append.mp (perm.subset hp) with h | h
    · exact h1 p h
    · exact r.nw p h
  · show ((Mc ++ ((m1 ++ Mh) ++ (ω.Z ++ (FR ++ f.keep)))).map (·.1)).Nodup
    rw [(perm.map (·.1)).nodup_iff, List.map_append]
    refine List.nodup_append.mpr ⟨nd1, r.nd, fun x hx y hy e => ?_⟩
    subst e
    obtain ⟨p, hp, rfl⟩ := List.mem_map.mp hx
    exact off p hp hy
theorem Rel.offH {m : Str → Option Value} {Mc Mh FR : Led} {i : Nat} {o : HO} {H : List (Nat × HO)} {loc : List (Nat × V)} (r : Rel c n f ω ⟨loc, (i, o) :: H⟩ s m Mc Mh FR) :
    ∃ a m0 M, ω.ρ i = some a ∧ HOR c.hs (fz c ω) o a m0 ∧ Rel c n f ω ⟨loc, H⟩ s m Mc M FR ∧ News c.base f.env.locals s.heap m0 ∧ (m0.map (·.1)).Nodup ∧ ∀ p ∈ m0, p.1 ∉ (Mc ++ (M ++ (ω.Z ++ (FR ++ f.keep)))).map (·.1) := by
  have hh := r.heap
  cases hh with
  | @cons _ _ a m0 M _ e1 e2 e3 =>
    have perm : (Mc ++ ((m0 ++ M) ++ (ω.Z ++ (FR ++ f.keep)))).Perm (m0 ++ (Mc ++ (M ++ (ω.Z ++ (FR ++ f.keep))))) := by
      rw [List.append_assoc]
      exact List.perm_append_comm_assoc ..
    have nd : ((m0 ++ (Mc ++ (M ++ (ω.Z ++ (FR ++ f.keep))))).map (·.1)).Nodup := ((perm.map (·.1)).nodup_iff).mp r.nd
    rw [List.map_append] at nd
    obtain ⟨n1, n2, n3⟩ := List.nodup_append.mp nd
    exact ⟨a, m0, M, e1, e2, ⟨r.fr, fun p hp => r.nw p (perm.symm.subset (List.mem_append_right _ hp)), n2, r.frs, r.cells, r.cinj, e3, r.locs, r.gens, r.drawn, r.os⟩, fun p hp => r.nw p (perm.symm.subset (List.mem_append_left _ hp)), n1, fun p hp hq => n3 _ (List.mem_map.mpr ⟨p, hp, rfl⟩) _ hq rfl⟩
theorem turnX {Fs : List Addr} {h' : Heap} {tk : Tok} {m : Str → Option Value} {Mc M FR m0 m1 : Led} {i : Nat} {o' : HO} {a : Addr} {σ : St} (r : Rel c n f ω σ s m Mc M FR) (hm0 : News c.base f.env.locals s.heap m0) (off : ∀ p ∈ m0, p.1 ∉ (Mc ++ (M ++ (ω.Z ++ (FR ++ f.keep)))).map (·.1))
    (hF : ∀ b ∈ Fs, b = f.env.locals ∨ ∃ m, (b, m) ∈ f.fr) (hk : ∀ b o, b ∉ Fs → b ∉ m0.map (·.1) → s.heap.get? b = some o → h'.get? b = some o) (hs : ∀ b o, b ∈ Fs → s.heap.get? b = some o → ∃ sl, h'.get? b = some { o with slots := sl })
    (ha : ω.ρ i = some a) (ho : HOR c.hs (fz c ω) o' a m1) (h1 : ∀ p ∈ m1, h'.get? p.1 = some p.2) (hin : ∀ p ∈ m1, p.1 ∈ m0.map (·.1) ∨ s.heap.get? p.1 = none) (nd1 : (m1.map (·.1)).Nodup) :
    RelE c n f ω ⟨σ.loc, (i, o') :: σ.heap⟩ { s with heap := h', toks := tk } := by
  have base0 : ∀ b, b ∈ m0.map (·.1) → c.base.get? b = none ∧ b ≠ f.env.locals := fun b hb => by
    obtain ⟨p, hp, rfl⟩ := List.mem_map.mp hb
    exact ⟨(hm0 p hp).2.2, (hm0 p hp).2.1⟩
  obtain ⟨FR', r', e⟩ := r.slotsX (Fs := Fs) (Xs := m0.map (·.1)) (h' := h') (tk := tk) (fun p hp hx => by
      obtain ⟨q, hq, e⟩ := List.mem_map.mp hx
      exact off q hq (by rw [e]; exact List.mem_map.mpr ⟨p, hp, rfl⟩)) (fun b o hb hx => by rw [(base0 b hx).1] at hb; cases hb) (fun hx => (base0 _ hx).2 rfl) hF hk hs
  have keysEq : (Mc ++ (M ++ (ω.Z ++ (FR' ++ f.keep)))).map (·.1) = (Mc ++ (M ++ (ω.Z ++ (FR ++ f.keep)))).map (·.1) := by simp only [List.map_append, e]
  obtain ⟨oL, _, _, hL, _⟩ := r.fr.ns
  refine ⟨m, Mc, m1 ++ M, FR', r'.addH ha ho (fun p hp => ⟨h1 p hp, ?_⟩) nd1 fun p hp hq => ?_⟩
  · rcases hin p hp with h | h
    · exact ⟨(base0 _ h).2, (base0 _ h).1⟩
    · refine ⟨fun e => ?_, ?_⟩
      · have hL' : s.heap.get? f.env.locals = some oL := hL
        rw [← e, h] at hL'; cases hL'
      · cases q : c.base.get? p.1 with
        | none => rfl
        | some o => have := r.fr.keep _ _ q; rw [h] at this; cases this
  · rw [keysEq] at hq
    rcases hin p hp with h | h
    · obtain ⟨q, hq', e⟩ := List.mem_map.mp h
      exact off q hq' (by rw [e]; exact hq)
    · obtain ⟨q, hq', e⟩ := List.mem_map.mp hq
      have z := (r.nw q hq').1
      have e' : q.1 = p.1 := e
      rw [e', h] at z; cases z
theorem fun_frames {h : Heap} {l : List Env} (R : RelE c n f ω σ s) (hk : ∀ b o, s.heap.get? b = some o → h.get? b = some o) (hl : ∀ env ∈ l, env.scope.kind ≠ .module ∧ ∃ L, env.frame = some L ∧ (L = f.env.locals ∨ ∃ m, (L, m) ∈ f.fr)) : h.FunFrames c.base l := by
  obtain ⟨m, Mc, Mh, FR, r⟩ := R
  induction l with
  | nil => trivial
  | cons env l ih =>
    obtain ⟨a1, L, a2, a3⟩ := hl env (.head _)
    refine ⟨a1, ?_, ih fun env he => hl env (.tail _ he)⟩
    rcases a3 with rfl | ⟨m', hm⟩
    · obtain ⟨oL, es, ep, hL, hd, _⟩ := r.fr.ns
      exact ⟨_, oL, a2, get_above_none r.fr.above, hk _ _ hL, fun vs q => by rw [hd] at q; cases q⟩
    · have : L ∈ FR.map (·.1) := by rw [r.frs.mem]; exact List.mem_map.mpr ⟨_, hm, rfl⟩
      obtain ⟨p, hp, e⟩ := List.mem_map.mp this
      have e' : p.1 = L := e
      subst e'
      have z := r.nw p (List.mem_append_right _ (List.mem_append_right _ (List.mem_append_right _ (List.mem_append_left _ hp))))
      obtain ⟨es, ep, hd⟩ := r.frs.dict hp
      exact ⟨p.1, p.2, a2, z.2.2, hk _ _ z.1, fun vs q => by rw [hd] at q; cases q⟩
theorem frs_ok {l : List Env} (hl : ∀ env ∈ l, env.scope.kind ≠ .module ∧ ∃ L, env.frame = some L ∧ (L = f.env.locals ∨ ∃ m, (L, m) ∈ f.fr)) : ∀ b ∈ frs l, b = f.env.locals ∨ ∃ m, (b, m) ∈ f.fr := fun b hb => by
  obtain ⟨env, he, hf⟩ := List.mem_filterMap.mp hb
  obtain ⟨_, L, a2, a3⟩ := hl env he
  rw [a2] at hf; cases hf; exact a3
theorem ex_try_ok {h₀ : ExceptHandler} {hs : List ExceptHandler} (h : Exs c S n body σ fl σ₁) : Ex c S n (.Try body (h₀ :: hs) [] [] pos) σ fl σ₁ := fun f F ω s Q E R k => by
  refine wpAny_Try_except (h f F ω s _ _ R fun ω₁ G s₁ e₁ R₁ q => ?_)
  have z := k ω₁ G s₁ e₁ R₁ q
  cases q with
  | next => exact wpAny_execs_nil z
  | _ => exact z
end
end Mine
namespace Mine
open PySem PySem.W PyProof.Rows PySem.Calls PySem.Spec
section
variable {c : Cx} {S : Scope} {n : Nat} {σ σ' σ₁ σ₂ σ₃ σ₄ : St} {X Y Z : V} {e l r t test target iter fn : Expr} {es : List Expr} {Xs : List V} {pos tpos : Pos} {st : Stmt} {sts : List Stmt} {fl fl' : Fl} {x y : Str} {body orelse : List Stmt} {f : Fm} {ω : Om} {s : Shared}
theorem caught {s₀ : Shared} {h₁ : Heap} {tk : Tok} {e : Addr} {cls a0 : Value} {dx : Option Addr} {Q : Unit → Shared → Prop} {E : Value → Shared → Prop} (hdot : S.names.lookup dot0 = none) (F : FmOk c S n f) (R : RelE c n f ω σ s₀) (hk : ∀ b o, s₀.heap.get? b = some o → h₁.get? b = some o) (hn : s₀.heap.get? e = none)
    (X : ExcAt h₁ e cls a0 dx none) (k : ∀ h' T, (∀ h'', (∀ b o, b ≠ T → h'.get? b = some o → h''.get? b = some o) → RelE c n f ω σ { s₀ with heap := h'', toks := tk }) → ExcAt h' e cls a0 dx (some (T, .none)) → s₀.heap.get? T = none → Q () { s₀ with heap := h', toks := tk }) :
    wpAny (model c.prog c.w) f.A (noteFrame (.ref e) f.env) (fun _ s₂ => wpAny (model c.prog c.w) f.A (setFlight (.ref e) none) Q E s₂) E { s₀ with heap := h₁, toks := tk } := by
  obtain ⟨l, h1, h2, h3⟩ := F.frames
  obtain ⟨⟨l', rfl⟩, hf⟩ := h3 hdot
  have hl := fun_frames R hk h2
  refine note_any (A := f.A) (s := { s₀ with heap := h₁, toks := tk }) (base := c.base) (outer := l') h1 hl hf X (.inl rfl) fun h₂ T k1 k2 X2 hT => ?_
  refine flight_any (s := { s₀ with heap := h₂, toks := tk }) X2 fun h₃ k3 X3 => ?_
  have hT0 : s₀.heap.get? T = none := by
    cases q : s₀.heap.get? T with
    | none => rfl
    | some o =>
      have z := hk T o q
      have hT' : h₁.get? T = none := hT
      rw [hT'] at z; cases z
  refine k h₃ T (fun h₄ k4 => R.slots (Fs := frs (f.env :: l')) (frs_ok h2) (fun b o hb e1 => ?_) fun b o hb e1 => ?_) X3 hT0
  · have hbe : b ≠ e := fun q => by rw [q, hn] at e1; cases e1
    have hbT : b ≠ T := fun q => by rw [q, hT0] at e1; cases e1
    exact k4 b o hbT (k3 b o hbT (k1 b o hb hbe (fun _ _ q => nomatch q) (hk b o e1)))
  · obtain ⟨sl, hsl⟩ := k2 b o hb (hk b o e1)
    exact ⟨sl, k4 b _ (fun q => by rw [q, hT0] at e1; cases e1) (k3 b _ (fun q => by rw [q, hT0] at e1; cases e1) hsl)⟩
theorem ie1 : isSubtype (.type "IndexError") (.type "BaseException") = pure true := by rw [isSubtype_type]; kernel_rfl
theorem ie2 : isSubtype (.type ((Manifest.find? "IndexError").elim "type" fun x => x.metatype)) (.type "tuple") = pure false := by
  have : ((Manifest.find? "IndexError").elim "type" fun x => x.metatype) = "type" := by decide +kernel
  rw [this, isSubtype_type]; kernel_rfl
theorem ie3 : isSubtype (.type "IndexError") (.type "IndexError") = pure true := by rw [isSubtype_type]; kernel_rfl
theorem ex_try_index {tx : Str} {k : Int} {tp sp ap ip hp : Pos} {b₀ : Stmt} {suite : List Stmt} (hC : CxOk c) (hdot : S.names.lookup dot0 = none) (hc : c.calm = true)
    (h1 : Ev c S n l σ (.d (.str tx)) σ₁) (h2 : Ev c S n r σ₁ (.d (.int k)) σ₂) (hout : (seqIndex? k tx.length).bind (tx.cps[·]?) = none) (hk : -1000000 ≤ k ∧ k < 1000000)
    (hx : S.names.lookup ("IndexError" : Str) = some .globalImplicit) (hg : GlobIs c ("IndexError" : Str) (.type "IndexError")) (h3 : Exs c.loud S n (b₀ :: suite) σ₂ fl σ₃)
    (hs : ∀ o i, ∃ ops, subscripted r false o i = operate ops (getItem o i) := by intro o i; exact ⟨_, rfl⟩) :
    Ex c S n (.Try [.Assign [.Name x tp] (.Subscript l r sp) ap] [.ExceptHandler (some (.Name ("IndexError" : Str) ip)) none (b₀ :: suite) hp] [] [] pos) σ fl σ₃ := fun f F ω s Q E R kk => by
  refine wpAny_Try_except (wpAny_execs_cons (wpAny_Assign_Name (Subscript_ ?_) (swaps_no rfl)))
  refine h1 f F ω s _ _ R fun ω₁ v₁ s₁ e₁ R₁ A₁ => h2 f F ω₁ s₁ _ _ R₁ fun ω₂ v₂ s₂ e₂ R₂ A₂ => ?_
  have A₁ := (A₁.ext e₂).toD
  cases A₁ with
  | str _ t => cases A₂.toD with
    | int _ u =>
      obtain ⟨ops, hs⟩ := hs (.str tx t) (.int k u)
      refine tail_any (typeIs_str _ tx t) PySem.F.slot_str_getitem.lookup ?_ hs
      refine getItem_meets (typeIs_str _ tx t) (by decide) PySem.F.slot_str_getitem PySem.F.entry_str_getitem (PySem.F.args_str_getitem_2 _ _) (raises_str_getitem tx k t u (by simp only [Bool.or_eq_false_iff, decide_eq_false_iff_not]; lia) hout) ⟨F.hand hc, fun h₁ tk e NE => ?_⟩
      obtain ⟨ob, tt, ho, hcl, hd⟩ := NE.there
      show wpAny _ _ (noteFrame (.ref e) f.env) _ _ _
      refine caught (s₀ := s₂) hdot F R₂ NE.keeps NE.new (cls := .type "IndexError") (a0 := tt) (dx := ob.dict) ⟨ob, _, ho, hcl, rfl, hd, rfl, rfl, rfl⟩ fun h₂ T RR X₃ hT => ?_
      have R₃ := RR h₂ fun _ _ _ e => e
      refine wpAny_handleBy_builtin (X := "IndexError") (T := "IndexError") (b := true) ie1 ie2 ie3 ?_
      have FL := F.loud (e := .ref e)
      have RL : RelE c.loud n (f.mark (.ref e)) ω₂ σ₂ { s₂ with heap := h₂, toks := tk } := R₃.loud
      have mt := ev_glob (c := c.loud) (S := S) (n := n) (σ := σ₂) (pos := ip) hC.loud hx (by decide +kernel) hg
      obtain ⟨g1, g2⟩ : True ∧ True := ⟨trivial, trivial⟩
      have hkm : f.env.scope.kind = .function := by rw [F.scope]; exact F.kind
      have kx : f.env.kindOf ("IndexError" : Str) = some .globalImplicit := by unfold Env.kindOf; rw [F.scope]; exact hx
      have hgl : h₂.Ns f.env.globals c.mg := by rw [F.globals]; exact hC.g.keeps R₃.keep
      have hbl : h₂.Ns f.env.builtins c.mb := by rw [F.builtins]; exact hC.b.keeps R₃.keep
      have fin : ∀ (v : Value), v = .type "IndexError" → v = .type "IndexError" ∧ ({ s₂ with heap := h₂, toks := tk } : Shared).TypeIs (.ref e) "IndexError" ∧
          (if true = true then wpAny (model c.prog c.w) (f.A.mark (some (.ref e))) (setFlight (.ref e) none) (fun x s₃ => wpAny (model c.prog c.w) (f.A.mark (some (.ref e))) (execs (b₀ :: suite) f.env) Q (notedBy (model c.prog c.w) (f.A.mark (some (.ref e))) f.env (cameBackBy (model c.prog c.w) f.A f.env E)) s₃) (notedBy (model c.prog c.w) (f.A.mark (some (.ref e))) f.env (cameBackBy (model c.prog c.w) f.A f.env E)) { s₂ with heap := h₂, toks := tk }
            else wpAny (model c.prog c.w) f.A (handleBy (.ref e) f.env []) Q E { s₂ with heap := h₂, toks := tk }) := fun v hv => by
        refine ⟨hv, ?_, ?_⟩
        · obtain ⟨oe, vs, he, hc', _⟩ := X₃
          exact ⟨oe, he, hc'⟩
        · simp only [if_true]
          refine flight_any (s := { s₂ with heap := h₂, toks := tk }) X₃ fun h₃ k3 X4 => ?_
          have R₄ : RelE c n f ω₂ σ₂ { s₂ with heap := h₃, toks := tk } := RR h₃ k3
          refine h3 (f.mark (.ref e)) FL ω₂ { s₂ with heap := h₃, toks := tk } _ _ R₄.loud fun ω₃ G s₃ e₃ R₅ q => ?_
          exact kk ω₃ G s₃ ((e₁.trans e₂).down.trans e₃) R₅.unloud q.unloud
      refine Name_function_global hkm kx ?_ (by decide +kernel)
      rcases hg with hg | ⟨hg1, hg2⟩
      · exact loadGlobal_global hgl hg (fin _ rfl)
      · exact loadGlobal_builtin hgl hg1 hbl hg2 (fin _ rfl)
end
end Mine
namespace Mine
open PySem PySem.W PyProof.Rows PySem.Calls PySem.Spec
noncomputable def fdAt (K : Frag) (a : Addr) : FuncData := match K.lookup a with
  | some ⟨_, _, .func fd, _⟩ => fd
  | _ => default
noncomputable def scAt (K : Frag) (a : Addr) : Scope := (fdAt K a).scope
noncomputable def bodyAt (K : Frag) (a : Addr) : List Stmt := match (fdAt K a).body with
  | .stmts b => b
  | _ => []
theorem lk_setH {i : Nat} {o o' : HO} {H : List (Nat × HO)} (h : lk i H = some o) : lk i (setH i o' H) = some o' := by
  induction H with
  | nil => cases h
  | cons p H ih =>
    obtain ⟨k, x⟩ := p
    unfold lk at h
    unfold setH
    cases q : (k == i) with
    | true => unfold lk; rw [show (bif true then (k, o') :: H else (k, x) :: setH i o' H) = (k, o') :: H from rfl]; show (bif k == i then some o' else lk i H) = _; rw [q]; rfl
    | false => rw [q] at h; show (bif k == i then some x else lk i (setH i o' H)) = _; rw [q]; exact ih h
theorem setH_setH {i : Nat} {o o' : HO} {H : List (Nat × HO)} : setH i o' (setH i o H) = setH i o' H := by
  induction H with
  | nil => rfl
  | cons p H ih =>
    obtain ⟨k, x⟩ := p
    cases q : (k == i) with
    | true =>
      have e1 : setH i o ((k, x) :: H) = (k, o) :: H := by unfold setH; rw [q]; rfl
      rw [e1]; unfold setH; rw [q]; rfl
    | false =>
      have e1 : setH i o ((k, x) :: H) = (k, x) :: setH i o H := by show (bif k == i then _ else _) = _; rw [q]; rfl
      rw [e1]; show (bif k == i then _ else (k, x) :: setH i o' (setH i o H)) = (bif k == i then _ else (k, x) :: setH i o' H)
      rw [q, ih]; rfl
theorem lk_setH_ne {i j : Nat} {o' : HO} {H : List (Nat × HO)} (h : j ≠ i) : lk j (setH i o' H) = lk j H := by
  induction H with
  | nil => rfl
  | cons p H ih =>
    obtain ⟨k, x⟩ := p
    cases q : (k == i) with
    | true =>
      have e : k = i := by simpa using q
      have e1 : setH i o' ((k, x) :: H) = (k, o') :: H := by unfold setH; rw [q]; rfl
      rw [e1]
      have q2 : (k == j) = false := by simpa [e] using fun z => h z.symm
      show (bif k == j then some o' else lk j H) = (bif k == j then some x else lk j H)
      rw [q2]; rfl
    | false =>
      have e1 : setH i o' ((k, x) :: H) = (k, x) :: setH i o' H := by show (bif k == i then _ else _) = _; rw [q]; rfl
      rw [e1]
      show (bif k == j then some x else lk j (setH i o' H)) = (bif k == j then some x else lk j H)
      rw [ih]
section
variable {c : Cx} {S : Scope} {n : Nat} {σ σ' σ₁ σ₂ σ₃ σ₄ : St} {X Y Z : V} {e l r t test target iter fn : Expr} {es : List Expr} {Xs : List V} {pos tpos : Pos} {st : Stmt} {sts : List Stmt} {fl fl' : Fl} {x y : Str} {body orelse : List Stmt}
theorem lk1 {H : List (Nat × HO)} {l : List (Nat × V)} : lk (key x) (St.mk ((key x, X) :: l) H).loc = some X := by show (bif key x == key x then some X else _) = _; simp
theorem lk2 {H : List (Nat × HO)} {l : List (Nat × V)} {a : Nat} {r : Option V} (h : (a == key x) = false) (k : lk (key x) (St.mk l H).loc = r) : lk (key x) (St.mk ((a, Y) :: l) H).loc = r := by show (bif a == key x then some Y else lk (key x) l) = _; rw [h]; exact k
theorem lk3 : lk (key x) (St.set σ x X).loc = some X := lk1 (H := σ.heap)
theorem lk4 {r : Option V} (h : (key y == key x) = false) (k : lk (key x) σ.loc = r) : lk (key x) (St.set σ y Y).loc = r := lk2 (H := σ.heap) h k
theorem lk5 {H : List (Nat × HO)} {r : Option V} (k : lk (key x) σ.loc = r) : lk (key x) (St.mk σ.loc H).loc = r := k
theorem lk6 {H : List (Nat × HO)} {ps : List Str} {l : List V} : lk (key x) (St.mk (loc0 (x :: ps) (X :: l)) H).loc = some X := lk1
theorem lk7 {H : List (Nat × HO)} {ps : List Str} {l : List V} {r : Option V} (h : (key y == key x) = false) (k : lk (key x) (St.mk (loc0 ps l) H).loc = r) : lk (key x) (St.mk (loc0 (y :: ps) (Y :: l)) H).loc = r := lk2 h k
theorem nm (hv : isVar (S.names.lookup x) = true := by kernel_rfl) (hd : plainNm x = true := by kernel_rfl)
    (hx : lk (key x) σ.loc = some X := by repeat (first | with_reducible exact lk1 | with_reducible exact lk3 | with_reducible exact lk6 | with_reducible refine lk4 (by kernel_rfl) ?_ | with_reducible refine lk2 (by kernel_rfl) ?_ | with_reducible refine lk7 (by kernel_rfl) ?_ | with_reducible refine lk5 ?_)) : Ev c S n (.Name x pos) σ X σ := ev_name hv hd hx
theorem gl {v : Value} (hC : CxOk c) (hx : GlobIs c x v) (hv : S.names.lookup x = some .globalImplicit := by kernel_rfl) (hd : plainNm x = true := by kernel_rfl) : Ev c S n (.Name x pos) σ (.val v) σ := ev_glob hC hv hd hx
theorem gd {d : D} (hC : CxOk c) (hx : GlobD c x d) (hv : S.names.lookup x = some .globalImplicit := by kernel_rfl) (hd : plainNm x = true := by kernel_rfl) : Ev c S n (.Name x pos) σ (.d d) σ := ev_globd hC hv hd hx
theorem asg (h1 : Ev c S n e σ X σ₁) (hv : isOwnVar (S.names.lookup x) = true := by kernel_rfl) (hn : noComp e = true := by rfl) : Ex c S n (.Assign [.Name x tpos] e pos) σ .next (σ₁.set x X) := ex_asg hv h1 hn
theorem aug {op : Operator} (h1 : Ev c S n e σ Y σ₁) (h2 : Op2 c n (inplaceOp op) X Y σ₁ Z σ₂) (hv : isOwnVar (S.names.lookup x) = true := by kernel_rfl) (hd : plainNm x = true := by kernel_rfl)
    (hx : lk (key x) σ.loc = some X := by repeat (first | with_reducible exact lk1 | with_reducible exact lk3 | with_reducible exact lk6 | with_reducible refine lk4 (by kernel_rfl) ?_ | with_reducible refine lk2 (by kernel_rfl) ?_ | with_reducible refine lk7 (by kernel_rfl) ?_ | with_reducible refine lk5 ?_)) :
    Ex c S n (.AugAssign (.Name x tpos) op e pos) σ .next (σ₂.set x Z) := ex_aug hv hd hx h1 h2
theorem sattr {C : Addr} {as : List (Str × D)} {i : Nat} {name : Str} {d : D} {o : Expr} {H : List (Nat × HO)} (as' : List (Str × D)) (hC : CxOk c) (hk : SetOk c.K C name) (h1 : Ev c S n e σ (.d d) σ₁) (h2 : Ev c S n o σ₁ (.obj i) σ₂) (hh : σ₂.heap = setH i (.inst C as) H) {o' : HO} (hi : lk i H = some o') (hp : putD' name d as = as') (hl : as.length ≤ 900) (hn : noComp e = true := by rfl) :
    Ex c S n (.Assign [.Attribute o name tpos] e pos) σ .next ⟨σ₂.loc, setH i (.inst C as') H⟩ := by
  have z := ex_setattr (pos := pos) (tpos := tpos) hC hk h1 h2 (by rw [hh]; exact lk_setH hi) hl hn
  rw [hp, hh, setH_setH] at z
  exact z
theorem if_t (h0 : Ts c S n t σ true σ₁) (h1 : Exs c S n body σ₁ fl σ₂) : Ex c S n (.If t body orelse pos) σ fl σ₂ := ex_if h0 (fun _ => h1) (fun h => nomatch h)
theorem if_f (h0 : Ts c S n t σ false σ₁) (h1 : Exs c S n orelse σ₁ fl σ₂) : Ex c S n (.If t body orelse pos) σ fl σ₂ := ex_if h0 (fun h => nomatch h) (fun _ => h1)
noncomputable def allLoc (S : Scope) (ps : List Str) : Bool := ps.all fun x => match S.names.lookup x with | some .local => true | _ => false
noncomputable def noCell (S : Scope) : Bool := S.names.all fun x => match x.2 with | .cell => false | _ => true
noncomputable def fnOkX (K : Frag) (a : Addr) (ps : List Str) : Bool :=
  (match K.lookup a with | some ⟨_, _, .func _, _⟩ => true | _ => false) && codeIn K (fdAt K a).code (fdAt K a).qualname && (match (fdAt K a).body with | .stmts _ => true | _ => false) && (fdAt K a).globals == mainGlobals && (fdAt K a).builtins == builtinsNs &&
  allLoc (scAt K a) ps && noCell (scAt K a) && keysOkB (scAt K a) && !(scAt K a).isCoroutine && !(scAt K a).isGenerator && (match (scAt K a).kind with | .function => true | _ => false)
noncomputable def fnOk (K : Frag) (a : Addr) (ps : List Str) : Bool := fnOkX K a ps && (fdAt K a).closure.isEmpty
structure FnParts (K : Frag) (a : Addr) (ps : List Str) : Prop where
  obj : ∃ oc od osl, K.lookup a = some ⟨oc, od, .func (fdAt K a), osl⟩
  code : codeIn K (fdAt K a).code (fdAt K a).qualname = true
  body : (fdAt K a).body = .stmts (bodyAt K a)
  gl : (fdAt K a).globals = mainGlobals
  bu : (fdAt K a).builtins = builtinsNs
  loc : ∀ x ∈ ps, (scAt K a).names.lookup x = some .local
  cell : ∀ x ∈ (scAt K a).names, x.2 ≠ .cell
  free : ∀ x, (scAt K a).names.lookup x ≠ some .cell
  keys : KeysOk (scAt K a)
  co : (scAt K a).isCoroutine = false
  gen : (scAt K a).isGenerator = false
  kind : (scAt K a).kind = .function
theorem fn_parts {K : Frag} {a : Addr} {ps : List Str} (hok : fnOkX K a ps = true) : FnParts K a ps := by
  unfold fnOkX at hok
  simp only [Bool.and_eq_true] at hok
  obtain ⟨⟨⟨⟨⟨⟨⟨⟨⟨⟨h1, h2⟩, h3⟩, h4⟩, h5⟩, h7⟩, h8⟩, h9⟩, h10⟩, h11⟩, h12⟩ := hok
  refine ⟨?_, h2, ?_, by simpa using h4, by simpa using h5, fun x hx => ?_, fun x hx => ?_, fun x h => ?_, keysOk_of h9, by simpa using h10, by simpa using h11, ?_⟩
  · split at h1
    · rename_i oc od fd osl q
      exact ⟨oc, od, osl, by unfold fdAt; rw [q]⟩
    · cases h1
  · split at h3
    · rename_i b q; unfold bodyAt; rw [q]
    · cases h3
  · have z := List.all_eq_true.mp h7 x hx
    split at z
    · assumption
    · cases z
  · have z := List.all_eq_true.mp h8 x hx
    intro e
    rw [e] at z; cases z
  · have z := List.all_eq_true.mp h8 _ (lookup_mem h)
    cases z
  · split at h12
    · assumption
    · cases h12
theorem len1 {α : Type} {l : List α} (h : l.length = 1) : ∃ a, l = [a] := List.length_eq_one_iff.mp h
theorem lenS {α : Type} {l : List α} {n : Nat} (h : l.length = n + 1) : ∃ a m, l = a :: m ∧ m.length = n := by
  cases l with
  | nil => cases h
  | cons a m => exact ⟨a, m, rfl, by rw [List.length_cons] at h; lia⟩
theorem len2 {α : Type} {l : List α} (h : l.length = 2) : ∃ a b, l = [a, b] := by
  obtain ⟨a, m, e, h2⟩ := lenS (n := 1) h
  obtain ⟨b, e2⟩ := len1 h2
  exact ⟨a, b, by rw [e, e2]⟩
theorem len3 {α : Type} {l : List α} (h : l.length = 3) : ∃ a b d, l = [a, b, d] := by
  obtain ⟨a, m, e, h2⟩ := lenS (n := 2) h
  obtain ⟨b, d, e2⟩ := len2 h2
  exact ⟨a, b, d, by rw [e, e2]⟩
theorem len4 {α : Type} {l : List α} (h : l.length = 4) : ∃ a b d e, l = [a, b, d, e] := by
  obtain ⟨a, m, e0, h2⟩ := lenS (n := 3) h
  obtain ⟨b, d, e, e2⟩ := len3 h2
  exact ⟨a, b, d, e, by rw [e0, e2]⟩
theorem fn_at {K : Frag} {a : Addr} {ps : List Str} {d : D} {H T : List (Nat × HO)} {loc : List (Nat × V)} (hC : CxOk c) (hK : c.K = K) (hn : n ≤ 100) (hok : fnOk K a ps = true) (hps : ps.Nodup)
    (hbind : ∀ vs : List Value, vs.length = ps.length → bindArgs (fdAt K a) ⟨vs, []⟩ = pure (ps.zip vs)) (hlen : ps.length = Xs.length) (hS : S = scAt K a)
    (hbody : Exs c S (n + 1) (bodyAt K a) ⟨loc0 ps Xs, σ.heap⟩ fl ⟨loc, T ++ H⟩) (hg : Gives fl d) : FnN c n a Xs σ (.d d) ⟨σ.loc, H⟩ := by
  subst hK
  subst hS
  obtain ⟨hok, h6⟩ := Bool.and_eq_true_iff.mp hok
  have P := fn_parts hok
  obtain ⟨oc, od, osl, ho⟩ := P.obj
  exact fn_call hC hn ho P.code rfl P.body P.gl P.bu (by simpa using h6) hbind hlen hps P.loc P.cell P.free P.keys hbody hg P.co P.gen P.kind
end
end Mine
namespace Mine
open PySem PySem.W PyProof.Rows PySem.Calls PySem.Spec
structure BoundOk (K : Frag) (C : Addr) (name : Str) (g : Addr) : Prop where
  get : plainGet K C name = true
  has : hasDictIn K C = true
  find : findIn K (.ref C) name = some (some (.ref g))
  fn : isFn K (.ref g) = true
  gf : specialIn K (.ref g) "__get__" = some (some (.builtin "function.__get__"))
  ft : takesIn K (.ref g) = some false
  cp : copiedNames.contains name = false
section
variable {c : Cx} {S : Scope} {n : Nat} {σ σ' σ₁ σ₂ σ₃ σ₄ : St} {X Y Z : V} {e l r t test target iter fn : Expr} {es : List Expr} {Xs : List V} {pos tpos : Pos} {st : Stmt} {sts : List Stmt} {fl fl' : Fl} {x y : Str} {body orelse : List Stmt} {C g : Addr} {as : List (Str × D)} {i : Nat} {name : Str}
theorem ev_bound {p : Pos} (hC : CxOk c) (hk : BoundOk c.K C name g) (h1 : Ev c S n (.Name y p) σ (.obj i) σ₁) (hi : lk i σ₁.heap = some (.inst C as)) (hd : getD? name as = none) : Ev c S n (.Attribute (.Name y p) name pos) σ (.meth i g) σ₁ := fun f F ω s Q E R h => by
  refine Attribute_Name_ (h1 f F ω s _ _ R fun ω₁ v s₁ e₁ R₁ A₁ => ?_)
  cases A₁ with
  | @obj _ a hb ha =>
    obtain ⟨m, Mc, Mh, FR, r⟩ := id R₁
    obtain ⟨dx, es, k, M1, M2, _, q, I, _⟩ := inst_at r hi ha
    refine kbm_bound r.fr hC.kin r.nw I hk.get hk.has hk.find hk.fn hk.gf hk.ft hk.cp ((q.getL name).2 hd) fun q' h' F' N' lt => ?_
    have X1 : Ext (n + 1) ω₁ { ω₁ with Z := (q', methodObj (.ref g) (.ref a)) :: ω₁.Z } := Ext.frz (n + 1) ω₁ [(q', methodObj (.ref g) (.ref a))]
    exact h _ (.ref q') _ (e₁.trans X1) ⟨m, Mc, Mh, FR, r.frz (k := s₁.toks + 1) F' N' lt⟩ (.meth hb ha (.inl (.head _)))
theorem ev_callm0 (hC : CxOk c) (hf : fnIn c.K g = true) (h1 : Ev c S n l σ (.meth i g) σ₁) (h3 : FnN c n g [.obj i] σ₁ Z σ₂)
    (hc : ∀ env, eval (.Call l [] [] pos) env = (do callWith pos (← eval l env) [] (backTo pos (starEach [] env)) (backToKw pos (keywordEach [] env))) := by intro _; rfl) : Ev c S n (.Call l [] [] pos) σ Z σ₂ := fun f F ω s Q E R h => by
  refine Call_ (h1 f F ω s _ _ R fun ω₁ v s₁ e₁ R₁ A₁ => ?_) (hc _)
  cases A₁ with
  | @meth _ _ q a hb ha hz =>
    have hq := R₁.fz hz
    refine callWith_M0 (K := c.K) ⟨hq, hC.kin.keeps R₁.keep⟩ hf (wpAny_call (method_call hq ?_))
    exact h3 S f F ω₁ s₁ _ [.ref a] R₁ (.cons (.obj hb ha) .nil) fun ω' v s' e' R' B => h ω' v s' (e₁.trans e') R' B
inductive SubL (σ : St) : List (Nat × V) → Prop
  | nil : SubL σ []
  | cons {x : Str} {X : V} {l : List (Nat × V)} : lk (key x) σ.loc = some X → SubL σ l → SubL σ ((key x, X) :: l)
theorem sub_list {l : List (Nat × V)} (h : SubL σ l) : Sub σ ⟨l, σ.heap⟩ := by
  refine ⟨fun k X hk => ?_, List.Sublist.refl _⟩
  induction h with
  | nil => cases hk
  | @cons x Y l h1 _ ih =>
    have hk' : (bif key x == k then some Y else lk k l) = some X := hk
    cases q : (key x == k) with
    | true => rw [q] at hk'; cases hk'; have e : key x = k := by simpa using q
              rw [← e]; exact h1
    | false => rw [q] at hk'; exact ih hk'
theorem sub_pick {l : List (Nat × V)} (h : (l.map fun p => lk p.1 σ.loc) = l.map fun p => some p.2) : Sub σ ⟨l, σ.heap⟩ := by
  refine ⟨fun k X hk => ?_, List.Sublist.refl _⟩
  induction l with
  | nil => cases hk
  | cons p l ih =>
    obtain ⟨a, Y⟩ := p
    rw [List.map_cons, List.map_cons] at h
    have h1 := (List.cons.inj h).1
    have hk' : (bif a == k then some Y else lk k l) = some X := hk
    cases q : (a == k) with
    | true =>
      rw [q] at hk'
      have e : a = k := by simpa using q
      subst e
      exact h1.trans hk'
    | false => rw [q] at hk'; exact ih (List.cons.inj h).2 hk'
theorem ex_assert {test : Expr} (hc : c.calm = true) (h : Ts c S n test σ true σ₁) : Ex c S n (.Assert test none pos) σ .next σ₁ := fun f F ω s Q E R k =>
  wpAny_Assert (F.hand hc) (h f F ω s _ _ R fun ω₁ s₁ e₁ R₁ => by simp only [if_true]; exact k ω₁ .next s₁ e₁.down R₁ .next)
theorem ts_is {b b' : Bool} (h : Ts c S n e σ b σ₁) (q : b = b') : Ts c S n e σ b' σ₁ := q ▸ h
end
noncomputable def lenL (L : List Str) : Nat := (L.map (·.length)).sum
noncomputable def kOf (t : Str) (L : List Str) : Nat := t.length - lenL L.tail
noncomputable def nxOf : List Str → D
  | [] => .none
  | s :: _ => .str s
noncomputable def tokNext (t : Str) (k : Nat) : Option (Nat × D) := match t.cps[k]? with
  | none => some (k, .none)
  | some ch => if ch = 92 then (match t.cps[k + 1]? with
    | none => none
    | some d => some (k + 2, .str ⟨#[ch, d]⟩)) else some (k + 1, .str ⟨#[ch]⟩)
noncomputable def TokOk (t : Str) : List Str → Prop
  | [] => True
  | s :: L => tokNext t (kOf t (s :: L)) = some (kOf t L, nxOf L) ∧ TokOk t L
noncomputable def flagsD : List (Str × D) := [("i", .int 2), ("L", .int 4), ("m", .int 8), ("s", .int 16), ("x", .int 64), ("a", .int 256), ("u", .int 32)]
noncomputable def flagOf (x : Str) : Option Int := match getD? x flagsD with
  | some (.int i) => some i
  | _ => none
theorem flag_get {x : Str} {i : Int} (h : flagOf x = some i) : getD? x flagsD = some (.int i) := by
  unfold flagOf at h
  split at h
  · cases h; assumption
  · cases h
theorem flag_some {x : Str} : (getD? x flagsD).isSome = (flagOf x).isSome := by
  have : ∀ (l : List (Str × D)), (∀ p ∈ l, ∃ i, p.2 = .int i) → (getD? x l).isSome = (match getD? x l with | some (.int i) => some i | _ => none).isSome := by
    intro l hl
    induction l with
    | nil => rfl
    | cons p l ih =>
      obtain ⟨a, d⟩ := p
      obtain ⟨i, hi⟩ := hl _ (.head _)
      dsimp only at hi
      subst hi
      unfold getD?
      by_cases e : a = x
      · simp [e]
      · simp only [if_neg e]; exact ih fun p hp => hl p (.tail _ hp)
  exact this flagsD (by intro p hp; simp only [flagsD, List.mem_cons, List.not_mem_nil, or_false] at hp; rcases hp with rfl | rfl | rfl | rfl | rfl | rfl | rfl <;> exact ⟨_, rfl⟩)
end Mine
namespace Mine
open PySem PySem.W PyProof.Rows PySem.Calls PySem.Spec
theorem ints_drs {κ : Str → Int} {Zf : Fz} {ns : List Int} {vs : List Value} (h : IntsAre vs ns) : DRs κ Zf (ns.map .int) vs := by
  induction h with
  | nil => exact .nil
  | cons _ _ _ ih => exact .cons (.int _ _) ih
theorem law_head {prog : Program} {w : World} {K : Frag} {s₁ : Shared} {h₁ : Heap} {tk : Tok} {fa : Addr} {name : Str} {scope : Scope} {cd : Value} {body : List Stmt} {mg mb : Str → Option Value} {p : Program} {loose : List Str} {mean : ExcName → Option Value} {pn : Str} {a : Addr} {vs : List Value} {ns : List Int} {Q : Flow → Shared → Prop} {E : Value → Shared → Prop}
    (KX : K.In s₁.heap) (T : Top p loose mean mg mb s₁.heap) (F : Fr s₁.heap s₁.heap.objs.size h₁ (fun x => List.lookup x [(pn, Value.ref a)].reverse)) (hL : s₁.heap.IsList a vs.toArray) (hI : IntsAre vs ns)
    (S : Scope) (hS : scope = S) (hk : S.kind = .function) (hkeys : keysOkB S = true) (hno : noCell S = true) (hpn : S.names.lookup pn = some .local) (hfree : S.names.all (fun x => match x.2 with | .free => false | _ => true) = true)
    (h : ∀ c : Cx, c.prog = prog → c.w = w → c.K = K → c.base = s₁.heap → c.mg = mg → c.mb = mb → c.calm = true → CxOk c → ∃ σ', Exs c S 0 body ⟨[(key pn, .d (.lst (ns.map .int)))], []⟩ (.ret (.d (.bool true))) σ')
    (hQ : ∀ s', (∀ b o, s₁.heap.get? b = some o → s'.heap.get? b = some o) → s'.os = s₁.os → s'.gens = s₁.gens → Q (.ret (.bool true)) s') :
    wpAny (model prog w) (callerA.deeper (envOf name scope s₁.heap.objs.size fa cd)) (execs body (envOf name scope s₁.heap.objs.size fa cd)) Q E { heap := h₁, gens := s₁.gens, drawn := s₁.drawn, toks := tk, os := s₁.os } := by
  subst hS
  let c : Cx := { prog := prog, w := w, K := K, base := s₁.heap, mg := mg, mb := mb, gens := s₁.gens, drawn := s₁.drawn, os := s₁.os, calm := true }
  have hC : CxOk c := ⟨KX, T.g, T.b, T.nolimit, T.nodigits, modules_low T.nolimit⟩
  obtain ⟨σ', hb⟩ := h c rfl rfl rfl rfl rfl rfl rfl hC
  have nc : ∀ x, scope.names.lookup x ≠ some .cell := fun x hx => by
    have z := List.all_eq_true.mp hno _ (lookup_mem hx)
    cases z
  have nf : ∀ x, scope.names.lookup x ≠ some .free := fun x hx => by
    have z := List.all_eq_true.mp hfree _ (lookup_mem hx)
    cases z
  let f : Fm := { A := callerA.deeper (envOf name scope s₁.heap.objs.size fa cd), env := envOf name scope s₁.heap.objs.size fa cd, fr := [], keep := [] }
  have FF : FmOk c scope 0 f := by
    refine ⟨rfl, hk, rfl, rfl, (by show 301 + 1 ≤ 310; decide), (by show 4 + 3 ≤ 100; decide), rfl, ⟨[f.env], rfl, fun env he => ?_, fun _ => ⟨⟨[], rfl⟩, rfl⟩⟩, fun _ => rfl, fun x hx => absurd hx (nc x), fun x a hx => absurd hx (nf x), keysOk_of hkeys⟩
    rw [List.mem_singleton.mp he]
    exact ⟨by show scope.kind ≠ .module; rw [hk]; decide, _, rfl, .inl rfl⟩
  have R : RelE c 0 f ⟨fun _ => none, []⟩ ⟨[(key pn, .d (.lst (ns.map .int)))], []⟩ { heap := h₁, gens := s₁.gens, drawn := s₁.drawn, toks := tk, os := s₁.os } := by
    refine ⟨_, [], [], [], ⟨F, (fun _ h => nomatch h), List.nodup_nil, .nil, fun x b hx => absurd hx (nc x), fun x y b hx => absurd hx (nc x), .nil, fun x X hx hl => ?_, rfl, rfl, rfl⟩⟩
    have hl' : (bif key pn == key x then some (V.d (.lst (ns.map .int))) else none) = some X := hl
    cases q : (key pn == key x) with
    | false => rw [q] at hl'; cases hl'
    | true =>
      rw [q] at hl'; cases hl'
      have e : pn = x := keysOk_of hkeys pn x (by rw [hpn]; rfl) hx (by simpa using q)
      subst e
      obtain ⟨o, ho, hoc, k, hod⟩ := hL
      exact .loc hpn (by simp) (.d (.lst (.inr ho) hoc hod (ints_drs hI)))
  refine hb f FF _ _ _ _ R fun ω' G s' e' R' q => ?_
  have keep := R'.keep
  obtain ⟨m, Mc, Mh, FR, r⟩ := R'
  cases q with
  | ret q => cases q with
    | d q => cases q; exact hQ s' keep r.os r.gens
noncomputable def defScope (p : Program) (nm : Str) : Scope := p.main.body.foldl (fun acc st => match st with
  | .FunctionDef n _ _ _ _ _ sc _ _ _ => bif n == nm then sc else acc
  | _ => acc) { kind := .function, names := [], isGenerator := false, isCoroutine := false }
end Mine
namespace Mine
open PySem PySem.W PyProof.Rows PySem.Calls PySem.Spec
noncomputable def nthBody (p : Program) (k : Nat) : List Stmt := match p.main.body.drop k with
  | .FunctionDef _ _ b _ _ _ _ _ _ _ :: _ => b
  | _ => []
noncomputable def forBody (l : List Stmt) (k : Nat) : List Stmt := match l.drop k with
  | .For _ _ b _ _ :: _ => b
  | .While _ b _ _ :: _ => b
  | _ => []
noncomputable def ifBody (l : List Stmt) (k : Nat) : List Stmt := match l.drop k with
  | .If _ b _ _ :: _ => b
  | _ => []
section
variable {c : Cx} {S : Scope} {n : Nat} {σ σ' σ₁ σ₂ σ₃ σ₄ : St} {X Y Z : V} {e l r t test target iter fn : Expr} {es : List Expr} {Xs : List V} {pos tpos : Pos} {st : Stmt} {sts : List Stmt} {fl fl' : Fl} {x y : Str} {body body' orelse : List Stmt}
theorem fl_body {pin : Led} (h : FL c S n target body' pin Xs σ fl σ') (e : body = body') : FL c S n target body pin Xs σ fl σ' := e ▸ h
theorem if_any {b : Bool} (h0 : Ts c S n t σ b σ₁) (h1 : b = true → Exs c S n body σ₁ fl σ₂) (h2 : b = false → Exs c S n orelse σ₁ fl σ₂) : Ex c S n (.If t body orelse pos) σ fl σ₂ := ex_if h0 h1 h2
end
end Mine
namespace Mine
open PySem PySem.W PyProof.Rows PySem.Calls PySem.Spec
noncomputable def flatK : Nat → D → Bool
  | 0, .tup _ => false
  | 0, .lst _ => false
  | _, .dct _ => false
  | k + 1, .tup l => l.all (flatK k)
  | k + 1, .lst l => l.all (flatK k)
  | _, _ => true
section
variable {κ : Str → Int} {Z : Fz} {A : Around} {s : Shared}
theorem range_all {n : Nat} {e : Nat → Bool} (h : ∀ j, j < n → e j = true) : (List.range n).all e = true := List.all_eq_true.mpr fun j hj => h j (List.mem_range.mp hj)
theorem tup_inv {l : List D} {v : Value} (h : DR κ Z (.tup l) v) : ∃ a o vs m, v = .ref a ∧ Z a o ∧ o.cls = .type "tuple" ∧ o.data = .seq vs.toArray m ∧ DRs κ Z l vs := by
  cases h with | tup z c d g => exact ⟨_, _, _, _, rfl, z, c, d, g⟩
theorem lst_inv {l : List D} {v : Value} (h : DR κ Z (.lst l) v) : ∃ a o vs m, v = .ref a ∧ Z a o ∧ o.cls = .type "list" ∧ o.data = .seq vs.toArray m ∧ DRs κ Z l vs := by
  cases h with | lst z c d g => exact ⟨_, _, _, _, rfl, z, c, d, g⟩
theorem eq_same : ∀ (k : Nat) (d : D), flatK k d = true → ∀ (A : Around), A.units + k < 9900 → ∀ v w, DR κ Z d v → DR κ Z d w → (∀ a o, Z a o → s.heap.get? a = some o) → SeqAt.EqAt A s v w true := by
  intro k
  induction k with
  | zero =>
    intro d hd A hu v w h1 h2 hz
    cases h1 with
    | none => cases h2; exact SeqAt.EqAt.same _
    | bool b => cases h2; exact SeqAt.EqAt.same _
    | int i t => cases h2 with | int _ u => have z := SeqAt.EqAt.int_int (A := A) (s := s) i t i u; rwa [beq_self_eq_true] at z
    | str x t => cases h2 with | str _ u => have z := SeqAt.EqAt.str_str (A := A) (s := s) x t x u; rwa [beq_self_eq_true] at z
    | bytes b t => cases h2 with
      | bytes _ u =>
        intro prog w E Q hq
        unfold eqBool
        refine wpAny_holding ?_
        have z : ∀ Q : Value → Shared → Prop, Q (.bool true) s → wpAny (model prog w) A (compareOp .Eq (.bytes b t) (.bytes b u)) Q E s := fun Q hQ => eq_bytes (by rw [beq_self_eq_true]; exact hQ)
        exact wpAny_ite_split (fun _ => wpAny_bind (wpAny_rule (wpAny_pure hq))) (fun _ => wpAny_bind (z _ (wpAny_truthy_bool hq)))
    | tup _ _ _ _ => cases hd
    | lst _ _ _ _ => cases hd
    | dct _ _ _ _ _ _ => cases hd
  | succ k ih =>
    intro d hd A hu v w h1 h2 hz
    have sub : ∀ l : List D, l.all (flatK k) = true → ∀ vs ws, DRs κ Z l vs → DRs κ Z l ws → ∀ j (q1 : j < vs.toArray.size) (q2 : j < ws.toArray.size), SeqAt.EqAt A.in1 s vs.toArray[j] ws.toArray[j] true := by
      intro l hl vs ws g1 g2 j q1 q2
      have hj : j < l.length := by rw [List.size_toArray, g1.length] at q1; exact q1
      obtain ⟨x, hx1, hx2⟩ := g1.get (List.getElem?_eq_getElem hj)
      obtain ⟨y, hy1, hy2⟩ := g2.get (List.getElem?_eq_getElem hj)
      have e1 : vs.toArray[j] = x := by rw [List.getElem_toArray]; rw [List.size_toArray] at q1; rw [List.getElem?_eq_getElem q1] at hx1; exact Option.some.inj hx1
      have e2 : ws.toArray[j] = y := by rw [List.getElem_toArray]; rw [List.size_toArray] at q2; rw [List.getElem?_eq_getElem q2] at hy1; exact Option.some.inj hy1
      rw [e1, e2]
      exact ih l[j] (List.all_eq_true.mp hl _ (List.getElem_mem hj)) A.in1 (by show A.units + 1 + k < 9900; lia) x y hx2 hy2 hz
    have hcl : A.units < cLine := by show A.units < 9900; lia
    have leaf : flatK k d = true → SeqAt.EqAt A s v w true := fun q => ih d q A (by lia) v w h1 h2 hz
    cases d with
    | none => exact leaf (by cases k <;> rfl)
    | bool b => exact leaf (by cases k <;> rfl)
    | int i => exact leaf (by cases k <;> rfl)
    | str x => exact leaf (by cases k <;> rfl)
    | bytes b => exact leaf (by cases k <;> rfl)
    | tup l =>
      clear leaf ih
      obtain ⟨a, o, vs, m, rfl, z1, c1, d1, g1⟩ := tup_inv h1
      obtain ⟨b, o2, ws, m2, rfl, z2, c2, d2, g2⟩ := tup_inv h2
      by_cases hab : a = b
      · subst hab; exact SeqAt.EqAt.same _
      · refine SeqAt.EqAt.of_refs hab ?_
        have z := SeqAt.RcAt.tuples (A := A) (s := s) (e := fun _ => true) ⟨o, hz _ _ z1, c1, m, d1⟩ ⟨o2, hz _ _ z2, c2, m2, d2⟩ hcl (sub l hd vs ws g1 g2)
        have e : vs.toArray.size = ws.toArray.size := by rw [List.size_toArray, List.size_toArray, g1.length, g2.length]
        rw [range_all (fun _ _ => rfl), e, beq_self_eq_true] at z
        exact z
    | lst l =>
      clear leaf ih
      obtain ⟨a, o, vs, m, rfl, z1, c1, d1, g1⟩ := lst_inv h1
      obtain ⟨b, o2, ws, m2, rfl, z2, c2, d2, g2⟩ := lst_inv h2
      by_cases hab : a = b
      · subst hab; exact SeqAt.EqAt.same _
      · refine SeqAt.EqAt.of_refs hab ?_
        have e : vs.toArray.size = ws.toArray.size := by rw [List.size_toArray, List.size_toArray, g1.length, g2.length]
        have z := SeqAt.RcAt.lists (A := A) (s := s) (e := fun _ => true) ⟨o, hz _ _ z1, c1, m, d1⟩ ⟨o2, hz _ _ z2, c2, m2, d2⟩ e hcl (sub l hd vs ws g1 g2)
        rw [range_all (fun _ _ => rfl)] at z
        exact z
    | dct _ => cases hd
theorem items_same {l : List D} {k : Nat} (hl : l.all (flatK k) = true) (hu : A.units + k + 1 < 9900) {vs ws : List Value} (g1 : DRs κ Z l vs) (g2 : DRs κ Z l ws) (hz : ∀ a o, Z a o → s.heap.get? a = some o) :
    vs.toArray.size = ws.toArray.size ∧ ∀ j (q1 : j < vs.toArray.size) (q2 : j < ws.toArray.size), SeqAt.EqAt A.in1 s vs.toArray[j] ws.toArray[j] true := by
  refine ⟨by rw [List.size_toArray, List.size_toArray, g1.length, g2.length], fun j q1 q2 => ?_⟩
  have hj : j < l.length := by rw [List.size_toArray, g1.length] at q1; exact q1
  obtain ⟨x, hx1, hx2⟩ := g1.get (List.getElem?_eq_getElem hj)
  obtain ⟨y, hy1, hy2⟩ := g2.get (List.getElem?_eq_getElem hj)
  have e1 : vs.toArray[j] = x := by rw [List.getElem_toArray]; rw [List.size_toArray] at q1; rw [List.getElem?_eq_getElem q1] at hx1; exact Option.some.inj hx1
  have e2 : ws.toArray[j] = y := by rw [List.getElem_toArray]; rw [List.size_toArray] at q2; rw [List.getElem?_eq_getElem q2] at hy1; exact Option.some.inj hy1
  rw [e1, e2]
  exact eq_same k l[j] (List.all_eq_true.mp hl _ (List.getElem_mem hj)) A.in1 (by show A.units + 1 + k < 9900; lia) x y hx2 hy2 hz
end
section
variable {c : Cx} {n : Nat} {σ : St} {i j : Nat}
theorem obj_lst_at {f : Fm} {ω : Om} {s : Shared} {v : Value} {ds : List D} (R : RelE c n f ω σ s) (A : VR c n ω (.obj i) v) (hi : lk i σ.heap = some (.lst ds)) : ∃ a vs, v = .ref a ∧ s.heap.IsList a vs.toArray ∧ DRs c.hs (fz c ω) ds vs := by
  obtain ⟨a, rfl, hb, ha⟩ := A.toObj
  obtain ⟨m, Mc, Mh, FR, r⟩ := id R
  obtain ⟨vs, k, M1, M2, e, g1, g2, g3⟩ := lst_at r hi ha
  exact ⟨a, vs, rfl, ⟨_, g2, rfl, k, rfl⟩, g1⟩
theorem c_eq_lists {ds : List D} {k : Nat} (hn : n ≤ 100) (hk : k ≤ 100) (hi : lk i σ.heap = some (.lst ds)) (hj : lk j σ.heap = some (.lst ds)) (hf : ds.all (flatK k) = true) : Op2 c n (compareOp .Eq) (.obj i) (.obj j) σ (.d (.bool true)) σ := fun S f F ω s Q E x y R hx hy h => by
  obtain ⟨a, vs, rfl, l1, g1⟩ := obj_lst_at R hx hi
  obtain ⟨b, ws, rfl, l2, g2⟩ := obj_lst_at R hy hj
  have hu := F.units
  obtain ⟨e, ee⟩ := items_same (A := f.A) (s := s) hf (by have := Nat.mul_le_mul_left 50 hn; lia) g1 g2 (fun a o => R.fz)
  refine SeqAt.eq_listAt (e := fun _ => true) l1 l2 e (by show f.A.units < 9900; have := Nat.mul_le_mul_left 50 hn; lia) ee ?_
  rw [range_all (fun _ _ => rfl)]
  exact h ω _ s (.refl ..) R (.d (.bool _))
end
end Mine
namespace Mine
open PySem PySem.W PyProof.Rows PySem.Calls PySem.Spec
theorem form1 {e : Expr} {pos : Pos} {env : Env} (h : notStar e = true) : methodCallForm 1 (backTo pos (starEach [e] env)) [] = true := by
  rw [starEach_plain h]; rfl
theorem mc1 {y name : Str} {p apos pos : Pos} {e : Expr} (h : notStar e = true) (hl : (apos.endLine == pos.line) = true) : ∀ env, ∃ pl, eval (.Call (.Attribute (.Name y p) name apos) [e] [] pos) env = (do
          let ov ← eval (.Name y p) env
          standAt apos.atName
          let __x ← holding [ov] (getMethod ov name pl)
          match __x with
            | (f, first) => callWith pos f first (backTo pos (starEach [e] env)) []) := by
  intro env
  refine ⟨do return (← importBound (.Name y p) env).getD true, ?_⟩
  show (do let ov ← attributeBase (.Name y p) name env (eval (.Name y p) env); standAt apos.atName; methodCall (.Name y p) name apos pos env ov 1 (backTo pos (starEach [e] env)) []) = _
  unfold methodCall
  rw [form1 h]
  unfold methodCallPos
  rw [hl]
  rfl
end Mine
namespace Mine
open PySem PySem.W PyProof.Rows PySem.Calls PySem.Spec
noncomputable def noPrm : Arguments := ⟨[], [], none, [], [], none, []⟩
noncomputable def noScp : Scope := { kind := .function, names := [], isGenerator := false, isCoroutine := false }
noncomputable def fPrm (p : Program) (i : Nat) : Arguments := match p.main.body.drop i with
  | .FunctionDef _ a _ _ _ _ _ _ _ _ :: _ => a
  | _ => noPrm
noncomputable def fBdy (p : Program) (i : Nat) : List Stmt := match p.main.body.drop i with
  | .FunctionDef _ _ b _ _ _ _ _ _ _ :: _ => b
  | _ => []
noncomputable def fScp (p : Program) (i : Nat) : Scope := match p.main.body.drop i with
  | .FunctionDef _ _ _ _ _ _ s _ _ _ :: _ => s
  | _ => noScp
noncomputable def cBdy (p : Program) (i : Nat) : List Stmt := match p.main.body.drop i with
  | .ClassDef _ _ _ b _ _ _ _ _ _ _ :: _ => b
  | _ => []
noncomputable def mPrm (p : Program) (i j : Nat) : Arguments := match (cBdy p i).drop j with
  | .FunctionDef _ a _ _ _ _ _ _ _ _ :: _ => a
  | _ => noPrm
noncomputable def mBdy (p : Program) (i j : Nat) : List Stmt := match (cBdy p i).drop j with
  | .FunctionDef _ _ b _ _ _ _ _ _ _ :: _ => b
  | _ => []
noncomputable def mScp (p : Program) (i j : Nat) : Scope := match (cBdy p i).drop j with
  | .FunctionDef _ _ _ _ _ _ s _ _ _ :: _ => s
  | _ => noScp
noncomputable def isNameAsg : Stmt → Bool
  | .Assign [.Name x _] _ _ => x == "__name__"
  | _ => false
noncomputable def viewOf (p : Program) : Program := { p with main := { p.main with body := p.main.body.filter fun s => !isNameAsg s } }
noncomputable def rowS : String := "special-get-raises"
theorem left_boot {p q : Program} {loose : List Str} {Xt : Shared → Bool} {α : Type} {Yf : Shared → α} {Ya : World → α} {N : Nat} (e : opening p = plainProg p.main.scope.names) (hN : Nat.ble 600 N = true) (f : ∀ s, fenceModules? p s = some s)
    (h : ∀ (w : World) (os : OsState) (b : Bool), (topFrom treeTable p (w.withFollow rowS b) N ⟨boot_heap (w.withFollow rowS b).params, #[], boot_drawn, boot_toks, os⟩).map (fun s => (openSeen q loose (importedModules p.main.body) Xt true s, Yf s)) = some (openGood q loose, Ya (w.withFollow rowS b))) : LeftO p q loose Xt Yf Ya N := fun w => by
  obtain ⟨⟨h0, gs, d, k, os⟩, e1, e2⟩ := Option.map_eq_some_iff.mp (boot_open e hN f w)
  obtain ⟨rfl, rfl, rfl, rfl⟩ : h0 = boot_heap w.params ∧ gs = #[] ∧ d = boot_drawn ∧ k = boot_toks := by simpa using e2
  unfold openEnds
  rw [e1]
  have z := h w os (w.params.followText rowS)
  rw [World.withFollow_self] at z
  exact z
section
variable {c : Cx}
theorem exs_body {S : Scope} {n : Nat} {σ σ' : St} {fl : Fl} {body body' : List Stmt} (h : Exs c S n body' σ fl σ') (e : body = body') : Exs c S n body σ fl σ' := e ▸ h
end
end Mine
namespace Mine
open PySem PySem.W PyProof.Rows PySem.Calls
noncomputable def HK : Params → Frag := fun P => [
  (2, { cls := Value.none, data := Data.dict #[{ hash := PyData.keyHash P (Str.ofString "type.__subclasses__.Exception.0"), key := Value.str (Str.ofString "type.__subclasses__.Exception.0") 232, val := Value.int 41 0 }, { hash := PyData.keyHash P (Str.ofString "type.__subclasses__.Exception.n"), key := Value.str (Str.ofString "type.__subclasses__.Exception.n") 233, val := Value.int 1 0 }] 2 }),
  (3, { cls := Value.type "dict", data := Data.dict #[{ hash := PyData.keyHash P (Str.ofString "__name__"), key := Value.str (Str.ofString "__name__") 165, val := Value.str (Str.ofString "law_kq0015_04") 406 }, { hash := PyData.keyHash P (Str.ofString "__doc__"), key := Value.str (Str.ofString "__doc__") 166, val := Value.none }, { hash := PyData.keyHash P (Str.ofString "__package__"), key := Value.str (Str.ofString "__package__") 167, val := Value.none }, { hash := PyData.keyHash P (Str.ofString "__loader__"), key := Value.str (Str.ofString "__loader__") 168, val := Value.builtin "__main__.__loader__#opaque" }, { hash := PyData.keyHash P (Str.ofString "__spec__"), key := Value.str (Str.ofString "__spec__") 169, val := Value.none }, { hash := PyData.keyHash P (Str.ofString "__annotations__"), key := Value.str (Str.ofString "__annotations__") 170, val := Value.ref 6 }, { hash := PyData.keyHash P (Str.ofString "__builtins__"), key := Value.str (Str.ofString "__builtins__") 171, val := Value.ref 4 }, { hash := PyData.keyHash P (Str.ofString "__file__"), key := Value.str (Str.ofString "__file__") 173, val := Value.str (Str.ofString "/claim/cut.py") 172 }, { hash := PyData.keyHash P (Str.ofString "__cached__"), key := Value.str (Str.ofString "__cached__") 174, val := Value.none }, { hash := PyData.keyHash P (Str.ofString "_wall"), key := Value.str (Str.ofString "_wall") 193, val := Value.ref 21 }, { hash := PyData.keyHash P (Str.ofString "PatternError"), key := Value.str (Str.ofString "PatternError") 235, val := Value.ref 41 }, { hash := PyData.keyHash P (Str.ofString "error_constants"), key := Value.str (Str.ofString "error_constants") 236, val := Value.ref 41 }, { hash := PyData.keyHash P (Str.ofString "SRE_FLAG_IGNORECASE"), key := Value.str (Str.ofString "SRE_FLAG_IGNORECASE") 238, val := Value.int 2 237 }, { hash := PyData.keyHash P (Str.ofString "SRE_FLAG_LOCALE"), key := Value.str (Str.ofString "SRE_FLAG_LOCALE") 240, val := Value.int 4 239 }, { hash := PyData.keyHash P (Str.ofString "SRE_FLAG_MULTILINE"), key := Value.str (Str.ofString "SRE_FLAG_MULTILINE") 242, val := Value.int 8 241 }, { hash := PyData.keyHash P (Str.ofString "SRE_FLAG_DOTALL"), key := Value.str (Str.ofString "SRE_FLAG_DOTALL") 244, val := Value.int 16 243 }, { hash := PyData.keyHash P (Str.ofString "SRE_FLAG_UNICODE"), key := Value.str (Str.ofString "SRE_FLAG_UNICODE") 246, val := Value.int 32 245 }, { hash := PyData.keyHash P (Str.ofString "SRE_FLAG_VERBOSE"), key := Value.str (Str.ofString "SRE_FLAG_VERBOSE") 248, val := Value.int 64 247 }, { hash := PyData.keyHash P (Str.ofString "SRE_FLAG_DEBUG"), key := Value.str (Str.ofString "SRE_FLAG_DEBUG") 250, val := Value.int 128 249 }, { hash := PyData.keyHash P (Str.ofString "SRE_FLAG_ASCII"), key := Value.str (Str.ofString "SRE_FLAG_ASCII") 252, val := Value.int 256 251 }, { hash := PyData.keyHash P (Str.ofString "FLAGS"), key := Value.str (Str.ofString "FLAGS") 269, val := Value.ref 45 }, { hash := PyData.keyHash P (Str.ofString "TYPE_FLAGS"), key := Value.str (Str.ofString "TYPE_FLAGS") 272, val := Value.int 292 271 }, { hash := PyData.keyHash P (Str.ofString "GLOBAL_FLAGS"), key := Value.str (Str.ofString "GLOBAL_FLAGS") 273, val := Value.int 128 249 }, { hash := PyData.keyHash P (Str.ofString "Tokenizer"), key := Value.str (Str.ofString "Tokenizer") 391, val := Value.ref 134 }, { hash := PyData.keyHash P (Str.ofString "_parse_flags"), key := Value.str (Str.ofString "_parse_flags") 405, val := Value.ref 145 }, { hash := PyData.keyHash P (Str.ofString "_law_whole"), key := Value.str (Str.ofString "_law_whole") 419, val := Value.ref 152 }, { hash := PyData.keyHash P (Str.ofString "_law_signs"), key := Value.str (Str.ofString "_law_signs") 428, val := Value.ref 159 }, { hash := PyData.keyHash P (Str.ofString "law"), key := Value.str (Str.ofString "law") 434, val := Value.ref 164 }] 28 }),
  (15, { cls := Value.type "tuple", data := Data.seq #[] }),
  (17, { cls := Value.type "tuple", data := Data.seq #[Value.str (Str.ofString "k") 190] }),
  (18, { cls := Value.type "tuple", data := Data.seq #[] }),
  (20, { cls := Value.type "code", data := Data.fields #[Value.str (Str.ofString "_wall") 187, Value.str (Str.ofString "_wall") 188, Value.str (Str.ofString "/claim/cut.py") 189, Value.int 1 0, Value.int 1 0, Value.int 0 0, Value.int 0 0, Value.int 3 0, Value.ref 15, Value.bool Bool.true, Value.int 181 0, Value.ref 16, Value.none, Value.ref 17, Value.ref 18, Value.ref 19, Value.int 191 0, Value.int 1 0, Value.str (Str.ofString "/claim/cut.py") 192] }),
  (21, { cls := Value.type "function", data := Data.func { name := Str.ofString "_wall", qualname := Str.ofString "_wall", params := fPrm PySem.Challenge.pw_kq0015_04 0, body := .stmts (fBdy PySem.Challenge.pw_kq0015_04 0), scope := fScp PySem.Challenge.pw_kq0015_04 0, globals := 3, closure := [], defaults := Value.none, kwdefaults := Value.none, pyModule := Value.str (Str.ofString "__main__") 164, code := Value.ref 20 } }),
  (22, { cls := Value.type "tuple", data := Data.seq #[Value.type "Exception"] }),
  (25, { cls := Value.type "cell", data := Data.cell (Option.some (Value.ref 41)) }),
  (30, { cls := Value.type "tuple", data := Data.seq #[Value.none, Value.none] }),
  (31, { cls := Value.type "tuple", data := Data.seq #[Value.ref 25] }),
  (32, { cls := Value.type "tuple", data := Data.seq #[Value.str (Str.ofString "__class__") 213] }),
  (34, { cls := Value.type "tuple", data := Data.seq #[Value.str (Str.ofString "self") 214, Value.str (Str.ofString "msg") 215, Value.str (Str.ofString "pattern") 216, Value.str (Str.ofString "pos") 217, Value.str (Str.ofString "newline") 218] }),
  (35, { cls := Value.type "tuple", data := Data.seq #[] }),
  (37, { cls := Value.type "code", data := Data.fields #[Value.str (Str.ofString "__init__") 210, Value.str (Str.ofString "PatternError.__init__") 211, Value.str (Str.ofString "/claim/cut.py") 212, Value.int 8 0, Value.int 4 0, Value.int 0 0, Value.int 0 0, Value.int 3 0, Value.ref 32, Value.bool Bool.true, Value.int 181 0, Value.ref 33, Value.none, Value.ref 34, Value.ref 35, Value.ref 36, Value.int 219 0, Value.int 8 0, Value.str (Str.ofString "/claim/cut.py") 220] }),
  (38, { cls := Value.type "function", data := Data.func { name := Str.ofString "__init__", qualname := Str.ofString "PatternError.__init__", params := mPrm PySem.Challenge.pw_kq0015_04 2 1, body := .stmts (mBdy PySem.Challenge.pw_kq0015_04 2 1), scope := mScp PySem.Challenge.pw_kq0015_04 2 1, globals := 3, closure := [(Str.ofString "__class__", 25)], defaults := Value.ref 30, kwdefaults := Value.none, pyModule := Value.str (Str.ofString "cpy313.re._constants") 194, code := Value.ref 37, closureTuple := Value.ref 31 } }),
  (39, { cls := Value.type "tuple", data := Data.seq #[Value.str (Str.ofString "colno") 222, Value.str (Str.ofString "lineno") 223, Value.str (Str.ofString "msg") 224, Value.str (Str.ofString "pattern") 225, Value.str (Str.ofString "pos") 226] }),
  (40, { cls := Value.type "dict", data := Data.dict #[{ hash := PyData.keyHash P (Str.ofString "__module__"), key := Value.str (Str.ofString "__module__") 203, val := Value.str (Str.ofString "re") 208 }, { hash := PyData.keyHash P (Str.ofString "__firstlineno__"), key := Value.str (Str.ofString "__firstlineno__") 207, val := Value.int 5 206 }, { hash := PyData.keyHash P (Str.ofString "__init__"), key := Value.str (Str.ofString "__init__") 221, val := Value.ref 38 }, { hash := PyData.keyHash P (Str.ofString "__static_attributes__"), key := Value.str (Str.ofString "__static_attributes__") 227, val := Value.ref 39 }, { hash := PyData.keyHash P (Str.ofString "__weakref__"), key := Value.str (Str.ofString "__weakref__") 230, val := Value.ref 42 }, { hash := PyData.keyHash P (Str.ofString "__doc__"), key := Value.str (Str.ofString "__doc__") 231, val := Value.none }] 4 }),
  (41, { cls := Value.type "type", data := Data.cls { name := Str.ofString "PatternError", bases := [Value.type "Exception"], mro := [Value.ref 41, Value.type "Exception", Value.type "BaseException", Value.type "object"], ns := 40, qualname := Str.ofString "PatternError" }, slots := #[Option.some (Value.ref 22), Option.none, Option.some (Value.str (Str.ofString "PatternError") 196), Option.some (Value.str (Str.ofString "PatternError") 204), Option.some (Value.builtin "Exception.__new__"), Option.some (Value.bool Bool.true)] }),
  (42, { cls := Value.type "getset_descriptor", data := Data.fields #[Value.str (Str.ofString "__weakref__") 229, Value.ref 41, Value.builtin "ExceptionGroup.__weakref__", Value.none] }),
  (45, { cls := Value.type "dict", data := Data.dict #[{ hash := PyData.keyHash P (Str.ofString "i"), key := Value.str (Str.ofString "i") 255, val := Value.int 2 237 }, { hash := PyData.keyHash P (Str.ofString "L"), key := Value.str (Str.ofString "L") 256, val := Value.int 4 239 }, { hash := PyData.keyHash P (Str.ofString "m"), key := Value.str (Str.ofString "m") 257, val := Value.int 8 241 }, { hash := PyData.keyHash P (Str.ofString "s"), key := Value.str (Str.ofString "s") 258, val := Value.int 16 243 }, { hash := PyData.keyHash P (Str.ofString "x"), key := Value.str (Str.ofString "x") 259, val := Value.int 64 247 }, { hash := PyData.keyHash P (Str.ofString "a"), key := Value.str (Str.ofString "a") 260, val := Value.int 256 251 }, { hash := PyData.keyHash P (Str.ofString "u"), key := Value.str (Str.ofString "u") 261, val := Value.int 32 245 }] 7 }),
  (53, { cls := Value.type "tuple", data := Data.seq #[] }),
  (55, { cls := Value.type "tuple", data := Data.seq #[Value.str (Str.ofString "self") 289, Value.str (Str.ofString "string") 290] }),
  (56, { cls := Value.type "tuple", data := Data.seq #[] }),
  (58, { cls := Value.type "code", data := Data.fields #[Value.str (Str.ofString "__init__") 286, Value.str (Str.ofString "Tokenizer.__init__") 287, Value.str (Str.ofString "/claim/cut.py") 288, Value.int 40 0, Value.int 2 0, Value.int 0 0, Value.int 0 0, Value.int 3 0, Value.ref 53, Value.bool Bool.true, Value.int 181 0, Value.ref 54, Value.none, Value.ref 55, Value.ref 56, Value.ref 57, Value.int 291 0, Value.int 40 0, Value.str (Str.ofString "/claim/cut.py") 292] }),
  (59, { cls := Value.type "function", data := Data.func { name := Str.ofString "__init__", qualname := Str.ofString "Tokenizer.__init__", params := mPrm PySem.Challenge.pw_kq0015_04 16 0, body := .stmts (mBdy PySem.Challenge.pw_kq0015_04 16 0), scope := mScp PySem.Challenge.pw_kq0015_04 16 0, globals := 3, closure := [], defaults := Value.none, kwdefaults := Value.none, pyModule := Value.str (Str.ofString "cpy313.re._parser") 253, code := Value.ref 58 } }),
  (60, { cls := Value.type "tuple", data := Data.seq #[] }),
  (62, { cls := Value.type "tuple", data := Data.seq #[Value.str (Str.ofString "self") 297, Value.str (Str.ofString "index") 298, Value.str (Str.ofString "char") 299] }),
  (63, { cls := Value.type "tuple", data := Data.seq #[] }),
  (65, { cls := Value.type "code", data := Data.fields #[Value.str (Str.ofString "__next") 294, Value.str (Str.ofString "Tokenizer.__next") 295, Value.str (Str.ofString "/claim/cut.py") 296, Value.int 50 0, Value.int 1 0, Value.int 0 0, Value.int 0 0, Value.int 3 0, Value.ref 60, Value.bool Bool.true, Value.int 181 0, Value.ref 61, Value.none, Value.ref 62, Value.ref 63, Value.ref 64, Value.int 300 0, Value.int 50 0, Value.str (Str.ofString "/claim/cut.py") 301] }),
  (66, { cls := Value.type "function", data := Data.func { name := Str.ofString "__next", qualname := Str.ofString "Tokenizer.__next", params := mPrm PySem.Challenge.pw_kq0015_04 16 1, body := .stmts (mBdy PySem.Challenge.pw_kq0015_04 16 1), scope := mScp PySem.Challenge.pw_kq0015_04 16 1, globals := 3, closure := [], defaults := Value.none, kwdefaults := Value.none, pyModule := Value.str (Str.ofString "cpy313.re._parser") 253, code := Value.ref 65 } }),
  (67, { cls := Value.type "tuple", data := Data.seq #[] }),
  (69, { cls := Value.type "tuple", data := Data.seq #[Value.str (Str.ofString "self") 306, Value.str (Str.ofString "char") 307] }),
  (70, { cls := Value.type "tuple", data := Data.seq #[] }),
  (72, { cls := Value.type "code", data := Data.fields #[Value.str (Str.ofString "match") 303, Value.str (Str.ofString "Tokenizer.match") 304, Value.str (Str.ofString "/claim/cut.py") 305, Value.int 66 0, Value.int 2 0, Value.int 0 0, Value.int 0 0, Value.int 3 0, Value.ref 67, Value.bool Bool.true, Value.int 181 0, Value.ref 68, Value.none, Value.ref 69, Value.ref 70, Value.ref 71, Value.int 308 0, Value.int 66 0, Value.str (Str.ofString "/claim/cut.py") 309] }),
  (73, { cls := Value.type "function", data := Data.func { name := Str.ofString "match", qualname := Str.ofString "Tokenizer.match", params := mPrm PySem.Challenge.pw_kq0015_04 16 2, body := .stmts (mBdy PySem.Challenge.pw_kq0015_04 16 2), scope := mScp PySem.Challenge.pw_kq0015_04 16 2, globals := 3, closure := [], defaults := Value.none, kwdefaults := Value.none, pyModule := Value.str (Str.ofString "cpy313.re._parser") 253, code := Value.ref 72 } }),
  (74, { cls := Value.type "tuple", data := Data.seq #[] }),
  (76, { cls := Value.type "tuple", data := Data.seq #[Value.str (Str.ofString "self") 314, Value.str (Str.ofString "this") 315] }),
  (77, { cls := Value.type "tuple", data := Data.seq #[] }),
  (79, { cls := Value.type "code", data := Data.fields #[Value.str (Str.ofString "get") 311, Value.str (Str.ofString "Tokenizer.get") 312, Value.str (Str.ofString "/claim/cut.py") 313, Value.int 72 0, Value.int 1 0, Value.int 0 0, Value.int 0 0, Value.int 3 0, Value.ref 74, Value.bool Bool.true, Value.int 181 0, Value.ref 75, Value.none, Value.ref 76, Value.ref 77, Value.ref 78, Value.int 316 0, Value.int 72 0, Value.str (Str.ofString "/claim/cut.py") 317] }),
  (80, { cls := Value.type "function", data := Data.func { name := Str.ofString "get", qualname := Str.ofString "Tokenizer.get", params := mPrm PySem.Challenge.pw_kq0015_04 16 3, body := .stmts (mBdy PySem.Challenge.pw_kq0015_04 16 3), scope := mScp PySem.Challenge.pw_kq0015_04 16 3, globals := 3, closure := [], defaults := Value.none, kwdefaults := Value.none, pyModule := Value.str (Str.ofString "cpy313.re._parser") 253, code := Value.ref 79 } }),
  (81, { cls := Value.type "tuple", data := Data.seq #[] }),
  (83, { cls := Value.type "tuple", data := Data.seq #[Value.str (Str.ofString "self") 322, Value.str (Str.ofString "n") 323, Value.str (Str.ofString "charset") 324] }),
  (84, { cls := Value.type "tuple", data := Data.seq #[] }),
  (86, { cls := Value.type "code", data := Data.fields #[Value.str (Str.ofString "getwhile") 319, Value.str (Str.ofString "Tokenizer.getwhile") 320, Value.str (Str.ofString "/claim/cut.py") 321, Value.int 77 0, Value.int 3 0, Value.int 0 0, Value.int 0 0, Value.int 3 0, Value.ref 81, Value.bool Bool.true, Value.int 181 0, Value.ref 82, Value.none, Value.ref 83, Value.ref 84, Value.ref 85, Value.int 325 0, Value.int 77 0, Value.str (Str.ofString "/claim/cut.py") 326] }),
  (87, { cls := Value.type "function", data := Data.func { name := Str.ofString "getwhile", qualname := Str.ofString "Tokenizer.getwhile", params := mPrm PySem.Challenge.pw_kq0015_04 16 4, body := .stmts (mBdy PySem.Challenge.pw_kq0015_04 16 4), scope := mScp PySem.Challenge.pw_kq0015_04 16 4, globals := 3, closure := [], defaults := Value.none, kwdefaults := Value.none, pyModule := Value.str (Str.ofString "cpy313.re._parser") 253, code := Value.ref 86 } }),
  (88, { cls := Value.type "tuple", data := Data.seq #[] }),
  (90, { cls := Value.type "tuple", data := Data.seq #[Value.str (Str.ofString "self") 331, Value.str (Str.ofString "terminator") 332, Value.str (Str.ofString "name") 333] }),
  (91, { cls := Value.type "tuple", data := Data.seq #[] }),
  (93, { cls := Value.type "code", data := Data.fields #[Value.str (Str.ofString "getuntil") 328, Value.str (Str.ofString "Tokenizer.getuntil") 329, Value.str (Str.ofString "/claim/cut.py") 330, Value.int 80 0, Value.int 3 0, Value.int 0 0, Value.int 0 0, Value.int 3 0, Value.ref 88, Value.bool Bool.true, Value.int 181 0, Value.ref 89, Value.none, Value.ref 90, Value.ref 91, Value.ref 92, Value.int 334 0, Value.int 80 0, Value.str (Str.ofString "/claim/cut.py") 335] }),
  (94, { cls := Value.type "function", data := Data.func { name := Str.ofString "getuntil", qualname := Str.ofString "Tokenizer.getuntil", params := mPrm PySem.Challenge.pw_kq0015_04 16 5, body := .stmts (mBdy PySem.Challenge.pw_kq0015_04 16 5), scope := mScp PySem.Challenge.pw_kq0015_04 16 5, globals := 3, closure := [], defaults := Value.none, kwdefaults := Value.none, pyModule := Value.str (Str.ofString "cpy313.re._parser") 253, code := Value.ref 93 } }),
  (95, { cls := Value.type "tuple", data := Data.seq #[] }),
  (97, { cls := Value.type "tuple", data := Data.seq #[Value.str (Str.ofString "self") 340] }),
  (98, { cls := Value.type "tuple", data := Data.seq #[] }),
  (100, { cls := Value.type "code", data := Data.fields #[Value.str (Str.ofString "pos") 337, Value.str (Str.ofString "Tokenizer.pos") 338, Value.str (Str.ofString "/claim/cut.py") 339, Value.int 83 0, Value.int 1 0, Value.int 0 0, Value.int 0 0, Value.int 3 0, Value.ref 95, Value.bool Bool.true, Value.int 181 0, Value.ref 96, Value.none, Value.ref 97, Value.ref 98, Value.ref 99, Value.int 341 0, Value.int 83 0, Value.str (Str.ofString "/claim/cut.py") 342] }),
  (101, { cls := Value.type "function", data := Data.func { name := Str.ofString "pos", qualname := Str.ofString "Tokenizer.pos", params := mPrm PySem.Challenge.pw_kq0015_04 16 6, body := .stmts (mBdy PySem.Challenge.pw_kq0015_04 16 6), scope := mScp PySem.Challenge.pw_kq0015_04 16 6, globals := 3, closure := [], defaults := Value.none, kwdefaults := Value.none, pyModule := Value.str (Str.ofString "cpy313.re._parser") 253, code := Value.ref 100 } }),
  (102, { cls := Value.type "property", data := Data.fields #[Value.ref 101, Value.none, Value.none, Value.none, Value.str (Str.ofString "pos") 344, Value.bool Bool.false] }),
  (103, { cls := Value.type "tuple", data := Data.seq #[] }),
  (105, { cls := Value.type "tuple", data := Data.seq #[Value.str (Str.ofString "self") 348] }),
  (106, { cls := Value.type "tuple", data := Data.seq #[] }),
  (108, { cls := Value.type "code", data := Data.fields #[Value.str (Str.ofString "tell") 345, Value.str (Str.ofString "Tokenizer.tell") 346, Value.str (Str.ofString "/claim/cut.py") 347, Value.int 87 0, Value.int 1 0, Value.int 0 0, Value.int 0 0, Value.int 3 0, Value.ref 103, Value.bool Bool.true, Value.int 181 0, Value.ref 104, Value.none, Value.ref 105, Value.ref 106, Value.ref 107, Value.int 349 0, Value.int 87 0, Value.str (Str.ofString "/claim/cut.py") 350] }),
  (109, { cls := Value.type "function", data := Data.func { name := Str.ofString "tell", qualname := Str.ofString "Tokenizer.tell", params := mPrm PySem.Challenge.pw_kq0015_04 16 7, body := .stmts (mBdy PySem.Challenge.pw_kq0015_04 16 7), scope := mScp PySem.Challenge.pw_kq0015_04 16 7, globals := 3, closure := [], defaults := Value.none, kwdefaults := Value.none, pyModule := Value.str (Str.ofString "cpy313.re._parser") 253, code := Value.ref 108 } }),
  (110, { cls := Value.type "tuple", data := Data.seq #[] }),
  (112, { cls := Value.type "tuple", data := Data.seq #[Value.str (Str.ofString "self") 355, Value.str (Str.ofString "index") 356] }),
  (113, { cls := Value.type "tuple", data := Data.seq #[] }),
  (115, { cls := Value.type "code", data := Data.fields #[Value.str (Str.ofString "seek") 352, Value.str (Str.ofString "Tokenizer.seek") 353, Value.str (Str.ofString "/claim/cut.py") 354, Value.int 90 0, Value.int 2 0, Value.int 0 0, Value.int 0 0, Value.int 3 0, Value.ref 110, Value.bool Bool.true, Value.int 181 0, Value.ref 111, Value.none, Value.ref 112, Value.ref 113, Value.ref 114, Value.int 357 0, Value.int 90 0, Value.str (Str.ofString "/claim/cut.py") 358] }),
  (116, { cls := Value.type "function", data := Data.func { name := Str.ofString "seek", qualname := Str.ofString "Tokenizer.seek", params := mPrm PySem.Challenge.pw_kq0015_04 16 8, body := .stmts (mBdy PySem.Challenge.pw_kq0015_04 16 8), scope := mScp PySem.Challenge.pw_kq0015_04 16 8, globals := 3, closure := [], defaults := Value.none, kwdefaults := Value.none, pyModule := Value.str (Str.ofString "cpy313.re._parser") 253, code := Value.ref 115 } }),
  (117, { cls := Value.type "tuple", data := Data.seq #[Value.int 0 360] }),
  (118, { cls := Value.type "tuple", data := Data.seq #[] }),
  (120, { cls := Value.type "tuple", data := Data.seq #[Value.str (Str.ofString "self") 364, Value.str (Str.ofString "msg") 365, Value.str (Str.ofString "offset") 366] }),
  (121, { cls := Value.type "tuple", data := Data.seq #[] }),
  (123, { cls := Value.type "code", data := Data.fields #[Value.str (Str.ofString "error") 361, Value.str (Str.ofString "Tokenizer.error") 362, Value.str (Str.ofString "/claim/cut.py") 363, Value.int 94 0, Value.int 3 0, Value.int 0 0, Value.int 0 0, Value.int 3 0, Value.ref 118, Value.bool Bool.true, Value.int 181 0, Value.ref 119, Value.none, Value.ref 120, Value.ref 121, Value.ref 122, Value.int 367 0, Value.int 94 0, Value.str (Str.ofString "/claim/cut.py") 368] }),
  (124, { cls := Value.type "function", data := Data.func { name := Str.ofString "error", qualname := Str.ofString "Tokenizer.error", params := mPrm PySem.Challenge.pw_kq0015_04 16 9, body := .stmts (mBdy PySem.Challenge.pw_kq0015_04 16 9), scope := mScp PySem.Challenge.pw_kq0015_04 16 9, globals := 3, closure := [], defaults := Value.ref 117, kwdefaults := Value.none, pyModule := Value.str (Str.ofString "cpy313.re._parser") 253, code := Value.ref 123 } }),
  (125, { cls := Value.type "tuple", data := Data.seq #[] }),
  (127, { cls := Value.type "tuple", data := Data.seq #[Value.str (Str.ofString "self") 373, Value.str (Str.ofString "name") 374, Value.str (Str.ofString "offset") 375] }),
  (128, { cls := Value.type "tuple", data := Data.seq #[] }),
  (130, { cls := Value.type "code", data := Data.fields #[Value.str (Str.ofString "checkgroupname") 370, Value.str (Str.ofString "Tokenizer.checkgroupname") 371, Value.str (Str.ofString "/claim/cut.py") 372, Value.int 99 0, Value.int 3 0, Value.int 0 0, Value.int 0 0, Value.int 3 0, Value.ref 125, Value.bool Bool.true, Value.int 181 0, Value.ref 126, Value.none, Value.ref 127, Value.ref 128, Value.ref 129, Value.int 376 0, Value.int 99 0, Value.str (Str.ofString "/claim/cut.py") 377] }),
  (131, { cls := Value.type "function", data := Data.func { name := Str.ofString "checkgroupname", qualname := Str.ofString "Tokenizer.checkgroupname", params := mPrm PySem.Challenge.pw_kq0015_04 16 10, body := .stmts (mBdy PySem.Challenge.pw_kq0015_04 16 10), scope := mScp PySem.Challenge.pw_kq0015_04 16 10, globals := 3, closure := [], defaults := Value.none, kwdefaults := Value.none, pyModule := Value.str (Str.ofString "cpy313.re._parser") 253, code := Value.ref 130 } }),
  (132, { cls := Value.type "tuple", data := Data.seq #[Value.str (Str.ofString "decoded_string") 379, Value.str (Str.ofString "index") 380, Value.str (Str.ofString "istext") 381, Value.str (Str.ofString "next") 382, Value.str (Str.ofString "string") 383] }),
  (133, { cls := Value.type "dict", data := Data.dict #[{ hash := PyData.keyHash P (Str.ofString "__module__"), key := Value.str (Str.ofString "__module__") 281, val := Value.str (Str.ofString "cpy313.re._parser") 253 }, { hash := PyData.keyHash P (Str.ofString "__firstlineno__"), key := Value.str (Str.ofString "__firstlineno__") 285, val := Value.int 38 284 }, { hash := PyData.keyHash P (Str.ofString "__init__"), key := Value.str (Str.ofString "__init__") 293, val := Value.ref 59 }, { hash := PyData.keyHash P (Str.ofString "_Tokenizer__next"), key := Value.str (Str.ofString "_Tokenizer__next") 302, val := Value.ref 66 }, { hash := PyData.keyHash P (Str.ofString "match"), key := Value.str (Str.ofString "match") 310, val := Value.ref 73 }, { hash := PyData.keyHash P (Str.ofString "get"), key := Value.str (Str.ofString "get") 318, val := Value.ref 80 }, { hash := PyData.keyHash P (Str.ofString "getwhile"), key := Value.str (Str.ofString "getwhile") 327, val := Value.ref 87 }, { hash := PyData.keyHash P (Str.ofString "getuntil"), key := Value.str (Str.ofString "getuntil") 336, val := Value.ref 94 }, { hash := PyData.keyHash P (Str.ofString "pos"), key := Value.str (Str.ofString "pos") 344, val := Value.ref 102 }, { hash := PyData.keyHash P (Str.ofString "tell"), key := Value.str (Str.ofString "tell") 351, val := Value.ref 109 }, { hash := PyData.keyHash P (Str.ofString "seek"), key := Value.str (Str.ofString "seek") 359, val := Value.ref 116 }, { hash := PyData.keyHash P (Str.ofString "error"), key := Value.str (Str.ofString "error") 369, val := Value.ref 124 }, { hash := PyData.keyHash P (Str.ofString "checkgroupname"), key := Value.str (Str.ofString "checkgroupname") 378, val := Value.ref 131 }, { hash := PyData.keyHash P (Str.ofString "__static_attributes__"), key := Value.str (Str.ofString "__static_attributes__") 384, val := Value.ref 132 }, { hash := PyData.keyHash P (Str.ofString "__dict__"), key := Value.str (Str.ofString "__dict__") 386, val := Value.ref 135 }, { hash := PyData.keyHash P (Str.ofString "__weakref__"), key := Value.str (Str.ofString "__weakref__") 388, val := Value.ref 136 }, { hash := PyData.keyHash P (Str.ofString "__doc__"), key := Value.str (Str.ofString "__doc__") 389, val := Value.none }] 4 }),
  (134, { cls := Value.type "type", data := Data.cls { name := Str.ofString "Tokenizer", bases := [Value.type "object"], mro := [Value.ref 134, Value.type "object"], ns := 133, qualname := Str.ofString "Tokenizer" }, slots := #[Option.none, Option.none, Option.some (Value.str (Str.ofString "Tokenizer") 274), Option.some (Value.str (Str.ofString "Tokenizer") 282), Option.some (Value.builtin "object.__new__"), Option.some (Value.bool Bool.true)] }),
  (135, { cls := Value.type "getset_descriptor", data := Data.fields #[Value.str (Str.ofString "__dict__") 385, Value.ref 134, Value.builtin "function.__dict__", Value.builtin "function.__dict__#set"] }),
  (136, { cls := Value.type "getset_descriptor", data := Data.fields #[Value.str (Str.ofString "__weakref__") 387, Value.ref 134, Value.builtin "ExceptionGroup.__weakref__", Value.none] }),
  (139, { cls := Value.type "tuple", data := Data.seq #[] }),
  (141, { cls := Value.type "tuple", data := Data.seq #[Value.str (Str.ofString "source") 395, Value.str (Str.ofString "state") 396, Value.str (Str.ofString "char") 397, Value.str (Str.ofString "sourceget") 398, Value.str (Str.ofString "add_flags") 399, Value.str (Str.ofString "del_flags") 400, Value.str (Str.ofString "flag") 401, Value.str (Str.ofString "msg") 402] }),
  (142, { cls := Value.type "tuple", data := Data.seq #[] }),
  (144, { cls := Value.type "code", data := Data.fields #[Value.str (Str.ofString "_parse_flags") 392, Value.str (Str.ofString "_parse_flags") 393, Value.str (Str.ofString "/claim/cut.py") 394, Value.int 101 0, Value.int 3 0, Value.int 0 0, Value.int 0 0, Value.int 3 0, Value.ref 139, Value.bool Bool.true, Value.int 181 0, Value.ref 140, Value.none, Value.ref 141, Value.ref 142, Value.ref 143, Value.int 403 0, Value.int 101 0, Value.str (Str.ofString "/claim/cut.py") 404] }),
  (145, { cls := Value.type "function", data := Data.func { name := Str.ofString "_parse_flags", qualname := Str.ofString "_parse_flags", params := fPrm PySem.Challenge.pw_kq0015_04 17, body := .stmts (fBdy PySem.Challenge.pw_kq0015_04 17), scope := fScp PySem.Challenge.pw_kq0015_04 17, globals := 3, closure := [], defaults := Value.none, kwdefaults := Value.none, pyModule := Value.str (Str.ofString "cpy313.re._parser") 253, code := Value.ref 144 } }),
  (146, { cls := Value.type "tuple", data := Data.seq #[] }),
  (148, { cls := Value.type "tuple", data := Data.seq #[Value.str (Str.ofString "msg") 411, Value.str (Str.ofString "text") 412, Value.str (Str.ofString "given") 413, Value.str (Str.ofString "pos") 414, Value.str (Str.ofString "above") 415, Value.str (Str.ofString "words") 416] }),
  (149, { cls := Value.type "tuple", data := Data.seq #[] }),
  (151, { cls := Value.type "code", data := Data.fields #[Value.str (Str.ofString "_law_whole") 408, Value.str (Str.ofString "_law_whole") 409, Value.str (Str.ofString "/claim/cut.py") 410, Value.int 160 0, Value.int 4 0, Value.int 0 0, Value.int 0 0, Value.int 3 0, Value.ref 146, Value.bool Bool.true, Value.int 181 0, Value.ref 147, Value.none, Value.ref 148, Value.ref 149, Value.ref 150, Value.int 417 0, Value.int 160 0, Value.str (Str.ofString "/claim/cut.py") 418] }),
  (152, { cls := Value.type "function", data := Data.func { name := Str.ofString "_law_whole", qualname := Str.ofString "_law_whole", params := fPrm PySem.Challenge.pw_kq0015_04 19, body := .stmts (fBdy PySem.Challenge.pw_kq0015_04 19), scope := fScp PySem.Challenge.pw_kq0015_04 19, globals := 3, closure := [], defaults := Value.none, kwdefaults := Value.none, pyModule := Value.str (Str.ofString "law_kq0015_04") 406, code := Value.ref 151 } }),
  (153, { cls := Value.type "tuple", data := Data.seq #[] }),
  (155, { cls := Value.type "tuple", data := Data.seq #[Value.str (Str.ofString "text") 423, Value.str (Str.ofString "signs") 424, Value.str (Str.ofString "c") 425] }),
  (156, { cls := Value.type "tuple", data := Data.seq #[] }),
  (158, { cls := Value.type "code", data := Data.fields #[Value.str (Str.ofString "_law_signs") 420, Value.str (Str.ofString "_law_signs") 421, Value.str (Str.ofString "/claim/cut.py") 422, Value.int 166 0, Value.int 1 0, Value.int 0 0, Value.int 0 0, Value.int 3 0, Value.ref 153, Value.bool Bool.true, Value.int 181 0, Value.ref 154, Value.none, Value.ref 155, Value.ref 156, Value.ref 157, Value.int 426 0, Value.int 166 0, Value.str (Str.ofString "/claim/cut.py") 427] }),
  (159, { cls := Value.type "function", data := Data.func { name := Str.ofString "_law_signs", qualname := Str.ofString "_law_signs", params := fPrm PySem.Challenge.pw_kq0015_04 20, body := .stmts (fBdy PySem.Challenge.pw_kq0015_04 20), scope := fScp PySem.Challenge.pw_kq0015_04 20, globals := 3, closure := [], defaults := Value.none, kwdefaults := Value.none, pyModule := Value.str (Str.ofString "law_kq0015_04") 406, code := Value.ref 158 } }),
  (160, { cls := Value.type "tuple", data := Data.seq #[] }),
  (163, { cls := Value.type "code", data := Data.fields #[Value.str (Str.ofString "law") 429, Value.str (Str.ofString "law") 430, Value.str (Str.ofString "/claim/cut.py") 431, Value.int 174 0, Value.int 1 0, Value.int 0 0, Value.int 0 0, Value.int 3 0, Value.ref 160, Value.bool Bool.true, Value.int 181 0, Value.ref 161, Value.none, Value.none, Value.none, Value.ref 162, Value.int 432 0, Value.int 174 0, Value.str (Str.ofString "/claim/cut.py") 433] }),
  (164, { cls := Value.type "function", data := Data.func { name := Str.ofString "law", qualname := Str.ofString "law", params := fPrm PySem.Challenge.pw_kq0015_04 21, body := .stmts (fBdy PySem.Challenge.pw_kq0015_04 21), scope := fScp PySem.Challenge.pw_kq0015_04 21, globals := 3, closure := [], defaults := Value.none, kwdefaults := Value.none, pyModule := Value.str (Str.ofString "law_kq0015_04") 406, code := Value.ref 163 } })]
noncomputable def HA : List Addr := [2, 3, 15, 17, 18, 20, 21, 22, 25, 30, 31, 32, 34, 35, 37, 38, 39, 40, 41, 42, 45, 53, 55, 56, 58, 59, 60, 62, 63, 65, 66, 67, 69, 70, 72, 73, 74, 76, 77, 79, 80, 81, 83, 84, 86, 87, 88, 90, 91, 93, 94, 95, 97, 98, 100, 101, 102, 103, 105, 106, 108, 109, 110, 112, 113, 115, 116, 117, 118, 120, 121, 123, 124, 125, 127, 128, 130, 131, 132, 133, 134, 135, 136, 139, 141, 142, 144, 145, 146, 148, 149, 151, 152, 153, 155, 156, 158, 159, 160, 163, 164]
theorem hA (P : Params) : HA = (HK P).map (·.1) := by kernel_rfl
noncomputable def HV : Program := viewOf PySem.Challenge.pw_kq0015_04
noncomputable def HL : List Str := ["PatternError", "error_constants", "FLAGS", "TYPE_FLAGS", "GLOBAL_FLAGS", "Tokenizer"]
noncomputable def HLV : List (Str × WData) := [("TYPE_FLAGS", .int 292), ("GLOBAL_FLAGS", .int 128)]
theorem hsaid : PySem.Challenge.rw_kq0015_04.wellSaid = true := by kernel_rfl
theorem hlaw (h : PySem.Challenge.rw_kq0015_04.row.wellSaid = true → PySem.Challenge.rw_kq0015_04.row.Holds) : PySem.Challenge.rw_kq0015_04.Holds := holds_law hsaid h
theorem hopen : opening PySem.Challenge.rw_kq0015_04.row.toRowW.1 = plainProg PySem.Challenge.rw_kq0015_04.row.toRowW.1.main.scope.names := by kernel_rfl
theorem hfence : ∀ s, fenceModules? PySem.Challenge.rw_kq0015_04.row.toRowW.1 s = some s := fun s => by kernel_rfl
noncomputable def HXt (s : Shared) : Bool := xlAt HV HLV s && recOk PySem.Challenge.rw_kq0015_04.row.records s
theorem hrun0 (w : World) (os : OsState) : (topFrom treeTable PySem.Challenge.rw_kq0015_04.row.toRowW.1 (w.withFollow rowS false) 3000 ⟨boot_heap (w.withFollow rowS false).params, #[], boot_drawn, boot_toks, os⟩).map (fun s => (openSeen HV HL (importedModules PySem.Challenge.rw_kq0015_04.row.toRowW.1.main.body) HXt true s, (kHook HK HA hA).obs s)) = some (openGood HV HL, (kHook HK HA hA).val (w.withFollow rowS false)) := by kernel_rfl
theorem hrun1 (w : World) (os : OsState) : (topFrom treeTable PySem.Challenge.rw_kq0015_04.row.toRowW.1 (w.withFollow rowS true) 3000 ⟨boot_heap (w.withFollow rowS true).params, #[], boot_drawn, boot_toks, os⟩).map (fun s => (openSeen HV HL (importedModules PySem.Challenge.rw_kq0015_04.row.toRowW.1.main.body) HXt true s, (kHook HK HA hA).obs s)) = some (openGood HV HL, (kHook HK HA hA).val (w.withFollow rowS true)) := by kernel_rfl
theorem hleft : LeftO PySem.Challenge.rw_kq0015_04.row.toRowW.1 HV HL HXt (kHook HK HA hA).obs (kHook HK HA hA).val 3000 := left_boot hopen (by rfl) hfence fun w os b => by
  cases b with
  | false => exact hrun0 w os
  | true => exact hrun1 w os
end Mine
namespace Mine
open PySem PySem.W PyProof.Rows PySem.Calls PySem.Spec
noncomputable abbrev KK (c : Cx) : Frag := HK c.w.params
noncomputable def Sc (c : Cx) (a : Addr) : Scope := scAt (KK c) a
noncomputable abbrev cT : Addr := 134
theorem k_attr {c : Cx} (hK : c.K = KK c) {nm : Str} (h : nm ∈ [("istext" : Str), "string", "decoded_string", "index", "next", "flags"]) : AttrOk c.K cT nm := by
  rw [hK]
  simp only [List.mem_cons, List.not_mem_nil, or_false] at h
  rcases h with rfl | rfl | rfl | rfl | rfl | rfl <;> exact ⟨by kernel_rfl, by kernel_rfl, none, by kernel_rfl, by kernel_rfl⟩
theorem k_set {c : Cx} (hK : c.K = KK c) {nm : Str} (h : nm ∈ [("istext" : Str), "string", "decoded_string", "index", "next", "flags"]) : SetOk c.K cT nm := by
  rw [hK]
  simp only [List.mem_cons, List.not_mem_nil, or_false] at h
  rcases h with rfl | rfl | rfl | rfl | rfl | rfl <;> exact ⟨by kernel_rfl, by kernel_rfl, by kernel_rfl, by kernel_rfl⟩
theorem k_next {c : Cx} (hK : c.K = KK c) : MethOk c.K cT "_Tokenizer__next" 66 := by rw [hK]; exact ⟨by kernel_rfl, by kernel_rfl, by kernel_rfl⟩
theorem k_get {c : Cx} (hK : c.K = KK c) : MethOk c.K cT "get" 80 := by rw [hK]; exact ⟨by kernel_rfl, by kernel_rfl, by kernel_rfl⟩
theorem k_new {c : Cx} (hK : c.K = KK c) : NewOk c.K cT 59 := by rw [hK]; exact ⟨by kernel_rfl, by kernel_rfl, by kernel_rfl, by kernel_rfl⟩
noncomputable def tokAs (b : Bool) (src : D) (t : Str) (k : Nat) (nx : D) : List (Str × D) := [("istext", .bool b), ("string", src), ("decoded_string", .str t), ("index", .int k), ("next", nx)]
structure G1 (c : Cx) : Prop where
  ie : GlobIs c "IndexError" (.type "IndexError")
theorem seq_nat {k len : Nat} : seqIndex? (k : Int) len = if k < len then some k else none := by
  unfold seqIndex?
  have h1 : ¬ ((k : Int) < 0) := by lia
  simp only [h1, if_false]
  by_cases h : k < len
  · have h2 : ((0 : Int) ≤ k && (k : Int) < len) = true := by simp; lia
    rw [if_pos (by simpa using h2), if_pos h]; rfl
  · have h2 : ((0 : Int) ≤ k && (k : Int) < len) = false := by simp; lia
    rw [if_neg (by simpa using h2), if_neg h]
theorem item_some {t : Str} {k ch : Nat} (h : t.cps[k]? = some ch) : (seqIndex? (k : Int) t.length).bind (t.cps[·]?) = some ch := by
  have : k < t.length := (Array.getElem?_eq_some_iff.mp h).1
  rw [seq_nat, if_pos this]; exact h
theorem item_succ {t : Str} {k ch : Nat} (h : t.cps[k + 1]? = some ch) : (seqIndex? ((k : Int) + 1) t.length).bind (t.cps[·]?) = some ch := item_some (k := k + 1) h
theorem item_none {t : Str} {k : Nat} (h : t.cps[k]? = none) : (seqIndex? (k : Int) t.length).bind (t.cps[·]?) = none := by
  have : ¬ k < t.length := by
    intro hlt
    have : t.cps[k]? = some t.cps[k] := Array.getElem?_eq_getElem hlt
    rw [h] at this; cases this
  rw [seq_nat, if_neg this]; rfl
section
variable {c : Cx} {n : Nat} {i : Nat} {H : List (Nat × HO)} {loc : List (Nat × V)} {b : Bool} {src : D} {t : Str} {k k' : Nat} {nx nx' : D}
theorem next_okL (hC : CxOk c) (hK : c.K = KK c) (G : G1 c) (hc : t.cps[k]? = none → c.calm = true) (hn : n ≤ 90) (hi : lk i H = some (.inst cT (tokAs b src t k nx))) (hk : k ≤ 100000) (hs : tokNext t k = some (k', nx')) :
    FnN c n 66 [.obj i] ⟨loc, H⟩ (.d .none) ⟨loc, setH i (.inst cT (tokAs b src t k' nx')) H⟩ := by
  have at1 : ∀ {d : D} (nm : Str) {p q : Pos} {σ : St} {b src t k nx}, nm ∈ [("istext" : Str), "string", "decoded_string", "index", "next", "flags"] → lk i σ.heap = some (.inst cT (tokAs b src t k nx)) → getD? nm (tokAs b src t k nx) = some d → lk (key "self") σ.loc = some (.obj i) →
      Ev c (Sc c 66) (n + 1) (.Attribute (.Name "self" p) nm q) σ (.d d) σ := by
    intro d nm p q σ b src t k nx h h2 h3 h1
    exact ev_attr hC (k_attr hK h) (Mine.nm (by kernel_rfl) (by kernel_rfl) h1) h2 h3
  have put : ∀ {k1 : Nat} {nx1 : D} (d : D), putD' "next" d (tokAs b src t k1 nx1) = tokAs b src t k1 d := fun d => by kernel_rfl
  have puti : ∀ {k1 k2 : Nat} {nx1 : D}, putD' "index" (.int k2) (tokAs b src t k1 nx1) = tokAs b src t k2 nx1 := by intros; kernel_rfl
  have fin : ∀ {loc' : List (Nat × V)} {fl : Fl}, Gives fl .none → Exs c (Sc c 66) (n + 1) (bodyAt (KK c) 66) ⟨loc0 ["self"] [.obj i], H⟩ fl ⟨loc', setH i (.inst cT (tokAs b src t k' nx')) H⟩ → FnN c n 66 [.obj i] ⟨loc, H⟩ (.d .none) ⟨loc, setH i (.inst cT (tokAs b src t k' nx')) H⟩ := fun g h =>
    fn_at (ps := ["self"]) (T := []) (σ := ⟨loc, H⟩) hC hK (by lia) (by kernel_rfl) (by decide) (fun vs hv => by obtain ⟨a, rfl⟩ := len1 hv; kernel_rfl) rfl rfl h g
  unfold tokNext at hs
  cases q : t.cps[k]? with
  | none =>
    rw [q] at hs
    cases hs
    refine fin (loc' := (key "index", .d (.int k)) :: loc0 ["self"] [.obj i]) (.ret (d := .none)) ?m
    case m =>
    refine exs_body (body' := mBdy PySem.Challenge.pw_kq0015_04 16 1) ?_ (by kernel_rfl)
    dsimp only [mBdy, fBdy, cBdy, PySem.Challenge.pw_kq0015_04, List.drop]
    refine exs_cons (asg (at1 (d := .int k) "index" (by decide) hi (by kernel_rfl) lk6)) ?_
    refine exs_stop (fl := .ret (.d .none)) (ex_try_index (tx := t) (k := k) hC (by kernel_rfl) (hc q) (at1 (d := .str t) "decoded_string" (by decide) hi (by kernel_rfl) (lk4 (by kernel_rfl) lk6)) nm (item_none q) (by lia) (by kernel_rfl) G.ie ?_)
    refine exs_cons (ex_setattr hC.loud (k_set (c := c.loud) hK (by decide)) ev_none nm hi (by show (5 : Nat) ≤ 900; decide)) ?_
    rw [put]
    exact exs_stop ex_ret0
  | some ch =>
    rw [q] at hs
    by_cases h92 : ch = 92
    · subst h92
      simp only [if_true] at hs
      cases q2 : t.cps[k + 1]? with
      | none => rw [q2] at hs; cases hs
      | some d2 =>
        rw [q2] at hs
        cases hs
        refine fin (loc' := ?l) .none ?m
        case m =>
        refine exs_body (body' := mBdy PySem.Challenge.pw_kq0015_04 16 1) ?_ (by kernel_rfl)
        dsimp only [mBdy, fBdy, cBdy, PySem.Challenge.pw_kq0015_04, List.drop]
        refine exs_cons (asg (at1 (d := .int k) "index" (by decide) hi (by kernel_rfl) lk6)) ?_
        refine exs_cons (ex_try_ok (exs_cons (asg (ev_sub (at1 (d := .str t) "decoded_string" (by decide) hi (by kernel_rfl) (lk4 (by kernel_rfl) lk6)) nm (op_item_str (item_some q) (by lia)))) exs_nil)) ?_
        refine exs_cons (if_t (σ₂ := ?s2) (ts_cmp nm ev_str (c_eqs (x := ⟨#[92]⟩))) ?m1) ?m2
        case m1 =>
          refine exs_cons (aug ev_int i_add) ?_
          refine exs_cons (ex_try_ok (exs_cons (aug (ev_sub (at1 (d := .str t) "decoded_string" (by decide) hi (by kernel_rfl) (lk4 (by kernel_rfl) (lk4 (by kernel_rfl) (lk4 (by kernel_rfl) lk6)))) nm (op_item_str (k := (k : Int) + 1) (item_succ q2) (by lia))) (i_adds (x := ⟨#[92]⟩) (y := ⟨#[d2]⟩) (by show (2 : Nat) ≤ sizeLine; decide))) exs_nil)) ?_
          exact exs_nil
        case m2 =>
          refine exs_cons (ex_setattr hC (k_set hK (by decide)) (ev_binop nm ev_int b_add) nm hi (by show (5 : Nat) ≤ 900; decide)) ?_
          refine exs_cons (ex_setattr hC (k_set hK (by decide)) nm nm (lk_setH hi) (by show (5 : Nat) ≤ 900; decide)) ?_
          rw [setH_setH]
          exact exs_nil
    · dsimp only at hs
      rw [if_neg h92] at hs
      cases hs
      refine fin (loc' := ?l9) .none ?m9
      case m9 =>
      refine exs_body (body' := mBdy PySem.Challenge.pw_kq0015_04 16 1) ?_ (by kernel_rfl)
      dsimp only [mBdy, fBdy, cBdy, PySem.Challenge.pw_kq0015_04, List.drop]
      refine exs_cons (asg (at1 (d := .int k) "index" (by decide) hi (by kernel_rfl) lk6)) ?_
      refine exs_cons (ex_try_ok (exs_cons (asg (ev_sub (at1 (d := .str t) "decoded_string" (by decide) hi (by kernel_rfl) (lk4 (by kernel_rfl) lk6)) nm (op_item_str (item_some q) (by lia)))) exs_nil)) ?_
      have ne : ((⟨#[ch]⟩ : Str) == ⟨#[92]⟩) = false := by simpa using h92
      refine exs_cons (if_f (ne ▸ ts_cmp nm ev_str (c_eqs (x := ⟨#[ch]⟩))) exs_nil) ?_
      refine exs_cons (ex_setattr hC (k_set hK (by decide)) (ev_binop nm ev_int b_add) nm hi (by show (5 : Nat) ≤ 900; decide)) ?_
      refine exs_cons (ex_setattr hC (k_set hK (by decide)) nm nm (lk_setH hi) (by show (5 : Nat) ≤ 900; decide)) ?_
      rw [setH_setH]
      exact exs_nil
theorem next_ok (hC : CxOk c) (hK : c.K = KK c) (G : G1 c) (hc : c.calm = true) (hn : n ≤ 90) (hi : lk i H = some (.inst cT (tokAs b src t k nx))) (hk : k ≤ 100000) (hs : tokNext t k = some (k', nx')) :
    FnN c n 66 [.obj i] ⟨loc, H⟩ (.d .none) ⟨loc, setH i (.inst cT (tokAs b src t k' nx')) H⟩ := next_okL hC hK G (fun _ => hc) hn hi hk hs
theorem kp {a : Addr} (hK : c.K = KK c) (h : keepIn (KK c) (.ref a) = true) : keepIn c.K (.ref a) = true := by rw [hK]; exact h
theorem get_okL (hC : CxOk c) (hK : c.K = KK c) (G : G1 c) (hc : t.cps[k]? = none → c.calm = true) (hn : n ≤ 80) (hi : lk i H = some (.inst cT (tokAs b src t k nx))) (hk : k ≤ 100000) (hs : tokNext t k = some (k', nx')) :
    FnN c n 80 [.obj i] ⟨loc, H⟩ (.d nx) ⟨loc, setH i (.inst cT (tokAs b src t k' nx')) H⟩ := by
  refine fn_at (S := Sc c 80) (ps := ["self"]) (T := []) (fl := .ret (.d nx)) (loc := (key "this", .d nx) :: loc0 ["self"] [.obj i]) (σ := ⟨loc, H⟩) hC hK (by lia) (by kernel_rfl) (by decide) (fun vs hv => by obtain ⟨a, rfl⟩ := len1 hv; kernel_rfl) rfl rfl ?b .ret
  case b =>
  refine exs_body (body' := mBdy PySem.Challenge.pw_kq0015_04 16 3) ?_ (by kernel_rfl)
  dsimp only [mBdy, fBdy, cBdy, PySem.Challenge.pw_kq0015_04, List.drop]
  refine exs_cons (asg (ev_attr hC (k_attr hK (by decide)) nm hi (d := nx) (by kernel_rfl))) ?_
  refine exs_cons (ex_expr (ev_methf0 hC (kp hK (by kernel_rfl)) nm (getm_inst hC (k_next hK) hi (by kernel_rfl)) (opn_fn (next_okL (loc := (key "this", .d nx) :: loc0 ["self"] [.obj i]) hC hK G hc (by lia) hi hk hs)))) ?_
  exact exs_stop (ex_ret nm)
theorem get_ok (hC : CxOk c) (hK : c.K = KK c) (G : G1 c) (hc : c.calm = true) (hn : n ≤ 80) (hi : lk i H = some (.inst cT (tokAs b src t k nx))) (hk : k ≤ 100000) (hs : tokNext t k = some (k', nx')) :
    FnN c n 80 [.obj i] ⟨loc, H⟩ (.d nx) ⟨loc, setH i (.inst cT (tokAs b src t k' nx')) H⟩ := get_okL hC hK G (fun _ => hc) hn hi hk hs
structure G2 (c : Cx) : Prop extends G1 c where
  isi : GlobIs c "isinstance" (.builtin "isinstance")
  str : GlobIs c "str" (.type "str")
theorem init_str (hC : CxOk c) (hK : c.K = KK c) (G : G2 c) (hc : c.calm = true) (hn : n ≤ 80) {o : HO} (hi : lk i H = some o) (hi' : setH i (.inst cT []) H = H) (hs : tokNext t 0 = some (k', nx')) :
    FnN c n 59 [.obj i, .d (.str t)] ⟨loc, H⟩ (.d .none) ⟨loc, setH i (.inst cT (tokAs true (.str t) t k' nx')) H⟩ := by
  refine fn_at (S := Sc c 59) (ps := ["self", "string"]) (T := []) (fl := .next) (loc := loc0 ["self", "string"] [.obj i, .d (.str t)]) (σ := ⟨loc, H⟩) hC hK (by lia) (by kernel_rfl) (by decide) (fun vs hv => by obtain ⟨a, b, rfl⟩ := len2 hv; kernel_rfl) rfl rfl ?b .none
  case b =>
  refine exs_body (body' := mBdy PySem.Challenge.pw_kq0015_04 16 0) ?_ (by kernel_rfl)
  dsimp only [mBdy, fBdy, cBdy, PySem.Challenge.pw_kq0015_04, List.drop]
  refine exs_cons (sattr [("istext", .bool true)] hC (k_set hK (by decide)) (ev_callb (gl hC G.isi) (evs_cons nm (evs_cons (gl hC G.str) evs_nil)) f_isstr) nm (as := []) hi'.symm hi (by kernel_rfl) (by decide)) ?_
  refine exs_cons (sattr [("istext", .bool true), ("string", .str t)] hC (k_set hK (by decide)) nm nm rfl hi (by kernel_rfl) (by show (1 : Nat) ≤ 900; decide)) ?_
  refine exs_cons (if_f (ts_not (b := true) (ts_plain (ev_attr hC (k_attr hK (by decide)) nm (lk_setH hi) (d := .bool true) (by kernel_rfl)) t_bool)) exs_nil) ?_
  refine exs_cons (sattr [("istext", .bool true), ("string", .str t), ("decoded_string", .str t)] hC (k_set hK (by decide)) nm nm rfl hi (by kernel_rfl) (by show (2 : Nat) ≤ 900; decide)) ?_
  refine exs_cons (sattr [("istext", .bool true), ("string", .str t), ("decoded_string", .str t), ("index", .int 0)] hC (k_set hK (by decide)) ev_int nm rfl hi (by kernel_rfl) (by show (3 : Nat) ≤ 900; decide)) ?_
  refine exs_cons (sattr (tokAs true (.str t) t 0 .none) hC (k_set hK (by decide)) ev_none nm rfl hi (by kernel_rfl) (by show (4 : Nat) ≤ 900; decide)) ?_
  refine exs_cons (ex_expr (ev_methf0 hC (kp hK (by kernel_rfl)) nm (getm_inst hC (k_next hK) (lk_setH hi) (by kernel_rfl)) (opn_fn (next_ok (loc := loc0 ["self", "string"] [.obj i, .d (.str t)]) hC hK G.toG1 hc (by lia) (lk_setH hi) (by lia) hs)))) ?_
  rw [setH_setH]
  exact exs_nil
end
end Mine
namespace Mine
open PySem PySem.W PyProof.Rows PySem.Calls PySem.Spec
structure Exn where
  cls : Value
  args : List D
  as : Option (List (Str × D))
noncomputable def FI : Nat := 1000000
noncomputable def St.fly (σ : St) (X : Exn) (tb : Option (Option Addr)) : St := ⟨σ.loc, (FI, .exc X.cls X.args X.as tb) :: σ.heap⟩
noncomputable def TbOk (L : Addr) : Option (Option Addr) → Prop
  | some (some a) => a = L
  | _ => True
variable {c : Cx} {S : Scope} {n : Nat} {σ σ' σ₁ σ₂ σ₃ σ₄ : St} {X Y Z : V} {e l r t test target iter fn : Expr} {es : List Expr} {Xs : List V} {pos tpos : Pos} {st : Stmt} {sts : List Stmt} {fl fl' : Fl} {x y : Str} {body orelse : List Stmt} {f : Fm} {ω ω' : Om} {s s' : Shared} {W : Exn} {v : Value}
noncomputable def Flying (c : Cx) (n : Nat) (f : Fm) (ω : Om) (σ : St) (W : Exn) (s : Shared) (v : Value) : Prop :=
  ∃ e tb, v = .ref e ∧ ω.ρ FI = some e ∧ TbOk f.env.locals tb ∧ RelE c n f ω (σ.fly W tb) s
theorem exc_inv {κ : Str → Int} {Z : Fz} {cls : Value} {args : List D} {as : Option (List (Str × D))} {tb : Option (Option Addr)} {a : Addr} {m : Led} (h : HOR κ Z (.exc cls args as tb) a m) :
    ∃ oe vs T ts k md mt, m = (a, oe) :: (md ++ mt) ∧ oe.cls = cls ∧ oe.data = .fields vs ∧ vs[0]? = some (.ref T) ∧ Z T (tupObj ts k) ∧ DRs κ Z args ts ∧ XM κ Z oe.dict as md ∧ TB vs tb mt := by
  cases h with | exc h1 h2 h3 h4 h5 h6 => exact ⟨_, _, _, _, _, _, _, rfl, rfl, h1, h2, h3, h4, h5, h6⟩
theorem exc_mk {κ : Str → Int} {Z : Fz} {cls : Value} {args : List D} {as : Option (List (Str × D))} {tb : Option (Option Addr)} {a T : Addr} {oe : Obj} {vs : Array Value} {ts : List Value} {k : Nat} {md mt : Led} (h0 : oe.cls = cls)
    (h1 : oe.data = .fields vs) (h2 : vs[0]? = some (.ref T)) (h3 : Z T (tupObj ts k)) (h4 : DRs κ Z args ts) (h5 : XM κ Z oe.dict as md) (h6 : TB vs tb mt) : HOR κ Z (.exc cls args as tb) a ((a, oe) :: (md ++ mt)) := by
  subst h0; exact .exc h1 h2 h3 h4 h5 h6
structure FlyAt (c : Cx) (n : Nat) (f : Fm) (ω : Om) (σ : St) (W : Exn) (tb : Option (Option Addr)) (s : Shared) (e : Addr) (m : Str → Option Value) (Mc M FR : Led) (oe : Obj) (vs : Array Value) (T : Addr) (ts : List Value) (k : Nat) (md mt : Led) : Prop where
  rel : Rel c n f ω σ s m Mc M FR
  nw : News c.base f.env.locals s.heap ((e, oe) :: (md ++ mt))
  nd : (((e, oe) :: (md ++ mt)).map (·.1)).Nodup
  off : ∀ p ∈ (e, oe) :: (md ++ mt), p.1 ∉ (Mc ++ (M ++ (ω.Z ++ (FR ++ f.keep)))).map (·.1)
  cls : oe.cls = W.cls
  data : oe.data = .fields vs
  v0 : vs[0]? = some (.ref T)
  tup : fz c ω T (tupObj ts k)
  args : DRs c.hs (fz c ω) W.args ts
  as : XM c.hs (fz c ω) oe.dict W.as md
  tb : TB vs tb mt
theorem fly_open {e : Addr} {tb : Option (Option Addr)} (R : RelE c n f ω (σ.fly W tb) s) (hρ : ω.ρ FI = some e) : ∃ m Mc M FR oe vs T ts k md mt, FlyAt c n f ω σ W tb s e m Mc M FR oe vs T ts k md mt := by
  obtain ⟨m, Mc, Mh, FR, r⟩ := R
  obtain ⟨a, m0, M, ha, ho, r0, hN, hnd, hoff⟩ := Rel.offH (i := FI) (o := .exc W.cls W.args W.as tb) (H := σ.heap) (loc := σ.loc) r
  obtain rfl : e = a := Option.some.inj (hρ.symm.trans ha)
  obtain ⟨oe, vs, T, ts, k, md, mt, rfl, h1, h2, h3, h4, h5, h6, h7⟩ := exc_inv ho
  exact ⟨m, Mc, M, FR, oe, vs, T, ts, k, md, mt, ⟨r0, hN, hnd, hoff, h1, h2, h3, h4, h5, h6, h7⟩⟩
section
variable {m : Str → Option Value} {Mc M FR : Led} {oe : Obj} {vs : Array Value} {T e : Addr} {ts : List Value} {k : Nat} {md mt : Led} {tb : Option (Option Addr)}
noncomputable def tbOf (tb : Option (Option Addr)) (mt : Led) : Option (Addr × Value) := match tb, mt with
  | some fl, (T, _) :: _ => some (T, fl.elim .none fun f => rawInt f)
  | _, _ => none
theorem FlyAt.exc (P : FlyAt c n f ω σ W tb s e m Mc M FR oe vs T ts k md mt) : ExcAt s.heap e W.cls (.ref T) oe.dict (tbOf tb mt) := by
  have he := (P.nw (e, oe) (.head _)).1
  refine ⟨oe, vs, he, P.cls, rfl, P.data, P.v0, P.tb.2, ?_⟩
  have h := P.tb.1
  cases tb with
  | none => exact h.1
  | some fl =>
    obtain ⟨T', oT, us, rfl, h1, h2, h3⟩ := h
    refine ⟨h1, fun q => ?_, oT, us, (P.nw (T', oT) (by simp)).1, h2, h3⟩
    have nd := P.nd
    rw [List.map_cons, List.nodup_cons] at nd
    exact nd.1 (List.mem_map.mpr ⟨(T', oT), by simp, q⟩)
theorem FlyAt.tbT (P : FlyAt c n f ω σ W tb s e m Mc M FR oe vs T ts k md mt) {T' : Addr} {w : Value} (h : tbOf tb mt = some (T', w)) : T' ∈ mt.map (·.1) := by
  unfold tbOf at h
  split at h
  · cases h; simp
  · cases h
theorem FlyAt.md_ne (P : FlyAt c n f ω σ W tb s e m Mc M FR oe vs T ts k md mt) {p : Addr × Obj} (hp : p ∈ md) : p.1 ≠ e ∧ p.1 ∉ mt.map (·.1) := by
  have nd := P.nd
  rw [List.map_cons, List.nodup_cons, List.map_append, List.nodup_append] at nd
  exact ⟨fun q => nd.1 (List.mem_append_left _ (List.mem_map.mpr ⟨p, hp, q⟩)), fun q => nd.2.2.2 _ (List.mem_map.mpr ⟨p, hp, rfl⟩) _ q rfl⟩
theorem FlyAt.offFr (P : FlyAt c n f ω σ W tb s e m Mc M FR oe vs T ts k md mt) {Fs : List Addr} (hF : ∀ b ∈ Fs, b = f.env.locals ∨ ∃ m, (b, m) ∈ f.fr) {p : Addr × Obj} (hp : p ∈ (e, oe) :: (md ++ mt)) : p.1 ∉ Fs := fun hb => by
  rcases hF _ hb with q | ⟨m', q⟩
  · exact (P.nw p hp).2.1 q
  · refine P.off p hp ?_
    have z : p.1 ∈ FR.map (·.1) := by rw [P.rel.frs.mem]; exact List.mem_map.mpr ⟨_, q, rfl⟩
    simp only [List.map_append, List.mem_append]
    exact .inr (.inr (.inr (.inl z)))
theorem FlyAt.turn (P : FlyAt c n f ω σ W tb s e m Mc M FR oe vs T ts k md mt) (hρ : ω.ρ FI = some e) {Fs : List Addr} {h' : Heap} {tk : Tok} {T' : Addr} {tb' : Option Addr} (hF : ∀ b ∈ Fs, b = f.env.locals ∨ ∃ m, (b, m) ∈ f.fr)
    (hk : ∀ b o, b ∉ Fs → b ≠ e → b ∉ mt.map (·.1) → s.heap.get? b = some o → h'.get? b = some o) (hs : ∀ b o, b ∈ Fs → s.heap.get? b = some o → ∃ sl, h'.get? b = some { o with slots := sl })
    (Xn : ExcAt h' e W.cls (.ref T) oe.dict (some (T', tb'.elim .none fun f => rawInt f))) (hT : T' ∈ mt.map (·.1) ∨ s.heap.get? T' = none) : RelE c n f ω (σ.fly W (some tb')) { s with heap := h', toks := tk } := by
  obtain ⟨oe', vs', he', hc', hdx', hd', h0', h2c, hv1, hTe, oT', us', hT', hdT, h3⟩ := Xn
  refine turnX (i := FI) (a := e) (m1 := (e, oe') :: (md ++ [(T', oT')])) P.rel P.nw P.off hF (fun b o h1 h2 h3 => hk b o h1 (fun q => h2 (List.mem_map.mpr ⟨(e, oe), .head _, q.symm⟩)) (fun q => h2 (by rw [List.map_cons, List.map_append]; exact .tail _ (List.mem_append_right _ q))) h3) hs hρ
    (exc_mk hc' hd' h0' P.tup P.args (hdx' ▸ P.as) ⟨⟨T', oT', us', rfl, hv1, hdT, h3⟩, h2c⟩) (fun p hp => ?_) (fun p hp => ?_) ?_
  · rcases List.mem_cons.mp hp with rfl | hp
    · exact he'
    · rcases List.mem_append.mp hp with hp | hp
      · have hm : p ∈ (e, oe) :: (md ++ mt) := .tail _ (List.mem_append_left _ hp)
        exact hk _ _ (P.offFr hF hm) (P.md_ne hp).1 (P.md_ne hp).2 (P.nw p hm).1
      · rw [List.mem_singleton.mp hp]; exact hT'
  · rcases List.mem_cons.mp hp with rfl | hp
    · exact .inl (.head _)
    · rcases List.mem_append.mp hp with hp | hp
      · exact .inl (List.mem_map.mpr ⟨p, .tail _ (List.mem_append_left _ hp), rfl⟩)
      · rw [List.mem_singleton.mp hp]
        exact hT.imp (fun h => by rw [List.map_cons, List.map_append]; exact .tail _ (List.mem_append_right _ h)) id
  · have nd := P.nd
    rw [List.map_cons, List.nodup_cons, List.map_append, List.nodup_append] at nd
    rw [List.map_cons, List.nodup_cons, List.map_append, List.nodup_append]
    have hTm : ∀ p ∈ md, p.1 ≠ T' := fun p hp q => by
      rcases hT with h | h
      · exact (P.md_ne hp).2 (q ▸ h)
      · have z := (P.nw p (.tail _ (List.mem_append_left _ hp))).1
        rw [q, h] at z; cases z
    refine ⟨fun hm => ?_, nd.2.1, by simp, fun a ha b hb e => ?_⟩
    · rcases List.mem_append.mp hm with hm | hm
      · exact nd.1 (List.mem_append_left _ hm)
      · simp at hm; exact hTe hm.symm
    · obtain ⟨p, hp, rfl⟩ := List.mem_map.mp ha
      simp at hb
      exact hTm p hp (e.trans hb)
end
theorem note_same {M : Model} {A : Around} {E : Value → Shared → Prop} {env : Env} {L e T : Addr} {cls a0 : Value} {dx : Option Addr} {Q : Unit → Shared → Prop} (hf : env.frame = some L) (X : ExcAt s.heap e cls a0 dx (some (T, rawInt L))) (h : Q () s) : wpAny M A (noteFrame (.ref e) env) Q E s := by
  obtain ⟨oe, vs, he, hc, hdx, hd, h0, _, h1, hTe, oT, ts, hT, hdT, h3⟩ := X
  unfold noteFrame
  simp only [hf]
  refine wpAny_bind (wpAny_field he hd h1 ?_)
  rw [if_pos (show (Value.ref T != Value.none) = true from by simp)]
  refine wpAny_bind (wpAny_field hT hdT h3 ?_)
  rw [if_pos (by simp)]
  exact wpAny_pure h
theorem own_frame (hdot : S.names.lookup dot0 = none) (F : FmOk c S n f) : ∃ l', f.A.frames = some (f.env :: l') ∧ f.env.frame = some f.env.locals ∧ ∀ env ∈ f.env :: l', env.scope.kind ≠ .module ∧ ∃ L, env.frame = some L ∧ (L = f.env.locals ∨ ∃ m, (L, m) ∈ f.fr) := by
  obtain ⟨l, h1, h2, h3⟩ := F.frames
  obtain ⟨⟨l', rfl⟩, hf⟩ := h3 hdot
  exact ⟨l', h1, hf, h2⟩
theorem fly_note {Q : Unit → Shared → Prop} {E : Value → Shared → Prop} (hdot : S.names.lookup dot0 = none) (F : FmOk c S n f) (Y : Flying c n f ω σ W s v) (h : ∀ s' e, v = .ref e → ω.ρ FI = some e → RelE c n f ω (σ.fly W (some (some f.env.locals))) s' → Q () s') : wpAny (model c.prog c.w) f.A (noteFrame v f.env) Q E s := by
  obtain ⟨e, tb, rfl, hρ, htb, R⟩ := Y
  obtain ⟨m, Mc, M, FR, oe, vs, T, ts, k, md, mt, P⟩ := fly_open R hρ
  obtain ⟨l', h1, hf, h2⟩ := own_frame hdot F
  have any : (tbOf tb mt = none ∨ ∃ T, tbOf tb mt = some (T, .none)) → wpAny (model c.prog c.w) f.A (noteFrame (.ref e) f.env) Q E s := fun ht => by
    refine note_any (base := c.base) (outer := l') h1 (fun_frames R (fun _ _ e => e) h2) hf P.exc ht fun h' T' k1 k2 X2 hT => ?_
    refine h { s with heap := h' } e rfl hρ (P.turn (tk := s.toks) (tb' := some f.env.locals) hρ (frs_ok h2) (fun b o h1 h2 h3 => k1 b o h1 h2 fun T w ht q => h3 (q ▸ P.tbT ht)) k2 X2 (.inr hT))
  match tb, htb, P, R with
  | none, _, P, R => exact any (.inl rfl)
  | some none, _, P, R =>
    obtain ⟨T', oT, us, rfl, _⟩ := P.tb.1
    exact any (.inr ⟨T', rfl⟩)
  | some (some L), htb, P, R =>
    obtain rfl : L = f.env.locals := htb
    obtain ⟨T', oT, us, rfl, _⟩ := P.tb.1
    exact note_same hf P.exc (h s e rfl hρ R)
theorem Flying.mk {e : Addr} {tb : Option (Option Addr)} (hρ : ω.ρ FI = some e) (ht : TbOk f.env.locals tb) (R : RelE c n f ω (σ.fly W tb) s) : Flying c n f ω σ W s (.ref e) := ⟨e, tb, rfl, hρ, ht, R⟩
theorem fly_flight {e : Addr} {tb : Option (Option Addr)} {fr : Option Addr} {Q : Unit → Shared → Prop} {E : Value → Shared → Prop} {A : Around} (hρ : ω.ρ FI = some e) (ht : tb ≠ none) (R : RelE c n f ω (σ.fly W tb) s) (h : ∀ s', RelE c n f ω (σ.fly W (some fr)) s' → Q () s') :
    wpAny (model c.prog c.w) A (setFlight (.ref e) fr) Q E s := by
  obtain ⟨m, Mc, M, FR, oe, vs, T, ts, k, md, mt, P⟩ := fly_open R hρ
  cases tb with
  | none => exact absurd rfl ht
  | some fl =>
    obtain ⟨T', oT, us, rfl, _⟩ := P.tb.1
    refine flight_any (e := e) P.exc fun h' k1 X2 => ?_
    exact h _ (P.turn (tk := s.toks) (tb' := fr) hρ (Fs := []) (fun _ h => nomatch h) (fun b o _ _ h3 => k1 b o fun q => h3 (by simp [q])) (fun _ _ h => nomatch h) X2 (.inl (by simp)))
theorem fly_leave {Q : Unit → Shared → Prop} {E : Value → Shared → Prop} (hdot : S.names.lookup dot0 = none) (F : FmOk c S n f) (Y : Flying c n f ω σ W s v) (h : ∀ s' e, v = .ref e → ω.ρ FI = some e → RelE c n f ω (σ.fly W (some none)) s' → Q () s') : wpAny (model c.prog c.w) f.A (leaving f.env v) Q E s := by
  unfold leaving
  refine wpAny_bind (fly_note hdot F Y fun s' e ev hρ R => ?_)
  subst ev
  exact fly_flight hρ (by simp) R fun s'' R' => h s'' e rfl hρ R'
end Mine
namespace Mine
open PySem PySem.W PyProof.Rows PySem.Calls PySem.Spec
noncomputable def ExR (c : Cx) (S : Scope) (n : Nat) (st : Stmt) (σ : St) (W : Exn) (σ' : St) : Prop :=
  ∀ f, FmOk c S n f → ∀ ω s Q E, RelE c n f ω σ s → (∀ ω' v s', Ext n ω ω' → Flying c n f ω' σ' W s' v → E v s') → wpAny (model c.prog c.w) f.A (exec st f.env) Q E s
noncomputable def ExsR (c : Cx) (S : Scope) (n : Nat) (sts : List Stmt) (σ : St) (W : Exn) (σ' : St) : Prop :=
  ∀ f, FmOk c S n f → ∀ ω s Q E, RelE c n f ω σ s → (∀ ω' v s', Ext n ω ω' → Flying c n f ω' σ' W s' v → E v s') → wpAny (model c.prog c.w) f.A (execs sts f.env) Q E s
noncomputable def EvR (c : Cx) (S : Scope) (n : Nat) (e : Expr) (σ : St) (W : Exn) (σ' : St) : Prop :=
  ∀ f, FmOk c S n f → ∀ ω s Q E, RelE c n f ω σ s → (∀ ω' v s', Ext (n + 1) ω ω' → Flying c n f ω' σ' W s' v → E v s') → wpAny (model c.prog c.w) f.A (eval e f.env) Q E s
noncomputable def EvsR (c : Cx) (S : Scope) (n : Nat) (es : List Expr) (σ : St) (W : Exn) (σ' : St) : Prop :=
  ∀ pos f, FmOk c S n f → ∀ ω s Q E, RelE c n f ω σ s → (∀ ω' v s', Ext (n + 1) ω ω' → Flying c n f ω' σ' W s' v → E v s') → wpAny (model c.prog c.w) f.A (spliced (backTo pos (starEach es f.env))) Q E s
noncomputable def OpR (c : Cx) (n : Nat) (t : List Value → Sem Value) (Xs : List V) (σ : St) (W : Exn) (σ' : St) : Prop :=
  ∀ S f, FmOk c S n f → ∀ ω s Q E vs, RelE c n f ω σ s → VRs c n ω Xs vs → (∀ ω' v s', Ext (n + 1) ω ω' → Flying c n f ω' σ' W s' v → E v s') → wpAny (model c.prog c.w) f.A (t vs) Q E s
noncomputable def FnR (c : Cx) (n : Nat) (a : Addr) (Xs : List V) (σ : St) (W : Exn) (σ' : St) : Prop :=
  ∀ S f, FmOk c S n f → ∀ ω s R vs, RelE c n f ω σ s → VRs c n ω Xs vs → (∀ ω' v s', Ext (n + 1) ω ω' → Flying c n f ω' σ' W s' v → R (.error v) s') → codeAny (model c.prog c.w) f.A (.call (.ref a) ⟨vs, []⟩) R s
noncomputable def Noted (c : Cx) (n : Nat) (f : Fm) (ω : Om) (σ : St) (W : Exn) (s : Shared) (v : Value) : Prop := ∃ e fl, v = .ref e ∧ ω.ρ FI = some e ∧ TbOk f.env.locals (some fl) ∧ RelE c n f ω (σ.fly W (some fl)) s
noncomputable def WLR (c : Cx) (S : Scope) (n : Nat) (test : Expr) (body : List Stmt) (σ : St) (W : Exn) (σ' : St) : Prop :=
  ∀ f, FmOk c S n f → ∀ ω s R, RelE c n f ω σ s → (∀ ω' v s', Ext n ω ω' → Noted c n f ω' σ' W s' v → R (.error v) s') → codeAny (model c.prog c.w) f.A (.whileLoop test body [] f.env) R s
noncomputable def Made (c : Cx) (n : Nat) (f : Fm) (ω : Om) (σ : St) (W : Exn) (s : Shared) (v : Value) : Prop := ∃ e, v = .ref e ∧ ω.ρ FI = some e ∧ RelE c n f ω (σ.fly W none) s
noncomputable def EvX (c : Cx) (S : Scope) (n : Nat) (e : Expr) (σ : St) (W : Exn) (σ' : St) : Prop :=
  ∀ f, FmOk c S n f → ∀ ω s Q E, RelE c n f ω σ s → (∀ ω' v s', Ext (n + 1) ω ω' → Made c n f ω' σ' W s' v → Q v s') → wpAny (model c.prog c.w) f.A (eval e f.env) Q E s
noncomputable def OpX (c : Cx) (n : Nat) (t : List Value → Sem Value) (Xs : List V) (σ : St) (W : Exn) (σ' : St) : Prop :=
  ∀ S f, FmOk c S n f → ∀ ω s Q E vs, RelE c n f ω σ s → VRs c n ω Xs vs → (∀ ω' v s', Ext (n + 1) ω ω' → Made c n f ω' σ' W s' v → Q v s') → wpAny (model c.prog c.w) f.A (t vs) Q E s
noncomputable def FnX (c : Cx) (n : Nat) (a : Addr) (Xs : List V) (σ : St) (W : Exn) (σ' : St) : Prop :=
  ∀ S f, FmOk c S n f → ∀ ω s R vs, RelE c n f ω σ s → VRs c n ω Xs vs → (∀ ω' v s', Ext (n + 1) ω ω' → Made c n f ω' σ' W s' v → R (.ok (.ret v)) s') → codeAny (model c.prog c.w) f.A (.call (.ref a) ⟨vs, []⟩) R s
noncomputable def ExsX (c : Cx) (S : Scope) (n : Nat) (sts : List Stmt) (σ : St) (W : Exn) (σ' : St) : Prop :=
  ∀ f, FmOk c S n f → ∀ ω s Q E, RelE c n f ω σ s → (∀ ω' v s', Ext n ω ω' → Made c n f ω' σ' W s' v → Q (.ret v) s') → wpAny (model c.prog c.w) f.A (execs sts f.env) Q E s
variable {c : Cx} {S : Scope} {n : Nat} {σ σ' σ₁ σ₂ σ₃ σ₄ : St} {X Y Z : V} {e l r t test target iter fn : Expr} {es : List Expr} {Xs : List V} {pos tpos : Pos} {st : Stmt} {sts : List Stmt} {fl fl' : Fl} {x y : Str} {body orelse : List Stmt} {W : Exn}
theorem exsr_here (h : ExR c S n st σ W σ₁) : ExsR c S n (st :: sts) σ W σ₁ := fun f F ω s Q E R k => wpAny_execs_cons (h f F ω s _ _ R k)
theorem exsr_next (h1 : Ex c S n st σ .next σ₁) (h2 : ExsR c S n sts σ₁ W σ₂) : ExsR c S n (st :: sts) σ W σ₂ := fun f F ω s Q E R k =>
  wpAny_execs_cons (h1 f F ω s _ _ R fun ω₁ G s₁ e₁ R₁ q => by
    cases q
    exact h2 f F ω₁ s₁ _ _ R₁ fun ω₂ v s₂ e₂ Y => k ω₂ v s₂ (e₁.trans e₂) Y)
theorem exr_asg (h1 : EvR c S n e σ W σ₁) (hn : noComp e = true := by rfl) : ExR c S n (.Assign [.Name x tpos] e pos) σ W σ₁ := fun f F ω s Q E R k =>
  wpAny_Assign_Name (h1 f F ω s _ _ R fun ω₁ v s₁ e₁ Y => k ω₁ v s₁ e₁.down Y) (swaps_no hn)
theorem exr_if {b : Bool} (h0 : Ts c S n t σ b σ₁) (h1 : b = true → ExsR c S n body σ₁ W σ₂) (h2 : b = false → ExsR c S n orelse σ₁ W σ₂) : ExR c S n (.If t body orelse pos) σ W σ₂ := fun f F ω s Q E R k =>
  wpAny_If (h0 f F ω s _ _ R fun ω₁ s₁ e₁ R₁ => by
    cases b with
    | true => exact h1 rfl f F ω₁ s₁ _ _ R₁ fun ω₂ v s₂ e₂ Y => k ω₂ v s₂ (e₁.down.trans e₂) Y
    | false => exact h2 rfl f F ω₁ s₁ _ _ R₁ fun ω₂ v s₂ e₂ Y => k ω₂ v s₂ (e₁.down.trans e₂) Y)
theorem exr_if_t (h0 : Ts c S n t σ true σ₁) (h1 : ExsR c S n body σ₁ W σ₂) : ExR c S n (.If t body orelse pos) σ W σ₂ := exr_if h0 (fun _ => h1) (fun h => nomatch h)
theorem exr_if_f (h0 : Ts c S n t σ false σ₁) (h1 : ExsR c S n orelse σ₁ W σ₂) : ExR c S n (.If t body orelse pos) σ W σ₂ := exr_if h0 (fun h => nomatch h) (fun _ => h1)
theorem came_back {f : Fm} {ω : Om} {s : Shared} {v : Value} {E : Value → Shared → Prop} (hdot : S.names.lookup dot0 = none) (F : FmOk c S n f) (Y : Noted c n f ω σ W s v) (h : ∀ s', Flying c n f ω σ W s' v → E v s') : cameBackBy (model c.prog c.w) f.A f.env E v s := by
  obtain ⟨e, fl, rfl, hρ, ht, R⟩ := Y
  obtain ⟨l', h1, hf, h2⟩ := own_frame hdot F
  obtain ⟨m, Mc, M, FR, oe, vs, T, ts, k, md, mt, P⟩ := fly_open R hρ
  obtain ⟨T', oT, us, hm, hv1, _⟩ := P.tb.1
  unfold cameBackBy
  refine wpAny_bind (wpAny_field (P.nw _ (.head _)).1 P.data hv1 ?_)
  rw [if_neg (by simp)]
  rw [hf]
  exact fly_flight hρ (by simp) R fun s' R' => h s' ⟨e, some (some f.env.locals), rfl, hρ, rfl, R'⟩
theorem exr_while (hdot : S.names.lookup dot0 = none) (h : WLR c S n test body σ W σ₁) : ExR c S n (.While test body [] pos) σ W σ₁ := fun f F ω s Q E R k =>
  wpAny_While (h f F ω s _ R fun ω' v s' e' Y => came_back hdot F Y fun s'' Y' => k ω' v s'' e' Y')
theorem wlr_turn (h : Ts c S n test σ true σ₁) (h1 : Exs c S n body σ₁ fl σ₂) (hf : fl.goes = true) (h2 : WLR c S n test body σ₂ W σ₃) : WLR c S n test body σ W σ₃ := fun f F ω s R r k =>
  code_while (h f F ω s _ _ r fun ω₁ s₁ e₁ R₁ => by
    simp only [if_true]
    refine h1 f F ω₁ s₁ _ _ R₁ fun ω₂ G s₂ e₂ R₂ q => ?_
    have go : codeAny (model c.prog c.w) f.A (.whileLoop test body [] f.env) R s₂ := h2 f F ω₂ s₂ R R₂ fun ω₃ v s₃ e₃ Y => k ω₃ v s₃ (e₁.down.trans (e₂.trans e₃)) Y
    cases q with
    | next => exact go
    | cont => exact go
    | brk => cases hf
    | ret => cases hf)
theorem wlr_here (hdot : S.names.lookup dot0 = none) (h : Ts c S n test σ true σ₁) (h1 : ExsR c S n body σ₁ W σ₂) : WLR c S n test body σ W σ₂ := fun f F ω s R r k =>
  code_while (h f F ω s _ _ r fun ω₁ s₁ e₁ R₁ => by
    simp only [if_true]
    exact h1 f F ω₁ s₁ _ _ R₁ fun ω₂ v s₂ e₂ Y => by
      unfold notedBy
      exact fly_note hdot F Y fun s₃ e ev hρ R₃ => k ω₂ v s₃ (e₁.down.trans e₂) ⟨e, some f.env.locals, ev, hρ, rfl, R₃⟩)
theorem Sub.fly {tb : Option (Option Addr)} (k : Sub σ σ₁) : Sub (σ.fly W tb) (σ₁.fly W tb) := ⟨k.1, k.2.cons_cons _⟩
theorem Flying.sub {f : Fm} {ω : Om} {s : Shared} {v : Value} (k : Sub σ σ₁) (Y : Flying c n f ω σ W s v) : Flying c n f ω σ₁ W s v := by
  obtain ⟨e, tb, h1, h2, h3, R⟩ := Y
  exact ⟨e, tb, h1, h2, h3, R.sub k.fly⟩
theorem exsr_sub (h : ExsR c S n sts σ W σ₁) (k : Sub σ₁ σ₂) : ExsR c S n sts σ W σ₂ := fun f F ω s Q E R q => h f F ω s Q E R fun ω' v s' e' Y => q ω' v s' e' (Y.sub k)
theorem Noted.sub {f : Fm} {ω : Om} {s : Shared} {v : Value} (k : Sub σ σ₁) (Y : Noted c n f ω σ W s v) : Noted c n f ω σ₁ W s v := by
  obtain ⟨e, tb, h1, h2, h3, R⟩ := Y
  exact ⟨e, tb, h1, h2, h3, R.sub k.fly⟩
theorem opr_fn {a : Addr} (h : FnR c n a Xs σ W σ') : OpR c n (fun vs => call (.ref a) vs) Xs σ W σ' := fun S f F ω s Q E vs R A k => by
  refine wpAny_call (h S f F ω s _ vs R A fun ω' v s' e' Y => ?_)
  exact k ω' v s' e' Y
theorem opx_fn {a : Addr} (h : FnX c n a Xs σ W σ') : OpX c n (fun vs => call (.ref a) vs) Xs σ W σ' := fun S f F ω s Q E vs R A k => by
  refine wpAny_call (h S f F ω s _ vs R A fun ω' v s' e' Y => ?_)
  exact k ω' v s' e' Y
theorem evr_callf {a : Addr} (hC : CxOk c) (hk : keepIn c.K (.ref a) = true) (h1 : Ev c S n l σ (.val (.ref a)) σ₁) (h2 : Evs c S n (e :: es) σ₁ Xs σ₂) (h3 : OpR c n (fun vs => call (.ref a) vs) Xs σ₂ W σ₃) (ha : notStar e = true := by rfl) (hs : es.all notStar = true := by rfl)
    (hc : ∀ env, eval (.Call l (e :: es) [] pos) env = (do callWith pos (← eval l env) [] (backTo pos (starEach (e :: es) env)) (backToKw pos (keywordEach [] env))) := by intro _; rfl) : EvR c S n (.Call l (e :: es) [] pos) σ W σ₃ := fun f F ω s Q E R k => by
  refine Call_ (h1 f F ω s _ _ R fun ω₁ v s₁ e₁ R₁ A₁ => ?_) (hc _)
  cases A₁
  exact callWith_K (hC.kin.keeps R₁.keep) hk (h2 pos f F ω₁ s₁ _ _ R₁ fun ω₂ vs s₂ e₂ R₂ B => ⟨hC.kin.keeps R₂.keep, h3 S f F ω₂ s₂ _ _ vs R₂ B fun ω₃ u s₃ e₃ Y => k ω₃ u s₃ (e₁.trans (e₂.trans e₃)) Y⟩) (starEach_plain ha) (anyBack hs)
theorem evx_methf {a : Addr} {name : Str} {apos : Pos} (hC : CxOk c) (hk : keepIn c.K (.ref a) = true) (h1 : Ev c S n l σ X σ₁) (hg : GetM c n X name σ₁ (.ref a)) (h2 : Evs c S n (e :: es) σ₁ Xs σ₂) (h3 : OpX c n (fun vs => call (.ref a) vs) (X :: Xs) σ₂ W σ₃) (ha : notStar e = true := by rfl) (hs : es.all notStar = true := by rfl)
    (hc : ∀ env, ∃ pl, eval (.Call (.Attribute l name apos) (e :: es) [] pos) env = (do
          let ov ← eval l env
          standAt apos.atName
          let __x ← holding [ov] (getMethod ov name pl)
          match __x with
            | (f, first) => callWith pos f first (backTo pos (starEach (e :: es) env)) []) := by intro _; exact ⟨_, rfl⟩) : EvX c S n (.Call (.Attribute l name apos) (e :: es) [] pos) σ W σ₃ := fun f F ω s Q E R h => by
  obtain ⟨pl, hc⟩ := hc f.env
  refine MethodCall_ (h1 f F ω s _ _ R fun ω₁ v s₁ e₁ R₁ A₁ => hg S f F ω₁ s₁ _ _ v pl R₁ A₁ ?_) hc
  exact callWith_K (hC.kin.keeps R₁.keep) hk (h2 pos f F ω₁ s₁ _ _ R₁ fun ω₂ vs s₂ e₂ R₂ B => ⟨hC.kin.keeps R₂.keep, h3 S f F ω₂ s₂ _ _ (v :: vs) R₂ (.cons (A₁.ext e₂) B) fun ω₃ u s₃ e₃ Y => h ω₃ u s₃ (e₁.trans (e₂.trans e₃)) Y⟩) (starEach_plain ha) (anyBack hs)
theorem evsr_here (h1 : EvR c S n e σ W σ₁) (hs : notStar e = true := by rfl) : EvsR c S n (e :: es) σ W σ₁ := fun pos f F ω s Q E R k => by
  rw [starEach_plain hs]
  exact spliced_cons (h1 f F ω s _ _ R k)
theorem evr_callb {id : String} (h1 : Ev c S n l σ (.val (.builtin id)) σ₁) (h2 : EvsR c S n (e :: es) σ₁ W σ₂) (ha : notStar e = true := by rfl) (hs : es.all notStar = true := by rfl)
    (hc : ∀ env, eval (.Call l (e :: es) [] pos) env = (do callWith pos (← eval l env) [] (backTo pos (starEach (e :: es) env)) (backToKw pos (keywordEach [] env))) := by intro _; rfl) : EvR c S n (.Call l (e :: es) [] pos) σ W σ₂ := fun f F ω s Q E R k => by
  refine Call_ (h1 f F ω s _ _ R fun ω₁ v s₁ e₁ R₁ A₁ => ?_) (hc _)
  cases A₁
  exact callWith_builtin1 (h2 pos f F ω₁ s₁ _ _ R₁ fun ω₂ v s₂ e₂ Y => k ω₂ v s₂ (e₁.trans e₂) Y) (starEach_plain ha) (anyBack hs)
theorem FnParts.call {K : Frag} {S₀ : Scope} {f : Fm} {ω : Om} {s : Shared} {R' : Result → Shared → Prop} {a : Addr} {ps : List Str} {us vs : List Value} (P : FnParts K a ps) (hC : CxOk c) (hK : c.K = K) (hn : n ≤ 100)
    (h5 : ∀ x b, (fdAt K a).closure.lookup x = some b → ∃ o, c.base.get? b = some o) (hlen : ps.length = Xs.length) (hps : ps.Nodup) (F : FmOk c S₀ n f) (R : RelE c n f ω σ s) (A : VRs c n ω Xs vs) (hbind : BindsTo s (fdAt K a) ⟨us, []⟩ (ps.zip vs))
    (hbody : ∀ f' s₀ m Mc, f' = f.sub (callEnv (fdAt K a) s.heap.objs.size a) m Mc → FmOk c (scAt K a) (n + 1) f' → RelE c (n + 1) f' ω ⟨loc0 ps Xs, σ.heap⟩ s₀ →
      (∀ {ω' : Om} {s' : Shared} {H H₀ : List (Nat × HO)} {loc : List (Nat × V)}, Ext (n + 1) ω ω' → RelE c (n + 1) f' ω' ⟨loc, H₀⟩ s' → List.Sublist H H₀ → RelE c n f ω' ⟨σ.loc, H⟩ s') →
      _root_.PySem.wpAt (model c.prog c.w) f'.A (.func (bodyAt K a) f'.env) (execs (bodyAt K a) f'.env) (fun G s' => R' (.ok (.ret (match G with | .ret v => v | _ => .none))) s')
        (fun e s' => wpAny (model c.prog c.w) f'.A (leaving f'.env e) (fun _ s'' => R' (.error e) s'') (fun e' s'' => R' (.error e') s'') s') s₀) : codeAny (model c.prog c.w) f.A (.call (.ref a) ⟨us, []⟩) R' s := by
  subst hK
  obtain ⟨oc, od, osl, ho⟩ := P.obj
  exact fn_core hC hn ho P.code P.body P.gl P.bu h5 hlen hps P.loc P.cell P.free P.keys F R A hbind hbody P.co P.gen P.kind
theorem no_closure {K : Frag} {a : Addr} (h : (fdAt K a).closure.isEmpty = true) : ∀ x b, (fdAt K a).closure.lookup x = some b → ∃ o, c.base.get? b = some o := fun x b hx => by
  rw [List.isEmpty_iff.mp h] at hx; cases hx
theorem fnr_at {K : Frag} {a : Addr} {ps : List Str} {H T : List (Nat × HO)} {loc : List (Nat × V)} (hC : CxOk c) (hK : c.K = K) (hn : n ≤ 100) (hok : fnOk K a ps = true) (hps : ps.Nodup)
    (hbind : ∀ vs : List Value, vs.length = ps.length → bindArgs (fdAt K a) ⟨vs, []⟩ = pure (ps.zip vs)) (hlen : ps.length = Xs.length) (hS : S = scAt K a) (hdot : S.names.lookup dot0 = none)
    (hbody : ExsR c S (n + 1) (bodyAt K a) ⟨loc0 ps Xs, σ.heap⟩ W ⟨loc, T ++ H⟩) : FnR c n a Xs σ W ⟨σ.loc, H⟩ := fun S₀ f F ω s R' vs R A k => by
  obtain ⟨hok, h6⟩ := Bool.and_eq_true_iff.mp hok
  have hvl : vs.length = ps.length := by
    rw [hlen]
    clear hbody hlen hbind
    induction A with
    | nil => rfl
    | cons _ _ ih => simp [ih]
  refine (fn_parts hok).call (vs := vs) hC hK hn (no_closure h6) hlen hps F R A (.of_eq (hbind vs hvl)) fun f' s₀ m Mc _ F' R' pop => ?_
  subst hS
  refine wpAt_of_wpAny (hbody f' F' ω _ _ _ R' fun ω' v s' e' Y => ?_)
  refine fly_leave hdot F' Y fun s'' e ev hρ R₂ => ?_
  subst ev
  refine k ω' _ s'' e' ⟨e, some none, rfl, hρ, trivial, ?_⟩
  exact pop e' R₂ ((List.sublist_append_right T H).cons_cons _)
theorem exsx_ret (h : EvX c S n e σ W σ₁) : ExsX c S n (.Return (some e) pos :: sts) σ W σ₁ := fun f F ω s Q E R k =>
  wpAny_execs_cons (wpAny_Return_some (h f F ω s _ _ R fun ω₁ v s₁ e₁ Y => k ω₁ v s₁ e₁.down Y))
theorem exsx_next (h1 : Ex c S n st σ .next σ₁) (h2 : ExsX c S n sts σ₁ W σ₂) : ExsX c S n (st :: sts) σ W σ₂ := fun f F ω s Q E R k =>
  wpAny_execs_cons (h1 f F ω s _ _ R fun ω₁ G s₁ e₁ R₁ q => by
    cases q
    exact h2 f F ω₁ s₁ _ _ R₁ fun ω₂ v s₂ e₂ Y => k ω₂ v s₂ (e₁.trans e₂) Y)
theorem exr_raise (hc : c.calm = true) {C : Addr} {oc : Value} (hcls : W.cls = .ref C ∨ ∃ X, W.cls = .type X) (h : EvX c S n e σ W σ₁)
    (hr : ∀ (f : Fm) (ω : Om) (s : Shared) (a : Addr) (Q : Flow → Shared → Prop) (E : Value → Shared → Prop), FmOk c S n f → ω.ρ FI = some a → RelE c n f ω (σ₁.fly W none) s → E (.ref a) s →
      wpAny (model c.prog c.w) f.A (do
        let e ← holding [] (excFromValue (.ref a) "exceptions must derive from BaseException")
        let e ← if ← isType (.ref a) then holding [e] (raisedFor (.ref a) e) else raisedInstance e
        setFlight e none
        raiseNew e) Q E s) : ExR c S n (.Raise (some e) none pos) σ W σ₁ := fun f F ω s Q E R k => by
  rw [arm_exec_Raise]
  refine wpAny_bind (wpAny_standAt ?_)
  show wpAny _ _ (raiseStmt f.env (some (do let v ← eval e f.env; standAt pos; pure v)) none) _ _ _
  unfold raiseStmt
  refine wpAny_bind (wpAny_bind (h f F ω s _ _ R fun ω₁ v s₁ e₁ Y => wpAny_bind (wpAny_standAt (wpAny_pure ?_))))
  obtain ⟨a, rfl, hρ, R₁⟩ := Y
  exact wpAny_bind (wpAny_pure (hr f ω₁ s₁ a Q E F hρ R₁ (k ω₁ _ s₁ e₁.down ⟨a, none, rfl, hρ, trivial, R₁⟩)))
end Mine
namespace Mine
open PySem PySem.W PyProof.Rows PySem.Calls PySem.Spec
structure ExcOk (K : Frag) (C : Addr) : Prop where
  cls : (clsIn K C).isSome = true
  base : mroIn K C (.type "BaseException") = some true
  self : mroIn K C (.ref C) = some true
  typ : typeIn K (.ref C) = some (.type "type")
variable {c : Cx} {S : Scope} {n : Nat} {σ σ' σ₁ σ₂ σ₃ σ₄ : St} {X Y Z : V} {e l r t test target iter fn : Expr} {es : List Expr} {Xs : List V} {pos tpos : Pos} {st : Stmt} {sts : List Stmt} {fl fl' : Fl} {x y : Str} {body orelse : List Stmt} {Wx : Exn}
theorem FlyAt.inst {f : Fm} {ω : Om} {s : Shared} {tb : Option (Option Addr)} {e T C : Addr} {m : Str → Option Value} {Mc M FR md mt : Led} {oe : Obj} {vs : Array Value} {ts : List Value} {k : Nat} (P : FlyAt c n f ω σ Wx tb s e m Mc M FR oe vs T ts k md mt) (hc : Wx.cls = .ref C) :
    ∃ od, InstAt s.heap e oe C od ∧ ∀ l, Wx.as = some l → ∃ d es k, oe.dict = some d ∧ od = some (dictOf es k) ∧ md = [(d, dictOf es k)] ∧ DRd c.hs (fz c ω) l es := by
  have h := P.as
  have he := (P.nw _ (.head _)).1
  have hn : notCls oe = true := by unfold notCls; rw [P.data]
  cases q1 : oe.dict with
  | none => cases q2 : Wx.as with
    | none => exact ⟨none, ⟨he, P.cls.trans hc, hn, by rw [q1]; trivial⟩, fun l hl => nomatch hl⟩
    | some l => rw [q1, q2] at h; exact h.elim
  | some d => cases q2 : Wx.as with
    | none => rw [q1, q2] at h; exact h.elim
    | some l =>
      rw [q1, q2] at h
      obtain ⟨es, k, hm, hd⟩ := h
      refine ⟨some (dictOf es k), ⟨he, P.cls.trans hc, hn, ?_⟩, fun l' hl => ⟨d, es, k, rfl, rfl, hm, by cases hl; exact hd⟩⟩
      rw [q1]
      exact (P.nw (d, dictOf es k) (by rw [hm]; simp)).1
theorem not_cls {f : Fm} {ω : Om} {s : Shared} {tb : Option (Option Addr)} {e T : Addr} {m : Str → Option Value} {Mc M FR md mt : Led} {oe : Obj} {vs : Array Value} {ts : List Value} {k : Nat} (P : FlyAt c n f ω σ Wx tb s e m Mc M FR oe vs T ts k md mt) : ∀ cd, oe.data ≠ .cls cd := by rw [P.data]; intro cd h; cases h
theorem exr_raise_own (hc : c.calm = true) (hC : CxOk c) {C : Addr} (hk : ExcOk c.K C) (hcls : Wx.cls = .ref C) (h : EvX c S n e σ Wx σ₁) : ExR c S n (.Raise (some e) none pos) σ Wx σ₁ := by
  refine exr_raise hc (C := C) (oc := .none) (.inl hcls) h fun f ω s a Q E F hρ R hE => ?_
  obtain ⟨m, Mc, M, FR, oe, vs, T, ts, k, md, mt, P⟩ := fly_open R hρ
  obtain ⟨od, I, -⟩ := P.inst hcls
  have KX := hC.kin.keeps R.keep
  have he := (P.nw _ (.head _)).1
  have nc := not_cls P
  have hv := P.tb.1.1
  have hd := P.data
  have hh := F.hand hc
  obtain ⟨hp, g, d, tk, os⟩ := s
  have L0 := I.type (M := model c.prog c.w)
  have L1 : Looks (model c.prog c.w) hp (isInstance (.ref a) (.type "BaseException")) true := L0.andThen (looks_mroIn KX hk.base)
  have L2 := looks_typeIn (M := model c.prog c.w) KX hk.typ
  refine wpAny_bind (wpAny_holding ?_)
  unfold excFromValue isExcClass
  refine wpAny_bind (wpAny_bind (ks_wpAny_isType_inst he nc (wpAny_pure ?_)))
  simp only [Bool.false_eq_true, if_false]
  refine wpAny_bind (L1.at ?_)
  simp only [if_true]
  refine wpAny_pure (wpAny_bind (ks_wpAny_isType_inst he nc ?_))
  simp only [Bool.false_eq_true, if_false]
  unfold raisedInstance
  refine wpAny_bind (wpAny_bind (L0.at (wpAny_bind (L2.at ?_))))
  rw [if_pos (by simp)]
  refine wpAny_pure ?_
  unfold setFlight
  refine wpAny_bind (wpAny_bind (wpAny_field he hd hv ?_))
  rw [if_neg (by simp)]
  refine wpAny_pure ?_
  unfold raiseNew
  refine wpAny_bind (wpAny_handled ?_)
  rw [hh]
  first
    | exact wpAny_throw hE
    | exact wpAny_bind (wpAny_pure (wpAny_throw hE))
noncomputable def HB (c : Cx) (S : Scope) (n : Nat) (hs : List ExceptHandler) (σ : St) (Wx : Exn) (fl : Fl) (σ' : St) : Prop :=
  ∀ f, FmOk c S n f → ∀ ω s e Q E, ω.ρ FI = some e → RelE c n f ω (σ.fly Wx (some none)) s → (∀ ω' F s', Ext n ω ω' → RelE c n f ω' σ' s' → FlR c n ω' fl F → Q F s') → wpAny (model c.prog c.w) f.A (handleBy (.ref e) f.env hs) Q E s
theorem ex_try_exc {h₀ : ExceptHandler} {hs : List ExceptHandler} (hdot : S.names.lookup dot0 = none) (h1 : ExsR c S n body σ Wx σ₁) (h2 : HB c S n (h₀ :: hs) σ₁ Wx fl σ₂) : Ex c S n (.Try body (h₀ :: hs) orelse [] pos) σ fl σ₂ := fun f F ω s Q E R kk => by
  refine wpAny_Try_except (h1 f F ω s _ _ R fun ω₁ v s₁ e₁ Y => fly_note hdot F Y fun s₂ e ev hρ R₂ => ?_)
  subst ev
  exact fly_flight hρ (by simp) R₂ fun s₃ R₃ => h2 f F ω₁ s₃ e _ _ hρ R₃ fun ω' G s' e' R' q => kk ω' G s' (e₁.trans e') R' q
theorem fly_freeze {f : Fm} {ω : Om} {s : Shared} {tb : Option (Option Addr)} {e : Addr} (hρ : ω.ρ FI = some e) (R : RelE c n f ω (σ.fly Wx tb) s) : ∃ l, RelE c n f { ω with Z := l ++ ω.Z } σ s ∧ VR c n { ω with Z := l ++ ω.Z } (.exn Wx.cls Wx.args Wx.as) (.ref e) ∧ ∃ oe vs, (e, oe) ∈ l ∧ oe.data = .fields vs ∧ vs[2]? = some .none := by
  obtain ⟨m, Mc, M, FR, oe, vs, T, ts, k, md, mt, P⟩ := fly_open R hρ
  have hx : Ext (n + 1) ω { ω with Z := ((e, oe) :: (md ++ mt)) ++ ω.Z } := Ext.frz (n + 1) ω _
  have perm : (Mc ++ (M ++ ((((e, oe) :: (md ++ mt)) ++ ω.Z) ++ (FR ++ f.keep)))).Perm (((e, oe) :: (md ++ mt)) ++ (Mc ++ (M ++ (ω.Z ++ (FR ++ f.keep))))) := by
    have e1 : Mc ++ (M ++ ((((e, oe) :: (md ++ mt)) ++ ω.Z) ++ (FR ++ f.keep))) = (Mc ++ M) ++ (((e, oe) :: (md ++ mt)) ++ (ω.Z ++ (FR ++ f.keep))) := by simp only [List.append_assoc]
    have e2 : ((e, oe) :: (md ++ mt)) ++ (Mc ++ (M ++ (ω.Z ++ (FR ++ f.keep)))) = ((e, oe) :: (md ++ mt)) ++ ((Mc ++ M) ++ (ω.Z ++ (FR ++ f.keep))) := by simp only [List.append_assoc]
    rw [e1, e2]
    exact List.perm_append_comm_assoc ..
  have r := P.rel
  refine ⟨(e, oe) :: (md ++ mt), ⟨m, Mc, M, FR, ⟨r.fr, fun p hp => ?_, ?_, r.frs, r.cells, r.cinj, r.heap.mono hx.fz fun _ _ => rfl, fun y Y hy hl => (r.locs y Y hy hl).ext hx, r.gens, r.drawn, r.os⟩⟩, ?_, oe, vs, .head _, P.data, P.tb.2⟩
  · rcases List.mem_append.mp (perm.subset hp) with h | h
    · exact P.nw p h
    · exact r.nw p h
  · show ((Mc ++ (M ++ ((((e, oe) :: (md ++ mt)) ++ ω.Z) ++ (FR ++ f.keep)))).map (·.1)).Nodup
    rw [(perm.map (·.1)).nodup_iff, List.map_append]
    refine List.nodup_append.mpr ⟨P.nd, r.nd, fun a ha b hb q => ?_⟩
    subst q
    obtain ⟨p, hp, rfl⟩ := List.mem_map.mp ha
    exact P.off p hp hb
  · have as : XD c.hs (fz c { ω with Z := ((e, oe) :: (md ++ mt)) ++ ω.Z }) oe.dict Wx.as := by
      have h := P.as
      cases q1 : oe.dict with
      | none => cases q2 : Wx.as with
        | none => trivial
        | some l => rw [q1, q2] at h; exact h.elim
      | some d => cases q2 : Wx.as with
        | none => rw [q1, q2] at h; exact h.elim
        | some l =>
          rw [q1, q2] at h
          obtain ⟨es, k, hm, hd⟩ := h
          exact ⟨es, k, .inl (by rw [hm]; simp), hd.mono hx.fz⟩
    rw [← P.cls]
    exact .exn (.inl (by simp)) P.data P.v0 (hx.fz _ _ P.tup) (P.args.mono hx.fz) as
noncomputable def St.del (σ : St) (x : Str) : St := ⟨σ.loc.filter fun p => !(p.1 == key x), σ.heap⟩
theorem lk_filt {α : Type} {g : Nat → Bool} {k : Nat} : ∀ {l : List (Nat × α)} {X : α}, lk k (l.filter fun p => g p.1) = some X → g k = true ∧ lk k l = some X
  | [], _, h => nomatch h
  | (a, y) :: l, X, h => by
    rw [List.filter_cons] at h
    cases q : g a with
    | true =>
      rw [if_pos q] at h
      unfold lk at h ⊢
      cases q2 : (a == k) with
      | true =>
        rw [q2] at h
        have e : a = k := by simpa using q2
        exact ⟨e ▸ q, h⟩
      | false => rw [q2] at h; exact lk_filt h
    | false =>
      rw [if_neg (by rw [q]; exact Bool.noConfusion)] at h
      obtain ⟨z1, z2⟩ := lk_filt h
      refine ⟨z1, ?_⟩
      unfold lk
      cases q2 : (a == k) with
      | true =>
        have e : a = k := by simpa using q2
        rw [e, z1] at q; cases q
      | false => exact z2
theorem name_goes {f : Fm} {ω : Om} {s : Shared} {Q : Unit → Shared → Prop} {E : Value → Shared → Prop} (F : FmOk c S n f) (R : RelE c n f ω σ s) (hv : S.names.lookup x = some .local) (h : ∀ s', RelE c n f ω (σ.del x) s' → Q () s') :
    wpAny (model c.prog c.w) f.A (do bindName f.env x .none; unbindBehindTheSuite f.env x pos) Q E s := by
  obtain ⟨m, Mc, Mh, FR, r⟩ := R
  have hk : f.env.scope.kind = .function := by rw [F.scope]; exact F.kind
  have kx : f.env.kindOf x = some .local := by unfold Env.kindOf; rw [F.scope]; exact hv
  have hp : (f.env.scope.kind == .class || (f.env.scope.kind == .module && f.env.locals != f.env.globals)) = false := by rw [hk]; rfl
  refine wpAny_bind (wpAny_bindName (wpAny_storeName_local kx r.fr.ns (fun h₁ hn₁ hs₁ => ?_) hp))
  unfold unbindBehindTheSuite
  refine wpAny_onRaise ?_
  unfold unbindName
  refine wpAny_bind (wpAny_point (wpAny_bind ?_))
  unfold deleteName
  simp only [kx, hp]
  rw [if_neg (by decide)]
  refine wpAny_bind (wpAny_nsDel_keeps hn₁ fun h₂ v hn₂ hs₂ => ?_)
  simp only [if_true, Option.isSome_some, Bool.not_true, Bool.false_eq_true, if_false]
  refine wpAny_pure (wpAny_point (h _ ?_))
  have hs := hs₁.trans hs₂
  refine ⟨_, Mc, Mh, FR, ⟨r.fr.set hn₂ hs, r.nw.set hs, r.nd, r.frs, r.cells, r.cinj, r.heap, fun y Y hy hl => ?_, r.gens, r.drawn, r.os⟩⟩
  obtain ⟨z1, z2⟩ := lk_filt (g := fun k => !(k == key x)) hl
  have ne : y ≠ x := fun q => by subst q; simp at z1
  cases r.locs y Y hy z2 with
  | loc a b d => exact .loc a (by rw [if_neg ne]; simpa [if_neg ne] using b) d
  | cell a b d e g => exact .cell a b d e g
  | free a b d e g => exact .free a b d e g
theorem matches_own {f : Fm} {ω : Om} {s : Shared} {tb : Option (Option Addr)} {e C : Addr} {Q : Bool → Shared → Prop} {E : Value → Shared → Prop} {A : Around} (hC : CxOk c) (hk : ExcOk c.K C) (hcls : Wx.cls = .ref C) (hρ : ω.ρ FI = some e) (R : RelE c n f ω (σ.fly Wx tb) s) (h : Q true s) :
    wpAny (model c.prog c.w) A (excMatches (.ref e) (.ref C)) Q E s := by
  obtain ⟨m, Mc, M, FR, oe, vs, T, ts, k, md, mt, P⟩ := fly_open R hρ
  obtain ⟨od, I, -⟩ := P.inst hcls
  have KX := hC.kin.keeps R.keep
  obtain ⟨cd, hcd⟩ := Option.isSome_iff_exists.mp hk.cls
  have hCo : ∃ oC, s.heap.get? C = some oC ∧ oC.data = .cls cd := by
    unfold clsIn at hcd
    split at hcd
    · rename_i q
      cases hcd
      exact ⟨_, KX _ _ q, rfl⟩
    · cases hcd
  obtain ⟨oC, hoC, hoD⟩ := hCo
  obtain ⟨hp, g, d, tk, os⟩ := s
  have L0 := I.type (M := model c.prog c.w)
  have L2 := looks_typeIn (M := model c.prog c.w) KX hk.typ
  have nt : isSubtype (.type "type") (.type "tuple") = pure false := by rw [isSubtype_type]; kernel_rfl
  have L3 : Looks (model c.prog c.w) hp (isInstance (.ref C) (.type "tuple")) false := L2.andThen (Looks.of_pure nt)
  have L4 := looks_mroIn (M := model c.prog c.w) KX hk.base
  have L5 := looks_mroIn (M := model c.prog c.w) KX hk.self
  unfold excMatches
  refine wpAny_bind (L3.at ?_)
  simp only [Bool.false_eq_true, if_false]
  refine wpAny_bind (wpAny_pure ?_)
  simp only [List.forIn_cons, List.forIn_nil]
  refine wpAny_bind (wpAny_bind ?_)
  unfold isExcClass
  refine wpAny_bind (wpAny_bind (ks_wpAny_isType_cls hoC hoD ?_))
  simp only [if_true]
  refine L4.at ?_
  simp only [Bool.not_true, Bool.false_eq_true, if_false]
  refine wpAny_pure (wpAny_pure (wpAny_bind (L0.at (wpAny_bind (wpAny_bind (wpAny_bind (L5.at ?_)))))))
  simp only [if_true]
  exact wpAny_pure (wpAny_pure (wpAny_pure h))
theorem clause_name {f : Fm} {ω : Om} {s : Shared} {e : Value} {nm : Str} {np : Pos} {v : Value} {Q : Value → Shared → Prop} {E : Value → Shared → Prop} (hC : CxOk c) (F : FmOk c S n f) (R : RelE c n f ω σ s) (hx : S.names.lookup nm = some .globalImplicit) (hd : plainNm nm = true) (hg : GlobIs c nm v) (h : Q v s) :
    wpAny (model c.prog c.w) (f.A.mark (some e)) (eval (.Name nm np) f.env) Q E s := by
  have hkm : f.env.scope.kind = .function := by rw [F.scope]; exact F.kind
  have kx : f.env.kindOf nm = some .globalImplicit := by unfold Env.kindOf; rw [F.scope]; exact hx
  have hgl : s.heap.Ns f.env.globals c.mg := by rw [F.globals]; exact hC.g.keeps R.keep
  have hbl : s.heap.Ns f.env.builtins c.mb := by rw [F.builtins]; exact hC.b.keeps R.keep
  refine Name_function_global hkm kx ?_ (plainNm_1 hd)
  rcases hg with hg | ⟨hg1, hg2⟩
  · exact loadGlobal_global hgl hg h
  · exact loadGlobal_builtin hgl hg1 hbl hg2 h
theorem hb_own_as {b₀ : Stmt} {suite : List Stmt} {rest : List ExceptHandler} {C : Addr} {nm : Str} {np : Pos} (hC : CxOk c) (hk : ExcOk c.K C) (hcls : Wx.cls = .ref C) (hv : S.names.lookup x = some .local) (hx : S.names.lookup nm = some .globalImplicit) (hd : plainNm nm = true) (hg : GlobIs c nm (.ref C))
    (h3 : Exs c.loud S n (b₀ :: suite) (σ.set x (.exn Wx.cls Wx.args Wx.as)) fl σ₃) : HB c S n (.ExceptHandler (some (.Name nm np)) (some x) (b₀ :: suite) pos :: rest) σ Wx fl (σ₃.del x) := fun f F ω s e Q E hρ R kk => by
  have FL := F.loud (e := .ref e)
  refine wpAny_handleBy_cons (codeAny_handlers_test (clause_name hC F R hx hd hg ?_)) (by intro q; cases q)
  refine matches_own hC hk hcls hρ R (codeAny_handlers_suite_as (fly_flight hρ (by simp) R fun s₂ R₂ => ?_))
  obtain ⟨l, R₃, V₃, -⟩ := fly_freeze hρ R₂
  refine store_name FL (R₃.loud (e := .ref e)) (.inl hv) V₃.loud (fun s₄ R₄ => ?_) (fun q => by rw [hv] at q; cases q)
  refine h3 (f.mark (.ref e)) FL _ s₄ _ _ R₄ fun ω₅ G s₅ e₅ R₅ q => ?_
  refine name_goes F R₅.unloud hv fun s₆ R₆ => ?_
  exact kk ω₅ G s₆ ((Ext.frz n ω l).trans e₅) R₆ q.unloud
end Mine
namespace Mine
open PySem PySem.W PyProof.Rows PySem.Calls PySem.Spec
structure ExcGet (K : Frag) (C : Addr) : Prop where
  ga : findIn K (.ref C) "__getattribute__" = some (some (.builtin "BaseException.__getattribute__"))
  gr : findIn K (.ref C) "__getattr__" = some none
  base : mroIn K C (.type "BaseException") = some true
  has : hasDictIn K C = true
open PySem.Builtin PySem.Builtin.ObjectAttr in
theorem oga_eq (self : Value) (name : Str) (tk : Tok) : ∃ k : Found → Value → Sem Fin, (∀ v tp, k (.value v) tp = ret v) ∧ Builtin.«object.__getattribute__» ⟨[self, .str name tk], []⟩ = (typeOf self >>= fun tp => find self tp name >>= fun r => k r tp) :=
  ⟨_, fun _ _ => rfl, rfl⟩
section
variable {prog : Program} {w : World} {A : Around} {E : Value → Shared → Prop} {s : Shared} {K : Frag} {x C : Addr} {ox : Obj} {od : Option Obj} {name : Str}
theorem get_exc {v : Value} {expr : Bool} {Q : Value → Shared → Prop} (X : K.In s.heap) (I : InstAt s.heap x ox C od) (hk : ExcGet K C) (hf : findObj K C od name = some (.value v)) (hh : handedIn v = true) (h : Q v { s with toks := s.toks + 1 }) :
    wpAny (model prog w) A (getAttr (.ref x) name expr) Q E s := by
  obtain ⟨hp, g, d, t, os⟩ := s
  have L0 := I.type (M := model prog w)
  have Lga := looks_findIn (M := model prog w) X hk.ga
  have Lgr := looks_findIn (M := model prog w) X hk.gr
  have Lb : Looks (model prog w) hp (isInstance (.ref x) (.type "BaseException")) true := L0.andThen (looks_mroIn X hk.base)
  have Lf := looks_find (M := model prog w) X I hf
  have hk1 : builtinKind "BaseException.__getattribute__" = some .slot := by decide +kernel
  have hs1 : splitId "BaseException.__getattribute__" = some ("BaseException", "__getattribute__") := by decide +kernel
  have hx2 : (Value.builtin "BaseException.__getattribute__" == Value.builtin "object.__getattribute__") = false := by decide +kernel
  have hx0 : (expr && onTheHeap (Value.builtin "BaseException.__getattribute__")) = false := by cases expr <;> rfl
  unfold getAttr getAttrBy
  refine wpAny_bind (wpAny_mkText (wpAny_holding (wpAny_bind (L0.at (wpAny_bind (Lga.at ?_))))))
  show wpAny _ _ (if (onTheHeap (.ref C) && Value.builtin "BaseException.__getattribute__" == Value.builtin "object.__getattribute__") = true then _ else _) _ _ _
  rw [hx2, Bool.and_false, if_neg (by decide)]
  unfold getAttrByItsOwn hookBefore callGetattribute boundAndCalled
  refine wpAny_bind ?_
  show wpAny _ _ (typeLookup (.ref C) "__getattr__") _ _ _
  refine Lgr.at ?_
  refine wpAny_bind (wpAny_attempt (wpAny_holding ?_))
  rw [hx0, if_neg (by decide)]
  refine wpAny_bind (wpAny_of_eq (PySem.F.attr_Exception.ga.bind _) ?_)
  show wpAny _ _ (call (.builtin "BaseException.__getattribute__") [.ref x, .str name t]) _ _ _
  refine wpAny_call (codeAny_call_builtin PySem.F.attr_Exception.ga.plain PySem.F.entry_bexc_ga (@check_slot (model prog w) _ _ ⟨hp, g, d, t + 1, os⟩ "BaseException.__getattribute__" "BaseException" "__getattribute__" (.ref x) [.str name t] [] _ hk1 hs1 Lb (PySem.F.args_bexc_ga _ _) ?_))
  obtain ⟨k, k1, k2⟩ := oga_eq (.ref x) name t
  rw [k2]
  refine wpAny_bind (L0.at (wpAny_bind (Lf.at ?_)))
  rw [k1]
  refine wpAny_pure ?_
  show wpAny _ _ (handedOut v) _ _ _
  rw [handedOut_of hh]; exact wpAny_pure h
end
end Mine
namespace Mine
open PySem PySem.W PyProof.Rows PySem.Calls PySem.Spec
noncomputable abbrev excMro (C : Addr) : List Value := [.ref C, .type "Exception", .type "BaseException", .type "object"]
structure ExcSet (K : Frag) (C : Addr) : Prop where
  set : findIn K (.ref C) "__setattr__" = some (some (.builtin "object.__setattr__"))
  cls : ∃ cd, clsIn K C = some cd ∧ cd.mro = excMro C ∧ cd.hasDict = true
section
variable {prog : Program} {w : World} {A : Around} {E : Value → Shared → Prop} {s : Shared} {K : Frag} {x C dx L : Addr} {ox : Obj} {od : Option Obj} {name : Str} {h₀ : Heap} {m : Str → Option Value} {pre post : Led} {es : List DictEntry} {n : Nat}
open PySem.Builtin PySem.Builtin.ObjectAttr in
theorem set_exc {v : Value} {Q : Unit → Shared → Prop} (F : Fr h₀ L s.heap m) (X₀ : K.In h₀) (N : News h₀ L s.heap (pre ++ (dx, dictOf es n) :: post)) (I : InstAt s.heap x ox C (some (dictOf es n))) (hd : ox.dict = some dx) (hk : ExcSet K C) (ht : takerIn K C name = some none)
    (hl : (getL name es).isSome = true) (h1 : ∀ p ∈ pre, p.1 ≠ dx) (h2 : ∀ p ∈ post, p.1 ≠ dx) (hz : (putL name (PyData.keyHash w.params name) (.str name (s.toks + 1)) v es).length ≤ 1000)
    (h : ∀ h', Fr h₀ L h' m → News h₀ L h' (pre ++ (dx, dictOf (putL name (PyData.keyHash w.params name) (.str name (s.toks + 1)) v es) (putN name es n)) :: post) → Q () { s with heap := h', toks := s.toks + 2 }) :
    wpAny (model prog w) A (setAttr (.ref x) name v) Q E s := by
  have X := X₀.keeps F.keep
  refine set_plain X I hk.set ?_
  have SF := PySem.F.store_Exception
  obtain ⟨cd, hc, hm, hd'⟩ := hk.cls
  have hl' : (lookIn name (dictOf es n)).isSome = true := by rw [lookIn_dict]; exact hl
  have sub : Looks (model prog w) s.heap (isInstance (.ref x) (.type "object")) true := I.type.andThen (looks_mroIn X (by unfold mroIn; rw [hc, Option.bind_some, hm]; rfl))
  have hmr : Looks (model prog w) s.heap (mroOf (.ref C)) cd.mro := (looks_clsIn X hc).andThen .now
  obtain ⟨attr, ha, hr⟩ := Option.bind_eq_some_iff.mp ht
  have L3 : Looks (model prog w) s.heap (storeTaker? attr) none := by
    cases attr with
    | none => exact .now
    | some a =>
      obtain ⟨b, hb, hb2⟩ := Option.map_eq_some_iff.mp hr
      cases b with
      | true => cases hb2
      | false => exact (looks_takesIn X hb).andThen .now
  refine codeAny_call_builtin SF.slot.plain SF.entry (@check_slot (model prog w) _ _ { s with toks := s.toks + 1 } "object.__setattr__" "object" "__setattr__" (.ref x) [.str name s.toks, v] [] _ SF.kind SF.split sub (SF.args (.ref x) (.str name s.toks) v) ?_)
  rw [osa_eq, refuse_eq]
  refine wpAny_bind (wpAny_bind (Looks.here (s := { s with toks := s.toks + 1 }) I.type (wpAny_bind (Looks.here (s := { s with toks := s.toks + 1 }) hmr ?_))))
  rw [hm, refuseLoop_ref, SF.passes]
  refine wpAny_pure (wpAny_bind (Looks.here (s := { s with toks := s.toks + 1 }) I.type (wpAny_bind (Looks.here (s := { s with toks := s.toks + 1 }) (looks_findIn X ha) (wpAny_bind (Looks.here (s := { s with toks := s.toks + 1 }) L3 ?_))))))
  obtain ⟨U1, U2⟩ := news_upd (f := Obj.putName name (PyData.keyHash w.params name) (.str name (s.toks + 1)) v) F N h1 h2 (by rw [putName_dict]) rfl
  have D := (N (dx, dictOf es n) (by simp)).1
  have D' := (U2 (dx, dictOf (putL name (PyData.keyHash w.params name) (.str name (s.toks + 1)) v es) (putN name es n)) (by simp)).1
  obtain ⟨hx, hcl, hn, -⟩ := I
  obtain ⟨oc, odi, oda, osl⟩ := ox
  dsimp only at hcl hd
  subst hcl hd
  refine wpAny_bind (wpAny_pure (wpAny_bind (wpAny_bind (wpAny_loadPart hx (wpAny_bind (Looks.here (s := { s with toks := s.toks + 1 }) (looks_clsIn X hc) ?_))))))
  rw [hd']
  refine wpAny_pure (a := some dx) (wpAny_bind (wpAny_pure (wpAny_bind ?_)))
  unfold nsSet
  refine wpAny_bind (wpAny_bind (wpAny_askSetting (wpAny_pure (wpAny_bind (wpAny_mkText (wpAny_bind (wpAny_loadPart D ?_)))))))
  have c : (!es.toArray.any (·.key.isStr name) && es.toArray.any (·.refKey)) = false := by
    have hl2 := hl'
    unfold lookIn at hl2
    rw [← Array.any_toList, ← Array.any_toList]
    dsimp only at hl2
    split at hl2
    · rename_i en he
      rw [List.any_eq_true.mpr ⟨en, List.mem_of_find?_eq_some he, List.find?_some he⟩]; rfl
    · split at hl2
      · cases hl2
      · rename_i z; rw [Bool.not_eq_true] at z; rw [z, Bool.and_false]
  show wpAny _ _ (if (aRefKeyMayBeTheName name es.toArray) = true then _ else _) _ _ _
  rw [aRefKeyMayBeTheName_at, c]
  refine wpAny_updatePart D ?_
  refine wpAny_bind (wpAny_lookBehind D' (pastItsLine_dict (by rw [List.size_toArray, sizeLine_eq]; lia)) ?_)
  exact wpAny_pure (h _ U1 U2)
end
variable {c : Cx} {S : Scope} {n : Nat} {σ σ' σ₁ σ₂ σ₃ σ₄ : St} {X Y Z : V} {e l r t test target iter fn : Expr} {es : List Expr} {Xs : List V} {pos tpos apos : Pos} {x : Str} {C : Addr} {as : List (Str × D)} {args : List D} {i : Nat} {name : Str} {d : D}
theorem exc_at {f : Fm} {ω : Om} {s : Shared} {m : Str → Option Value} {Mc Mh FR : Led} {a : Addr} (r : Rel c n f ω σ s m Mc Mh FR) (hi : lk i σ.heap = some (.exc (.ref C) args (some as) none)) (ha : ω.ρ i = some a) :
    ∃ oe vs T ts k0 dx es k M1 M2, Mh = M1 ++ ([(a, oe), (dx, dictOf es k)] ++ M2) ∧ DRd c.hs (fz c ω) as es ∧ InstAt s.heap a oe C (some (dictOf es k)) ∧ oe.cls = .ref C ∧ oe.dict = some dx ∧ oe.data = .fields vs ∧ vs[0]? = some (.ref T) ∧ (vs[1]? = some .none ∧ vs[2]? = some .none) ∧ fz c ω T (tupObj ts k0) ∧ DRs c.hs (fz c ω) args ts ∧
      ∀ o' m', HOR c.hs (fz c ω) o' a m' → HR c.hs (fz c ω) ω.ρ (setH i o' σ.heap) (M1 ++ (m' ++ M2)) := by
  obtain ⟨M1, m1, M2, a', e, h1, h2, h3⟩ := r.heap.split hi
  have : a' = a := Option.some.inj (h1.symm.trans ha)
  subst this
  obtain ⟨oe, vs, T, ts, k0, md, mt, rfl, g1, g2, g3, g4, g5, g6, g7⟩ := exc_inv h2
  cases q : oe.dict with
  | none => rw [q] at g6; exact g6.elim
  | some dx =>
    rw [q] at g6
    obtain ⟨es, k, rfl, hd⟩ := g6
    obtain ⟨⟨g8, rfl⟩, g9⟩ := g7
    have in1 : (a', oe) ∈ Mc ++ (Mh ++ (ω.Z ++ (FR ++ f.keep))) := by rw [e]; exact List.mem_append_right _ (List.mem_append_left _ (List.mem_append_right _ (List.mem_append_left _ (.head _))))
    have in2 : (dx, dictOf es k) ∈ Mc ++ (Mh ++ (ω.Z ++ (FR ++ f.keep))) := by rw [e]; exact List.mem_append_right _ (List.mem_append_left _ (List.mem_append_right _ (List.mem_append_left _ (.tail _ (.head _)))))
    refine ⟨oe, vs, T, ts, k0, dx, es, k, M1, M2, e, hd, ⟨(r.nw _ in1).1, g1, by unfold notCls; rw [g2], by rw [q]; exact (r.nw _ in2).1⟩, g1, q, g2, g3, ⟨g8, g9⟩, g4, g5, h3⟩
theorem set_attr_exc {f : Fm} {ω : Om} {s : Shared} {Q : Unit → Shared → Prop} {E : Value → Shared → Prop} {v : Value} {a : Addr} (F : FmOk c S n f) (hC : CxOk c) (hk : ExcSet c.K C) (ht : takerIn c.K C name = some none) (R : RelE c n f ω σ s) (hi : lk i σ.heap = some (.exc (.ref C) args (some as) none)) (ha : ω.ρ i = some a) (hl : as.length ≤ 900)
    (A : DR c.hs (fz c ω) d v) (h : ∀ s', RelE c n f ω { σ with heap := setH i (.exc (.ref C) args (some (putD' name d as)) none) σ.heap } s' → Q () s') : wpAny (model c.prog c.w) f.A (setAttr (.ref a) name v) Q E s := by
  obtain ⟨m, Mc, Mh, FR, r⟩ := R
  obtain ⟨oe, vs, T, ts, k0, dx, es, k, M1, M2, e, q, I, g1, g2, g3, g4, g5, g6, g7, hset⟩ := exc_at r hi ha
  have eL : Mc ++ (Mh ++ (ω.Z ++ (FR ++ f.keep))) = (Mc ++ (M1 ++ [(a, oe)])) ++ (dx, dictOf es k) :: (M2 ++ (ω.Z ++ (FR ++ f.keep))) := by rw [e]; simp only [List.append_assoc, List.cons_append, List.nil_append]
  obtain ⟨o1, o2⟩ := off_pre (eL ▸ r.nd)
  have hsome : (W.getL name es).isSome = true := by
    obtain ⟨g1, g2⟩ := q.getL name
    cases z : getD? name as with
    | none => rw [g2 z]; rfl
    | some d' => obtain ⟨v', hv', _⟩ := g1 d' z; rw [hv']; rfl
  have q' := q.putL name (s.toks + 1) A
  refine set_exc r.fr hC.kin (eL ▸ r.nw) I g2 hk ht hsome o1 o2 ?_ fun h' F' N' => ?_
  · have := len_putL (nm := name) (hs := PyData.keyHash c.w.params name) (kv := .str name (s.toks + 1)) (v := v) (es := es)
    rw [q.length] at this; lia
  · have eL' : (Mc ++ (M1 ++ [(a, oe)])) ++ (dx, dictOf (W.putL name (PyData.keyHash c.w.params name) (.str name (s.toks + 1)) v es) (putN name es k)) :: (M2 ++ (ω.Z ++ (FR ++ f.keep))) =
        Mc ++ ((M1 ++ ([(a, oe), (dx, dictOf (W.putL name (PyData.keyHash c.w.params name) (.str name (s.toks + 1)) v es) (putN name es k))] ++ M2)) ++ (ω.Z ++ (FR ++ f.keep))) := by simp only [List.append_assoc, List.cons_append, List.nil_append]
    rw [eL'] at N'
    refine h _ ⟨m, Mc, _, FR, r.swap (tk := s.toks + 2) (a := dx) (o := dictOf es k) (o' := dictOf (W.putL name (PyData.keyHash c.w.params name) (.str name (s.toks + 1)) v es) (putN name es k)) (pre := M1 ++ [(a, oe)]) (post := M2) ?_ ?_ F' N' (hset _ _ (exc_mk (md := [(dx, _)]) (mt := []) g1 g3 g4 g6 g7 ?_ ⟨⟨g5.1, rfl⟩, g5.2⟩))⟩
    · rw [e]; simp only [List.append_assoc, List.cons_append, List.nil_append]
    · simp only [List.append_assoc, List.cons_append, List.nil_append]
    · rw [g2]; exact ⟨_, _, rfl, q'⟩
theorem ex_setattr_exc {o : Expr} (hC : CxOk c) (hk : ExcSet c.K C) (ht : takerIn c.K C name = some none) (h1 : Ev c S n e σ (.d d) σ₁) (h2 : Ev c S n o σ₁ (.obj i) σ₂) (hi : lk i σ₂.heap = some (.exc (.ref C) args (some as) none)) (hl : as.length ≤ 900) (hn : noComp e = true := by rfl) :
    Ex c S n (.Assign [.Attribute o name tpos] e pos) σ .next { σ₂ with heap := setH i (.exc (.ref C) args (some (putD' name d as)) none) σ₂.heap } := fun f F ω s Q E R h =>
  plainObj_wpAny_Assign_Attribute (h1 f F ω s _ _ R fun ω₁ v s₁ e₁ R₁ A₁ => h2 f F ω₁ s₁ _ _ R₁ fun ω₂ u s₂ e₂ R₂ A₂ => by
    have A₁' := A₁.ext e₂
    cases A₁' with
    | d A₁' =>
      cases A₂ with
      | obj hb ha => exact set_attr_exc F hC hk ht R₂ hi ha hl A₁' fun s₃ R₃ => h ω₂ .next s₃ (e₁.down.trans e₂.down) R₃ .next) (swaps_no hn)
structure ExcAttr (K : Frag) (C : Addr) (name : Str) : Prop where
  get : ExcGet K C
  cls : ∃ attr, findIn K (.ref C) name = some attr ∧ noGet K attr = true
theorem ev_attr_exc {y : Str} {p : Pos} (hC : CxOk c) (hk : ExcAttr c.K C name) (h1 : Ev c S n (.Name y p) σ (.obj i) σ₁) (hi : lk i σ₁.heap = some (.exc (.ref C) args (some as) none)) (hd : getD? name as = some d) : Ev c S n (.Attribute (.Name y p) name pos) σ (.d d) σ₁ := fun f F ω s Q E R h => by
  refine Attribute_Name_ (h1 f F ω s _ _ R fun ω₁ v s₁ e₁ R₁ A₁ => ?_)
  cases A₁ with
  | obj hb ha =>
    obtain ⟨m, Mc, Mh, FR, r⟩ := id R₁
    obtain ⟨oe, vs, T, ts, k0, dx, es, k, M1, M2, e, q, I, _⟩ := exc_at r hi ha
    obtain ⟨v, hv, dv⟩ := (q.getL name).1 d hd
    obtain ⟨attr, g1, g2⟩ := hk.cls
    exact get_exc (hC.kin.keeps R₁.keep) I hk.get (findObj_own hk.get.has g1 g2 (by rw [lookIn_dict, hv])) dv.handed (h ω₁ v _ e₁ R₁.toks (.d dv))
theorem exn_inv {ω : Om} {v cls : Value} {as : Option (List (Str × D))} (h : VR c n ω (.exn cls args as) v) : ∃ a T oe vs ts k, v = .ref a ∧ oe.cls = cls ∧ fz c ω a oe ∧ oe.data = .fields vs ∧ vs[0]? = some (.ref T) ∧ fz c ω T (tupObj ts k) ∧ DRs c.hs (fz c ω) args ts ∧ XD c.hs (fz c ω) oe.dict as := by
  cases h with | exn h1 h2 h3 h4 h5 h6 => exact ⟨_, _, _, _, _, _, rfl, rfl, h1, h2, h3, h4, h5, h6⟩
theorem ev_attr_exn {y : Str} {p : Pos} (hC : CxOk c) (hk : ExcAttr c.K C name) (h1 : Ev c S n (.Name y p) σ (.exn (.ref C) args (some as)) σ₁) (hd : getD? name as = some d) : Ev c S n (.Attribute (.Name y p) name pos) σ (.d d) σ₁ := fun f F ω s Q E R h => by
  refine Attribute_Name_ (h1 f F ω s _ _ R fun ω₁ v s₁ e₁ R₁ A₁ => ?_)
  obtain ⟨a, T, oe, vs, ts, k, rfl, hcls, g1, g2, g3, g4, g5, g6⟩ := exn_inv A₁
  cases q : oe.dict with
  | none => rw [q] at g6; exact g6.elim
  | some dx =>
    rw [q] at g6
    obtain ⟨es, k, gd, hes⟩ := g6
    have I : InstAt s₁.heap a oe C (some (dictOf es k)) := ⟨R₁.fz g1, hcls, by unfold notCls; rw [g2], by rw [q]; exact R₁.fz gd⟩
    obtain ⟨v, hv, dv⟩ := (hes.getL name).1 d hd
    obtain ⟨attr, b1, b2⟩ := hk.cls
    exact get_exc (hC.kin.keeps R₁.keep) I hk.get (findObj_own hk.get.has b1 b2 (by rw [lookIn_dict, hv])) dv.handed (h ω₁ v _ e₁ R₁.toks (.d dv))
end Mine
namespace Mine
open PySem PySem.W PyProof.Rows PySem.Calls PySem.Spec
noncomputable abbrev excTail : List Value := [.type "Exception", .type "BaseException", .type "object"]
noncomputable abbrev tupOf (vs : List Value) : Obj := { cls := .type "tuple", data := .seq vs.toArray }
noncomputable abbrev excObj (C T : Addr) : Obj := { cls := .ref C, data := .fields #[.ref T, .none, .none, .none, .bool false, .none] }
noncomputable def ExcCls (K : Frag) (C : Addr) : Prop := ∃ nm q N bs hdct sn sub ab col dd k0 k1 k2 k3 k5, K.lookup C = some (excClassObj nm q C N bs excTail hdct sn sub ab col dd k0 k1 k2 k3 k5 "Exception.__new__")
section
variable {prog : Program} {w : World} {A : Around} {K : Frag} {C fI : Addr} {R : Result → Shared → Prop} {h : Heap} {g : Array GenState} {d : Drawn} {t : Nat} {os : OsState}
set_option maxHeartbeats 1000000 in
theorem make_exc {vs : List Value} (X : K.In h) (hk : ExcCls K C) (hi : findIn K (.ref C) "__init__" = some (some (.ref fI))) (hf : typeIn K (.ref fI) = some (.type "function")) (hrest : vs.length ≤ sizeLine)
    (hq : codeAny (model prog w) (A.under (.builtin "type.__call__" ⟨.ref C :: vs, []⟩)) (.call (.ref fI) ⟨.ref (h.objs.size + 1) :: vs, []⟩) (InitBack (h.objs.size + 1) R) ⟨(h.push (tupOf vs)).push (excObj C h.objs.size), g, d, t, os⟩) :
    codeAny (model prog w) A (.call (.ref C) ⟨vs, []⟩) R ⟨h, g, d, t, os⟩ := by
  obtain ⟨nm, q, N, bs, hdct, sn, sub, ab, col, dd, k0, k1, k2, k3, k5, hkC⟩ := hk
  have hC := X _ _ hkC
  have F := PySem.F.excBase_Exception
  have f1 := tc_lookup
  have f2 := tc_bind (.ref C)
  have hT : (⟨h, g, d, t, os⟩ : Shared).TypeIs (.ref C) "type" := ⟨_, hC, rfl⟩
  refine codeAny_of_tree ?_
  show wpAny _ _ (callAny (.ref C) _) _ _ _
  repeat (any_goals (first | assumption | with_reducible refine wpAny_loadPart_at hC ?_ | wp_step))
  refine ⟨rfl, ?_⟩
  refine codeAny_call_builtin_at (Code.quiet_builtin _ (by decide +kernel)) entry_typeCall (wpAny_check_type_call_sub hC ?_)
  show wpAny _ _ (Builtin.«type.__call__» ⟨.ref C :: vs, []⟩) _ _ _
  unfold Builtin.«type.__call__»
  repeat (first | with_reducible refine wpAny_loadPart_at hC ?_ | with_reducible refine wpAny_madeBy_exc hC ?_ | wp_step)
  refine codeAny_call_builtin_code (Code.quiet_builtin _ F.quiet) (wpAny_check_new_sub F hC ?_)
  refine codeAny_exc_new_sub F hC ?_ hrest
  show wpAny _ _ _ _ _ _
  have k : ∀ b o, h.get? b = some o → ((h.push (tupOf vs)).push (excObj C h.objs.size)).get? b = some o := fun b o e => Heap.get?_push_of_some _ (Heap.get?_push_of_some _ e)
  have hC₁ := k _ _ hC
  have X₁ : K.In ((h.push (tupOf vs)).push (excObj C h.objs.size)) := X.keeps k
  have hget : ((h.push (tupOf vs)).push (excObj C h.objs.size)).get? (h.objs.size + 1) = some (excObj C h.objs.size) := by heap_get
  have hcC : (Value.ref C :: excTail).contains (.ref C) = true := by simp
  unfold isInstance
  repeat (first | with_reducible refine wpAny_loadPart_at hget ?_ | wp_step)
  show wpAny _ _ (isSubtype (.ref C) (.ref C)) _ _ _
  refine wpAny_isSubtype_exc hC₁ ?_
  rw [hcC]
  repeat (first | with_reducible refine wpAny_loadPart_at hget ?_ | wp_step)
  show wpAny _ _ (typeLookup (.ref C) _) _ _ _
  refine (looks_findIn X₁ hi).at ?_
  refine wpAny_holding (wpAny_bind ((bind_fn X₁ _ hf).at ?_))
  refine wpAny_bind (wpAny_call (codeAny_mono hq fun r s' z => ?_))
  rcases r with e | (v | _ | _ | _) <;> first | exact z | exact z.elim | skip
  obtain ⟨rfl, z⟩ := z
  repeat wp_step
  exact z
end
end Mine
namespace Mine
open PySem PySem.W PyProof.Rows PySem.Calls PySem.Spec
variable {c : Cx} {S : Scope} {n : Nat} {σ σ' σ₁ σ₂ σ₃ σ₄ : St} {X Y Z : V} {e l r t test target iter fn : Expr} {es : List Expr} {Xs : List V} {pos tpos apos : Pos} {x : Str} {C g : Addr} {as : List (Str × D)} {args ds : List D} {name : Str} {d : D}
theorem evx_new {H : List (Nat × HO)} {fnp : Str} {fp : Pos} (hC : CxOk c) (hn : n ≤ 90) (hk : ExcCls c.K C) (hkeep : keepIn c.K (.ref C) = true) (hi : findIn c.K (.ref C) "__init__" = some (some (.ref g))) (hf : typeIn c.K (.ref g) = some (.type "function"))
    (h0 : Ev c S n (.Name fnp fp) σ (.val (.ref C)) σ) (h1 : Evs c S n (e :: es) σ (ds.map .d) σ₁) (hlen : ds.length ≤ 100) (hf1 : lk ((n + 1) * 1000) σ₁.heap = none) (hf2 : lk FI H = none)
    (h2 : FnN c (n + 1) g (.obj ((n + 1) * 1000) :: ds.map .d) ⟨σ₁.loc, ((n + 1) * 1000, .exc (.ref C) ds none none) :: σ₁.heap⟩ (.d .none) ⟨σ₁.loc, ((n + 1) * 1000, .exc (.ref C) args (some as) none) :: H⟩) (ha : notStar e = true := by rfl) (hs : es.all notStar = true := by rfl)
    (hc : ∀ env, eval (.Call (.Name fnp fp) (e :: es) [] pos) env = (do callWith pos (← eval (.Name fnp fp) env) [] (backTo pos (starEach (e :: es) env)) (backToKw pos (keywordEach [] env))) := by intro _; rfl) :
    EvX c S n (.Call (.Name fnp fp) (e :: es) [] pos) σ ⟨.ref C, args, some as⟩ ⟨σ₁.loc, H⟩ := fun f F ω s Q E R h => by
  refine Call_ (h0 f F ω s _ _ R fun ω₁ v s₁ e₁ R₁ A₁ => ?_) (hc _)
  cases A₁
  refine callWith_K (hC.kin.keeps R₁.keep) hkeep (h1 pos f F ω₁ s₁ _ _ R₁ fun ω₂ vs s₂ e₂ R₂ B => ⟨hC.kin.keeps R₂.keep, ?_⟩) (starEach_plain ha) (anyBack hs)
  obtain ⟨m, Mc, Mh, FR, r⟩ := id R₂
  have hvl : DRs c.hs (fz c ω₂) ds vs := by
    clear h1 h2 hlen
    generalize hX : ds.map V.d = Xs at B
    induction B generalizing ds with
    | nil => cases ds with | nil => exact .nil | cons _ _ => cases hX
    | cons h1 h2 ih => cases ds with
      | nil => cases hX
      | cons d ds =>
        rw [List.map_cons, List.cons.injEq] at hX
        obtain ⟨rfl, hX⟩ := hX
        cases h1 with | d h1 => exact .cons h1 (ih hX)
  refine wpAny_call ?_
  obtain ⟨hp, gg, dr, tk, os⟩ := s₂
  refine make_exc (hC.kin.keeps R₂.keep) hk hi hf (by rw [sizeLine_eq]; have := hvl.length; show ([] ++ vs).length ≤ _; rw [List.nil_append]; lia) ?_
  show codeAny _ _ (.call (.ref g) ⟨.ref (hp.objs.size + 1) :: vs, []⟩) _ _
  have ee : ([] : List Value) ++ vs = vs := List.nil_append vs
  let A' : Around := f.A.under (.builtin "type.__call__" ⟨.ref C :: ([] ++ vs), []⟩)
  let f' : Fm := { f with A := A' }
  have hw : (Code.builtin "type.__call__" ⟨.ref C :: ([] ++ vs), []⟩).weight = 1 := by kernel_rfl
  have hu : (Code.builtin "type.__call__" ⟨.ref C :: ([] ++ vs), []⟩).cUnits ≤ 5 := by
    have : (Code.builtin "type.__call__" ⟨.ref C :: ([] ++ vs), []⟩).cUnits = 1 := by kernel_rfl
    lia
  have hA : A'.depth = f.A.depth + 1 ∧ A'.units ≤ f.A.units + 5 ∧ A'.handled = f.A.handled := by
    refine ⟨?_, ?_, rfl⟩
    · show f.A.depth + (Code.builtin "type.__call__" ⟨.ref C :: ([] ++ vs), []⟩).weight = _
      rw [hw]
    · show f.A.units + (Code.builtin "type.__call__" ⟨.ref C :: ([] ++ vs), []⟩).cUnits ≤ _
      lia
  have hFr : ∃ l, f'.A.frames = some l ∧ (∀ env ∈ l, env.scope.kind ≠ .module ∧ ∃ L, env.frame = some L ∧ (L = f'.env.locals ∨ ∃ m, (L, m) ∈ f'.fr)) ∧ (S.names.lookup dot0 = none → (∃ l', l = f'.env :: l') ∧ f'.env.frame = some f'.env.locals) := by
    obtain ⟨l, h1, h2, h3⟩ := F.frames
    refine ⟨l, ?_, h2, h3⟩
    show pushEnvs (Code.envs (.builtin "type.__call__" ⟨.ref C :: ([] ++ vs), []⟩)) f.A.frames = _
    rw [h1, show Code.envs (.builtin "type.__call__" ⟨.ref C :: ([] ++ vs), []⟩) = [] by kernel_rfl]
    rfl
  have hG : A'.guards = some [] := by
    show pushGuards (Code.guards (.builtin "type.__call__" ⟨.ref C :: ([] ++ vs), []⟩)) f.A.guards = some []
    rw [F.guards, show Code.guards (.builtin "type.__call__" ⟨.ref C :: ([] ++ vs), []⟩) = [] by kernel_rfl]
    rfl
  have FF : FmOk c S (n + 1) f' := ⟨F.scope, F.kind, F.globals, F.builtins, by have := F.depth; show A'.depth ≤ _; lia, by have := F.units; show A'.units ≤ _; lia, hG, hFr, F.hand, F.cellsOk, F.freeOk, F.keys⟩
  -- the tuple of the arguments is frozen, the exception is new
  have N0 := r.nw.push r.fr (tupOf vs)
  have R' : Rel c n f { ω₂ with Z := (hp.objs.size, tupObj vs 0) :: ω₂.Z } σ₁ ⟨hp.push (tupOf vs), gg, dr, tk, os⟩ m Mc Mh FR := r.frz (k := tk) (r.fr.push _) N0 r.lt
  have N1 := R'.nw.push R'.fr (excObj C hp.objs.size)
  have hsz : (hp.push (tupOf vs)).objs.size = hp.objs.size + 1 := by rw [Heap.size_push]
  rw [hsz] at N1
  let i : Nat := (n + 1) * 1000
  let ω₃ : Om := Om.put { ω₂ with Z := (hp.objs.size, tupObj vs 0) :: ω₂.Z } i (hp.objs.size + 1)
  have X3 : Ext (n + 1) ω₂ ω₃ := ⟨fun k hk => by show (if k = i then _ else _) = _; rw [if_neg (by show k ≠ (n + 1) * 1000; lia)], [(hp.objs.size, tupObj vs 0)], rfl⟩
  have perm : (Mc ++ (([(hp.objs.size + 1, excObj C hp.objs.size)] ++ Mh) ++ (((hp.objs.size, tupObj vs 0) :: ω₂.Z) ++ (FR ++ f.keep)))).Perm ((hp.objs.size + 1, excObj C hp.objs.size) :: (Mc ++ (Mh ++ (((hp.objs.size, tupObj vs 0) :: ω₂.Z) ++ (FR ++ f.keep))))) := by
    rw [List.append_assoc]
    exact List.perm_middle
  have hlt : ∀ p ∈ Mc ++ (Mh ++ (((hp.objs.size, tupObj vs 0) :: ω₂.Z) ++ (FR ++ f.keep))), p.1 < hp.objs.size + 1 := fun p hp' => by
    have := R'.lt p hp'
    rw [← hsz]; exact this
  have ok0 : HOR c.hs (fz c { ω₂ with Z := (hp.objs.size, tupObj vs 0) :: ω₂.Z }) (.exc (.ref C) ds none none) (hp.objs.size + 1) [(hp.objs.size + 1, excObj C hp.objs.size)] :=
    exc_mk (md := []) (mt := []) rfl rfl rfl (.inl (.head _)) (hvl.mono (Ext.frz n ω₂ [(hp.objs.size, tupObj vs 0)]).fz) rfl ⟨⟨rfl, rfl⟩, rfl⟩
  have R₃ : RelE c (n + 1) f' ω₃ ⟨σ₁.loc, (i, .exc (.ref C) ds none none) :: σ₁.heap⟩ ⟨(hp.push (tupOf vs)).push (excObj C hp.objs.size), gg, dr, tk, os⟩ := by
    refine ⟨m, Mc, [(hp.objs.size + 1, excObj C hp.objs.size)] ++ Mh, FR, ⟨R'.fr.push _, fun p hp => N1 p (perm.subset hp), ?_, r.frs, r.cells, r.cinj, .cons (by show (if i = i then _ else _) = _; rw [if_pos rfl]) ok0 (R'.heap.put hf1), fun y Y hy hl => ?_, r.gens, r.drawn, r.os⟩⟩
    · show ((Mc ++ (([(hp.objs.size + 1, excObj C hp.objs.size)] ++ Mh) ++ (((hp.objs.size, tupObj vs 0) :: ω₂.Z) ++ (FR ++ f.keep)))).map (·.1)).Nodup
      rw [(perm.map (·.1)).nodup_iff, List.map_cons, List.nodup_cons]
      refine ⟨fun hm => ?_, R'.nd⟩
      obtain ⟨p, hp', e⟩ := List.mem_map.mp hm
      have z := hlt p hp'
      have e' : p.1 = hp.objs.size + 1 := e
      exact absurd (e' ▸ z) (Nat.lt_irrefl _)
    · cases r.locs y Y hy hl with
      | loc a b d => exact .loc a b ((d.ext X3).up (Nat.le_succ n))
      | cell a b d e g => exact .cell a b d e ((g.ext X3).up (Nat.le_succ n))
      | free a b d e g => exact .free a b d e ((g.ext X3).up (Nat.le_succ n))
  have hi3 : i < (n + 1 + 1) * 1000 := by show (n + 1) * 1000 < _; lia
  have hp3 : ω₃.ρ i = some (hp.objs.size + 1) := Om.put_self
  have VX : VRs c (n + 1) ω₃ (ds.map .d) vs := by
    have : ∀ {Xs : List V} {us : List Value}, VRs c n ω₂ Xs us → VRs c (n + 1) ω₃ Xs us := fun h => by
      induction h with
      | nil => exact .nil
      | cons h1 _ ih => exact .cons ((h1.ext X3).up (Nat.le_succ n)) ih
    exact this B
  refine h2 S f' FF ω₃ _ _ _ R₃ (.cons (.obj hi3 hp3) VX) fun ω₄ v s₄ e₄ R₄ Av => ?_
  cases Av with
  | d Av =>
    cases Av
    refine ⟨rfl, ?_⟩
    have hρ : ω₄.ρ i = some (hp.objs.size + 1) := (e₄.ρ i hi3).trans hp3
    refine h (ω₄.put FI (hp.objs.size + 1)) _ s₄ (e₁.trans (e₂.trans (X3.trans ((e₄.le (by lia)).trans ⟨fun k hk => ?_, [], rfl⟩)))) ⟨hp.objs.size + 1, rfl, Om.put_self, ?_⟩
    · show (if k = FI then _ else _) = _
      rw [if_neg (by unfold FI; lia)]
    · obtain ⟨m', Mc', Mh', FR', r'⟩ := R₄
      obtain ⟨a, m0, M, q1, q2, r0, q3, q4, q5⟩ := r'.offH
      obtain rfl : a = hp.objs.size + 1 := Option.some.inj (q1.symm.trans hρ)
      have r1 : Rel c n f (ω₄.put FI (hp.objs.size + 1)) ⟨σ₁.loc, H⟩ s₄ m' Mc' M FR' := by
        refine ⟨r0.fr, r0.nw, r0.nd, r0.frs, r0.cells, r0.cinj, r0.heap.put hf2, fun y Y hy hl => ?_, r0.gens, r0.drawn, r0.os⟩
        have ok : Y.ok n := by
          cases r.locs y Y hy hl with
          | loc a b d => exact d.isOk
          | cell a b d e g => exact g.isOk
          | free a b d e g => exact g.isOk
        have av : Y.avoids FI = true := by
          cases Y with
          | obj k => have : k < (n + 1) * 1000 := ok; show (!(k == FI)) = true; simp [FI]; lia
          | meth k g => have : k < (n + 1) * 1000 := ok; show (!(k == FI)) = true; simp [FI]; lia
          | _ => rfl
        cases r0.locs y Y hy hl with
        | loc a b d => exact .loc a b ((d.down ok).put av)
        | cell a b d e g => exact .cell a b d e ((g.down ok).put av)
        | free a b d e g => exact .free a b d e ((g.down ok).put av)
      exact ⟨m', Mc', m0 ++ M, FR', r1.addH Om.put_self q2 q3 q4 q5⟩
end Mine
namespace Mine
open PySem PySem.W PyProof.Rows PySem.Calls PySem.Spec
theorem wd_slot : Slot "wrapper_descriptor" "__get__" "wrapper_descriptor.__get__" := .of (owner := "wrapper_descriptor") (n := "__get__") (by rw [typeLookup_type, builtinLookup_eq_fast]; kernel_rfl) (by decide +kernel) (by decide +kernel) (by decide +kernel)
  (by first | exact .inl (by decide +kernel) | exact .inr (by decide +kernel)) (by rw [isSubtype_type]; kernel_rfl)
theorem wd_entry : entryFor table "wrapper_descriptor.__get__" = some Builtin.«wrapper_descriptor.__get__» := entryFor_of_tree (by kernel_rfl)
theorem wd_args (a b c : Value) : argsOk "wrapper_descriptor.__get__" ⟨[a, b, c], []⟩ := by unfold argsOk; kernel_rfl
theorem wd_type : builtinType "Exception.__init__" = pure (.type "wrapper_descriptor") := by rw [builtinType_eq_fast]; kernel_rfl
theorem wd_owner : (".".intercalate ("Exception.__init__".cutAt '.').dropLast) = "Exception" := by
  have e0 : "Exception.__init__".cutAt '.' = ["Exception", "__init__"] := by first | rfl | decide +kernel
  rw [e0]; decide +kernel
noncomputable abbrev mwObj (x : Addr) : Obj := { cls := .type "method-wrapper", data := .fields #[.builtin "Exception.__init__", .ref x] }
section
variable {prog : Program} {w : World} {A : Around} {E : Value → Shared → Prop} {h : Heap} {g : Array GenState} {d : Drawn} {t : Nat} {os : OsState}
set_option maxHeartbeats 1000000 in
theorem sup_ga {so D x C : Addr} {ox : Obj} {l₀ l : List Value} {K : Frag} {tk : Tok} {Q : Fin → Shared → Prop}
    (hso : h.get? so = some { cls := .type "super", dict := none, data := .fields #[.ref D, .ref x, .ref C], slots := #[] }) (hno : Looks (model prog w) h (opaqueClassAbove (.ref C)) none)
    (hC : Looks (model prog w) h (mroOf (.ref C)) l₀) (hl : (l₀.dropWhile (· != .ref D)).drop 1 = l) (X : K.In h) (hf : alongIn K "__init__" l = some (some (.builtin "Exception.__init__"))) (hxC : x ≠ C)
    (hx : h.get? x = some ox) (hxc : ox.cls = .ref C) (hi : Looks (model prog w) h (isSubtype (.ref C) (.type "Exception")) true)
    (hq : Q (.done (.ret (.ref h.objs.size))) ⟨h.push (mwObj x), g, d, t, os⟩) :
    wpAny (model prog w) A (Builtin.«super.__getattribute__» ⟨[.ref so, .str "__init__" tk], []⟩) Q E ⟨h, g, d, t, os⟩ := by
  have hlk := wd_slot.lookup
  have hne : (Value.ref x == Value.ref C) = false := by simp [hxC]
  have hn : (("__init__" : Str) == ("__class__" : Str)) = false := by decide +kernel
  have hdt : ({ cls := .type "super", dict := none, data := .fields #[.ref D, .ref x, .ref C], slots := #[] } : Obj).data = .fields #[.ref D, .ref x, .ref C] := rfl
  have f0 : (#[.ref D, .ref x, .ref C] : Array Value)[0]? = some (.ref D) := rfl
  have f1 : (#[.ref D, .ref x, .ref C] : Array Value)[1]? = some (.ref x) := rfl
  have f2 : (#[.ref D, .ref x, .ref C] : Array Value)[2]? = some (.ref C) := rfl
  have ht : typeOf (.builtin "Exception.__init__") = pure (.type "wrapper_descriptor") := wd_type
  have hT : (⟨h, g, d, t, os⟩ : Shared).TypeIs (.builtin "Exception.__init__") "wrapper_descriptor" := ht
  unfold Builtin.«super.__getattribute__»
  repeat (first
    | (with_reducible refine wpAny_field hso hdt f0 ?_) | (with_reducible refine wpAny_field hso hdt f1 ?_) | (with_reducible refine wpAny_field hso hdt f2 ?_)
    | (with_reducible refine ks_wpAny_notOpaque hno ?_)
    | (with_reducible refine Looks.at hC ?_; rw [hl])
    | (refine ks_forIn_along X (fun _ _ => rfl) rfl ?_ hf)
    | (with_reducible refine wpAny_typeOf hT ?_)
    | (with_reducible refine wpAny_call_entry wd_slot hT wd_entry ?_ (wd_args _ _ _))
    | (with_reducible refine ⟨_, rfl, ?_⟩)
    | (simp only [hn, hne, Bool.or_false, Bool.false_eq_true, if_false])
    | wp_step
    | dsimp only)
  rw [wd_owner]
  rw [hxc]
  refine hi.at ?_
  simp only [Bool.not_true, Bool.false_eq_true, if_false]
  refine wpAny_pure ?_
  unfold newFields
  refine wpAny_bind (wpAny_newObj_type ?_ (by size_fits))
  refine wpAny_pure ⟨_, rfl, ?_⟩
  repeat wp_step
  exact hq
end
end Mine
namespace Mine
open PySem PySem.W PyProof.Rows PySem.Calls PySem.Spec
section
variable {prog : Program} {w : World} {A : Around} {E : Value → Shared → Prop} {h : Heap} {g : Array GenState} {d : Drawn} {t : Nat} {os : OsState}
theorem sup_getm {so D x C : Addr} {ox : Obj} {l₀ l : List Value} {K : Frag} {pl : Sem Bool} {Q : Value × List Value → Shared → Prop}
    (hso : h.get? so = some { cls := .type "super", dict := none, data := .fields #[.ref D, .ref x, .ref C], slots := #[] }) (hno : Looks (model prog w) h (opaqueClassAbove (.ref C)) none)
    (hC : Looks (model prog w) h (mroOf (.ref C)) l₀) (hl : (l₀.dropWhile (· != .ref D)).drop 1 = l) (X : K.In h) (hf : alongIn K "__init__" l = some (some (.builtin "Exception.__init__"))) (hxC : x ≠ C)
    (hx : h.get? x = some ox) (hxc : ox.cls = .ref C) (hi : Looks (model prog w) h (isSubtype (.ref C) (.type "Exception")) true)
    (hq : Q (.ref h.objs.size, []) ⟨h.push (mwObj x), g, d, t + 1, os⟩) :
    wpAny (model prog w) A (getMethod (.ref so) "__init__" pl) Q E ⟨h, g, d, t, os⟩ := by
  have hlk := PySem.F.ks_slot_super_ga.lookup
  have hcan := PySem.F.ks_canon_super_ga
  have hT : ∀ t', (⟨h, g, d, t', os⟩ : Shared).TypeIs (.ref so) "super" := fun _ => ⟨_, hso, rfl⟩
  unfold getMethod
  refine wpAny_bind (wpAny_specialOf (hT _) hlk ?_)
  show wpAny _ _ (if (Manifest.canonical "super.__getattribute__" != "object.__getattribute__") = true then _ else _) _ _ _
  rw [if_pos hcan]
  unfold getAttr getAttrBy
  refine wpAny_bind (wpAny_bind (wpAny_mkText (wpAny_holding (wpAny_bind (wpAny_typeOf (hT _) (wpAny_bind (wpAny_of_eq hlk ?_)))))))
  show wpAny _ _ (getAttrByItsOwn (.ref so) (.str "__init__" t) (.type "super") (.builtin "super.__getattribute__") true false) _ _ _
  unfold getAttrByItsOwn hookBefore callGetattribute boundAndCalled
  refine wpAny_bind (wpAny_of_eq (show (if onTheHeap (.type "super") then typeLookup (.type "super") "__getattr__" else pure none) = pure none from rfl) ?_)
  refine wpAny_bind (wpAny_attempt (wpAny_holding ?_))
  show wpAny _ _ (bindSpecial (.builtin "super.__getattribute__") (.ref so) >>= _) _ _ _
  refine wpAny_bind (wpAny_of_eq (PySem.F.ks_slot_super_ga.bind _) ?_)
  refine wpAny_mono (Q := fun v s' => v = .ref h.objs.size ∧ s' = ⟨h.push (mwObj x), g, d, t + 1, os⟩) (E := fun _ _ => False)
    (wpAny_call_entry PySem.F.ks_slot_super_ga (hT _) PySem.F.ks_entry_super_ga (sup_ga hso hno hC hl X hf hxC hx hxc hi ⟨_, rfl, rfl, rfl⟩) (PySem.F.ks_gaArgs_super _ _)) (fun v s' hv => ?_) fun _ _ z => z.elim
  obtain ⟨rfl, rfl⟩ := hv
  exact wpAny_pure (wpAny_pure hq)
theorem mw_call {mw x : Addr} {nm q : Str} {C N : Addr} {bs : List Value} {hdct : Bool} {sn : List Str} {sub : List Value} {ab : Bool} {col : Option Bool} {dd : Option Addr} {k0 k1 k2 k3 k5 : Option Value} {oe : Obj} {vs0 : Array Value} {T : Addr} {v : Value} {Q : Value → Shared → Prop}
    (hC : h.get? C = some (excClassObj nm q C N bs excTail hdct sn sub ab col dd k0 k1 k2 k3 k5 "Exception.__new__")) (hmw : h.get? mw = some (mwObj x)) (hx : h.get? x = some oe) (hxc : oe.cls = .ref C) (hd : oe.data = .fields vs0) (h0 : vs0[0]? = some (.ref T))
    (hq : Q .none ⟨(h.push (tupOf [v])).update x (Obj.mapFields (·.setIfInBounds 0 (.ref h.objs.size))), g, d, t, os⟩) :
    wpAny (model prog w) A (call (.ref mw) [v]) Q E ⟨h, g, d, t, os⟩ := by
  have F := PySem.F.excBase_Exception
  refine wpAny_call (codeAny_of_tree ?_)
  show wpAny _ _ (callAny (.ref mw) _) _ _ _
  unfold callAny
  refine wpAny_bind (wpAny_load hmw ?_)
  show wpAny _ _ (checkBoundCall "Exception.__init__" ⟨[.ref x, v], []⟩ >>= fun _ => again (.builtin "Exception.__init__" ⟨[.ref x, v], []⟩)) _ _ _
  have hcb : ∀ (Q' : Unit → Shared → Prop) (E' : Value → Shared → Prop) (A' : Around), Q' () ⟨h, g, d, t, os⟩ → wpAny (model prog w) A' (checkBoundCall "Exception.__init__" ⟨[.ref x, v], []⟩) Q' E' ⟨h, g, d, t, os⟩ := fun Q' E' A' hq => by
    have hshort := F.noStar
    simp only [checkBoundCall, F.initKind, F.initSplit, F.initRow]
    repeat (first | (with_reducible refine wpAny_loadPart_at hx ?_; rw [hxc]) | with_reducible refine wpAny_loadPart_at hC ?_ | wp_step)
    exact hq
  refine wpAny_bind (hcb _ _ _ (wpAny_pure ⟨plainId_quiet F.init.plain _, codeAny_builtin F.initEntry ?_⟩))
  have hx1 := Heap.get?_push_of_some (tupOf [v]) hx
  unfold Builtin.«BaseException.__init__»
  show wpAny _ _ (newTuple [v] >>= fun tv => Builtin.BaseException.bexcPut (.ref x) 0 tv >>= fun _ => ret .none) _ _ _
  refine wpAny_bind (wpAny_newTuple ?_)
  unfold Builtin.BaseException.bexcPut
  refine wpAny_bind (wpAny_bind (wpAny_field hx1 hd h0 (wpAny_bind (wpAny_setField hx1 hd (Array.getElem?_eq_some_iff.mp h0).1 ?_))))
  repeat wp_step
  exact hq
end
end Mine
namespace Mine
open PySem PySem.W PyProof.Rows PySem.Calls PySem.Spec
variable {c : Cx} {S : Scope} {n : Nat} {σ σ' σ₁ σ₂ σ₃ σ₄ : St} {X Y Z : V} {e l r t test target iter fn : Expr} {es : List Expr} {Xs : List V} {pos tpos apos : Pos} {x : Str} {C g : Addr} {as : List (Str × D)} {args args' : List D} {i : Nat} {name : Str} {d : D}
theorem set_args {f : Fm} {ω : Om} {s : Shared} {a T : Addr} {ts : List Value} {k0 : Nat} {tk : Tok} (R : RelE c n f ω σ s) (hi : lk i σ.heap = some (.exc (.ref C) args (some as) none)) (ha : ω.ρ i = some a) (hT : fz c ω T (tupObj ts k0)) (hA : DRs c.hs (fz c ω) args' ts) :
    RelE c n f ω { σ with heap := setH i (.exc (.ref C) args' (some as) none) σ.heap } { s with heap := s.heap.update a (Obj.mapFields (·.setIfInBounds 0 (.ref T))), toks := tk } := by
  obtain ⟨m, Mc, Mh, FR, r⟩ := R
  obtain ⟨oe, vs, T0, ts0, k1, dx, es, k, M1, M2, e, q, I, g1, g2, g3, g4, g5, g6, g7, hset⟩ := exc_at r hi ha
  have eL : Mc ++ (Mh ++ (ω.Z ++ (FR ++ f.keep))) = (Mc ++ M1) ++ (a, oe) :: ([(dx, dictOf es k)] ++ (M2 ++ (ω.Z ++ (FR ++ f.keep)))) := by rw [e]; simp only [List.append_assoc, List.cons_append, List.nil_append]
  obtain ⟨o1, o2⟩ := off_pre (eL ▸ r.nd)
  have N := eL ▸ r.nw
  have hN := N (a, oe) (by simp)
  have hd := Obj.data_mapFields g3 (·.setIfInBounds 0 (Value.ref T))
  have hs := Heap.SameBut.update s.heap a (Obj.mapFields (·.setIfInBounds 0 (Value.ref T)))
  have ho := Heap.get?_update_self (Obj.mapFields (·.setIfInBounds 0 (Value.ref T))) hN.1 (Obj.isFreed_of_fields hd)
  have N' := N.setAt o1 o2 hs ho
  have hdict : (Obj.mapFields (·.setIfInBounds 0 (Value.ref T)) oe).dict = some dx := by
    obtain ⟨oc, od, dt, sl⟩ := oe; cases g3; exact g2
  have h0 : (vs.setIfInBounds 0 (Value.ref T))[0]? = some (.ref T) := by
    have := (Array.getElem?_eq_some_iff.mp g4).1
    simp [this]
  have h1 : (vs.setIfInBounds 0 (Value.ref T))[1]? = some .none := by rw [Array.getElem?_setIfInBounds_ne (by decide)]; exact g5.1
  have h2c : (vs.setIfInBounds 0 (Value.ref T))[2]? = some .none := by rw [Array.getElem?_setIfInBounds_ne (by decide)]; exact g5.2
  have hH := hset (.exc (.ref C) args' (some as) none) _ (exc_mk (md := [(dx, dictOf es k)]) (mt := []) (by rw [Obj.cls_mapFields]; exact g1) hd h0 hT hA (by rw [hdict]; exact ⟨_, _, rfl, q⟩) ⟨⟨h1, rfl⟩, h2c⟩)
  refine ⟨m, Mc, _, FR, r.swap (tk := tk) (a := a) (o := oe) (o' := Obj.mapFields (·.setIfInBounds 0 (Value.ref T)) oe) (pre := M1) (post := [(dx, dictOf es k)] ++ M2) (by rw [e]; simp only [List.append_assoc, List.cons_append, List.nil_append]) rfl (fr_off r.fr hs hN.2.1 hN.2.2) ?_ ?_⟩
  · have : Mc ++ ((M1 ++ (a, Obj.mapFields (·.setIfInBounds 0 (Value.ref T)) oe) :: ([(dx, dictOf es k)] ++ M2)) ++ (ω.Z ++ (FR ++ f.keep))) = (Mc ++ M1) ++ (a, Obj.mapFields (·.setIfInBounds 0 (Value.ref T)) oe) :: ([(dx, dictOf es k)] ++ (M2 ++ (ω.Z ++ (FR ++ f.keep)))) := by simp only [List.append_assoc, List.cons_append, List.nil_append]
    rw [this]; exact N'
  · simpa only [List.append_assoc, List.cons_append, List.nil_append, List.append_nil] using hH
structure SuperOk (c : Cx) (g cc cl C : Addr) (sn : Str) : Prop where
  fn : ∃ oc od fd osl ar, c.K.lookup g = some ⟨oc, od, .func fd, osl⟩ ∧ (fd.params.posonlyargs ++ fd.params.args).head? = some ar ∧ ar.arg = sn
  code : ∃ o1 o2 vs o3 file tf, c.K.lookup cc = some ⟨o1, o2, .fields vs, o3⟩ ∧ vs[2]? = some (.str file tf) ∧ ((c.prog.main.file : Str) == file) = true
  cell : ∃ o1 o2 o3, c.K.lookup cl = some ⟨o1, o2, .cell (some (.ref C)), o3⟩
  top : (c.prog.main.scope.names.lookup ("super" : Str)).isSome = false
  glob : GlobIs c "super" (.type "super")
  cls : ExcCls c.K C
  along : alongIn c.K "__init__" excTail = some (some (.builtin "Exception.__init__"))
  opq : nsIn c.K cStatics "thirdparty.any" = some none
theorem super_stmt {f : Fm} {ω : Om} {s : Shared} {Q : Flow → Shared → Prop} {E : Value → Shared → Prop} {cc cl : Addr} {sn mn : Str} {body : List Stmt} {p0 p1 ap mp cp ep : Pos} {v0 : D} (hC : CxOk c) (hk : SuperOk c g cc cl C sn) (F : FmOk c S n f) (hfu : f.env.func = some g) (hco : f.env.code = .ref cc) (hce : f.env.cells.lookup ("__class__" : Str) = some cl)
    (k1 : S.names.lookup ("super" : Str) = some .globalImplicit) (k2 : S.names.lookup ("__class__" : Str) = some .free) (k3 : S.names.lookup sn = some .local) (hm : Ev c S n (.Name mn mp) σ (.d v0) σ) (R : RelE c n f ω σ s) (hself : lk (key sn) σ.loc = some (.obj i)) (hi : lk i σ.heap = some (.exc (.ref C) args (some as) none))
    (he : ∀ env, ∃ pl, eval (.Call (.Attribute (.Call (.Name "super" p0) [] [] p1) "__init__" ap) [.Name mn mp] [] cp) env = (do
          let ov ← attributeBase (.Call (.Name "super" p0) [] [] p1) "__init__" env (eval (.Call (.Name "super" p0) [] [] p1) env)
          standAt ap.atName
          let __x ← holding [ov] (getMethod ov "__init__" pl)
          match __x with
            | (f, first) => callWith cp f first (backTo cp (starEach [.Name mn mp] env)) []))
    (h : ∀ ω' s', Ext (n + 1) ω ω' → RelE c n f ω' { σ with heap := setH i (.exc (.ref C) [v0] (some as) none) σ.heap } s' → Q .next s') :
    _root_.PySem.wpAt (model c.prog c.w) f.A (.func body f.env) (exec (.Expr (.Call (.Attribute (.Call (.Name "super" p0) [] [] p1) "__init__" ap) [.Name mn mp] [] cp) ep) f.env) Q E s := by
  have hkm : f.env.scope.kind = .function := by rw [F.scope]; exact F.kind
  have kk : ∀ y, f.env.kindOf y = S.names.lookup y := fun y => by unfold Env.kindOf; rw [F.scope]
  obtain ⟨oc, od, fd, osl, ar, hg, hp, rfl⟩ := hk.fn
  obtain ⟨o1, o2, vs, o3, file, tf, hcc, hvs, hfile⟩ := hk.code
  obtain ⟨b1, b2, b3, hcl⟩ := hk.cell
  obtain ⟨nm, q, N, bs, hdct, sn', sub, ab, col, dd, c0, c1, c2, c3, c5, hkC⟩ := hk.cls
  have X := hC.kin.keeps R.keep
  have hCo := X _ _ hkC
  obtain ⟨m, Mc, Mh, FR, r⟩ := id R
  have hin : ∃ a, ω.ρ i = some a := by
    obtain ⟨M1, m1, M2, a', e, h1, _⟩ := r.heap.split hi
    exact ⟨a', h1⟩
  obtain ⟨a, ha⟩ := hin
  obtain ⟨oe, vs0, T0, ts0, k10, dx, es, k, M1, M2, eM, q1, I, g1, g2, g3, g4, g5, g6, g7, _⟩ := exc_at r hi ha
  have hx := I.at_
  have hxC : a ≠ C := fun q => by
    rw [q] at hx
    have hCo' : s.heap.get? C = some _ := hCo
    rw [hCo'] at hx
    cases hx; cases g3
  have hs1 : ∃ v, m ar.arg = some v ∧ v = .ref a ∧ i < (n + 1) * 1000 := by
    have z := r.locs ar.arg (.obj i) (by rw [kk, k3]; rfl) hself
    cases z with
    | loc _ b d => cases d with | obj h0 hb => exact ⟨_, b, by rw [ha] at hb; cases hb; rfl, h0⟩
    | cell p1 => rw [kk, k3] at p1; cases p1
    | free p1 => rw [kk, k3] at p1; cases p1
  obtain ⟨_, hmv, rfl, hi0⟩ := hs1
  obtain ⟨hp0, gg, dr, tk, os⟩ := s
  obtain ⟨pl, he⟩ := he f.env
  refine ks_wpAt_Expr_any (ks_wpAt_MethodCall (pl := pl) (he := he) (ks_wpAt_super_base (by rw [kk]; exact k1) (by rw [kk]; exact k2) (by decide +kernel) hfu (X _ _ hg) rfl hp hco (X _ _ hcc) rfl hvs hfile hk.top ?_)) (by unfold interactive; rw [F.scope, F.kind]; rfl) (swaps_no rfl)
  have hgl : hp0.Ns f.env.globals c.mg := by rw [F.globals]; exact hC.g.keeps R.keep
  have hbl : hp0.Ns f.env.builtins c.mb := by rw [F.builtins]; exact hC.b.keeps R.keep
  have ld : ∀ (Q' : Value → Shared → Prop), Q' (.type "super") ⟨hp0, gg, dr, tk, os⟩ → wpAny (model c.prog c.w) f.A (loadGlobal f.env "super") Q' E ⟨hp0, gg, dr, tk, os⟩ := fun Q' hq => by
    rcases hk.glob with hg1 | ⟨hg1, hg2⟩
    · exact loadGlobal_global hgl hg1 hq
    · exact loadGlobal_builtin hgl hg1 hbl hg2 hq
  refine ks_loadName_global hkm (by rw [kk]; exact k1) (ld _ ⟨rfl, ?_⟩)
  refine wpAny_loadName_free hkm (by rw [kk]; exact k2) hce ⟨_, X _ _ hcl, rfl⟩ ?_
  refine wpAny_loadName_local hkm (by rw [kk]; exact k3) r.fr.ns hmv ?_
  refine ks_wpAny_isType_cls hCo rfl ⟨rfl, ?_⟩
  obtain ⟨cd, hcd, hcm⟩ : ∃ cd, clsIn c.K C = some cd ∧ cd.mro = .ref C :: excTail := ⟨_, by unfold clsIn; rw [hkC], rfl⟩
  have sub1 : ∀ {h : Heap} {b : Value}, c.K.In h → (Value.ref C :: excTail).contains b = true → Looks (model c.prog c.w) h (isSubtype (.ref C) b) true := fun X hb => looks_mroIn X (by unfold mroIn; rw [hcd, Option.bind_some, hcm, if_neg (by simp), hb])
  refine ks_wpAny_call_super hCo rfl hx g1 (by rw [g3]; intro cd h; cases h) (sub1 X (by simp)) (fun h1 e1 kp1 => ?_)
  have R1 : RelE c n f ω σ ⟨h1, gg, dr, tk, os⟩ := R.slots (Fs := []) (h' := h1) (tk := tk) (fun _ h => nomatch h) (fun b o _ q => kp1 b o q) (fun _ _ h => nomatch h)
  have X1 := hC.kin.keeps R1.keep
  have hm1 : Looks (model c.prog c.w) h1 (mroOf (.ref C)) (.ref C :: excTail) := hcm ▸ (looks_clsIn X1 hcd).andThen .now
  refine sup_getm e1 (looks_opaque X1 hk.opq) hm1 (by simp) X1 hk.along hxC (kp1 _ _ hx) g1 (sub1 X1 (by simp)) ?_
  have R2 := RelE.push (o := mwObj a) (k := tk + 1) rfl R1
  have hmw : fz c { ω with Z := (h1.objs.size, mwObj a) :: ω.Z } h1.objs.size (mwObj a) := .inl (.head _)
  refine callWith_of (P := fun h => h.get? h1.objs.size = some (mwObj a)) (by rfl) (fun h hh => ⟨.machine, .inr (.inl rfl), (Looks.ld (part := none) hh).andThen .now⟩) ?_
  refine evalArgs_plain ?_
  refine (evs_cons (X := .d v0) hm evs_nil) cp f F _ _ _ _ R2 fun ω3 us s3 e3 R3 V3 => ?_
  have hv : ∃ v, us = [v] ∧ DR c.hs (fz c ω3) v0 v := by
    cases V3 with
    | cons a b =>
      cases b
      cases a with | d a => exact ⟨_, rfl, a⟩
  obtain ⟨v, rfl, D3⟩ := hv
  have hmw3 := R3.fz (e3.fz _ _ hmw)
  refine ⟨hmw3, ?_⟩
  have ha3 : ω3.ρ i = some a := (e3.ρ i hi0).trans ha
  obtain ⟨m3, Mc3, Mh3, FR3, r3⟩ := id R3
  obtain ⟨oe3, vs3, T3, ts3, k3', dx3, es3, k3'', M3, M4, _, _, I3, q1, q2, q3, q4, _⟩ := exc_at r3 hi ha3
  have X3 := hC.kin.keeps R3.keep
  obtain ⟨h3, g3', d3', t3', o3'⟩ := s3
  refine mw_call (X3 _ _ hkC) hmw3 I3.at_ q1 q3 q4 ?_
  have R4 := RelE.push (o := tupOf [v]) (k := t3') rfl R3
  have R5 := set_args (T := h3.objs.size) (ts := [v]) (k0 := 0) (tk := t3') (args' := [v0]) R4 hi ha3 (.inl (.head _)) (.cons (D3.mono (Ext.frz n ω3 [(h3.objs.size, tupOf [v])]).fz) .nil)
  exact h _ _ (((Ext.frz (n + 1) ω [(h1.objs.size, mwObj a)]).trans e3).trans (Ext.frz (n + 1) ω3 [(h3.objs.size, tupOf [v])])) R5
end Mine
namespace Mine
open PySem PySem.W PyProof.Rows PySem.Calls PySem.Spec
section
variable {prog : Program} {w : World} {A : Around} {E : Value → Shared → Prop} {s : Shared} {K : Frag} {x C : Addr} {ox : Obj} {name : Str}
noncomputable abbrev putD0 (w : World) (name : Str) (tk : Tok) (v : Value) : Obj := dictOf (putL name (PyData.keyHash w.params name) (.str name tk) v []) (putN name [] 0)
open PySem.Builtin PySem.Builtin.ObjectAttr in
theorem set_exc0 {v : Value} {Q : Unit → Shared → Prop} (X : K.In s.heap) (I : InstAt s.heap x ox C none) (hdn : ox.dict = none) (hdt : ∃ vs, ox.data = .fields vs) (hk : ExcSet K C) (ht : takerIn K C name = some none)
    (h : ∀ h' d, (∀ b o, b ≠ x → s.heap.get? b = some o → h'.get? b = some o) → h'.get? x = some { ox with dict := some d } → s.heap.get? d = none → d ≠ x → h'.get? d = some (putD0 w name (s.toks + 1) v) → Q () { s with heap := h', toks := s.toks + 2 }) :
    wpAny (model prog w) A (setAttr (.ref x) name v) Q E s := by
  refine set_plain X I hk.set ?_
  have SF := PySem.F.store_Exception
  obtain ⟨cd, hc, hm, hd'⟩ := hk.cls
  have sub : Looks (model prog w) s.heap (isInstance (.ref x) (.type "object")) true := I.type.andThen (looks_mroIn X (by unfold mroIn; rw [hc, Option.bind_some, hm]; rfl))
  have hmr : Looks (model prog w) s.heap (mroOf (.ref C)) cd.mro := (looks_clsIn X hc).andThen .now
  obtain ⟨attr, ha, hr⟩ := Option.bind_eq_some_iff.mp ht
  have L3 : Looks (model prog w) s.heap (storeTaker? attr) none := by
    cases attr with
    | none => exact .now
    | some a =>
      obtain ⟨b, hb, hb2⟩ := Option.map_eq_some_iff.mp hr
      cases b with
      | true => cases hb2
      | false => exact (looks_takesIn X hb).andThen .now
  refine codeAny_call_builtin SF.slot.plain SF.entry (@check_slot (model prog w) _ _ { s with toks := s.toks + 1 } "object.__setattr__" "object" "__setattr__" (.ref x) [.str name s.toks, v] [] _ SF.kind SF.split sub (SF.args (.ref x) (.str name s.toks) v) ?_)
  rw [osa_eq, refuse_eq]
  refine wpAny_bind (wpAny_bind (Looks.here (s := { s with toks := s.toks + 1 }) I.type (wpAny_bind (Looks.here (s := { s with toks := s.toks + 1 }) hmr ?_))))
  rw [hm, refuseLoop_ref, SF.passes]
  refine wpAny_pure (wpAny_bind (Looks.here (s := { s with toks := s.toks + 1 }) I.type (wpAny_bind (Looks.here (s := { s with toks := s.toks + 1 }) (looks_findIn X ha) (wpAny_bind (Looks.here (s := { s with toks := s.toks + 1 }) L3 ?_))))))
  obtain ⟨hx, hcl, hn, -⟩ := I
  obtain ⟨vs, hdt⟩ := hdt
  obtain ⟨oc, odi, oda, osl⟩ := ox
  dsimp only at hcl hdn hdt
  subst hcl hdn hdt
  refine wpAny_bind (wpAny_pure (wpAny_bind (wpAny_bind (wpAny_loadPart hx (wpAny_bind (Looks.here (s := { s with toks := s.toks + 1 }) (looks_clsIn X hc) ?_))))))
  rw [hd']
  have hx1 := Heap.get?_push_of_some emptyDict hx
  have hxs : x ≠ s.heap.objs.size := Nat.ne_of_lt (Heap.lt_size hx)
  refine wpAny_bind (wpAny_alloc ?_)
  refine wpAny_bind (wpAny_update hx1 ?_)
  have hx2 := Heap.get?_update_self (fun o => { o with dict := some s.heap.objs.size }) hx1 rfl
  have hd2 : ((s.heap.push emptyDict).update x (fun o => { o with dict := some s.heap.objs.size })).get? s.heap.objs.size = some emptyDict := (Heap.get?_update_other _ _ hxs).trans (Heap.get?_push_size s.heap rfl)
  refine wpAny_pure (a := some s.heap.objs.size) (wpAny_bind (wpAny_pure (wpAny_bind ?_)))
  unfold nsSet
  refine wpAny_bind (wpAny_bind (wpAny_askSetting (wpAny_pure (wpAny_bind (wpAny_mkText (wpAny_bind (wpAny_loadPart hd2 ?_)))))))
  show wpAny _ _ (if (aRefKeyMayBeTheName name #[]) = true then _ else _) _ _ _
  rw [if_neg (by rw [aRefKeyMayBeTheName_at]; simp)]
  refine wpAny_updatePart hd2 ?_
  have e3 : Obj.putName name (PyData.keyHash w.params name) (.str name (s.toks + 1)) v emptyDict = putD0 w name (s.toks + 1) v := putName_dict _ _ _ _ [] 0
  have hd3 := Heap.get?_update_self (Obj.putName name (PyData.keyHash w.params name) (.str name (s.toks + 1)) v) hd2 (by rw [e3]; rfl)
  rw [e3] at hd3
  have hlen : (putL name (PyData.keyHash w.params name) (.str name (s.toks + 1)) v ([] : List DictEntry)).length ≤ 1 := len_putL
  refine wpAny_bind (wpAny_lookBehind hd3 (pastItsLine_dict (by rw [List.size_toArray, sizeLine_eq]; lia)) ?_)
  refine wpAny_pure (h _ _ (fun b o hb q => ?_) ((Heap.get?_update_other _ _ hxs.symm).trans hx2) (Heap.get?_none_of_le (Nat.le_refl _)) hxs.symm hd3)
  rw [Heap.get?_update_other _ _ (Nat.ne_of_gt (Heap.lt_size q)), Heap.get?_update_other _ _ (Ne.symm hb)]
  exact Heap.get?_push_of_some _ q
end
variable {c : Cx} {S : Scope} {n : Nat} {σ σ' σ₁ σ₂ σ₃ σ₄ : St} {X Y Z : V} {e l r t test target iter fn : Expr} {es : List Expr} {Xs : List V} {pos tpos apos : Pos} {x : Str} {C : Addr} {args : List D} {i : Nat} {name : Str} {d : D}
theorem ex_setattr_exc0 {o : Expr} {H : List (Nat × HO)} {loc : List (Nat × V)} (hC : CxOk c) (hk : ExcSet c.K C) (ht : takerIn c.K C name = some none) (h1 : Ev c S n e σ (.d d) σ₁) (h2 : Ev c S n o σ₁ (.obj i) ⟨loc, (i, .exc (.ref C) args none none) :: H⟩) (hn : noComp e = true := by rfl) :
    Ex c S n (.Assign [.Attribute o name tpos] e pos) σ .next ⟨loc, (i, .exc (.ref C) args (some [(name, d)]) none) :: H⟩ := fun f F ω s Q E R h =>
  plainObj_wpAny_Assign_Attribute (h1 f F ω s _ _ R fun ω₁ v s₁ e₁ R₁ A₁ => h2 f F ω₁ s₁ _ _ R₁ fun ω₂ u s₂ e₂ R₂ A₂ => by
    have A₁' := A₁.ext e₂
    cases A₁' with
    | d A₁' =>
      cases A₂ with
      | @obj _ a hb ha =>
        obtain ⟨m, Mc, Mh, FR, r⟩ := R₂
        obtain ⟨a', m0, M, q1, q2, r0, q3, q4, q5⟩ := r.offH
        obtain rfl : a' = a := Option.some.inj (q1.symm.trans ha)
        obtain ⟨oe, vs, T, ts, k0, md, mt, rfl, g1, g2, g3, g4, g5, g6, g7⟩ := exc_inv q2
        cases q : oe.dict with
        | some dx => rw [q] at g6; exact g6.elim
        | none =>
          rw [q] at g6
          obtain rfl : md = [] := g6
          obtain ⟨⟨g8, rfl⟩, g9⟩ := g7
          have X := hC.kin.keeps r.fr.keep
          refine set_exc0 X ⟨(q3 _ (.head _)).1, g1, by unfold notCls; rw [g2], by rw [q]; trivial⟩ q ⟨vs, g2⟩ hk ht fun h' dx k1 k2 k3 k4 k5 => ?_
          have hdr : DRd c.hs (fz c ω₂) [(name, d)] (putL name (PyData.keyHash c.w.params name) (.str name (s₂.toks + 1)) v []) := DRd.putL (κ := c.hs) (.nil) name (s₂.toks + 1) A₁'
          refine h ω₂ .next _ (e₁.down.trans e₂.down) (turnX (Fs := []) (i := i) (tk := s₂.toks + 2) (σ := ⟨loc, H⟩) (m1 := [(a', { oe with dict := some dx }), (dx, putD0 c.w name (s₂.toks + 1) v)]) r0 q3 q5 (fun _ h => nomatch h) (fun b o _ h2 h3 => k1 b o (fun q => h2 (by simp [q])) h3) (fun _ _ h => nomatch h) q1 (exc_mk (md := [(dx, _)]) (mt := []) g1 g2 g3 g4 g5 ⟨_, _, rfl, hdr⟩ ⟨⟨g8, rfl⟩, g9⟩) (fun p hp => ?_) (fun p hp => ?_) (by simp; exact fun e => k4 e.symm)) .next
          · simp only [List.mem_cons, List.not_mem_nil, or_false] at hp
            rcases hp with rfl | rfl
            · exact k2
            · exact k5
          · simp only [List.mem_cons, List.not_mem_nil, or_false] at hp
            rcases hp with rfl | rfl
            · exact .inl (.head _)
            · exact .inr k3) (swaps_no hn)
end Mine
namespace Mine
open PySem PySem.W PyProof.Rows PySem.Calls PySem.Spec
open PySem.Builtin.Str (Writer tooLong)
noncomputable abbrev FSt := List Value × Writer × List Nat
structure FBody (prog : Program) (w : World) (A : Around) (E : Value → Shared → Prop) (fl : Nat) (fo : Value) (g : Nat → FSt → Sem (ForInStep FSt)) : Prop where
  stop : ∀ {k : Nat} {s : Shared} {p : List Value} {wr : Writer} {K : ForInStep FSt → Shared → Prop}, ¬ tooLong wr.total = true → K (.done (p, wr, [])) s → wpAny (model prog w) A (g k (p, wr, [])) K E s
  lit : ∀ {k : Nat} {s : Shared} {p : List Value} {wr : Writer} {K : ForInStep FSt → Shared → Prop} {a : Nat} {r l t : List Nat}, ¬ tooLong wr.total = true → (a :: r).span (· != 37) = (a :: l, t) → K (.yield (p, wr.add ⟨(a :: l).toArray⟩ (if ((a :: l).length == fl) = true then some fo else none), t)) s → wpAny (model prog w) A (g k (p, wr, a :: r)) K E s
  str : ∀ {k : Nat} {s : Shared} {p : List Value} {wr : Writer} {K : ForInStep FSt → Shared → Prop} {x : Str} {u : Tok} {r : List Nat}, ¬ tooLong wr.total = true → K (.yield (p, wr.add ⟨x.cps.toList.toArray⟩ (if r.isEmpty = true then some (.str x u) else none), r)) s → wpAny (model prog w) A (g k (.str x u :: p, wr, 37 :: 115 :: r)) K E s
  int : ∀ {k : Nat} {s : Shared} {p : List Value} {wr : Writer} {K : ForInStep FSt → Shared → Prop} {i : Int} {u : Tok} {r : List Nat}, ¬ tooLong wr.total = true → 0 ≤ i → i < 10 ^ 10 → (∀ o tk, o = none → K (.yield (p, wr.add ⟨(PySem.Str.ofString (toString i)).cps.toList.toArray⟩ o, r)) { s with toks := tk }) → wpAny (model prog w) A (g k (.int i u :: p, wr, 37 :: 100 :: r)) K E s
theorem int_piece {K : ForInStep FSt → Shared → Prop} {s : Shared} {p : List Value} {wr : Writer} {r d : List Nat} {i : Int} {o : Option Value} {c : Builtin.Str.Percent} (h1 : c.alt = false) (h2 : c.type = 100 ∨ c.type = 105 ∨ c.type = 117) (h3 : c.prec = none) (hn : 0 ≤ i)
    (hd : d = (PySem.Str.ofString (toString ((i.natAbs : Nat) : Int))).cps.toList) (ho : o = none) (h : ∀ o tk, o = none → K (.yield (p, wr.add ⟨(PySem.Str.ofString (toString i)).cps.toList.toArray⟩ o, r)) { s with toks := tk }) {tk : Tok} : K (.yield (p, wr.add ⟨(Builtin.Str.percentInt c (decide (i < 0)) d).toArray⟩ o, r)) { s with toks := tk } := by
  have en : ((i.natAbs : Nat) : Int) = i := Int.natAbs_of_nonneg hn
  rw [KPc.int_text c h1 h2 h3 hn, hd, en]
  exact h o tk ho
set_option maxHeartbeats 4000000 in
theorem fmt_run {prog : Program} {w : World} {A : Around} {E : Value → Shared → Prop} {s : Shared} {Q : Fin → Shared → Prop} {F : Str} {t : Tok} {b : Addr} {ps : List Value} (hk : IsTup s.heap b ps.toArray)
    (h : ∀ g : Nat → FSt → Sem (ForInStep FSt), FBody prog w A E F.length (.str F t) g → wpAny (model prog w) A (forIn (List.range' 0 F.length 1) ((ps, ({} : Writer), F.cps.toList) : FSt) g) (fun st s' => st.1 = [] ∧ wpAny (model prog w) A (st.2.1.finish "str.__mod__") Q E s') E s) : wpAny (model prog w) A (Builtin.«str.__mod__» ⟨[.str F t, .ref b], []⟩) Q E s := by
  obtain ⟨kptO, kptG, kptC, kptN, kptD⟩ := hk
  rw [KPt.entry_is_r]
  unfold Builtin.Str.percentFormat
  refine wpAny_bind (wpAny_isInstance (T := "tuple") ⟨kptO, kptG, kptC⟩ KPt.sub_tt ?_)
  refine wpAny_bind (KPt.asStr_ref kptG kptD ?_)
  refine wpAny_bind (KPt.fills_ref ⟨kptO, kptG, kptC⟩ ?_)
  intro _
  kpc_if
  refine wpAny_bind (wpAny_seqItems kptG kptD ?_)
  refine wpAny_bind (wpAny_pure ?_)
  refine wpAny_bind ?_
  rw [KPc.range_list]
  refine wpAny_mono (h _ ⟨?stop, ?lit, ?str, ?int⟩) (fun st s' hs => ?fin) (fun _ _ h => h)
  case fin =>
    obtain ⟨p, wr, r⟩ := st
    obtain ⟨h1, h2⟩ := hs
    dsimp only at h1 h2 ⊢
    subst h1
    kpc_if
    exact h2
  case stop =>
    intro k s p wr K q h
    refine wpAny_ite (KPc.ite_no q ?_)
    kpc_if
    exact wpAny_pure h
  case lit =>
    intro k s p wr K a r l t q e h
    refine wpAny_ite (KPc.ite_no q ?_)
    kpc_if
    generalize hsp : List.span (fun x => x != 37) (a :: r) = sp
    obtain rfl : sp = (a :: l, t) := hsp.symm.trans e
    kpc_if
    exact wpAny_pure h
  case str =>
    intro k s p wr K x u r q h
    refine wpAny_ite (KPc.ite_no q ?_)
    repeat kpc_if
    refine wpAny_bind ?_
    refine wpAny_holding ?_
    repeat kpc_if
    refine wpAny_bind ?_
    kpc_if
    refine wpAny_of_eq (KPc.strOf_str _ _) ?_
    refine wpAny_bind (wpAny_of_eq (a := some _) rfl ?_)
    refine wpAny_pure ?_
    refine wpAny_pure ?_
    exact h
  case int =>
    intro k s p wr K i u r q h0 h1 h
    refine wpAny_ite (KPc.ite_no q ?_)
    repeat kpc_if
    refine wpAny_bind ?_
    refine wpAny_holding ?_
    repeat kpc_if
    have hd : i.natAbs.log2 < 1920 := by kpt_hd
    refine wpAny_bind (wpAny_of_eq (a := i) rfl ?_)
    repeat kpc_if
    refine wpAny_bind (wpAny_mkInt ?_)
    refine wpAny_bind (call_gives PySem.F.slot_int_repr (typeIs_int _ _ _) PySem.F.entry_int_repr (PySem.F.args_int_repr_1 _) (gives_int_repr _ _ (KPt.hd2 hd)) ⟨int_text_fits (KPt.hd2 hd), ?_⟩)
    refine wpAny_bind (wpAny_of_eq (a := some _) rfl ?_)
    refine wpAny_pure ?_
    refine wpAny_pure ?_
    exact int_piece rfl (.inl rfl) rfl h0 rfl (ite_self _) h
inductive Fmt (fl : Nat) : List Nat → List Value → Str → Nat → Prop
  | nil : Fmt fl [] [] PySem.Str.empty 0
  | lit {a : Nat} {l r : List Nat} {ps : List Value} {T : Str} {n : Nat} : (a :: (l ++ r)).span (· != 37) = (a :: l, r) → ((a :: l).length == fl) = false → Fmt fl r ps T n → Fmt fl (a :: (l ++ r)) ps ((⟨(a :: l).toArray⟩ : Str) ++ T) (l.length + 1 + n)
  | str {x : Str} {u : Tok} {r : List Nat} {ps : List Value} {T : Str} {n K : Nat} : x.length ≤ K → Fmt fl r ps T n → Fmt fl (37 :: 115 :: r) (.str x u :: ps) (x ++ T) (K + n)
  | int {i : Int} {u : Tok} {r : List Nat} {ps : List Value} {T : Str} {n : Nat} : 0 ≤ i → i < 10 ^ 10 → Fmt fl r ps T n → Fmt fl (37 :: 100 :: r) (.int i u :: ps) (PySem.Str.ofString (toString i) ++ T) (10 + n)
theorem s_ext {a b : Str} (h : a.cps.toList = b.cps.toList) : a = b := by
  cases a; cases b; congr 1; exact Array.ext' h
theorem cps_app (a b : Str) : (a ++ b).cps.toList = a.cps.toList ++ b.cps.toList := Array.toList_append
theorem app_assoc {a b d : Str} : a ++ (b ++ d) = (a ++ b) ++ d := s_ext (by rw [cps_app, cps_app, cps_app, cps_app, List.append_assoc])
theorem app_emp {a : Str} : a ++ PySem.Str.empty = a := s_ext (by rw [cps_app, show PySem.Str.empty.cps.toList = [] from rfl, List.append_nil])
theorem good_txt {wr : Writer} {T0 x : Str} {N K : Nat} {o : Option Value} (gd : KPc.Good wr T0 N) (hx : x.length ≤ K) (ho : KPc.Obj o x) : KPc.Good (wr.add ⟨x.cps.toList.toArray⟩ o) (T0 ++ x) (N + K) := by
  rw [show (⟨x.cps.toList.toArray⟩ : Str) = x from congrArg PySem.Str.mk (Array.toArray_toList ..)]
  exact KPc.good_mono (KPc.good_add gd ho) (Nat.add_le_add_left hx _)
section
variable {prog : Program} {w : World} {A : Around} {E : Value → Shared → Prop} {fo : Value} {fl : Nat} {g : Nat → FSt → Sem (ForInStep FSt)} {Q : FSt → Shared → Prop}
theorem fmt_loop (B : FBody prog w A E fl fo g) {f : List Nat} {ps : List Value} {T : Str} {n : Nat} (hf : Fmt fl f ps T n) : ∀ {s : Shared} {wr : Writer} {T0 : Str} {N : Nat} {L : List Nat}, KPc.Good wr T0 N → N + n ≤ 16777216 → f.length ≤ L.length →
    (∀ wr' tk, KPc.Good wr' (T0 ++ T) (N + n) → Q ([], wr', []) { s with toks := tk }) → wpAny (model prog w) A (forIn L ((ps, wr, f) : FSt) g) Q E s := by
  induction hf with
  | nil =>
    intro s wr T0 N L gd hN hL h
    have q : Q ([], wr, []) s := h wr s.toks (by rw [app_emp]; exact gd)
    cases L with
    | nil => exact wpAny_pure q
    | cons k L => exact KPc.turn (B.stop (KPc.short_good gd hN) q)
  | @lit a l r ps T n e hl hf ih =>
    intro s wr T0 N L gd hN hL h
    cases L with
    | nil => exact absurd hL (Nat.not_succ_le_zero _)
    | cons k L =>
      refine KPc.turn (B.lit (KPc.short_good gd (by lia)) e (ih (KPc.good_add gd (KPc.obj_none (if_neg (by rw [hl]; exact Bool.false_ne_true)))) ?_ ?_ fun wr' tk gd' => h wr' tk ?_))
      · show N + (l.length + 1) + n ≤ _; lia
      · rw [List.length_cons, List.length_append, List.length_cons (as := L)] at hL; lia
      · rw [← app_assoc] at gd'
        rw [show N + (l.length + 1 + n) = N + (l.length + 1) + n by lia]
        exact gd'
  | @str x u r ps T n K hx hf ih =>
    intro s wr T0 N L gd hN hL h
    cases L with
    | nil => exact absurd hL (Nat.not_succ_le_zero _)
    | cons k L =>
      refine KPc.turn (B.str (KPc.short_good gd (by lia)) (ih (T0 := T0 ++ x) (N := N + K) ?_ ?_ ?_ fun wr' tk gd' => h wr' tk ?_))
      · refine good_txt gd hx ?_
        cases r with
        | nil => exact KPc.obj_some rfl
        | cons _ _ => exact KPc.obj_none rfl
      · lia
      · rw [List.length_cons, List.length_cons, List.length_cons (as := L)] at hL; lia
      · rw [← app_assoc, Nat.add_assoc] at gd'
        exact gd'
  | @int i u r ps T n h0 h1 hf ih =>
    intro s wr T0 N L gd hN hL h
    cases L with
    | nil => exact absurd hL (Nat.not_succ_le_zero _)
    | cons k L =>
      refine KPc.turn (B.int (KPc.short_good gd (by lia)) h0 h1 fun o tk ho => ih (T0 := T0 ++ PySem.Str.ofString (toString i)) (N := N + 10) ?_ ?_ ?_ fun wr' tk gd' => h wr' tk ?_)
      · exact good_txt gd (toString_length_le h0 (by decide) h1) (KPc.obj_none ho)
      · lia
      · rw [List.length_cons, List.length_cons, List.length_cons (as := L)] at hL; lia
      · rw [← app_assoc, Nat.add_assoc] at gd'
        exact gd'
theorem fmt_meets {F : Str} {t : Tok} {b : Addr} {ps : List Value} {T T' : Str} {n : Nat} (hf : Fmt F.length F.cps.toList ps T n) (hn : n ≤ 16777216) (hT : T = T') :
    Meets (Builtin.«str.__mod__» ⟨[.str F t, .ref b], []⟩) (fun _ R s => IsTup s.heap b ps.toArray ∧ ∀ t' k, R (.ok (.ret (.str T' t'))) { s with toks := k }) := by
  apply KPt.meets_tup
  intro prog w A s Q E hk h
  refine fmt_run hk fun g B => ?_
  refine fmt_loop B hf KPc.good0 (by lia) ?_ fun wr' tk gd => ⟨rfl, ?_⟩
  · rw [List.length_range']; exact Nat.le_of_eq (Array.length_toList)
  · rw [show PySem.Str.empty ++ T = T from KPc.empty_app T, Nat.zero_add] at gd
    exact KPc.finish_ok gd hn hT fun t' k => h t' k
end
end Mine
namespace Mine
open PySem PySem.W PyProof.Rows PySem.Calls PySem.Spec
section
variable {prog : Program} {w : World} {A : Around} {E : Value → Shared → Prop} {s : Shared} {X T : PySem.Str} {t : Tok} {Q : Value → Shared → Prop} {b : Addr} {its : Array Value}
theorem mod_tup (ht : IsTup s.heap b its) (hm : Meets (Builtin.«str.__mod__» ⟨[.str X t, .ref b], []⟩) (fun _ R s => IsTup s.heap b its ∧ ∀ t' k, R (.ok (.ret (.str T t'))) { s with toks := k }))
    (h : ∀ t' k, Q (.str T t') { s with toks := k }) : wpAny (model prog w) A (binaryOp .Mod (.str X t) (.ref b)) Q E s := by
  have hT : s.TypeIs (.ref b) "tuple" := by
    obtain ⟨o, ho, hc, _⟩ := ht
    exact ⟨o, ho, hc⟩
  exact KPt.bin_left (T := "str") (U := "tuple") (op := .Mod) (by decide) (typeIs_str s X t) hT PySem.F.fills_str_mod KPt.fills_tuple PySem.F.slot_str_mod
    (call_meets PySem.F.slot_str_mod (typeIs_str s X t) PySem.F.entry_str_mod (PySem.F.args_str_mod_2 _ _) hm ⟨ht, fun t' k => ⟨(fun e => nomatch e), h t' k⟩⟩)
theorem meets_pos {m : PySem.Str} {p : Int} {u v : Tok} (hm : m.length ≤ 100000) (h0 : 0 ≤ p) (h1 : p < 10 ^ 10) :
    Meets (Builtin.«str.__mod__» ⟨[.str ⟨#[37, 115, 32, 97, 116, 32, 112, 111, 115, 105, 116, 105, 111, 110, 32, 37, 100]⟩ t, .ref b], []⟩) (fun _ R s => IsTup s.heap b #[.str m u, .int p v] ∧ ∀ t' k, R (.ok (.ret (.str (m ++ (" at position " : Str) ++ PySem.Str.ofString (toString p)) t'))) { s with toks := k }) :=
  fmt_meets (ps := [.str m u, .int p v]) (.str hm (.lit (a := 32) (l := [97, 116, 32, 112, 111, 115, 105, 116, 105, 111, 110, 32]) (r := [37, 100]) rfl rfl (.int h0 h1 .nil))) (by decide) (by rw [app_emp, app_assoc]; rfl)
theorem meets_line {m : PySem.Str} {p q : Int} {u v z : Tok} (hm : m.length ≤ 100000) (h0 : 0 ≤ p) (h1 : p < 10 ^ 10) (g0 : 0 ≤ q) (g1 : q < 10 ^ 10) :
    Meets (Builtin.«str.__mod__» ⟨[.str ⟨#[37, 115, 32, 40, 108, 105, 110, 101, 32, 37, 100, 44, 32, 99, 111, 108, 117, 109, 110, 32, 37, 100, 41]⟩ t, .ref b], []⟩) (fun _ R s => IsTup s.heap b #[.str m u, .int p v, .int q z] ∧ ∀ t' k, R (.ok (.ret (.str (m ++ (" (line " : Str) ++ PySem.Str.ofString (toString p) ++ (", column " : Str) ++ PySem.Str.ofString (toString q) ++ (")" : Str)) t'))) { s with toks := k }) :=
  fmt_meets (ps := [.str m u, .int p v, .int q z]) (.str hm (.lit (a := 32) (l := [40, 108, 105, 110, 101, 32]) (r := [37, 100, 44, 32, 99, 111, 108, 117, 109, 110, 32, 37, 100, 41]) rfl rfl (.int h0 h1 (.lit (a := 44) (l := [32, 99, 111, 108, 117, 109, 110, 32]) (r := [37, 100, 41]) rfl rfl (.int g0 g1 (.lit (a := 41) (l := []) (r := []) rfl rfl .nil)))))) (by decide) (by rw [app_emp, app_assoc, app_assoc, app_assoc, app_assoc]; rfl)
end
variable {c : Cx} {S : Scope} {n : Nat} {σ σ' σ₁ : St} {X Y Z : V}
theorem is_tup {ω : Om} {f : Fm} {s : Shared} {l : List D} {v : Value} (R : RelE c n f ω σ s) (A : DR c.hs (fz c ω) (.tup l) v) : ∃ b vs, v = .ref b ∧ IsTup s.heap b vs.toArray ∧ DRs c.hs (fz c ω) l vs := by
  cases A with | tup h1 h2 h3 h4 =>
    exact ⟨_, _, rfl, ⟨_, R.fz h1, h2, _, h3⟩, h4⟩
theorem op_mod_pos {m : Str} {p : Int} (hm : m.length ≤ 100000) (h0 : 0 ≤ p) (h1 : p < 10 ^ 10) : Op2 c n (binaryOp .Mod) (.d (.str "%s at position %d")) (.d (.tup [.str m, .int p])) σ (.d (.str (m ++ (" at position " : Str) ++ PySem.Str.ofString (toString p)))) σ := fun S f F ω s Q E x y R A B h => by
  obtain ⟨b, vs, rfl, ht, hv⟩ := is_tup R B.toD
  cases A.toD with | str _ t =>
    cases hv with | cons a hv => cases hv with | cons b' hv => cases hv
                                                               cases a; cases b'
                                                               exact mod_tup ht (meets_pos hm h0 h1) fun t' k => h ω _ _ (.refl ..) R.toks (.d (.str _ t'))
theorem op_mod_line {m : Str} {p q : Int} (hm : m.length ≤ 100000) (h0 : 0 ≤ p) (h1 : p < 10 ^ 10) (g0 : 0 ≤ q) (g1 : q < 10 ^ 10) : Op2 c n (binaryOp .Mod) (.d (.str "%s (line %d, column %d)")) (.d (.tup [.str m, .int p, .int q])) σ (.d (.str (m ++ (" (line " : Str) ++ PySem.Str.ofString (toString p) ++ (", column " : Str) ++ PySem.Str.ofString (toString q) ++ (")" : Str)))) σ := fun S f F ω s Q E x y R A B h => by
  obtain ⟨b, vs, rfl, ht, hv⟩ := is_tup R B.toD
  cases A.toD with | str _ t =>
    cases hv with | cons a hv => cases hv with | cons b' hv => cases hv with | cons c' hv => cases hv
                                                                                             cases a; cases b'; cases c'
                                                                                             exact mod_tup ht (meets_line hm h0 h1 g0 g1) fun t' k => h ω _ _ (.refl ..) R.toks (.d (.str _ t'))
end Mine
namespace Mine
open PySem PySem.W PyProof.Rows PySem.Calls PySem.Spec
noncomputable def cntS (x y : Str) (j : Int) : Int := (Builtin.Str.occurrences x y 0 (min (fromIndex x.length j) x.length) (x.length + 1)).length
noncomputable def rfS (x y : Str) (j : Int) : Int := match Builtin.Str.lastOccurrence x y 0 (min (fromIndex x.length j) x.length) with
  | some i => (i : Int)
  | none => -1
open Builtin Builtin.Str in
theorem g_cntS (x y : Str) (j : Int) (t u v w : Tok) : PySem.Gives («str.count» ⟨[.str x t, .str y u, .int 0 v, .int j w], []⟩) (.int (cntS x y j)) := by
  show PySem.Gives (retInt (occurrences x y 0 (min (fromIndex x.length j) x.length) (x.length + 1)).length) _
  exact .of_eq rfl
open Builtin Builtin.Str in
theorem g_rfS (x y : Str) (j : Int) (t u v w : Tok) : PySem.Gives («str.rfind» ⟨[.str x t, .str y u, .int 0 v, .int j w], []⟩) (.int (rfS x y j)) := by
  show PySem.Gives (match lastOccurrence x y 0 (min (fromIndex x.length j) x.length) with | some i => retInt i | none => (do rule "str.rfind.not-found"; retInt (-1))) _
  unfold rfS
  cases lastOccurrence x y 0 (min (fromIndex x.length j) x.length) with
  | none => exact .rule (.of_eq rfl)
  | some i => exact .of_eq rfl
noncomputable def loHi (b s : Array UInt8) (j : Int) : Option (Nat × Nat) := let w := Builtin.Bytes.window b.size (some 0) (some j); if w.2 - w.1 < s.size then none else some (w.1.toNat, w.2.toNat)
noncomputable def cntB (b s : Array UInt8) (j : Int) : Int := match loHi b s j with
  | none => 0
  | some (lo, hi) => (Builtin.Bytes.occurrences b s lo hi).length
noncomputable def rfB (b s : Array UInt8) (j : Int) : Int := match (loHi b s j).bind (fun (lo, hi) => Builtin.Bytes.rfind? b s lo hi) with
  | some i => (i : Int)
  | none => -1
open Builtin Builtin.Bytes in
theorem g_cntB (b s : Array UInt8) (j : Int) (t u v w : Tok) (hs : s.isEmpty = false) : PySem.Gives («bytes.count» ⟨[.bytes b t, .bytes s u, .int 0 v, .int j w], []⟩) (.int (cntB b s j)) := by
  have e : «bytes.count» ⟨[.bytes b t, .bytes s u, .int 0 v, .int j w], []⟩ = (match loHi b s j with | none => retInt 0 | some (lo, hi) => if s.isEmpty then (do rule s!"bytes.count.empty-sub"; retInt (hi - lo + 1 : Nat)) else retInt (Bytes.occurrences b s lo hi).length) := by kernel_rfl
  rw [e]
  unfold cntB
  cases loHi b s j with
  | none => exact .of_eq rfl
  | some p => simp only [hs]; exact .of_eq rfl
open Builtin Builtin.Bytes in
theorem g_rfB (b s : Array UInt8) (j : Int) (t u v w : Tok) : PySem.Gives («bytes.rfind» ⟨[.bytes b t, .bytes s u, .int 0 v, .int j w], []⟩) (.int (rfB b s j)) := by
  have e : «bytes.rfind» ⟨[.bytes b t, .bytes s u, .int 0 v, .int j w], []⟩ = (match (loHi b s j).bind (fun (lo, hi) => Bytes.rfind? b s lo hi) with | some i => retInt i | none => (do rule s!"bytes.rfind.not-found"; retInt (-1))) := by kernel_rfl
  rw [e]
  unfold rfB
  cases (loHi b s j).bind (fun (lo, hi) => Bytes.rfind? b s lo hi) with
  | none => exact .rule (.of_eq rfl)
  | some i => exact .of_eq rfl
theorem sl_count : Slot "bytes" "count" "bytes.count" := .of (owner := "bytes") (n := "count") (by rw [typeLookup_type, builtinLookup_eq_fast]; kernel_rfl) (by decide +kernel) (by decide +kernel) (by decide +kernel) (by first | exact .inl (by decide +kernel) | exact .inr (by decide +kernel)) (by rw [isSubtype_type]; kernel_rfl)
theorem sl_rfind : Slot "bytes" "rfind" "bytes.rfind" := .of (owner := "bytes") (n := "rfind") (by rw [typeLookup_type, builtinLookup_eq_fast]; kernel_rfl) (by decide +kernel) (by decide +kernel) (by decide +kernel) (by first | exact .inl (by decide +kernel) | exact .inr (by decide +kernel)) (by rw [isSubtype_type]; kernel_rfl)
theorem ty_count : typeOf (.builtin "bytes.count") = pure (.type "method_descriptor") := by show builtinType _ = _; rw [builtinType_eq_fast]; kernel_rfl
theorem ty_rfind : typeOf (.builtin "bytes.rfind") = pure (.type "method_descriptor") := by show builtinType _ = _; rw [builtinType_eq_fast]; kernel_rfl
theorem en_count : entryFor table "bytes.count" = some Builtin.«bytes.count» := entryFor_of_tree (by kernel_rfl)
theorem en_rfind : entryFor table "bytes.rfind" = some Builtin.«bytes.rfind» := entryFor_of_tree (by kernel_rfl)
theorem ar_count (a b d e : Value) : argsOk "bytes.count" ⟨[a, b, d, e], []⟩ := by unfold argsOk; kernel_rfl
theorem ar_rfind (a b d e : Value) : argsOk "bytes.rfind" ⟨[a, b, d, e], []⟩ := by unfold argsOk; kernel_rfl
variable {c : Cx} {S : Scope} {n : Nat} {σ σ' σ₁ : St} {X Y Z : V}
theorem VRs.fourD {ω : Om} {a b d e : D} {vs : List Value} (h : VRs c n ω [.d a, .d b, .d d, .d e] vs) : ∃ v1 v2 v3 v4, vs = [v1, v2, v3, v4] ∧ DR c.hs (fz c ω) a v1 ∧ DR c.hs (fz c ω) b v2 ∧ DR c.hs (fz c ω) d v3 ∧ DR c.hs (fz c ω) e v4 := by
  cases h with
  | cons h1 h =>
    cases h with
    | cons h2 h =>
      cases h with
      | cons h3 h =>
        cases h with
        | cons h4 h =>
          cases h
          exact ⟨_, _, _, _, rfl, h1.toD, h2.toD, h3.toD, h4.toD⟩
theorem f_cntS {x y : Str} {j : Int} : OpN c n (fun vs => call (.builtin "str.count") vs) [.d (.str x), .d (.str y), .d (.int 0), .d (.int j)] σ (.d (.int (cntS x y j))) σ := fun S f F ω s Q E vs R A h => by
  obtain ⟨v1, v2, v3, v4, rfl, a, b, d, e⟩ := A.fourD
  cases a; cases b; cases d; cases e
  exact call_gives PySem.F.slot_str_count (typeIs_str _ _ _) PySem.F.entry_str_count (PySem.F.args_str_count_4 _ _ _ _) (g_cntS _ _ _ _ _ _ _) (h ω _ _ (.refl ..) R.toks (.d (.int _ _)))
theorem f_rfS {x y : Str} {j : Int} : OpN c n (fun vs => call (.builtin "str.rfind") vs) [.d (.str x), .d (.str y), .d (.int 0), .d (.int j)] σ (.d (.int (rfS x y j))) σ := fun S f F ω s Q E vs R A h => by
  obtain ⟨v1, v2, v3, v4, rfl, a, b, d, e⟩ := A.fourD
  cases a; cases b; cases d; cases e
  exact call_gives PySem.F.slot_str_rfind (typeIs_str _ _ _) PySem.F.entry_str_rfind (PySem.F.args_str_rfind_4 _ _ _ _) (g_rfS _ _ _ _ _ _ _) (h ω _ _ (.refl ..) R.toks (.d (.int _ _)))
theorem f_cntB {x y : Array UInt8} {j : Int} (hy : y.isEmpty = false) : OpN c n (fun vs => call (.builtin "bytes.count") vs) [.d (.bytes x), .d (.bytes y), .d (.int 0), .d (.int j)] σ (.d (.int (cntB x y j))) σ := fun S f F ω s Q E vs R A h => by
  obtain ⟨v1, v2, v3, v4, rfl, a, b, d, e⟩ := A.fourD
  cases a; cases b; cases d; cases e
  exact call_gives sl_count (typeIs_bytes _ _ _) en_count (ar_count _ _ _ _) (g_cntB _ _ _ _ _ _ _ hy) (h ω _ _ (.refl ..) R.toks (.d (.int _ _)))
theorem f_rfB {x y : Array UInt8} {j : Int} : OpN c n (fun vs => call (.builtin "bytes.rfind") vs) [.d (.bytes x), .d (.bytes y), .d (.int 0), .d (.int j)] σ (.d (.int (rfB x y j))) σ := fun S f F ω s Q E vs R A h => by
  obtain ⟨v1, v2, v3, v4, rfl, a, b, d, e⟩ := A.fourD
  cases a; cases b; cases d; cases e
  exact call_gives sl_rfind (typeIs_bytes _ _ _) en_rfind (ar_rfind _ _ _ _) (g_rfB _ _ _ _ _ _ _) (h ω _ _ (.refl ..) R.toks (.d (.int _ _)))
theorem gm_cntS {x : Str} : GetM c n (.d (.str x)) "count" σ (.builtin "str.count") := fun S f F ω s Q E v pl R A h => by
  cases A.toD with | str _ t => exact PySem.GM.of (.str x t) (typeIs_str _ _ _) PySem.F.slot_str_count PySem.F.type_str_count PySem.GM.noRef h
theorem gm_rfS {x : Str} : GetM c n (.d (.str x)) "rfind" σ (.builtin "str.rfind") := fun S f F ω s Q E v pl R A h => by
  cases A.toD with | str _ t => exact PySem.GM.of (.str x t) (typeIs_str _ _ _) PySem.F.slot_str_rfind PySem.F.type_str_rfind PySem.GM.noRef h
theorem gm_cntB {x : Array UInt8} : GetM c n (.d (.bytes x)) "count" σ (.builtin "bytes.count") := fun S f F ω s Q E v pl R A h => by
  cases A.toD with | bytes _ t => exact KBd.method_of (.bytes x t) (typeIs_bytes _ _ _) sl_count ty_count KBd.noRef h
theorem gm_rfB {x : Array UInt8} : GetM c n (.d (.bytes x)) "rfind" σ (.builtin "bytes.rfind") := fun S f F ω s Q E v pl R A h => by
  cases A.toD with | bytes _ t => exact KBd.method_of (.bytes x t) (typeIs_bytes _ _ _) sl_rfind ty_rfind KBd.noRef h
end Mine
namespace Mine
open PySem PySem.W PyProof.Rows PySem.Calls PySem.Spec
noncomputable def inB (b s : Array UInt8) : Bool := (Builtin.Bytes.find? b s 0 b.size).isSome
theorem sl_in : Slot "bytes" "__contains__" "bytes.__contains__" := .of (owner := "bytes") (n := "__contains__") (by rw [typeLookup_type, builtinLookup_eq_fast]; kernel_rfl) (by decide +kernel) (by decide +kernel) (by decide +kernel) (by first | exact .inl (by decide +kernel) | exact .inr (by decide +kernel)) (by rw [isSubtype_type]; kernel_rfl)
theorem en_in : entryFor table "bytes.__contains__" = some Builtin.«bytes.__contains__» := entryFor_of_tree (by kernel_rfl)
theorem ar_in (a b : Value) : argsOk "bytes.__contains__" ⟨[a, b], []⟩ := by unfold argsOk; kernel_rfl
theorem idx_b (s : Array UInt8) (u : Tok) : ∃ m : String, (m : Str).length ≤ sizeLine ∧ asIndex (.bytes s u) = (raiseErrorMade "TypeError" m : Sem Int) := ⟨"'bytes' object cannot be interpreted as an integer", by decide +kernel, by kernel_rfl⟩
section
variable {prog : Program} {w : World} {A : Around} {E : Value → Shared → Prop} {s : Shared}
open Builtin Builtin.Bytes in
theorem contains_run {b y : Array UInt8} {t u : Tok} {Q : Value → Shared → Prop} (hh : A.handled = none) (h : ∀ h' tk, (∀ a o, s.heap.get? a = some o → h'.get? a = some o) → Q (.bool (inB b y)) { s with heap := h', toks := tk }) : wpAny (model prog w) A (compareOp .In (.bytes y u) (.bytes b t)) Q E s := by
  refine In_slot (typeIs_bytes s b t) sl_in (wpAny_call_entry sl_in (typeIs_bytes s b t) en_in ?_ (ar_in _ _))
  have e : «bytes.__contains__» ⟨[.bytes b t, .bytes y u], []⟩ = (containsIn "bytes.__contains__" (.bytes b t) (.bytes y u) >>= fun r => ret (.bool r)) := by kernel_rfl
  rw [e]
  unfold containsIn
  obtain ⟨m, hm, em⟩ := idx_b y u
  rw [em]
  refine wpAny_bind (wpAny_bind (wpAny_attempt (wpAny_raiseErrorMade ⟨ownMembersOf_TypeError, by decide +kernel⟩ hh (fun h' tk a N => ?_) hm)))
  refine wpAny_bind (wpAny_of_eq KBy.buffer_eq ?_)
  refine wpAny_bind (wpAny_of_eq KBy.buffer_eq ?_)
  refine wpAny_bind (wpAny_rule (wpAny_pure (wpAny_pure ⟨_, rfl, wpAny_truthy_bool (h h' tk N.keeps)⟩)))
end
variable {c : Cx} {S : Scope} {n : Nat} {σ σ' σ₁ : St} {X Y Z : V}
theorem c_inB {b y : Array UInt8} (hc : c.calm = true) : Op2 c n (compareOp .In) (.d (.bytes y)) (.d (.bytes b)) σ (.d (.bool (inB b y))) σ := fun S f F ω s Q E x z R A B h => by
  cases A.toD with
  | bytes _ u =>
    cases B.toD with
    | bytes _ t => exact contains_run (F.hand hc) fun h' tk k => h ω _ _ (.refl ..) (R.slots (Fs := []) (fun _ h => nomatch h) (fun b o _ q => k b o q) (fun _ _ h => nomatch h)) (.d (.bool _))
theorem c_isn_bn {b : Array UInt8} : Op2 c n (compareOp .IsNot) (.d (.bytes b)) (.d .none) σ (.d (.bool true)) σ := fun S f F ω s Q E x y R A B h => by
  cases A.toD with
  | bytes _ t =>
    cases vn B
    show wpAny _ _ (do return Value.bool (!(← isSame (.bytes b t) .none))) Q E s
    exact wpAny_bind (wpAny_of_eq (a := false) rfl (wpAny_pure (h ω _ s (.refl ..) R (.d (.bool _)))))
end Mine
namespace Mine
open PySem PySem.W PyProof.Rows PySem.Calls PySem.Spec
noncomputable def Asc (x : Str) : Prop := ∀ a ∈ x.cps, a < 128
noncomputable def ascB (x : Str) : Array UInt8 := x.cps.map (·.toUInt8)
theorem fold_one : ∀ (l : List Nat) (acc : Array UInt8), l.foldl (fun acc y => acc ++ [y.toUInt8].toArray) acc = acc ++ (l.map (·.toUInt8)).toArray
  | [], acc => by simp
  | a :: l, acc => by rw [List.foldl_cons, fold_one l]; simp [Array.append_assoc]
theorem two_turns {α : Type} {n : Nat} {init mid : α} {body : Nat → α → Sem (ForInStep α)} (hn : 0 < n) (h1 : body 0 init = pure (.yield mid)) (h2 : ∀ i, body i mid = pure (.done mid)) : forIn ([0:n] : Std.Legacy.Range) init body = pure mid := by
  obtain ⟨k, rfl⟩ : ∃ k, n = k + 1 := ⟨n - 1, by lia⟩
  rw [Std.Legacy.Range.forIn_eq_forIn_range']
  have er : ([0:k + 1] : Std.Legacy.Range).size = k + 1 := by simp [Std.Legacy.Range.size]
  rw [er, List.range'_succ, List.forIn_cons, h1, pure_bind]
  cases k with
  | zero => rfl
  | succ k => 
    dsimp only
    rw [List.range'_succ, List.forIn_cons, h2, pure_bind]
open Builtin Builtin._codecs in
theorem enc_asc {id : String} {self : Value} {x : Str} {errors : Option Str} (h : Asc x) (h0 : 0 < x.length) (hl : x.length ≤ sizeLine) : encodeNarrow id asciiCodec errors self x = pure (ascB x) := by
  have h01 : 0 < x.cps.size := h0
  have h1 : x.cps[0]? = some x.cps[0] := Array.getElem?_eq_getElem h01
  have hb : ∀ a ∈ x.cps, asciiCodec.bad a = false := fun a ha => by
    have := h a ha
    show decide (a ≥ 128) = false
    simp; lia
  have h3 : asciiCodec.bad x.cps[0] = false := hb _ (Array.getElem_mem _)
  have e1 : x.cps.extract 0 x.cps.size = x.cps := by simp
  have h4 : x.cps.findIdx? asciiCodec.bad = none := by
    rw [Array.findIdx?_eq_none_iff]; exact fun a ha => hb a ha
  have e2 : x.cps.foldl (fun acc y => acc ++ (asciiCodec.bytesOf y).toArray) (#[] : Array UInt8) = ascB x := by
    rw [← Array.foldl_toList]
    show x.cps.toList.foldl (fun acc y => acc ++ [y.toUInt8].toArray) #[] = _
    rw [fold_one]
    unfold ascB
    apply Array.toList_inj.mp; simp
  have h5 : ¬ (ascB x).size > sizeLine := by unfold ascB; simp; exact hl
  have h6 : ¬ (#[] : Array UInt8).size > sizeLine := by simp
  have h7 : x.cps[0 + x.cps.size]? = none := by simp
  refine (congrArg (· >>= _) (two_turns (mid := (0 + x.cps.size, ascB x, {})) h0 ?a ?b)).trans ?c
  case a =>
    dsimp only
    rw [if_neg h6, h1]
    dsimp only
    rw [h3, e1, h4]
    dsimp only [Option.getD_none]
    rw [e1, e2]
    rfl
  case b =>
    intro i
    dsimp only
    rw [if_neg h5, h7]
  case c => rfl
open Builtin Builtin._codecs in
theorem enc_road {x : Str} {t : Tok} : encodeRoad "str.encode" (.str x t) x "ascii" (some "backslashreplace") = (encodeNarrow "str.encode" asciiCodec (some "backslashreplace") (.str x t) x >>= fun b => mkBytes b) := by kernel_rfl
open Builtin Builtin._codecs in
theorem enc_entry {x : Str} {t u v : Tok} : «str.encode» ⟨[.str x t, .str "ascii" u, .str "backslashreplace" v], []⟩ = (encodeRoad "str.encode" (.str x t) x "ascii" (some "backslashreplace") >>= fun r => ret r) := by kernel_rfl
theorem ascB_nat {x : Str} (h : Asc x) : (ascB x).map (·.toNat) = x.cps := by
  unfold ascB
  rw [Array.map_map]
  have : ∀ a ∈ x.cps, ((fun b : UInt8 => b.toNat) ∘ fun a : Nat => a.toUInt8) a = a := fun a ha => by
    have := h a ha
    show a.toUInt8.toNat = a
    simp [Nat.toUInt8, UInt8.ofNat, UInt8.toNat]; lia
  rw [Array.map_congr_left this]; simp
open Builtin in
theorem asc_run {id : String} {b : Array UInt8} (hb : b.size ≤ sizeLine) (ha : ∀ a ∈ b, a.toNat < 128) : _codecs.runDecoder id _codecs.asciiDecoder none true b 0 [] = pure (b.map (·.toNat), b.size) := by
  unfold _codecs.runDecoder
  simp only [Std.Legacy.Range.forIn_eq_forIn_range', Std.Legacy.Range.size]
  have e0 : (#[] : Array Nat) = (b.take 0).map (·.toNat) := by simp
  have e1 : (b.size - 0 + 1 - 1) / 1 = b.size := by lia
  rw [e0, e1]
  refine (congrArg (fun m => m >>= _) (lat_loop (fun x p st hp => ?_) b.size 0 _ (by lia))).trans rfl
  have h1 : ¬ ((b.take p).map (·.toNat)).size > sizeLine := by simp; lia
  have h2 : ¬ p ≥ b.size := by lia
  have hc : (b.getD p 0).toNat < 128 := by
    rw [Array.getD_eq_getD_getElem?, Array.getElem?_eq_getElem hp]
    exact ha _ (Array.getElem_mem hp)
  have h3 : _codecs.asciiDecoder.find true b p = .text [(b.getD p 0).toNat] (p + 1) := by
    show (if (b.getD p 0).toNat < 128 then _ else _) = _
    rw [if_pos hc]; rfl
  have h4 : (b.take p).map (·.toNat) ++ [(b.getD p 0).toNat].toArray = (b.take (p + 1)).map (·.toNat) := by
    apply Array.toList_inj.mp
    simp [List.take_add_one, hp]
  simp only [h1, h2, h3, h4, if_false, pure_bind]
open Builtin in
theorem asc_text {b : Array UInt8} {t t1 t2 : Tok} {d : PySem.Str} (hb : b.size ≤ sizeLine) (ha : ∀ a ∈ b, a.toNat < 128) :
    Meets («_codecs.decode.text» ⟨[.bytes b t, .str (PySem.Str.ofString "ascii") t1, .none, .str d t2], []⟩) (fun _ R s => R (.ok (.ret (.str (latin b) s.toks))) { s with toks := s.toks + 1 }) := by
  refine .of_wp fun prog w A R s h => ?_
  show wpAny _ _ (Bytes.bytesLike _ (.bytes b t) >>= fun r => _) _ _ s
  refine wpAny_bind (wpAny_of_eq KBd.like_eq ?_)
  refine wpAny_bind (wpAny_of_eq KBd.held_eq ?_)
  show wpAny _ _ (_codecs.decodeRoad _ b (PySem.Str.ofString "ascii") none [] >>= fun v => _) _ _ s
  have e : ∀ id, _codecs.decodeRoad id b (PySem.Str.ofString "ascii") none [] = (_codecs.runDecoder id _codecs.asciiDecoder none true b 0 [] >>= fun r => mkStr ⟨r.1⟩) := fun id => by kernel_rfl
  rw [e, asc_run hb ha]
  refine wpAny_bind (wpAny_bind (wpAny_pure ?_))
  exact wpAny_mkStr (wpAny_pure ⟨_, rfl, h⟩) (by show (b.map (·.toNat)).size ≤ _; simpa using hb)
open Builtin in
theorem asc_entry {c : UInt8} {cs : List UInt8} {t u : Tok} : «bytes.decode» ⟨[.bytes (c :: cs).toArray t, .str (PySem.Str.ofString "ascii") u], []⟩ = (mkStr (PySem.Str.ofString "utf-8") >>= fun _ => mkStr (PySem.Str.ofString "ascii") >>= fun e => mkStr (PySem.Str.ofString "bytes.decode") >>= fun d =>
    call (.builtin "_codecs.decode.text") [.bytes (c :: cs).toArray t, e, .none, d] >>= fun v => ret v) := by kernel_rfl
theorem asc_args {b : Array UInt8} {e : Value} {t : Tok} : argsOk "bytes.decode" ⟨[.bytes b t, e], []⟩ := by unfold argsOk; kernel_rfl
section
variable {prog : Program} {w : World} {A : Around} {E : Value → Shared → Prop} {s : Shared}
theorem asc_decode {b : Array UInt8} {t u : Tok} {Q : Value → Shared → Prop} (h0 : 0 < b.size) (hb : b.size ≤ sizeLine) (ha : ∀ a ∈ b, a.toNat < 128) (h : ∀ t' k, Q (.str (latin b) t') { s with toks := k }) :
    wpAny (model prog w) A (call (.builtin "bytes.decode") [.bytes b t, .str (PySem.Str.ofString "ascii") u]) Q E s := by
  obtain ⟨c, cs, rfl⟩ : ∃ c cs, b = List.toArray (c :: cs) := by
    cases e : b.toList with
    | nil => have : b.size = 0 := by rw [← Array.length_toList, e]; rfl
             lia
    | cons c cs => exact ⟨c, cs, by rw [← e]⟩
  refine wpAny_call_entry FB.slot_bytes_decode (typeIs_bytes _ _ _) FB.entry_bytes_decode ?_ asc_args
  rw [asc_entry]
  refine wpAny_bind (wpAny_mkStr ?_ (by decide))
  refine wpAny_bind (wpAny_mkStr ?_ (by decide))
  refine wpAny_bind (wpAny_mkStr ?_ (by decide))
  exact wpAny_bind (call_function_meets KBd.kind_text KBd.plain_text KBd.entry_text (KBd.args_text _ _ _ _) (asc_text hb ha) (wpAny_pure ⟨_, rfl, h _ _⟩))
theorem asc_encode {x : Str} {t u v : Tok} {Q : Value → Shared → Prop} (hx : Asc x) (h0 : 0 < x.length) (hl : x.length ≤ sizeLine) (h : ∀ t' k, Q (.bytes (ascB x) t') { s with toks := k }) :
    wpAny (model prog w) A (call (.builtin "str.encode") [.str x t, .str "ascii" u, .str "backslashreplace" v]) Q E s := by
  refine wpAny_call_entry PySem.F.slot_str_encode (typeIs_str _ _ _) PySem.F.entry_str_encode ?_ (PySem.F.args_str_encode_3 _ _ _)
  rw [enc_entry, enc_road, enc_asc hx h0 hl]
  refine wpAny_bind (wpAny_bind (wpAny_pure (wpAny_mkBytes (wpAny_pure ⟨_, rfl, h _ _⟩) ?_)))
  unfold ascB; rw [Array.size_map]; exact hl
end
variable {c : Cx} {S : Scope} {n : Nat} {σ σ' σ₁ : St} {X Y Z : V}
theorem gm_encode {x : Str} : GetM c n (.d (.str x)) "encode" σ (.builtin "str.encode") := fun S f F ω s Q E v pl R A h => by
  cases A.toD with | str _ t => exact PySem.GM.of (.str x t) (typeIs_str _ _ _) PySem.F.slot_str_encode PySem.F.type_str_encode PySem.GM.noRef h
theorem gm_decode {x : Array UInt8} : GetM c n (.d (.bytes x)) "decode" σ (.builtin "bytes.decode") := fun S f F ω s Q E v pl R A h => by
  cases A.toD with | bytes _ t => exact KBd.method h
theorem f_encode {x : Str} (hx : Asc x) (h0 : 0 < x.length) (hl : x.length ≤ 10000) : OpN c n (fun vs => call (.builtin "str.encode") vs) [.d (.str x), .d (.str "ascii"), .d (.str "backslashreplace")] σ (.d (.bytes (ascB x))) σ := fun S f F ω s Q E vs R A h => by
  cases A with
  | cons a A =>
    obtain ⟨v, w, rfl, b, d⟩ := A.twoD
    cases a.toD; cases b; cases d
    exact asc_encode hx h0 (sz hl) fun t' k => h ω _ _ (.refl ..) R.toks (.d (.bytes _ _))
theorem f_decode {b : Array UInt8} (h0 : 0 < b.size) (hb : b.size ≤ 10000) (ha : ∀ a ∈ b, a.toNat < 128) : OpN c n (fun vs => call (.builtin "bytes.decode") vs) [.d (.bytes b), .d (.str "ascii")] σ (.d (.str (latin b))) σ := fun S f F ω s Q E vs R A h => by
  obtain ⟨v, w, rfl, a, d⟩ := A.twoD
  cases a; cases d
  exact asc_decode h0 (sz hb) ha fun t' k => h ω _ _ (.refl ..) R.toks (.d (.str _ _))
theorem latin_asc {x : Str} (h : Asc x) : latin (ascB x) = x := congrArg PySem.Str.mk (ascB_nat h)
theorem asc_ok {x : Str} (h : Asc x) : ∀ a ∈ ascB x, a.toNat < 128 := fun a ha => by
  have : a.toNat ∈ (ascB x).map (·.toNat) := Array.mem_map.mpr ⟨a, ha, rfl⟩
  rw [ascB_nat h] at this
  exact h _ this
end Mine
namespace Mine
open PySem PySem.W PyProof.Rows PySem.Calls PySem.Spec
structure StrE (h : Heap) (e : Addr) (m : Str) (tk : Tok) : Prop where
  obj : ∃ oe vs t0 k, h.get? e = some oe ∧ oe.data = .fields vs ∧ vs[0]? = some (.ref t0) ∧ h.get? t0 = some (tupObj [.str m tk] k)
  look : ∀ M, Looks M h (specialOf (.ref e) "__str__") (some (.builtin "BaseException.__str__"))
  inst : ∀ M, Looks M h (isInstance (.ref e) (.type "BaseException")) true
section
open Builtin Builtin.Str
theorem strE_new {e : Addr} {m : Str} {tk : Tok} : Meets («str.__new__» ⟨[.type "str", .ref e], []⟩) (fun A R s => A.in1.units < cLine ∧ StrE s.heap e m tk ∧ R (.ok (.ret (.str m tk))) s) := by
  refine .of_wp fun prog w A R s hS => ?_
  obtain ⟨hu, X, h⟩ := hS
  obtain ⟨oe, vs, t0, k, he, hd, h0, ht⟩ := X.obj
  have hk : builtinKind "BaseException.__str__" = some .slot := by decide +kernel
  have hs : splitId "BaseException.__str__" = some ("BaseException", "__str__") := by decide +kernel
  unfold «str.__new__»
  refine wpAny_bind (wpAny_pure ?_)
  refine wpAny_bind (wpAny_of_eq isSubtype_str_str ?_)
  refine wpAny_bind (wpAny_of_eq (a := [some (.ref e), none, none]) (by kernel_rfl) ?_)
  refine wpAny_bind (wpAny_of_eq (a := none) (by kernel_rfl) ?_)
  refine wpAny_bind (wpAny_of_eq (a := none) (by kernel_rfl) ?_)
  refine wpAny_bind ?_
  show wpAny _ _ (Builtin.Str.strOf (.ref e)) _ _ _
  unfold Builtin.Str.strOf
  refine wpAny_bind (wpAny_cRoomFor hu ?_)
  refine wpAny_bind ?_
  unfold callSpecial?
  refine wpAny_bind ((X.look _).here ?_)
  refine wpAny_holding (wpAny_bind (wpAny_of_eq (PySem.F.excStr_Exception.str.bind _) ?_))
  refine wpAny_bind (wpAny_call (codeAny_call_builtin PySem.F.excStr_Exception.str.plain PySem.F.entry_bexc_str (@check_slot _ _ _ s "BaseException.__str__" "BaseException" "__str__" (.ref e) [] [] _ hk hs (X.inst _) (PySem.F.args_bexc_str _) ?_)))
  unfold «BaseException.__str__» Builtin.BaseException.bexcArgs
  refine wpAny_bind (wpAny_pure (wpAny_bind (wpAny_bind (wpAny_field he hd h0 (wpAny_bind (wpAny_seqItems ht rfl (wpAny_pure ?_)))))))
  show wpAny _ _ (rule "BaseException.__str__.one-argument" >>= fun _ => Builtin.BaseException.bexcText "__str__" (.str m tk) >>= fun v => ret v) _ _ _
  refine wpAny_bind (wpAny_rule ?_)
  unfold Builtin.BaseException.bexcText
  repeat wp_step
  exact ⟨_, rfl, h⟩
end
section
variable {prog : Program} {w : World} {A : Around} {E : Value → Shared → Prop} {s : Shared}
theorem call_strE {e : Addr} {m : Str} {tk : Tok} {Q : Value → Shared → Prop} (hu : A.units + 10 < 9900) (X : StrE s.heap e m tk) (h : Q (.str m tk) s) : wpAny (model prog w) A (call (.type "str") [.ref e]) Q E s :=
  callType_new PySem.F.called_str (by decide) (PySem.F.typeCall_str_1 _) (PySem.F.newCall_str_1 _) (fun obj => PySem.F.args_object_init_2 _ _) PySem.F.entry_str_new strE_new ⟨by show A.units + 1 + 1 < 9900; lia, X, typeIs_str _ _ _, h⟩
end
variable {c : Cx} {S : Scope} {n : Nat} {σ σ' σ₁ : St} {X Y Z : V}
structure ExcStr (K : Frag) (C : Addr) : Prop where
  str : findIn K (.ref C) "__str__" = some (some (.builtin "BaseException.__str__"))
  base : mroIn K C (.type "BaseException") = some true
theorem f_strE {C : Addr} {m : Str} {as : Option (List (Str × D))} (hC : CxOk c) (hn : n ≤ 100) (hk : ExcStr c.K C) : OpN c n (fun vs => call (.type "str") vs) [.exn (.ref C) [.str m] as] σ (.d (.str m)) σ := fun S f F ω s Q E vs R A h => by
  cases A with
  | cons A B =>
    cases B
    obtain ⟨a, T, oe, vs, ts, k, rfl, hcls, g1, g2, g3, g4, g5, g6⟩ := exn_inv A
    cases g5 with
    | cons g5 g7 =>
      cases g7
      cases g5 with
      | str _ tk =>
        have X := hC.kin.keeps R.keep
        have L0 : ∀ M, Looks M s.heap (typeOf (.ref a)) (.ref C) := fun M => hcls ▸ (Looks.ld (R.fz g1)).andThen .now
        refine call_strE (by have := F.units; lia) ⟨⟨oe, vs, T, k, R.fz g1, g2, g3, R.fz g4⟩, fun M => (L0 M).andThen (looks_findIn X hk.str), fun M => (L0 M).andThen (looks_mroIn X hk.base)⟩ (h ω _ s (.refl ..) R (.d (.str m tk)))
end Mine
namespace Mine
open PySem PySem.W PyProof.Rows PySem.Calls PySem.Spec
variable {c : Cx} {S : Scope} {n : Nat} {σ σ' σ₁ : St} {X Y Z : V} {f : Fm} {ω : Om} {s : Shared} {e : Expr} {np cp pos : Pos}
end Mine
namespace Mine
open PySem PySem.W PyProof.Rows PySem.Calls PySem.Spec
noncomputable def fldAt (K : Frag) (a : Addr) (i : Nat) : Option Value := match K.lookup a with
  | some ⟨_, _, .fields vs, _⟩ => vs[i]?
  | _ => none
theorem fldAt_some {K : Frag} {a : Addr} {i : Nat} {v : Value} (h : fldAt K a i = some v) : ∃ o1 o2 vs o3, K.lookup a = some ⟨o1, o2, .fields vs, o3⟩ ∧ vs[i]? = some v := by
  unfold fldAt at h
  split at h
  · rename_i o1 o2 vs o3 q
    exact ⟨o1, o2, vs, o3, q, h⟩
  · cases h
noncomputable def strV : Option Value → Option Str
  | some (.str x _) => some x
  | _ => none
theorem strV_some {o : Option Value} {x : Str} (h : strV o = some x) : ∃ t, o = some (.str x t) := by
  unfold strV at h
  split at h
  · cases h; exact ⟨_, rfl⟩
  · cases h
noncomputable def cellAt (K : Frag) (a : Addr) : Option Value := match K.lookup a with
  | some ⟨_, _, .cell v, _⟩ => v
  | _ => none
theorem cellAt_some {K : Frag} {a : Addr} {v : Value} (h : cellAt K a = some v) : ∃ o1 o2 o3, K.lookup a = some ⟨o1, o2, .cell (some v), o3⟩ := by
  unfold cellAt at h
  split at h
  · rename_i o1 o2 v' o3 q
    subst h; exact ⟨o1, o2, o3, q⟩
  · cases h
noncomputable def slAt (K : Frag) (a : Addr) (i : Nat) : Option Value := match K.lookup a with
  | some o => (o.slots.toList[i]?).join
  | _ => none
noncomputable def argAt (K : Frag) (a : Addr) : Option Str := ((fdAt K a).params.posonlyargs ++ (fdAt K a).params.args).head?.map (·.arg)
theorem super_ok {c : Cx} {K : Frag} {g cc cl C : Addr} {sn file : Str} (hK : c.K = K) (h1 : fnOkX K g [] = true) (h2 : argAt K g = some sn) (h3 : strV (fldAt K cc 2) = some file) (h4 : ((c.prog.main.file : Str) == file) = true) (h5 : cellAt K cl = some (.ref C)) (h6 : (c.prog.main.scope.names.lookup ("super" : Str)).isSome = false)
    (h7 : GlobIs c "super" (.type "super")) (h8 : ExcCls K C) (h9 : alongIn K "__init__" excTail = some (some (.builtin "Exception.__init__"))) (h10 : nsIn K cStatics "thirdparty.any" = some none) : SuperOk c g cc cl C sn := by
  subst hK
  obtain ⟨oc, od, osl, ho⟩ := (fn_parts h1).obj
  obtain ⟨ar, ha, hb⟩ := Option.map_eq_some_iff.mp h2
  obtain ⟨t, ht⟩ := strV_some h3
  obtain ⟨o1, o2, vs, o3, q1, q2⟩ := fldAt_some ht
  exact ⟨⟨oc, od, _, osl, ar, ho, ha, hb⟩, ⟨o1, o2, vs, o3, file, t, q1, q2, h4⟩, cellAt_some h5, h6, h7, h8, h9, h10⟩
theorem execs_app {pre rest : List Stmt} {env : Env} : execs (pre ++ rest) env = (execs pre env >>= fun f => match f with | .next => execs rest env | f => pure f) := by
  induction pre with
  | nil => rw [List.nil_append, execs_nil, pure_bind]
  | cons a l ih =>
    rw [List.cons_append, execs_cons, execs_cons, bind_assoc]
    congr 1; funext f
    cases f with
    | next => exact ih
    | brk => rw [pure_bind]
    | cont => rw [pure_bind]
    | ret v => rw [pure_bind]
variable {c : Cx} {S : Scope} {n : Nat} {σ σ' σ₁ σ₂ : St} {X Y Z : V} {e l r t test target iter fn : Expr} {es : List Expr} {Xs : List V} {pos tpos apos : Pos} {st : Stmt} {sts pre rest : List Stmt} {fl fl' : Fl} {x y : Str} {C : Addr} {as : List (Str × D)} {args : List D} {i : Nat} {name : Str} {d : D} {H : List (Nat × HO)} {loc : List (Nat × V)} {Wx : Exn}
theorem exs_app (h1 : Exs c S n pre σ .next σ₁) (h2 : Exs c S n rest σ₁ fl σ₂) : Exs c S n (pre ++ rest) σ fl σ₂ := fun f F ω s Q E R h => by
  rw [execs_app]
  refine wpAny_bind (h1 f F ω s _ _ R fun ω₁ G s₁ e₁ R₁ q => ?_)
  cases q
  exact h2 f F ω₁ s₁ _ _ R₁ fun ω₂ G' s₂ e₂ R₂ q' => h ω₂ G' s₂ (e₁.trans e₂) R₂ q'
theorem exsr_app (h1 : Exs c S n pre σ .next σ₁) (h2 : ExsR c S n rest σ₁ Wx σ₂) : ExsR c S n (pre ++ rest) σ Wx σ₂ := fun f F ω s Q E R h => by
  rw [execs_app]
  refine wpAny_bind (h1 f F ω s _ _ R fun ω₁ G s₁ e₁ R₁ q => ?_)
  cases q
  exact h2 f F ω₁ s₁ _ _ R₁ fun ω₂ v s₂ e₂ Y => h ω₂ v s₂ (e₁.trans e₂) Y
theorem exs_take {k : Nat} (h1 : Exs c S n (sts.take k) σ .next σ₁) (h2 : Exs c S n (sts.drop k) σ₁ fl σ₂) : Exs c S n sts σ fl σ₂ := by
  have := exs_app h1 h2
  rwa [List.take_append_drop] at this
theorem exsr_take {k : Nat} (h1 : Exs c S n (sts.take k) σ .next σ₁) (h2 : ExsR c S n (sts.drop k) σ₁ Wx σ₂) : ExsR c S n sts σ Wx σ₂ := by
  have := exsr_app h1 h2
  rwa [List.take_append_drop] at this
theorem exsr_body {body body' : List Stmt} (h : ExsR c S n body' σ Wx σ₁) (e : body = body') : ExsR c S n body σ Wx σ₁ := e ▸ h
theorem lk_head {o : HO} : lk i ((i, o) :: H) = some o := by show (bif i == i then _ else _) = _; simp
theorem setH_head {o o' : HO} : setH i o' ((i, o) :: H) = (i, o') :: H := by show (bif i == i then _ else _) = _; simp
theorem sx_exc (as' : List (Str × D)) {o : Expr} (hC : CxOk c) (hk : ExcSet c.K C) (ht : takerIn c.K C name = some none) (h1 : Ev c S n e σ (.d d) σ) (h2 : Ev c S n o σ (.obj i) σ) (hh : σ.heap = (i, .exc (.ref C) args (some as) none) :: H) (hp : putD' name d as = as') (hl : as.length ≤ 900) (hn : noComp e = true := by rfl) :
    Ex c S n (.Assign [.Attribute o name tpos] e pos) σ .next ⟨σ.loc, (i, .exc (.ref C) args (some as') none) :: H⟩ := by
  have z := ex_setattr_exc (tpos := tpos) (pos := pos) hC hk ht h1 h2 (by rw [hh]; exact lk_head) hl hn
  rw [hh, setH_head, hp] at z
  exact z
theorem at_exc {p : Pos} (hC : CxOk c) (hk : ExcAttr c.K C name) (h1 : Ev c S n (.Name y p) σ (.obj i) σ) (hh : σ.heap = (i, .exc (.ref C) args (some as) none) :: H) (hd : getD? name as = some d) : Ev c S n (.Attribute (.Name y p) name pos) σ (.d d) σ :=
  ev_attr_exc hC hk h1 (by rw [hh]; exact lk_head) hd
end Mine
namespace Mine
open PySem PySem.W PyProof.Rows PySem.Calls PySem.Spec
noncomputable abbrev PRG : Program := PySem.Challenge.rw_kq0015_04.row.prog
noncomputable abbrev cE : Addr := 41
structure GE (c : Cx) : Prop extends G2 c where
  ec : GlobIs c "error_constants" (.ref cE)
  len : GlobIs c "len" (.builtin "len")
  sup : GlobIs c "super" (.type "super")
section
variable {c : Cx}
theorem e_ok (hK : c.K = KK c) : ExcOk c.K cE := by rw [hK]; exact ⟨by kernel_rfl, by kernel_rfl, by kernel_rfl, by kernel_rfl⟩
theorem e_get (hK : c.K = KK c) : ExcGet c.K cE := by rw [hK]; exact ⟨by kernel_rfl, by kernel_rfl, by kernel_rfl, by kernel_rfl⟩
theorem e_set (hK : c.K = KK c) : ExcSet c.K cE := by
  rw [hK]
  refine ⟨by kernel_rfl, ?_⟩
  obtain ⟨cd, h1, h2⟩ := Option.map_eq_some_iff.mp (show (clsIn (KK c) cE).map (fun cd => (cd.mro, cd.hasDict)) = some (excMro cE, true) by kernel_rfl)
  exact ⟨cd, h1, (Prod.mk.inj h2).1, (Prod.mk.inj h2).2⟩
theorem e_str (hK : c.K = KK c) : ExcStr c.K cE := by rw [hK]; exact ⟨by kernel_rfl, by kernel_rfl⟩
theorem e_tk (hK : c.K = KK c) {nm : Str} (h : nm ∈ [("msg" : Str), "pattern", "pos", "lineno", "colno"]) : takerIn c.K cE nm = some none := by
  rw [hK]
  simp only [List.mem_cons, List.not_mem_nil, or_false] at h
  rcases h with rfl | rfl | rfl | rfl | rfl <;> kernel_rfl
theorem e_at (hK : c.K = KK c) {nm : Str} (h : nm ∈ [("msg" : Str), "pattern", "pos", "lineno", "colno"]) : ExcAttr c.K cE nm := by
  refine ⟨e_get hK, ?_⟩
  rw [hK]
  simp only [List.mem_cons, List.not_mem_nil, or_false] at h
  rcases h with rfl | rfl | rfl | rfl | rfl <;> exact ⟨none, by kernel_rfl, by kernel_rfl⟩
theorem e_cls (hK : c.K = KK c) : ExcCls c.K cE := by
  rw [hK]
  exact ⟨"PatternError", "PatternError", 40, [.type "Exception"], true, [], [], false, none, none, slAt (KK c) cE 0, slAt (KK c) cE 1, slAt (KK c) cE 2, slAt (KK c) cE 3, slAt (KK c) cE 5, by kernel_rfl⟩
theorem e_sup (hK : c.K = KK c) (hP : c.prog = PRG) (G : GE c) : SuperOk c 38 37 25 cE "self" :=
  super_ok (file := "/claim/cut.py") hK (by kernel_rfl) (by kernel_rfl) (by kernel_rfl) (by rw [hP]; kernel_rfl) (by kernel_rfl) (by rw [hP]; kernel_rfl) G.sup (hK ▸ e_cls hK) (by kernel_rfl) (by kernel_rfl)
end
noncomputable def nlIn : D → Bool
  | .str t => Txt.contains t "\n"
  | .bytes b => inB b [10].toArray
  | _ => false
noncomputable def lnOf (src : D) (p : Int) : Int := (match src with
  | .str t => cntS t "\n" p
  | .bytes b => cntB b [10].toArray p
  | _ => 0) + 1
noncomputable def cnOf (src : D) (p : Int) : Int := p - (match src with
  | .str t => rfS t "\n" p
  | .bytes b => rfB b [10].toArray p
  | _ => 0)
noncomputable abbrev atPos (m : Str) (p : Int) : Str := m ++ (" at position " : Str) ++ PySem.Str.ofString (toString p)
noncomputable def fullOf (src : D) (m : Str) (p : Int) : Str := if nlIn src then atPos m p ++ (" (line " : Str) ++ PySem.Str.ofString (toString (lnOf src p)) ++ (", column " : Str) ++ PySem.Str.ofString (toString (cnOf src p)) ++ (")" : Str) else atPos m p
noncomputable def asE (src : D) (m : Str) (p : Int) : List (Str × D) := [("msg", .str m), ("pattern", src), ("pos", .int p), ("lineno", .int (lnOf src p)), ("colno", .int (cnOf src p))]
noncomputable abbrev excE (src : D) (m : Str) (p : Int) : Exn := ⟨.ref cE, [.str (fullOf src m p)], some (asE src m p)⟩
structure PosOk (src : D) (m : Str) (p : Int) : Prop where
  lo : 0 ≤ p
  hi : p < 10 ^ 10
  len : m.length ≤ 1000
  pl : (atPos m p).length ≤ 100000
  nl : nlIn src = true → 0 ≤ lnOf src p ∧ lnOf src p < 10 ^ 10 ∧ 0 ≤ cnOf src p ∧ cnOf src p < 10 ^ 10
inductive SrcOk : D → Prop
  | str (t : Str) : SrcOk (.str t)
  | bytes (b : Array UInt8) : SrcOk (.bytes b)
section
variable {c : Cx} {n : Nat} {i : Nat} {H : List (Nat × HO)} {loc : List (Nat × V)} {src : D} {m : Str} {p : Int} {ds : List D}
noncomputable abbrev peLoc (i : Nat) (w : Str) : List (Nat × V) := [(key "msg", .d (.str w)), (key "self", .obj i)]
theorem pe_pre (hC : CxOk c) (hK : c.K = KK c) (G : GE c) (hc : c.calm = true) (hs : SrcOk src) (hp : PosOk src m p) :
    Exs c (Sc c 38) n ((bodyAt (KK c) 38).take 4) ⟨loc0 ["self", "msg", "pattern", "pos"] [.obj i, .d (.str m), .d src, .d (.int p)], (i, .exc (.ref cE) ds none none) :: H⟩ .next ⟨peLoc i (fullOf src m p), (i, .exc (.ref cE) ds (some (asE src m p)) none) :: H⟩ := by
  refine exs_body (body' := (mBdy PySem.Challenge.pw_kq0015_04 2 1).take 4) ?_ (by kernel_rfl)
  dsimp only [mBdy, fBdy, cBdy, PySem.Challenge.pw_kq0015_04, List.drop, List.take]
  refine exs_cons (ex_setattr_exc0 hC (e_set hK) (e_tk hK (by decide)) nm nm) ?_
  refine exs_cons (sx_exc [("msg", .str m), ("pattern", src)] hC (e_set hK) (e_tk hK (by decide)) nm nm rfl (by kernel_rfl) (by show (1 : Nat) ≤ 900; decide)) ?_
  refine exs_cons (sx_exc [("msg", .str m), ("pattern", src), ("pos", .int p)] hC (e_set hK) (e_tk hK (by decide)) nm nm rfl (by kernel_rfl) (by show (2 : Nat) ≤ 900; decide)) ?_
  refine exs_cons ?_ exs_nil
  have yes : Ts c (Sc c 38) n (.BoolOp .And [.Compare (.Name "pattern" ⟨12, 11, 12, 18⟩) [.IsNot] [.Constant .none 0 ⟨12, 26, 12, 30⟩] ⟨12, 11, 12, 30⟩, .Compare (.Name "pos" ⟨12, 35, 12, 38⟩) [.IsNot] [.Constant .none 0 ⟨12, 46, 12, 50⟩] ⟨12, 35, 12, 50⟩] ⟨12, 11, 12, 50⟩)
      ⟨loc0 ["self", "msg", "pattern", "pos"] [.obj i, .d (.str m), .d src, .d (.int p)], (i, .exc (.ref cE) ds (some [("msg", .str m), ("pattern", src), ("pos", .int p)]) none) :: H⟩ true
      ⟨loc0 ["self", "msg", "pattern", "pos"] [.obj i, .d (.str m), .d src, .d (.int p)], (i, .exc (.ref cE) ds (some [("msg", .str m), ("pattern", src), ("pos", .int p)]) none) :: H⟩ := by
    refine ts_bool (tss_and_yes ?_ (tss_and_yes (ts_cmp nm ev_none c_isn_in) tss_nil))
    cases hs with
    | str t => exact ts_cmp nm ev_none c_isn_sn
    | bytes b => exact ts_cmp nm ev_none c_isn_bn
  refine if_t yes ?_
  refine exs_cons (asg (ev_binop ev_str (ev_tuple (evs_cons nm (evs_cons nm evs_nil)) op_tuple) (op_mod_pos (Nat.le_trans hp.len (by decide)) hp.lo hp.hi))) ?_
  have fin : ∀ {σ : St} {w : Str} {as : List (Str × D)}, σ.heap = (i, .exc (.ref cE) ds (some as) none) :: H → lk (key "msg") σ.loc = some (.d (.str w)) → lk (key "self") σ.loc = some (.obj i) → Exs c (Sc c 38) n [] σ .next ⟨peLoc i w, (i, .exc (.ref cE) ds (some as) none) :: H⟩ := fun h1 h2 h3 => by
    have := exs_sub (c := c) (S := Sc c 38) (n := n) exs_nil (sub_list (SubL.cons h2 (SubL.cons h3 .nil)))
    rw [h1] at this; exact this
  cases hs with
  | str t =>
    refine exs_cons (if_t (ts_plain (ev_callb (gl hC G.isi) (evs_cons nm (evs_cons (gl hC G.str) evs_nil)) f_isstr) t_bool) (exs_cons (asg ev_str) exs_nil)) ?_
    refine exs_cons (sx_exc [("msg", .str m), ("pattern", .str t), ("pos", .int p), ("lineno", .int (lnOf (.str t) p))] hC (e_set hK) (e_tk hK (by decide)) (ev_binop (ev_meth nm gm_cntS (evs_cons nm (evs_cons ev_int (evs_cons nm evs_nil))) f_cntS) ev_int b_add) nm rfl (by kernel_rfl) (by show (3 : Nat) ≤ 900; decide)) ?_
    refine exs_cons (sx_exc (asE (.str t) m p) hC (e_set hK) (e_tk hK (by decide)) (ev_binop nm (ev_meth nm gm_rfS (evs_cons nm (evs_cons ev_int (evs_cons nm evs_nil))) f_rfS) b_sub) nm rfl (by kernel_rfl) (by show (4 : Nat) ≤ 900; decide)) ?_
    cases q : nlIn (.str t) with
    | true =>
      obtain ⟨n1, n2, n3, n4⟩ := hp.nl q
      refine exs_cons (if_t (ts_is (ts_cmp nm nm c_ins) q) (exs_cons (asg (ev_binop ev_str (ev_tuple (evs_cons nm (evs_cons (at_exc hC (e_at hK (by decide)) nm rfl (d := .int (lnOf (.str t) p)) (by kernel_rfl)) (evs_cons (at_exc hC (e_at hK (by decide)) nm rfl (d := .int (cnOf (.str t) p)) (by kernel_rfl)) evs_nil))) op_tuple) (op_mod_line hp.pl n1 n2 n3 n4))) exs_nil)) ?_
      have e : fullOf (.str t) m p = _ := if_pos q
      rw [e]
      refine fin (by rfl) ?_ ?_ <;> (repeat (first | with_reducible exact lk1 | with_reducible exact lk3 | with_reducible exact lk6 | with_reducible refine lk4 (by kernel_rfl) ?_ | with_reducible refine lk2 (by kernel_rfl) ?_ | with_reducible refine lk7 (by kernel_rfl) ?_ | with_reducible refine lk5 ?_))
    | false =>
      refine exs_cons (if_f (ts_is (ts_cmp nm nm c_ins) q) exs_nil) ?_
      have e : fullOf (.str t) m p = _ := if_neg (by rw [q]; exact Bool.noConfusion)
      rw [e]
      refine fin (by rfl) ?_ ?_ <;> (repeat (first | with_reducible exact lk1 | with_reducible exact lk3 | with_reducible exact lk6 | with_reducible refine lk4 (by kernel_rfl) ?_ | with_reducible refine lk2 (by kernel_rfl) ?_ | with_reducible refine lk7 (by kernel_rfl) ?_ | with_reducible refine lk5 ?_))
  | bytes b =>
    refine exs_cons (if_f (ts_plain (ev_callb (gl hC G.isi) (evs_cons nm (evs_cons (gl hC G.str) evs_nil)) f_isbytes) t_bool) (exs_cons (asg ev_bytes) exs_nil)) ?_
    refine exs_cons (sx_exc [("msg", .str m), ("pattern", .bytes b), ("pos", .int p), ("lineno", .int (lnOf (.bytes b) p))] hC (e_set hK) (e_tk hK (by decide)) (ev_binop (ev_meth nm gm_cntB (evs_cons nm (evs_cons ev_int (evs_cons nm evs_nil))) (f_cntB (by rfl))) ev_int b_add) nm rfl (by kernel_rfl) (by show (3 : Nat) ≤ 900; decide)) ?_
    refine exs_cons (sx_exc (asE (.bytes b) m p) hC (e_set hK) (e_tk hK (by decide)) (ev_binop nm (ev_meth nm gm_rfB (evs_cons nm (evs_cons ev_int (evs_cons nm evs_nil))) f_rfB) b_sub) nm rfl (by kernel_rfl) (by show (4 : Nat) ≤ 900; decide)) ?_
    cases q : nlIn (.bytes b) with
    | true =>
      obtain ⟨n1, n2, n3, n4⟩ := hp.nl q
      refine exs_cons (if_t (ts_is (ts_cmp nm nm (c_inB hc)) q) (exs_cons (asg (ev_binop ev_str (ev_tuple (evs_cons nm (evs_cons (at_exc hC (e_at hK (by decide)) nm rfl (d := .int (lnOf (.bytes b) p)) (by kernel_rfl)) (evs_cons (at_exc hC (e_at hK (by decide)) nm rfl (d := .int (cnOf (.bytes b) p)) (by kernel_rfl)) evs_nil))) op_tuple) (op_mod_line hp.pl n1 n2 n3 n4))) exs_nil)) ?_
      have e : fullOf (.bytes b) m p = _ := if_pos q
      rw [e]
      refine fin (by rfl) ?_ ?_ <;> (repeat (first | with_reducible exact lk1 | with_reducible exact lk3 | with_reducible exact lk6 | with_reducible refine lk4 (by kernel_rfl) ?_ | with_reducible refine lk2 (by kernel_rfl) ?_ | with_reducible refine lk7 (by kernel_rfl) ?_ | with_reducible refine lk5 ?_))
    | false =>
      refine exs_cons (if_f (ts_is (ts_cmp nm nm (c_inB hc)) q) exs_nil) ?_
      have e : fullOf (.bytes b) m p = _ := if_neg (by rw [q]; exact Bool.noConfusion)
      rw [e]
      refine fin (by rfl) ?_ ?_ <;> (repeat (first | with_reducible exact lk1 | with_reducible exact lk3 | with_reducible exact lk6 | with_reducible refine lk4 (by kernel_rfl) ?_ | with_reducible refine lk2 (by kernel_rfl) ?_ | with_reducible refine lk7 (by kernel_rfl) ?_ | with_reducible refine lk5 ?_))
end
end Mine
namespace Mine
open PySem PySem.W PyProof.Rows PySem.Calls PySem.Spec
section
variable {c : Cx} {n : Nat} {i : Nat} {H : List (Nat × HO)} {loc : List (Nat × V)} {src : D} {m : Str} {p : Int} {ds : List D} {b : Bool} {t : Str} {k : Nat} {nx : D}
theorem binds38 {s : Shared} {a b d e : Value} (h : s.heap.get? 30 = some { cls := .type "tuple", data := .seq #[.none, .none] }) : BindsTo s (fdAt (KK c) 38) ⟨[a, b, d, e], []⟩ ((["self", "msg", "pattern", "pos"] : List Str).zip [a, b, d, e]) := by
  have e0 : fdAt (KK c) 38 = { fdAt (KK c) 38 with params := mPrm PySem.Challenge.pw_kq0015_04 2 1, defaults := .ref 30, kwdefaults := .none } := by kernel_rfl
  rw [e0]
  exact BindsTo.of_defaults rfl h rfl rfl rfl
theorem pe_init (hC : CxOk c) (hK : c.K = KK c) (hP : c.prog = PRG) (G : GE c) (hc : c.calm = true) (hn : n ≤ 90) (hs : SrcOk src) (hp : PosOk src m p) :
    FnN c n 38 [.obj i, .d (.str m), .d src, .d (.int p)] ⟨loc, (i, .exc (.ref cE) ds none none) :: H⟩ (.d .none) ⟨loc, (i, .exc (.ref cE) [.str (fullOf src m p)] (some (asE src m p)) none) :: H⟩ := fun S₀ f F ω s R' vs R A kk => by
  have hvl : ∀ {Xs : List V} {us : List Value}, VRs c n ω Xs us → us.length = Xs.length := fun h => by
    induction h with
    | nil => rfl
    | cons _ _ ih => simp [ih]
  have hl := hvl A
  refine (fn_parts (K := KK c) (a := 38) (ps := ["self", "msg", "pattern", "pos"]) (by kernel_rfl)).call (vs := vs) hC hK (by lia) (fun x b hx => ?_) rfl (by decide) F R A ?_ fun f' s₀ m0 Mc ef F' R2 pop => ?_
  · have e : (fdAt (KK c) 38).closure = ([(("__class__" : Str), (25 : Addr))] : List (Str × Addr)) := by kernel_rfl
    rw [e] at hx
    have hb : b = 25 := by
      rw [List.lookup_cons] at hx
      split at hx
      · cases hx; rfl
      · cases hx
    subst hb
    obtain ⟨o1, o2, o3, q⟩ := (e_sup hK hP G).cell
    exact ⟨_, hC.kin _ _ q⟩
  · obtain ⟨a, b, d, e, rfl⟩ := len4 hl
    exact binds38 (R.keep _ _ (hC.kin _ _ (by rw [hK]; kernel_rfl)))
  · have hb : bodyAt (KK c) 38 = (bodyAt (KK c) 38).take 4 ++ (bodyAt (KK c) 38).drop 4 := (List.take_append_drop ..).symm
    generalize hB : bodyAt (KK c) 38 = B0 at hb ⊢
    have hpre := pe_pre (n := n + 1) (i := i) (H := H) (ds := ds) hC hK G hc hs hp
    rw [hB] at hpre
    conv => arg 4; arg 1; rw [hb]
    rw [execs_app]
    refine _root_.PySem.wpAt_bind (_root_.PySem.wpAt_of_wpAny (hpre f' F' ω s₀ _ _ R2 fun ω₁ G₁ s₁ e₁ R₁ q => ?_))
    cases q
    have hd : B0.drop 4 = (mBdy PySem.Challenge.pw_kq0015_04 2 1).drop 4 := by rw [← hB]; kernel_rfl
    show _root_.PySem.wpAt _ _ _ (execs (B0.drop 4) f'.env) _ _ _
    rw [hd]
    dsimp only [mBdy, fBdy, cBdy, PySem.Challenge.pw_kq0015_04, List.drop]
    refine ks_wpAt_execs_cons ?_
    have e1 : f'.env = callEnv (fdAt (KK c) 38) s.heap.objs.size 38 := by rw [ef]; rfl
    refine super_stmt (i := i) (sn := "self") (mn := "msg") (v0 := .str (fullOf src m p)) (args := ds) hC (e_sup hK hP G) F' (by rw [e1]; rfl) (by rw [e1]; show (fdAt (KK c) 38).code = _; kernel_rfl) (by rw [e1]; show (fdAt (KK c) 38).closure.lookup _ = _; kernel_rfl)
      (by kernel_rfl) (by kernel_rfl) (by kernel_rfl) nm R₁ (lk2 (H := H) (by kernel_rfl) (lk1 (H := H))) lk_head (fun env => ⟨_, rfl⟩) fun ω₂ s₂ e₂ R₃ => ?_
    refine _root_.PySem.wpAt_of_wpAny ?_
    refine wpAny_pure ?_
    rw [setH_head] at R₃
    exact kk ω₂ .none s₂ (e₁.trans e₂.down) (pop (e₁.trans e₂.down) R₃ (List.Sublist.refl _)) (.d .none)
noncomputable def tkOf0 (K : Frag) : Tok := match K.lookup 117 with
  | some ⟨_, _, .seq vs _, _⟩ => (match vs[0]? with | some (Value.int _ t) => t | _ => 0)
  | _ => 0
theorem k_tell (hK : c.K = KK c) : MethOk c.K cT "tell" 109 := by rw [hK]; exact ⟨by kernel_rfl, by kernel_rfl, by kernel_rfl⟩
theorem k_err (hK : c.K = KK c) : MethOk c.K cT "error" 124 := by rw [hK]; exact ⟨by kernel_rfl, by kernel_rfl, by kernel_rfl⟩
noncomputable def lenN : D → Nat
  | .str s => s.length
  | _ => 0
theorem tell_ok (hC : CxOk c) (hK : c.K = KK c) (G : GE c) (hn : n ≤ 80) (hi : lk i H = some (.inst cT (tokAs b src t k nx))) (hx : nx = .none ∨ ∃ s : Str, nx = .str s ∧ s.length ≤ 10) :
    FnN c n 109 [.obj i] ⟨loc, H⟩ (.d (.int ((k : Int) - lenN nx))) ⟨loc, H⟩ := by
  refine fn_at (S := Sc c 109) (ps := ["self"]) (T := []) (fl := .ret (.d (.int ((k : Int) - lenN nx)))) (loc := loc0 ["self"] [.obj i]) (σ := ⟨loc, H⟩) hC hK (by lia) (by kernel_rfl) (by decide) (fun vs hv => by obtain ⟨a, rfl⟩ := len1 hv; kernel_rfl) rfl rfl ?b .ret
  case b =>
  refine exs_body (body' := mBdy PySem.Challenge.pw_kq0015_04 16 7) ?_ (by kernel_rfl)
  dsimp only [mBdy, fBdy, cBdy, PySem.Challenge.pw_kq0015_04, List.drop]
  refine exs_stop (ex_ret (ev_binop (Y := .d (.int (lenN nx))) (ev_attr hC (k_attr hK (by decide)) nm hi (d := .int k) (by kernel_rfl)) ?_ b_sub))
  rcases hx with rfl | ⟨s, rfl, hs⟩
  · exact ev_callb (gl hC G.len) (evs_cons (ev_or (ev_attr hC (k_attr hK (by decide)) nm hi (d := .none) (by kernel_rfl)) t_none (fun h => nomatch h) (fun _ => ev_or1 ev_str)) evs_nil) (f_len_str (x := "") (by decide))
  · by_cases h0 : s.length = 0
    · have : s = "" := by
        obtain ⟨cp⟩ := s
        have : cp = #[] := Array.size_eq_zero_iff.mp h0
        subst this; rfl
      subst this
      exact ev_callb (gl hC G.len) (evs_cons (ev_or (ev_attr hC (k_attr hK (by decide)) nm hi (d := .str "") (by kernel_rfl)) (t_str (x := "") (by decide)) (fun h => nomatch h) (fun _ => ev_or1 ev_str)) evs_nil) (f_len_str (x := "") (by decide))
    · refine ev_callb (gl hC G.len) (evs_cons (ev_or (ev_attr hC (k_attr hK (by decide)) nm hi (d := .str s) (by kernel_rfl)) (t_str (by rw [sizeLine_eq]; lia)) (fun _ => ⟨rfl, rfl⟩) (fun h => ?_)) evs_nil) (f_len_str (x := s) (by lia))
      have : ((s.length : Int) != 0) = true := by simp; lia
      rw [this] at h; cases h
theorem k_err0 (hK : c.K = KK c) : c.K.lookup 117 = some { cls := .type "tuple", data := .seq #[.int 0 (tkOf0 (KK c))] } := by rw [hK]; kernel_rfl
theorem binds124 {s : Shared} {a d : Value} {z : Value} (h : s.heap.get? 117 = some { cls := .type "tuple", data := .seq #[z] }) : BindsTo s (fdAt (KK c) 124) ⟨[a, d], []⟩ ((["self", "msg", "offset"] : List Str).zip [a, d, z]) := by
  have e0 : fdAt (KK c) 124 = { fdAt (KK c) 124 with params := mPrm PySem.Challenge.pw_kq0015_04 16 9, defaults := .ref 117, kwdefaults := .none } := by kernel_rfl
  rw [e0]
  exact BindsTo.of_defaults rfl h rfl rfl rfl
theorem binds124' {s : Shared} {a d e z : Value} (h : s.heap.get? 117 = some { cls := .type "tuple", data := .seq #[z] }) : BindsTo s (fdAt (KK c) 124) ⟨[a, d, e], []⟩ ((["self", "msg", "offset"] : List Str).zip [a, d, e]) := by
  have e0 : fdAt (KK c) 124 = { fdAt (KK c) 124 with params := mPrm PySem.Challenge.pw_kq0015_04 16 9, defaults := .ref 117, kwdefaults := .none } := by kernel_rfl
  rw [e0]
  exact BindsTo.of_defaults rfl h rfl rfl rfl
theorem err_body {off : Int} (hC : CxOk c) (hK : c.K = KK c) (hP : c.prog = PRG) (G : GE c) (hc : c.calm = true) (hn : n ≤ 70) (hs : SrcOk src) (hb : b = true ∨ Asc m ∧ 0 < m.length) (hi : lk i H = some (.inst cT (tokAs b src t k nx))) (hx : nx = .none ∨ ∃ s : Str, nx = .str s ∧ s.length ≤ 10)
    (hp : p = (k : Int) - lenN nx - off) (ok : PosOk src m p) (hf1 : lk ((n + 1) * 1000) H = none) (hf2 : lk FI H = none) :
    ExsX c (Sc c 124) n (bodyAt (KK c) 124) ⟨loc0 ["self", "msg", "offset"] [.obj i, .d (.str m), .d (.int off)], H⟩ (excE src m p) ⟨loc0 ["self", "msg", "offset"] [.obj i, .d (.str m), .d (.int off)], H⟩ := by
  have e0 : bodyAt (KK c) 124 = mBdy PySem.Challenge.pw_kq0015_04 16 9 := by kernel_rfl
  rw [e0]
  dsimp only [mBdy, fBdy, cBdy, PySem.Challenge.pw_kq0015_04, List.drop]
  refine exsx_next (σ₁ := ⟨loc0 ["self", "msg", "offset"] [.obj i, .d (.str m), .d (.int off)], H⟩) ?a (exsx_ret ?r)
  case a =>
    cases b with
    | true => exact if_f (ts_not (b := true) (ts_plain (ev_attr hC (k_attr hK (by decide)) nm hi (d := .bool true) (by kernel_rfl)) t_bool)) exs_nil
    | false =>
      obtain ⟨h1, h2⟩ := hb.resolve_left (fun h => nomatch h)
      have hm : m.length ≤ 1000 := ok.len
      refine if_t (ts_not (b := false) (ts_plain (ev_attr hC (k_attr hK (by decide)) nm hi (d := .bool false) (by kernel_rfl)) t_bool)) ?_
      have hsz : (ascB m).size = m.length := by unfold ascB; rw [Array.size_map]; rfl
      have z := f_decode (c := c) (n := n) (σ := ⟨loc0 ["self", "msg", "offset"] [.obj i, .d (.str m), .d (.int off)], H⟩) (b := ascB m) (by lia) (by lia) (asc_ok h1)
      rw [latin_asc h1] at z
      exact exs_sub (exs_cons (asg (ev_meth (ev_meth nm gm_encode (evs_cons ev_str (evs_cons ev_str evs_nil)) (f_encode h1 h2 (by lia))) gm_decode (evs_cons ev_str evs_nil) z)) exs_nil) (sub_pick (by kernel_rfl))
  case r =>
    subst hp
    refine evx_new (g := 38) (ds := [.str m, src, .int ((k : Int) - lenN nx - off)]) hC (by lia) (e_cls hK) (by rw [hK]; kernel_rfl) (by rw [hK]; kernel_rfl) (by rw [hK]; kernel_rfl) (gl hC G.ec) (evs_cons nm (evs_cons (ev_attr hC (k_attr hK (by decide)) nm hi (d := src) (by kernel_rfl)) (evs_cons (ev_binop (ev_methf0 hC (kp hK (by kernel_rfl)) nm (getm_inst hC (k_tell hK) hi (by kernel_rfl)) (opn_fn (tell_ok hC hK G (by lia) hi hx))) nm b_sub) evs_nil))) (by show (3 : Nat) ≤ 100; decide) hf1 hf2 ?_
    exact pe_init hC hK hP G hc (by lia) hs ok
end
end Mine
namespace Mine
open PySem PySem.W PyProof.Rows PySem.Calls PySem.Spec
variable {c : Cx} {S : Scope} {n : Nat} {σ σ' σ₁ σ₂ : St} {Xs Xs0 : List V} {H : List (Nat × HO)} {loc : List (Nat × V)} {Wx : Exn}
theorem fnx_at {K : Frag} {a : Addr} {ps : List Str} (hC : CxOk c) (hK : c.K = K) (hn : n ≤ 100) (hok : fnOk K a ps = true) (hps : ps.Nodup)
    (hbind : ∀ ω us (s : Shared), (∀ b o, c.base.get? b = some o → s.heap.get? b = some o) → VRs c n ω Xs0 us → ∃ vs, VRs c n ω Xs vs ∧ BindsTo s (fdAt K a) ⟨us, []⟩ (ps.zip vs)) (hlen : ps.length = Xs.length)
    (hbody : ExsX c (scAt K a) (n + 1) (bodyAt K a) ⟨loc0 ps Xs, σ.heap⟩ Wx ⟨loc, H⟩) : FnX c n a Xs0 σ Wx ⟨σ.loc, H⟩ := fun S₀ f F ω s R' us R A k => by
  obtain ⟨hok, h6⟩ := Bool.and_eq_true_iff.mp hok
  obtain ⟨vs, V, B⟩ := hbind ω us s R.keep A
  refine (fn_parts hok).call (vs := vs) hC hK hn (no_closure h6) hlen hps F R V B fun f' s₀ m Mc _ F' R' pop => ?_
  refine _root_.PySem.wpAt_of_wpAny (hbody f' F' ω _ _ _ R' fun ω' v s' e' Y => ?_)
  obtain ⟨e, h1, h2, RR⟩ := Y
  exact k ω' v s' e' ⟨e, h1, h2, pop (H := (FI, .exc Wx.cls Wx.args Wx.as none) :: H) e' RR (List.Sublist.refl _)⟩
noncomputable def ascOk (m : Str) : Bool := m.cps.all (fun a => decide (a < 128)) && decide (0 < m.length) && decide (m.length ≤ 1000)
theorem ascOk_asc {m : Str} (h : ascOk m = true) : Asc m ∧ 0 < m.length ∧ m.length ≤ 1000 := by
  unfold ascOk at h
  simp only [Bool.and_eq_true, decide_eq_true_eq] at h
  refine ⟨fun a ha => ?_, h.1.2, h.2⟩
  have z := Array.all_eq_true'.mp h.1.1 a ha
  simpa using z
end Mine
namespace Mine
open PySem PySem.W PyProof.Rows PySem.Calls PySem.Spec
section
variable {c : Cx} {n : Nat} {i : Nat} {H : List (Nat × HO)} {loc : List (Nat × V)} {src : D} {m : Str} {p : Int} {ds : List D} {b : Bool} {t : Str} {k : Nat} {nx : D}
structure ErrOk (n i : Nat) (b : Bool) (src : D) (t : Str) (k : Nat) (nx : D) (H : List (Nat × HO)) (m : Str) (p : Int) : Prop where
  sk : SrcOk src
  asc : b = true ∨ Asc m ∧ 0 < m.length
  tok : lk i H = some (.inst cT (tokAs b src t k nx))
  nk : nx = .none ∨ ∃ s : Str, nx = .str s ∧ s.length ≤ 10
  pos : PosOk src m p
  f1 : lk ((n + 2) * 1000) H = none
  f2 : lk FI H = none
theorem err1 (hC : CxOk c) (hK : c.K = KK c) (hP : c.prog = PRG) (G : GE c) (hc : c.calm = true) (hn : n ≤ 60) (ok : ErrOk n i b src t k nx H m p) (hp : p = (k : Int) - lenN nx) : FnX c n 124 [.obj i, .d (.str m)] ⟨loc, H⟩ (excE src m p) ⟨loc, H⟩ :=
  fnx_at (σ := ⟨loc, H⟩) (ps := ["self", "msg", "offset"]) (Xs := [.obj i, .d (.str m), .d (.int 0)]) hC hK (by lia) (by kernel_rfl) (by decide) (fun ω us s hk A => by
    have h117 := hk _ _ (hC.kin _ _ (k_err0 hK))
    cases A with
    | cons a A =>
      cases A with
      | cons d A =>
        cases A
        exact ⟨_, .cons a (.cons d (.cons (.d (.int 0 _)) .nil)), binds124 h117⟩) rfl
    (err_body (n := n + 1) hC hK hP G hc (by lia) ok.sk ok.asc ok.tok ok.nk (by rw [hp]; lia) ok.pos ok.f1 ok.f2)
theorem err2 {off : Int} (hC : CxOk c) (hK : c.K = KK c) (hP : c.prog = PRG) (G : GE c) (hc : c.calm = true) (hn : n ≤ 60) (ok : ErrOk n i b src t k nx H m p) (hp : p = (k : Int) - lenN nx - off) : FnX c n 124 [.obj i, .d (.str m), .d (.int off)] ⟨loc, H⟩ (excE src m p) ⟨loc, H⟩ :=
  fnx_at (σ := ⟨loc, H⟩) (ps := ["self", "msg", "offset"]) (Xs := [.obj i, .d (.str m), .d (.int off)]) hC hK (by lia) (by kernel_rfl) (by decide) (fun ω us s hk A => by
    have h117 := hk _ _ (hC.kin _ _ (k_err0 hK))
    have A' := A
    cases A with
    | cons a A =>
      cases A with
      | cons d A =>
        cases A with
        | cons e A =>
          cases A
          exact ⟨_, A', binds124' h117⟩) rfl
    (err_body (n := n + 1) hC hK hP G hc (by lia) ok.sk ok.asc ok.tok ok.nk hp ok.pos ok.f1 ok.f2)
variable {S : Scope} {σ : St} {y : Str} {em eo : Expr} {sp ap cp rp : Pos}
theorem rz1 (hC : CxOk c) (hK : c.K = KK c) (hP : c.prog = PRG) (G : GE c) (hc : c.calm = true) (hn : n ≤ 60) (ok : ErrOk n i b src t k nx σ.heap m p) (hp : p = (k : Int) - lenN nx) (h1 : Ev c S n (.Name y sp) σ (.obj i) σ) (h2 : Ev c S n em σ (.d (.str m)) σ) (hs : notStar em = true := by rfl)
    (hc' : ∀ env, ∃ pl, eval (.Call (.Attribute (.Name y sp) "error" ap) [em] [] cp) env = (do
          let ov ← eval (.Name y sp) env
          standAt ap.atName
          let __x ← holding [ov] (getMethod ov "error" pl)
          match __x with
            | (f, first) => callWith cp f first (backTo cp (starEach [em] env)) []) := by intro _; exact ⟨_, rfl⟩) : ExR c S n (.Raise (some (.Call (.Attribute (.Name y sp) "error" ap) [em] [] cp)) none rp) σ (excE src m p) σ :=
  exr_raise_own hc hC (e_ok hK) rfl (evx_methf hC (kp hK (by kernel_rfl)) h1 (getm_inst hC (k_err hK) ok.tok (by kernel_rfl)) (evs_cons h2 evs_nil hs) (opx_fn (err1 (loc := σ.loc) hC hK hP G hc hn ok hp)) hs rfl hc')
theorem rz2 {off : Int} (hC : CxOk c) (hK : c.K = KK c) (hP : c.prog = PRG) (G : GE c) (hc : c.calm = true) (hn : n ≤ 60) (ok : ErrOk n i b src t k nx σ.heap m p) (hp : p = (k : Int) - lenN nx - off) (h1 : Ev c S n (.Name y sp) σ (.obj i) σ) (h2 : Ev c S n em σ (.d (.str m)) σ) (h3 : Ev c S n eo σ (.d (.int off)) σ) (hs : notStar em = true := by rfl) (hs2 : notStar eo = true := by rfl)
    (hc' : ∀ env, ∃ pl, eval (.Call (.Attribute (.Name y sp) "error" ap) [em, eo] [] cp) env = (do
          let ov ← eval (.Name y sp) env
          standAt ap.atName
          let __x ← holding [ov] (getMethod ov "error" pl)
          match __x with
            | (f, first) => callWith cp f first (backTo cp (starEach [em, eo] env)) []) := by intro _; exact ⟨_, rfl⟩) : ExR c S n (.Raise (some (.Call (.Attribute (.Name y sp) "error" ap) [em, eo] [] cp)) none rp) σ (excE src m p) σ :=
  exr_raise_own hc hC (e_ok hK) rfl (evx_methf hC (kp hK (by kernel_rfl)) h1 (getm_inst hC (k_err hK) ok.tok (by kernel_rfl)) (evs_cons h2 (evs_cons h3 evs_nil hs2) hs) (opx_fn (err2 (loc := σ.loc) hC hK hP G hc hn ok hp)) hs (by simp [hs2]) hc')
end
end Mine
namespace Mine
open PySem PySem.W PyProof.Rows
theorem half_sub {x m : Nat} (h : m ≤ x) (hp : m % 2 ≤ x % 2) : (x - m) / 2 = x / 2 - m / 2 := by lia
theorem nat_sub_and : ∀ (j x n : Nat), (x - (x &&& n)).testBit j = (x.testBit j && !n.testBit j) := by
  intro j
  induction j with
  | zero =>
    intro x n
    have h1 : (x &&& n) ≤ x := Nat.and_le_left
    have h2 := Nat.testBit_and x n 0
    simp only [Nat.testBit_zero] at h2 ⊢
    have hx := Nat.mod_two_eq_zero_or_one x
    have hn := Nat.mod_two_eq_zero_or_one n
    have hm := Nat.mod_two_eq_zero_or_one (x &&& n)
    rcases hx with hx | hx <;> rcases hn with hn | hn <;> rcases hm with hm | hm <;> simp [hx, hn, hm] at h2 ⊢ <;> lia
  | succ j ih =>
    intro x n
    rw [Nat.testBit_succ, Nat.testBit_succ, Nat.testBit_succ, ← ih]
    congr 1
    have h1 : (x &&& n) ≤ x := Nat.and_le_left
    have h2 := Nat.testBit_and x n 0
    have h3 : (x &&& n) / 2 = x / 2 &&& n / 2 := Nat.and_div_two
    simp only [Nat.testBit_zero] at h2
    have hx := Nat.mod_two_eq_zero_or_one x
    have hm := Nat.mod_two_eq_zero_or_one (x &&& n)
    rw [← h3]
    have hp : (x &&& n) % 2 ≤ x % 2 := by
      rcases hx with hx | hx <;> rcases hm with hm | hm <;> rw [hx, hm] <;> first | decide | (exfalso; simp [hx, hm] at h2)
    exact half_sub h1 hp
noncomputable def tb (x : Int) (j : Nat) : Bool := match decide (0 ≤ x) with
  | true => x.toNat.testBit j
  | false => !(Builtin.bitNot x).toNat.testBit j
theorem tb_pos {x : Int} {j : Nat} (h : 0 ≤ x) : tb x j = x.toNat.testBit j := by unfold tb; rw [decide_eq_true h]
theorem tb_neg {x : Int} {j : Nat} (h : ¬ 0 ≤ x) : tb x j = !(Builtin.bitNot x).toNat.testBit j := by unfold tb; rw [decide_eq_false h]
theorem tb_nat {n j : Nat} : tb (n : Int) j = n.testBit j := by rw [tb_pos (by lia)]; rfl
theorem tb_not {x : Int} {j : Nat} : tb (Builtin.bitNot x) j = !tb x j := by
  by_cases h : 0 ≤ x
  · rw [tb_pos h, tb_neg (by unfold Builtin.bitNot; lia)]
    rw [show Builtin.bitNot (Builtin.bitNot x) = x by unfold Builtin.bitNot; lia]
  · rw [tb_neg h, tb_pos (by unfold Builtin.bitNot; lia), Bool.not_not]
theorem tb_and {x y : Int} {j : Nat} : tb (Builtin.bitAnd x y) j = (tb x j && tb y j) := by
  have sub : ∀ (a b : Nat), tb ((a : Int) - ((a &&& b : Nat) : Int)) j = (a.testBit j && !b.testBit j) := fun a b => by
    have h1 : (a &&& b) ≤ a := Nat.and_le_left
    rw [show (a : Int) - ((a &&& b : Nat) : Int) = ((a - (a &&& b) : Nat) : Int) by lia, tb_nat, nat_sub_and]
  unfold Builtin.bitAnd
  by_cases hx : 0 ≤ x <;> by_cases hy : 0 ≤ y
  · rw [decide_eq_true hx, decide_eq_true hy, tb_pos hx, tb_pos hy]
    dsimp only
    rw [tb_nat, Nat.testBit_and]
  · rw [decide_eq_true hx, decide_eq_false hy, tb_pos hx, tb_neg hy]
    dsimp only
    have e : x = (x.toNat : Int) := by lia
    rw [show x - ((x.toNat &&& (Builtin.bitNot y).toNat : Nat) : Int) = (x.toNat : Int) - ((x.toNat &&& (Builtin.bitNot y).toNat : Nat) : Int) by lia, sub]
  · rw [decide_eq_false hx, decide_eq_true hy, tb_neg hx, tb_pos hy]
    dsimp only
    rw [show y - ((y.toNat &&& (Builtin.bitNot x).toNat : Nat) : Int) = (y.toNat : Int) - ((y.toNat &&& (Builtin.bitNot x).toNat : Nat) : Int) by lia, sub, Bool.and_comm]
  · rw [decide_eq_false hx, decide_eq_false hy, tb_neg hx, tb_neg hy]
    dsimp only
    rw [tb_not, tb_nat, Nat.testBit_or, Bool.not_or]
theorem bitOr_def {x y : Int} : Builtin.bitOr x y = Builtin.bitNot (Builtin.bitAnd (Builtin.bitNot x) (Builtin.bitNot y)) := by
  rfl
theorem tb_or {x y : Int} {j : Nat} : tb (Builtin.bitOr x y) j = (tb x j || tb y j) := by
  rw [bitOr_def, tb_not, tb_and, tb_not, tb_not]; cases tb x j <;> cases tb y j <;> rfl
theorem tb_ext {x y : Int} (h : ∀ j, tb x j = tb y j) : x = y := by
  have big : ∀ a b : Nat, ∃ j, a.testBit j = false ∧ b.testBit j = false := fun a b =>
    ⟨max a b, Nat.testBit_lt_two_pow (Nat.lt_of_le_of_lt (Nat.le_max_left ..) Nat.lt_two_pow_self), Nat.testBit_lt_two_pow (Nat.lt_of_le_of_lt (Nat.le_max_right ..) Nat.lt_two_pow_self)⟩
  by_cases hx : 0 ≤ x <;> by_cases hy : 0 ≤ y
  · have : x.toNat = y.toNat := Nat.eq_of_testBit_eq fun j => by rw [← tb_pos hx, ← tb_pos hy]; exact h j
    lia
  · obtain ⟨j, h1, h2⟩ := big x.toNat (Builtin.bitNot y).toNat
    have := h j
    rw [tb_pos hx, tb_neg hy, h1, h2] at this; cases this
  · obtain ⟨j, h1, h2⟩ := big (Builtin.bitNot x).toNat y.toNat
    have := h j
    rw [tb_neg hx, tb_pos hy, h1, h2] at this; cases this
  · have : (Builtin.bitNot x).toNat = (Builtin.bitNot y).toNat := Nat.eq_of_testBit_eq fun j => by
      have := h j
      rw [tb_neg hx, tb_neg hy] at this
      simpa using this
    unfold Builtin.bitNot at this
    lia
theorem tb_zero {j : Nat} : tb 0 j = false := by rw [show (0 : Int) = ((0 : Nat) : Int) from rfl, tb_nat]; simp
end Mine
namespace Mine
open PySem PySem.W PyProof.Rows PySem.Calls PySem.Spec
noncomputable abbrev ch1 (c : Nat) : Str := ⟨#[c]⟩
noncomputable def flg (x : Nat) : Int := if x = 105 then 2 else if x = 76 then 4 else if x = 109 then 8 else if x = 115 then 16 else if x = 117 then 32 else if x = 120 then 64 else if x = 97 then 256 else 0
noncomputable def ownN (b : Bool) : Nat := if b then 117 else 76
noncomputable def orB (w : List Nat) (a : Int) : Int := w.foldl (fun a x => Builtin.bitOr a (flg x)) a
theorem and_or_dist {a b m : Int} : Builtin.bitAnd (Builtin.bitOr a b) m = Builtin.bitOr (Builtin.bitAnd a m) (Builtin.bitAnd b m) := tb_ext fun j => by
  rw [tb_and, tb_or, tb_or, tb_and, tb_and]; cases tb a j <;> cases tb b j <;> cases tb m j <;> rfl
theorem zero_or {a : Int} : Builtin.bitOr 0 a = a := tb_ext fun j => by rw [tb_or, tb_zero, Bool.false_or]
theorem and_zero {a : Int} : Builtin.bitAnd a 0 = 0 := tb_ext fun j => by rw [tb_and, tb_zero, Bool.and_false]
theorem con1 {x : Str} {c : Nat} : Txt.contains x (ch1 c) = decide (c ∈ x.cps.toList) := PySem.StrLaws.found_one x c
end Mine
namespace Mine
open PySem PySem.W PyProof.Rows PySem.Calls PySem.Spec
noncomputable abbrev M_L : Str := "bad inline flags: cannot use 'L' flag with a str pattern"
noncomputable abbrev M_u : Str := "bad inline flags: cannot use 'u' flag with a bytes pattern"
noncomputable abbrev M_cl : Str := "bad inline flags: flags 'a', 'u' and 'L' are incompatible"
noncomputable abbrev M_off : Str := "bad inline flags: cannot turn off flags 'a', 'u' and 'L'"
noncomputable abbrev M_tw : Str := "bad inline flags: flag turned on and off"
noncomputable abbrev M_1 : Str := "missing -, : or )"
noncomputable abbrev M_2 : Str := "missing flag"
noncomputable abbrev M_3 : Str := "missing :"
noncomputable abbrev M_un : Str := "unknown flag"
noncomputable def onChk (b : Bool) (c : Str) (fl acc : Int) : Option Str :=
  if (b && c == "L") = true then some M_L else if (!b && c == "u") = true then some M_u else
  if ((Builtin.bitAnd fl 292 != 0) && (Builtin.bitAnd (Builtin.bitOr acc fl) 292 != fl)) = true then some M_cl else none
noncomputable def unk (c : Str) (m : Str) : Str := if Txt.isalpha c then M_un else m
noncomputable def onR (b : Bool) : List Str → Str → Int → (Str × Nat × List Str) ⊕ (Str × Int × List Str)
  | [], c, acc => match flagOf c with
    | none => .inl (M_1, 0, [])
    | some fl => match onChk b c fl acc with
      | some m => .inl (m, 0, [])
      | none => .inl (M_1, 0, [])
  | c2 :: L, c, acc => match flagOf c with
    | none => .inl (M_1, 0, c2 :: L)
    | some fl => match onChk b c fl acc with
      | some m => .inl (m, 0, c2 :: L)
      | none => if Txt.contains ")-:" c2 then .inr (c2, Builtin.bitOr acc fl, L) else if (flagOf c2).isSome then onR b L c2 (Builtin.bitOr acc fl) else .inl (unk c2 M_1, c2.length, L)
noncomputable def offR : List Str → Str → Int → (Str × Nat × List Str) ⊕ (Int × List Str)
  | [], c, acc => match flagOf c with
    | none => .inl (M_3, 0, [])
    | some fl => if (Builtin.bitAnd fl 292 != 0) = true then .inl (M_off, 0, []) else .inl (M_3, 0, [])
  | c2 :: L, c, acc => match flagOf c with
    | none => .inl (M_3, 0, c2 :: L)
    | some fl => if (Builtin.bitAnd fl 292 != 0) = true then .inl (M_off, 0, c2 :: L) else
      if (c2 == ":") = true then .inr (Builtin.bitOr acc fl, L) else if (flagOf c2).isSome then offR L c2 (Builtin.bitOr acc fl) else .inl (unk c2 M_3, c2.length, L)
inductive PfR where
  | err (m : Str) (k : Nat) (L : List Str)
  | ok (res : D) (add : Option Int) (L : List Str)
noncomputable def offE (acc : Int) : List Str → PfR
  | [] => .err M_2 0 []
  | c2 :: L => if (flagOf c2).isSome then (match offR L c2 0 with
    | .inl (m, k, L2) => .err m k L2
    | .inr (del, L2) => if (Builtin.bitAnd acc del != 0) = true then .err M_tw 1 L2 else .ok (.tup [.int acc, .int del]) none L2) else .err (unk c2 M_2) c2.length L
noncomputable def endR (c1 : Str) (acc : Int) (L : List Str) : PfR :=
  if (c1 == ")") = true then .ok .none (some acc) L else if (c1 == "-") = true then offE acc L else .ok (.tup [.int acc, .int 0]) none L
noncomputable def pfR (b : Bool) (ch : Str) (L : List Str) : PfR := if (ch == "-") = true then offE 0 L else match onR b L ch 0 with
  | .inl (m, k, L1) => .err m k L1
  | .inr (c1, acc, L1) => endR c1 acc L1
noncomputable def IsTok (s : Str) : Prop := (∃ a, a ≠ 92 ∧ s = ⟨#[a]⟩) ∨ ∃ d, s = ⟨#[92, d]⟩
theorem IsTok.len {s : Str} (h : IsTok s) : 0 < s.length ∧ s.length ≤ 2 := by
  rcases h with ⟨a, _, rfl⟩ | ⟨d, rfl⟩
  · exact ⟨Nat.one_pos, by show 1 ≤ 2; decide⟩
  · exact ⟨Nat.two_pos, Nat.le_refl 2⟩
theorem con_two {d : Nat} : Txt.contains ")-:" ⟨#[92, d]⟩ = false := by
  cases q : Txt.contains ")-:" ⟨#[92, d]⟩ with
  | false => rfl
  | true =>
    obtain ⟨i, h1, h2⟩ := (PySem.StrLaws.found_iff ")-:" ⟨#[92, d]⟩).mp q
    have hl : i + 2 ≤ 3 := h1
    have hi : i = 0 ∨ i = 1 := by lia
    unfold Builtin.Str.subAt at h2
    have e := eq_of_beq h2
    have e0 := congrArg (fun a : Array Nat => a.toList.head?) e
    rcases hi with rfl | rfl
    · exact absurd e0 (by show ¬ ((#[41, 45, 58] : Array Nat).extract 0 2).toList.head? = some 92; decide)
    · exact absurd e0 (by show ¬ ((#[41, 45, 58] : Array Nat).extract 1 3).toList.head? = some 92; decide)
theorem con_tok {s : Str} (h : IsTok s) : Txt.contains ")-:" s = true ↔ s = ")" ∨ s = "-" ∨ s = ":" := by
  rcases h with ⟨a, h92, rfl⟩ | ⟨d, rfl⟩
  · rw [show Txt.contains ")-:" ⟨#[a]⟩ = decide (a ∈ (")-:" : Str).cps.toList) from con1]
    have e : (")-:" : Str).cps.toList = [41, 45, 58] := by kernel_rfl
    rw [e, decide_eq_true_eq]
    have one : ∀ (x : Str) (k : Nat), x = ⟨#[k]⟩ → ((⟨#[a]⟩ : Str) = x ↔ a = k) := fun x k hx => by
      subst hx
      constructor
      · intro q
        have := congrArg (fun s : Str => s.cps.toList) q
        simpa using this
      · rintro rfl; rfl
    rw [one ")" 41 (by kernel_rfl), one "-" 45 (by kernel_rfl), one ":" 58 (by kernel_rfl)]
    simp
  · rw [con_two]
    constructor
    · intro h; cases h
    · intro h
      have hl : (2 : Nat) = 1 := by
        rcases h with h | h | h <;> exact congrArg Str.length h
      cases hl
end Mine
namespace Mine
open PySem PySem.W PyProof.Rows PySem.Calls PySem.Spec
variable {b : Bool} {c2 c1 ch m : Str} {L L1 : List Str} {a0 acc : Int} {k : Nat}
theorem onChk_none {flg : Int} (hk : onChk b ch flg a0 = none) : (b && ch == "L") = false ∧ (!b && ch == "u") = false ∧ ((Builtin.bitAnd flg 292 != 0) && (Builtin.bitAnd (Builtin.bitOr a0 flg) 292 != flg)) = false := by
  unfold onChk at hk
  by_cases q1 : (b && ch == "L") = true
  · rw [if_pos q1] at hk; cases hk
  rw [if_neg q1] at hk
  by_cases q2 : (!b && ch == "u") = true
  · rw [if_pos q2] at hk; cases hk
  rw [if_neg q2] at hk
  by_cases q3 : ((Builtin.bitAnd flg 292 != 0) && (Builtin.bitAnd (Builtin.bitOr a0 flg) 292 != flg)) = true
  · rw [if_pos q3] at hk; cases hk
  exact ⟨eq_false_of_ne_true q1, eq_false_of_ne_true q2, eq_false_of_ne_true q3⟩
theorem onR_nil : ¬ onR b [] ch a0 = .inr (c1, acc, L1) := by
  intro h
  unfold onR at h
  cases q : flagOf ch with
  | none => rw [q] at h; cases h
  | some fl =>
    rw [q] at h
    dsimp only at h
    cases q2 : onChk b ch fl a0 with
    | none => rw [q2] at h; cases h
    | some m => rw [q2] at h; cases h
theorem onR_inr (h : onR b (c2 :: L) ch a0 = .inr (c1, acc, L1)) : ∃ flg, flagOf ch = some flg ∧ onChk b ch flg a0 = none ∧ ((Txt.contains ")-:" c2 = true ∧ c1 = c2 ∧ acc = Builtin.bitOr a0 flg ∧ L1 = L) ∨ (Txt.contains ")-:" c2 = false ∧ (flagOf c2).isSome = true ∧ onR b L c2 (Builtin.bitOr a0 flg) = .inr (c1, acc, L1))) := by
  unfold onR at h
  cases q : flagOf ch with
  | none => rw [q] at h; cases h
  | some fl =>
    rw [q] at h
    dsimp only at h
    cases q2 : onChk b ch fl a0 with
    | some m => rw [q2] at h; cases h
    | none =>
      rw [q2] at h
      dsimp only at h
      refine ⟨fl, rfl, q2, ?_⟩
      cases q3 : Txt.contains ")-:" c2 with
      | true => rw [if_pos q3] at h; cases h; exact .inl ⟨rfl, rfl, rfl, rfl⟩
      | false =>
        rw [if_neg (by rw [q3]; exact Bool.false_ne_true)] at h
        cases q4 : (flagOf c2).isSome with
        | true => rw [if_pos q4] at h; exact .inr ⟨rfl, rfl, h⟩
        | false => rw [if_neg (by rw [q4]; exact Bool.false_ne_true)] at h; cases h
theorem onR_end (hs : (flagOf ch).isSome = true) (h : onR b [] ch a0 = .inl (m, k, L1)) : ∃ flg, flagOf ch = some flg ∧ ((onChk b ch flg a0 = some m ∧ k = 0 ∧ L1 = []) ∨ (onChk b ch flg a0 = none ∧ m = M_1 ∧ k = 0 ∧ L1 = [])) := by
  unfold onR at h
  cases q : flagOf ch with
  | none => rw [q] at hs; cases hs
  | some fl =>
    rw [q] at h
    dsimp only at h
    refine ⟨fl, rfl, ?_⟩
    cases q2 : onChk b ch fl a0 with
    | some m => rw [q2] at h; cases h; exact .inl ⟨rfl, rfl, rfl⟩
    | none => rw [q2] at h; cases h; exact .inr ⟨rfl, rfl, rfl, rfl⟩
theorem onR_inl (hs : (flagOf ch).isSome = true) (h : onR b (c2 :: L) ch a0 = .inl (m, k, L1)) : ∃ flg, flagOf ch = some flg ∧ ((onChk b ch flg a0 = some m ∧ k = 0 ∧ L1 = c2 :: L) ∨ (onChk b ch flg a0 = none ∧ Txt.contains ")-:" c2 = false ∧ (((flagOf c2).isSome = true ∧ onR b L c2 (Builtin.bitOr a0 flg) = .inl (m, k, L1)) ∨ ((flagOf c2).isSome = false ∧ m = unk c2 M_1 ∧ k = c2.length ∧ L1 = L)))) := by
  unfold onR at h
  cases q : flagOf ch with
  | none => rw [q] at hs; cases hs
  | some fl =>
    rw [q] at h
    dsimp only at h
    refine ⟨fl, rfl, ?_⟩
    cases q2 : onChk b ch fl a0 with
    | some m => rw [q2] at h; cases h; exact .inl ⟨rfl, rfl, rfl⟩
    | none =>
      rw [q2] at h
      dsimp only at h
      refine .inr ⟨rfl, ?_⟩
      cases q3 : Txt.contains ")-:" c2 with
      | true => rw [if_pos q3] at h; cases h
      | false =>
        rw [if_neg (by rw [q3]; exact Bool.false_ne_true)] at h
        refine ⟨rfl, ?_⟩
        cases q4 : (flagOf c2).isSome with
        | true => rw [if_pos q4] at h; exact .inl ⟨rfl, h⟩
        | false => rw [if_neg (by rw [q4]; exact Bool.false_ne_true)] at h; cases h; exact .inr ⟨rfl, rfl, rfl, rfl⟩
theorem offR_nil : ¬ offR [] ch a0 = .inr (acc, L1) := by
  intro h
  unfold offR at h
  cases q : flagOf ch with
  | none => rw [q] at h; cases h
  | some fl =>
    rw [q] at h
    dsimp only at h
    by_cases q2 : (Builtin.bitAnd fl 292 != 0) = true
    · rw [if_pos q2] at h; cases h
    · rw [if_neg q2] at h; cases h
theorem offR_inr (h : offR (c2 :: L) ch a0 = .inr (acc, L1)) : ∃ flg, flagOf ch = some flg ∧ (Builtin.bitAnd flg 292 != 0) = false ∧ (((c2 == ":") = true ∧ acc = Builtin.bitOr a0 flg ∧ L1 = L) ∨ ((c2 == ":") = false ∧ (flagOf c2).isSome = true ∧ offR L c2 (Builtin.bitOr a0 flg) = .inr (acc, L1))) := by
  unfold offR at h
  cases q : flagOf ch with
  | none => rw [q] at h; cases h
  | some fl =>
    rw [q] at h
    dsimp only at h
    cases q2 : Builtin.bitAnd fl 292 != 0 with
    | true => rw [if_pos q2] at h; cases h
    | false =>
      rw [if_neg (by rw [q2]; exact Bool.false_ne_true)] at h
      refine ⟨fl, rfl, q2, ?_⟩
      cases q3 : c2 == ":" with
      | true => rw [if_pos q3] at h; cases h; exact .inl ⟨rfl, rfl, rfl⟩
      | false =>
        rw [if_neg (by rw [q3]; exact Bool.false_ne_true)] at h
        cases q4 : (flagOf c2).isSome with
        | true => rw [if_pos q4] at h; exact .inr ⟨rfl, rfl, h⟩
        | false => rw [if_neg (by rw [q4]; exact Bool.false_ne_true)] at h; cases h
theorem offR_end (hs : (flagOf ch).isSome = true) (h : offR [] ch a0 = .inl (m, k, L1)) : ∃ flg, flagOf ch = some flg ∧ (((Builtin.bitAnd flg 292 != 0) = true ∧ m = M_off ∧ k = 0 ∧ L1 = []) ∨ ((Builtin.bitAnd flg 292 != 0) = false ∧ m = M_3 ∧ k = 0 ∧ L1 = [])) := by
  unfold offR at h
  cases q : flagOf ch with
  | none => rw [q] at hs; cases hs
  | some fl =>
    rw [q] at h
    dsimp only at h
    refine ⟨fl, rfl, ?_⟩
    cases q2 : Builtin.bitAnd fl 292 != 0 with
    | true => rw [if_pos q2] at h; cases h; exact .inl ⟨rfl, rfl, rfl, rfl⟩
    | false => rw [if_neg (by rw [q2]; exact Bool.false_ne_true)] at h; cases h; exact .inr ⟨rfl, rfl, rfl, rfl⟩
theorem offR_inl (hs : (flagOf ch).isSome = true) (h : offR (c2 :: L) ch a0 = .inl (m, k, L1)) : ∃ flg, flagOf ch = some flg ∧ (((Builtin.bitAnd flg 292 != 0) = true ∧ m = M_off ∧ k = 0 ∧ L1 = c2 :: L) ∨ ((Builtin.bitAnd flg 292 != 0) = false ∧ (c2 == ":") = false ∧ (((flagOf c2).isSome = true ∧ offR L c2 (Builtin.bitOr a0 flg) = .inl (m, k, L1)) ∨ ((flagOf c2).isSome = false ∧ m = unk c2 M_3 ∧ k = c2.length ∧ L1 = L)))) := by
  unfold offR at h
  cases q : flagOf ch with
  | none => rw [q] at hs; cases hs
  | some fl =>
    rw [q] at h
    dsimp only at h
    refine ⟨fl, rfl, ?_⟩
    cases q2 : Builtin.bitAnd fl 292 != 0 with
    | true => rw [if_pos q2] at h; cases h; exact .inl ⟨rfl, rfl, rfl, rfl⟩
    | false =>
      rw [if_neg (by rw [q2]; exact Bool.false_ne_true)] at h
      refine .inr ⟨rfl, ?_⟩
      cases q3 : c2 == ":" with
      | true => rw [if_pos q3] at h; cases h
      | false =>
        rw [if_neg (by rw [q3]; exact Bool.false_ne_true)] at h
        refine ⟨rfl, ?_⟩
        cases q4 : (flagOf c2).isSome with
        | true => rw [if_pos q4] at h; exact .inl ⟨rfl, h⟩
        | false => rw [if_neg (by rw [q4]; exact Bool.false_ne_true)] at h; cases h; exact .inr ⟨rfl, rfl, rfl, rfl⟩
theorem flag_val {x : Str} {fl : Int} (h : flagOf x = some fl) : fl ∈ [(2 : Int), 4, 8, 16, 64, 256, 32] := by
  have h := flag_get h
  have : ∀ (l : List (Str × D)), (∀ p ∈ l, ∀ q : Int, p.2 = .int q → q ∈ [(2 : Int), 4, 8, 16, 64, 256, 32]) → getD? x l = some (.int fl) → fl ∈ [(2 : Int), 4, 8, 16, 64, 256, 32] := by
    intro l hl h
    induction l with
    | nil => cases h
    | cons p l ih =>
      unfold getD? at h
      split at h
      · exact hl p (.head _) _ (Option.some.inj h)
      · exact ih (fun p hp => hl p (.tail _ hp)) h
  refine this flagsD ?_ h
  intro p hp q hq
  simp only [flagsD, List.mem_cons, List.not_mem_nil, or_false] at hp
  rcases hp with rfl | rfl | rfl | rfl | rfl | rfl | rfl <;> cases hq <;> simp
theorem or128 {a fl : Int} {x : Str} (h : Builtin.bitAnd a 128 = 0) (hf : flagOf x = some fl) : Builtin.bitAnd (Builtin.bitOr a fl) 128 = 0 := by
  rw [and_or_dist, h, zero_or]
  have := flag_val hf
  simp only [List.mem_cons, List.not_mem_nil, or_false] at this
  rcases this with rfl | rfl | rfl | rfl | rfl | rfl | rfl <;> rfl
theorem on128 : ∀ (L : List Str) (ch : Str) (a0 : Int), Builtin.bitAnd a0 128 = 0 → onR b L ch a0 = .inr (c1, acc, L1) → Builtin.bitAnd acc 128 = 0 ∧ Txt.contains ")-:" c1 = true ∧ ∃ pre, L = pre ++ c1 :: L1 := by
  intro L
  induction L with
  | nil => intro ch a0 _ h; exact absurd h onR_nil
  | cons c2 L ih =>
    intro ch a0 h0 h
    obtain ⟨flg, hfl, _, h⟩ := onR_inr h
    obtain ⟨q, rfl, rfl, rfl⟩ | ⟨q, q', e⟩ := h
    · exact ⟨or128 h0 hfl, q, [], rfl⟩
    · obtain ⟨e1, e2, pre, e3⟩ := ih _ _ (or128 h0 hfl) e
      exact ⟨e1, e2, c2 :: pre, by rw [e3]; rfl⟩
theorem off128 : ∀ (L : List Str) (ch : Str) (a0 : Int), Builtin.bitAnd a0 128 = 0 → offR L ch a0 = .inr (acc, L1) → Builtin.bitAnd acc 128 = 0 ∧ ∃ pre, L = pre ++ L1 := by
  intro L
  induction L with
  | nil => intro ch a0 _ h; exact absurd h offR_nil
  | cons c2 L ih =>
    intro ch a0 h0 h
    obtain ⟨flg, hfl, _, h⟩ := offR_inr h
    obtain ⟨q, rfl, rfl⟩ | ⟨q, q', e⟩ := h
    · exact ⟨or128 h0 hfl, [c2], rfl⟩
    · obtain ⟨e1, pre, e3⟩ := ih _ _ (or128 h0 hfl) e
      exact ⟨e1, c2 :: pre, by rw [e3]; rfl⟩
theorem offE_ok {res : D} {add : Option Int} (h : offE acc L = .ok res add L1) : ∃ c2 L' del, L = c2 :: L' ∧ (flagOf c2).isSome = true ∧ offR L' c2 0 = .inr (del, L1) ∧ (Builtin.bitAnd acc del != 0) = false ∧ res = .tup [.int acc, .int del] ∧ add = none := by
  cases L with
  | nil => unfold offE at h; cases h
  | cons c2 L' =>
    unfold offE at h
    dsimp only at h
    cases q : (flagOf c2).isSome with
    | false => rw [if_neg (by rw [q]; exact Bool.false_ne_true)] at h; cases h
    | true =>
      rw [if_pos q] at h
      cases q2 : offR L' c2 0 with
      | inl r => rw [q2] at h; obtain ⟨a, b, d⟩ := r; cases h
      | inr r =>
        obtain ⟨del, L2⟩ := r
        rw [q2] at h
        dsimp only at h
        cases q3 : Builtin.bitAnd acc del != 0 with
        | true => rw [if_pos q3] at h; cases h
        | false =>
          rw [if_neg (by rw [q3]; exact Bool.false_ne_true)] at h
          cases h
          exact ⟨c2, L', del, rfl, q, q2, q3, rfl, rfl⟩
theorem offE_err (h : offE acc L = .err m k L1) : (L = [] ∧ m = M_2 ∧ k = 0 ∧ L1 = []) ∨ ∃ c2 L', L = c2 :: L' ∧ (((flagOf c2).isSome = false ∧ m = unk c2 M_2 ∧ k = c2.length ∧ L1 = L') ∨ ((flagOf c2).isSome = true ∧ (offR L' c2 0 = .inl (m, k, L1) ∨ ∃ del, offR L' c2 0 = .inr (del, L1) ∧ (Builtin.bitAnd acc del != 0) = true ∧ m = M_tw ∧ k = 1))) := by
  cases L with
  | nil => unfold offE at h; cases h; exact .inl ⟨rfl, rfl, rfl, rfl⟩
  | cons c2 L' =>
    refine .inr ⟨c2, L', rfl, ?_⟩
    unfold offE at h
    dsimp only at h
    cases q : (flagOf c2).isSome with
    | false => rw [if_neg (by rw [q]; exact Bool.false_ne_true)] at h; cases h; exact .inl ⟨rfl, rfl, rfl, rfl⟩
    | true =>
      rw [if_pos q] at h
      refine .inr ⟨rfl, ?_⟩
      cases q2 : offR L' c2 0 with
      | inl r => rw [q2] at h; obtain ⟨a, b, d⟩ := r; cases h; exact .inl rfl
      | inr r =>
        obtain ⟨del, L2⟩ := r
        rw [q2] at h
        dsimp only at h
        cases q3 : Builtin.bitAnd acc del != 0 with
        | false => rw [if_neg (by rw [q3]; exact Bool.false_ne_true)] at h; cases h
        | true =>
          rw [if_pos q3] at h
          cases h
          exact .inr ⟨del, rfl, q3, rfl, rfl⟩
theorem tok_app {t : Str} : ∀ (pre : List Str), TokOk t (pre ++ L1) → TokOk t L1
  | [], h => h
  | _ :: pre, h => tok_app pre h.2
end Mine
namespace Mine
open PySem PySem.W PyProof.Rows PySem.Calls PySem.Spec
noncomputable def tokL (b : Bool) (src : D) (t : Str) (L : List Str) : List (Str × D) := tokAs b src t (kOf t L) (nxOf L)
noncomputable def Hs (i : Nat) (b : Bool) (src : D) (t : Str) (H0 : List (Nat × HO)) (L : List Str) : List (Nat × HO) := setH i (.inst cT (tokL b src t L)) H0
theorem tok_end {t : Str} : tokNext t t.length = some (t.length, .none) := by
  unfold tokNext
  have : t.cps[t.length]? = none := by rw [Array.getElem?_eq_none_iff]; exact Nat.le_refl _
  rw [this]
theorem kOf_le {t : Str} {L : List Str} : kOf t L ≤ t.length := Nat.sub_le ..
structure G3 (c : Cx) : Prop extends GE c where
  flags : GlobD c "FLAGS" (.dct flagsD)
  types : GlobD c "TYPE_FLAGS" (.int 292)
  globs : GlobD c "GLOBAL_FLAGS" (.int 128)
theorem k_bget {c : Cx} (hK : c.K = KK c) : BoundOk c.K cT "get" 80 := by rw [hK]; exact ⟨by kernel_rfl, by kernel_rfl, by kernel_rfl, by kernel_rfl, by kernel_rfl, by kernel_rfl, by kernel_rfl⟩
noncomputable abbrev pfLoc (i j : Nat) (ch : Str) (acc del : Int) : List (Nat × V) := [(key "char", .d (.str ch)), (key "sourceget", .meth i 80), (key "add_flags", .d (.int acc)), (key "del_flags", .d (.int del)), (key "source", .obj i), (key "state", .obj j)]
noncomputable def pfHeap (j : Nat) (asj : List (Str × D)) (fl : Int) (add : Option Int) (H : List (Nat × HO)) : List (Nat × HO) := match add with
  | none => H
  | some a => setH j (.inst cT (putD' "flags" (.int (Builtin.bitOr fl a)) asj)) H
noncomputable def PFB : List Stmt := fBdy PySem.Challenge.pw_kq0015_04 17
noncomputable def ON : List Stmt := forBody (ifBody PFB 3) 0
noncomputable def OFF : List Stmt := forBody (ifBody PFB 6) 3
noncomputable def tellOf (t : Str) (L : List Str) : Int := (kOf t L : Int) - lenN (nxOf L)
structure PK (c : Cx) (n i : Nat) (b : Bool) (src : D) (t : Str) (H0 : List (Nat × HO)) : Prop where
  hC : CxOk c
  hK : c.K = KK c
  hP : c.prog = PRG
  G : G3 c
  hc : c.calm = true
  hn : n ≤ 60
  ht : t.length ≤ 100000
  hi : ∃ o, lk i H0 = some o
  sk : SrcOk src
  f1 : lk ((n + 2) * 1000) H0 = none
  f2 : lk FI H0 = none
section
variable {c : Cx} {n : Nat} {i j : Nat} {H0 : List (Nat × HO)} {loc : List (Nat × V)} {b : Bool} {src : D} {t : Str} {L L' : List Str} {s : Str} {o : HO}
theorem get_more (hC : CxOk c) (hK : c.K = KK c) (G : G1 c) (hc : c.calm = true) (hn : n ≤ 80) (ht : t.length ≤ 100000) (hi : lk i H0 = some o) (hT : TokOk t (s :: L)) :
    FnN c n 80 [.obj i] ⟨loc, Hs i b src t H0 (s :: L)⟩ (.d (.str s)) ⟨loc, Hs i b src t H0 L⟩ := by
  have z := get_ok (loc := loc) (b := b) (src := src) hC hK G hc hn (lk_setH (o' := .inst cT (tokAs b src t (kOf t (s :: L)) (.str s))) hi) (Nat.le_trans kOf_le ht) hT.1
  rw [setH_setH] at z
  exact z
theorem get_last (hC : CxOk c) (hK : c.K = KK c) (G : G1 c) (hc : c.calm = true) (hn : n ≤ 80) (ht : t.length ≤ 100000) (hi : lk i H0 = some o) :
    FnN c n 80 [.obj i] ⟨loc, Hs i b src t H0 []⟩ (.d .none) ⟨loc, Hs i b src t H0 []⟩ := by
  have z := get_ok (loc := loc) (b := b) (src := src) hC hK G hc hn (lk_setH (o' := .inst cT (tokAs b src t (kOf t []) .none)) hi) (Nat.le_trans kOf_le ht) tok_end
  rw [setH_setH] at z
  exact z
theorem PK.off (P : PK c n i b src t H0) {k : Nat} (h : lk k H0 = none) : lk k (Hs i b src t H0 L) = none := by
  obtain ⟨o, ho⟩ := P.hi
  have ne : k ≠ i := by rintro rfl; rw [h] at ho; cases ho
  exact (lk_setH_ne ne).trans h
theorem PK.err (P : PK c n i b src t H0) (hN : ∀ s ∈ L, IsTok s) {m : Str} {p : Int} (ha : ascOk m = true) (hp : PosOk src m p) : ErrOk n i b src t (kOf t L) (nxOf L) (Hs i b src t H0 L) m p := by
  obtain ⟨o, ho⟩ := P.hi
  refine ⟨P.sk, .inr ⟨(ascOk_asc ha).1, (ascOk_asc ha).2.1⟩, lk_setH ho, ?_, hp, P.off P.f1, P.off P.f2⟩
  cases L with
  | nil => exact .inl rfl
  | cons s L => exact .inr ⟨s, rfl, Nat.le_trans (hN s (.head _)).len.2 (by decide)⟩
theorem PK.tok (P : PK c n i b src t H0) : lk i (Hs i b src t H0 L) = some (.inst cT (tokL b src t L)) := by
  obtain ⟨o, ho⟩ := P.hi
  exact lk_setH ho
theorem PK.more (P : PK c n i b src t H0) (hT : TokOk t (s :: L)) : FnN c n 80 [.obj i] ⟨loc, Hs i b src t H0 (s :: L)⟩ (.d (.str s)) ⟨loc, Hs i b src t H0 L⟩ := by
  obtain ⟨o, ho⟩ := P.hi
  exact get_more P.hC P.hK P.G.toG1 P.hc (Nat.le_trans P.hn (by decide)) P.ht ho hT
theorem PK.last (P : PK c n i b src t H0) : FnN c n 80 [.obj i] ⟨loc, Hs i b src t H0 []⟩ (.d .none) ⟨loc, Hs i b src t H0 []⟩ := by
  obtain ⟨o, ho⟩ := P.hi
  exact get_last P.hC P.hK P.G.toG1 P.hc (Nat.le_trans P.hn (by decide)) P.ht ho
theorem PK.ist (P : PK c n i b src t H0) {p q : Pos} {S : Scope} {ll : List (Nat × V)} (h : Ev c S n (.Name "source" p) ⟨ll, Hs i b src t H0 L⟩ (.obj i) ⟨ll, Hs i b src t H0 L⟩) : Ts c S n (.Attribute (.Name "source" p) "istext" q) ⟨ll, Hs i b src t H0 L⟩ b ⟨ll, Hs i b src t H0 L⟩ :=
  ts_plain (ev_attr P.hC (k_attr P.hK (by decide)) h P.tok (d := .bool b) (by kernel_rfl)) t_bool
theorem PK.kget (P : PK c n i b src t H0) : fnIn c.K 80 = true := by rw [P.hK]; kernel_rfl
theorem rfin {S : Scope} {sts : List Stmt} {σ σ' : St} {Wx : Exn} {H : List (Nat × HO)} (h : ExsR c S n sts σ Wx σ') (e : σ'.heap = H) : ExsR c S n sts σ Wx ⟨[], H⟩ := by
  subst e
  exact exsr_sub h (sub_list .nil)
noncomputable def onSt (k : Nat) : Stmt := ON.getD k (.Pass ⟨0, 0, 0, 0⟩)
theorem on_one {ch : Str} {flg a0 : Int} (P : PK c n i b src t H0) (q1 : (b && ch == "L") = false) (q2 : (!b && ch == "u") = false) : Ex c (Sc c 145) n (onSt 1) ((⟨pfLoc i j ch a0 0, Hs i b src t H0 L⟩ : St).set "flag" (.d (.int flg))) .next ((⟨pfLoc i j ch a0 0, Hs i b src t H0 L⟩ : St).set "flag" (.d (.int flg))) := by
  dsimp only [onSt, ON, PFB, fBdy, PySem.Challenge.pw_kq0015_04, forBody, ifBody, List.drop, List.getD, List.getElem?_cons_succ, List.getElem?_cons_zero, Option.getD]
  cases b with
  | true => exact if_t (P.ist nm) (exs_cons (if_f (ts_is (ts_cmp nm ev_str c_eqs) (by simpa using q1)) exs_nil) exs_nil)
  | false => exact if_f (P.ist nm) (exs_cons (if_f (ts_is (ts_cmp nm ev_str c_eqs) (by simpa using q2)) exs_nil) exs_nil)
theorem on_bad {ch m : Str} {flg a0 : Int} (P : PK c n i b src t H0) (hN : ∀ s ∈ L, IsTok s) (hfl : flagOf ch = some flg) (hk : onChk b ch flg a0 = some m) (hp : PosOk src m (tellOf t L)) :
    ExsR c (Sc c 145) n ON ⟨pfLoc i j ch a0 0, Hs i b src t H0 L⟩ (excE src m (tellOf t L)) ⟨[], Hs i b src t H0 L⟩ := by
  dsimp only [ON, PFB, fBdy, PySem.Challenge.pw_kq0015_04, forBody, ifBody, List.drop]
  unfold onChk at hk
  by_cases q1 : (b && ch == "L") = true
  · rw [if_pos q1] at hk
    have hm := Option.some.inj hk
    subst hm
    rw [Bool.and_eq_true] at q1
    obtain ⟨rfl, q1⟩ := q1
    exact rfin (exsr_next (asg (ev_sub (gd P.hC P.G.flags) nm (op_get_tab tab_d (flag_get hfl)))) (exsr_here (exr_if_t (P.ist nm) (exsr_here (exr_if_t (ts_is (ts_cmp nm ev_str c_eqs) q1) (exsr_next (asg ev_str) (exsr_here (rz1 P.hC P.hK P.hP P.G.toGE P.hc P.hn (P.err hN (by kernel_rfl) hp) rfl nm nm)))))))) (by rfl)
  rw [if_neg q1] at hk
  by_cases q2 : (!b && ch == "u") = true
  · rw [if_pos q2] at hk
    have hm := Option.some.inj hk
    subst hm
    rw [Bool.and_eq_true] at q2
    obtain ⟨qb, q2⟩ := q2
    have qb : b = false := by simpa using qb
    subst qb
    exact rfin (exsr_next (asg (ev_sub (gd P.hC P.G.flags) nm (op_get_tab tab_d (flag_get hfl)))) (exsr_here (exr_if_f (P.ist nm) (exsr_here (exr_if_t (ts_is (ts_cmp nm ev_str c_eqs) q2) (exsr_next (asg ev_str) (exsr_here (rz1 P.hC P.hK P.hP P.G.toGE P.hc P.hn (P.err hN (by kernel_rfl) hp) rfl nm nm)))))))) (by rfl)
  rw [if_neg q2] at hk
  split at hk
  · rename_i q3
    have hm := Option.some.inj hk
    subst hm
    have e1 : Ex c (Sc c 145) n (onSt 1) ((⟨pfLoc i j ch a0 0, Hs i b src t H0 L⟩ : St).set "flag" (.d (.int flg))) .next ((⟨pfLoc i j ch a0 0, Hs i b src t H0 L⟩ : St).set "flag" (.d (.int flg))) := on_one P (by simpa using q1) (by simpa using q2)
    dsimp only [onSt, ON, PFB, fBdy, PySem.Challenge.pw_kq0015_04, forBody, ifBody, List.drop, List.getD, List.getElem?_cons_succ, List.getElem?_cons_zero, Option.getD] at e1
    exact rfin (exsr_next (asg (ev_sub (gd P.hC P.G.flags) nm (op_get_tab tab_d (flag_get hfl)))) (exsr_next e1 (exsr_next (aug nm i_or) (exsr_here (exr_if_t (ts_is (ts_bool (tss_and (ts_plain (ev_binop nm (gd P.hC P.G.types) b_and) t_int) (tss_and (ts_cmp (ev_binop nm (gd P.hC P.G.types) b_and) nm c_ne) tss_nil))) (by simpa using q3)) (exsr_next (asg ev_str) (exsr_here (rz1 P.hC P.hK P.hP P.G.toGE P.hc P.hn (P.err hN (by kernel_rfl) hp) rfl nm nm)))))))) (by rfl)
  · cases hk
theorem on_pre {ch : Str} {flg a0 : Int} (P : PK c n i b src t H0) (hfl : flagOf ch = some flg) (hk : onChk b ch flg a0 = none) :
    Exs c (Sc c 145) n (ON.take 4) ⟨pfLoc i j ch a0 0, Hs i b src t H0 L⟩ .next ⟨(key "flag", .d (.int flg)) :: pfLoc i j ch (Builtin.bitOr a0 flg) 0, Hs i b src t H0 L⟩ := by
  obtain ⟨q1, q2, q3⟩ := onChk_none hk
  have e1 : Ex c (Sc c 145) n (onSt 1) ((⟨pfLoc i j ch a0 0, Hs i b src t H0 L⟩ : St).set "flag" (.d (.int flg))) .next ((⟨pfLoc i j ch a0 0, Hs i b src t H0 L⟩ : St).set "flag" (.d (.int flg))) := on_one P q1 q2
  dsimp only [onSt, ON, PFB, fBdy, PySem.Challenge.pw_kq0015_04, forBody, ifBody, List.drop, List.getD, List.getElem?_cons_succ, List.getElem?_cons_zero, Option.getD] at e1
  dsimp only [ON, PFB, fBdy, PySem.Challenge.pw_kq0015_04, forBody, ifBody, List.drop, List.take]
  refine exs_cons (asg (ev_sub (gd P.hC P.G.flags) nm (op_get_tab tab_d (flag_get hfl)))) ?_
  refine exs_cons e1 ?_
  refine exs_cons (aug nm i_or) ?_
  refine exs_cons (ex_sub (if_f (ts_is (ts_bool (tss_and (ts_plain (ev_binop nm (gd P.hC P.G.types) b_and) t_int) (tss_and (ts_cmp (ev_binop nm (gd P.hC P.G.types) b_and) nm c_ne) tss_nil))) (by simpa using q3)) exs_nil) (sub_pick (by kernel_rfl))) exs_nil
theorem on_post {ch c2 : Str} {flg a0 : Int} (P : PK c n i b src t H0) (hT : TokOk t (c2 :: L)) : Exs c (Sc c 145) n ((ON.drop 4).take 2) ⟨(key "flag", .d (.int flg)) :: pfLoc i j ch a0 0, Hs i b src t H0 (c2 :: L)⟩ .next ⟨pfLoc i j c2 a0 0, Hs i b src t H0 L⟩ := by
  dsimp only [ON, PFB, fBdy, PySem.Challenge.pw_kq0015_04, forBody, ifBody, List.drop, List.take]
  refine exs_cons (asg (ev_callm0 P.hC P.kget nm (P.more hT))) ?_
  exact exs_cons (ex_sub (if_f (ts_cmp nm ev_none c_is_sn) exs_nil) (sub_pick (by kernel_rfl))) exs_nil
theorem on_end {ch : Str} {flg a0 : Int} (P : PK c n i b src t H0) (hp : PosOk src M_1 (tellOf t [])) : ExsR c (Sc c 145) n (ON.drop 4) ⟨(key "flag", .d (.int flg)) :: pfLoc i j ch a0 0, Hs i b src t H0 []⟩ (excE src M_1 (tellOf t [])) ⟨[], Hs i b src t H0 []⟩ := by
  dsimp only [ON, PFB, fBdy, PySem.Challenge.pw_kq0015_04, forBody, ifBody, List.drop]
  exact rfin (exsr_next (asg (ev_callm0 P.hC P.kget nm P.last)) (exsr_here (exr_if_t (ts_cmp nm ev_none c_is_nn) (exsr_here (rz1 P.hC P.hK P.hP P.G.toGE P.hc P.hn (P.err (by intro s h; cases h) (by kernel_rfl) hp) rfl nm ev_str))))) (by rfl)
theorem unk_asc {s m : Str} (h : ascOk m = true) : ascOk (unk s m) = true := by
  unfold unk
  split
  · kernel_rfl
  · exact h
theorem on_unk {c2 : Str} {a0 : Int} (P : PK c n i b src t H0) (hN : ∀ s ∈ L, IsTok s) (hc : IsTok c2) (q3 : Txt.contains ")-:" c2 = false) (q4 : (flagOf c2).isSome = false) (hp : PosOk src (unk c2 M_1) (tellOf t L - c2.length)) : ExsR c (Sc c 145) n ((ON.drop 4).drop 2) ⟨pfLoc i j c2 a0 0, Hs i b src t H0 L⟩ (excE src (unk c2 M_1) (tellOf t L - c2.length)) ⟨[], Hs i b src t H0 L⟩ := by
  dsimp only [ON, PFB, fBdy, PySem.Challenge.pw_kq0015_04, forBody, ifBody, List.drop]
  refine exsr_next (if_f (ts_is (ts_cmp nm ev_str c_ins) q3) exs_nil) ?_
  refine exsr_here (exr_if_t (ts_is (ts_cmp nm (gd P.hC P.G.flags) (c_nin_tab tab_d)) (by rw [flag_some, q4]; rfl)) ?_)
  refine exsr_next (asg (X := .d (.str (unk c2 M_1))) (ev_ite (ts_plain (ev_meth0 nm gm_isalpha f_isalpha) t_bool) (fun q => by unfold unk; rw [if_pos q]; exact ev_str) (fun q => by unfold unk; rw [if_neg (by rw [q]; exact Bool.false_ne_true)]; exact ev_str))) ?_
  exact rfin (exsr_here (rz2 P.hC P.hK P.hP P.G.toGE P.hc P.hn (P.err hN (unk_asc (by kernel_rfl)) hp) rfl nm nm (ev_callb (gl P.hC P.G.len) (evs_cons nm evs_nil) (f_len_str (Nat.le_trans hc.len.2 (by decide)))))) (by rfl)
variable {test : Expr}
theorem on_okR {c1 : Str} {acc : Int} {L1 : List Str} (P : PK c n i b src t H0) (ht : ∀ σ, Ts c (Sc c 145) n test σ true σ) : ∀ (L : List Str) (ch : Str) (a0 : Int), TokOk t L → onR b L ch a0 = .inr (c1, acc, L1) →
    WL c (Sc c 145) n test ON ⟨pfLoc i j ch a0 0, Hs i b src t H0 L⟩ .next ⟨pfLoc i j c1 acc 0, Hs i b src t H0 L1⟩ := by
  intro L
  induction L with
  | nil => intro ch a0 hT h; exact absurd h (onR_nil)
  | cons c2 L ih =>
    intro ch a0 hT h
    obtain ⟨flg, hfl, hk, h⟩ := onR_inr h
    refine Or.elim h (fun ⟨q, e1, e2, e3⟩ => ?a) (fun ⟨q, q', e⟩ => ?b)
    case a =>
      subst e1; subst e2; subst e3
      refine wl_brk (ht _) ?_
      refine exs_take (k := 4) (on_pre P hfl hk) (exs_take (k := 2) (on_post P hT) ?_)
      dsimp only [ON, PFB, fBdy, PySem.Challenge.pw_kq0015_04, forBody, ifBody, List.drop]
      exact exs_stop (if_t (ts_is (ts_cmp nm ev_str c_ins) q) (exs_stop ex_brk))
    case b =>
      refine wl_turn (fl := .next) (σ₂ := ⟨pfLoc i j c2 (Builtin.bitOr a0 flg) 0, Hs i b src t H0 L⟩) (ht _) ?_ rfl (ih _ _ hT.2 e)
      refine exs_take (k := 4) (on_pre P hfl hk) (exs_take (k := 2) (on_post P hT) ?_)
      dsimp only [ON, PFB, fBdy, PySem.Challenge.pw_kq0015_04, forBody, ifBody, List.drop]
      refine exs_cons (if_f (ts_is (ts_cmp nm ev_str c_ins) q) exs_nil) ?_
      exact exs_cons (if_f (ts_is (ts_cmp nm (gd P.hC P.G.flags) (c_nin_tab tab_d)) (by rw [flag_some, q']; rfl)) exs_nil) exs_nil
theorem on_erR {m : Str} {k : Nat} {L1 : List Str} (P : PK c n i b src t H0) (hdot : (Sc c 145).names.lookup dot0 = none) (ht : ∀ σ, Ts c (Sc c 145) n test σ true σ) (hp : PosOk src m (tellOf t L1 - k)) : ∀ (L : List Str) (ch : Str) (a0 : Int), (flagOf ch).isSome = true → TokOk t L → (∀ s ∈ L, IsTok s) → onR b L ch a0 = .inl (m, k, L1) →
    WLR c (Sc c 145) n test ON ⟨pfLoc i j ch a0 0, Hs i b src t H0 L⟩ (excE src m (tellOf t L1 - k)) ⟨[], Hs i b src t H0 L1⟩ := by
  intro L
  induction L with
  | nil =>
    intro ch a0 hs hT hN h
    obtain ⟨flg, hfl, h⟩ := onR_end hs h
    obtain ⟨hk, rfl, rfl⟩ | ⟨hk, rfl, rfl, rfl⟩ := h
    · rw [show tellOf t [] - (0 : Nat) = tellOf t [] from Int.sub_zero _] at hp ⊢
      exact wlr_here hdot (ht _) (on_bad P hN hfl hk hp)
    · rw [show tellOf t [] - (0 : Nat) = tellOf t [] from Int.sub_zero _] at hp ⊢
      exact wlr_here hdot (ht _) (exsr_take (k := 4) (on_pre P hfl hk) (on_end P hp))
  | cons c2 L ih =>
    intro ch a0 hs hT hN h
    obtain ⟨flg, hfl, h⟩ := onR_inl hs h
    obtain ⟨hk, rfl, rfl⟩ | ⟨hk, q, h⟩ := h
    · rw [show tellOf t (c2 :: L) - (0 : Nat) = tellOf t (c2 :: L) from Int.sub_zero _] at hp ⊢
      exact wlr_here hdot (ht _) (on_bad P hN hfl hk hp)
    · obtain ⟨q', e⟩ | ⟨q', rfl, rfl, rfl⟩ := h
      · refine wlr_turn (fl := .next) (σ₂ := ⟨pfLoc i j c2 (Builtin.bitOr a0 flg) 0, Hs i b src t H0 L⟩) (ht _) ?_ rfl (ih _ _ q' hT.2 (fun s h => hN s (.tail _ h)) e)
        refine exs_take (k := 4) (on_pre P hfl hk) (exs_take (k := 2) (on_post P hT) ?_)
        dsimp only [ON, PFB, fBdy, PySem.Challenge.pw_kq0015_04, forBody, ifBody, List.drop]
        refine exs_cons (if_f (ts_is (ts_cmp nm ev_str c_ins) q) exs_nil) ?_
        exact exs_cons (if_f (ts_is (ts_cmp nm (gd P.hC P.G.flags) (c_nin_tab tab_d)) (by rw [flag_some, q']; rfl)) exs_nil) exs_nil
      · exact wlr_here hdot (ht _) (exsr_take (k := 4) (on_pre P hfl hk) (exsr_take (k := 2) (on_post P hT) (on_unk P (fun s h => hN s (.tail _ h)) (hN _ (.head _)) q q' hp)))
end
end Mine
namespace Mine
open PySem PySem.W PyProof.Rows PySem.Calls PySem.Spec
section
variable {c : Cx} {n : Nat} {i j : Nat} {H0 : List (Nat × HO)} {loc : List (Nat × V)} {b : Bool} {src : D} {t : Str} {L L' : List Str} {s : Str} {o : HO}
theorem off_bad {ch : Str} {flg a0 acc : Int} (P : PK c n i b src t H0) (hN : ∀ s ∈ L, IsTok s) (hfl : flagOf ch = some flg) (hk : (Builtin.bitAnd flg 292 != 0) = true) (hp : PosOk src M_off (tellOf t L)) :
    ExsR c (Sc c 145) n OFF ⟨pfLoc i j ch acc a0, Hs i b src t H0 L⟩ (excE src M_off (tellOf t L)) ⟨[], Hs i b src t H0 L⟩ := by
  dsimp only [OFF, PFB, fBdy, PySem.Challenge.pw_kq0015_04, forBody, ifBody, List.drop]
  exact rfin (exsr_next (asg (ev_sub (gd P.hC P.G.flags) nm (op_get_tab tab_d (flag_get hfl)))) (exsr_here (exr_if_t (ts_is (ts_plain (ev_binop nm (gd P.hC P.G.types) b_and) t_int) hk) (exsr_next (asg ev_str) (exsr_here (rz1 P.hC P.hK P.hP P.G.toGE P.hc P.hn (P.err hN (by kernel_rfl) hp) rfl nm nm)))))) (by rfl)
theorem offp_ {ch : Str} {flg a0 acc : Int} (P : PK c n i b src t H0) (hfl : flagOf ch = some flg) (hk : (Builtin.bitAnd flg 292 != 0) = false) :
    Exs c (Sc c 145) n (OFF.take 3) ⟨pfLoc i j ch acc a0, Hs i b src t H0 L⟩ .next ⟨(key "flag", .d (.int flg)) :: pfLoc i j ch acc (Builtin.bitOr a0 flg), Hs i b src t H0 L⟩ := by
  dsimp only [OFF, PFB, fBdy, PySem.Challenge.pw_kq0015_04, forBody, ifBody, List.drop, List.take]
  refine exs_cons (asg (ev_sub (gd P.hC P.G.flags) nm (op_get_tab tab_d (flag_get hfl)))) ?_
  refine exs_cons (if_f (ts_is (ts_plain (ev_binop nm (gd P.hC P.G.types) b_and) t_int) hk) exs_nil) ?_
  exact exs_cons (ex_sub (aug nm i_or) (sub_pick (by kernel_rfl))) exs_nil
theorem off_post {ch c2 : Str} {flg a0 acc : Int} (P : PK c n i b src t H0) (hT : TokOk t (c2 :: L)) : Exs c (Sc c 145) n ((OFF.drop 3).take 2) ⟨(key "flag", .d (.int flg)) :: pfLoc i j ch acc a0, Hs i b src t H0 (c2 :: L)⟩ .next ⟨pfLoc i j c2 acc a0, Hs i b src t H0 L⟩ := by
  dsimp only [OFF, PFB, fBdy, PySem.Challenge.pw_kq0015_04, forBody, ifBody, List.drop, List.take]
  refine exs_cons (asg (ev_callm0 P.hC P.kget nm (P.more hT))) ?_
  exact exs_cons (ex_sub (if_f (ts_cmp nm ev_none c_is_sn) exs_nil) (sub_pick (by kernel_rfl))) exs_nil
theorem off_end {ch : Str} {flg a0 acc : Int} (P : PK c n i b src t H0) (hp : PosOk src M_3 (tellOf t [])) : ExsR c (Sc c 145) n (OFF.drop 3) ⟨(key "flag", .d (.int flg)) :: pfLoc i j ch acc a0, Hs i b src t H0 []⟩ (excE src M_3 (tellOf t [])) ⟨[], Hs i b src t H0 []⟩ := by
  dsimp only [OFF, PFB, fBdy, PySem.Challenge.pw_kq0015_04, forBody, ifBody, List.drop]
  exact rfin (exsr_next (asg (ev_callm0 P.hC P.kget nm P.last)) (exsr_here (exr_if_t (ts_cmp nm ev_none c_is_nn) (exsr_here (rz1 P.hC P.hK P.hP P.G.toGE P.hc P.hn (P.err (by intro s h; cases h) (by kernel_rfl) hp) rfl nm ev_str))))) (by rfl)
theorem off_unk {c2 : Str} {a0 acc : Int} (P : PK c n i b src t H0) (hN : ∀ s ∈ L, IsTok s) (hc : IsTok c2) (q3 : (c2 == ":") = false) (q4 : (flagOf c2).isSome = false) (hp : PosOk src (unk c2 M_3) (tellOf t L - c2.length)) : ExsR c (Sc c 145) n ((OFF.drop 3).drop 2) ⟨pfLoc i j c2 acc a0, Hs i b src t H0 L⟩ (excE src (unk c2 M_3) (tellOf t L - c2.length)) ⟨[], Hs i b src t H0 L⟩ := by
  dsimp only [OFF, PFB, fBdy, PySem.Challenge.pw_kq0015_04, forBody, ifBody, List.drop]
  refine exsr_next (if_f (ts_is (ts_cmp nm ev_str c_eqs) q3) exs_nil) ?_
  refine exsr_here (exr_if_t (ts_is (ts_cmp nm (gd P.hC P.G.flags) (c_nin_tab tab_d)) (by rw [flag_some, q4]; rfl)) ?_)
  refine exsr_next (asg (X := .d (.str (unk c2 M_3))) (ev_ite (ts_plain (ev_meth0 nm gm_isalpha f_isalpha) t_bool) (fun q => by unfold unk; rw [if_pos q]; exact ev_str) (fun q => by unfold unk; rw [if_neg (by rw [q]; exact Bool.false_ne_true)]; exact ev_str))) ?_
  exact rfin (exsr_here (rz2 P.hC P.hK P.hP P.G.toGE P.hc P.hn (P.err hN (unk_asc (by kernel_rfl)) hp) rfl nm nm (ev_callb (gl P.hC P.G.len) (evs_cons nm evs_nil) (f_len_str (Nat.le_trans hc.len.2 (by decide)))))) (by rfl)
variable {test : Expr}
theorem off_okR {acc del : Int} {L1 : List Str} (P : PK c n i b src t H0) (ht : ∀ σ, Ts c (Sc c 145) n test σ true σ) : ∀ (L : List Str) (ch : Str) (a0 : Int), TokOk t L → offR L ch a0 = .inr (del, L1) →
    WL c (Sc c 145) n test OFF ⟨pfLoc i j ch acc a0, Hs i b src t H0 L⟩ .next ⟨pfLoc i j ":" acc del, Hs i b src t H0 L1⟩ := by
  intro L
  induction L with
  | nil => intro ch a0 hT h; exact absurd h (offR_nil)
  | cons c2 L ih =>
    intro ch a0 hT h
    obtain ⟨flg, hfl, hk, h⟩ := offR_inr h
    refine Or.elim h (fun ⟨q, e2, e3⟩ => ?a) (fun ⟨q, q', e⟩ => ?b)
    case a =>
      subst e2; subst e3
      have e1 := eq_of_beq q
      subst e1
      refine wl_brk (ht _) ?_
      refine exs_take (k := 3) (offp_ P hfl hk) (exs_take (k := 2) (off_post P hT) ?_)
      dsimp only [OFF, PFB, fBdy, PySem.Challenge.pw_kq0015_04, forBody, ifBody, List.drop]
      exact exs_stop (if_t (ts_is (ts_cmp nm ev_str c_eqs) q) (exs_stop ex_brk))
    case b =>
      refine wl_turn (fl := .next) (σ₂ := ⟨pfLoc i j c2 acc (Builtin.bitOr a0 flg), Hs i b src t H0 L⟩) (ht _) ?_ rfl (ih _ _ hT.2 e)
      refine exs_take (k := 3) (offp_ P hfl hk) (exs_take (k := 2) (off_post P hT) ?_)
      dsimp only [OFF, PFB, fBdy, PySem.Challenge.pw_kq0015_04, forBody, ifBody, List.drop]
      refine exs_cons (if_f (ts_is (ts_cmp nm ev_str c_eqs) q) exs_nil) ?_
      exact exs_cons (if_f (ts_is (ts_cmp nm (gd P.hC P.G.flags) (c_nin_tab tab_d)) (by rw [flag_some, q']; rfl)) exs_nil) exs_nil
theorem off_erR {m : Str} {k : Nat} {acc : Int} {L1 : List Str} (P : PK c n i b src t H0) (hdot : (Sc c 145).names.lookup dot0 = none) (ht : ∀ σ, Ts c (Sc c 145) n test σ true σ) (hp : PosOk src m (tellOf t L1 - k)) : ∀ (L : List Str) (ch : Str) (a0 : Int), (flagOf ch).isSome = true → TokOk t L → (∀ s ∈ L, IsTok s) → offR L ch a0 = .inl (m, k, L1) →
    WLR c (Sc c 145) n test OFF ⟨pfLoc i j ch acc a0, Hs i b src t H0 L⟩ (excE src m (tellOf t L1 - k)) ⟨[], Hs i b src t H0 L1⟩ := by
  intro L
  induction L with
  | nil =>
    intro ch a0 hs hT hN h
    obtain ⟨flg, hfl, h⟩ := offR_end hs h
    obtain ⟨hk, rfl, rfl, rfl⟩ | ⟨hk, rfl, rfl, rfl⟩ := h
    · rw [show tellOf t [] - (0 : Nat) = tellOf t [] from Int.sub_zero _] at hp ⊢
      exact wlr_here hdot (ht _) (off_bad P hN hfl hk hp)
    · rw [show tellOf t [] - (0 : Nat) = tellOf t [] from Int.sub_zero _] at hp ⊢
      exact wlr_here hdot (ht _) (exsr_take (k := 3) (offp_ P hfl hk) (off_end P hp))
  | cons c2 L ih =>
    intro ch a0 hs hT hN h
    obtain ⟨flg, hfl, h⟩ := offR_inl hs h
    obtain ⟨hk, rfl, rfl, rfl⟩ | ⟨hk, q, h⟩ := h
    · rw [show tellOf t (c2 :: L) - (0 : Nat) = tellOf t (c2 :: L) from Int.sub_zero _] at hp ⊢
      exact wlr_here hdot (ht _) (off_bad P hN hfl hk hp)
    · obtain ⟨q', e⟩ | ⟨q', rfl, rfl, rfl⟩ := h
      · refine wlr_turn (fl := .next) (σ₂ := ⟨pfLoc i j c2 acc (Builtin.bitOr a0 flg), Hs i b src t H0 L⟩) (ht _) ?_ rfl (ih _ _ q' hT.2 (fun s h => hN s (.tail _ h)) e)
        refine exs_take (k := 3) (offp_ P hfl hk) (exs_take (k := 2) (off_post P hT) ?_)
        dsimp only [OFF, PFB, fBdy, PySem.Challenge.pw_kq0015_04, forBody, ifBody, List.drop]
        refine exs_cons (if_f (ts_is (ts_cmp nm ev_str c_eqs) q) exs_nil) ?_
        exact exs_cons (if_f (ts_is (ts_cmp nm (gd P.hC P.G.flags) (c_nin_tab tab_d)) (by rw [flag_some, q']; rfl)) exs_nil) exs_nil
      · exact wlr_here hdot (ht _) (exsr_take (k := 3) (offp_ P hfl hk) (exsr_take (k := 2) (off_post P hT) (off_unk P (fun s h => hN s (.tail _ h)) (hN _ (.head _)) q q' hp)))
noncomputable abbrev pfArg (i j : Nat) (ch : Str) : List (Nat × V) := loc0 ["source", "state", "char"] [.obj i, .obj j, .d (.str ch)]
theorem pf_start {ch : Str} (P : PK c n i b src t H0) : Exs c (Sc c 145) n (PFB.take 3) ⟨pfArg i j ch, Hs i b src t H0 L⟩ .next ⟨pfLoc i j ch 0 0, Hs i b src t H0 L⟩ := by
  obtain ⟨o, hi⟩ := P.hi
  dsimp only [PFB, fBdy, PySem.Challenge.pw_kq0015_04, List.drop, List.take]
  refine exs_cons (asg (ev_bound P.hC (k_bget P.hK) nm (lk_setH hi) (by kernel_rfl))) ?_
  refine exs_cons (asg ev_int) ?_
  exact exs_cons (ex_sub (asg ev_int) (sub_pick (by kernel_rfl))) exs_nil
inductive Onto (b : Bool) (ch : Str) (L : List Str) : Str → Int → List Str → Prop
  | dash : ch = "-" → Onto b ch L "-" 0 L
  | on {c1 : Str} {acc : Int} {L1 : List Str} : (ch == "-") = false → onR b L ch 0 = .inr (c1, acc, L1) → Onto b ch L c1 acc L1
theorem pf_first {ch c1 : Str} {acc : Int} {L1 : List Str} (P : PK c n i b src t H0) (hT : TokOk t L) (h : Onto b ch L c1 acc L1) : Exs c (Sc c 145) n ((PFB.drop 3).take 1) ⟨pfLoc i j ch 0 0, Hs i b src t H0 L⟩ .next ⟨pfLoc i j c1 acc 0, Hs i b src t H0 L1⟩ := by
  dsimp only [PFB, fBdy, PySem.Challenge.pw_kq0015_04, List.drop, List.take]
  cases h with
  | dash e => subst e; exact exs_cons (if_f (ts_is (ts_cmp nm ev_str c_nes) (by kernel_rfl)) exs_nil) exs_nil
  | on e h =>
    refine exs_cons (if_t (ts_is (ts_cmp nm ev_str c_nes) (by rw [bne, e]; rfl)) (exs_cons (ex_while ?_) exs_nil)) exs_nil
    exact on_okR P (fun _ => ts_plain ev_bool t_bool) L ch 0 hT h
theorem pf_first_er {ch m : Str} {k : Nat} {L1 : List Str} (P : PK c n i b src t H0) (hs : (flagOf ch).isSome = true) (hT : TokOk t L) (hN : ∀ s ∈ L, IsTok s) (e : (ch == "-") = false) (h : onR b L ch 0 = .inl (m, k, L1)) (hp : PosOk src m (tellOf t L1 - k)) : ExsR c (Sc c 145) n (PFB.drop 3) ⟨pfLoc i j ch 0 0, Hs i b src t H0 L⟩ (excE src m (tellOf t L1 - k)) ⟨[], Hs i b src t H0 L1⟩ := by
  have hdot : (Sc c 145).names.lookup dot0 = none := by kernel_rfl
  dsimp only [PFB, fBdy, PySem.Challenge.pw_kq0015_04, List.drop]
  exact exsr_here (exr_if_t (ts_is (ts_cmp nm ev_str c_nes) (by rw [bne, e]; rfl)) (exsr_here (exr_while hdot (on_erR (j := j) P hdot (fun _ => ts_plain ev_bool t_bool) hp L ch 0 hs hT hN h))))
end
end Mine
namespace Mine
open PySem PySem.W PyProof.Rows PySem.Calls PySem.Spec
section
variable {c : Cx} {n : Nat} {i j : Nat} {H0 : List (Nat × HO)} {loc : List (Nat × V)} {b : Bool} {src : D} {t : Str} {L L' : List Str} {s : Str} {o : HO}
noncomputable def PF6 : List Stmt := ifBody PFB 6
theorem mid_end {ch : Str} {acc : Int} (P : PK c n i b src t H0) (hp : PosOk src M_2 (tellOf t [])) : ExsR c (Sc c 145) n PF6 ⟨pfLoc i j ch acc 0, Hs i b src t H0 []⟩ (excE src M_2 (tellOf t [])) ⟨[], Hs i b src t H0 []⟩ := by
  dsimp only [PF6, PFB, fBdy, PySem.Challenge.pw_kq0015_04, ifBody, List.drop]
  exact rfin (exsr_next (asg (ev_callm0 P.hC P.kget nm P.last)) (exsr_here (exr_if_t (ts_cmp nm ev_none c_is_nn) (exsr_here (rz1 P.hC P.hK P.hP P.G.toGE P.hc P.hn (P.err (by intro s h; cases h) (by kernel_rfl) hp) rfl nm ev_str))))) (by rfl)
theorem mid_pre {ch c2 : Str} {acc : Int} (P : PK c n i b src t H0) (hT : TokOk t (c2 :: L)) : Exs c (Sc c 145) n (PF6.take 2) ⟨pfLoc i j ch acc 0, Hs i b src t H0 (c2 :: L)⟩ .next ⟨pfLoc i j c2 acc 0, Hs i b src t H0 L⟩ := by
  dsimp only [PF6, PFB, fBdy, PySem.Challenge.pw_kq0015_04, ifBody, List.drop, List.take]
  refine exs_cons (asg (ev_callm0 P.hC P.kget nm (P.more hT))) ?_
  exact exs_cons (ex_sub (if_f (ts_cmp nm ev_none c_is_sn) exs_nil) (sub_pick (by kernel_rfl))) exs_nil
theorem mid_unk {c2 : Str} {acc : Int} (P : PK c n i b src t H0) (hN : ∀ s ∈ L, IsTok s) (hc : IsTok c2) (q4 : (flagOf c2).isSome = false) (hp : PosOk src (unk c2 M_2) (tellOf t L - c2.length)) : ExsR c (Sc c 145) n (PF6.drop 2) ⟨pfLoc i j c2 acc 0, Hs i b src t H0 L⟩ (excE src (unk c2 M_2) (tellOf t L - c2.length)) ⟨[], Hs i b src t H0 L⟩ := by
  dsimp only [PF6, PFB, fBdy, PySem.Challenge.pw_kq0015_04, ifBody, List.drop]
  refine exsr_here (exr_if_t (ts_is (ts_cmp nm (gd P.hC P.G.flags) (c_nin_tab tab_d)) (by rw [flag_some, q4]; rfl)) ?_)
  refine exsr_next (asg (X := .d (.str (unk c2 M_2))) (ev_ite (ts_plain (ev_meth0 nm gm_isalpha f_isalpha) t_bool) (fun q => by unfold unk; rw [if_pos q]; exact ev_str) (fun q => by unfold unk; rw [if_neg (by rw [q]; exact Bool.false_ne_true)]; exact ev_str))) ?_
  exact rfin (exsr_here (rz2 P.hC P.hK P.hP P.G.toGE P.hc P.hn (P.err hN (unk_asc (by kernel_rfl)) hp) rfl nm nm (ev_callb (gl P.hC P.G.len) (evs_cons nm evs_nil) (f_len_str (Nat.le_trans hc.len.2 (by decide)))))) (by rfl)
theorem mid_ok {c2 : Str} {acc del : Int} {L1 : List Str} (P : PK c n i b src t H0) (hT : TokOk t L) (q : (flagOf c2).isSome = true) (h : offR L c2 0 = .inr (del, L1)) : Exs c (Sc c 145) n (PF6.drop 2) ⟨pfLoc i j c2 acc 0, Hs i b src t H0 L⟩ .next ⟨pfLoc i j ":" acc del, Hs i b src t H0 L1⟩ := by
  dsimp only [PF6, PFB, fBdy, PySem.Challenge.pw_kq0015_04, ifBody, List.drop]
  refine exs_cons (if_f (ts_is (ts_cmp nm (gd P.hC P.G.flags) (c_nin_tab tab_d)) (by rw [flag_some, q]; rfl)) exs_nil) ?_
  exact exs_cons (ex_while (off_okR P (fun _ => ts_plain ev_bool t_bool) L c2 0 hT h)) exs_nil
theorem mid_er {c2 m : Str} {k : Nat} {acc : Int} {L1 : List Str} (P : PK c n i b src t H0) (hT : TokOk t L) (hN : ∀ s ∈ L, IsTok s) (q : (flagOf c2).isSome = true) (h : offR L c2 0 = .inl (m, k, L1)) (hp : PosOk src m (tellOf t L1 - k)) : ExsR c (Sc c 145) n (PF6.drop 2) ⟨pfLoc i j c2 acc 0, Hs i b src t H0 L⟩ (excE src m (tellOf t L1 - k)) ⟨[], Hs i b src t H0 L1⟩ := by
  have hdot : (Sc c 145).names.lookup dot0 = none := by kernel_rfl
  dsimp only [PF6, PFB, fBdy, PySem.Challenge.pw_kq0015_04, ifBody, List.drop]
  refine exsr_next (if_f (ts_is (ts_cmp nm (gd P.hC P.G.flags) (c_nin_tab tab_d)) (by rw [flag_some, q]; rfl)) exs_nil) ?_
  exact exsr_here (exr_while hdot (off_erR P hdot (fun _ => ts_plain ev_bool t_bool) hp L c2 0 q hT hN h))
noncomputable def PF4 : List Stmt := (PFB.drop 3).drop 1
theorem end_pre {c1 : Str} {acc : Int} (P : PK c n i b src t H0) (h0 : Builtin.bitAnd acc 128 = 0) (e : (c1 == ")") = false) : Exs c (Sc c 145) n (PF4.take 2) ⟨pfLoc i j c1 acc 0, Hs i b src t H0 L⟩ .next ⟨pfLoc i j c1 acc 0, Hs i b src t H0 L⟩ := by
  dsimp only [PF4, PFB, fBdy, PySem.Challenge.pw_kq0015_04, List.drop, List.take]
  refine exs_cons (if_f (ts_is (ts_cmp nm ev_str c_eqs) e) exs_nil) ?_
  exact exs_cons (if_f (ts_is (ts_plain (ev_binop nm (gd P.hC P.G.globs) b_and) t_int) (by rw [h0]; rfl)) exs_nil) exs_nil
theorem end_post {acc del : Int} (P : PK c n i b src t H0) (h0 : Builtin.bitAnd del 128 = 0) (e : (Builtin.bitAnd acc del != 0) = false) : Exs c (Sc c 145) n ((PF4.drop 2).drop 1) ⟨pfLoc i j ":" acc del, Hs i b src t H0 L⟩ (.ret (.d (.tup [.int acc, .int del]))) ⟨[], Hs i b src t H0 L⟩ := by
  have fin : ∀ {st : Stmt} {sts : List Stmt} {σ σ' : St} {fl}, fl.stops = true → Ex c (Sc c 145) n st σ fl σ' → Exs c (Sc c 145) n (st :: sts) σ fl ⟨[], σ'.heap⟩ := fun hs h => exs_sub (exs_stop h hs) (sub_list .nil)
  dsimp only [PF4, PFB, fBdy, PySem.Challenge.pw_kq0015_04, List.drop]
  refine exs_cons (ex_assert P.hc (ts_is (ts_cmp nm ev_str c_eqs) (by kernel_rfl))) ?_
  refine exs_cons (if_f (ts_is (ts_plain (ev_binop nm (gd P.hC P.G.globs) b_and) t_int) (by rw [h0]; rfl)) exs_nil) ?_
  refine exs_cons (if_f (ts_is (ts_plain (ev_binop nm nm b_and) t_int) e) exs_nil) ?_
  exact fin rfl (ex_ret (ev_tuple (evs_cons nm (evs_cons nm evs_nil)) op_tuple))
theorem end_twice {acc del : Int} (P : PK c n i b src t H0) (hN : ∀ s ∈ L, IsTok s) (h0 : Builtin.bitAnd del 128 = 0) (e : (Builtin.bitAnd acc del != 0) = true) (hp : PosOk src M_tw (tellOf t L - (1 : Nat))) : ExsR c (Sc c 145) n ((PF4.drop 2).drop 1) ⟨pfLoc i j ":" acc del, Hs i b src t H0 L⟩ (excE src M_tw (tellOf t L - (1 : Nat))) ⟨[], Hs i b src t H0 L⟩ := by
  dsimp only [PF4, PFB, fBdy, PySem.Challenge.pw_kq0015_04, List.drop]
  refine exsr_next (ex_assert P.hc (ts_is (ts_cmp nm ev_str c_eqs) (by kernel_rfl))) ?_
  refine exsr_next (if_f (ts_is (ts_plain (ev_binop nm (gd P.hC P.G.globs) b_and) t_int) (by rw [h0]; rfl)) exs_nil) ?_
  exact rfin (exsr_here (exr_if_t (ts_is (ts_plain (ev_binop nm nm b_and) t_int) e) (exsr_here (rz2 P.hC P.hK P.hP P.G.toGE P.hc P.hn (P.err hN (by kernel_rfl) hp) rfl nm ev_str ev_int)))) (by rfl)
theorem end_dash {acc : Int} {fl : Fl} {σ' : St} (P : PK c n i b src t H0) (h : Exs c (Sc c 145) n PF6 ⟨pfLoc i j "-" acc 0, Hs i b src t H0 L⟩ fl σ') : Exs c (Sc c 145) n ((PF4.drop 2).take 1) ⟨pfLoc i j "-" acc 0, Hs i b src t H0 L⟩ fl σ' := by
  dsimp only [PF6, PF4, PFB, fBdy, PySem.Challenge.pw_kq0015_04, ifBody, List.drop, List.take] at h ⊢
  cases fl with
  | next => exact exs_cons (if_t (ts_is (ts_cmp nm ev_str c_eqs) (by kernel_rfl)) h) exs_nil
  | brk => exact exs_stop (if_t (ts_is (ts_cmp nm ev_str c_eqs) (by kernel_rfl)) h)
  | cont => exact exs_stop (if_t (ts_is (ts_cmp nm ev_str c_eqs) (by kernel_rfl)) h)
  | ret v => exact exs_stop (if_t (ts_is (ts_cmp nm ev_str c_eqs) (by kernel_rfl)) h)
theorem end_dashR {acc : Int} {Wx : Exn} {σ' : St} (P : PK c n i b src t H0) (h : ExsR c (Sc c 145) n PF6 ⟨pfLoc i j "-" acc 0, Hs i b src t H0 L⟩ Wx σ') : ExsR c (Sc c 145) n (PF4.drop 2) ⟨pfLoc i j "-" acc 0, Hs i b src t H0 L⟩ Wx σ' := by
  dsimp only [PF6, PF4, PFB, fBdy, PySem.Challenge.pw_kq0015_04, ifBody, List.drop] at h ⊢
  exact exsr_here (exr_if_t (ts_is (ts_cmp nm ev_str c_eqs) (by kernel_rfl)) h)
theorem end_no {acc : Int} (P : PK c n i b src t H0) : Exs c (Sc c 145) n ((PF4.drop 2).take 1) ⟨pfLoc i j ":" acc 0, Hs i b src t H0 L⟩ .next ⟨pfLoc i j ":" acc 0, Hs i b src t H0 L⟩ := by
  dsimp only [PF4, PFB, fBdy, PySem.Challenge.pw_kq0015_04, List.drop, List.take]
  exact exs_cons (if_f (ts_is (ts_cmp nm ev_str c_eqs) (by kernel_rfl)) exs_nil) exs_nil
theorem end_ok {c1 : Str} {acc fl : Int} {L2 : List Str} {res : D} {add : Option Int} {asj : List (Str × D)} (P : PK c n i b src t H0) (hij : j ≠ i) (hj : lk j H0 = some (.inst cT asj)) (hjl : asj.length ≤ 800) (hf : getD? "flags" asj = some (.int fl))
    (hT : TokOk t L) (h0 : Builtin.bitAnd acc 128 = 0) (h1 : c1 = ")" ∨ c1 = "-" ∨ c1 = ":") (h : endR c1 acc L = .ok res add L2) : Exs c (Sc c 145) n PF4 ⟨pfLoc i j c1 acc 0, Hs i b src t H0 L⟩ (.ret (.d res)) ⟨[], pfHeap j asj fl add (Hs i b src t H0 L2)⟩ := by
  have hj' : ∀ L, lk j (Hs i b src t H0 L) = some (.inst cT asj) := fun L => (lk_setH_ne hij).trans hj
  have fin : ∀ {st : Stmt} {sts : List Stmt} {σ σ' : St} {fl}, fl.stops = true → Ex c (Sc c 145) n st σ fl σ' → Exs c (Sc c 145) n (st :: sts) σ fl ⟨[], σ'.heap⟩ := fun hs h => exs_sub (exs_stop h hs) (sub_list .nil)
  obtain rfl | rfl | rfl := h1
  · rw [show endR ")" acc L = .ok .none (some acc) L from rfl] at h
    cases h
    dsimp only [PF4, PFB, fBdy, PySem.Challenge.pw_kq0015_04, List.drop]
    exact fin rfl (if_t (ts_is (ts_cmp nm ev_str c_eqs) (by kernel_rfl)) (exs_cons (ex_augattr P.hC (k_attr P.hK (by decide)) (k_set P.hK (by decide)) nm (hj' _) hf nm i_or (hj' _) (Nat.le_trans hjl (by decide))) (exs_stop (ex_ret ev_none))))
  · rw [show endR "-" acc L = offE acc L from rfl] at h
    obtain ⟨c2, L', del, rfl, q, q2, q3, rfl, rfl⟩ := offE_ok h
    refine exs_take (k := 2) (end_pre P h0 (by kernel_rfl)) (exs_take (k := 1) (end_dash P (exs_take (k := 2) (mid_pre P hT) (mid_ok P hT.2 q q2))) (end_post P (off128 _ _ _ (by kernel_rfl) q2).1 q3))
  · rw [show endR ":" acc L = .ok (.tup [.int acc, .int 0]) none L from rfl] at h
    cases h
    exact exs_take (k := 2) (end_pre P h0 (by kernel_rfl)) (exs_take (k := 1) (end_no P) (end_post P (by kernel_rfl) (by rw [and_zero]; rfl)))
theorem end_er {c1 m : Str} {k : Nat} {acc : Int} {L2 : List Str} (P : PK c n i b src t H0) (hT : TokOk t L) (hN : ∀ s ∈ L, IsTok s) (h0 : Builtin.bitAnd acc 128 = 0) (h1 : c1 = ")" ∨ c1 = "-" ∨ c1 = ":") (h : endR c1 acc L = .err m k L2) (hp : PosOk src m (tellOf t L2 - k)) : ExsR c (Sc c 145) n PF4 ⟨pfLoc i j c1 acc 0, Hs i b src t H0 L⟩ (excE src m (tellOf t L2 - k)) ⟨[], Hs i b src t H0 L2⟩ := by
  obtain rfl | rfl | rfl := h1
  · rw [show endR ")" acc L = .ok .none (some acc) L from rfl] at h
    cases h
  · rw [show endR "-" acc L = offE acc L from rfl] at h
    have h9 := offE_err h
    clear h
    obtain ⟨rfl, rfl, rfl, rfl⟩ | ⟨c2, L', rfl, h⟩ := h9
    · rw [show tellOf t [] - (0 : Nat) = tellOf t [] from Int.sub_zero _] at hp ⊢
      exact exsr_take (k := 2) (end_pre P h0 (by kernel_rfl)) (end_dashR P (mid_end P hp))
    · have hN' : ∀ s ∈ L', IsTok s := fun s h => hN s (.tail _ h)
      obtain ⟨q, rfl, rfl, rfl⟩ | ⟨q, h⟩ := h
      · exact exsr_take (k := 2) (end_pre P h0 (by kernel_rfl)) (end_dashR P (exsr_take (k := 2) (mid_pre P hT) (mid_unk P hN' (hN _ (.head _)) q hp)))
      · obtain q2 | ⟨del, q2, q3, rfl, rfl⟩ := h
        · exact exsr_take (k := 2) (end_pre P h0 (by kernel_rfl)) (end_dashR P (exsr_take (k := 2) (mid_pre P hT) (mid_er P hT.2 hN' q q2 hp)))
        · obtain ⟨z, pre, e⟩ := off128 _ _ _ (by kernel_rfl) q2
          exact exsr_take (k := 2) (end_pre P h0 (by kernel_rfl)) (exsr_take (k := 1) (end_dash P (exs_take (k := 2) (mid_pre P hT) (mid_ok P hT.2 q q2))) (end_twice P (fun s h => hN' s (by rw [e]; exact List.mem_append_right _ h)) z q3 hp))
  · rw [show endR ":" acc L = .ok (.tup [.int acc, .int 0]) none L from rfl] at h
    cases h
theorem pf_okF {ch : Str} {fl : Int} {L2 : List Str} {res : D} {add : Option Int} {asj : List (Str × D)} (P : PK c (n + 1) i b src t H0) (hij : j ≠ i) (hj : lk j H0 = some (.inst cT asj)) (hjl : asj.length ≤ 800) (hf : getD? "flags" asj = some (.int fl)) (hT : TokOk t L) (hN : ∀ s ∈ L, IsTok s) (h : pfR b ch L = .ok res add L2) :
    FnN c n 145 [.obj i, .obj j, .d (.str ch)] ⟨loc, Hs i b src t H0 L⟩ (.d res) ⟨loc, pfHeap j asj fl add (Hs i b src t H0 L2)⟩ := by
  refine fn_at (S := Sc c 145) (ps := ["source", "state", "char"]) (T := []) (fl := .ret (.d res)) (loc := []) (σ := ⟨loc, Hs i b src t H0 L⟩) P.hC P.hK (Nat.le_trans (Nat.le_succ n) (Nat.le_trans P.hn (by decide))) (by kernel_rfl) (by decide) (fun vs hv => by obtain ⟨a, b, c, rfl⟩ := len3 hv; kernel_rfl) rfl rfl ?b .ret
  case b =>
  refine exs_body (body' := PFB) ?_ (by kernel_rfl)
  unfold pfR at h
  cases q : ch == "-" with
  | true =>
    have e := eq_of_beq q
    subst e
    rw [if_pos q] at h
    exact exs_take (k := 3) (pf_start P) (exs_take (k := 1) (pf_first P hT (.dash rfl)) (end_ok P hij hj hjl hf hT (by kernel_rfl) (.inr (.inl rfl)) h))
  | false =>
    rw [if_neg (by rw [q]; exact Bool.false_ne_true)] at h
    cases q2 : onR b L ch 0 with
    | inl r => obtain ⟨m, k, L1⟩ := r; rw [q2] at h; cases h
    | inr r =>
      obtain ⟨c1, acc, L1⟩ := r
      rw [q2] at h
      obtain ⟨z, q3, pre, e⟩ := on128 _ _ _ (by kernel_rfl) q2
      have hc : IsTok c1 := hN c1 (by rw [e]; exact List.mem_append_right _ (.head _))
      have hT1 : TokOk t (c1 :: L1) := tok_app pre (by rw [← e]; exact hT)
      exact exs_take (k := 3) (pf_start P) (exs_take (k := 1) (pf_first P hT (.on q q2)) (end_ok P hij hj hjl hf hT1.2 z ((con_tok hc).mp q3) h))
theorem pf_errF {ch m : Str} {k : Nat} {L2 : List Str} (P : PK c (n + 1) i b src t H0) (hs : (flagOf ch).isSome = true ∨ ch = "-") (hT : TokOk t L) (hN : ∀ s ∈ L, IsTok s) (h : pfR b ch L = .err m k L2) (hp : PosOk src m (tellOf t L2 - k)) :
    FnR c n 145 [.obj i, .obj j, .d (.str ch)] ⟨loc, Hs i b src t H0 L⟩ (excE src m (tellOf t L2 - k)) ⟨loc, Hs i b src t H0 L2⟩ := by
  refine fnr_at (S := Sc c 145) (ps := ["source", "state", "char"]) (T := []) (loc := []) (σ := ⟨loc, Hs i b src t H0 L⟩) P.hC P.hK (Nat.le_trans (Nat.le_succ n) (Nat.le_trans P.hn (by decide))) (by kernel_rfl) (by decide) (fun vs hv => by obtain ⟨a, b, c, rfl⟩ := len3 hv; kernel_rfl) rfl rfl (by kernel_rfl) ?b
  case b =>
  refine exsr_body (body' := PFB) ?_ (by kernel_rfl)
  unfold pfR at h
  cases q : ch == "-" with
  | true =>
    have e := eq_of_beq q
    subst e
    rw [if_pos q] at h
    exact exsr_take (k := 3) (pf_start P) (exsr_take (k := 1) (pf_first P hT (.dash rfl)) (end_er P hT hN (by kernel_rfl) (.inr (.inl rfl)) h hp))
  | false =>
    have hs' : (flagOf ch).isSome = true := by
      obtain h | rfl := hs
      · exact h
      · cases q
    rw [if_neg (by rw [q]; exact Bool.false_ne_true)] at h
    cases q2 : onR b L ch 0 with
    | inl r =>
      obtain ⟨m', k', L1⟩ := r
      rw [q2] at h
      cases h
      exact exsr_take (k := 3) (pf_start P) (pf_first_er P hs' hT hN q q2 hp)
    | inr r =>
      obtain ⟨c1, acc, L1⟩ := r
      rw [q2] at h
      obtain ⟨z, q3, pre, e⟩ := on128 _ _ _ (by kernel_rfl) q2
      have hc : IsTok c1 := hN c1 (by rw [e]; exact List.mem_append_right _ (.head _))
      have hT1 : TokOk t (c1 :: L1) := tok_app pre (by rw [← e]; exact hT)
      exact exsr_take (k := 3) (pf_start P) (exsr_take (k := 1) (pf_first P hT (.on q q2)) (end_er P hT1.2 (fun s h => hN s (by rw [e]; exact List.mem_append_right _ (.tail _ h))) z ((con_tok hc).mp q3) h hp))
end
end Mine
namespace Mine
open PySem PySem.W PyProof.Rows PySem.Calls PySem.Spec
section
variable {c : Cx} {n : Nat} {i j : Nat} {H : List (Nat × HO)} {loc : List (Nat × V)} {bs : Array UInt8} {L : List Str} {t : Str} {o : HO}
theorem init_bytes (hC : CxOk c) (hK : c.K = KK c) (G : G2 c) (hc : c.calm = true) (hn : n ≤ 80) (hi : lk i H = some o) (hi' : setH i (.inst cT []) H = H) (h0 : 0 < bs.size) (hb : bs.size ≤ 10000) {k' : Nat} {nx' : D} (hs : tokNext (latin bs) 0 = some (k', nx')) :
    FnN c n 59 [.obj i, .d (.bytes bs)] ⟨loc, H⟩ (.d .none) ⟨loc, setH i (.inst cT (tokAs false (.bytes bs) (latin bs) k' nx')) H⟩ := by
  refine fn_at (S := Sc c 59) (ps := ["self", "string"]) (T := []) (fl := .next) (loc := []) (σ := ⟨loc, H⟩) hC hK (by lia) (by kernel_rfl) (by decide) (fun vs hv => by obtain ⟨a, b, rfl⟩ := len2 hv; kernel_rfl) rfl rfl ?b .none
  case b =>
  refine exs_body (body' := mBdy PySem.Challenge.pw_kq0015_04 16 0) ?_ (by kernel_rfl)
  dsimp only [mBdy, fBdy, cBdy, PySem.Challenge.pw_kq0015_04, List.drop]
  refine exs_cons (sattr [("istext", .bool false)] hC (k_set hK (by decide)) (ev_callb (gl hC G.isi) (evs_cons nm (evs_cons (gl hC G.str) evs_nil)) f_isbytes) nm (as := []) hi'.symm hi (by kernel_rfl) (by decide)) ?_
  refine exs_cons (sattr [("istext", .bool false), ("string", .bytes bs)] hC (k_set hK (by decide)) nm nm rfl hi (by kernel_rfl) (by show (1 : Nat) ≤ 900; decide)) ?_
  refine exs_cons (if_t (ts_not (b := false) (ts_plain (ev_attr hC (k_attr hK (by decide)) nm (lk_setH hi) (d := .bool false) (by kernel_rfl)) t_bool)) (exs_cons (asg (ev_callt (gl hC G.str) (evs_cons nm (evs_cons ev_str evs_nil)) (f_latin h0 hb))) exs_nil)) ?_
  refine exs_cons (sattr [("istext", .bool false), ("string", .bytes bs), ("decoded_string", .str (latin bs))] hC (k_set hK (by decide)) nm nm rfl hi (by kernel_rfl) (by show (2 : Nat) ≤ 900; decide)) ?_
  refine exs_cons (sattr [("istext", .bool false), ("string", .bytes bs), ("decoded_string", .str (latin bs)), ("index", .int 0)] hC (k_set hK (by decide)) ev_int nm rfl hi (by kernel_rfl) (by show (3 : Nat) ≤ 900; decide)) ?_
  refine exs_cons (sattr (tokAs false (.bytes bs) (latin bs) 0 .none) hC (k_set hK (by decide)) ev_none nm rfl hi (by kernel_rfl) (by show (4 : Nat) ≤ 900; decide)) ?_
  refine exs_cons (ex_expr (ev_methf0 hC (kp hK (by kernel_rfl)) nm (getm_inst hC (k_next hK) (lk_setH hi) (by kernel_rfl)) (opn_fn (next_ok hC hK G.toG1 hc (by lia) (lk_setH hi) (by lia) hs)))) ?_
  rw [setH_setH]
  exact exs_sub exs_nil (sub_list .nil)
noncomputable def srcD (b : Bool) (t : Str) (bs : Array UInt8) : D := if b then .str t else .bytes bs
theorem init_any {b : Bool} (hC : CxOk c) (hK : c.K = KK c) (G : G2 c) (hc : c.calm = true) (hn : n ≤ 80) (hi : lk i H = none) (h0 : 0 < bs.size) (hb : bs.size ≤ 10000) (hlat : latin bs = t) (hT : tokNext t 0 = some (kOf t L, nxOf L)) :
    FnN c n 59 [.obj i, .d (srcD b t bs)] ⟨loc, (i, .inst cT []) :: H⟩ (.d .none) ⟨loc, (i, .inst cT (tokL b (srcD b t bs) t L)) :: H⟩ := by
  have e1 : lk i ((i, HO.inst cT []) :: H) = some (.inst cT []) := by show (bif i == i then _ else _) = _; simp
  have e2 : ∀ as, setH i (.inst cT as) ((i, HO.inst cT []) :: H) = (i, .inst cT as) :: H := fun as => by show (bif i == i then _ else _) = _; simp
  cases b with
  | true =>
    have z := init_str (loc := loc) hC hK G hc hn e1 (e2 []) hT
    rw [e2] at z; exact z
  | false =>
    subst hlat
    have z := init_bytes (loc := loc) (bs := bs) hC hK G hc hn e1 (e2 []) h0 hb hT
    rw [e2] at z; exact z
end
theorem ns_some_of {K : Frag} {h : Heap} {N : Addr} {mg : Str → Option Value} {x : Str} {v : Value} (X : K.In h) (G : h.Ns N mg) (e : nsIn K N x = some (some v)) : mg x = some v := by
  obtain ⟨o, es, ep, ho, hd, _, hf⟩ := G
  unfold nsIn at e
  split at e
  · rename_i c d es' n' sl q
    have := X _ _ q
    rw [this] at ho
    cases ho
    cases hd
    rw [← hf]
    split at e
    · rename_i en hen
      cases e
      have hen' : es.find? (·.key.isStr x) = some en := by rw [← hen]; simp
      first
        | (unfold nsFind findBy; rw [hen']; rfl)
        | (show (es.find? (·.key.isStr x)).map (·.val) = _; rw [hen']; rfl)
    · split at e <;> cases e
  · cases e
noncomputable def entsOf (K : Frag) (a : Addr) : List DictEntry := match K.lookup a with
  | some ⟨_, _, .dict es _, _⟩ => es.toList
  | _ => []
noncomputable def epOf (K : Frag) (a : Addr) : Nat := match K.lookup a with
  | some ⟨_, _, .dict _ n, _⟩ => n
  | _ => 0
noncomputable def tkOf : Value → Tok
  | .str _ t => t
  | .int _ t => t
  | _ => 0
noncomputable def mkEs (κ : Str → Int) : List (Str × Int) → List (Tok × Tok) → List DictEntry
  | (k, i) :: l, (t, u) :: ts => ⟨κ k, .str k t, .int i u⟩ :: mkEs κ l ts
  | _, _ => []
theorem mkEs_drd {κ : Str → Int} {Zf : Fz} : ∀ {l : List (Str × Int)} {ts : List (Tok × Tok)}, l.length = ts.length → DRd κ Zf (l.map fun p => (p.1, .int p.2)) (mkEs κ l ts)
  | [], [], _ => .nil
  | (k, i) :: l, (t, u) :: ts, h => .cons (.int _ _) (mkEs_drd (by simpa using h))
  | [], _ :: _, h => by cases h
  | _ :: _, [], h => by cases h
theorem globDct {c : Cx} {x : Str} {a : Addr} {l : List (Str × Int)} (hC : CxOk c) (h1 : GlobIs c x (.ref a)) (hlo : (a == sysModules) = false) (h2 : c.K.lookup a = some { cls := .type "dict", data := .dict (entsOf c.K a).toArray (epOf c.K a) })
    (h3 : entsOf c.K a = mkEs c.hs l ((entsOf c.K a).map fun e => (tkOf e.key, tkOf e.val))) (h4 : l.length = ((entsOf c.K a).map fun e => (tkOf e.key, tkOf e.val)).length) (h5 : (l.map (·.1)).Nodup) : GlobD c x (.dct (l.map fun p => (p.1, .int p.2))) := by
  refine ⟨_, h1, fun ω => .dct (es := entsOf c.K a) (.inr (hC.kin _ _ h2)) hlo ⟨rfl, rfl, rfl⟩ rfl ?_ ?_⟩
  · rw [List.map_map]; exact h5
  · rw [h3]; exact mkEs_drd (by simpa using h4)
theorem globB {c : Cx} {x : Str} {v : Value} (hC : CxOk c) (h1 : nsIn c.K mainGlobals x = some none) (h2 : c.mb x = some v) : GlobIs c x v := .inr ⟨ns_none_of hC.kin hC.g h1, h2⟩
theorem globG {c : Cx} {x : Str} {v : Value} (hC : CxOk c) (h1 : nsIn c.K mainGlobals x = some (some v)) : GlobIs c x v := .inl (ns_some_of hC.kin hC.g h1)
structure GL (c : Cx) : Prop extends G3 c where
  sum : GlobIs c "sum" (.builtin "sum")
  ord : GlobIs c "ord" (.builtin "ord")
  bytes : GlobIs c "bytes" (.type "bytes")
  enum : GlobIs c "enumerate" (.type "enumerate")
  repr : GlobIs c "repr" (.builtin "repr")
  tok : GlobIs c "Tokenizer" (.ref cT)
  pf : GlobIs c "_parse_flags" (.ref 145)
  pe : GlobIs c "PatternError" (.ref cE)
theorem glAll {c : Cx} (hC : CxOk c) (hK : c.K = KK c) (hb : ∀ x : Str, x ≠ "__name__" → c.mb x = bootBuiltins x) : GL c where
  ie := globB hC (by rw [hK]; kernel_rfl) ((hb _ (by decide)).trans (by kernel_rfl))
  isi := globB hC (by rw [hK]; kernel_rfl) ((hb _ (by decide)).trans (by kernel_rfl))
  str := globB hC (by rw [hK]; kernel_rfl) ((hb _ (by decide)).trans (by kernel_rfl))
  ec := globG hC (by rw [hK]; kernel_rfl)
  len := globB hC (by rw [hK]; kernel_rfl) ((hb _ (by decide)).trans (by kernel_rfl))
  sup := globB hC (by rw [hK]; kernel_rfl) ((hb _ (by decide)).trans (by kernel_rfl))
  sum := globB hC (by rw [hK]; kernel_rfl) ((hb _ (by decide)).trans (by kernel_rfl))
  ord := globB hC (by rw [hK]; kernel_rfl) ((hb _ (by decide)).trans (by kernel_rfl))
  bytes := globB hC (by rw [hK]; kernel_rfl) ((hb _ (by decide)).trans (by kernel_rfl))
  enum := globB hC (by rw [hK]; kernel_rfl) ((hb _ (by decide)).trans (by kernel_rfl))
  repr := globB hC (by rw [hK]; kernel_rfl) ((hb _ (by decide)).trans (by kernel_rfl))
  tok := globG hC (by rw [hK]; kernel_rfl)
  pf := globG hC (by rw [hK]; kernel_rfl)
  pe := globG hC (by rw [hK]; kernel_rfl)
  flags := globDct (l := [("i", 2), ("L", 4), ("m", 8), ("s", 16), ("x", 64), ("a", 256), ("u", 32)]) hC (globG (v := .ref 45) hC (by rw [hK]; kernel_rfl)) (by decide) (by rw [hK]; kernel_rfl) (by rw [hK]; kernel_rfl) (by rw [hK]; kernel_rfl) (by decide)
  types := by
    obtain ⟨t, ht⟩ : ∃ t, nsIn (KK c) mainGlobals "TYPE_FLAGS" = some (some (.int 292 t)) := ⟨tkOf ((nsIn (KK c) mainGlobals "TYPE_FLAGS").getD none |>.getD .none), by kernel_rfl⟩
    exact ⟨_, globG hC (by rw [hK]; exact ht), fun ω => .int _ _⟩
  globs := by
    obtain ⟨t, ht⟩ : ∃ t, nsIn (KK c) mainGlobals "GLOBAL_FLAGS" = some (some (.int 128 t)) := ⟨tkOf ((nsIn (KK c) mainGlobals "GLOBAL_FLAGS").getD none |>.getD .none), by kernel_rfl⟩
    exact ⟨_, globG hC (by rw [hK]; exact ht), fun ω => .int _ _⟩
end Mine
namespace Mine
open PySem PySem.W PyProof.Rows PySem.Calls PySem.Spec
noncomputable def Lat (t : Str) : Prop := ∀ ch ∈ t.cps.toList, ch < 256
noncomputable def ordsOf (t : Str) : List Int := t.cps.toList.map fun (ch : Nat) => (ch : Int)
noncomputable def octetsOf (t : Str) : Array UInt8 := byteArr (ordsOf t)
theorem latin_octets {t : Str} (h : Lat t) : latin (octetsOf t) = t := by
  unfold latin octetsOf byteArr ordsOf
  obtain ⟨⟨l⟩⟩ := t
  congr 1
  apply Array.toList_inj.mp
  simp only [List.map_map, Array.toList_map]
  have : ∀ ch ∈ l, ((ch : Int).toNat.toUInt8).toNat = ch := fun ch hc => by
    have z := h ch hc
    simp
    lia
  have e : ∀ l' : List Nat, (∀ ch ∈ l', ((ch : Int).toNat.toUInt8).toNat = ch) → l'.map (fun ch : Nat => ((ch : Int).toNat.toUInt8).toNat) = l' := by
    intro l' hl
    induction l' with
    | nil => rfl
    | cons a l' ih => rw [List.map_cons, hl a (.head _), ih fun ch hc => hl ch (.tail _ hc)]
  simpa [Function.comp_def] using e l this
theorem octets_size {t : Str} : (octetsOf t).size = t.length := by
  unfold octetsOf
  rw [byteArr_size]; unfold ordsOf; rw [List.length_map]; exact Array.length_toList
noncomputable def cpsL : List Str → List Nat
  | [] => []
  | s :: L => s.cps.toList ++ cpsL L
noncomputable def txt (L : List Str) : Str := ⟨(cpsL L).toArray⟩
theorem len_str {s : Str} : s.cps.toList.length = s.length := Array.length_toList
theorem len_app (x y : Str) : (x ++ y).length = x.length + y.length := by
  show (x.cps ++ y.cps).size = _
  rw [Array.size_append]; rfl
theorem cpsL_app : ∀ {A B : List Str}, cpsL (A ++ B) = cpsL A ++ cpsL B
  | [], _ => rfl
  | s :: A, B => by show s.cps.toList ++ cpsL (A ++ B) = (s.cps.toList ++ cpsL A) ++ cpsL B; rw [cpsL_app, List.append_assoc]
theorem lenL_cons {s : Str} {L : List Str} : lenL (s :: L) = s.length + lenL L := by unfold lenL; rw [List.map_cons, List.sum_cons]
theorem lenL_nil : lenL [] = 0 := rfl
theorem lenL_app {A B : List Str} : lenL (A ++ B) = lenL A + lenL B := by unfold lenL; rw [List.map_append, List.sum_append]
theorem cpsL_len : ∀ {L : List Str}, (cpsL L).length = lenL L
  | [] => rfl
  | s :: L => by
    show (s.cps.toList ++ cpsL L).length = _
    rw [List.length_append, cpsL_len, lenL_cons, len_str]
theorem txt_len {L : List Str} : (txt L).length = lenL L := by show (cpsL L).toArray.size = _; rw [List.size_toArray, cpsL_len]
theorem txt_app {A B : List Str} : txt (A ++ B) = txt A ++ txt B := by
  unfold txt
  rw [cpsL_app]
  show (⟨_⟩ : Str) = ⟨(cpsL A).toArray ++ (cpsL B).toArray⟩
  congr 1
  simp
theorem tokNext_end {t : Str} : tokNext t t.length = some (t.length, .none) := by
  unfold tokNext
  have : t.cps[t.length]? = none := by rw [Array.getElem?_eq_none_iff]; exact Nat.le_refl _
  rw [this]
theorem toks_aux {t : Str} : ∀ (L : List Str) (pre : List Nat), (∀ s ∈ L, IsTok s) → t.cps.toList = pre ++ cpsL L → TokOk t L ∧ tokNext t pre.length = some (kOf t L, nxOf L) := by
  intro L
  induction L with
  | nil =>
    intro pre _ hp
    have e : pre.length = t.length := by
      have := congrArg List.length hp
      rw [show cpsL [] = [] from rfl, List.append_nil, len_str] at this
      exact this.symm
    exact ⟨trivial, by rw [e]; exact tokNext_end⟩
  | cons s L ih =>
    intro pre hN hp
    have len : t.length = pre.length + (s.length + lenL L) := by
      have := congrArg List.length hp
      rw [List.length_append, show cpsL (s :: L) = s.cps.toList ++ cpsL L from rfl, List.length_append, len_str, len_str, cpsL_len] at this
      exact this
    obtain ⟨h1, h2⟩ := ih (pre ++ s.cps.toList) (fun x hx => hN x (.tail _ hx)) (by rw [hp]; show pre ++ (s.cps.toList ++ cpsL L) = _; rw [List.append_assoc])
    rw [List.length_append, len_str] at h2
    have hk : kOf t (s :: L) = pre.length + s.length := by
      unfold kOf
      rw [List.tail_cons]; lia
    have get : ∀ k, t.cps[pre.length + k]? = (s.cps.toList ++ cpsL L)[k]? := fun k => by
      rw [← Array.getElem?_toList, hp]
      show (pre ++ (s.cps.toList ++ cpsL L))[pre.length + k]? = _
      rw [List.getElem?_append_right (Nat.le_add_right _ _), Nat.add_sub_cancel_left]
    refine ⟨⟨by rw [hk]; exact h2, h1⟩, ?_⟩
    rw [hk]
    rcases hN s (.head _) with ⟨a, h92, rfl⟩ | ⟨d, rfl⟩
    · have g0 : t.cps[pre.length]? = some a := get 0
      unfold tokNext
      rw [g0]
      dsimp only
      rw [if_neg h92]
      rfl
    · have g0 : t.cps[pre.length]? = some 92 := get 0
      have g1 : t.cps[pre.length + 1]? = some d := get 1
      unfold tokNext
      rw [g0]
      dsimp only
      rw [if_pos rfl, g1]
      rfl
theorem toks_ok {L : List Str} (hN : ∀ s ∈ L, IsTok s) : TokOk (txt L) L ∧ tokNext (txt L) 0 = some (kOf (txt L) L, nxOf L) := toks_aux L [] hN rfl
theorem tell_at {pre L : List Str} : ((kOf (txt (pre ++ L)) L : Nat) : Int) - (match L with | [] => (0 : Nat) | s :: _ => s.length : Nat) = lenL pre := by
  unfold kOf
  rw [txt_len, lenL_app]
  cases L with
  | nil => simp only [List.tail_nil, lenL_nil]; lia
  | cons s L => rw [List.tail_cons, lenL_cons]; dsimp only; lia
theorem comp_chars {c : Cx} {S : Scope} {n : Nat} {elt : Expr} {x : Str} {σ : St} (h : ∀ ch : Nat, Ev c S n elt ⟨(key x, .d (.str ⟨#[ch]⟩)) :: σ.loc, σ.heap⟩ (.d (.int ch)) ⟨(key x, .d (.str ⟨#[ch]⟩)) :: σ.loc, σ.heap⟩) (l : List Nat) :
    CompIs c S n [] elt x σ ((l.map fun (ch : Nat) => D.str ⟨#[ch]⟩).map .d) ((l.map fun (ch : Nat) => (ch : Int)).map .int) := by
  induction l with
  | nil => exact .nil
  | cons a l ih => exact .take (show true = true from rfl) (h a) ih
end Mine
namespace Mine
open PySem PySem.W PyProof.Rows PySem.Calls PySem.Spec
section
variable {c : Cx} {S scope : Scope} {n : Nat} {σ σ' σ₁ σ₂ σ₃ σ₄ : St} {X Y Z : V} {e l r t test target iter fn kx vx : Expr} {es ifs : List Expr} {Xs : List V} {pos tpos : Pos} {x y : Str} {f : Fm} {ω : Om} {s : Shared}
structure DctObj (c : Cx) (Z : Fz) (kv : List (Str × D)) (o : Obj) : Prop where
  ex : o.ExactDict
  mem : ∃ es ep, o.data = .dict (List.toArray es) ep ∧ DRd c.hs Z kv es
  nd : (kv.map (·.1)).Nodup
theorem DctObj.mono {Z Z' : Fz} {kv : List (Str × D)} {o : Obj} (h : DctObj c Z kv o) (hs : ∀ a o, Z a o → Z' a o) : DctObj c Z' kv o := by
  obtain ⟨a, ⟨es, ep, b, d⟩, e⟩ := h
  exact ⟨a, ⟨es, ep, b, d.mono hs⟩, e⟩
end
end Mine
namespace Mine
open PySem PySem.W PyProof.Rows PySem.Calls PySem.Spec
section
variable {c : Cx} {n : Nat} {σ : St}
noncomputable def two (a b : Int) : PyData := .tuple [.int a, .int b]
end
end Mine
namespace Mine
open PySem PySem.W PyProof.Rows PySem.Calls PySem.Spec
inductive Pd1 : D → PyData → Prop
  | none : Pd1 .none .none
  | bool (b : Bool) : Pd1 (.bool b) (.bool b)
  | int (i : Int) : Pd1 (.int i) (.int i)
  | str (x : Str) : Pd1 (.str x) (.str x)
inductive Pd1s : List D → List PyData → Prop
  | nil : Pd1s [] []
  | cons {d : D} {p : PyData} {l : List D} {ps : List PyData} : Pd1 d p → Pd1s l ps → Pd1s (d :: l) (p :: ps)
inductive Pd2 : D → PyData → Prop
  | leaf {d : D} {p : PyData} : Pd1 d p → Pd2 d p
  | tup {l : List D} {ps : List PyData} : Pd1s l ps → Pd2 (.tup l) (.tuple ps)
inductive Pd2s : List D → List PyData → Prop
  | nil : Pd2s [] []
  | cons {d : D} {p : PyData} {l : List D} {ps : List PyData} : Pd2 d p → Pd2s l ps → Pd2s (d :: l) (p :: ps)
inductive PdOf : D → PyData → Prop
  | leaf {d : D} {p : PyData} : Pd1 d p → PdOf d p
  | tup {l : List D} {ps : List PyData} : Pd2s l ps → PdOf (.tup l) (.tuple ps)
section
variable {κ : Str → Int} {Z : Fz} {h : Heap} {d : D} {p : PyData} {v : Value} {l : List D} {ps : List PyData} {vs : List Value}
theorem Pd1.reads (q : Pd1 d p) (r : DR κ Z d v) : Reads h v p [] := by
  cases q with
  | none => cases r; exact .none
  | bool b => cases r; exact .bool _
  | int i => cases r; exact .int _ _
  | str x => cases r; exact .str _ _
theorem Pd1s.reads (q : Pd1s l ps) : ∀ {vs}, DRs κ Z l vs → ReadsAll h vs ps [] := by
  induction q with
  | nil => intro vs r; cases r; exact .nil
  | cons a _ ih => intro vs r; cases r with | cons r1 r2 => exact .cons (as := []) (bs := []) (a.reads r1) (ih r2)
theorem tup_reads (hz : ∀ a o, Z a o → h.get? a = some o) (k : ∀ {vs}, DRs κ Z l vs → ReadsAll h vs ps []) (r : DR κ Z (.tup l) v) : Reads h v (.tuple ps) [] := by
  cases r with | tup z hc hd hds => exact .tuple (hz _ _ z) hc hd (k hds)
theorem Pd2.reads (hz : ∀ a o, Z a o → h.get? a = some o) (q : Pd2 d p) (r : DR κ Z d v) : Reads h v p [] := by
  cases q with
  | leaf q => exact q.reads r
  | tup q => exact tup_reads hz (fun r => q.reads r) r
theorem Pd2s.reads (hz : ∀ a o, Z a o → h.get? a = some o) (q : Pd2s l ps) : ∀ {vs}, DRs κ Z l vs → ReadsAll h vs ps [] := by
  induction q with
  | nil => intro vs r; cases r; exact .nil
  | cons a _ ih => intro vs r; cases r with | cons r1 r2 => exact .cons (as := []) (bs := []) (a.reads hz r1) (ih r2)
theorem reads_of (hz : ∀ a o, Z a o → h.get? a = some o) (q : PdOf d p) (r : DR κ Z d v) : Reads h v p [] := by
  cases q with
  | leaf q => exact q.reads r
  | tup q => exact tup_reads hz (fun r => q.reads hz r) r
end
structure Sm (k : Nat) (p : PyData) : Prop where
  sh : p.showable = true
  lv : p.leavesShort 13 = true
  wt : p.weight ≤ k
  dp : p.depth ≤ 5
theorem Sm.none {k : Nat} : Sm k .none := ⟨rfl, rfl, Nat.zero_le _, Nat.zero_le _⟩
theorem Sm.int {k : Nat} {i : Int} (h0 : 0 ≤ i) (h1 : i < 10 ^ 10) (hk : 40 ≤ k) : Sm k (.int i) := by
  have hl : i.natAbs.log2 < 40 := by
    by_cases h : i.natAbs = 0
    · rw [h]; decide
    · exact (Nat.log2_lt h).mpr (by lia)
  refine ⟨?_, ?_, ?_, Nat.zero_le _⟩
  · simp only [PyData.showable, decide_eq_true_eq]; lia
  · have := toString_length_le (k := 10) h0 (by decide) h1
    show decide ((PySem.Str.ofString (toString i)).length ≤ 13) = true
    exact decide_eq_true (by lia)
  · simp only [PyData.weight]
    split
    · exact Nat.zero_le _
    · lia
theorem Sm.str {k : Nat} {x : Str} (h : x.cps.toList.all (fun c => decide (c < 16 ^ 8)) = true) (hk : x.length ≤ k) : Sm k (.str x) :=
  ⟨rfl, by simp only [PyData.leavesShort]; exact h, by simp only [PyData.weight]; exact hk, Nat.zero_le _⟩
theorem Sm.all {k : Nat} : ∀ {ps : List PyData}, (∀ p ∈ ps, Sm k p ∧ p.depth ≤ 4) → PyData.showableAll ps = true ∧ PyData.leavesShortAll 13 ps = true ∧ PyData.weightAll ps ≤ (k + 1) * ps.length ∧ PyData.depthAll ps ≤ 4
  | [], _ => ⟨by simp only [PyData.showableAll], by simp only [PyData.leavesShortAll], by simp only [PyData.weightAll]; exact Nat.zero_le _, by simp only [PyData.depthAll]; exact Nat.zero_le _⟩
  | p :: ps, h => by
    obtain ⟨a1, a2, a3, a4⟩ := Sm.all (ps := ps) fun q hq => h q (.tail _ hq)
    obtain ⟨b, b4⟩ := h p (.head _)
    refine ⟨by simp only [PyData.showableAll, b.sh, a1, Bool.and_self], by simp only [PyData.leavesShortAll, b.lv, a2, Bool.and_self], ?_, ?_⟩
    · simp only [PyData.weightAll, List.length_cons, Nat.mul_succ]
      have := b.wt
      lia
    · simp only [PyData.depthAll]
      exact Nat.max_le.mpr ⟨b4, a4⟩
theorem Sm.tup {k k' : Nat} {ps : List PyData} (h : ∀ p ∈ ps, Sm k p ∧ p.depth ≤ 4) (hk : (k + 1) * ps.length ≤ k') : Sm k' (.tuple ps) := by
  obtain ⟨a1, a2, a3, a4⟩ := Sm.all h
  exact ⟨by simp only [PyData.showable]; exact a1, by simp only [PyData.leavesShort]; exact a2, by simp only [PyData.weight]; lia, by simp only [PyData.depth]; lia⟩
theorem Sm.fits {k : Nat} {p : PyData} (h : Sm k p) (hk : k ≤ 2 ^ 20) : p.shown.length ≤ sizeLine := PyData.shown_fits (B := 13) (by decide) (by decide) h.lv (Nat.le_trans h.wt hk)
section
variable {c : Cx} {n : Nat} {σ : St}
theorem f_repr {d : D} {p : PyData} {k : Nat} (hn : n ≤ 100) (hp : PdOf d p) (hs : Sm k p) (hk : k ≤ 2 ^ 20) : OpN c n (fun vs => call (.builtin "repr") vs) [.d d] σ (.d (.str p.shown)) σ := fun S f F ω s Q E vs R A h => by
  obtain ⟨v, rfl, A1⟩ := A.oneD
  have fin := hs.fits hk
  have hu := F.units
  have go : ∀ a, v = .ref a → wpAny (model c.prog c.w) f.A (call (.builtin "repr") [v]) Q E s := fun a e => by
    subst e
    exact repr_of_reads' (reads_of (fun a o z => R.fz z) hp A1) hs.sh (fun _ h => nomatch h) F.guards (by show f.A.units + (p.depth + 1) < 9900; have := Nat.mul_le_mul_left 50 hn; have := hs.dp; lia) (fun _ _ e => e) (fun h' u' tk hk => h ω _ _ (.refl ..) (R.grow hk) (.d (.str _ _))) fin
  cases hp with
  | leaf q => cases q with
    | none => cases A1; exact PySem.P.repr_of_none (h ω _ _ (.refl ..) R.toks (.d (.str _ _)))
    | bool b => cases A1; exact PySem.P.repr_of_bool (h ω _ _ (.refl ..) R.toks (.d (.str _ _)))
    | int i => cases A1; exact PySem.P.repr_of_int (by have := hs.sh; simp only [PyData.showable, decide_eq_true_eq] at this; exact this) (h ω _ _ (.refl ..) R.toks (.d (.str _ _)))
    | str x => cases A1; exact PySem.P.repr_of_str (h ω _ _ (.refl ..) R.toks (.d (.str _ _))) fin
  | tup ps => cases A1; exact go _ rfl
end
end Mine
namespace Mine
open PySem PySem.W PyProof.Rows PySem.Calls PySem.Spec
noncomputable def srcH (oct : Bool) (L0 L : List Str) : HO := .inst cT (tokL (!oct) (srcD (!oct) (txt L0) (octetsOf (txt L0))) (txt L0) L)
noncomputable def asN : List (Str × D) := tokL true (.str "") "" []
noncomputable def asS (fl : Int) : List (Str × D) := tokL true (.str "") "" [] ++ ([("flags", D.int fl)] : List (Str × D))
section
variable {c : Cx}
theorem fresh_of {i n : Nat} {σ : St} (h1 : n * 1000 ≤ i) (h2 : i < (n + 1) * 1000) (h3 : lk i σ.heap = none) (h4 : σ.loc.all (fun p => p.2.avoids i) = true) : Fresh i n σ := by
  refine ⟨h1, h2, h3, fun k X hX => ?_⟩
  have : ∀ l : List (Nat × V), l.all (fun p => p.2.avoids i) = true → lk k l = some X → X.avoids i = true := by
    intro l
    induction l with
    | nil => intro _ h; cases h
    | cons p l ih =>
      obtain ⟨a, y⟩ := p
      intro ha h
      rw [List.all_cons, Bool.and_eq_true] at ha
      unfold lk at h
      cases q : (a == k) with
      | true => rw [q] at h; cases h; exact ha.1
      | false => rw [q] at h; exact ih ha.2 h
  exact this _ h4 hX
variable {S : Scope} {n i : Nat} {x : Str} {e : Expr} {σ : St} {pos tpos apos fp : Pos}
theorem new_src {oct : Bool} {L : List Str} (hC : CxOk c) (hK : c.K = KK c) (G : GL c) (hc : c.calm = true) (hn : n ≤ 50) (hN : ∀ s ∈ L, IsTok s) (hl : Lat (txt L)) (h0 : 0 < lenL L) (h1 : lenL L ≤ 4000)
    (he : Ev c S n e σ (.d (srcD (!oct) (txt L) (octetsOf (txt L)))) σ) (hi : Fresh i n σ) (hg : S.names.lookup ("Tokenizer" : Str) = some .globalImplicit := by kernel_rfl) (hv : isOwnVar (S.names.lookup x) = true := by kernel_rfl) (ha : notStar e = true := by rfl)
    (hq : ∀ env, eval (.Call (.Name "Tokenizer" fp) [e] [] pos) env = (do callWith pos (← eval (.Name "Tokenizer" fp) env) [] (backTo pos (starEach [e] env)) (backToKw pos (keywordEach [] env))) := by intro _; rfl) :
    Ex c S n (.Assign [.Name x tpos] (.Call (.Name "Tokenizer" fp) [e] [] pos) apos) σ .next (St.set ⟨σ.loc, (i, srcH oct L L) :: σ.heap⟩ x (.obj i)) := by
  have hz : (octetsOf (txt L)).size = lenL L := octets_size.trans txt_len
  refine ex_new (loc := []) (Xs := [.d (srcD (!oct) (txt L) (octetsOf (txt L)))]) hC (k_new hK) hv (gl hC G.tok hg) (evs_cons he evs_nil ha) hi.1 hi.2.1 hi.2.2.1 hi.2.2.2 (fun X hX => ?_) ?_ ha rfl hq
  · rw [List.mem_singleton] at hX; subst hX; rfl
  · exact init_any hC hK G.toG2 hc (by lia) hi.2.2.1 (by lia) (by lia) (latin_octets hl) (toks_ok hN).2
theorem new_sta {kd : Nat} {cp : Pos} (hC : CxOk c) (hK : c.K = KK c) (G : GL c) (hc : c.calm = true) (hn : n ≤ 50) (hi : Fresh i n σ) (hg : S.names.lookup ("Tokenizer" : Str) = some .globalImplicit := by kernel_rfl) (hv : isOwnVar (S.names.lookup x) = true := by kernel_rfl) :
    Ex c S n (.Assign [.Name x tpos] (.Call (.Name "Tokenizer" fp) [.Constant (.str "") kd cp] [] pos) apos) σ .next (St.set ⟨σ.loc, (i, .inst cT asN) :: σ.heap⟩ x (.obj i)) := by
  refine ex_new (loc := []) (Xs := [.d (.str "")]) hC (k_new hK) hv (gl hC G.tok hg) (evs_cons ev_str evs_nil) hi.1 hi.2.1 hi.2.2.1 hi.2.2.2 (fun X hX => ?_) ?_ rfl rfl (fun _ => rfl)
  · rw [List.mem_singleton] at hX; subst hX; rfl
  · have z := init_str (c := c) (n := n + 1) (loc := σ.loc) (i := i) (H := (i, .inst cT []) :: σ.heap) (t := "") (k' := 0) (nx' := .none) hC hK G.toG2 hc (by lia) (o := .inst cT []) lk_head setH_head (by kernel_rfl)
    rw [setH_head] at z
    exact z
theorem tellOf_at {pre L : List Str} : tellOf (txt (pre ++ L)) L = lenL pre := by
  unfold tellOf
  rw [← tell_at (pre := pre) (L := L)]
  cases L <;> rfl
theorem ev_given {Sc2 : Scope} {on tn vn : Str} {oct : Bool} {t : Str} {p1 p2 p3 p4 p5 p6 p7 p8 p9 p10 p11 : Pos} (hC : CxOk c) (G : GL c) (hc : c.calm = true) (hl : Lat t) (ht : t.length ≤ 4000)
    (ho : lk (key on) σ.loc = some (.d (.bool oct))) (hx : lk (key tn) σ.loc = some (.d (.str t))) (hd : lk (key dot0) σ.loc = none)
    (k1 : isVar (S.names.lookup on) = true := by kernel_rfl) (k2 : plainNm on = true := by kernel_rfl) (k3 : isVar (S.names.lookup tn) = true := by kernel_rfl) (k4 : plainNm tn = true := by kernel_rfl) (k5 : compOk S Sc2 vn = true := by kernel_rfl) (k6 : isVar ((relS Sc2 S).names.lookup vn) = true := by kernel_rfl) (k7 : plainNm vn = true := by kernel_rfl)
    (k8 : (relS Sc2 S).names.lookup ("ord" : Str) = some .globalImplicit := by kernel_rfl) (k9 : S.names.lookup ("bytes" : Str) = some .globalImplicit := by kernel_rfl) :
    Ev c S n (.IfExp (.Name on p1) (.Call (.Name "bytes" p2) [.ListComp (.Call (.Name "ord" p3) [.Name vn p4] [] p5) [⟨.Name vn p6, .Name tn p7, [], 0⟩] Sc2 p8] [] p9) (.Name tn p10) p11) σ (.d (srcD (!oct) t (octetsOf t))) σ := by
  refine ev_ite (b := oct) (σ₁ := σ) (σ₂ := σ) ?a ?b ?c
  case a => exact ts_plain (nm k1 k2 ho) t_bool
  case b =>
    intro q; subst q
    refine ev_callt (gl hC G.bytes k9) (evs_cons ?d evs_nil ?e) (f_bytes (ns := ordsOf t) (ds := (ordsOf t).map .int) hc rfl ?f ?g) ?e' rfl ?h
    case d =>
      refine ev_comp (evIt_str hc (nm k3 k4 hx)) (comp_chars (fun ch => ?x) t.cps.toList) k5 hd ?y rfl pins_nil
      case x => exact ev_callb (gl hC G.ord k8) (evs_cons (ev_name k6 k7 lk1) evs_nil) f_ord
      case y => rw [List.length_map, signs_len]; show t.length ≤ _; lia
    case e => rfl
    case e' => rfl
    case f =>
      intro m hm
      unfold ordsOf at hm
      obtain ⟨ch, hch, rfl⟩ := List.mem_map.mp hm
      have := hl ch hch
      lia
    case g => unfold ordsOf; rw [List.length_map]; exact Nat.le_trans (Nat.le_of_eq Array.length_toList) (by show t.length ≤ _; lia)
    case h => intro _; rfl
  case c =>
    intro q; subst q
    exact nm k3 k4 hx
theorem src_ok {b : Bool} {t : Str} {bs : Array UInt8} : SrcOk (srcD b t bs) := by
  cases b with
  | true => exact .str t
  | false => exact .bytes bs
end
end Mine
namespace Mine
open PySem PySem.W PyProof.Rows PySem.Calls PySem.Spec
section
variable {c : Cx} {S : Scope} {n : Nat} {σ σ' σ₁ σ₂ : St} {X Y : V} {e elt : Expr} {x : Str} {rest : List Stmt} {fl : Fl} {p q : Pos}
theorem ev_is (h : Ev c S n e σ X σ₁) (q : X = Y) : Ev c S n e σ Y σ₁ := q ▸ h
theorem as1 (h : Ev c S n e σ X σ) (h2 : Exs c S n rest (St.set σ x X) fl σ') (hv : isOwnVar (S.names.lookup x) = true := by kernel_rfl) (hn : noComp e = true := by rfl) : Exs c S n (.Assign [.Name x p] e q :: rest) σ fl σ' := exs_cons (asg h hv hn) h2
end
noncomputable def wd (w : List Nat) : Str := txt (w.map ch1)
theorem cpsL_ch : ∀ w : List Nat, cpsL (w.map ch1) = w
  | [] => rfl
  | a :: w => by show [a] ++ cpsL (w.map ch1) = _; rw [cpsL_ch]; rfl
theorem wd_cps {w : List Nat} : (wd w).cps.toList = w := by unfold wd txt; rw [cpsL_ch]
theorem wd_mk {w : List Nat} : wd w = ⟨w.toArray⟩ := by unfold wd txt; rw [cpsL_ch]
theorem lenL_ch {w : List Nat} : lenL (w.map ch1) = w.length := by rw [← cpsL_len, cpsL_ch]
theorem wd_len {w : List Nat} : (wd w).length = w.length := by unfold wd; rw [txt_len, lenL_ch]
theorem wd_app {v w : List Nat} : wd (v ++ w) = wd v ++ wd w := by unfold wd; rw [List.map_append, txt_app]
theorem signs_wd {w : List Nat} : signs (wd w) = w.map fun a => D.str (ch1 a) := by unfold signs; rw [wd_cps]
end Mine
namespace Mine
open PySem PySem.W PyProof.Rows PySem.Calls PySem.Spec
theorem take_range {α : Type} (l : List α) : ∀ b, b ≤ l.length → (List.range b).filterMap (l[·]?) = l.take b := by
  intro b
  induction b with
  | zero => intro _; rfl
  | succ b ih =>
    intro h
    rw [List.range_succ, List.filterMap_append, ih (by lia), List.take_add_one]
    simp [List.getElem?_eq_getElem (show b < l.length by lia)]
theorem range_drop {α : Type} (l : List α) (a n : Nat) (h : a + n ≤ l.length) : ((List.range n).map fun k : Nat => ((a : Int) + 1 * (k : Int)).toNat).filterMap (l[·]?) = (l.drop a).take n := by
  rw [List.filterMap_map, ← take_range (l.drop a) n (by rw [List.length_drop]; lia)]
  congr 1
  funext k
  have e : ((a : Int) + 1 * (k : Int)).toNat = a + k := by lia
  simp only [Function.comp_apply, e, List.getElem?_drop]
theorem clip_lo {n : Nat} : ∀ {lo : Option Int} {a : Nat}, (lo = some (a : Int) ∨ (lo = none ∧ a = 0)) → a ≤ n → (match lo with | none => (0 : Int) | some i => max 0 (min (if i < 0 then i + (n : Int) else i) (n : Int))) = (a : Int) := by
  intro lo a h ha
  rcases h with rfl | ⟨rfl, rfl⟩
  · have : ¬ ((a : Int) < 0) := by lia
    simp only [this, if_false]; lia
  · rfl
theorem clip_hi {n : Nat} : ∀ {hi : Option Int} {z : Nat}, (hi = some (z : Int) ∨ (hi = none ∧ z = n)) → z ≤ n → (match hi with | none => (n : Int) | some i => max 0 (min (if i < 0 then i + (n : Int) else i) (n : Int))) = (z : Int) := by
  intro hi z h hz
  rcases h with rfl | ⟨rfl, rfl⟩
  · have : ¬ ((z : Int) < 0) := by lia
    simp only [this, if_false]; lia
  · rfl
theorem slice_wd {w : List Nat} {lo hi : Option Int} {a z : Nat} (h1 : lo = some (a : Int) ∨ (lo = none ∧ a = 0)) (h2 : hi = some (z : Int) ∨ (hi = none ∧ z = w.length)) (ha : a ≤ z) (hz : z ≤ w.length) : sliceS (wd w) lo hi none = wd ((w.drop a).take (z - a)) := by
  have ei : PySem.Builtin.Str.strSliceIndices lo hi 1 w.length = (List.range (z - a)).map fun k : Nat => ((a : Int) + 1 * (k : Int)).toNat := by
    unfold PySem.Builtin.Str.strSliceIndices
    have e1 : ((1 : Int) > 0) := by decide
    simp only [e1, if_true]
    have e2 : ∀ {x x' y y' : Int}, x = x' → y = y' → sliceRange x y 1 = sliceRange x' y' 1 := by
      intro x x' y y' h h'; rw [h, h']
    refine (e2 (clip_lo (n := w.length) h1 (by lia)) (clip_hi (n := w.length) h2 hz)).trans ?_
    unfold sliceRange
    simp only [e1, if_true]
    have : (if (a : Int) < (z : Int) then ((z : Int) - a + 1 - 1) / 1 else 0).toNat = z - a := by
      split <;> lia
    rw [this]
  have el : ((List.range (z - a)).map fun k : Nat => ((a : Int) + 1 * (k : Int)).toNat).length = z - a := by simp
  unfold sliceS
  rw [show (none : Option Int).getD 1 = 1 from rfl, wd_len, ei, el]
  by_cases q : ((1 : Int) == 1 && (z - a == w.length)) = true
  · rw [if_pos q]
    have q' : z - a = w.length := by simpa using q
    have : a = 0 := by lia
    subst this
    have : z = w.length := by lia
    subst this
    rw [List.drop_zero, Nat.sub_zero, List.take_length]
  · rw [if_neg q, wd_mk (w := (w.drop a).take (z - a))]
    congr 2
    have e : ∀ i : Nat, (wd w).cps[i]? = w[i]? := fun i => by rw [← Array.getElem?_toList, wd_cps]
    simp only [e]
    rw [range_drop w a (z - a) (by lia)]
theorem slice_to {w : List Nat} {m : Nat} (h : m ≤ w.length) : sliceS (wd w) none (some (m : Int)) none = wd (w.take m) := by
  rw [slice_wd (a := 0) (z := m) (.inr ⟨rfl, rfl⟩) (.inl rfl) (Nat.zero_le _) h, List.drop_zero, Nat.sub_zero]
theorem slice_from {w : List Nat} {m : Nat} (h : m ≤ w.length) : sliceS (wd w) (some (m : Int)) none none = wd (w.drop m) := by
  rw [slice_wd (a := m) (z := w.length) (.inl rfl) (.inr ⟨rfl, rfl⟩) h (Nat.le_refl _), List.take_of_length_le (by rw [List.length_drop]; lia)]
noncomputable def p4 (a b d e : D) (q : Int) : D := if q = 0 then a else if q = 1 then b else if q = 2 then d else e
section
variable {c : Cx} {S : Scope} {n : Nat} {σ : St} {l r : Expr}
theorem op_item_wd {w : List Nat} {k : Nat} (h : k < w.length) (hl : w.length ≤ 1000) (hs : ∀ o i, ∃ ops, subscripted r false o i = operate ops (getItem o i) := by intro o i; exact ⟨_, rfl⟩) : Op2 c n (subscriptTail l r) (.d (.str (wd w))) (.d (.int (k : Int))) σ (.d (.str (ch1 (w.getD k 0)))) σ := by
  refine op_item_str ?_ (by lia) hs
  have hk : (wd w).cps[k]? = some (w.getD k 0) := by
    rw [← Array.getElem?_toList, wd_cps, List.getD_eq_getElem?_getD, List.getElem?_eq_getElem h]; rfl
  have e : seqIndex? (k : Int) (wd w).length = some k := by
    unfold seqIndex?
    rw [wd_len]
    have h1 : ¬ ((k : Int) < 0) := by lia
    simp only [h1, if_false]
    have h2 : ((0 : Int) ≤ k && (k : Int) < w.length) = true := by simp; lia
    rw [if_pos (by simpa using h2)]; rfl
  rw [e]
  exact hk
end
end Mine
namespace Mine
open PySem PySem.W PyProof.Rows PySem.Calls PySem.Spec
theorem drs_from {κ : Str → Int} {Z : Fz} : ∀ (xs : List Str) (k : Nat), DRs κ Z (xs.map .str) (strsFrom k xs)
  | [], _ => .nil
  | x :: xs, k => .cons (.str x k) (drs_from xs (k + 1))
section
variable {c : Cx} {S : Scope} {n : Nat} {σ : St} {x y : Str}
theorem lst_fresh {f : Fm} {ω : Om} {s : Shared} {xs : List Str} {k k2 : Nat} {Q : Value → Shared → Prop} (F : FmOk c S n f) (R : RelE c n f ω σ s) (h : ∀ ω' v s', Ext (n + 1) ω ω' → RelE c n f ω' σ s' → VR c n ω' (.d (.lst (xs.map .str))) v → Q v s') :
    Q (.ref s.heap.objs.size) { s with heap := s.heap.push { cls := .type "list", data := .seq (strsFrom k xs).toArray }, toks := k2 } := by
  have e := Ext.frz (n + 1) ω [(s.heap.objs.size, ({ cls := .type "list", data := .seq (strsFrom k xs).toArray } : Obj))]
  have R2 := RelE.fresh (kp := [(s.heap.objs.size, ({ cls := .type "list", data := .seq (strsFrom k xs).toArray } : Obj))]) (k := k2) R (fun b o hb => Heap.get?_push_of_some _ hb) (fun p hp => by
    rw [List.mem_singleton.mp hp]; exact ⟨Heap.get?_push_size _ rfl, get_size_none _⟩) (by simp)
  refine h _ _ _ e (RelE.keepFrz F R2) (.d ?_)
  exact .lst (n := 0) (.inl (.head _)) rfl rfl (drs_from xs k)
theorem gm_split : GetM c n (.d (.str x)) "split" σ (.builtin "str.split") := fun S f F ω s Q E v pl R A h => by
  cases A.toD with | str _ t => exact PySem.GM.split h
theorem f_split (hy : (y.length == 0) = false) (hx : x.length ≤ 100000) : OpN c n (fun vs => call (.builtin "str.split") vs) [.d (.str x), .d (.str y)] σ (.d (.lst ((Txt.split x y).map .str))) σ := fun S f F ω s Q E vs R A h => by
  obtain ⟨v1, v2, rfl, A1, A2⟩ := A.two
  cases A1.toD with
  | str _ t =>
    cases A2.toD with
    | str _ u =>
      have hn := PyProof.Rows.split_le x y
      have sl : (200000 : Nat) ≤ sizeLine := by decide
      unfold Txt.split at h hn
      by_cases h1 : (decide (x.length < y.length) || decide (Builtin.Str.strKind x < Builtin.Str.strKind y)) = true
      · rw [if_pos h1] at h
        refine call_meets PySem.F.slot_str_split (typeIs_str s x t) PySem.F.entry_str_split (PySem.F.args_str_split_2 _ _) (meets_str_split_cannot_occur x y t u h1) ?_
        exact lst_fresh (k := t) (xs := [x]) F R h
      · rw [if_neg h1] at h hn
        have h1 := eq_false_of_ne_true h1
        by_cases hf : (Builtin.Str.occurrences x y 0 x.length (x.length + 1)).isEmpty = true
        · rw [if_pos hf] at h
          refine call_meets PySem.F.slot_str_split (typeIs_str s x t) PySem.F.entry_str_split (PySem.F.args_str_split_2 _ _) (meets_str_split_not_found x y t u h1 hy hf) ?_
          exact lst_fresh (k := t) (xs := [x]) F R h
        · rw [if_neg hf] at h hn
          have hf := eq_false_of_ne_true hf
          refine call_meets PySem.F.slot_str_split (typeIs_str s x t) PySem.F.entry_str_split (PySem.F.args_str_split_2 _ _) (meets_str_split_sep x y t u h1 hy hf (by lia) (by lia)) ?_
          exact lst_fresh F R h
end
noncomputable def splitC (c : Nat) : List Nat → List (List Nat)
  | [] => [[]]
  | a :: l => if a = c then [] :: splitC c l else (match splitC c l with
    | [] => [[a]]
    | w :: ws => (a :: w) :: ws)
theorem splitC_ne {c : Nat} : ∀ l : List Nat, ∃ w ws, splitC c l = w :: ws
  | [] => ⟨[], [], rfl⟩
  | a :: l => by
    obtain ⟨w, ws, e⟩ := splitC_ne (c := c) l
    unfold splitC
    by_cases h : a = c
    · rw [if_pos h]; exact ⟨_, _, rfl⟩
    · rw [if_neg h, e]; exact ⟨_, _, rfl⟩
theorem split_uniq {c : Nat} : ∀ (P : List (List Nat)) (w : List Nat), c ∉ w → (∀ p ∈ P, c ∉ p) → splitC c (w ++ P.flatMap fun p => c :: p) = w :: P
  | P, a :: w, h, hP => by
    have ih := split_uniq P w (fun m => h (.tail _ m)) hP
    show splitC c (a :: (w ++ P.flatMap fun p => c :: p)) = _
    unfold splitC
    have ne : ¬ a = c := fun e => h (by rw [e]; exact .head _)
    rw [if_neg ne, ih]
  | [], [], _, _ => rfl
  | p :: P, [], _, hP => by
    have ih := split_uniq P p (hP p (.head _)) (fun q hq => hP q (.tail _ hq))
    show splitC c (c :: (p ++ P.flatMap fun p => c :: p)) = _
    unfold splitC
    rw [if_pos rfl, ih]
theorem join_cps {c : Nat} : ∀ (P : List Str) (p : Str), (Str.join (ch1 c) (p :: P)).cps.toList = p.cps.toList ++ (P.map (·.cps.toList)).flatMap fun q => c :: q
  | [], p => by show p.cps.toList = _; simp
  | q :: P, p => by
    have ih := join_cps (c := c) P q
    show ((p ++ ch1 c) ++ Str.join (ch1 c) (q :: P)).cps.toList = _
    show (p.cps ++ #[c] ++ (Str.join (ch1 c) (q :: P)).cps).toList = _
    rw [Array.toList_append, Array.toList_append, ih]
    simp
theorem split_wd (l : List Nat) (c : Nat) : Txt.split (wd l) (ch1 c) = (splitC c l).map wd := by
  have hj := PySem.StrLaws.join_split (wd l) (ch1 c)
  have hf := PySem.StrLaws.split_free (wd l) c
  have hp := PyProof.Rows.split_pos (wd l) (ch1 c)
  show Txt.split (wd l) ⟨#[c]⟩ = _
  generalize he : Txt.split (wd l) ⟨#[c]⟩ = Ps at hf
  rw [show Txt.split (wd l) (ch1 c) = Ps from he] at hj hp
  cases Ps with
  | nil => exact absurd hp (by decide)
  | cons p P =>
    have e : l = p.cps.toList ++ (P.map (·.cps.toList)).flatMap fun q => c :: q := by
      rw [← join_cps, hj, wd_cps]
    rw [e, split_uniq _ _ (hf p (.head _)) (fun q hq => by obtain ⟨s, hs, rfl⟩ := List.mem_map.mp hq; exact hf s (.tail _ hs))]
    have w : ∀ s : Str, wd s.cps.toList = s := fun s => by rw [wd_mk]
    rw [List.map_cons, w, List.map_map]
    congr 1
    exact (List.map_id'' (fun s => w s) P).symm
end Mine
namespace Mine
open PySem PySem.W PyProof.Rows PySem.Calls PySem.Spec
noncomputable def lstN (w : List Nat) : Nat := w.foldl (fun n a => if a = 10 then 0 else n + 1) 0
theorem lstN_snoc {w : List Nat} {a : Nat} : lstN (w ++ [a]) = if a = 10 then 0 else lstN w + 1 := by unfold lstN; rw [List.foldl_append]; rfl
theorem lstN_le (w : List Nat) : lstN w ≤ w.length := by
  have : ∀ (w : List Nat) (k : Nat), w.foldl (fun n a => if a = 10 then 0 else n + 1) k ≤ k + w.length := by
    intro w
    induction w with
    | nil => intro k; exact Nat.le_refl _
    | cons a w ih =>
      intro k
      rw [List.foldl_cons, List.length_cons]
      split
      · have := ih 0; lia
      · have := ih (k + 1); lia
  have := this w 0
  unfold lstN; lia
theorem split_lines : ∀ w : List Nat, (splitC 10 w).length = w.count 10 + 1 ∧ ∀ k, ((splitC 10 w).getLastD []).length + (if w.count 10 = 0 then k else 0) = w.foldl (fun n a => if a = 10 then 0 else n + 1) k
  | [] => ⟨rfl, fun k => by show 0 + k = k; lia⟩
  | a :: w => by
    obtain ⟨h1, h2⟩ := split_lines w
    obtain ⟨v, vs, e⟩ := splitC_ne (c := 10) w
    unfold splitC
    by_cases h : a = 10
    · subst h
      rw [if_pos rfl]
      refine ⟨by rw [List.length_cons, h1, List.count_cons_self], fun k => ?_⟩
      rw [List.foldl_cons, if_pos rfl, List.count_cons_self, if_neg (by lia), ← h2 0, e]
      cases w.count 10 <;> simp
    · rw [if_neg h, e]
      dsimp only
      rw [e] at h1 h2
      have hc : (a :: w).count 10 = w.count 10 := List.count_cons_of_ne h
      refine ⟨by rw [List.length_cons, hc, ← h1, List.length_cons], fun k => ?_⟩
      rw [List.foldl_cons, if_neg h, hc, ← h2 (k + 1)]
      rw [List.length_cons] at h1
      cases vs with
      | nil =>
        have : w.count 10 = 0 := by rw [List.length_nil] at h1; lia
        rw [if_pos this, if_pos this]
        show (a :: v).length + k = v.length + (k + 1)
        rw [List.length_cons]; lia
      | cons u us =>
        have : ¬ w.count 10 = 0 := by rw [List.length_cons] at h1; lia
        rw [if_neg this, if_neg this]
        rfl
theorem split_last (w : List Nat) : ((splitC 10 w).getLastD []).length = lstN w := by
  have := (split_lines w).2 0
  unfold lstN
  rw [← this]
  split <;> lia
section
variable {l : List Nat} {p : Nat}
theorem at_one {i : Nat} : Builtin.Str.subAt (wd l) "\n" i = true ↔ l[i]? = some 10 := by
  unfold Builtin.Str.subAt
  rw [beq_iff_eq, show ("\n" : Str) = ch1 10 by kernel_rfl]
  have e : ((wd l).cps.extract i (i + (ch1 10).length)).toList = (l.drop i).take 1 := by
    rw [Array.toList_extract, wd_cps]
    show List.take (i + 1 - i) _ = _
    rw [Nat.add_sub_cancel_left]
  have e2 : l[i]? = (l.drop i)[0]? := by rw [List.getElem?_drop, Nat.add_zero]
  constructor
  · intro h
    rw [h] at e
    rw [e2]
    cases hd : l.drop i with
    | nil => rw [hd] at e; cases e
    | cons a as => rw [hd] at e; cases e; rfl
  · intro h
    rw [e2] at h
    cases hd : l.drop i with
    | nil => rw [hd] at h; cases h
    | cons a as =>
      rw [hd] at h e
      cases h
      exact Array.toList_inj.mp (e.trans rfl)
theorem take_snoc {k a : Nat} (h : l[k]? = some a) : l.take (k + 1) = l.take k ++ [a] := by rw [List.take_add_one, h]; rfl
theorem count_snoc {k : Nat} (hk : k < l.length) : (l.take (k + 1)).count 10 = (l.take k).count 10 + (if l[k]? = some 10 then 1 else 0) := by
  obtain ⟨a, ha⟩ : ∃ a, l[k]? = some a := ⟨_, List.getElem?_eq_getElem hk⟩
  rw [take_snoc ha, List.count_append, ha]
  by_cases h : a = 10
  · subst h; simp
  · rw [if_neg (by simpa using h), List.count_cons_of_ne h]; rfl
theorem lst_snoc {k : Nat} (hk : k < l.length) : lstN (l.take (k + 1)) = if l[k]? = some 10 then 0 else lstN (l.take k) + 1 := by
  obtain ⟨a, ha⟩ : ∃ a, l[k]? = some a := ⟨_, List.getElem?_eq_getElem hk⟩
  rw [take_snoc ha, lstN_snoc, ha]
  by_cases h : a = 10
  · subst h; simp
  · rw [if_neg h, if_neg (by simpa using h)]
open Builtin Builtin.Str StrLaws in
theorem occ_loop (hp : p ≤ l.length) : ∀ (m k : Nat) (st : Array Nat × Nat), k + m = p + 1 → st.1.size = (l.take (min k p)).count 10 → st.2 ≤ k → st.1.size ≤ k →
    (forIn (List.range' k m) st (occBody (wd l) "\n" p (l.length + 1))).run.fst.size = (l.take p).count 10
  | 0, k, st, hk, h1, _, _ => by
    show st.1.size = _
    rw [h1, Nat.min_eq_right (by lia)]
  | m + 1, k, st, hk, h1, h2, h3 => by
    rw [List.range'_succ, List.forIn_cons]
    unfold occBody
    have l1 : ("\n" : Str).length = 1 := by kernel_rfl
    by_cases hkp : k < p
    · have cs := count_snoc (l := l) (k := k) (by lia)
      rw [Nat.min_eq_left (by lia)] at h1
      by_cases q : l[k]? = some 10
      · rw [if_pos ⟨⟨⟨by lia, h2⟩, by lia⟩, at_one.mpr q⟩]
        refine occ_loop hp m (k + 1) _ (by lia) ?_ (by show k + _ ≤ _; lia) (by show (st.1.push k).size ≤ _; rw [Array.size_push]; lia)
        rw [Nat.min_eq_left (by lia), cs, if_pos q, ← h1]
        exact Array.size_push ..
      · rw [if_neg (fun h => q (at_one.mp h.2))]
        refine occ_loop hp m (k + 1) _ (by lia) ?_ (Nat.le_succ_of_le h2) (Nat.le_succ_of_le h3)
        rw [Nat.min_eq_left (by lia), cs, if_neg q]
        exact h1
    · rw [if_neg (fun h => by have := h.1.2; lia)]
      refine occ_loop hp m (k + 1) _ (by lia) ?_ (Nat.le_succ_of_le h2) (Nat.le_succ_of_le h3)
      rw [Nat.min_eq_right (by lia)] at h1 ⊢
      exact h1
theorem clip_p (hp : p ≤ l.length) : min (fromIndex (wd l).length (p : Int)) (wd l).length = p := by
  rw [wd_len]
  unfold fromIndex
  split
  · lia
  · lia
open StrLaws in
theorem cntS_wd (hp : p ≤ l.length) : cntS (wd l) "\n" (p : Int) = ((l.take p).count 10 : Nat) := by
  unfold cntS
  rw [clip_p hp, occ_eq, Array.length_toList, wd_len]
  congr 1
  exact occ_loop hp (p + 1 - 0) 0 _ (by lia) (by simp) (Nat.le_refl _) (Nat.le_refl _)
open StrLaws in
theorem rfS_wd (hp : p ≤ l.length) : (p : Int) - rfS (wd l) "\n" (p : Int) = (lstN (l.take p) : Nat) + 1 := by
  have run := last_run (wd l) "\n" p (List.range' 0 (p + 1)) [] none (fun _ h => nomatch h) (fun _ h => nomatch h) (List.pairwise_lt_range')
  have l1 : ("\n" : Str).length = 1 := by kernel_rfl
  have atE : ∀ i, At (wd l) "\n" p i ↔ i < p ∧ l[i]? = some 10 := fun i => by
    unfold At
    rw [l1, at_one]
    constructor <;> rintro ⟨a, b⟩ <;> exact ⟨by lia, b⟩
  have lo : ∀ k, k ≤ p → (∀ i, i < k → ¬ l[i]? = some 10) → lstN (l.take k) = k := by
    intro k
    induction k with
    | zero => intro _ _; rfl
    | succ k ih =>
      intro hk h
      rw [lst_snoc (by lia), if_neg (h k (by lia)), ih (by lia) fun i hi => h i (by lia)]
  have hi : ∀ (a k : Nat), a + 1 + k ≤ p → l[a]? = some 10 → (∀ i, a < i → i < a + 1 + k → ¬ l[i]? = some 10) → lstN (l.take (a + 1 + k)) = k := by
    intro a k
    induction k with
    | zero => intro h1 h2 _; rw [Nat.add_zero, lst_snoc (by lia), if_pos h2]
    | succ k ih =>
      intro h1 h2 h3
      rw [← Nat.add_assoc, lst_snoc (by lia), if_neg (h3 _ (by lia) (by lia)), ih (by lia) h2 fun i q1 q2 => h3 i q1 (by lia)]
  unfold rfS
  rw [clip_p hp, last_eq, show p + 1 - 0 = p + 1 from rfl]
  rw [List.nil_append] at run
  generalize (forIn (List.range' 0 (p + 1)) none (lastBody (wd l) "\n" p)).run = r at run
  cases r with
  | none =>
    have := lo p (Nat.le_refl _) fun i hi' e => run i (List.mem_range'_1.mpr ⟨by lia, by lia⟩) ((atE i).mpr ⟨hi', e⟩)
    show (p : Int) - (-1) = _
    rw [this]; lia
  | some a =>
    obtain ⟨h1, h2⟩ := run
    obtain ⟨g1, g2⟩ := (atE a).mp h1
    have := hi a (p - (a + 1)) (by lia) g2 fun i q1 q2 e => h2 i (List.mem_range'_1.mpr ⟨by lia, by lia⟩) q1 ((atE i).mpr ⟨by lia, e⟩)
    rw [show a + 1 + (p - (a + 1)) = p by lia] at this
    show (p : Int) - (a : Int) = _
    rw [this]; lia
end
end Mine
namespace Mine
open PySem PySem.W PyProof.Rows PySem.Calls PySem.Spec
section
variable {l : List Nat} {p : Nat}
theorem oct_list : (octetsOf (wd l)).toList = l.map UInt8.ofNat := by
  unfold octetsOf byteArr ordsOf
  rw [wd_cps]
  rw [List.map_map]
  show List.map _ l = _
  exact List.map_congr_left fun a _ => by simp
theorem oct_size : (octetsOf (wd l)).size = l.length := by rw [← Array.length_toList, oct_list, List.length_map]
theorem atB {i : Nat} (hl : ∀ z ∈ l, z < 256) : ((octetsOf (wd l)).extract i (i + 1) == [(10 : UInt8)].toArray) = true ↔ l[i]? = some 10 := by
  rw [beq_iff_eq]
  have e : ((octetsOf (wd l)).extract i (i + 1)).toList = ((l.drop i).take 1).map UInt8.ofNat := by
    rw [Array.toList_extract, oct_list]
    show List.take (i + 1 - i) _ = _
    rw [Nat.add_sub_cancel_left, ← List.map_drop, ← List.map_take]
  have e2 : l[i]? = (l.drop i)[0]? := by rw [List.getElem?_drop, Nat.add_zero]
  rw [e2]
  constructor
  · intro h
    rw [h] at e
    cases hd : l.drop i with
    | nil => rw [hd] at e; cases e
    | cons a as =>
      rw [hd] at e
      have ha : a < 256 := hl a (List.mem_of_mem_drop (i := i) (by rw [hd]; exact .head _))
      have e3 : (10 : UInt8) = UInt8.ofNat a := (List.cons.inj e).1
      have e4 := congrArg UInt8.toNat e3
      simp at e4
      have : a = 10 := by lia
      rw [this]; rfl
  · intro h
    cases hd : l.drop i with
    | nil => rw [hd] at h; cases h
    | cons a as =>
      rw [hd] at h e
      cases h
      exact Array.toList_inj.mp (e.trans rfl)
theorem loHi_p (hp : p ≤ l.length) : loHi (octetsOf (wd l)) [(10 : UInt8)].toArray (p : Int) = if p = 0 then none else some (0, p) := by
  unfold loHi Builtin.Bytes.window
  rw [oct_size]
  simp only [Option.getD_some]
  rw [if_neg (show ¬ (0 : Int) < 0 by decide), if_neg (show ¬ (p : Int) < 0 by lia), show min (l.length : Int) (p : Int) = p by lia]
  show (if (p : Int) - 0 < ((1 : Nat) : Int) then none else some ((0 : Int).toNat, (p : Int).toNat)) = _
  by_cases h : p = 0
  · rw [if_pos h, if_pos (by lia)]
  · rw [if_neg h, if_neg (by lia)]; rfl
theorem rng_p (h : 0 < p) : ((List.range (p + 1 - (0 + [(10 : UInt8)].toArray.size))).map (· + 0)) = List.range p := by
  show (List.range (p + 1 - 1)).map (· + 0) = _
  rw [Nat.add_sub_cancel]
  simp
theorem cntB_wd (hl : ∀ z ∈ l, z < 256) (hp : p ≤ l.length) : cntB (octetsOf (wd l)) [10].toArray (p : Int) = ((l.take p).count 10 : Nat) := by
  unfold cntB
  rw [loHi_p hp]
  by_cases h : p = 0
  · subst h; rw [if_pos rfl]; rfl
  rw [if_neg h]
  unfold Builtin.Bytes.occurrences
  dsimp only
  rw [rng_p (by lia), List.length_reverse]
  congr 1
  have key : ∀ k, k ≤ p → ((List.range k).foldl (fun (acc : List Nat × Nat) i => if (decide (i ≥ acc.2) && (octetsOf (wd l)).extract i (i + [(10 : UInt8)].toArray.size) == [(10 : UInt8)].toArray) = true then (i :: acc.1, i + [(10 : UInt8)].toArray.size) else acc) ([], 0)).1.length = (l.take k).count 10 ∧ ((List.range k).foldl (fun (acc : List Nat × Nat) i => if (decide (i ≥ acc.2) && (octetsOf (wd l)).extract i (i + [(10 : UInt8)].toArray.size) == [(10 : UInt8)].toArray) = true then (i :: acc.1, i + [(10 : UInt8)].toArray.size) else acc) ([], 0)).2 ≤ k := by
    intro k
    induction k with
    | zero => intro _; exact ⟨by simp, Nat.le_refl _⟩
    | succ k ih =>
      intro hk
      obtain ⟨i1, i2⟩ := ih (by lia)
      rw [List.range_succ, List.foldl_append, List.foldl_cons, List.foldl_nil, count_snoc (by lia)]
      generalize (List.range k).foldl _ _ = st at i1 i2
      have a := atB (l := l) (i := k) hl
      by_cases q : l[k]? = some 10
      · rw [if_pos q, if_pos (by rw [Bool.and_eq_true]; exact ⟨decide_eq_true i2, a.mpr q⟩)]
        exact ⟨by rw [List.length_cons, i1], Nat.le_refl _⟩
      · rw [if_neg q, if_neg (by rw [Bool.and_eq_true]; exact fun h => q (a.mp h.2))]
        exact ⟨i1, by lia⟩
  exact (key p (Nat.le_refl _)).1
theorem rfB_wd (hl : ∀ z ∈ l, z < 256) (hp : p ≤ l.length) : (p : Int) - rfB (octetsOf (wd l)) [10].toArray (p : Int) = (lstN (l.take p) : Nat) + 1 := by
  unfold rfB
  rw [loHi_p hp]
  by_cases h : p = 0
  · subst h; rw [if_pos rfl]; rfl
  rw [if_neg h, Option.bind_some]
  dsimp only
  unfold Builtin.Bytes.rfind?
  rw [rng_p (by lia)]
  have key : ∀ k, k ≤ p → (k : Int) - (match (List.range k).reverse.find? (fun i => (octetsOf (wd l)).extract i (i + [(10 : UInt8)].toArray.size) == [(10 : UInt8)].toArray) with | some i => (i : Int) | none => -1) = (lstN (l.take k) : Nat) + 1 := by
    intro k
    induction k with
    | zero => intro _; rfl
    | succ k ih =>
      intro hk
      have i1 := ih (by lia)
      have a := atB (l := l) (i := k) hl
      rw [List.range_succ, List.reverse_append, List.reverse_singleton, List.singleton_append, List.find?_cons, lst_snoc (by lia)]
      by_cases q : l[k]? = some 10
      · rw [if_pos q, show ((octetsOf (wd l)).extract k (k + [(10 : UInt8)].toArray.size) == [(10 : UInt8)].toArray) = true from a.mpr q]
        show ((k + 1 : Nat) : Int) - (k : Int) = _
        lia
      · rw [if_neg q, show ((octetsOf (wd l)).extract k (k + [(10 : UInt8)].toArray.size) == [(10 : UInt8)].toArray) = false from eq_false_of_ne_true fun h => q (a.mp h)]
        dsimp only
        lia
  exact key p (Nat.le_refl _)
theorem inB_wd (hl : ∀ z ∈ l, z < 256) : inB (octetsOf (wd l)) [10].toArray = decide (10 ∈ l) := by
  unfold inB Builtin.Bytes.find?
  rw [oct_size]
  cases q : decide (10 ∈ l) with
  | true =>
    obtain ⟨i, hi, e⟩ := List.getElem_of_mem (of_decide_eq_true q)
    rw [List.find?_isSome]
    have hp : 0 < l.length := by lia
    rw [rng_p hp]
    exact ⟨i, List.mem_range.mpr hi, (atB hl).mpr (by rw [List.getElem?_eq_getElem hi, e])⟩
  | false =>
    rw [Option.isSome_eq_false_iff, Option.isNone_iff_eq_none, List.find?_eq_none]
    intro i _ e
    exact of_decide_eq_false q (List.mem_of_getElem? ((atB hl).mp e))
end
end Mine
namespace Mine
open PySem PySem.W PyProof.Rows PySem.Calls PySem.Spec
section
variable {c : Cx} {S : Scope} {n : Nat} {σ σ' σ₁ σ₂ : St} {X Y : V} {x y : Str} {l r : Expr} {pos ipos : Pos} {body orelse : List Stmt} {W : Exn}
theorem seq_at {k len : Nat} (h : k < len) : seqIndex? (k : Int) len = some k := by
  unfold seqIndex?
  simp only
  rw [if_neg (show ¬ (k : Int) < 0 by lia)]
  simp [h]
theorem op_item_map {α : Type} {f : α → D} {ds : List α} {k : Nat} {a : α} {l r : Expr} (h : ds[k]? = some a) (hl : k ≤ 1000) (hs : ∀ o i, ∃ ops, subscripted r false o i = operate ops (getItem o i) := by intro o i; exact ⟨_, rfl⟩) : Op2 c n (subscriptTail l r) (.d (.lst (ds.map f))) (.d (.int (k : Int))) σ (.d (f a)) σ := by
  have hk : k < ds.length := (List.getElem?_eq_some_iff.mp h).1
  exact op_item_list (j := k) (by rw [List.length_map]; exact seq_at hk) (by rw [List.getElem?_map, h]; rfl) ⟨by lia, by lia⟩ hs
theorem tok_suffix {t : Str} : ∀ {pre L : List Str}, TokOk t (pre ++ L) → TokOk t L
  | [], _, h => h
  | _ :: _, _, h => tok_suffix h.2
end
end Mine
namespace Mine
open PySem PySem.W PyProof.Rows PySem.Calls PySem.Spec
theorem str_assoc (a b d : Str) : (a ++ b) ++ d = a ++ (b ++ d) := by
  show (⟨(a.cps ++ b.cps) ++ d.cps⟩ : Str) = ⟨a.cps ++ (b.cps ++ d.cps)⟩
  rw [Array.append_assoc]
section
variable {c : Cx} {S : Scope} {n : Nat} {σ : St}
theorem f_strI {i : Int} (h0 : 0 ≤ i) (h1 : i < 10 ^ 10) : OpN c n (fun vs => call (.type "str") vs) [.d (.int i)] σ (.d (.str (PySem.Str.ofString (toString i)))) σ := fun S f F ω s Q E vs R A h => by
  obtain ⟨v, rfl, A1⟩ := A.oneD
  obtain ⟨t, rfl⟩ := Mine.vi (n := n) (.d A1)
  refine PySem.P.str_of_int ?_ (h ω _ _ (.refl ..) R.toks (.d (.str _ _)))
  have : i.natAbs < 2 ^ 40 := by lia
  by_cases z : i.natAbs = 0
  · rw [z]; decide
  · exact Nat.lt_trans ((Nat.log2_lt z).mpr this) (by decide)
theorem op_last {d : D} {ds : List D} {l r : Expr} (h : ds.getLast? = some d) (hl : ds.length ≤ 100000) (hs : ∀ o i, ∃ ops, subscripted r false o i = operate ops (getItem o i) := by intro o i; exact ⟨_, rfl⟩) : Op2 c n (subscriptTail l r) (.d (.lst ds)) (.d (.int (-1))) σ (.d d) σ := by
  have hp : 0 < ds.length := by cases ds with | nil => cases h | cons _ _ => rw [List.length_cons]; lia
  refine op_item_list (j := ds.length - 1) ?_ ?_ ⟨by decide, by decide⟩ hs
  · unfold seqIndex?
    have e : (if (-1 : Int) < 0 then (-1 : Int) + (ds.length : Int) else -1) = ((ds.length - 1 : Nat) : Int) := by rw [if_pos (by decide)]; lia
    simp only [e]
    rw [if_pos (by rw [Bool.and_eq_true]; exact ⟨decide_eq_true (by lia), decide_eq_true (by lia)⟩)]
    rfl
  · rw [← h, List.getLast?_eq_getElem?]
theorem ev_it {X : V} {b : Bool} {t l r : Expr} {pos : Pos} (h0 : Ts c S n t σ b σ) (h1 : b = true → Ev c S n l σ X σ) (h2 : b = false → Ev c S n r σ X σ) : Ev c S n (.IfExp t l r pos) σ X σ := ev_ite h0 h1 h2
theorem ev_bi {X Y Z : V} {l r : Expr} {op : Operator} {pos : Pos} (h1 : Ev c S n l σ X σ) (h2 : Ev c S n r σ Y σ) (h3 : Op2 c n (binaryOp op) X Y σ Z σ) : Ev c S n (.BinOp l op r pos) σ Z σ := ev_binop h1 h2 h3
end
end Mine
namespace Mine
open PySem PySem.W PyProof.Rows PySem.Calls PySem.Spec
noncomputable def LWB : List Stmt := fBdy PySem.Challenge.pw_kq0015_04 19
noncomputable abbrev SW (c : Cx) : Scope := Sc c 152
noncomputable def lnN (l : List Nat) (p : Nat) : Int := ((l.take p).count 10 : Nat) + 1
noncomputable def cnN (l : List Nat) (p : Nat) : Int := (lstN (l.take p) : Nat) + 1
noncomputable def fullW (m : Str) (l : List Nat) (p : Nat) : Str := if decide (10 ∈ l) = true then atPos m p ++ (" (line " : Str) ++ PySem.Str.ofString (toString (lnN l p)) ++ (", column " : Str) ++ PySem.Str.ofString (toString (cnN l p)) ++ (")" : Str) else atPos m p
noncomputable abbrev wholeD (m : Str) (giv : D) (l : List Nat) (p : Nat) : D := .tup [.str m, giv, .int p, .int (lnN l p), .int (cnN l p), .str (fullW m l p)]
theorem ln_le {l : List Nat} {p : Nat} (hp : p ≤ l.length) : 0 ≤ lnN l p ∧ lnN l p ≤ p + 1 ∧ 0 ≤ cnN l p ∧ cnN l p ≤ p + 1 := by
  have h1 : (l.take p).count 10 ≤ (l.take p).length := List.count_le_length
  have h2 := lstN_le (l.take p)
  rw [List.length_take] at h1 h2
  unfold lnN cnN
  lia
section
variable {c : Cx} {n : Nat} {b : Bool} {l : List Nat} {m : Str} {p : Nat} {H : List (Nat × HO)} {loc : List (Nat × V)}
theorem exc_whole (hl : ∀ z ∈ l, z < 256) (hp : p ≤ l.length) :
    nlIn (srcD b (wd l) (octetsOf (wd l))) = decide (10 ∈ l) ∧ lnOf (srcD b (wd l) (octetsOf (wd l))) p = lnN l p ∧ cnOf (srcD b (wd l) (octetsOf (wd l))) p = cnN l p ∧ fullOf (srcD b (wd l) (octetsOf (wd l))) m p = fullW m l p := by
  have h1 : nlIn (srcD b (wd l) (octetsOf (wd l))) = decide (10 ∈ l) := by
    cases b with
    | true => show Txt.contains (wd l) "\n" = _; rw [show ("\n" : Str) = ch1 10 by kernel_rfl, con1, wd_cps]
    | false => exact inB_wd hl
  have h2 : lnOf (srcD b (wd l) (octetsOf (wd l))) p = lnN l p := by
    unfold lnOf lnN
    cases b with
    | true => show cntS (wd l) "\n" (p : Int) + 1 = _; rw [cntS_wd hp]
    | false => show cntB (octetsOf (wd l)) [10].toArray (p : Int) + 1 = _; rw [cntB_wd hl hp]
  have h3 : cnOf (srcD b (wd l) (octetsOf (wd l))) p = cnN l p := by
    unfold cnOf cnN
    cases b with
    | true => exact rfS_wd hp
    | false => exact rfB_wd hl hp
  refine ⟨h1, h2, h3, ?_⟩
  unfold fullOf fullW
  rw [h1, h2, h3]
theorem pos_any (hl : ∀ z ∈ l, z < 256) (hp : p ≤ l.length) (hn : l.length ≤ 4000) (hm : m.length ≤ 100) : PosOk (srcD b (wd l) (octetsOf (wd l))) m p := by
  obtain ⟨-, h2, h3, -⟩ := exc_whole (b := b) (m := m) hl hp
  obtain ⟨k1, k2, k3, k4⟩ := ln_le (l := l) hp
  refine ⟨by lia, by lia, by lia, ?_, fun _ => ?_⟩
  · have z := toString_length_le (v := (p : Int)) (k := 4) (by lia) (by decide) (by lia)
    unfold atPos
    rw [len_app, len_app]
    have : (" at position " : Str).length = 13 := by kernel_rfl
    lia
  · rw [h2, h3]; lia
noncomputable abbrev lwL (m : Str) (g : D) (l : List Nat) (p : Nat) (w : Str) : List (Nat × V) := [(key "words", .d (.str w)), (key "above", .d (.lst ((splitC 10 (l.take p)).map fun w => .str (wd w)))), (key "msg", .d (.str m)), (key "given", .d g), (key "pos", .d (.int p)), (key "text", .d (.str (wd l)))]
theorem whole_fn {g : D} (hC : CxOk c) (hK : c.K = KK c) (G : GL c) (hc : c.calm = true) (hn : n ≤ 80) (hp : p ≤ l.length) (hl : l.length ≤ 4000) (hm : m.length ≤ 100) :
    FnN c n 152 [.d (.str m), .d (.str (wd l)), .d g, .d (.int p)] ⟨loc, H⟩ (.d (wholeD m g l p)) ⟨loc, H⟩ := by
  refine fn_at (S := SW c) (ps := ["msg", "text", "given", "pos"]) (T := []) (fl := .ret (.d (wholeD m g l p))) (loc := []) (σ := ⟨loc, H⟩) hC hK (by lia) (by kernel_rfl) (by decide) (fun vs hv => by obtain ⟨a, b, d, e, rfl⟩ := len4 hv; kernel_rfl) rfl rfl ?b .ret
  case b =>
  refine exs_body (body' := LWB) ?_ (by kernel_rfl)
  obtain ⟨k1, k2, k3, k4⟩ := ln_le (l := l) hp
  obtain ⟨s1, -⟩ := split_lines (l.take p)
  have tl : (l.take p).length ≤ 4000 := by rw [List.length_take]; lia
  have cl : (l.take p).count 10 ≤ 4000 := Nat.le_trans List.count_le_length tl
  have k5 : ((lstN (l.take p) : Nat) : Int) + 1 < 10 ^ 10 := by have := lstN_le (l.take p); lia
  have zl : ∀ {v : Int}, 0 ≤ v → v ≤ 4001 → (PySem.Str.ofString (toString v)).length ≤ 4 := fun a b => toString_length_le (k := 4) a (by decide) (by lia)
  have z1 := zl (v := (p : Int)) (by lia) (by lia)
  have z2 := zl (v := lnN l p) k1 (by lia)
  have z3 := zl (v := cnN l p) k3 (by lia)
  have e13 : (" at position " : Str).length = 13 := by kernel_rfl
  have el : (" (line " : Str).length = 7 := by kernel_rfl
  have ec : (", column " : Str).length = 9 := by kernel_rfl
  have e1 : (")" : Str).length = 1 := by kernel_rfl
  have big : ∀ {k : Nat}, k ≤ 1000 → k ≤ sizeLine := fun h => Nat.le_trans h (by decide)
  have ln : ∀ σ : St, OpN c (n + 1) (fun vs => call (.builtin "len") vs) [.d (.lst ((splitC 10 (l.take p)).map fun w => .str (wd w)))] σ (.d (.int (lnN l p))) σ := fun σ => by
    have z := f_len_lst (c := c) (n := n + 1) (σ := σ) (ds := (splitC 10 (l.take p)).map fun w => D.str (wd w)) (by rw [List.length_map, s1]; lia)
    rw [List.length_map, s1] at z
    exact z
  have cn : ∀ σ : St, OpN c (n + 1) (fun vs => call (.builtin "len") vs) [.d (.str (wd ((splitC 10 (l.take p)).getLastD [])))] σ (.d (.int (lstN (l.take p) : Nat))) σ := fun σ => by
    have z := f_len_str (c := c) (n := n + 1) (σ := σ) (x := wd ((splitC 10 (l.take p)).getLastD [])) (by rw [wd_len, split_last]; have := lstN_le (l.take p); lia)
    rw [wd_len, split_last] at z
    exact z
  have lst : ((splitC 10 (l.take p)).map fun w => D.str (wd w)).getLast? = some (.str (wd ((splitC 10 (l.take p)).getLastD []))) := by
    obtain ⟨v, vs, e⟩ := splitC_ne (c := 10) (l.take p)
    rw [List.getLast?_map, e, List.getLastD_eq_getLast?, List.getLast?_cons]
    rfl
  dsimp only [LWB, fBdy, PySem.Challenge.pw_kq0015_04, List.drop]
  refine as1 (X := .d (.lst ((splitC 10 (l.take p)).map fun w => .str (wd w)))) ?ev ?_
  case ev =>
    refine ev_is (ev_meth (ev_is (ev_slice_str nm ⟨rfl, rfl⟩ ⟨_, rfl, nm⟩ ⟨rfl, rfl⟩ (by decide) (by rw [slice_to hp, wd_len]; lia)) (by rw [slice_to hp])) gm_split (evs_cons ev_str evs_nil) (f_split (by kernel_rfl) (by rw [wd_len]; lia))) ?_
    rw [show ("\n" : Str) = ch1 10 by kernel_rfl, split_wd, List.map_map]
    rfl
  refine as1 (X := .d (.str (atPos m p))) (ev_binop (ev_binop nm ev_str (b_adds (x := m) (y := " at position ") (big (by lia)))) (ev_callt (gl hC G.str) (evs_cons nm evs_nil) (f_strI (by lia) (by lia))) (b_adds (x := m ++ (" at position " : Str)) (y := PySem.Str.ofString (toString (p : Int))) (big (by rw [len_app]; lia)))) ?_
  refine exs_pre (σ₁ := ⟨lwL m g l p (atPos m p), H⟩) (sub_pick (by kernel_rfl)) ?_
  refine exs_cons (σ₁ := ⟨lwL m g l p (fullW m l p), H⟩) (if_any (b := decide (10 ∈ l)) (ts_is (ts_cmp ev_str nm c_ins) ?t) (fun q => ?a) (fun q => ?b)) ?_
  case t => rw [show ("\n" : Str) = ch1 10 by kernel_rfl, con1, wd_cps]
  case a =>
    refine exs_cons (ex_sub (aug (σ₁ := ⟨lwL m g l p (atPos m p), H⟩) (Y := .d (.str ((((" (line " : Str) ++ PySem.Str.ofString (toString (lnN l p))) ++ (", column " : Str)) ++ PySem.Str.ofString (toString (cnN l p)) ++ (")" : Str)))) ?e (i_adds (x := atPos m p) (y := (((" (line " : Str) ++ PySem.Str.ofString (toString (lnN l p))) ++ (", column " : Str)) ++ PySem.Str.ofString (toString (cnN l p)) ++ (")" : Str)) (big (by unfold atPos; simp only [len_app]; lia)))) ?s) exs_nil
    case e =>
      refine ev_binop (ev_binop (ev_binop (ev_binop ev_str (ev_callt (gl hC G.str) (evs_cons (ev_callb (gl hC G.len) (evs_cons nm evs_nil) (ln _)) evs_nil) (f_strI k1 (by lia))) (b_adds (x := " (line ") (y := PySem.Str.ofString (toString (lnN l p))) (big (by lia)))) ev_str (b_adds (x := (" (line " : Str) ++ PySem.Str.ofString (toString (lnN l p))) (y := ", column ") (big (by rw [len_app]; lia)))) (ev_callt (gl hC G.str) (evs_cons (ev_binop (ev_callb (gl hC G.len) (evs_cons (ev_sub nm (ev_unop ev_int u_neg) (op_last lst (by rw [List.length_map, s1]; lia))) evs_nil) (cn _)) ev_int b_add) evs_nil) (f_strI k3 (by lia))) (b_adds (x := (" (line " : Str) ++ PySem.Str.ofString (toString (lnN l p)) ++ (", column " : Str)) (y := PySem.Str.ofString (toString (cnN l p))) (big (by simp only [len_app]; lia)))) ev_str (b_adds (x := (" (line " : Str) ++ PySem.Str.ofString (toString (lnN l p)) ++ (", column " : Str) ++ PySem.Str.ofString (toString (cnN l p))) (y := ")") (big (by simp only [len_app]; lia)))
    case s =>
      have e : fullW m l p = atPos m p ++ ((((" (line " : Str) ++ PySem.Str.ofString (toString (lnN l p))) ++ (", column " : Str)) ++ PySem.Str.ofString (toString (cnN l p)) ++ (")" : Str)) := by
        unfold fullW
        rw [if_pos q]
        simp only [str_assoc]
      rw [e]
      exact (sub_pick (by kernel_rfl))
  case b =>
    have e : fullW m l p = atPos m p := by unfold fullW; rw [if_neg (by rw [q]; exact Bool.false_ne_true)]
    rw [e]
    exact exs_pre (sub_pick (by kernel_rfl)) exs_nil
  refine exs_sub (exs_stop (ex_ret (ev_is (ev_tuple (evs_cons nm (evs_cons nm (evs_cons nm (evs_cons (ev_callb (gl hC G.len) (evs_cons nm evs_nil) (ln _)) (evs_cons (ev_binop (ev_callb (gl hC G.len) (evs_cons (ev_sub nm (ev_unop ev_int u_neg) (op_last lst (by rw [List.length_map, s1]; lia))) evs_nil) (cn _)) ev_int b_add) (evs_cons nm evs_nil)))))) op_tuple) rfl))) (sub_list .nil)
end
end Mine
namespace Mine
open PySem PySem.W PyProof.Rows PySem.Calls PySem.Spec
section
variable {c : Cx} {n : Nat} {i : Nat} {H H0 : List (Nat × HO)} {loc : List (Nat × V)} {b : Bool} {src : D} {t : Str} {k k' : Nat} {nx nx' : D} {s s' : Str} {L : List Str} {o : HO}
theorem k_match (hK : c.K = KK c) : MethOk c.K cT "match" 73 := by rw [hK]; exact ⟨by kernel_rfl, by kernel_rfl, by kernel_rfl⟩
theorem match_t (hC : CxOk c) (hK : c.K = KK c) (G : G1 c) (hc : t.cps[k]? = none → c.calm = true) (hn : n ≤ 80) (hi : lk i H = some (.inst cT (tokAs b src t k (.str s)))) (hk : k ≤ 100000) (hs : tokNext t k = some (k', nx')) :
    FnN c n 73 [.obj i, .d (.str s)] ⟨loc, H⟩ (.d (.bool true)) ⟨loc, setH i (.inst cT (tokAs b src t k' nx')) H⟩ := by
  refine fn_at (S := Sc c 73) (ps := ["self", "char"]) (T := []) (fl := .ret (.d (.bool true))) (loc := loc0 ["self", "char"] [.obj i, .d (.str s)]) (σ := ⟨loc, H⟩) hC hK (by lia) (by kernel_rfl) (by decide) (fun vs hv => by obtain ⟨a, b, rfl⟩ := len2 hv; kernel_rfl) rfl rfl ?b .ret
  case b =>
  refine exs_body (body' := mBdy PySem.Challenge.pw_kq0015_04 16 2) ?_ (by kernel_rfl)
  dsimp only [mBdy, fBdy, cBdy, PySem.Challenge.pw_kq0015_04, List.drop]
  exact exs_stop (if_t (ts_is (ts_cmp nm (ev_attr hC (k_attr hK (by decide)) nm hi (d := .str s) (by kernel_rfl)) c_eqs) (beq_self_eq_true s)) (exs_cons (ex_expr (ev_methf0 hC (kp hK (by kernel_rfl)) nm (getm_inst hC (k_next hK) hi (by kernel_rfl)) (opn_fn (next_okL (loc := loc0 ["self", "char"] [.obj i, .d (.str s)]) hC hK G hc (by lia) hi hk hs)))) (exs_stop (ex_ret ev_bool))))
theorem match_more (hC : CxOk c) (hK : c.K = KK c) (G : G1 c) (hc : c.calm = true) (hn : n ≤ 80) (ht : t.length ≤ 100000) (hi : lk i H0 = some o) (hT : TokOk t (s :: L)) :
    FnN c n 73 [.obj i, .d (.str s)] ⟨loc, Hs i b src t H0 (s :: L)⟩ (.d (.bool true)) ⟨loc, Hs i b src t H0 L⟩ := by
  have z := match_t (loc := loc) (b := b) (src := src) hC hK G (fun _ => hc) hn (lk_setH (o' := .inst cT (tokAs b src t (kOf t (s :: L)) (.str s))) hi) (Nat.le_trans kOf_le ht) hT.1
  rw [setH_setH] at z
  exact z
end
end Mine
namespace Mine
open PySem PySem.W PyProof.Rows PySem.Calls PySem.Spec
theorem snoc_size {ws : List Value} {x : Value} : (ws ++ [x]).toArray.size = ws.length + 1 := by rw [List.size_toArray, List.length_append]; rfl
theorem snoc_at {ws : List Value} {x : Value} : (ws ++ [x]).toArray[ws.length]? = some x := by rw [List.getElem?_toArray, List.getElem?_append_right (Nat.le_refl _), Nat.sub_self]; rfl
theorem snoc_set {ws : List Value} {x v : Value} : ((ws ++ [x]).toArray.setIfInBounds ws.length v) = (ws ++ [v]).toArray := by rw [List.setIfInBounds_toArray, List.set_append_right _ _ (Nat.le_refl _), Nat.sub_self]; rfl
theorem last_ix {k : Nat} : ((-1 : Int) + ((k + 1 : Nat) : Int)).toNat = k := by lia
theorem item_last {prog : Program} {w : World} {A : Around} {E : Value → Shared → Prop} {s : Shared} {Q : Value → Shared → Prop} {b : Addr} {ws : List Value} {x : Value} {t : Tok} (hL : s.heap.IsList b (ws ++ [x]).toArray) (h : Q x s) : wpAny (model prog w) A (getItem (.ref b) (.int (-1) t)) Q E s :=
  wpAny_getItem_list_neg (x := x) hL (by decide) (by rw [snoc_size]; lia) (by decide) (by rw [snoc_size, last_ix]; exact snoc_at) h
theorem set_last {prog : Program} {w : World} {A : Around} {E : Value → Shared → Prop} {s : Shared} {Q : Unit → Shared → Prop} {l : Addr} {ws : List Value} {x v : Value} {k : Nat} {t : Tok} (ho : s.heap.get? l = some (listOf (ws ++ [x]).toArray k)) (hl : ws.length ≤ 10000)
    (h : ∀ h' k', h'.get? l = some (listOf (ws ++ [v]).toArray k') → Heap.SameBut l s.heap h' → Q () { s with heap := h' }) : wpAny (model prog w) A (setItem (.ref l) (.int (-1) t) v) Q E s := by
  have hL : s.heap.IsList l (ws ++ [x]).toArray := ⟨_, ho, rfl, k, rfl⟩
  have sz := snoc_size (ws := ws) (x := x)
  unfold setItem
  try with_reducible refine wpAny_holding ?_
  first | refine wpAny_bind (wpAny_pure ?_) | skip
  refine wpAny_bind (wpAny_sequenceKey hL.typeIs (by decide) ?_)
  refine wpAny_bind (wpAny_callSpecial?_slot (name := Str.ofString "__setitem__") hL.typeIs slot_list_setitem
    (wpAny_call_entry slot_list_setitem hL.typeIs entry_list_setitem ?_ (args_list_setitem _ _ _)))
  show wpAny _ _ (Builtin.List.listSubscript? (.int (-1) t) >>= _) _ _ s
  refine wpAny_bind (wpAny_listSubscript_int (fitsIndex_neg (by decide) (by decide)) ?_)
  have hidx : seqIndex? (-1) (ws ++ [x]).toArray.size = some ws.length := by
    rw [seqIndex_neg (by decide) (by rw [sz]; lia), sz]; congr 1; lia
  show wpAny _ _ ((Builtin.List.listItems (.ref l) >>= fun xs => pure ((seqIndex? (Int.negSucc 0) xs.size).bind fun i => xs[i]?.map (i, ·))) >>= _) _ _ s
  refine wpAny_bind (wpAny_bind ?_)
  show wpAny _ _ (seqItems? (.ref l) >>= _) _ _ s
  refine wpAny_bind (wpAny_seqItems ho rfl (wpAny_pure (wpAny_pure ?_)))
  rw [show (Int.negSucc 0) = (-1 : Int) from rfl, hidx]
  rw [Option.bind_some, snoc_at, Option.map_some]
  have e2 := snoc_set (ws := ws) (x := x) (v := v)
  obtain ⟨k', fin⟩ : ∃ k', (s.heap.update l (Obj.mapSeq (·.setIfInBounds ws.length v))).get? l = some (listOf (ws ++ [v]).toArray k') := by
    have z := Heap.get?_update_self (h := s.heap) (a := l) (Obj.mapSeq (·.setIfInBounds ws.length v)) ho (by rfl)
    obtain ⟨k', hk⟩ : ∃ k', Obj.mapSeq (·.setIfInBounds ws.length v) (listOf (ws ++ [x]).toArray k) = listOf ((ws ++ [x]).toArray.setIfInBounds ws.length v) k' := ⟨_, rfl⟩
    exact ⟨k', by rw [z, hk, e2]⟩
  show wpAny _ _ (setSeqItemAt l ws.length v >>= _) _ _ s
  refine wpAny_bind (wpAny_setSeqItemAt ho rfl ?_)
  first
    | exact wpAny_bind (wpAny_pure (wpAny_pure ⟨.none, rfl, wpAny_pure (h _ _ fin (Heap.SameBut.update ..))⟩))
    | exact wpAny_pure ⟨.none, rfl, wpAny_pure (h _ _ fin (Heap.SameBut.update ..))⟩
variable {c : Cx} {S : Scope} {n : Nat} {σ σ₁ : St} {o ix e : Expr} {pos spos : Pos} {i : Nat} {ds : List D} {a y : Str}
theorem ex_auglast (h1 : Ev c S n o σ (.obj i) σ) (h2 : Ev c S n ix σ (.d (.int (-1))) σ) (hi : lk i σ.heap = some (.lst (ds ++ [.str a]))) (h3 : Ev c S n e σ (.d (.str y)) σ) (hl : ds.length ≤ 9999) (hy : a.length + y.length ≤ sizeLine)
    (ha : ∀ ov iv new, augStore ix ov iv new = (do holding [new, ov, iv] (setItem ov iv new); release [new, ov, iv] []; pure .next)) :
    Ex c S n (.AugAssign (.Subscript o ix spos) .Add e pos) σ .next { σ with heap := setH i (.lst (ds ++ [.str (a ++ y)])) σ.heap } := fun f F ω s Q E R h => by
  refine wpAny_AugAssign_Subscript_any (h1 f F ω s _ _ R fun ω₁ ov s₁ e₁ R₁ A₁ => h2 f F ω₁ s₁ _ _ R₁ fun ω₂ iv s₂ e₂ R₂ A₂ => ?_) ha
  have A₁ := A₁.ext e₂
  obtain ⟨b, rfl, hb, hρ⟩ := A₁.toObj
  obtain ⟨t, rfl⟩ := vi A₂
  obtain ⟨m, Mc, Mh, FR, r⟩ := id R₂
  obtain ⟨us, kk, M1, M2, em, hds, ho, hset⟩ := lst_at r hi hρ
  obtain ⟨ws, x, rfl, q1, q2⟩ := hds.snoc
  have hL : s₂.heap.IsList b (ws ++ [x]).toArray := ⟨_, ho, rfl, kk, rfl⟩
  refine item_last hL ?_
  refine h3 f F ω₂ s₂ _ _ R₂ fun ω₃ u s₃ e₃ R₃ A₃ => ?_
  refine i_adds (c := c) (n := n) (σ := σ) hy S f F ω₃ s₃ _ _ x u R₃ (.d (q2.mono e₃.fz)) A₃ fun ω₄ v s₄ e₄ R₄ A₄ => ?_
  have hρ4 : ω₄.ρ i = some b := (e₄.ρ i hb).trans ((e₃.ρ i hb).trans hρ)
  obtain ⟨m4, Mc4, Mh4, FR4, r4⟩ := id R₄
  obtain ⟨us4, kk4, M14, M24, em4, hds4, ho4, hset4⟩ := lst_at r4 hi hρ4
  obtain ⟨ws4, x4, rfl, p1, p2⟩ := hds4.snoc
  have lw : ws4.length = ds.length := p1.length
  have eL : ∀ o, Mc4 ++ ((M14 ++ ([(b, o)] ++ M24)) ++ (ω₄.Z ++ (FR4 ++ f.keep))) = (Mc4 ++ M14) ++ (b, o) :: (M24 ++ (ω₄.Z ++ (FR4 ++ f.keep))) := fun o => by simp only [List.append_assoc, List.cons_append, List.nil_append]
  obtain ⟨o1, o2⟩ := off_pre (by have := r4.nd; rw [em4, eL] at this; exact this)
  have N := r4.nw
  rw [em4, eL] at N
  have hN := N (b, listOf (ws4 ++ [x4]).toArray kk4) (List.mem_append_right _ (.head _))
  refine set_last ho4 (by lia) fun h' k' ho' hs' => ?_
  have N' := N.setAt o1 o2 hs' ho'
  refine h ω₄ .next _ (e₁.down.trans (e₂.down.trans (e₃.down.trans e₄.down))) ⟨m4, Mc4, _, FR4, r4.swap (tk := s₄.toks) (pre := M14) (post := M24) (a := b) (o := listOf (ws4 ++ [x4]).toArray kk4) (o' := listOf (ws4 ++ [v]).toArray k') (by rw [em4]; rfl) rfl (fr_off r4.fr hs' hN.2.1 hN.2.2) ?_ ?_⟩ .next
  · rw [show M14 ++ (b, listOf (ws4 ++ [v]).toArray k') :: M24 = M14 ++ ([(b, listOf (ws4 ++ [v]).toArray k')] ++ M24) from rfl, eL]; exact N'
  · exact hset4 _ _ (.lst (p1.append (.one A₄.toD)))
theorem op_last_obj {l r : Expr} {d : D} (hi : lk i σ.heap = some (.lst (ds ++ [d]))) (hs : ∀ o i, ∃ ops, subscripted r false o i = operate ops (getItem o i) := by intro o i; exact ⟨_, rfl⟩) :
    Op2 c n (subscriptTail l r) (.obj i) (.d (.int (-1))) σ (.d d) σ := fun S f F ω s Q E xv yv R A B h => by
  obtain ⟨b, rfl, hb, hρ⟩ := A.toObj
  obtain ⟨t, rfl⟩ := vi B
  obtain ⟨m, Mc, Mh, FR, r'⟩ := id R
  obtain ⟨us, kk, M1, M2, em, hds, ho, hset⟩ := lst_at r' hi hρ
  obtain ⟨ws, x, rfl, q1, q2⟩ := hds.snoc
  have hL : s.heap.IsList b (ws ++ [x]).toArray := ⟨_, ho, rfl, kk, rfl⟩
  obtain ⟨ops, hs⟩ := hs (.ref b) (.int (-1) t)
  exact tail_any hL.typeIs slot_list_getitem.lookup (item_last hL (h ω x s (.refl ..) R (.d q2))) hs
end Mine
namespace Mine
open PySem PySem.W PyProof.Rows PySem.Calls PySem.Spec
theorem toDs_d : ∀ l : List D, toDs (l.map .d) = some l
  | [] => rfl
  | d :: l => by
    show toDs (.d d :: l.map .d) = _
    unfold toDs
    rw [toDs_d l]
end Mine
namespace Mine
open PySem PySem.W PyProof.Rows PySem.Calls PySem.Spec
section
variable {c : Cx} {S : Scope} {n : Nat} {σ : St} {p : Pos} {env : Str → Option D}
noncomputable def strP : (d : D) → Option { x : Str // d = .str x }
  | .str x => some ⟨x, rfl⟩
  | _ => none
noncomputable def addOp : (o : Operator) → Option (PLift (o = .Add))
  | .Add => some ⟨rfl⟩
  | _ => none
noncomputable def constP (c : Cx) (S : Scope) (n : Nat) (σ : St) : (x : Const) → Option { d : D // ∀ (j : Nat) (p : Pos), Ev c S n (.Constant x j p) σ (.d d) σ }
  | .str x => some ⟨.str x, fun _ _ => ev_str⟩
  | .int i => some ⟨.int i, fun _ _ => ev_int⟩
  | _ => none
theorem add_ok {a b : D} {x y : Str} (ha : a = .str x) (hb : b = .str y) (q : Nat.ble (x.length + y.length) 1000 = true) : Op2 c n (binaryOp .Add) (.d a) (.d b) σ (.d (.str (x ++ y))) σ := by
  subst ha; subst hb
  exact b_adds (Nat.le_trans (Nat.le_of_ble_eq_true q) (by decide))
theorem lst_ok {es : List Expr} {ds : List D} (h : Evs c S n es σ (ds.map .d) σ) (q : Nat.ble ds.length 1000 = true) : Ev c S n (.List es p) σ (.d (.lst ds)) σ := ev_list h (op_list (toDs_d ds) (Nat.le_trans (Nat.le_of_ble_eq_true q) (by decide)))
theorem tup_ok {es : List Expr} {j : Nat} {ds : List D} (h : Evs c S n es σ (ds.map .d) σ) (q : Nat.ble ds.length 1000 = true) : Ev c S n (.Tuple es j p) σ (.d (.tup ds)) σ := ev_tuple h (op_tuple (toDs_d ds) (Nat.le_trans (Nat.le_of_ble_eq_true q) (by decide)))
noncomputable abbrev CvP (c : Cx) (S : Scope) (n : Nat) (σ : St) (e : Expr) := Option { d : D // notStar e = true ∧ Ev c S n e σ (.d d) σ }
noncomputable def cvPs (f : (e : Expr) → CvP c S n σ e) : (es : List Expr) → Option { ds : List D // Evs c S n es σ (ds.map .d) σ }
  | [] => some ⟨[], evs_nil⟩
  | e :: es => (f e).bind fun d => (cvPs f es).map fun ds => ⟨d.1 :: ds.1, evs_cons d.2.2 ds.2 d.2.1⟩
noncomputable def cvP (hx : ∀ x d p, env x = some d → Ev c S n (.Name x p) σ (.d d) σ) : Nat → (e : Expr) → CvP c S n σ e
  | 0, _ => none
  | k + 1, .Constant x j p => (constP c S n σ x).map fun d => ⟨d.1, rfl, d.2 j p⟩
  | k + 1, .Name x p => (env x).attach.map fun d => ⟨d.1, rfl, hx x d.1 p d.2⟩
  | k + 1, .BinOp l o r p => (addOp o).bind fun q => (cvP hx k l).bind fun a => (cvP hx k r).bind fun b => (strP a.1).bind fun x => (strP b.1).bind fun y =>
      if h : Nat.ble (x.1.length + y.1.length) 1000 = true then some ⟨.str (x.1 ++ y.1), rfl, q.1 ▸ ev_binop a.2.2 b.2.2 (add_ok x.2 y.2 h)⟩ else none
  | k + 1, .List es p => (cvPs (cvP hx k) es).bind fun ds => if h : Nat.ble ds.1.length 1000 = true then some ⟨.lst ds.1, rfl, lst_ok ds.2 h⟩ else none
  | k + 1, .Tuple es j p => (cvPs (cvP hx k) es).bind fun ds => if h : Nat.ble ds.1.length 1000 = true then some ⟨.tup ds.1, rfl, tup_ok ds.2 h⟩ else none
  | _ + 1, _ => none
theorem ev_const {e : Expr} {d : D} (hx : ∀ x d p, env x = some d → Ev c S n (.Name x p) σ (.d d) σ) (k : Nat) (h : (cvP hx k e).map (fun q => q.1) = some d) : Ev c S n e σ (.d d) σ := by
  obtain ⟨q, _, rfl⟩ := Option.map_eq_some_iff.mp h
  exact q.2.2
end
end Mine
namespace Mine
open PySem PySem.W PyProof.Rows PySem.Calls PySem.Spec
noncomputable abbrev wdD (K : List Nat) : D := .str (wd K)
noncomputable abbrev sgD (Ss : List (List Nat)) : D := .lst (Ss.map wdD)
theorem wd1 {k : Nat} : wd [k] = ch1 k := by unfold wd txt; simp [cpsL]
theorem wd_inj {a b : List Nat} (h : wd a = wd b) : a = b := by
  have := congrArg (fun s : Str => s.cps.toList) h
  rwa [wd_cps, wd_cps] at this
noncomputable def sgGo : List (List Nat) → List Nat → List (List Nat)
  | acc, [] => acc
  | acc, a :: w => sgGo (if acc.getLast? = some [92] then acc.dropLast ++ [[92, a]] else acc ++ [[a]]) w
noncomputable def SGB : List Stmt := fBdy PySem.Challenge.pw_kq0015_04 20
noncomputable def SGL : List Stmt := forBody SGB 1
section
variable {c : Cx} {n : Nat} {loc : List (Nat × V)} {H : List (Nat × HO)} {w : List Nat} {acc : List (List Nat)} {a : Nat}
noncomputable abbrev sgLoc (n : Nat) (w : List Nat) : List (Nat × V) := [(key "signs", .obj ((n + 1) * 1000)), (key "text", .d (wdD w))]
noncomputable abbrev sgH (n : Nat) (acc : List (List Nat)) (H : List (Nat × HO)) : List (Nat × HO) := ((n + 1) * 1000, .lst (acc.map wdD)) :: H
theorem sg_turn (hl : acc.length ≤ 1000) (hw : ∀ K ∈ acc, K.length ≤ 10) :
    Exs c (Sc c 159) (n + 1) SGL ⟨(key "c", .d (.str (ch1 a))) :: sgLoc n w, sgH n acc H⟩ .next ⟨sgLoc n w, sgH n (if acc.getLast? = some [92] then acc.dropLast ++ [[92, a]] else acc ++ [[a]]) H⟩ := by
  dsimp only [SGL, forBody, SGB, fBdy, PySem.Challenge.pw_kq0015_04, List.drop]
  have app : (decide (acc.getLast? = some [92])) = false → Exs c (Sc c 159) (n + 1) [.Expr (.Call (.Attribute (.Name "signs" ⟨172, 12, 172, 17⟩) "append" ⟨172, 12, 172, 24⟩) [.Name "c" ⟨172, 25, 172, 26⟩] [] ⟨172, 12, 172, 27⟩) ⟨172, 12, 172, 27⟩] ⟨(key "c", .d (.str (ch1 a))) :: sgLoc n w, sgH n acc H⟩ .next ⟨sgLoc n w, sgH n (if acc.getLast? = some [92] then acc.dropLast ++ [[92, a]] else acc ++ [[a]]) H⟩ := fun q => by
    rw [if_neg (of_decide_eq_false q)]
    refine exs_cons (ex_sub (ex_expr (ev_meth nm (getm_lst (i := (n + 1) * 1000) PySem.F.slot_list_append PySem.F.type_list_append lk_head) (evs_cons nm evs_nil) (op_append lk_head (by rw [List.length_map]; lia)))) ?_) exs_nil
    rw [setH_head, show sgH n (acc ++ [[a]]) H = ((n + 1) * 1000, HO.lst (acc.map wdD ++ [D.str (ch1 a)])) :: H by
      show (_, HO.lst ((acc ++ [[a]]).map wdD)) :: H = _
      rw [List.map_append]
      show (_, HO.lst (_ ++ [D.str (wd [a])])) :: H = _
      rw [wd1]]
    exact (sub_pick (by kernel_rfl))
  rcases List.eq_nil_or_concat acc with rfl | ⟨pre, K, rfl⟩
  · exact exs_cons (if_f (ts_bool (tss_and_no (ts_is (ts_plain nm (t_objlst (ds := []) lk_head (Nat.zero_le _))) rfl))) (app (by decide))) exs_nil
  · rw [List.concat_eq_append] at hl hw app ⊢
    have gl : (pre ++ [K]).getLast? = some K := List.getLast?_concat
    have hk : K.length ≤ 10 := hw K (List.mem_append_right _ (.head _))
    rw [List.length_append, List.length_singleton] at hl
    have hm : (pre ++ [K]).map wdD = pre.map wdD ++ [wdD K] := List.map_append
    have hl2 : ((pre ++ [K]).map wdD).length ≤ 10000 := by rw [List.length_map, List.length_append]; show _ + 1 ≤ _; lia
    have tt : ∀ {p1 p2 p3 p4 p5 p6 p7 p8 : Pos} {k1 k2 : Nat}, Ts c (Sc c 159) (n + 1) (.BoolOp .And [.Name "signs" p1, .Compare (.Subscript (.Name "signs" p2) (.UnaryOp .USub (.Constant (.int 1) k1 p3) p4) p5) [.Eq] [.Constant (.str "\\") k2 p6] p7] p8) ⟨(key "c", .d (.str (ch1 a))) :: sgLoc n w, sgH n (pre ++ [K]) H⟩ (decide ((pre ++ [K]).getLast? = some [92])) ⟨(key "c", .d (.str (ch1 a))) :: sgLoc n w, sgH n (pre ++ [K]) H⟩ := fun {p1 p2 p3 p4 p5 p6 p7 p8 k1 k2} => by
      refine ts_is (b := true && ((wd K == "\\") && true)) (ts_bool (tss_and (ts_is (ts_plain nm (t_objlst lk_head hl2)) ?_) (tss_and (ts_cmp (X := .d (wdD K)) (ev_sub nm (ev_unop ev_int u_neg) (op_last_obj (ds := pre.map wdD) ?_)) ev_str c_eqs) tss_nil))) ?_
      · rw [hm]; cases pre <;> rfl
      · rw [← hm]; exact lk_head
      · rw [gl, Bool.and_true, Bool.true_and]
        cases q : (wd K == "\\") with
        | true =>
          have : K = [92] := wd_inj ((eq_of_beq q).trans (by kernel_rfl))
          rw [this]; rfl
        | false =>
          refine (decide_eq_false fun h => ?_).symm
          cases h
          exact absurd q (by decide +kernel)
    refine exs_cons (if_any (σ₁ := ⟨(key "c", .d (.str (ch1 a))) :: sgLoc n w, sgH n (pre ++ [K]) H⟩) (b := decide ((pre ++ [K]).getLast? = some [92])) tt (fun q => ?a1) app) exs_nil
    case a1 =>
      have h9 := of_decide_eq_true q
      rw [if_pos h9]
      have hK : K = [92] := by rw [gl] at h9; exact Option.some.inj h9
      subst hK
      refine exs_cons (ex_sub (ex_auglast (i := (n + 1) * 1000) (ds := pre.map wdD) (a := wd [92]) (y := ch1 a) nm (ev_unop ev_int u_neg) (by show lk _ (_ :: _) = _; rw [lk_head, hm]) nm (by rw [List.length_map]; lia) (Nat.le_trans (show _ ≤ 2 by rw [wd_len]; exact Nat.le_refl _) (by decide)) (fun _ _ _ => rfl)) ?_) exs_nil
      have eh : sgH n ((pre ++ [[92]]).dropLast ++ [[92, a]]) H = ((n + 1) * 1000, HO.lst (pre.map wdD ++ [D.str (wd [92] ++ ch1 a)])) :: H := by
        have e1 : (pre ++ [[92]]).dropLast = pre := List.dropLast_concat
        rw [e1]
        show (_, HO.lst ((pre ++ [[92, a]]).map wdD)) :: H = _
        rw [List.map_append]
        show (_, HO.lst (_ ++ [D.str (wd ([92] ++ [a]))])) :: H = _
        rw [wd_app, wd1 (k := a)]
      rw [setH_head, eh]
      exact (sub_pick (by kernel_rfl))
theorem sg_loop {p1 : Pos} : ∀ (u : List Nat) (acc : List (List Nat)), acc.length + u.length ≤ 1000 → (∀ K ∈ acc, K.length ≤ 2) →
    FL c (Sc c 159) (n + 1) (.Name "c" p1) SGL [] ((u.map fun a => D.str (ch1 a)).map .d) ⟨sgLoc n w, sgH n acc H⟩ .next ⟨sgLoc n w, sgH n (sgGo acc u) H⟩
  | [], _, _, _ => fl_nil
  | a :: u, acc, hl, hw => by
    rw [List.length_cons] at hl
    refine fl_cons (fl := .next) (as_name (by kernel_rfl)) (sg_turn (by lia) (fun K hK => Nat.le_trans (hw K hK) (by decide))) rfl (sg_loop u _ ?_ ?_)
    · split
      · rename_i h
        rw [List.length_append, List.length_dropLast]
        show _ + 1 + _ ≤ _
        lia
      · rw [List.length_append]; show _ + 1 + _ ≤ _; lia
    · intro K hK
      split at hK
      · rcases List.mem_append.mp hK with h | h
        · exact hw K ((List.dropLast_sublist acc).subset h)
        · rw [List.mem_singleton.mp h]; exact Nat.le_refl _
      · rcases List.mem_append.mp hK with h | h
        · exact hw K h
        · rw [List.mem_singleton.mp h]; exact Nat.le_succ 1
theorem signs_fn (hC : CxOk c) (hK : c.K = KK c) (hc : c.calm = true) (hn : n ≤ 80) (hH : lk ((n + 1) * 1000) H = none) (hw : w.length ≤ 900) : FnN c n 159 [.d (wdD w)] ⟨loc, H⟩ (.d (sgD (sgGo [] w))) ⟨loc, H⟩ := by
  refine fn_at (S := Sc c 159) (ps := ["text"]) (T := []) (fl := .ret (.d (sgD (sgGo [] w)))) (loc := [(key "signs", .d (sgD (sgGo [] w))), (key "text", .d (wdD w))]) (σ := ⟨loc, H⟩) hC hK (by lia) (by kernel_rfl) (by decide) (fun vs hv => by obtain ⟨a, rfl⟩ := len1 hv; kernel_rfl) rfl rfl ?b .ret
  case b =>
  refine exs_body (body' := SGB) ?_ (by kernel_rfl)
  dsimp only [SGB, fBdy, PySem.Challenge.pw_kq0015_04, List.drop]
  refine exs_cons (ex_newlist (i := (n + 1) * 1000) (ds := []) (by kernel_rfl) evs_nil ⟨Nat.le_refl _, by lia, hH, fun k X hX => ?fr⟩) ?_
  case fr =>
    have hX' : lk k [(key "text", V.d (wdD w))] = some X := hX
    unfold lk at hX'
    cases q : (key "text" == k) with
    | true => rw [q] at hX'; cases hX'; rfl
    | false => rw [q] at hX'; cases hX'
  refine exs_pre (σ₁ := ⟨sgLoc n w, sgH n [] H⟩) (sub_pick (by kernel_rfl)) ?_
  refine exs_cons (σ₁ := ⟨sgLoc n w, sgH n (sgGo [] w) H⟩) (ex_for (evIt_str (x := wd w) hc nm) (fl_body (body' := SGL) ?fl (by kernel_rfl))) ?_
  case fl => rw [signs_wd]; exact sg_loop w [] (by rw [List.length_nil]; lia) (fun _ h => nomatch h)
  refine exs_freeze (x := "signs") (i := (n + 1) * 1000) (ds := (sgGo [] w).map wdD) lk1 lk_head ?_
  have hd : delH ((n + 1) * 1000) (sgH n (sgGo [] w) H) = H := by
    unfold sgH delH
    simp
  rw [hd]
  exact exs_sub (exs_stop (ex_ret nm)) (sub_pick (by kernel_rfl))
end
end Mine
namespace Mine
open PySem PySem.W PyProof.Rows PySem.Calls PySem.Spec
theorem slice_l {l : List D} {lo hi : Option Int} {a z : Nat} (h : sliceBounds lo hi none l.length = ((a : Int), (z : Int), 1)) (ha : a ≤ z) (hz : z ≤ l.length) : sliceD l lo hi none = (l.drop a).take (z - a) := by
  unfold sliceD
  rw [h]
  unfold sliceRange
  have e1 : ((1 : Int) > 0) := by decide
  simp only [e1, if_true]
  have : (if (a : Int) < (z : Int) then ((z : Int) - a + 1 - 1) / 1 else 0).toNat = z - a := by
    split <;> lia
  rw [this]
  exact range_drop l a (z - a) (by lia)
theorem clip_some {n m : Nat} : max 0 (min (if (m : Int) < 0 then (m : Int) + (n : Int) else (m : Int)) (n : Int)) = ((min m n : Nat) : Int) := by
  rw [if_neg (by lia)]; lia
theorem slice_takeL (l : List D) (m : Nat) : sliceD l none (some (m : Int)) none = l.take m := by
  rw [slice_l (a := 0) (z := min m l.length) ?_ (Nat.zero_le _) (Nat.min_le_right ..), List.drop_zero, Nat.sub_zero, ← List.take_eq_take_min]
  show ((0 : Int), max 0 (min (if (m : Int) < 0 then (m : Int) + (l.length : Int) else (m : Int)) (l.length : Int)), (1 : Int)) = _
  rw [clip_some]; rfl
end Mine
namespace Mine
open PySem PySem.W PyProof.Rows PySem.Calls PySem.Spec
variable {b : Bool} {c1 ch m : Str} {L L1 L2 : List Str} {a0 acc del : Int} {k : Nat} {res : D} {add : Option Int}
end Mine
namespace Mine
open PySem PySem.W PyProof.Rows PySem.Calls PySem.Spec
theorem or_nat {a b : Nat} : Builtin.bitOr (a : Int) (b : Int) = ((a ||| b : Nat) : Int) := tb_ext fun j => by
  rw [tb_or, tb_nat, tb_nat, tb_nat, Nat.testBit_or]
theorem or_small {a b : Int} (k : Nat) (h0 : 0 ≤ a) (h1 : a < 2 ^ k) (g0 : 0 ≤ b) (g1 : b < 2 ^ k) : 0 ≤ Builtin.bitOr a b ∧ Builtin.bitOr a b < 2 ^ k := by
  obtain ⟨a, rfl⟩ := Int.eq_ofNat_of_zero_le h0
  obtain ⟨b, rfl⟩ := Int.eq_ofNat_of_zero_le g0
  rw [or_nat]
  have ha : a < 2 ^ k := by exact_mod_cast h1
  have hb : b < 2 ^ k := by exact_mod_cast g1
  have := Nat.or_lt_two_pow ha hb
  exact ⟨Int.natCast_nonneg _, by exact_mod_cast this⟩
theorem and_assoc' {a b d : Int} : Builtin.bitAnd (Builtin.bitAnd a b) d = Builtin.bitAnd a (Builtin.bitAnd b d) := tb_ext fun j => by
  rw [tb_and, tb_and, tb_and, tb_and, Bool.and_assoc]
noncomputable def sevenL : List Nat := [105, 109, 115, 120, 97, 117, 76]
noncomputable def KdOk (b : Bool) (t : Int) : Prop := t ∈ [(0 : Int), 256, flg (ownN b)]
noncomputable def kdChk (b : Bool) (t : Int) (x : Nat) : Bool :=
  let f := Builtin.bitAnd (flg x) 292
  let z := Builtin.bitOr t f
  let c1 := (f != 0) && (z != flg x)
  (x == ownN (!b)) || ((c1 == ((Builtin.bitAnd z 256 != 0) && (Builtin.bitAnd z 36 != 0))) && (c1 || [(0 : Int), 256, flg (ownN b)].contains z))
theorem kd_all : [true, false].all (fun b => [(0 : Int), 256, flg (ownN b)].all fun t => sevenL.all fun x => kdChk b t x) = true := by kernel_rfl
theorem kd_step {b : Bool} {a : Int} {x : Nat} (ha : KdOk b (Builtin.bitAnd a 292)) (hx : x ∈ sevenL) (ho : x ≠ ownN (!b)) :
    ((Builtin.bitAnd (flg x) 292 != 0) && (Builtin.bitAnd (Builtin.bitOr a (flg x)) 292 != flg x)) = ((Builtin.bitAnd (Builtin.bitOr a (flg x)) 256 != 0) && (Builtin.bitAnd (Builtin.bitOr a (flg x)) 36 != 0)) ∧
    (((Builtin.bitAnd (Builtin.bitOr a (flg x)) 256 != 0) && (Builtin.bitAnd (Builtin.bitOr a (flg x)) 36 != 0)) = false → KdOk b (Builtin.bitAnd (Builtin.bitOr a (flg x)) 292)) := by
  have z := List.all_eq_true.mp (List.all_eq_true.mp (List.all_eq_true.mp kd_all b (by cases b <;> simp)) _ ha) x hx
  have e : Builtin.bitAnd (Builtin.bitOr a (flg x)) 292 = Builtin.bitOr (Builtin.bitAnd a 292) (Builtin.bitAnd (flg x) 292) := and_or_dist
  have e2 : Builtin.bitAnd (Builtin.bitAnd (Builtin.bitOr a (flg x)) 292) 256 = Builtin.bitAnd (Builtin.bitOr a (flg x)) 256 := by rw [and_assoc']; rfl
  have e3 : Builtin.bitAnd (Builtin.bitAnd (Builtin.bitOr a (flg x)) 292) 36 = Builtin.bitAnd (Builtin.bitOr a (flg x)) 36 := by rw [and_assoc']; rfl
  have ho' : (x == ownN (!b)) = false := by simpa using ho
  unfold kdChk at z
  dsimp only at z
  rw [ho', Bool.false_or, Bool.and_eq_true, ← e, e2, e3] at z
  obtain ⟨z1, z2⟩ := z
  have z1 := eq_of_beq z1
  refine ⟨z1, fun h => ?_⟩
  rw [z1, h, Bool.false_or] at z2
  unfold KdOk
  exact List.contains_iff_mem.mp z2
theorem or_flg {a : Int} {x : Nat} (h : 0 ≤ a ∧ a < 512) : 0 ≤ Builtin.bitOr a (flg x) ∧ Builtin.bitOr a (flg x) < 512 := by
  have hf : 0 ≤ flg x ∧ flg x < 512 := by
    unfold flg
    repeat' split
    all_goals exact ⟨by decide, by decide⟩
  exact or_small 9 h.1 h.2 hf.1 hf.2
end Mine
namespace Mine
open PySem PySem.W PyProof.Rows PySem.Calls PySem.Spec
theorem sevL_flag {x : Nat} (hx : x ∈ sevenL) : flagOf (ch1 x) = some (flg x) := by
  simp only [sevenL, List.mem_cons, List.not_mem_nil, or_false] at hx
  rcases hx with rfl | rfl | rfl | rfl | rfl | rfl | rfl <;> kernel_rfl
theorem sevL_con {x : Nat} (hx : x ∈ sevenL) : Txt.contains ")-:" (ch1 x) = false ∧ (ch1 x == ":") = false ∧ (ch1 x == "-") = false := by
  simp only [sevenL, List.mem_cons, List.not_mem_nil, or_false] at hx
  rcases hx with rfl | rfl | rfl | rfl | rfl | rfl | rfl <;> exact ⟨by kernel_rfl, by kernel_rfl, by kernel_rfl⟩
section
variable {b : Bool} {ch d m c2 : Str} {R L : List Str} {fl a0 : Int}
theorem onR_more (hf : flagOf ch = some fl) (hk : onChk b ch fl a0 = none) (q : Txt.contains ")-:" d = false) (q' : (flagOf d).isSome = true) : onR b (d :: R) ch a0 = onR b R d (Builtin.bitOr a0 fl) := by
  conv => lhs; unfold onR
  rw [hf]; dsimp only; rw [hk]; dsimp only; rw [if_neg (by rw [q]; exact Bool.false_ne_true), if_pos q']
noncomputable def M_for (b : Bool) : Str := if b then M_L else M_u
noncomputable def clashB (a : Int) : Bool := Builtin.bitAnd a 256 != 0 && Builtin.bitAnd a 36 != 0
theorem chk_w {x : Nat} (hx : x ∈ sevenL) (hk : KdOk b (Builtin.bitAnd a0 292)) :
    (x = ownN (!b) ∧ onChk b (ch1 x) (flg x) a0 = some (M_for b)) ∨
    (x ≠ ownN (!b) ∧ clashB (Builtin.bitOr a0 (flg x)) = true ∧ onChk b (ch1 x) (flg x) a0 = some M_cl) ∨
    (x ≠ ownN (!b) ∧ clashB (Builtin.bitOr a0 (flg x)) = false ∧ onChk b (ch1 x) (flg x) a0 = none ∧ KdOk b (Builtin.bitAnd (Builtin.bitOr a0 (flg x)) 292)) := by
  by_cases ho : x = ownN (!b)
  · refine .inl ⟨ho, ?_⟩
    subst ho
    unfold onChk M_for
    cases b with
    | true => rw [if_pos (by kernel_rfl)]; rfl
    | false => rw [if_neg (by decide +kernel), if_pos (by kernel_rfl)]; rfl
  · have inj : ∀ k : Nat, x ≠ k → (ch1 x == ch1 k) = false := fun k hk => by
      cases q : (ch1 x == ch1 k) with
      | false => rfl
      | true =>
        have e := congrArg (fun s : Str => s.cps.toList) (eq_of_beq q)
        simp at e
        exact absurd e hk
    have q1 : ¬ (b && ch1 x == "L") = true := by
      cases b with
      | true => intro h; rw [show (ch1 x == "L") = false from inj 76 ho] at h; cases h
      | false => simp
    have q2 : ¬ (!b && ch1 x == "u") = true := by
      cases b with
      | true => simp
      | false => intro h; rw [show (ch1 x == "u") = false from inj 117 ho] at h; cases h
    obtain ⟨s1, s2⟩ := kd_step (b := b) hk hx ho
    have e : onChk b (ch1 x) (flg x) a0 = if clashB (Builtin.bitOr a0 (flg x)) = true then some M_cl else none := by
      unfold onChk
      rw [if_neg q1, if_neg q2, s1]
      rfl
    cases q3 : clashB (Builtin.bitOr a0 (flg x)) with
    | true => exact .inr (.inl ⟨ho, rfl, by rw [e, if_pos q3]⟩)
    | false => exact .inr (.inr ⟨ho, rfl, by rw [e, if_neg (by rw [q3]; exact Bool.false_ne_true)], s2 q3⟩)
noncomputable def badAt (b : Bool) : List Nat → Int → Option (Nat × Str)
  | [], _ => none
  | x :: xs, a => if x = ownN (!b) then some (0, M_for b) else if clashB (Builtin.bitOr a (flg x)) = true then some (0, M_cl) else (badAt b xs (Builtin.bitOr a (flg x))).map fun p => (p.1 + 1, p.2)
theorem badAt_cons {x : Nat} {xs : List Nat} {a : Int} : badAt b (x :: xs) a = if x = ownN (!b) then some (0, M_for b) else if clashB (Builtin.bitOr a (flg x)) = true then some (0, M_cl) else (badAt b xs (Builtin.bitOr a (flg x))).map fun p => (p.1 + 1, p.2) := rfl
end
end Mine
namespace Mine
open PySem PySem.W PyProof.Rows PySem.Calls PySem.Spec
noncomputable def SL : Scope := defScope PySem.Challenge.pw_kq0015_04 "law"
noncomputable def LB : List Stmt := nthBody PySem.Challenge.pw_kq0015_04 21
noncomputable abbrev ownOf (oct : Bool) : Str := ch1 (ownN (!oct))
noncomputable abbrev othOf (oct : Bool) : Str := ch1 (ownN oct)
noncomputable def bits7 : List (Str × D) := [("i", .int 2), ("L", .int 4), ("m", .int 8), ("s", .int 16), ("u", .int 32), ("x", .int 64), ("a", .int 256)]
structure Kd where
  ty : List Nat
  why : Str
structure Cl where
  cl : List Nat
  off : Int
  fa : Str
  pl : Int
  re : List (List Nat)
noncomputable def kindD (q : Kd) : D := .tup [wdD q.ty, .str q.why]
noncomputable def closD (q : Cl) : D := .tup [wdD q.cl, .int q.off, .str q.fa, .int q.pl, sgD q.re]
noncomputable def kindsC (oct : Bool) : List Kd := [⟨[], ""⟩, ⟨[], ""⟩, ⟨[97, 97], ""⟩, ⟨[ownN (!oct)], ""⟩, ⟨[ownN (!oct), ownN (!oct)], ""⟩, ⟨[97, ownN (!oct)], M_cl⟩, ⟨[ownN (!oct), 97], M_cl⟩, ⟨[ownN oct], M_for (!oct)⟩, ⟨[97, ownN oct], M_for (!oct)⟩, ⟨[97, 105, ownN (!oct)], M_cl⟩]
noncomputable def closC : List Cl := [⟨[41], 0, "", 0, []⟩, ⟨[58], 0, "", 0, []⟩, ⟨[45, 115, 109, 58], 24, "", 0, []⟩, ⟨[45, 120, 115, 120, 58], 80, "", 0, []⟩, ⟨[45, 105, 58], 2, "", 0, []⟩, ⟨[122, 41], 0, M_un, 0, [[41]]⟩, ⟨[233, 58], 0, M_un, 0, [[58]]⟩, ⟨[57, 41], 0, M_1, 0, [[41]]⟩, ⟨[92, 41, 58], 0, M_1, 0, [[58]]⟩, ⟨[45, 41], 0, M_2, 1, []⟩, ⟨[45, 107, 41], 0, M_un, 1, [[41]]⟩, ⟨[45, 115, 97, 58], 0, M_off, 3, [[58]]⟩, ⟨[45, 105, 41], 0, M_3, 2, []⟩, ⟨[45, 109, 92, 58, 58], 0, M_3, 2, [[58]]⟩, ⟨[45, 109, 122, 58], 0, M_un, 2, [[58]]⟩, ⟨[45, 120, 117, 41], 0, M_off, 3, [[41]]⟩, ⟨[45, 76, 58], 0, M_off, 2, [[58]]⟩, ⟨[45, 58], 0, M_2, 1, []⟩, ⟨[45, 57, 41], 0, M_2, 1, [[41]]⟩, ⟨[45, 92, 58, 58], 0, M_2, 1, [[58]]⟩]
noncomputable def numC (ns : List Int) : List Int := if ns.take 24 = [] then [5] else ns.take 24
structure GL4 (c : Cx) : Prop extends GL c where
  whole : GlobIs c "_law_whole" (.ref 152)
  sgn : GlobIs c "_law_signs" (.ref 159)
theorem gl4 {c : Cx} (hC : CxOk c) (hK : c.K = KK c) (hb : ∀ x : Str, x ≠ "__name__" → c.mb x = bootBuiltins x) : GL4 c where
  toGL := glAll hC hK hb
  whole := globG hC (by rw [hK]; kernel_rfl)
  sgn := globG hC (by rw [hK]; kernel_rfl)
theorem fmod_at (a : Int) (m : Nat) (h : 0 < m) : ∃ k : Nat, a.fmod m = (k : Int) ∧ k < m := by
  have h1 := Int.fmod_nonneg_of_pos a (show (0 : Int) < m by lia)
  have h2 := Int.fmod_lt_of_pos a (show (0 : Int) < m by lia)
  exact ⟨(a.fmod m).toNat, by lia, by lia⟩
section
variable {c : Cx} {S : Scope} {n : Nat} {σ : St}
theorem env_nil : ∀ (x : Str) (d : D) (p : Pos), getD? x ([] : List (Str × D)) = some d → Ev c S n (.Name x p) σ (.d d) σ := fun _ _ _ h => nomatch h
theorem env_cons {y : Str} {a : D} {l : List (Str × D)} (h : ∀ p, Ev c S n (.Name y p) σ (.d a) σ) (hr : ∀ (x : Str) (d : D) (p : Pos), getD? x l = some d → Ev c S n (.Name x p) σ (.d d) σ) : ∀ (x : Str) (d : D) (p : Pos), getD? x ((y, a) :: l) = some d → Ev c S n (.Name x p) σ (.d d) σ := fun x d p q => by
  unfold getD? at q
  by_cases e : y = x
  · rw [if_pos e] at q
    cases q; subst e; exact h p
  · rw [if_neg e] at q; exact hr x d p q
noncomputable abbrev lA (oct : Bool) (total : Int) (script : List D) : List (Nat × V) :=
  [(key "bits", .d (.dct bits7)), (key "turned", .d (.str M_off)), (key "twice", .d (.str M_tw)), (key "clash", .d (.str M_cl)), (key "foreign", .d (.str (M_for (!oct)))), (key "other", .d (.str (othOf oct))), (key "own", .d (.str (ownOf oct))), (key "octets", .d (.bool oct)), (key "total", .d (.int total)), (key "script", .d (.lst script))]
noncomputable abbrev lK (oct : Bool) (total : Int) (ns : List Int) : List (Nat × V) :=
  [(key "n", .d (.int ns.length)), (key "numbers", .d (.lst (ns.map .int))), (key "closes", .d (.lst (closC.map closD))), (key "kinds", .d (.lst ((kindsC oct).map kindD))), (key "bits", .d (.dct bits7)), (key "twice", .d (.str M_tw)), (key "octets", .d (.bool oct)), (key "total", .d (.int total))]
structure MS where
  text : List Nat
  held : Int
  want : List D
noncomputable abbrev lM (oct : Bool) (total : Int) (ns : List Int) (m : MS) : List (Nat × V) := (key "want", .obj 0) :: (key "text", .d (wdD m.text)) :: (key "held", .d (.int m.held)) :: (key "start", .d (.int (total.fmod 512))) :: lK oct total ns
noncomputable abbrev hM (m : MS) : List (Nat × HO) := [(0, .lst m.want)]
theorem pre_a (hC : CxOk c) (hK : c.K = KK c) (G : GL c) (hc : c.calm = true) (ns : List Int) (oct : Bool) (ho : (ns.sum.fmod 2 == 1) = oct) :
    Exs c SL 0 (LB.take 10) ⟨[(key "script", .d (.lst (ns.map .int)))], []⟩ .next ⟨lA oct ns.sum (ns.map .int), []⟩ := by
  dsimp only [LB, nthBody, PySem.Challenge.pw_kq0015_04, List.drop, List.take]
  refine exs_cons (asg (ev_callb (gl hC G.sum) (evs_cons nm evs_nil) (f_sum hc rfl))) ?_
  refine exs_cons (asg (X := .d (.bool oct)) (ev_is (ev_cmp (ev_binop nm ev_int (b_mod (by decide))) ev_int c_eq) (by rw [ho]))) ?_
  refine exs_pre (σ₁ := ⟨[(key "octets", .d (.bool oct)), (key "total", .d (.int ns.sum)), (key "script", .d (.lst (ns.map .int)))], []⟩) (sub_pick (by kernel_rfl)) ?_
  refine as1 (X := .d (.str (ownOf oct))) (ev_ite (ts_plain nm t_bool) (fun q => ev_is ev_str (by rw [q]; kernel_rfl)) (fun q => ev_is ev_str (by rw [q]; kernel_rfl))) ?_
  refine as1 (X := .d (.str (othOf oct))) (ev_ite (ts_plain nm t_bool) (fun q => ev_is ev_str (by rw [q]; kernel_rfl)) (fun q => ev_is ev_str (by rw [q]; kernel_rfl))) ?_
  refine as1 (X := .d (.str M_L)) ev_str ?_
  refine exs_pre (σ₁ := ⟨[(key "foreign", .d (.str M_L)), (key "other", .d (.str (othOf oct))), (key "own", .d (.str (ownOf oct))), (key "octets", .d (.bool oct)), (key "total", .d (.int ns.sum)), (key "script", .d (.lst (ns.map .int)))], []⟩) (sub_pick (by kernel_rfl)) ?_
  refine exs_cons (σ₁ := ⟨[(key "foreign", .d (.str (M_for (!oct)))), (key "other", .d (.str (othOf oct))), (key "own", .d (.str (ownOf oct))), (key "octets", .d (.bool oct)), (key "total", .d (.int ns.sum)), (key "script", .d (.lst (ns.map .int)))], []⟩) (if_any (ts_plain nm t_bool) (fun q => ?a) (fun q => ?b)) ?_
  case a => exact exs_cons (ex_sub (asg (X := .d (.str (M_for (!oct)))) (ev_is ev_str (by rw [q]; kernel_rfl))) (sub_pick (by kernel_rfl))) exs_nil
  case b => rw [show M_for (!oct) = M_L by rw [q]; rfl]; exact exs_nil
  refine as1 (X := .d (.str M_cl)) ev_str ?_
  refine as1 (X := .d (.str M_tw)) ev_str ?_
  refine as1 (X := .d (.str M_off)) ev_str ?_
  refine as1 (X := .d (.dct bits7)) ?ev1 ?_
  case ev1 =>
    with_reducible refine ev_dict hC ?h1 ?a1 ?b1 ?c1
    case h1 => exact (.cons ev_str ev_int (.cons ev_str ev_int (.cons ev_str ev_int (.cons ev_str ev_int (.cons ev_str ev_int (.cons ev_str ev_int (.cons ev_str ev_int .nil)))))))
    case a1 => decide +kernel
    case b1 => simp
    case c1 => exact (Nat.le_of_ble_eq_true rfl)
  exact exs_pre (sub_pick (by kernel_rfl)) exs_nil
theorem pre_b (hC : CxOk c) (hK : c.K = KK c) (G : GL c) (hc : c.calm = true) (oct : Bool) (total : Int) (ns : List Int) (hl : ns.length ≤ 63) :
    Exs c SL 0 ((LB.drop 10).take 8) ⟨lA oct total (ns.map .int), []⟩ .next ⟨lM oct total (numC ns) ⟨[], total.fmod 512, []⟩, hM ⟨[], total.fmod 512, []⟩⟩ := by
  have tk : sliceD (ns.map D.int) none (some 24) none = (ns.take 24).map .int := by rw [show (24 : Int) = ((24 : Nat) : Int) from rfl, slice_takeL, List.map_take]
  have ml : (ns.take 24).length ≤ 24 := by rw [List.length_take]; lia
  dsimp only [LB, nthBody, PySem.Challenge.pw_kq0015_04, List.drop, List.take]
  refine as1 (X := .d (.lst ((kindsC oct).map kindD))) ?ev1 ?_
  case ev1 =>
    with_reducible refine ev_const (env := fun x => getD? x [("own", .str (ownOf oct)), ("other", .str (othOf oct)), ("clash", .str M_cl), ("foreign", .str (M_for (!oct)))]) ?h1 4 ?h2
    case h1 => exact env_cons (fun p => nm) (env_cons (fun p => nm) (env_cons (fun p => nm) (env_cons (fun p => nm) env_nil)))
    case h2 => cases oct <;> kernel_rfl
  refine as1 (X := .d (.lst (closC.map closD))) ?ev2 ?_
  case ev2 =>
    with_reducible refine ev_const (env := fun x => getD? x [("turned", .str M_off)]) ?h1 4 ?h2
    case h1 => exact env_cons (fun p => nm) env_nil
    case h2 => kernel_rfl
  refine as1 (ev_bi nm ev_int (b_mod (by decide))) ?_
  refine as1 nm ?_
  refine as1 (X := .d (wdD [])) (ev_is ev_str (by kernel_rfl)) ?_
  refine exs_cons (ex_newlist (i := 0) (ds := []) (by kernel_rfl) evs_nil (fresh_of (by decide) (by decide) rfl (by rfl))) ?_
  refine as1 (X := .d (.lst ((numC ns).map .int))) ?ev3 ?_
  case ev3 =>
    refine ev_or (b := !((ns.take 24).map D.int).isEmpty) (ev_is (ev_slice_list nm ⟨rfl, rfl⟩ ⟨24, rfl, ev_int⟩ ⟨rfl, rfl⟩ (by decide) (by rw [List.length_map]; lia)) (by rw [tk])) (t_lst (by rw [List.length_map]; lia)) (fun q => ⟨?x, rfl⟩) (fun q => ?y)
    case x =>
      unfold numC
      cases e : ns.take 24 with
      | nil => rw [e] at q; cases q
      | cons a l => rw [if_neg (by simp)]
    case y =>
      unfold numC
      cases e : ns.take 24 with
      | nil => rw [if_pos rfl]; exact ev_or1 (ev_list (evs_cons ev_int evs_nil) op_list)
      | cons a l => rw [e] at q; cases q
  have nl : (numC ns).length ≤ 24 := by unfold numC; split; exact (by decide : 1 ≤ 24); exact ml
  refine as1 (X := .d (.int (numC ns).length)) (ev_is (ev_callb (gl hC G.len) (evs_cons nm evs_nil) (f_len_lst (by rw [List.length_map]; lia))) (by rw [List.length_map])) ?_
  exact exs_pre (sub_pick (by kernel_rfl)) exs_nil
end
end Mine
namespace Mine
open PySem PySem.W PyProof.Rows PySem.Calls PySem.Spec
noncomputable def CB : List Stmt := forBody LB 18
noncomputable def OB : List Stmt := forBody CB 10
noncomputable def RB : List Stmt := forBody CB 14
noncomputable def neB (w : List Nat) : Bool := decide (w ≠ [])
noncomputable def neS (s : Str) : Bool := ((s.length : Int) != 0)
noncomputable def plainC : List (List Nat) := [[105], [109, 109], [115, 120], [120, 105, 115], []]
noncomputable def signC : List (List Nat) := [[98], [10], [92, 40], [63]]
noncomputable def sm (i : Int) : Prop := 0 ≤ i ∧ i < 10 ^ 10
noncomputable def sh2 (P M : Int) : Str := (PyData.tuple [.int P, .int M]).shown
noncomputable abbrev sgI (s : List Nat) (fl : Int) : D := .tup [wdD s, .int fl]
structure Out where
  it : D
  held : Int
  re : List (List Nat)
noncomputable def outC (kd : Kd) (cl : Cl) (ah : Bool) (w : List Nat) (len : Nat) (held : Int) : Out :=
  if neS kd.why = true then ⟨.tup [.str kd.why, .int (((len + 2 + (if ah = true then kd.ty.length else w.length) : Nat) : Int)), .int held], held, sgGo [] (w.drop (if ah = true then kd.ty.length else w.length) ++ cl.cl)⟩ else
  if neS cl.fa = true then ⟨.tup [.str cl.fa, .int (((len + 2 + w.length : Nat) : Int) + cl.pl), .int held], held, cl.re⟩ else
  if (wd cl.cl == ")") = true then ⟨.tup [.str "None", .int (Builtin.bitOr held (orB w 0))], Builtin.bitOr held (orB w 0), cl.re⟩ else
  if (Builtin.bitAnd (orB w 0) cl.off != 0) = true then ⟨.tup [.str M_tw, .int (((len + 2 + w.length : Nat) : Int) + (cl.cl.length : Int) - 1), .int held], held, cl.re⟩ else
  ⟨.tup [.str (sh2 (orB w 0) cl.off), .int held], held, cl.re⟩
noncomputable def wrdC (kd : Kd) (cl : Cl) (ah : Bool) (pl : List Nat) : List Nat :=
  let w0 := if ah = true then kd.ty ++ pl else pl ++ kd.ty
  if (!neB w0 && (ch1 (cl.cl.getD 0 0) != "-")) = true then [115] else w0
structure GrpOk (kd : Kd) (cl : Cl) (w : List Nat) : Prop where
  ty : kd.ty.length ≤ 3
  tw : kd.ty.length ≤ w.length
  w7 : ∀ x ∈ w, x ∈ sevenL
  wl : w.length ≤ 6
  cl5 : cl.cl.length ≤ 5
  why : kd.why.length ≤ 100
  fa : cl.fa.length ≤ 100
  off : sm cl.off
  re : cl.re.length ≤ 2
section
variable {c : Cx} {n : Nat} {σ : St} {oct ah : Bool} {total : Int} {ns : List Int} {m : MS} {kd : Kd} {cl : Cl} {w : List Nat} {v b cc : Int} {k : Nat}
theorem nfb' {b : Bool} (h : b = false) : ¬ b = true := by rw [h]; exact Bool.false_ne_true
theorem t_w {w : List Nat} (hw : w.length ≤ 1000) {σ : St} : Tr c n (.d (wdD w)) σ (neB w) := by
  have e : neB w = (((wd w).length : Int) != 0) := by
    unfold neB
    rw [wd_len]
    cases w <;> simp
    lia
  rw [e]
  exact t_str (by rw [wd_len]; exact Nat.le_trans hw (by decide))
theorem t_s {s : Str} (h : s.length ≤ 1000) {σ : St} : Tr c n (.d (.str s)) σ (neS s) := t_str (Nat.le_trans h (by decide))
theorem i_w {w1 w2 : List Nat} (a1 : w1.length ≤ 4000) (a2 : w2.length ≤ 100) {σ : St} : Op2 c n (inplaceOp .Add) (.d (wdD w1)) (.d (wdD w2)) σ (.d (wdD (w1 ++ w2))) σ := by
  show Op2 c n (inplaceOp .Add) (.d (.str (wd w1))) (.d (.str (wd w2))) σ (.d (.str (wd (w1 ++ w2)))) σ
  rw [wd_app]
  exact i_adds (Nat.le_trans (show _ ≤ 5000 by rw [wd_len, wd_len]; lia) (by decide))
theorem b_w {w1 w2 : List Nat} (a1 : w1.length ≤ 4000) (a2 : w2.length ≤ 4000) {σ : St} : Op2 c n (binaryOp .Add) (.d (wdD w1)) (.d (wdD w2)) σ (.d (wdD (w1 ++ w2))) σ := by
  show Op2 c n (binaryOp .Add) (.d (.str (wd w1))) (.d (.str (wd w2))) σ (.d (.str (wd (w1 ++ w2)))) σ
  rw [wd_app]
  exact b_adds (Nat.le_trans (show _ ≤ 8000 by rw [wd_len, wd_len]; lia) (by decide))
theorem ln_w {w : List Nat} (h : w.length ≤ 5000) {σ : St} : OpN c n (fun vs => call (.builtin "len") vs) [.d (wdD w)] σ (.d (.int w.length)) σ := by
  have z := f_len_str (c := c) (n := n) (σ := σ) (x := wd w) (by rw [wd_len]; lia)
  rw [wd_len] at z
  exact z
theorem bits_at {x : Nat} (hx : x ∈ sevenL) : getD? (ch1 x) bits7 = some (.int (flg x)) := by
  simp only [sevenL, List.mem_cons, List.not_mem_nil, or_false] at hx
  rcases hx with rfl | rfl | rfl | rfl | rfl | rfl | rfl <;> kernel_rfl
theorem sm_int {i : Int} (h : sm i) : Sm 100 (.int i) := Sm.int h.1 h.2 (by decide)
theorem rp2 {a b : Int} {σ : St} {n : Nat} (hn : n ≤ 100) (h1 : sm a) (h2 : sm b) : OpN c n (fun vs => call (.builtin "repr") vs) [.d (.tup [.int a, .int b])] σ (.d (.str (sh2 a b))) σ := by
  refine f_repr hn (p := .tuple [.int a, .int b]) (k := 300) (.tup (.cons (.leaf (.int _)) (.cons (.leaf (.int _)) .nil))) (Sm.tup (k := 100) (fun p hp => ?_) (Nat.le_of_ble_eq_true rfl)) (by decide)
  rcases List.mem_cons.mp hp with rfl | hp
  · exact ⟨sm_int h1, Nat.zero_le _⟩
  · rw [List.mem_singleton.mp hp]; exact ⟨sm_int h2, Nat.zero_le _⟩
theorem or_lt : ∀ (w : List Nat) (a : Int), 0 ≤ a ∧ a < 512 → 0 ≤ orB w a ∧ orB w a < 512
  | [], _, h => h
  | x :: xs, a, h => or_lt xs _ (or_flg h)
theorem sm_or {w : List Nat} : sm (orB w 0) := ⟨(or_lt w 0 (by decide)).1, Int.lt_trans (or_lt w 0 (by decide)).2 (by decide)⟩
noncomputable abbrev lT (oct : Bool) (total : Int) (ns : List Int) (m : MS) (k : Nat) (v b cc : Int) : List (Nat × V) := (key "c", .d (.int cc)) :: (key "b", .d (.int b)) :: (key "v", .d (.int v)) :: (key "k", .d (.int k)) :: lM oct total ns m
theorem g_head (hN : 0 < ns.length) (hl : ns.length ≤ 24) {bn cn : Nat} (h1 : ((k : Int) + 1).fmod ns.length = (bn : Int)) (h2 : ((k : Int) + 2).fmod ns.length = (cn : Int)) (hb : ns[bn]? = some b) (hc2 : ns[cn]? = some cc) :
    Exs c SL 0 (CB.take 2) ⟨(key "v", .d (.int v)) :: (key "k", .d (.int k)) :: lM oct total ns m, hM m⟩ .next ⟨lT oct total ns m k v b cc, hM m⟩ := by
  have bl : bn < ns.length := (List.getElem?_eq_some_iff.mp hb).1
  have cl : cn < ns.length := (List.getElem?_eq_some_iff.mp hc2).1
  dsimp only [CB, LB, nthBody, PySem.Challenge.pw_kq0015_04, forBody, List.drop, List.take]
  refine as1 (X := .d (.int b)) (ev_sub nm (ev_is (ev_bi (ev_bi nm ev_int b_add) nm (b_mod (by lia))) (by rw [h1])) (op_item_map (f := .int) hb (by lia))) ?_
  refine as1 (X := .d (.int cc)) (ev_sub nm (ev_is (ev_bi (ev_bi nm ev_int b_add) nm (b_mod (by lia))) (by rw [h2])) (op_item_map (f := .int) hc2 (by lia))) ?_
  exact exs_nil
theorem g_sign {bn : Nat} (hb : b.fmod 4 = (bn : Int)) (h4 : bn < 4) (hv : (v.fmod 4 == 0) = true) (ht : m.text.length ≤ 900) (hw : m.want.length ≤ 900) :
    Exs c SL 0 (CB.drop 2) ⟨lT oct total ns m k v b cc, hM m⟩ .cont ⟨lM oct total ns ⟨m.text ++ signC.getD bn [], m.held, m.want ++ [sgI (signC.getD bn []) m.held]⟩, hM ⟨m.text ++ signC.getD bn [], m.held, m.want ++ [sgI (signC.getD bn []) m.held]⟩⟩ := by
  have hs : signC[bn]? = some (signC.getD bn []) := by rw [List.getD_eq_getElem?_getD, List.getElem?_eq_getElem (show bn < signC.length from h4)]; rfl
  have hsl : ∀ K ∈ signC, K.length ≤ 2 := by decide
  have hl : (signC.getD bn []).length ≤ 2 := hsl _ (List.mem_of_getElem? hs)
  dsimp only [CB, LB, nthBody, PySem.Challenge.pw_kq0015_04, forBody, List.drop]
  refine exs_stop (if_t (ts_is (ts_cmp (ev_bi nm ev_int (b_mod (by decide))) ev_int c_eq) hv) ?_)
  refine as1 (X := .d (wdD (signC.getD bn []))) ?ev ?_
  case ev =>
    with_reducible refine ev_sub (X := .d (.lst (signC.map wdD))) (Y := .d (.int (bn : Int))) (σ₁ := ⟨lT oct total ns m k v b cc, hM m⟩) (σ₂ := ⟨lT oct total ns m k v b cc, hM m⟩) ?g1 ?g2 ?g3
    case g1 =>
      with_reducible refine ev_const (env := fun _ => none) (fun _ _ _ h => nomatch h) 3 ?i1
      case i1 => kernel_rfl
    case g2 => exact ev_is (ev_bi nm ev_int (b_mod (by decide))) (by rw [hb])
    case g3 => exact op_item_map (f := wdD) hs (by lia)
  refine exs_cons (σ₁ := St.set (St.set ⟨lT oct total ns m k v b cc, hM m⟩ "sign" (.d (wdD (signC.getD bn [])))) "text" (.d (wdD (m.text ++ signC.getD bn [])))) (aug nm (i_w (w1 := m.text) (w2 := signC.getD bn []) (by lia) (by lia))) ?_
  refine exs_cons (σ₁ := ⟨lM oct total ns ⟨m.text ++ signC.getD bn [], m.held, m.want ++ [sgI (signC.getD bn []) m.held]⟩, hM ⟨m.text ++ signC.getD bn [], m.held, m.want ++ [sgI (signC.getD bn []) m.held]⟩⟩) (ex_sub (ex_expr (ev_meth nm (getm_lst (i := 0) PySem.F.slot_list_append PySem.F.type_list_append rfl) (evs_cons (ev_tuple (evs_cons nm (evs_cons nm evs_nil)) op_tuple) evs_nil) (op_append rfl (by lia)))) (sub_pick (by kernel_rfl))) ?_
  exact exs_stop ex_cont
end
end Mine
namespace Mine
open PySem PySem.W PyProof.Rows PySem.Calls PySem.Spec
section
variable {c : Cx} {n : Nat} {σ : St} {oct ah : Bool} {total : Int} {ns : List Int} {m : MS} {kd : Kd} {cl : Cl} {w pl : List Nat} {v b cc : Int} {k : Nat}
noncomputable abbrev lG (oct : Bool) (total : Int) (ns : List Int) (m : MS) (kd : Kd) (cl : Cl) (ah : Bool) (w : List Nat) (on : Int) : List (Nat × V) :=
  (key "on", .d (.int on)) :: (key "word", .d (wdD w)) :: (key "ahead", .d (.bool ah)) :: (key "rest", .d (sgD cl.re)) :: (key "place", .d (.int cl.pl)) :: (key "fault", .d (.str cl.fa)) :: (key "off", .d (.int cl.off)) :: (key "close", .d (wdD cl.cl)) :: (key "why", .d (.str kd.why)) :: (key "types", .d (wdD kd.ty)) :: lM oct total ns m
theorem g_parts (hc : c.calm = true) {bn cn vn : Nat} (hv : (v.fmod 4 == 0) = false) (hb : b.fmod 10 = (bn : Int)) (hb2 : bn < 10) (hcc : cc.fmod 20 = (cn : Int)) (hc2 : cn < 20) (hvv : (v.fdiv 4).fmod 5 = (vn : Int)) (hv2 : vn < 5)
    (ha : (((v + b) + cc).fmod 2 == 1) = ah) (hk : (kindsC oct)[bn]? = some kd) (hcl : closC[cn]? = some cl) (hpl : plainC[vn]? = some pl) (h1 : kd.ty.length ≤ 3) (h2 : pl.length ≤ 3) (h3 : 0 < cl.cl.length) (h4 : cl.cl.length ≤ 5) :
    Exs c SL 0 ((CB.drop 2).take 8) ⟨lT oct total ns m k v b cc, hM m⟩ .next ⟨lG oct total ns m kd cl ah (wrdC kd cl ah pl) 0, hM m⟩ := by
  dsimp only [CB, LB, nthBody, PySem.Challenge.pw_kq0015_04, forBody, List.drop, List.take]
  refine exs_cons (if_f (ts_is (ts_cmp (ev_bi nm ev_int (b_mod (by decide))) ev_int c_eq) hv) exs_nil) ?_
  refine as1 (X := .d (wdD pl)) ?ev1 ?_
  case ev1 =>
    with_reducible refine ev_sub (X := .d (.lst (plainC.map wdD))) (Y := .d (.int (vn : Int))) (σ₁ := ⟨lT oct total ns m k v b cc, hM m⟩) (σ₂ := ⟨lT oct total ns m k v b cc, hM m⟩) ?g1 ?g2 ?g3
    case g1 =>
      with_reducible refine ev_const (env := fun _ => none) (fun _ _ _ h => nomatch h) 3 ?i1
      case i1 => kernel_rfl
    case g2 => exact ev_is (ev_bi (ev_bi nm ev_int (b_fdiv (by decide) (PyProof.noPylong_small (by decide)))) ev_int (b_mod (by decide))) (by rw [hvv])
    case g3 => exact op_item_map (f := wdD) hpl (by lia)
  refine exs_cons (σ₁ := St.set (St.set (St.set ⟨lT oct total ns m k v b cc, hM m⟩ "plain" (.d (wdD pl))) "types" (.d (wdD kd.ty))) "why" (.d (.str kd.why))) (ex_asgt (X := .d (kindD kd)) (σ₁ := St.set ⟨lT oct total ns m k v b cc, hM m⟩ "plain" (.d (wdD pl))) ?ev2 (as_tup hc (.cons rfl (as_name (by kernel_rfl)) (.cons rfl (as_name (by kernel_rfl)) .nil)))) ?_
  case ev2 => exact ev_sub nm (ev_is (ev_bi nm ev_int (b_mod (by decide))) (by rw [hb])) (op_item_map (f := kindD) hk (by lia))
  refine exs_pre (σ₁ := ⟨(key "plain", .d (wdD pl)) :: (key "why", .d (.str kd.why)) :: (key "types", .d (wdD kd.ty)) :: lT oct total ns m k v b cc, hM m⟩) (sub_pick (by kernel_rfl)) ?_
  refine exs_cons (σ₁ := ⟨(key "rest", .d (sgD cl.re)) :: (key "place", .d (.int cl.pl)) :: (key "fault", .d (.str cl.fa)) :: (key "off", .d (.int cl.off)) :: (key "close", .d (wdD cl.cl)) :: (key "plain", .d (wdD pl)) :: (key "why", .d (.str kd.why)) :: (key "types", .d (wdD kd.ty)) :: lT oct total ns m k v b cc, hM m⟩)
    (ex_asgt (X := .d (closD cl)) (σ₁ := ⟨(key "plain", .d (wdD pl)) :: (key "why", .d (.str kd.why)) :: (key "types", .d (wdD kd.ty)) :: lT oct total ns m k v b cc, hM m⟩) ?ev3 (as_tup hc (.cons rfl (as_name (by kernel_rfl)) (.cons rfl (as_name (by kernel_rfl)) (.cons rfl (as_name (by kernel_rfl)) (.cons rfl (as_name (by kernel_rfl)) (.cons rfl (as_name (by kernel_rfl)) .nil))))))) ?_
  case ev3 => exact ev_sub nm (ev_is (ev_bi nm ev_int (b_mod (by decide))) (by rw [hcc])) (op_item_map (f := closD) hcl (by lia))
  refine as1 (X := .d (.bool ah)) (ev_is (ev_cmp (ev_bi (ev_bi (ev_bi nm nm b_add) nm b_add) ev_int (b_mod (by decide))) ev_int c_eq) (by rw [ha])) ?_
  refine as1 (X := .d (wdD (if ah = true then kd.ty ++ pl else pl ++ kd.ty))) (ev_it (b := ah) (ts_plain nm t_bool) (fun q => ?x1) (fun q => ?x2)) ?_
  case x1 => rw [if_pos q]; exact ev_bi nm nm (b_w (by lia) (by lia))
  case x2 => rw [if_neg (nfb' q)]; exact ev_bi nm nm (b_w (by lia) (by lia))
  have wl : (if ah = true then kd.ty ++ pl else pl ++ kd.ty).length ≤ 6 := by cases ah <;> (show List.length (_ ++ _) ≤ 6; rw [List.length_append]; lia)
  refine exs_pre (σ₁ := ⟨(key "word", .d (wdD (if ah = true then kd.ty ++ pl else pl ++ kd.ty))) :: (key "ahead", .d (.bool ah)) :: (key "rest", .d (sgD cl.re)) :: (key "place", .d (.int cl.pl)) :: (key "fault", .d (.str cl.fa)) :: (key "off", .d (.int cl.off)) :: (key "close", .d (wdD cl.cl)) :: (key "why", .d (.str kd.why)) :: (key "types", .d (wdD kd.ty)) :: lM oct total ns m, hM m⟩) (sub_pick (by kernel_rfl)) ?_
  unfold wrdC
  dsimp only
  generalize (if ah = true then kd.ty ++ pl else pl ++ kd.ty) = w0 at wl
  refine exs_cons (σ₁ := ⟨(key "word", .d (wdD (if (!neB w0 && (ch1 (cl.cl.getD 0 0) != "-")) = true then [115] else w0))) :: (key "ahead", .d (.bool ah)) :: (key "rest", .d (sgD cl.re)) :: (key "place", .d (.int cl.pl)) :: (key "fault", .d (.str cl.fa)) :: (key "off", .d (.int cl.off)) :: (key "close", .d (wdD cl.cl)) :: (key "why", .d (.str kd.why)) :: (key "types", .d (wdD kd.ty)) :: lM oct total ns m, hM m⟩)
    (if_any (σ₁ := ⟨(key "word", .d (wdD w0)) :: (key "ahead", .d (.bool ah)) :: (key "rest", .d (sgD cl.re)) :: (key "place", .d (.int cl.pl)) :: (key "fault", .d (.str cl.fa)) :: (key "off", .d (.int cl.off)) :: (key "close", .d (wdD cl.cl)) :: (key "why", .d (.str kd.why)) :: (key "types", .d (wdD kd.ty)) :: lM oct total ns m, hM m⟩) (b := !neB w0 && (ch1 (cl.cl.getD 0 0) != "-")) ?ts (fun q => ?y1) (fun q => ?y2)) ?_
  case ts => exact ts_is (b := !neB w0 && ((ch1 (cl.cl.getD 0 0) != "-") && true)) (ts_bool (tss_and (ts_not (ts_plain nm (t_w (by lia)))) (tss_and (ts_cmp (ev_sub nm ev_int (op_item_wd (k := 0) h3 (by lia))) ev_str c_nes) tss_nil))) (by rw [Bool.and_true])
  case y1 => rw [if_pos q]; exact exs_cons (ex_sub (asg (X := .d (wdD [115])) (ev_is ev_str (by kernel_rfl))) (sub_pick (by kernel_rfl))) exs_nil
  case y2 => rw [if_neg (nfb' q)]; exact exs_nil
  refine as1 (X := .d (.int 0)) ev_int ?_
  exact exs_pre (sub_pick (by kernel_rfl)) exs_nil
theorem g_on {p1 : Pos} : ∀ (xs : List Nat) (P : Int), (∀ x ∈ xs, x ∈ sevenL) →
    FL c SL 0 (.Name "letter" p1) OB [] ((xs.map fun a => D.str (ch1 a)).map .d) ⟨lG oct total ns m kd cl ah w P, hM m⟩ .next ⟨lG oct total ns m kd cl ah w (orB xs P), hM m⟩
  | [], _, _ => fl_nil
  | x :: xs, P, hx => by
    have tn : Exs c SL 0 OB ⟨(key "letter", .d (.str (ch1 x))) :: lG oct total ns m kd cl ah w P, hM m⟩ .next ⟨lG oct total ns m kd cl ah w (Builtin.bitOr P (flg x)), hM m⟩ := by
      dsimp only [OB, CB, LB, nthBody, PySem.Challenge.pw_kq0015_04, forBody, List.drop]
      exact exs_cons (ex_sub (aug (ev_sub nm nm (op_get_tab tab_d (bits_at (hx x (.head _))))) i_or) (sub_pick (by kernel_rfl))) exs_nil
    exact fl_cons (fl := .next) (as_name (by kernel_rfl)) tn rfl (g_on xs _ fun y hy => hx y (.tail _ hy))
noncomputable abbrev mT (m : MS) (w : List Nat) (cl : Cl) : MS := { m with text := m.text ++ (([40, 63] ++ w) ++ cl.cl) }
noncomputable abbrev lH (oct : Bool) (total : Int) (ns : List Int) (m : MS) (kd : Kd) (cl : Cl) (ah : Bool) (w : List Nat) : List (Nat × V) := (key "begin", .d (.int ((m.text.length + 2 : Nat) : Int))) :: lG oct total ns (mT m w cl) kd cl ah w (orB w 0)
theorem g_text (hC : CxOk c) (hK : c.K = KK c) (G : GL c) (hc : c.calm = true) (ok : GrpOk kd cl w) (ht : m.text.length ≤ 900) :
    Exs c SL 0 (((CB.drop 2).drop 8).take 3) ⟨lG oct total ns m kd cl ah w 0, hM m⟩ .next ⟨lH oct total ns m kd cl ah w, hM m⟩ := by
  have lo := fun p1 => g_on (c := c) (oct := oct) (ah := ah) (total := total) (ns := ns) (m := m) (kd := kd) (cl := cl) (w := w) (p1 := p1) w 0 ok.w7
  have wl := ok.wl; have c5 := ok.cl5
  dsimp only [CB, LB, nthBody, PySem.Challenge.pw_kq0015_04, forBody, List.drop, List.take]
  refine exs_cons (σ₁ := ⟨lG oct total ns m kd cl ah w (orB w 0), hM m⟩) (ex_for (evIt_str (x := wd w) hc nm) (fl_body (body' := OB) ?fl (by kernel_rfl))) ?_
  case fl => rw [signs_wd]; exact lo _
  refine as1 (X := .d (.int ((m.text.length + 2 : Nat) : Int))) (ev_is (ev_bi (ev_callb (gl hC G.len) (evs_cons nm evs_nil) (ln_w (by lia))) ev_int b_add) (by rfl)) ?_
  refine exs_cons (ex_sub (aug (Z := .d (wdD (m.text ++ (([40, 63] ++ w) ++ cl.cl)))) (ev_bi (X := .d (wdD ([40, 63] ++ w))) (Y := .d (wdD cl.cl)) (ev_bi (X := .d (wdD [40, 63])) (Y := .d (wdD w)) (ev_is ev_str (by kernel_rfl)) nm (b_w (by decide) (by lia))) nm (b_w (by rw [List.length_append]; show 2 + _ ≤ _; lia) (by lia))) (i_w (by lia) (by rw [List.length_append, List.length_append]; show 2 + _ + _ ≤ _; lia))) (sub_pick (by kernel_rfl))) exs_nil
noncomputable abbrev lO (oct : Bool) (total : Int) (ns : List Int) (m : MS) (re : List (List Nat)) : List (Nat × V) := (key "rest", .d (sgD re)) :: lM oct total ns m
noncomputable abbrev mO (m : MS) (w : List Nat) (cl : Cl) (o : Out) : MS := ⟨m.text ++ (([40, 63] ++ w) ++ cl.cl), o.held, m.want ++ [o.it]⟩
theorem app_w {d : D} {l : List (Nat × V)} {m2 : MS} {wn : List D} {p1 p2 p3 p4 : Pos} {x : Expr} (hx : Ev c SL 0 x ⟨l, [(0, .lst wn)]⟩ (.d d) ⟨l, [(0, .lst wn)]⟩) (hl0 : lk (key "want") (St.mk l [(0, .lst wn)]).loc = some (.obj 0)) (h : wn.length ≤ 950) (hn : notStar x = true) (hl : (p2.endLine == p3.line) = true) :
    Ex c SL 0 (.Expr (.Call (.Attribute (.Name "want" p1) "append" p2) [x] [] p3) p4) ⟨l, [(0, .lst wn)]⟩ .next ⟨l, [(0, .lst (wn ++ [d]))]⟩ :=
  ex_expr (ev_meth (ev_name (by kernel_rfl) (by kernel_rfl) hl0) (getm_lst (i := 0) PySem.F.slot_list_append PySem.F.type_list_append rfl) (evs_cons hx evs_nil hn) (op_append rfl (by lia)) hn rfl (mc1 hn hl))
theorem g_chain (hC : CxOk c) (hK : c.K = KK c) (G : GL4 c) (hc : c.calm = true) (ok : GrpOk kd cl w) (ht : m.text.length ≤ 900) (hw : m.want.length ≤ 900) {o : Out} (ho : outC kd cl ah w m.text.length m.held = o) :
    Exs c SL 0 ((((CB.drop 2).drop 8).drop 3).take 1) ⟨lH oct total ns m kd cl ah w, hM m⟩ .next ⟨lO oct total ns (mO m w cl o) o.re, hM (mO m w cl o)⟩ := by
  have wl := ok.wl; have c5 := ok.cl5; have ty3 := ok.ty
  have il : ∀ {x : Str} {p1 p2 p3 : Pos} {u : List Nat} {l : List (Nat × V)} {H : List (Nat × HO)}, isVar (SL.names.lookup x) = true → plainNm x = true → lk (key x) (St.mk l H).loc = some (.d (wdD u)) → u.length ≤ 5000 → Ev c SL 0 (.Call (.Name "len" p1) [.Name x p2] [] p3) ⟨l, H⟩ (.d (.int u.length)) ⟨l, H⟩ := fun h1 h2 h3 h4 => ev_callb (gl hC G.len) (evs_cons (ev_name h1 h2 h3) evs_nil) (ln_w h4)
  dsimp only [CB, LB, nthBody, PySem.Challenge.pw_kq0015_04, forBody, List.drop, List.take]
  unfold outC at ho
  with_reducible refine exs_cons (if_any (σ₁ := ⟨lH oct total ns m kd cl ah w, hM m⟩) (b := neS kd.why) ?t1 (fun q => ?a1) (fun q => ?b1)) exs_nil
  case t1 => exact ts_plain nm (t_s (Nat.le_trans ok.why (by decide)))
  case a1 =>
    rw [if_pos q] at ho
    subst ho
    have sl : (if ah = true then kd.ty.length else w.length) ≤ 6 := by cases ah <;> (simp only [Bool.false_eq_true, if_false, if_true]; lia)
    have hst : (if ah = true then kd.ty.length else w.length) ≤ w.length := by have := ok.tw; cases ah <;> (simp only [Bool.false_eq_true, if_false, if_true]; lia)
    refine as1 (X := .d (.int ((if ah = true then kd.ty.length else w.length : Nat) : Int))) (ev_it (b := ah) (ts_plain nm t_bool) (fun q2 => ?x1) (fun q2 => ?x2)) ?_
    case x1 => rw [if_pos q2]; exact il (by kernel_rfl) (by kernel_rfl) (by repeat (first | with_reducible exact lk1 | with_reducible exact lk3 | with_reducible exact lk6 | with_reducible refine lk4 (by kernel_rfl) ?_ | with_reducible refine lk2 (by kernel_rfl) ?_ | with_reducible refine lk7 (by kernel_rfl) ?_ | with_reducible refine lk5 ?_)) (by lia)
    case x2 => rw [if_neg (nfb' q2)]; exact il (by kernel_rfl) (by kernel_rfl) (by repeat (first | with_reducible exact lk1 | with_reducible exact lk3 | with_reducible exact lk6 | with_reducible refine lk4 (by kernel_rfl) ?_ | with_reducible refine lk2 (by kernel_rfl) ?_ | with_reducible refine lk7 (by kernel_rfl) ?_ | with_reducible refine lk5 ?_)) (by lia)
    generalize (if ah = true then kd.ty.length else w.length) = stop at sl hst
    refine exs_cons (σ₁ := ⟨(key "stop", .d (.int (stop : Int))) :: lH oct total ns m kd cl ah w, [(0, .lst (m.want ++ [.tup [.str kd.why, .int ((m.text.length + 2 + stop : Nat) : Int), .int m.held]]))]⟩) (app_w (m2 := m) (ev_tuple (evs_cons nm (evs_cons (ev_is (ev_bi nm nm b_add) (by rfl)) (evs_cons nm evs_nil))) op_tuple) (by repeat (first | with_reducible exact lk1 | with_reducible exact lk3 | with_reducible exact lk6 | with_reducible refine lk4 (by kernel_rfl) ?_ | with_reducible refine lk2 (by kernel_rfl) ?_ | with_reducible refine lk7 (by kernel_rfl) ?_ | with_reducible refine lk5 ?_)) (by lia) rfl rfl) ?_
    refine as1 (X := .d (sgD (sgGo [] (w.drop stop ++ cl.cl)))) ?ev (exs_pre (sub_pick (by kernel_rfl)) exs_nil)
    case ev =>
      have dl : (w.drop stop ++ cl.cl).length ≤ 11 := by rw [List.length_append, List.length_drop]; lia
      refine ev_callf hC (kp hK (by kernel_rfl)) (gl hC G.sgn) (evs_cons (X := .d (wdD (w.drop stop ++ cl.cl))) (ev_bi (X := .d (wdD (w.drop stop))) (Y := .d (wdD cl.cl)) ?sl nm (b_w (by rw [List.length_drop]; lia) (by lia))) evs_nil) (opn_fn (signs_fn hC hK hc (by decide) rfl (by lia)))
      case sl => exact ev_is (ev_slice_str nm ⟨_, rfl, nm⟩ ⟨rfl, rfl⟩ ⟨rfl, rfl⟩ (by decide) (by rw [slice_from hst, wd_len, List.length_drop]; lia)) (by rw [slice_from hst])
  rw [if_neg (nfb' q)] at ho
  with_reducible refine exs_cons (if_any (σ₁ := ⟨lH oct total ns m kd cl ah w, hM m⟩) (b := neS cl.fa) ?t2 (fun q2 => ?a2) (fun q2 => ?b2)) exs_nil
  case t2 => exact ts_plain nm (t_s (Nat.le_trans ok.fa (by decide)))
  case a2 =>
    rw [if_pos q2] at ho
    subst ho
    exact exs_cons (ex_sub (app_w (m2 := m) (ev_tuple (evs_cons nm (evs_cons (ev_is (ev_bi (ev_bi nm (il (by kernel_rfl) (by kernel_rfl) (by repeat (first | with_reducible exact lk1 | with_reducible exact lk3 | with_reducible exact lk6 | with_reducible refine lk4 (by kernel_rfl) ?_ | with_reducible refine lk2 (by kernel_rfl) ?_ | with_reducible refine lk7 (by kernel_rfl) ?_ | with_reducible refine lk5 ?_)) (by lia)) b_add) nm b_add) (by rfl)) (evs_cons nm evs_nil))) op_tuple) (by repeat (first | with_reducible exact lk1 | with_reducible exact lk3 | with_reducible exact lk6 | with_reducible refine lk4 (by kernel_rfl) ?_ | with_reducible refine lk2 (by kernel_rfl) ?_ | with_reducible refine lk7 (by kernel_rfl) ?_ | with_reducible refine lk5 ?_)) (by lia) rfl rfl) (sub_pick (by kernel_rfl))) exs_nil
  rw [if_neg (nfb' q2)] at ho
  with_reducible refine exs_cons (if_any (σ₁ := ⟨lH oct total ns m kd cl ah w, hM m⟩) (b := wd cl.cl == ")") ?t3 (fun q3 => ?a3) (fun q3 => ?b3)) exs_nil
  case t3 => exact ts_cmp nm ev_str c_eqs
  case a3 =>
    rw [if_pos q3] at ho
    subst ho
    refine exs_cons (aug nm i_or) ?_
    exact exs_cons (ex_sub (app_w (m2 := m) (ev_tuple (evs_cons ev_str (evs_cons nm evs_nil)) op_tuple) (by repeat (first | with_reducible exact lk1 | with_reducible exact lk3 | with_reducible exact lk6 | with_reducible refine lk4 (by kernel_rfl) ?_ | with_reducible refine lk2 (by kernel_rfl) ?_ | with_reducible refine lk7 (by kernel_rfl) ?_ | with_reducible refine lk5 ?_)) (by lia) rfl rfl) (sub_pick (by kernel_rfl))) exs_nil
  rw [if_neg (nfb' q3)] at ho
  with_reducible refine exs_cons (if_any (σ₁ := ⟨lH oct total ns m kd cl ah w, hM m⟩) (b := Builtin.bitAnd (orB w 0) cl.off != 0) ?t4 (fun q4 => ?a4) (fun q4 => ?b4)) exs_nil
  case t4 => exact ts_plain (ev_binop nm nm b_and) t_int
  case a4 =>
    rw [if_pos q4] at ho
    subst ho
    exact exs_cons (ex_sub (app_w (m2 := m) (ev_tuple (evs_cons nm (evs_cons (ev_is (ev_bi (ev_bi (ev_bi nm (il (by kernel_rfl) (by kernel_rfl) (by repeat (first | with_reducible exact lk1 | with_reducible exact lk3 | with_reducible exact lk6 | with_reducible refine lk4 (by kernel_rfl) ?_ | with_reducible refine lk2 (by kernel_rfl) ?_ | with_reducible refine lk7 (by kernel_rfl) ?_ | with_reducible refine lk5 ?_)) (by lia)) b_add) (il (by kernel_rfl) (by kernel_rfl) (by repeat (first | with_reducible exact lk1 | with_reducible exact lk3 | with_reducible exact lk6 | with_reducible refine lk4 (by kernel_rfl) ?_ | with_reducible refine lk2 (by kernel_rfl) ?_ | with_reducible refine lk7 (by kernel_rfl) ?_ | with_reducible refine lk5 ?_)) (by lia)) b_add) ev_int b_sub) (by rfl)) (evs_cons nm evs_nil))) op_tuple) (by repeat (first | with_reducible exact lk1 | with_reducible exact lk3 | with_reducible exact lk6 | with_reducible refine lk4 (by kernel_rfl) ?_ | with_reducible refine lk2 (by kernel_rfl) ?_ | with_reducible refine lk7 (by kernel_rfl) ?_ | with_reducible refine lk5 ?_)) (by lia) rfl rfl) (sub_pick (by kernel_rfl))) exs_nil
  rw [if_neg (nfb' q4)] at ho
  subst ho
  exact exs_cons (ex_sub (app_w (m2 := m) (ev_tuple (evs_cons (ev_callb (gl hC G.repr) (evs_cons (ev_tuple (evs_cons nm (evs_cons nm evs_nil)) op_tuple) evs_nil) (rp2 (by decide) sm_or ok.off)) (evs_cons nm evs_nil)) op_tuple) (by repeat (first | with_reducible exact lk1 | with_reducible exact lk3 | with_reducible exact lk6 | with_reducible refine lk4 (by kernel_rfl) ?_ | with_reducible refine lk2 (by kernel_rfl) ?_ | with_reducible refine lk7 (by kernel_rfl) ?_ | with_reducible refine lk5 ?_)) (by lia) rfl rfl) (sub_pick (by kernel_rfl))) exs_nil
theorem g_rest {p1 : Pos} : ∀ (re : List (List Nat)) (m : MS) {r0 : List (List Nat)}, m.want.length + re.length ≤ 950 →
    FL c SL 0 (.Name "sign" p1) RB [] ((re.map wdD).map .d) ⟨lO oct total ns m r0, hM m⟩ .next ⟨lO oct total ns ⟨m.text, m.held, m.want ++ re.map fun s => sgI s m.held⟩ r0, hM ⟨m.text, m.held, m.want ++ re.map fun s => sgI s m.held⟩⟩
  | [], m, _, _ => by rw [List.map_nil, List.map_nil, List.map_nil, List.append_nil]; exact fl_nil
  | s :: re, m, r0, h => by
    rw [List.length_cons] at h
    have tn : Exs c SL 0 RB ⟨(key "sign", .d (wdD s)) :: lO oct total ns m r0, hM m⟩ .next ⟨lO oct total ns ⟨m.text, m.held, m.want ++ [sgI s m.held]⟩ r0, hM ⟨m.text, m.held, m.want ++ [sgI s m.held]⟩⟩ := by
      dsimp only [RB, CB, LB, nthBody, PySem.Challenge.pw_kq0015_04, forBody, List.drop]
      exact exs_cons (ex_sub (app_w (m2 := m) (ev_tuple (evs_cons nm (evs_cons nm evs_nil)) op_tuple) (by repeat (first | with_reducible exact lk1 | with_reducible exact lk3 | with_reducible exact lk6 | with_reducible refine lk4 (by kernel_rfl) ?_ | with_reducible refine lk2 (by kernel_rfl) ?_ | with_reducible refine lk7 (by kernel_rfl) ?_ | with_reducible refine lk5 ?_)) (by lia) rfl rfl) (sub_pick (by kernel_rfl))) exs_nil
    have ih := g_rest (p1 := p1) re ⟨m.text, m.held, m.want ++ [sgI s m.held]⟩ (r0 := r0) (by rw [List.length_append, List.length_singleton]; lia)
    rw [show m.want ++ (s :: re).map (fun s => sgI s m.held) = (m.want ++ [sgI s m.held]) ++ re.map fun s => sgI s m.held by rw [List.append_assoc]; rfl]
    exact fl_cons (fl := .next) (as_name (by kernel_rfl)) tn rfl ih
end
end Mine
namespace Mine
open PySem PySem.W PyProof.Rows PySem.Calls PySem.Spec
noncomputable def grpM (kd : Kd) (cl : Cl) (ah : Bool) (pl : List Nat) (m : MS) : MS :=
  let w := wrdC kd cl ah pl
  let o := outC kd cl ah w m.text.length m.held
  ⟨m.text ++ (([40, 63] ++ w) ++ cl.cl), o.held, (m.want ++ [o.it]) ++ o.re.map fun s => sgI s o.held⟩
noncomputable def kdAt (oct : Bool) (b : Int) : Kd := (kindsC oct).getD (b.fmod 10).toNat ⟨[], ""⟩
noncomputable def clAt (cc : Int) : Cl := closC.getD (cc.fmod 20).toNat ⟨[], 0, "", 0, []⟩
noncomputable def plAt (v : Int) : List Nat := plainC.getD ((v.fdiv 4).fmod 5).toNat []
noncomputable def sgAt (b : Int) : List Nat := signC.getD (b.fmod 4).toNat []
noncomputable def stepM (oct : Bool) (v b cc : Int) (m : MS) : MS :=
  if (v.fmod 4 == 0) = true then ⟨m.text ++ sgAt b, m.held, m.want ++ [sgI (sgAt b) m.held]⟩ else
  grpM (kdAt oct b) (clAt cc) (((v + b) + cc).fmod 2 == 1) (plAt v) m
noncomputable def atN (ns : List Int) (i : Nat) : Int := ns.getD (i % ns.length) 0
noncomputable def runM (oct : Bool) (ns : List Int) : Nat → List Int → MS → MS
  | _, [], m => m
  | k, v :: vs, m => runM oct ns (k + 1) vs (stepM oct v (atN ns (k + 1)) (atN ns (k + 2)) m)
theorem kinds_all : ∀ oct : Bool, ∀ kd ∈ kindsC oct, (∀ x ∈ kd.ty, x ∈ sevenL) ∧ kd.ty.length ≤ 3 ∧ kd.why.length ≤ 100 := by decide +kernel
theorem cl_all : ∀ cl ∈ closC, 0 < cl.cl.length ∧ cl.cl.length ≤ 5 ∧ cl.fa.length ≤ 100 ∧ (0 ≤ cl.off ∧ cl.off < 10 ^ 10) ∧ cl.re.length ≤ 2 := by decide +kernel
theorem pl_all : ∀ pl ∈ plainC, (∀ x ∈ pl, x ∈ sevenL) ∧ pl.length ≤ 3 := by decide
theorem sg_all : ∀ s ∈ signC, s.length ≤ 2 := by decide
theorem getD_in {α : Type} {l : List α} {d : α} {k : Nat} (h : k < l.length) : l[k]? = some (l.getD k d) ∧ l.getD k d ∈ l := by
  have e : l[k]? = some (l.getD k d) := by rw [List.getD_eq_getElem?_getD, List.getElem?_eq_getElem h]; rfl
  exact ⟨e, List.mem_of_getElem? e⟩
theorem kd_at (oct : Bool) (b : Int) : ∃ k : Nat, b.fmod 10 = (k : Int) ∧ k < 10 ∧ (kindsC oct)[k]? = some (kdAt oct b) ∧ kdAt oct b ∈ kindsC oct := by
  obtain ⟨k, e1, e2⟩ := fmod_at b 10 (by decide)
  have z := getD_in (l := kindsC oct) (d := ⟨[], ""⟩) (show k < (kindsC oct).length from e2)
  unfold kdAt
  rw [show b.fmod 10 = (k : Int) from e1]
  exact ⟨k, rfl, e2, z⟩
theorem cl_at (b : Int) : ∃ k : Nat, b.fmod 20 = (k : Int) ∧ k < 20 ∧ closC[k]? = some (clAt b) ∧ clAt b ∈ closC := by
  obtain ⟨k, e1, e2⟩ := fmod_at b 20 (by decide)
  have z := getD_in (l := closC) (d := ⟨[], 0, "", 0, []⟩) (show k < closC.length from e2)
  unfold clAt
  rw [show b.fmod 20 = (k : Int) from e1]
  exact ⟨k, rfl, e2, z⟩
theorem pl_at (b : Int) : ∃ k : Nat, (b.fdiv 4).fmod 5 = (k : Int) ∧ k < 5 ∧ plainC[k]? = some (plAt b) ∧ plAt b ∈ plainC := by
  obtain ⟨k, e1, e2⟩ := fmod_at (b.fdiv 4) 5 (by decide)
  have z := getD_in (l := plainC) (d := []) (show k < plainC.length from e2)
  unfold plAt
  rw [show (b.fdiv 4).fmod 5 = (k : Int) from e1]
  exact ⟨k, rfl, e2, z⟩
theorem sg_at (b : Int) : ∃ k : Nat, b.fmod 4 = (k : Int) ∧ k < 4 ∧ sgAt b = signC.getD k [] ∧ sgAt b ∈ signC := by
  obtain ⟨k, e1, e2⟩ := fmod_at b 4 (by decide)
  have z := getD_in (l := signC) (d := []) (show k < signC.length from e2)
  unfold sgAt
  rw [show b.fmod 4 = (k : Int) from e1]
  exact ⟨k, rfl, e2, rfl, z.2⟩
section
variable {oct ah : Bool} {kd : Kd} {cl : Cl} {pl w : List Nat} {m : MS}
theorem w_cases : wrdC kd cl ah pl = [115] ∧ kd.ty = [] ∧ pl = [] ∨ wrdC kd cl ah pl = kd.ty ++ pl ∨ wrdC kd cl ah pl = pl ++ kd.ty := by
  unfold wrdC
  dsimp only
  cases q : (!neB (if ah = true then kd.ty ++ pl else pl ++ kd.ty) && (ch1 (cl.cl.getD 0 0) != "-")) with
  | true =>
    rw [if_pos rfl]
    have h1 := (Bool.and_eq_true_iff.mp q).1
    have h0 : (if ah = true then kd.ty ++ pl else pl ++ kd.ty) = [] := by
      have : neB (if ah = true then kd.ty ++ pl else pl ++ kd.ty) = false := by simpa using h1
      exact Classical.not_not.mp (of_decide_eq_false this)
    left
    refine ⟨rfl, ?_⟩
    cases ah with
    | true => have := List.append_eq_nil_iff.mp h0; exact this
    | false => have := List.append_eq_nil_iff.mp h0; exact ⟨this.2, this.1⟩
  | false =>
    rw [if_neg Bool.false_ne_true]
    right
    cases ah with
    | true => exact .inl rfl
    | false => exact .inr rfl
theorem grp_ok (hk : kd ∈ kindsC oct) (hc : cl ∈ closC) (hp : pl ∈ plainC) : GrpOk kd cl (wrdC kd cl ah pl) := by
  obtain ⟨k1, k2, k3⟩ := kinds_all oct kd hk
  obtain ⟨c0, c1, c2, c3, c4⟩ := cl_all cl hc
  obtain ⟨p1, p2⟩ := pl_all pl hp
  have w3 : kd.ty.length ≤ (wrdC kd cl ah pl).length ∧ (∀ x ∈ wrdC kd cl ah pl, x ∈ sevenL) ∧ (wrdC kd cl ah pl).length ≤ 6 := by
    rcases w_cases (kd := kd) (cl := cl) (ah := ah) (pl := pl) with ⟨e, h, _⟩ | e | e
    · rw [e, h]; exact ⟨Nat.zero_le _, by decide, by decide⟩
    · rw [e, List.length_append]; exact ⟨Nat.le_add_right .., fun x hx => (List.mem_append.mp hx).elim (k1 x) (p1 x), by lia⟩
    · rw [e, List.length_append]; exact ⟨Nat.le_add_left .., fun x hx => (List.mem_append.mp hx).elim (p1 x) (k1 x), by lia⟩
  exact ⟨k2, w3.1, w3.2.1, w3.2.2, c1, k3, c2, c3, c4⟩
theorem sgGo_len : ∀ (u : List Nat) (acc : List (List Nat)), (sgGo acc u).length ≤ acc.length + u.length
  | [], acc => Nat.le_refl _
  | a :: u, acc => by
    have z := sgGo_len u (if acc.getLast? = some [92] then acc.dropLast ++ [[92, a]] else acc ++ [[a]])
    have l : (if acc.getLast? = some [92] then acc.dropLast ++ [[92, a]] else acc ++ [[a]]).length ≤ acc.length + 1 := by
      split
      · rw [List.length_append, List.length_dropLast]; show _ + 1 ≤ _; lia
      · rw [List.length_append]; exact Nat.le_refl _
    rw [List.length_cons]
    show (sgGo _ u).length ≤ _
    lia
theorem out_re (ok : GrpOk kd cl w) {len : Nat} {held : Int} : (outC kd cl ah w len held).re.length ≤ 11 := by
  have h1 := ok.re; have h2 := ok.wl; have h3 := ok.cl5
  have c2 : cl.re.length ≤ 11 := Nat.le_trans h1 (by decide)
  unfold outC
  split
  · have z := sgGo_len (w.drop (if ah = true then kd.ty.length else w.length) ++ cl.cl) []
    rw [List.length_append, List.length_drop, List.length_nil] at z
    show (sgGo [] _).length ≤ 11
    lia
  split
  · exact c2
  split
  · exact c2
  split
  · exact c2
  · exact c2
theorem step_len {v b cc : Int} : (stepM oct v b cc m).text.length ≤ m.text.length + 13 ∧ (stepM oct v b cc m).want.length ≤ m.want.length + 12 := by
  unfold stepM
  split
  · obtain ⟨_, _, _, _, h⟩ := sg_at b
    have := sg_all _ h
    exact ⟨by show (m.text ++ sgAt b).length ≤ _; rw [List.length_append]; lia, by show (m.want ++ [_]).length ≤ _; rw [List.length_append]; show _ + 1 ≤ _; lia⟩
  · obtain ⟨_, _, _, _, h1⟩ := kd_at oct b
    obtain ⟨_, _, _, _, h2⟩ := cl_at cc
    obtain ⟨_, _, _, _, h3⟩ := pl_at v
    have ok := grp_ok (ah := ((v + b) + cc).fmod 2 == 1) h1 h2 h3
    unfold grpM
    dsimp only
    generalize wrdC (kdAt oct b) (clAt cc) (((v + b) + cc).fmod 2 == 1) (plAt v) = w at ok
    have z := out_re (ah := ((v + b) + cc).fmod 2 == 1) ok (len := m.text.length) (held := m.held)
    have a := ok.wl; have b' := ok.cl5
    exact ⟨by rw [List.length_append, List.length_append, List.length_append]; show _ + (2 + _ + _) ≤ _; lia, by rw [List.length_append, List.length_append, List.length_map]; show _ + 1 + _ ≤ _; lia⟩
end
section
variable {c : Cx} {oct : Bool} {total : Int} {ns : List Int}
theorem turn_m (hC : CxOk c) (hK : c.K = KK c) (G : GL4 c) (hc : c.calm = true) {m : MS} {k : Nat} {v : Int} (hN : 0 < ns.length) (hl : ns.length ≤ 24) (hk : k < ns.length) (ht : m.text.length ≤ 800) (hw : m.want.length ≤ 800) :
    ∃ fl, Fl.goes fl = true ∧ Exs c SL 0 CB ⟨(key "v", .d (.int v)) :: (key "k", .d (.int k)) :: lM oct total ns m, hM m⟩ fl ⟨lM oct total ns (stepM oct v (atN ns (k + 1)) (atN ns (k + 2)) m), hM (stepM oct v (atN ns (k + 1)) (atN ns (k + 2)) m)⟩ := by
  have fm : ∀ j : Nat, ((k : Int) + (j : Int)).fmod (ns.length : Int) = (((k + j) % ns.length : Nat) : Int) ∧ ns[(k + j) % ns.length]? = some (atN ns (k + j)) := fun j => by
    refine ⟨?_, (getD_in (Nat.mod_lt _ hN)).1⟩
    rw [show (k : Int) + (j : Int) = ((k + j : Nat) : Int) by push_cast; rfl, Int.fmod_eq_emod_of_nonneg _ (by lia)]
    exact (Int.natCast_emod _ _).symm
  obtain ⟨f1, f2⟩ := fm 1
  obtain ⟨f3, f4⟩ := fm 2
  have hd := g_head (c := c) (oct := oct) (total := total) (ns := ns) (m := m) (v := v) (k := k) hN hl f1 f3 f2 f4
  unfold stepM
  generalize atN ns (k + 1) = b at hd
  generalize atN ns (k + 2) = cc at hd
  cases hv : (v.fmod 4 == 0) with
  | true =>
    rw [if_pos rfl]
    obtain ⟨j, e1, e2, e3, _⟩ := sg_at b
    rw [e3]
    exact ⟨.cont, rfl, exs_take (k := 2) hd (g_sign e1 e2 hv (by lia) (by lia))⟩
  | false =>
    rw [if_neg Bool.false_ne_true]
    obtain ⟨bn, b1, b2, b3, b4⟩ := kd_at oct b
    obtain ⟨cn, c1, c2, c3, c4⟩ := cl_at cc
    obtain ⟨vn, v1, v2, v3, v4⟩ := pl_at v
    generalize kdAt oct b = kd at b3 b4
    generalize clAt cc = cl at c3 c4
    generalize plAt v = pl at v3 v4
    obtain ⟨ah, hah⟩ : ∃ a, (((v + b) + cc).fmod 2 == 1) = a := ⟨_, rfl⟩
    rw [hah]
    have ok := grp_ok (ah := ah) b4 c4 v4
    obtain ⟨k1, k2, k3⟩ := kinds_all oct kd b4
    obtain ⟨d0, d1, _⟩ := cl_all cl c4
    obtain ⟨_, p2⟩ := pl_all pl v4
    have a := g_parts (c := c) (total := total) (ns := ns) (m := m) (k := k) hc hv b1 b2 c1 c2 v1 v2 hah b3 c3 v3 k2 p2 d0 d1
    unfold grpM
    dsimp only
    generalize wrdC kd cl ah pl = w at ok a
    have re := out_re (ah := ah) ok (len := m.text.length) (held := m.held)
    have t := g_text (c := c) (oct := oct) (ah := ah) (total := total) (ns := ns) (m := m) hC hK G.toGL hc ok (by lia)
    have ch := g_chain (c := c) (oct := oct) (ah := ah) (total := total) (ns := ns) (m := m) hC hK G hc ok (by lia) (by lia) rfl
    generalize outC kd cl ah w m.text.length m.held = o at re ch
    have lo := fun p1 => g_rest (c := c) (oct := oct) (total := total) (ns := ns) (p1 := p1) o.re (mO m w cl o) (r0 := o.re) (by show (m.want ++ [o.it]).length + _ ≤ _; rw [List.length_append]; show _ + 1 + _ ≤ _; lia)
    refine ⟨.next, rfl, exs_take (k := 2) hd (exs_take (k := 8) a (exs_take (k := 3) t (exs_take (k := 1) ch ?_)))⟩
    dsimp only [CB, LB, nthBody, PySem.Challenge.pw_kq0015_04, forBody, List.drop]
    refine exs_cons (σ₁ := ⟨lO oct total ns ⟨(mO m w cl o).text, (mO m w cl o).held, (mO m w cl o).want ++ o.re.map fun s => sgI s (mO m w cl o).held⟩ o.re, hM ⟨(mO m w cl o).text, (mO m w cl o).held, (mO m w cl o).want ++ o.re.map fun s => sgI s (mO m w cl o).held⟩⟩) (ex_for (evIt_list (l := o.re.map wdD) hc nm) (fl_body (body' := RB) (lo _) (by kernel_rfl))) ?_
    exact exs_pre (sub_pick (by kernel_rfl)) exs_nil
theorem loop_m (hC : CxOk c) (hK : c.K = KK c) (G : GL4 c) (hc : c.calm = true) (hN : 0 < ns.length) (hl : ns.length ≤ 24) {kp : Nat} {p1 p2 p3 : Pos} : ∀ (vs : List Int) (k : Nat) (m : MS), k + vs.length ≤ ns.length → m.text.length + 13 * vs.length ≤ 800 → m.want.length + 12 * vs.length ≤ 800 →
    FL c SL 0 (.Tuple [.Name "k" p1, .Name "v" p2] kp p3) CB [] ((numbered k (vs.map .int)).map .d) ⟨lM oct total ns m, hM m⟩ .next ⟨lM oct total ns (runM oct ns k vs m), hM (runM oct ns k vs m)⟩
  | [], _, _, _, _, _ => fl_nil
  | v :: vs, k, m, hk, ht, hw => by
    rw [List.length_cons] at hk ht hw
    obtain ⟨fl, g1, g2⟩ := turn_m (oct := oct) (total := total) (ns := ns) (m := m) (k := k) (v := v) hC hK G hc hN hl (by lia) (by lia) (by lia)
    obtain ⟨l1, l2⟩ := step_len (oct := oct) (m := m) (v := v) (b := atN ns (k + 1)) (cc := atN ns (k + 2))
    exact fl_cons (as_tup hc (.cons rfl (as_name (by kernel_rfl)) (.cons rfl (as_name (by kernel_rfl)) .nil))) g2 g1 (loop_m hC hK G hc hN hl vs (k + 1) _ (by lia) (by lia) (by lia))
end
end Mine
namespace Mine
open PySem PySem.W PyProof.Rows PySem.Calls PySem.Spec
noncomputable abbrev givS (oct : Bool) (l : List Nat) : D := srcD (!oct) (wd l) (octetsOf (wd l))
noncomputable abbrev givT (oct : Bool) (L0 : List Str) : D := srcD (!oct) (txt L0) (octetsOf (txt L0))
noncomputable def brkT : List (List Nat) := [[], [40, 63, 120, 105], [40, 63, 105, 45], [40, 63, 45, 115]]
noncomputable def brkC : List Str := ["", M_1, M_2, M_3]
noncomputable def brkMS (q : Nat) (m : MS) : MS := if ((q : Int) != 0) = true then ⟨m.text ++ brkT.getD q [], m.held, m.want ++ [.tup [.str (brkC.getD q ""), .int ((m.text ++ brkT.getD q []).length : Int), .int m.held]]⟩ else m
noncomputable abbrev lW (oct : Bool) (F : List Nat) : List (Nat × V) := [(key "seen", .obj 3), (key "state", .obj 2), (key "source", .obj 1), (key "given", .d (givS oct F)), (key "text", .d (wdD F)), (key "want", .obj 0)]
noncomputable abbrev hW (oct : Bool) (L0 L : List Str) (fl : Int) (T sn : List D) : List (Nat × HO) := [(3, .lst sn), (2, .inst cT (asS fl)), (1, srcH oct L0 L), (0, .lst T)]
section
variable {c : Cx} {n : Nat} {σ : St} {oct : Bool} {total : Int} {ns : List Int} {m : MS} {F : List Nat} {L0 : List Str}
theorem f_len_tup {ds : List D} (hl : ds.length ≤ 1000000) : OpN c n (fun vs => call (.builtin "len") vs) [.d (.tup ds)] σ (.d (.int ds.length)) σ := fun S f F ω s Q E vs R A h => by
  obtain ⟨v, rfl, A1⟩ := A.oneD
  have A := A1
  cases A with
  | @tup a o ws k _ hz hoc hod hds =>
    have e : (ws.toArray.size : Int) = ds.length := by rw [List.size_toArray, hds.length]
    exact PyProof.Rows.len_tuple ⟨o, R.fz hz, hoc, k, hod⟩ (by lia) (by rw [e]; exact h ω _ _ (.refl ..) R.toks (.d (.int _ _)))
theorem pre_c (hC : CxOk c) (hK : c.K = KK c) (G : GL4 c) (hc : c.calm = true) (hN : 0 < ns.length) (hl : ns.length ≤ 24) :
    Exs c SL 0 ((LB.drop 18).take 1) ⟨lM oct total ns ⟨[], total.fmod 512, []⟩, hM ⟨[], total.fmod 512, []⟩⟩ .next ⟨lM oct total ns (runM oct ns 0 ns ⟨[], total.fmod 512, []⟩), hM (runM oct ns 0 ns ⟨[], total.fmod 512, []⟩)⟩ := by
  have lo := fun kp p1 p2 p3 => loop_m (c := c) (oct := oct) (total := total) (ns := ns) (kp := kp) (p1 := p1) (p2 := p2) (p3 := p3) hC hK G hc hN hl ns 0 ⟨[], total.fmod 512, []⟩ (by lia) (by show 0 + _ ≤ _; lia) (by show 0 + _ ≤ _; lia)
  generalize runM oct ns 0 ns ⟨[], total.fmod 512, []⟩ = m9 at lo
  dsimp only [LB, nthBody, PySem.Challenge.pw_kq0015_04, List.drop, List.take]
  exact exs_cons (ex_for (evIt_enum_list hc (gl hC G.enum) nm) (fl_body (body' := CB) (lo _ _ _ _) (by kernel_rfl))) exs_nil
theorem pre_e (hC : CxOk c) (hK : c.K = KK c) (G : GL4 c) (hc : c.calm = true) {q : Nat} (hq : (total.fdiv 2).fmod 4 = (q : Int)) (h4 : q < 4) (ht : m.text.length ≤ 900) (hw : m.want.length ≤ 900) :
    Exs c SL 0 (((LB.drop 18).drop 1).take 2) ⟨lM oct total ns m, hM m⟩ .next ⟨lM oct total ns (brkMS q m), hM (brkMS q m)⟩ := by
  have hs : brkT[q]? = some (brkT.getD q []) := (getD_in h4).1
  have hs2 : brkC[q]? = some (brkC.getD q "") := (getD_in h4).1
  have hall : ∀ K ∈ brkT, K.length ≤ 4 := by decide
  have hsl := hall _ (List.mem_of_getElem? hs)
  dsimp only [LB, nthBody, PySem.Challenge.pw_kq0015_04, List.drop, List.take]
  refine as1 (X := .d (.int (q : Int))) (ev_is (ev_bi (ev_bi nm ev_int (b_fdiv (by decide) (PyProof.noPylong_small (by decide)))) ev_int (b_mod (by decide))) (by rw [hq])) ?_
  unfold brkMS
  generalize brkT.getD q [] = bt at hs hsl
  generalize brkC.getD q "" = bm at hs2
  with_reducible refine exs_cons (if_any (σ₁ := ⟨(key "broken", .d (.int (q : Int))) :: lM oct total ns m, hM m⟩) (b := ((q : Int) != 0)) ?t1 (fun z => ?a1) (fun z => ?b1)) exs_nil
  case t1 => exact ts_plain nm t_int
  case b1 => rw [if_neg (nfb' z)]; exact exs_pre (sub_pick (by kernel_rfl)) exs_nil
  case a1 =>
    rw [if_pos z]
    refine exs_cons (σ₁ := St.set ⟨(key "broken", .d (.int (q : Int))) :: lM oct total ns m, hM m⟩ "text" (.d (wdD (m.text ++ bt)))) (aug ?e1 (i_w (w1 := m.text) (w2 := bt) (by lia) (by lia))) ?_
    case e1 =>
      with_reducible refine ev_sub (X := .d (.lst (brkT.map wdD))) (Y := .d (.int (q : Int))) (σ₁ := ⟨(key "broken", .d (.int (q : Int))) :: lM oct total ns m, hM m⟩) (σ₂ := ⟨(key "broken", .d (.int (q : Int))) :: lM oct total ns m, hM m⟩) ?g1 ?g2 ?g3
      case g1 =>
        with_reducible refine ev_const (env := fun _ => none) (fun _ _ _ h => nomatch h) 3 ?i1
        case i1 => kernel_rfl
      case g2 => exact nm
      case g3 => exact op_item_map (f := wdD) hs (by lia)
    refine exs_pre (σ₁ := ⟨(key "broken", .d (.int (q : Int))) :: lM oct total ns { m with text := m.text ++ bt }, hM m⟩) (sub_pick (by kernel_rfl)) ?_
    refine exs_cons (ex_sub (app_w (m2 := m) (ev_tuple (evs_cons (X := .d (.str bm)) ?e2 (evs_cons (ev_callb (gl hC G.len) (evs_cons nm evs_nil) (ln_w (by rw [List.length_append]; lia))) (evs_cons nm evs_nil))) op_tuple) (by repeat (first | with_reducible exact lk1 | with_reducible exact lk3 | with_reducible exact lk6 | with_reducible refine lk4 (by kernel_rfl) ?_ | with_reducible refine lk2 (by kernel_rfl) ?_ | with_reducible refine lk7 (by kernel_rfl) ?_ | with_reducible refine lk5 ?_)) (by lia) rfl rfl) (sub_pick (by kernel_rfl))) exs_nil
    case e2 =>
      with_reducible refine ev_sub (X := .d (.lst (brkC.map .str))) (Y := .d (.int (q : Int))) (σ₁ := ⟨(key "broken", .d (.int (q : Int))) :: lM oct total ns { m with text := m.text ++ bt }, hM m⟩) (σ₂ := ⟨(key "broken", .d (.int (q : Int))) :: lM oct total ns { m with text := m.text ++ bt }, hM m⟩) ?g1 ?g2 ?g3
      case g1 =>
        with_reducible refine ev_const (env := fun _ => none) (fun _ _ _ h => nomatch h) 3 ?i1
        case i1 => kernel_rfl
      case g2 => exact nm
      case g3 => exact op_item_map (f := .str) hs2 (by lia)
theorem pre_t (hC : CxOk c) (hK : c.K = KK c) (G : GL4 c) (hc : c.calm = true) (hN : ∀ s ∈ L0, IsTok s) (hT : txt L0 = wd m.text) (hl : Lat (txt L0)) (h0 : 0 < lenL L0) (h1 : lenL L0 ≤ 4000) :
    Exs c SL 0 ((((LB.drop 18).drop 1).drop 2).take 5) ⟨lM oct total ns m, hM m⟩ .next ⟨lW oct m.text, hW oct L0 L0 (total.fmod 512) m.want []⟩ := by
  dsimp only [LB, nthBody, PySem.Challenge.pw_kq0015_04, List.drop, List.take]
  refine exs_cons (asg (X := .d (givS oct m.text)) (ev_given (t := wd m.text) hC G.toGL hc (by rw [← hT]; exact hl) (by rw [← hT, txt_len]; lia) (by repeat (first | with_reducible exact lk1 | with_reducible exact lk3 | with_reducible exact lk6 | with_reducible refine lk4 (by kernel_rfl) ?_ | with_reducible refine lk2 (by kernel_rfl) ?_ | with_reducible refine lk7 (by kernel_rfl) ?_ | with_reducible refine lk5 ?_)) (by repeat (first | with_reducible exact lk1 | with_reducible exact lk3 | with_reducible exact lk6 | with_reducible refine lk4 (by kernel_rfl) ?_ | with_reducible refine lk2 (by kernel_rfl) ?_ | with_reducible refine lk7 (by kernel_rfl) ?_ | with_reducible refine lk5 ?_)) (by kernel_rfl))) ?_
  refine exs_cons (new_src (i := 1) (oct := oct) (L := L0) hC hK G.toGL hc (by decide) hN hl h0 h1 (ev_is (nm (X := .d (givS oct m.text))) (by rw [hT])) (fresh_of (by decide) (by decide) rfl (by rfl))) ?_
  refine exs_cons (new_sta (i := 2) hC hK G.toGL hc (by decide) (fresh_of (by decide) (by decide) rfl (by rfl))) ?_
  refine exs_cons (ex_setattr (i := 2) (C := cT) (as := asN) hC (k_set hK (by decide)) nm nm lk_head (by show (5 : Nat) ≤ 900; decide)) ?_
  refine exs_cons (ex_newlist (i := 3) (ds := []) (by kernel_rfl) evs_nil (fresh_of (by decide) (by decide) rfl (by rfl))) ?_
  exact exs_pre (sub_pick (by kernel_rfl)) exs_nil
end
end Mine
namespace Mine
open PySem PySem.W PyProof.Rows PySem.Calls PySem.Spec
noncomputable def EB : List Stmt := forBody LB 26
noncomputable def ET : Expr := match LB.drop 26 with
  | .While t _ _ _ :: _ => t
  | _ => default
noncomputable def TRB : List Stmt := ifBody EB 1
noncomputable def nfl (start : Int) : Option Int → Int
  | none => start
  | some a => Builtin.bitOr start a
noncomputable abbrev sgT (s : Str) (fl : Int) : D := .tup [.str s, .int fl]
section
variable {c : Cx} {n : Nat} {σ : St} {oct : Bool} {total fl : Int} {Fl F : List Nat} {L0 L L2 pre pre2 : List Str} {T sn : List D} {m s f : Str} {loc : List (Nat × V)}
theorem hW_is : Hs 1 (!oct) (givT oct L0) (txt L0) (hW oct L0 [] fl T sn) L = hW oct L0 L fl T sn := rfl
theorem get04 (hC : CxOk c) (hK : c.K = KK c) (G : GL c) (hc : c.calm = true) (h1 : lenL L0 ≤ 4000) (hN : ∀ s ∈ L0, IsTok s) (hL : L0 = pre ++ s :: L) :
    FnN c 0 80 [.obj 1] ⟨loc, hW oct L0 (s :: L) fl T sn⟩ (.d (.str s)) ⟨loc, hW oct L0 L fl T sn⟩ := by
  have tk := (toks_ok hN).1
  have z := get_more (c := c) (n := 0) (i := 1) (loc := loc) (b := !oct) (src := givT oct L0) (t := txt L0) (H0 := hW oct L0 [] fl T sn) (s := s) (L := L) hC hK G.toG1 hc (by decide) (by rw [txt_len]; lia) rfl (tok_suffix (pre := pre) (by rw [← hL]; exact tk))
  rw [hW_is, hW_is] at z
  exact z
theorem mat04 (hC : CxOk c) (hK : c.K = KK c) (G : GL c) (hc : c.calm = true) (h1 : lenL L0 ≤ 4000) (hN : ∀ s ∈ L0, IsTok s) (hL : L0 = pre ++ s :: L) :
    FnN c 0 73 [.obj 1, .d (.str s)] ⟨loc, hW oct L0 (s :: L) fl T sn⟩ (.d (.bool true)) ⟨loc, hW oct L0 L fl T sn⟩ := by
  have tk := (toks_ok hN).1
  have z := match_more (c := c) (n := 0) (i := 1) (loc := loc) (b := !oct) (src := givT oct L0) (t := txt L0) (H0 := hW oct L0 [] fl T sn) (s := s) (L := L) hC hK G.toG1 hc (by decide) (by rw [txt_len]; lia) rfl (tok_suffix (pre := pre) (by rw [← hL]; exact tk))
  rw [hW_is, hW_is] at z
  exact z
theorem test04 (hC : CxOk c) (hK : c.K = KK c) : Ts c SL 0 ET ⟨lW oct F, hW oct L0 L fl T sn⟩ (!L.isEmpty) ⟨lW oct F, hW oct L0 L fl T sn⟩ := by
  dsimp only [ET, LB, nthBody, PySem.Challenge.pw_kq0015_04, List.drop]
  cases L with
  | nil => exact ts_cmp (ev_attr (i := 1) (C := cT) (as := tokL (!oct) (givT oct L0) (txt L0) []) (d := .none) hC (k_attr hK (by decide)) nm rfl (by kernel_rfl)) ev_none c_isn_nn
  | cons s L => exact ts_cmp (ev_attr (i := 1) (C := cT) (as := tokL (!oct) (givT oct L0) (txt L0) (s :: L)) (d := .str s) hC (k_attr hK (by decide)) nm rfl (by kernel_rfl)) ev_none c_isn_sn
theorem b_head (hC : CxOk c) (hK : c.K = KK c) (G : GL c) (hc : c.calm = true) (h1 : lenL L0 ≤ 4000) (hN : ∀ s ∈ L0, IsTok s) (hL : L0 = pre ++ s :: L) :
    Exs c SL 0 (EB.take 1) ⟨lW oct F, hW oct L0 (s :: L) fl T sn⟩ .next ⟨(key "sign", .d (.str s)) :: lW oct F, hW oct L0 L fl T sn⟩ := by
  dsimp only [EB, LB, nthBody, PySem.Challenge.pw_kq0015_04, forBody, List.drop, List.take]
  exact exs_cons (ex_sub (asg (X := .d (.str s)) (σ₁ := ⟨lW oct F, hW oct L0 L fl T sn⟩) (ev_methf0 hC (kp hK (by kernel_rfl)) nm (getm_inst (i := 1) (C := cT) (as := tokL (!oct) (givT oct L0) (txt L0) (s :: L)) hC (k_get hK) rfl (by kernel_rfl)) (opn_fn (get04 hC hK G hc h1 hN hL)))) (sub_pick (by kernel_rfl))) exs_nil
theorem b_tail (hC : CxOk c) (hK : c.K = KK c) (G : GL c) {a : D} (hs : sn.length ≤ 1000) :
    Exs c SL 0 ((EB.drop 1).drop 1) ⟨(key "sign", .d a) :: lW oct F, hW oct L0 L fl T sn⟩ .next ⟨lW oct F, hW oct L0 L fl T (sn ++ [.tup [a, .int fl]])⟩ := by
  dsimp only [EB, LB, nthBody, PySem.Challenge.pw_kq0015_04, forBody, List.drop]
  exact exs_cons (ex_sub (ex_expr (ev_meth nm (getm_lst (i := 3) PySem.F.slot_list_append PySem.F.type_list_append rfl) (evs_cons (ev_tuple (evs_cons nm (evs_cons (ev_attr (i := 2) (C := cT) (as := asS fl) (d := .int fl) hC (k_attr hK (by decide)) nm rfl (by kernel_rfl)) evs_nil)) op_tuple) evs_nil) (op_append rfl (by lia)))) (sub_pick (by kernel_rfl))) exs_nil
theorem turn_s (hC : CxOk c) (hK : c.K = KK c) (G : GL c) (hc : c.calm = true) (h1 : lenL L0 ≤ 4000) (hN : ∀ s ∈ L0, IsTok s) (hL : L0 = pre ++ s :: L) (hs : sn.length ≤ 1000) (ho : (s == "(") = false) :
    Exs c SL 0 EB ⟨lW oct F, hW oct L0 (s :: L) fl T sn⟩ .next ⟨lW oct F, hW oct L0 L fl T (sn ++ [sgT s fl])⟩ := by
  have m1 : Exs c SL 0 ((EB.drop 1).take 1) ⟨(key "sign", .d (.str s)) :: lW oct F, hW oct L0 L fl T sn⟩ .next ⟨(key "sign", .d (.str s)) :: lW oct F, hW oct L0 L fl T sn⟩ := by
    dsimp only [EB, LB, nthBody, PySem.Challenge.pw_kq0015_04, forBody, List.drop, List.take]
    exact exs_cons (if_f (ts_bool (tss_and_no (ts_is (ts_cmp nm ev_str c_eqs) ho))) exs_nil) exs_nil
  have bt := b_tail (F := F) (L := L) (fl := fl) (oct := oct) (L0 := L0) (T := T) (sn := sn) (a := .str s) hC hK G hs
  with_reducible refine exs_take (k := 1) (b_head hC hK G hc h1 hN hL) ?_
  with_reducible exact exs_take (k := 1) m1 bt
theorem turn_p (hC : CxOk c) (hK : c.K = KK c) (G : GL c) (hc : c.calm = true) (h1 : lenL L0 ≤ 4000) (hN : ∀ s ∈ L0, IsTok s) (hL : L0 = pre ++ ("(" : Str) :: ("?" : Str) :: L) (hs : sn.length ≤ 900) {fl2 : Int} {a : D}
    (ht : Exs c SL 0 TRB ⟨(key "sign", .d (.str "(")) :: lW oct F, hW oct L0 L fl T sn⟩ .next ⟨(key "sign", .d a) :: lW oct F, hW oct L0 L2 fl2 T sn⟩) :
    Exs c SL 0 EB ⟨lW oct F, hW oct L0 (("(" : Str) :: ("?" : Str) :: L) fl T sn⟩ .next ⟨lW oct F, hW oct L0 L2 fl2 T (sn ++ [.tup [a, .int fl2]])⟩ := by
  have hL2 : L0 = (pre ++ [("(" : Str)]) ++ ("?" : Str) :: L := by rw [hL, List.append_assoc]; rfl
  have mt := mat04 (oct := oct) (loc := (key "sign", .d (.str "(")) :: lW oct F) (fl := fl) (T := T) (sn := sn) hC hK G hc h1 hN hL2
  have m1 : Exs c SL 0 ((EB.drop 1).take 1) ⟨(key "sign", .d (.str "(")) :: lW oct F, hW oct L0 (("?" : Str) :: L) fl T sn⟩ .next ⟨(key "sign", .d a) :: lW oct F, hW oct L0 L2 fl2 T sn⟩ := by
    dsimp only [TRB, EB, LB, nthBody, PySem.Challenge.pw_kq0015_04, forBody, ifBody, List.drop] at ht
    dsimp only [EB, LB, nthBody, PySem.Challenge.pw_kq0015_04, forBody, List.drop, List.take]
    refine exs_cons (if_t (ts_bool (tss_and_yes (ts_is (ts_cmp nm ev_str c_eqs) (by kernel_rfl)) (tss_and_yes (ts_plain (ev_methf hC (kp hK (by kernel_rfl)) nm (getm_inst (i := 1) (C := cT) (as := tokL (!oct) (givT oct L0) (txt L0) (("?" : Str) :: L)) hC (k_match hK) rfl (by kernel_rfl)) (evs_cons ev_str evs_nil) (opn_fn mt)) t_bool) tss_nil))) ht) exs_nil
  have bt := b_tail (F := F) (L := L2) (fl := fl2) (oct := oct) (L0 := L0) (T := T) (sn := sn) (a := a) hC hK G (by lia)
  with_reducible refine exs_take (k := 1) (b_head hC hK G hc h1 hN hL) ?_
  with_reducible exact exs_take (k := 1) m1 bt
theorem pk04 (hC : CxOk c) (hK : c.K = KK c) (hPr : c.prog = PRG) (G : GL c) (hc : c.calm = true) (h1 : lenL L0 ≤ 4000) : PK c 1 1 (!oct) (givT oct L0) (txt L0) (hW oct L0 [] fl T sn) :=
  ⟨hC, hK, hPr, G.toG3, hc, by decide, by rw [txt_len]; lia, ⟨_, rfl⟩, src_ok, rfl, rfl⟩
theorem try_ok (hC : CxOk c) (hK : c.K = KK c) (hPr : c.prog = PRG) (G : GL c) (hc : c.calm = true) (h1 : lenL L0 ≤ 4000) (hN : ∀ s ∈ L0, IsTok s) (hL : L0 = pre ++ f :: L) {res : D} {add : Option Int} (hp : pfR (!oct) f L = .ok res add L2) {ans : Str} (hr : ∀ σ, OpN c 0 (fun vs => call (.builtin "repr") vs) [.d res] σ (.d (.str ans)) σ) :
    Exs c SL 0 TRB ⟨(key "sign", .d (.str s)) :: lW oct F, hW oct L0 (f :: L) fl T sn⟩ .next ⟨(key "sign", .d (.str ans)) :: lW oct F, hW oct L0 L2 (nfl fl add) T sn⟩ := by
  have tk := toks_ok hN
  have tf := tok_suffix (pre := pre) (L := f :: L) (by rw [← hL]; exact tk.1)
  have z := pf_okF (loc := (key "sign", .d (.str s)) :: lW oct F) (j := 2) (asj := asS fl) (fl := fl) (pk04 (oct := oct) (L0 := L0) (fl := fl) (T := T) (sn := sn) hC hK hPr G hc h1) (by decide) rfl (by show (6 : Nat) ≤ 800; decide) (by kernel_rfl) tf.2 (fun s hs => hN s (by rw [hL]; exact List.mem_append_right _ (.tail _ hs))) hp
  have e2 : pfHeap 2 (asS fl) fl add (Hs 1 (!oct) (givT oct L0) (txt L0) (hW oct L0 [] fl T sn) L2) = hW oct L0 L2 (nfl fl add) T sn := by
    cases add <;> rfl
  rw [e2, hW_is] at z
  dsimp only [TRB, EB, LB, nthBody, PySem.Challenge.pw_kq0015_04, forBody, ifBody, List.drop]
  exact exs_cons (ex_sub (ex_try_ok (exs_cons (asg (X := .d (.str ans)) (ev_callb (gl hC G.repr) (evs_cons (ev_callf hC (kp hK (by kernel_rfl)) (gl hC G.pf) (evs_cons nm (evs_cons nm (evs_cons (ev_methf0 hC (kp hK (by kernel_rfl)) nm (getm_inst (i := 1) (C := cT) (as := tokL (!oct) (givT oct L0) (txt L0) (f :: L)) hC (k_get hK) rfl (by kernel_rfl)) (opn_fn (get04 hC hK G hc h1 hN hL))) evs_nil))) (opn_fn z)) evs_nil) (hr _))) exs_nil)) (sub_pick (by kernel_rfl))) exs_nil
theorem try_er (hC : CxOk c) (hK : c.K = KK c) (hPr : c.prog = PRG) (G : GL c) (hc : c.calm = true) (h1 : lenL L0 ≤ 1000) (hN : ∀ s ∈ L0, IsTok s) (hF : txt L0 = wd Fl) (hlt : ∀ z ∈ Fl, z < 256) (hL : L0 = pre ++ f :: L) (hpre : L0 = pre2 ++ L2) {k p : Nat} (hm : m.length ≤ 100) (hk : lenL pre2 = p + k) (hs : (flagOf f).isSome = true ∨ f = "-") (hp : pfR (!oct) f L = .err m k L2) :
    Exs c SL 0 TRB ⟨(key "sign", .d (.str s)) :: lW oct F, hW oct L0 (f :: L) fl T sn⟩ .next ⟨(key "sign", .d (wholeD m (givS oct Fl) Fl p)) :: lW oct F, hW oct L0 L2 fl T sn⟩ := by
  have tk := toks_ok hN
  have tf := tok_suffix (pre := pre) (L := f :: L) (by rw [← hL]; exact tk.1)
  have eF : lenL L0 = Fl.length := by rw [← wd_len, ← hF, txt_len]
  have hple : p ≤ Fl.length := by
    have : lenL L0 = lenL pre2 + lenL L2 := by rw [hpre]; unfold lenL; rw [List.map_append, List.sum_append]
    lia
  have et : tellOf (txt L0) L2 = (p : Int) + k := by
    have : tellOf (txt L0) L2 = lenL pre2 := by rw [hpre]; exact tellOf_at
    rw [this, hk]; rfl
  obtain ⟨-, x2, x3, x4⟩ := exc_whole (b := !oct) (m := m) hlt hple
  have po := pos_any (b := !oct) (m := m) hlt hple (by lia) hm
  have hg : givT oct L0 = givS oct Fl := by show srcD _ _ _ = srcD _ _ _; rw [hF]
  have z := pf_errF (loc := (key "sign", .d (.str s)) :: lW oct F) (j := 2) (pk04 (oct := oct) (L0 := L0) (fl := fl) (T := T) (sn := sn) hC hK hPr G hc (by lia)) hs tf.2 (fun s hs => hN s (by rw [hL]; exact List.mem_append_right _ (.tail _ hs))) hp (by rw [et, hg, Int.add_sub_cancel]; exact po)
  rw [hW_is, hW_is, et, Int.add_sub_cancel] at z
  have gt := fun (loc : List (Nat × V)) => get04 (oct := oct) (loc := loc) (fl := fl) (T := T) (sn := sn) hC hK G hc (by lia) hN hL
  have hdot : SL.names.lookup dot0 = none := by kernel_rfl
  dsimp only [TRB, EB, LB, nthBody, PySem.Challenge.pw_kq0015_04, forBody, ifBody, List.drop]
  refine exs_cons (ex_sub (ex_try_exc hdot (exsr_here (exr_asg (evr_callb (gl hC G.repr) (evsr_here (evr_callf hC (kp hK (by kernel_rfl)) (gl hC G.pf) (evs_cons nm (evs_cons nm (evs_cons (ev_methf0 hC (kp hK (by kernel_rfl)) nm (getm_inst (i := 1) (C := cT) (as := tokL (!oct) (givT oct L0) (txt L0) (f :: L)) hC (k_get hK) rfl (by kernel_rfl)) (opn_fn (gt _))) evs_nil))) (opr_fn z)))))) (hb_own_as hC (e_ok hK) rfl (by kernel_rfl) (by kernel_rfl) (by kernel_rfl) G.pe
    (exs_cons (asg (X := .d (wholeD m (givS oct Fl) Fl p)) (ev_is (ev_tuple (evs_cons (ev_attr_exn (d := .str m) hC.loud (e_at (c := c.loud) hK (by decide)) nm (by kernel_rfl)) (evs_cons (ev_attr_exn (d := givT oct L0) hC.loud (e_at (c := c.loud) hK (by decide)) nm (by kernel_rfl)) (evs_cons (ev_attr_exn (d := .int p) hC.loud (e_at (c := c.loud) hK (by decide)) nm (by kernel_rfl)) (evs_cons (ev_attr_exn (d := .int (lnOf (givT oct L0) p)) hC.loud (e_at (c := c.loud) hK (by decide)) nm (by kernel_rfl)) (evs_cons (ev_attr_exn (d := .int (cnOf (givT oct L0) p)) hC.loud (e_at (c := c.loud) hK (by decide)) nm (by kernel_rfl)) (evs_cons (ev_callt (gl hC.loud G.str) (evs_cons nm evs_nil) (f_strE hC.loud (by decide) (e_str (c := c.loud) hK))) evs_nil)))))) op_tuple) (by rw [hg]; unfold wholeD givS; rw [x2, x3, x4]))) exs_nil))) (sub_pick (by kernel_rfl))) exs_nil
end
end Mine
namespace Mine
open PySem PySem.W PyProof.Rows PySem.Calls PySem.Spec
noncomputable def ResOk (res : D) (ans : Str) : Prop := (res = .none ∧ ans = "None") ∨ ∃ a b, res = .tup [.int a, .int b] ∧ ans = sh2 a b ∧ sm a ∧ sm b
inductive W4 (oct : Bool) (L0 : List Str) (Fl : List Nat) : List Str → Int → List D → Int → List D → Prop
  | done {fl : Int} {sn : List D} : W4 oct L0 Fl [] fl sn fl sn
  | sgn {s : Str} {L : List Str} {fl fl' : Int} {sn sn' : List D} : (s == "(") = false → W4 oct L0 Fl L fl (sn ++ [sgT s fl]) fl' sn' → W4 oct L0 Fl (s :: L) fl sn fl' sn'
  | ok {f ans : Str} {L L2 pre2 : List Str} {fl fl' : Int} {sn sn' : List D} {res : D} {add : Option Int} : pfR (!oct) f L = .ok res add L2 → ResOk res ans → L0 = pre2 ++ L2 →
      W4 oct L0 Fl L2 (nfl fl add) (sn ++ [.tup [.str ans, .int (nfl fl add)]]) fl' sn' → W4 oct L0 Fl (("(" : Str) :: ("?" : Str) :: f :: L) fl sn fl' sn'
  | er {f m : Str} {L L2 pre2 : List Str} {fl fl' : Int} {sn sn' : List D} {k p : Nat} : ((flagOf f).isSome = true ∨ f = "-") → pfR (!oct) f L = .err m k L2 → m.length ≤ 100 → L0 = pre2 ++ L2 → lenL pre2 = p + k →
      W4 oct L0 Fl L2 fl (sn ++ [.tup [wholeD m (givS oct Fl) Fl p, .int fl]]) fl' sn' → W4 oct L0 Fl (("(" : Str) :: ("?" : Str) :: f :: L) fl sn fl' sn'
theorem w4_len {oct : Bool} {L0 L : List Str} {Fl : List Nat} {fl fl' : Int} {sn sn' : List D} (h : W4 oct L0 Fl L fl sn fl' sn') : sn.length ≤ sn'.length := by
  induction h with
  | done => exact Nat.le_refl _
  | sgn _ _ ih => rw [List.length_append] at ih; lia
  | ok _ _ _ _ ih => rw [List.length_append] at ih; lia
  | er _ _ _ _ _ _ ih => rw [List.length_append] at ih; lia
theorem w4_flat {oct : Bool} {L0 L : List Str} {Fl : List Nat} {fl fl' : Int} {sn sn' : List D} (h : W4 oct L0 Fl L fl sn fl' sn') : sn.all (flatK 3) = true → sn'.all (flatK 3) = true := by
  induction h with
  | done => exact id
  | sgn _ _ ih => intro q; exact ih (by rw [List.all_append, q]; rfl)
  | ok _ _ _ _ ih => intro q; exact ih (by rw [List.all_append, q]; rfl)
  | er _ _ _ _ _ _ ih => intro q; exact ih (by rw [List.all_append, q]; cases oct <;> rfl)
noncomputable def DB : List Stmt := forBody LB 28
noncomputable def convD (oct : Bool) (F : List Nat) : D → D
  | .tup [.str m, .int p, .int h] => .tup [wholeD m (givS oct F) F p.toNat, .int h]
  | d => d
inductive ItOk (F : List Nat) : D → Prop
  | three {m : Str} {p : Nat} {h : Int} : m.length ≤ 100 → p ≤ F.length → ItOk F (.tup [.str m, .int (p : Int), .int h])
  | two {s : Str} {h : Int} : ItOk F (.tup [.str s, .int h])
section
variable {c : Cx} {n : Nat} {σ : St} {oct : Bool} {total fl : Int} {Fl F : List Nat} {L0 L : List Str} {T W sn : List D}
theorem rp_ok {res : D} {ans : Str} (h : ResOk res ans) (σ : St) : OpN c 0 (fun vs => call (.builtin "repr") vs) [.d res] σ (.d (.str ans)) σ := by
  rcases h with ⟨rfl, rfl⟩ | ⟨a, b, rfl, rfl, h1, h2⟩
  · have z := f_repr (c := c) (n := 0) (σ := σ) (d := .none) (p := .none) (k := 100) (by decide) (.leaf .none) Sm.none (by decide)
    rwa [show PyData.none.shown = ("None" : Str) by kernel_rfl] at z
  · exact rp2 (by decide) h1 h2
theorem loopW (hC : CxOk c) (hK : c.K = KK c) (hPr : c.prog = PRG) (G : GL c) (hc : c.calm = true) (h1 : lenL L0 ≤ 1000) (hN : ∀ s ∈ L0, IsTok s) (hF : txt L0 = wd Fl) (hlt : ∀ z ∈ Fl, z < 256) {L : List Str} {fl fl' : Int} {sn sn' : List D} (w : W4 oct L0 Fl L fl sn fl' sn') :
    (∃ pre, L0 = pre ++ L) → sn'.length ≤ 900 → WL c SL 0 ET EB ⟨lW oct F, hW oct L0 L fl T sn⟩ .next ⟨lW oct F, hW oct L0 [] fl' T sn'⟩ := by
  induction w with
  | done => intro _ _; exact wl_stop (test04 hC hK)
  | @sgn s L fl fl' sn sn' ho w ih =>
    intro hL hs
    obtain ⟨pre, hL⟩ := hL
    have := w4_len w
    rw [List.length_append] at this
    have hL2 : L0 = (pre ++ [s]) ++ L := by rw [hL, List.append_assoc]; rfl
    with_reducible exact wl_turn (test04 hC hK) (turn_s hC hK G hc (by lia) hN hL (by lia) ho) rfl (ih ⟨pre ++ [s], hL2⟩ hs)
  | @ok f ans L L2 pre2 fl fl' sn sn' res add hp hr hp2 w ih =>
    intro hL hs
    obtain ⟨pre, hL⟩ := hL
    have := w4_len w
    rw [List.length_append] at this
    have hL' : L0 = (pre ++ [("(" : Str), ("?" : Str)]) ++ f :: L := by rw [hL, List.append_assoc]; rfl
    have a := try_ok (F := F) (s := "(") (fl := fl) (T := T) (sn := sn) hC hK hPr G hc (by lia) hN hL' hp (rp_ok hr)
    have b := turn_p (L := f :: L) hC hK G hc (by lia) hN hL (by lia) a
    with_reducible exact wl_turn (test04 hC hK) b rfl (ih ⟨pre2, hp2⟩ hs)
  | @er f m L L2 pre2 fl fl' sn sn' k p hf hp hm hp2 hk w ih =>
    intro hL hs
    obtain ⟨pre, hL⟩ := hL
    have := w4_len w
    rw [List.length_append] at this
    have hL' : L0 = (pre ++ [("(" : Str), ("?" : Str)]) ++ f :: L := by rw [hL, List.append_assoc]; rfl
    have a := try_er (F := F) (s := "(") (fl := fl) (T := T) (sn := sn) hC hK hPr G hc h1 hN hF hlt hL' hp2 hm hk hf hp
    have b := turn_p (L := f :: L) hC hK G hc (by lia) hN hL (by lia) a
    with_reducible exact wl_turn (test04 hC hK) b rfl (ih ⟨pre2, hp2⟩ hs)
noncomputable abbrev lV (oct : Bool) (F : List Nat) : List (Nat × V) := (key "told", .obj 4) :: lW oct F
noncomputable abbrev hV (oct : Bool) (L0 : List Str) (fl : Int) (w : HO) (sn td : List D) : List (Nat × HO) := [(4, .lst td), (3, .lst sn), (2, .inst cT (asS fl)), (1, srcH oct L0 []), (0, w)]
theorem told_one (hC : CxOk c) (hK : c.K = KK c) (G : GL4 c) (hc : c.calm = true) (hl : F.length ≤ 1000) {d : D} (hd : ItOk F d) {w : HO} {td : List D} (ht : td.length ≤ 1000) :
    Exs c SL 0 DB ⟨(key "item", .d d) :: lV oct F, hV oct L0 fl w sn td⟩ .next ⟨lV oct F, hV oct L0 fl w sn (td ++ [convD oct F d])⟩ := by
  dsimp only [DB, LB, nthBody, PySem.Challenge.pw_kq0015_04, forBody, List.drop]
  cases hd with
  | @three m p h hm hp =>
    have wh := fun loc H => whole_fn (c := c) (n := 0) (loc := loc) (H := H) (g := givS oct F) (m := m) hC hK G.toGL hc (by decide) hp (by lia) hm
    refine exs_cons (ex_sub (σ₁ := ⟨(key "item", .d (.tup [.str m, .int (p : Int), .int h])) :: lV oct F, hV oct L0 fl w sn (td ++ [convD oct F (.tup [.str m, .int (p : Int), .int h])])⟩) (if_t (ts_is (ts_cmp (ev_callb (gl hC G.len) (evs_cons nm evs_nil) (f_len_tup (ds := [.str m, .int (p : Int), .int h]) (by show 3 ≤ 1000000; decide))) ev_int c_eq) (by rfl)) ?b) (sub_pick (by kernel_rfl))) exs_nil
    case b =>
      exact exs_cons (ex_expr (ev_meth nm (getm_lst (i := 4) PySem.F.slot_list_append PySem.F.type_list_append rfl) (evs_cons (ev_tuple (evs_cons (X := .d (wholeD m (givS oct F) F p)) (ev_callf hC (kp hK (by kernel_rfl)) (gl hC G.whole) (evs_cons (ev_sub nm ev_int (op_item_tup (j := 0) (by rfl) rfl (by decide))) (evs_cons nm (evs_cons nm (evs_cons (ev_sub nm ev_int (op_item_tup (j := 1) (by rfl) rfl (by decide))) evs_nil)))) (opn_fn (wh _ _))) (evs_cons (X := .d (.int h)) (ev_sub nm ev_int (op_item_tup (j := 2) (by rfl) rfl (by decide))) evs_nil)) op_tuple) evs_nil) (op_append (ds := td) rfl (by lia)))) exs_nil
  | @two s h =>
    refine exs_cons (ex_sub (σ₁ := ⟨(key "item", .d (.tup [.str s, .int h])) :: lV oct F, hV oct L0 fl w sn (td ++ [convD oct F (.tup [.str s, .int h])])⟩) (if_f (ts_is (ts_cmp (ev_callb (gl hC G.len) (evs_cons nm evs_nil) (f_len_tup (ds := [.str s, .int h]) (by show 2 ≤ 1000000; decide))) ev_int c_eq) (by rfl)) ?b) (sub_pick (by kernel_rfl))) exs_nil
    case b => exact exs_cons (ex_expr (ev_meth nm (getm_lst (i := 4) PySem.F.slot_list_append PySem.F.type_list_append rfl) (evs_cons (nm (X := .d (.tup [.str s, .int h]))) evs_nil) (op_append (ds := td) rfl (by lia)))) exs_nil
theorem told_loop (hC : CxOk c) (hK : c.K = KK c) (G : GL4 c) (hc : c.calm = true) (hl : F.length ≤ 1000) {p1 : Pos} {pa : Addr} {po : Obj} {W0 : List D} : ∀ (W td : List D), (∀ d ∈ W, ItOk F d) → td.length + W.length ≤ 1000 →
    FL c SL 0 (.Name "item" p1) DB [(pa, po)] (W.map .d) ⟨lV oct F, hV oct L0 fl (.plst pa po W0) sn td⟩ .next ⟨lV oct F, hV oct L0 fl (.plst pa po W0) sn (td ++ W.map (convD oct F))⟩
  | [], td, _, _ => by rw [List.map_nil, List.map_nil, List.append_nil]; exact fl_nil
  | d :: W, td, hd, ht => by
    rw [List.length_cons] at ht
    have ih := told_loop (p1 := p1) (pa := pa) (po := po) (W0 := W0) hC hK G hc hl W (td ++ [convD oct F d]) (fun x hx => hd x (.tail _ hx)) (by rw [List.length_append]; show _ + 1 + _ ≤ _; lia)
    rw [List.append_assoc] at ih
    exact fl_cons (fl := .next) (as_name (by kernel_rfl)) (told_one hC hK G hc hl (hd d (.head _)) (by lia)) rfl ih (pins_one (i := 0) rfl)
theorem post04 (hC : CxOk c) (hK : c.K = KK c) (hPr : c.prog = PRG) (G : GL4 c) (hc : c.calm = true) (h1 : lenL L0 ≤ 1000) (hN : ∀ s ∈ L0, IsTok s) (hF : txt L0 = wd Fl) (hlt : ∀ z ∈ Fl, z < 256) (hl : Fl.length ≤ 1000) {fl fl' : Int} (w : W4 oct L0 Fl L0 fl [] fl' (W.map (convD oct Fl))) (hW0 : ∀ d ∈ W, ItOk Fl d) (hT : W.length ≤ 900) :
    ∃ σ', Exs c SL 0 ((((LB.drop 18).drop 1).drop 2).drop 5) ⟨lW oct Fl, hW oct L0 L0 fl W []⟩ (.ret (.d (.bool true))) σ' := by
  have lw := loopW (F := Fl) (T := W) hC hK hPr G.toGL hc h1 hN hF hlt w ⟨[], rfl⟩ (by rw [List.length_map]; exact hT)
  have flt := w4_flat w rfl
  generalize hcv : W.map (convD oct Fl) = U at lw flt
  refine ⟨⟨lV oct Fl, hV oct L0 fl' (.lst W) U U⟩, ?_⟩
  dsimp only [ET, EB, LB, nthBody, PySem.Challenge.pw_kq0015_04, forBody, List.drop] at lw
  dsimp only [LB, nthBody, PySem.Challenge.pw_kq0015_04, List.drop]
  refine exs_cons (ex_while lw) ?_
  refine exs_cons (ex_newlist (i := 4) (ds := []) (by kernel_rfl) evs_nil (fresh_of (by decide) (by decide) rfl (by rfl))) ?_
  refine exs_pin (i := 0) (ds := W) rfl fun pa po => ?_
  have lo := fun p1 => told_loop (oct := oct) (L0 := L0) (fl := fl') (sn := U) (p1 := p1) (pa := pa) (po := po) (W0 := W) hC hK G hc hl W [] hW0 (by show 0 + _ ≤ _; lia)
  rw [List.nil_append, hcv] at lo
  refine exs_cons (ex_for (evIt_plst (ds := W) hc nm rfl) (fl_body (body' := DB) (lo _) (by kernel_rfl))) ?_
  refine exs_unpin (i := 0) (ds := W) rfl ?_
  refine exs_stop (ex_ret ?_) (by kernel_rfl)
  exact ev_cmp nm nm (c_eq_lists (i := 3) (j := 4) (ds := U) (k := 3) (by decide) (by decide) rfl rfl flt)
end
end Mine
namespace Mine
open PySem PySem.W PyProof.Rows PySem.Calls PySem.Spec
theorem txt_wd (L : List (List Nat)) : txt (L.map wd) = wd L.flatten := by
  induction L with
  | nil => rfl
  | cons w L ih => rw [List.flatten_cons, wd_app, ← ih]; show txt ([wd w] ++ L.map wd) = _; rw [txt_app]; congr 1; unfold txt; simp [cpsL]
theorem lenL_wd : ∀ X : List (List Nat), lenL (X.map wd) = X.flatten.length
  | [] => rfl
  | K :: X => by
    have ih := lenL_wd X
    unfold lenL at ih ⊢
    rw [List.map_cons, List.map_cons, List.sum_cons, ih, wd_len, List.flatten_cons, List.length_append]
theorem sgl_map : ∀ w : List Nat, (w.map fun a => [a]).map wd = w.map ch1
  | [] => rfl
  | a :: w => by rw [List.map_cons, List.map_cons, List.map_cons, sgl_map w, wd1]
theorem sgl_flat : ∀ w : List Nat, (w.map fun a => [a]).flatten = w
  | [] => rfl
  | a :: w => by rw [List.map_cons, List.flatten_cons, sgl_flat w]; rfl
noncomputable def onX : (Str × Nat × List Str) ⊕ (Str × Int × List Str) → PfR
  | .inl (m, k, L2) => .err m k L2
  | .inr (c1, a, L2) => endR c1 a L2
noncomputable def onF (b : Bool) (acc : Int) : List Str → (Str × Nat × List Str) ⊕ (Str × Int × List Str)
  | [] => .inl (M_1, 0, [])
  | c2 :: R => if Txt.contains ")-:" c2 then .inr (c2, acc, R) else if (flagOf c2).isSome then onR b R c2 acc else .inl (unk c2 M_1, c2.length, R)
variable {b : Bool}
theorem on_preW {R : List Str} : ∀ (xs : List Nat) (x : Nat) (a : Int), (∀ z ∈ x :: xs, z ∈ sevenL) → KdOk b (Builtin.bitAnd a 292) → badAt b (x :: xs) a = none → onR b (xs.map ch1 ++ R) (ch1 x) a = onF b (orB (x :: xs) a) R
  | xs, x, a, hx, hk, h => by
    have hx0 := hx x (.head _)
    have hf := sevL_flag hx0
    rw [badAt_cons] at h
    rcases chk_w hx0 hk with ⟨q, _⟩ | ⟨q, q3, _⟩ | ⟨q, q3, hn, hk2⟩
    · rw [if_pos q] at h; cases h
    · rw [if_neg q, if_pos q3] at h; cases h
    · rw [if_neg q, if_neg (by rw [q3]; exact Bool.false_ne_true)] at h
      cases xs with
      | nil =>
        show onR b R (ch1 x) a = onF b (Builtin.bitOr a (flg x)) R
        cases R with
        | nil => unfold onR onF; rw [hf]; dsimp only; rw [hn]
        | cons c2 R =>
          conv => lhs; unfold onR
          rw [hf]; dsimp only; rw [hn]; rfl
      | cons y ys =>
        have hy := hx y (.tail _ (.head _))
        have e : onR b ((y :: ys).map ch1 ++ R) (ch1 x) a = onR b (ys.map ch1 ++ R) (ch1 y) (Builtin.bitOr a (flg x)) := onR_more hf hn (sevL_con hy).1 (by rw [sevL_flag hy]; rfl)
        rw [e]
        exact on_preW ys y _ (fun z hz => hx z (.tail _ hz)) hk2 (Option.map_eq_none_iff.mp h)
theorem on_preB {R : List Str} {msg : Str} : ∀ (xs : List Nat) (x : Nat) (a : Int) (j : Nat), (∀ z ∈ x :: xs, z ∈ sevenL) → KdOk b (Builtin.bitAnd a 292) → badAt b (x :: xs) a = some (j, msg) → onR b (xs.map ch1 ++ R) (ch1 x) a = .inl (msg, 0, (xs.drop j).map ch1 ++ R)
  | xs, x, a, j, hx, hk, h => by
    have hx0 := hx x (.head _)
    have hf := sevL_flag hx0
    have bad : ∀ {w : Str}, onChk b (ch1 x) (flg x) a = some w → onR b (xs.map ch1 ++ R) (ch1 x) a = .inl (w, 0, xs.map ch1 ++ R) := fun {w} hw => by
      generalize xs.map ch1 ++ R = T
      cases T <;> (unfold onR; rw [hf]; dsimp only; rw [hw])
    rw [badAt_cons] at h
    rcases chk_w hx0 hk with ⟨q, hw⟩ | ⟨q, q3, hw⟩ | ⟨q, q3, hn, hk2⟩
    · rw [if_pos q] at h; cases h; exact bad hw
    · rw [if_neg q, if_pos q3] at h; cases h; exact bad hw
    · rw [if_neg q, if_neg (by rw [q3]; exact Bool.false_ne_true)] at h
      cases xs with
      | nil => cases h
      | cons y ys =>
        have hy := hx y (.tail _ (.head _))
        obtain ⟨⟨j', w'⟩, h1, h2⟩ := Option.map_eq_some_iff.mp h
        cases h2
        have e : onR b ((y :: ys).map ch1 ++ R) (ch1 x) a = onR b (ys.map ch1 ++ R) (ch1 y) (Builtin.bitOr a (flg x)) := onR_more hf hn (sevL_con hy).1 (by rw [sevL_flag hy]; rfl)
        rw [e]
        exact on_preB ys y _ j' (fun z hz => hx z (.tail _ hz)) hk2 h1
theorem kd0 : KdOk b (Builtin.bitAnd 0 292) := by
  have : Builtin.bitAnd 0 292 = 0 := by decide +kernel
  rw [this]; exact .head _
theorem pf_good {w : List Nat} {T : List Str} (h7 : ∀ x ∈ w, x ∈ sevenL) (hb : badAt b w 0 = none) (hT : w ≠ [] ∨ ∃ T', T = ("-" : Str) :: T') :
    ∃ f L, w.map ch1 ++ T = f :: L ∧ ((flagOf f).isSome = true ∨ f = "-") ∧ pfR b f L = onX (onF b (orB w 0) T) := by
  cases w with
  | nil =>
    obtain ⟨T', rfl⟩ := hT.resolve_left (fun h => h rfl)
    refine ⟨"-", T', rfl, .inr rfl, ?_⟩
    have e1 : pfR b "-" T' = offE 0 T' := by unfold pfR; rw [if_pos (by kernel_rfl)]
    have e2 : onF b (orB [] 0) ("-" :: T') = .inr ("-", 0, T') := by unfold onF; dsimp only; rw [if_pos (by kernel_rfl)]; rfl
    rw [e1, e2]
    show _ = endR "-" 0 T'
    unfold endR
    rw [if_neg (by decide +kernel), if_pos (by kernel_rfl)]
  | cons x xs =>
    have hx := h7 x (.head _)
    refine ⟨ch1 x, xs.map ch1 ++ T, rfl, .inl (by rw [sevL_flag hx]; rfl), ?_⟩
    unfold pfR
    rw [if_neg (nfb' (sevL_con hx).2.2), on_preW xs x 0 h7 kd0 hb]
    all_goals (generalize onF b (orB (x :: xs) 0) T = r; rcases r with ⟨m, k, L2⟩ | ⟨d, a, L2⟩ <;> rfl)
theorem pf_bad {w : List Nat} {T : List Str} {j : Nat} {msg : Str} (h7 : ∀ x ∈ w, x ∈ sevenL) (hb : badAt b w 0 = some (j, msg)) :
    ∃ f L, w.map ch1 ++ T = f :: L ∧ ((flagOf f).isSome = true ∨ f = "-") ∧ pfR b f L = .err msg 0 ((w.drop (j + 1)).map ch1 ++ T) := by
  cases w with
  | nil => cases hb
  | cons x xs =>
    have hx := h7 x (.head _)
    refine ⟨ch1 x, xs.map ch1 ++ T, rfl, .inl (by rw [sevL_flag hx]; rfl), ?_⟩
    unfold pfR
    rw [if_neg (nfb' (sevL_con hx).2.2), on_preB xs x 0 j h7 kd0 hb]
    rfl
noncomputable def usedC (cl : Cl) : List (List Nat) := (sgGo [] cl.cl).take ((sgGo [] cl.cl).length - cl.re.length)
noncomputable def kC (cl : Cl) : Nat := (usedC cl).flatten.length - cl.pl.toNat
noncomputable def clP (P : Int) (cl : Cl) (R : List Str) : PfR :=
  if neS cl.fa = true then .err cl.fa (kC cl) (cl.re.map wd ++ R) else
  if (wd cl.cl == ")") = true then .ok .none (some P) R else
  if (Builtin.bitAnd P cl.off != 0) = true then .err M_tw 1 R else .ok (.tup [.int P, .int cl.off]) none R
theorem and0 {P : Int} : Builtin.bitAnd P 0 = 0 := tb_ext fun j => by rw [tb_and, tb_zero, Bool.and_false]
theorem close_all {P : Int} {R : List Str} : ∀ cl ∈ closC, onX (onF b P ((sgGo [] cl.cl).map wd ++ R)) = clP P cl R := by
  intro cl h
  simp only [closC, List.mem_cons, List.not_mem_nil, or_false] at h
  rcases h with rfl | rfl | rfl | rfl | rfl | rfl | rfl | rfl | rfl | rfl | rfl | rfl | rfl | rfl | rfl | rfl | rfl | rfl | rfl | rfl
  · kernel_rfl
  · have e : clP P ⟨[58], 0, "", 0, []⟩ R = if (Builtin.bitAnd P 0 != 0) = true then .err M_tw 1 R else .ok (.tup [.int P, .int 0]) none R := by kernel_rfl
    rw [e, and0]
    kernel_rfl
  all_goals kernel_rfl
noncomputable def tokB : List Nat → Bool
  | [a] => a != 92
  | [a, _] => a == 92
  | _ => false
theorem tokB_ok : ∀ {K : List Nat}, tokB K = true → IsTok (wd K)
  | [a], h => .inl ⟨a, bne_iff_ne.mp h, rfl⟩
  | [a, d], h => .inr ⟨d, by rw [eq_of_beq h]; rfl⟩
  | [], h => nomatch h
  | _ :: _ :: _ :: _, h => nomatch h
noncomputable def kdB (K : List Nat) : Bool := tokB K && (decide (K.length ≤ 2) && K.all fun z => decide (z < 256))
noncomputable def nopB (K : List Nat) : Bool := kdB K && decide (K ≠ [40])
theorem clos_all : ∀ cl ∈ closC, sgGo [] cl.cl = usedC cl ++ cl.re ∧ cl.pl.toNat ≤ (usedC cl).flatten.length ∧ 0 ≤ cl.pl ∧ (sgGo [] cl.cl).flatten = cl.cl ∧ (sgGo [] cl.cl).all nopB = true ∧ (neS cl.fa = false → cl.re = []) := by decide +kernel
theorem clos_dash : ∀ cl ∈ closC, (ch1 (cl.cl.getD 0 0) != "-") = false → (sgGo [] cl.cl).head? = some [45] := by decide +kernel
theorem pl_sg : ∀ pl ∈ [] :: plainC, ∀ cl ∈ closC, sgGo [] (pl ++ cl.cl) = (pl.map fun a => [a]) ++ sgGo [] cl.cl := by decide +kernel
theorem words_all : ∀ oct ah : Bool, ∀ kd ∈ kindsC oct, ∀ pl ∈ plainC, if neS kd.why = true then badAt (!oct) (if ah = true then kd.ty ++ pl else pl ++ kd.ty) 0 = some ((if ah = true then kd.ty.length else (pl ++ kd.ty).length) - 1, kd.why) ∧ 0 < kd.ty.length else badAt (!oct) (if ah = true then kd.ty ++ pl else pl ++ kd.ty) 0 = none := by decide +kernel
theorem sev_nop : ∀ x ∈ sevenL, nopB [x] = true := by decide
theorem nop_par {K : List Nat} (h : nopB K = true) : (wd K == "(") = false := by
  cases q : (wd K == "(") with
  | false => rfl
  | true =>
    have e : wd K = wd [40] := (eq_of_beq q).trans (by kernel_rfl)
    rw [wd_inj e] at h
    exact absurd h (by decide)
end Mine
namespace Mine
open PySem PySem.W PyProof.Rows PySem.Calls PySem.Spec
structure RdW (oct : Bool) (Q : List Str → Prop) (m m' : MS) (Ts : List (List Nat)) (add : List D) : Prop where
  tok : Ts.all kdB = true
  text : m'.text = m.text ++ Ts.flatten
  want : m'.want = m.want ++ add
  it : ∀ d ∈ add, ∀ F : List Nat, m'.text.length ≤ F.length → ItOk F d
  go : ∀ {L0 : List Str} {Fl : List Nat} {pre R : List Str} {sn : List D} {fl' : Int} {sn' : List D}, Q R → L0 = pre ++ (Ts.map wd ++ R) → lenL pre = m.text.length → W4 oct L0 Fl R m'.held (sn ++ add.map (convD oct Fl)) fl' sn' → W4 oct L0 Fl (Ts.map wd ++ R) m.held sn fl' sn'
noncomputable def Rd (oct : Bool) (Q : List Str → Prop) (m m' : MS) : Prop := ∃ Ts add, RdW oct Q m m' Ts add
noncomputable abbrev anyR : List Str → Prop := fun _ => True
section
variable {oct ah : Bool} {Q : List Str → Prop} {m m1 m' : MS} {kd : Kd} {cl : Cl} {pl w : List Nat}
theorem rd_refl : Rd oct Q m m := ⟨[], [], rfl, by rw [List.flatten_nil, List.append_nil], by rw [List.append_nil], (fun _ h => nomatch h), fun {L0 Fl pre R sn fl' sn'} _ _ _ h => by rw [List.map_nil, List.append_nil] at h; exact h⟩
theorem rd_trans (h1 : Rd oct anyR m m1) (h2 : Rd oct Q m1 m') : Rd oct Q m m' := by
  obtain ⟨T1, a1, t1, x1, w1, i1, g1⟩ := h1
  obtain ⟨T2, a2, t2, x2, w2, i2, g2⟩ := h2
  refine ⟨T1 ++ T2, a1 ++ a2, by rw [List.all_append, t1, t2]; rfl, by rw [x2, x1, List.flatten_append, List.append_assoc], by rw [w2, w1, List.append_assoc], fun d hd F hF => ?_, fun {L0 Fl pre R sn fl' sn'} hQ hL hp w => ?_⟩
  · rcases List.mem_append.mp hd with h | h
    · exact i1 d h F (Nat.le_trans (by rw [x2, List.length_append]; lia) hF)
    · exact i2 d h F hF
  · rw [List.map_append, List.append_assoc] at hL ⊢
    rw [List.map_append, ← List.append_assoc] at w
    exact g1 trivial hL hp (g2 (pre := pre ++ T1.map wd) hQ (by rw [hL, List.append_assoc]) (by rw [lenL_app, lenL_wd, hp, x1, List.length_append]) w)
theorem sgn_all {L0 : List Str} {Fl : List Nat} {R : List Str} {fl fl' : Int} {sn' : List D} : ∀ (re : List (List Nat)) (sn : List D), re.all nopB = true → W4 oct L0 Fl R fl (sn ++ (re.map fun s => sgI s fl).map (convD oct Fl)) fl' sn' → W4 oct L0 Fl (re.map wd ++ R) fl sn fl' sn'
  | [], sn, _, w => by rw [List.map_nil, List.map_nil, List.append_nil] at w; exact w
  | K :: re, sn, h, w => by
    rw [List.all_cons, Bool.and_eq_true] at h
    refine .sgn (nop_par h.1) (sgn_all re _ h.2 ?_)
    rw [List.append_assoc]
    exact w
theorem nop_kd {K : List Nat} (h : nopB K = true) : kdB K = true := (Bool.and_eq_true_iff.mp h).1
theorem all_kd {Ts : List (List Nat)} (h : Ts.all nopB = true) : Ts.all kdB = true := List.all_eq_true.mpr fun K hK => nop_kd (List.all_eq_true.mp h K hK)
theorem sgl_nop {w : List Nat} (h7 : ∀ x ∈ w, x ∈ sevenL) : (w.map fun a => [a]).all nopB = true := List.all_eq_true.mpr fun K hK => by
  obtain ⟨x, hx, rfl⟩ := List.mem_map.mp hK
  exact sev_nop x (h7 x hx)
theorem rd_sign {s : List Nat} (hs : s ∈ signC) : Rd oct anyR m ⟨m.text ++ s, m.held, m.want ++ [sgI s m.held]⟩ := by
  have h : nopB s = true := (by decide : ∀ s ∈ signC, nopB s = true) s hs
  refine ⟨[s], [sgI s m.held], by rw [List.all_cons, nop_kd h]; rfl, by rw [List.flatten_cons, List.flatten_nil, List.append_nil], rfl, fun d hd F _ => ?_, fun {L0 Fl pre R sn fl' sn'} _ hL hp w => .sgn (nop_par h) w⟩
  rw [List.mem_singleton.mp hd]
  exact .two
theorem dash_or {w : List Nat} {cl : Cl} {R : List Str} (hc : cl ∈ closC) (hw : w = [] → (ch1 (cl.cl.getD 0 0) != "-") = false) : w ≠ [] ∨ ∃ T', (sgGo [] cl.cl).map wd ++ R = ("-" : Str) :: T' := by
  by_cases e : w = []
  · right
    have z := clos_dash cl hc (hw e)
    cases q : sgGo [] cl.cl with
    | nil => rw [q] at z; cases z
    | cons K Ks => rw [q] at z; cases z; exact ⟨Ks.map wd ++ R, by rw [List.map_cons, List.cons_append, show wd [45] = ("-" : Str) by kernel_rfl]⟩
  · exact .inl e
noncomputable def grpT (w : List Nat) (cl : Cl) : List (List Nat) := [40] :: [63] :: ((w.map fun a => [a]) ++ sgGo [] cl.cl)
theorem grpT_map {R : List Str} : (grpT w cl).map wd ++ R = ("(" : Str) :: ("?" : Str) :: (w.map ch1 ++ ((sgGo [] cl.cl).map wd ++ R)) := by
  have e1 : wd [40] = ("(" : Str) := by kernel_rfl
  have e2 : wd [63] = ("?" : Str) := by kernel_rfl
  unfold grpT
  rw [List.map_cons, List.map_cons, List.map_append, sgl_map, e1, e2, List.cons_append, List.cons_append, List.append_assoc]
theorem grpT_flat (h : (sgGo [] cl.cl).flatten = cl.cl) : (grpT w cl).flatten = ([40, 63] ++ w) ++ cl.cl := by
  unfold grpT
  rw [List.flatten_cons, List.flatten_cons, List.flatten_append, sgl_flat, h]
  rfl
theorem grpT_kd (h7 : ∀ x ∈ w, x ∈ sevenL) (h : (sgGo [] cl.cl).all nopB = true) : (grpT w cl).all kdB = true := by
  unfold grpT
  rw [List.all_cons, List.all_cons, List.all_append, all_kd (sgl_nop h7), all_kd h]
  decide
theorem it_re {o : Out} {F : List Nat} (h : ItOk F o.it) : ∀ d ∈ [o.it] ++ o.re.map (fun s => sgI s o.held), ItOk F d := fun d hd => by
  rcases List.mem_append.mp hd with hd | hd
  · rw [List.mem_singleton.mp hd]; exact h
  · obtain ⟨s, _, rfl⟩ := List.mem_map.mp hd; exact .two
theorem rd_out {o : Out} (h7 : ∀ x ∈ w, x ∈ sevenL) (hc : cl ∈ closC) (hi : ∀ F : List Nat, m.text.length + 2 + w.length + cl.cl.length ≤ F.length → ItOk F o.it)
    (hg : ∀ {L0 : List Str} {Fl : List Nat} {pre R : List Str} {sn : List D} {fl' : Int} {sn' : List D}, L0 = pre ++ (("(" : Str) :: ("?" : Str) :: (w.map ch1 ++ ((sgGo [] cl.cl).map wd ++ R))) → lenL pre = m.text.length → W4 oct L0 Fl (o.re.map wd ++ R) o.held (sn ++ [convD oct Fl o.it]) fl' sn' → W4 oct L0 Fl (("(" : Str) :: ("?" : Str) :: (w.map ch1 ++ ((sgGo [] cl.cl).map wd ++ R))) m.held sn fl' sn')
    (hr : o.re.all nopB = true) : Rd oct anyR m ⟨m.text ++ (([40, 63] ++ w) ++ cl.cl), o.held, (m.want ++ [o.it]) ++ o.re.map fun s => sgI s o.held⟩ := by
  obtain ⟨c1, c2, c3, c4, c5, c6⟩ := clos_all cl hc
  refine ⟨grpT w cl, [o.it] ++ o.re.map (fun s => sgI s o.held), grpT_kd h7 c5, by rw [grpT_flat c4], List.append_assoc .., fun d hd F hF => it_re (hi F ?_) d hd, fun {L0 Fl pre R sn fl' sn'} _ hL hp w' => ?_⟩
  · refine Nat.le_trans (Nat.le_of_eq ?_) hF
    show _ = (m.text ++ (([40, 63] ++ w) ++ cl.cl)).length
    rw [List.length_append, List.length_append, List.length_append]
    show _ = _ + (2 + _ + _)
    lia
  · rw [grpT_map] at hL ⊢
    refine hg hL hp (sgn_all o.re _ hr ?_)
    rw [List.append_assoc]
    rw [List.map_append] at w'
    exact w'
theorem rd_why (h7 : ∀ x ∈ w, x ∈ sevenL) (hc : cl ∈ closC) {msg : Str} {j : Nat} (hm : msg.length ≤ 100) (hb : badAt (!oct) w 0 = some (j, msg)) (hj : j + 1 ≤ w.length) (hre : sgGo [] (w.drop (j + 1) ++ cl.cl) = ((w.drop (j + 1)).map fun a => [a]) ++ sgGo [] cl.cl) {o : Out}
    (ho : o = ⟨.tup [.str msg, .int (((m.text.length + 2 + (j + 1) : Nat) : Int)), .int m.held], m.held, sgGo [] (w.drop (j + 1) ++ cl.cl)⟩) :
    Rd oct anyR m ⟨m.text ++ (([40, 63] ++ w) ++ cl.cl), o.held, (m.want ++ [o.it]) ++ o.re.map fun s => sgI s o.held⟩ := by
  subst ho
  obtain ⟨c1, c2, c3, c4, c5, c6⟩ := clos_all cl hc
  have d7 : ∀ x ∈ w.drop (j + 1), x ∈ sevenL := fun x hx => h7 x (List.mem_of_mem_drop hx)
  refine rd_out (o := ⟨.tup [.str msg, .int (((m.text.length + 2 + (j + 1) : Nat) : Int)), .int m.held], m.held, sgGo [] (w.drop (j + 1) ++ cl.cl)⟩) h7 hc (fun F hF => .three hm (by lia)) (fun {L0 Fl pre R sn fl' sn'} hL hp w' => ?_) ?_
  · obtain ⟨f, L, e1, e2, e3⟩ := pf_bad (b := !oct) (w := w) (T := (sgGo [] cl.cl).map wd ++ R) h7 hb
    rw [e1] at hL ⊢
    have eL : (w.drop (j + 1)).map ch1 ++ ((sgGo [] cl.cl).map wd ++ R) = (sgGo [] (w.drop (j + 1) ++ cl.cl)).map wd ++ R := by rw [hre, List.map_append, sgl_map, List.append_assoc]
    rw [eL] at e3
    refine .er (p := m.text.length + 2 + (j + 1)) (pre2 := pre ++ (("(" : Str) :: ("?" : Str) :: (w.take (j + 1)).map ch1)) e2 e3 hm ?_ ?_ w'
    · have et : w.map ch1 ++ ((sgGo [] cl.cl).map wd ++ R) = (w.take (j + 1)).map ch1 ++ ((w.drop (j + 1)).map ch1 ++ ((sgGo [] cl.cl).map wd ++ R)) := by
        conv => rhs; rw [← List.append_assoc, ← List.map_append, List.take_append_drop]
      rw [hL, ← e1, ← eL, List.append_assoc, et]
      rfl
    · rw [lenL_app, hp]
      have : lenL (("(" : Str) :: ("?" : Str) :: (w.take (j + 1)).map ch1) = 2 + (j + 1) := by
        show 1 + (1 + lenL ((w.take (j + 1)).map ch1)) = _
        rw [lenL_ch, List.length_take]; lia
      rw [this]; lia
  · show (sgGo [] _).all nopB = true
    rw [hre, List.all_append, sgl_nop d7, c5]; rfl
theorem g_er (h7 : ∀ x ∈ w, x ∈ sevenL) (hc : cl ∈ closC) (hb : badAt (!oct) w 0 = none) (hw : w = [] → (ch1 (cl.cl.getD 0 0) != "-") = false) {msg : Str} {p k : Nat} {u re : List (List Nat)} (hm : msg.length ≤ 100) (hu : sgGo [] cl.cl = u ++ re) (hp : ∀ R, clP (orB w 0) cl R = .err msg k (re.map wd ++ R)) (hk : m.text.length + 2 + w.length + u.flatten.length = p + k) :
    Rd oct anyR m ⟨m.text ++ (([40, 63] ++ w) ++ cl.cl), m.held, (m.want ++ [.tup [.str msg, .int (p : Int), .int m.held]]) ++ re.map fun s => sgI s m.held⟩ := by
  obtain ⟨c1, c2, c3, c4, c5, c6⟩ := clos_all cl hc
  have c5' := c5
  rw [hu, List.all_append, Bool.and_eq_true] at c5'
  have ul : u.flatten.length ≤ cl.cl.length := by rw [← c4, hu, List.flatten_append, List.length_append]; lia
  refine rd_out (o := ⟨.tup [.str msg, .int (p : Int), .int m.held], m.held, re⟩) h7 hc (fun F hF => .three hm (by lia)) (fun {L0 Fl pre R sn fl' sn'} hL hp' w' => ?_) c5'.2
  obtain ⟨f, L, e1, e2, e3⟩ := pf_good (b := !oct) (w := w) (T := (sgGo [] cl.cl).map wd ++ R) h7 hb (dash_or hc hw)
  have hL2 := hL
  rw [hu, List.map_append, List.append_assoc, ← List.append_assoc (w.map ch1), ← List.cons_append, ← List.cons_append, ← List.append_assoc pre] at hL2
  rw [e1] at hL ⊢
  refine .er (p := p) (k := k) e2 (e3.trans ((close_all cl hc).trans (hp R))) hm hL2 ?_ w'
  rw [lenL_app, hp', ← hk]
  show _ + (1 + (1 + lenL (w.map ch1 ++ u.map wd))) = _
  rw [lenL_app, lenL_ch, lenL_wd]; lia
theorem g_ok (h7 : ∀ x ∈ w, x ∈ sevenL) (hc : cl ∈ closC) (hb : badAt (!oct) w 0 = none) (hw : w = [] → (ch1 (cl.cl.getD 0 0) != "-") = false) {res : D} {add : Option Int} {ans : Str} (hr : ResOk res ans) (hp : ∀ R, clP (orB w 0) cl R = .ok res add R) :
    Rd oct anyR m ⟨m.text ++ (([40, 63] ++ w) ++ cl.cl), nfl m.held add, (m.want ++ [.tup [.str ans, .int (nfl m.held add)]]) ++ ([] : List (List Nat)).map fun s => sgI s (nfl m.held add)⟩ := by
  refine rd_out (o := ⟨.tup [.str ans, .int (nfl m.held add)], nfl m.held add, []⟩) h7 hc (fun F hF => .two) (fun {L0 Fl pre R sn fl' sn'} hL hp' w' => ?_) rfl
  obtain ⟨f, L, e1, e2, e3⟩ := pf_good (b := !oct) (w := w) (T := (sgGo [] cl.cl).map wd ++ R) h7 hb (dash_or hc hw)
  have hL2 := hL
  rw [← List.append_assoc (w.map ch1), ← List.cons_append, ← List.cons_append, ← List.append_assoc pre] at hL2
  rw [e1] at hL ⊢
  exact .ok (e3.trans ((close_all cl hc).trans (hp R))) hr hL2 w'
theorem rd_good (h7 : ∀ x ∈ w, x ∈ sevenL) (hc : cl ∈ closC) (hoff : sm cl.off) (hfa : cl.fa.length ≤ 100) (hcl : 0 < cl.cl.length) (hb : badAt (!oct) w 0 = none) (hw : w = [] → (ch1 (cl.cl.getD 0 0) != "-") = false) (hy : neS kd.why = false) {o : Out} (ho : outC kd cl ah w m.text.length m.held = o) :
    Rd oct anyR m ⟨m.text ++ (([40, 63] ++ w) ++ cl.cl), o.held, (m.want ++ [o.it]) ++ o.re.map fun s => sgI s o.held⟩ := by
  obtain ⟨c1, c2, c3, c4, c5, c6⟩ := clos_all cl hc
  unfold outC at ho
  rw [if_neg (nfb' hy)] at ho
  cases q1 : neS cl.fa with
  | true =>
    rw [if_pos q1] at ho
    subst ho
    have z := g_er (oct := oct) (m := m) (w := w) (p := m.text.length + 2 + w.length + cl.pl.toNat) (k := kC cl) h7 hc hb hw hfa c1 (fun R => by unfold clP; rw [if_pos q1]) (by unfold kC; lia)
    rw [show ((m.text.length + 2 + w.length + cl.pl.toNat : Nat) : Int) = ((m.text.length + 2 + w.length : Nat) : Int) + cl.pl by lia] at z
    exact z
  | false =>
    have r0 := c6 q1
    rw [if_neg (nfb' q1)] at ho
    have q1' := nfb' q1
    cases q2 : (wd cl.cl == ")") with
    | true =>
      rw [if_pos q2] at ho
      subst ho
      rw [r0]
      exact g_ok (oct := oct) (m := m) (add := some (orB w 0)) h7 hc hb hw (.inl ⟨rfl, rfl⟩) (fun R => by unfold clP; rw [if_neg q1', if_pos q2])
    | false =>
      rw [if_neg (nfb' q2)] at ho
      have q2' := nfb' q2
      cases q3 : (Builtin.bitAnd (orB w 0) cl.off != 0) with
      | true =>
        rw [if_pos q3] at ho
        subst ho
        rw [r0]
        have z := g_er (oct := oct) (m := m) (w := w) (msg := M_tw) (p := m.text.length + 2 + w.length + cl.cl.length - 1) (k := 1) (u := sgGo [] cl.cl) (re := []) h7 hc hb hw (by decide +kernel) (by rw [List.append_nil]) (fun R => by unfold clP; rw [if_neg q1', if_neg q2', if_pos q3]; rfl) (by rw [c4]; lia)
        rw [show ((m.text.length + 2 + w.length + cl.cl.length - 1 : Nat) : Int) = ((m.text.length + 2 + w.length : Nat) : Int) + (cl.cl.length : Int) - 1 by lia] at z
        exact z
      | false =>
        rw [if_neg (nfb' q3)] at ho
        subst ho
        rw [r0]
        exact g_ok (oct := oct) (m := m) (add := none) h7 hc hb hw (.inr ⟨_, _, rfl, rfl, sm_or, hoff⟩) (fun R => by unfold clP; rw [if_neg q1', if_neg q2', if_neg (nfb' q3)])
theorem rd_grp (hk : kd ∈ kindsC oct) (hc : cl ∈ closC) (hp : pl ∈ plainC) : Rd oct anyR m (grpM kd cl ah pl m) := by
  obtain ⟨k1, k2, k3⟩ := kinds_all oct kd hk
  obtain ⟨d0, d1, d2, d3, d4⟩ := cl_all cl hc
  have ok := grp_ok (ah := ah) hk hc hp
  have wa := words_all oct ah kd hk pl hp
  unfold grpM
  dsimp only
  cases qy : neS kd.why with
  | true =>
    rw [if_pos qy] at wa
    obtain ⟨w1, w2⟩ := wa
    have ew : wrdC kd cl ah pl = if ah = true then kd.ty ++ pl else pl ++ kd.ty := by
      unfold wrdC
      dsimp only
      rw [if_neg]
      intro q
      have h1 := (Bool.and_eq_true_iff.mp q).1
      have h2 : neB (if ah = true then kd.ty ++ pl else pl ++ kd.ty) = false := by simpa using h1
      have h0 : (if ah = true then kd.ty ++ pl else pl ++ kd.ty) = [] := Classical.not_not.mp (of_decide_eq_false h2)
      cases ah with
      | true => have := (List.append_eq_nil_iff.mp h0).1; rw [this] at w2; exact absurd w2 (by decide)
      | false => have := (List.append_eq_nil_iff.mp h0).2; rw [this] at w2; exact absurd w2 (by decide)
    have h7 := ok.w7
    cases ah with
    | true =>
      have ew' : wrdC kd cl true pl = kd.ty ++ pl := ew
      have w1' : badAt (!oct) (kd.ty ++ pl) 0 = some (kd.ty.length - 1, kd.why) := w1
      rw [ew'] at h7 ⊢
      have e : kd.ty.length - 1 + 1 = kd.ty.length := by lia
      have hd : (kd.ty ++ pl).drop (kd.ty.length - 1 + 1) = pl := by rw [e, List.drop_left]
      refine rd_why (oct := oct) (m := m) (msg := kd.why) (j := kd.ty.length - 1) h7 hc k3 w1' (by rw [e, List.length_append]; lia) (by rw [hd]; exact pl_sg pl (.tail _ hp) cl hc) ?_
      unfold outC
      rw [if_pos qy, e]
      rfl
    | false =>
      have ew' : wrdC kd cl false pl = pl ++ kd.ty := ew
      have w1' : badAt (!oct) (pl ++ kd.ty) 0 = some ((pl ++ kd.ty).length - 1, kd.why) := w1
      rw [ew'] at h7 ⊢
      have e : (pl ++ kd.ty).length - 1 + 1 = (pl ++ kd.ty).length := by rw [List.length_append]; lia
      have hd : (pl ++ kd.ty).drop ((pl ++ kd.ty).length - 1 + 1) = [] := by rw [e, List.drop_length]
      refine rd_why (oct := oct) (m := m) (msg := kd.why) (j := (pl ++ kd.ty).length - 1) h7 hc k3 w1' (by rw [e]; exact Nat.le_refl _) (by rw [hd]; exact pl_sg [] (.head _) cl hc) ?_
      unfold outC
      rw [if_pos qy, e]
      rfl
  | false =>
    rw [if_neg (nfb' qy)] at wa
    refine rd_good (ah := ah) (kd := kd) ok.w7 hc ok.off d2 d0 ?_ ?_ qy rfl
    · unfold wrdC
      dsimp only
      generalize (if ah = true then kd.ty ++ pl else pl ++ kd.ty) = W at wa
      cases (!neB W && (ch1 (cl.cl.getD 0 0) != "-")) with
      | true => rw [if_pos rfl]; cases oct <;> decide +kernel
      | false => rw [if_neg Bool.false_ne_true]; exact wa
    · intro h
      unfold wrdC at h
      dsimp only at h
      cases q : (!neB (if ah = true then kd.ty ++ pl else pl ++ kd.ty) && (ch1 (cl.cl.getD 0 0) != "-")) with
      | true => rw [if_pos q] at h; cases h
      | false =>
        rw [if_neg (nfb' q)] at h
        rw [h] at q
        exact q
theorem rd_step {v b cc : Int} : Rd oct anyR m (stepM oct v b cc m) := by
  unfold stepM
  split
  · obtain ⟨_, _, _, _, h⟩ := sg_at b
    exact rd_sign h
  · obtain ⟨_, _, _, _, h1⟩ := kd_at oct b
    obtain ⟨_, _, _, _, h2⟩ := cl_at cc
    obtain ⟨_, _, _, _, h3⟩ := pl_at v
    exact rd_grp h1 h2 h3
theorem rd_run {ns : List Int} : ∀ (vs : List Int) (k : Nat) (m : MS), Rd oct anyR m (runM oct ns k vs m)
  | [], _, _ => rd_refl
  | v :: vs, k, m => rd_trans rd_step (rd_run vs (k + 1) _)
theorem brk_pf {q : Nat} (hq : ((q : Int) != 0) = true) (h4 : q < 4) : ∃ f L T, brkT.getD q [] = [40, 63] ++ T ∧ f :: L = T.map ch1 ∧ ((flagOf f).isSome = true ∨ f = "-") ∧ pfR (!oct) f L = .err (brkC.getD q "") 0 [] ∧ T.all (fun z => nopB [z]) = true ∧ (brkC.getD q "").length ≤ 100 := by
  have h0 : q ≠ 0 := fun e => by subst e; exact absurd hq (by decide)
  clear hq
  have : q = 1 ∨ q = 2 ∨ q = 3 := by lia
  clear h0 h4
  rcases this with rfl | rfl | rfl
  · exact ⟨"x", ["i"], [120, 105], rfl, by kernel_rfl, .inl (by kernel_rfl), by cases oct <;> kernel_rfl, by decide, by decide +kernel⟩
  · exact ⟨"i", ["-"], [105, 45], rfl, by kernel_rfl, .inl (by kernel_rfl), by cases oct <;> kernel_rfl, by decide, by decide +kernel⟩
  · exact ⟨"-", ["s"], [45, 115], rfl, by kernel_rfl, .inr rfl, by cases oct <;> kernel_rfl, by decide, by decide +kernel⟩
theorem rd_brk {q : Nat} (h4 : q < 4) : Rd oct (· = []) m (brkMS q m) := by
  unfold brkMS
  cases hq : ((q : Int) != 0) with
  | false => rw [if_neg Bool.false_ne_true]; exact rd_refl
  | true =>
    rw [if_pos rfl]
    obtain ⟨f, L, T, e1, e2, e3, e4, e5, e6⟩ := brk_pf (oct := oct) hq h4
    rw [e1]
    generalize brkC.getD q "" = msg at e4 e6
    have hm : ([40] :: [63] :: T.map fun a => [a]).map wd = ("(" : Str) :: ("?" : Str) :: (f :: L) := by
      rw [List.map_cons, List.map_cons, sgl_map, ← e2, show wd [40] = ("(" : Str) by kernel_rfl, show wd [63] = ("?" : Str) by kernel_rfl]
    have hf : ([40] :: [63] :: T.map fun a => [a]).flatten = [40, 63] ++ T := by
      rw [List.flatten_cons, List.flatten_cons, sgl_flat]; rfl
    refine ⟨[40] :: [63] :: T.map fun a => [a], [.tup [.str msg, .int ((m.text ++ ([40, 63] ++ T)).length : Int), .int m.held]], ?_, by rw [hf], rfl, fun d hd F hF => ?_, fun {L0 Fl pre R sn fl' sn'} hR hL hp w => ?_⟩
    · rw [List.all_cons, List.all_cons]
      have : (T.map fun a => [a]).all kdB = true := List.all_eq_true.mpr fun K hK => by
        obtain ⟨x, hx, rfl⟩ := List.mem_map.mp hK
        exact nop_kd (List.all_eq_true.mp e5 x hx)
      rw [this]; decide
    · rw [List.mem_singleton.mp hd]
      exact .three e6 hF
    · subst hR
      have hk : lenL L0 = (m.text ++ ([40, 63] ++ T)).length := by rw [hL, List.append_nil, lenL_app, lenL_wd, hf, hp, List.length_append (as := m.text)]
      rw [List.append_nil] at hL ⊢
      rw [hm] at hL ⊢
      have w2 : W4 oct L0 Fl [] m.held (sn ++ [.tup [wholeD msg (givS oct Fl) Fl (m.text ++ ([40, 63] ++ T)).length, .int m.held]]) fl' sn' := w
      exact .er (k := 0) (pre2 := L0) e3 e4 e6 (by rw [List.append_nil]) (by rw [hk]; rfl) w2
theorem step_pos {v b cc : Int} : m.text.length < (stepM oct v b cc m).text.length := by
  unfold stepM
  split
  · obtain ⟨_, _, _, _, h⟩ := sg_at b
    have := (by decide : ∀ s ∈ signC, 0 < s.length) _ h
    show _ < (m.text ++ sgAt b).length
    rw [List.length_append]; lia
  · unfold grpM
    dsimp only
    rw [List.length_append, List.length_append, List.length_append]
    show _ < _ + (2 + _ + _)
    lia
theorem run_len {ns : List Int} : ∀ (vs : List Int) (k : Nat) (m : MS), (runM oct ns k vs m).text.length ≤ m.text.length + 13 * vs.length ∧ (runM oct ns k vs m).want.length ≤ m.want.length + 12 * vs.length ∧ m.text.length + vs.length ≤ (runM oct ns k vs m).text.length
  | [], _, m => ⟨Nat.le_refl _, Nat.le_refl _, Nat.le_refl _⟩
  | v :: vs, k, m => by
    obtain ⟨a1, a2⟩ := step_len (oct := oct) (m := m) (v := v) (b := atN ns (k + 1)) (cc := atN ns (k + 2))
    have a3 := step_pos (oct := oct) (m := m) (v := v) (b := atN ns (k + 1)) (cc := atN ns (k + 2))
    obtain ⟨b1, b2, b3⟩ := run_len (ns := ns) vs (k + 1) (stepM oct v (atN ns (k + 1)) (atN ns (k + 2)) m)
    rw [List.length_cons]
    exact ⟨by show (runM oct ns (k + 1) vs _).text.length ≤ _; lia, by show (runM oct ns (k + 1) vs _).want.length ≤ _; lia, by show _ ≤ (runM oct ns (k + 1) vs _).text.length; lia⟩
theorem brk_len {q : Nat} (h4 : q < 4) : m.text.length ≤ (brkMS q m).text.length ∧ (brkMS q m).text.length ≤ m.text.length + 4 ∧ (brkMS q m).want.length ≤ m.want.length + 1 := by
  have hall : ∀ K ∈ brkT, K.length ≤ 4 := by decide
  have hsl := hall _ (List.mem_of_getElem? (getD_in (l := brkT) (d := []) h4).1)
  unfold brkMS
  split
  · refine ⟨?_, ?_, ?_⟩
    · show _ ≤ (m.text ++ _).length; rw [List.length_append]; lia
    · show (m.text ++ _).length ≤ _; rw [List.length_append]; lia
    · show (m.want ++ [_]).length ≤ _; rw [List.length_append]; exact Nat.le_refl _
  · exact ⟨Nat.le_refl _, Nat.le_add_right _ _, Nat.le_add_right _ _⟩
end
end Mine
namespace Mine
open PySem PySem.W PyProof.Rows PySem.Calls PySem.Spec
variable {c : Cx}
theorem kd_ok {K : List Nat} (h : kdB K = true) : IsTok (wd K) ∧ ∀ z ∈ K, z < 256 := by
  unfold kdB at h
  rw [Bool.and_eq_true, Bool.and_eq_true] at h
  exact ⟨tokB_ok h.1, fun y hy => of_decide_eq_true (List.all_eq_true.mp h.2.2 y hy)⟩
theorem law04 (hC : CxOk c) (hK : c.K = KK c) (hPr : c.prog = PRG) (hb : ∀ x : Str, x ≠ "__name__" → c.mb x = bootBuiltins x) (hc : c.calm = true) (ns : List Int) (hl : ns.length ≤ 63) : ∃ σ', Exs c SL 0 LB ⟨[(key "script", .d (.lst (ns.map .int)))], []⟩ (.ret (.d (.bool true))) σ' := by
  have G := gl4 hC hK hb
  obtain ⟨oct, ho⟩ : ∃ o, (ns.sum.fmod 2 == 1) = o := ⟨_, rfl⟩
  obtain ⟨q, hq0, h4⟩ := fmod_at (ns.sum.fdiv 2) 4 (by decide)
  have hq : (ns.sum.fdiv 2).fmod 4 = (q : Int) := hq0
  have nl : (numC ns).length ≤ 24 ∧ 0 < (numC ns).length := by
    unfold numC
    split
    · exact ⟨by decide, by decide⟩
    · rename_i h
      exact ⟨by rw [List.length_take]; lia, List.length_pos_iff.mpr h⟩
  with_reducible have a1 := pre_a hC hK G.toGL hc ns oct ho
  with_reducible have a2 := pre_b hC hK G.toGL hc oct ns.sum ns hl
  generalize numC ns = nn at nl a2
  with_reducible have a3 := pre_c (oct := oct) (total := ns.sum) (ns := nn) hC hK G hc nl.2 nl.1
  obtain ⟨r1, r2, r3⟩ := run_len (oct := oct) (ns := nn) nn 0 ⟨[], ns.sum.fmod 512, []⟩
  have rd := rd_trans (rd_run (oct := oct) (ns := nn) nn 0 ⟨[], ns.sum.fmod 512, []⟩) (rd_brk (q := q) h4)
  generalize runM oct nn 0 nn ⟨[], ns.sum.fmod 512, []⟩ = m9 at a3 r1 r2 r3 rd
  have r1' : m9.text.length ≤ 0 + 13 * nn.length := r1
  have r2' : m9.want.length ≤ 0 + 12 * nn.length := r2
  have r3' : 0 + nn.length ≤ m9.text.length := r3
  with_reducible have a4 := pre_e (oct := oct) (total := ns.sum) (ns := nn) (m := m9) hC hK G hc hq h4 (by lia) (by lia)
  obtain ⟨b1, b2, b3⟩ := brk_len (m := m9) h4
  generalize brkMS q m9 = m8 at a4 rd b1 b2 b3
  obtain ⟨Ts, add, t1, t2, t3, t4, t5⟩ := rd
  have t2' : m8.text = Ts.flatten := t2
  have t3' : m8.want = add := t3
  have hT : txt (Ts.map wd) = wd m8.text := by rw [t2']; exact txt_wd Ts
  have hN : ∀ s ∈ Ts.map wd, IsTok s := fun s hs => by
    obtain ⟨K, h1, rfl⟩ := List.mem_map.mp hs
    exact (kd_ok (List.all_eq_true.mp t1 K h1)).1
  have f256 : ∀ z ∈ m8.text, z < 256 := fun z hz => by
    rw [t2'] at hz
    obtain ⟨K, h1, h2⟩ := List.mem_flatten.mp hz
    exact (kd_ok (List.all_eq_true.mp t1 K h1)).2 z h2
  have eL : lenL (Ts.map wd) = m8.text.length := by rw [t2']; exact lenL_wd Ts
  have hLa : Lat (txt (Ts.map wd)) := fun z hz => f256 z (by rw [hT, wd_cps] at hz; exact hz)
  have w := t5 (L0 := Ts.map wd) (Fl := m8.text) (pre := []) (R := []) (sn := []) rfl (by rw [List.append_nil]; rfl) rfl .done
  rw [List.append_nil, List.nil_append, ← t3'] at w
  with_reducible have a5 := pre_t (oct := oct) (total := ns.sum) (ns := nn) (m := m8) hC hK G hc hN hT hLa (by lia) (by lia)
  have a6 := post04 (oct := oct) (L0 := Ts.map wd) (Fl := m8.text) (W := m8.want) hC hK hPr G hc (by lia) hN hT f256 (by lia) w (fun d hd => t4 d (by rw [← t3']; exact hd) _ (Nat.le_refl _)) (by lia)
  obtain ⟨σ', a6⟩ := a6
  refine ⟨σ', ?_⟩
  with_reducible refine exs_take (k := 10) a1 ?_
  have e18 : (LB.drop 10).drop 8 = LB.drop 18 := by rw [List.drop_drop]
  with_reducible refine exs_take (k := 8) a2 ?_
  rw [e18]
  with_reducible refine exs_take (k := 1) a3 ?_
  with_reducible refine exs_take (k := 2) a4 ?_
  with_reducible exact exs_take (k := 5) a5 a6
end Mine
namespace Mine
open PySem PySem.W PyProof.Rows PySem.Calls PySem.Spec
theorem top_b {p : Program} {loose : List Str} {mean : ExcName → Option Value} {mg mb : Str → Option Value} {h : Heap} (T : Top p loose mean mg mb h) : ∀ x : Str, x ≠ "__name__" → mb x = bootBuiltins x := T.builtins
theorem goodTrue {c : ClaimW} {cl : Str → Option Addr} {mean : ExcName → Option Value} {args : List WData} {s₁ s' : Shared} (hr : ∀ cls, c.raises args cls = false) (hp : c.post args (.bool true) args = true)
    (hk : ∀ b o, s₁.heap.get? b = some o → s'.heap.get? b = some o) (ho : s'.os = s₁.os) (hg : s'.gens = #[]) : GoodW c cl mean args s₁ (.ok (.ret (.bool true))) s' :=
  ⟨.inl ⟨_, .bool true, [], rfl, hr, .bool true, hp, fun _ => ⟨List.nodup_nil, fun _ h => nomatch h⟩⟩, hk, ho, hg⟩
end Mine
open PySem PySem.W PyProof.Rows
set_option maxHeartbeats 8000000 in
theorem PySem.Challenge.cw_kq0015_04_holds : PySem.Challenge.rw_kq0015_04.Holds := by
  w_on
  refine Mine.hlaw fun said => holds_open (r := PySem.Challenge.rw_kq0015_04.row) (q := Mine.HV) (loose := Mine.HL) (Xt := Mine.HXt) (XP := XL Mine.HV Mine.HLV) (Yf := (kHook Mine.HK Mine.HA Mine.hA).obs) (Ya := (kHook Mine.HK Mine.HA Mine.hA).val) (YP := (kHook Mine.HK Mine.HA Mine.hA).says) (N := 3000) Mine.hleft (kHook Mine.HK Mine.HA Mine.hA).of (kHook Mine.HK Mine.HA Mine.hA).keeps (fun s e => xl_of s (Bool.and_eq_true_iff.mp e).1) XL.keeps rfl rfl rfl (fun s e => recFacts_of (Bool.and_eq_true_iff.mp e).2) rfl said (by kernel_rfl) ⟨rfl, rfl, rfl, rfl, rfl, by kernel_rfl⟩ ⟨[.list []], by kernel_rfl, by kernel_rfl⟩ ?_
  k_fill
  intro w s₀ s₁ mg mb G Y fa o pm cd doc dV kV ho hd hcd hD hmg hg args vals as hpre hlay hrd hwl hlo
  have KX := kIn_of Y
  have X := (Ground.X G).1
  have V := (Ground.X G).2
  refine Ground.open G ?_
  intro T B D TE TW
  try (refine guard_noD D (by decide +kernel) ?_; clear D)
  obtain ⟨_, _, M⟩ := bmod_of_top T
  have TA := at_of_top T
  try (obtain ⟨_, _, he, B0⟩ := based_of_top T rfl hmg ho hd; have he' : cd = _ := he; subst he'; clear he)
  clear hmg
  wrow_args hpre hlay hrd hwl hlo
  all_goals (
    first | refine callC_kw (enter_call ?_) | refine enter_call ?_ | refine callC_kw (enter_callW ?_) | refine enter_callW ?_ | w_how
    w_top on
    try refine codeAny_mono ?_ (fun _ _ g => GoodW.toG g)
    have K0 := below_caller (Top.heap T)
    w_call any ho hd hcd hD T F
    clear hd TA
    k_drop
    skip)
  refine Mine.law_head (by assumption) (by assumption) (by assumption) (by assumption) (by assumption) Mine.SL (by kernel_rfl) (by kernel_rfl) (by kernel_rfl) (by kernel_rfl) (by kernel_rfl) (by kernel_rfl) (fun c e1 e2 e3 e4 e5 e6 e7 hC => ?_) (fun s' k1 k2 k3 => ?_)
  · refine Mine.law04 hC (by rw [e3]; show _ = Mine.HK c.w.params; rw [e2]) e1 (fun x hx => ?_) e7 _ (by lia)
    rw [e6]
    exact Mine.top_b (by assumption) x hx
  · exact Mine.goodTrue (fun _ => rfl) (by kernel_rfl) k1 k2 (k3.trans (by assumption))
